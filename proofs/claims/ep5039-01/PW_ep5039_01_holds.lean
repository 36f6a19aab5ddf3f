import PyProof.Rows.All
import Wide.All
import OpenK.AllK
import Wide.FinOn
import PySem.Challenge.RW_ep5039_01
open PySem PySem.W PyProof.Rows
set_option Elab.async false
set_option maxRecDepth 100000
section
namespace Mine
set_option maxRecDepth 100000 in
set_option maxHeartbeats 8000000 in
open_top hd for PySem.Challenge.rw_ep5039_01
end Mine
end
section
namespace Mine

/-- the cache: its six slots stand in the order of their names -/
abbrev lru (cd dD k : Addr) (n : Int) (tn : Tok) (cap thr : Value) : Obj :=
  { cls := .ref 178, dict := some cd, slots := #[some (.int n tn), some (.ref dD), some (.ref k), some cap, some .none, some thr] }

/-- a row of the cache: the tuple (key, value, [stamp]) -/
structure Row where
  k : Int
  kt : Tok
  v : Value
  st : Int
  tt : Tok
  ta : Addr
  la : Addr
  n1 : Nat
  n2 : Nat
abbrev rowTup (r : Row) : Obj := { cls := .type "tuple", data := .seq #[.int r.k r.kt, r.v, .ref r.la] r.n1 }
abbrev rowLst (r : Row) : Obj := listOf #[.int r.st r.tt] r.n2
def rowLed (r : Row) : List (Addr × Obj) := [(r.ta, rowTup r), (r.la, rowLst r)]
def rowsLed (rs : List Row) : List (Addr × Obj) := rs.flatMap rowLed
def rowsKv (rs : List Row) : List (Int × Value) := rs.map fun r => (r.k, .ref r.ta)

theorem news_sub {h₀ h : Heap} {L : Addr} {l l' : List (Addr × Obj)} (N : News h₀ L h l) (hs : ∀ p ∈ l', p ∈ l) : News h₀ L h l' := fun p hp => N p (hs p hp)
end Mine
end
section
namespace Mine
section
variable {prog : Program} {w : World} {A₀ A : Around} {s : Shared} {base h₀ : Heap} {env : Env} {L : Addr} {m : Str → Option Value} {news : List (Addr × Obj)} {K : Frag} {p : Program} {loose : List Str} {mean : ExcName → Option Value} {mg mb : Str → Option Value}
    {R : Result → Shared → Prop} {name qual : Str} {params : Arguments} {body : List Stmt} {scope : Scope} {dV kV doc pm cdv ct oc : Value} {an od : Option Addr} {osl : Array (Option Value)} {f : Addr} {args : Args} {binds : List (Str × Value)}
/-- a call from the law's own frame (its names may live in cells) of a def that catches what flies out of a callee: the frame's own slots may turn -/
theorem enterS (B : Below A₀ base [] h₀) (F : Fr h₀ L s.heap m) (X₀ : K.In h₀) (N : News h₀ L s.heap news) (T : Top p loose mean mg mb h₀) (hA : A.frames = some [env]) (hf : env.frame = some L) (hke : env.scope.kind = .function)
    (ho : K.lookup f = some ⟨oc, od, .func (fnOf name qual params body scope dV kV doc pm an cdv ct), osl⟩) (hcd : codeIn K cdv qual = true) (hroom : A.depth < recursionLimit)
    (hbind : BindsTo s (fnOf name qual params body scope dV kV doc pm an cdv ct) args binds) (hloc : ∀ y ∈ binds, scope.names.lookup y.1 = some .local)
    (h : ∀ g L' h₁, Fr h₀ L g m → Fr g L' h₁ (fun y => binds.reverse.lookup y) → News g L' h₁ news → Below A base [env] g → K.In g → Top p loose mean mg mb g → KtsDicts ([env].filterMap (·.frame)) g →
      wpAny (model prog w) (A.deeper (envOf qual scope L' f cdv)) (execs body (envOf qual scope L' f cdv))
        (fun fl s' => LeaveS0 ([env].filterMap (·.frame)) h₀ L m g R (match fl with | .ret v => v | _ => .none) s')
        (fun e s' => wpAny (model prog w) (A.deeper (envOf qual scope L' f cdv)) (leaving (envOf qual scope L' f cdv) e) (fun _ s'' => R (.error e) s'') (fun e' s'' => R (.error e') s'') s')
        { s with heap := h₁, toks := s.toks + binds.length })
    (hco : scope.isCoroutine = false) (hgen : scope.isGenerator = false) (hk : scope.kind = .function)
    (hcell : ∀ x ∈ scope.names, x.2 ≠ .cell) : codeAny (model prog w) A (.call (.ref f) args) R s := by
  obtain ⟨FG, BG, st, _⟩ := groundX (R := R) B F N hA hf hke
  have only : [env].filterMap (·.frame) = [L] := by simp [hf]
  obtain ⟨oL, es, ep, hL, hLd, hLk, hLf⟩ := FG.ns
  refine codeAny_call_def (fd := fnOf name qual params body scope dV kV doc pm an cdv ct) (body := body) (binds := binds) hroom ((X₀.keeps F.keep) _ _ ho) rfl (T.nolimit.keeps F.keep) (codeRec_of (X₀.keeps F.keep) hcd) rfl hbind hcell hloc (fun h₁ hns hk₁ => ?_) hco hgen hk
  refine wpAny_mono (h _ s.heap.objs.size h₁ FG ⟨hns, fun b o e => hk₁ b o (of_hideAll _ e), Nat.le_of_eq (hideAll_size _ _)⟩
    (fun q hq => ⟨hk₁ _ _ (N q hq).1, Nat.ne_of_lt (Heap.lt_size (N q hq).1), hideAll_none _ (List.mem_map_of_mem hq)⟩) BG (X₀.keeps st) (T.keeps st) (fun b hb => ?_)) (fun fl s' hl => ?_) fun _ _ y => y
  · rw [only] at hb
    obtain rfl := List.mem_singleton.mp hb
    exact ⟨oL, es, ep, hL, hLd⟩
  · rw [only] at hl
    obtain ⟨g', L', m', news', T', F', N', k⟩ := hl
    have nL₀ : h₀.get? L = none := kts_self F
    obtain ⟨sl, hs⟩ := T'.up hL
    have old : ∀ b o, h₀.get? b = some o → s'.heap.get? b = some o := fun b o e =>
      F'.keep b o (T'.other b o (st b o e) fun q => by
        obtain rfl := List.mem_singleton.mp q
        rw [nL₀] at e; cases e)
    have newL : Heap.Ns s'.heap L m := ⟨_, es, ep, F'.keep _ _ hs, hLd, hLk, hLf⟩
    refine k ⟨newL, old, F.above⟩ fun q hq => ⟨(N' q hq).1, fun eq => ?_, ?_⟩
    · have z := (N' q hq).2.2
      rw [eq, hs] at z; cases z
    · cases e : h₀.get? q.1 with
      | none => rfl
      | some o =>
        obtain ⟨sl', hs'⟩ := T'.up (st _ _ e)
        have z := (N' q hq).2.2
        rw [hs'] at z; cases z

theorem x_del_miss {w : World} {prog : Program} {A : Around} {E : Value → Shared → Prop} {s : Shared} {h₀ : Heap} {L d : Addr} {news : List (Addr × Obj)} {o : Obj} {kvs : List (Int × Value)} {k : Int} {t : Tok} {Q : Unit → Shared → Prop}
    (N : News h₀ L s.heap news) (hp : (d, o) ∈ news) (hd : o.IsDictOf (PySem.intKind prog w) kvs) (lo : (d == sysModules) = false) (hh : A.handled = none) (hl : valueAt kvs k = none)
    (h : ∀ h' e, Heap.NewExc s.heap h' e "KeyError" → E (.ref e) { s with heap := h', toks := s.toks + 1 }) : wpAny (model prog w) A (delItem (.ref d) (.int k t)) Q E s := by
  have hD := kda_dict N hp hd
  unfold delItem
  try with_reducible refine wpAny_holding ?_
  refine wpAny_bind (wpAny_sequenceKey hD.typeIs (by decide) ?_)
  refine wpAny_bind (wpAny_callSpecial?_slot (name := Str.ofString "__delitem__") hD.typeIs PySem.F.slot_dict_delitem
    (call_meetsIn PySem.F.slot_dict_delitem hD.typeIs PySem.F.entry_dict_delitem (PySem.F.args_dict_delitem_2 _ _) (meets_dict_delitem_missing (PySem.intKind prog w) d (intKind_is _ _ _ _) lo) ⟨hh, kvs, hD, hl, fun h' e x => ?_⟩))
  exact h h' e x
end
end Mine
end
section
namespace Mine
/-- the lock's own dict -/
abbrev lockD (P : Params) (th : Tok) (b : Bool) : Obj := dictOf [⟨PyData.keyHash P (Str.ofString "held"), .str (Str.ofString "held") th, .bool b⟩] 1
theorem allLt_ne {D x : Addr} : ∀ {T : List (Addr × Obj)}, AllLt D T → @LE.le Nat _ D x → ∀ p ∈ T, p.1 ≠ x
  | [], _, _, _, h => nomatch h
  | q :: r, h, hx, p, hp => by
    rcases List.mem_cons.mp hp with rfl | hp
    · have := h.1
      exact Nat.ne_of_lt (Nat.lt_of_lt_of_le this hx)
    · exact allLt_ne h.2 hx p hp
end Mine
end
section
namespace Mine
open PySem.AutoSeq1 (wpAny_loadPart')
theorem lt_loop (l b : Addr) (x y : Int) (t u : Tok) (n k : Nat) :
    Meets (Builtin.«list.__eq__.loop» ⟨[.ref l, .ref b, rawInt 0, rawInt 0], []⟩)
      (fun _ R s => s.heap.get? l = some (listOf #[.int x t] n) ∧ s.heap.get? b = some (listOf #[.int y u] k) ∧
        R (.ok (.ret (.bool (decide (x < y))))) s) := by
  intro prog w A R s h
  obtain ⟨hp, g, d, tk, os⟩ := s; obtain ⟨hl, hb, h⟩ := h
  wp_walk using wpAny_loadPart' hl, wpAny_loadPart' hb
  show wpAny _ _ (eqBool (.int x t) (.int y u)) _ _ _
  refine wpAny_eqBool_int ?_
  by_cases e : x = y
  · subst e
    simp only [beq_self_eq_true, if_true]
    wp_walk
    refine ⟨plainId_quiet PySem.MeetsSeq3.plain_eq_loop _, codeAny_builtin PySem.MeetsSeq3.entry_eq_loop ?_⟩
    rw [Around.under_plainId PySem.MeetsSeq3.plain_eq_loop _]
    wp_walk using wpAny_loadPart' hl, wpAny_loadPart' hb
    have h' : R (.ok (.ret (.bool false))) { heap := hp, gens := g, drawn := d, toks := tk, os := os } := by simpa using h
    exact h'
  · have e' : (x == y) = false := by simpa using e
    rw [e']
    simp only [Bool.false_eq_true, if_false]
    refine wpAny_bind (listItems_at hl rfl (wpAny_bind (listItems_at hb rfl ?_)))
    show wpAny _ _ (richCompare .Lt (.int x t) (.int y u) >>= fun r => ret r) _ _ _
    refine wpAny_bind (PyProof.Rows.lt_int (w := w) ?_)
    exact wpAny_pure h

theorem lt_meets (l b : Addr) (x y : Int) (t u : Tok) (n k : Nat) :
    Meets (Builtin.«list.__lt__» ⟨[.ref l, .ref b], []⟩)
      (fun _ R s => s.heap.get? l = some (listOf #[.int x t] n) ∧ s.heap.get? b = some (listOf #[.int y u] k) ∧
        R (.ok (.ret (.bool (decide (x < y))))) s) := by
  intro prog w A R s h
  obtain ⟨hp, g, d, tk, os⟩ := s; obtain ⟨hl, hb, h⟩ := h
  have f3 := PySem.AutoSeq1.sub_list_list
  wp_walk using wpAny_loadPart' hl, wpAny_loadPart' hb
  refine ⟨plainId_quiet PySem.MeetsSeq3.plain_eq_loop _, codeAny_builtin PySem.MeetsSeq3.entry_eq_loop ?_⟩
  rw [Around.under_plainId PySem.MeetsSeq3.plain_eq_loop _]
  exact lt_loop l b x y t u n k prog w A R _ ⟨hl, hb, h⟩

theorem lt_lists {prog : Program} {w : World} {A : Around} {E : Value → Shared → Prop} {s : Shared} {Q : Value → Shared → Prop} {l b : Addr} {x y : Int} {t u : Tok} {n k : Nat}
    (hl : s.heap.get? l = some (listOf #[.int x t] n)) (hb : s.heap.get? b = some (listOf #[.int y u] k)) (h : Q (.bool (decide (x < y))) s) :
    wpAny (model prog w) A (call (.builtin "list.__lt__") [.ref l, .ref b]) Q E s :=
  call_meets PySem.F.slot_list_lt ⟨_, hl, rfl⟩ PySem.F.entry_list_lt (PySem.F.args_list_lt_2 _ _) (lt_meets l b x y t u n k) ⟨hl, hb, h⟩

theorem one_lt {prog : Program} {w : World} {A : Around} {E : Value → Shared → Prop} {s : Shared} {Q : Bool → Shared → Prop} {l b : Addr} {x y : Int} {t u : Tok} {n k : Nat}
    (hu : A.units < cLine) (hl : s.heap.get? l = some (listOf #[.int x t] n)) (hb : s.heap.get? b = some (listOf #[.int y u] k)) (h : Q (decide (x < y)) s) :
    wpAny (model prog w) A (keyLt' oneType' (.ref l) (.ref b)) Q E s := by
  rw [keyLt'_oneType, oneLt'_eq]
  simp only [if_true]
  refine wpAny_bind (wpAny_cRoomFor hu ?_)
  refine wpAny_bind (wpAny_callSpecialIfBound?_slot (T := "list") ⟨_, hl, rfl⟩ PySem.F.slot_list_lt (lt_lists hl hb ?_))
  exact wpAny_truthy_bool h
end Mine
end
section
namespace Mine
/-- run a tree of questions by a fixed answer, the places kept below n -/
def runO {α : Type} (n : Nat) (c : Nat → Nat → Bool) : KasT α → Option α
  | .ret a => some a
  | .ask i j k => if i < n ∧ j < n then runO n c (k (c i j)) else none
theorem runO_wp {α : Type} {n : Nat} {c : Nat → Nat → Bool} {cmp : Nat → Nat → (Bool → Shared → Prop) → Shared → Prop} {Q : α → Shared → Prop} {s : Shared}
    (hc : ∀ i j C, i < n → j < n → C (c i j) s → cmp i j C s) : ∀ {T : KasT α} {a : α}, runO n c T = some a → Q a s → T.kasWp cmp Q s
  | .ret _, _, e, h => by cases e; exact h
  | .ask i j k, a, e, h => by
    unfold runO at e
    split at e
    · rename_i hij
      exact hc i j _ hij.1 hij.2 (runO_wp hc e h)
    · cases e
theorem runO_congr {α : Type} {n : Nat} {c c' : Nat → Nat → Bool} (hc : ∀ i j, i < n → j < n → c i j = c' i j) : ∀ T : KasT α, runO n c T = runO n c' T
  | .ret _ => rfl
  | .ask i j k => by
    unfold runO
    split
    · rename_i hij
      rw [hc i j hij.1 hij.2]
      exact runO_congr hc _
    · rfl
def ins (x : Nat) : List Nat → List (List Nat)
  | [] => [[x]]
  | y :: l => (x :: y :: l) :: (ins x l).map (y :: ·)
def prm : List Nat → List (List Nat)
  | [] => [[]]
  | x :: l => (prm l).flatMap (ins x)
theorem mem_ins (x : Nat) : ∀ a b : List Nat, a ++ x :: b ∈ ins x (a ++ b)
  | [], [] => by simp [ins]
  | [], y :: b => by simp [ins]
  | y :: a, b => by
    simp only [List.cons_append, ins, List.mem_cons, List.mem_map]
    exact .inr ⟨_, mem_ins x a b, rfl⟩
theorem mem_prm : ∀ {l₀ l : List Nat}, l.Perm l₀ → l ∈ prm l₀
  | [], l, h => by simp [prm, h.eq_nil]
  | x :: l₁, l, h => by
    obtain ⟨a, b, rfl⟩ := List.append_of_mem (h.mem_iff.mpr (List.mem_cons_self ..))
    have h' : (a ++ b).Perm l₁ := (List.perm_middle.symm.trans h).cons_inv
    simp only [prm, List.mem_flatMap]
    exact ⟨_, mem_prm h', mem_ins x a b⟩
/-- the tree's answer is right for the order that the ranks rl say -/
def goodRank (n : Nat) (rl : List Nat) : Bool :=
  match runO n (fun i j => Nat.blt (rl.getD i 0) (rl.getD j 0)) (kas_sort n) with
  | some p => p.toList.map (fun i => rl.getD i 0) == List.range n && p.toList.all (· < n)
  | none => false
theorem good2 : (prm (List.range 2)).all (goodRank 2) = true := by decide +kernel
theorem good3 : (prm (List.range 3)).all (goodRank 3) = true := by decide +kernel
theorem good4 : (prm (List.range 4)).all (goodRank 4) = true := by decide +kernel
theorem good5 : (prm (List.range 5)).all (goodRank 5) = true := by decide +kernel
theorem all_cut {α : Type} {p : α → Bool} {l : List α} (n : Nat) (h1 : (l.take n).all p = true) (h2 : (l.drop n).all p = true) : l.all p = true := by
  rw [← List.take_append_drop n l, List.all_append, h1, h2]; rfl
theorem good6a : ((prm (List.range 6)).take 120).all (goodRank 6) = true := by decide +kernel
theorem good6b : (((prm (List.range 6)).drop 120).take 120).all (goodRank 6) = true := by decide +kernel
theorem good6c : ((((prm (List.range 6)).drop 120).drop 120).take 120).all (goodRank 6) = true := by decide +kernel
theorem good6d : (((((prm (List.range 6)).drop 120).drop 120).drop 120).take 120).all (goodRank 6) = true := by decide +kernel
theorem good6e : ((((((prm (List.range 6)).drop 120).drop 120).drop 120).drop 120).take 120).all (goodRank 6) = true := by decide +kernel
theorem good6f : ((((((prm (List.range 6)).drop 120).drop 120).drop 120).drop 120).drop 120).all (goodRank 6) = true := by decide +kernel
theorem good6 : (prm (List.range 6)).all (goodRank 6) = true := all_cut 120 good6a (all_cut 120 good6b (all_cut 120 good6c (all_cut 120 good6d (all_cut 120 good6e good6f))))

theorem good (n : Nat) (h2 : 2 ≤ n) (h6 : n ≤ 6) : ∀ rl ∈ prm (List.range n), goodRank n rl = true := by
  have : n = 2 ∨ n = 3 ∨ n = 4 ∨ n = 5 ∨ n = 6 := by omega
  rcases this with rfl | rfl | rfl | rfl | rfl
  · exact List.all_eq_true.mp good2
  · exact List.all_eq_true.mp good3
  · exact List.all_eq_true.mp good4
  · exact List.all_eq_true.mp good5
  · exact List.all_eq_true.mp good6

/-- how many of the first n stand below -/
def rank (n : Nat) (f : Nat → Int) (i : Nat) : Nat := ((List.range n).filter fun j => decide (f j < f i)).length
theorem rank_lt {n : Nat} {f : Nat → Int} {i j : Nat} (hi : i < n) (h : f i < f j) : rank n f i < rank n f j := by
  unfold rank
  have hsub : ∀ x ∈ List.range n, (fun y => decide (f y < f i)) x = true → (fun y => decide (f y < f j)) x = true := by
    intro x _ hx
    simp only [decide_eq_true_eq] at hx ⊢
    omega
  rw [← List.countP_eq_length_filter, ← List.countP_eq_length_filter]
  have key : ∀ l : List Nat, i ∈ l → l.countP (fun y => decide (f y < f i)) < l.countP (fun y => decide (f y < f j)) := by
    intro l hl
    induction l with
    | nil => cases hl
    | cons x r ih =>
      have mono : r.countP (fun y => decide (f y < f i)) ≤ r.countP (fun y => decide (f y < f j)) :=
        List.countP_mono_left fun y _ hy => by simp only [decide_eq_true_eq] at hy ⊢; omega
      rw [List.countP_cons, List.countP_cons]
      rcases List.mem_cons.mp hl with rfl | hl
      · have e1 : decide (f i < f i) = false := by simp
        have e2 : decide (f i < f j) = true := by simpa using h
        rw [e1, e2]
        simp only [Bool.false_eq_true, if_false, if_true]
        omega
      · have := ih hl
        split <;> split <;> rename_i a b <;> simp only [decide_eq_true_eq] at a b <;> omega
  exact key _ (List.mem_range.mpr hi)
theorem rank_iff {n : Nat} {f : Nat → Int} {i j : Nat} (hi : i < n) (hj : j < n) : f i < f j ↔ rank n f i < rank n f j := by
  constructor
  · exact rank_lt hi
  · intro h
    rcases Int.lt_trichotomy (f i) (f j) with a | a | a
    · exact a
    · unfold rank at h; rw [a] at h; exact absurd h (Nat.lt_irrefl _)
    · exact absurd (rank_lt hj a) (by omega)
theorem rank_bound {n : Nat} {f : Nat → Int} {i : Nat} (hi : i < n) : rank n f i < n := by
  unfold rank
  have h1 : ((List.range n).filter fun j => decide (f j < f i)).length < (List.range n).length := by
    rw [← List.countP_eq_length_filter]
    refine Nat.lt_of_le_of_ne List.countP_le_length fun e => ?_
    have := List.countP_eq_length.mp e i (List.mem_range.mpr hi)
    simp at this
  simpa using h1

theorem perm_range {l : List Nat} {n : Nat} (hnd : l.Nodup) (hb : ∀ x ∈ l, x < n) (hl : n ≤ l.length) : l.Perm (List.range n) := by
  refine (List.perm_ext_iff_of_nodup hnd List.nodup_range).mpr fun x => ⟨fun h => List.mem_range.mpr (hb x h), fun h => ?_⟩
  by_cases hx : x ∈ l
  · exact hx
  · have h1 : (x :: l).Nodup := List.nodup_cons.mpr ⟨hx, hnd⟩
    have h2 := List.Nodup.length_le_of_subset h1 (l₂ := List.range n) fun y hy => by
      rcases List.mem_cons.mp hy with rfl | hy
      · exact h
      · exact List.mem_range.mpr (hb y hy)
    simp at h2
    omega
theorem ranks_perm {n : Nat} {f : Nat → Int} (hinj : ∀ i j, i < n → j < n → f i = f j → i = j) : ((List.range n).map (rank n f)).Perm (List.range n) := by
  have hnd : ((List.range n).map (rank n f)).Nodup := by
    refine List.Pairwise.map _ (R := fun a b => a < n ∧ b < n ∧ a ≠ b) (fun a b h e => ?_) ?_
    · obtain ⟨ha, hb, hne⟩ := h
      rcases Int.lt_trichotomy (f a) (f b) with q | q | q
      · have := (rank_iff ha hb).mp q; omega
      · exact hne (hinj a b ha hb q)
      · have := (rank_iff hb ha).mp q; omega
    · refine (List.nodup_range (n := n)).imp_of_mem fun {a b} ha hb hne => ⟨List.mem_range.mp ha, List.mem_range.mp hb, hne⟩
  refine perm_range hnd (fun x hx => ?_) (by simp)
  obtain ⟨i, hi, rfl⟩ := List.mem_map.mp hx
  exact rank_bound (List.mem_range.mp hi)

theorem sort_right (n : Nat) (h2 : 2 ≤ n) (h6 : n ≤ 6) (f : Nat → Int) (hinj : ∀ i j, i < n → j < n → f i = f j → i = j) :
    ∃ p : Array Nat, runO n (fun i j => decide (f i < f j)) (kas_sort n) = some p ∧ p.toList.Perm (List.range n) ∧ p.toList.Pairwise (fun i j => f i < f j) := by
  have hg := good n h2 h6 _ (mem_prm (ranks_perm hinj))
  have hget : ∀ i, i < n → ((List.range n).map (rank n f)).getD i 0 = rank n f i := by
    intro i hi
    simp [List.getD, hi]
  have hrun : runO n (fun i j => Nat.blt (((List.range n).map (rank n f)).getD i 0) (((List.range n).map (rank n f)).getD j 0)) (kas_sort n) = runO n (fun i j => decide (f i < f j)) (kas_sort n) := by
    refine runO_congr (fun i j hi hj => ?_) _
    rw [hget i hi, hget j hj, Bool.eq_iff_iff, Nat.blt_eq, decide_eq_true_eq]
    exact (rank_iff hi hj).symm
  unfold goodRank at hg
  rw [hrun] at hg
  cases hr : runO n (fun i j => decide (f i < f j)) (kas_sort n) with
  | none => rw [hr] at hg; cases hg
  | some p =>
    rw [hr] at hg
    simp only [Bool.and_eq_true, beq_iff_eq, List.all_eq_true, decide_eq_true_eq] at hg
    obtain ⟨hm, hb⟩ := hg
    have hm' : p.toList.map (rank n f) = List.range n := by
      rw [← hm]
      exact List.map_congr_left fun i hi => (hget i (hb i hi)).symm
    refine ⟨p, rfl, ?_, ?_⟩
    · have hnd : p.toList.Nodup := by
        have : (p.toList.map (rank n f)).Nodup := hm' ▸ List.nodup_range
        exact List.Pairwise.of_map _ (fun a b h e => h (by rw [e])) this
      refine perm_range hnd hb ?_
      have : (p.toList.map (rank n f)).length = n := by rw [hm']; simp
      simp at this ⊢
      omega
    · have hs : (p.toList.map (rank n f)).Pairwise (· < ·) := hm' ▸ List.pairwise_lt_range
      rw [List.pairwise_map] at hs
      exact hs.imp_of_mem fun {a b} ha hb' h => (rank_iff (hb a ha) (hb b hb')).mpr h
end Mine
end
section
namespace Mine
section
variable {prog : Program} {w : World} {A : Around} {E : Value → Shared → Prop} {s : Shared} {h₀ : Heap} {L a kS : Addr} {m : Str → Option Value} {news base : List (Addr × Obj)} {f : Value}

abbrev tas (rs : List Row) : List Value := rs.map fun r => .ref r.ta
abbrev las (rs : List Row) : List Value := rs.map fun r => .ref r.la

/-- what a key's call must do: hand back the row's list and keep the ledger -/
def Turns (prog : Program) (w : World) (A : Around) (h₀ : Heap) (L : Addr) (m : Str → Option Value) (news : List (Addr × Obj)) (f : Value) (s : Shared) (r : Row) : Prop :=
  ∀ (l : List (Addr × Obj)) (h : Heap) (tk : Nat), Fr h₀ L h m → News h₀ L h l → (∀ p ∈ news, p ∈ l) →
    wpAny (model prog w) A (call f [.ref r.ta]) (fun v s'' => v = .ref r.la ∧ ∃ h' tk', s'' = { s with heap := h', toks := tk' } ∧ Fr h₀ L h' m ∧ News h₀ L h' l) (fun _ _ => False) { s with heap := h, toks := tk }

theorem keys_rows {Fin : List Value → Nat → Shared → Prop} {all : List Row} (hb : ∀ p ∈ base, p.1 ≠ kS) (hn : ∀ p ∈ news, p ∈ base)
    (fin : ∀ e h tk, Fr h₀ L h m → News h₀ L h ((kS, seqObj "list" (List.toArray (las all)) e) :: base) → Fin (las all) e { s with heap := h, toks := tk }) :
    ∀ (rest done : List Row) (e : Nat) (h : Heap) (tk : Nat), done ++ rest = all → (∀ r ∈ rest, Turns prog w A h₀ L m news f s r) → Fr h₀ L h m → News h₀ L h ((kS, seqObj "list" (List.toArray (las done)) e) :: base) →
      KatKeys prog w A h₀ L m kS f Fin (tas rest) (las done) e { s with heap := h, toks := tk }
  | [], done, e, h, tk, hall, _, F, N => by
    rw [List.append_nil] at hall
    subst hall
    exact KatKeys.nil (fin e h tk F N)
  | r :: rest, done, e, h, tk, hall, ht, F, N => by
    refine KatKeys.cons (wpAny_mono (ht r (.head _) _ h tk F N fun p hp => .tail _ (hn p hp)) (fun v s'' hv => ?_) fun _ _ x => x)
    obtain ⟨rfl, h', tk', rfl, F', N'⟩ := hv
    refine KatBack.intro F' N' (UpdF.head hb) fun h2 c F2 N2 => ?_
    have e1 : las done ++ [Value.ref r.la] = las (done ++ [r]) := by simp
    rw [e1] at N2 ⊢
    exact keys_rows hb hn fin rest (done ++ [r]) c h2 tk' (by rw [List.append_assoc]; exact hall) (fun q hq => ht q (.tail _ hq)) F2 N2

def row0 : Row := ⟨0, 0, .none, 0, 0, 0, 0, 0, 0⟩
theorem rev_getD (rs : List Row) (i : Nat) (hi : i < rs.length) : ((las rs).reverse.getD i Value.none) = .ref ((rs.reverse.getD i row0).la) ∧ ((tas rs).reverse.getD i Value.none) = .ref ((rs.reverse.getD i row0).ta) := by
  have h1 : i < rs.reverse.length := by simpa using hi
  have h2 : i < (las rs).reverse.length := by simpa using hi
  have h3 : i < (tas rs).reverse.length := by simpa using hi
  constructor
  · rw [List.getD_eq_getElem?_getD, List.getD_eq_getElem?_getD, List.getElem?_eq_getElem h2, List.getElem?_eq_getElem h1]
    simp [las, ← List.map_reverse]
  · rw [List.getD_eq_getElem?_getD, List.getD_eq_getElem?_getD, List.getElem?_eq_getElem h3, List.getElem?_eq_getElem h1]
    simp [tas, ← List.map_reverse]

theorem keyed_fin {rs : List Row} {e e1 : Nat} {P : PySem.Fin → Shared → Prop} (F : Fr h₀ L s.heap m) (N : News h₀ L s.heap ((kS, seqObj "list" (List.toArray (las rs)) e) :: (a, seqObj "list" #[] e1) :: news))
    (hk : @Ne Nat a kS) (hnk : ∀ p ∈ news, p.1 ≠ kS) (hna : ∀ p ∈ news, p.1 ≠ a) (hr : ∀ r ∈ rs, (r.la, rowLst r) ∈ news) (hnd : (rs.map (·.st)).Nodup) (h2 : 2 ≤ rs.length) (h6 : rs.length ≤ 6) (hu : A.units < cLine)
    (h : ∀ h' tk c rs', rs'.Perm rs → rs'.Pairwise (fun x y => y.st < x.st) → Fr h₀ L h' m → News h₀ L h' ((a, listOf (List.toArray (tas rs')) c) :: news) → P (.done (.ret .none)) { s with heap := h', toks := tk }) :
    wpAny (model prog w) A (keyKind' (List.toArray (las rs))) (fun κ s'' => (kas_sort (tas rs).length).kasWp (kas_ask prog w A κ (katRev true (las rs)))
      (fun p s3 => KatFin h₀ L m kS a (las rs) e e1 (katRev true (p.toList.map fun i => (katRev true (tas rs)).getD i Value.none)) (fun s4 => P (.done (.ret .none)) s4) s3) s'') (fun _ _ => False) s := by
  have hlen : (las rs).length = rs.length := by simp
  have hlt : (tas rs).length = rs.length := by simp
  refine kas_kind (T := .type "list") (by rw [hlen]; exact h2) (fun v hv => ?_) (by decide) (by decide) ?_
  · obtain ⟨r, hr', rfl⟩ := List.mem_map.mp hv
    have hg := (N _ (.tail _ (.tail _ (hr r hr')))).1
    exact (Looks.ld hg).andThen .now
  · rw [hlt]
    have inj : ∀ i j, i < rs.length → j < rs.length → (fun i => (rs.reverse.getD i row0).st) i = (fun i => (rs.reverse.getD i row0).st) j → i = j := by
      intro i j hi hj e
      have hnd' : (rs.reverse.map (·.st)).Nodup := List.Perm.nodup ((List.reverse_perm rs).symm.map _) hnd
      have hi' : i < rs.reverse.length := by simpa using hi
      have hj' : j < rs.reverse.length := by simpa using hj
      have e' : (rs.reverse.map (·.st))[i]'(by simpa using hi) = (rs.reverse.map (·.st))[j]'(by simpa using hj) := by
        simp only [List.getElem_map]
        have e2 : (rs.reverse.getD i row0).st = (rs.reverse.getD j row0).st := e
        rw [List.getD_eq_getElem?_getD, List.getD_eq_getElem?_getD, List.getElem?_eq_getElem hi', List.getElem?_eq_getElem hj'] at e2
        exact e2
      have hp := List.pairwise_iff_getElem.mp hnd'
      rcases Nat.lt_trichotomy i j with q | q | q
      · exact absurd e' (hp i j _ _ q)
      · exact q
      · exact absurd e'.symm (hp j i _ _ q)
    obtain ⟨p, hp, hperm, hpw⟩ := sort_right rs.length h2 h6 (fun i => (rs.reverse.getD i row0).st) inj
    refine runO_wp (fun i j C hi hj hC => ?_) hp ?_
    · show wpAny _ _ (keyLt' oneType' ((katRev true (las rs)).getD i Value.none) ((katRev true (las rs)).getD j Value.none)) _ _ _
      have e1 : katRev true (las rs) = (las rs).reverse := rfl
      rw [e1, (rev_getD rs i hi).1, (rev_getD rs j hj).1]
      have mem : ∀ k, k < rs.length → (rs.reverse.getD k row0) ∈ rs := by
        intro k hk'
        have : k < rs.reverse.length := by simpa using hk'
        rw [List.getD_eq_getElem?_getD, List.getElem?_eq_getElem this]
        exact List.mem_reverse.mp (List.getElem_mem this)
      exact one_lt hu (N _ (.tail _ (.tail _ (hr _ (mem i hi))))).1 (N _ (.tail _ (.tail _ (hr _ (mem j hj))))).1 hC
    · have eout : katRev true (p.toList.map fun i => (katRev true (tas rs)).getD i Value.none) = tas ((p.toList.map fun i => rs.reverse.getD i row0).reverse) := by
        show (p.toList.map fun i => (tas rs).reverse.getD i Value.none).reverse = _
        rw [show tas ((p.toList.map fun i => rs.reverse.getD i row0).reverse) = (tas (p.toList.map fun i => rs.reverse.getD i row0)).reverse from List.map_reverse ..]
        congr 1
        show _ = List.map _ (List.map _ _)
        rw [List.map_map]
        refine List.map_congr_left fun i hi => ?_
        have : i < rs.length := List.mem_range.mp (hperm.mem_iff.mp hi)
        exact (rev_getD rs i this).2
      rw [eout]
      refine KatFin.intro F N (UpdF.head fun q hq => ?_) fun h1 c1 F1 N1 => KasFin.intro F1 N1 (UpdF.tail hk.symm (UpdF.head hna)) fun h2' c2 F2 N2 => ?_
      · rcases List.mem_cons.mp hq with rfl | hq
        · exact hk
        · exact hnk q hq
      · refine h h2' s.toks c2 _ ?_ ?_ F2 fun q hq => N2 q (.tail _ hq)
        · refine (List.reverse_perm _).trans ?_
          have h3 : (p.toList.map fun i => rs.reverse.getD i row0).Perm ((List.range rs.length).map fun i => rs.reverse.getD i row0) := hperm.map _
          have h4 : ((List.range rs.length).map fun i => rs.reverse.getD i row0) = rs.reverse := by
            refine List.ext_getElem (by simp) fun i ha hb => ?_
            have hb' : i < rs.reverse.length := hb
            simp only [List.getElem_map, List.getElem_range]
            rw [List.getD_eq_getElem?_getD, List.getElem?_eq_getElem hb']
            rfl
          rw [h4] at h3
          exact h3.trans (List.reverse_perm _)
        · rw [List.pairwise_reverse, List.pairwise_map]
          exact hpw

theorem sort_many {rs : List Row} {n : Nat} {P : PySem.Fin → Shared → Prop} (F : Fr h₀ L s.heap m) (N : News h₀ L s.heap news) (ho : s.heap.get? a = some (seqObj "list" (tas rs).toArray n)) (haL : a ≠ L) (ha0 : h₀.get? a = none) (hna : ∀ p ∈ news, p.1 ≠ a)
    (hr : ∀ r ∈ rs, (r.la, rowLst r) ∈ news) (hnd : (rs.map (·.st)).Nodup) (h2 : 2 ≤ rs.length) (h6 : rs.length ≤ 6) (hu : A.units < cLine) (ht : ∀ r ∈ rs, Turns prog w A h₀ L m news f s r)
    (h : ∀ h' tk c rs', rs'.Perm rs → rs'.Pairwise (fun x y => y.st < x.st) → Fr h₀ L h' m → News h₀ L h' ((a, listOf (List.toArray (tas rs')) c) :: news) → P (.done (.ret .none)) { s with heap := h', toks := tk }) :
    wpAny (model prog w) A (ksk_tree a f true) P E s := by
  have hlt : (tas rs).length = rs.length := by simp
  refine kat_keyed F N ho haL ha0 hna (by rw [hlt]; exact h2) (by rw [hlt]; omega) fun kS e1 h' F' N' hak hk => ?_
  have hnk : ∀ p ∈ news, p.1 ≠ kS := fun p hp => Nat.ne_of_lt (hk p hp)
  have base : ∀ p ∈ (a, seqObj "list" #[] e1) :: news, p.1 ≠ kS := fun p hp => by
    rcases List.mem_cons.mp hp with rfl | hp
    · exact Nat.ne_of_lt hak
    · exact hnk p hp
  exact keys_rows (s := s) (done := []) (all := rs) base (fun p hp => .tail _ hp) (fun e h1 tk1 F1 N1 => keyed_fin (s := { s with heap := h1, toks := tk1 }) F1 N1 (Nat.ne_of_lt hak) hnk hna hr hnd h2 h6 hu fun h2' tk2 c rs' a1 a2 a3 a4 => h h2' tk2 c rs' a1 a2 a3 a4) rs 0 h' s.toks rfl ht F' N'

/-- one row alone: no question is asked -/
theorem sort_one {r : Row} {n : Nat} {P : PySem.Fin → Shared → Prop} (F : Fr h₀ L s.heap m) (N : News h₀ L s.heap news) (ho : s.heap.get? a = some (seqObj "list" (tas [r]).toArray n)) (haL : a ≠ L) (ha0 : h₀.get? a = none) (hna : ∀ p ∈ news, p.1 ≠ a)
    (ht : Turns prog w A h₀ L m news f s r)
    (h : ∀ h' tk c, Fr h₀ L h' m → News h₀ L h' ((a, listOf (List.toArray (tas [r])) c) :: news) → P (.done (.ret .none)) { s with heap := h', toks := tk }) :
    wpAny (model prog w) A (ksk_tree a f true) P E s := by
  have ha : a < s.heap.objs.size := Heap.lt_size ho
  have s1 := Heap.SameBut.update s.heap a (Obj.mapSeq fun _ => (#[] : Array Value))
  obtain ⟨e1, ho1⟩ : ∃ e1, (s.heap.update a (Obj.mapSeq fun _ => (#[] : Array Value))).get? a = some (seqObj "list" #[] e1) := ⟨_, get?_update_seq ho fun _ => #[]⟩
  have F1 := kas_fr F s1 haL ha0
  have N1 := kas_news N s1 hna
  have hkS : ((s.heap.update a (Obj.mapSeq fun _ => (#[] : Array Value))).push (seqObj "tuple" (tas [r]).toArray 0)).objs.size = s.heap.objs.size + 1 := by rw [size_push', Heap.size_update]
  have hLk : L < ((s.heap.update a (Obj.mapSeq fun _ => (#[] : Array Value))).push (seqObj "tuple" (tas [r]).toArray 0)).objs.size := (F1.push _).ns.lt
  unfold ksk_tree
  refine wpAny_bind (listItems_at ho rfl ?_)
  refine wpAny_bind (listUpdate_at ho rfl ?_ (by rw [List.size_toArray, sizeLine_eq]; exact Nat.le_of_ble_eq_true rfl) (Nat.zero_le _))
  refine wpAny_bind (seqEpoch_at ho1 rfl ?_)
  refine wpAny_bind (wpAny_newTuple ?_ (by show (tas [r]).length ≤ _; rw [sizeLine_eq]; exact Nat.le_of_ble_eq_true rfl))
  refine wpAny_bind (wpAny_newList ?_ (Nat.zero_le _))
  refine wpAny_holding ?_
  generalize hK : ((s.heap.update a (Obj.mapSeq fun _ => (#[] : Array Value))).push (seqObj "tuple" (tas [r]).toArray 0)).objs.size = kS at *
  have N2 : News h₀ L (((s.heap.update a (Obj.mapSeq fun _ => (#[] : Array Value))).push (seqObj "tuple" (tas [r]).toArray 0)).push (seqObj "list" #[] 0)) ((kS, seqObj "list" #[] 0) :: (a, seqObj "list" #[] e1) :: news) := by
    intro p hp
    rcases List.mem_cons.mp hp with rfl | hp
    · refine ⟨?_, Nat.ne_of_gt hLk, Heap.get?_none_of_le (Nat.le_trans F.above (Nat.le_of_lt hLk))⟩
      rw [← hK]; exact Heap.get?_push_size _ rfl
    · rcases List.mem_cons.mp hp with rfl | hp
      · exact ⟨Heap.get?_push_of_some _ (Heap.get?_push_of_some _ ho1), haL, ha0⟩
      · exact ⟨Heap.get?_push_of_some _ (Heap.get?_push_of_some _ (N1 p hp).1), (N1 p hp).2⟩
  unfold ksk_rest
  refine wpAny_bind (wpAny_rule ?_)
  simp only [tas, List.map_cons, List.map_nil, List.forIn_toArray, List.forIn_cons, List.forIn_nil]
  refine wpAny_bind (wpAny_bind (wpAny_bind (wpAny_attempt (wpAny_mono (ht _ _ s.toks ((F1.push _).push _) N2 fun p hp => .tail _ (.tail _ hp)) (fun v s'' hv => ?_) fun _ _ hF => hF.elim))))
  obtain ⟨rfl, h', tk', rfl, F', N'⟩ := hv
  have nk := N' _ (.head _)
  have hak : a ≠ kS := by rw [hkS]; exact Nat.ne_of_lt (Nat.lt_succ_of_lt ha)
  have hnk : ∀ p ∈ news, p.1 ≠ kS := fun p hp => by rw [hkS]; exact Nat.ne_of_lt (Nat.lt_succ_of_lt (Heap.lt_size (N p hp).1))
  have base : ∀ p ∈ (a, seqObj "list" #[] e1) :: news, p.1 ≠ kS := fun p hp => by
    rcases List.mem_cons.mp hp with rfl | hp
    · exact hak
    · exact hnk p hp
  have s2 := Heap.SameBut.update h' kS (Obj.mapSeq (·.push (Value.ref r.la)))
  obtain ⟨c2, hc2⟩ : ∃ c2, (h'.update kS (Obj.mapSeq (·.push (Value.ref r.la)))).get? kS = some (seqObj "list" #[.ref r.la] c2) := ⟨_, get?_update_seq nk.1 (·.push (Value.ref r.la))⟩
  dsimp only
  refine wpAny_bind (listUpdate_at nk.1 rfl ?_ (Nat.zero_le _) (by rw [sizeLine_eq]; exact Nat.le_of_ble_eq_true rfl))
  refine wpAny_pure (wpAny_pure ?_)
  dsimp only
  refine wpAny_bind (listItems_at hc2 rfl ?_)
  unfold ksk_end
  dsimp only
  refine wpAny_bind (wpAny_rule ?_)
  rw [if_pos (by exact Nat.le_of_ble_eq_true rfl), if_pos (by exact Nat.le_of_ble_eq_true rfl)]
  refine wpAny_bind (wpAny_pure ?_)
  rw [StateT.run_pure]
  refine wpAny_bind (wpAny_pure ?_)
  dsimp only
  have N3 : News h₀ L (h'.update kS (Obj.mapSeq (·.push (Value.ref r.la)))) ((kS, seqObj "list" #[.ref r.la] c2) :: (a, seqObj "list" #[] e1) :: news) := fun p hp => by
    rcases List.mem_cons.mp hp with rfl | hp
    · exact ⟨hc2, nk.2⟩
    · exact kas_news (fun q hq => N' q (.tail _ hq)) s2 base p hp
  refine kat_tail (h₀ := h₀) (L := L) (m := m) (b := true) (ks := [.ref r.la]) (out := tas [r]) (e := c2) (by show Array.map (fun x : Keyed => x.2) (if true = true then (#[Value.ref r.la].zip #[Value.ref r.ta]).reverse else #[Value.ref r.la].zip #[Value.ref r.ta]) = _; simp) (by exact Nat.le_of_ble_eq_true rfl) (by exact Nat.le_of_ble_eq_true rfl) rfl ?_
  refine KatFin.intro (kas_fr F' s2 nk.2.1 nk.2.2) N3 (UpdF.head base) fun h3 c3 F3 N4 => KasFin.intro F3 N4 (UpdF.tail hak.symm (UpdF.head hna)) fun h4 c4 F4 N5 => ?_
  exact h h4 tk' c4 F4 fun q hq => N5 q (.tail _ hq)

theorem sort_rows {rs : List Row} {n : Nat} {P : PySem.Fin → Shared → Prop} (F : Fr h₀ L s.heap m) (N : News h₀ L s.heap news) (ho : s.heap.get? a = some (seqObj "list" (tas rs).toArray n)) (haL : a ≠ L) (ha0 : h₀.get? a = none) (hna : ∀ p ∈ news, p.1 ≠ a)
    (hr : ∀ r ∈ rs, (r.la, rowLst r) ∈ news) (hnd : (rs.map (·.st)).Nodup) (h1 : 1 ≤ rs.length) (h6 : rs.length ≤ 6) (hu : A.units < cLine) (ht : ∀ r ∈ rs, Turns prog w A h₀ L m news f s r)
    (h : ∀ h' tk c rs', rs'.Perm rs → rs'.Pairwise (fun x y => y.st < x.st) → Fr h₀ L h' m → News h₀ L h' ((a, listOf (List.toArray (tas rs')) c) :: news) → P (.done (.ret .none)) { s with heap := h', toks := tk }) :
    wpAny (model prog w) A (ksk_tree a f true) P E s := by
  match rs, h1 with
  | [r], _ => exact sort_one F N ho haL ha0 hna (ht r (.head _)) fun h' tk c F' N' => h h' tk c [r] (.refl _) (List.pairwise_singleton ..) F' N'
  | r₁ :: r₂ :: rest, _ => exact sort_many F N ho haL ha0 hna hr hnd (by simp) h6 hu ht h

/-- sorted(d.values(), key=f, reverse=True), d's values the rows' tuples -/
theorem x_sorted {v dD : Addr} {oD : Obj} {rs : List Row} {Q : Value → Shared → Prop} (hh : A.handled = none) (F : Fr h₀ L s.heap m) (N : News h₀ L s.heap news) {q : Addr}
    (hv : (v, { cls := .type "dict_values", data := .fields #[.ref dD] }) ∈ news) (hd : (dD, oD) ∈ news) (hD : oD.IsDictOf (PySem.intKind prog w) (rowsKv rs))
    (hr : ∀ r ∈ rs, (r.la, rowLst r) ∈ news) (hnd : (rs.map (·.st)).Nodup) (h1 : 1 ≤ rs.length) (h6 : rs.length ≤ 6) (hu : A.units + 2 < cLine) (ht : ∀ r ∈ rs, Turns prog w A.in1.in1 h₀ L m news (.ref q) s r)
    (h : ∀ D h' tk c rs', rs'.Perm rs → rs'.Pairwise (fun x y => y.st < x.st) → Fr h₀ L h' m → News h₀ L h' ((D, listOf (List.toArray (tas rs')) c) :: news) → (∀ p ∈ news, p.1 < D) → Q (.ref D) { s with heap := h', toks := tk }) :
    wpAny (model prog w) A (call (.builtin "sorted") [.ref v] [(Str.ofString "key", .ref q), (Str.ofString "reverse", .bool true)]) Q E s := by
  have hkv : (rowsKv rs).length = rs.length := by simp [rowsKv]
  obtain ⟨ep, hat⟩ := (kda_dict N hd hD).dictAt
  refine call_function_entry_kw kind_sorted plain_sorted entry_sorted (ksk_s2 _ _ _) ?_
  unfold Builtin.«sorted»
  refine wpAny_bind (m := checkCount "sorted" 1 1 _) (wpAny_pure ?_)
  refine wpAny_bind (kdu_collect (A := A.in1) (kdl_values (knd := PySem.intKind prog w) (kvs := rowsKv rs) (ep := ep)) hh ⟨⟨_, (N _ hv).1, rfl, rfl⟩, hat⟩ (by rw [hkv, sizeLine_eq]; omega) fun h' tk acc hk hacc => ?_)
  have hacc' : acc.toList = tas rs := by
    have hz : acc.toList.length = (tas rs).length := by rw [Array.length_toList, hacc.1, hkv]; simp
    refine List.ext_getElem hz fun i ha hb => ?_
    have hi : i < rs.length := by simpa using hb
    obtain ⟨k, hx⟩ := hacc.2 i acc.toList[i] (by rw [← Array.getElem?_toList]; exact List.getElem?_eq_getElem ha)
    have hx' : (rowsKv rs)[i]? = some (rs[i].k, Value.ref rs[i].ta) := by
      rw [rowsKv, List.getElem?_map, List.getElem?_eq_getElem hi]; rfl
    rw [hx'] at hx
    have := Option.some.inj hx
    simp only [tas, List.getElem_map]
    exact (Prod.mk.inj this).2.symm
  rw [hacc']
  refine wpAny_bind (wpAny_newList ?_ (by simp only [tas, List.length_map]; rw [sizeLine_eq]; omega))
  have F1 := F.keeps hk
  have N1 : News h₀ L h' news := fun p hp => ⟨hk _ _ (N p hp).1, (N p hp).2⟩
  have hoD : (h'.push (seqObj "list" (tas rs).toArray 0)).get? h'.objs.size = some (seqObj "list" (tas rs).toArray 0) := Heap.get?_push_size _ rfl
  have hL : L < h'.objs.size := F1.ns.lt
  refine wpAny_bind (wpAny_holding (wpAny_call_entry_kw slot_list_sort ⟨_, hoD, rfl⟩ entry_list_sort ?_ (ksk_l2 _ _ _)))
  rw [ksk_t2]
  refine sort_rows (A := A.in1.in1) (s := { s with heap := h'.push (seqObj "list" (tas rs).toArray 0), toks := tk }) (F1.push _) (fun p hp => ⟨Heap.get?_push_of_some _ (N1 p hp).1, (N1 p hp).2⟩) hoD (Nat.ne_of_gt hL) (Heap.get?_none_of_le (Nat.le_trans F1.above (Nat.le_of_lt hL)))
    (fun p hp => Nat.ne_of_lt (Heap.lt_size (N1 p hp).1)) hr hnd h1 h6 hu (fun r hr' => ht r hr') fun h2 tk2 c rs' a1 a2 a3 a4 => ⟨_, rfl, ?_⟩
  exact wpAny_pure ⟨_, rfl, h _ h2 tk2 c rs' a1 a2 a3 a4 fun p hp => Heap.lt_size (N1 p hp).1⟩
end
end Mine
end
section
open PySem PySem.W PyProof.Rows PyProof.V PySem.Spec
namespace Mine
section
variable {prog : Program} {w : World} {A : Around} {E : Value → Shared → Prop} {s : Shared} {env : Env} {h₀ : Heap} {x : Str} {body : List Stmt} {Q : Flow → Shared → Prop}

/-- a for over a list of the ledger, its items any values, the ledger's addresses fixed; only one object rides along: the iterator -/
theorem iter_vals {l : Addr} {vs : List Value} {nn : Nat} {m₀ : Str → Option Value} {news : List (Addr × Obj)} (J : Nat → (Str → Option Value) → List (Addr × Obj) → Prop)
    (hh : A.handled = none) (hl : (l, listOf vs.toArray nn) ∈ news) (F : Fr h₀ env.locals s.heap m₀) (N : News h₀ env.locals s.heap news) (hj : J 0 m₀ news)
    (hk : ∀ i m nx, J i m nx → nx.map (·.1) = news.map (·.1) ∧ (l, listOf vs.toArray nn) ∈ nx)
    (turn : ∀ i v m₁ news₁ h tk I oI, vs[i]? = some v → (∀ p ∈ news, p.1 < I) → J i m₁ news₁ → Fr h₀ env.locals h (fun y => if y = x then some v else m₁ y) → News h₀ env.locals h ((I, oI) :: news₁) →
      wpAny (model prog w) A (execs body env) (fun f s₂ => match f with
        | .ret v => Q (.ret v) s₂
        | .brk => Q .next s₂
        | _ => ∃ h' tk' m' nx, s₂ = { s with heap := h', toks := tk' } ∧ Fr h₀ env.locals h' m' ∧ News h₀ env.locals h' ((I, oI) :: nx) ∧ J (i + 1) m' nx) E { s with heap := h, toks := tk })
    (done : ∀ m₁ news₁ h tk, J vs.length m₁ news₁ → Fr h₀ env.locals h m₁ → News h₀ env.locals h news₁ → Q .next { s with heap := h, toks := tk }) :
    wpAny (model prog w) A (pyIter (.ref l)) (fun it s₂ => LoopAtV prog w A h₀ env x body Q E it s₂) E s := by
  have hol : s.heap.get? l = some (listOf vs.toArray nn) := (N _ hl).1
  have hls : s.heap.IsList l vs.toArray := ⟨_, hol, rfl, nn, rfl⟩
  have hne : l ≠ s.heap.objs.size := Nat.ne_of_lt (Heap.lt_size hol)
  refine wpAny_pyIter_list hls ?_
  have W := Walks.list (prog := prog) (w := w) hh s.heap.objs.size l hne vs.toArray
  have hlen : vs.toArray.size = vs.length := by simp
  rw [hlen] at W
  have hnew := next_is_new F
  refine ⟨_, _, _, vs.length, _, _, m₀, news, J, rfl, W, ?_, ?_, ?_, ⟨⟨_, Heap.get?_push_size _ rfl, rfl, rfl⟩, hls.at fun o e => Heap.get?_push_of_some _ e⟩, F.push _, (fun p hp => ⟨Heap.get?_push_of_some _ (N p hp).1, (N p hp).2⟩), hj, ?_, ?_⟩
  · intro hm
    rcases List.mem_cons.mp hm with e | hm
    · exact absurd F.ns.lt (e ▸ Nat.lt_irrefl _)
    · exact (N _ hl).2.1 ((List.mem_singleton.mp hm).symm)
  · intro b hb
    rw [List.mem_singleton.mp hb]
    exact hnew
  · intro p hp hI
    exact absurd (Heap.lt_size (N p hp).1) ((List.mem_singleton.mp hI) ▸ Nat.lt_irrefl _)
  · rintro i v m₁ news₁ s₁ own ⟨hh', tk', rfl⟩ hin hP hJ hoff hown hget hfp hst F₁ N₁
    obtain ⟨hadr, hl₁⟩ := hk i m₁ news₁ hJ
    have hlo : hh'.get? l = some (listOf vs.toArray nn) := (N₁ _ (List.mem_append.mpr (.inr hl₁))).1
    obtain ⟨⟨oI, hoI, _⟩, _⟩ := id hst
    have hIown : (s.heap.objs.size, oI) ∈ own := hfp _ (List.mem_cons.mpr (.inl rfl)) hnew _ hoI
    have hv : vs[i]? = some v := by simpa using hP
    have N₂ : News h₀ env.locals hh' ((s.heap.objs.size, oI) :: news₁) := fun p hp => N₁ p ((List.mem_cons.mp hp).elim (fun h => List.mem_append.mpr (.inl (h ▸ hIown))) fun h => List.mem_append.mpr (.inr h))
    refine wpAny_mono (turn i v m₁ news₁ hh' tk' _ oI hv (fun p hp => Heap.lt_size (N p hp).1) hJ F₁ N₂) (fun f s₂ p => ?_) fun _ _ e => e
    have fin : (∃ h' tk'' m' nx, s₂ = { s with heap := h', toks := tk'' } ∧ Fr h₀ env.locals h' m' ∧ News h₀ env.locals h' ((s.heap.objs.size, oI) :: nx) ∧ J (i + 1) m' nx) →
        LoopStepU h₀ env.locals [s.heap.objs.size] own (J (i + 1)) { s with heap := hh', toks := tk' } .next s₂ := by
      rintro ⟨h', tk, m', nx, e, F', N', hm⟩
      obtain ⟨ha, hl'⟩ := hk _ _ _ hm
      refine ⟨rfl, h', tk, m', nx, e, F', fun p hp => ?_, fun p hp hI => ?_, hm⟩
      · rcases List.mem_append.mp hp with h | h
        · have h2 : hh'.get? p.1 = some p.2 := hget p h
          rcases List.mem_cons.mp (hown p h) with h1 | h1
          · rw [h1, hoI] at h2
            have h3 : p = (s.heap.objs.size, oI) := Prod.ext h1 (Option.some.inj h2).symm
            rw [h3]; exact N' _ (.head _)
          · have h1 := List.mem_singleton.mp h1
            rw [h1, hlo] at h2
            have h3 : p = (l, listOf vs.toArray nn) := Prod.ext h1 (Option.some.inj h2).symm
            rw [h3]; exact N' _ (.tail _ hl')
        · exact N' p (.tail _ h)
      · have h1 : p.1 ∈ nx.map (·.1) := List.mem_map.mpr ⟨p, hp, rfl⟩
        rw [ha] at h1
        obtain ⟨q, hq, e⟩ := List.mem_map.mp h1
        exact absurd (Heap.lt_size (N q hq).1) (by rw [e, List.mem_singleton.mp hI]; exact Nat.lt_irrefl _)
    cases f with
    | ret v => exact .ret p
    | brk => exact .brk p
    | next => exact .next (fin p)
    | cont => exact .cont (fin p)
  · rintro h' tk m' news' F' N' _ hJ
    exact done m' news' h' tk hJ F' N'

theorem x_slice {L l : Addr} {m : Str → Option Value} {news : List (Addr × Obj)} {value slice : PySem.Expr} {vs : List Value} {c : Nat} {cap : Int} {t : Tok} {Q : Value → Shared → Prop} (F : Fr h₀ L s.heap m) (N : News h₀ L s.heap news) (hl : (l, listOf vs.toArray c) ∈ news) (h0 : 0 ≤ cap) (hz : vs.length ≤ 16777216)
    (hs : subscripted slice false (.ref l) (.ref s.heap.objs.size) = operate [.ref s.heap.objs.size, .ref l] (getItem (.ref l) (.ref s.heap.objs.size))) (ht : ∀ r, letTemporaryGo value (.ref l) r = pure ())
    (h : ∀ D h', Fr h₀ L h' m → News h₀ L h' ((D, listOf (List.toArray (vs.drop cap.toNat)) 0) :: news) → (∀ p ∈ news, p.1 < D) → Q (.ref D) { s with heap := h' }) :
    wpAny (model prog w) A (subscriptTail value slice (.ref l) (.ref s.heap.objs.size)) Q E { s with heap := s.heap.push { cls := .type "slice", data := .fields #[.int cap t, .none, .none] } } := by
  refine kmk_slice (its := vs.toArray) F N ⟨_, (N _ hl).1, rfl, c, rfl⟩ (IsPart.int _ _) IsPart.none (fun D h' F' N' l1 => h D h' F' ?_ l1) hs ht (by rw [List.size_toArray, sizeLine_eq]; exact hz)
  have e : cap = ((cap.toNat : Nat) : Int) := by omega
  have e2 := slicePick_from' vs.toArray cap.toNat
  rw [← e] at e2
  rw [e2] at N'
  exact N'
end
end Mine
end
section
open PySem PySem.W PyProof.Rows PyProof.V PySem.Spec
namespace Mine
/-- the rows whose key is none of ks -/
def less (rs : List Row) (ks : List Int) : List Row := rs.filter fun r => decide (r.k ∉ ks)
theorem less_nil (rs : List Row) : less rs [] = rs := by simp [less]
theorem less_snoc (rs : List Row) (ks : List Int) (k : Int) : rowsKv (less rs (ks ++ [k])) = without (rowsKv (less rs ks)) k := by
  induction rs with
  | nil => rfl
  | cons r rest ih =>
    by_cases h1 : r.k ∈ ks
    · have h2 : r.k ∈ ks ++ [k] := List.mem_append_left _ h1
      have e1 : less (r :: rest) ks = less rest ks := by simp [less, h1]
      have e2 : less (r :: rest) (ks ++ [k]) = less rest (ks ++ [k]) := by simp [less, h1]
      rw [e1, e2]; exact ih
    · have e1 : less (r :: rest) ks = r :: less rest ks := by simp [less, h1]
      rw [e1]
      by_cases h2 : r.k = k
      · have e2 : less (r :: rest) (ks ++ [k]) = less rest (ks ++ [k]) := by simp [less, h2]
        rw [e2, ih]
        simp [rowsKv, without, h2]
      · have e2 : less (r :: rest) (ks ++ [k]) = r :: less rest (ks ++ [k]) := by simp [less, h1, h2]
        rw [e2]
        show (r.k, Value.ref r.ta) :: rowsKv (less rest (ks ++ [k])) = _
        rw [ih]
        simp [rowsKv, without, h2]
theorem less_there {rs : List Row} {ks : List Int} {k : Int} (h1 : k ∈ rs.map (·.k)) (h2 : k ∉ ks) : (valueAt (rowsKv (less rs ks)) k).isSome = true := by
  obtain ⟨r, hr, rfl⟩ := List.mem_map.mp h1
  unfold valueAt
  rw [Option.isSome_map, List.find?_isSome]
  refine ⟨(r.k, .ref r.ta), List.mem_map.mpr ⟨r, List.mem_filter.mpr ⟨hr, by simpa using h2⟩, rfl⟩, by simp⟩
theorem rowsKv_len (rs : List Row) : (rowsKv rs).length = rs.length := by simp [rowsKv]
theorem less_len (rs : List Row) (ks : List Int) : (rowsKv (less rs ks)).length ≤ rs.length := by rw [rowsKv_len]; exact List.length_filter_le ..

section
variable {prog : Program} {w : World} {A : Around} {E : Value → Shared → Prop} {s : Shared} {env : Env} {h₀ : Heap} {x : Str} {body : List Stmt} {Q : Flow → Shared → Prop}
def DelEnd (prog : Program) (w : World) (h₀ : Heap) (L : Addr) (x : Str) (m₀ : Str → Option Value) (p : Addr × Obj) (g : Obj → List (Addr × Obj)) (kvs : List (Int × Value)) (k : Int) (s s₂ : Shared) : Prop :=
  ∃ h' tk' m' oD₂, s₂ = { s with heap := h', toks := tk' } ∧ Fr h₀ L h' m' ∧ (∀ z, z ≠ x → m' z = m₀ z) ∧ News h₀ L h' (p :: g oD₂) ∧ oD₂.IsDictOf (PySem.intKind prog w) (without kvs k)
theorem DelEnd.intro {prog : Program} {w : World} {h₀ h' : Heap} {L : Addr} {x : Str} {m₀ m' : Str → Option Value} {p : Addr × Obj} {g : Obj → List (Addr × Obj)} {kvs : List (Int × Value)} {k : Int} {s : Shared} {tk' : Nat} {oD₂ : Obj}
    (F : Fr h₀ L h' m') (N : News h₀ L h' (p :: g oD₂)) (hD : oD₂.IsDictOf (PySem.intKind prog w) (without kvs k)) (hm : ∀ z, z ≠ x → m' z = m₀ z) : DelEnd prog w h₀ L x m₀ p g kvs k s { s with heap := h', toks := tk' } :=
  ⟨h', tk', m', oD₂, rfl, F, hm, N, hD⟩
/-- the loop that takes rows out of the dict, one a turn -/
theorem iter_dels {l dD : Addr} {oD : Obj} {rs del : List Row} {nn : Nat} {m₀ : Str → Option Value} {news : List (Addr × Obj)} {g : Obj → List (Addr × Obj)}
    (hh : A.handled = none) (U : UpdF dD oD news g) (hD : oD.IsDictOf (PySem.intKind prog w) (rowsKv rs)) (hl : (l, listOf (List.toArray (tas del)) nn) ∈ news) (hne : l ≠ dD)
    (F : Fr h₀ env.locals s.heap m₀) (N : News h₀ env.locals s.heap news) (hnd : (del.map (·.k)).Nodup) (hin : ∀ r ∈ del, r.k ∈ rs.map (·.k))
    (turn : ∀ r ∈ del, ∀ (kvs : List (Int × Value)) oD₁ h tk I oI, oD₁.IsDictOf (PySem.intKind prog w) kvs → (valueAt kvs r.k).isSome = true → kvs.length ≤ rs.length → (∀ p ∈ news, p.1 < I) →
      Fr h₀ env.locals h (fun y => if y = x then some (.ref r.ta) else m₀ y) → News h₀ env.locals h ((I, oI) :: g oD₁) →
      wpAny (model prog w) A (execs body env) (fun f s₂ => match f with
        | .ret v => Q (.ret v) s₂
        | .brk => Q .next s₂
        | _ => DelEnd prog w h₀ env.locals x m₀ (I, oI) g kvs r.k s s₂) E { s with heap := h, toks := tk })
    (done : ∀ (u : Str → Option Value) oD₁ h tk, oD₁.IsDictOf (PySem.intKind prog w) (rowsKv (less rs (del.map (·.k)))) → Fr h₀ env.locals h (fun z => if z = x then u z else m₀ z) → News h₀ env.locals h (g oD₁) → Q .next { s with heap := h, toks := tk }) :
    wpAny (model prog w) A (pyIter (.ref l)) (fun it s₂ => LoopAtV prog w A h₀ env x body Q E it s₂) E s := by
  obtain ⟨pre, post, e0, hg, a, b⟩ := U.split
  have g0 : g oD = news := by rw [hg, e0]
  refine iter_vals (fun i m nx => ∃ oD₁, oD₁.IsDictOf (PySem.intKind prog w) (rowsKv (less rs ((del.take i).map (·.k)))) ∧ nx = g oD₁ ∧ ∀ z, z ≠ x → m z = m₀ z) hh hl F N ⟨oD, by simpa [less_nil] using hD, g0.symm, fun _ _ => rfl⟩ ?_ ?_ ?_
  · rintro i m nx ⟨oD₁, _, rfl, _⟩
    refine ⟨by rw [hg, e0]; simp, ?_⟩
    rw [e0] at hl
    rw [hg]
    rcases List.mem_append.mp hl with h | h
    · exact List.mem_append_left _ h
    · rcases List.mem_cons.mp h with h | h
      · exact absurd (congrArg Prod.fst h) hne
      · exact List.mem_append_right _ (.tail _ h)
  · rintro i v m₁ news₁ h tk I oI hv hI ⟨oD₁, hD₁, rfl, hm⟩ F₁ N₁
    obtain ⟨r, hr, rfl⟩ : ∃ r, del[i]? = some r ∧ v = .ref r.ta := by
      rw [List.getElem?_map] at hv
      cases q : del[i]? with
      | none => rw [q] at hv; cases hv
      | some r => rw [q] at hv; exact ⟨r, rfl, (Option.some.inj hv).symm⟩
    rw [map_none hm] at F₁
    have ht : del.take (i + 1) = del.take i ++ [r] := by rw [List.take_add_one, hr]; rfl
    have hno : r.k ∉ (del.take i).map (·.k) := by
      intro hmem
      have h1 : ((del.take (i + 1)).map (·.k)).Nodup := List.Nodup.sublist ((List.take_sublist _ _).map _) hnd
      rw [ht, List.map_append, List.nodup_append] at h1
      exact h1.2.2 _ hmem _ (by simp) rfl
    refine wpAny_mono (turn r (List.mem_of_getElem? hr) _ oD₁ h tk I oI hD₁ (less_there (hin r (List.mem_of_getElem? hr)) hno) (less_len _ _) hI F₁ N₁) (fun f s₂ p => ?_) fun _ _ e => e
    have fin : DelEnd prog w h₀ env.locals x m₀ (I, oI) g (rowsKv (less rs ((del.take i).map (·.k)))) r.k s s₂ →
        ∃ h' tk' m' nx, s₂ = { s with heap := h', toks := tk' } ∧ Fr h₀ env.locals h' m' ∧ News h₀ env.locals h' ((I, oI) :: nx) ∧ ∃ oD₁, oD₁.IsDictOf (PySem.intKind prog w) (rowsKv (less rs ((del.take (i + 1)).map (·.k)))) ∧ nx = g oD₁ ∧ ∀ z, z ≠ x → m' z = m₀ z := by
      rintro ⟨h', tk', m', oD₂, e, F', hm', N', hD'⟩
      refine ⟨h', tk', m', _, e, F', N', oD₂, ?_, rfl, hm'⟩
      rw [ht, List.map_append, List.map_cons, List.map_nil, less_snoc]
      exact hD'
    cases f with
    | ret v => exact p
    | brk => exact p
    | next => exact fin p
    | cont => exact fin p
  · rintro m₁ news₁ h tk ⟨oD₁, hD₁, rfl, hm⟩ F₁ N₁
    have e : del.take (tas del).length = del := by simp
    rw [e] at hD₁
    refine done m₁ oD₁ h tk hD₁ ?_ N₁
    rw [done_none hm]; exact F₁
end

theorem x_sliceR {prog : Program} {w : World} {A : Around} {E : Value → Shared → Prop} {s : Shared} {h₀ : Heap} {L l : Addr} {m : Str → Option Value} {news : List (Addr × Obj)} {value slice : PySem.Expr} {rs : List Row} {c : Nat} {cap : Int} {t : Tok} {Q : Value → Shared → Prop} (F : Fr h₀ L s.heap m) (N : News h₀ L s.heap news) (hl : (l, listOf (List.toArray (tas rs)) c) ∈ news) (h0 : 0 ≤ cap) (hz : rs.length ≤ 16777216)
    (hs : subscripted slice false (.ref l) (.ref s.heap.objs.size) = operate [.ref s.heap.objs.size, .ref l] (getItem (.ref l) (.ref s.heap.objs.size))) (ht : ∀ r, letTemporaryGo value (.ref l) r = pure ())
    (h : ∀ D h', Fr h₀ L h' m → News h₀ L h' ((D, listOf (List.toArray (tas (rs.drop cap.toNat))) 0) :: news) → (∀ p ∈ news, p.1 < D) → Q (.ref D) { s with heap := h' }) :
    wpAny (model prog w) A (subscriptTail value slice (.ref l) (.ref s.heap.objs.size)) Q E { s with heap := s.heap.push { cls := .type "slice", data := .fields #[.int cap t, .none, .none] } } :=
  x_slice F N hl h0 (by simpa using hz) hs ht fun D h' F' N' l1 => h D h' F' (by rw [tas, List.map_drop]; exact N') l1

theorem dels_nodup {rs rs' : List Row} (hp : rs'.Perm rs) (hk : (rs.map (·.k)).Nodup) (n : Nat) : ((rs'.drop n).map (·.k)).Nodup :=
  List.Nodup.sublist ((List.drop_sublist _ _).map _) ((hp.map _).nodup_iff.mpr hk)
theorem dels_in {rs rs' : List Row} (hp : rs'.Perm rs) (n : Nat) : ∀ r ∈ rs'.drop n, r.k ∈ rs.map (·.k) := fun r hr =>
  List.mem_map.mpr ⟨r, hp.mem_iff.mp (List.mem_of_mem_drop hr), rfl⟩
theorem less_perm {rs rs' : List Row} (hp : rs'.Perm rs) (hk : (rs.map (·.k)).Nodup) (n : Nat) : (less rs ((rs'.drop n).map (·.k))).Perm (rs'.take n) := by
  have h1 : (less rs ((rs'.drop n).map (·.k))).Perm (less rs' ((rs'.drop n).map (·.k))) := (hp.symm.filter _)
  have hk' : ((rs'.take n ++ rs'.drop n).map (·.k)).Nodup := by rw [List.take_append_drop]; exact (hp.map _).nodup_iff.mpr hk
  rw [List.map_append, List.nodup_append] at hk'
  have h2 : less rs' ((rs'.drop n).map (·.k)) = rs'.take n := by
    have e : less rs' ((rs'.drop n).map (·.k)) = less (rs'.take n ++ rs'.drop n) ((rs'.drop n).map (·.k)) := by rw [List.take_append_drop]
    rw [e]
    unfold less
    rw [List.filter_append]
    have a : (rs'.take n).filter (fun r => decide (r.k ∉ (rs'.drop n).map (·.k))) = rs'.take n := by
      refine List.filter_eq_self.mpr fun r hr => ?_
      rw [decide_eq_true_eq]
      intro hin
      exact hk'.2.2 _ (List.mem_map.mpr ⟨r, hr, rfl⟩) _ hin rfl
    have b : (rs'.drop n).filter (fun r => decide (r.k ∉ (rs'.drop n).map (·.k))) = [] := by
      refine List.filter_eq_nil_iff.mpr fun r hr => ?_
      rw [decide_eq_true_eq]
      exact fun h => h (List.mem_map.mpr ⟨r, hr, rfl⟩)
    rw [a, b, List.append_nil]
  rw [h2] at h1
  exact h1
theorem less_size {rs rs' : List Row} (hp : rs'.Perm rs) (hk : (rs.map (·.k)).Nodup) (n : Nat) : (rowsKv (less rs ((rs'.drop n).map (·.k)))).length ≤ n := by
  rw [rowsKv_len, (less_perm hp hk n).length_eq]
  exact List.length_take_le ..
end Mine
end
section
namespace Mine
theorem fillC3 : PySem.Challenge.rw_ep5039_01 = PySem.Challenge.rw_ep5039_01 ∧ Mine.hd.heap_39 = Mine.hd.heap_39 := by
  w_top off
  k_fill
  exact ⟨rfl, rfl⟩


local macro_rules | `(tactic| k_room) => `(tactic| ktr_room)
local macro_rules | `(tactic| k_units) => `(tactic| ktr_units)
local macro_rules | `(tactic| ktr_enter) => `(tactic| (refine' code_def ?k1 ?k2 ?k3 ?k4 ?k5 ?kA ?kF ?kK ?k6 ?k7 ?k8 ?k9 ?kB ?_ ?c2 ?c3 ?c4 ?c5; (case kA => exact rfl); (case kF => exact rfl); (case kK => first | assumption | exact rfl); (case k1 => k_asm); (case k2 => k_asm); (case k3 => k_asm); (case k4 => k_asm); (case k5 => k_asm); (case k6 => k_is); (case k7 => k_is); (case k8 => ktr_room); (case k9 => first | exact BindsTo.of_eq rfl | exact binds_K (by k_in) rfl (by k_is) rfl rfl rfl | fail "ktr_enter: no rule for these arguments"); (case c5 => decide); (case kB => exact locs rfl); (case c2 => exact rfl); (case c3 => exact rfl); (case c4 => exact rfl); k_whole; intro g' L' h' FG' F' N' B' X' T'; (try dsimp only); (try k_fold)))
local macro_rules | `(tactic| k_lt $h:ident) => `(tactic| (replace $h := allLt_of $h; simp only [AllLt, and_true] at $h:ident; (try ((fail_if_success (rename AllLt _ _ => l6)); have l7 : AllLt _ _ := (by first | exact ($h).2 | exact ($h).2.2 | exact ($h).2.2.2 | exact ($h).2.2.2.2 | exact ($h).2.2.2.2.2 | exact ($h).2.2.2.2.2.2 | exact ($h).2.2.2.2.2.2.2 | exact ($h).2.2.2.2.2.2.2.2 | exact ($h).2.2.2.2.2.2.2.2.2 | exact ($h).2.2.2.2.2.2.2.2.2.2 | exact ($h).2.2.2.2.2.2.2.2.2.2.2 | exact ($h).2.2.2.2.2.2.2.2.2.2.2.2)))))
local macro_rules | `(tactic| k_all) => `(tactic| (refine' allLt_ne ?h6 ?h7; (case h6 => assumption); (case h7 => ((try dsimp only); omega))))
local macro_rules | `(tactic| k_all) => `(tactic| with_reducible assumption)
local macro_rules | `(tactic| walk_at "call builtin:len") => `(tactic| (k_here; (with_reducible show wpAny _ _ (call (Value.builtin "len") [Value.ref _]) _ _ _); k_dflt (refine' kda_len (knd := PySem.intKind _ _) ?N ?m ?d ?lo ?f ?_; (case N => k_asm); (case m => k_mem); (case d => k_asm); (case lo => k_asm); (case f => assumption); k_whole)))
local macro_rules | `(tactic| walk_at "getMethod ref") => `(tactic| (k_here; (with_reducible show wpAny _ _ (getMethod (Value.ref _) (Str.ofString "get") _) _ _ _); k_dflt (refine' kdg_method (knd := PySem.intKind _ _) ?N ?m ?d ?_; (case N => k_asm); (case m => k_mem); (case d => k_asm); k_whole)))
local macro_rules | `(tactic| walk_at "call builtin:dict.get") => `(tactic| (k_here; (with_reducible show wpAny _ _ (call (Value.builtin "dict.get") [Value.ref _, Value.int _ _]) _ _ _); k_dflt (refine' kdg_get1 (knd := PySem.intKind _ _) ?N ?m ?d ?lo (intKind_is _ _ _ _) _ ?hl ?_; (case N => k_asm); (case m => k_mem); (case d => k_asm); (case lo => k_asm); (case hl => assumption); k_whole; (try dsimp only [Option.getD]))))
local macro_rules | `(tactic| walk_at "subscriptTail") => `(tactic| (k_here; (with_reducible show wpAny _ _ (subscriptTail _ _ (Value.ref _) (Value.int _ _)) _ _ _); k_dflt (refine' kda_item (knd := PySem.intKind _ _) ?N ?m ?d (intKind_is _ _ _ _) ?hl ?_; (case N => k_asm); (case m => k_mem); (case d => k_asm); (case hl => assumption); k_whole)))
theorem x_get_missC3 {prog : Program} {w : World} {A : Around} {E : Value → Shared → Prop} {s : Shared} {h₀ : Heap} {L d : Addr} {news : List (Addr × Obj)} {o : Obj} {kvs : List (Int × Value)} {k : Int} {t : Tok} {Q : Value → Shared → Prop}
    (N : News h₀ L s.heap news) (hp : (d, o) ∈ news) (hd : o.IsDictOf (PySem.intKind prog w) kvs) (lo : (d == sysModules) = false) (hh : A.handled = none) (hl : valueAt kvs k = none)
    (h : ∀ h' e, Heap.NewExc s.heap h' e "KeyError" → E (.ref e) { s with heap := h', toks := s.toks + 1 }) : wpAny (model prog w) A (getItem (.ref d) (.int k t)) Q E s :=
  wpAny_getItem_missing_of (intKind_is _ _ _ _) lo hh (kda_dict N hp hd).mapOf hl h
local macro_rules | `(tactic| walk_at "getItem ref int") => `(tactic| (k_here; k_dflt (refine' x_get_missC3 ?N ?m ?d ?lo ?hh ?hl ?_; (case N => k_asm); (case m => k_mem); (case d => k_asm); (case lo => k_asm); (case hh => exact rfl); (case hl => assumption); k_whole); intro h' e' x'))
local macro_rules | `(tactic| walk_at "getItem ref int") => `(tactic| (k_here; k_dflt (refine' kdt_getItem (knd := PySem.intKind _ _) ?N ?m ?d (intKind_is _ _ _ _) ?hl ?_; (case N => k_asm); (case m => k_mem); (case d => k_asm); (case hl => assumption); k_whole)))
local macro_rules | `(tactic| walk_at "delItem ref int") => `(tactic| (k_here; k_dflt (refine' x_del_miss ?N ?m ?d ?lo ?hh ?hl ?_; (case N => k_asm); (case m => k_mem); (case d => k_asm); (case lo => k_asm); (case hh => exact rfl); (case hl => assumption); k_whole); intro h' e' x'))
local macro_rules | `(tactic| walk_at "delItem ref int") => `(tactic| (k_here; k_dflt (refine' kob_del (knd := PySem.intKind _ _) ?F ?N ?U ?d (intKind_is _ _ _ _) ?l ?z ?_; (case F => k_asm); (case N => k_asm); (case U => k_updF); (case d => k_asm); (case l => assumption); (case z => first | assumption | (rw [sizeLine_eq]; assumption)); k_whole); intro h' o' F' N' hd'; (try dsimp only at N')))
theorem x_del_ownC3 {M : Model} {A : Around} {E : Value → Shared → Prop} {s : Shared} {K : Frag} {x C L f : Addr} {h₀ : Heap} {m : Str → Option Value} {ox : Obj} {od : Option Obj} {i : Value} {Q : Unit → Shared → Prop}
    (F : Fr h₀ L s.heap m) (X₀ : K.In h₀) (I : InstAt s.heap x ox C od) (hq : noSeq K C = true) (hs : findIn K (.ref C) "__delitem__" = some (some (.ref f))) (hf : isFn K (.ref f) = true)
    (h : wpAny M A (call (.ref f) [.ref x, i]) (fun _ s' => Q () s') E s) : wpAny M A (delItem (.ref x) i) Q E s := by
  have X := X₀.keeps F.keep
  unfold delItem sequenceKey
  refine wpAny_holding (wpAny_bind (wpAny_bind (I.type.here ?_)))
  refine wpAny_bind ((anyM_none X hq).here ?_)
  rw [if_pos (show (!false) = true from rfl)]
  exact wpAny_pure (wpAny_bind (special_fn X I hs (beq_iff_eq.mp hf) (wpAny_mono h (fun _ _ z => wpAny_pure z) fun _ _ z => z)))
local macro_rules | `(tactic| walk_at "delItem ref int") => `(tactic| (k_here; k_dflt (refine' x_del_ownC3 ?k1 ?k2 ?k3 ?k4 ?k5 ?k6 ?_; (case k1 => k_asm); (case k2 => k_asm); (case k3 => k_inst); (case k4 => k_is); (case k5 => k_is); (case k6 => k_is); k_whole)))
local macro_rules | `(tactic| walk_at "WhlIf") => `(tactic| (first | (refine WhlIf.yes (decide_eq_true (by omega)) ?_) | (refine WhlIf.no (decide_eq_false (by omega)) ?_)))
local macro_rules | `(tactic| walk_at "eval Dict nil nil") => `(tactic| (k_here; k_dflt (refine' newDict_K ?k1 ?k2 ?k3 ?_; (case k1 => k_asm); (case k2 => k_asm); (case k3 => first | exact Top.nolimit (by k_asm) | exact TopRead.nolimit (by k_asm)); k_whole); intro d' h' o' F' N' l1 lo' hs' fs' hi' fi'; (try k_lt l1)))
theorem add_genC3 {prog : Program} {w : World} {A : Around} {E : Value → Shared → Prop} {s : Shared} {a b : Int} {ta tb : Tok} {Q : Value → Shared → Prop} (h : ∀ t tk, Q (.int (a + b) t) { s with toks := tk }) : wpAny (model prog w) A (binaryOp .Add (.int a ta) (.int b tb)) Q E s := add_int (h _ _)
local macro_rules | `(tactic| walk_at "binaryOp Add int int") => `(tactic| (k_here; with_reducible (refine add_genC3 ?_); intro t' tk'))

set_option maxHeartbeats 4000000 in
theorem inc_spec {prog : Program} {w : World} {mean : ExcName → Option Value} {mg mb : Str → Option Value}
    {dp un : Nat} {gd : Option (List Code)} {cn : Str} {cs : Scope} {a : Addr} {ccd : Value} {cl : List (Str × Addr)} {outer : List Env} {A₀ : Around} {base h₀ : Heap} {L : Addr} {m : Str → Option Value} {s : Shared} {Q E : Value → Shared → Prop}
    {T : List (Addr × Obj)} {c cd dD k : Addr} {n : Int} {tn : Tok} {cap thr : Value}
    (B : Below A₀ base outer h₀) (F : Fr h₀ L s.heap m) (X : (Mine.hd.heap_39 w.params).In h₀)
    (N : News h₀ L s.heap ((c, lru cd dD k n tn cap thr) :: (cd, dictOf [] 0) :: T))
    (TP : Top Mine.hd.view_39 (looseW Mine.hd.view_39 [Str.ofString "itemgetter", Str.ofString "LRUCache"]) mean mg mb h₀) (hk : cs.kind = .function) (hc : @Ne Nat cd c) (hT : ∀ p ∈ T, p.1 ≠ c)
    (hd : dp + 1 < recursionLimit) (hu : un + 8 < cLine) (hn0 : 0 ≤ n) (hn1 : n ≤ 100)
    (ret : ∀ t h' tk', Fr h₀ L h' m → News h₀ L h' ((c, lru cd dD k (n+1) t cap thr) :: (cd, dictOf [] 0) :: T) → Q (.int (n+1) t) { s with heap := h', toks := tk' }) :
    wpAny (model prog w) (ktrTop dp un gd cn cs L a ccd cl outer) (call (.ref 116) [.ref c]) Q E s := by
  refine wpAny_call ?_
  k_dflt ktr_enter
  k_steps
  all_goals exact ret _ _ _ (by k_asm) (by k_asm)

set_option maxHeartbeats 4000000 in
theorem get_hit {prog : Program} {w : World} {mean : ExcName → Option Value} {mg mb : Str → Option Value}
    {dp un : Nat} {gd : Option (List Code)} {cn : Str} {cs : Scope} {a : Addr} {ccd : Value} {cl : List (Str × Addr)} {outer : List Env} {A₀ : Around} {base h₀ : Heap} {L : Addr} {m : Str → Option Value} {s : Shared} {Q E : Value → Shared → Prop}
    {T : List (Addr × Obj)} {c cd dD k : Addr} {n : Int} {tn : Tok} {cap thr : Value} {oD : Obj} {kvs : List (Int × Value)} {r : Row} {tk : Tok} {df : Value}
    (B : Below A₀ base outer h₀) (F : Fr h₀ L s.heap m) (X : (Mine.hd.heap_39 w.params).In h₀)
    (N : News h₀ L s.heap ((c, lru cd dD k n tn cap thr) :: (cd, dictOf [] 0) :: (dD, oD) :: (r.ta, rowTup r) :: (r.la, rowLst r) :: T))
    (TP : Top Mine.hd.view_39 (looseW Mine.hd.view_39 [Str.ofString "itemgetter", Str.ofString "LRUCache"]) mean mg mb h₀) (hk : cs.kind = .function) (hD : oD.IsDictOf (PySem.intKind prog w) kvs) (lo : (dD == sysModules) = false) (hv : valueAt kvs r.k = some (.ref r.ta))
    (hc : @Ne Nat cd c) (d1 : @Ne Nat dD c) (d2 : @Ne Nat r.ta c) (d3 : @Ne Nat r.la c) (hT : ∀ p ∈ T, p.1 ≠ c)
    (e1 : @Ne Nat c r.la) (e2 : @Ne Nat cd r.la) (e3 : @Ne Nat dD r.la) (e4 : @Ne Nat r.ta r.la) (hT2 : ∀ p ∈ T, p.1 ≠ r.la)
    (hd : dp + 2 < recursionLimit) (hu : un + 16 < cLine) (hn0 : 0 ≤ n) (hn1 : n ≤ 100)
    (ret : ∀ t n2 h' tk', Fr h₀ L h' m → News h₀ L h' ((c, lru cd dD k (n+1) t cap thr) :: (cd, dictOf [] 0) :: (dD, oD) :: (r.ta, rowTup r) :: (r.la, rowLst { r with st := n + 1, tt := t, n2 := n2 }) :: T) → Q r.v { s with heap := h', toks := tk' }) :
    wpAny (model prog w) (ktrTop dp un gd cn cs L a ccd cl outer) (call (.ref 124) [.ref c, .int r.k tk, df]) Q E s := by
  refine wpAny_call ?_
  k_dflt ktr_enter
  k_steps
  all_goals exact ret _ _ _ _ (by k_asm) (by k_asm)

set_option maxHeartbeats 4000000 in
theorem get_miss {prog : Program} {w : World} {mean : ExcName → Option Value} {mg mb : Str → Option Value}
    {dp un : Nat} {gd : Option (List Code)} {cn : Str} {cs : Scope} {a : Addr} {ccd : Value} {cl : List (Str × Addr)} {outer : List Env} {A₀ : Around} {base h₀ : Heap} {L : Addr} {m : Str → Option Value} {s : Shared} {Q E : Value → Shared → Prop}
    {T : List (Addr × Obj)} {c cd dD k : Addr} {n : Int} {tn : Tok} {cap thr : Value} {oD : Obj} {kvs : List (Int × Value)} {key : Int} {tk : Tok} {df : Value}
    (B : Below A₀ base outer h₀) (F : Fr h₀ L s.heap m) (X : (Mine.hd.heap_39 w.params).In h₀)
    (N : News h₀ L s.heap ((c, lru cd dD k n tn cap thr) :: (cd, dictOf [] 0) :: (dD, oD) :: T))
    (TP : Top Mine.hd.view_39 (looseW Mine.hd.view_39 [Str.ofString "itemgetter", Str.ofString "LRUCache"]) mean mg mb h₀) (hk : cs.kind = .function) (hD : oD.IsDictOf (PySem.intKind prog w) kvs) (lo : (dD == sysModules) = false) (hv : valueAt kvs key = none)
    (hd : dp + 2 < recursionLimit) (hu : un + 16 < cLine)
    (ret : ∀ h' tk', Fr h₀ L h' m → News h₀ L h' ((c, lru cd dD k n tn cap thr) :: (cd, dictOf [] 0) :: (dD, oD) :: T) → Q df { s with heap := h', toks := tk' }) :
    wpAny (model prog w) (ktrTop dp un gd cn cs L a ccd cl outer) (call (.ref 124) [.ref c, .int key tk, df]) Q E s := by
  refine wpAny_call ?_
  k_dflt ktr_enter
  k_steps
  all_goals exact ret _ _ (by k_asm) (by k_asm)

set_option maxHeartbeats 4000000 in
theorem item_hit {prog : Program} {w : World} {mean : ExcName → Option Value} {mg mb : Str → Option Value}
    {dp un : Nat} {gd : Option (List Code)} {cn : Str} {cs : Scope} {a : Addr} {ccd : Value} {cl : List (Str × Addr)} {outer : List Env} {A₀ : Around} {base h₀ : Heap} {L : Addr} {m : Str → Option Value} {s : Shared} {Q E : Value → Shared → Prop}
    {T : List (Addr × Obj)} {c cd dD k : Addr} {n : Int} {tn : Tok} {cap thr : Value} {oD : Obj} {kvs : List (Int × Value)} {r : Row} {tk : Tok}
    (B : Below A₀ base outer h₀) (F : Fr h₀ L s.heap m) (X : (Mine.hd.heap_39 w.params).In h₀)
    (N : News h₀ L s.heap ((c, lru cd dD k n tn cap thr) :: (cd, dictOf [] 0) :: (dD, oD) :: (r.ta, rowTup r) :: (r.la, rowLst r) :: T))
    (TP : Top Mine.hd.view_39 (looseW Mine.hd.view_39 [Str.ofString "itemgetter", Str.ofString "LRUCache"]) mean mg mb h₀) (hk : cs.kind = .function) (hD : oD.IsDictOf (PySem.intKind prog w) kvs) (lo : (dD == sysModules) = false) (hv : valueAt kvs r.k = some (.ref r.ta))
    (hc : @Ne Nat cd c) (d1 : @Ne Nat dD c) (d2 : @Ne Nat r.ta c) (d3 : @Ne Nat r.la c) (hT : ∀ p ∈ T, p.1 ≠ c)
    (e1 : @Ne Nat c r.la) (e2 : @Ne Nat cd r.la) (e3 : @Ne Nat dD r.la) (e4 : @Ne Nat r.ta r.la) (hT2 : ∀ p ∈ T, p.1 ≠ r.la)
    (hd : dp + 2 < recursionLimit) (hu : un + 16 < cLine) (hn0 : 0 ≤ n) (hn1 : n ≤ 100)
    (ret : ∀ t n2 h' tk', Fr h₀ L h' m → News h₀ L h' ((c, lru cd dD k (n+1) t cap thr) :: (cd, dictOf [] 0) :: (dD, oD) :: (r.ta, rowTup r) :: (r.la, rowLst { r with st := n + 1, tt := t, n2 := n2 }) :: T) → Q r.v { s with heap := h', toks := tk' }) :
    wpAny (model prog w) (ktrTop dp un gd cn cs L a ccd cl outer) (call (.ref 131) [.ref c, .int r.k tk]) Q E s := by
  refine wpAny_call ?_
  k_dflt ktr_enter
  k_steps
  all_goals exact ret _ _ _ _ (by k_asm) (by k_asm)

set_option maxHeartbeats 4000000 in
theorem del_hit {prog : Program} {w : World} {mean : ExcName → Option Value} {mg mb : Str → Option Value}
    {dp un : Nat} {gd : Option (List Code)} {cn : Str} {cs : Scope} {a : Addr} {ccd : Value} {cl : List (Str × Addr)} {outer : List Env} {A₀ : Around} {base h₀ : Heap} {L : Addr} {m : Str → Option Value} {s : Shared} {Q E : Value → Shared → Prop}
    {T : List (Addr × Obj)} {c cd dD k : Addr} {n : Int} {tn : Tok} {cap thr : Value} {oD : Obj} {kvs : List (Int × Value)} {key : Int} {tk : Tok}
    (B : Below A₀ base outer h₀) (F : Fr h₀ L s.heap m) (X : (Mine.hd.heap_39 w.params).In h₀)
    (N : News h₀ L s.heap ((c, lru cd dD k n tn cap thr) :: (cd, dictOf [] 0) :: (dD, oD) :: T))
    (TP : Top Mine.hd.view_39 (looseW Mine.hd.view_39 [Str.ofString "itemgetter", Str.ofString "LRUCache"]) mean mg mb h₀) (hk : cs.kind = .function) (hD : oD.IsDictOf (PySem.intKind prog w) kvs) (lo : (dD == sysModules) = false) (hv : (valueAt kvs key).isSome = true) (hz : kvs.length ≤ 16777216)
    (d1 : @Ne Nat c dD) (d2 : @Ne Nat cd dD) (hT : ∀ p ∈ T, p.1 ≠ dD)
    (hd : dp + 2 < recursionLimit) (hu : un + 16 < cLine)
    (ret : ∀ oD' h' tk', oD'.IsDictOf (PySem.intKind prog w) (without kvs key) → Fr h₀ L h' m → News h₀ L h' ((c, lru cd dD k n tn cap thr) :: (cd, dictOf [] 0) :: (dD, oD') :: T) → Q .none { s with heap := h', toks := tk' }) :
    wpAny (model prog w) (ktrTop dp un gd cn cs L a ccd cl outer) (call (.ref 159) [.ref c, .int key tk]) Q E s := by
  refine wpAny_call ?_
  k_dflt ktr_enter
  k_steps
  all_goals trace_state
  all_goals exact ret _ _ _ (by k_asm) (by k_asm) (by k_asm)

end Mine
end
section
namespace Mine
local macro_rules | `(tactic| walk_at "none of mine") => `(tactic| fail "none")
theorem fillC4 : True := by
  w_top off
  trivial


local macro_rules | `(tactic| k_room) => `(tactic| ktr_room)
local macro_rules | `(tactic| k_units) => `(tactic| ktr_units)
local macro_rules | `(tactic| ktr_enter) => `(tactic| (refine' code_def ?k1 ?k2 ?k3 ?k4 ?k5 ?kA ?kF ?kK ?k6 ?k7 ?k8 ?k9 ?kB ?_ ?c2 ?c3 ?c4 ?c5; (case kA => exact rfl); (case kF => exact rfl); (case kK => first | assumption | exact rfl); (case k1 => k_asm); (case k2 => k_asm); (case k3 => k_asm); (case k4 => k_asm); (case k5 => k_asm); (case k6 => k_is); (case k7 => k_is); (case k8 => ktr_room); (case k9 => first | exact BindsTo.of_eq rfl | exact binds_K (by k_in) rfl (by k_is) rfl rfl rfl | fail "ktr_enter: no rule for these arguments"); (case c5 => decide); (case kB => exact locs rfl); (case c2 => exact rfl); (case c3 => exact rfl); (case c4 => exact rfl); k_whole; intro g' L' h' FG' F' N' B' X' T'; (try dsimp only); (try k_fold)))
local macro_rules | `(tactic| k_lt $h:ident) => `(tactic| (replace $h := allLt_of $h; simp only [AllLt, and_true] at $h:ident; (try ((fail_if_success (rename AllLt _ _ => l6)); have l7 : AllLt _ _ := (by first | exact ($h).2 | exact ($h).2.2 | exact ($h).2.2.2 | exact ($h).2.2.2.2 | exact ($h).2.2.2.2.2 | exact ($h).2.2.2.2.2.2 | exact ($h).2.2.2.2.2.2.2 | exact ($h).2.2.2.2.2.2.2.2 | exact ($h).2.2.2.2.2.2.2.2.2 | exact ($h).2.2.2.2.2.2.2.2.2.2 | exact ($h).2.2.2.2.2.2.2.2.2.2.2 | exact ($h).2.2.2.2.2.2.2.2.2.2.2.2)))))
local macro_rules | `(tactic| k_all) => `(tactic| (refine' allLt_ne ?h6 ?h7; (case h6 => assumption); (case h7 => ((try dsimp only); omega))))
local macro_rules | `(tactic| k_all) => `(tactic| with_reducible assumption)
local macro_rules | `(tactic| walk_at "call builtin:len") => `(tactic| (k_here; (with_reducible show wpAny _ _ (call (Value.builtin "len") [Value.ref _]) _ _ _); k_dflt (refine' kda_len (knd := PySem.intKind _ _) ?N ?m ?d ?lo ?f ?_; (case N => k_asm); (case m => k_mem); (case d => k_asm); (case lo => k_asm); (case f => assumption); k_whole)))
local macro_rules | `(tactic| walk_at "getMethod ref") => `(tactic| (k_here; (with_reducible show wpAny _ _ (getMethod (Value.ref _) (Str.ofString "get") _) _ _ _); k_dflt (refine' kdg_method (knd := PySem.intKind _ _) ?N ?m ?d ?_; (case N => k_asm); (case m => k_mem); (case d => k_asm); k_whole)))
local macro_rules | `(tactic| walk_at "call builtin:dict.get") => `(tactic| (k_here; (with_reducible show wpAny _ _ (call (Value.builtin "dict.get") [Value.ref _, Value.int _ _]) _ _ _); k_dflt (refine' kdg_get1 (knd := PySem.intKind _ _) ?N ?m ?d ?lo (intKind_is _ _ _ _) _ ?hl ?_; (case N => k_asm); (case m => k_mem); (case d => k_asm); (case lo => k_asm); (case hl => assumption); k_whole; (try dsimp only [Option.getD]))))
local macro_rules | `(tactic| walk_at "subscriptTail") => `(tactic| (k_here; (with_reducible show wpAny _ _ (subscriptTail _ _ (Value.ref _) (Value.int _ _)) _ _ _); k_dflt (refine' kda_item (knd := PySem.intKind _ _) ?N ?m ?d (intKind_is _ _ _ _) ?hl ?_; (case N => k_asm); (case m => k_mem); (case d => k_asm); (case hl => assumption); k_whole)))
theorem x_get_missC4 {prog : Program} {w : World} {A : Around} {E : Value → Shared → Prop} {s : Shared} {h₀ : Heap} {L d : Addr} {news : List (Addr × Obj)} {o : Obj} {kvs : List (Int × Value)} {k : Int} {t : Tok} {Q : Value → Shared → Prop}
    (N : News h₀ L s.heap news) (hp : (d, o) ∈ news) (hd : o.IsDictOf (PySem.intKind prog w) kvs) (lo : (d == sysModules) = false) (hh : A.handled = none) (hl : valueAt kvs k = none)
    (h : ∀ h' e, Heap.NewExc s.heap h' e "KeyError" → E (.ref e) { s with heap := h', toks := s.toks + 1 }) : wpAny (model prog w) A (getItem (.ref d) (.int k t)) Q E s :=
  wpAny_getItem_missing_of (intKind_is _ _ _ _) lo hh (kda_dict N hp hd).mapOf hl h
local macro_rules | `(tactic| walk_at "getItem ref int") => `(tactic| (k_here; k_dflt (refine' x_get_missC4 ?N ?m ?d ?lo ?hh ?hl ?_; (case N => k_asm); (case m => k_mem); (case d => k_asm); (case lo => k_asm); (case hh => exact rfl); (case hl => assumption); k_whole); intro h' e' x'))
local macro_rules | `(tactic| walk_at "getItem ref int") => `(tactic| (k_here; k_dflt (refine' kdt_getItem (knd := PySem.intKind _ _) ?N ?m ?d (intKind_is _ _ _ _) ?hl ?_; (case N => k_asm); (case m => k_mem); (case d => k_asm); (case hl => assumption); k_whole)))
local macro_rules | `(tactic| walk_at "delItem ref int") => `(tactic| (k_here; k_dflt (refine' x_del_miss ?N ?m ?d ?lo ?hh ?hl ?_; (case N => k_asm); (case m => k_mem); (case d => k_asm); (case lo => k_asm); (case hh => exact rfl); (case hl => assumption); k_whole); intro h' e' x'))
local macro_rules | `(tactic| walk_at "delItem ref int") => `(tactic| (k_here; k_dflt (refine' kob_del (knd := PySem.intKind _ _) ?F ?N ?U ?d (intKind_is _ _ _ _) ?l ?z ?_; (case F => k_asm); (case N => k_asm); (case U => k_updF); (case d => k_asm); (case l => assumption); (case z => first | assumption | (rw [sizeLine_eq]; assumption)); k_whole); intro h' o' F' N' hd'; (try dsimp only at N')))
theorem x_del_ownC4 {M : Model} {A : Around} {E : Value → Shared → Prop} {s : Shared} {K : Frag} {x C L f : Addr} {h₀ : Heap} {m : Str → Option Value} {ox : Obj} {od : Option Obj} {i : Value} {Q : Unit → Shared → Prop}
    (F : Fr h₀ L s.heap m) (X₀ : K.In h₀) (I : InstAt s.heap x ox C od) (hq : noSeq K C = true) (hs : findIn K (.ref C) "__delitem__" = some (some (.ref f))) (hf : isFn K (.ref f) = true)
    (h : wpAny M A (call (.ref f) [.ref x, i]) (fun _ s' => Q () s') E s) : wpAny M A (delItem (.ref x) i) Q E s := by
  have X := X₀.keeps F.keep
  unfold delItem sequenceKey
  refine wpAny_holding (wpAny_bind (wpAny_bind (I.type.here ?_)))
  refine wpAny_bind ((anyM_none X hq).here ?_)
  rw [if_pos (show (!false) = true from rfl)]
  exact wpAny_pure (wpAny_bind (special_fn X I hs (beq_iff_eq.mp hf) (wpAny_mono h (fun _ _ z => wpAny_pure z) fun _ _ z => z)))
local macro_rules | `(tactic| walk_at "delItem ref int") => `(tactic| (k_here; k_dflt (refine' x_del_ownC4 ?k1 ?k2 ?k3 ?k4 ?k5 ?k6 ?_; (case k1 => k_asm); (case k2 => k_asm); (case k3 => k_inst); (case k4 => k_is); (case k5 => k_is); (case k6 => k_is); k_whole)))
local macro_rules | `(tactic| walk_at "WhlIf") => `(tactic| (first | (refine WhlIf.yes (decide_eq_true (by omega)) ?_) | (refine WhlIf.no (decide_eq_false (by omega)) ?_)))
local macro_rules | `(tactic| walk_at "eval Dict nil nil") => `(tactic| (k_here; k_dflt (refine' newDict_K ?k1 ?k2 ?k3 ?_; (case k1 => k_asm); (case k2 => k_asm); (case k3 => first | exact Top.nolimit (by k_asm) | exact TopRead.nolimit (by k_asm)); k_whole); intro d' h' o' F' N' l1 lo' hs' fs' hi' fi'; (try k_lt l1)))
theorem add_genC4 {prog : Program} {w : World} {A : Around} {E : Value → Shared → Prop} {s : Shared} {a b : Int} {ta tb : Tok} {Q : Value → Shared → Prop} (h : ∀ t tk, Q (.int (a + b) t) { s with toks := tk }) : wpAny (model prog w) A (binaryOp .Add (.int a ta) (.int b tb)) Q E s := add_int (h _ _)
local macro_rules | `(tactic| walk_at "binaryOp Add int int") => `(tactic| (k_here; with_reducible (refine add_genC4 ?_); intro t' tk'))

set_option maxHeartbeats 4000000 in
theorem read_hit {prog : Program} {w : World} {mean : ExcName → Option Value} {mg mb : Str → Option Value}
    {dp un : Nat} {gd : Option (List Code)} {cn : Str} {cs : Scope} {a : Addr} {ccd : Value} {cl : List (Str × Addr)} {outer : List Env} {A₀ : Around} {base h₀ : Heap} {L : Addr} {m : Str → Option Value} {s : Shared} {Q E : Value → Shared → Prop}
    {T : List (Addr × Obj)} {c cd dD k : Addr} {n : Int} {tn : Tok} {cap thr : Value} {oD : Obj} {kvs : List (Int × Value)} {r : Row} {tk : Tok}
    (B : Below A₀ base outer h₀) (F : Fr h₀ L s.heap m) (X : (Mine.hd.heap_39 w.params).In h₀)
    (N : News h₀ L s.heap ((c, lru cd dD k n tn cap thr) :: (cd, dictOf [] 0) :: (dD, oD) :: (r.ta, rowTup r) :: (r.la, rowLst r) :: T))
    (TP : Top Mine.hd.view_39 (looseW Mine.hd.view_39 [Str.ofString "itemgetter", Str.ofString "LRUCache"]) mean mg mb h₀) (hk : cs.kind = .function) (hD : oD.IsDictOf (PySem.intKind prog w) kvs) (lo : (dD == sysModules) = false) (hv : valueAt kvs r.k = some (.ref r.ta))
    (hc : @Ne Nat cd c) (d1 : @Ne Nat dD c) (d2 : @Ne Nat r.ta c) (d3 : @Ne Nat r.la c) (hT : ∀ p ∈ T, p.1 ≠ c)
    (e1 : @Ne Nat c r.la) (e2 : @Ne Nat cd r.la) (e3 : @Ne Nat dD r.la) (e4 : @Ne Nat r.ta r.la) (hT2 : ∀ p ∈ T, p.1 ≠ r.la)
    (hd : dp + 4 < recursionLimit) (hu : un + 32 < cLine) (hn0 : 0 ≤ n) (hn1 : n ≤ 100)
    (ret : ∀ t n2 h' tk', Fr h₀ L h' m → News h₀ L h' ((c, lru cd dD k (n+1) t cap thr) :: (cd, dictOf [] 0) :: (dD, oD) :: (r.ta, rowTup r) :: (r.la, rowLst { r with st := n + 1, tt := t, n2 := n2 }) :: T) → Q r.v { s with heap := h', toks := tk' }) :
    wpAny (model prog w) (ktrTop dp un gd cn cs L a ccd cl outer) (call (.ref 203) [.ref c, .int r.k tk]) Q E s := by
  refine wpAny_call ?_
  k_dflt ktr_enter
  k_steps
  all_goals exact ret _ _ _ _ (by k_asm) (by k_asm)

set_option maxHeartbeats 4000000 in
theorem read_miss {prog : Program} {w : World} {mean : ExcName → Option Value} {mg mb : Str → Option Value}
    {dp un : Nat} {gd : Option (List Code)} {cn : Str} {cs : Scope} {a : Addr} {ccd : Value} {cl : List (Str × Addr)} {A₀ : Around} {h₀ : Heap} {L : Addr} {m : Str → Option Value} {s : Shared} {Q E : Value → Shared → Prop}
    {T : List (Addr × Obj)} {c cd dD k : Addr} {n : Int} {tn : Tok} {cap thr : Value} {oD : Obj} {kvs : List (Int × Value)} {key : Int} {tk : Tok}
    (B : Below A₀ h₀ [] h₀) (F : Fr h₀ L s.heap m) (X : (Mine.hd.heap_39 w.params).In h₀)
    (N : News h₀ L s.heap ((c, lru cd dD k n tn cap thr) :: (cd, dictOf [] 0) :: (dD, oD) :: T))
    (TP : Top Mine.hd.view_39 (looseW Mine.hd.view_39 [Str.ofString "itemgetter", Str.ofString "LRUCache"]) mean mg mb h₀) (hk : cs.kind = .function) (hD : oD.IsDictOf (PySem.intKind prog w) kvs) (lo : (dD == sysModules) = false) (hv : valueAt kvs key = none)
    (hd : dp + 4 < recursionLimit) (hu : un + 32 < cLine)
    (ret : ∀ t h' tk', Fr h₀ L h' m → News h₀ L h' ((c, lru cd dD k n tn cap thr) :: (cd, dictOf [] 0) :: (dD, oD) :: T) → Q (.str (Str.ofString "no") t) { s with heap := h', toks := tk' }) :
    wpAny (model prog w) (ktrTop dp un gd cn cs L a ccd cl []) (call (.ref 203) [.ref c, .int key tk]) Q E s := by
  refine wpAny_call ?_
  k_dflt (refine' enterS ?k1 ?k2 ?k3 ?k4 ?k5 ?kA ?kF ?kK ?k6 ?k7 ?k8 ?k9 ?kB ?_ ?c2 ?c3 ?c4 ?c5; (case kA => exact rfl); (case kF => exact rfl); (case kK => first | assumption | exact rfl); (case k1 => k_asm); (case k2 => k_asm); (case k3 => k_asm); (case k4 => k_asm); (case k5 => k_asm); (case k6 => k_is); (case k7 => k_is); (case k8 => ktr_room); (case k9 => exact BindsTo.of_eq rfl); (case c5 => decide); (case kB => exact locs rfl); (case c2 => exact rfl); (case c3 => exact rfl); (case c4 => exact rfl); k_whole; intro g' L' h' FG' F' N' B' X' T' D'; (try dsimp only); (try k_fold))
  k_steps
  all_goals trace_state
  all_goals exact ret _ _ _ (by k_asm) (by k_asm)

set_option maxHeartbeats 4000000 in
theorem take_hit {prog : Program} {w : World} {mean : ExcName → Option Value} {mg mb : Str → Option Value}
    {dp un : Nat} {gd : Option (List Code)} {cn : Str} {cs : Scope} {a : Addr} {ccd : Value} {cl : List (Str × Addr)} {outer : List Env} {A₀ : Around} {base h₀ : Heap} {L : Addr} {m : Str → Option Value} {s : Shared} {Q E : Value → Shared → Prop}
    {T : List (Addr × Obj)} {c cd dD k : Addr} {n : Int} {tn : Tok} {cap thr : Value} {oD : Obj} {kvs : List (Int × Value)} {key : Int} {tk : Tok}
    (B : Below A₀ base outer h₀) (F : Fr h₀ L s.heap m) (X : (Mine.hd.heap_39 w.params).In h₀)
    (N : News h₀ L s.heap ((c, lru cd dD k n tn cap thr) :: (cd, dictOf [] 0) :: (dD, oD) :: T))
    (TP : Top Mine.hd.view_39 (looseW Mine.hd.view_39 [Str.ofString "itemgetter", Str.ofString "LRUCache"]) mean mg mb h₀) (hk : cs.kind = .function) (hD : oD.IsDictOf (PySem.intKind prog w) kvs) (lo : (dD == sysModules) = false) (hv : (valueAt kvs key).isSome = true) (hz : kvs.length ≤ 16777216)
    (d1 : @Ne Nat c dD) (d2 : @Ne Nat cd dD) (hT : ∀ p ∈ T, p.1 ≠ dD)
    (hd : dp + 4 < recursionLimit) (hu : un + 32 < cLine)
    (ret : ∀ oD' h' tk', oD'.IsDictOf (PySem.intKind prog w) (without kvs key) → Fr h₀ L h' m → News h₀ L h' ((c, lru cd dD k n tn cap thr) :: (cd, dictOf [] 0) :: (dD, oD') :: T) → Q (.bool true) { s with heap := h', toks := tk' }) :
    wpAny (model prog w) (ktrTop dp un gd cn cs L a ccd cl outer) (call (.ref 210) [.ref c, .int key tk]) Q E s := by
  refine wpAny_call ?_
  k_dflt ktr_enter
  k_steps
  all_goals exact ret _ _ _ (by k_asm) (by k_asm) (by k_asm)

set_option maxHeartbeats 4000000 in
theorem take_miss {prog : Program} {w : World} {mean : ExcName → Option Value} {mg mb : Str → Option Value}
    {dp un : Nat} {gd : Option (List Code)} {cn : Str} {cs : Scope} {a : Addr} {ccd : Value} {cl : List (Str × Addr)} {A₀ : Around} {h₀ : Heap} {L : Addr} {m : Str → Option Value} {s : Shared} {Q E : Value → Shared → Prop}
    {T : List (Addr × Obj)} {c cd dD k : Addr} {n : Int} {tn : Tok} {cap thr : Value} {oD : Obj} {kvs : List (Int × Value)} {key : Int} {tk : Tok}
    (B : Below A₀ h₀ [] h₀) (F : Fr h₀ L s.heap m) (X : (Mine.hd.heap_39 w.params).In h₀)
    (N : News h₀ L s.heap ((c, lru cd dD k n tn cap thr) :: (cd, dictOf [] 0) :: (dD, oD) :: T))
    (TP : Top Mine.hd.view_39 (looseW Mine.hd.view_39 [Str.ofString "itemgetter", Str.ofString "LRUCache"]) mean mg mb h₀) (hk : cs.kind = .function) (hD : oD.IsDictOf (PySem.intKind prog w) kvs) (lo : (dD == sysModules) = false) (hv : valueAt kvs key = none)
    (hd : dp + 4 < recursionLimit) (hu : un + 32 < cLine)
    (ret : ∀ h' tk', Fr h₀ L h' m → News h₀ L h' ((c, lru cd dD k n tn cap thr) :: (cd, dictOf [] 0) :: (dD, oD) :: T) → Q (.bool false) { s with heap := h', toks := tk' }) :
    wpAny (model prog w) (ktrTop dp un gd cn cs L a ccd cl []) (call (.ref 210) [.ref c, .int key tk]) Q E s := by
  refine wpAny_call ?_
  k_dflt (refine' enterS ?k1 ?k2 ?k3 ?k4 ?k5 ?kA ?kF ?kK ?k6 ?k7 ?k8 ?k9 ?kB ?_ ?c2 ?c3 ?c4 ?c5; (case kA => exact rfl); (case kF => exact rfl); (case kK => first | assumption | exact rfl); (case k1 => k_asm); (case k2 => k_asm); (case k3 => k_asm); (case k4 => k_asm); (case k5 => k_asm); (case k6 => k_is); (case k7 => k_is); (case k8 => ktr_room); (case k9 => exact BindsTo.of_eq rfl); (case c5 => decide); (case kB => exact locs rfl); (case c2 => exact rfl); (case c3 => exact rfl); (case c4 => exact rfl); k_whole; intro g' L' h' FG' F' N' B' X' T' D'; (try dsimp only); (try k_fold))
  k_steps
  all_goals trace_state
  all_goals exact ret _ _ (by k_asm) (by k_asm)
end Mine
end
section
namespace Mine
theorem fillC5a : True := by
  w_top off
  trivial

/-- the share over, as the cache and as the law hold it -/
inductive Thr : Value → Int → Int → Prop
  | half (t : Tok) : Thr (.float 4602678819172646912 t) 1 2
  | whole (num : Int) (t : Tok) (h0 : 0 ≤ num) (h2 : num ≤ 2) : Thr (.int num t) num 1
/-- room times the share; room and that; the law's den times that -/
inductive MulV : Value → Int → Int → Int → Prop
  | half (room : Int) (t : Tok) : MulV (.float (Float64.mul (Float64.ofInt room) 4602678819172646912) t) room 1 2
  | whole (room num : Int) (t : Tok) : MulV (.int (room * num) t) room num 1
inductive SumV : Value → Int → Int → Int → Prop
  | half (room : Int) (t : Tok) : SumV (.float (Float64.add (Float64.ofInt room) (Float64.mul (Float64.ofInt room) 4602678819172646912)) t) room 1 2
  | whole (room num : Int) (t : Tok) : SumV (.int (room + room * num) t) room num 1
inductive DenV : Value → Int → Int → Int → Prop
  | half (room : Int) (t : Tok) : DenV (.float (Float64.mul (Float64.ofInt 2) (Float64.add (Float64.ofInt room) (Float64.mul (Float64.ofInt room) 4602678819172646912))) t) room 1 2
  | whole (room num : Int) (t : Tok) : DenV (.int (1 * (room + room * num)) t) room num 1
theorem half_lt0 : ∀ c : Fin 5, ∀ l : Fin 8, (Float64.cmpInt (Float64.add (Float64.ofInt (c.val : Int)) (Float64.mul (Float64.ofInt (c.val : Int)) 4602678819172646912)) (l.val : Int) == some Ordering.lt) = decide (3 * (c.val : Int) < 2 * (l.val : Int)) := by decide +kernel
theorem half_lt {cap l : Int} (h0 : 0 ≤ cap) (h1 : cap ≤ 4) (h2 : 0 ≤ l) (h3 : l ≤ 7) : (Float64.cmpInt (Float64.add (Float64.ofInt cap) (Float64.mul (Float64.ofInt cap) 4602678819172646912)) l == some Ordering.lt) = decide (3 * cap < 2 * l) := by
  have e1 : cap = ((cap.toNat : Nat) : Int) := by omega
  have e2 : l = ((l.toNat : Nat) : Int) := by omega
  have := half_lt0 ⟨cap.toNat, by omega⟩ ⟨l.toNat, by omega⟩
  rw [e1, e2]
  exact this
theorem half_eq0 : ∀ c : Fin 5, (Float64.cmpInt (Float64.mul (Float64.ofInt 2) (Float64.add (Float64.ofInt (c.val : Int)) (Float64.mul (Float64.ofInt (c.val : Int)) 4602678819172646912))) ((c.val : Int) * (2 + 1)) == some Ordering.eq) = true := by decide +kernel
theorem half_eq {c : Int} (h0 : 0 ≤ c) (h1 : c ≤ 4) : (Float64.cmpInt (Float64.mul (Float64.ofInt 2) (Float64.add (Float64.ofInt c) (Float64.mul (Float64.ofInt c) 4602678819172646912))) (c * (2 + 1)) == some Ordering.eq) = true := by
  have e1 : c = ((c.toNat : Nat) : Int) := by omega
  have := half_eq0 ⟨c.toNat, by omega⟩
  rw [e1]
  exact this
section
variable {prog : Program} {w : World} {A : Around} {E : Value → Shared → Prop} {s : Shared} {thr v : Value} {room num den l : Int} {t : Tok} {Q : Value → Shared → Prop}
theorem thr_in (ht : Thr thr num den) : handedIn thr = true := by cases ht <;> rfl
theorem thr_mul (ht : Thr thr num den) (h0 : 0 ≤ room) (h1 : room ≤ 4) (h : ∀ v tk, MulV v room num den → Q v { s with toks := tk }) : wpAny (model prog w) A (binaryOp .Mult (.int room t) thr) Q E s := by
  cases ht with
  | half tq =>
    k_steps
    all_goals exact h _ _ (.half _ _)
  | whole _ tq g0 g2 =>
    k_steps
    all_goals exact h _ _ (.whole _ _ _)
theorem thr_add (hv : MulV v room num den) (h0 : 0 ≤ room) (h1 : room ≤ 4) (h : ∀ v tk, SumV v room num den → Q v { s with toks := tk }) : wpAny (model prog w) A (binaryOp .Add (.int room t) v) Q E s := by
  cases hv with
  | half _ tq =>
    k_steps
    all_goals exact h _ _ (.half _ _)
  | whole _ _ tq =>
    k_steps
    all_goals exact h _ _ (.whole _ _ _)
theorem thr_den (hv : SumV v room num den) (hn0 : 0 ≤ num) (hn2 : num ≤ 2) (h0 : 0 ≤ room) (h1 : room ≤ 4) (h : ∀ v tk, DenV v room num den → Q v { s with toks := tk }) : wpAny (model prog w) A (binaryOp .Mult (.int den t) v) Q E s := by
  cases hv with
  | half _ tq =>
    k_steps
    all_goals exact h _ _ (.half _ _)
  | whole _ _ tq =>
    k_steps
    all_goals exact h _ _ (.whole _ _ _)
theorem thr_gt (hv : SumV v room num den) (h0 : 0 ≤ room) (h1 : room ≤ 4) (l0 : 0 ≤ l) (l7 : l ≤ 7) (h : ∀ tk, Q (.bool (decide (room * (den + num) < den * l))) { s with toks := tk }) : wpAny (model prog w) A (compareOp .Gt (.int l t) v) Q E s := by
  cases hv with
  | half _ tq =>
    k_steps
    all_goals (rw [half_lt h0 h1 l0 l7, show decide (3 * room < 2 * l) = decide (room * (2 + 1) < 2 * l) from decide_eq_decide.mpr (by omega)]; exact h _)
  | whole _ _ tq =>
    k_steps
    all_goals (rw [show decide (room + room * num < l) = decide (room * (1 + num) < 1 * l) from decide_eq_decide.mpr (by rw [Int.mul_add, Int.mul_one, Int.one_mul])]; exact h _)
theorem thr_ne (hv : DenV v room num den) (h0 : 0 ≤ room) (h1 : room ≤ 4) (h : ∀ tk, Q (.bool false) { s with toks := tk }) : wpAny (model prog w) A (compareOp .NotEq v (.int (room * (den + num)) t)) Q E s := by
  cases hv with
  | half _ tq =>
    k_steps
    all_goals (rw [bne, half_eq h0 h1]; exact h _)
  | whole _ _ tq =>
    k_steps
    all_goals (rw [Int.one_mul, Int.mul_add, Int.mul_one, bne_self_eq_false]; exact h _)
theorem sum_out (hv : SumV v room num den) (h : Q v s) : wpAny (model prog w) A (handedOut v) Q E s := by
  cases hv <;> exact wpAny_pure h
theorem over_pos {cap : Int} (ht : Thr thr num den) (h0 : 0 ≤ cap) (h : cap * (den + num) < den * l) : 1 ≤ l := by
  cases ht with
  | half tq => omega
  | whole _ tq g0 g2 =>
    have := Int.mul_nonneg h0 (show (0 : Int) ≤ 1 + num by omega)
    rw [Int.one_mul] at h
    omega
theorem over_no {cap : Int} (ht : Thr thr num den) (h0 : 0 ≤ cap) (hl : l ≤ cap) : ¬ (cap * (den + num) < den * l) := by
  cases ht with
  | half tq => omega
  | whole _ tq g0 g2 =>
    have := Int.mul_nonneg h0 g0
    rw [Int.mul_add, Int.mul_one, Int.one_mul]
    omega
end
end Mine
end
section
namespace Mine
theorem fillC5 : True := by
  w_top off
  trivial


local macro_rules | `(tactic| k_room) => `(tactic| ktr_room)
local macro_rules | `(tactic| k_units) => `(tactic| ktr_units)
local macro_rules | `(tactic| ktr_enter) => `(tactic| (refine' code_def ?k1 ?k2 ?k3 ?k4 ?k5 ?kA ?kF ?kK ?k6 ?k7 ?k8 ?k9 ?kB ?_ ?c2 ?c3 ?c4 ?c5; (case kA => exact rfl); (case kF => exact rfl); (case kK => first | assumption | exact rfl); (case k1 => k_asm); (case k2 => k_asm); (case k3 => k_asm); (case k4 => k_asm); (case k5 => k_asm); (case k6 => k_is); (case k7 => k_is); (case k8 => ktr_room); (case k9 => first | exact BindsTo.of_eq rfl | exact binds_K (by k_in) rfl (by k_is) rfl rfl rfl | fail "ktr_enter: no rule for these arguments"); (case c5 => decide); (case kB => exact locs rfl); (case c2 => exact rfl); (case c3 => exact rfl); (case c4 => exact rfl); k_whole; intro g' L' h' FG' F' N' B' X' T'; (try dsimp only); (try k_fold)))
local macro_rules | `(tactic| k_lt $h:ident) => `(tactic| (replace $h := allLt_of $h; simp only [AllLt, and_true] at $h:ident; (try ((fail_if_success (rename AllLt _ _ => l6)); have l7 : AllLt _ _ := (by first | exact ($h).2 | exact ($h).2.2 | exact ($h).2.2.2 | exact ($h).2.2.2.2 | exact ($h).2.2.2.2.2 | exact ($h).2.2.2.2.2.2 | exact ($h).2.2.2.2.2.2.2 | exact ($h).2.2.2.2.2.2.2.2 | exact ($h).2.2.2.2.2.2.2.2.2 | exact ($h).2.2.2.2.2.2.2.2.2.2 | exact ($h).2.2.2.2.2.2.2.2.2.2.2 | exact ($h).2.2.2.2.2.2.2.2.2.2.2.2)))))
local macro_rules | `(tactic| k_all) => `(tactic| (refine' allLt_ne ?h6 ?h7; (case h6 => assumption); (case h7 => ((try dsimp only); omega))))
local macro_rules | `(tactic| k_all) => `(tactic| with_reducible assumption)
local macro_rules | `(tactic| walk_at "call builtin:len") => `(tactic| (k_here; (with_reducible show wpAny _ _ (call (Value.builtin "len") [Value.ref _]) _ _ _); k_dflt (refine' kda_len (knd := PySem.intKind _ _) ?N ?m ?d ?lo ?f ?_; (case N => k_asm); (case m => k_mem); (case d => k_asm); (case lo => k_asm); (case f => assumption); k_whole)))
local macro_rules | `(tactic| walk_at "getMethod ref") => `(tactic| (k_here; (with_reducible show wpAny _ _ (getMethod (Value.ref _) (Str.ofString "get") _) _ _ _); k_dflt (refine' kdg_method (knd := PySem.intKind _ _) ?N ?m ?d ?_; (case N => k_asm); (case m => k_mem); (case d => k_asm); k_whole)))
local macro_rules | `(tactic| walk_at "call builtin:dict.get") => `(tactic| (k_here; (with_reducible show wpAny _ _ (call (Value.builtin "dict.get") [Value.ref _, Value.int _ _]) _ _ _); k_dflt (refine' kdg_get1 (knd := PySem.intKind _ _) ?N ?m ?d ?lo (intKind_is _ _ _ _) _ ?hl ?_; (case N => k_asm); (case m => k_mem); (case d => k_asm); (case lo => k_asm); (case hl => assumption); k_whole; (try dsimp only [Option.getD]))))
local macro_rules | `(tactic| walk_at "subscriptTail") => `(tactic| (k_here; (with_reducible show wpAny _ _ (subscriptTail _ _ (Value.ref _) (Value.int _ _)) _ _ _); k_dflt (refine' kda_item (knd := PySem.intKind _ _) ?N ?m ?d (intKind_is _ _ _ _) ?hl ?_; (case N => k_asm); (case m => k_mem); (case d => k_asm); (case hl => assumption); k_whole)))
theorem x_get_missC5 {prog : Program} {w : World} {A : Around} {E : Value → Shared → Prop} {s : Shared} {h₀ : Heap} {L d : Addr} {news : List (Addr × Obj)} {o : Obj} {kvs : List (Int × Value)} {k : Int} {t : Tok} {Q : Value → Shared → Prop}
    (N : News h₀ L s.heap news) (hp : (d, o) ∈ news) (hd : o.IsDictOf (PySem.intKind prog w) kvs) (lo : (d == sysModules) = false) (hh : A.handled = none) (hl : valueAt kvs k = none)
    (h : ∀ h' e, Heap.NewExc s.heap h' e "KeyError" → E (.ref e) { s with heap := h', toks := s.toks + 1 }) : wpAny (model prog w) A (getItem (.ref d) (.int k t)) Q E s :=
  wpAny_getItem_missing_of (intKind_is _ _ _ _) lo hh (kda_dict N hp hd).mapOf hl h
local macro_rules | `(tactic| walk_at "getItem ref int") => `(tactic| (k_here; k_dflt (refine' x_get_missC5 ?N ?m ?d ?lo ?hh ?hl ?_; (case N => k_asm); (case m => k_mem); (case d => k_asm); (case lo => k_asm); (case hh => exact rfl); (case hl => assumption); k_whole); intro h' e' x'))
local macro_rules | `(tactic| walk_at "getItem ref int") => `(tactic| (k_here; k_dflt (refine' kdt_getItem (knd := PySem.intKind _ _) ?N ?m ?d (intKind_is _ _ _ _) ?hl ?_; (case N => k_asm); (case m => k_mem); (case d => k_asm); (case hl => assumption); k_whole)))
local macro_rules | `(tactic| walk_at "delItem ref int") => `(tactic| (k_here; k_dflt (refine' x_del_miss ?N ?m ?d ?lo ?hh ?hl ?_; (case N => k_asm); (case m => k_mem); (case d => k_asm); (case lo => k_asm); (case hh => exact rfl); (case hl => assumption); k_whole); intro h' e' x'))
local macro_rules | `(tactic| walk_at "delItem ref int") => `(tactic| (k_here; k_dflt (refine' kob_del (knd := PySem.intKind _ _) ?F ?N ?U ?d (intKind_is _ _ _ _) ?l ?z ?_; (case F => k_asm); (case N => k_asm); (case U => k_updF); (case d => k_asm); (case l => assumption); (case z => first | assumption | (rw [sizeLine_eq]; assumption)); k_whole); intro h' o' F' N' hd'; (try dsimp only at N')))
theorem x_del_ownC5 {M : Model} {A : Around} {E : Value → Shared → Prop} {s : Shared} {K : Frag} {x C L f : Addr} {h₀ : Heap} {m : Str → Option Value} {ox : Obj} {od : Option Obj} {i : Value} {Q : Unit → Shared → Prop}
    (F : Fr h₀ L s.heap m) (X₀ : K.In h₀) (I : InstAt s.heap x ox C od) (hq : noSeq K C = true) (hs : findIn K (.ref C) "__delitem__" = some (some (.ref f))) (hf : isFn K (.ref f) = true)
    (h : wpAny M A (call (.ref f) [.ref x, i]) (fun _ s' => Q () s') E s) : wpAny M A (delItem (.ref x) i) Q E s := by
  have X := X₀.keeps F.keep
  unfold delItem sequenceKey
  refine wpAny_holding (wpAny_bind (wpAny_bind (I.type.here ?_)))
  refine wpAny_bind ((anyM_none X hq).here ?_)
  rw [if_pos (show (!false) = true from rfl)]
  exact wpAny_pure (wpAny_bind (special_fn X I hs (beq_iff_eq.mp hf) (wpAny_mono h (fun _ _ z => wpAny_pure z) fun _ _ z => z)))
local macro_rules | `(tactic| walk_at "delItem ref int") => `(tactic| (k_here; k_dflt (refine' x_del_ownC5 ?k1 ?k2 ?k3 ?k4 ?k5 ?k6 ?_; (case k1 => k_asm); (case k2 => k_asm); (case k3 => k_inst); (case k4 => k_is); (case k5 => k_is); (case k6 => k_is); k_whole)))
local macro_rules | `(tactic| walk_at "WhlIf") => `(tactic| (first | (refine WhlIf.yes (decide_eq_true (by omega)) ?_) | (refine WhlIf.no (decide_eq_false (by omega)) ?_)))
local macro_rules | `(tactic| walk_at "eval Dict nil nil") => `(tactic| (k_here; k_dflt (refine' newDict_K ?k1 ?k2 ?k3 ?_; (case k1 => k_asm); (case k2 => k_asm); (case k3 => first | exact Top.nolimit (by k_asm) | exact TopRead.nolimit (by k_asm)); k_whole); intro d' h' o' F' N' l1 lo' hs' fs' hi' fi'; (try k_lt l1)))
theorem add_genC5 {prog : Program} {w : World} {A : Around} {E : Value → Shared → Prop} {s : Shared} {a b : Int} {ta tb : Tok} {Q : Value → Shared → Prop} (h : ∀ t tk, Q (.int (a + b) t) { s with toks := tk }) : wpAny (model prog w) A (binaryOp .Add (.int a ta) (.int b tb)) Q E s := add_int (h _ _)
local macro_rules | `(tactic| walk_at "binaryOp Add int int") => `(tactic| (k_here; with_reducible (refine add_genC5 ?_); intro t' tk'))

local macro_rules | `(tactic| k_handed) => `(tactic| exact thr_in (by assumption))
local macro_rules | `(tactic| walk_at "binaryOp Mult int") => `(tactic| (k_here; k_dflt (refine' thr_mul ?ht ?h0 ?h1 ?_; (case ht => assumption); (case h0 => assumption); (case h1 => assumption); k_whole); intro v' tk' hv'))
local macro_rules | `(tactic| walk_at "binaryOp Add int") => `(tactic| (k_here; k_dflt (refine' thr_add ?hv ?h0 ?h1 ?_; (case hv => assumption); (case h0 => assumption); (case h1 => assumption); k_whole); intro v' tk' hv'))
local macro_rules | `(tactic| walk_at "compareOp Gt int") => `(tactic| (k_here; k_dflt (refine' thr_gt ?hv ?h0 ?h1 ?l0 ?l7 ?_; (case hv => assumption); (case h0 => assumption); (case h1 => assumption); (case l0 => omega); (case l7 => omega); k_whole); intro tk'))
local macro_rules | `(tactic| walk_at "WhlIf") => `(tactic| (first | (refine WhlIf.yes (decide_eq_true (by assumption)) ?_) | (refine WhlIf.no (decide_eq_false (by assumption)) ?_) | (refine WhlIf.no (decide_eq_false (over_no (by assumption) (by assumption) (by omega))) ?_)))
set_option maxHeartbeats 4000000 in
theorem man_held {prog : Program} {w : World} {mean : ExcName → Option Value} {mg mb : Str → Option Value}
    {dp un : Nat} {gd : Option (List Code)} {cn : Str} {cs : Scope} {a : Addr} {ccd : Value} {cl : List (Str × Addr)} {outer : List Env} {A₀ : Around} {base h₀ : Heap} {L : Addr} {m : Str → Option Value} {s : Shared} {Q E : Value → Shared → Prop}
    {T : List (Addr × Obj)} {c cd dD k kd : Addr} {n : Int} {tn th : Tok} {cap thr : Value}
    (B : Below A₀ base outer h₀) (F : Fr h₀ L s.heap m) (X : (Mine.hd.heap_39 w.params).In h₀)
    (N : News h₀ L s.heap ((c, lru cd dD k n tn cap thr) :: (cd, dictOf [] 0) :: (k, instObj 46 kd) :: (kd, lockD w.params th true) :: T))
    (TP : Top Mine.hd.view_39 (looseW Mine.hd.view_39 [Str.ofString "itemgetter", Str.ofString "LRUCache"]) mean mg mb h₀) (hk : cs.kind = .function) 
    (hd : dp + 4 < recursionLimit) (hu : un + 32 < cLine)
    (ret : ∀ h' tk', Fr h₀ L h' m → News h₀ L h' ((c, lru cd dD k n tn cap thr) :: (cd, dictOf [] 0) :: (k, instObj 46 kd) :: (kd, lockD w.params th true) :: T) → Q .none { s with heap := h', toks := tk' }) :
    wpAny (model prog w) (ktrTop dp un gd cn cs L a ccd cl outer) (call (.ref 174) [.ref c]) Q E s := by
  refine wpAny_call ?_
  k_dflt ktr_enter
  k_steps
  all_goals exact ret _ _ (by k_asm) (by k_asm)

set_option maxHeartbeats 4000000 in
theorem man_idle {prog : Program} {w : World} {mean : ExcName → Option Value} {mg mb : Str → Option Value}
    {dp un : Nat} {gd : Option (List Code)} {cn : Str} {cs : Scope} {a : Addr} {ccd : Value} {cl : List (Str × Addr)} {outer : List Env} {A₀ : Around} {base h₀ : Heap} {L : Addr} {m : Str → Option Value} {s : Shared} {Q E : Value → Shared → Prop}
    {T : List (Addr × Obj)} {c cd dD k kd : Addr} {n cap num den : Int} {tn th tc : Tok} {thr : Value} {oD : Obj} {kvs : List (Int × Value)}
    (B : Below A₀ base outer h₀) (F : Fr h₀ L s.heap m) (X : (Mine.hd.heap_39 w.params).In h₀)
    (N : News h₀ L s.heap ((c, lru cd dD k n tn (.int cap tc) thr) :: (cd, dictOf [] 0) :: (dD, oD) :: (k, instObj 46 kd) :: (kd, lockD w.params th false) :: T))
    (TP : Top Mine.hd.view_39 (looseW Mine.hd.view_39 [Str.ofString "itemgetter", Str.ofString "LRUCache"]) mean mg mb h₀) (hk : cs.kind = .function) (hD : oD.IsDictOf (PySem.intKind prog w) kvs) (lo : (dD == sysModules) = false) (hz : kvs.length ≤ 16777216) (hz7 : kvs.length ≤ 7) (ht : Thr thr num den)
    (h0 : 0 ≤ cap) (h1 : cap ≤ 4) (hle : ¬ (cap * (den + num) < den * (kvs.length : Int)))
    (d1 : @Ne Nat c kd) (d2 : @Ne Nat cd kd) (d3 : @Ne Nat dD kd) (d4 : @Ne Nat k kd) (hT : ∀ p ∈ T, p.1 ≠ kd)
    (hd : dp + 4 < recursionLimit) (hu : un + 32 < cLine)
    (ret : ∀ h' tk', Fr h₀ L h' m → News h₀ L h' ((c, lru cd dD k n tn (.int cap tc) thr) :: (cd, dictOf [] 0) :: (dD, oD) :: (k, instObj 46 kd) :: (kd, lockD w.params th false) :: T) → Q .none { s with heap := h', toks := tk' }) :
    wpAny (model prog w) (ktrTop dp un gd cn cs L a ccd cl outer) (call (.ref 174) [.ref c]) Q E s := by
  refine wpAny_call ?_
  k_dflt ktr_enter
  k_steps
  all_goals exact ret _ _ (by k_asm) (by k_asm)

end Mine
end
section
namespace Mine
local macro_rules | `(tactic| walk_at "none of mine") => `(tactic| fail "none")
local macro_rules | `(tactic| walk_at "none of mine") => `(tactic| fail "none")
theorem fillC7 : True := by
  w_top off
  trivial


local macro_rules | `(tactic| k_room) => `(tactic| ktr_room)
local macro_rules | `(tactic| k_units) => `(tactic| ktr_units)
local macro_rules | `(tactic| ktr_enter) => `(tactic| (refine' code_def ?k1 ?k2 ?k3 ?k4 ?k5 ?kA ?kF ?kK ?k6 ?k7 ?k8 ?k9 ?kB ?_ ?c2 ?c3 ?c4 ?c5; (case kA => exact rfl); (case kF => exact rfl); (case kK => first | assumption | exact rfl); (case k1 => k_asm); (case k2 => k_asm); (case k3 => k_asm); (case k4 => k_asm); (case k5 => k_asm); (case k6 => k_is); (case k7 => k_is); (case k8 => ktr_room); (case k9 => first | exact BindsTo.of_eq rfl | exact binds_K (by k_in) rfl (by k_is) rfl rfl rfl | fail "ktr_enter: no rule for these arguments"); (case c5 => decide); (case kB => exact locs rfl); (case c2 => exact rfl); (case c3 => exact rfl); (case c4 => exact rfl); k_whole; intro g' L' h' FG' F' N' B' X' T'; (try dsimp only); (try k_fold)))
local macro_rules | `(tactic| k_lt $h:ident) => `(tactic| (replace $h := allLt_of $h; simp only [AllLt, and_true] at $h:ident; (try ((fail_if_success (rename AllLt _ _ => l6)); have l7 : AllLt _ _ := (by first | exact ($h).2 | exact ($h).2.2 | exact ($h).2.2.2 | exact ($h).2.2.2.2 | exact ($h).2.2.2.2.2 | exact ($h).2.2.2.2.2.2 | exact ($h).2.2.2.2.2.2.2 | exact ($h).2.2.2.2.2.2.2.2 | exact ($h).2.2.2.2.2.2.2.2.2 | exact ($h).2.2.2.2.2.2.2.2.2.2 | exact ($h).2.2.2.2.2.2.2.2.2.2.2 | exact ($h).2.2.2.2.2.2.2.2.2.2.2.2)))))
local macro_rules | `(tactic| k_all) => `(tactic| (refine' allLt_ne ?h6 ?h7; (case h6 => assumption); (case h7 => ((try dsimp only); omega))))
local macro_rules | `(tactic| k_all) => `(tactic| with_reducible assumption)
local macro_rules | `(tactic| walk_at "call builtin:len") => `(tactic| (k_here; (with_reducible show wpAny _ _ (call (Value.builtin "len") [Value.ref _]) _ _ _); k_dflt (refine' kda_len (knd := PySem.intKind _ _) ?N ?m ?d ?lo ?f ?_; (case N => k_asm); (case m => k_mem); (case d => k_asm); (case lo => k_asm); (case f => assumption); k_whole)))
local macro_rules | `(tactic| walk_at "getMethod ref") => `(tactic| (k_here; (with_reducible show wpAny _ _ (getMethod (Value.ref _) (Str.ofString "get") _) _ _ _); k_dflt (refine' kdg_method (knd := PySem.intKind _ _) ?N ?m ?d ?_; (case N => k_asm); (case m => k_mem); (case d => k_asm); k_whole)))
local macro_rules | `(tactic| walk_at "call builtin:dict.get") => `(tactic| (k_here; (with_reducible show wpAny _ _ (call (Value.builtin "dict.get") [Value.ref _, Value.int _ _]) _ _ _); k_dflt (refine' kdg_get1 (knd := PySem.intKind _ _) ?N ?m ?d ?lo (intKind_is _ _ _ _) _ ?hl ?_; (case N => k_asm); (case m => k_mem); (case d => k_asm); (case lo => k_asm); (case hl => assumption); k_whole; (try dsimp only [Option.getD]))))
local macro_rules | `(tactic| walk_at "subscriptTail") => `(tactic| (k_here; (with_reducible show wpAny _ _ (subscriptTail _ _ (Value.ref _) (Value.int _ _)) _ _ _); k_dflt (refine' kda_item (knd := PySem.intKind _ _) ?N ?m ?d (intKind_is _ _ _ _) ?hl ?_; (case N => k_asm); (case m => k_mem); (case d => k_asm); (case hl => assumption); k_whole)))
theorem x_get_missC7 {prog : Program} {w : World} {A : Around} {E : Value → Shared → Prop} {s : Shared} {h₀ : Heap} {L d : Addr} {news : List (Addr × Obj)} {o : Obj} {kvs : List (Int × Value)} {k : Int} {t : Tok} {Q : Value → Shared → Prop}
    (N : News h₀ L s.heap news) (hp : (d, o) ∈ news) (hd : o.IsDictOf (PySem.intKind prog w) kvs) (lo : (d == sysModules) = false) (hh : A.handled = none) (hl : valueAt kvs k = none)
    (h : ∀ h' e, Heap.NewExc s.heap h' e "KeyError" → E (.ref e) { s with heap := h', toks := s.toks + 1 }) : wpAny (model prog w) A (getItem (.ref d) (.int k t)) Q E s :=
  wpAny_getItem_missing_of (intKind_is _ _ _ _) lo hh (kda_dict N hp hd).mapOf hl h
local macro_rules | `(tactic| walk_at "getItem ref int") => `(tactic| (k_here; k_dflt (refine' x_get_missC7 ?N ?m ?d ?lo ?hh ?hl ?_; (case N => k_asm); (case m => k_mem); (case d => k_asm); (case lo => k_asm); (case hh => exact rfl); (case hl => assumption); k_whole); intro h' e' x'))
local macro_rules | `(tactic| walk_at "getItem ref int") => `(tactic| (k_here; k_dflt (refine' kdt_getItem (knd := PySem.intKind _ _) ?N ?m ?d (intKind_is _ _ _ _) ?hl ?_; (case N => k_asm); (case m => k_mem); (case d => k_asm); (case hl => assumption); k_whole)))
local macro_rules | `(tactic| walk_at "delItem ref int") => `(tactic| (k_here; k_dflt (refine' x_del_miss ?N ?m ?d ?lo ?hh ?hl ?_; (case N => k_asm); (case m => k_mem); (case d => k_asm); (case lo => k_asm); (case hh => exact rfl); (case hl => assumption); k_whole); intro h' e' x'))
local macro_rules | `(tactic| walk_at "delItem ref int") => `(tactic| (k_here; k_dflt (refine' kob_del (knd := PySem.intKind _ _) ?F ?N ?U ?d (intKind_is _ _ _ _) ?l ?z ?_; (case F => k_asm); (case N => k_asm); (case U => k_updF); (case d => k_asm); (case l => assumption); (case z => first | assumption | (rw [sizeLine_eq]; assumption)); k_whole); intro h' o' F' N' hd'; (try dsimp only at N')))
theorem x_del_ownC7 {M : Model} {A : Around} {E : Value → Shared → Prop} {s : Shared} {K : Frag} {x C L f : Addr} {h₀ : Heap} {m : Str → Option Value} {ox : Obj} {od : Option Obj} {i : Value} {Q : Unit → Shared → Prop}
    (F : Fr h₀ L s.heap m) (X₀ : K.In h₀) (I : InstAt s.heap x ox C od) (hq : noSeq K C = true) (hs : findIn K (.ref C) "__delitem__" = some (some (.ref f))) (hf : isFn K (.ref f) = true)
    (h : wpAny M A (call (.ref f) [.ref x, i]) (fun _ s' => Q () s') E s) : wpAny M A (delItem (.ref x) i) Q E s := by
  have X := X₀.keeps F.keep
  unfold delItem sequenceKey
  refine wpAny_holding (wpAny_bind (wpAny_bind (I.type.here ?_)))
  refine wpAny_bind ((anyM_none X hq).here ?_)
  rw [if_pos (show (!false) = true from rfl)]
  exact wpAny_pure (wpAny_bind (special_fn X I hs (beq_iff_eq.mp hf) (wpAny_mono h (fun _ _ z => wpAny_pure z) fun _ _ z => z)))
local macro_rules | `(tactic| walk_at "delItem ref int") => `(tactic| (k_here; k_dflt (refine' x_del_ownC7 ?k1 ?k2 ?k3 ?k4 ?k5 ?k6 ?_; (case k1 => k_asm); (case k2 => k_asm); (case k3 => k_inst); (case k4 => k_is); (case k5 => k_is); (case k6 => k_is); k_whole)))
local macro_rules | `(tactic| walk_at "WhlIf") => `(tactic| (first | (refine WhlIf.yes (decide_eq_true (by omega)) ?_) | (refine WhlIf.no (decide_eq_false (by omega)) ?_)))
local macro_rules | `(tactic| walk_at "eval Dict nil nil") => `(tactic| (k_here; k_dflt (refine' newDict_K ?k1 ?k2 ?k3 ?_; (case k1 => k_asm); (case k2 => k_asm); (case k3 => first | exact Top.nolimit (by k_asm) | exact TopRead.nolimit (by k_asm)); k_whole); intro d' h' o' F' N' l1 lo' hs' fs' hi' fi'; (try k_lt l1)))
theorem add_genC7 {prog : Program} {w : World} {A : Around} {E : Value → Shared → Prop} {s : Shared} {a b : Int} {ta tb : Tok} {Q : Value → Shared → Prop} (h : ∀ t tk, Q (.int (a + b) t) { s with toks := tk }) : wpAny (model prog w) A (binaryOp .Add (.int a ta) (.int b tb)) Q E s := add_int (h _ _)
local macro_rules | `(tactic| walk_at "binaryOp Add int int") => `(tactic| (k_here; with_reducible (refine add_genC7 ?_); intro t' tk'))

set_option maxHeartbeats 4000000 in
theorem getter_spec {prog : Program} {w : World} {mean : ExcName → Option Value} {mg mb : Str → Option Value}
    {dp un : Nat} {gd : Option (List Code)} {cn : Str} {cs : Scope} {a : Addr} {ccd : Value} {cl : List (Str × Addr)} {outer : List Env} {A₀ : Around} {base h₀ : Heap} {L : Addr} {m : Str → Option Value} {s : Shared} {Q E : Value → Shared → Prop}
    {T : List (Addr × Obj)} {q qd qt : Addr} {t2 : Tok} {nq : Nat} {r : Row}
    (B : Below A₀ base outer h₀) (F : Fr h₀ L s.heap m) (X : (Mine.hd.heap_39 w.params).In h₀)
    (N : News h₀ L s.heap ((q, { cls := .ref 90, dict := some qd, slots := #[some (.ref qt)] }) :: (qd, dictOf [] 0) :: (qt, { cls := .type "tuple", data := .seq #[.int 2 t2] nq }) :: (r.ta, rowTup r) :: T))
    (TP : Top Mine.hd.view_39 (looseW Mine.hd.view_39 [Str.ofString "itemgetter", Str.ofString "LRUCache"]) mean mg mb h₀) (hk : cs.kind = .function) 
    (hd : dp + 4 < recursionLimit) (hu : un + 32 < cLine)
    (ret : ∀ h' tk', Fr h₀ L h' m → News h₀ L h' ((q, { cls := .ref 90, dict := some qd, slots := #[some (.ref qt)] }) :: (qd, dictOf [] 0) :: (qt, { cls := .type "tuple", data := .seq #[.int 2 t2] nq }) :: (r.ta, rowTup r) :: T) → Q (.ref r.la) { s with heap := h', toks := tk' }) :
    wpAny (model prog w) (ktrTop dp un gd cn cs L a ccd cl outer) (call (.ref q) [.ref r.ta]) Q E s := by
  refine wpAny_call ?_
  k_dflt (refine' kco_code ?k1 ?k2 ?k3 ?k4 ?k5 ?k6 ?_; (case k1 => k_in); (case k2 => k_inst); (case k3 => rfl); (case k4 => k_is); (case k5 => k_is); (case k6 => k_is); (try dsimp only))
  k_dflt ktr_enter
  k_steps
  all_goals trace_state
  all_goals exact ret _ _ (by k_asm) (by k_asm)
end Mine
end
section
namespace Mine
local macro_rules | `(tactic| walk_at "none of mine") => `(tactic| fail "none")
local macro_rules | `(tactic| walk_at "none of mine") => `(tactic| fail "none")
local macro_rules | `(tactic| walk_at "none of mine") => `(tactic| fail "none")
theorem fillC8 : True := by
  w_top off
  trivial


local macro_rules | `(tactic| k_room) => `(tactic| ktr_room)
local macro_rules | `(tactic| k_units) => `(tactic| ktr_units)
local macro_rules | `(tactic| ktr_enter) => `(tactic| (refine' code_def ?k1 ?k2 ?k3 ?k4 ?k5 ?kA ?kF ?kK ?k6 ?k7 ?k8 ?k9 ?kB ?_ ?c2 ?c3 ?c4 ?c5; (case kA => exact rfl); (case kF => exact rfl); (case kK => first | assumption | exact rfl); (case k1 => k_asm); (case k2 => k_asm); (case k3 => k_asm); (case k4 => k_asm); (case k5 => k_asm); (case k6 => k_is); (case k7 => k_is); (case k8 => ktr_room); (case k9 => first | exact BindsTo.of_eq rfl | exact binds_K (by k_in) rfl (by k_is) rfl rfl rfl | fail "ktr_enter: no rule for these arguments"); (case c5 => decide); (case kB => exact locs rfl); (case c2 => exact rfl); (case c3 => exact rfl); (case c4 => exact rfl); k_whole; intro g' L' h' FG' F' N' B' X' T'; (try dsimp only); (try k_fold)))
local macro_rules | `(tactic| k_lt $h:ident) => `(tactic| (replace $h := allLt_of $h; simp only [AllLt, and_true] at $h:ident; (try ((fail_if_success (rename AllLt _ _ => l6)); have l7 : AllLt _ _ := (by first | exact ($h).2 | exact ($h).2.2 | exact ($h).2.2.2 | exact ($h).2.2.2.2 | exact ($h).2.2.2.2.2 | exact ($h).2.2.2.2.2.2 | exact ($h).2.2.2.2.2.2.2 | exact ($h).2.2.2.2.2.2.2.2 | exact ($h).2.2.2.2.2.2.2.2.2 | exact ($h).2.2.2.2.2.2.2.2.2.2 | exact ($h).2.2.2.2.2.2.2.2.2.2.2 | exact ($h).2.2.2.2.2.2.2.2.2.2.2.2)))))
local macro_rules | `(tactic| k_all) => `(tactic| (refine' allLt_ne ?h6 ?h7; (case h6 => assumption); (case h7 => ((try dsimp only); omega))))
local macro_rules | `(tactic| k_all) => `(tactic| with_reducible assumption)
local macro_rules | `(tactic| walk_at "call builtin:len") => `(tactic| (k_here; (with_reducible show wpAny _ _ (call (Value.builtin "len") [Value.ref _]) _ _ _); k_dflt (refine' kda_len (knd := PySem.intKind _ _) ?N ?m ?d ?lo ?f ?_; (case N => k_asm); (case m => k_mem); (case d => k_asm); (case lo => k_asm); (case f => assumption); k_whole)))
local macro_rules | `(tactic| walk_at "getMethod ref") => `(tactic| (k_here; (with_reducible show wpAny _ _ (getMethod (Value.ref _) (Str.ofString "get") _) _ _ _); k_dflt (refine' kdg_method (knd := PySem.intKind _ _) ?N ?m ?d ?_; (case N => k_asm); (case m => k_mem); (case d => k_asm); k_whole)))
local macro_rules | `(tactic| walk_at "call builtin:dict.get") => `(tactic| (k_here; (with_reducible show wpAny _ _ (call (Value.builtin "dict.get") [Value.ref _, Value.int _ _]) _ _ _); k_dflt (refine' kdg_get1 (knd := PySem.intKind _ _) ?N ?m ?d ?lo (intKind_is _ _ _ _) _ ?hl ?_; (case N => k_asm); (case m => k_mem); (case d => k_asm); (case lo => k_asm); (case hl => assumption); k_whole; (try dsimp only [Option.getD]))))
local macro_rules | `(tactic| walk_at "subscriptTail") => `(tactic| (k_here; (with_reducible show wpAny _ _ (subscriptTail _ _ (Value.ref _) (Value.int _ _)) _ _ _); k_dflt (refine' kda_item (knd := PySem.intKind _ _) ?N ?m ?d (intKind_is _ _ _ _) ?hl ?_; (case N => k_asm); (case m => k_mem); (case d => k_asm); (case hl => assumption); k_whole)))
theorem x_get_missC8 {prog : Program} {w : World} {A : Around} {E : Value → Shared → Prop} {s : Shared} {h₀ : Heap} {L d : Addr} {news : List (Addr × Obj)} {o : Obj} {kvs : List (Int × Value)} {k : Int} {t : Tok} {Q : Value → Shared → Prop}
    (N : News h₀ L s.heap news) (hp : (d, o) ∈ news) (hd : o.IsDictOf (PySem.intKind prog w) kvs) (lo : (d == sysModules) = false) (hh : A.handled = none) (hl : valueAt kvs k = none)
    (h : ∀ h' e, Heap.NewExc s.heap h' e "KeyError" → E (.ref e) { s with heap := h', toks := s.toks + 1 }) : wpAny (model prog w) A (getItem (.ref d) (.int k t)) Q E s :=
  wpAny_getItem_missing_of (intKind_is _ _ _ _) lo hh (kda_dict N hp hd).mapOf hl h
local macro_rules | `(tactic| walk_at "getItem ref int") => `(tactic| (k_here; k_dflt (refine' x_get_missC8 ?N ?m ?d ?lo ?hh ?hl ?_; (case N => k_asm); (case m => k_mem); (case d => k_asm); (case lo => k_asm); (case hh => exact rfl); (case hl => assumption); k_whole); intro h' e' x'))
local macro_rules | `(tactic| walk_at "getItem ref int") => `(tactic| (k_here; k_dflt (refine' kdt_getItem (knd := PySem.intKind _ _) ?N ?m ?d (intKind_is _ _ _ _) ?hl ?_; (case N => k_asm); (case m => k_mem); (case d => k_asm); (case hl => assumption); k_whole)))
local macro_rules | `(tactic| walk_at "delItem ref int") => `(tactic| (k_here; k_dflt (refine' x_del_miss ?N ?m ?d ?lo ?hh ?hl ?_; (case N => k_asm); (case m => k_mem); (case d => k_asm); (case lo => k_asm); (case hh => exact rfl); (case hl => assumption); k_whole); intro h' e' x'))
local macro_rules | `(tactic| walk_at "delItem ref int") => `(tactic| (k_here; k_dflt (refine' kob_del (knd := PySem.intKind _ _) ?F ?N ?U ?d (intKind_is _ _ _ _) ?l ?z ?_; (case F => k_asm); (case N => k_asm); (case U => k_updF); (case d => k_asm); (case l => assumption); (case z => first | assumption | (rw [sizeLine_eq]; assumption)); k_whole); intro h' o' F' N' hd'; (try dsimp only at N')))
theorem x_del_ownC8 {M : Model} {A : Around} {E : Value → Shared → Prop} {s : Shared} {K : Frag} {x C L f : Addr} {h₀ : Heap} {m : Str → Option Value} {ox : Obj} {od : Option Obj} {i : Value} {Q : Unit → Shared → Prop}
    (F : Fr h₀ L s.heap m) (X₀ : K.In h₀) (I : InstAt s.heap x ox C od) (hq : noSeq K C = true) (hs : findIn K (.ref C) "__delitem__" = some (some (.ref f))) (hf : isFn K (.ref f) = true)
    (h : wpAny M A (call (.ref f) [.ref x, i]) (fun _ s' => Q () s') E s) : wpAny M A (delItem (.ref x) i) Q E s := by
  have X := X₀.keeps F.keep
  unfold delItem sequenceKey
  refine wpAny_holding (wpAny_bind (wpAny_bind (I.type.here ?_)))
  refine wpAny_bind ((anyM_none X hq).here ?_)
  rw [if_pos (show (!false) = true from rfl)]
  exact wpAny_pure (wpAny_bind (special_fn X I hs (beq_iff_eq.mp hf) (wpAny_mono h (fun _ _ z => wpAny_pure z) fun _ _ z => z)))
local macro_rules | `(tactic| walk_at "delItem ref int") => `(tactic| (k_here; k_dflt (refine' x_del_ownC8 ?k1 ?k2 ?k3 ?k4 ?k5 ?k6 ?_; (case k1 => k_asm); (case k2 => k_asm); (case k3 => k_inst); (case k4 => k_is); (case k5 => k_is); (case k6 => k_is); k_whole)))
local macro_rules | `(tactic| walk_at "WhlIf") => `(tactic| (first | (refine WhlIf.yes (decide_eq_true (by omega)) ?_) | (refine WhlIf.no (decide_eq_false (by omega)) ?_)))
local macro_rules | `(tactic| walk_at "eval Dict nil nil") => `(tactic| (k_here; k_dflt (refine' newDict_K ?k1 ?k2 ?k3 ?_; (case k1 => k_asm); (case k2 => k_asm); (case k3 => first | exact Top.nolimit (by k_asm) | exact TopRead.nolimit (by k_asm)); k_whole); intro d' h' o' F' N' l1 lo' hs' fs' hi' fi'; (try k_lt l1)))
theorem add_genC8 {prog : Program} {w : World} {A : Around} {E : Value → Shared → Prop} {s : Shared} {a b : Int} {ta tb : Tok} {Q : Value → Shared → Prop} (h : ∀ t tk, Q (.int (a + b) t) { s with toks := tk }) : wpAny (model prog w) A (binaryOp .Add (.int a ta) (.int b tb)) Q E s := add_int (h _ _)
local macro_rules | `(tactic| walk_at "binaryOp Add int int") => `(tactic| (k_here; with_reducible (refine add_genC8 ?_); intro t' tk'))

abbrev getObj (qd qt : Addr) : Obj := { cls := .ref 90, dict := some qd, slots := #[some (.ref qt)] }
abbrev twoTup (t2 : Tok) (nq : Nat) : Obj := { cls := .type "tuple", data := .seq #[.int 2 t2] nq }
theorem sorted_spec {prog : Program} {w : World} {mean : ExcName → Option Value} {mg mb : Str → Option Value}
    {dp un : Nat} {gd : Option (List Code)} {cn : Str} {cs : Scope} {a : Addr} {ccd : Value} {cl : List (Str × Addr)} {outer : List Env} {A₀ : Around} {base h₀ : Heap} {L : Addr} {m : Str → Option Value} {s : Shared} {Q E : Value → Shared → Prop}
    {news : List (Addr × Obj)} {v dD q qd qt : Addr} {t2 : Tok} {nq : Nat} {oD : Obj} {rs : List Row}
    (B : Below A₀ base outer h₀) (F : Fr h₀ L s.heap m) (X : (Mine.hd.heap_39 w.params).In h₀)
    (N : News h₀ L s.heap news)
    (TP : Top Mine.hd.view_39 (looseW Mine.hd.view_39 [Str.ofString "itemgetter", Str.ofString "LRUCache"]) mean mg mb h₀) (hk : cs.kind = .function) (hD : oD.IsDictOf (PySem.intKind prog w) (rowsKv rs))
    (hv : (v, { cls := .type "dict_values", data := .fields #[.ref dD] }) ∈ news) (hdm : (dD, oD) ∈ news) (hq : (q, getObj qd qt) ∈ news) (hqd : (qd, dictOf [] 0) ∈ news) (hqt : (qt, twoTup t2 nq) ∈ news)
    (hr : ∀ r ∈ rs, (r.ta, rowTup r) ∈ news ∧ (r.la, rowLst r) ∈ news) (hnd : (rs.map (·.st)).Nodup) (h1 : 1 ≤ rs.length) (h6 : rs.length ≤ 6)
    (hd : dp + 8 < recursionLimit) (hu : un + 64 < cLine)
    (ret : ∀ D h' tk c rs', rs'.Perm rs → rs'.Pairwise (fun x y => y.st < x.st) → rs'.length = rs.length → Fr h₀ L h' m → News h₀ L h' ((D, listOf (List.toArray (tas rs')) c) :: news) → (∀ p ∈ news, p.1 < D) → Q (.ref D) { s with heap := h', toks := tk }) :
    wpAny (model prog w) (ktrTop dp un gd cn cs L a ccd cl outer) (call (.builtin "sorted") [.ref v] [(Str.ofString "key", .ref q), (Str.ofString "reverse", .bool true)]) Q E s := by
  refine x_sorted rfl F N hv hdm hD (fun r h => (hr r h).2) hnd h1 h6 (by show un + 2 < cLine; omega) (fun r hr' => ?_) fun D h' tk c rs' hp hw F' N' l1 => ret D h' tk c rs' hp hw hp.length_eq F' N' l1
  intro l h tk F1 N1 hl
  refine getter_spec (s := { s with heap := h, toks := tk }) (T := l) (q := q) (qd := qd) (qt := qt) (t2 := t2) (nq := nq) (dp := dp) (un := un + 2) B F1 X (news_sub N1 fun p hp => ?_) TP hk (by omega) (by omega) fun h' tk' F2 N2 => ⟨rfl, h', tk', rfl, F2, news_sub N2 fun p hp => .tail _ (.tail _ (.tail _ (.tail _ hp)))⟩
  rcases List.mem_cons.mp hp with rfl | hp
  · exact hl _ hq
  rcases List.mem_cons.mp hp with rfl | hp
  · exact hl _ hqd
  rcases List.mem_cons.mp hp with rfl | hp
  · exact hl _ hqt
  rcases List.mem_cons.mp hp with rfl | hp
  · exact hl _ (hr r hr').1
  · exact hp
end Mine
end
section
namespace Mine
theorem fillC6 : True := by
  w_top off
  trivial


local macro_rules | `(tactic| k_room) => `(tactic| ktr_room)
local macro_rules | `(tactic| k_units) => `(tactic| ktr_units)
local macro_rules | `(tactic| ktr_enter) => `(tactic| (refine' code_def ?k1 ?k2 ?k3 ?k4 ?k5 ?kA ?kF ?kK ?k6 ?k7 ?k8 ?k9 ?kB ?_ ?c2 ?c3 ?c4 ?c5; (case kA => exact rfl); (case kF => exact rfl); (case kK => first | assumption | exact rfl); (case k1 => k_asm); (case k2 => k_asm); (case k3 => k_asm); (case k4 => k_asm); (case k5 => k_asm); (case k6 => k_is); (case k7 => k_is); (case k8 => ktr_room); (case k9 => first | exact BindsTo.of_eq rfl | exact binds_K (by k_in) rfl (by k_is) rfl rfl rfl | fail "ktr_enter: no rule for these arguments"); (case c5 => decide); (case kB => exact locs rfl); (case c2 => exact rfl); (case c3 => exact rfl); (case c4 => exact rfl); k_whole; intro g' L' h' FG' F' N' B' X' T'; (try dsimp only); (try k_fold)))
local macro_rules | `(tactic| k_lt $h:ident) => `(tactic| (replace $h := allLt_of $h; simp only [AllLt, and_true] at $h:ident; (try ((fail_if_success (rename AllLt _ _ => l6)); have l7 : AllLt _ _ := (by first | exact ($h).2 | exact ($h).2.2 | exact ($h).2.2.2 | exact ($h).2.2.2.2 | exact ($h).2.2.2.2.2 | exact ($h).2.2.2.2.2.2 | exact ($h).2.2.2.2.2.2.2 | exact ($h).2.2.2.2.2.2.2.2 | exact ($h).2.2.2.2.2.2.2.2.2 | exact ($h).2.2.2.2.2.2.2.2.2.2 | exact ($h).2.2.2.2.2.2.2.2.2.2.2 | exact ($h).2.2.2.2.2.2.2.2.2.2.2.2)))))
local macro_rules | `(tactic| k_all) => `(tactic| (refine' allLt_ne ?h6 ?h7; (case h6 => assumption); (case h7 => ((try dsimp only); omega))))
local macro_rules | `(tactic| k_all) => `(tactic| with_reducible assumption)
local macro_rules | `(tactic| walk_at "call builtin:len") => `(tactic| (k_here; (with_reducible show wpAny _ _ (call (Value.builtin "len") [Value.ref _]) _ _ _); k_dflt (refine' kda_len (knd := PySem.intKind _ _) ?N ?m ?d ?lo ?f ?_; (case N => k_asm); (case m => k_mem); (case d => k_asm); (case lo => k_asm); (case f => assumption); k_whole)))
local macro_rules | `(tactic| walk_at "getMethod ref") => `(tactic| (k_here; (with_reducible show wpAny _ _ (getMethod (Value.ref _) (Str.ofString "get") _) _ _ _); k_dflt (refine' kdg_method (knd := PySem.intKind _ _) ?N ?m ?d ?_; (case N => k_asm); (case m => k_mem); (case d => k_asm); k_whole)))
local macro_rules | `(tactic| walk_at "call builtin:dict.get") => `(tactic| (k_here; (with_reducible show wpAny _ _ (call (Value.builtin "dict.get") [Value.ref _, Value.int _ _]) _ _ _); k_dflt (refine' kdg_get1 (knd := PySem.intKind _ _) ?N ?m ?d ?lo (intKind_is _ _ _ _) _ ?hl ?_; (case N => k_asm); (case m => k_mem); (case d => k_asm); (case lo => k_asm); (case hl => assumption); k_whole; (try dsimp only [Option.getD]))))
local macro_rules | `(tactic| walk_at "subscriptTail") => `(tactic| (k_here; (with_reducible show wpAny _ _ (subscriptTail _ _ (Value.ref _) (Value.int _ _)) _ _ _); k_dflt (refine' kda_item (knd := PySem.intKind _ _) ?N ?m ?d (intKind_is _ _ _ _) ?hl ?_; (case N => k_asm); (case m => k_mem); (case d => k_asm); (case hl => assumption); k_whole)))
theorem x_get_missC6 {prog : Program} {w : World} {A : Around} {E : Value → Shared → Prop} {s : Shared} {h₀ : Heap} {L d : Addr} {news : List (Addr × Obj)} {o : Obj} {kvs : List (Int × Value)} {k : Int} {t : Tok} {Q : Value → Shared → Prop}
    (N : News h₀ L s.heap news) (hp : (d, o) ∈ news) (hd : o.IsDictOf (PySem.intKind prog w) kvs) (lo : (d == sysModules) = false) (hh : A.handled = none) (hl : valueAt kvs k = none)
    (h : ∀ h' e, Heap.NewExc s.heap h' e "KeyError" → E (.ref e) { s with heap := h', toks := s.toks + 1 }) : wpAny (model prog w) A (getItem (.ref d) (.int k t)) Q E s :=
  wpAny_getItem_missing_of (intKind_is _ _ _ _) lo hh (kda_dict N hp hd).mapOf hl h
local macro_rules | `(tactic| walk_at "getItem ref int") => `(tactic| (k_here; k_dflt (refine' x_get_missC6 ?N ?m ?d ?lo ?hh ?hl ?_; (case N => k_asm); (case m => k_mem); (case d => k_asm); (case lo => k_asm); (case hh => exact rfl); (case hl => assumption); k_whole); intro h' e' x'))
local macro_rules | `(tactic| walk_at "getItem ref int") => `(tactic| (k_here; k_dflt (refine' kdt_getItem (knd := PySem.intKind _ _) ?N ?m ?d (intKind_is _ _ _ _) ?hl ?_; (case N => k_asm); (case m => k_mem); (case d => k_asm); (case hl => assumption); k_whole)))
local macro_rules | `(tactic| walk_at "delItem ref int") => `(tactic| (k_here; k_dflt (refine' x_del_miss ?N ?m ?d ?lo ?hh ?hl ?_; (case N => k_asm); (case m => k_mem); (case d => k_asm); (case lo => k_asm); (case hh => exact rfl); (case hl => assumption); k_whole); intro h' e' x'))
local macro_rules | `(tactic| walk_at "delItem ref int") => `(tactic| (k_here; k_dflt (refine' kob_del (knd := PySem.intKind _ _) ?F ?N ?U ?d (intKind_is _ _ _ _) ?l ?z ?_; (case F => k_asm); (case N => k_asm); (case U => k_updF); (case d => k_asm); (case l => assumption); (case z => first | assumption | (rw [sizeLine_eq]; assumption)); k_whole); intro h' o' F' N' hd'; (try dsimp only at N')))
theorem x_del_ownC6 {M : Model} {A : Around} {E : Value → Shared → Prop} {s : Shared} {K : Frag} {x C L f : Addr} {h₀ : Heap} {m : Str → Option Value} {ox : Obj} {od : Option Obj} {i : Value} {Q : Unit → Shared → Prop}
    (F : Fr h₀ L s.heap m) (X₀ : K.In h₀) (I : InstAt s.heap x ox C od) (hq : noSeq K C = true) (hs : findIn K (.ref C) "__delitem__" = some (some (.ref f))) (hf : isFn K (.ref f) = true)
    (h : wpAny M A (call (.ref f) [.ref x, i]) (fun _ s' => Q () s') E s) : wpAny M A (delItem (.ref x) i) Q E s := by
  have X := X₀.keeps F.keep
  unfold delItem sequenceKey
  refine wpAny_holding (wpAny_bind (wpAny_bind (I.type.here ?_)))
  refine wpAny_bind ((anyM_none X hq).here ?_)
  rw [if_pos (show (!false) = true from rfl)]
  exact wpAny_pure (wpAny_bind (special_fn X I hs (beq_iff_eq.mp hf) (wpAny_mono h (fun _ _ z => wpAny_pure z) fun _ _ z => z)))
local macro_rules | `(tactic| walk_at "delItem ref int") => `(tactic| (k_here; k_dflt (refine' x_del_ownC6 ?k1 ?k2 ?k3 ?k4 ?k5 ?k6 ?_; (case k1 => k_asm); (case k2 => k_asm); (case k3 => k_inst); (case k4 => k_is); (case k5 => k_is); (case k6 => k_is); k_whole)))
local macro_rules | `(tactic| walk_at "WhlIf") => `(tactic| (first | (refine WhlIf.yes (decide_eq_true (by omega)) ?_) | (refine WhlIf.no (decide_eq_false (by omega)) ?_)))
local macro_rules | `(tactic| walk_at "eval Dict nil nil") => `(tactic| (k_here; k_dflt (refine' newDict_K ?k1 ?k2 ?k3 ?_; (case k1 => k_asm); (case k2 => k_asm); (case k3 => first | exact Top.nolimit (by k_asm) | exact TopRead.nolimit (by k_asm)); k_whole); intro d' h' o' F' N' l1 lo' hs' fs' hi' fi'; (try k_lt l1)))
theorem add_genC6 {prog : Program} {w : World} {A : Around} {E : Value → Shared → Prop} {s : Shared} {a b : Int} {ta tb : Tok} {Q : Value → Shared → Prop} (h : ∀ t tk, Q (.int (a + b) t) { s with toks := tk }) : wpAny (model prog w) A (binaryOp .Add (.int a ta) (.int b tb)) Q E s := add_int (h _ _)
local macro_rules | `(tactic| walk_at "binaryOp Add int int") => `(tactic| (k_here; with_reducible (refine add_genC6 ?_); intro t' tk'))


local macro_rules | `(tactic| k_mem) => `(tactic| assumption)
theorem mem_ledC6 {rs : List Row} {T news : List (Addr × Obj)} (h : ∀ r ∈ rs, (r.ta, rowTup r) ∈ T ∧ (r.la, rowLst r) ∈ T) (hs : ∀ p ∈ T, p ∈ news) : ∀ r ∈ rs, (r.ta, rowTup r) ∈ news ∧ (r.la, rowLst r) ∈ news := fun r hr => ⟨hs _ (h r hr).1, hs _ (h r hr).2⟩
local macro_rules | `(tactic| walk_at "call builtin:sorted") => `(tactic| (k_here; k_dflt (refine' sorted_spec ?B ?F ?X ?N ?TP ?hk ?hD ?hv ?hdm ?hq ?hqd ?hqt ?hr ?hnd ?h1 ?h6 ?hd ?hu ?_; (case B => k_asm); (case F => k_asm); (case X => k_asm); (case N => k_asm); (case TP => k_asm); (case hk => exact rfl); (case hD => k_asm); (case hv => k_mem); (case hdm => k_mem); (case hq => k_mem); (case hqd => k_mem); (case hqt => k_mem); (case hr => (refine mem_ledC6 (by assumption) ?_; intro p9 h9; repeat (first | exact h9 | refine List.Mem.tail _ ?_))); (case hnd => assumption); (case h1 => omega); (case h6 => omega); (case hd => ktr_room); (case hu => ktr_units); k_whole); intro D' h' tk' c' rs' hp' hw' hl' F' N' l1; (try k_lt l1); (try dsimp only)))
local macro_rules | `(tactic| walk_at "subscriptTail Name Slice ref ref") => `(tactic| (k_here; k_dflt (refine' x_sliceR ?F ?N ?l ?h0 ?z ?s ?t ?_; (case F => k_asm); (case N => k_asm); (case l => k_mem); (case h0 => assumption); (case z => omega); (case s => with_unfolding_all rfl); (case t => (intro _; with_unfolding_all rfl)); k_whole); intro D' h' F' N' l1; (try k_lt l1)))
local macro_rules | `(tactic| walk_at "exec For Name Subscript cons nil") => `(tactic| (k_here; (rename Fr _ _ _ _ => lF'); (with_unfolding_all refine' For_invVF lF' ?k1 ?k2 ?_; (case k1 => exact rfl); (case k2 => exact rfl); k_whole)))

local macro_rules | `(tactic| k_handed) => `(tactic| exact thr_in (by assumption))
local macro_rules | `(tactic| walk_at "binaryOp Mult int") => `(tactic| (k_here; k_dflt (refine' thr_mul ?ht ?h0 ?h1 ?_; (case ht => assumption); (case h0 => assumption); (case h1 => assumption); k_whole); intro v' tk' hv'))
local macro_rules | `(tactic| walk_at "binaryOp Add int") => `(tactic| (k_here; k_dflt (refine' thr_add ?hv ?h0 ?h1 ?_; (case hv => assumption); (case h0 => assumption); (case h1 => assumption); k_whole); intro v' tk' hv'))
local macro_rules | `(tactic| walk_at "compareOp Gt int") => `(tactic| (k_here; k_dflt (refine' thr_gt ?hv ?h0 ?h1 ?l0 ?l7 ?_; (case hv => assumption); (case h0 => assumption); (case h1 => assumption); (case l0 => omega); (case l7 => omega); k_whole); intro tk'))
local macro_rules | `(tactic| walk_at "WhlIf") => `(tactic| (first | (refine WhlIf.yes (decide_eq_true (by assumption)) ?_) | (refine WhlIf.no (decide_eq_false (by assumption)) ?_) | (refine WhlIf.no (decide_eq_false (over_no (by assumption) (by assumption) (by omega))) ?_)))
set_option maxHeartbeats 4000000 in
theorem man_sq {prog : Program} {w : World} {mean : ExcName → Option Value} {mg mb : Str → Option Value}
    {dp un : Nat} {gd : Option (List Code)} {cn : Str} {cs : Scope} {a : Addr} {ccd : Value} {cl : List (Str × Addr)} {outer : List Env} {A₀ : Around} {base h₀ : Heap} {L : Addr} {m : Str → Option Value} {s : Shared} {Q E : Value → Shared → Prop}
    {T : List (Addr × Obj)} {c cd dD k kd : Addr} {n cap num den : Int} {tn th tc : Tok} {thr : Value} {oD : Obj} {rs : List Row}
    (B : Below A₀ base outer h₀) (F : Fr h₀ L s.heap m) (X : (Mine.hd.heap_39 w.params).In h₀)
    (N : News h₀ L s.heap ((c, lru cd dD k n tn (.int cap tc) thr) :: (cd, dictOf [] 0) :: (dD, oD) :: (k, instObj 46 kd) :: (kd, lockD w.params th false) :: T))
    (TP : Top Mine.hd.view_39 (looseW Mine.hd.view_39 [Str.ofString "itemgetter", Str.ofString "LRUCache"]) mean mg mb h₀) (hk : cs.kind = .function) (hD : oD.IsDictOf (PySem.intKind prog w) (rowsKv rs)) (lo : (dD == sysModules) = false) (hz : (rowsKv rs).length ≤ 16777216)
    (hTr : ∀ r ∈ rs, (r.ta, rowTup r) ∈ T ∧ (r.la, rowLst r) ∈ T) (hsn : (rs.map (·.st)).Nodup) (hkn : (rs.map (·.k)).Nodup) (h6 : rs.length ≤ 6)
    (h0 : 0 ≤ cap) (h1 : cap ≤ 4) (ht : Thr thr num den) (hle : cap * (den + num) < den * ((rowsKv rs).length : Int)) (hkl : (rowsKv rs).length = rs.length)
    (d1 : @Ne Nat c kd) (d2 : @Ne Nat cd kd) (d3 : @Ne Nat dD kd) (d4 : @Ne Nat k kd) (hT : ∀ p ∈ T, p.1 ≠ kd) (e1 : @Ne Nat c dD) (e2 : @Ne Nat cd dD) (e3 : @Ne Nat k dD) (e4 : @Ne Nat kd dD) (hT2 : ∀ p ∈ T, p.1 ≠ dD)
    (hd : dp + 10 < recursionLimit) (hu : un + 100 < cLine)
    (ret : ∀ (rs' : List Row) oD' h' tk', rs'.Perm rs → rs'.Pairwise (fun x y => y.st < x.st) → oD'.IsDictOf (PySem.intKind prog w) (rowsKv (less rs ((rs'.drop cap.toNat).map (·.k)))) →
      Fr h₀ L h' m → News h₀ L h' ((c, lru cd dD k n tn (.int cap tc) thr) :: (cd, dictOf [] 0) :: (dD, oD') :: (k, instObj 46 kd) :: (kd, lockD w.params th false) :: T) → Q .none { s with heap := h', toks := tk' }) :
    wpAny (model prog w) (ktrTop dp un gd cn cs L a ccd cl outer) (call (.ref 174) [.ref c]) Q E s := by
  refine wpAny_call ?_
  k_dflt ktr_enter
  have hlen : rs.length ≤ 16777216 := by omega
  have hr1 := over_pos ht h0 hle
  k_steps

  k_dflt (refine' iter_dels (prog := prog) (w := w) (dD := dD) (oD := oD) (rs := rs) ?hh ?U ?hD ?hl ?hne ?F ?N ?hnd ?hin ?turn ?done)
  (case hh => rfl)
  (case F => k_asm)
  (case N => k_asm)
  (case U => k_updF)
  (case hD => k_asm)
  (case hl => k_mem)
  (case hne => k_ne)
  (case hnd => exact dels_nodup (by assumption) hkn _)
  (case hin => exact dels_in (by assumption) _)
  (case turn =>
    intro r hr kvs oD₁ h9 tk9 I oI hD₁ hs9 hl9 hI F9 N9
    dsimp only at N9
    have hp9 : ∃ rs' : List Row, rs'.Perm rs ∧ r ∈ rs' := ⟨_, by assumption, List.mem_of_mem_drop hr⟩
    obtain ⟨rs9, hp9, hr9⟩ := hp9
    have hmem : (r.ta, rowTup r) ∈ T := (hTr r (hp9.mem_iff.mp hr9)).1
    have hz9 : kvs.length ≤ 16777216 := by omega
    k_lt hI
    k_steps
    all_goals (refine' DelEnd.intro ?e1 ?e3 ?e4 ?e2; (case e1 => k_asm); (case e3 => k_asm); (case e4 => k_asm); (case e2 => (intro z hz; exact if_neg hz))))
  (case done =>
    intro u oD₁ h9 tk9 hD₁ F9 N9
    dsimp only at N9
    have hs9 : ∃ rs' : List Row, rs'.Perm rs ∧ rs'.Pairwise (fun x y => y.st < x.st) ∧ oD₁.IsDictOf (PySem.intKind prog w) (rowsKv (less rs ((rs'.drop cap.toNat).map (·.k)))) := ⟨_, by assumption, by assumption, hD₁⟩
    have hl9 := less_size (rs := rs) (by assumption) hkn cap.toNat
    have hz9 : (rowsKv (less rs _)).length ≤ 16777216 := Nat.le_trans hl9 (by omega)
    k_steps
    all_goals (
      obtain ⟨rs8, hp8, hw8, hD8⟩ := hs9
      refine ret rs8 oD₁ _ _ hp8 hw8 hD8 (by k_asm) (news_sub (by k_asm) ?_)
      intro p8 h8
      repeat (first | exact h8 | refine List.Mem.tail _ ?_)))

end Mine
end
section
namespace Mine
/-- the law's own text, taken out of the given program by projections -/
def bodyOf : Stmt → List Stmt
  | .FunctionDef _ _ b _ _ _ _ _ _ _ => b
  | .For _ _ b _ _ => b
  | _ => []
def scopeOf : Stmt → Scope
  | .FunctionDef _ _ _ _ _ _ s _ _ _ => s
  | _ => default
def lastOf : List Stmt → Stmt
  | [] => default
  | [a] => a
  | _ :: b :: r => lastOf (b :: r)
def forsOf : List Stmt → List Stmt
  | [] => []
  | .For t i b o p :: r => .For t i b o p :: forsOf r
  | _ :: r => forsOf r
def headOf : List Stmt → Stmt
  | [] => default
  | a :: _ => a
def lawDef : Stmt := lastOf PySem.Challenge.pw_ep5039_01.main.body
def lawScope : Scope := scopeOf lawDef
/-- the body of the law's first loop -/
def turnBody : List Stmt := bodyOf (headOf (forsOf (bodyOf lawDef)))
/-- the body of the law's second loop -/
def askBody : List Stmt := bodyOf (lastOf (forsOf (bodyOf lawDef)))

abbrev intsL (es : List (Int × Tok)) (ne : Nat) : Obj := listOf (es.map fun p => Value.int p.1 p.2).toArray ne
abbrev qTup (v : Value) (st : Int) (t : Tok) (n : Nat) : Obj := { cls := .type "tuple", data := .seq #[v, .int st t] n }
/-- the fixed places, apart -/
structure Dist (c cd dD k kd rd ck : Addr) : Prop where
  d12 : @Ne Nat c cd
  d13 : @Ne Nat c dD
  d14 : @Ne Nat c k
  d15 : @Ne Nat c kd
  d16 : @Ne Nat c rd
  d17 : @Ne Nat c ck
  d23 : @Ne Nat cd dD
  d24 : @Ne Nat cd k
  d25 : @Ne Nat cd kd
  d26 : @Ne Nat cd rd
  d27 : @Ne Nat cd ck
  d34 : @Ne Nat dD k
  d35 : @Ne Nat dD kd
  d36 : @Ne Nat dD rd
  d37 : @Ne Nat dD ck
  d45 : @Ne Nat k kd
  d46 : @Ne Nat k rd
  d47 : @Ne Nat k ck
  d56 : @Ne Nat kd rd
  d57 : @Ne Nat kd ck
  d67 : @Ne Nat rd ck
/-- the free tail, apart from the fixed places -/
structure Offs (T : List (Addr × Obj)) (c cd dD k kd rd ck : Addr) : Prop where
  o1 : ∀ p ∈ T, p.1 ≠ c
  o2 : ∀ p ∈ T, p.1 ≠ cd
  o3 : ∀ p ∈ T, p.1 ≠ dD
  o4 : ∀ p ∈ T, p.1 ≠ k
  o5 : ∀ p ∈ T, p.1 ≠ kd
  o6 : ∀ p ∈ T, p.1 ≠ rd
  o7 : ∀ p ∈ T, p.1 ≠ ck
def TT (T : List (Addr × Obj)) : Prop := ∀ p ∈ T, p.2.cls = .type "tuple" ∨ p.2.cls = .type "list" ∨ p.2.cls = .type "range_iterator"
def RowsIn (rs : List Row) (T : List (Addr × Obj)) : Prop := ∀ r ∈ rs, (r.ta, rowTup r) ∈ T ∧ (r.la, rowLst r) ∈ T
/-- the cache's rows -/
structure Cac (prog : Program) (w : World) (rs : List Row) (oD : Obj) (T : List (Addr × Obj)) (e : Addr) (n : Int) : Prop where
  d : oD.IsDictOf (PySem.intKind prog w) (rowsKv rs)
  rin : RowsIn rs T
  kn : (rs.map (·.k)).Nodup
  kb : ∀ r ∈ rs, 0 ≤ r.k ∧ r.k ≤ 5
  sn : (rs.map (·.st)).Nodup
  sb : ∀ r ∈ rs, r.st ≤ n
  ln : (rs.map (·.la)).Nodup
  le : ∀ r ∈ rs, r.la ≠ e
  tt : TT T
  vb : ∀ r ∈ rs, r.v = .none ∨ ∃ j t, r.v = .int j t
/-- the law's rows -/
structure Lw (prog : Program) (w : World) (rs : List Row) (qs : List (Int × Value)) (oR : Obj) (T : List (Addr × Obj)) : Prop where
  d : oR.IsDictOf (PySem.intKind prog w) qs
  kn : (qs.map (·.1)).Nodup
  kb : ∀ q ∈ qs, 0 ≤ q.1 ∧ q.1 ≤ 5
  q : ∀ r ∈ rs, ∃ qa t1 n1, valueAt qs r.k = some (.ref qa) ∧ (qa, qTup r.v r.st t1 n1) ∈ T
/-- a touch of one key: its row has this value and stamp, the others stand as they stood -/
def Up (rs rs' : List Row) (key : Int) (v : Value) (st : Int) : Prop := ∀ x ∈ rs', (x.k = key ∧ x.v = v ∧ x.st = st) ∨ (x.k ≠ key ∧ x ∈ rs)
def Over (rs : List Row) (room num den : Int) : Prop := room * (den + num) < den * (rs.length : Int)
/-- what a squeeze leaves -/
def Sq (rs rs2 : List Row) (room num den : Int) : Prop :=
  (¬ Over rs room num den ∧ rs2 = rs) ∨ (Over rs room num den ∧ ∃ rs' : List Row, rs'.Perm rs ∧ rs'.Pairwise (fun x y => y.st < x.st) ∧ rs2 = less rs ((rs'.drop room.toNat).map (·.k)))
def Sqz (held : Bool) (rs rs2 : List Row) (room num den : Int) : Prop := (held = true ∧ rs2 = rs) ∨ (held = false ∧ Sq rs rs2 room num den)
/-- the law's frame: what each of its names holds -/
def lm (a1 a2 a3 a4 a5 a6 a7 a8 a9 a10 a11 a12 a13 a14 a15 a16 a17 : Option Value) : Str → Option Value := fun y => if y = Str.ofString "script" then a1 else if y = Str.ofString "head" then a2 else if y = Str.ofString "room" then a3 else if y = Str.ofString "num" then a4 else if y = Str.ofString "den" then a5 else if y = Str.ofString "c" then a6 else if y = Str.ofString "lock" then a7 else if y = Str.ofString "entry" then a8 else if y = Str.ofString "rows" then a9 else if y = Str.ofString "counter" then a10 else if y = Str.ofString "held" then a11 else if y = Str.ofString "i" then a12 else if y = Str.ofString "x" then a13 else if y = Str.ofString "kind" then a14 else if y = Str.ofString "more" then a15 else if y = Str.ofString "value" then a16 else if y = Str.ofString "told" then a17 else none
end Mine
end
section
open PySem PySem.W PyProof.Rows PyProof.V PySem.Spec
namespace Mine
section
variable {prog : Program} {w : World} {A : Around} {E : Value → Shared → Prop} {s : Shared} {h₀ : Heap} {L a b : Addr} {m : Str → Option Value} {news : List (Addr × Obj)} {vs us : List Value} {ns ms : List Int} {n1 n2 : Nat} {k : Int} {t : Tok} {Q : Value → Shared → Prop}
theorem x_list (N : News h₀ L s.heap news) (m1 : (a, listOf vs.toArray n1) ∈ news) : s.heap.IsList a vs.toArray := ⟨_, (N _ m1).1, rfl, n1, rfl⟩
theorem x_ne_ints (N : News h₀ L s.heap news) (m1 : (a, listOf vs.toArray n1) ∈ news) (m2 : (b, listOf us.toArray n2) ∈ news) (i1 : IntsAre vs ns) (i2 : IntsAre us ns) (hu : A.units + 64 < cLine)
    (h : Q (.bool false) s) : wpAny (model prog w) A (compareOp .NotEq (.ref a) (.ref b)) Q E s :=
  ne_intsK (x_list N m1) i1 (x_list N m2) i2 hu (by rw [decide_eq_true rfl]; exact h)
theorem any_key {ns : List Int} {k : Int} : (ns.any (· == k)) = decide (k ∈ ns) := by
  rw [Bool.eq_iff_iff, List.any_eq_true, decide_eq_true_iff]
  constructor
  · rintro ⟨x, hx, e⟩; rw [← beq_iff_eq.mp e]; exact hx
  · intro h; exact ⟨k, h, beq_self_eq_true k⟩
theorem x_in_yes (N : News h₀ L s.heap news) (m1 : (a, listOf vs.toArray n1) ∈ news) (i1 : IntsAre vs ns) (hin : k ∈ ns) (h : Q (.bool true) s) : wpAny (model prog w) A (compareOp .In (.int k t) (.ref a)) Q E s :=
  in_list_ints (x_list N m1) i1 (by rw [any_key, decide_eq_true hin]; exact h)
theorem x_in_no (N : News h₀ L s.heap news) (m1 : (a, listOf vs.toArray n1) ∈ news) (i1 : IntsAre vs ns) (hin : k ∉ ns) (h : Q (.bool false) s) : wpAny (model prog w) A (compareOp .In (.int k t) (.ref a)) Q E s :=
  in_list_ints (x_list N m1) i1 (by rw [any_key, decide_eq_false hin]; exact h)
theorem x_notin_yes (N : News h₀ L s.heap news) (m1 : (a, listOf vs.toArray n1) ∈ news) (i1 : IntsAre vs ns) (hin : k ∈ ns) (h : Q (.bool false) s) : wpAny (model prog w) A (compareOp .NotIn (.int k t) (.ref a)) Q E s :=
  notin_list_ints (x_list N m1) i1 (by rw [any_key, decide_eq_true hin]; exact h)
theorem x_notin_no (N : News h₀ L s.heap news) (m1 : (a, listOf vs.toArray n1) ∈ news) (i1 : IntsAre vs ns) (hin : k ∉ ns) (h : Q (.bool true) s) : wpAny (model prog w) A (compareOp .NotIn (.int k t) (.ref a)) Q E s :=
  notin_list_ints (x_list N m1) i1 (by rw [any_key, decide_eq_false hin]; exact h)
theorem x_add_one (F : Fr h₀ L s.heap m) (N : News h₀ L s.heap news) (m1 : (a, listOf vs.toArray n1) ∈ news) (m2 : (b, listOf #[.int k t] n2) ∈ news) (i1 : IntsAre vs ns) (hz : ns.length ≤ 1000)
    (h : ∀ D us h', Fr h₀ L h' m → News h₀ L h' ((D, listOf (List.toArray us) 0) :: news) → (∀ p ∈ news, p.1 < D) → IntsAre us (ns ++ [k]) → Q (.ref D) { s with heap := h' }) :
    wpAny (model prog w) A (binaryOp .Add (.ref a) (.ref b)) Q E s :=
  kmk_add_ints (vs := vs) (ws := [.int k t]) F N (x_list N m1) (x_list (vs := [.int k t]) N m2) i1 (.cons _ _ .nil) h (by rw [sizeLine_eq]; simp only [List.length_cons, List.length_nil]; omega)
theorem x_len (N : News h₀ L s.heap news) (m1 : (a, listOf vs.toArray n1) ∈ news) (i1 : IntsAre vs ns) (hz : ns.length ≤ 1000) (h : Q (.int ns.length (s.toks + 1)) { s with toks := s.toks + 1 + 1 }) : wpAny (model prog w) A (call (.builtin "len") [.ref a]) Q E s := by
  have e : vs.toArray.size = ns.length := by rw [List.size_toArray]; exact IntsAre.length i1
  exact len_list (x_list N m1) (by rw [e]; omega) (by rw [e]; exact h)
theorem x_sorted_ints (F : Fr h₀ L s.heap m) (N : News h₀ L s.heap news) (m1 : (a, listOf vs.toArray n1) ∈ news) (i1 : IntsAre vs ns) (h64 : ns.length ≤ 6)
    (h : ∀ D vs' ns' c h', Fr h₀ L h' m → News h₀ L h' ((D, listOf vs'.toArray c) :: news) → (∀ q ∈ news, q.1 < D) → IntsAre vs' ns' → ns'.length = ns.length → ns'.Perm ns → ns'.Pairwise (· ≤ ·) → Q (.ref D) { s with heap := h' }) :
    wpAny (model prog w) A (call (.builtin "sorted") [.ref a]) Q E s :=
  kso_sorted F N (x_list N m1) i1 (by omega) fun D vs' ns' c h' F' N' l1 a1 a2 a3 a4 _ => h D vs' ns' c h' F' N' l1 a1 a2 a3 a4
theorem ints_at : ∀ {vs : List Value} {ns : List Int}, IntsAre vs ns → ∀ j, j < ns.length → ∃ t, vs[j]? = some (Value.int (ns.getD j 0) t)
  | _, _, .nil, _, h => absurd h (Nat.not_lt_zero _)
  | _, _, .cons n t r, 0, _ => ⟨t, rfl⟩
  | _, _, .cons n t r, j + 1, h => by
    obtain ⟨t', ht⟩ := ints_at r j (Nat.lt_of_succ_lt_succ h)
    exact ⟨t', by simpa using ht⟩
theorem x_item_int {value slice : PySem.Expr} {u : Tok} (N : News h₀ L s.heap news) (m1 : (a, listOf vs.toArray n1) ∈ news) (i1 : IntsAre vs ns) (hz : ns.length ≤ 6) (hlo : -(ns.length : Int) ≤ k) (hhi : k < ns.length)
    (h : ∀ t, Q (.int (ns.getD (if k < 0 then k + ns.length else k).toNat 0) t) s)
    (hs : subscripted slice false (.ref a) (.int k u) = operate [.ref a, .int k u] (getItem (.ref a) (.int k u))) (hg : ∀ r, letTemporaryGo value (.ref a) r = pure ()) :
    wpAny (model prog w) A (subscriptTail value slice (.ref a) (.int k u)) Q E s := by
  have e : vs.toArray.size = ns.length := by rw [List.size_toArray]; exact IntsAre.length i1
  have hx : ∀ j, j < ns.length → ∃ t, vs.toArray[j]? = some (.int (ns.getD j 0) t) := fun j hj => by
    obtain ⟨t, ht⟩ := ints_at i1 j hj
    exact ⟨t, by simpa using ht⟩
  by_cases h0 : k < 0
  · rw [if_pos h0] at h
    obtain ⟨t, ht⟩ := hx (k + ns.length).toNat (by omega)
    exact subscriptTail_builtin (x_list N m1).typeIs slot_list_getitem.lookup (wpAny_getItem_list_neg (x_list N m1) h0 (by rw [e]; exact hlo) (by omega) (by rw [e]; exact ht) (h t)) hs hg
  · rw [if_neg h0] at h
    obtain ⟨t, ht⟩ := hx k.toNat (by omega)
    exact subscriptTail_builtin (x_list N m1).typeIs slot_list_getitem.lookup (wpAny_getItem_list (x_list N m1) (by omega) (by omega) ht (h t)) hs hg
end
theorem ints_len {vs : List Value} {ns : List Int} (h : IntsAre vs ns) : vs.length = ns.length := by induction h with
  | nil => rfl
  | cons _ _ _ ih => simp [ih]
theorem ints_map : ∀ es : List (Int × Tok), IntsAre (es.map fun p => Value.int p.1 p.2) (es.map (·.1))
  | [] => .nil
  | (_, _) :: r => .cons _ _ (ints_map r)
end Mine
end
section
open PySem PySem.W PyProof.Rows PyProof.V PySem.Spec
namespace Mine
/-- the rows when a row is laid -/
def putRow (rs : List Row) (r : Row) : List Row := if r.k ∈ rs.map (·.k) then rs.map (fun x => if x.k = r.k then r else x) else rs ++ [r]
theorem stored_rows (rs : List Row) (r : Row) : stored (rowsKv rs) r.k (.ref r.ta) = rowsKv (putRow rs r) := by
  have e : (rowsKv rs).any (fun kv => decide (kv.1 = r.k)) = decide (r.k ∈ rs.map (·.k)) := by
    rw [Bool.eq_iff_iff, List.any_eq_true, decide_eq_true_iff]
    constructor
    · rintro ⟨x, hx, e⟩
      obtain ⟨y, hy, rfl⟩ := List.mem_map.mp hx
      have e := decide_eq_true_iff.mp e
      exact List.mem_map.mpr ⟨y, hy, e⟩
    · intro h
      obtain ⟨y, hy, e⟩ := List.mem_map.mp h
      exact ⟨(y.k, .ref y.ta), List.mem_map.mpr ⟨y, hy, rfl⟩, decide_eq_true_iff.mpr e⟩
  unfold stored putRow
  rw [e]
  by_cases h : r.k ∈ rs.map (·.k)
  · rw [if_pos (decide_eq_true h), if_pos h]
    simp only [rowsKv, List.map_map]
    refine List.map_congr_left fun x _ => ?_
    simp only [Function.comp]
    by_cases hx : x.k = r.k
    · simp [hx]
    · simp [hx]
  · rw [if_neg (by simpa using h), if_neg h]
    simp [rowsKv]
theorem put_mem {rs : List Row} {r x : Row} (h : x ∈ putRow rs r) : x = r ∨ (x ∈ rs ∧ x.k ≠ r.k) := by
  unfold putRow at h
  split at h
  · obtain ⟨y, hy, e⟩ := List.mem_map.mp h
    by_cases hx : y.k = r.k
    · rw [if_pos hx] at e; exact .inl e.symm
    · rw [if_neg hx] at e; rw [← e]; exact .inr ⟨hy, hx⟩
  · rename_i hn
    rcases List.mem_append.mp h with h | h
    · exact .inr ⟨h, fun e => hn (e ▸ List.mem_map_of_mem h)⟩
    · exact .inl (List.mem_singleton.mp h)
theorem put_keys (rs : List Row) (r : Row) : (putRow rs r).map (·.k) = if r.k ∈ rs.map (·.k) then rs.map (·.k) else rs.map (·.k) ++ [r.k] := by
  unfold putRow
  split
  · rw [List.map_map]
    refine List.map_congr_left fun x _ => ?_
    simp only [Function.comp]
    by_cases hx : x.k = r.k <;> simp [hx]
  · simp
theorem put_kn {rs : List Row} {r : Row} (h : (rs.map (·.k)).Nodup) : ((putRow rs r).map (·.k)).Nodup := by
  rw [put_keys]
  split
  · exact h
  · rename_i hn
    refine List.nodup_append.mpr ⟨h, by simp, fun a ha b hb e => hn ?_⟩
    rw [← List.mem_singleton.mp hb, ← e]; exact ha
/-- a map that is one-to-one on the old rows and new at the new one -/
theorem put_nodup {α : Type} (f : Row → α) {rs : List Row} {r : Row} (hk : (rs.map (·.k)).Nodup) (h : (rs.map f).Nodup) (hn : ∀ x ∈ rs, f x ≠ f r) : ((putRow rs r).map f).Nodup := by
  unfold putRow
  split
  · rename_i hin
    clear hin
    induction rs with
    | nil => exact List.nodup_nil
    | cons y ys ih =>
      simp only [List.map_cons, List.nodup_cons] at hk h ⊢
      have ih := ih hk.2 h.2 fun x hx => hn x (.tail _ hx)
      refine ⟨fun hm => ?_, ih⟩
      obtain ⟨z, hz, e⟩ := List.mem_map.mp hm
      obtain ⟨u, hu, eu⟩ := List.mem_map.mp hz
      by_cases h1 : y.k = r.k
      · rw [if_pos h1] at e
        by_cases h2 : u.k = r.k
        · exact hk.1 (h1.trans h2.symm ▸ List.mem_map_of_mem hu)
        · rw [if_neg h2] at eu; rw [← eu] at e; exact hn u (.tail _ hu) e
      · rw [if_neg h1] at e
        by_cases h2 : u.k = r.k
        · rw [if_pos h2] at eu; rw [← eu] at e; exact hn y (.head _) e.symm
        · rw [if_neg h2] at eu; rw [← eu] at e; exact h.1 (e ▸ List.mem_map_of_mem hu)
  · rw [List.map_append]
    refine List.nodup_append.mpr ⟨h, by simp, fun a ha b hb e => ?_⟩
    obtain ⟨x, hx, rfl⟩ := List.mem_map.mp ha
    obtain ⟨y, hy, rfl⟩ := List.mem_map.mp hb
    rw [List.mem_singleton.mp hy] at e
    exact hn x hx e
/-- six names at most -/
theorem six {l : List Int} (h : l.Nodup) (hb : ∀ x ∈ l, 0 ≤ x ∧ x ≤ 5) : l.length ≤ 6 := by
  have : l.length ≤ ((List.range 6).map (Int.ofNat)).length := by
    refine List.Nodup.length_le_of_subset h fun x hx => ?_
    obtain ⟨h1, h2⟩ := hb x hx
    refine List.mem_map.mpr ⟨x.toNat, List.mem_range.mpr (by omega), by simp; omega⟩
  simpa using this
theorem put_kb {rs : List Row} {r : Row} (h : ∀ x ∈ rs, 0 ≤ x.k ∧ x.k ≤ 5) (h0 : 0 ≤ r.k) (h5 : r.k ≤ 5) : ∀ x ∈ putRow rs r, 0 ≤ x.k ∧ x.k ≤ 5 := fun x hx => by
  rcases put_mem hx with rfl | ⟨hx, _⟩
  · exact ⟨h0, h5⟩
  · exact h x hx
theorem rows_six {rs : List Row} (h : (rs.map (·.k)).Nodup) (hb : ∀ x ∈ rs, 0 ≤ x.k ∧ x.k ≤ 5) : rs.length ≤ 6 := by
  have := six h fun x hx => by
    obtain ⟨r, hr, rfl⟩ := List.mem_map.mp hx
    exact hb r hr
  simpa using this
theorem put_in {rs : List Row} {r : Row} {T : List (Addr × Obj)} (h : RowsIn rs T) : RowsIn (putRow rs r) ((r.ta, rowTup r) :: (r.la, rowLst r) :: T) := fun x hx => by
  rcases put_mem hx with rfl | ⟨hx, _⟩
  · exact ⟨.head _, .tail _ (.head _)⟩
  · exact ⟨.tail _ (.tail _ (h x hx).1), .tail _ (.tail _ (h x hx).2)⟩

section
variable {prog : Program} {w : World} {A : Around} {E : Value → Shared → Prop} {s : Shared} {h₀ : Heap} {L d : Addr} {m : Str → Option Value} {news : List (Addr × Obj)} {g : Obj → List (Addr × Obj)} {o : Obj}
theorem x_set_row {rs : List Row} {key : Int} {kt tt t : Tok} {v : Value} {st n : Int} {D l : Addr} {T : List (Addr × Obj)} {Q : Unit → Shared → Prop} (F : Fr h₀ L s.heap m) (N : News h₀ L s.heap news) (U : UpdF d o news g) (hd : o.IsDictOf (PySem.intKind prog w) (rowsKv rs)) (hz : rs.length ≤ 6)
    (m1 : (D, { cls := .type "tuple", data := .seq #[.int key kt, v, .ref l] }) ∈ news) (m2 : (l, listOf #[.int st tt] 0) ∈ news)
    (hT : RowsIn rs T) (hkn : (rs.map (·.k)).Nodup) (hsn : (rs.map (·.st)).Nodup) (hkb : ∀ x ∈ rs, 0 ≤ x.k ∧ x.k ≤ 5) (hsb : ∀ x ∈ rs, x.st ≤ n) (hst : n < st) (hk0 : 0 ≤ key) (hk5 : key ≤ 5)
    (h : ∀ h' o' (r : Row) (rs1 : List Row), r.k = key → r.v = v → r.st = st → r.ta = D → r.la = l → rs1 = putRow rs r → Fr h₀ L h' m → News h₀ L h' (g o') → o'.IsDictOf (PySem.intKind prog w) (rowsKv rs1) →
      (∀ x ∈ rs1, (x.ta, rowTup x) ∈ ((D, { cls := .type "tuple", data := .seq #[.int key kt, v, .ref l] }) :: (l, listOf #[.int st tt] 0) :: T) ∧ (x.la, rowLst x) ∈ ((D, { cls := .type "tuple", data := .seq #[.int key kt, v, .ref l] }) :: (l, listOf #[.int st tt] 0) :: T)) →
      ((D, { cls := .type "tuple", data := .seq #[.int key kt, v, .ref l] }) : Addr × Obj) = (r.ta, rowTup r) → ((l, listOf #[.int st tt] 0) : Addr × Obj) = (r.la, rowLst r) →
      (rs1.map (·.st)).Nodup → (rs1.map (·.k)).Nodup → rs1.length ≤ 6 → Q () { s with heap := h', toks := s.toks + 1 }) :
    wpAny (model prog w) A (setItem (.ref d) (.int key t) (.ref D)) Q E s := by
  have hl : (rowsKv rs).length = rs.length := by simp [rowsKv]
  refine kda_set F N U hd (intKind_is _ _ _ _) (by rw [sizeLine_eq, hl]; omega) fun h' o' F' N' hd' => ?_
  let r : Row := ⟨key, kt, v, st, tt, D, l, 0, 0⟩
  exact h h' o' r (putRow rs r) rfl rfl rfl rfl rfl rfl F' N' (by rw [← stored_rows rs r]; exact hd') (put_in (r := r) hT) rfl rfl
    (put_nodup (r := r) (·.st) hkn hsn fun x hx e => by have h1 := hsb x hx; have h2 : x.st = st := e; omega) (put_kn hkn) (rows_six (put_kn hkn) (put_kb hkb hk0 hk5))
end
end Mine
end
section
namespace Mine
local macro_rules | `(tactic| walk_at "none of mine") => `(tactic| fail "none")
local macro_rules | `(tactic| walk_at "none of mine") => `(tactic| fail "none")
local macro_rules | `(tactic| walk_at "none of mine") => `(tactic| fail "none")
local macro_rules | `(tactic| walk_at "none of mine") => `(tactic| fail "none")
local macro_rules | `(tactic| walk_at "none of mine") => `(tactic| fail "none")
theorem fillC10 : True := by
  w_top off
  trivial


local macro_rules | `(tactic| k_room) => `(tactic| ktr_room)
local macro_rules | `(tactic| k_units) => `(tactic| ktr_units)
local macro_rules | `(tactic| ktr_enter) => `(tactic| (refine' code_def ?k1 ?k2 ?k3 ?k4 ?k5 ?kA ?kF ?kK ?k6 ?k7 ?k8 ?k9 ?kB ?_ ?c2 ?c3 ?c4 ?c5; (case kA => exact rfl); (case kF => exact rfl); (case kK => first | assumption | exact rfl); (case k1 => k_asm); (case k2 => k_asm); (case k3 => k_asm); (case k4 => k_asm); (case k5 => k_asm); (case k6 => k_is); (case k7 => k_is); (case k8 => ktr_room); (case k9 => first | exact BindsTo.of_eq rfl | exact binds_K (by k_in) rfl (by k_is) rfl rfl rfl | fail "ktr_enter: no rule for these arguments"); (case c5 => decide); (case kB => exact locs rfl); (case c2 => exact rfl); (case c3 => exact rfl); (case c4 => exact rfl); k_whole; intro g' L' h' FG' F' N' B' X' T'; (try dsimp only); (try k_fold)))
local macro_rules | `(tactic| k_lt $h:ident) => `(tactic| (replace $h := allLt_of $h; simp only [AllLt, and_true] at $h:ident; (try ((fail_if_success (rename AllLt _ _ => l6)); have l7 : AllLt _ _ := (by first | exact ($h).2 | exact ($h).2.2 | exact ($h).2.2.2 | exact ($h).2.2.2.2 | exact ($h).2.2.2.2.2 | exact ($h).2.2.2.2.2.2 | exact ($h).2.2.2.2.2.2.2 | exact ($h).2.2.2.2.2.2.2.2 | exact ($h).2.2.2.2.2.2.2.2.2 | exact ($h).2.2.2.2.2.2.2.2.2.2 | exact ($h).2.2.2.2.2.2.2.2.2.2.2 | exact ($h).2.2.2.2.2.2.2.2.2.2.2.2)))))
local macro_rules | `(tactic| k_all) => `(tactic| (refine' allLt_ne ?h6 ?h7; (case h6 => assumption); (case h7 => ((try dsimp only); omega))))
local macro_rules | `(tactic| k_all) => `(tactic| with_reducible assumption)
local macro_rules | `(tactic| walk_at "call builtin:len") => `(tactic| (k_here; (with_reducible show wpAny _ _ (call (Value.builtin "len") [Value.ref _]) _ _ _); k_dflt (refine' kda_len (knd := PySem.intKind _ _) ?N ?m ?d ?lo ?f ?_; (case N => k_asm); (case m => k_mem); (case d => k_asm); (case lo => k_asm); (case f => assumption); k_whole)))
local macro_rules | `(tactic| walk_at "getMethod ref") => `(tactic| (k_here; (with_reducible show wpAny _ _ (getMethod (Value.ref _) (Str.ofString "get") _) _ _ _); k_dflt (refine' kdg_method (knd := PySem.intKind _ _) ?N ?m ?d ?_; (case N => k_asm); (case m => k_mem); (case d => k_asm); k_whole)))
local macro_rules | `(tactic| walk_at "call builtin:dict.get") => `(tactic| (k_here; (with_reducible show wpAny _ _ (call (Value.builtin "dict.get") [Value.ref _, Value.int _ _]) _ _ _); k_dflt (refine' kdg_get1 (knd := PySem.intKind _ _) ?N ?m ?d ?lo (intKind_is _ _ _ _) _ ?hl ?_; (case N => k_asm); (case m => k_mem); (case d => k_asm); (case lo => k_asm); (case hl => assumption); k_whole; (try dsimp only [Option.getD]))))
local macro_rules | `(tactic| walk_at "subscriptTail") => `(tactic| (k_here; (with_reducible show wpAny _ _ (subscriptTail _ _ (Value.ref _) (Value.int _ _)) _ _ _); k_dflt (refine' kda_item (knd := PySem.intKind _ _) ?N ?m ?d (intKind_is _ _ _ _) ?hl ?_; (case N => k_asm); (case m => k_mem); (case d => k_asm); (case hl => assumption); k_whole)))
theorem x_get_missC10 {prog : Program} {w : World} {A : Around} {E : Value → Shared → Prop} {s : Shared} {h₀ : Heap} {L d : Addr} {news : List (Addr × Obj)} {o : Obj} {kvs : List (Int × Value)} {k : Int} {t : Tok} {Q : Value → Shared → Prop}
    (N : News h₀ L s.heap news) (hp : (d, o) ∈ news) (hd : o.IsDictOf (PySem.intKind prog w) kvs) (lo : (d == sysModules) = false) (hh : A.handled = none) (hl : valueAt kvs k = none)
    (h : ∀ h' e, Heap.NewExc s.heap h' e "KeyError" → E (.ref e) { s with heap := h', toks := s.toks + 1 }) : wpAny (model prog w) A (getItem (.ref d) (.int k t)) Q E s :=
  wpAny_getItem_missing_of (intKind_is _ _ _ _) lo hh (kda_dict N hp hd).mapOf hl h
local macro_rules | `(tactic| walk_at "getItem ref int") => `(tactic| (k_here; k_dflt (refine' x_get_missC10 ?N ?m ?d ?lo ?hh ?hl ?_; (case N => k_asm); (case m => k_mem); (case d => k_asm); (case lo => k_asm); (case hh => exact rfl); (case hl => assumption); k_whole); intro h' e' x'))
local macro_rules | `(tactic| walk_at "getItem ref int") => `(tactic| (k_here; k_dflt (refine' kdt_getItem (knd := PySem.intKind _ _) ?N ?m ?d (intKind_is _ _ _ _) ?hl ?_; (case N => k_asm); (case m => k_mem); (case d => k_asm); (case hl => assumption); k_whole)))
local macro_rules | `(tactic| walk_at "delItem ref int") => `(tactic| (k_here; k_dflt (refine' x_del_miss ?N ?m ?d ?lo ?hh ?hl ?_; (case N => k_asm); (case m => k_mem); (case d => k_asm); (case lo => k_asm); (case hh => exact rfl); (case hl => assumption); k_whole); intro h' e' x'))
local macro_rules | `(tactic| walk_at "delItem ref int") => `(tactic| (k_here; k_dflt (refine' kob_del (knd := PySem.intKind _ _) ?F ?N ?U ?d (intKind_is _ _ _ _) ?l ?z ?_; (case F => k_asm); (case N => k_asm); (case U => k_updF); (case d => k_asm); (case l => assumption); (case z => first | assumption | (rw [sizeLine_eq]; assumption)); k_whole); intro h' o' F' N' hd'; (try dsimp only at N')))
theorem x_del_ownC10 {M : Model} {A : Around} {E : Value → Shared → Prop} {s : Shared} {K : Frag} {x C L f : Addr} {h₀ : Heap} {m : Str → Option Value} {ox : Obj} {od : Option Obj} {i : Value} {Q : Unit → Shared → Prop}
    (F : Fr h₀ L s.heap m) (X₀ : K.In h₀) (I : InstAt s.heap x ox C od) (hq : noSeq K C = true) (hs : findIn K (.ref C) "__delitem__" = some (some (.ref f))) (hf : isFn K (.ref f) = true)
    (h : wpAny M A (call (.ref f) [.ref x, i]) (fun _ s' => Q () s') E s) : wpAny M A (delItem (.ref x) i) Q E s := by
  have X := X₀.keeps F.keep
  unfold delItem sequenceKey
  refine wpAny_holding (wpAny_bind (wpAny_bind (I.type.here ?_)))
  refine wpAny_bind ((anyM_none X hq).here ?_)
  rw [if_pos (show (!false) = true from rfl)]
  exact wpAny_pure (wpAny_bind (special_fn X I hs (beq_iff_eq.mp hf) (wpAny_mono h (fun _ _ z => wpAny_pure z) fun _ _ z => z)))
local macro_rules | `(tactic| walk_at "delItem ref int") => `(tactic| (k_here; k_dflt (refine' x_del_ownC10 ?k1 ?k2 ?k3 ?k4 ?k5 ?k6 ?_; (case k1 => k_asm); (case k2 => k_asm); (case k3 => k_inst); (case k4 => k_is); (case k5 => k_is); (case k6 => k_is); k_whole)))
local macro_rules | `(tactic| walk_at "WhlIf") => `(tactic| (first | (refine WhlIf.yes (decide_eq_true (by omega)) ?_) | (refine WhlIf.no (decide_eq_false (by omega)) ?_)))
local macro_rules | `(tactic| walk_at "eval Dict nil nil") => `(tactic| (k_here; k_dflt (refine' newDict_K ?k1 ?k2 ?k3 ?_; (case k1 => k_asm); (case k2 => k_asm); (case k3 => first | exact Top.nolimit (by k_asm) | exact TopRead.nolimit (by k_asm)); k_whole); intro d' h' o' F' N' l1 lo' hs' fs' hi' fi'; (try k_lt l1)))
theorem add_genC10 {prog : Program} {w : World} {A : Around} {E : Value → Shared → Prop} {s : Shared} {a b : Int} {ta tb : Tok} {Q : Value → Shared → Prop} (h : ∀ t tk, Q (.int (a + b) t) { s with toks := tk }) : wpAny (model prog w) A (binaryOp .Add (.int a ta) (.int b tb)) Q E s := add_int (h _ _)
local macro_rules | `(tactic| walk_at "binaryOp Add int int") => `(tactic| (k_here; with_reducible (refine add_genC10 ?_); intro t' tk'))

set_option maxHeartbeats 4000000 in
theorem len_own {prog : Program} {w : World} {mean : ExcName → Option Value} {mg mb : Str → Option Value}
    {dp un : Nat} {gd : Option (List Code)} {cn : Str} {cs : Scope} {a : Addr} {ccd : Value} {cl : List (Str × Addr)} {outer : List Env} {A₀ : Around} {base h₀ : Heap} {L : Addr} {m : Str → Option Value} {s : Shared} {Q E : Value → Shared → Prop}
    {T : List (Addr × Obj)} {c cd dD k : Addr} {n : Int} {tn : Tok} {cap thr : Value} {oD : Obj} {kvs : List (Int × Value)}
    (B : Below A₀ base outer h₀) (F : Fr h₀ L s.heap m) (X : (Mine.hd.heap_39 w.params).In h₀)
    (N : News h₀ L s.heap ((c, lru cd dD k n tn cap thr) :: (cd, dictOf [] 0) :: (dD, oD) :: T))
    (TP : Top Mine.hd.view_39 (looseW Mine.hd.view_39 [Str.ofString "itemgetter", Str.ofString "LRUCache"]) mean mg mb h₀) (hk : cs.kind = .function) (hD : oD.IsDictOf (PySem.intKind prog w) kvs) (lo : (dD == sysModules) = false) (hz : kvs.length ≤ 16777216)
    (hd : dp + 2 < recursionLimit) (hu : un + 16 < cLine)
    (ret : ∀ t h' tk', Fr h₀ L h' m → News h₀ L h' ((c, lru cd dD k n tn cap thr) :: (cd, dictOf [] 0) :: (dD, oD) :: T) → Q (.int kvs.length t) { s with heap := h', toks := tk' }) :
    wpAny (model prog w) (ktrTop dp un gd cn cs L a ccd cl outer) (call (.builtin "len") [.ref c]) Q E s := by
  k_steps
  refine wpAny_call ?_
  k_dflt ktr_enter
  k_steps
  all_goals exact ret _ _ _ (by k_asm) (by k_asm)

set_option maxHeartbeats 4000000 in
theorem iter_spec {prog : Program} {w : World} {mean : ExcName → Option Value} {mg mb : Str → Option Value}
    {dp un : Nat} {gd : Option (List Code)} {cn : Str} {cs : Scope} {a : Addr} {ccd : Value} {cl : List (Str × Addr)} {outer : List Env} {A₀ : Around} {base h₀ : Heap} {L : Addr} {m : Str → Option Value} {s : Shared} {Q E : Value → Shared → Prop}
    {T : List (Addr × Obj)} {c cd dD k : Addr} {n : Int} {tn : Tok} {cap thr : Value} {oD : Obj} {kvs : List (Int × Value)}
    (B : Below A₀ base outer h₀) (F : Fr h₀ L s.heap m) (X : (Mine.hd.heap_39 w.params).In h₀)
    (N : News h₀ L s.heap ((c, lru cd dD k n tn cap thr) :: (cd, dictOf [] 0) :: (dD, oD) :: T))
    (TP : Top Mine.hd.view_39 (looseW Mine.hd.view_39 [Str.ofString "itemgetter", Str.ofString "LRUCache"]) mean mg mb h₀) (hk : cs.kind = .function) (hD : oD.IsDictOf (PySem.intKind prog w) kvs) (lo : (dD == sysModules) = false)
    (hd : dp + 2 < recursionLimit) (hu : un + 16 < cLine)
    (ret : ∀ I oI ep h' tk', Fr h₀ L h' m → News h₀ L h' ((I, oI) :: (c, lru cd dD k n tn cap thr) :: (cd, dictOf [] 0) :: (dD, oD) :: T) → (@LT.lt Nat _ c I ∧ @LT.lt Nat _ cd I ∧ @LT.lt Nat _ dD I ∧ AllLt I T) → KdkIter oI dD 0 kvs.length ep → KdkAt (PySem.intKind prog w) oD kvs ep → Q (.ref I) { s with heap := h', toks := tk' }) :
    wpAny (model prog w) (ktrTop dp un gd cn cs L a ccd cl outer) (call (.ref 138) [.ref c]) Q E s := by
  refine wpAny_call ?_
  k_dflt ktr_enter
  k_steps
  all_goals exact ret _ _ _ _ _ (by k_asm) (by k_asm) (by assumption) (by assumption) (by assumption)

section
variable {prog : Program} {w : World} {A : Around} {E : Value → Shared → Prop} {s : Shared} {h₀ : Heap} {L c dD : Addr} {news : List (Addr × Obj)} {m : Str → Option Value} {oD : Obj} {kvs : List (Int × Value)} {K : Frag} {C f fl : Addr} {ox : Obj} {od : Option Obj}
/-- the hint of length that list() asks of an own object: its own __len__ -/
theorem hint_own {Q : Bool → Shared → Prop} (X : K.In s.heap) (I : InstAt s.heap c ox C od) (hs : findIn K (.ref C) "__len__" = some (some (.ref fl))) {n : Nat} (hn : n ≤ 16777216)
    (h : wpAny (model prog w) A (call (.builtin "len") [.ref c]) (fun v s' => ∃ t, v = .int n t ∧ Q ((n : Int) != 0) s') (fun _ _ => False) s) :
    wpAny (model prog w) A (Builtin.List.listLengthHint (.ref c)) Q E s := by
  unfold Builtin.List.listLengthHint
  refine wpAny_bind (wpAny_bind (I.type.here ((looks_findIn X hs).here ?_)))
  dsimp only
  refine wpAny_ite_split (fun hab => absurd hab (show ¬ (false = true) from Bool.false_ne_true)) (fun _ => ?_)
  refine wpAny_ite_split (fun _ => ?_) (fun hab => absurd rfl hab)
  refine wpAny_bind (wpAny_rule ?_)
  refine wpAny_bind (wpAny_attempt (wpAny_mono h (fun v s' hv => ?_) (fun _ _ hF => hF.elim)))
  obtain ⟨t, rfl, hq⟩ := hv
  dsimp only
  refine wpAny_bind (wpAny_pure ?_)
  dsimp only
  refine wpAny_ite_split (fun hab => absurd hab ?_) (fun _ => wpAny_pure ?_)
  · have e : Builtin.List.listTooLong ((n : Int).toNat) = false := by
      unfold Builtin.List.listTooLong
      rw [sizeLine_eq]
      exact decide_eq_false (by omega)
    rw [e]; exact Bool.false_ne_true
  · exact hq
theorem ints_of (knd : List (Int × Value)) : ∀ (vs : List Value), vs.length = knd.length → (∀ (j : Nat) (v : Value), vs[j]? = some v → ∃ k x, knd[j]? = some (k, x) ∧ (PySem.intKind prog w).is k v = true) →
    ∃ es : List (Int × Tok), vs = es.map (fun p => Value.int p.1 p.2) ∧ es.map (·.1) = knd.map (·.1) := by
  induction knd with
  | nil => intro vs hl _; exact ⟨[], by rw [List.length_eq_zero_iff.mp hl]; rfl, rfl⟩
  | cons q r ih =>
    intro vs hl hv
    match vs, hl with
    | v :: vs, hl =>
      obtain ⟨k, x, e, hk⟩ := hv 0 v rfl
      obtain ⟨t, rfl⟩ := Value.isInt_shape hk
      simp only [List.getElem?_cons_zero, Option.some.injEq] at e
      subst e
      obtain ⟨es, rfl, h2⟩ := ih vs (by simpa using hl) fun j u hu => by simpa using hv (j + 1) u (by simpa using hu)
      exact ⟨(k, t) :: es, rfl, by simp [h2]⟩
end
set_option maxHeartbeats 4000000 in
theorem list_own {prog : Program} {w : World} {mean : ExcName → Option Value} {mg mb : Str → Option Value}
    {dp un : Nat} {gd : Option (List Code)} {cn : Str} {cs : Scope} {a : Addr} {ccd : Value} {cl : List (Str × Addr)} {outer : List Env} {A₀ : Around} {base h₀ : Heap} {L : Addr} {m : Str → Option Value} {s : Shared} {Q E : Value → Shared → Prop}
    {T : List (Addr × Obj)} {c cd dD k : Addr} {n : Int} {tn : Tok} {cap thr : Value} {oD : Obj} {kvs : List (Int × Value)}
    (B : Below A₀ base outer h₀) (F : Fr h₀ L s.heap m) (X : (Mine.hd.heap_39 w.params).In h₀)
    (N : News h₀ L s.heap ((c, lru cd dD k n tn cap thr) :: (cd, dictOf [] 0) :: (dD, oD) :: T))
    (TP : Top Mine.hd.view_39 (looseW Mine.hd.view_39 [Str.ofString "itemgetter", Str.ofString "LRUCache"]) mean mg mb h₀) (hk : cs.kind = .function) (hD : oD.IsDictOf (PySem.intKind prog w) kvs) (lo : (dD == sysModules) = false) (hz : kvs.length ≤ 16777216)
    (hd : dp + 4 < recursionLimit) (hu : un + 64 < cLine)
    (ret : ∀ D nn h' tk' (vs : List Value), IntsAre vs (kvs.map (·.1)) → Fr h₀ L h' m → News h₀ L h' ((D, listOf vs.toArray nn) :: (c, lru cd dD k n tn cap thr) :: (cd, dictOf [] 0) :: (dD, oD) :: T) →
      (∀ p ∈ ((c, lru cd dD k n tn cap thr) :: (cd, dictOf [] 0) :: (dD, oD) :: T), p.1 < D) → Q (.ref D) { s with heap := h', toks := tk' }) :
    wpAny (model prog w) (ktrTop dp un gd cn cs L a ccd cl outer) (call (.type "list") [.ref c]) Q E s := by
  generalize hnews : ((c, lru cd dD k n tn cap thr) :: (cd, dictOf [] 0) :: (dD, oD) :: T) = news at N ret
  have m1 : (c, lru cd dD k n tn cap thr) ∈ news := hnews ▸ .head _
  have m2 : (cd, dictOf [] 0) ∈ news := hnews ▸ .tail _ (.head _)
  have m3 : (dD, oD) ∈ news := hnews ▸ .tail _ (.tail _ (.head _))
  have hlt : ∀ p ∈ news, p.1 < s.heap.objs.size := fun p hp => Heap.lt_size (N p hp).1
  refine callType_codes (Q₁ := fun obj s₁ => obj = .ref s.heap.objs.size ∧ s₁ = { s with heap := s.heap.push { cls := .type "list", data := .seq #[] } }) PySem.F.called_list (PySem.F.typeCall_list_1 _) PySem.F.entry_list_init
    (code_list_new _ ⟨rfl, rfl⟩) fun obj s₁ h₁ => ?_
  obtain ⟨rfl, rfl⟩ := h₁
  have hS : (s.heap.push { cls := .type "list", data := .seq #[] }).get? s.heap.objs.size = some { cls := .type "list", data := .seq #[] } := Heap.get?_push_size _ rfl
  have haL : s.heap.objs.size ≠ L := Nat.ne_of_gt F.ns.lt
  have ha0 : h₀.get? s.heap.objs.size = none := none_at_size F
  have F1 := F.push { cls := .type "list", data := .seq #[] }
  have N1 : News h₀ L (s.heap.push { cls := .type "list", data := .seq #[] }) news := fun p hp => ⟨Heap.get?_push_of_some _ (N p hp).1, (N p hp).2⟩
  have hnS : ∀ p ∈ news, p.1 ≠ s.heap.objs.size := fun p hp => Nat.ne_of_lt (hlt p hp)
  refine ⟨⟨_, hS, rfl⟩, PySem.F.args_list_init_2 _ _, ?_⟩
  show wpAny _ _ (do let old ← Builtin.List.listItems (.ref s.heap.objs.size); Builtin.List.listUpdate (.ref s.heap.objs.size) (fun _ => #[]); letGo old.toList.reverse; Builtin.List.listExtendWith (.ref s.heap.objs.size) (.ref c) .none) _ _ _
  refine wpAny_bind (listItems_at hS rfl ?_)
  refine wpAny_bind (listUpdate_at hS rfl ?_)
  refine wpAny_bind (wpAny_letGo ?_)
  have s1 := Heap.SameBut.update (s.heap.push { cls := .type "list", data := .seq #[] }) s.heap.objs.size (Obj.mapSeq (fun _ => (#[] : Array Value)))
  obtain ⟨e1, hS1⟩ : ∃ e1, ((s.heap.push { cls := .type "list", data := .seq #[] }).update s.heap.objs.size (Obj.mapSeq (fun _ => (#[] : Array Value)))).get? s.heap.objs.size = some (seqObj "list" #[] e1) := ⟨_, get?_update_seq hS (fun _ => #[])⟩
  have F2 := kas_fr F1 s1 haL ha0
  have N2 := kas_news N1 s1 hnS
  generalize (s.heap.push { cls := .type "list", data := .seq #[] }).update s.heap.objs.size (Obj.mapSeq (fun _ => (#[] : Array Value))) = h2 at *
  have N3 : News h₀ L h2 ((c, lru cd dD k n tn cap thr) :: (cd, dictOf [] 0) :: (dD, oD) :: (s.heap.objs.size, seqObj "list" #[] e1) :: T) := fun p hp => by
    rcases List.mem_cons.mp hp with rfl | hp
    · exact N2 _ m1
    rcases List.mem_cons.mp hp with rfl | hp
    · exact N2 _ m2
    rcases List.mem_cons.mp hp with rfl | hp
    · exact N2 _ m3
    rcases List.mem_cons.mp hp with rfl | hp
    · exact ⟨hS1, haL, ha0⟩
    · exact N2 _ (hnews ▸ .tail _ (.tail _ (.tail _ hp)))
  have I0 : InstAt h2 c _ 178 (some (dictOf [] 0)) := InstAt.of_news N2 m1 m2
  unfold Builtin.List.listExtendWith
  refine wpAny_bind (I0.type.here ?_)
  have h1 : Builtin.List.listSameRef (.ref s.heap.objs.size) (.ref c) = false := by
    have : s.heap.objs.size ≠ c := (hnS _ m1).symm
    simp [Builtin.List.listSameRef, this]
  have h3 : (Value.ref 178 == Value.type "list") = false := by decide
  have h4 : (Value.ref 178 == Value.type "tuple") = false := by decide
  simp only [h1, h3, h4, Bool.or_false, Bool.false_eq_true, if_false]
  refine wpAny_bind (owit_iter (K := Mine.hd.heap_39 w.params) (C := 178) (f := 138) F2 X I0 (by k_is) (by k_is) ?_)
  refine iter_spec (s := { s with heap := h2 }) (dp := dp) (un := un + 2) B F2 X N3 TP hk hD lo (by omega) (by omega) fun I oI ep h3 tk3 F3 N4 hIT hi ha => ?_
  have hgI := (N4 _ (.head _)).1
  have hgS : h3.get? s.heap.objs.size = some (seqObj "list" #[] e1) := (N4 _ (.tail _ (.tail _ (.tail _ (.tail _ (.head _)))))).1
  have hgD : h3.get? dD = some oD := (N4 _ (.tail _ (.tail _ (.tail _ (.head _))))).1
  have hIS : I ≠ s.heap.objs.size := by
    intro e
    rw [e, hgS] at hgI
    have := congrArg Obj.cls (Option.some.inj hgI)
    rw [hi.1] at this
    exact absurd (Value.type.inj this) (by decide)
  have hID : I ≠ dD := by
    intro e
    rw [e, hgD] at hgI
    have hdd := (ha.dictAt hgD).dictOf.typeIs (s := { s with heap := h3 })
    obtain ⟨o9, ho9, hc9⟩ := hdd
    have e9 : o9 = oI := by rw [hgD] at ho9; rw [← Option.some.inj ho9, Option.some.inj hgI]
    rw [e9, hi.1] at hc9
    exact absurd (Value.type.inj hc9) (by decide)
  have hSD : s.heap.objs.size ≠ dD := (hnS _ m3).symm
  have hnI : ∀ p ∈ news, p.1 ≠ I := fun p hp => by
    rw [← hnews] at hp
    rcases List.mem_cons.mp hp with rfl | hp
    · exact Nat.ne_of_lt hIT.1
    rcases List.mem_cons.mp hp with rfl | hp
    · exact Nat.ne_of_lt hIT.2.1
    rcases List.mem_cons.mp hp with rfl | hp
    · exact Nat.ne_of_lt hIT.2.2.1
    · exact allLt_ne hIT.2.2.2.2 (Nat.le_refl _) p hp
  have N5 : News h₀ L h3 ((I, oI) :: news) := fun p hp => by
    rcases List.mem_cons.mp hp with rfl | hp
    · exact N4 _ (.head _)
    · refine N4 _ (.tail _ ?_)
      rw [← hnews] at hp
      rcases List.mem_cons.mp hp with rfl | hp
      · exact .head _
      rcases List.mem_cons.mp hp with rfl | hp
      · exact .tail _ (.head _)
      rcases List.mem_cons.mp hp with rfl | hp
      · exact .tail _ (.tail _ (.head _))
      · exact .tail _ (.tail _ (.tail _ (.tail _ hp)))
  have key : ∀ (h : Heap) (c₁ tk : Nat), Fr h₀ L h m → News h₀ L h ((I, oI) :: news) → h.get? s.heap.objs.size = some (seqObj "list" #[] c₁) →
      codeAny (model prog w) (ktrTop dp un gd cn cs L a ccd cl outer).in1 (.builtin "list.extend.loop" ⟨[.ref s.heap.objs.size, .ref I, .none], []⟩) (wants (fun r s₂ => r = .none ∧ Q (.ref s.heap.objs.size) s₂) E) { s with heap := h, toks := tk } := by
    intro h c₁ tk F' N' hS'
    have W := Walks.dictKeys (prog := prog) (w := w) (A := (ktrTop dp un gd cn cs L a ccd cl outer).in1.in1) (knd := PySem.intKind prog w) rfl I dD hID.symm kvs ep
    refine codeAny_extend_loopS W.toS (by rw [sizeLine_eq]; exact hz) s.heap.objs.size (by simp only [List.mem_cons, List.not_mem_nil, or_false, not_or]; exact ⟨hIS.symm, hSD⟩) .none kvs.length 0 _ #[] c₁ rfl (Nat.zero_le _)
      ⟨hi.at (N' _ (.head _)).1, ha.dictAt (N' _ (.tail _ m3)).1⟩ hS' (ItemsOf.nil _) fun s' acc' c' hm hS2 hacc => ?_
    rw [Moved.eq_with hm]
    refine ⟨rfl, ?_⟩
    obtain ⟨es, he, hk9⟩ := ints_of (prog := prog) (w := w) kvs acc'.toList (by rw [Array.length_toList]; exact hacc.1) fun j v e => hacc.2 j v (by rw [← Array.getElem?_toList]; exact e)
    have hother : ∀ b o, b ≠ s.heap.objs.size → b ≠ I → h.get? b = some o → s'.heap.get? b = some o := fun b o hb hb2 e => hm.heap b o (by simp only [List.mem_cons, List.not_mem_nil, or_false, not_or]; exact ⟨hb, hb2⟩) e
    have hgN := N' _ (.head _)
    refine ret s.heap.objs.size c' s'.heap s'.toks acc'.toList (by rw [he, ← hk9]; exact ints_map es) ?_ ?_ hlt
    · obtain ⟨oL, es9, ep9, hL, r9⟩ := F'.ns
      exact ⟨⟨oL, es9, ep9, hother _ _ haL.symm hgN.2.1.symm hL, r9⟩, fun b o e => hother b o (fun q => by rw [q, ha0] at e; cases e) (fun q => by rw [q, hgN.2.2] at e; cases e) (F'.keep b o e), F'.above⟩
    · intro p hp
      rcases List.mem_cons.mp hp with rfl | hp
      · refine ⟨?_, haL, ha0⟩
        rw [hS2]
      · have := N' p (.tail _ hp)
        exact ⟨hother _ _ (hnS p hp) (hnI p hp) this.1, this.2⟩
  unfold OwitIt
  refine wpAny_specialOf (T := "dict_keyiterator") ⟨oI, hgI, hi.1⟩ PySem.F.slot_dict_keyiterator_next.lookup ?_
  dsimp only
  refine wpAny_bind (wpAny_holding (hint_own (K := Mine.hd.heap_39 w.params) (C := 178) (fl := 145) (n := kvs.length) (X.keeps F3.keep) (InstAt.of_news N5 (.tail _ m1) (.tail _ m2)) (by k_is) hz ?_))
  refine len_own (s := { s with heap := h3, toks := tk3 }) (c := c) (cd := cd) (k := k) (n := n) (tn := tn) (cap := cap) (thr := thr) (T := (I, oI) :: (s.heap.objs.size, seqObj "list" #[] e1) :: T) (dp := dp) (un := un + 2) B F3 X (fun p hp => ?_) TP hk hD lo hz (by omega) (by omega) fun t h4 tk4 F4 N6 => ⟨t, rfl, ?_⟩
  · rcases List.mem_cons.mp hp with rfl | hp
    · exact N5 _ (.tail _ m1)
    rcases List.mem_cons.mp hp with rfl | hp
    · exact N5 _ (.tail _ m2)
    rcases List.mem_cons.mp hp with rfl | hp
    · exact N5 _ (.tail _ m3)
    rcases List.mem_cons.mp hp with rfl | hp
    · exact N5 _ (.head _)
    rcases List.mem_cons.mp hp with rfl | hp
    · exact ⟨hgS, haL, ha0⟩
    · exact N5 _ (.tail _ (hnews ▸ .tail _ (.tail _ (.tail _ hp))))
  have N7 : News h₀ L h4 ((I, oI) :: news) := fun p hp => by
    rcases List.mem_cons.mp hp with rfl | hp
    · exact N6 _ (.tail _ (.tail _ (.tail _ (.head _))))
    · rw [← hnews] at hp
      rcases List.mem_cons.mp hp with rfl | hp
      · exact N6 _ (.head _)
      rcases List.mem_cons.mp hp with rfl | hp
      · exact N6 _ (.tail _ (.head _))
      rcases List.mem_cons.mp hp with rfl | hp
      · exact N6 _ (.tail _ (.tail _ (.head _)))
      · exact N6 _ (.tail _ (.tail _ (.tail _ (.tail _ (.tail _ hp)))))
  have hg4 : h4.get? s.heap.objs.size = some (seqObj "list" #[] e1) := (N6 _ (.tail _ (.tail _ (.tail _ (.tail _ (.head _)))))).1
  have hnS7 : ∀ p ∈ (I, oI) :: news, p.1 ≠ s.heap.objs.size := fun p hp => by
    rcases List.mem_cons.mp hp with rfl | hp
    · exact hIS
    · exact hnS p hp
  refine wpAny_ite_split (fun _ => ?_) (fun _ => wpAny_pure ⟨plainId_quiet PySem.F.plain_extend_loop _, key h4 e1 tk4 F4 N7 hg4⟩)
  refine wpAny_bind (wpAny_rule ?_)
  refine wpAny_bind ?_
  show wpAny _ _ (updateSeq s.heap.objs.size (·.push .none) >>= fun _ => updateSeq s.heap.objs.size (·.pop)) _ _ _
  refine wpAny_bind (wpAny_updateSeq hg4 rfl ?_)
  have s5 := Heap.SameBut.update h4 s.heap.objs.size (Obj.mapSeq (·.push Value.none))
  obtain ⟨e5, hS5⟩ : ∃ e1, (h4.update s.heap.objs.size (Obj.mapSeq (·.push Value.none))).get? s.heap.objs.size = some (seqObj "list" #[.none] e1) := ⟨_, get?_update_seq hg4 (·.push Value.none)⟩
  have F5 := kas_fr F4 s5 haL ha0
  have N8 := kas_news N7 s5 hnS7
  refine wpAny_updateSeq (hz := by seq_fits) hS5 rfl ?_
  have s6 := Heap.SameBut.update (h4.update s.heap.objs.size (Obj.mapSeq (·.push Value.none))) s.heap.objs.size (Obj.mapSeq (·.pop))
  obtain ⟨e6, hS6⟩ : ∃ e1, ((h4.update s.heap.objs.size (Obj.mapSeq (·.push Value.none))).update s.heap.objs.size (Obj.mapSeq (·.pop))).get? s.heap.objs.size = some (seqObj "list" #[] e1) := ⟨_, get?_update_seq hS5 (·.pop)⟩
  exact wpAny_pure ⟨plainId_quiet PySem.F.plain_extend_loop _, key _ e6 tk4 (kas_fr F5 s6 haL ha0) (kas_news N8 s6 hnS7) hS6⟩
end Mine
end
section
namespace Mine
theorem fillC12 : True := by
  w_top off
  trivial

theorem news_re {h₀ h : Heap} {L : Addr} {l l' : List (Addr × Obj)} (N : News h₀ L h l) (hs : SubL l' l) : News h₀ L h l' := fun p hp => N p (hs.mem p hp)
theorem man_spec {prog : Program} {w : World} {mean : ExcName → Option Value} {mg mb : Str → Option Value}
    {dp un : Nat} {gd : Option (List Code)} {cn : Str} {cs : Scope} {a : Addr} {ccd : Value} {cl : List (Str × Addr)} {outer : List Env} {A₀ : Around} {base h₀ : Heap} {L : Addr} {m : Str → Option Value} {s : Shared} {Q E : Value → Shared → Prop}
    {T : List (Addr × Obj)} {c cd dD k kd : Addr} {n room num den : Int} {tn th tc : Tok} {thr : Value} {held : Bool} {oD : Obj} {rs : List Row}
    (B : Below A₀ base outer h₀) (F : Fr h₀ L s.heap m) (X : (Mine.hd.heap_39 w.params).In h₀)
    (N : News h₀ L s.heap ((c, lru cd dD k n tn (.int room tc) thr) :: (cd, dictOf [] 0) :: (dD, oD) :: (k, instObj 46 kd) :: (kd, lockD w.params th held) :: T))
    (TP : Top Mine.hd.view_39 (looseW Mine.hd.view_39 [Str.ofString "itemgetter", Str.ofString "LRUCache"]) mean mg mb h₀) (hk : cs.kind = .function) (hD : oD.IsDictOf (PySem.intKind prog w) (rowsKv rs)) (lo : (dD == sysModules) = false) (ht : Thr thr num den)
    (hTr : ∀ r ∈ rs, (r.ta, rowTup r) ∈ T ∧ (r.la, rowLst r) ∈ T) (hsn : (rs.map (·.st)).Nodup) (hkn : (rs.map (·.k)).Nodup) (h6 : rs.length ≤ 6)
    (h0 : 0 ≤ room) (h1 : room ≤ 4)
    (d1 : @Ne Nat c kd) (d2 : @Ne Nat cd kd) (d3 : @Ne Nat dD kd) (d4 : @Ne Nat k kd) (hT : ∀ p ∈ T, p.1 ≠ kd) (e1 : @Ne Nat c dD) (e2 : @Ne Nat cd dD) (e3 : @Ne Nat k dD) (hT2 : ∀ p ∈ T, p.1 ≠ dD)
    (hd : dp + 10 < recursionLimit) (hu : un + 100 < cLine)
    (ret : ∀ (rs2 : List Row) oD' h' tk', Sqz held rs rs2 room num den → oD'.IsDictOf (PySem.intKind prog w) (rowsKv rs2) →
      Fr h₀ L h' m → News h₀ L h' ((c, lru cd dD k n tn (.int room tc) thr) :: (cd, dictOf [] 0) :: (dD, oD') :: (k, instObj 46 kd) :: (kd, lockD w.params th held) :: T) → Q .none { s with heap := h', toks := tk' }) :
    wpAny (model prog w) (ktrTop dp un gd cn cs L a ccd cl outer) (call (.ref 174) [.ref c]) Q E s := by
  have hl : (rowsKv rs).length = rs.length := by simp [rowsKv]
  have hz : (rowsKv rs).length ≤ 16777216 := by omega
  cases held with
  | true =>
    refine man_held (T := (dD, oD) :: T) (c := c) (cd := cd) (dD := dD) (k := k) (kd := kd) (n := n) (tn := tn) (th := th) (cap := .int room tc) (thr := thr) B F X (fun p hp => N p ?_) TP hk (by omega) (by omega) fun h' tk' F' N' => ret rs oD h' tk' (.inl ⟨rfl, rfl⟩) hD F' (fun p hp => N' p ?_)
    all_goals
      simp only [List.mem_cons] at hp ⊢
      rcases hp with h | h | h | h | h | h <;> simp [h]
  | false =>
    by_cases ho : Over rs room num den
    · have ho' : room * (den + num) < den * ((rowsKv rs).length : Int) := by rw [hl]; exact ho
      exact man_sq B F X N TP hk hD lo hz hTr hsn hkn h6 h0 h1 ht ho' hl d1 d2 d3 d4 hT e1 e2 e3 d3.symm hT2 hd hu fun rs' oD' h' tk' a1 a2 a3 F' N' => ret _ oD' h' tk' (.inr ⟨rfl, .inr ⟨ho, rs', a1, a2, rfl⟩⟩) a3 F' N'
    · have ho' : ¬ (room * (den + num) < den * ((rowsKv rs).length : Int)) := by rw [hl]; exact ho
      exact man_idle B F X N TP hk hD lo hz (by omega) ht h0 h1 ho' d1 d2 d3 d4 hT (by omega) (by omega) fun h' tk' F' N' => ret rs oD h' tk' (.inr ⟨rfl, .inl ⟨ho, rfl⟩⟩) hD F' N'
end Mine
end
section
namespace Mine
local macro_rules | `(tactic| walk_at "none of mine") => `(tactic| fail "none")
local macro_rules | `(tactic| walk_at "none of mine") => `(tactic| fail "none")
local macro_rules | `(tactic| walk_at "none of mine") => `(tactic| fail "none")
local macro_rules | `(tactic| walk_at "none of mine") => `(tactic| fail "none")
theorem fillC11 : True := by
  w_top off
  trivial

abbrev tup3 (key : Int) (kt : Tok) (v : Value) (l : Addr) : Obj := { cls := .type "tuple", data := .seq #[.int key kt, v, .ref l] }
theorem man_spec2 {prog : Program} {w : World} {mean : ExcName → Option Value} {mg mb : Str → Option Value}
    {dp un : Nat} {gd : Option (List Code)} {cn : Str} {cs : Scope} {a : Addr} {ccd : Value} {cl : List (Str × Addr)} {outer : List Env} {A₀ : Around} {base h₀ : Heap} {L : Addr} {m : Str → Option Value} {s : Shared} {Q E : Value → Shared → Prop}
    {T : List (Addr × Obj)} {c cd dD k kd D l : Addr} {n room num den key st : Int} {tn th tc kt tt : Tok} {thr v : Value} {held : Bool} {oD : Obj} {rs : List Row}
    (B : Below A₀ base outer h₀) (F : Fr h₀ L s.heap m) (X : (Mine.hd.heap_39 w.params).In h₀)
    (N : News h₀ L s.heap ((D, { cls := .type "tuple", data := .seq #[.int key kt, v, .ref l] }) :: (l, listOf #[.int st tt] 0) :: (c, lru cd dD k n tn (.int room tc) thr) :: (cd, dictOf [] 0) :: (dD, oD) :: (k, instObj 46 kd) :: (kd, lockD w.params th held) :: T))
    (TP : Top Mine.hd.view_39 (looseW Mine.hd.view_39 [Str.ofString "itemgetter", Str.ofString "LRUCache"]) mean mg mb h₀) (hk : cs.kind = .function) (hD : oD.IsDictOf (PySem.intKind prog w) (rowsKv rs)) (lo : (dD == sysModules) = false) (ht : Thr thr num den)
    (hTr : ∀ x ∈ rs, (x.ta, rowTup x) ∈ ((D, { cls := .type "tuple", data := .seq #[.int key kt, v, .ref l] }) :: (l, listOf #[.int st tt] 0) :: T) ∧ (x.la, rowLst x) ∈ ((D, { cls := .type "tuple", data := .seq #[.int key kt, v, .ref l] }) :: (l, listOf #[.int st tt] 0) :: T)) (hsn : (rs.map (·.st)).Nodup) (hkn : (rs.map (·.k)).Nodup) (h6 : rs.length ≤ 6)
    (h0 : 0 ≤ room) (h1 : room ≤ 4)
    (d1 : @Ne Nat c kd) (d2 : @Ne Nat cd kd) (d3 : @Ne Nat dD kd) (d4 : @Ne Nat k kd) (hT : ∀ p ∈ T, p.1 ≠ kd) (e1 : @Ne Nat c dD) (e2 : @Ne Nat cd dD) (e3 : @Ne Nat k dD) (hT2 : ∀ p ∈ T, p.1 ≠ dD)
    (x1 : @LT.lt Nat _ dD D) (x2 : @LT.lt Nat _ dD l) (x3 : @LT.lt Nat _ kd D) (x4 : @LT.lt Nat _ kd l)
    (hd : dp + 10 < recursionLimit) (hu : un + 100 < cLine)
    (ret : ∀ (rs2 : List Row) oD' h' tk', Sqz held rs rs2 room num den → oD'.IsDictOf (PySem.intKind prog w) (rowsKv rs2) →
      Fr h₀ L h' m → News h₀ L h' ((c, lru cd dD k n tn (.int room tc) thr) :: (cd, dictOf [] 0) :: (dD, oD') :: (k, instObj 46 kd) :: (kd, lockD w.params th held) :: (D, { cls := .type "tuple", data := .seq #[.int key kt, v, .ref l] }) :: (l, listOf #[.int st tt] 0) :: T) → Q .none { s with heap := h', toks := tk' }) :
    wpAny (model prog w) (ktrTop dp un gd cn cs L a ccd cl outer) (call (.ref 174) [.ref c]) Q E s := by
  refine man_spec B F X (fun p hp => N p ?_) TP hk hD lo ht hTr hsn hkn h6 h0 h1 d1 d2 d3 d4 ?_ e1 e2 e3 ?_ hd hu ret
  · simp only [List.mem_cons] at hp ⊢
    rcases hp with h | h | h | h | h | h | h | h <;> simp [h]
  · intro p hp
    rcases List.mem_cons.mp hp with rfl | hp
    · exact Nat.ne_of_gt x3
    rcases List.mem_cons.mp hp with rfl | hp
    · exact Nat.ne_of_gt x4
    · exact hT p hp
  · intro p hp
    rcases List.mem_cons.mp hp with rfl | hp
    · exact Nat.ne_of_gt x1
    rcases List.mem_cons.mp hp with rfl | hp
    · exact Nat.ne_of_gt x2
    · exact hT2 p hp
theorem lt_all {D : Addr} : ∀ {T : List (Addr × Obj)}, AllLt D T → ∀ p ∈ T, p.1 < D
  | [], _, _, h => nomatch h
  | q :: r, h, p, hp => by
    rcases List.mem_cons.mp hp with rfl | hp
    · exact h.1
    · exact lt_all h.2 p hp
theorem lt_la {r : Row} {l : Addr} {T : List (Addr × Obj)} (e : r.la = l) (h : AllLt l T) : ∀ p ∈ T, p.1 < r.la := by rw [e]; exact lt_all h
theorem lt_ta {r : Row} {l D : Addr} {T : List (Addr × Obj)} {P : Prop} (e : r.ta = D) (h : AllLt l T) (h2 : @LT.lt Nat _ l D ∧ P) : ∀ p ∈ T, p.1 < r.ta := fun p hp => by rw [e]; exact Nat.lt_trans (lt_all h p hp) h2.1
theorem sqz_of {held : Bool} {rs rs1 rs2 : List Row} {r : Row} {a b c : Int} (e : rs1 = putRow rs r) (h : Sqz held rs1 rs2 a b c) : Sqz held (putRow rs r) rs2 a b c := e ▸ h
theorem news_pair {h₀ h : Heap} {L : Addr} {p1 p2 p3 p4 p5 x y x' y' : Addr × Obj} {T : List (Addr × Obj)} (q1 : x = x') (q2 : y = y') (N : News h₀ L h (p1 :: p2 :: p3 :: p4 :: p5 :: x :: y :: T)) : News h₀ L h (p1 :: p2 :: p3 :: p4 :: p5 :: x' :: y' :: T) := by subst q1 q2; exact N

local macro_rules | `(tactic| k_room) => `(tactic| ktr_room)
local macro_rules | `(tactic| k_units) => `(tactic| ktr_units)
local macro_rules | `(tactic| ktr_enter) => `(tactic| (refine' code_def ?k1 ?k2 ?k3 ?k4 ?k5 ?kA ?kF ?kK ?k6 ?k7 ?k8 ?k9 ?kB ?_ ?c2 ?c3 ?c4 ?c5; (case kA => exact rfl); (case kF => exact rfl); (case kK => first | assumption | exact rfl); (case k1 => k_asm); (case k2 => k_asm); (case k3 => k_asm); (case k4 => k_asm); (case k5 => k_asm); (case k6 => k_is); (case k7 => k_is); (case k8 => ktr_room); (case k9 => first | exact BindsTo.of_eq rfl | exact binds_K (by k_in) rfl (by k_is) rfl rfl rfl | fail "ktr_enter: no rule for these arguments"); (case c5 => decide); (case kB => exact locs rfl); (case c2 => exact rfl); (case c3 => exact rfl); (case c4 => exact rfl); k_whole; intro g' L' h' FG' F' N' B' X' T'; (try dsimp only); (try k_fold)))
local macro_rules | `(tactic| k_lt $h:ident) => `(tactic| (replace $h := allLt_of $h; simp only [AllLt, and_true] at $h:ident; (try ((fail_if_success (rename AllLt _ _ => l6)); have l7 : AllLt _ _ := (by first | exact ($h).2 | exact ($h).2.2 | exact ($h).2.2.2 | exact ($h).2.2.2.2 | exact ($h).2.2.2.2.2 | exact ($h).2.2.2.2.2.2 | exact ($h).2.2.2.2.2.2.2 | exact ($h).2.2.2.2.2.2.2.2 | exact ($h).2.2.2.2.2.2.2.2.2 | exact ($h).2.2.2.2.2.2.2.2.2.2 | exact ($h).2.2.2.2.2.2.2.2.2.2.2 | exact ($h).2.2.2.2.2.2.2.2.2.2.2.2)))))
local macro_rules | `(tactic| k_all) => `(tactic| (refine' allLt_ne ?h6 ?h7; (case h6 => assumption); (case h7 => ((try dsimp only); omega))))
local macro_rules | `(tactic| k_all) => `(tactic| with_reducible assumption)
local macro_rules | `(tactic| walk_at "call builtin:len") => `(tactic| (k_here; (with_reducible show wpAny _ _ (call (Value.builtin "len") [Value.ref _]) _ _ _); k_dflt (refine' kda_len (knd := PySem.intKind _ _) ?N ?m ?d ?lo ?f ?_; (case N => k_asm); (case m => k_mem); (case d => k_asm); (case lo => k_asm); (case f => assumption); k_whole)))
local macro_rules | `(tactic| walk_at "getMethod ref") => `(tactic| (k_here; (with_reducible show wpAny _ _ (getMethod (Value.ref _) (Str.ofString "get") _) _ _ _); k_dflt (refine' kdg_method (knd := PySem.intKind _ _) ?N ?m ?d ?_; (case N => k_asm); (case m => k_mem); (case d => k_asm); k_whole)))
local macro_rules | `(tactic| walk_at "call builtin:dict.get") => `(tactic| (k_here; (with_reducible show wpAny _ _ (call (Value.builtin "dict.get") [Value.ref _, Value.int _ _]) _ _ _); k_dflt (refine' kdg_get1 (knd := PySem.intKind _ _) ?N ?m ?d ?lo (intKind_is _ _ _ _) _ ?hl ?_; (case N => k_asm); (case m => k_mem); (case d => k_asm); (case lo => k_asm); (case hl => assumption); k_whole; (try dsimp only [Option.getD]))))
local macro_rules | `(tactic| walk_at "subscriptTail") => `(tactic| (k_here; (with_reducible show wpAny _ _ (subscriptTail _ _ (Value.ref _) (Value.int _ _)) _ _ _); k_dflt (refine' kda_item (knd := PySem.intKind _ _) ?N ?m ?d (intKind_is _ _ _ _) ?hl ?_; (case N => k_asm); (case m => k_mem); (case d => k_asm); (case hl => assumption); k_whole)))
theorem x_get_missC11 {prog : Program} {w : World} {A : Around} {E : Value → Shared → Prop} {s : Shared} {h₀ : Heap} {L d : Addr} {news : List (Addr × Obj)} {o : Obj} {kvs : List (Int × Value)} {k : Int} {t : Tok} {Q : Value → Shared → Prop}
    (N : News h₀ L s.heap news) (hp : (d, o) ∈ news) (hd : o.IsDictOf (PySem.intKind prog w) kvs) (lo : (d == sysModules) = false) (hh : A.handled = none) (hl : valueAt kvs k = none)
    (h : ∀ h' e, Heap.NewExc s.heap h' e "KeyError" → E (.ref e) { s with heap := h', toks := s.toks + 1 }) : wpAny (model prog w) A (getItem (.ref d) (.int k t)) Q E s :=
  wpAny_getItem_missing_of (intKind_is _ _ _ _) lo hh (kda_dict N hp hd).mapOf hl h
local macro_rules | `(tactic| walk_at "getItem ref int") => `(tactic| (k_here; k_dflt (refine' x_get_missC11 ?N ?m ?d ?lo ?hh ?hl ?_; (case N => k_asm); (case m => k_mem); (case d => k_asm); (case lo => k_asm); (case hh => exact rfl); (case hl => assumption); k_whole); intro h' e' x'))
local macro_rules | `(tactic| walk_at "getItem ref int") => `(tactic| (k_here; k_dflt (refine' kdt_getItem (knd := PySem.intKind _ _) ?N ?m ?d (intKind_is _ _ _ _) ?hl ?_; (case N => k_asm); (case m => k_mem); (case d => k_asm); (case hl => assumption); k_whole)))
local macro_rules | `(tactic| walk_at "delItem ref int") => `(tactic| (k_here; k_dflt (refine' x_del_miss ?N ?m ?d ?lo ?hh ?hl ?_; (case N => k_asm); (case m => k_mem); (case d => k_asm); (case lo => k_asm); (case hh => exact rfl); (case hl => assumption); k_whole); intro h' e' x'))
local macro_rules | `(tactic| walk_at "delItem ref int") => `(tactic| (k_here; k_dflt (refine' kob_del (knd := PySem.intKind _ _) ?F ?N ?U ?d (intKind_is _ _ _ _) ?l ?z ?_; (case F => k_asm); (case N => k_asm); (case U => k_updF); (case d => k_asm); (case l => assumption); (case z => first | assumption | (rw [sizeLine_eq]; assumption)); k_whole); intro h' o' F' N' hd'; (try dsimp only at N')))
theorem x_del_ownC11 {M : Model} {A : Around} {E : Value → Shared → Prop} {s : Shared} {K : Frag} {x C L f : Addr} {h₀ : Heap} {m : Str → Option Value} {ox : Obj} {od : Option Obj} {i : Value} {Q : Unit → Shared → Prop}
    (F : Fr h₀ L s.heap m) (X₀ : K.In h₀) (I : InstAt s.heap x ox C od) (hq : noSeq K C = true) (hs : findIn K (.ref C) "__delitem__" = some (some (.ref f))) (hf : isFn K (.ref f) = true)
    (h : wpAny M A (call (.ref f) [.ref x, i]) (fun _ s' => Q () s') E s) : wpAny M A (delItem (.ref x) i) Q E s := by
  have X := X₀.keeps F.keep
  unfold delItem sequenceKey
  refine wpAny_holding (wpAny_bind (wpAny_bind (I.type.here ?_)))
  refine wpAny_bind ((anyM_none X hq).here ?_)
  rw [if_pos (show (!false) = true from rfl)]
  exact wpAny_pure (wpAny_bind (special_fn X I hs (beq_iff_eq.mp hf) (wpAny_mono h (fun _ _ z => wpAny_pure z) fun _ _ z => z)))
local macro_rules | `(tactic| walk_at "delItem ref int") => `(tactic| (k_here; k_dflt (refine' x_del_ownC11 ?k1 ?k2 ?k3 ?k4 ?k5 ?k6 ?_; (case k1 => k_asm); (case k2 => k_asm); (case k3 => k_inst); (case k4 => k_is); (case k5 => k_is); (case k6 => k_is); k_whole)))
local macro_rules | `(tactic| walk_at "WhlIf") => `(tactic| (first | (refine WhlIf.yes (decide_eq_true (by omega)) ?_) | (refine WhlIf.no (decide_eq_false (by omega)) ?_)))
local macro_rules | `(tactic| walk_at "eval Dict nil nil") => `(tactic| (k_here; k_dflt (refine' newDict_K ?k1 ?k2 ?k3 ?_; (case k1 => k_asm); (case k2 => k_asm); (case k3 => first | exact Top.nolimit (by k_asm) | exact TopRead.nolimit (by k_asm)); k_whole); intro d' h' o' F' N' l1 lo' hs' fs' hi' fi'; (try k_lt l1)))
theorem add_genC11 {prog : Program} {w : World} {A : Around} {E : Value → Shared → Prop} {s : Shared} {a b : Int} {ta tb : Tok} {Q : Value → Shared → Prop} (h : ∀ t tk, Q (.int (a + b) t) { s with toks := tk }) : wpAny (model prog w) A (binaryOp .Add (.int a ta) (.int b tb)) Q E s := add_int (h _ _)
local macro_rules | `(tactic| walk_at "binaryOp Add int int") => `(tactic| (k_here; with_reducible (refine add_genC11 ?_); intro t' tk'))

local macro_rules | `(tactic| walk_at "setItem ref int") => `(tactic| (k_here; k_dflt (refine' x_set_row ?F ?N ?U ?d ?z ?m1 ?m2 ?hT ?hkn ?hsn ?hkb ?hsb ?hst ?a0 ?a5 ?_; (case F => k_asm); (case N => k_asm); (case U => k_updF); (case d => k_asm); (case z => assumption); (case m1 => k_mem); (case m2 => k_mem); (case hT => assumption); (case hkn => assumption); (case hsn => assumption); (case hkb => assumption); (case hsb => assumption); (case hst => omega); (case a0 => assumption); (case a5 => assumption); k_whole); intro h' o' r' rs' e1' e2' e3' e4' e5' e6' F' N' hd' hTr' q1' q2' n1' n2' n3'; (try dsimp only at N')))
local macro_rules | `(tactic| walk_at "call ref") => `(tactic| (k_here; (with_reducible show wpAny _ _ (call (Value.ref 174) _) _ _ _); k_dflt (refine' man_spec2 ?B ?F ?X ?N ?TP ?hk ?hD ?lo ?ht ?hTr ?hsn ?hkn ?h6 ?h0 ?h1 ?d1 ?d2 ?d3 ?d4 ?hT ?e1 ?e2 ?e3 ?hT2 ?x1 ?x2 ?x3 ?x4 ?hd ?hu ?_; (case B => k_asm); (case F => k_asm); (case X => k_asm); (case N => k_asm); (case TP => k_asm); (case hk => exact rfl); (case hD => k_asm); (case lo => k_asm); (case ht => assumption); (case hTr => assumption); (case hsn => assumption); (case hkn => assumption); (case h6 => assumption); (case h0 => assumption); (case h1 => assumption); (case d1 => assumption); (case d2 => assumption); (case d3 => assumption); (case d4 => assumption); (case hT => assumption); (case e1 => assumption); (case e2 => assumption); (case e3 => assumption); (case hT2 => assumption); (case x1 => omega); (case x2 => omega); (case x3 => omega); (case x4 => omega); (case hd => ktr_room); (case hu => ktr_units); k_whole); intro rs2' o' h' tk' sq' hd' F' N'))
set_option maxHeartbeats 1000000 in
theorem set_spec {prog : Program} {w : World} {mean : ExcName → Option Value} {mg mb : Str → Option Value}
    {dp un : Nat} {gd : Option (List Code)} {cn : Str} {cs : Scope} {a : Addr} {ccd : Value} {cl : List (Str × Addr)} {outer : List Env} {A₀ : Around} {base h₀ : Heap} {L : Addr} {m : Str → Option Value} {s : Shared} {Q E : Value → Shared → Prop}
    {T : List (Addr × Obj)} {c cd dD k kd : Addr} {n room num den : Int} {tn th tc tk : Tok} {thr : Value} {oD : Obj} {rs : List Row} {key : Int} {v : Value} {held : Bool}
    (B : Below A₀ base outer h₀) (F : Fr h₀ L s.heap m) (X : (Mine.hd.heap_39 w.params).In h₀)
    (N : News h₀ L s.heap ((c, lru cd dD k n tn (.int room tc) thr) :: (cd, dictOf [] 0) :: (dD, oD) :: (k, instObj 46 kd) :: (kd, lockD w.params th held) :: T))
    (TP : Top Mine.hd.view_39 (looseW Mine.hd.view_39 [Str.ofString "itemgetter", Str.ofString "LRUCache"]) mean mg mb h₀) (hk : cs.kind = .function) (hD : oD.IsDictOf (PySem.intKind prog w) (rowsKv rs)) (lo : (dD == sysModules) = false) (ht : Thr thr num den)
    (hTr : RowsIn rs T) (hsn : (rs.map (·.st)).Nodup) (hkn : (rs.map (·.k)).Nodup) (h6 : rs.length ≤ 6) (hkb : ∀ x ∈ rs, 0 ≤ x.k ∧ x.k ≤ 5) (hsb : ∀ x ∈ rs, x.st ≤ n)
    (h0 : 0 ≤ room) (h1 : room ≤ 4) (hk0 : 0 ≤ key) (hk5 : key ≤ 5)
    (d1 : @Ne Nat c kd) (d2 : @Ne Nat cd kd) (d3 : @Ne Nat dD kd) (d4 : @Ne Nat k kd) (hT : ∀ p ∈ T, p.1 ≠ kd) (e1 : @Ne Nat c dD) (e2 : @Ne Nat cd dD) (e3 : @Ne Nat k dD) (hT2 : ∀ p ∈ T, p.1 ≠ dD)
    (f1 : @Ne Nat c cd) (f2 : @Ne Nat k c) (hT3 : ∀ p ∈ T, p.1 ≠ c) (hn0 : 0 ≤ n) (hn1 : n ≤ 100)
    (hd : dp + 12 < recursionLimit) (hu : un + 120 < cLine)
    (ret : ∀ (r : Row) (rs2 : List Row) tn' oD' h' tk', r.k = key → r.v = v → r.st = n + 1 → (∀ p ∈ T, p.1 < r.la) → (∀ p ∈ T, p.1 < r.ta) → Sqz held (putRow rs r) rs2 room num den → oD'.IsDictOf (PySem.intKind prog w) (rowsKv rs2) →
      Fr h₀ L h' m → News h₀ L h' ((c, lru cd dD k (n+1) tn' (.int room tc) thr) :: (cd, dictOf [] 0) :: (dD, oD') :: (k, instObj 46 kd) :: (kd, lockD w.params th held) :: (r.ta, rowTup r) :: (r.la, rowLst r) :: T) → Q .none { s with heap := h', toks := tk' }) :
    wpAny (model prog w) (ktrTop dp un gd cn cs L a ccd cl outer) (call (.ref 152) [.ref c, .int key tk, v]) Q E s := by
  refine wpAny_call ?_
  k_dflt ktr_enter
  k_steps
  all_goals exact ret _ _ _ _ _ _ (by assumption) (by assumption) (by assumption) (lt_la (by assumption) (by assumption)) (lt_ta (by assumption) (by assumption) (by assumption)) (sqz_of (by assumption) (by assumption)) (by k_asm) (by k_asm) (news_pair (by assumption) (by assumption) (by k_asm))
end Mine
end
section
open PySem PySem.W PyProof.Rows PyProof.V PySem.Spec
namespace Mine
theorem sub_cons {α : Type} {a : α} {r l : List α} (h : a ∈ l) (h2 : ∀ p ∈ r, p ∈ l) : ∀ p ∈ a :: r, p ∈ l := fun p hp => by
  rcases List.mem_cons.mp hp with rfl | hp
  · exact h
  · exact h2 p hp
theorem sub_tl {α : Type} {q : α} {T l : List α} (h : ∀ p ∈ T, p ∈ l) : ∀ p ∈ T, p ∈ q :: l := fun p hp => .tail _ (h p hp)
theorem sub_id {α : Type} {T : List α} : ∀ p ∈ T, p ∈ T := fun _ h => h
theorem sub_at {α : Type} {T l l' : List α} (hs : ∀ p ∈ l, p ∈ l') (h : ∀ p ∈ T, p ∈ l) : ∀ p ∈ T, p ∈ l' := fun p hp => hs p (h p hp)
theorem inj_nodup {α β : Type} (f : α → β) : ∀ {l : List α}, (l.map f).Nodup → ∀ {a b : α}, a ∈ l → b ∈ l → f a = f b → a = b
  | y :: ys, h, a, b, ha, hb, e => by
    simp only [List.map_cons, List.nodup_cons] at h
    rcases List.mem_cons.mp ha with h1 | h1
    · rcases List.mem_cons.mp hb with h2 | h2
      · rw [h1, h2]
      · exact absurd (show f y ∈ ys.map f from h1 ▸ e ▸ List.mem_map_of_mem h2) h.1
    · rcases List.mem_cons.mp hb with h2 | h2
      · exact absurd (show f y ∈ ys.map f from h2 ▸ e ▸ List.mem_map_of_mem h1) h.1
      · exact inj_nodup f h.2 h1 h2 e
theorem put_eq {rs : List Row} {r x : Row} (hk : (rs.map (·.k)).Nodup) (hr : r ∈ rs) (hx : x ∈ rs) (e : x.k = r.k) : x = r := inj_nodup (·.k) hk hx hr e
theorem put_same {α : Type} (f : Row → α) {rs : List Row} {r r' : Row} (hk : (rs.map (·.k)).Nodup) (hr : r ∈ rs) (e : r'.k = r.k) (ef : f r' = f r) : (putRow rs r').map f = rs.map f := by
  unfold putRow
  rw [if_pos (e ▸ List.mem_map_of_mem hr), List.map_map]
  refine List.map_congr_left fun x hx => ?_
  simp only [Function.comp]
  by_cases h : x.k = r'.k
  · rw [if_pos h, ef, put_eq hk hr hx (h.trans e)]
  · rw [if_neg h]
theorem put_up (rs : List Row) (r : Row) : Up rs (putRow rs r) r.k r.v r.st := fun x hx => by
  rcases put_mem hx with rfl | ⟨hx, hn⟩
  · exact .inl ⟨rfl, rfl, rfl⟩
  · exact .inr ⟨hn, hx⟩
theorem at_row {rs : List Row} {r : Row} (hk : (rs.map (·.k)).Nodup) (hr : r ∈ rs) : valueAt (rowsKv rs) r.k = some (.ref r.ta) := by
  induction rs with
  | nil => cases hr
  | cons y ys ih =>
    simp only [List.map_cons, List.nodup_cons] at hk
    unfold valueAt rowsKv
    simp only [List.map_cons, List.find?_cons]
    rcases List.mem_cons.mp hr with rfl | hr
    · simp
    · have : y.k ≠ r.k := fun e => hk.1 (e ▸ List.mem_map_of_mem hr)
      rw [decide_eq_false this]
      exact ih hk.2 hr
theorem at_none {rs : List Row} {k : Int} (h : k ∉ rs.map (·.k)) : valueAt (rowsKv rs) k = none := by
  unfold valueAt
  rw [Option.map_eq_none_iff, List.find?_eq_none]
  intro p hp
  obtain ⟨x, hx, rfl⟩ := List.mem_map.mp hp
  simp only [decide_eq_true_eq]
  exact fun e => h (e ▸ List.mem_map_of_mem hx)
/-- two places that hold objects of two classes are two -/
theorem news_ne {h₀ h : Heap} {L : Addr} {l : List (Addr × Obj)} {a b : Addr} {o o' : Obj} (N : News h₀ L h l) (h1 : (a, o) ∈ l) (h2 : (b, o') ∈ l) (hc : o.cls ≠ o'.cls) : a ≠ b := fun e => by
  have g1 := (N _ h1).1
  have g2 := (N _ h2).1
  simp only at g1 g2
  rw [e, g2] at g1
  exact hc (congrArg Obj.cls (Option.some.inj g1)).symm
theorem offs_of {h₀ h : Heap} {L : Addr} {l T : List (Addr × Obj)} (N : News h₀ L h l) (hT : ∀ p ∈ T, p ∈ l) (tt : TT T) {a : Addr} {o : Obj} (h1 : (a, o) ∈ l) (hc1 : o.cls ≠ .type "tuple") (hc2 : o.cls ≠ .type "list") (hc3 : o.cls ≠ .type "range_iterator") : ∀ p ∈ T, p.1 ≠ a := fun p hp => by
  rcases tt p hp with h | h | h
  · exact news_ne N (hT p hp) h1 (by rw [h]; exact hc1.symm)
  · exact news_ne N (hT p hp) h1 (by rw [h]; exact hc2.symm)
  · exact news_ne N (hT p hp) h1 (by rw [h]; exact hc3.symm)
theorem dict_cls {prog : Program} {w : World} {o : Obj} {kvs : List (Int × Value)} (h : o.IsDictOf (PySem.intKind prog w) kvs) : o.cls = .type "dict" := by
  obtain ⟨es, ep, hx, _⟩ := h
  exact hx.1
/-- a touch of a row that is there -/
theorem cac_touch {prog : Program} {w : World} {rs : List Row} {oD : Obj} {T : List (Addr × Obj)} {e : Addr} {n : Int} {r : Row} {t : Tok} {n2 : Nat} {h₀ h : Heap} {L : Addr} {l : List (Addr × Obj)} (N : News h₀ L h l) (hT : ∀ p ∈ T, p ∈ l)
    (C : Cac prog w rs oD T e n) (hr : r ∈ rs) : Cac prog w (putRow rs { r with st := n + 1, tt := t, n2 := n2 }) oD ((r.la, rowLst { r with st := n + 1, tt := t, n2 := n2 }) :: T.filter (fun p => decide (p.1 ≠ r.la))) e (n + 1) := by
  have hne : ∀ x ∈ rs, x.ta ≠ r.la := fun x hx => news_ne N (hT _ (C.rin x hx).1) (hT _ (C.rin r hr).2) (fun e => absurd (Value.type.inj e) (by decide))
  have hmem : ∀ {p : Addr × Obj}, p ∈ T → p.1 ≠ r.la → p ∈ T.filter (fun p => decide (p.1 ≠ r.la)) := fun hp hn => List.mem_filter.mpr ⟨hp, decide_eq_true hn⟩
  refine ⟨?_, ?_, put_kn C.kn, put_kb C.kb (C.kb r hr).1 (C.kb r hr).2, put_nodup (·.st) C.kn C.sn fun x hx => ?_, fun x hx => ?_, ?_, fun x hx => ?_, fun p hp => ?_, fun x hx => ?_⟩
  · have : rowsKv (putRow rs { r with st := n + 1, tt := t, n2 := n2 }) = rowsKv rs := put_same (fun x => (x.k, Value.ref x.ta)) C.kn hr rfl rfl
    rw [this]; exact C.d
  · intro x hx
    rcases put_mem hx with rfl | ⟨hx, hn⟩
    · exact ⟨.tail _ (hmem (C.rin r hr).1 (hne r hr)), .head _⟩
    · refine ⟨.tail _ (hmem (C.rin x hx).1 (hne x hx)), .tail _ (hmem (C.rin x hx).2 fun e => hn ?_)⟩
      have : x = r := inj_nodup (·.la) C.ln hx hr e
      rw [this]
  · have h1 := C.sb x hx
    show x.st ≠ n + 1
    omega
  · rcases put_mem hx with rfl | ⟨hx, hn⟩
    · exact Int.le_refl _
    · have := C.sb x hx
      omega
  · have e := put_same (r' := { r with st := n + 1, tt := t, n2 := n2 }) (·.la) C.kn hr rfl rfl
    rw [e]; exact C.ln
  · rcases put_mem hx with rfl | ⟨hx, hn⟩
    · exact C.le r hr
    · exact C.le x hx
  · rcases List.mem_cons.mp hp with rfl | hp
    · exact .inr (.inl rfl)
    · exact C.tt p (List.mem_filter.mp hp).1
  · rcases put_mem hx with rfl | ⟨hx, hn⟩
    · exact C.vb r hr
    · exact C.vb x hx
/-- the law's rows do not look at the cache's lists -/
theorem lw_move {prog : Program} {w : World} {rs : List Row} {qs : List (Int × Value)} {oR : Obj} {T T' : List (Addr × Obj)} (W : Lw prog w rs qs oR T) (h : ∀ p ∈ T, p.2.cls = .type "tuple" → p ∈ T') : Lw prog w rs qs oR T' :=
  ⟨W.d, W.kn, W.kb, fun r hr => let ⟨qa, t1, n1, a, b⟩ := W.q r hr; ⟨qa, t1, n1, a, h _ b rfl⟩⟩
theorem lw_sub {prog : Program} {w : World} {rs rs' : List Row} {qs : List (Int × Value)} {oR : Obj} {T : List (Addr × Obj)} (W : Lw prog w rs qs oR T) (h : ∀ x ∈ rs', x ∈ rs) : Lw prog w rs' qs oR T :=
  ⟨W.d, W.kn, W.kb, fun r hr => W.q r (h r hr)⟩
theorem sqz_sub {held : Bool} {rs rs2 : List Row} {a b c : Int} (h : Sqz held rs rs2 a b c) : ∀ x ∈ rs2, x ∈ rs := by
  rcases h with ⟨_, rfl⟩ | ⟨_, ⟨_, rfl⟩ | ⟨_, rs', _, _, rfl⟩⟩
  · exact fun _ h => h
  · exact fun _ h => h
  · exact fun x hx => (List.mem_filter.mp hx).1
theorem sqz_list {held : Bool} {rs rs2 : List Row} {a b c : Int} (h : Sqz held rs rs2 a b c) : rs2.Sublist rs := by
  rcases h with ⟨_, rfl⟩ | ⟨_, ⟨_, rfl⟩ | ⟨_, rs', _, _, rfl⟩⟩
  · exact .refl _
  · exact .refl _
  · exact List.filter_sublist
/-- fewer rows -/
theorem cac_less {prog : Program} {w : World} {rs rs2 : List Row} {oD oD' : Obj} {T : List (Addr × Obj)} {e : Addr} {n : Int} (C : Cac prog w rs oD T e n) (h : rs2.Sublist rs) (hd : oD'.IsDictOf (PySem.intKind prog w) (rowsKv rs2)) : Cac prog w rs2 oD' T e n :=
  ⟨hd, fun r hr => C.rin r (h.subset hr), (h.map _).nodup C.kn, fun r hr => C.kb r (h.subset hr), (h.map _).nodup C.sn, fun r hr => C.sb r (h.subset hr), (h.map _).nodup C.ln, fun r hr => C.le r (h.subset hr), C.tt, fun r hr => C.vb r (h.subset hr)⟩
end Mine
end
section
namespace Mine
theorem fillE1 : True := by
  w_top off
  trivial

theorem offs_sub {T T' : List (Addr × Obj)} {c cd dD k kd rd ck : Addr} (O : Offs T c cd dD k kd rd ck) (h : ∀ p ∈ T', ∃ q ∈ T, q.1 = p.1) : Offs T' c cd dD k kd rd ck :=
  ⟨fun p hp => let ⟨q, hq, e⟩ := h p hp; e ▸ O.o1 q hq, fun p hp => let ⟨q, hq, e⟩ := h p hp; e ▸ O.o2 q hq, fun p hp => let ⟨q, hq, e⟩ := h p hp; e ▸ O.o3 q hq, fun p hp => let ⟨q, hq, e⟩ := h p hp; e ▸ O.o4 q hq,
   fun p hp => let ⟨q, hq, e⟩ := h p hp; e ▸ O.o5 q hq, fun p hp => let ⟨q, hq, e⟩ := h p hp; e ▸ O.o6 q hq, fun p hp => let ⟨q, hq, e⟩ := h p hp; e ▸ O.o7 q hq⟩
theorem s_get {prog : Program} {w : World} {mean : ExcName → Option Value} {mg mb : Str → Option Value}
    {dp un : Nat} {gd : Option (List Code)} {cn : Str} {cs : Scope} {a : Addr} {ccd : Value} {cl : List (Str × Addr)} {A₀ : Around} {h₀ : Heap} {L : Addr} {m : Str → Option Value} {s : Shared} {Q E : Value → Shared → Prop}
    {news T : List (Addr × Obj)} {c cd dD k kd rd e ck : Addr} {n room : Int} {tn th tc : Tok} {thr : Value} {held : Bool} {oD oR oC : Obj} {vs : List Value} {ne : Nat} {rs : List Row} {qs : List (Int × Value)} {key : Int} {tk : Tok} {df : Value}
    (B : Below A₀ h₀ [] h₀) (F : Fr h₀ L s.heap m) (X : (Mine.hd.heap_39 w.params).In h₀) (N : News h₀ L s.heap news) (hs : ∀ p ∈ (c, lru cd dD k n tn (.int room tc) thr) :: (cd, dictOf [] 0) :: (dD, oD) :: (k, instObj 46 kd) :: (kd, lockD w.params th held) :: (rd, oR) :: (e, listOf (List.toArray vs) ne) :: (ck, oC) :: T, p ∈ news) (TP : Top Mine.hd.view_39 (looseW Mine.hd.view_39 [Str.ofString "itemgetter", Str.ofString "LRUCache"]) mean mg mb h₀) (hk : cs.kind = .function) (D : Dist c cd dD k kd rd ck) (O : Offs T c cd dD k kd rd ck) (lo : (dD == sysModules) = false) (C : Cac prog w rs oD T e n) (W : Lw prog w rs qs oR T)
    (hd : dp + 2 < recursionLimit) (hu : un + 16 < cLine) (hn0 : 0 ≤ n) (hn1 : n ≤ 100)
    (hit : key ∈ rs.map (·.k) → ∀ (v : Value) (st : Int) qa t1 n1 rs' T' tn' h' tk', (v = .none ∨ ∃ j t, v = .int j t) → valueAt qs key = some (.ref qa) → (qa, qTup v st t1 n1) ∈ T' → rs'.map (·.k) = rs.map (·.k) → Up rs rs' key v (n + 1) →
      Cac prog w rs' oD T' e (n + 1) → Lw prog w rs qs oR T' → (∀ p ∈ T, p.2.cls ≠ .type "list" → p ∈ T') → Offs T' c cd dD k kd rd ck → Fr h₀ L h' m → News h₀ L h' ((c, lru cd dD k (n + 1) tn' (.int room tc) thr) :: (cd, dictOf [] 0) :: (dD, oD) :: (k, instObj 46 kd) :: (kd, lockD w.params th held) :: (rd, oR) :: (e, listOf (List.toArray vs) ne) :: (ck, oC) :: T') → Q v { s with heap := h', toks := tk' })
    (miss : key ∉ rs.map (·.k) → ∀ h' tk', Fr h₀ L h' m → News h₀ L h' ((c, lru cd dD k n tn (.int room tc) thr) :: (cd, dictOf [] 0) :: (dD, oD) :: (k, instObj 46 kd) :: (kd, lockD w.params th held) :: (rd, oR) :: (e, listOf (List.toArray vs) ne) :: (ck, oC) :: T) → Q df { s with heap := h', toks := tk' }) :
    wpAny (model prog w) (ktrTop dp un gd cn cs L a ccd cl []) (call (.ref 124) [.ref c, .int key tk, df]) Q E s := by
  by_cases hin : key ∈ rs.map (·.k)
  · obtain ⟨r, hr, hrk⟩ := List.mem_map.mp hin
    have hrk : r.k = key := hrk
    subst hrk
    obtain ⟨qa, t1, n1, hq, hqm⟩ := W.q r hr
    have mta := (C.rin r hr).1
    have mla := (C.rin r hr).2
    have hTn : ∀ p ∈ T, p ∈ news := fun p hp => hs p (.tail _ (.tail _ (.tail _ (.tail _ (.tail _ (.tail _ (.tail _ (.tail _ (hp)))))))))
    have hec : e ≠ c := news_ne N (hs _ (.tail _ (.tail _ (.tail _ (.tail _ (.tail _ (.tail _ (.head _)))))))) (hs _ (.head _)) (by intro h; cases h)
    have hnl : ∀ {x : Addr} {o : Obj}, (x, o) ∈ T → o.cls ≠ .type "list" → x ≠ r.la := fun hx hc => news_ne N (hTn _ hx) (hTn _ mla) hc
    have hne : ∀ {x : Addr} {o : Obj}, (x, o) ∈ T → o.cls = .type "tuple" → x ≠ r.la := fun hx hc => hnl hx (by rw [hc]; exact fun e => absurd (Value.type.inj e) (by decide))
    refine get_hit (k := k) (tn := tn) (cap := .int room tc) (thr := thr) (r := r) (T := (k, instObj 46 kd) :: (kd, lockD w.params th held) :: (rd, oR) :: (e, listOf (List.toArray vs) ne) :: (ck, oC) :: T.filter (fun p => decide (p.1 ≠ r.la))) B F X ?_ TP hk C.d lo (at_row C.kn hr)
      D.d12.symm D.d13.symm (O.o1 _ mta) (O.o1 _ mla) ?_ (O.o1 _ mla).symm (O.o2 _ mla).symm (O.o3 _ mla).symm (hne mta rfl) ?_ hd hu hn0 hn1 fun t n2 h' tk' F' N' => ?_
    · refine fun p hp => N p (?_ : p ∈ news)
      revert p
      exact sub_cons (hs _ (.head _)) (sub_cons (hs _ (.tail _ (.head _))) (sub_cons (hs _ (.tail _ (.tail _ (.head _)))) (sub_cons (hTn _ mta) (sub_cons (hTn _ mla) (sub_cons (hs _ (.tail _ (.tail _ (.tail _ (.head _))))) (sub_cons (hs _ (.tail _ (.tail _ (.tail _ (.tail _ (.head _)))))) (sub_cons (hs _ (.tail _ (.tail _ (.tail _ (.tail _ (.tail _ (.head _))))))) (sub_cons (hs _ (.tail _ (.tail _ (.tail _ (.tail _ (.tail _ (.tail _ (.head _)))))))) (sub_cons (hs _ (.tail _ (.tail _ (.tail _ (.tail _ (.tail _ (.tail _ (.tail _ (.head _))))))))) (fun p hp => hTn p (List.mem_filter.mp hp).1))))))))))
    · exact List.forall_mem_cons.mpr ⟨D.d14.symm, List.forall_mem_cons.mpr ⟨D.d15.symm, List.forall_mem_cons.mpr ⟨D.d16.symm, List.forall_mem_cons.mpr ⟨hec, List.forall_mem_cons.mpr ⟨D.d17.symm, fun p hp => O.o1 p (List.mem_filter.mp hp).1⟩⟩⟩⟩⟩
    · exact List.forall_mem_cons.mpr ⟨(O.o4 _ mla).symm, List.forall_mem_cons.mpr ⟨(O.o5 _ mla).symm, List.forall_mem_cons.mpr ⟨(O.o6 _ mla).symm, List.forall_mem_cons.mpr ⟨(C.le r hr).symm, List.forall_mem_cons.mpr ⟨(O.o7 _ mla).symm, fun p hp => of_decide_eq_true (List.mem_filter.mp hp).2⟩⟩⟩⟩⟩
    · refine hit hin r.v r.st qa t1 n1 _ _ t h' tk' (C.vb r hr) hq (.tail _ (List.mem_filter.mpr ⟨hqm, decide_eq_true (hne hqm rfl)⟩)) ?_ (put_up rs { r with st := n + 1, tt := t, n2 := n2 }) (cac_touch N hTn C hr) (lw_move W fun p hp hc => .tail _ (List.mem_filter.mpr ⟨hp, decide_eq_true (hne hp hc)⟩)) (fun p hp hc => .tail _ (List.mem_filter.mpr ⟨hp, decide_eq_true (hnl hp hc)⟩)) (offs_sub O ?_) F' ?_
      · rw [put_keys]; exact if_pos hin
      · intro p hp
        rcases List.mem_cons.mp hp with rfl | hp
        · exact ⟨_, mla, rfl⟩
        · exact ⟨p, (List.mem_filter.mp hp).1, rfl⟩
      · refine fun p hp => N' p ?_
        revert p
        exact sub_cons (.head _) (sub_cons (.tail _ (.head _)) (sub_cons (.tail _ (.tail _ (.head _))) (sub_cons (.tail _ (.tail _ (.tail _ (.tail _ (.tail _ (.head _)))))) (sub_cons (.tail _ (.tail _ (.tail _ (.tail _ (.tail _ (.tail _ (.head _))))))) (sub_cons (.tail _ (.tail _ (.tail _ (.tail _ (.tail _ (.tail _ (.tail _ (.head _)))))))) (sub_cons (.tail _ (.tail _ (.tail _ (.tail _ (.tail _ (.tail _ (.tail _ (.tail _ (.head _))))))))) (sub_cons (.tail _ (.tail _ (.tail _ (.tail _ (.tail _ (.tail _ (.tail _ (.tail _ (.tail _ (.head _)))))))))) (sub_cons (.tail _ (.tail _ (.tail _ (.tail _ (.head _))))) (fun p hp => (.tail _ (.tail _ (.tail _ (.tail _ (.tail _ (.tail _ (.tail _ (.tail _ (.tail _ (.tail _ (hp))))))))))))))))))))
  · refine get_miss (k := k) (tn := tn) (cap := .int room tc) (thr := thr) (T := (k, instObj 46 kd) :: (kd, lockD w.params th held) :: (rd, oR) :: (e, listOf (List.toArray vs) ne) :: (ck, oC) :: T) B F X (fun p hp => N p (hs p hp)) TP hk C.d lo (at_none hin) hd hu fun h' tk' F' N' => miss hin h' tk' F' N'
end Mine
end
section
namespace Mine
theorem fillE2 : True := by
  w_top off
  trivial

theorem s_read {prog : Program} {w : World} {mean : ExcName → Option Value} {mg mb : Str → Option Value}
    {dp un : Nat} {gd : Option (List Code)} {cn : Str} {cs : Scope} {a : Addr} {ccd : Value} {cl : List (Str × Addr)} {A₀ : Around} {h₀ : Heap} {L : Addr} {m : Str → Option Value} {s : Shared} {Q E : Value → Shared → Prop}
    {news T : List (Addr × Obj)} {c cd dD k kd rd e ck : Addr} {n room : Int} {tn th tc : Tok} {thr : Value} {held : Bool} {oD oR oC : Obj} {vs : List Value} {ne : Nat} {rs : List Row} {qs : List (Int × Value)} {key : Int} {tk : Tok}
    (B : Below A₀ h₀ [] h₀) (F : Fr h₀ L s.heap m) (X : (Mine.hd.heap_39 w.params).In h₀) (N : News h₀ L s.heap news) (hs : ∀ p ∈ (c, lru cd dD k n tn (.int room tc) thr) :: (cd, dictOf [] 0) :: (dD, oD) :: (k, instObj 46 kd) :: (kd, lockD w.params th held) :: (rd, oR) :: (e, listOf (List.toArray vs) ne) :: (ck, oC) :: T, p ∈ news) (TP : Top Mine.hd.view_39 (looseW Mine.hd.view_39 [Str.ofString "itemgetter", Str.ofString "LRUCache"]) mean mg mb h₀) (hk : cs.kind = .function) (D : Dist c cd dD k kd rd ck) (O : Offs T c cd dD k kd rd ck) (lo : (dD == sysModules) = false) (C : Cac prog w rs oD T e n) (W : Lw prog w rs qs oR T)
    (hd : dp + 4 < recursionLimit) (hu : un + 32 < cLine) (hn0 : 0 ≤ n) (hn1 : n ≤ 100)
    (hit : key ∈ rs.map (·.k) → ∀ (v : Value) (st : Int) qa t1 n1 rs' T' tn' h' tk', (v = .none ∨ ∃ j t, v = .int j t) → valueAt qs key = some (.ref qa) → (qa, qTup v st t1 n1) ∈ T' → rs'.map (·.k) = rs.map (·.k) → Up rs rs' key v (n + 1) →
      Cac prog w rs' oD T' e (n + 1) → Lw prog w rs qs oR T' → (∀ p ∈ T, p.2.cls ≠ .type "list" → p ∈ T') → Offs T' c cd dD k kd rd ck → Fr h₀ L h' m → News h₀ L h' ((c, lru cd dD k (n + 1) tn' (.int room tc) thr) :: (cd, dictOf [] 0) :: (dD, oD) :: (k, instObj 46 kd) :: (kd, lockD w.params th held) :: (rd, oR) :: (e, listOf (List.toArray vs) ne) :: (ck, oC) :: T') → Q v { s with heap := h', toks := tk' })
    (miss : key ∉ rs.map (·.k) → ∀ h' tk', Fr h₀ L h' m → News h₀ L h' ((c, lru cd dD k n tn (.int room tc) thr) :: (cd, dictOf [] 0) :: (dD, oD) :: (k, instObj 46 kd) :: (kd, lockD w.params th held) :: (rd, oR) :: (e, listOf (List.toArray vs) ne) :: (ck, oC) :: T) → ∀ t, Q (.str (Str.ofString "no") t) { s with heap := h', toks := tk' }) :
    wpAny (model prog w) (ktrTop dp un gd cn cs L a ccd cl []) (call (.ref 203) [.ref c, .int key tk]) Q E s := by
  by_cases hin : key ∈ rs.map (·.k)
  · obtain ⟨r, hr, hrk⟩ := List.mem_map.mp hin
    have hrk : r.k = key := hrk
    subst hrk
    obtain ⟨qa, t1, n1, hq, hqm⟩ := W.q r hr
    have mta := (C.rin r hr).1
    have mla := (C.rin r hr).2
    have hTn : ∀ p ∈ T, p ∈ news := fun p hp => hs p (.tail _ (.tail _ (.tail _ (.tail _ (.tail _ (.tail _ (.tail _ (.tail _ (hp)))))))))
    have hec : e ≠ c := news_ne N (hs _ (.tail _ (.tail _ (.tail _ (.tail _ (.tail _ (.tail _ (.head _)))))))) (hs _ (.head _)) (by intro h; cases h)
    have hnl : ∀ {x : Addr} {o : Obj}, (x, o) ∈ T → o.cls ≠ .type "list" → x ≠ r.la := fun hx hc => news_ne N (hTn _ hx) (hTn _ mla) hc
    have hne : ∀ {x : Addr} {o : Obj}, (x, o) ∈ T → o.cls = .type "tuple" → x ≠ r.la := fun hx hc => hnl hx (by rw [hc]; exact fun e => absurd (Value.type.inj e) (by decide))
    refine read_hit (k := k) (tn := tn) (cap := .int room tc) (thr := thr) (r := r) (T := (k, instObj 46 kd) :: (kd, lockD w.params th held) :: (rd, oR) :: (e, listOf (List.toArray vs) ne) :: (ck, oC) :: T.filter (fun p => decide (p.1 ≠ r.la))) B F X ?_ TP hk C.d lo (at_row C.kn hr)
      D.d12.symm D.d13.symm (O.o1 _ mta) (O.o1 _ mla) ?_ (O.o1 _ mla).symm (O.o2 _ mla).symm (O.o3 _ mla).symm (hne mta rfl) ?_ hd hu hn0 hn1 fun t n2 h' tk' F' N' => ?_
    · refine fun p hp => N p (?_ : p ∈ news)
      revert p
      exact sub_cons (hs _ (.head _)) (sub_cons (hs _ (.tail _ (.head _))) (sub_cons (hs _ (.tail _ (.tail _ (.head _)))) (sub_cons (hTn _ mta) (sub_cons (hTn _ mla) (sub_cons (hs _ (.tail _ (.tail _ (.tail _ (.head _))))) (sub_cons (hs _ (.tail _ (.tail _ (.tail _ (.tail _ (.head _)))))) (sub_cons (hs _ (.tail _ (.tail _ (.tail _ (.tail _ (.tail _ (.head _))))))) (sub_cons (hs _ (.tail _ (.tail _ (.tail _ (.tail _ (.tail _ (.tail _ (.head _)))))))) (sub_cons (hs _ (.tail _ (.tail _ (.tail _ (.tail _ (.tail _ (.tail _ (.tail _ (.head _))))))))) (fun p hp => hTn p (List.mem_filter.mp hp).1))))))))))
    · exact List.forall_mem_cons.mpr ⟨D.d14.symm, List.forall_mem_cons.mpr ⟨D.d15.symm, List.forall_mem_cons.mpr ⟨D.d16.symm, List.forall_mem_cons.mpr ⟨hec, List.forall_mem_cons.mpr ⟨D.d17.symm, fun p hp => O.o1 p (List.mem_filter.mp hp).1⟩⟩⟩⟩⟩
    · exact List.forall_mem_cons.mpr ⟨(O.o4 _ mla).symm, List.forall_mem_cons.mpr ⟨(O.o5 _ mla).symm, List.forall_mem_cons.mpr ⟨(O.o6 _ mla).symm, List.forall_mem_cons.mpr ⟨(C.le r hr).symm, List.forall_mem_cons.mpr ⟨(O.o7 _ mla).symm, fun p hp => of_decide_eq_true (List.mem_filter.mp hp).2⟩⟩⟩⟩⟩
    · refine hit hin r.v r.st qa t1 n1 _ _ t h' tk' (C.vb r hr) hq (.tail _ (List.mem_filter.mpr ⟨hqm, decide_eq_true (hne hqm rfl)⟩)) ?_ (put_up rs { r with st := n + 1, tt := t, n2 := n2 }) (cac_touch N hTn C hr) (lw_move W fun p hp hc => .tail _ (List.mem_filter.mpr ⟨hp, decide_eq_true (hne hp hc)⟩)) (fun p hp hc => .tail _ (List.mem_filter.mpr ⟨hp, decide_eq_true (hnl hp hc)⟩)) (offs_sub O ?_) F' ?_
      · rw [put_keys]; exact if_pos hin
      · intro p hp
        rcases List.mem_cons.mp hp with rfl | hp
        · exact ⟨_, mla, rfl⟩
        · exact ⟨p, (List.mem_filter.mp hp).1, rfl⟩
      · refine fun p hp => N' p ?_
        revert p
        exact sub_cons (.head _) (sub_cons (.tail _ (.head _)) (sub_cons (.tail _ (.tail _ (.head _))) (sub_cons (.tail _ (.tail _ (.tail _ (.tail _ (.tail _ (.head _)))))) (sub_cons (.tail _ (.tail _ (.tail _ (.tail _ (.tail _ (.tail _ (.head _))))))) (sub_cons (.tail _ (.tail _ (.tail _ (.tail _ (.tail _ (.tail _ (.tail _ (.head _)))))))) (sub_cons (.tail _ (.tail _ (.tail _ (.tail _ (.tail _ (.tail _ (.tail _ (.tail _ (.head _))))))))) (sub_cons (.tail _ (.tail _ (.tail _ (.tail _ (.tail _ (.tail _ (.tail _ (.tail _ (.tail _ (.head _)))))))))) (sub_cons (.tail _ (.tail _ (.tail _ (.tail _ (.head _))))) (fun p hp => (.tail _ (.tail _ (.tail _ (.tail _ (.tail _ (.tail _ (.tail _ (.tail _ (.tail _ (.tail _ (hp))))))))))))))))))))
  · refine read_miss (k := k) (tn := tn) (cap := .int room tc) (thr := thr) (T := (k, instObj 46 kd) :: (kd, lockD w.params th held) :: (rd, oR) :: (e, listOf (List.toArray vs) ne) :: (ck, oC) :: T) B F X (fun p hp => N p (hs p hp)) TP hk C.d lo (at_none hin) hd hu fun t h' tk' F' N' => miss hin h' tk' F' N' t
theorem s_take {prog : Program} {w : World} {mean : ExcName → Option Value} {mg mb : Str → Option Value}
    {dp un : Nat} {gd : Option (List Code)} {cn : Str} {cs : Scope} {a : Addr} {ccd : Value} {cl : List (Str × Addr)} {A₀ : Around} {h₀ : Heap} {L : Addr} {m : Str → Option Value} {s : Shared} {Q E : Value → Shared → Prop}
    {news T : List (Addr × Obj)} {c cd dD k kd rd e ck : Addr} {n room : Int} {tn th tc : Tok} {thr : Value} {held : Bool} {oD oR oC : Obj} {vs : List Value} {ne : Nat} {rs : List Row} {qs : List (Int × Value)} {key : Int} {tk : Tok}
    (B : Below A₀ h₀ [] h₀) (F : Fr h₀ L s.heap m) (X : (Mine.hd.heap_39 w.params).In h₀) (N : News h₀ L s.heap news) (hs : ∀ p ∈ (c, lru cd dD k n tn (.int room tc) thr) :: (cd, dictOf [] 0) :: (dD, oD) :: (k, instObj 46 kd) :: (kd, lockD w.params th held) :: (rd, oR) :: (e, listOf (List.toArray vs) ne) :: (ck, oC) :: T, p ∈ news) (TP : Top Mine.hd.view_39 (looseW Mine.hd.view_39 [Str.ofString "itemgetter", Str.ofString "LRUCache"]) mean mg mb h₀) (hk : cs.kind = .function) (D : Dist c cd dD k kd rd ck) (O : Offs T c cd dD k kd rd ck) (lo : (dD == sysModules) = false) (C : Cac prog w rs oD T e n)
    (hd : dp + 4 < recursionLimit) (hu : un + 32 < cLine)
    (hit : key ∈ rs.map (·.k) → ∀ oD' h' tk', Cac prog w (less rs [key]) oD' T e n → Fr h₀ L h' m → News h₀ L h' ((c, lru cd dD k n tn (.int room tc) thr) :: (cd, dictOf [] 0) :: (dD, oD') :: (k, instObj 46 kd) :: (kd, lockD w.params th held) :: (rd, oR) :: (e, listOf (List.toArray vs) ne) :: (ck, oC) :: T) → Q (.bool true) { s with heap := h', toks := tk' })
    (miss : key ∉ rs.map (·.k) → ∀ h' tk', Fr h₀ L h' m → News h₀ L h' ((c, lru cd dD k n tn (.int room tc) thr) :: (cd, dictOf [] 0) :: (dD, oD) :: (k, instObj 46 kd) :: (kd, lockD w.params th held) :: (rd, oR) :: (e, listOf (List.toArray vs) ne) :: (ck, oC) :: T) → Q (.bool false) { s with heap := h', toks := tk' }) :
    wpAny (model prog w) (ktrTop dp un gd cn cs L a ccd cl []) (call (.ref 210) [.ref c, .int key tk]) Q E s := by
  by_cases hin : key ∈ rs.map (·.k)
  · have hl : (rowsKv rs).length = rs.length := by simp [rowsKv]
    have h6 := rows_six C.kn C.kb
    have hed : e ≠ dD := news_ne N (hs _ (.tail _ (.tail _ (.tail _ (.tail _ (.tail _ (.tail _ (.head _)))))))) (hs _ (.tail _ (.tail _ (.head _)))) (by show Value.type "list" ≠ oD.cls; rw [dict_cls C.d]; exact fun e => absurd (Value.type.inj e) (by decide))
    refine take_hit (k := k) (n := n) (tn := tn) (cap := .int room tc) (thr := thr) (T := (k, instObj 46 kd) :: (kd, lockD w.params th held) :: (rd, oR) :: (e, listOf (List.toArray vs) ne) :: (ck, oC) :: T) B F X (fun p hp => N p (hs p hp)) TP hk C.d lo ?_ (by omega)
      D.d13 D.d23 ?_ hd hu fun oD' h' tk' hD' F' N' => hit hin oD' h' tk' (cac_less C List.filter_sublist ?_) F' N'
    · obtain ⟨r, hr, hrk⟩ := List.mem_map.mp hin
      have hrk : r.k = key := hrk
      subst hrk
      rw [at_row C.kn hr]; rfl
    · exact List.forall_mem_cons.mpr ⟨D.d34.symm, List.forall_mem_cons.mpr ⟨D.d35.symm, List.forall_mem_cons.mpr ⟨D.d36.symm, List.forall_mem_cons.mpr ⟨hed, List.forall_mem_cons.mpr ⟨D.d37.symm, O.o3⟩⟩⟩⟩⟩
    · have e1 := less_snoc rs [] key
      rw [less_nil] at e1
      show oD'.IsDictOf _ (rowsKv (less rs ([] ++ [key])))
      rw [e1]; exact hD'
  · refine take_miss (k := k) (n := n) (tn := tn) (cap := .int room tc) (thr := thr) (T := (k, instObj 46 kd) :: (kd, lockD w.params th held) :: (rd, oR) :: (e, listOf (List.toArray vs) ne) :: (ck, oC) :: T) B F X (fun p hp => N p (hs p hp)) TP hk C.d lo (at_none hin) hd hu fun h' tk' F' N' => miss hin h' tk' F' N'

theorem s_man {prog : Program} {w : World} {mean : ExcName → Option Value} {mg mb : Str → Option Value}
    {dp un : Nat} {gd : Option (List Code)} {cn : Str} {cs : Scope} {a : Addr} {ccd : Value} {cl : List (Str × Addr)} {outer : List Env} {A₀ : Around} {base h₀ : Heap} {L : Addr} {m : Str → Option Value} {s : Shared} {Q E : Value → Shared → Prop}
    {news T : List (Addr × Obj)} {c cd dD k kd rd e ck : Addr} {n room : Int} {tn th tc : Tok} {thr : Value} {held : Bool} {oD oR oC : Obj} {vs : List Value} {ne : Nat} {rs : List Row} {qs : List (Int × Value)} {num den : Int}
    (B : Below A₀ base outer h₀) (F : Fr h₀ L s.heap m) (X : (Mine.hd.heap_39 w.params).In h₀) (N : News h₀ L s.heap news) (hs : ∀ p ∈ (c, lru cd dD k n tn (.int room tc) thr) :: (cd, dictOf [] 0) :: (dD, oD) :: (k, instObj 46 kd) :: (kd, lockD w.params th held) :: (rd, oR) :: (e, listOf (List.toArray vs) ne) :: (ck, oC) :: T, p ∈ news) (TP : Top Mine.hd.view_39 (looseW Mine.hd.view_39 [Str.ofString "itemgetter", Str.ofString "LRUCache"]) mean mg mb h₀) (hk : cs.kind = .function) (D : Dist c cd dD k kd rd ck) (O : Offs T c cd dD k kd rd ck) (lo : (dD == sysModules) = false) (C : Cac prog w rs oD T e n) (ht : Thr thr num den) (h0 : 0 ≤ room) (h1 : room ≤ 4)
    (hd : dp + 10 < recursionLimit) (hu : un + 100 < cLine)
    (ret : ∀ rs2 oD' h' tk', Sqz held rs rs2 room num den → Cac prog w rs2 oD' T e n → Fr h₀ L h' m → News h₀ L h' ((c, lru cd dD k n tn (.int room tc) thr) :: (cd, dictOf [] 0) :: (dD, oD') :: (k, instObj 46 kd) :: (kd, lockD w.params th held) :: (rd, oR) :: (e, listOf (List.toArray vs) ne) :: (ck, oC) :: T) → Q .none { s with heap := h', toks := tk' }) :
    wpAny (model prog w) (ktrTop dp un gd cn cs L a ccd cl outer) (call (.ref 174) [.ref c]) Q E s := by
  have h6 := rows_six C.kn C.kb
  have hed : e ≠ dD := news_ne N (hs _ (.tail _ (.tail _ (.tail _ (.tail _ (.tail _ (.tail _ (.head _)))))))) (hs _ (.tail _ (.tail _ (.head _)))) (by show Value.type "list" ≠ oD.cls; rw [dict_cls C.d]; exact fun e => absurd (Value.type.inj e) (by decide))
  have hek : e ≠ kd := news_ne N (hs _ (.tail _ (.tail _ (.tail _ (.tail _ (.tail _ (.tail _ (.head _)))))))) (hs _ (.tail _ (.tail _ (.tail _ (.tail _ (.head _)))))) (fun e => absurd (Value.type.inj e) (by decide))
  refine man_spec (T := (rd, oR) :: (e, listOf (List.toArray vs) ne) :: (ck, oC) :: T) B F X (fun p hp => N p (hs p hp)) TP hk C.d lo ht (fun r hr => ⟨(.tail _ (.tail _ (.tail _ ((C.rin r hr).1)))), (.tail _ (.tail _ (.tail _ ((C.rin r hr).2))))⟩) C.sn C.kn h6 h0 h1
    D.d15 D.d25 D.d35 D.d45 ?_ D.d13 D.d23 D.d34.symm ?_ hd hu fun rs2 oD' h' tk' hq hD' F' N' => ret rs2 oD' h' tk' hq (cac_less C (sqz_list hq) hD') F' N'
  · exact List.forall_mem_cons.mpr ⟨D.d56.symm, List.forall_mem_cons.mpr ⟨hek, List.forall_mem_cons.mpr ⟨D.d57.symm, O.o5⟩⟩⟩
  · exact List.forall_mem_cons.mpr ⟨D.d36.symm, List.forall_mem_cons.mpr ⟨hed, List.forall_mem_cons.mpr ⟨D.d37.symm, O.o3⟩⟩⟩

theorem s_inc {prog : Program} {w : World} {mean : ExcName → Option Value} {mg mb : Str → Option Value}
    {dp un : Nat} {gd : Option (List Code)} {cn : Str} {cs : Scope} {a : Addr} {ccd : Value} {cl : List (Str × Addr)} {outer : List Env} {A₀ : Around} {base h₀ : Heap} {L : Addr} {m : Str → Option Value} {s : Shared} {Q E : Value → Shared → Prop}
    {news T : List (Addr × Obj)} {c cd dD k kd rd e ck : Addr} {n room : Int} {tn th tc : Tok} {thr : Value} {held : Bool} {oD oR oC : Obj} {vs : List Value} {ne : Nat} {rs : List Row} {qs : List (Int × Value)}
    (B : Below A₀ base outer h₀) (F : Fr h₀ L s.heap m) (X : (Mine.hd.heap_39 w.params).In h₀) (N : News h₀ L s.heap news) (hs : ∀ p ∈ (c, lru cd dD k n tn (.int room tc) thr) :: (cd, dictOf [] 0) :: (dD, oD) :: (k, instObj 46 kd) :: (kd, lockD w.params th held) :: (rd, oR) :: (e, listOf (List.toArray vs) ne) :: (ck, oC) :: T, p ∈ news) (TP : Top Mine.hd.view_39 (looseW Mine.hd.view_39 [Str.ofString "itemgetter", Str.ofString "LRUCache"]) mean mg mb h₀) (hk : cs.kind = .function) (D : Dist c cd dD k kd rd ck) (O : Offs T c cd dD k kd rd ck)
    (hd : dp + 1 < recursionLimit) (hu : un + 8 < cLine) (hn0 : 0 ≤ n) (hn1 : n ≤ 100)
    (ret : ∀ t h' tk', Fr h₀ L h' m → News h₀ L h' ((c, lru cd dD k (n + 1) t (.int room tc) thr) :: (cd, dictOf [] 0) :: (dD, oD) :: (k, instObj 46 kd) :: (kd, lockD w.params th held) :: (rd, oR) :: (e, listOf (List.toArray vs) ne) :: (ck, oC) :: T) → Q (.int (n+1) t) { s with heap := h', toks := tk' }) :
    wpAny (model prog w) (ktrTop dp un gd cn cs L a ccd cl outer) (call (.ref 116) [.ref c]) Q E s := by
  have hec : e ≠ c := news_ne N (hs _ (.tail _ (.tail _ (.tail _ (.tail _ (.tail _ (.tail _ (.head _)))))))) (hs _ (.head _)) (by intro h; cases h)
  refine inc_spec (T := (dD, oD) :: (k, instObj 46 kd) :: (kd, lockD w.params th held) :: (rd, oR) :: (e, listOf (List.toArray vs) ne) :: (ck, oC) :: T) B F X (fun p hp => N p (hs p hp)) TP hk D.d12.symm ?_ hd hu hn0 hn1 ret
  exact List.forall_mem_cons.mpr ⟨D.d13.symm, List.forall_mem_cons.mpr ⟨D.d14.symm, List.forall_mem_cons.mpr ⟨D.d15.symm, List.forall_mem_cons.mpr ⟨D.d16.symm, List.forall_mem_cons.mpr ⟨hec, List.forall_mem_cons.mpr ⟨D.d17.symm, O.o1⟩⟩⟩⟩⟩⟩

theorem x_set_own {M : Model} {A : Around} {E : Value → Shared → Prop} {s : Shared} {K : Frag} {x C L f : Addr} {h₀ : Heap} {m : Str → Option Value} {ox : Obj} {od : Option Obj} {i v : Value} {Q : Unit → Shared → Prop}
    (F : Fr h₀ L s.heap m) (X₀ : K.In h₀) (I : InstAt s.heap x ox C od) (hq : noSeq K C = true) (hs : findIn K (.ref C) "__setitem__" = some (some (.ref f))) (hf : isFn K (.ref f) = true)
    (h : wpAny M A (call (.ref f) [.ref x, i, v]) (fun _ s' => Q () s') E s) : wpAny M A (setItem (.ref x) i v) Q E s := by
  have X := X₀.keeps F.keep
  unfold setItem sequenceKey
  refine wpAny_holding (wpAny_bind (wpAny_bind (I.type.here ?_)))
  refine wpAny_bind ((anyM_none X hq).here ?_)
  rw [if_pos (show (!false) = true from rfl)]
  exact wpAny_pure (wpAny_bind (special_fn X I hs (beq_iff_eq.mp hf) (wpAny_mono h (fun _ _ z => wpAny_pure z) fun _ _ z => z)))

theorem s_set {prog : Program} {w : World} {mean : ExcName → Option Value} {mg mb : Str → Option Value}
    {dp un : Nat} {gd : Option (List Code)} {cn : Str} {cs : Scope} {a : Addr} {ccd : Value} {cl : List (Str × Addr)} {outer : List Env} {A₀ : Around} {base h₀ : Heap} {L : Addr} {m : Str → Option Value} {s : Shared} {Q : Unit → Shared → Prop} {E : Value → Shared → Prop}
    {news T : List (Addr × Obj)} {c cd dD k kd rd e ck : Addr} {n room : Int} {tn th tc : Tok} {thr : Value} {held : Bool} {oD oR oC : Obj} {vs : List Value} {ne : Nat} {rs : List Row} {qs : List (Int × Value)} {num den key : Int} {tk : Tok} {v : Value}
    (B : Below A₀ base outer h₀) (F : Fr h₀ L s.heap m) (X : (Mine.hd.heap_39 w.params).In h₀) (N : News h₀ L s.heap news) (hs : ∀ p ∈ (c, lru cd dD k n tn (.int room tc) thr) :: (cd, dictOf [] 0) :: (dD, oD) :: (k, instObj 46 kd) :: (kd, lockD w.params th held) :: (rd, oR) :: (e, listOf (List.toArray vs) ne) :: (ck, oC) :: T, p ∈ news) (TP : Top Mine.hd.view_39 (looseW Mine.hd.view_39 [Str.ofString "itemgetter", Str.ofString "LRUCache"]) mean mg mb h₀) (hk : cs.kind = .function) (D : Dist c cd dD k kd rd ck) (O : Offs T c cd dD k kd rd ck) (lo : (dD == sysModules) = false) (C : Cac prog w rs oD T e n) (ht : Thr thr num den) (h0 : 0 ≤ room) (h1 : room ≤ 4) (hk0 : 0 ≤ key) (hk5 : key ≤ 5) (hv : v = .none ∨ ∃ j t, v = .int j t)
    (hd : dp + 12 < recursionLimit) (hu : un + 120 < cLine) (hn0 : 0 ≤ n) (hn1 : n ≤ 100)
    (ret : ∀ rs1 rs2 oD' T' tn' h' tk', rs1.map (·.k) = (if key ∈ rs.map (·.k) then rs.map (·.k) else rs.map (·.k) ++ [key]) → Up rs rs1 key v (n + 1) → (rs1.map (·.k)).Nodup → (rs1.map (·.st)).Nodup → (∀ x ∈ rs1, 0 ≤ x.k ∧ x.k ≤ 5) →
      Sqz held rs1 rs2 room num den → Cac prog w rs2 oD' T' e (n + 1) → (∀ p ∈ T, p ∈ T') → Offs T' c cd dD k kd rd ck → Fr h₀ L h' m → News h₀ L h' ((c, lru cd dD k (n + 1) tn' (.int room tc) thr) :: (cd, dictOf [] 0) :: (dD, oD') :: (k, instObj 46 kd) :: (kd, lockD w.params th held) :: (rd, oR) :: (e, listOf (List.toArray vs) ne) :: (ck, oC) :: T') → Q () { s with heap := h', toks := tk' }) :
    wpAny (model prog w) (ktrTop dp un gd cn cs L a ccd cl outer) (setItem (.ref c) (.int key tk) v) Q E s := by
  have h6 := rows_six C.kn C.kb
  have hed : e ≠ dD := news_ne N (hs _ (.tail _ (.tail _ (.tail _ (.tail _ (.tail _ (.tail _ (.head _)))))))) (hs _ (.tail _ (.tail _ (.head _)))) (by show Value.type "list" ≠ oD.cls; rw [dict_cls C.d]; exact fun e => absurd (Value.type.inj e) (by decide))
  have hek : e ≠ kd := news_ne N (hs _ (.tail _ (.tail _ (.tail _ (.tail _ (.tail _ (.tail _ (.head _)))))))) (hs _ (.tail _ (.tail _ (.tail _ (.tail _ (.head _)))))) (fun e => absurd (Value.type.inj e) (by decide))
  have hec : e ≠ c := news_ne N (hs _ (.tail _ (.tail _ (.tail _ (.tail _ (.tail _ (.tail _ (.head _)))))))) (hs _ (.head _)) (by intro h; cases h)
  have I0 : InstAt s.heap c _ 178 (some (dictOf [] 0)) := InstAt.of_news N (hs _ (.head _)) (hs _ (.tail _ (.head _)))
  refine x_set_own (K := Mine.hd.heap_39 w.params) (C := 178) (f := 152) F X I0 (by k_is) (by k_is) (by k_is) ?_
  refine set_spec (T := (rd, oR) :: (e, listOf (List.toArray vs) ne) :: (ck, oC) :: T) B F X (fun p hp => N p (hs p hp)) TP hk C.d lo ht (fun r hr => ⟨(.tail _ (.tail _ (.tail _ ((C.rin r hr).1)))), (.tail _ (.tail _ (.tail _ ((C.rin r hr).2))))⟩) C.sn C.kn h6 C.kb C.sb h0 h1 hk0 hk5
    D.d15 D.d25 D.d35 D.d45 ?_ D.d13 D.d23 D.d34.symm ?_ D.d12 D.d14.symm ?_ hn0 hn1 hd hu fun r rs2 tn' oD' h' tk' e1 e2 e3 hlt hlt2 hq hD' F' N' => ?_
  · exact List.forall_mem_cons.mpr ⟨D.d56.symm, List.forall_mem_cons.mpr ⟨hek, List.forall_mem_cons.mpr ⟨D.d57.symm, O.o5⟩⟩⟩
  · exact List.forall_mem_cons.mpr ⟨D.d36.symm, List.forall_mem_cons.mpr ⟨hed, List.forall_mem_cons.mpr ⟨D.d37.symm, O.o3⟩⟩⟩
  · exact List.forall_mem_cons.mpr ⟨D.d16.symm, List.forall_mem_cons.mpr ⟨hec, List.forall_mem_cons.mpr ⟨D.d17.symm, O.o1⟩⟩⟩
  · subst e1 e2
    have N2 : News h₀ L h' ((c, lru cd dD k (n + 1) tn' (.int room tc) thr) :: (cd, dictOf [] 0) :: (dD, oD') :: (k, instObj 46 kd) :: (kd, lockD w.params th held) :: (rd, oR) :: (e, listOf (List.toArray vs) ne) :: (ck, oC) :: ((r.ta, rowTup r) :: (r.la, rowLst r) :: T)) := by
      refine fun p hp => N' p ?_
      revert p
      exact sub_cons (.head _) (sub_cons (.tail _ (.head _)) (sub_cons (.tail _ (.tail _ (.head _))) (sub_cons (.tail _ (.tail _ (.tail _ (.head _)))) (sub_cons (.tail _ (.tail _ (.tail _ (.tail _ (.head _))))) (sub_cons (.tail _ (.tail _ (.tail _ (.tail _ (.tail _ (.tail _ (.tail _ (.head _)))))))) (sub_cons (.tail _ (.tail _ (.tail _ (.tail _ (.tail _ (.tail _ (.tail _ (.tail _ (.head _))))))))) (sub_cons (.tail _ (.tail _ (.tail _ (.tail _ (.tail _ (.tail _ (.tail _ (.tail _ (.tail _ (.head _)))))))))) (sub_cons (.tail _ (.tail _ (.tail _ (.tail _ (.tail _ (.head _)))))) (sub_cons (.tail _ (.tail _ (.tail _ (.tail _ (.tail _ (.tail _ (.head _))))))) (fun p hp => (.tail _ (.tail _ (.tail _ (.tail _ (.tail _ (.tail _ (.tail _ (.tail _ (.tail _ (.tail _ (hp)))))))))))))))))))))
    have tt : TT ((r.ta, rowTup r) :: (r.la, rowLst r) :: T) := List.forall_mem_cons.mpr ⟨.inl rfl, List.forall_mem_cons.mpr ⟨.inr (.inl rfl), C.tt⟩⟩
    have cD : oD'.cls = .type "dict" := dict_cls hD'
    have hsub : ∀ p ∈ ((r.ta, rowTup r) :: (r.la, rowLst r) :: T), p ∈ ((c, lru cd dD k (n + 1) tn' (.int room tc) thr) :: (cd, dictOf [] 0) :: (dD, oD') :: (k, instObj 46 kd) :: (kd, lockD w.params th held) :: (rd, oR) :: (e, listOf (List.toArray vs) ne) :: (ck, oC) :: ((r.ta, rowTup r) :: (r.la, rowLst r) :: T)) := fun p hp => (.tail _ (.tail _ (.tail _ (.tail _ (.tail _ (.tail _ (.tail _ (.tail _ (hp)))))))))
    have lt : ∀ {a : String} {b : String}, a ≠ b → Value.type a ≠ Value.type b := fun h e => h (Value.type.inj e)
    have O' : Offs ((r.ta, rowTup r) :: (r.la, rowLst r) :: T) c cd dD k kd rd ck := by
      refine ⟨offs_of N2 hsub tt (.head _) (by intro h; cases h) (by intro h; cases h) (by intro h; cases h), offs_of N2 hsub tt (.tail _ (.head _)) (lt (by decide)) (lt (by decide)) (lt (by decide)), offs_of N2 hsub tt (.tail _ (.tail _ (.head _))) (by rw [cD]; exact lt (by decide)) (by rw [cD]; exact lt (by decide)) (by rw [cD]; exact lt (by decide)),
        offs_of N2 hsub tt (.tail _ (.tail _ (.tail _ (.head _)))) (by intro h; cases h) (by intro h; cases h) (by intro h; cases h), offs_of N2 hsub tt (.tail _ (.tail _ (.tail _ (.tail _ (.head _))))) (lt (by decide)) (lt (by decide)) (lt (by decide)), ?_, ?_⟩
      · exact List.forall_mem_cons.mpr ⟨Nat.ne_of_gt (hlt2 _ (.head _)), List.forall_mem_cons.mpr ⟨Nat.ne_of_gt (hlt _ (.head _)), O.o6⟩⟩
      · exact List.forall_mem_cons.mpr ⟨Nat.ne_of_gt (hlt2 _ (.tail _ (.tail _ (.head _)))), List.forall_mem_cons.mpr ⟨Nat.ne_of_gt (hlt _ (.tail _ (.tail _ (.head _)))), O.o7⟩⟩
    have C1 : Cac prog w rs2 oD' ((r.ta, rowTup r) :: (r.la, rowLst r) :: T) e (n + 1) := by
      have sub := sqz_list hq
      have mem : ∀ x ∈ rs2, x = r ∨ (x ∈ rs ∧ x.k ≠ r.k) := fun x hx => put_mem (sub.subset hx)
      refine ⟨hD', fun x hx => put_in C.rin x (sub.subset hx), (sub.map _).nodup (put_kn C.kn), fun x hx => put_kb C.kb hk0 hk5 x (sub.subset hx), (sub.map _).nodup (put_nodup (·.st) C.kn C.sn fun x hx => ?_), fun x hx => ?_, (sub.map _).nodup (put_nodup (·.la) C.kn C.ln fun x hx => ?_), fun x hx => ?_, tt, fun x hx => ?_⟩
      · have := C.sb x hx; show x.st ≠ r.st; omega
      · rcases mem x hx with rfl | ⟨hx, _⟩
        · exact Int.le_of_eq e3
        · have := C.sb x hx; omega
      · exact Nat.ne_of_lt (hlt _ (.tail _ (.tail _ (.tail _ ((C.rin x hx).2)))))
      · rcases mem x hx with rfl | ⟨hx, _⟩
        · exact Nat.ne_of_gt (hlt _ (.tail _ (.head _)))
        · exact C.le x hx
      · rcases mem x hx with rfl | ⟨hx, _⟩
        · exact hv
        · exact C.vb x hx
    refine ret (putRow rs r) rs2 oD' _ tn' h' tk' (put_keys rs r) (e3 ▸ put_up rs r) (put_kn C.kn) (put_nodup (·.st) C.kn C.sn fun x hx => ?_) (put_kb C.kb hk0 hk5) hq C1 (fun p hp => .tail _ (.tail _ hp)) O' F' N2
    have := C.sb x hx; show x.st ≠ r.st; omega
end Mine
end
section
open PySem PySem.W PyProof.Rows PyProof.V PySem.Spec
open PyProof.Rows.LCg PyProof.Rows.LCt
namespace Mine
/-- the least stamp that stays -/
def Least (ns : List Int) (room least : Int) : Prop :=
  (0 < room ∧ least = ns.getD (if (ns.length : Int) - room < 0 then (ns.length : Int) - room + (ns.length : Int) else (ns.length : Int) - room).toNat 0) ∨ (room ≤ 0 ∧ least = ns.getD (if (-1 : Int) < 0 then -1 + (ns.length : Int) else -1).toNat 0 + 1)
/-- nothing but the heap's own growth and the tokens has changed -/
def Keep (h₀ : Heap) (L : Addr) (m : Str → Option Value) (s : Shared) (all : List (Addr × Obj)) (s' : Shared) : Prop := ∃ h' tk', s' = { s with heap := h', toks := tk' } ∧ Fr h₀ L h' m ∧ News h₀ L h' all
theorem Keep.intro {h₀ h' : Heap} {L : Addr} {m : Str → Option Value} {s : Shared} {all : List (Addr × Obj)} {tk' : Nat} (F : Fr h₀ L h' m) (N : News h₀ L h' all) : Keep h₀ L m s all { s with heap := h', toks := tk' } := ⟨h', tk', rfl, F, N⟩
theorem ints_snoc {vs : List Value} {ns : List Int} (h : IntsAre vs ns) (n : Int) (t : Tok) : IntsAre (vs ++ [.int n t]) (ns ++ [n]) := by
  induction h with
  | nil => exact .cons _ _ .nil
  | cons a b _ ih => exact .cons _ _ ih
section
variable {prog : Program} {w : World} {A : Around} {s s₁ : Shared} {h₀ : Heap} {L : Addr} {m : Str → Option Value} {env : Env} {elt ct : PySem.Expr} {x : Str} {scope : Scope} {cl : List (Str × Addr)}
theorem comp_rest {Fin : List Value → List (Addr × Obj) → Prop} {S : List (Addr × Obj) → Prop} {its : Array Value} {news : List (Addr × Obj)} (hS : S news) (rows : List Row) (f : Row → Int)
    (turn : ∀ r ∈ rows, ∀ t I oI C oC D m₂ h tk (E' : Value → Shared → Prop) ys, NsObj oC m₂ → m₂ x = some (.int r.k t) → Fr h₀ L h m → News h₀ L h ((I, oI) :: (C, oC) :: (D, lst ys) :: news) →
      wpAny (model prog w) A (eval elt (compEnvC scope cl C env)) (fun y s' => (∃ t', y = .int (f r) t') ∧ Keep h₀ L m { s with heap := h, toks := tk } ((I, oI) :: (C, oC) :: (D, lst ys) :: news) s') E' { s with heap := h, toks := tk }) :
    ∀ (rs2 rs1 : List Row) (ys : List Value), (∀ r ∈ rs2, r ∈ rows) → (∀ j (r : Row), rs2[j]? = some r → ∃ t, its[rs1.length + j]? = some (.int r.k t)) → IntsAre ys (rs1.map f) → (∀ us, IntsAre us ((rs1 ++ rs2).map f) → Fin us news) →
      CompRest prog w A h₀ L m env elt x scope cl s S (fun i v => its[i]? = some v) Fin rs2.length rs1.length ys news
  | [], rs1, ys, _, _, hy, hf => CompRest.zero (hf ys (by simpa using hy))
  | r :: rs2, rs1, ys, hm, hi, hy, hf => by
    refine CompRest.succ fun v I oI C oC D m₂ h tk E' hP hC hx F N off ne => ?_
    obtain ⟨t, ht⟩ := hi 0 r rfl
    have hP : its[rs1.length]? = some v := hP
    rw [Nat.add_zero, hP] at ht
    have hv : v = .int r.k t := Option.some.inj ht
    subst hv
    refine wpAny_mono (turn r (hm r (.head _)) t I oI C oC D m₂ h tk E' ys hC hx F N) (fun y s' hk => ?_) fun _ _ e => e
    obtain ⟨⟨t', rfl⟩, h', tk', rfl, F', N'⟩ := hk
    refine CompEnd.intro (s₁ := { s with heap := h, toks := tk }) F' N' news (fun p hp => hp) off hS ?_
    have e1 : rs1.length + 1 = (rs1 ++ [r]).length := by simp
    rw [e1]
    refine comp_rest hS rows f turn rs2 (rs1 ++ [r]) _ (fun r' h' => hm r' (.tail _ h')) (fun j r' hj => ?_) ?_ (fun us hu => hf us (by simpa using hu))
    · have := hi (j + 1) r' (by simpa using hj)
      rw [List.length_append, List.length_singleton, show rs1.length + 1 + j = rs1.length + (j + 1) by omega]
      exact this
    · rw [List.map_append]
      exact ints_snoc hy _ _
/-- [e for k in entry], the entry's items the rows' names, e an int of the row -/
theorem comp_src {Fin : Shared → List Value → List (Addr × Obj) → Prop} {ax : Addr} {vs : List Value} {k : Nat} {news : List (Addr × Obj)} (rows : List Row) (f : Row → Int)
    (hh : A.handled = none) (F : Fr h₀ L s₁.heap m) (N : News h₀ L s₁.heap news) (hm : (ax, listOf vs.toArray k) ∈ news) (hi : IntsAre vs (rows.map (·.k))) (hz : (rows.map (·.k)).length ≤ 1000)
    (turn : ∀ g, ∀ r ∈ rows, ∀ t I oI C oC D m₂ h tk (E' : Value → Shared → Prop) ys, NsObj oC m₂ → m₂ x = some (.int r.k t) → Fr h₀ L h m → News h₀ L h ((I, oI) :: (C, oC) :: (D, lst ys) :: news) →
      wpAny (model prog w) A (eval elt (compEnvC scope cl C env)) (fun y s' => (∃ t', y = .int (f r) t') ∧ Keep h₀ L m { { s₁ with heap := g } with heap := h, toks := tk } ((I, oI) :: (C, oC) :: (D, lst ys) :: news) s') E' { { s₁ with heap := g } with heap := h, toks := tk })
    (fin : ∀ g us, IntsAre us (rows.map f) → Fin { s₁ with heap := g } us news) : CompSrc prog w A h₀ L m env elt x scope cl Fin (.ref ax) s₁ := by
  have e := IntsAre.length hi
  simp only [List.length_map] at e hz
  refine CompSrc.ledger hh F N hm (by rw [List.size_toArray, sizeLine_eq, e]; omega) fun g => ?_
  have e2 : vs.toArray.size = rows.length := by rw [List.size_toArray]; exact e
  rw [e2]
  refine comp_rest (s := { s₁ with heap := g }) (.inr ⟨_, hm, rfl, _, rfl⟩) rows f (turn g) rows [] [] (fun _ h => h) (fun j r hj => ?_) .nil (fun us hu => fin g us hu)
  have hj' : j < rows.length := by
    rw [List.getElem?_eq_some_iff] at hj
    exact hj.1
  obtain ⟨t, ht⟩ := ints_at hi j (by simpa using hj')
  refine ⟨t, ?_⟩
  rw [List.getD_eq_getElem?_getD, List.getElem?_map, hj] at ht
  simpa using ht
theorem comp_restT {Fin : List Value → List (Addr × Obj) → Prop} {S : List (Addr × Obj) → Prop} {its : Array Value} {news : List (Addr × Obj)} (hS : S news) (rows : List Row) (p : Row → Bool)
    (test : ∀ r ∈ rows, ∀ t I oI C oC D m₂ h tk (E' : Value → Shared → Prop) ys, NsObj oC m₂ → m₂ x = some (.int r.k t) → Fr h₀ L h m → News h₀ L h ((I, oI) :: (C, oC) :: (D, lst ys) :: news) →
      wpAny (model prog w) A (isTrue ct (compEnvC scope cl C env) (eval ct (compEnvC scope cl C env))) (fun ok s' => ok = p r ∧ Keep h₀ L m { s with heap := h, toks := tk } ((I, oI) :: (C, oC) :: (D, lst ys) :: news) s') E' { s with heap := h, toks := tk })
    (turn : ∀ r ∈ rows, ∀ t I oI C oC D m₂ h tk (E' : Value → Shared → Prop) ys, NsObj oC m₂ → m₂ x = some (.int r.k t) → Fr h₀ L h m → News h₀ L h ((I, oI) :: (C, oC) :: (D, lst ys) :: news) →
      wpAny (model prog w) A (eval elt (compEnvC scope cl C env)) (fun y s' => (∃ t', y = .int r.k t') ∧ Keep h₀ L m { s with heap := h, toks := tk } ((I, oI) :: (C, oC) :: (D, lst ys) :: news) s') E' { s with heap := h, toks := tk }) :
    ∀ (rs2 rs1 : List Row) (i : Nat) (ys : List Value), (∀ r ∈ rs2, r ∈ rows) → (∀ j (r : Row), rs2[j]? = some r → ∃ t, its[i + j]? = some (.int r.k t)) → IntsAre ys (rs1.map (·.k)) → (∀ us, IntsAre us ((rs1 ++ rs2.filter p).map (·.k)) → Fin us news) →
      CompRestT prog w A h₀ L m env ct elt x scope cl s S (fun i v => its[i]? = some v) Fin rs2.length i ys news
  | [], rs1, i, ys, _, _, hy, hf => CompRestT.zero (hf ys (by simpa using hy))
  | r :: rs2, rs1, i, ys, hm, hi, hy, hf => by
    refine CompRestT.succ fun v I oI C oC D m₂ h tk E' hP hC hx F N off ne => ?_
    obtain ⟨t, ht⟩ := hi 0 r rfl
    have hP : its[i]? = some v := hP
    rw [Nat.add_zero, hP] at ht
    have hv : v = .int r.k t := Option.some.inj ht
    subst hv
    have hi' : ∀ j (r' : Row), rs2[j]? = some r' → ∃ t, its[i + 1 + j]? = some (.int r'.k t) := fun j r' hj => by
      have := hi (j + 1) r' (by simpa using hj)
      rw [show i + 1 + j = i + (j + 1) by omega]
      exact this
    refine wpAny_mono (test r (hm r (.head _)) t I oI C oC D m₂ h tk E' ys hC hx F N) (fun ok s' hk => ?_) fun _ _ e => e
    obtain ⟨hok, h', tk', rfl, F', N'⟩ := hk
    cases hpr : p r with
    | true =>
      rw [hok, hpr, if_pos rfl]
      refine wpAny_mono (turn r (hm r (.head _)) t I oI C oC D m₂ h' tk' E' ys hC hx F' N') (fun y s' hk => ?_) fun _ _ e => e
      obtain ⟨⟨t', rfl⟩, h'', tk'', rfl, F'', N''⟩ := hk
      refine CompEnd.intro (s₁ := { s with heap := h, toks := tk }) F'' N'' news (fun p hp => hp) off hS ?_
      refine comp_restT hS rows p test turn rs2 (rs1 ++ [r]) (i + 1) _ (fun r' h' => hm r' (.tail _ h')) hi' ?_ (fun us hu => hf us ?_)
      · rw [List.map_append]; exact ints_snoc hy _ _
      · rw [List.filter_cons, hpr, if_pos rfl]; simpa using hu
    | false =>
      rw [hok, hpr, if_neg Bool.false_ne_true]
      refine CompEnd.intro (s₁ := { s with heap := h, toks := tk }) F' N' news (fun p hp => hp) off hS ?_
      refine comp_restT hS rows p test turn rs2 rs1 (i + 1) _ (fun r' h' => hm r' (.tail _ h')) hi' hy (fun us hu => hf us ?_)
      rw [List.filter_cons, hpr, if_neg Bool.false_ne_true]; exact hu
/-- [k for k in entry if test] -/
theorem comp_srcT {Fin : Shared → List Value → List (Addr × Obj) → Prop} {ax : Addr} {vs : List Value} {k : Nat} {news : List (Addr × Obj)} (rows : List Row) (p : Row → Bool)
    (hh : A.handled = none) (F : Fr h₀ L s₁.heap m) (N : News h₀ L s₁.heap news) (hm : (ax, listOf vs.toArray k) ∈ news) (hi : IntsAre vs (rows.map (·.k))) (hz : (rows.map (·.k)).length ≤ 1000)
    (test : ∀ g, ∀ r ∈ rows, ∀ t I oI C oC D m₂ h tk (E' : Value → Shared → Prop) ys, NsObj oC m₂ → m₂ x = some (.int r.k t) → Fr h₀ L h m → News h₀ L h ((I, oI) :: (C, oC) :: (D, lst ys) :: news) →
      wpAny (model prog w) A (isTrue ct (compEnvC scope cl C env) (eval ct (compEnvC scope cl C env))) (fun ok s' => ok = p r ∧ Keep h₀ L m { { s₁ with heap := g } with heap := h, toks := tk } ((I, oI) :: (C, oC) :: (D, lst ys) :: news) s') E' { { s₁ with heap := g } with heap := h, toks := tk })
    (turn : ∀ g, ∀ r ∈ rows, ∀ t I oI C oC D m₂ h tk (E' : Value → Shared → Prop) ys, NsObj oC m₂ → m₂ x = some (.int r.k t) → Fr h₀ L h m → News h₀ L h ((I, oI) :: (C, oC) :: (D, lst ys) :: news) →
      wpAny (model prog w) A (eval elt (compEnvC scope cl C env)) (fun y s' => (∃ t', y = .int r.k t') ∧ Keep h₀ L m { { s₁ with heap := g } with heap := h, toks := tk } ((I, oI) :: (C, oC) :: (D, lst ys) :: news) s') E' { { s₁ with heap := g } with heap := h, toks := tk })
    (fin : ∀ g us, IntsAre us ((rows.filter p).map (·.k)) → Fin { s₁ with heap := g } us news) : CompSrcT prog w A h₀ L m env ct elt x scope cl Fin (.ref ax) s₁ := by
  have e := IntsAre.length hi
  simp only [List.length_map] at e hz
  refine CompSrcT.ledger hh F N hm (by rw [List.size_toArray, sizeLine_eq, e]; omega) fun g => ?_
  have e2 : vs.toArray.size = rows.length := by rw [List.size_toArray]; exact e
  rw [e2]
  refine comp_restT (s := { s₁ with heap := g }) (.inr ⟨_, hm, rfl, _, rfl⟩) rows p (test g) (turn g) rows [] 0 [] (fun _ h => h) (fun j r hj => ?_) .nil (fun us hu => fin g us hu)
  have hj' : j < rows.length := by
    rw [List.getElem?_eq_some_iff] at hj
    exact hj.1
  obtain ⟨t, ht⟩ := ints_at hi j (by simpa using hj')
  refine ⟨t, ?_⟩
  rw [List.getD_eq_getElem?_getD, List.getElem?_map, hj] at ht
  rw [Nat.zero_add]
  simpa using ht
/-- the same, the test a row's stamp against an int that a cell holds -/
theorem comp_src_ge {Fin : Shared → List Value → List (Addr × Obj) → Prop} {ax : Addr} {vs : List Value} {k : Nat} {news : List (Addr × Obj)} {oc : Obj} {least : Int} {tl : Tok} (_hdc : oc.data = .cell (some (.int least tl))) (rows : List Row)
    (hh : A.handled = none) (F : Fr h₀ L s₁.heap m) (N : News h₀ L s₁.heap news) (hm : (ax, listOf vs.toArray k) ∈ news) (hi : IntsAre vs (rows.map (·.k))) (hz : (rows.map (·.k)).length ≤ 1000)
    (test : ∀ g, ∀ r ∈ rows, ∀ t I oI C oC D m₂ h tk (E' : Value → Shared → Prop) ys, NsObj oC m₂ → m₂ x = some (.int r.k t) → Fr h₀ L h m → News h₀ L h ((I, oI) :: (C, oC) :: (D, lst ys) :: news) →
      wpAny (model prog w) A (isTrue ct (compEnvC scope cl C env) (eval ct (compEnvC scope cl C env))) (fun ok s' => ok = decide (least ≤ r.st) ∧ Keep h₀ L m { { s₁ with heap := g } with heap := h, toks := tk } ((I, oI) :: (C, oC) :: (D, lst ys) :: news) s') E' { { s₁ with heap := g } with heap := h, toks := tk })
    (turn : ∀ g, ∀ r ∈ rows, ∀ t I oI C oC D m₂ h tk (E' : Value → Shared → Prop) ys, NsObj oC m₂ → m₂ x = some (.int r.k t) → Fr h₀ L h m → News h₀ L h ((I, oI) :: (C, oC) :: (D, lst ys) :: news) →
      wpAny (model prog w) A (eval elt (compEnvC scope cl C env)) (fun y s' => (∃ t', y = .int r.k t') ∧ Keep h₀ L m { { s₁ with heap := g } with heap := h, toks := tk } ((I, oI) :: (C, oC) :: (D, lst ys) :: news) s') E' { { s₁ with heap := g } with heap := h, toks := tk })
    (fin : ∀ g us, IntsAre us ((rows.filter fun r => decide (least ≤ r.st)).map (·.k)) → Fin { s₁ with heap := g } us news) : CompSrcT prog w A h₀ L m env ct elt x scope cl Fin (.ref ax) s₁ :=
  comp_srcT rows (fun r => decide (least ≤ r.st)) hh F N hm hi hz test turn fin
/-- the same, the test a name against an int that a cell holds -/
theorem comp_src_ne {Fin : Shared → List Value → List (Addr × Obj) → Prop} {ax : Addr} {vs : List Value} {k : Nat} {news : List (Addr × Obj)} {oc : Obj} {key : Int} {tl : Tok} (_hdc : oc.data = .cell (some (.int key tl))) (rows : List Row)
    (hh : A.handled = none) (F : Fr h₀ L s₁.heap m) (N : News h₀ L s₁.heap news) (hm : (ax, listOf vs.toArray k) ∈ news) (hi : IntsAre vs (rows.map (·.k))) (hz : (rows.map (·.k)).length ≤ 1000)
    (test : ∀ g, ∀ r ∈ rows, ∀ t I oI C oC D m₂ h tk (E' : Value → Shared → Prop) ys, NsObj oC m₂ → m₂ x = some (.int r.k t) → Fr h₀ L h m → News h₀ L h ((I, oI) :: (C, oC) :: (D, lst ys) :: news) →
      wpAny (model prog w) A (isTrue ct (compEnvC scope cl C env) (eval ct (compEnvC scope cl C env))) (fun ok s' => ok = decide (r.k ≠ key) ∧ Keep h₀ L m { { s₁ with heap := g } with heap := h, toks := tk } ((I, oI) :: (C, oC) :: (D, lst ys) :: news) s') E' { { s₁ with heap := g } with heap := h, toks := tk })
    (turn : ∀ g, ∀ r ∈ rows, ∀ t I oI C oC D m₂ h tk (E' : Value → Shared → Prop) ys, NsObj oC m₂ → m₂ x = some (.int r.k t) → Fr h₀ L h m → News h₀ L h ((I, oI) :: (C, oC) :: (D, lst ys) :: news) →
      wpAny (model prog w) A (eval elt (compEnvC scope cl C env)) (fun y s' => (∃ t', y = .int r.k t') ∧ Keep h₀ L m { { s₁ with heap := g } with heap := h, toks := tk } ((I, oI) :: (C, oC) :: (D, lst ys) :: news) s') E' { { s₁ with heap := g } with heap := h, toks := tk })
    (fin : ∀ g us, IntsAre us ((rows.filter fun r => decide (r.k ≠ key)).map (·.k)) → Fin { s₁ with heap := g } us news) : CompSrcT prog w A h₀ L m env ct elt x scope cl Fin (.ref ax) s₁ :=
  comp_srcT rows (fun r => decide (r.k ≠ key)) hh F N hm hi hz test turn fin
end
end Mine
end
section
open PySem PySem.W PyProof.Rows PyProof.V PySem.Spec
namespace Mine
theorem sorted_eq {a b : List Int} (hp : a.Perm b) (ha : a.Pairwise (· ≤ ·)) (hb : b.Pairwise (· ≤ ·)) : a = b :=
  hp.eq_of_pairwise (fun x y _ _ h1 h2 => Int.le_antisymm h1 h2) ha hb
/-- what the law keeps is what the squeeze leaves -/
theorem kept_rows {rs rs2 : List Row} {room num den least : Int} {ns : List Int} (h : Sq rs rs2 room num den) (ho : Over rs room num den) (hkn : (rs.map (·.k)).Nodup)
    (hp : ns.Perm (rs.map (·.st))) (hw : ns.Pairwise (· ≤ ·)) (hl : Least ns room least) (h0 : 0 ≤ room) (hr : room < (rs.length : Int)) : rs2 = rs.filter fun r => decide (least ≤ r.st) := by
  rcases h with ⟨hn, _⟩ | ⟨_, rs', hp', hw', rfl⟩
  · exact absurd ho hn
  have hns : ns = (rs'.map (·.st)).reverse := by
    refine sorted_eq (hp.trans ((hp'.map _).symm.trans (List.reverse_perm _).symm)) hw ?_
    rw [List.pairwise_reverse, List.pairwise_map]
    exact hw'.imp fun h => Int.le_of_lt h
  have hlen : rs'.length = rs.length := hp'.length_eq
  have hnl : ns.length = rs'.length := by rw [hns]; simp
  have hkn' : (rs'.map (·.k)).Nodup := (hp'.map _).nodup_iff.mpr hkn
  have at' : ∀ j, j < rs'.length → ns.getD (rs'.length - 1 - j) 0 = (rs'.map (·.st)).getD j 0 := fun j hj => by
    rw [hns, List.getD_eq_getElem?_getD, List.getD_eq_getElem?_getD, List.getElem?_reverse (by simp; omega)]
    congr 2
    simp
    omega
  refine List.filter_congr fun r hr' => ?_
  have hr2 : r ∈ rs' := hp'.mem_iff.mpr hr'
  obtain ⟨i, hi, rfl⟩ := List.mem_iff_getElem.mp hr2
  have key : (rs'[i].k ∉ (rs'.drop room.toNat).map (·.k)) ↔ i < room.toNat := by
    constructor
    · intro hn
      refine Nat.lt_of_not_le fun hge => hn ?_
      refine List.mem_map.mpr ⟨rs'[i], ?_, rfl⟩
      rw [List.mem_drop_iff_getElem]
      exact ⟨i - room.toNat, by omega, by congr 1; omega⟩
    · intro hlt hm
      obtain ⟨x, hx, e⟩ := List.mem_map.mp hm
      rw [List.mem_drop_iff_getElem] at hx
      obtain ⟨j, hj, rfl⟩ := hx
      have hinj := List.pairwise_iff_getElem.mp hkn'
      have := hinj i (room.toNat + j) (by simpa using hi) (by simp; omega) (by omega)
      simp only [List.getElem_map] at this
      exact this e.symm
  have st' : ∀ j (hj : j < rs'.length), (rs'.map (·.st)).getD j 0 = rs'[j].st := fun j hj => by
    rw [List.getD_eq_getElem?_getD, List.getElem?_map, List.getElem?_eq_getElem hj]; rfl
  have hord := List.pairwise_iff_getElem.mp hw'
  have stamp : least ≤ rs'[i].st ↔ i < room.toNat := by
    rcases hl with ⟨hpos, rfl⟩ | ⟨hz, rfl⟩
    · have e1 : (if (ns.length : Int) - room < 0 then (ns.length : Int) - room + (ns.length : Int) else (ns.length : Int) - room).toNat = rs'.length - 1 - (room.toNat - 1) := by
        rw [if_neg (by omega)]; omega
      rw [e1, at' _ (by omega), st' _ (by omega)]
      constructor
      · intro hle
        refine Nat.lt_of_not_le fun hge => ?_
        have := hord (room.toNat - 1) i (by omega) hi (by omega)
        omega
      · intro hlt
        by_cases he : i = room.toNat - 1
        · subst he; exact Int.le_refl _
        · have := hord i (room.toNat - 1) hi (by omega) (by omega)
          omega
    · have e1 : (if (-1 : Int) < 0 then -1 + (ns.length : Int) else -1).toNat = rs'.length - 1 - 0 := by
        rw [if_pos (by omega)]; omega
      rw [e1, at' _ (by omega), st' _ (by omega)]
      constructor
      · intro hle
        exfalso
        by_cases he : i = 0
        · subst he; omega
        · have := hord 0 i (by omega) hi (by omega)
          omega
      · intro hlt; omega
  rw [Bool.eq_iff_iff, decide_eq_true_iff, decide_eq_true_iff, key, stamp]
end Mine
end
section
namespace Mine
theorem fillC13 : True := by
  w_top off
  trivial


local macro_rules | `(tactic| k_room) => `(tactic| ktr_room)
local macro_rules | `(tactic| k_units) => `(tactic| ktr_units)
local macro_rules | `(tactic| ktr_enter) => `(tactic| (refine' code_def ?k1 ?k2 ?k3 ?k4 ?k5 ?kA ?kF ?kK ?k6 ?k7 ?k8 ?k9 ?kB ?_ ?c2 ?c3 ?c4 ?c5; (case kA => exact rfl); (case kF => exact rfl); (case kK => first | assumption | exact rfl); (case k1 => k_asm); (case k2 => k_asm); (case k3 => k_asm); (case k4 => k_asm); (case k5 => k_asm); (case k6 => k_is); (case k7 => k_is); (case k8 => ktr_room); (case k9 => first | exact BindsTo.of_eq rfl | exact binds_K (by k_in) rfl (by k_is) rfl rfl rfl | fail "ktr_enter: no rule for these arguments"); (case c5 => decide); (case kB => exact locs rfl); (case c2 => exact rfl); (case c3 => exact rfl); (case c4 => exact rfl); k_whole; intro g' L' h' FG' F' N' B' X' T'; (try dsimp only); (try k_fold)))
local macro_rules | `(tactic| k_lt $h:ident) => `(tactic| (replace $h := allLt_of $h; simp only [AllLt, and_true] at $h:ident; (try ((fail_if_success (rename AllLt _ _ => l6)); have l7 : AllLt _ _ := (by first | exact ($h).2 | exact ($h).2.2 | exact ($h).2.2.2 | exact ($h).2.2.2.2 | exact ($h).2.2.2.2.2 | exact ($h).2.2.2.2.2.2 | exact ($h).2.2.2.2.2.2.2 | exact ($h).2.2.2.2.2.2.2.2 | exact ($h).2.2.2.2.2.2.2.2.2 | exact ($h).2.2.2.2.2.2.2.2.2.2 | exact ($h).2.2.2.2.2.2.2.2.2.2.2 | exact ($h).2.2.2.2.2.2.2.2.2.2.2.2)))))
local macro_rules | `(tactic| k_all) => `(tactic| (refine' allLt_ne ?h6 ?h7; (case h6 => assumption); (case h7 => ((try dsimp only); omega))))
local macro_rules | `(tactic| k_all) => `(tactic| with_reducible assumption)
local macro_rules | `(tactic| walk_at "call builtin:len") => `(tactic| (k_here; (with_reducible show wpAny _ _ (call (Value.builtin "len") [Value.ref _]) _ _ _); k_dflt (refine' kda_len (knd := PySem.intKind _ _) ?N ?m ?d ?lo ?f ?_; (case N => k_asm); (case m => k_mem); (case d => k_asm); (case lo => k_asm); (case f => assumption); k_whole)))
local macro_rules | `(tactic| walk_at "getMethod ref") => `(tactic| (k_here; (with_reducible show wpAny _ _ (getMethod (Value.ref _) (Str.ofString "get") _) _ _ _); k_dflt (refine' kdg_method (knd := PySem.intKind _ _) ?N ?m ?d ?_; (case N => k_asm); (case m => k_mem); (case d => k_asm); k_whole)))
local macro_rules | `(tactic| walk_at "call builtin:dict.get") => `(tactic| (k_here; (with_reducible show wpAny _ _ (call (Value.builtin "dict.get") [Value.ref _, Value.int _ _]) _ _ _); k_dflt (refine' kdg_get1 (knd := PySem.intKind _ _) ?N ?m ?d ?lo (intKind_is _ _ _ _) _ ?hl ?_; (case N => k_asm); (case m => k_mem); (case d => k_asm); (case lo => k_asm); (case hl => assumption); k_whole; (try dsimp only [Option.getD]))))
local macro_rules | `(tactic| walk_at "subscriptTail") => `(tactic| (k_here; (with_reducible show wpAny _ _ (subscriptTail _ _ (Value.ref _) (Value.int _ _)) _ _ _); k_dflt (refine' kda_item (knd := PySem.intKind _ _) ?N ?m ?d (intKind_is _ _ _ _) ?hl ?_; (case N => k_asm); (case m => k_mem); (case d => k_asm); (case hl => assumption); k_whole)))
theorem x_get_missC13 {prog : Program} {w : World} {A : Around} {E : Value → Shared → Prop} {s : Shared} {h₀ : Heap} {L d : Addr} {news : List (Addr × Obj)} {o : Obj} {kvs : List (Int × Value)} {k : Int} {t : Tok} {Q : Value → Shared → Prop}
    (N : News h₀ L s.heap news) (hp : (d, o) ∈ news) (hd : o.IsDictOf (PySem.intKind prog w) kvs) (lo : (d == sysModules) = false) (hh : A.handled = none) (hl : valueAt kvs k = none)
    (h : ∀ h' e, Heap.NewExc s.heap h' e "KeyError" → E (.ref e) { s with heap := h', toks := s.toks + 1 }) : wpAny (model prog w) A (getItem (.ref d) (.int k t)) Q E s :=
  wpAny_getItem_missing_of (intKind_is _ _ _ _) lo hh (kda_dict N hp hd).mapOf hl h
local macro_rules | `(tactic| walk_at "getItem ref int") => `(tactic| (k_here; k_dflt (refine' x_get_missC13 ?N ?m ?d ?lo ?hh ?hl ?_; (case N => k_asm); (case m => k_mem); (case d => k_asm); (case lo => k_asm); (case hh => exact rfl); (case hl => assumption); k_whole); intro h' e' x'))
local macro_rules | `(tactic| walk_at "getItem ref int") => `(tactic| (k_here; k_dflt (refine' kdt_getItem (knd := PySem.intKind _ _) ?N ?m ?d (intKind_is _ _ _ _) ?hl ?_; (case N => k_asm); (case m => k_mem); (case d => k_asm); (case hl => assumption); k_whole)))
local macro_rules | `(tactic| walk_at "delItem ref int") => `(tactic| (k_here; k_dflt (refine' x_del_miss ?N ?m ?d ?lo ?hh ?hl ?_; (case N => k_asm); (case m => k_mem); (case d => k_asm); (case lo => k_asm); (case hh => exact rfl); (case hl => assumption); k_whole); intro h' e' x'))
local macro_rules | `(tactic| walk_at "delItem ref int") => `(tactic| (k_here; k_dflt (refine' kob_del (knd := PySem.intKind _ _) ?F ?N ?U ?d (intKind_is _ _ _ _) ?l ?z ?_; (case F => k_asm); (case N => k_asm); (case U => k_updF); (case d => k_asm); (case l => assumption); (case z => first | assumption | (rw [sizeLine_eq]; assumption)); k_whole); intro h' o' F' N' hd'; (try dsimp only at N')))
theorem x_del_ownC13 {M : Model} {A : Around} {E : Value → Shared → Prop} {s : Shared} {K : Frag} {x C L f : Addr} {h₀ : Heap} {m : Str → Option Value} {ox : Obj} {od : Option Obj} {i : Value} {Q : Unit → Shared → Prop}
    (F : Fr h₀ L s.heap m) (X₀ : K.In h₀) (I : InstAt s.heap x ox C od) (hq : noSeq K C = true) (hs : findIn K (.ref C) "__delitem__" = some (some (.ref f))) (hf : isFn K (.ref f) = true)
    (h : wpAny M A (call (.ref f) [.ref x, i]) (fun _ s' => Q () s') E s) : wpAny M A (delItem (.ref x) i) Q E s := by
  have X := X₀.keeps F.keep
  unfold delItem sequenceKey
  refine wpAny_holding (wpAny_bind (wpAny_bind (I.type.here ?_)))
  refine wpAny_bind ((anyM_none X hq).here ?_)
  rw [if_pos (show (!false) = true from rfl)]
  exact wpAny_pure (wpAny_bind (special_fn X I hs (beq_iff_eq.mp hf) (wpAny_mono h (fun _ _ z => wpAny_pure z) fun _ _ z => z)))
local macro_rules | `(tactic| walk_at "delItem ref int") => `(tactic| (k_here; k_dflt (refine' x_del_ownC13 ?k1 ?k2 ?k3 ?k4 ?k5 ?k6 ?_; (case k1 => k_asm); (case k2 => k_asm); (case k3 => k_inst); (case k4 => k_is); (case k5 => k_is); (case k6 => k_is); k_whole)))
local macro_rules | `(tactic| walk_at "WhlIf") => `(tactic| (first | (refine WhlIf.yes (decide_eq_true (by omega)) ?_) | (refine WhlIf.no (decide_eq_false (by omega)) ?_)))
local macro_rules | `(tactic| walk_at "eval Dict nil nil") => `(tactic| (k_here; k_dflt (refine' newDict_K ?k1 ?k2 ?k3 ?_; (case k1 => k_asm); (case k2 => k_asm); (case k3 => first | exact Top.nolimit (by k_asm) | exact TopRead.nolimit (by k_asm)); k_whole); intro d' h' o' F' N' l1 lo' hs' fs' hi' fi'; (try k_lt l1)))
theorem add_genC13 {prog : Program} {w : World} {A : Around} {E : Value → Shared → Prop} {s : Shared} {a b : Int} {ta tb : Tok} {Q : Value → Shared → Prop} (h : ∀ t tk, Q (.int (a + b) t) { s with toks := tk }) : wpAny (model prog w) A (binaryOp .Add (.int a ta) (.int b tb)) Q E s := add_int (h _ _)
local macro_rules | `(tactic| walk_at "binaryOp Add int int") => `(tactic| (k_here; with_reducible (refine add_genC13 ?_); intro t' tk'))

local macro_rules | `(tactic| k_mem) => `(tactic| assumption)
theorem lw_hit {prog : Program} {w : World} {rs : List Row} {qs : List (Int × Value)} {oR : Obj} {T : List (Addr × Obj)} {r : Row} (W : Lw prog w rs qs oR T) (hr : r ∈ rs) : ∃ qa t1 n1, valueAt qs r.k = some (.ref qa) ∧ (qa, qTup r.v r.st t1 n1) ∈ T := W.q r hr
local macro_rules | `(tactic| walk_at "CompSrc") => `(tactic| (k_here; k_dflt (refine' comp_src _ (fun r => r.st) ?hh ?F ?N ?m ?i ?z ?turn ?fin; (case hh => rfl); (case F => k_asm); (case N => k_asm); (case m => k_mem); (case i => with_reducible assumption); (case z => assumption)); (case' turn => (intro g' r' hr' t' I' oI' C' oC' D' m2' h' tk' E' ys' hC' hx' F' N'; rename Lw _ _ _ _ _ _ => lW'; obtain ⟨qa', t1', n1', hq', hm'⟩ := lw_hit lW' hr')); (case' fin => (intro g' us' hi'))))
local macro_rules | `(tactic| walk_at "eval ListComp") => `(tactic| (k_here; lct_look; k_dflt (refine LCt.ListComp_T (F₀ := by k_asm) (by with_unfolding_all rfl) (by decide) (by rfl) (by decide) (by rfl) ?_)))
local macro_rules | `(tactic| walk_at "CompSrcT") => `(tactic| (k_here; k_dflt (refine' comp_src_ge ?hdc _ ?hh ?F ?N ?m ?i ?z ?test ?turn ?fin; (case hdc => first | with_reducible assumption | assumption); (case hh => rfl); (case F => k_asm); (case N => k_asm); (case m => k_mem); (case i => with_reducible assumption); (case z => assumption)); (case' test => (intro g' r' hr' t' I' oI' C' oC' D' m2' h' tk' E' ys' hC' hx' F' N'; rename Lw _ _ _ _ _ _ => lW'; obtain ⟨qa', t1', n1', hq', hm'⟩ := lw_hit lW' hr')); (case' turn => (intro g' r' hr' t' I' oI' C' oC' D' m2' h' tk' E' ys' hC' hx' F' N')); (case' fin => (intro g' us' hi'))))
local macro_rules | `(tactic| walk_at "Keep") => `(tactic| exact Keep.intro (by k_asm) (by k_asm))
local macro_rules | `(tactic| walk_at "call builtin:len") => `(tactic| (k_here; (with_reducible show wpAny _ _ (call (Value.builtin "len") [Value.ref _]) _ _ _); k_dflt (refine' x_len ?N ?m1 ?i1 ?hz ?_; (case N => k_asm); (case m1 => k_mem); (case i1 => with_reducible assumption); (case hz => assumption); k_whole)))
local macro_rules | `(tactic| walk_at "call builtin:sorted") => `(tactic| (k_here; k_dflt (refine' x_sorted_ints ?F ?N ?m1 ?i1 ?hz ?_; (case F => k_asm); (case N => k_asm); (case m1 => k_mem); (case i1 => with_reducible assumption); (case hz => assumption); k_whole); intro D' vs' ns' c' h' F' N' l1 i' e1' p' w'; (try k_lt l1)))
local macro_rules | `(tactic| walk_at "subscriptTail") => `(tactic| (k_here; (with_reducible show wpAny _ _ (subscriptTail _ _ (Value.ref _) (Value.int _ _)) _ _ _); k_dflt (refine' x_item_int ?N ?m1 ?i1 ?hz ?a1 ?a2 ?_ ?hs ?hg; (case N => k_asm); (case m1 => k_mem); (case i1 => with_reducible assumption); (case hz => omega); (case a1 => omega); (case a2 => omega); (case hs => with_unfolding_all rfl); (case hg => (intro _; with_unfolding_all rfl)); k_whole); intro t'))
local macro_rules | `(tactic| walk_at "subscriptTail Name UnaryOp ref int") => `(tactic| (k_here; (with_reducible show wpAny _ _ (subscriptTail _ _ (Value.ref _) (Value.int _ _)) _ _ _); k_dflt (refine' x_item_int ?N ?m1 ?i1 ?hz ?a1 ?a2 ?_ ?hs ?hg; (case N => k_asm); (case m1 => k_mem); (case i1 => with_reducible assumption); (case hz => omega); (case a1 => omega); (case a2 => omega); (case hs => with_unfolding_all rfl); (case hg => (intro _; with_unfolding_all rfl)); k_whole); intro t'))
local macro_rules | `(tactic| walk_at "subscriptTail Name BinOp ref int") => `(tactic| (k_here; (with_reducible show wpAny _ _ (subscriptTail _ _ (Value.ref _) (Value.int _ _)) _ _ _); k_dflt (refine' x_item_int ?N ?m1 ?i1 ?hz ?a1 ?a2 ?_ ?hs ?hg; (case N => k_asm); (case m1 => k_mem); (case i1 => with_reducible assumption); (case hz => omega); (case a1 => omega); (case a2 => omega); (case hs => with_unfolding_all rfl); (case hg => (intro _; with_unfolding_all rfl)); k_whole); intro t'))
theorem last3 {h₀ h : Heap} {L : Addr} {p x1 x2 x3 x4 : Addr × Obj} {l : List (Addr × Obj)} (N : News h₀ L h (p :: x1 :: x2 :: x3 :: x4 :: l)) : News h₀ L h (p :: l) := fun q hq => by
  rcases List.mem_cons.mp hq with rfl | hq
  · exact N _ (.head _)
  · exact N _ (.tail _ (.tail _ (.tail _ (.tail _ (.tail _ hq)))))
theorem off3 {p1 p2 p3 p4 P : Prop} (h : p1 ∧ p2 ∧ p3 ∧ p4 ∧ P) : P := h.2.2.2.2
set_option maxHeartbeats 1000000 in
theorem kept_spec {prog : Program} {w : World} {mean : ExcName → Option Value} {mg mb : Str → Option Value}
    {dp un : Nat} {gd : Option (List Code)} {cn : Str} {cs : Scope} {a : Addr} {ccd : Value} {cl : List (Str × Addr)} {outer : List Env} {A₀ : Around} {base h₀ : Heap} {L : Addr} {m : Str → Option Value} {s : Shared} {Q E : Value → Shared → Prop}
    {T : List (Addr × Obj)} {rd e : Addr} {oR : Obj} {vs : List Value} {ne : Nat} {rs : List Row} {qs : List (Int × Value)} {room num den : Int} {t1 t2 t3 : Tok}
    (B : Below A₀ base outer h₀) (F : Fr h₀ L s.heap m) (X : (Mine.hd.heap_39 w.params).In h₀)
    (N : News h₀ L s.heap ((rd, oR) :: (e, listOf (List.toArray vs) ne) :: T))
    (TP : Top Mine.hd.view_39 (looseW Mine.hd.view_39 [Str.ofString "itemgetter", Str.ofString "LRUCache"]) mean mg mb h₀) (hk : cs.kind = .function) (hi : IntsAre vs (rs.map (·.k))) (h6 : (rs.map (·.k)).length ≤ 1000) (W : Lw prog w rs qs oR T) (h0 : 0 ≤ room) (h1 : room ≤ 4) (hden : den = 1 ∨ den = 2) (hn0 : 0 ≤ num) (hn1 : num ≤ 2)
    (hd : dp + 12 < recursionLimit) (hu : un + 120 < cLine) (hD : oR.IsDictOf (PySem.intKind prog w) qs) (lo : (rd == sysModules) = false)
    (h66 : (rs.map (·.st)).length ≤ 6) (hle : ¬ (den * ((rs.map (·.k)).length : Int) ≤ room * (den + num))) (hrl : room < ((rs.map (·.k)).length : Int)) (hml : (rs.map (·.st)).length = (rs.map (·.k)).length) 
    (ret : ∀ D us ns least h' tk', IntsAre us ((rs.filter fun r => decide (least ≤ r.st)).map (·.k)) → Least ns room least → ns.Perm (rs.map (·.st)) → ns.Pairwise (· ≤ ·) → Fr h₀ L h' m → News h₀ L h' ((D, PyProof.Rows.LCg.lst us) :: (rd, oR) :: (e, listOf (List.toArray vs) ne) :: T) → (@Ne Nat rd D ∧ @Ne Nat e D ∧ PyProof.Rows.LCg.Off1 D T) → Q (.ref D) { s with heap := h', toks := tk' }) :
    wpAny (model prog w) (ktrTop dp un gd cn cs L a ccd cl outer) (call (.ref 196) [.ref e, .ref rd, .int room t1, .int num t2, .int den t3]) Q E s := by
  refine wpAny_call ?_
  k_dflt (refine' code_defC ?k1 ?k2 ?k3 ?k4 ?k5 ?kA ?kF ?kK ?k6 ?k7 ?k8 ?k9 ?kB ?kD ?_ ?c2 ?c3 ?c4; (case kA => exact rfl); (case kF => exact rfl); (case kK => first | assumption | exact rfl); (case k1 => k_asm); (case k2 => k_asm); (case k3 => k_asm); (case k4 => k_asm); (case k5 => k_asm); (case k6 => k_is); (case k7 => k_is); (case k8 => ktr_room); (case k9 => exact BindsTo.of_eq rfl); (case kB => exact rfl); (case kD => decide +kernel); (case c2 => exact rfl); (case c3 => exact rfl); (case c4 => exact rfl); k_whole; intro g' L' h' tk' cells' FG' F' N' Y' B' X' T' l1; (try k_lt l1); k_cells Y'; (try simp only [List.cons_append, List.nil_append] at N'); (try dsimp only); (try k_fold))
  k_steps
  all_goals (try (walk_at "CompSrcT"))
  all_goals try k_steps
  all_goals exact ret _ _ _ _ _ _ (by assumption) (by first | exact .inl ⟨by omega, rfl⟩ | exact .inr ⟨by omega, rfl⟩) (by assumption) (by assumption) (by k_asm) (last3 (by k_asm)) (off3 (by assumption))
end Mine
end
section
namespace Mine
local macro_rules | `(tactic| walk_at "none of mine") => `(tactic| fail "none")
theorem fillC14 : True := by
  w_top off
  trivial


local macro_rules | `(tactic| k_room) => `(tactic| ktr_room)
local macro_rules | `(tactic| k_units) => `(tactic| ktr_units)
local macro_rules | `(tactic| ktr_enter) => `(tactic| (refine' code_def ?k1 ?k2 ?k3 ?k4 ?k5 ?kA ?kF ?kK ?k6 ?k7 ?k8 ?k9 ?kB ?_ ?c2 ?c3 ?c4 ?c5; (case kA => exact rfl); (case kF => exact rfl); (case kK => first | assumption | exact rfl); (case k1 => k_asm); (case k2 => k_asm); (case k3 => k_asm); (case k4 => k_asm); (case k5 => k_asm); (case k6 => k_is); (case k7 => k_is); (case k8 => ktr_room); (case k9 => first | exact BindsTo.of_eq rfl | exact binds_K (by k_in) rfl (by k_is) rfl rfl rfl | fail "ktr_enter: no rule for these arguments"); (case c5 => decide); (case kB => exact locs rfl); (case c2 => exact rfl); (case c3 => exact rfl); (case c4 => exact rfl); k_whole; intro g' L' h' FG' F' N' B' X' T'; (try dsimp only); (try k_fold)))
local macro_rules | `(tactic| k_lt $h:ident) => `(tactic| (replace $h := allLt_of $h; simp only [AllLt, and_true] at $h:ident; (try ((fail_if_success (rename AllLt _ _ => l6)); have l7 : AllLt _ _ := (by first | exact ($h).2 | exact ($h).2.2 | exact ($h).2.2.2 | exact ($h).2.2.2.2 | exact ($h).2.2.2.2.2 | exact ($h).2.2.2.2.2.2 | exact ($h).2.2.2.2.2.2.2 | exact ($h).2.2.2.2.2.2.2.2 | exact ($h).2.2.2.2.2.2.2.2.2 | exact ($h).2.2.2.2.2.2.2.2.2.2 | exact ($h).2.2.2.2.2.2.2.2.2.2.2 | exact ($h).2.2.2.2.2.2.2.2.2.2.2.2)))))
local macro_rules | `(tactic| k_all) => `(tactic| (refine' allLt_ne ?h6 ?h7; (case h6 => assumption); (case h7 => ((try dsimp only); omega))))
local macro_rules | `(tactic| k_all) => `(tactic| with_reducible assumption)
local macro_rules | `(tactic| walk_at "call builtin:len") => `(tactic| (k_here; (with_reducible show wpAny _ _ (call (Value.builtin "len") [Value.ref _]) _ _ _); k_dflt (refine' kda_len (knd := PySem.intKind _ _) ?N ?m ?d ?lo ?f ?_; (case N => k_asm); (case m => k_mem); (case d => k_asm); (case lo => k_asm); (case f => assumption); k_whole)))
local macro_rules | `(tactic| walk_at "getMethod ref") => `(tactic| (k_here; (with_reducible show wpAny _ _ (getMethod (Value.ref _) (Str.ofString "get") _) _ _ _); k_dflt (refine' kdg_method (knd := PySem.intKind _ _) ?N ?m ?d ?_; (case N => k_asm); (case m => k_mem); (case d => k_asm); k_whole)))
local macro_rules | `(tactic| walk_at "call builtin:dict.get") => `(tactic| (k_here; (with_reducible show wpAny _ _ (call (Value.builtin "dict.get") [Value.ref _, Value.int _ _]) _ _ _); k_dflt (refine' kdg_get1 (knd := PySem.intKind _ _) ?N ?m ?d ?lo (intKind_is _ _ _ _) _ ?hl ?_; (case N => k_asm); (case m => k_mem); (case d => k_asm); (case lo => k_asm); (case hl => assumption); k_whole; (try dsimp only [Option.getD]))))
local macro_rules | `(tactic| walk_at "subscriptTail") => `(tactic| (k_here; (with_reducible show wpAny _ _ (subscriptTail _ _ (Value.ref _) (Value.int _ _)) _ _ _); k_dflt (refine' kda_item (knd := PySem.intKind _ _) ?N ?m ?d (intKind_is _ _ _ _) ?hl ?_; (case N => k_asm); (case m => k_mem); (case d => k_asm); (case hl => assumption); k_whole)))
theorem x_get_missC14 {prog : Program} {w : World} {A : Around} {E : Value → Shared → Prop} {s : Shared} {h₀ : Heap} {L d : Addr} {news : List (Addr × Obj)} {o : Obj} {kvs : List (Int × Value)} {k : Int} {t : Tok} {Q : Value → Shared → Prop}
    (N : News h₀ L s.heap news) (hp : (d, o) ∈ news) (hd : o.IsDictOf (PySem.intKind prog w) kvs) (lo : (d == sysModules) = false) (hh : A.handled = none) (hl : valueAt kvs k = none)
    (h : ∀ h' e, Heap.NewExc s.heap h' e "KeyError" → E (.ref e) { s with heap := h', toks := s.toks + 1 }) : wpAny (model prog w) A (getItem (.ref d) (.int k t)) Q E s :=
  wpAny_getItem_missing_of (intKind_is _ _ _ _) lo hh (kda_dict N hp hd).mapOf hl h
local macro_rules | `(tactic| walk_at "getItem ref int") => `(tactic| (k_here; k_dflt (refine' x_get_missC14 ?N ?m ?d ?lo ?hh ?hl ?_; (case N => k_asm); (case m => k_mem); (case d => k_asm); (case lo => k_asm); (case hh => exact rfl); (case hl => assumption); k_whole); intro h' e' x'))
local macro_rules | `(tactic| walk_at "getItem ref int") => `(tactic| (k_here; k_dflt (refine' kdt_getItem (knd := PySem.intKind _ _) ?N ?m ?d (intKind_is _ _ _ _) ?hl ?_; (case N => k_asm); (case m => k_mem); (case d => k_asm); (case hl => assumption); k_whole)))
local macro_rules | `(tactic| walk_at "delItem ref int") => `(tactic| (k_here; k_dflt (refine' x_del_miss ?N ?m ?d ?lo ?hh ?hl ?_; (case N => k_asm); (case m => k_mem); (case d => k_asm); (case lo => k_asm); (case hh => exact rfl); (case hl => assumption); k_whole); intro h' e' x'))
local macro_rules | `(tactic| walk_at "delItem ref int") => `(tactic| (k_here; k_dflt (refine' kob_del (knd := PySem.intKind _ _) ?F ?N ?U ?d (intKind_is _ _ _ _) ?l ?z ?_; (case F => k_asm); (case N => k_asm); (case U => k_updF); (case d => k_asm); (case l => assumption); (case z => first | assumption | (rw [sizeLine_eq]; assumption)); k_whole); intro h' o' F' N' hd'; (try dsimp only at N')))
theorem x_del_ownC14 {M : Model} {A : Around} {E : Value → Shared → Prop} {s : Shared} {K : Frag} {x C L f : Addr} {h₀ : Heap} {m : Str → Option Value} {ox : Obj} {od : Option Obj} {i : Value} {Q : Unit → Shared → Prop}
    (F : Fr h₀ L s.heap m) (X₀ : K.In h₀) (I : InstAt s.heap x ox C od) (hq : noSeq K C = true) (hs : findIn K (.ref C) "__delitem__" = some (some (.ref f))) (hf : isFn K (.ref f) = true)
    (h : wpAny M A (call (.ref f) [.ref x, i]) (fun _ s' => Q () s') E s) : wpAny M A (delItem (.ref x) i) Q E s := by
  have X := X₀.keeps F.keep
  unfold delItem sequenceKey
  refine wpAny_holding (wpAny_bind (wpAny_bind (I.type.here ?_)))
  refine wpAny_bind ((anyM_none X hq).here ?_)
  rw [if_pos (show (!false) = true from rfl)]
  exact wpAny_pure (wpAny_bind (special_fn X I hs (beq_iff_eq.mp hf) (wpAny_mono h (fun _ _ z => wpAny_pure z) fun _ _ z => z)))
local macro_rules | `(tactic| walk_at "delItem ref int") => `(tactic| (k_here; k_dflt (refine' x_del_ownC14 ?k1 ?k2 ?k3 ?k4 ?k5 ?k6 ?_; (case k1 => k_asm); (case k2 => k_asm); (case k3 => k_inst); (case k4 => k_is); (case k5 => k_is); (case k6 => k_is); k_whole)))
local macro_rules | `(tactic| walk_at "WhlIf") => `(tactic| (first | (refine WhlIf.yes (decide_eq_true (by omega)) ?_) | (refine WhlIf.no (decide_eq_false (by omega)) ?_)))
local macro_rules | `(tactic| walk_at "eval Dict nil nil") => `(tactic| (k_here; k_dflt (refine' newDict_K ?k1 ?k2 ?k3 ?_; (case k1 => k_asm); (case k2 => k_asm); (case k3 => first | exact Top.nolimit (by k_asm) | exact TopRead.nolimit (by k_asm)); k_whole); intro d' h' o' F' N' l1 lo' hs' fs' hi' fi'; (try k_lt l1)))
theorem add_genC14 {prog : Program} {w : World} {A : Around} {E : Value → Shared → Prop} {s : Shared} {a b : Int} {ta tb : Tok} {Q : Value → Shared → Prop} (h : ∀ t tk, Q (.int (a + b) t) { s with toks := tk }) : wpAny (model prog w) A (binaryOp .Add (.int a ta) (.int b tb)) Q E s := add_int (h _ _)
local macro_rules | `(tactic| walk_at "binaryOp Add int int") => `(tactic| (k_here; with_reducible (refine add_genC14 ?_); intro t' tk'))

local macro_rules | `(tactic| k_mem) => `(tactic| assumption)
theorem lw_hit14 {prog : Program} {w : World} {rs : List Row} {qs : List (Int × Value)} {oR : Obj} {T : List (Addr × Obj)} {r : Row} (W : Lw prog w rs qs oR T) (hr : r ∈ rs) : ∃ qa t1 n1, valueAt qs r.k = some (.ref qa) ∧ (qa, qTup r.v r.st t1 n1) ∈ T := W.q r hr
local macro_rules | `(tactic| walk_at "CompSrc") => `(tactic| (k_here; k_dflt (refine' comp_src _ (fun r => r.st) ?hh ?F ?N ?m ?i ?z ?turn ?fin; (case hh => rfl); (case F => k_asm); (case N => k_asm); (case m => k_mem); (case i => with_reducible assumption); (case z => assumption)); (case' turn => (intro g' r' hr' t' I' oI' C' oC' D' m2' h' tk' E' ys' hC' hx' F' N'; rename Lw _ _ _ _ _ _ => lW'; obtain ⟨qa', t1', n1', hq', hm'⟩ := lw_hit14 lW' hr')); (case' fin => (intro g' us' hi'))))
local macro_rules | `(tactic| walk_at "eval ListComp") => `(tactic| (k_here; lct_look; k_dflt (refine LCt.ListComp_T (F₀ := by k_asm) (by with_unfolding_all rfl) (by decide) (by rfl) (by decide) (by rfl) ?_)))
local macro_rules | `(tactic| walk_at "CompSrcT") => `(tactic| (k_here; k_dflt (refine' comp_src_ge ?hdc _ ?hh ?F ?N ?m ?i ?z ?test ?turn ?fin; (case hdc => first | with_reducible assumption | assumption); (case hh => rfl); (case F => k_asm); (case N => k_asm); (case m => k_mem); (case i => with_reducible assumption); (case z => assumption)); (case' test => (intro g' r' hr' t' I' oI' C' oC' D' m2' h' tk' E' ys' hC' hx' F' N'; rename Lw _ _ _ _ _ _ => lW'; obtain ⟨qa', t1', n1', hq', hm'⟩ := lw_hit14 lW' hr')); (case' turn => (intro g' r' hr' t' I' oI' C' oC' D' m2' h' tk' E' ys' hC' hx' F' N')); (case' fin => (intro g' us' hi'))))
local macro_rules | `(tactic| walk_at "Keep") => `(tactic| exact Keep.intro (by k_asm) (by k_asm))
local macro_rules | `(tactic| walk_at "call builtin:len") => `(tactic| (k_here; (with_reducible show wpAny _ _ (call (Value.builtin "len") [Value.ref _]) _ _ _); k_dflt (refine' x_len ?N ?m1 ?i1 ?hz ?_; (case N => k_asm); (case m1 => k_mem); (case i1 => with_reducible assumption); (case hz => assumption); k_whole)))
local macro_rules | `(tactic| walk_at "call builtin:sorted") => `(tactic| (k_here; k_dflt (refine' x_sorted_ints ?F ?N ?m1 ?i1 ?hz ?_; (case F => k_asm); (case N => k_asm); (case m1 => k_mem); (case i1 => with_reducible assumption); (case hz => assumption); k_whole); intro D' vs' ns' c' h' F' N' l1 i' e1' p' w'; (try k_lt l1)))
local macro_rules | `(tactic| walk_at "subscriptTail") => `(tactic| (k_here; (with_reducible show wpAny _ _ (subscriptTail _ _ (Value.ref _) (Value.int _ _)) _ _ _); k_dflt (refine' x_item_int ?N ?m1 ?i1 ?hz ?a1 ?a2 ?_ ?hs ?hg; (case N => k_asm); (case m1 => k_mem); (case i1 => with_reducible assumption); (case hz => omega); (case a1 => omega); (case a2 => omega); (case hs => with_unfolding_all rfl); (case hg => (intro _; with_unfolding_all rfl)); k_whole); intro t'))
local macro_rules | `(tactic| walk_at "subscriptTail Name UnaryOp ref int") => `(tactic| (k_here; (with_reducible show wpAny _ _ (subscriptTail _ _ (Value.ref _) (Value.int _ _)) _ _ _); k_dflt (refine' x_item_int ?N ?m1 ?i1 ?hz ?a1 ?a2 ?_ ?hs ?hg; (case N => k_asm); (case m1 => k_mem); (case i1 => with_reducible assumption); (case hz => omega); (case a1 => omega); (case a2 => omega); (case hs => with_unfolding_all rfl); (case hg => (intro _; with_unfolding_all rfl)); k_whole); intro t'))
local macro_rules | `(tactic| walk_at "subscriptTail Name BinOp ref int") => `(tactic| (k_here; (with_reducible show wpAny _ _ (subscriptTail _ _ (Value.ref _) (Value.int _ _)) _ _ _); k_dflt (refine' x_item_int ?N ?m1 ?i1 ?hz ?a1 ?a2 ?_ ?hs ?hg; (case N => k_asm); (case m1 => k_mem); (case i1 => with_reducible assumption); (case hz => omega); (case a1 => omega); (case a2 => omega); (case hs => with_unfolding_all rfl); (case hg => (intro _; with_unfolding_all rfl)); k_whole); intro t'))
theorem last2 {h₀ h : Heap} {L : Addr} {x1 x2 : Addr × Obj} {l : List (Addr × Obj)} (N : News h₀ L h (x1 :: x2 :: l)) : News h₀ L h l := fun q hq => N _ (.tail _ (.tail _ hq))
set_option maxHeartbeats 1000000 in
theorem kept_idle {prog : Program} {w : World} {mean : ExcName → Option Value} {mg mb : Str → Option Value}
    {dp un : Nat} {gd : Option (List Code)} {cn : Str} {cs : Scope} {a : Addr} {ccd : Value} {cl : List (Str × Addr)} {outer : List Env} {A₀ : Around} {base h₀ : Heap} {L : Addr} {m : Str → Option Value} {s : Shared} {Q E : Value → Shared → Prop}
    {T : List (Addr × Obj)} {rd e : Addr} {oR : Obj} {vs : List Value} {ne : Nat} {rs : List Row} {qs : List (Int × Value)} {room num den : Int} {t1 t2 t3 : Tok}
    (B : Below A₀ base outer h₀) (F : Fr h₀ L s.heap m) (X : (Mine.hd.heap_39 w.params).In h₀)
    (N : News h₀ L s.heap ((rd, oR) :: (e, listOf (List.toArray vs) ne) :: T))
    (TP : Top Mine.hd.view_39 (looseW Mine.hd.view_39 [Str.ofString "itemgetter", Str.ofString "LRUCache"]) mean mg mb h₀) (hk : cs.kind = .function) (hi : IntsAre vs (rs.map (·.k))) (h6 : (rs.map (·.k)).length ≤ 1000) (W : Lw prog w rs qs oR T) (h0 : 0 ≤ room) (h1 : room ≤ 4) (hden : den = 1 ∨ den = 2) (hn0 : 0 ≤ num) (hn1 : num ≤ 2)
    (hd : dp + 12 < recursionLimit) (hu : un + 120 < cLine) (hD : oR.IsDictOf (PySem.intKind prog w) qs) (lo : (rd == sysModules) = false)
    (h66 : (rs.map (·.st)).length ≤ 6) (hle : den * ((rs.map (·.k)).length : Int) ≤ room * (den + num))
    (ret : ∀ h' tk', Fr h₀ L h' m → News h₀ L h' ((rd, oR) :: (e, listOf (List.toArray vs) ne) :: T) → Q (.ref e) { s with heap := h', toks := tk' }) :
    wpAny (model prog w) (ktrTop dp un gd cn cs L a ccd cl outer) (call (.ref 196) [.ref e, .ref rd, .int room t1, .int num t2, .int den t3]) Q E s := by
  refine wpAny_call ?_
  k_dflt (refine' code_defC ?k1 ?k2 ?k3 ?k4 ?k5 ?kA ?kF ?kK ?k6 ?k7 ?k8 ?k9 ?kB ?kD ?_ ?c2 ?c3 ?c4; (case kA => exact rfl); (case kF => exact rfl); (case kK => first | assumption | exact rfl); (case k1 => k_asm); (case k2 => k_asm); (case k3 => k_asm); (case k4 => k_asm); (case k5 => k_asm); (case k6 => k_is); (case k7 => k_is); (case k8 => ktr_room); (case k9 => exact BindsTo.of_eq rfl); (case kB => exact rfl); (case kD => decide +kernel); (case c2 => exact rfl); (case c3 => exact rfl); (case c4 => exact rfl); k_whole; intro g' L' h' tk' cells' FG' F' N' Y' B' X' T' l1; (try k_lt l1); k_cells Y'; (try simp only [List.cons_append, List.nil_append] at N'); (try dsimp only); (try k_fold))
  k_steps
  all_goals exact ret _ _ (by k_asm) (last2 (by k_asm))
end Mine
end
section
namespace Mine
theorem fillE3 : True := by
  w_top off
  trivial

theorem off1_all {D : Addr} : ∀ {T : List (Addr × Obj)}, PyProof.Rows.LCg.Off1 D T → ∀ p ∈ T, p.1 ≠ D
  | [], _, _, h => nomatch h
  | q :: r, h, p, hp => by
    rcases List.mem_cons.mp hp with rfl | hp
    · exact h.1
    · exact off1_all h.2 p hp
/-- the law's own reckoning of what stays -/
theorem s_kept {prog : Program} {w : World} {mean : ExcName → Option Value} {mg mb : Str → Option Value}
    {dp un : Nat} {gd : Option (List Code)} {cn : Str} {cs : Scope} {a : Addr} {ccd : Value} {cl : List (Str × Addr)} {outer : List Env} {A₀ : Around} {base h₀ : Heap} {L : Addr} {m : Str → Option Value} {s : Shared} {Q E : Value → Shared → Prop}
    {news T : List (Addr × Obj)} {rd e : Addr} {oR : Obj} {vs : List Value} {ne : Nat} {rs rs2 : List Row} {qs : List (Int × Value)} {room num den : Int} {t1 t2 t3 : Tok} {thr : Value}
    (B : Below A₀ base outer h₀) (F : Fr h₀ L s.heap m) (X : (Mine.hd.heap_39 w.params).In h₀) (N : News h₀ L s.heap news) (TP : Top Mine.hd.view_39 (looseW Mine.hd.view_39 [Str.ofString "itemgetter", Str.ofString "LRUCache"]) mean mg mb h₀) (hk : cs.kind = .function) (m1 : (rd, oR) ∈ news) (m2 : (e, listOf (List.toArray vs) ne) ∈ news) (hi : IntsAre vs (rs.map (·.k))) (W : Lw prog w rs qs oR T) (hT : ∀ p ∈ T, p ∈ news) (lo : (rd == sysModules) = false)
    (hkn : (rs.map (·.k)).Nodup) (hkb : ∀ x ∈ rs, 0 ≤ x.k ∧ x.k ≤ 5) (ht : Thr thr num den) (h0 : 0 ≤ room) (h1 : room ≤ 4) (hsq : Sq rs rs2 room num den)
    (hd : dp + 12 < recursionLimit) (hu : un + 120 < cLine)
    (same : rs2 = rs → ∀ h' tk', Fr h₀ L h' m → News h₀ L h' news → Q (.ref e) { s with heap := h', toks := tk' })
    (less : ∀ D us n h' tk', IntsAre us (rs2.map (·.k)) → Fr h₀ L h' m → News h₀ L h' ((D, listOf (List.toArray us) n) :: news) → (∀ p ∈ news, p.1 ≠ D) → Q (.ref D) { s with heap := h', toks := tk' }) :
    wpAny (model prog w) (ktrTop dp un gd cn cs L a ccd cl outer) (call (.ref 196) [.ref e, .ref rd, .int room t1, .int num t2, .int den t3]) Q E s := by
  have h6 := rows_six hkn hkb
  have lk : (rs.map (·.k)).length = rs.length := by simp
  have ls : (rs.map (·.st)).length = rs.length := by simp
  have N' : News h₀ L s.heap ((rd, oR) :: (e, listOf (List.toArray vs) ne) :: news) := fun p hp => N p (by
    revert p
    exact sub_cons m1 (sub_cons m2 sub_id))
  have hden : (den = 1 ∨ den = 2) ∧ 0 ≤ num ∧ num ≤ 2 := by
    cases ht with
    | half => exact ⟨.inr rfl, by omega, by omega⟩
    | whole _ _ a b => exact ⟨.inl rfl, a, b⟩
  have hnn : 0 ≤ room * num := Int.mul_nonneg h0 hden.2.1
  by_cases ho : Over rs room num den
  · have hle : room * (den + num) < den * (rs.length : Int) := ho
    have hrl : room < (rs.length : Int) := by
      rw [Int.mul_add] at hle
      rcases hden.1 with rfl | rfl <;> omega
    refine kept_spec (T := news) B F X N' TP hk hi (by omega) (lw_move W fun p hp _ => hT p hp) h0 h1 hden.1 hden.2.1 hden.2.2 hd hu W.d lo (by omega) (by rw [lk]; omega) (by rw [lk]; exact hrl) (by omega) fun D us ns least h' tk' a1 a2 a3 a4 F1 N1 a5 => ?_
    rw [← kept_rows hsq ho hkn a3 a4 a2 h0 hrl] at a1
    exact less D us us.length h' tk' a1 F1 (fun p hp => N1 p (by
      rcases List.mem_cons.mp hp with rfl | hp
      · exact .head _
      · exact .tail _ (.tail _ (.tail _ hp)))) (off1_all a5.2.2)
  · have hle : ¬ (room * (den + num) < den * (rs.length : Int)) := ho
    have hs : rs2 = rs := by
      rcases hsq with ⟨_, e⟩ | ⟨h, _⟩
      · exact e
      · exact absurd h ho
    exact kept_idle (T := news) B F X N' TP hk hi (by omega) (lw_move W fun p hp _ => hT p hp) h0 h1 hden.1 hden.2.1 hden.2.2 hd hu W.d lo (by omega) (by rw [lk]; omega) fun h' tk' F1 N1 => same hs h' tk' F1 fun p hp => N1 p (.tail _ (.tail _ hp))
end Mine
end
section
open PySem PySem.W PyProof.Rows PyProof.V PySem.Spec
namespace Mine
theorem at_stored (qs : List (Int × Value)) (k j : Int) (v : Value) : valueAt (stored qs k v) j = if j = k then some v else valueAt qs j := by
  unfold valueAt stored
  split
  · rename_i h
    induction qs with
    | nil => simp at h
    | cons q r ih =>
      simp only [List.map_cons, List.find?_cons]
      by_cases h1 : q.1 = k
      · rw [if_pos h1]
        by_cases h2 : j = k
        · subst h2
          rw [h1]; simp
        · have h3 : q.1 ≠ j := fun e => h2 (e ▸ h1)
          rw [decide_eq_false h3, if_neg h2]
          by_cases h4 : r.any (fun kv => decide (kv.1 = k)) = true
          · have := ih h4
            rw [if_neg h2] at this
            exact this
          · clear ih
            congr 1
            have h5 : ∀ x ∈ r, x.1 ≠ k := fun x hx e => h4 (List.any_eq_true.mpr ⟨x, hx, decide_eq_true e⟩)
            have h6 : r.map (fun kv => if kv.1 = k then (kv.1, v) else kv) = r := by
              conv => rhs; rw [← List.map_id r]
              exact List.map_congr_left fun x hx => if_neg (h5 x hx)
            rw [h6]
      · rw [if_neg h1]
        have h4 : r.any (fun kv => decide (kv.1 = k)) = true := by
          rw [List.any_cons, decide_eq_false h1, Bool.false_or] at h
          exact h
        by_cases h2 : j = k
        · subst h2
          rw [decide_eq_false h1]
          exact ih h4
        · by_cases h3 : q.1 = j
          · rw [decide_eq_true h3, if_neg h2]
          · rw [decide_eq_false h3]
            exact ih h4
  · rename_i h
    rw [List.find?_append]
    by_cases h2 : j = k
    · subst h2
      have : qs.find? (fun kv => decide (kv.1 = j)) = none := by
        rw [List.find?_eq_none]
        intro x hx e
        exact h (List.any_eq_true.mpr ⟨x, hx, e⟩)
      rw [this]; simp
    · have hk : ¬ k = j := fun e => h2 e.symm
      rw [if_neg h2]
      cases qs.find? (fun kv => decide (kv.1 = j)) <;> simp [hk]
theorem stored_keys (qs : List (Int × Value)) (k : Int) (v : Value) : (stored qs k v).map (·.1) = if k ∈ qs.map (·.1) then qs.map (·.1) else qs.map (·.1) ++ [k] := by
  have e : qs.any (fun kv => decide (kv.1 = k)) = decide (k ∈ qs.map (·.1)) := by
    rw [Bool.eq_iff_iff, List.any_eq_true, decide_eq_true_iff, List.mem_map]
    constructor
    · rintro ⟨x, hx, e⟩; exact ⟨x, hx, of_decide_eq_true e⟩
    · rintro ⟨x, hx, e⟩; exact ⟨x, hx, decide_eq_true e⟩
  unfold stored
  rw [e]
  by_cases h : k ∈ qs.map (·.1)
  · rw [if_pos (decide_eq_true h), if_pos h, List.map_map]
    refine List.map_congr_left fun x _ => ?_
    simp only [Function.comp]
    split <;> rfl
  · rw [if_neg (by simpa using h), if_neg h]; simp
theorem lw_put {prog : Program} {w : World} {rs rs1 : List Row} {qs : List (Int × Value)} {oR oR' : Obj} {T T' : List (Addr × Obj)} {key : Int} {v : Value} {st : Int} {D : Addr} {tt : Tok} {n : Nat}
    (W : Lw prog w rs qs oR T) (P : Up rs rs1 key v st) (hd : oR'.IsDictOf (PySem.intKind prog w) (stored qs key (.ref D))) (hm : (D, qTup v st tt n) ∈ T') (hT : ∀ p ∈ T, p ∈ T') (hk0 : 0 ≤ key) (hk5 : key ≤ 5) : Lw prog w rs1 (stored qs key (.ref D)) oR' T' := by
  refine ⟨hd, ?_, fun q hq => ?_, fun x hx => ?_⟩
  · rw [stored_keys]
    split
    · exact W.kn
    · rename_i hn
      exact List.nodup_append.mpr ⟨W.kn, by simp, fun a ha b hb e => hn (by rw [← List.mem_singleton.mp hb, ← e]; exact ha)⟩
  · have h1 : q.1 ∈ (stored qs key (.ref D)).map (·.1) := List.mem_map_of_mem hq
    rw [stored_keys] at h1
    have h2 : q.1 ∈ qs.map (·.1) ∨ q.1 = key := by
      split at h1
      · exact .inl h1
      · rcases List.mem_append.mp h1 with h | h
        · exact .inl h
        · exact .inr (List.mem_singleton.mp h)
    rcases h2 with h | h
    · obtain ⟨y, hy, e⟩ := List.mem_map.mp h
      rw [← e]; exact W.kb y hy
    · rw [h]; exact ⟨hk0, hk5⟩
  · rw [at_stored]
    rcases P x hx with ⟨h1, h2, h3⟩ | ⟨h1, h2⟩
    · rw [if_pos h1, h2, h3]
      exact ⟨D, tt, n, rfl, hm⟩
    · rw [if_neg h1]
      obtain ⟨qa, t1, n1, a, b⟩ := W.q x h2
      exact ⟨qa, t1, n1, a, hT _ b⟩
theorem cac_new {prog : Program} {w : World} {rs : List Row} {oD : Obj} {T : List (Addr × Obj)} {e : Addr} {n : Int} {q : Addr × Obj} (C : Cac prog w rs oD T e n) (hc : q.2.cls = .type "tuple") : Cac prog w rs oD (q :: T) e n :=
  ⟨C.d, fun r hr => ⟨.tail _ (C.rin r hr).1, .tail _ (C.rin r hr).2⟩, C.kn, C.kb, C.sn, C.sb, C.ln, C.le, List.forall_mem_cons.mpr ⟨.inl hc, C.tt⟩, C.vb⟩
theorem cac_entry {prog : Program} {w : World} {rs : List Row} {oD : Obj} {T : List (Addr × Obj)} {e D : Addr} {n : Int} (C : Cac prog w rs oD T e n) (h : ∀ p ∈ T, p.1 ≠ D) : Cac prog w rs oD T D n :=
  ⟨C.d, C.rin, C.kn, C.kb, C.sn, C.sb, C.ln, fun r hr => h _ (C.rin r hr).2, C.tt, C.vb⟩
theorem cac_up {prog : Program} {w : World} {rs : List Row} {oD : Obj} {T : List (Addr × Obj)} {e : Addr} {n n' : Int} (C : Cac prog w rs oD T e n) (h : n ≤ n') : Cac prog w rs oD T e n' :=
  ⟨C.d, C.rin, C.kn, C.kb, C.sn, fun r hr => Int.le_trans (C.sb r hr) h, C.ln, C.le, C.tt, C.vb⟩
theorem offs_new {T : List (Addr × Obj)} {c cd dD k kd rd ck : Addr} {q : Addr × Obj} (O : Offs T c cd dD k kd rd ck) (h : @Ne Nat q.1 c ∧ @Ne Nat q.1 cd ∧ @Ne Nat q.1 dD ∧ @Ne Nat q.1 k ∧ @Ne Nat q.1 kd ∧ @Ne Nat q.1 rd ∧ @Ne Nat q.1 ck) : Offs (q :: T) c cd dD k kd rd ck :=
  ⟨List.forall_mem_cons.mpr ⟨h.1, O.o1⟩, List.forall_mem_cons.mpr ⟨h.2.1, O.o2⟩, List.forall_mem_cons.mpr ⟨h.2.2.1, O.o3⟩, List.forall_mem_cons.mpr ⟨h.2.2.2.1, O.o4⟩, List.forall_mem_cons.mpr ⟨h.2.2.2.2.1, O.o5⟩, List.forall_mem_cons.mpr ⟨h.2.2.2.2.2.1, O.o6⟩, List.forall_mem_cons.mpr ⟨h.2.2.2.2.2.2, O.o7⟩⟩
/-- the loop's own iterator is no row -/
theorem cac_off {prog : Program} {w : World} {rs : List Row} {oD oI : Obj} {T l : List (Addr × Obj)} {e I L : Addr} {n : Int} {h₀ h : Heap} (N : News h₀ L h l) (hT : ∀ p ∈ T, p ∈ l) (hI : (I, oI) ∈ l) (hc : oI.cls = .type "range_iterator")
    (C : Cac prog w rs oD T e n) : Cac prog w rs oD (T.filter fun p => decide (p.1 ≠ I)) e n :=
  ⟨C.d, fun r hr => ⟨List.mem_filter.mpr ⟨(C.rin r hr).1, decide_eq_true (news_ne N (hT _ (C.rin r hr).1) hI (by rw [hc]; exact fun e => absurd (Value.type.inj e) (by decide)))⟩,
    List.mem_filter.mpr ⟨(C.rin r hr).2, decide_eq_true (news_ne N (hT _ (C.rin r hr).2) hI (by rw [hc]; exact fun e => absurd (Value.type.inj e) (by decide)))⟩⟩, C.kn, C.kb, C.sn, C.sb, C.ln, C.le, fun p hp => C.tt p (List.mem_filter.mp hp).1, C.vb⟩
theorem lw_off {prog : Program} {w : World} {rs : List Row} {qs : List (Int × Value)} {oR oI : Obj} {T l : List (Addr × Obj)} {I L : Addr} {h₀ h : Heap} (N : News h₀ L h l) (hT : ∀ p ∈ T, p ∈ l) (hI : (I, oI) ∈ l) (hc : oI.cls = .type "range_iterator")
    (W : Lw prog w rs qs oR T) : Lw prog w rs qs oR (T.filter fun p => decide (p.1 ≠ I)) :=
  lw_move W fun p hp h => List.mem_filter.mpr ⟨hp, decide_eq_true (news_ne N (hT _ hp) hI (by rw [hc, h]; exact fun e => absurd (Value.type.inj e) (by decide)))⟩
section
variable {prog : Program} {w : World} {A : Around} {E : Value → Shared → Prop} {s : Shared} {h₀ : Heap} {L rd : Addr} {m : Str → Option Value} {news : List (Addr × Obj)} {g : Obj → List (Addr × Obj)} {oR : Obj}
theorem x_set_q {rs rs1 rs2 : List Row} {qs : List (Int × Value)} {key : Int} {tt t : Tok} {v : Value} {st n : Int} {D c cd dD k kd e ck : Addr} {oD : Obj} {T : List (Addr × Obj)} {Q : Unit → Shared → Prop} (F : Fr h₀ L s.heap m) (N : News h₀ L s.heap news) (U : UpdF rd oR news g)
    (W : Lw prog w rs qs oR T) (P : Up rs rs1 key v st) (C : Cac prog w rs2 oD T e n) (O : Offs T c cd dD k kd rd ck) (m1 : (D, { cls := .type "tuple", data := .seq #[v, .int st tt] }) ∈ news) (hk0 : 0 ≤ key) (hk5 : key ≤ 5)
    (hD : @Ne Nat D c ∧ @Ne Nat D cd ∧ @Ne Nat D dD ∧ @Ne Nat D k ∧ @Ne Nat D kd ∧ @Ne Nat D rd ∧ @Ne Nat D ck)
    (h : ∀ h' oR', Fr h₀ L h' m → News h₀ L h' (g oR') → Lw prog w rs1 (stored qs key (.ref D)) oR' ((D, { cls := .type "tuple", data := .seq #[v, .int st tt] }) :: T) → Cac prog w rs2 oD ((D, { cls := .type "tuple", data := .seq #[v, .int st tt] }) :: T) e n →
      Offs ((D, { cls := .type "tuple", data := .seq #[v, .int st tt] }) :: T) c cd dD k kd rd ck → Q () { s with heap := h', toks := s.toks + 1 }) :
    wpAny (model prog w) A (setItem (.ref rd) (.int key t) (.ref D)) Q E s := by
  have hl : qs.length ≤ 6 := by
    have := six W.kn fun x hx => by
      obtain ⟨y, hy, rfl⟩ := List.mem_map.mp hx
      exact W.kb y hy
    simpa using this
  refine kda_set F N U W.d (intKind_is _ _ _ _) (by rw [sizeLine_eq]; omega) fun h' o' F' N' hd' => ?_
  exact h h' o' F' N' (lw_put (n := 0) W P hd' (.head _) (fun p hp => .tail _ hp) hk0 hk5) (cac_new C rfl) (offs_new O hD)
end
end Mine
end
section
namespace Mine
theorem fillG1 : True := by
  w_top off
  trivial


local macro_rules | `(tactic| k_room) => `(tactic| ktr_room)
local macro_rules | `(tactic| k_units) => `(tactic| ktr_units)
local macro_rules | `(tactic| ktr_enter) => `(tactic| (refine' code_def ?k1 ?k2 ?k3 ?k4 ?k5 ?kA ?kF ?kK ?k6 ?k7 ?k8 ?k9 ?kB ?_ ?c2 ?c3 ?c4 ?c5; (case kA => exact rfl); (case kF => exact rfl); (case kK => first | assumption | exact rfl); (case k1 => k_asm); (case k2 => k_asm); (case k3 => k_asm); (case k4 => k_asm); (case k5 => k_asm); (case k6 => k_is); (case k7 => k_is); (case k8 => ktr_room); (case k9 => first | exact BindsTo.of_eq rfl | exact binds_K (by k_in) rfl (by k_is) rfl rfl rfl | fail "ktr_enter: no rule for these arguments"); (case c5 => decide); (case kB => exact locs rfl); (case c2 => exact rfl); (case c3 => exact rfl); (case c4 => exact rfl); k_whole; intro g' L' h' FG' F' N' B' X' T'; (try dsimp only); (try k_fold)))
local macro_rules | `(tactic| k_lt $h:ident) => `(tactic| (replace $h := allLt_of $h; simp only [AllLt, and_true] at $h:ident; (try ((fail_if_success (rename AllLt _ _ => l6)); have l7 : AllLt _ _ := (by first | exact ($h).2 | exact ($h).2.2 | exact ($h).2.2.2 | exact ($h).2.2.2.2 | exact ($h).2.2.2.2.2 | exact ($h).2.2.2.2.2.2 | exact ($h).2.2.2.2.2.2.2 | exact ($h).2.2.2.2.2.2.2.2 | exact ($h).2.2.2.2.2.2.2.2.2 | exact ($h).2.2.2.2.2.2.2.2.2.2 | exact ($h).2.2.2.2.2.2.2.2.2.2.2 | exact ($h).2.2.2.2.2.2.2.2.2.2.2.2)))))
local macro_rules | `(tactic| k_all) => `(tactic| (refine' allLt_ne ?h6 ?h7; (case h6 => assumption); (case h7 => ((try dsimp only); omega))))
local macro_rules | `(tactic| k_all) => `(tactic| with_reducible assumption)
local macro_rules | `(tactic| walk_at "call builtin:len") => `(tactic| (k_here; (with_reducible show wpAny _ _ (call (Value.builtin "len") [Value.ref _]) _ _ _); k_dflt (refine' kda_len (knd := PySem.intKind _ _) ?N ?m ?d ?lo ?f ?_; (case N => k_asm); (case m => k_mem); (case d => k_asm); (case lo => k_asm); (case f => assumption); k_whole)))
local macro_rules | `(tactic| walk_at "getMethod ref") => `(tactic| (k_here; (with_reducible show wpAny _ _ (getMethod (Value.ref _) (Str.ofString "get") _) _ _ _); k_dflt (refine' kdg_method (knd := PySem.intKind _ _) ?N ?m ?d ?_; (case N => k_asm); (case m => k_mem); (case d => k_asm); k_whole)))
local macro_rules | `(tactic| walk_at "call builtin:dict.get") => `(tactic| (k_here; (with_reducible show wpAny _ _ (call (Value.builtin "dict.get") [Value.ref _, Value.int _ _]) _ _ _); k_dflt (refine' kdg_get1 (knd := PySem.intKind _ _) ?N ?m ?d ?lo (intKind_is _ _ _ _) _ ?hl ?_; (case N => k_asm); (case m => k_mem); (case d => k_asm); (case lo => k_asm); (case hl => assumption); k_whole; (try dsimp only [Option.getD]))))
local macro_rules | `(tactic| walk_at "subscriptTail") => `(tactic| (k_here; (with_reducible show wpAny _ _ (subscriptTail _ _ (Value.ref _) (Value.int _ _)) _ _ _); k_dflt (refine' kda_item (knd := PySem.intKind _ _) ?N ?m ?d (intKind_is _ _ _ _) ?hl ?_; (case N => k_asm); (case m => k_mem); (case d => k_asm); (case hl => assumption); k_whole)))
theorem x_get_missG1 {prog : Program} {w : World} {A : Around} {E : Value → Shared → Prop} {s : Shared} {h₀ : Heap} {L d : Addr} {news : List (Addr × Obj)} {o : Obj} {kvs : List (Int × Value)} {k : Int} {t : Tok} {Q : Value → Shared → Prop}
    (N : News h₀ L s.heap news) (hp : (d, o) ∈ news) (hd : o.IsDictOf (PySem.intKind prog w) kvs) (lo : (d == sysModules) = false) (hh : A.handled = none) (hl : valueAt kvs k = none)
    (h : ∀ h' e, Heap.NewExc s.heap h' e "KeyError" → E (.ref e) { s with heap := h', toks := s.toks + 1 }) : wpAny (model prog w) A (getItem (.ref d) (.int k t)) Q E s :=
  wpAny_getItem_missing_of (intKind_is _ _ _ _) lo hh (kda_dict N hp hd).mapOf hl h
local macro_rules | `(tactic| walk_at "getItem ref int") => `(tactic| (k_here; k_dflt (refine' x_get_missG1 ?N ?m ?d ?lo ?hh ?hl ?_; (case N => k_asm); (case m => k_mem); (case d => k_asm); (case lo => k_asm); (case hh => exact rfl); (case hl => assumption); k_whole); intro h' e' x'))
local macro_rules | `(tactic| walk_at "getItem ref int") => `(tactic| (k_here; k_dflt (refine' kdt_getItem (knd := PySem.intKind _ _) ?N ?m ?d (intKind_is _ _ _ _) ?hl ?_; (case N => k_asm); (case m => k_mem); (case d => k_asm); (case hl => assumption); k_whole)))
local macro_rules | `(tactic| walk_at "delItem ref int") => `(tactic| (k_here; k_dflt (refine' x_del_miss ?N ?m ?d ?lo ?hh ?hl ?_; (case N => k_asm); (case m => k_mem); (case d => k_asm); (case lo => k_asm); (case hh => exact rfl); (case hl => assumption); k_whole); intro h' e' x'))
local macro_rules | `(tactic| walk_at "delItem ref int") => `(tactic| (k_here; k_dflt (refine' kob_del (knd := PySem.intKind _ _) ?F ?N ?U ?d (intKind_is _ _ _ _) ?l ?z ?_; (case F => k_asm); (case N => k_asm); (case U => k_updF); (case d => k_asm); (case l => assumption); (case z => first | assumption | (rw [sizeLine_eq]; assumption)); k_whole); intro h' o' F' N' hd'; (try dsimp only at N')))
theorem x_del_ownG1 {M : Model} {A : Around} {E : Value → Shared → Prop} {s : Shared} {K : Frag} {x C L f : Addr} {h₀ : Heap} {m : Str → Option Value} {ox : Obj} {od : Option Obj} {i : Value} {Q : Unit → Shared → Prop}
    (F : Fr h₀ L s.heap m) (X₀ : K.In h₀) (I : InstAt s.heap x ox C od) (hq : noSeq K C = true) (hs : findIn K (.ref C) "__delitem__" = some (some (.ref f))) (hf : isFn K (.ref f) = true)
    (h : wpAny M A (call (.ref f) [.ref x, i]) (fun _ s' => Q () s') E s) : wpAny M A (delItem (.ref x) i) Q E s := by
  have X := X₀.keeps F.keep
  unfold delItem sequenceKey
  refine wpAny_holding (wpAny_bind (wpAny_bind (I.type.here ?_)))
  refine wpAny_bind ((anyM_none X hq).here ?_)
  rw [if_pos (show (!false) = true from rfl)]
  exact wpAny_pure (wpAny_bind (special_fn X I hs (beq_iff_eq.mp hf) (wpAny_mono h (fun _ _ z => wpAny_pure z) fun _ _ z => z)))
local macro_rules | `(tactic| walk_at "delItem ref int") => `(tactic| (k_here; k_dflt (refine' x_del_ownG1 ?k1 ?k2 ?k3 ?k4 ?k5 ?k6 ?_; (case k1 => k_asm); (case k2 => k_asm); (case k3 => k_inst); (case k4 => k_is); (case k5 => k_is); (case k6 => k_is); k_whole)))
local macro_rules | `(tactic| walk_at "WhlIf") => `(tactic| (first | (refine WhlIf.yes (decide_eq_true (by omega)) ?_) | (refine WhlIf.no (decide_eq_false (by omega)) ?_)))
local macro_rules | `(tactic| walk_at "eval Dict nil nil") => `(tactic| (k_here; k_dflt (refine' newDict_K ?k1 ?k2 ?k3 ?_; (case k1 => k_asm); (case k2 => k_asm); (case k3 => first | exact Top.nolimit (by k_asm) | exact TopRead.nolimit (by k_asm)); k_whole); intro d' h' o' F' N' l1 lo' hs' fs' hi' fi'; (try k_lt l1)))
theorem add_genG1 {prog : Program} {w : World} {A : Around} {E : Value → Shared → Prop} {s : Shared} {a b : Int} {ta tb : Tok} {Q : Value → Shared → Prop} (h : ∀ t tk, Q (.int (a + b) t) { s with toks := tk }) : wpAny (model prog w) A (binaryOp .Add (.int a ta) (.int b tb)) Q E s := add_int (h _ _)
local macro_rules | `(tactic| walk_at "binaryOp Add int int") => `(tactic| (k_here; with_reducible (refine add_genG1 ?_); intro t' tk'))


theorem news_tlG1 {h₀ h : Heap} {L : Addr} {p : Addr × Obj} {l : List (Addr × Obj)} (N : News h₀ L h (p :: l)) : News h₀ L h l := fun q hq => N q (List.Mem.tail _ hq)
local macro_rules | `(tactic| k_ne) => `(tactic| (refine neN ?_; (try dsimp only); first | assumption | (refine Ne.symm ?_; assumption) | omega))
local macro_rules | `(tactic| walk_at "call type:list") => `(tactic| (k_here; (rename News _ _ _ _ => lN'); (with_reducible show wpAny _ _ (call (Value.type "list") [Value.ref _]) _ _ _); k_dflt (refine' list_own ?B ?F ?X ?N ?TP ?hk ?hD ?lo ?hz ?hd ?hu ?_; (case B => k_asm); (case F => k_asm); (case X => k_asm); (case N => first | exact lN' | exact news_tlG1 lN' | exact news_tlG1 (news_tlG1 lN')); (case TP => k_asm); (case hk => exact rfl); (case hD => k_asm); (case lo => k_asm); (case hz => assumption); (case hd => ktr_room); (case hu => ktr_units); k_whole); intro D' c' h' tk' vs' hi' F' N' l1; (try k_lt l1)))
local macro_rules | `(tactic| walk_at "call builtin:len") => `(tactic| (k_here; (rename News _ _ _ _ => lN'); (with_reducible show wpAny _ _ (call (Value.builtin "len") [Value.ref _]) _ _ _); k_dflt (refine' len_own ?B ?F ?X ?N ?TP ?hk ?hD ?lo ?hz ?hd ?hu ?_; (case B => k_asm); (case F => k_asm); (case X => k_asm); (case N => first | exact lN' | exact news_tlG1 lN' | exact news_tlG1 (news_tlG1 lN')); (case TP => k_asm); (case hk => exact rfl); (case hD => k_asm); (case lo => k_asm); (case hz => assumption); (case hd => ktr_room); (case hu => ktr_units); k_whole); intro t' h' tk' F' N'))
local macro_rules | `(tactic| walk_at "compareOp NotEq ref ref") => `(tactic| (k_here; (with_reducible show wpAny _ _ (compareOp CmpOp.NotEq (Value.ref _) (Value.ref _)) _ _ _); k_dflt (refine' x_ne_ints ?N ?m1 ?m2 ?i1 ?i2 ?hu ?_; (case N => k_asm); (case m1 => k_mem); (case m2 => k_mem); (case i1 => with_reducible assumption); (case i2 => with_reducible assumption); (case hu => ktr_units); k_whole)))
local macro_rules | `(tactic| walk_at "compareOp In int ref") => `(tactic| (k_here; (with_reducible show wpAny _ _ (compareOp CmpOp.In (Value.int _ _) (Value.ref _)) _ _ _); k_dflt (first
  | (refine' x_in_yes ?N ?m1 ?i1 ?hin ?_; (case N => k_asm); (case m1 => k_mem); (case i1 => with_reducible assumption); (case hin => assumption); k_whole)
  | (refine' x_in_no ?N ?m1 ?i1 ?hin ?_; (case N => k_asm); (case m1 => k_mem); (case i1 => with_reducible assumption); (case hin => assumption); k_whole))))
local macro_rules | `(tactic| walk_at "compareOp NotIn int ref") => `(tactic| (k_here; (with_reducible show wpAny _ _ (compareOp CmpOp.NotIn (Value.int _ _) (Value.ref _)) _ _ _); k_dflt (first
  | (refine' x_notin_yes ?N ?m1 ?i1 ?hin ?_; (case N => k_asm); (case m1 => k_mem); (case i1 => with_reducible assumption); (case hin => assumption); k_whole)
  | (refine' x_notin_no ?N ?m1 ?i1 ?hin ?_; (case N => k_asm); (case m1 => k_mem); (case i1 => with_reducible assumption); (case hin => assumption); k_whole))))
local macro_rules | `(tactic| walk_at "binaryOp Add ref ref") => `(tactic| (k_here; (with_reducible show wpAny _ _ (binaryOp _ (Value.ref _) (Value.ref _)) _ _ _); k_dflt (refine' x_add_one ?F ?N ?m1 ?m2 ?i1 ?hz ?_; (case F => k_asm); (case N => k_asm); (case m1 => k_mem); (case m2 => k_mem); (case i1 => with_reducible assumption); (case hz => assumption); k_whole); intro D' us' h' F' N' l1 hi'; (try k_lt l1)))

local macro_rules | `(tactic| walk_at "eval Name") => `(tactic| (k_here; k_dflt (refine' nameX_L ?k1 ?k2 ?_ ?a ?b; (case a => rfl); (case b => rfl); (case k1 => k_asm); (case k2 => assumption); k_whole)))
local macro_rules | `(tactic| walk_at "call builtin:len") => `(tactic| (k_here; (with_reducible show wpAny _ _ (call (Value.builtin "len") [Value.ref _]) _ _ _); k_dflt (refine' x_len ?N ?m1 ?i1 ?hz ?_; (case N => k_asm); (case m1 => k_mem); (case i1 => with_reducible assumption); (case hz => assumption); k_whole)))
def tailTest : PySem.Expr := match lastOf turnBody with | .If t _ _ _ => t | _ => default
set_option maxHeartbeats 600000 in
theorem tailB {prog : Program} {w : World} {mean : ExcName → Option Value} {mg mb : Str → Option Value} {A₀ : Around} {h₀ : Heap} {L fa : Addr} {cdv : Value} {m : Str → Option Value} {s : Shared} {Q : Bool → Shared → Prop} {E : Value → Shared → Prop}
    {news T : List (Addr × Obj)} {c cd dD k kd rd e ck : Addr} {n room : Int} {tn th tc : Tok} {thr : Value} {held : Bool} {oD oR oC : Obj} {vs : List Value} {ne : Nat} {rs : List Row} {qs : List (Int × Value)}
    (B : Below A₀ h₀ [] h₀) (F : Fr h₀ L s.heap m) (X : (Mine.hd.heap_39 w.params).In h₀) (N : News h₀ L s.heap news) (hs : ∀ p ∈ (c, lru cd dD k n tn (.int room tc) thr) :: (cd, dictOf [] 0) :: (dD, oD) :: (k, instObj 46 kd) :: (kd, lockD w.params th held) :: (rd, oR) :: (e, listOf (List.toArray vs) ne) :: (ck, oC) :: T, p ∈ news)
    (TP : Top Mine.hd.view_39 (looseW Mine.hd.view_39 [Str.ofString "itemgetter", Str.ofString "LRUCache"]) mean mg mb h₀) (D : Dist c cd dD k kd rd ck) (lo : (dD == sysModules) = false) (C : Cac prog w rs oD T e n) (hi : IntsAre vs (rs.map (·.k)))
    (mc : m (Str.ofString "c") = some (.ref c)) (me : m (Str.ofString "entry") = some (.ref e))
    (ret : ∀ h' tk', Fr h₀ L h' m → News h₀ L h' ((c, lru cd dD k n tn (.int room tc) thr) :: (cd, dictOf [] 0) :: (dD, oD) :: (k, instObj 46 kd) :: (kd, lockD w.params th held) :: (rd, oR) :: (e, listOf (List.toArray vs) ne) :: (ck, oC) :: T) → Q false { s with heap := h', toks := tk' }) :
    wpAny (model prog w) (callerA.deeper (envOfC (Str.ofString "law") lawScope L fa cdv)) (isTrue tailTest (envOfC (Str.ofString "law") lawScope L fa cdv) (eval tailTest (envOfC (Str.ofString "law") lawScope L fa cdv))) Q E s := by
  have h6 := rows_six C.kn C.kb
  have hkv : (rowsKv rs).map (·.1) = rs.map (·.k) := by simp [rowsKv]
  have hv : IntsAre vs ((rowsKv rs).map (·.1)) := by rw [hkv]; exact hi
  have hD := C.d
  have hl : (rowsKv rs).length = rs.length := by simp [rowsKv]
  have hz : (rowsKv rs).length ≤ 16777216 := by omega
  have hvl : vs.length = (rowsKv rs).length := by
    have := IntsAre.length hv
    simpa using this
  have hml : ((rowsKv rs).map (·.1)).length = (rowsKv rs).length := by simp
  have hmz : ((rowsKv rs).map (·.1)).length ≤ 1000 := by omega
  have N1 : News h₀ L s.heap ((c, lru cd dD k n tn (.int room tc) thr) :: (cd, dictOf [] 0) :: (dD, oD) :: (k, instObj 46 kd) :: (kd, lockD w.params th held) :: (rd, oR) :: (e, listOf (List.toArray vs) ne) :: (ck, oC) :: T) := fun p hp => N p (hs p hp)
  clear N hs
  conv in (occs := *) lawScope => all_goals whnf
  conv in (occs := *) tailTest => all_goals whnf
  k_steps
  all_goals first | exact ret _ _ (by k_asm) (by k_asm) | (exfalso; omega)
theorem s_set2 {prog : Program} {w : World} {mean : ExcName → Option Value} {mg mb : Str → Option Value}
    {dp un : Nat} {gd : Option (List Code)} {cn : Str} {cs : Scope} {a : Addr} {ccd : Value} {cl : List (Str × Addr)} {outer : List Env} {A₀ : Around} {base h₀ : Heap} {L : Addr} {m : Str → Option Value} {s : Shared} {Q : Unit → Shared → Prop} {E : Value → Shared → Prop}
    {news T : List (Addr × Obj)} {c cd dD k kd rd e ck : Addr} {n room : Int} {tn th tc : Tok} {thr : Value} {held : Bool} {oD oR oC : Obj} {vs : List Value} {ne : Nat} {rs : List Row} {qs : List (Int × Value)} {num den key : Int} {tk : Tok} {v : Value}
    (B : Below A₀ base outer h₀) (F : Fr h₀ L s.heap m) (X : (Mine.hd.heap_39 w.params).In h₀) (N : News h₀ L s.heap news) (hs : ∀ p ∈ (c, lru cd dD k n tn (.int room tc) thr) :: (cd, dictOf [] 0) :: (dD, oD) :: (k, instObj 46 kd) :: (kd, lockD w.params th held) :: (rd, oR) :: (e, listOf (List.toArray vs) ne) :: (ck, oC) :: T, p ∈ news) (TP : Top Mine.hd.view_39 (looseW Mine.hd.view_39 [Str.ofString "itemgetter", Str.ofString "LRUCache"]) mean mg mb h₀) (hk : cs.kind = .function) (D : Dist c cd dD k kd rd ck) (O : Offs T c cd dD k kd rd ck) (lo : (dD == sysModules) = false) (C : Cac prog w rs oD T e n) (W : Lw prog w rs qs oR T) (ht : Thr thr num den) (h0 : 0 ≤ room) (h1 : room ≤ 4) (hk0 : 0 ≤ key) (hk5 : key ≤ 5) (hv : v = .none ∨ ∃ j t, v = .int j t)
    (hd : dp + 12 < recursionLimit) (hu : un + 120 < cLine) (hn0 : 0 ≤ n) (hn1 : n ≤ 100)
    (old : key ∈ rs.map (·.k) → ∀ rs1 rs2 oD' T' tn' h' tk', rs1.map (·.k) = rs.map (·.k) → Up rs rs1 key v (n + 1) → (rs1.map (·.k)).Nodup → (∀ x ∈ rs1, 0 ≤ x.k ∧ x.k ≤ 5) →
      Sqz held rs1 rs2 room num den → Cac prog w rs2 oD' T' e (n + 1) → (∀ p ∈ T, p ∈ T') → Lw prog w rs qs oR T' → Offs T' c cd dD k kd rd ck → Fr h₀ L h' m → News h₀ L h' ((c, lru cd dD k (n + 1) tn' (.int room tc) thr) :: (cd, dictOf [] 0) :: (dD, oD') :: (k, instObj 46 kd) :: (kd, lockD w.params th held) :: (rd, oR) :: (e, listOf (List.toArray vs) ne) :: (ck, oC) :: T') → Q () { s with heap := h', toks := tk' })
    (new : key ∉ rs.map (·.k) → ∀ rs1 rs2 oD' T' tn' h' tk', rs1.map (·.k) = rs.map (·.k) ++ [key] → Up rs rs1 key v (n + 1) → (rs1.map (·.k)).Nodup → (∀ x ∈ rs1, 0 ≤ x.k ∧ x.k ≤ 5) →
      Sqz held rs1 rs2 room num den → Cac prog w rs2 oD' T' e (n + 1) → (∀ p ∈ T, p ∈ T') → Lw prog w rs qs oR T' → Offs T' c cd dD k kd rd ck → Fr h₀ L h' m → News h₀ L h' ((c, lru cd dD k (n + 1) tn' (.int room tc) thr) :: (cd, dictOf [] 0) :: (dD, oD') :: (k, instObj 46 kd) :: (kd, lockD w.params th held) :: (rd, oR) :: (e, listOf (List.toArray vs) ne) :: (ck, oC) :: T') → Q () { s with heap := h', toks := tk' }) :
    wpAny (model prog w) (ktrTop dp un gd cn cs L a ccd cl outer) (setItem (.ref c) (.int key tk) v) Q E s := by
  refine s_set (qs := qs) B F X N hs TP hk D O lo C ht h0 h1 hk0 hk5 hv hd hu hn0 hn1 fun rs1 rs2 oD' T' tn' h' tk' e1 a1 a2 a3 a4 a5 a6 a7 a8 F' N' => ?_
  by_cases hin : key ∈ rs.map (·.k)
  · rw [if_pos hin] at e1
    exact old hin rs1 rs2 oD' T' tn' h' tk' e1 a1 a2 a4 a5 a6 a7 (lw_move W fun p hp _ => a7 p hp) a8 F' N'
  · rw [if_neg hin] at e1
    exact new hin rs1 rs2 oD' T' tn' h' tk' e1 a1 a2 a4 a5 a6 a7 (lw_move W fun p hp _ => a7 p hp) a8 F' N'
end Mine
end
section
namespace Mine
theorem fillTS : True := by
  w_top off
  trivial

theorem news_cell {h₀ h : Heap} {L : Addr} {l : List (Addr × Obj)} {a b : Addr} {vs : List Value} {n : Nat} {o : Obj} {x : Option Value} (N : News h₀ L h l) (h1 : (a, listOf vs.toArray n) ∈ l) (h2 : (b, o) ∈ l) (hc : o.data = .cell x) : a ≠ b := fun e => by
  have g1 := (N _ h1).1
  have g2 := (N _ h2).1
  simp only at g1 g2
  rw [e, g2] at g1
  have := congrArg Obj.data (Option.some.inj g1)
  rw [hc] at this
  cases this
def ifsOf : List PySem.Stmt → List PySem.Stmt
  | [] => []
  | .If t a b p :: r => .If t a b p :: ifsOf r
  | _ :: r => ifsOf r
/-- the turn's long if -/
def turnIf : PySem.Stmt := headOf (ifsOf turnBody)
/-- between two turns (or, with the iterator in the tail, at the end of one) -/
structure StF (prog : Program) (w : World) (h₀ : Heap) (L l c cd dD k kd rd : Addr) (th : Tok) (bound : Int) (h : Heap) (m : Str → Option Value) (n room num den : Int) (tn tc t1 t2 t3 t4 : Tok) (thr : Value) (held : Bool) (oD oR oC : Obj) (oc : Option Value) (e : Addr) (vs : List Value) (ne : Nat) (rs : List Row) (qs : List (Int × Value)) (T : List (Addr × Obj)) : Prop where
  F : Fr h₀ L h m
  N : News h₀ L h ((c, lru cd dD k n tn (.int room tc) thr) :: (cd, dictOf [] 0) :: (dD, oD) :: (k, instObj 46 kd) :: (kd, lockD w.params th held) :: (rd, oR) :: (e, listOf (List.toArray vs) ne) :: (L + 1, oC) :: T)
  O : Offs T c cd dD k kd rd (L + 1)
  C : Cac prog w rs oD T e n
  W : Lw prog w rs qs oR T
  hi : IntsAre vs (rs.map (·.k))
  ht : Thr thr num den
  n0 : 0 ≤ n
  n1 : n ≤ bound
  h0 : 0 ≤ room
  h1 : room ≤ 4
  hoc : oC.data = .cell oc
  m1 : m (Str.ofString "script") = some (.ref l)
  m2 : m (Str.ofString "room") = some (.int room t1)
  m3 : m (Str.ofString "num") = some (.int num t2)
  m4 : m (Str.ofString "den") = some (.int den t3)
  m5 : m (Str.ofString "c") = some (.ref c)
  m6 : m (Str.ofString "lock") = some (.ref k)
  m7 : m (Str.ofString "entry") = some (.ref e)
  m8 : m (Str.ofString "rows") = some (.ref rd)
  m9 : m (Str.ofString "counter") = some (.int n t4)
  m10 : m (Str.ofString "held") = some (.bool held)
def StX (prog : Program) (w : World) (h₀ : Heap) (L l c cd dD k kd rd : Addr) (th : Tok) (I : Addr) (oI : Obj) (bound : Int) (h : Heap) (m : Str → Option Value) : Prop :=
  ∃ n room num den tn tc t1 t2 t3 t4 thr held oD oR oC oc e vs ne rs qs T, (I, oI) ∈ T ∧ StF prog w h₀ L l c cd dD k kd rd th bound h m n room num den tn tc t1 t2 t3 t4 thr held oD oR oC oc e vs ne rs qs T
def St (prog : Program) (w : World) (h₀ : Heap) (L l c cd dD k kd rd : Addr) (th : Tok) (bound : Int) (h : Heap) (m : Str → Option Value) : Prop :=
  ∃ n room num den tn tc t1 t2 t3 t4 thr held oD oR oC oc e vs ne rs qs T, StF prog w h₀ L l c cd dD k kd rd th bound h m n room num den tn tc t1 t2 t3 t4 thr held oD oR oC oc e vs ne rs qs T
theorem StX.intro {prog : Program} {w : World} {h₀ : Heap} {L l c cd dD k kd rd : Addr} {th : Tok} {I : Addr} {oI : Obj} {bound : Int} {h : Heap} {m : Str → Option Value} {n room num den : Int} {tn tc t1 t2 t3 t4 : Tok} {thr : Value} {held : Bool} {oD oR oC : Obj} {oc : Option Value} {e : Addr} {vs : List Value} {ne : Nat} {rs : List Row} {qs : List (Int × Value)} {T : List (Addr × Obj)}
    (a : StF prog w h₀ L l c cd dD k kd rd th bound h m n room num den tn tc t1 t2 t3 t4 thr held oD oR oC oc e vs ne rs qs T) (b : (I, oI) ∈ T) : StX prog w h₀ L l c cd dD k kd rd th I oI bound h m := ⟨_, _, _, _, _, _, _, _, _, _, _, _, _, _, _, _, _, _, _, _, _, _, b, a⟩
end Mine
end
section
namespace Mine
theorem fillT0a : True := by
  w_top off
  trivial


local macro_rules | `(tactic| k_room) => `(tactic| ktr_room)
local macro_rules | `(tactic| k_units) => `(tactic| ktr_units)
local macro_rules | `(tactic| ktr_enter) => `(tactic| (refine' code_def ?k1 ?k2 ?k3 ?k4 ?k5 ?kA ?kF ?kK ?k6 ?k7 ?k8 ?k9 ?kB ?_ ?c2 ?c3 ?c4 ?c5; (case kA => exact rfl); (case kF => exact rfl); (case kK => first | assumption | exact rfl); (case k1 => k_asm); (case k2 => k_asm); (case k3 => k_asm); (case k4 => k_asm); (case k5 => k_asm); (case k6 => k_is); (case k7 => k_is); (case k8 => ktr_room); (case k9 => first | exact BindsTo.of_eq rfl | exact binds_K (by k_in) rfl (by k_is) rfl rfl rfl | fail "ktr_enter: no rule for these arguments"); (case c5 => decide); (case kB => exact locs rfl); (case c2 => exact rfl); (case c3 => exact rfl); (case c4 => exact rfl); k_whole; intro g' L' h' FG' F' N' B' X' T'; (try dsimp only); (try k_fold)))
local macro_rules | `(tactic| k_lt $h:ident) => `(tactic| (replace $h := allLt_of $h; simp only [AllLt, and_true] at $h:ident; (try ((fail_if_success (rename AllLt _ _ => l6)); have l7 : AllLt _ _ := (by first | exact ($h).2 | exact ($h).2.2 | exact ($h).2.2.2 | exact ($h).2.2.2.2 | exact ($h).2.2.2.2.2 | exact ($h).2.2.2.2.2.2 | exact ($h).2.2.2.2.2.2.2 | exact ($h).2.2.2.2.2.2.2.2 | exact ($h).2.2.2.2.2.2.2.2.2 | exact ($h).2.2.2.2.2.2.2.2.2.2 | exact ($h).2.2.2.2.2.2.2.2.2.2.2 | exact ($h).2.2.2.2.2.2.2.2.2.2.2.2)))))
local macro_rules | `(tactic| k_all) => `(tactic| (refine' allLt_ne ?h6 ?h7; (case h6 => assumption); (case h7 => ((try dsimp only); omega))))
local macro_rules | `(tactic| k_all) => `(tactic| with_reducible assumption)
local macro_rules | `(tactic| walk_at "call builtin:len") => `(tactic| (k_here; (with_reducible show wpAny _ _ (call (Value.builtin "len") [Value.ref _]) _ _ _); k_dflt (refine' kda_len (knd := PySem.intKind _ _) ?N ?m ?d ?lo ?f ?_; (case N => k_asm); (case m => k_mem); (case d => k_asm); (case lo => k_asm); (case f => assumption); k_whole)))
local macro_rules | `(tactic| walk_at "getMethod ref") => `(tactic| (k_here; (with_reducible show wpAny _ _ (getMethod (Value.ref _) (Str.ofString "get") _) _ _ _); k_dflt (refine' kdg_method (knd := PySem.intKind _ _) ?N ?m ?d ?_; (case N => k_asm); (case m => k_mem); (case d => k_asm); k_whole)))
local macro_rules | `(tactic| walk_at "call builtin:dict.get") => `(tactic| (k_here; (with_reducible show wpAny _ _ (call (Value.builtin "dict.get") [Value.ref _, Value.int _ _]) _ _ _); k_dflt (refine' kdg_get1 (knd := PySem.intKind _ _) ?N ?m ?d ?lo (intKind_is _ _ _ _) _ ?hl ?_; (case N => k_asm); (case m => k_mem); (case d => k_asm); (case lo => k_asm); (case hl => assumption); k_whole; (try dsimp only [Option.getD]))))
local macro_rules | `(tactic| walk_at "subscriptTail") => `(tactic| (k_here; (with_reducible show wpAny _ _ (subscriptTail _ _ (Value.ref _) (Value.int _ _)) _ _ _); k_dflt (refine' kda_item (knd := PySem.intKind _ _) ?N ?m ?d (intKind_is _ _ _ _) ?hl ?_; (case N => k_asm); (case m => k_mem); (case d => k_asm); (case hl => assumption); k_whole)))
theorem x_get_missT0a {prog : Program} {w : World} {A : Around} {E : Value → Shared → Prop} {s : Shared} {h₀ : Heap} {L d : Addr} {news : List (Addr × Obj)} {o : Obj} {kvs : List (Int × Value)} {k : Int} {t : Tok} {Q : Value → Shared → Prop}
    (N : News h₀ L s.heap news) (hp : (d, o) ∈ news) (hd : o.IsDictOf (PySem.intKind prog w) kvs) (lo : (d == sysModules) = false) (hh : A.handled = none) (hl : valueAt kvs k = none)
    (h : ∀ h' e, Heap.NewExc s.heap h' e "KeyError" → E (.ref e) { s with heap := h', toks := s.toks + 1 }) : wpAny (model prog w) A (getItem (.ref d) (.int k t)) Q E s :=
  wpAny_getItem_missing_of (intKind_is _ _ _ _) lo hh (kda_dict N hp hd).mapOf hl h
local macro_rules | `(tactic| walk_at "getItem ref int") => `(tactic| (k_here; k_dflt (refine' x_get_missT0a ?N ?m ?d ?lo ?hh ?hl ?_; (case N => k_asm); (case m => k_mem); (case d => k_asm); (case lo => k_asm); (case hh => exact rfl); (case hl => assumption); k_whole); intro h' e' x'))
local macro_rules | `(tactic| walk_at "getItem ref int") => `(tactic| (k_here; k_dflt (refine' kdt_getItem (knd := PySem.intKind _ _) ?N ?m ?d (intKind_is _ _ _ _) ?hl ?_; (case N => k_asm); (case m => k_mem); (case d => k_asm); (case hl => assumption); k_whole)))
local macro_rules | `(tactic| walk_at "delItem ref int") => `(tactic| (k_here; k_dflt (refine' x_del_miss ?N ?m ?d ?lo ?hh ?hl ?_; (case N => k_asm); (case m => k_mem); (case d => k_asm); (case lo => k_asm); (case hh => exact rfl); (case hl => assumption); k_whole); intro h' e' x'))
local macro_rules | `(tactic| walk_at "delItem ref int") => `(tactic| (k_here; k_dflt (refine' kob_del (knd := PySem.intKind _ _) ?F ?N ?U ?d (intKind_is _ _ _ _) ?l ?z ?_; (case F => k_asm); (case N => k_asm); (case U => k_updF); (case d => k_asm); (case l => assumption); (case z => first | assumption | (rw [sizeLine_eq]; assumption)); k_whole); intro h' o' F' N' hd'; (try dsimp only at N')))
theorem x_del_ownT0a {M : Model} {A : Around} {E : Value → Shared → Prop} {s : Shared} {K : Frag} {x C L f : Addr} {h₀ : Heap} {m : Str → Option Value} {ox : Obj} {od : Option Obj} {i : Value} {Q : Unit → Shared → Prop}
    (F : Fr h₀ L s.heap m) (X₀ : K.In h₀) (I : InstAt s.heap x ox C od) (hq : noSeq K C = true) (hs : findIn K (.ref C) "__delitem__" = some (some (.ref f))) (hf : isFn K (.ref f) = true)
    (h : wpAny M A (call (.ref f) [.ref x, i]) (fun _ s' => Q () s') E s) : wpAny M A (delItem (.ref x) i) Q E s := by
  have X := X₀.keeps F.keep
  unfold delItem sequenceKey
  refine wpAny_holding (wpAny_bind (wpAny_bind (I.type.here ?_)))
  refine wpAny_bind ((anyM_none X hq).here ?_)
  rw [if_pos (show (!false) = true from rfl)]
  exact wpAny_pure (wpAny_bind (special_fn X I hs (beq_iff_eq.mp hf) (wpAny_mono h (fun _ _ z => wpAny_pure z) fun _ _ z => z)))
local macro_rules | `(tactic| walk_at "delItem ref int") => `(tactic| (k_here; k_dflt (refine' x_del_ownT0a ?k1 ?k2 ?k3 ?k4 ?k5 ?k6 ?_; (case k1 => k_asm); (case k2 => k_asm); (case k3 => k_inst); (case k4 => k_is); (case k5 => k_is); (case k6 => k_is); k_whole)))
local macro_rules | `(tactic| walk_at "WhlIf") => `(tactic| (first | (refine WhlIf.yes (decide_eq_true (by omega)) ?_) | (refine WhlIf.no (decide_eq_false (by omega)) ?_)))
local macro_rules | `(tactic| walk_at "eval Dict nil nil") => `(tactic| (k_here; k_dflt (refine' newDict_K ?k1 ?k2 ?k3 ?_; (case k1 => k_asm); (case k2 => k_asm); (case k3 => first | exact Top.nolimit (by k_asm) | exact TopRead.nolimit (by k_asm)); k_whole); intro d' h' o' F' N' l1 lo' hs' fs' hi' fi'; (try k_lt l1)))
theorem add_genT0a {prog : Program} {w : World} {A : Around} {E : Value → Shared → Prop} {s : Shared} {a b : Int} {ta tb : Tok} {Q : Value → Shared → Prop} (h : ∀ t tk, Q (.int (a + b) t) { s with toks := tk }) : wpAny (model prog w) A (binaryOp .Add (.int a ta) (.int b tb)) Q E s := add_int (h _ _)
local macro_rules | `(tactic| walk_at "binaryOp Add int int") => `(tactic| (k_here; with_reducible (refine add_genT0a ?_); intro t' tk'))


theorem lw_lessT0a {prog : Program} {w : World} {rs : List Row} {ks : List Int} {qs : List (Int × Value)} {oR : Obj} {T : List (Addr × Obj)} (W : Lw prog w rs qs oR T) : Lw prog w (less rs ks) qs oR T := lw_sub W fun _ hx => (List.mem_filter.mp hx).1
theorem keep_atT0a {T T' : List (Addr × Obj)} {p : Addr × Obj} (h : ∀ p ∈ T, p.2.cls ≠ .type "list" → p ∈ T') (hp : p ∈ T) (hc : p.2.cls ≠ .type "list") : p ∈ T' := h p hp hc
theorem at_putT0a {prog : Program} {w : World} {rs : List Row} {qs : List (Int × Value)} {key : Int} {v : Value} {oR : Obj} {T : List (Addr × Obj)} (_ : Lw prog w rs (stored qs key v) oR T) : valueAt (stored qs key v) key = some v := by rw [at_stored, if_pos rfl]
theorem off8T0a {p1 p2 p3 p4 p5 p6 p7 p8 P : Prop} (h : p1 ∧ p2 ∧ p3 ∧ p4 ∧ p5 ∧ p6 ∧ p7 ∧ p8 ∧ P) : P := h.2.2.2.2.2.2.2.2
theorem off9T0a {D : Addr} : ∀ {T : List (Addr × Obj)}, PyProof.Rows.LCg.Off1 D T → ∀ p ∈ T, p.1 ≠ D
  | [], _, _, h => nomatch h
  | q :: r, h, p, hp => by
    rcases List.mem_cons.mp hp with rfl | hp
    · exact h.1
    · exact off9T0a h.2 p hp
theorem bne_decT0a (a b : Int) : (a != b) = decide (a ≠ b) := by by_cases h : a = b <;> simp [h]
local macro_rules | `(tactic| walk_at "Eq") => `(tactic| exact bne_decT0a _ _)
theorem ne_ltT0a {T news : List (Addr × Obj)} {D : Addr} (l1 : ∀ p ∈ news, p.1 < D) (hs : ∀ p ∈ T, p ∈ news) : ∀ p ∈ T, p.1 ≠ D := fun p hp => Nat.ne_of_lt (l1 p (hs p hp))
theorem ne_atT0a {T news : List (Addr × Obj)} {D : Addr} (l1 : ∀ p ∈ news, p.1 ≠ D) (hs : ∀ p ∈ T, p ∈ news) : ∀ p ∈ T, p.1 ≠ D := fun p hp => l1 p (hs p hp)
theorem sqz_trueT0a {rs rs2 : List Row} {a b c : Int} (h : Sqz true rs rs2 a b c) : rs2 = rs := by
  rcases h with ⟨_, h⟩ | ⟨h, _⟩
  · exact h
  · cases h
theorem less_oneT0a {rs : List Row} {key : Int} (_ : key ∈ rs.map (·.k)) : (less rs [key]).map (·.k) = (rs.filter fun r => decide (r.k ≠ key)).map (·.k) := by
  have : less rs [key] = rs.filter fun r => decide (r.k ≠ key) := List.filter_congr fun r _ => by simp
  rw [this]
theorem less_noneT0a {rs : List Row} {key : Int} (h : key ∉ rs.map (·.k)) : rs.map (·.k) = (rs.filter fun r => decide (r.k ≠ key)).map (·.k) := by
  have : rs.filter (fun r => decide (r.k ≠ key)) = rs := List.filter_eq_self.mpr fun r hr => decide_eq_true fun e => h (e ▸ List.mem_map_of_mem hr)
  rw [this]
local macro_rules | `(tactic| k_all) => `(tactic| first | exact ne_atT0a (by assumption) (by ((repeat (refine sub_cons (by k_mem) ?_)); (repeat (first | exact sub_id | refine sub_tl ?_)))) | exact ne_ltT0a (by assumption) (by ((repeat (refine sub_cons (by k_mem) ?_)); (repeat (first | exact sub_id | refine sub_tl ?_)))))
local macro_rules | `(tactic| walk_at "binaryOp Add ref ref") => `(tactic| (k_here; (with_reducible show wpAny _ _ (binaryOp _ (Value.ref _) (Value.ref _)) _ _ _); k_dflt (refine' x_add_one ?F ?N ?m1 ?m2 ?i1 ?hz ?_; (case F => k_asm); (case N => k_asm); (case m1 => k_mem); (case m2 => k_mem); (case i1 => with_reducible assumption); (case hz => assumption); k_whole); intro D' us' h' F' N' l1 hi'; have l9' := l1; (try k_lt l1)))
local macro_rules | `(tactic| walk_at "compareOp In int ref") => `(tactic| (k_here; (with_reducible show wpAny _ _ (compareOp CmpOp.In (Value.int _ _) (Value.ref _)) _ _ _); k_dflt (first
  | (refine' x_in_yes ?N ?m1 ?i1 ?hin ?_; (case N => k_asm); (case m1 => k_mem); (case i1 => with_reducible assumption); (case hin => assumption); k_whole)
  | (refine' x_in_no ?N ?m1 ?i1 ?hin ?_; (case N => k_asm); (case m1 => k_mem); (case i1 => with_reducible assumption); (case hin => assumption); k_whole))))
local macro_rules | `(tactic| walk_at "compareOp NotIn int ref") => `(tactic| (k_here; (with_reducible show wpAny _ _ (compareOp CmpOp.NotIn (Value.int _ _) (Value.ref _)) _ _ _); k_dflt (first
  | (refine' x_notin_yes ?N ?m1 ?i1 ?hin ?_; (case N => k_asm); (case m1 => k_mem); (case i1 => with_reducible assumption); (case hin => assumption); k_whole)
  | (refine' x_notin_no ?N ?m1 ?i1 ?hin ?_; (case N => k_asm); (case m1 => k_mem); (case i1 => with_reducible assumption); (case hin => assumption); k_whole))))
local macro_rules | `(tactic| k_ne) => `(tactic| (refine neN ?_; (try dsimp only); first | assumption | (refine Ne.symm ?_; assumption) | omega))
local macro_rules | `(tactic| walk_at "CompSrcT") => `(tactic| (k_here; k_dflt (refine' comp_src_ne ?hdc _ ?hh ?F ?N ?m ?i ?z ?test ?turn ?fin; (case hdc => first | with_reducible assumption | assumption); (case hh => rfl); (case F => k_asm); (case N => k_asm); (case m => k_mem); (case i => with_reducible assumption); (case z => assumption)); (case' test => (intro g' r' hr' t' I' oI' C' oC' D' m2' h' tk' E' ys' hC' hx' F' N')); (case' turn => (intro g' r' hr' t' I' oI' C' oC' D' m2' h' tk' E' ys' hC' hx' F' N')); (case' fin => (intro g' us' hi'))))
local macro_rules | `(tactic| walk_at "Keep") => `(tactic| exact Keep.intro (by k_asm) (by k_asm))
local macro_rules | `(tactic| walk_at "exec Assign cons ListComp") => `(tactic| (k_here; lct_look; k_dflt (refine LCt.Assign_ListComp_T (F₀ := by k_asm) (by rfl) (by with_unfolding_all rfl) (by with_unfolding_all rfl) (by decide) (by rfl) (by decide) (by rfl) (by rfl) (by rfl) ?_)))

theorem ints_eqT0a {vs : List Value} {a b : List Int} (e : a = b) (h : IntsAre vs b) : IntsAre vs a := e ▸ h
theorem sq_ofT0a {rs rs2 : List Row} {a b c : Int} (h : Sqz false rs rs2 a b c) : Sq rs rs2 a b c := by
  rcases h with ⟨h, _⟩ | ⟨_, h⟩
  · cases h
  · exact h
local macro_rules | `(tactic| k_mem) => `(tactic| assumption)
local macro_rules | `(tactic| walk_at "eval Name") => `(tactic| (k_here; k_dflt (refine' nameX_L ?k1 ?k2 ?_ ?a ?b; (case a => rfl); (case b => rfl); (case k1 => k_asm); (case k2 => assumption); k_whole)))
local macro_rules | `(tactic| k_all) => `(tactic| first | exact Offs.o1 (by assumption) | exact Offs.o2 (by assumption) | exact Offs.o3 (by assumption) | exact Offs.o4 (by assumption) | exact Offs.o5 (by assumption) | exact Offs.o6 (by assumption) | exact Offs.o7 (by assumption))
local macro_rules | `(tactic| walk_at "call ref") => `(tactic| (k_here; (with_reducible show wpAny _ _ (call (Value.ref 116) _) _ _ _); k_dflt (refine' s_inc (rs := []) (qs := []) ?B ?F ?X ?N ?hs ?TP ?hk ?D ?O ?hd ?hu ?n0 ?n1 ?_; (case B => k_asm); (case F => k_asm); (case X => k_asm); (case N => k_asm); (case TP => k_asm); (case hk => exact rfl); (case D => assumption); (case O => assumption); (case hs => ((repeat (refine sub_cons (by k_mem) ?_)); (repeat (first | exact sub_id | refine sub_tl ?_)))); (case hd => ktr_room); (case hu => ktr_units); (case n0 => omega); (case n1 => omega); k_whole); intro t' h' tk' F' N'))
local macro_rules | `(tactic| walk_at "call ref") => `(tactic| (k_here; (with_reducible show wpAny _ _ (call (Value.ref 124) _) _ _ _); k_dflt (refine' s_get ?B ?F ?X ?N ?hs ?TP ?hk ?D ?O ?lo ?C ?W ?hd ?hu ?n0 ?n1 ?hit ?miss; (case B => k_asm); (case F => k_asm); (case X => k_asm); (case N => k_asm); (case TP => k_asm); (case hk => exact rfl); (case D => assumption); (case O => assumption); (case lo => assumption); (case C => assumption); (case W => assumption); (case hs => ((repeat (refine sub_cons (by k_mem) ?_)); (repeat (first | exact sub_id | refine sub_tl ?_)))); (case hd => ktr_room); (case hu => ktr_units); (case n0 => omega); (case n1 => omega)); (case' hit => (intro hin' v' st' qa' t1' n1' rs' T' tn' h' tk' hv' hq' hm' hke' hup' C' W' hkeep' O' F' N'; rcases hv' with hv' | ⟨j', tj', hv'⟩ <;> subst hv')); (case' miss => (intro hin' h' tk' F' N'))))
local macro_rules | `(tactic| walk_at "call ref") => `(tactic| (k_here; (with_reducible show wpAny _ _ (call (Value.ref 203) _) _ _ _); k_dflt (refine' s_read ?B ?F ?X ?N ?hs ?TP ?hk ?D ?O ?lo ?C ?W ?hd ?hu ?n0 ?n1 ?hit ?miss; (case B => k_asm); (case F => k_asm); (case X => k_asm); (case N => k_asm); (case TP => k_asm); (case hk => exact rfl); (case D => assumption); (case O => assumption); (case lo => assumption); (case C => assumption); (case W => assumption); (case hs => ((repeat (refine sub_cons (by k_mem) ?_)); (repeat (first | exact sub_id | refine sub_tl ?_)))); (case hd => ktr_room); (case hu => ktr_units); (case n0 => omega); (case n1 => omega)); (case' hit => (intro hin' v' st' qa' t1' n1' rs' T' tn' h' tk' hv' hq' hm' hke' hup' C' W' hkeep' O' F' N'; rcases hv' with hv' | ⟨j', tj', hv'⟩ <;> subst hv')); (case' miss => (intro hin' h' tk' F' N' t'))))
local macro_rules | `(tactic| walk_at "call ref") => `(tactic| (k_here; (with_reducible show wpAny _ _ (call (Value.ref 210) _) _ _ _); k_dflt (refine' s_take (qs := []) ?B ?F ?X ?N ?hs ?TP ?hk ?D ?O ?lo ?C ?hd ?hu ?hit ?miss; (case B => k_asm); (case F => k_asm); (case X => k_asm); (case N => k_asm); (case TP => k_asm); (case hk => exact rfl); (case D => assumption); (case O => assumption); (case lo => assumption); (case C => assumption); (case hs => ((repeat (refine sub_cons (by k_mem) ?_)); (repeat (first | exact sub_id | refine sub_tl ?_)))); (case hd => ktr_room); (case hu => ktr_units)); (case' hit => (intro hin' oD' h' tk' C' F' N'; have hle' := less_oneT0a hin')); (case' miss => (intro hin' h' tk' F' N'; have hle' := less_noneT0a hin'))))
local macro_rules | `(tactic| walk_at "call ref") => `(tactic| (k_here; (with_reducible show wpAny _ _ (call (Value.ref 174) _) _ _ _); k_dflt (refine' s_man (qs := []) ?B ?F ?X ?N ?hs ?TP ?hk ?D ?O ?lo ?C ?ht ?h0 ?h1 ?hd ?hu ?_; (case B => k_asm); (case F => k_asm); (case X => k_asm); (case N => k_asm); (case TP => k_asm); (case hk => exact rfl); (case D => assumption); (case O => assumption); (case lo => assumption); (case C => assumption); (case hs => ((repeat (refine sub_cons (by k_mem) ?_)); (repeat (first | exact sub_id | refine sub_tl ?_)))); (case ht => first | assumption | exact Thr.whole _ _ (by assumption) (by assumption) | exact Thr.half _); (case h0 => omega); (case h1 => omega); (case hd => ktr_room); (case hu => ktr_units); k_whole); intro rs2' oD' h' tk' hsq' C' F' N'))
local macro_rules | `(tactic| walk_at "call ref") => `(tactic| first | (k_here; (with_reducible show wpAny _ _ (call (Value.ref 196) _) _ _ _); k_dflt (refine' s_kept ?B ?F ?X ?N ?TP ?hk ?m1 ?m2 ?hi ?W ?hT ?lo ?hkn ?hkb ?ht ?h0 ?h1 ?hsq ?hd ?hu ?_ ?_; (case B => k_asm); (case F => k_asm); (case X => k_asm); (case N => k_asm); (case TP => k_asm); (case hk => exact rfl); (case m1 => k_mem); (case m2 => k_mem); (case hsq => exact sq_ofT0a (by assumption)); (case W => assumption); (case hi => first | assumption | exact ints_eqT0a (by assumption) (by assumption)); (case hT => ((repeat (refine sub_cons (by k_mem) ?_)); (repeat (first | exact sub_id | refine sub_tl ?_)))); (case lo => assumption); (case hkn => assumption); (case hkb => assumption); (case ht => first | assumption | exact Thr.whole _ 0 (by assumption) (by assumption) | exact Thr.half 0); (case h0 => omega); (case h1 => omega); (case hd => ktr_room); (case hu => ktr_units)); all_goals (first | (intro D' us' n' h' tk' hi' F' N' off') | (intro hrs' h' tk' F' N'))) | fail "no")
local macro_rules | `(tactic| walk_at "setItem ref int") => `(tactic| (k_here; k_dflt (refine' x_set_q ?F ?N ?U ?W ?P ?C ?O ?m1 ?a0 ?a5 ?hD ?_; (case F => k_asm); (case N => k_asm); (case U => k_updF); (case W => assumption); (case P => assumption); (case C => assumption); (case O => assumption); (case m1 => k_mem); (case a0 => assumption); (case a5 => assumption); (case hD => exact ⟨by k_ne, by k_ne, by k_ne, by k_ne, by k_ne, by k_ne, by k_ne⟩); k_whole); intro h' oR' F' N' W' C' O'; have hd9' := Lw.d W'; have hq9' := at_putT0a W'; (try dsimp only at N')))
local macro_rules | `(tactic| walk_at "setItem ref int") => `(tactic| (k_here; k_dflt (refine' s_set2 ?B ?F ?X ?N ?hs ?TP ?hk ?D ?O ?lo ?C ?W ?ht ?h0 ?h1 ?a0 ?a5 ?hv ?hd ?hu ?n0 ?n1 ?old ?new; (case B => k_asm); (case F => k_asm); (case X => k_asm); (case N => k_asm); (case TP => k_asm); (case hk => exact rfl); (case D => assumption); (case O => assumption); (case lo => assumption); (case C => assumption); (case W => assumption); (case hs => ((repeat (refine sub_cons (by k_mem) ?_)); (repeat (first | exact sub_id | refine sub_tl ?_)))); (case ht => assumption); (case h0 => omega); (case h1 => omega); (case a0 => assumption); (case a5 => assumption); (case hv => first | exact .inl rfl | exact .inr ⟨_, _, rfl⟩); (case hd => ktr_room); (case hu => ktr_units); (case n0 => omega); (case n1 => omega)); (case' old => (intro hin' rs1' rs2' oD' T' tn' h' tk' hke' hup' hkn' hkb' hsq' C' hkeep' W' O' F' N')); (case' new => (intro hin' rs1' rs2' oD' T' tn' h' tk' hke' hup' hkn' hkb' hsq' C' hkeep' W' O' F' N'))))
local macro_rules | `(tactic| walk_at "isTrue BoolOp") => `(tactic| (k_here; k_dflt (refine' tailB (qs := []) ?B ?F ?X ?N ?hs ?TP ?D ?lo ?C ?hi ?mc ?me ?_; (case B => k_asm); (case F => k_asm); (case X => k_asm); (case N => k_asm); (case TP => k_asm); (case D => assumption); (case me => first | exact rfl | assumption); (case mc => first | exact rfl | assumption); (case lo => assumption); (case C => assumption); (case hs => ((repeat (refine sub_cons (by k_mem) ?_)); (repeat (first | exact sub_id | refine sub_tl ?_)))); (case hi => first | assumption | exact ints_eqT0a (by assumption) (by assumption)); k_whole); intro h' tk' F' N'))
local macro_rules | `(tactic| walk_at "setItem ref") => `(tactic| (k_here; k_dflt (refine' x_set_q ?F ?N ?U ?W ?P ?C ?O ?m1 ?a0 ?a5 ?hD ?_; (case F => k_asm); (case N => k_asm); (case U => k_updF); (case W => assumption); (case P => assumption); (case C => assumption); (case O => assumption); (case m1 => k_mem); (case a0 => assumption); (case a5 => assumption); (case hD => exact ⟨by k_ne, by k_ne, by k_ne, by k_ne, by k_ne, by k_ne, by k_ne⟩); k_whole); intro h' oR' F' N' W' C' O'; have hd9' := Lw.d W'; have hq9' := at_putT0a W'; (try dsimp only at N')))
local macro_rules | `(tactic| walk_at "setItem ref") => `(tactic| (k_here; k_dflt (refine' s_set2 ?B ?F ?X ?N ?hs ?TP ?hk ?D ?O ?lo ?C ?W ?ht ?h0 ?h1 ?a0 ?a5 ?hv ?hd ?hu ?n0 ?n1 ?old ?new; (case B => k_asm); (case F => k_asm); (case X => k_asm); (case N => k_asm); (case TP => k_asm); (case hk => exact rfl); (case D => assumption); (case O => assumption); (case lo => assumption); (case C => assumption); (case W => assumption); (case hs => ((repeat (refine sub_cons (by k_mem) ?_)); (repeat (first | exact sub_id | refine sub_tl ?_)))); (case ht => assumption); (case h0 => omega); (case h1 => omega); (case a0 => assumption); (case a5 => assumption); (case hv => first | exact .inl rfl | exact .inr ⟨_, _, rfl⟩); (case hd => ktr_room); (case hu => ktr_units); (case n0 => omega); (case n1 => omega)); (case' old => (intro hin' rs1' rs2' oD' T' tn' h' tk' hke' hup' hkn' hkb' hsq' C' hkeep' W' O' F' N')); (case' new => (intro hin' rs1' rs2' oD' T' tn' h' tk' hke' hup' hkn' hkb' hsq' C' hkeep' W' O' F' N'))))

theorem sub_atT0a {T T1 : List (Addr × Obj)} {p : Addr × Obj} (h : ∀ p ∈ T, p ∈ T1) (hp : p ∈ T) : p ∈ T1 := h p hp
set_option maxHeartbeats 2000000 in
theorem kind0a {prog : Program} {w : World} {mean : ExcName → Option Value} {mg mb : Str → Option Value} {h₀ : Heap} {L fa I l : Addr} {oI : Obj} {cdv : Value} {m : Str → Option Value} {s : Shared} {Q : Flow → Shared → Prop} {E : Value → Shared → Prop}
    {T : List (Addr × Obj)} {c cd dD k kd rd e : Addr} {n room num den kv key more : Int} {tn th tc ti t1 t2 t3 t4 tkk tke tmo : Tok} {thr : Value} {held : Bool} {oD oR oC : Obj} {vs : List Value} {ne : Nat} {rs : List Row} {qs : List (Int × Value)} {i : Nat}
    (B : Below callerA h₀ [] h₀) (F : Fr h₀ L s.heap m) (X : (Mine.hd.heap_39 w.params).In h₀)
    (N : News h₀ L s.heap ((c, lru cd dD k n tn (.int room tc) thr) :: (cd, dictOf [] 0) :: (dD, oD) :: (k, instObj 46 kd) :: (kd, lockD w.params th held) :: (rd, oR) :: (e, listOf (List.toArray vs) ne) :: (L + 1, oC) :: T))
    (TP : Top Mine.hd.view_39 (looseW Mine.hd.view_39 [Str.ofString "itemgetter", Str.ofString "LRUCache"]) mean mg mb h₀) (D : Dist c cd dD k kd rd (L + 1)) (O : Offs T c cd dD k kd rd (L + 1)) (lo : (dD == sysModules) = false) (lo2 : (rd == sysModules) = false)
    (C : Cac prog w rs oD T e n) (W : Lw prog w rs qs oR T) (hi : IntsAre vs (rs.map (·.k))) (ht : Thr thr num den) (hn0 : 0 ≤ n) (hn1 : n ≤ (i : Int)) (hi4 : (i : Int) ≤ 39) (h0 : 0 ≤ room) (h1 : room ≤ 4)
    (hIT : (I, oI) ∈ T) (hIc : oI.cls ≠ .type "list")
    (hoc : oC.data = .cell (some (.int key tke))) (hk0 : 0 ≤ key) (hk5 : key ≤ 5)
    (m1 : m (Str.ofString "script") = some (.ref l)) (m2 : m (Str.ofString "room") = some (.int room t1)) (m3 : m (Str.ofString "num") = some (.int num t2)) (m4 : m (Str.ofString "den") = some (.int den t3)) (m5 : m (Str.ofString "c") = some (.ref c)) (m6 : m (Str.ofString "lock") = some (.ref k))
    (m7 : m (Str.ofString "entry") = some (.ref e)) (m8 : m (Str.ofString "rows") = some (.ref rd)) (m9 : m (Str.ofString "counter") = some (.int n t4)) (m10 : m (Str.ofString "held") = some (.bool held))
    (m11 : m (Str.ofString "i") = some (.int (0 + (i : Int)) ti)) (m12 : m (Str.ofString "kind") = some (.int kv tkk)) (m13 : m (Str.ofString "more") = some (.int more tmo))
    (fin : ∀ m' h' tk', StX prog w h₀ L l c cd dD k kd rd th I oI ((i : Int) + 1) h' m' → Q .next { s with heap := h', toks := tk' })
    (hK : kv = 0) (hH : held = true) : wpAny (model prog w) (callerA.deeper (envOfC (Str.ofString "law") lawScope L fa cdv)) (exec turnIf (envOfC (Str.ofString "law") lawScope L fa cdv)) Q E s := by
  subst hK
  subst hH
  obtain ⟨d12, d13, d14, d15, d16, d17, d23, d24, d25, d26, d27, d34, d35, d36, d37, d45, d46, d47, d56, d57, d67⟩ := id D
  have xe1 : @Ne Nat e c := news_ne N (.tail _ (.tail _ (.tail _ (.tail _ (.tail _ (.tail _ (.head _))))))) (.head _) (by intro h; cases h)
  have xe2 : @Ne Nat e cd := news_ne N (.tail _ (.tail _ (.tail _ (.tail _ (.tail _ (.tail _ (.head _))))))) (.tail _ (.head _)) (fun e => absurd (Value.type.inj e) (by decide))
  have xe3 : @Ne Nat e dD := news_ne N (.tail _ (.tail _ (.tail _ (.tail _ (.tail _ (.tail _ (.head _))))))) (.tail _ (.tail _ (.head _))) (by show Value.type "list" ≠ oD.cls; rw [dict_cls C.d]; exact fun e => absurd (Value.type.inj e) (by decide))
  have xe4 : @Ne Nat e k := news_ne N (.tail _ (.tail _ (.tail _ (.tail _ (.tail _ (.tail _ (.head _))))))) (.tail _ (.tail _ (.tail _ (.head _)))) (by intro h; cases h)
  have xe5 : @Ne Nat e kd := news_ne N (.tail _ (.tail _ (.tail _ (.tail _ (.tail _ (.tail _ (.head _))))))) (.tail _ (.tail _ (.tail _ (.tail _ (.head _))))) (fun e => absurd (Value.type.inj e) (by decide))
  have xe6 : @Ne Nat e rd := news_ne N (.tail _ (.tail _ (.tail _ (.tail _ (.tail _ (.tail _ (.head _))))))) (.tail _ (.tail _ (.tail _ (.tail _ (.tail _ (.head _)))))) (by show Value.type "list" ≠ oR.cls; rw [dict_cls W.d]; exact fun e => absurd (Value.type.inj e) (by decide))
  have xe7 : @Ne Nat e (L + 1) := news_cell N (.tail _ (.tail _ (.tail _ (.tail _ (.tail _ (.tail _ (.head _))))))) (.tail _ (.tail _ (.tail _ (.tail _ (.tail _ (.tail _ (.tail _ (.head _)))))))) hoc
  conv in (occs := *) lawScope => all_goals whnf
  conv in (occs := *) turnIf => all_goals whnf
  have hDR := W.d

  have hz6 : (rs.map (·.k)).length ≤ 1000 := by have := rows_six C.kn C.kb; simp; omega
  k_steps
  all_goals (try (have hq9 := sqz_trueT0a (by assumption); subst hq9))
  all_goals (try (exfalso; omega; done))
  all_goals (refine' fin _ _ _ (StX.intro (StF.mk ?F ?N ?O ?C ?W ?hi ?ht ?n0 ?n1 ?h0 ?h1 ?hoc ?m1 ?m2 ?m3 ?m4 ?m5 ?m6 ?m7 ?m8 ?m9 ?m10) ?b); (case F => k_asm); (case m1 => first | exact rfl | assumption); (case m2 => first | exact rfl | assumption); (case m3 => first | exact rfl | assumption); (case m4 => first | exact rfl | assumption); (case m5 => first | exact rfl | assumption); (case m6 => first | exact rfl | assumption); (case m7 => first | exact rfl | assumption); (case m8 => first | exact rfl | assumption); (case m9 => first | exact rfl | assumption); (case m10 => first | exact rfl | assumption); (case O => assumption); (case C => first | assumption | exact cac_up (by assumption) (by omega) | exact cac_entry (by assumption) (by k_all)); (case W => first | assumption | exact lw_sub (by assumption) (sqz_sub (by assumption)) | exact lw_lessT0a (by assumption)); (case N => (refine news_sub (by k_asm) ?_; ((repeat (refine sub_cons (by k_mem) ?_)); (repeat (first | exact sub_id | refine sub_tl ?_))))); (case hi => first | assumption | exact ints_eqT0a (by assumption) (by assumption)); (case ht => first | assumption | exact Thr.whole _ _ (by assumption) (by assumption) | exact Thr.half _); (case n0 => omega); (case n1 => omega); (case h0 => omega); (case h1 => omega); (case hoc => assumption); (case b => first | assumption | exact keep_atT0a (by assumption) (by assumption) (by assumption) | exact List.Mem.tail _ (by assumption) | exact List.Mem.tail _ (keep_atT0a (by assumption) (by assumption) (by assumption)) | exact List.Mem.tail _ (sub_atT0a (by assumption) (by assumption))))

end Mine
end
section
namespace Mine
local macro_rules | `(tactic| walk_at "none of mine") => `(tactic| fail "none")
theorem fillT0b : True := by
  w_top off
  trivial


local macro_rules | `(tactic| k_room) => `(tactic| ktr_room)
local macro_rules | `(tactic| k_units) => `(tactic| ktr_units)
local macro_rules | `(tactic| ktr_enter) => `(tactic| (refine' code_def ?k1 ?k2 ?k3 ?k4 ?k5 ?kA ?kF ?kK ?k6 ?k7 ?k8 ?k9 ?kB ?_ ?c2 ?c3 ?c4 ?c5; (case kA => exact rfl); (case kF => exact rfl); (case kK => first | assumption | exact rfl); (case k1 => k_asm); (case k2 => k_asm); (case k3 => k_asm); (case k4 => k_asm); (case k5 => k_asm); (case k6 => k_is); (case k7 => k_is); (case k8 => ktr_room); (case k9 => first | exact BindsTo.of_eq rfl | exact binds_K (by k_in) rfl (by k_is) rfl rfl rfl | fail "ktr_enter: no rule for these arguments"); (case c5 => decide); (case kB => exact locs rfl); (case c2 => exact rfl); (case c3 => exact rfl); (case c4 => exact rfl); k_whole; intro g' L' h' FG' F' N' B' X' T'; (try dsimp only); (try k_fold)))
local macro_rules | `(tactic| k_lt $h:ident) => `(tactic| (replace $h := allLt_of $h; simp only [AllLt, and_true] at $h:ident; (try ((fail_if_success (rename AllLt _ _ => l6)); have l7 : AllLt _ _ := (by first | exact ($h).2 | exact ($h).2.2 | exact ($h).2.2.2 | exact ($h).2.2.2.2 | exact ($h).2.2.2.2.2 | exact ($h).2.2.2.2.2.2 | exact ($h).2.2.2.2.2.2.2 | exact ($h).2.2.2.2.2.2.2.2 | exact ($h).2.2.2.2.2.2.2.2.2 | exact ($h).2.2.2.2.2.2.2.2.2.2 | exact ($h).2.2.2.2.2.2.2.2.2.2.2 | exact ($h).2.2.2.2.2.2.2.2.2.2.2.2)))))
local macro_rules | `(tactic| k_all) => `(tactic| (refine' allLt_ne ?h6 ?h7; (case h6 => assumption); (case h7 => ((try dsimp only); omega))))
local macro_rules | `(tactic| k_all) => `(tactic| with_reducible assumption)
local macro_rules | `(tactic| walk_at "call builtin:len") => `(tactic| (k_here; (with_reducible show wpAny _ _ (call (Value.builtin "len") [Value.ref _]) _ _ _); k_dflt (refine' kda_len (knd := PySem.intKind _ _) ?N ?m ?d ?lo ?f ?_; (case N => k_asm); (case m => k_mem); (case d => k_asm); (case lo => k_asm); (case f => assumption); k_whole)))
local macro_rules | `(tactic| walk_at "getMethod ref") => `(tactic| (k_here; (with_reducible show wpAny _ _ (getMethod (Value.ref _) (Str.ofString "get") _) _ _ _); k_dflt (refine' kdg_method (knd := PySem.intKind _ _) ?N ?m ?d ?_; (case N => k_asm); (case m => k_mem); (case d => k_asm); k_whole)))
local macro_rules | `(tactic| walk_at "call builtin:dict.get") => `(tactic| (k_here; (with_reducible show wpAny _ _ (call (Value.builtin "dict.get") [Value.ref _, Value.int _ _]) _ _ _); k_dflt (refine' kdg_get1 (knd := PySem.intKind _ _) ?N ?m ?d ?lo (intKind_is _ _ _ _) _ ?hl ?_; (case N => k_asm); (case m => k_mem); (case d => k_asm); (case lo => k_asm); (case hl => assumption); k_whole; (try dsimp only [Option.getD]))))
local macro_rules | `(tactic| walk_at "subscriptTail") => `(tactic| (k_here; (with_reducible show wpAny _ _ (subscriptTail _ _ (Value.ref _) (Value.int _ _)) _ _ _); k_dflt (refine' kda_item (knd := PySem.intKind _ _) ?N ?m ?d (intKind_is _ _ _ _) ?hl ?_; (case N => k_asm); (case m => k_mem); (case d => k_asm); (case hl => assumption); k_whole)))
theorem x_get_missT0b {prog : Program} {w : World} {A : Around} {E : Value → Shared → Prop} {s : Shared} {h₀ : Heap} {L d : Addr} {news : List (Addr × Obj)} {o : Obj} {kvs : List (Int × Value)} {k : Int} {t : Tok} {Q : Value → Shared → Prop}
    (N : News h₀ L s.heap news) (hp : (d, o) ∈ news) (hd : o.IsDictOf (PySem.intKind prog w) kvs) (lo : (d == sysModules) = false) (hh : A.handled = none) (hl : valueAt kvs k = none)
    (h : ∀ h' e, Heap.NewExc s.heap h' e "KeyError" → E (.ref e) { s with heap := h', toks := s.toks + 1 }) : wpAny (model prog w) A (getItem (.ref d) (.int k t)) Q E s :=
  wpAny_getItem_missing_of (intKind_is _ _ _ _) lo hh (kda_dict N hp hd).mapOf hl h
local macro_rules | `(tactic| walk_at "getItem ref int") => `(tactic| (k_here; k_dflt (refine' x_get_missT0b ?N ?m ?d ?lo ?hh ?hl ?_; (case N => k_asm); (case m => k_mem); (case d => k_asm); (case lo => k_asm); (case hh => exact rfl); (case hl => assumption); k_whole); intro h' e' x'))
local macro_rules | `(tactic| walk_at "getItem ref int") => `(tactic| (k_here; k_dflt (refine' kdt_getItem (knd := PySem.intKind _ _) ?N ?m ?d (intKind_is _ _ _ _) ?hl ?_; (case N => k_asm); (case m => k_mem); (case d => k_asm); (case hl => assumption); k_whole)))
local macro_rules | `(tactic| walk_at "delItem ref int") => `(tactic| (k_here; k_dflt (refine' x_del_miss ?N ?m ?d ?lo ?hh ?hl ?_; (case N => k_asm); (case m => k_mem); (case d => k_asm); (case lo => k_asm); (case hh => exact rfl); (case hl => assumption); k_whole); intro h' e' x'))
local macro_rules | `(tactic| walk_at "delItem ref int") => `(tactic| (k_here; k_dflt (refine' kob_del (knd := PySem.intKind _ _) ?F ?N ?U ?d (intKind_is _ _ _ _) ?l ?z ?_; (case F => k_asm); (case N => k_asm); (case U => k_updF); (case d => k_asm); (case l => assumption); (case z => first | assumption | (rw [sizeLine_eq]; assumption)); k_whole); intro h' o' F' N' hd'; (try dsimp only at N')))
theorem x_del_ownT0b {M : Model} {A : Around} {E : Value → Shared → Prop} {s : Shared} {K : Frag} {x C L f : Addr} {h₀ : Heap} {m : Str → Option Value} {ox : Obj} {od : Option Obj} {i : Value} {Q : Unit → Shared → Prop}
    (F : Fr h₀ L s.heap m) (X₀ : K.In h₀) (I : InstAt s.heap x ox C od) (hq : noSeq K C = true) (hs : findIn K (.ref C) "__delitem__" = some (some (.ref f))) (hf : isFn K (.ref f) = true)
    (h : wpAny M A (call (.ref f) [.ref x, i]) (fun _ s' => Q () s') E s) : wpAny M A (delItem (.ref x) i) Q E s := by
  have X := X₀.keeps F.keep
  unfold delItem sequenceKey
  refine wpAny_holding (wpAny_bind (wpAny_bind (I.type.here ?_)))
  refine wpAny_bind ((anyM_none X hq).here ?_)
  rw [if_pos (show (!false) = true from rfl)]
  exact wpAny_pure (wpAny_bind (special_fn X I hs (beq_iff_eq.mp hf) (wpAny_mono h (fun _ _ z => wpAny_pure z) fun _ _ z => z)))
local macro_rules | `(tactic| walk_at "delItem ref int") => `(tactic| (k_here; k_dflt (refine' x_del_ownT0b ?k1 ?k2 ?k3 ?k4 ?k5 ?k6 ?_; (case k1 => k_asm); (case k2 => k_asm); (case k3 => k_inst); (case k4 => k_is); (case k5 => k_is); (case k6 => k_is); k_whole)))
local macro_rules | `(tactic| walk_at "WhlIf") => `(tactic| (first | (refine WhlIf.yes (decide_eq_true (by omega)) ?_) | (refine WhlIf.no (decide_eq_false (by omega)) ?_)))
local macro_rules | `(tactic| walk_at "eval Dict nil nil") => `(tactic| (k_here; k_dflt (refine' newDict_K ?k1 ?k2 ?k3 ?_; (case k1 => k_asm); (case k2 => k_asm); (case k3 => first | exact Top.nolimit (by k_asm) | exact TopRead.nolimit (by k_asm)); k_whole); intro d' h' o' F' N' l1 lo' hs' fs' hi' fi'; (try k_lt l1)))
theorem add_genT0b {prog : Program} {w : World} {A : Around} {E : Value → Shared → Prop} {s : Shared} {a b : Int} {ta tb : Tok} {Q : Value → Shared → Prop} (h : ∀ t tk, Q (.int (a + b) t) { s with toks := tk }) : wpAny (model prog w) A (binaryOp .Add (.int a ta) (.int b tb)) Q E s := add_int (h _ _)
local macro_rules | `(tactic| walk_at "binaryOp Add int int") => `(tactic| (k_here; with_reducible (refine add_genT0b ?_); intro t' tk'))


theorem lw_lessT0b {prog : Program} {w : World} {rs : List Row} {ks : List Int} {qs : List (Int × Value)} {oR : Obj} {T : List (Addr × Obj)} (W : Lw prog w rs qs oR T) : Lw prog w (less rs ks) qs oR T := lw_sub W fun _ hx => (List.mem_filter.mp hx).1
theorem keep_atT0b {T T' : List (Addr × Obj)} {p : Addr × Obj} (h : ∀ p ∈ T, p.2.cls ≠ .type "list" → p ∈ T') (hp : p ∈ T) (hc : p.2.cls ≠ .type "list") : p ∈ T' := h p hp hc
theorem at_putT0b {prog : Program} {w : World} {rs : List Row} {qs : List (Int × Value)} {key : Int} {v : Value} {oR : Obj} {T : List (Addr × Obj)} (_ : Lw prog w rs (stored qs key v) oR T) : valueAt (stored qs key v) key = some v := by rw [at_stored, if_pos rfl]
theorem off8T0b {p1 p2 p3 p4 p5 p6 p7 p8 P : Prop} (h : p1 ∧ p2 ∧ p3 ∧ p4 ∧ p5 ∧ p6 ∧ p7 ∧ p8 ∧ P) : P := h.2.2.2.2.2.2.2.2
theorem off9T0b {D : Addr} : ∀ {T : List (Addr × Obj)}, PyProof.Rows.LCg.Off1 D T → ∀ p ∈ T, p.1 ≠ D
  | [], _, _, h => nomatch h
  | q :: r, h, p, hp => by
    rcases List.mem_cons.mp hp with rfl | hp
    · exact h.1
    · exact off9T0b h.2 p hp
theorem bne_decT0b (a b : Int) : (a != b) = decide (a ≠ b) := by by_cases h : a = b <;> simp [h]
local macro_rules | `(tactic| walk_at "Eq") => `(tactic| exact bne_decT0b _ _)
theorem ne_ltT0b {T news : List (Addr × Obj)} {D : Addr} (l1 : ∀ p ∈ news, p.1 < D) (hs : ∀ p ∈ T, p ∈ news) : ∀ p ∈ T, p.1 ≠ D := fun p hp => Nat.ne_of_lt (l1 p (hs p hp))
theorem ne_atT0b {T news : List (Addr × Obj)} {D : Addr} (l1 : ∀ p ∈ news, p.1 ≠ D) (hs : ∀ p ∈ T, p ∈ news) : ∀ p ∈ T, p.1 ≠ D := fun p hp => l1 p (hs p hp)
theorem sqz_trueT0b {rs rs2 : List Row} {a b c : Int} (h : Sqz true rs rs2 a b c) : rs2 = rs := by
  rcases h with ⟨_, h⟩ | ⟨h, _⟩
  · exact h
  · cases h
theorem less_oneT0b {rs : List Row} {key : Int} (_ : key ∈ rs.map (·.k)) : (less rs [key]).map (·.k) = (rs.filter fun r => decide (r.k ≠ key)).map (·.k) := by
  have : less rs [key] = rs.filter fun r => decide (r.k ≠ key) := List.filter_congr fun r _ => by simp
  rw [this]
theorem less_noneT0b {rs : List Row} {key : Int} (h : key ∉ rs.map (·.k)) : rs.map (·.k) = (rs.filter fun r => decide (r.k ≠ key)).map (·.k) := by
  have : rs.filter (fun r => decide (r.k ≠ key)) = rs := List.filter_eq_self.mpr fun r hr => decide_eq_true fun e => h (e ▸ List.mem_map_of_mem hr)
  rw [this]
local macro_rules | `(tactic| k_all) => `(tactic| first | exact ne_atT0b (by assumption) (by ((repeat (refine sub_cons (by k_mem) ?_)); (repeat (first | exact sub_id | refine sub_tl ?_)))) | exact ne_ltT0b (by assumption) (by ((repeat (refine sub_cons (by k_mem) ?_)); (repeat (first | exact sub_id | refine sub_tl ?_)))))
local macro_rules | `(tactic| walk_at "binaryOp Add ref ref") => `(tactic| (k_here; (with_reducible show wpAny _ _ (binaryOp _ (Value.ref _) (Value.ref _)) _ _ _); k_dflt (refine' x_add_one ?F ?N ?m1 ?m2 ?i1 ?hz ?_; (case F => k_asm); (case N => k_asm); (case m1 => k_mem); (case m2 => k_mem); (case i1 => with_reducible assumption); (case hz => assumption); k_whole); intro D' us' h' F' N' l1 hi'; have l9' := l1; (try k_lt l1)))
local macro_rules | `(tactic| walk_at "compareOp In int ref") => `(tactic| (k_here; (with_reducible show wpAny _ _ (compareOp CmpOp.In (Value.int _ _) (Value.ref _)) _ _ _); k_dflt (first
  | (refine' x_in_yes ?N ?m1 ?i1 ?hin ?_; (case N => k_asm); (case m1 => k_mem); (case i1 => with_reducible assumption); (case hin => assumption); k_whole)
  | (refine' x_in_no ?N ?m1 ?i1 ?hin ?_; (case N => k_asm); (case m1 => k_mem); (case i1 => with_reducible assumption); (case hin => assumption); k_whole))))
local macro_rules | `(tactic| walk_at "compareOp NotIn int ref") => `(tactic| (k_here; (with_reducible show wpAny _ _ (compareOp CmpOp.NotIn (Value.int _ _) (Value.ref _)) _ _ _); k_dflt (first
  | (refine' x_notin_yes ?N ?m1 ?i1 ?hin ?_; (case N => k_asm); (case m1 => k_mem); (case i1 => with_reducible assumption); (case hin => assumption); k_whole)
  | (refine' x_notin_no ?N ?m1 ?i1 ?hin ?_; (case N => k_asm); (case m1 => k_mem); (case i1 => with_reducible assumption); (case hin => assumption); k_whole))))
local macro_rules | `(tactic| k_ne) => `(tactic| (refine neN ?_; (try dsimp only); first | assumption | (refine Ne.symm ?_; assumption) | omega))
local macro_rules | `(tactic| walk_at "CompSrcT") => `(tactic| (k_here; k_dflt (refine' comp_src_ne ?hdc _ ?hh ?F ?N ?m ?i ?z ?test ?turn ?fin; (case hdc => first | with_reducible assumption | assumption); (case hh => rfl); (case F => k_asm); (case N => k_asm); (case m => k_mem); (case i => with_reducible assumption); (case z => assumption)); (case' test => (intro g' r' hr' t' I' oI' C' oC' D' m2' h' tk' E' ys' hC' hx' F' N')); (case' turn => (intro g' r' hr' t' I' oI' C' oC' D' m2' h' tk' E' ys' hC' hx' F' N')); (case' fin => (intro g' us' hi'))))
local macro_rules | `(tactic| walk_at "Keep") => `(tactic| exact Keep.intro (by k_asm) (by k_asm))
local macro_rules | `(tactic| walk_at "exec Assign cons ListComp") => `(tactic| (k_here; lct_look; k_dflt (refine LCt.Assign_ListComp_T (F₀ := by k_asm) (by rfl) (by with_unfolding_all rfl) (by with_unfolding_all rfl) (by decide) (by rfl) (by decide) (by rfl) (by rfl) (by rfl) ?_)))

theorem ints_eqT0b {vs : List Value} {a b : List Int} (e : a = b) (h : IntsAre vs b) : IntsAre vs a := e ▸ h
theorem sq_ofT0b {rs rs2 : List Row} {a b c : Int} (h : Sqz false rs rs2 a b c) : Sq rs rs2 a b c := by
  rcases h with ⟨h, _⟩ | ⟨_, h⟩
  · cases h
  · exact h
local macro_rules | `(tactic| k_mem) => `(tactic| assumption)
local macro_rules | `(tactic| walk_at "eval Name") => `(tactic| (k_here; k_dflt (refine' nameX_L ?k1 ?k2 ?_ ?a ?b; (case a => rfl); (case b => rfl); (case k1 => k_asm); (case k2 => assumption); k_whole)))
local macro_rules | `(tactic| k_all) => `(tactic| first | exact Offs.o1 (by assumption) | exact Offs.o2 (by assumption) | exact Offs.o3 (by assumption) | exact Offs.o4 (by assumption) | exact Offs.o5 (by assumption) | exact Offs.o6 (by assumption) | exact Offs.o7 (by assumption))
local macro_rules | `(tactic| walk_at "call ref") => `(tactic| (k_here; (with_reducible show wpAny _ _ (call (Value.ref 116) _) _ _ _); k_dflt (refine' s_inc (rs := []) (qs := []) ?B ?F ?X ?N ?hs ?TP ?hk ?D ?O ?hd ?hu ?n0 ?n1 ?_; (case B => k_asm); (case F => k_asm); (case X => k_asm); (case N => k_asm); (case TP => k_asm); (case hk => exact rfl); (case D => assumption); (case O => assumption); (case hs => ((repeat (refine sub_cons (by k_mem) ?_)); (repeat (first | exact sub_id | refine sub_tl ?_)))); (case hd => ktr_room); (case hu => ktr_units); (case n0 => omega); (case n1 => omega); k_whole); intro t' h' tk' F' N'))
local macro_rules | `(tactic| walk_at "call ref") => `(tactic| (k_here; (with_reducible show wpAny _ _ (call (Value.ref 124) _) _ _ _); k_dflt (refine' s_get ?B ?F ?X ?N ?hs ?TP ?hk ?D ?O ?lo ?C ?W ?hd ?hu ?n0 ?n1 ?hit ?miss; (case B => k_asm); (case F => k_asm); (case X => k_asm); (case N => k_asm); (case TP => k_asm); (case hk => exact rfl); (case D => assumption); (case O => assumption); (case lo => assumption); (case C => assumption); (case W => assumption); (case hs => ((repeat (refine sub_cons (by k_mem) ?_)); (repeat (first | exact sub_id | refine sub_tl ?_)))); (case hd => ktr_room); (case hu => ktr_units); (case n0 => omega); (case n1 => omega)); (case' hit => (intro hin' v' st' qa' t1' n1' rs' T' tn' h' tk' hv' hq' hm' hke' hup' C' W' hkeep' O' F' N'; rcases hv' with hv' | ⟨j', tj', hv'⟩ <;> subst hv')); (case' miss => (intro hin' h' tk' F' N'))))
local macro_rules | `(tactic| walk_at "call ref") => `(tactic| (k_here; (with_reducible show wpAny _ _ (call (Value.ref 203) _) _ _ _); k_dflt (refine' s_read ?B ?F ?X ?N ?hs ?TP ?hk ?D ?O ?lo ?C ?W ?hd ?hu ?n0 ?n1 ?hit ?miss; (case B => k_asm); (case F => k_asm); (case X => k_asm); (case N => k_asm); (case TP => k_asm); (case hk => exact rfl); (case D => assumption); (case O => assumption); (case lo => assumption); (case C => assumption); (case W => assumption); (case hs => ((repeat (refine sub_cons (by k_mem) ?_)); (repeat (first | exact sub_id | refine sub_tl ?_)))); (case hd => ktr_room); (case hu => ktr_units); (case n0 => omega); (case n1 => omega)); (case' hit => (intro hin' v' st' qa' t1' n1' rs' T' tn' h' tk' hv' hq' hm' hke' hup' C' W' hkeep' O' F' N'; rcases hv' with hv' | ⟨j', tj', hv'⟩ <;> subst hv')); (case' miss => (intro hin' h' tk' F' N' t'))))
local macro_rules | `(tactic| walk_at "call ref") => `(tactic| (k_here; (with_reducible show wpAny _ _ (call (Value.ref 210) _) _ _ _); k_dflt (refine' s_take (qs := []) ?B ?F ?X ?N ?hs ?TP ?hk ?D ?O ?lo ?C ?hd ?hu ?hit ?miss; (case B => k_asm); (case F => k_asm); (case X => k_asm); (case N => k_asm); (case TP => k_asm); (case hk => exact rfl); (case D => assumption); (case O => assumption); (case lo => assumption); (case C => assumption); (case hs => ((repeat (refine sub_cons (by k_mem) ?_)); (repeat (first | exact sub_id | refine sub_tl ?_)))); (case hd => ktr_room); (case hu => ktr_units)); (case' hit => (intro hin' oD' h' tk' C' F' N'; have hle' := less_oneT0b hin')); (case' miss => (intro hin' h' tk' F' N'; have hle' := less_noneT0b hin'))))
local macro_rules | `(tactic| walk_at "call ref") => `(tactic| (k_here; (with_reducible show wpAny _ _ (call (Value.ref 174) _) _ _ _); k_dflt (refine' s_man (qs := []) ?B ?F ?X ?N ?hs ?TP ?hk ?D ?O ?lo ?C ?ht ?h0 ?h1 ?hd ?hu ?_; (case B => k_asm); (case F => k_asm); (case X => k_asm); (case N => k_asm); (case TP => k_asm); (case hk => exact rfl); (case D => assumption); (case O => assumption); (case lo => assumption); (case C => assumption); (case hs => ((repeat (refine sub_cons (by k_mem) ?_)); (repeat (first | exact sub_id | refine sub_tl ?_)))); (case ht => first | assumption | exact Thr.whole _ _ (by assumption) (by assumption) | exact Thr.half _); (case h0 => omega); (case h1 => omega); (case hd => ktr_room); (case hu => ktr_units); k_whole); intro rs2' oD' h' tk' hsq' C' F' N'))
local macro_rules | `(tactic| walk_at "call ref") => `(tactic| first | (k_here; (with_reducible show wpAny _ _ (call (Value.ref 196) _) _ _ _); k_dflt (refine' s_kept ?B ?F ?X ?N ?TP ?hk ?m1 ?m2 ?hi ?W ?hT ?lo ?hkn ?hkb ?ht ?h0 ?h1 ?hsq ?hd ?hu ?_ ?_; (case B => k_asm); (case F => k_asm); (case X => k_asm); (case N => k_asm); (case TP => k_asm); (case hk => exact rfl); (case m1 => k_mem); (case m2 => k_mem); (case hsq => exact sq_ofT0b (by assumption)); (case W => assumption); (case hi => first | assumption | exact ints_eqT0b (by assumption) (by assumption)); (case hT => ((repeat (refine sub_cons (by k_mem) ?_)); (repeat (first | exact sub_id | refine sub_tl ?_)))); (case lo => assumption); (case hkn => assumption); (case hkb => assumption); (case ht => first | assumption | exact Thr.whole _ 0 (by assumption) (by assumption) | exact Thr.half 0); (case h0 => omega); (case h1 => omega); (case hd => ktr_room); (case hu => ktr_units)); all_goals (first | (intro D' us' n' h' tk' hi' F' N' off') | (intro hrs' h' tk' F' N'))) | fail "no")
local macro_rules | `(tactic| walk_at "setItem ref int") => `(tactic| (k_here; k_dflt (refine' x_set_q ?F ?N ?U ?W ?P ?C ?O ?m1 ?a0 ?a5 ?hD ?_; (case F => k_asm); (case N => k_asm); (case U => k_updF); (case W => assumption); (case P => assumption); (case C => assumption); (case O => assumption); (case m1 => k_mem); (case a0 => assumption); (case a5 => assumption); (case hD => exact ⟨by k_ne, by k_ne, by k_ne, by k_ne, by k_ne, by k_ne, by k_ne⟩); k_whole); intro h' oR' F' N' W' C' O'; have hd9' := Lw.d W'; have hq9' := at_putT0b W'; (try dsimp only at N')))
local macro_rules | `(tactic| walk_at "setItem ref int") => `(tactic| (k_here; k_dflt (refine' s_set2 ?B ?F ?X ?N ?hs ?TP ?hk ?D ?O ?lo ?C ?W ?ht ?h0 ?h1 ?a0 ?a5 ?hv ?hd ?hu ?n0 ?n1 ?old ?new; (case B => k_asm); (case F => k_asm); (case X => k_asm); (case N => k_asm); (case TP => k_asm); (case hk => exact rfl); (case D => assumption); (case O => assumption); (case lo => assumption); (case C => assumption); (case W => assumption); (case hs => ((repeat (refine sub_cons (by k_mem) ?_)); (repeat (first | exact sub_id | refine sub_tl ?_)))); (case ht => assumption); (case h0 => omega); (case h1 => omega); (case a0 => assumption); (case a5 => assumption); (case hv => first | exact .inl rfl | exact .inr ⟨_, _, rfl⟩); (case hd => ktr_room); (case hu => ktr_units); (case n0 => omega); (case n1 => omega)); (case' old => (intro hin' rs1' rs2' oD' T' tn' h' tk' hke' hup' hkn' hkb' hsq' C' hkeep' W' O' F' N')); (case' new => (intro hin' rs1' rs2' oD' T' tn' h' tk' hke' hup' hkn' hkb' hsq' C' hkeep' W' O' F' N'))))
local macro_rules | `(tactic| walk_at "isTrue BoolOp") => `(tactic| (k_here; k_dflt (refine' tailB (qs := []) ?B ?F ?X ?N ?hs ?TP ?D ?lo ?C ?hi ?mc ?me ?_; (case B => k_asm); (case F => k_asm); (case X => k_asm); (case N => k_asm); (case TP => k_asm); (case D => assumption); (case me => first | exact rfl | assumption); (case mc => first | exact rfl | assumption); (case lo => assumption); (case C => assumption); (case hs => ((repeat (refine sub_cons (by k_mem) ?_)); (repeat (first | exact sub_id | refine sub_tl ?_)))); (case hi => first | assumption | exact ints_eqT0b (by assumption) (by assumption)); k_whole); intro h' tk' F' N'))
local macro_rules | `(tactic| walk_at "setItem ref") => `(tactic| (k_here; k_dflt (refine' x_set_q ?F ?N ?U ?W ?P ?C ?O ?m1 ?a0 ?a5 ?hD ?_; (case F => k_asm); (case N => k_asm); (case U => k_updF); (case W => assumption); (case P => assumption); (case C => assumption); (case O => assumption); (case m1 => k_mem); (case a0 => assumption); (case a5 => assumption); (case hD => exact ⟨by k_ne, by k_ne, by k_ne, by k_ne, by k_ne, by k_ne, by k_ne⟩); k_whole); intro h' oR' F' N' W' C' O'; have hd9' := Lw.d W'; have hq9' := at_putT0b W'; (try dsimp only at N')))
local macro_rules | `(tactic| walk_at "setItem ref") => `(tactic| (k_here; k_dflt (refine' s_set2 ?B ?F ?X ?N ?hs ?TP ?hk ?D ?O ?lo ?C ?W ?ht ?h0 ?h1 ?a0 ?a5 ?hv ?hd ?hu ?n0 ?n1 ?old ?new; (case B => k_asm); (case F => k_asm); (case X => k_asm); (case N => k_asm); (case TP => k_asm); (case hk => exact rfl); (case D => assumption); (case O => assumption); (case lo => assumption); (case C => assumption); (case W => assumption); (case hs => ((repeat (refine sub_cons (by k_mem) ?_)); (repeat (first | exact sub_id | refine sub_tl ?_)))); (case ht => assumption); (case h0 => omega); (case h1 => omega); (case a0 => assumption); (case a5 => assumption); (case hv => first | exact .inl rfl | exact .inr ⟨_, _, rfl⟩); (case hd => ktr_room); (case hu => ktr_units); (case n0 => omega); (case n1 => omega)); (case' old => (intro hin' rs1' rs2' oD' T' tn' h' tk' hke' hup' hkn' hkb' hsq' C' hkeep' W' O' F' N')); (case' new => (intro hin' rs1' rs2' oD' T' tn' h' tk' hke' hup' hkn' hkb' hsq' C' hkeep' W' O' F' N'))))

theorem sub_atT0b {T T1 : List (Addr × Obj)} {p : Addr × Obj} (h : ∀ p ∈ T, p ∈ T1) (hp : p ∈ T) : p ∈ T1 := h p hp
set_option maxHeartbeats 2000000 in
theorem kind0b {prog : Program} {w : World} {mean : ExcName → Option Value} {mg mb : Str → Option Value} {h₀ : Heap} {L fa I l : Addr} {oI : Obj} {cdv : Value} {m : Str → Option Value} {s : Shared} {Q : Flow → Shared → Prop} {E : Value → Shared → Prop}
    {T : List (Addr × Obj)} {c cd dD k kd rd e : Addr} {n room num den kv key more : Int} {tn th tc ti t1 t2 t3 t4 tkk tke tmo : Tok} {thr : Value} {held : Bool} {oD oR oC : Obj} {vs : List Value} {ne : Nat} {rs : List Row} {qs : List (Int × Value)} {i : Nat}
    (B : Below callerA h₀ [] h₀) (F : Fr h₀ L s.heap m) (X : (Mine.hd.heap_39 w.params).In h₀)
    (N : News h₀ L s.heap ((c, lru cd dD k n tn (.int room tc) thr) :: (cd, dictOf [] 0) :: (dD, oD) :: (k, instObj 46 kd) :: (kd, lockD w.params th held) :: (rd, oR) :: (e, listOf (List.toArray vs) ne) :: (L + 1, oC) :: T))
    (TP : Top Mine.hd.view_39 (looseW Mine.hd.view_39 [Str.ofString "itemgetter", Str.ofString "LRUCache"]) mean mg mb h₀) (D : Dist c cd dD k kd rd (L + 1)) (O : Offs T c cd dD k kd rd (L + 1)) (lo : (dD == sysModules) = false) (lo2 : (rd == sysModules) = false)
    (C : Cac prog w rs oD T e n) (W : Lw prog w rs qs oR T) (hi : IntsAre vs (rs.map (·.k))) (ht : Thr thr num den) (hn0 : 0 ≤ n) (hn1 : n ≤ (i : Int)) (hi4 : (i : Int) ≤ 39) (h0 : 0 ≤ room) (h1 : room ≤ 4)
    (hIT : (I, oI) ∈ T) (hIc : oI.cls ≠ .type "list")
    (hoc : oC.data = .cell (some (.int key tke))) (hk0 : 0 ≤ key) (hk5 : key ≤ 5)
    (m1 : m (Str.ofString "script") = some (.ref l)) (m2 : m (Str.ofString "room") = some (.int room t1)) (m3 : m (Str.ofString "num") = some (.int num t2)) (m4 : m (Str.ofString "den") = some (.int den t3)) (m5 : m (Str.ofString "c") = some (.ref c)) (m6 : m (Str.ofString "lock") = some (.ref k))
    (m7 : m (Str.ofString "entry") = some (.ref e)) (m8 : m (Str.ofString "rows") = some (.ref rd)) (m9 : m (Str.ofString "counter") = some (.int n t4)) (m10 : m (Str.ofString "held") = some (.bool held))
    (m11 : m (Str.ofString "i") = some (.int (0 + (i : Int)) ti)) (m12 : m (Str.ofString "kind") = some (.int kv tkk)) (m13 : m (Str.ofString "more") = some (.int more tmo))
    (fin : ∀ m' h' tk', StX prog w h₀ L l c cd dD k kd rd th I oI ((i : Int) + 1) h' m' → Q .next { s with heap := h', toks := tk' })
    (hK : kv = 0) (hH : held = false) : wpAny (model prog w) (callerA.deeper (envOfC (Str.ofString "law") lawScope L fa cdv)) (exec turnIf (envOfC (Str.ofString "law") lawScope L fa cdv)) Q E s := by
  subst hK
  subst hH
  obtain ⟨d12, d13, d14, d15, d16, d17, d23, d24, d25, d26, d27, d34, d35, d36, d37, d45, d46, d47, d56, d57, d67⟩ := id D
  have xe1 : @Ne Nat e c := news_ne N (.tail _ (.tail _ (.tail _ (.tail _ (.tail _ (.tail _ (.head _))))))) (.head _) (by intro h; cases h)
  have xe2 : @Ne Nat e cd := news_ne N (.tail _ (.tail _ (.tail _ (.tail _ (.tail _ (.tail _ (.head _))))))) (.tail _ (.head _)) (fun e => absurd (Value.type.inj e) (by decide))
  have xe3 : @Ne Nat e dD := news_ne N (.tail _ (.tail _ (.tail _ (.tail _ (.tail _ (.tail _ (.head _))))))) (.tail _ (.tail _ (.head _))) (by show Value.type "list" ≠ oD.cls; rw [dict_cls C.d]; exact fun e => absurd (Value.type.inj e) (by decide))
  have xe4 : @Ne Nat e k := news_ne N (.tail _ (.tail _ (.tail _ (.tail _ (.tail _ (.tail _ (.head _))))))) (.tail _ (.tail _ (.tail _ (.head _)))) (by intro h; cases h)
  have xe5 : @Ne Nat e kd := news_ne N (.tail _ (.tail _ (.tail _ (.tail _ (.tail _ (.tail _ (.head _))))))) (.tail _ (.tail _ (.tail _ (.tail _ (.head _))))) (fun e => absurd (Value.type.inj e) (by decide))
  have xe6 : @Ne Nat e rd := news_ne N (.tail _ (.tail _ (.tail _ (.tail _ (.tail _ (.tail _ (.head _))))))) (.tail _ (.tail _ (.tail _ (.tail _ (.tail _ (.head _)))))) (by show Value.type "list" ≠ oR.cls; rw [dict_cls W.d]; exact fun e => absurd (Value.type.inj e) (by decide))
  have xe7 : @Ne Nat e (L + 1) := news_cell N (.tail _ (.tail _ (.tail _ (.tail _ (.tail _ (.tail _ (.head _))))))) (.tail _ (.tail _ (.tail _ (.tail _ (.tail _ (.tail _ (.tail _ (.head _)))))))) hoc
  conv in (occs := *) lawScope => all_goals whnf
  conv in (occs := *) turnIf => all_goals whnf
  have hDR := W.d

  have hz6 : (rs.map (·.k)).length ≤ 1000 := by have := rows_six C.kn C.kb; simp; omega
  k_steps
  all_goals (try (rename (_ : List Row) = (_ : List Row) => hr9; subst hr9))
  all_goals (try (exfalso; omega; done))
  all_goals (refine' fin _ _ _ (StX.intro (StF.mk ?F ?N ?O ?C ?W ?hi ?ht ?n0 ?n1 ?h0 ?h1 ?hoc ?m1 ?m2 ?m3 ?m4 ?m5 ?m6 ?m7 ?m8 ?m9 ?m10) ?b); (case F => k_asm); (case m1 => first | exact rfl | assumption); (case m2 => first | exact rfl | assumption); (case m3 => first | exact rfl | assumption); (case m4 => first | exact rfl | assumption); (case m5 => first | exact rfl | assumption); (case m6 => first | exact rfl | assumption); (case m7 => first | exact rfl | assumption); (case m8 => first | exact rfl | assumption); (case m9 => first | exact rfl | assumption); (case m10 => first | exact rfl | assumption); (case O => assumption); (case C => first | assumption | exact cac_up (by assumption) (by omega) | exact cac_entry (by assumption) (by k_all)); (case W => first | assumption | exact lw_sub (by assumption) (sqz_sub (by assumption)) | exact lw_lessT0b (by assumption)); (case N => (refine news_sub (by k_asm) ?_; ((repeat (refine sub_cons (by k_mem) ?_)); (repeat (first | exact sub_id | refine sub_tl ?_))))); (case hi => first | assumption | exact ints_eqT0b (by assumption) (by assumption)); (case ht => first | assumption | exact Thr.whole _ _ (by assumption) (by assumption) | exact Thr.half _); (case n0 => omega); (case n1 => omega); (case h0 => omega); (case h1 => omega); (case hoc => assumption); (case b => first | assumption | exact keep_atT0b (by assumption) (by assumption) (by assumption) | exact List.Mem.tail _ (by assumption) | exact List.Mem.tail _ (keep_atT0b (by assumption) (by assumption) (by assumption)) | exact List.Mem.tail _ (sub_atT0b (by assumption) (by assumption))))

end Mine
end
section
namespace Mine
local macro_rules | `(tactic| walk_at "none of mine") => `(tactic| fail "none")
local macro_rules | `(tactic| walk_at "none of mine") => `(tactic| fail "none")
theorem fillT1 : True := by
  w_top off
  trivial


local macro_rules | `(tactic| k_room) => `(tactic| ktr_room)
local macro_rules | `(tactic| k_units) => `(tactic| ktr_units)
local macro_rules | `(tactic| ktr_enter) => `(tactic| (refine' code_def ?k1 ?k2 ?k3 ?k4 ?k5 ?kA ?kF ?kK ?k6 ?k7 ?k8 ?k9 ?kB ?_ ?c2 ?c3 ?c4 ?c5; (case kA => exact rfl); (case kF => exact rfl); (case kK => first | assumption | exact rfl); (case k1 => k_asm); (case k2 => k_asm); (case k3 => k_asm); (case k4 => k_asm); (case k5 => k_asm); (case k6 => k_is); (case k7 => k_is); (case k8 => ktr_room); (case k9 => first | exact BindsTo.of_eq rfl | exact binds_K (by k_in) rfl (by k_is) rfl rfl rfl | fail "ktr_enter: no rule for these arguments"); (case c5 => decide); (case kB => exact locs rfl); (case c2 => exact rfl); (case c3 => exact rfl); (case c4 => exact rfl); k_whole; intro g' L' h' FG' F' N' B' X' T'; (try dsimp only); (try k_fold)))
local macro_rules | `(tactic| k_lt $h:ident) => `(tactic| (replace $h := allLt_of $h; simp only [AllLt, and_true] at $h:ident; (try ((fail_if_success (rename AllLt _ _ => l6)); have l7 : AllLt _ _ := (by first | exact ($h).2 | exact ($h).2.2 | exact ($h).2.2.2 | exact ($h).2.2.2.2 | exact ($h).2.2.2.2.2 | exact ($h).2.2.2.2.2.2 | exact ($h).2.2.2.2.2.2.2 | exact ($h).2.2.2.2.2.2.2.2 | exact ($h).2.2.2.2.2.2.2.2.2 | exact ($h).2.2.2.2.2.2.2.2.2.2 | exact ($h).2.2.2.2.2.2.2.2.2.2.2 | exact ($h).2.2.2.2.2.2.2.2.2.2.2.2)))))
local macro_rules | `(tactic| k_all) => `(tactic| (refine' allLt_ne ?h6 ?h7; (case h6 => assumption); (case h7 => ((try dsimp only); omega))))
local macro_rules | `(tactic| k_all) => `(tactic| with_reducible assumption)
local macro_rules | `(tactic| walk_at "call builtin:len") => `(tactic| (k_here; (with_reducible show wpAny _ _ (call (Value.builtin "len") [Value.ref _]) _ _ _); k_dflt (refine' kda_len (knd := PySem.intKind _ _) ?N ?m ?d ?lo ?f ?_; (case N => k_asm); (case m => k_mem); (case d => k_asm); (case lo => k_asm); (case f => assumption); k_whole)))
local macro_rules | `(tactic| walk_at "getMethod ref") => `(tactic| (k_here; (with_reducible show wpAny _ _ (getMethod (Value.ref _) (Str.ofString "get") _) _ _ _); k_dflt (refine' kdg_method (knd := PySem.intKind _ _) ?N ?m ?d ?_; (case N => k_asm); (case m => k_mem); (case d => k_asm); k_whole)))
local macro_rules | `(tactic| walk_at "call builtin:dict.get") => `(tactic| (k_here; (with_reducible show wpAny _ _ (call (Value.builtin "dict.get") [Value.ref _, Value.int _ _]) _ _ _); k_dflt (refine' kdg_get1 (knd := PySem.intKind _ _) ?N ?m ?d ?lo (intKind_is _ _ _ _) _ ?hl ?_; (case N => k_asm); (case m => k_mem); (case d => k_asm); (case lo => k_asm); (case hl => assumption); k_whole; (try dsimp only [Option.getD]))))
local macro_rules | `(tactic| walk_at "subscriptTail") => `(tactic| (k_here; (with_reducible show wpAny _ _ (subscriptTail _ _ (Value.ref _) (Value.int _ _)) _ _ _); k_dflt (refine' kda_item (knd := PySem.intKind _ _) ?N ?m ?d (intKind_is _ _ _ _) ?hl ?_; (case N => k_asm); (case m => k_mem); (case d => k_asm); (case hl => assumption); k_whole)))
theorem x_get_missT1 {prog : Program} {w : World} {A : Around} {E : Value → Shared → Prop} {s : Shared} {h₀ : Heap} {L d : Addr} {news : List (Addr × Obj)} {o : Obj} {kvs : List (Int × Value)} {k : Int} {t : Tok} {Q : Value → Shared → Prop}
    (N : News h₀ L s.heap news) (hp : (d, o) ∈ news) (hd : o.IsDictOf (PySem.intKind prog w) kvs) (lo : (d == sysModules) = false) (hh : A.handled = none) (hl : valueAt kvs k = none)
    (h : ∀ h' e, Heap.NewExc s.heap h' e "KeyError" → E (.ref e) { s with heap := h', toks := s.toks + 1 }) : wpAny (model prog w) A (getItem (.ref d) (.int k t)) Q E s :=
  wpAny_getItem_missing_of (intKind_is _ _ _ _) lo hh (kda_dict N hp hd).mapOf hl h
local macro_rules | `(tactic| walk_at "getItem ref int") => `(tactic| (k_here; k_dflt (refine' x_get_missT1 ?N ?m ?d ?lo ?hh ?hl ?_; (case N => k_asm); (case m => k_mem); (case d => k_asm); (case lo => k_asm); (case hh => exact rfl); (case hl => assumption); k_whole); intro h' e' x'))
local macro_rules | `(tactic| walk_at "getItem ref int") => `(tactic| (k_here; k_dflt (refine' kdt_getItem (knd := PySem.intKind _ _) ?N ?m ?d (intKind_is _ _ _ _) ?hl ?_; (case N => k_asm); (case m => k_mem); (case d => k_asm); (case hl => assumption); k_whole)))
local macro_rules | `(tactic| walk_at "delItem ref int") => `(tactic| (k_here; k_dflt (refine' x_del_miss ?N ?m ?d ?lo ?hh ?hl ?_; (case N => k_asm); (case m => k_mem); (case d => k_asm); (case lo => k_asm); (case hh => exact rfl); (case hl => assumption); k_whole); intro h' e' x'))
local macro_rules | `(tactic| walk_at "delItem ref int") => `(tactic| (k_here; k_dflt (refine' kob_del (knd := PySem.intKind _ _) ?F ?N ?U ?d (intKind_is _ _ _ _) ?l ?z ?_; (case F => k_asm); (case N => k_asm); (case U => k_updF); (case d => k_asm); (case l => assumption); (case z => first | assumption | (rw [sizeLine_eq]; assumption)); k_whole); intro h' o' F' N' hd'; (try dsimp only at N')))
theorem x_del_ownT1 {M : Model} {A : Around} {E : Value → Shared → Prop} {s : Shared} {K : Frag} {x C L f : Addr} {h₀ : Heap} {m : Str → Option Value} {ox : Obj} {od : Option Obj} {i : Value} {Q : Unit → Shared → Prop}
    (F : Fr h₀ L s.heap m) (X₀ : K.In h₀) (I : InstAt s.heap x ox C od) (hq : noSeq K C = true) (hs : findIn K (.ref C) "__delitem__" = some (some (.ref f))) (hf : isFn K (.ref f) = true)
    (h : wpAny M A (call (.ref f) [.ref x, i]) (fun _ s' => Q () s') E s) : wpAny M A (delItem (.ref x) i) Q E s := by
  have X := X₀.keeps F.keep
  unfold delItem sequenceKey
  refine wpAny_holding (wpAny_bind (wpAny_bind (I.type.here ?_)))
  refine wpAny_bind ((anyM_none X hq).here ?_)
  rw [if_pos (show (!false) = true from rfl)]
  exact wpAny_pure (wpAny_bind (special_fn X I hs (beq_iff_eq.mp hf) (wpAny_mono h (fun _ _ z => wpAny_pure z) fun _ _ z => z)))
local macro_rules | `(tactic| walk_at "delItem ref int") => `(tactic| (k_here; k_dflt (refine' x_del_ownT1 ?k1 ?k2 ?k3 ?k4 ?k5 ?k6 ?_; (case k1 => k_asm); (case k2 => k_asm); (case k3 => k_inst); (case k4 => k_is); (case k5 => k_is); (case k6 => k_is); k_whole)))
local macro_rules | `(tactic| walk_at "WhlIf") => `(tactic| (first | (refine WhlIf.yes (decide_eq_true (by omega)) ?_) | (refine WhlIf.no (decide_eq_false (by omega)) ?_)))
local macro_rules | `(tactic| walk_at "eval Dict nil nil") => `(tactic| (k_here; k_dflt (refine' newDict_K ?k1 ?k2 ?k3 ?_; (case k1 => k_asm); (case k2 => k_asm); (case k3 => first | exact Top.nolimit (by k_asm) | exact TopRead.nolimit (by k_asm)); k_whole); intro d' h' o' F' N' l1 lo' hs' fs' hi' fi'; (try k_lt l1)))
theorem add_genT1 {prog : Program} {w : World} {A : Around} {E : Value → Shared → Prop} {s : Shared} {a b : Int} {ta tb : Tok} {Q : Value → Shared → Prop} (h : ∀ t tk, Q (.int (a + b) t) { s with toks := tk }) : wpAny (model prog w) A (binaryOp .Add (.int a ta) (.int b tb)) Q E s := add_int (h _ _)
local macro_rules | `(tactic| walk_at "binaryOp Add int int") => `(tactic| (k_here; with_reducible (refine add_genT1 ?_); intro t' tk'))


theorem lw_lessT1 {prog : Program} {w : World} {rs : List Row} {ks : List Int} {qs : List (Int × Value)} {oR : Obj} {T : List (Addr × Obj)} (W : Lw prog w rs qs oR T) : Lw prog w (less rs ks) qs oR T := lw_sub W fun _ hx => (List.mem_filter.mp hx).1
theorem keep_atT1 {T T' : List (Addr × Obj)} {p : Addr × Obj} (h : ∀ p ∈ T, p.2.cls ≠ .type "list" → p ∈ T') (hp : p ∈ T) (hc : p.2.cls ≠ .type "list") : p ∈ T' := h p hp hc
theorem at_putT1 {prog : Program} {w : World} {rs : List Row} {qs : List (Int × Value)} {key : Int} {v : Value} {oR : Obj} {T : List (Addr × Obj)} (_ : Lw prog w rs (stored qs key v) oR T) : valueAt (stored qs key v) key = some v := by rw [at_stored, if_pos rfl]
theorem off8T1 {p1 p2 p3 p4 p5 p6 p7 p8 P : Prop} (h : p1 ∧ p2 ∧ p3 ∧ p4 ∧ p5 ∧ p6 ∧ p7 ∧ p8 ∧ P) : P := h.2.2.2.2.2.2.2.2
theorem off9T1 {D : Addr} : ∀ {T : List (Addr × Obj)}, PyProof.Rows.LCg.Off1 D T → ∀ p ∈ T, p.1 ≠ D
  | [], _, _, h => nomatch h
  | q :: r, h, p, hp => by
    rcases List.mem_cons.mp hp with rfl | hp
    · exact h.1
    · exact off9T1 h.2 p hp
theorem bne_decT1 (a b : Int) : (a != b) = decide (a ≠ b) := by by_cases h : a = b <;> simp [h]
local macro_rules | `(tactic| walk_at "Eq") => `(tactic| exact bne_decT1 _ _)
theorem ne_ltT1 {T news : List (Addr × Obj)} {D : Addr} (l1 : ∀ p ∈ news, p.1 < D) (hs : ∀ p ∈ T, p ∈ news) : ∀ p ∈ T, p.1 ≠ D := fun p hp => Nat.ne_of_lt (l1 p (hs p hp))
theorem ne_atT1 {T news : List (Addr × Obj)} {D : Addr} (l1 : ∀ p ∈ news, p.1 ≠ D) (hs : ∀ p ∈ T, p ∈ news) : ∀ p ∈ T, p.1 ≠ D := fun p hp => l1 p (hs p hp)
theorem sqz_trueT1 {rs rs2 : List Row} {a b c : Int} (h : Sqz true rs rs2 a b c) : rs2 = rs := by
  rcases h with ⟨_, h⟩ | ⟨h, _⟩
  · exact h
  · cases h
theorem less_oneT1 {rs : List Row} {key : Int} (_ : key ∈ rs.map (·.k)) : (less rs [key]).map (·.k) = (rs.filter fun r => decide (r.k ≠ key)).map (·.k) := by
  have : less rs [key] = rs.filter fun r => decide (r.k ≠ key) := List.filter_congr fun r _ => by simp
  rw [this]
theorem less_noneT1 {rs : List Row} {key : Int} (h : key ∉ rs.map (·.k)) : rs.map (·.k) = (rs.filter fun r => decide (r.k ≠ key)).map (·.k) := by
  have : rs.filter (fun r => decide (r.k ≠ key)) = rs := List.filter_eq_self.mpr fun r hr => decide_eq_true fun e => h (e ▸ List.mem_map_of_mem hr)
  rw [this]
local macro_rules | `(tactic| k_all) => `(tactic| first | exact ne_atT1 (by assumption) (by ((repeat (refine sub_cons (by k_mem) ?_)); (repeat (first | exact sub_id | refine sub_tl ?_)))) | exact ne_ltT1 (by assumption) (by ((repeat (refine sub_cons (by k_mem) ?_)); (repeat (first | exact sub_id | refine sub_tl ?_)))))
local macro_rules | `(tactic| walk_at "binaryOp Add ref ref") => `(tactic| (k_here; (with_reducible show wpAny _ _ (binaryOp _ (Value.ref _) (Value.ref _)) _ _ _); k_dflt (refine' x_add_one ?F ?N ?m1 ?m2 ?i1 ?hz ?_; (case F => k_asm); (case N => k_asm); (case m1 => k_mem); (case m2 => k_mem); (case i1 => with_reducible assumption); (case hz => assumption); k_whole); intro D' us' h' F' N' l1 hi'; have l9' := l1; (try k_lt l1)))
local macro_rules | `(tactic| walk_at "compareOp In int ref") => `(tactic| (k_here; (with_reducible show wpAny _ _ (compareOp CmpOp.In (Value.int _ _) (Value.ref _)) _ _ _); k_dflt (first
  | (refine' x_in_yes ?N ?m1 ?i1 ?hin ?_; (case N => k_asm); (case m1 => k_mem); (case i1 => with_reducible assumption); (case hin => assumption); k_whole)
  | (refine' x_in_no ?N ?m1 ?i1 ?hin ?_; (case N => k_asm); (case m1 => k_mem); (case i1 => with_reducible assumption); (case hin => assumption); k_whole))))
local macro_rules | `(tactic| walk_at "compareOp NotIn int ref") => `(tactic| (k_here; (with_reducible show wpAny _ _ (compareOp CmpOp.NotIn (Value.int _ _) (Value.ref _)) _ _ _); k_dflt (first
  | (refine' x_notin_yes ?N ?m1 ?i1 ?hin ?_; (case N => k_asm); (case m1 => k_mem); (case i1 => with_reducible assumption); (case hin => assumption); k_whole)
  | (refine' x_notin_no ?N ?m1 ?i1 ?hin ?_; (case N => k_asm); (case m1 => k_mem); (case i1 => with_reducible assumption); (case hin => assumption); k_whole))))
local macro_rules | `(tactic| k_ne) => `(tactic| (refine neN ?_; (try dsimp only); first | assumption | (refine Ne.symm ?_; assumption) | omega))
local macro_rules | `(tactic| walk_at "CompSrcT") => `(tactic| (k_here; k_dflt (refine' comp_src_ne ?hdc _ ?hh ?F ?N ?m ?i ?z ?test ?turn ?fin; (case hdc => first | with_reducible assumption | assumption); (case hh => rfl); (case F => k_asm); (case N => k_asm); (case m => k_mem); (case i => with_reducible assumption); (case z => assumption)); (case' test => (intro g' r' hr' t' I' oI' C' oC' D' m2' h' tk' E' ys' hC' hx' F' N')); (case' turn => (intro g' r' hr' t' I' oI' C' oC' D' m2' h' tk' E' ys' hC' hx' F' N')); (case' fin => (intro g' us' hi'))))
local macro_rules | `(tactic| walk_at "Keep") => `(tactic| exact Keep.intro (by k_asm) (by k_asm))
local macro_rules | `(tactic| walk_at "exec Assign cons ListComp") => `(tactic| (k_here; lct_look; k_dflt (refine LCt.Assign_ListComp_T (F₀ := by k_asm) (by rfl) (by with_unfolding_all rfl) (by with_unfolding_all rfl) (by decide) (by rfl) (by decide) (by rfl) (by rfl) (by rfl) ?_)))

theorem ints_eqT1 {vs : List Value} {a b : List Int} (e : a = b) (h : IntsAre vs b) : IntsAre vs a := e ▸ h
theorem sq_ofT1 {rs rs2 : List Row} {a b c : Int} (h : Sqz false rs rs2 a b c) : Sq rs rs2 a b c := by
  rcases h with ⟨h, _⟩ | ⟨_, h⟩
  · cases h
  · exact h
local macro_rules | `(tactic| k_mem) => `(tactic| assumption)
local macro_rules | `(tactic| walk_at "eval Name") => `(tactic| (k_here; k_dflt (refine' nameX_L ?k1 ?k2 ?_ ?a ?b; (case a => rfl); (case b => rfl); (case k1 => k_asm); (case k2 => assumption); k_whole)))
local macro_rules | `(tactic| k_all) => `(tactic| first | exact Offs.o1 (by assumption) | exact Offs.o2 (by assumption) | exact Offs.o3 (by assumption) | exact Offs.o4 (by assumption) | exact Offs.o5 (by assumption) | exact Offs.o6 (by assumption) | exact Offs.o7 (by assumption))
local macro_rules | `(tactic| walk_at "call ref") => `(tactic| (k_here; (with_reducible show wpAny _ _ (call (Value.ref 116) _) _ _ _); k_dflt (refine' s_inc (rs := []) (qs := []) ?B ?F ?X ?N ?hs ?TP ?hk ?D ?O ?hd ?hu ?n0 ?n1 ?_; (case B => k_asm); (case F => k_asm); (case X => k_asm); (case N => k_asm); (case TP => k_asm); (case hk => exact rfl); (case D => assumption); (case O => assumption); (case hs => ((repeat (refine sub_cons (by k_mem) ?_)); (repeat (first | exact sub_id | refine sub_tl ?_)))); (case hd => ktr_room); (case hu => ktr_units); (case n0 => omega); (case n1 => omega); k_whole); intro t' h' tk' F' N'))
local macro_rules | `(tactic| walk_at "call ref") => `(tactic| (k_here; (with_reducible show wpAny _ _ (call (Value.ref 124) _) _ _ _); k_dflt (refine' s_get ?B ?F ?X ?N ?hs ?TP ?hk ?D ?O ?lo ?C ?W ?hd ?hu ?n0 ?n1 ?hit ?miss; (case B => k_asm); (case F => k_asm); (case X => k_asm); (case N => k_asm); (case TP => k_asm); (case hk => exact rfl); (case D => assumption); (case O => assumption); (case lo => assumption); (case C => assumption); (case W => assumption); (case hs => ((repeat (refine sub_cons (by k_mem) ?_)); (repeat (first | exact sub_id | refine sub_tl ?_)))); (case hd => ktr_room); (case hu => ktr_units); (case n0 => omega); (case n1 => omega)); (case' hit => (intro hin' v' st' qa' t1' n1' rs' T' tn' h' tk' hv' hq' hm' hke' hup' C' W' hkeep' O' F' N'; rcases hv' with hv' | ⟨j', tj', hv'⟩ <;> subst hv')); (case' miss => (intro hin' h' tk' F' N'))))
local macro_rules | `(tactic| walk_at "call ref") => `(tactic| (k_here; (with_reducible show wpAny _ _ (call (Value.ref 203) _) _ _ _); k_dflt (refine' s_read ?B ?F ?X ?N ?hs ?TP ?hk ?D ?O ?lo ?C ?W ?hd ?hu ?n0 ?n1 ?hit ?miss; (case B => k_asm); (case F => k_asm); (case X => k_asm); (case N => k_asm); (case TP => k_asm); (case hk => exact rfl); (case D => assumption); (case O => assumption); (case lo => assumption); (case C => assumption); (case W => assumption); (case hs => ((repeat (refine sub_cons (by k_mem) ?_)); (repeat (first | exact sub_id | refine sub_tl ?_)))); (case hd => ktr_room); (case hu => ktr_units); (case n0 => omega); (case n1 => omega)); (case' hit => (intro hin' v' st' qa' t1' n1' rs' T' tn' h' tk' hv' hq' hm' hke' hup' C' W' hkeep' O' F' N'; rcases hv' with hv' | ⟨j', tj', hv'⟩ <;> subst hv')); (case' miss => (intro hin' h' tk' F' N' t'))))
local macro_rules | `(tactic| walk_at "call ref") => `(tactic| (k_here; (with_reducible show wpAny _ _ (call (Value.ref 210) _) _ _ _); k_dflt (refine' s_take (qs := []) ?B ?F ?X ?N ?hs ?TP ?hk ?D ?O ?lo ?C ?hd ?hu ?hit ?miss; (case B => k_asm); (case F => k_asm); (case X => k_asm); (case N => k_asm); (case TP => k_asm); (case hk => exact rfl); (case D => assumption); (case O => assumption); (case lo => assumption); (case C => assumption); (case hs => ((repeat (refine sub_cons (by k_mem) ?_)); (repeat (first | exact sub_id | refine sub_tl ?_)))); (case hd => ktr_room); (case hu => ktr_units)); (case' hit => (intro hin' oD' h' tk' C' F' N'; have hle' := less_oneT1 hin')); (case' miss => (intro hin' h' tk' F' N'; have hle' := less_noneT1 hin'))))
local macro_rules | `(tactic| walk_at "call ref") => `(tactic| (k_here; (with_reducible show wpAny _ _ (call (Value.ref 174) _) _ _ _); k_dflt (refine' s_man (qs := []) ?B ?F ?X ?N ?hs ?TP ?hk ?D ?O ?lo ?C ?ht ?h0 ?h1 ?hd ?hu ?_; (case B => k_asm); (case F => k_asm); (case X => k_asm); (case N => k_asm); (case TP => k_asm); (case hk => exact rfl); (case D => assumption); (case O => assumption); (case lo => assumption); (case C => assumption); (case hs => ((repeat (refine sub_cons (by k_mem) ?_)); (repeat (first | exact sub_id | refine sub_tl ?_)))); (case ht => first | assumption | exact Thr.whole _ _ (by assumption) (by assumption) | exact Thr.half _); (case h0 => omega); (case h1 => omega); (case hd => ktr_room); (case hu => ktr_units); k_whole); intro rs2' oD' h' tk' hsq' C' F' N'))
local macro_rules | `(tactic| walk_at "call ref") => `(tactic| first | (k_here; (with_reducible show wpAny _ _ (call (Value.ref 196) _) _ _ _); k_dflt (refine' s_kept ?B ?F ?X ?N ?TP ?hk ?m1 ?m2 ?hi ?W ?hT ?lo ?hkn ?hkb ?ht ?h0 ?h1 ?hsq ?hd ?hu ?_ ?_; (case B => k_asm); (case F => k_asm); (case X => k_asm); (case N => k_asm); (case TP => k_asm); (case hk => exact rfl); (case m1 => k_mem); (case m2 => k_mem); (case hsq => exact sq_ofT1 (by assumption)); (case W => assumption); (case hi => first | assumption | exact ints_eqT1 (by assumption) (by assumption)); (case hT => ((repeat (refine sub_cons (by k_mem) ?_)); (repeat (first | exact sub_id | refine sub_tl ?_)))); (case lo => assumption); (case hkn => assumption); (case hkb => assumption); (case ht => first | assumption | exact Thr.whole _ 0 (by assumption) (by assumption) | exact Thr.half 0); (case h0 => omega); (case h1 => omega); (case hd => ktr_room); (case hu => ktr_units)); all_goals (first | (intro D' us' n' h' tk' hi' F' N' off') | (intro hrs' h' tk' F' N'))) | fail "no")
local macro_rules | `(tactic| walk_at "setItem ref int") => `(tactic| (k_here; k_dflt (refine' x_set_q ?F ?N ?U ?W ?P ?C ?O ?m1 ?a0 ?a5 ?hD ?_; (case F => k_asm); (case N => k_asm); (case U => k_updF); (case W => assumption); (case P => assumption); (case C => assumption); (case O => assumption); (case m1 => k_mem); (case a0 => assumption); (case a5 => assumption); (case hD => exact ⟨by k_ne, by k_ne, by k_ne, by k_ne, by k_ne, by k_ne, by k_ne⟩); k_whole); intro h' oR' F' N' W' C' O'; have hd9' := Lw.d W'; have hq9' := at_putT1 W'; (try dsimp only at N')))
local macro_rules | `(tactic| walk_at "setItem ref int") => `(tactic| (k_here; k_dflt (refine' s_set2 ?B ?F ?X ?N ?hs ?TP ?hk ?D ?O ?lo ?C ?W ?ht ?h0 ?h1 ?a0 ?a5 ?hv ?hd ?hu ?n0 ?n1 ?old ?new; (case B => k_asm); (case F => k_asm); (case X => k_asm); (case N => k_asm); (case TP => k_asm); (case hk => exact rfl); (case D => assumption); (case O => assumption); (case lo => assumption); (case C => assumption); (case W => assumption); (case hs => ((repeat (refine sub_cons (by k_mem) ?_)); (repeat (first | exact sub_id | refine sub_tl ?_)))); (case ht => assumption); (case h0 => omega); (case h1 => omega); (case a0 => assumption); (case a5 => assumption); (case hv => first | exact .inl rfl | exact .inr ⟨_, _, rfl⟩); (case hd => ktr_room); (case hu => ktr_units); (case n0 => omega); (case n1 => omega)); (case' old => (intro hin' rs1' rs2' oD' T' tn' h' tk' hke' hup' hkn' hkb' hsq' C' hkeep' W' O' F' N')); (case' new => (intro hin' rs1' rs2' oD' T' tn' h' tk' hke' hup' hkn' hkb' hsq' C' hkeep' W' O' F' N'))))
local macro_rules | `(tactic| walk_at "isTrue BoolOp") => `(tactic| (k_here; k_dflt (refine' tailB (qs := []) ?B ?F ?X ?N ?hs ?TP ?D ?lo ?C ?hi ?mc ?me ?_; (case B => k_asm); (case F => k_asm); (case X => k_asm); (case N => k_asm); (case TP => k_asm); (case D => assumption); (case me => first | exact rfl | assumption); (case mc => first | exact rfl | assumption); (case lo => assumption); (case C => assumption); (case hs => ((repeat (refine sub_cons (by k_mem) ?_)); (repeat (first | exact sub_id | refine sub_tl ?_)))); (case hi => first | assumption | exact ints_eqT1 (by assumption) (by assumption)); k_whole); intro h' tk' F' N'))
local macro_rules | `(tactic| walk_at "setItem ref") => `(tactic| (k_here; k_dflt (refine' x_set_q ?F ?N ?U ?W ?P ?C ?O ?m1 ?a0 ?a5 ?hD ?_; (case F => k_asm); (case N => k_asm); (case U => k_updF); (case W => assumption); (case P => assumption); (case C => assumption); (case O => assumption); (case m1 => k_mem); (case a0 => assumption); (case a5 => assumption); (case hD => exact ⟨by k_ne, by k_ne, by k_ne, by k_ne, by k_ne, by k_ne, by k_ne⟩); k_whole); intro h' oR' F' N' W' C' O'; have hd9' := Lw.d W'; have hq9' := at_putT1 W'; (try dsimp only at N')))
local macro_rules | `(tactic| walk_at "setItem ref") => `(tactic| (k_here; k_dflt (refine' s_set2 ?B ?F ?X ?N ?hs ?TP ?hk ?D ?O ?lo ?C ?W ?ht ?h0 ?h1 ?a0 ?a5 ?hv ?hd ?hu ?n0 ?n1 ?old ?new; (case B => k_asm); (case F => k_asm); (case X => k_asm); (case N => k_asm); (case TP => k_asm); (case hk => exact rfl); (case D => assumption); (case O => assumption); (case lo => assumption); (case C => assumption); (case W => assumption); (case hs => ((repeat (refine sub_cons (by k_mem) ?_)); (repeat (first | exact sub_id | refine sub_tl ?_)))); (case ht => assumption); (case h0 => omega); (case h1 => omega); (case a0 => assumption); (case a5 => assumption); (case hv => first | exact .inl rfl | exact .inr ⟨_, _, rfl⟩); (case hd => ktr_room); (case hu => ktr_units); (case n0 => omega); (case n1 => omega)); (case' old => (intro hin' rs1' rs2' oD' T' tn' h' tk' hke' hup' hkn' hkb' hsq' C' hkeep' W' O' F' N')); (case' new => (intro hin' rs1' rs2' oD' T' tn' h' tk' hke' hup' hkn' hkb' hsq' C' hkeep' W' O' F' N'))))

set_option maxHeartbeats 2000000 in
theorem kind1 {prog : Program} {w : World} {mean : ExcName → Option Value} {mg mb : Str → Option Value} {h₀ : Heap} {L fa I l : Addr} {oI : Obj} {cdv : Value} {m : Str → Option Value} {s : Shared} {Q : Flow → Shared → Prop} {E : Value → Shared → Prop}
    {T : List (Addr × Obj)} {c cd dD k kd rd e : Addr} {n room num den kv key more : Int} {tn th tc ti t1 t2 t3 t4 tkk tke tmo : Tok} {thr : Value} {held : Bool} {oD oR oC : Obj} {vs : List Value} {ne : Nat} {rs : List Row} {qs : List (Int × Value)} {i : Nat}
    (B : Below callerA h₀ [] h₀) (F : Fr h₀ L s.heap m) (X : (Mine.hd.heap_39 w.params).In h₀)
    (N : News h₀ L s.heap ((c, lru cd dD k n tn (.int room tc) thr) :: (cd, dictOf [] 0) :: (dD, oD) :: (k, instObj 46 kd) :: (kd, lockD w.params th held) :: (rd, oR) :: (e, listOf (List.toArray vs) ne) :: (L + 1, oC) :: T))
    (TP : Top Mine.hd.view_39 (looseW Mine.hd.view_39 [Str.ofString "itemgetter", Str.ofString "LRUCache"]) mean mg mb h₀) (D : Dist c cd dD k kd rd (L + 1)) (O : Offs T c cd dD k kd rd (L + 1)) (lo : (dD == sysModules) = false) (lo2 : (rd == sysModules) = false)
    (C : Cac prog w rs oD T e n) (W : Lw prog w rs qs oR T) (hi : IntsAre vs (rs.map (·.k))) (ht : Thr thr num den) (hn0 : 0 ≤ n) (hn1 : n ≤ (i : Int)) (hi4 : (i : Int) ≤ 39) (h0 : 0 ≤ room) (h1 : room ≤ 4)
    (hIT : (I, oI) ∈ T) (hIc : oI.cls ≠ .type "list")
    (hoc : oC.data = .cell (some (.int key tke))) (hk0 : 0 ≤ key) (hk5 : key ≤ 5)
    (m1 : m (Str.ofString "script") = some (.ref l)) (m2 : m (Str.ofString "room") = some (.int room t1)) (m3 : m (Str.ofString "num") = some (.int num t2)) (m4 : m (Str.ofString "den") = some (.int den t3)) (m5 : m (Str.ofString "c") = some (.ref c)) (m6 : m (Str.ofString "lock") = some (.ref k))
    (m7 : m (Str.ofString "entry") = some (.ref e)) (m8 : m (Str.ofString "rows") = some (.ref rd)) (m9 : m (Str.ofString "counter") = some (.int n t4)) (m10 : m (Str.ofString "held") = some (.bool held))
    (m11 : m (Str.ofString "i") = some (.int (0 + (i : Int)) ti)) (m12 : m (Str.ofString "kind") = some (.int kv tkk)) (m13 : m (Str.ofString "more") = some (.int more tmo))
    (fin : ∀ m' h' tk', StX prog w h₀ L l c cd dD k kd rd th I oI ((i : Int) + 1) h' m' → Q .next { s with heap := h', toks := tk' })
    (hK : kv = 1) : wpAny (model prog w) (callerA.deeper (envOfC (Str.ofString "law") lawScope L fa cdv)) (exec turnIf (envOfC (Str.ofString "law") lawScope L fa cdv)) Q E s := by
  subst hK
  obtain ⟨d12, d13, d14, d15, d16, d17, d23, d24, d25, d26, d27, d34, d35, d36, d37, d45, d46, d47, d56, d57, d67⟩ := id D
  have xe1 : @Ne Nat e c := news_ne N (.tail _ (.tail _ (.tail _ (.tail _ (.tail _ (.tail _ (.head _))))))) (.head _) (by intro h; cases h)
  have xe2 : @Ne Nat e cd := news_ne N (.tail _ (.tail _ (.tail _ (.tail _ (.tail _ (.tail _ (.head _))))))) (.tail _ (.head _)) (fun e => absurd (Value.type.inj e) (by decide))
  have xe3 : @Ne Nat e dD := news_ne N (.tail _ (.tail _ (.tail _ (.tail _ (.tail _ (.tail _ (.head _))))))) (.tail _ (.tail _ (.head _))) (by show Value.type "list" ≠ oD.cls; rw [dict_cls C.d]; exact fun e => absurd (Value.type.inj e) (by decide))
  have xe4 : @Ne Nat e k := news_ne N (.tail _ (.tail _ (.tail _ (.tail _ (.tail _ (.tail _ (.head _))))))) (.tail _ (.tail _ (.tail _ (.head _)))) (by intro h; cases h)
  have xe5 : @Ne Nat e kd := news_ne N (.tail _ (.tail _ (.tail _ (.tail _ (.tail _ (.tail _ (.head _))))))) (.tail _ (.tail _ (.tail _ (.tail _ (.head _))))) (fun e => absurd (Value.type.inj e) (by decide))
  have xe6 : @Ne Nat e rd := news_ne N (.tail _ (.tail _ (.tail _ (.tail _ (.tail _ (.tail _ (.head _))))))) (.tail _ (.tail _ (.tail _ (.tail _ (.tail _ (.head _)))))) (by show Value.type "list" ≠ oR.cls; rw [dict_cls W.d]; exact fun e => absurd (Value.type.inj e) (by decide))
  have xe7 : @Ne Nat e (L + 1) := news_cell N (.tail _ (.tail _ (.tail _ (.tail _ (.tail _ (.tail _ (.head _))))))) (.tail _ (.tail _ (.tail _ (.tail _ (.tail _ (.tail _ (.tail _ (.head _)))))))) hoc
  conv in (occs := *) lawScope => all_goals whnf
  conv in (occs := *) turnIf => all_goals whnf
  have hDR := W.d

  have hz6 : (rs.map (·.k)).length ≤ 1000 := by have := rows_six C.kn C.kb; simp; omega
  k_steps
  all_goals (try (exfalso; omega; done))
  all_goals (refine' fin _ _ _ (StX.intro (StF.mk ?F ?N ?O ?C ?W ?hi ?ht ?n0 ?n1 ?h0 ?h1 ?hoc ?m1 ?m2 ?m3 ?m4 ?m5 ?m6 ?m7 ?m8 ?m9 ?m10) ?b); (case F => k_asm); (case m1 => first | exact rfl | assumption); (case m2 => first | exact rfl | assumption); (case m3 => first | exact rfl | assumption); (case m4 => first | exact rfl | assumption); (case m5 => first | exact rfl | assumption); (case m6 => first | exact rfl | assumption); (case m7 => first | exact rfl | assumption); (case m8 => first | exact rfl | assumption); (case m9 => first | exact rfl | assumption); (case m10 => first | exact rfl | assumption); (case O => assumption); (case C => first | assumption | exact cac_up (by assumption) (by omega) | exact cac_entry (by assumption) (off9T1 (off8T1 (by assumption)))); (case W => first | assumption | exact lw_sub (by assumption) (sqz_sub (by assumption)) | exact lw_lessT1 (by assumption)); (case N => (refine news_sub (by k_asm) ?_; ((repeat (refine sub_cons (by k_mem) ?_)); (repeat (first | exact sub_id | refine sub_tl ?_))))); (case hi => first | assumption | exact ints_eqT1 (by assumption) (by assumption)); (case ht => first | assumption | exact Thr.whole _ _ (by assumption) (by assumption) | exact Thr.half _); (case n0 => omega); (case n1 => omega); (case h0 => omega); (case h1 => omega); (case hoc => assumption); (case b => first | assumption | exact keep_atT1 (by assumption) (by assumption) (by assumption) | exact List.Mem.tail _ (by assumption) | exact List.Mem.tail _ (keep_atT1 (by assumption) (by assumption) (by assumption))))

end Mine
end
section
namespace Mine
local macro_rules | `(tactic| walk_at "none of mine") => `(tactic| fail "none")
local macro_rules | `(tactic| walk_at "none of mine") => `(tactic| fail "none")
local macro_rules | `(tactic| walk_at "none of mine") => `(tactic| fail "none")
theorem fillT2 : True := by
  w_top off
  trivial


local macro_rules | `(tactic| k_room) => `(tactic| ktr_room)
local macro_rules | `(tactic| k_units) => `(tactic| ktr_units)
local macro_rules | `(tactic| ktr_enter) => `(tactic| (refine' code_def ?k1 ?k2 ?k3 ?k4 ?k5 ?kA ?kF ?kK ?k6 ?k7 ?k8 ?k9 ?kB ?_ ?c2 ?c3 ?c4 ?c5; (case kA => exact rfl); (case kF => exact rfl); (case kK => first | assumption | exact rfl); (case k1 => k_asm); (case k2 => k_asm); (case k3 => k_asm); (case k4 => k_asm); (case k5 => k_asm); (case k6 => k_is); (case k7 => k_is); (case k8 => ktr_room); (case k9 => first | exact BindsTo.of_eq rfl | exact binds_K (by k_in) rfl (by k_is) rfl rfl rfl | fail "ktr_enter: no rule for these arguments"); (case c5 => decide); (case kB => exact locs rfl); (case c2 => exact rfl); (case c3 => exact rfl); (case c4 => exact rfl); k_whole; intro g' L' h' FG' F' N' B' X' T'; (try dsimp only); (try k_fold)))
local macro_rules | `(tactic| k_lt $h:ident) => `(tactic| (replace $h := allLt_of $h; simp only [AllLt, and_true] at $h:ident; (try ((fail_if_success (rename AllLt _ _ => l6)); have l7 : AllLt _ _ := (by first | exact ($h).2 | exact ($h).2.2 | exact ($h).2.2.2 | exact ($h).2.2.2.2 | exact ($h).2.2.2.2.2 | exact ($h).2.2.2.2.2.2 | exact ($h).2.2.2.2.2.2.2 | exact ($h).2.2.2.2.2.2.2.2 | exact ($h).2.2.2.2.2.2.2.2.2 | exact ($h).2.2.2.2.2.2.2.2.2.2 | exact ($h).2.2.2.2.2.2.2.2.2.2.2 | exact ($h).2.2.2.2.2.2.2.2.2.2.2.2)))))
local macro_rules | `(tactic| k_all) => `(tactic| (refine' allLt_ne ?h6 ?h7; (case h6 => assumption); (case h7 => ((try dsimp only); omega))))
local macro_rules | `(tactic| k_all) => `(tactic| with_reducible assumption)
local macro_rules | `(tactic| walk_at "call builtin:len") => `(tactic| (k_here; (with_reducible show wpAny _ _ (call (Value.builtin "len") [Value.ref _]) _ _ _); k_dflt (refine' kda_len (knd := PySem.intKind _ _) ?N ?m ?d ?lo ?f ?_; (case N => k_asm); (case m => k_mem); (case d => k_asm); (case lo => k_asm); (case f => assumption); k_whole)))
local macro_rules | `(tactic| walk_at "getMethod ref") => `(tactic| (k_here; (with_reducible show wpAny _ _ (getMethod (Value.ref _) (Str.ofString "get") _) _ _ _); k_dflt (refine' kdg_method (knd := PySem.intKind _ _) ?N ?m ?d ?_; (case N => k_asm); (case m => k_mem); (case d => k_asm); k_whole)))
local macro_rules | `(tactic| walk_at "call builtin:dict.get") => `(tactic| (k_here; (with_reducible show wpAny _ _ (call (Value.builtin "dict.get") [Value.ref _, Value.int _ _]) _ _ _); k_dflt (refine' kdg_get1 (knd := PySem.intKind _ _) ?N ?m ?d ?lo (intKind_is _ _ _ _) _ ?hl ?_; (case N => k_asm); (case m => k_mem); (case d => k_asm); (case lo => k_asm); (case hl => assumption); k_whole; (try dsimp only [Option.getD]))))
local macro_rules | `(tactic| walk_at "subscriptTail") => `(tactic| (k_here; (with_reducible show wpAny _ _ (subscriptTail _ _ (Value.ref _) (Value.int _ _)) _ _ _); k_dflt (refine' kda_item (knd := PySem.intKind _ _) ?N ?m ?d (intKind_is _ _ _ _) ?hl ?_; (case N => k_asm); (case m => k_mem); (case d => k_asm); (case hl => assumption); k_whole)))
theorem x_get_missT2 {prog : Program} {w : World} {A : Around} {E : Value → Shared → Prop} {s : Shared} {h₀ : Heap} {L d : Addr} {news : List (Addr × Obj)} {o : Obj} {kvs : List (Int × Value)} {k : Int} {t : Tok} {Q : Value → Shared → Prop}
    (N : News h₀ L s.heap news) (hp : (d, o) ∈ news) (hd : o.IsDictOf (PySem.intKind prog w) kvs) (lo : (d == sysModules) = false) (hh : A.handled = none) (hl : valueAt kvs k = none)
    (h : ∀ h' e, Heap.NewExc s.heap h' e "KeyError" → E (.ref e) { s with heap := h', toks := s.toks + 1 }) : wpAny (model prog w) A (getItem (.ref d) (.int k t)) Q E s :=
  wpAny_getItem_missing_of (intKind_is _ _ _ _) lo hh (kda_dict N hp hd).mapOf hl h
local macro_rules | `(tactic| walk_at "getItem ref int") => `(tactic| (k_here; k_dflt (refine' x_get_missT2 ?N ?m ?d ?lo ?hh ?hl ?_; (case N => k_asm); (case m => k_mem); (case d => k_asm); (case lo => k_asm); (case hh => exact rfl); (case hl => assumption); k_whole); intro h' e' x'))
local macro_rules | `(tactic| walk_at "getItem ref int") => `(tactic| (k_here; k_dflt (refine' kdt_getItem (knd := PySem.intKind _ _) ?N ?m ?d (intKind_is _ _ _ _) ?hl ?_; (case N => k_asm); (case m => k_mem); (case d => k_asm); (case hl => assumption); k_whole)))
local macro_rules | `(tactic| walk_at "delItem ref int") => `(tactic| (k_here; k_dflt (refine' x_del_miss ?N ?m ?d ?lo ?hh ?hl ?_; (case N => k_asm); (case m => k_mem); (case d => k_asm); (case lo => k_asm); (case hh => exact rfl); (case hl => assumption); k_whole); intro h' e' x'))
local macro_rules | `(tactic| walk_at "delItem ref int") => `(tactic| (k_here; k_dflt (refine' kob_del (knd := PySem.intKind _ _) ?F ?N ?U ?d (intKind_is _ _ _ _) ?l ?z ?_; (case F => k_asm); (case N => k_asm); (case U => k_updF); (case d => k_asm); (case l => assumption); (case z => first | assumption | (rw [sizeLine_eq]; assumption)); k_whole); intro h' o' F' N' hd'; (try dsimp only at N')))
theorem x_del_ownT2 {M : Model} {A : Around} {E : Value → Shared → Prop} {s : Shared} {K : Frag} {x C L f : Addr} {h₀ : Heap} {m : Str → Option Value} {ox : Obj} {od : Option Obj} {i : Value} {Q : Unit → Shared → Prop}
    (F : Fr h₀ L s.heap m) (X₀ : K.In h₀) (I : InstAt s.heap x ox C od) (hq : noSeq K C = true) (hs : findIn K (.ref C) "__delitem__" = some (some (.ref f))) (hf : isFn K (.ref f) = true)
    (h : wpAny M A (call (.ref f) [.ref x, i]) (fun _ s' => Q () s') E s) : wpAny M A (delItem (.ref x) i) Q E s := by
  have X := X₀.keeps F.keep
  unfold delItem sequenceKey
  refine wpAny_holding (wpAny_bind (wpAny_bind (I.type.here ?_)))
  refine wpAny_bind ((anyM_none X hq).here ?_)
  rw [if_pos (show (!false) = true from rfl)]
  exact wpAny_pure (wpAny_bind (special_fn X I hs (beq_iff_eq.mp hf) (wpAny_mono h (fun _ _ z => wpAny_pure z) fun _ _ z => z)))
local macro_rules | `(tactic| walk_at "delItem ref int") => `(tactic| (k_here; k_dflt (refine' x_del_ownT2 ?k1 ?k2 ?k3 ?k4 ?k5 ?k6 ?_; (case k1 => k_asm); (case k2 => k_asm); (case k3 => k_inst); (case k4 => k_is); (case k5 => k_is); (case k6 => k_is); k_whole)))
local macro_rules | `(tactic| walk_at "WhlIf") => `(tactic| (first | (refine WhlIf.yes (decide_eq_true (by omega)) ?_) | (refine WhlIf.no (decide_eq_false (by omega)) ?_)))
local macro_rules | `(tactic| walk_at "eval Dict nil nil") => `(tactic| (k_here; k_dflt (refine' newDict_K ?k1 ?k2 ?k3 ?_; (case k1 => k_asm); (case k2 => k_asm); (case k3 => first | exact Top.nolimit (by k_asm) | exact TopRead.nolimit (by k_asm)); k_whole); intro d' h' o' F' N' l1 lo' hs' fs' hi' fi'; (try k_lt l1)))
theorem add_genT2 {prog : Program} {w : World} {A : Around} {E : Value → Shared → Prop} {s : Shared} {a b : Int} {ta tb : Tok} {Q : Value → Shared → Prop} (h : ∀ t tk, Q (.int (a + b) t) { s with toks := tk }) : wpAny (model prog w) A (binaryOp .Add (.int a ta) (.int b tb)) Q E s := add_int (h _ _)
local macro_rules | `(tactic| walk_at "binaryOp Add int int") => `(tactic| (k_here; with_reducible (refine add_genT2 ?_); intro t' tk'))


theorem lw_lessT2 {prog : Program} {w : World} {rs : List Row} {ks : List Int} {qs : List (Int × Value)} {oR : Obj} {T : List (Addr × Obj)} (W : Lw prog w rs qs oR T) : Lw prog w (less rs ks) qs oR T := lw_sub W fun _ hx => (List.mem_filter.mp hx).1
theorem keep_atT2 {T T' : List (Addr × Obj)} {p : Addr × Obj} (h : ∀ p ∈ T, p.2.cls ≠ .type "list" → p ∈ T') (hp : p ∈ T) (hc : p.2.cls ≠ .type "list") : p ∈ T' := h p hp hc
theorem at_putT2 {prog : Program} {w : World} {rs : List Row} {qs : List (Int × Value)} {key : Int} {v : Value} {oR : Obj} {T : List (Addr × Obj)} (_ : Lw prog w rs (stored qs key v) oR T) : valueAt (stored qs key v) key = some v := by rw [at_stored, if_pos rfl]
theorem off8T2 {p1 p2 p3 p4 p5 p6 p7 p8 P : Prop} (h : p1 ∧ p2 ∧ p3 ∧ p4 ∧ p5 ∧ p6 ∧ p7 ∧ p8 ∧ P) : P := h.2.2.2.2.2.2.2.2
theorem off9T2 {D : Addr} : ∀ {T : List (Addr × Obj)}, PyProof.Rows.LCg.Off1 D T → ∀ p ∈ T, p.1 ≠ D
  | [], _, _, h => nomatch h
  | q :: r, h, p, hp => by
    rcases List.mem_cons.mp hp with rfl | hp
    · exact h.1
    · exact off9T2 h.2 p hp
theorem bne_decT2 (a b : Int) : (a != b) = decide (a ≠ b) := by by_cases h : a = b <;> simp [h]
local macro_rules | `(tactic| walk_at "Eq") => `(tactic| exact bne_decT2 _ _)
theorem ne_ltT2 {T news : List (Addr × Obj)} {D : Addr} (l1 : ∀ p ∈ news, p.1 < D) (hs : ∀ p ∈ T, p ∈ news) : ∀ p ∈ T, p.1 ≠ D := fun p hp => Nat.ne_of_lt (l1 p (hs p hp))
theorem ne_atT2 {T news : List (Addr × Obj)} {D : Addr} (l1 : ∀ p ∈ news, p.1 ≠ D) (hs : ∀ p ∈ T, p ∈ news) : ∀ p ∈ T, p.1 ≠ D := fun p hp => l1 p (hs p hp)
theorem sqz_trueT2 {rs rs2 : List Row} {a b c : Int} (h : Sqz true rs rs2 a b c) : rs2 = rs := by
  rcases h with ⟨_, h⟩ | ⟨h, _⟩
  · exact h
  · cases h
theorem less_oneT2 {rs : List Row} {key : Int} (_ : key ∈ rs.map (·.k)) : (less rs [key]).map (·.k) = (rs.filter fun r => decide (r.k ≠ key)).map (·.k) := by
  have : less rs [key] = rs.filter fun r => decide (r.k ≠ key) := List.filter_congr fun r _ => by simp
  rw [this]
theorem less_noneT2 {rs : List Row} {key : Int} (h : key ∉ rs.map (·.k)) : rs.map (·.k) = (rs.filter fun r => decide (r.k ≠ key)).map (·.k) := by
  have : rs.filter (fun r => decide (r.k ≠ key)) = rs := List.filter_eq_self.mpr fun r hr => decide_eq_true fun e => h (e ▸ List.mem_map_of_mem hr)
  rw [this]
local macro_rules | `(tactic| k_all) => `(tactic| first | exact ne_atT2 (by assumption) (by ((repeat (refine sub_cons (by k_mem) ?_)); (repeat (first | exact sub_id | refine sub_tl ?_)))) | exact ne_ltT2 (by assumption) (by ((repeat (refine sub_cons (by k_mem) ?_)); (repeat (first | exact sub_id | refine sub_tl ?_)))))
local macro_rules | `(tactic| walk_at "binaryOp Add ref ref") => `(tactic| (k_here; (with_reducible show wpAny _ _ (binaryOp _ (Value.ref _) (Value.ref _)) _ _ _); k_dflt (refine' x_add_one ?F ?N ?m1 ?m2 ?i1 ?hz ?_; (case F => k_asm); (case N => k_asm); (case m1 => k_mem); (case m2 => k_mem); (case i1 => with_reducible assumption); (case hz => assumption); k_whole); intro D' us' h' F' N' l1 hi'; have l9' := l1; (try k_lt l1)))
local macro_rules | `(tactic| walk_at "compareOp In int ref") => `(tactic| (k_here; (with_reducible show wpAny _ _ (compareOp CmpOp.In (Value.int _ _) (Value.ref _)) _ _ _); k_dflt (first
  | (refine' x_in_yes ?N ?m1 ?i1 ?hin ?_; (case N => k_asm); (case m1 => k_mem); (case i1 => with_reducible assumption); (case hin => assumption); k_whole)
  | (refine' x_in_no ?N ?m1 ?i1 ?hin ?_; (case N => k_asm); (case m1 => k_mem); (case i1 => with_reducible assumption); (case hin => assumption); k_whole))))
local macro_rules | `(tactic| walk_at "compareOp NotIn int ref") => `(tactic| (k_here; (with_reducible show wpAny _ _ (compareOp CmpOp.NotIn (Value.int _ _) (Value.ref _)) _ _ _); k_dflt (first
  | (refine' x_notin_yes ?N ?m1 ?i1 ?hin ?_; (case N => k_asm); (case m1 => k_mem); (case i1 => with_reducible assumption); (case hin => assumption); k_whole)
  | (refine' x_notin_no ?N ?m1 ?i1 ?hin ?_; (case N => k_asm); (case m1 => k_mem); (case i1 => with_reducible assumption); (case hin => assumption); k_whole))))
local macro_rules | `(tactic| k_ne) => `(tactic| (refine neN ?_; (try dsimp only); first | assumption | (refine Ne.symm ?_; assumption) | omega))
local macro_rules | `(tactic| walk_at "CompSrcT") => `(tactic| (k_here; k_dflt (refine' comp_src_ne ?hdc _ ?hh ?F ?N ?m ?i ?z ?test ?turn ?fin; (case hdc => first | with_reducible assumption | assumption); (case hh => rfl); (case F => k_asm); (case N => k_asm); (case m => k_mem); (case i => with_reducible assumption); (case z => assumption)); (case' test => (intro g' r' hr' t' I' oI' C' oC' D' m2' h' tk' E' ys' hC' hx' F' N')); (case' turn => (intro g' r' hr' t' I' oI' C' oC' D' m2' h' tk' E' ys' hC' hx' F' N')); (case' fin => (intro g' us' hi'))))
local macro_rules | `(tactic| walk_at "Keep") => `(tactic| exact Keep.intro (by k_asm) (by k_asm))
local macro_rules | `(tactic| walk_at "exec Assign cons ListComp") => `(tactic| (k_here; lct_look; k_dflt (refine LCt.Assign_ListComp_T (F₀ := by k_asm) (by rfl) (by with_unfolding_all rfl) (by with_unfolding_all rfl) (by decide) (by rfl) (by decide) (by rfl) (by rfl) (by rfl) ?_)))

theorem ints_eqT2 {vs : List Value} {a b : List Int} (e : a = b) (h : IntsAre vs b) : IntsAre vs a := e ▸ h
theorem sq_ofT2 {rs rs2 : List Row} {a b c : Int} (h : Sqz false rs rs2 a b c) : Sq rs rs2 a b c := by
  rcases h with ⟨h, _⟩ | ⟨_, h⟩
  · cases h
  · exact h
local macro_rules | `(tactic| k_mem) => `(tactic| assumption)
local macro_rules | `(tactic| walk_at "eval Name") => `(tactic| (k_here; k_dflt (refine' nameX_L ?k1 ?k2 ?_ ?a ?b; (case a => rfl); (case b => rfl); (case k1 => k_asm); (case k2 => assumption); k_whole)))
local macro_rules | `(tactic| k_all) => `(tactic| first | exact Offs.o1 (by assumption) | exact Offs.o2 (by assumption) | exact Offs.o3 (by assumption) | exact Offs.o4 (by assumption) | exact Offs.o5 (by assumption) | exact Offs.o6 (by assumption) | exact Offs.o7 (by assumption))
local macro_rules | `(tactic| walk_at "call ref") => `(tactic| (k_here; (with_reducible show wpAny _ _ (call (Value.ref 116) _) _ _ _); k_dflt (refine' s_inc (rs := []) (qs := []) ?B ?F ?X ?N ?hs ?TP ?hk ?D ?O ?hd ?hu ?n0 ?n1 ?_; (case B => k_asm); (case F => k_asm); (case X => k_asm); (case N => k_asm); (case TP => k_asm); (case hk => exact rfl); (case D => assumption); (case O => assumption); (case hs => ((repeat (refine sub_cons (by k_mem) ?_)); (repeat (first | exact sub_id | refine sub_tl ?_)))); (case hd => ktr_room); (case hu => ktr_units); (case n0 => omega); (case n1 => omega); k_whole); intro t' h' tk' F' N'))
local macro_rules | `(tactic| walk_at "call ref") => `(tactic| (k_here; (with_reducible show wpAny _ _ (call (Value.ref 124) _) _ _ _); k_dflt (refine' s_get ?B ?F ?X ?N ?hs ?TP ?hk ?D ?O ?lo ?C ?W ?hd ?hu ?n0 ?n1 ?hit ?miss; (case B => k_asm); (case F => k_asm); (case X => k_asm); (case N => k_asm); (case TP => k_asm); (case hk => exact rfl); (case D => assumption); (case O => assumption); (case lo => assumption); (case C => assumption); (case W => assumption); (case hs => ((repeat (refine sub_cons (by k_mem) ?_)); (repeat (first | exact sub_id | refine sub_tl ?_)))); (case hd => ktr_room); (case hu => ktr_units); (case n0 => omega); (case n1 => omega)); (case' hit => (intro hin' v' st' qa' t1' n1' rs' T' tn' h' tk' hv' hq' hm' hke' hup' C' W' hkeep' O' F' N'; rcases hv' with hv' | ⟨j', tj', hv'⟩ <;> subst hv')); (case' miss => (intro hin' h' tk' F' N'))))
local macro_rules | `(tactic| walk_at "call ref") => `(tactic| (k_here; (with_reducible show wpAny _ _ (call (Value.ref 203) _) _ _ _); k_dflt (refine' s_read ?B ?F ?X ?N ?hs ?TP ?hk ?D ?O ?lo ?C ?W ?hd ?hu ?n0 ?n1 ?hit ?miss; (case B => k_asm); (case F => k_asm); (case X => k_asm); (case N => k_asm); (case TP => k_asm); (case hk => exact rfl); (case D => assumption); (case O => assumption); (case lo => assumption); (case C => assumption); (case W => assumption); (case hs => ((repeat (refine sub_cons (by k_mem) ?_)); (repeat (first | exact sub_id | refine sub_tl ?_)))); (case hd => ktr_room); (case hu => ktr_units); (case n0 => omega); (case n1 => omega)); (case' hit => (intro hin' v' st' qa' t1' n1' rs' T' tn' h' tk' hv' hq' hm' hke' hup' C' W' hkeep' O' F' N'; rcases hv' with hv' | ⟨j', tj', hv'⟩ <;> subst hv')); (case' miss => (intro hin' h' tk' F' N' t'))))
local macro_rules | `(tactic| walk_at "call ref") => `(tactic| (k_here; (with_reducible show wpAny _ _ (call (Value.ref 210) _) _ _ _); k_dflt (refine' s_take (qs := []) ?B ?F ?X ?N ?hs ?TP ?hk ?D ?O ?lo ?C ?hd ?hu ?hit ?miss; (case B => k_asm); (case F => k_asm); (case X => k_asm); (case N => k_asm); (case TP => k_asm); (case hk => exact rfl); (case D => assumption); (case O => assumption); (case lo => assumption); (case C => assumption); (case hs => ((repeat (refine sub_cons (by k_mem) ?_)); (repeat (first | exact sub_id | refine sub_tl ?_)))); (case hd => ktr_room); (case hu => ktr_units)); (case' hit => (intro hin' oD' h' tk' C' F' N'; have hle' := less_oneT2 hin')); (case' miss => (intro hin' h' tk' F' N'; have hle' := less_noneT2 hin'))))
local macro_rules | `(tactic| walk_at "call ref") => `(tactic| (k_here; (with_reducible show wpAny _ _ (call (Value.ref 174) _) _ _ _); k_dflt (refine' s_man (qs := []) ?B ?F ?X ?N ?hs ?TP ?hk ?D ?O ?lo ?C ?ht ?h0 ?h1 ?hd ?hu ?_; (case B => k_asm); (case F => k_asm); (case X => k_asm); (case N => k_asm); (case TP => k_asm); (case hk => exact rfl); (case D => assumption); (case O => assumption); (case lo => assumption); (case C => assumption); (case hs => ((repeat (refine sub_cons (by k_mem) ?_)); (repeat (first | exact sub_id | refine sub_tl ?_)))); (case ht => first | assumption | exact Thr.whole _ _ (by assumption) (by assumption) | exact Thr.half _); (case h0 => omega); (case h1 => omega); (case hd => ktr_room); (case hu => ktr_units); k_whole); intro rs2' oD' h' tk' hsq' C' F' N'))
local macro_rules | `(tactic| walk_at "call ref") => `(tactic| first | (k_here; (with_reducible show wpAny _ _ (call (Value.ref 196) _) _ _ _); k_dflt (refine' s_kept ?B ?F ?X ?N ?TP ?hk ?m1 ?m2 ?hi ?W ?hT ?lo ?hkn ?hkb ?ht ?h0 ?h1 ?hsq ?hd ?hu ?_ ?_; (case B => k_asm); (case F => k_asm); (case X => k_asm); (case N => k_asm); (case TP => k_asm); (case hk => exact rfl); (case m1 => k_mem); (case m2 => k_mem); (case hsq => exact sq_ofT2 (by assumption)); (case W => assumption); (case hi => first | assumption | exact ints_eqT2 (by assumption) (by assumption)); (case hT => ((repeat (refine sub_cons (by k_mem) ?_)); (repeat (first | exact sub_id | refine sub_tl ?_)))); (case lo => assumption); (case hkn => assumption); (case hkb => assumption); (case ht => first | assumption | exact Thr.whole _ 0 (by assumption) (by assumption) | exact Thr.half 0); (case h0 => omega); (case h1 => omega); (case hd => ktr_room); (case hu => ktr_units)); all_goals (first | (intro D' us' n' h' tk' hi' F' N' off') | (intro hrs' h' tk' F' N'))) | fail "no")
local macro_rules | `(tactic| walk_at "setItem ref int") => `(tactic| (k_here; k_dflt (refine' x_set_q ?F ?N ?U ?W ?P ?C ?O ?m1 ?a0 ?a5 ?hD ?_; (case F => k_asm); (case N => k_asm); (case U => k_updF); (case W => assumption); (case P => assumption); (case C => assumption); (case O => assumption); (case m1 => k_mem); (case a0 => assumption); (case a5 => assumption); (case hD => exact ⟨by k_ne, by k_ne, by k_ne, by k_ne, by k_ne, by k_ne, by k_ne⟩); k_whole); intro h' oR' F' N' W' C' O'; have hd9' := Lw.d W'; have hq9' := at_putT2 W'; (try dsimp only at N')))
local macro_rules | `(tactic| walk_at "setItem ref int") => `(tactic| (k_here; k_dflt (refine' s_set2 ?B ?F ?X ?N ?hs ?TP ?hk ?D ?O ?lo ?C ?W ?ht ?h0 ?h1 ?a0 ?a5 ?hv ?hd ?hu ?n0 ?n1 ?old ?new; (case B => k_asm); (case F => k_asm); (case X => k_asm); (case N => k_asm); (case TP => k_asm); (case hk => exact rfl); (case D => assumption); (case O => assumption); (case lo => assumption); (case C => assumption); (case W => assumption); (case hs => ((repeat (refine sub_cons (by k_mem) ?_)); (repeat (first | exact sub_id | refine sub_tl ?_)))); (case ht => assumption); (case h0 => omega); (case h1 => omega); (case a0 => assumption); (case a5 => assumption); (case hv => first | exact .inl rfl | exact .inr ⟨_, _, rfl⟩); (case hd => ktr_room); (case hu => ktr_units); (case n0 => omega); (case n1 => omega)); (case' old => (intro hin' rs1' rs2' oD' T' tn' h' tk' hke' hup' hkn' hkb' hsq' C' hkeep' W' O' F' N')); (case' new => (intro hin' rs1' rs2' oD' T' tn' h' tk' hke' hup' hkn' hkb' hsq' C' hkeep' W' O' F' N'))))
local macro_rules | `(tactic| walk_at "isTrue BoolOp") => `(tactic| (k_here; k_dflt (refine' tailB (qs := []) ?B ?F ?X ?N ?hs ?TP ?D ?lo ?C ?hi ?mc ?me ?_; (case B => k_asm); (case F => k_asm); (case X => k_asm); (case N => k_asm); (case TP => k_asm); (case D => assumption); (case me => first | exact rfl | assumption); (case mc => first | exact rfl | assumption); (case lo => assumption); (case C => assumption); (case hs => ((repeat (refine sub_cons (by k_mem) ?_)); (repeat (first | exact sub_id | refine sub_tl ?_)))); (case hi => first | assumption | exact ints_eqT2 (by assumption) (by assumption)); k_whole); intro h' tk' F' N'))
local macro_rules | `(tactic| walk_at "setItem ref") => `(tactic| (k_here; k_dflt (refine' x_set_q ?F ?N ?U ?W ?P ?C ?O ?m1 ?a0 ?a5 ?hD ?_; (case F => k_asm); (case N => k_asm); (case U => k_updF); (case W => assumption); (case P => assumption); (case C => assumption); (case O => assumption); (case m1 => k_mem); (case a0 => assumption); (case a5 => assumption); (case hD => exact ⟨by k_ne, by k_ne, by k_ne, by k_ne, by k_ne, by k_ne, by k_ne⟩); k_whole); intro h' oR' F' N' W' C' O'; have hd9' := Lw.d W'; have hq9' := at_putT2 W'; (try dsimp only at N')))
local macro_rules | `(tactic| walk_at "setItem ref") => `(tactic| (k_here; k_dflt (refine' s_set2 ?B ?F ?X ?N ?hs ?TP ?hk ?D ?O ?lo ?C ?W ?ht ?h0 ?h1 ?a0 ?a5 ?hv ?hd ?hu ?n0 ?n1 ?old ?new; (case B => k_asm); (case F => k_asm); (case X => k_asm); (case N => k_asm); (case TP => k_asm); (case hk => exact rfl); (case D => assumption); (case O => assumption); (case lo => assumption); (case C => assumption); (case W => assumption); (case hs => ((repeat (refine sub_cons (by k_mem) ?_)); (repeat (first | exact sub_id | refine sub_tl ?_)))); (case ht => assumption); (case h0 => omega); (case h1 => omega); (case a0 => assumption); (case a5 => assumption); (case hv => first | exact .inl rfl | exact .inr ⟨_, _, rfl⟩); (case hd => ktr_room); (case hu => ktr_units); (case n0 => omega); (case n1 => omega)); (case' old => (intro hin' rs1' rs2' oD' T' tn' h' tk' hke' hup' hkn' hkb' hsq' C' hkeep' W' O' F' N')); (case' new => (intro hin' rs1' rs2' oD' T' tn' h' tk' hke' hup' hkn' hkb' hsq' C' hkeep' W' O' F' N'))))

set_option maxHeartbeats 2000000 in
theorem kind2 {prog : Program} {w : World} {mean : ExcName → Option Value} {mg mb : Str → Option Value} {h₀ : Heap} {L fa I l : Addr} {oI : Obj} {cdv : Value} {m : Str → Option Value} {s : Shared} {Q : Flow → Shared → Prop} {E : Value → Shared → Prop}
    {T : List (Addr × Obj)} {c cd dD k kd rd e : Addr} {n room num den kv key more : Int} {tn th tc ti t1 t2 t3 t4 tkk tke tmo : Tok} {thr : Value} {held : Bool} {oD oR oC : Obj} {vs : List Value} {ne : Nat} {rs : List Row} {qs : List (Int × Value)} {i : Nat}
    (B : Below callerA h₀ [] h₀) (F : Fr h₀ L s.heap m) (X : (Mine.hd.heap_39 w.params).In h₀)
    (N : News h₀ L s.heap ((c, lru cd dD k n tn (.int room tc) thr) :: (cd, dictOf [] 0) :: (dD, oD) :: (k, instObj 46 kd) :: (kd, lockD w.params th held) :: (rd, oR) :: (e, listOf (List.toArray vs) ne) :: (L + 1, oC) :: T))
    (TP : Top Mine.hd.view_39 (looseW Mine.hd.view_39 [Str.ofString "itemgetter", Str.ofString "LRUCache"]) mean mg mb h₀) (D : Dist c cd dD k kd rd (L + 1)) (O : Offs T c cd dD k kd rd (L + 1)) (lo : (dD == sysModules) = false) (lo2 : (rd == sysModules) = false)
    (C : Cac prog w rs oD T e n) (W : Lw prog w rs qs oR T) (hi : IntsAre vs (rs.map (·.k))) (ht : Thr thr num den) (hn0 : 0 ≤ n) (hn1 : n ≤ (i : Int)) (hi4 : (i : Int) ≤ 39) (h0 : 0 ≤ room) (h1 : room ≤ 4)
    (hIT : (I, oI) ∈ T) (hIc : oI.cls ≠ .type "list")
    (hoc : oC.data = .cell (some (.int key tke))) (hk0 : 0 ≤ key) (hk5 : key ≤ 5)
    (m1 : m (Str.ofString "script") = some (.ref l)) (m2 : m (Str.ofString "room") = some (.int room t1)) (m3 : m (Str.ofString "num") = some (.int num t2)) (m4 : m (Str.ofString "den") = some (.int den t3)) (m5 : m (Str.ofString "c") = some (.ref c)) (m6 : m (Str.ofString "lock") = some (.ref k))
    (m7 : m (Str.ofString "entry") = some (.ref e)) (m8 : m (Str.ofString "rows") = some (.ref rd)) (m9 : m (Str.ofString "counter") = some (.int n t4)) (m10 : m (Str.ofString "held") = some (.bool held))
    (m11 : m (Str.ofString "i") = some (.int (0 + (i : Int)) ti)) (m12 : m (Str.ofString "kind") = some (.int kv tkk)) (m13 : m (Str.ofString "more") = some (.int more tmo))
    (fin : ∀ m' h' tk', StX prog w h₀ L l c cd dD k kd rd th I oI ((i : Int) + 1) h' m' → Q .next { s with heap := h', toks := tk' })
    (hK : kv = 2) : wpAny (model prog w) (callerA.deeper (envOfC (Str.ofString "law") lawScope L fa cdv)) (exec turnIf (envOfC (Str.ofString "law") lawScope L fa cdv)) Q E s := by
  subst hK
  obtain ⟨d12, d13, d14, d15, d16, d17, d23, d24, d25, d26, d27, d34, d35, d36, d37, d45, d46, d47, d56, d57, d67⟩ := id D
  have xe1 : @Ne Nat e c := news_ne N (.tail _ (.tail _ (.tail _ (.tail _ (.tail _ (.tail _ (.head _))))))) (.head _) (by intro h; cases h)
  have xe2 : @Ne Nat e cd := news_ne N (.tail _ (.tail _ (.tail _ (.tail _ (.tail _ (.tail _ (.head _))))))) (.tail _ (.head _)) (fun e => absurd (Value.type.inj e) (by decide))
  have xe3 : @Ne Nat e dD := news_ne N (.tail _ (.tail _ (.tail _ (.tail _ (.tail _ (.tail _ (.head _))))))) (.tail _ (.tail _ (.head _))) (by show Value.type "list" ≠ oD.cls; rw [dict_cls C.d]; exact fun e => absurd (Value.type.inj e) (by decide))
  have xe4 : @Ne Nat e k := news_ne N (.tail _ (.tail _ (.tail _ (.tail _ (.tail _ (.tail _ (.head _))))))) (.tail _ (.tail _ (.tail _ (.head _)))) (by intro h; cases h)
  have xe5 : @Ne Nat e kd := news_ne N (.tail _ (.tail _ (.tail _ (.tail _ (.tail _ (.tail _ (.head _))))))) (.tail _ (.tail _ (.tail _ (.tail _ (.head _))))) (fun e => absurd (Value.type.inj e) (by decide))
  have xe6 : @Ne Nat e rd := news_ne N (.tail _ (.tail _ (.tail _ (.tail _ (.tail _ (.tail _ (.head _))))))) (.tail _ (.tail _ (.tail _ (.tail _ (.tail _ (.head _)))))) (by show Value.type "list" ≠ oR.cls; rw [dict_cls W.d]; exact fun e => absurd (Value.type.inj e) (by decide))
  have xe7 : @Ne Nat e (L + 1) := news_cell N (.tail _ (.tail _ (.tail _ (.tail _ (.tail _ (.tail _ (.head _))))))) (.tail _ (.tail _ (.tail _ (.tail _ (.tail _ (.tail _ (.tail _ (.head _)))))))) hoc
  conv in (occs := *) lawScope => all_goals whnf
  conv in (occs := *) turnIf => all_goals whnf
  have hDR := W.d

  have hz6 : (rs.map (·.k)).length ≤ 1000 := by have := rows_six C.kn C.kb; simp; omega
  k_steps
  all_goals (try (exfalso; omega; done))
  all_goals (refine' fin _ _ _ (StX.intro (StF.mk ?F ?N ?O ?C ?W ?hi ?ht ?n0 ?n1 ?h0 ?h1 ?hoc ?m1 ?m2 ?m3 ?m4 ?m5 ?m6 ?m7 ?m8 ?m9 ?m10) ?b); (case F => k_asm); (case m1 => first | exact rfl | assumption); (case m2 => first | exact rfl | assumption); (case m3 => first | exact rfl | assumption); (case m4 => first | exact rfl | assumption); (case m5 => first | exact rfl | assumption); (case m6 => first | exact rfl | assumption); (case m7 => first | exact rfl | assumption); (case m8 => first | exact rfl | assumption); (case m9 => first | exact rfl | assumption); (case m10 => first | exact rfl | assumption); (case O => assumption); (case C => first | assumption | exact cac_up (by assumption) (by omega) | exact cac_entry (by assumption) (off9T2 (off8T2 (by assumption)))); (case W => first | assumption | exact lw_sub (by assumption) (sqz_sub (by assumption)) | exact lw_lessT2 (by assumption)); (case N => (refine news_sub (by k_asm) ?_; ((repeat (refine sub_cons (by k_mem) ?_)); (repeat (first | exact sub_id | refine sub_tl ?_))))); (case hi => first | assumption | exact ints_eqT2 (by assumption) (by assumption)); (case ht => first | assumption | exact Thr.whole _ _ (by assumption) (by assumption) | exact Thr.half _); (case n0 => omega); (case n1 => omega); (case h0 => omega); (case h1 => omega); (case hoc => assumption); (case b => first | assumption | exact keep_atT2 (by assumption) (by assumption) (by assumption) | exact List.Mem.tail _ (by assumption) | exact List.Mem.tail _ (keep_atT2 (by assumption) (by assumption) (by assumption))))

end Mine
end
section
namespace Mine
local macro_rules | `(tactic| walk_at "none of mine") => `(tactic| fail "none")
local macro_rules | `(tactic| walk_at "none of mine") => `(tactic| fail "none")
local macro_rules | `(tactic| walk_at "none of mine") => `(tactic| fail "none")
local macro_rules | `(tactic| walk_at "none of mine") => `(tactic| fail "none")
theorem fillT3 : True := by
  w_top off
  trivial


local macro_rules | `(tactic| k_room) => `(tactic| ktr_room)
local macro_rules | `(tactic| k_units) => `(tactic| ktr_units)
local macro_rules | `(tactic| ktr_enter) => `(tactic| (refine' code_def ?k1 ?k2 ?k3 ?k4 ?k5 ?kA ?kF ?kK ?k6 ?k7 ?k8 ?k9 ?kB ?_ ?c2 ?c3 ?c4 ?c5; (case kA => exact rfl); (case kF => exact rfl); (case kK => first | assumption | exact rfl); (case k1 => k_asm); (case k2 => k_asm); (case k3 => k_asm); (case k4 => k_asm); (case k5 => k_asm); (case k6 => k_is); (case k7 => k_is); (case k8 => ktr_room); (case k9 => first | exact BindsTo.of_eq rfl | exact binds_K (by k_in) rfl (by k_is) rfl rfl rfl | fail "ktr_enter: no rule for these arguments"); (case c5 => decide); (case kB => exact locs rfl); (case c2 => exact rfl); (case c3 => exact rfl); (case c4 => exact rfl); k_whole; intro g' L' h' FG' F' N' B' X' T'; (try dsimp only); (try k_fold)))
local macro_rules | `(tactic| k_lt $h:ident) => `(tactic| (replace $h := allLt_of $h; simp only [AllLt, and_true] at $h:ident; (try ((fail_if_success (rename AllLt _ _ => l6)); have l7 : AllLt _ _ := (by first | exact ($h).2 | exact ($h).2.2 | exact ($h).2.2.2 | exact ($h).2.2.2.2 | exact ($h).2.2.2.2.2 | exact ($h).2.2.2.2.2.2 | exact ($h).2.2.2.2.2.2.2 | exact ($h).2.2.2.2.2.2.2.2 | exact ($h).2.2.2.2.2.2.2.2.2 | exact ($h).2.2.2.2.2.2.2.2.2.2 | exact ($h).2.2.2.2.2.2.2.2.2.2.2 | exact ($h).2.2.2.2.2.2.2.2.2.2.2.2)))))
local macro_rules | `(tactic| k_all) => `(tactic| (refine' allLt_ne ?h6 ?h7; (case h6 => assumption); (case h7 => ((try dsimp only); omega))))
local macro_rules | `(tactic| k_all) => `(tactic| with_reducible assumption)
local macro_rules | `(tactic| walk_at "call builtin:len") => `(tactic| (k_here; (with_reducible show wpAny _ _ (call (Value.builtin "len") [Value.ref _]) _ _ _); k_dflt (refine' kda_len (knd := PySem.intKind _ _) ?N ?m ?d ?lo ?f ?_; (case N => k_asm); (case m => k_mem); (case d => k_asm); (case lo => k_asm); (case f => assumption); k_whole)))
local macro_rules | `(tactic| walk_at "getMethod ref") => `(tactic| (k_here; (with_reducible show wpAny _ _ (getMethod (Value.ref _) (Str.ofString "get") _) _ _ _); k_dflt (refine' kdg_method (knd := PySem.intKind _ _) ?N ?m ?d ?_; (case N => k_asm); (case m => k_mem); (case d => k_asm); k_whole)))
local macro_rules | `(tactic| walk_at "call builtin:dict.get") => `(tactic| (k_here; (with_reducible show wpAny _ _ (call (Value.builtin "dict.get") [Value.ref _, Value.int _ _]) _ _ _); k_dflt (refine' kdg_get1 (knd := PySem.intKind _ _) ?N ?m ?d ?lo (intKind_is _ _ _ _) _ ?hl ?_; (case N => k_asm); (case m => k_mem); (case d => k_asm); (case lo => k_asm); (case hl => assumption); k_whole; (try dsimp only [Option.getD]))))
local macro_rules | `(tactic| walk_at "subscriptTail") => `(tactic| (k_here; (with_reducible show wpAny _ _ (subscriptTail _ _ (Value.ref _) (Value.int _ _)) _ _ _); k_dflt (refine' kda_item (knd := PySem.intKind _ _) ?N ?m ?d (intKind_is _ _ _ _) ?hl ?_; (case N => k_asm); (case m => k_mem); (case d => k_asm); (case hl => assumption); k_whole)))
theorem x_get_missT3 {prog : Program} {w : World} {A : Around} {E : Value → Shared → Prop} {s : Shared} {h₀ : Heap} {L d : Addr} {news : List (Addr × Obj)} {o : Obj} {kvs : List (Int × Value)} {k : Int} {t : Tok} {Q : Value → Shared → Prop}
    (N : News h₀ L s.heap news) (hp : (d, o) ∈ news) (hd : o.IsDictOf (PySem.intKind prog w) kvs) (lo : (d == sysModules) = false) (hh : A.handled = none) (hl : valueAt kvs k = none)
    (h : ∀ h' e, Heap.NewExc s.heap h' e "KeyError" → E (.ref e) { s with heap := h', toks := s.toks + 1 }) : wpAny (model prog w) A (getItem (.ref d) (.int k t)) Q E s :=
  wpAny_getItem_missing_of (intKind_is _ _ _ _) lo hh (kda_dict N hp hd).mapOf hl h
local macro_rules | `(tactic| walk_at "getItem ref int") => `(tactic| (k_here; k_dflt (refine' x_get_missT3 ?N ?m ?d ?lo ?hh ?hl ?_; (case N => k_asm); (case m => k_mem); (case d => k_asm); (case lo => k_asm); (case hh => exact rfl); (case hl => assumption); k_whole); intro h' e' x'))
local macro_rules | `(tactic| walk_at "getItem ref int") => `(tactic| (k_here; k_dflt (refine' kdt_getItem (knd := PySem.intKind _ _) ?N ?m ?d (intKind_is _ _ _ _) ?hl ?_; (case N => k_asm); (case m => k_mem); (case d => k_asm); (case hl => assumption); k_whole)))
local macro_rules | `(tactic| walk_at "delItem ref int") => `(tactic| (k_here; k_dflt (refine' x_del_miss ?N ?m ?d ?lo ?hh ?hl ?_; (case N => k_asm); (case m => k_mem); (case d => k_asm); (case lo => k_asm); (case hh => exact rfl); (case hl => assumption); k_whole); intro h' e' x'))
local macro_rules | `(tactic| walk_at "delItem ref int") => `(tactic| (k_here; k_dflt (refine' kob_del (knd := PySem.intKind _ _) ?F ?N ?U ?d (intKind_is _ _ _ _) ?l ?z ?_; (case F => k_asm); (case N => k_asm); (case U => k_updF); (case d => k_asm); (case l => assumption); (case z => first | assumption | (rw [sizeLine_eq]; assumption)); k_whole); intro h' o' F' N' hd'; (try dsimp only at N')))
theorem x_del_ownT3 {M : Model} {A : Around} {E : Value → Shared → Prop} {s : Shared} {K : Frag} {x C L f : Addr} {h₀ : Heap} {m : Str → Option Value} {ox : Obj} {od : Option Obj} {i : Value} {Q : Unit → Shared → Prop}
    (F : Fr h₀ L s.heap m) (X₀ : K.In h₀) (I : InstAt s.heap x ox C od) (hq : noSeq K C = true) (hs : findIn K (.ref C) "__delitem__" = some (some (.ref f))) (hf : isFn K (.ref f) = true)
    (h : wpAny M A (call (.ref f) [.ref x, i]) (fun _ s' => Q () s') E s) : wpAny M A (delItem (.ref x) i) Q E s := by
  have X := X₀.keeps F.keep
  unfold delItem sequenceKey
  refine wpAny_holding (wpAny_bind (wpAny_bind (I.type.here ?_)))
  refine wpAny_bind ((anyM_none X hq).here ?_)
  rw [if_pos (show (!false) = true from rfl)]
  exact wpAny_pure (wpAny_bind (special_fn X I hs (beq_iff_eq.mp hf) (wpAny_mono h (fun _ _ z => wpAny_pure z) fun _ _ z => z)))
local macro_rules | `(tactic| walk_at "delItem ref int") => `(tactic| (k_here; k_dflt (refine' x_del_ownT3 ?k1 ?k2 ?k3 ?k4 ?k5 ?k6 ?_; (case k1 => k_asm); (case k2 => k_asm); (case k3 => k_inst); (case k4 => k_is); (case k5 => k_is); (case k6 => k_is); k_whole)))
local macro_rules | `(tactic| walk_at "WhlIf") => `(tactic| (first | (refine WhlIf.yes (decide_eq_true (by omega)) ?_) | (refine WhlIf.no (decide_eq_false (by omega)) ?_)))
local macro_rules | `(tactic| walk_at "eval Dict nil nil") => `(tactic| (k_here; k_dflt (refine' newDict_K ?k1 ?k2 ?k3 ?_; (case k1 => k_asm); (case k2 => k_asm); (case k3 => first | exact Top.nolimit (by k_asm) | exact TopRead.nolimit (by k_asm)); k_whole); intro d' h' o' F' N' l1 lo' hs' fs' hi' fi'; (try k_lt l1)))
theorem add_genT3 {prog : Program} {w : World} {A : Around} {E : Value → Shared → Prop} {s : Shared} {a b : Int} {ta tb : Tok} {Q : Value → Shared → Prop} (h : ∀ t tk, Q (.int (a + b) t) { s with toks := tk }) : wpAny (model prog w) A (binaryOp .Add (.int a ta) (.int b tb)) Q E s := add_int (h _ _)
local macro_rules | `(tactic| walk_at "binaryOp Add int int") => `(tactic| (k_here; with_reducible (refine add_genT3 ?_); intro t' tk'))


theorem lw_lessT3 {prog : Program} {w : World} {rs : List Row} {ks : List Int} {qs : List (Int × Value)} {oR : Obj} {T : List (Addr × Obj)} (W : Lw prog w rs qs oR T) : Lw prog w (less rs ks) qs oR T := lw_sub W fun _ hx => (List.mem_filter.mp hx).1
theorem keep_atT3 {T T' : List (Addr × Obj)} {p : Addr × Obj} (h : ∀ p ∈ T, p.2.cls ≠ .type "list" → p ∈ T') (hp : p ∈ T) (hc : p.2.cls ≠ .type "list") : p ∈ T' := h p hp hc
theorem at_putT3 {prog : Program} {w : World} {rs : List Row} {qs : List (Int × Value)} {key : Int} {v : Value} {oR : Obj} {T : List (Addr × Obj)} (_ : Lw prog w rs (stored qs key v) oR T) : valueAt (stored qs key v) key = some v := by rw [at_stored, if_pos rfl]
theorem off8T3 {p1 p2 p3 p4 p5 p6 p7 p8 P : Prop} (h : p1 ∧ p2 ∧ p3 ∧ p4 ∧ p5 ∧ p6 ∧ p7 ∧ p8 ∧ P) : P := h.2.2.2.2.2.2.2.2
theorem off9T3 {D : Addr} : ∀ {T : List (Addr × Obj)}, PyProof.Rows.LCg.Off1 D T → ∀ p ∈ T, p.1 ≠ D
  | [], _, _, h => nomatch h
  | q :: r, h, p, hp => by
    rcases List.mem_cons.mp hp with rfl | hp
    · exact h.1
    · exact off9T3 h.2 p hp
theorem bne_decT3 (a b : Int) : (a != b) = decide (a ≠ b) := by by_cases h : a = b <;> simp [h]
local macro_rules | `(tactic| walk_at "Eq") => `(tactic| exact bne_decT3 _ _)
theorem ne_ltT3 {T news : List (Addr × Obj)} {D : Addr} (l1 : ∀ p ∈ news, p.1 < D) (hs : ∀ p ∈ T, p ∈ news) : ∀ p ∈ T, p.1 ≠ D := fun p hp => Nat.ne_of_lt (l1 p (hs p hp))
theorem ne_atT3 {T news : List (Addr × Obj)} {D : Addr} (l1 : ∀ p ∈ news, p.1 ≠ D) (hs : ∀ p ∈ T, p ∈ news) : ∀ p ∈ T, p.1 ≠ D := fun p hp => l1 p (hs p hp)
theorem sqz_trueT3 {rs rs2 : List Row} {a b c : Int} (h : Sqz true rs rs2 a b c) : rs2 = rs := by
  rcases h with ⟨_, h⟩ | ⟨h, _⟩
  · exact h
  · cases h
theorem less_oneT3 {rs : List Row} {key : Int} (_ : key ∈ rs.map (·.k)) : (less rs [key]).map (·.k) = (rs.filter fun r => decide (r.k ≠ key)).map (·.k) := by
  have : less rs [key] = rs.filter fun r => decide (r.k ≠ key) := List.filter_congr fun r _ => by simp
  rw [this]
theorem less_noneT3 {rs : List Row} {key : Int} (h : key ∉ rs.map (·.k)) : rs.map (·.k) = (rs.filter fun r => decide (r.k ≠ key)).map (·.k) := by
  have : rs.filter (fun r => decide (r.k ≠ key)) = rs := List.filter_eq_self.mpr fun r hr => decide_eq_true fun e => h (e ▸ List.mem_map_of_mem hr)
  rw [this]
local macro_rules | `(tactic| k_all) => `(tactic| first | exact ne_atT3 (by assumption) (by ((repeat (refine sub_cons (by k_mem) ?_)); (repeat (first | exact sub_id | refine sub_tl ?_)))) | exact ne_ltT3 (by assumption) (by ((repeat (refine sub_cons (by k_mem) ?_)); (repeat (first | exact sub_id | refine sub_tl ?_)))))
local macro_rules | `(tactic| walk_at "binaryOp Add ref ref") => `(tactic| (k_here; (with_reducible show wpAny _ _ (binaryOp _ (Value.ref _) (Value.ref _)) _ _ _); k_dflt (refine' x_add_one ?F ?N ?m1 ?m2 ?i1 ?hz ?_; (case F => k_asm); (case N => k_asm); (case m1 => k_mem); (case m2 => k_mem); (case i1 => with_reducible assumption); (case hz => assumption); k_whole); intro D' us' h' F' N' l1 hi'; have l9' := l1; (try k_lt l1)))
local macro_rules | `(tactic| walk_at "compareOp In int ref") => `(tactic| (k_here; (with_reducible show wpAny _ _ (compareOp CmpOp.In (Value.int _ _) (Value.ref _)) _ _ _); k_dflt (first
  | (refine' x_in_yes ?N ?m1 ?i1 ?hin ?_; (case N => k_asm); (case m1 => k_mem); (case i1 => with_reducible assumption); (case hin => assumption); k_whole)
  | (refine' x_in_no ?N ?m1 ?i1 ?hin ?_; (case N => k_asm); (case m1 => k_mem); (case i1 => with_reducible assumption); (case hin => assumption); k_whole))))
local macro_rules | `(tactic| walk_at "compareOp NotIn int ref") => `(tactic| (k_here; (with_reducible show wpAny _ _ (compareOp CmpOp.NotIn (Value.int _ _) (Value.ref _)) _ _ _); k_dflt (first
  | (refine' x_notin_yes ?N ?m1 ?i1 ?hin ?_; (case N => k_asm); (case m1 => k_mem); (case i1 => with_reducible assumption); (case hin => assumption); k_whole)
  | (refine' x_notin_no ?N ?m1 ?i1 ?hin ?_; (case N => k_asm); (case m1 => k_mem); (case i1 => with_reducible assumption); (case hin => assumption); k_whole))))
local macro_rules | `(tactic| k_ne) => `(tactic| (refine neN ?_; (try dsimp only); first | assumption | (refine Ne.symm ?_; assumption) | omega))
local macro_rules | `(tactic| walk_at "CompSrcT") => `(tactic| (k_here; k_dflt (refine' comp_src_ne ?hdc _ ?hh ?F ?N ?m ?i ?z ?test ?turn ?fin; (case hdc => first | with_reducible assumption | assumption); (case hh => rfl); (case F => k_asm); (case N => k_asm); (case m => k_mem); (case i => with_reducible assumption); (case z => assumption)); (case' test => (intro g' r' hr' t' I' oI' C' oC' D' m2' h' tk' E' ys' hC' hx' F' N')); (case' turn => (intro g' r' hr' t' I' oI' C' oC' D' m2' h' tk' E' ys' hC' hx' F' N')); (case' fin => (intro g' us' hi'))))
local macro_rules | `(tactic| walk_at "Keep") => `(tactic| exact Keep.intro (by k_asm) (by k_asm))
local macro_rules | `(tactic| walk_at "exec Assign cons ListComp") => `(tactic| (k_here; lct_look; k_dflt (refine LCt.Assign_ListComp_T (F₀ := by k_asm) (by rfl) (by with_unfolding_all rfl) (by with_unfolding_all rfl) (by decide) (by rfl) (by decide) (by rfl) (by rfl) (by rfl) ?_)))

theorem ints_eqT3 {vs : List Value} {a b : List Int} (e : a = b) (h : IntsAre vs b) : IntsAre vs a := e ▸ h
theorem sq_ofT3 {rs rs2 : List Row} {a b c : Int} (h : Sqz false rs rs2 a b c) : Sq rs rs2 a b c := by
  rcases h with ⟨h, _⟩ | ⟨_, h⟩
  · cases h
  · exact h
local macro_rules | `(tactic| k_mem) => `(tactic| assumption)
local macro_rules | `(tactic| walk_at "eval Name") => `(tactic| (k_here; k_dflt (refine' nameX_L ?k1 ?k2 ?_ ?a ?b; (case a => rfl); (case b => rfl); (case k1 => k_asm); (case k2 => assumption); k_whole)))
local macro_rules | `(tactic| k_all) => `(tactic| first | exact Offs.o1 (by assumption) | exact Offs.o2 (by assumption) | exact Offs.o3 (by assumption) | exact Offs.o4 (by assumption) | exact Offs.o5 (by assumption) | exact Offs.o6 (by assumption) | exact Offs.o7 (by assumption))
local macro_rules | `(tactic| walk_at "call ref") => `(tactic| (k_here; (with_reducible show wpAny _ _ (call (Value.ref 116) _) _ _ _); k_dflt (refine' s_inc (rs := []) (qs := []) ?B ?F ?X ?N ?hs ?TP ?hk ?D ?O ?hd ?hu ?n0 ?n1 ?_; (case B => k_asm); (case F => k_asm); (case X => k_asm); (case N => k_asm); (case TP => k_asm); (case hk => exact rfl); (case D => assumption); (case O => assumption); (case hs => ((repeat (refine sub_cons (by k_mem) ?_)); (repeat (first | exact sub_id | refine sub_tl ?_)))); (case hd => ktr_room); (case hu => ktr_units); (case n0 => omega); (case n1 => omega); k_whole); intro t' h' tk' F' N'))
local macro_rules | `(tactic| walk_at "call ref") => `(tactic| (k_here; (with_reducible show wpAny _ _ (call (Value.ref 124) _) _ _ _); k_dflt (refine' s_get ?B ?F ?X ?N ?hs ?TP ?hk ?D ?O ?lo ?C ?W ?hd ?hu ?n0 ?n1 ?hit ?miss; (case B => k_asm); (case F => k_asm); (case X => k_asm); (case N => k_asm); (case TP => k_asm); (case hk => exact rfl); (case D => assumption); (case O => assumption); (case lo => assumption); (case C => assumption); (case W => assumption); (case hs => ((repeat (refine sub_cons (by k_mem) ?_)); (repeat (first | exact sub_id | refine sub_tl ?_)))); (case hd => ktr_room); (case hu => ktr_units); (case n0 => omega); (case n1 => omega)); (case' hit => (intro hin' v' st' qa' t1' n1' rs' T' tn' h' tk' hv' hq' hm' hke' hup' C' W' hkeep' O' F' N'; rcases hv' with hv' | ⟨j', tj', hv'⟩ <;> subst hv')); (case' miss => (intro hin' h' tk' F' N'))))
local macro_rules | `(tactic| walk_at "call ref") => `(tactic| (k_here; (with_reducible show wpAny _ _ (call (Value.ref 203) _) _ _ _); k_dflt (refine' s_read ?B ?F ?X ?N ?hs ?TP ?hk ?D ?O ?lo ?C ?W ?hd ?hu ?n0 ?n1 ?hit ?miss; (case B => k_asm); (case F => k_asm); (case X => k_asm); (case N => k_asm); (case TP => k_asm); (case hk => exact rfl); (case D => assumption); (case O => assumption); (case lo => assumption); (case C => assumption); (case W => assumption); (case hs => ((repeat (refine sub_cons (by k_mem) ?_)); (repeat (first | exact sub_id | refine sub_tl ?_)))); (case hd => ktr_room); (case hu => ktr_units); (case n0 => omega); (case n1 => omega)); (case' hit => (intro hin' v' st' qa' t1' n1' rs' T' tn' h' tk' hv' hq' hm' hke' hup' C' W' hkeep' O' F' N'; rcases hv' with hv' | ⟨j', tj', hv'⟩ <;> subst hv')); (case' miss => (intro hin' h' tk' F' N' t'))))
local macro_rules | `(tactic| walk_at "call ref") => `(tactic| (k_here; (with_reducible show wpAny _ _ (call (Value.ref 210) _) _ _ _); k_dflt (refine' s_take (qs := []) ?B ?F ?X ?N ?hs ?TP ?hk ?D ?O ?lo ?C ?hd ?hu ?hit ?miss; (case B => k_asm); (case F => k_asm); (case X => k_asm); (case N => k_asm); (case TP => k_asm); (case hk => exact rfl); (case D => assumption); (case O => assumption); (case lo => assumption); (case C => assumption); (case hs => ((repeat (refine sub_cons (by k_mem) ?_)); (repeat (first | exact sub_id | refine sub_tl ?_)))); (case hd => ktr_room); (case hu => ktr_units)); (case' hit => (intro hin' oD' h' tk' C' F' N'; have hle' := less_oneT3 hin')); (case' miss => (intro hin' h' tk' F' N'; have hle' := less_noneT3 hin'))))
local macro_rules | `(tactic| walk_at "call ref") => `(tactic| (k_here; (with_reducible show wpAny _ _ (call (Value.ref 174) _) _ _ _); k_dflt (refine' s_man (qs := []) ?B ?F ?X ?N ?hs ?TP ?hk ?D ?O ?lo ?C ?ht ?h0 ?h1 ?hd ?hu ?_; (case B => k_asm); (case F => k_asm); (case X => k_asm); (case N => k_asm); (case TP => k_asm); (case hk => exact rfl); (case D => assumption); (case O => assumption); (case lo => assumption); (case C => assumption); (case hs => ((repeat (refine sub_cons (by k_mem) ?_)); (repeat (first | exact sub_id | refine sub_tl ?_)))); (case ht => first | assumption | exact Thr.whole _ _ (by assumption) (by assumption) | exact Thr.half _); (case h0 => omega); (case h1 => omega); (case hd => ktr_room); (case hu => ktr_units); k_whole); intro rs2' oD' h' tk' hsq' C' F' N'))
local macro_rules | `(tactic| walk_at "call ref") => `(tactic| first | (k_here; (with_reducible show wpAny _ _ (call (Value.ref 196) _) _ _ _); k_dflt (refine' s_kept ?B ?F ?X ?N ?TP ?hk ?m1 ?m2 ?hi ?W ?hT ?lo ?hkn ?hkb ?ht ?h0 ?h1 ?hsq ?hd ?hu ?_ ?_; (case B => k_asm); (case F => k_asm); (case X => k_asm); (case N => k_asm); (case TP => k_asm); (case hk => exact rfl); (case m1 => k_mem); (case m2 => k_mem); (case hsq => exact sq_ofT3 (by assumption)); (case W => assumption); (case hi => first | assumption | exact ints_eqT3 (by assumption) (by assumption)); (case hT => ((repeat (refine sub_cons (by k_mem) ?_)); (repeat (first | exact sub_id | refine sub_tl ?_)))); (case lo => assumption); (case hkn => assumption); (case hkb => assumption); (case ht => first | assumption | exact Thr.whole _ 0 (by assumption) (by assumption) | exact Thr.half 0); (case h0 => omega); (case h1 => omega); (case hd => ktr_room); (case hu => ktr_units)); all_goals (first | (intro D' us' n' h' tk' hi' F' N' off') | (intro hrs' h' tk' F' N'))) | fail "no")
local macro_rules | `(tactic| walk_at "setItem ref int") => `(tactic| (k_here; k_dflt (refine' x_set_q ?F ?N ?U ?W ?P ?C ?O ?m1 ?a0 ?a5 ?hD ?_; (case F => k_asm); (case N => k_asm); (case U => k_updF); (case W => assumption); (case P => assumption); (case C => assumption); (case O => assumption); (case m1 => k_mem); (case a0 => assumption); (case a5 => assumption); (case hD => exact ⟨by k_ne, by k_ne, by k_ne, by k_ne, by k_ne, by k_ne, by k_ne⟩); k_whole); intro h' oR' F' N' W' C' O'; have hd9' := Lw.d W'; have hq9' := at_putT3 W'; (try dsimp only at N')))
local macro_rules | `(tactic| walk_at "setItem ref int") => `(tactic| (k_here; k_dflt (refine' s_set2 ?B ?F ?X ?N ?hs ?TP ?hk ?D ?O ?lo ?C ?W ?ht ?h0 ?h1 ?a0 ?a5 ?hv ?hd ?hu ?n0 ?n1 ?old ?new; (case B => k_asm); (case F => k_asm); (case X => k_asm); (case N => k_asm); (case TP => k_asm); (case hk => exact rfl); (case D => assumption); (case O => assumption); (case lo => assumption); (case C => assumption); (case W => assumption); (case hs => ((repeat (refine sub_cons (by k_mem) ?_)); (repeat (first | exact sub_id | refine sub_tl ?_)))); (case ht => assumption); (case h0 => omega); (case h1 => omega); (case a0 => assumption); (case a5 => assumption); (case hv => first | exact .inl rfl | exact .inr ⟨_, _, rfl⟩); (case hd => ktr_room); (case hu => ktr_units); (case n0 => omega); (case n1 => omega)); (case' old => (intro hin' rs1' rs2' oD' T' tn' h' tk' hke' hup' hkn' hkb' hsq' C' hkeep' W' O' F' N')); (case' new => (intro hin' rs1' rs2' oD' T' tn' h' tk' hke' hup' hkn' hkb' hsq' C' hkeep' W' O' F' N'))))
local macro_rules | `(tactic| walk_at "isTrue BoolOp") => `(tactic| (k_here; k_dflt (refine' tailB (qs := []) ?B ?F ?X ?N ?hs ?TP ?D ?lo ?C ?hi ?mc ?me ?_; (case B => k_asm); (case F => k_asm); (case X => k_asm); (case N => k_asm); (case TP => k_asm); (case D => assumption); (case me => first | exact rfl | assumption); (case mc => first | exact rfl | assumption); (case lo => assumption); (case C => assumption); (case hs => ((repeat (refine sub_cons (by k_mem) ?_)); (repeat (first | exact sub_id | refine sub_tl ?_)))); (case hi => first | assumption | exact ints_eqT3 (by assumption) (by assumption)); k_whole); intro h' tk' F' N'))
local macro_rules | `(tactic| walk_at "setItem ref") => `(tactic| (k_here; k_dflt (refine' x_set_q ?F ?N ?U ?W ?P ?C ?O ?m1 ?a0 ?a5 ?hD ?_; (case F => k_asm); (case N => k_asm); (case U => k_updF); (case W => assumption); (case P => assumption); (case C => assumption); (case O => assumption); (case m1 => k_mem); (case a0 => assumption); (case a5 => assumption); (case hD => exact ⟨by k_ne, by k_ne, by k_ne, by k_ne, by k_ne, by k_ne, by k_ne⟩); k_whole); intro h' oR' F' N' W' C' O'; have hd9' := Lw.d W'; have hq9' := at_putT3 W'; (try dsimp only at N')))
local macro_rules | `(tactic| walk_at "setItem ref") => `(tactic| (k_here; k_dflt (refine' s_set2 ?B ?F ?X ?N ?hs ?TP ?hk ?D ?O ?lo ?C ?W ?ht ?h0 ?h1 ?a0 ?a5 ?hv ?hd ?hu ?n0 ?n1 ?old ?new; (case B => k_asm); (case F => k_asm); (case X => k_asm); (case N => k_asm); (case TP => k_asm); (case hk => exact rfl); (case D => assumption); (case O => assumption); (case lo => assumption); (case C => assumption); (case W => assumption); (case hs => ((repeat (refine sub_cons (by k_mem) ?_)); (repeat (first | exact sub_id | refine sub_tl ?_)))); (case ht => assumption); (case h0 => omega); (case h1 => omega); (case a0 => assumption); (case a5 => assumption); (case hv => first | exact .inl rfl | exact .inr ⟨_, _, rfl⟩); (case hd => ktr_room); (case hu => ktr_units); (case n0 => omega); (case n1 => omega)); (case' old => (intro hin' rs1' rs2' oD' T' tn' h' tk' hke' hup' hkn' hkb' hsq' C' hkeep' W' O' F' N')); (case' new => (intro hin' rs1' rs2' oD' T' tn' h' tk' hke' hup' hkn' hkb' hsq' C' hkeep' W' O' F' N'))))


set_option maxHeartbeats 2000000 in
theorem kind3 {prog : Program} {w : World} {mean : ExcName → Option Value} {mg mb : Str → Option Value} {h₀ : Heap} {L fa I l : Addr} {oI : Obj} {cdv : Value} {m : Str → Option Value} {s : Shared} {Q : Flow → Shared → Prop} {E : Value → Shared → Prop}
    {T : List (Addr × Obj)} {c cd dD k kd rd e : Addr} {n room num den kv key more : Int} {tn th tc ti t1 t2 t3 t4 tkk tke tmo : Tok} {thr : Value} {held : Bool} {oD oR oC : Obj} {vs : List Value} {ne : Nat} {rs : List Row} {qs : List (Int × Value)} {i : Nat}
    (B : Below callerA h₀ [] h₀) (F : Fr h₀ L s.heap m) (X : (Mine.hd.heap_39 w.params).In h₀)
    (N : News h₀ L s.heap ((c, lru cd dD k n tn (.int room tc) thr) :: (cd, dictOf [] 0) :: (dD, oD) :: (k, instObj 46 kd) :: (kd, lockD w.params th held) :: (rd, oR) :: (e, listOf (List.toArray vs) ne) :: (L + 1, oC) :: T))
    (TP : Top Mine.hd.view_39 (looseW Mine.hd.view_39 [Str.ofString "itemgetter", Str.ofString "LRUCache"]) mean mg mb h₀) (D : Dist c cd dD k kd rd (L + 1)) (O : Offs T c cd dD k kd rd (L + 1)) (lo : (dD == sysModules) = false) (lo2 : (rd == sysModules) = false)
    (C : Cac prog w rs oD T e n) (W : Lw prog w rs qs oR T) (hi : IntsAre vs (rs.map (·.k))) (ht : Thr thr num den) (hn0 : 0 ≤ n) (hn1 : n ≤ (i : Int)) (hi4 : (i : Int) ≤ 39) (h0 : 0 ≤ room) (h1 : room ≤ 4)
    (hIT : (I, oI) ∈ T) (hIc : oI.cls ≠ .type "list")
    (hoc : oC.data = .cell (some (.int key tke))) (hk0 : 0 ≤ key) (hk5 : key ≤ 5)
    (m1 : m (Str.ofString "script") = some (.ref l)) (m2 : m (Str.ofString "room") = some (.int room t1)) (m3 : m (Str.ofString "num") = some (.int num t2)) (m4 : m (Str.ofString "den") = some (.int den t3)) (m5 : m (Str.ofString "c") = some (.ref c)) (m6 : m (Str.ofString "lock") = some (.ref k))
    (m7 : m (Str.ofString "entry") = some (.ref e)) (m8 : m (Str.ofString "rows") = some (.ref rd)) (m9 : m (Str.ofString "counter") = some (.int n t4)) (m10 : m (Str.ofString "held") = some (.bool held))
    (m11 : m (Str.ofString "i") = some (.int (0 + (i : Int)) ti)) (m12 : m (Str.ofString "kind") = some (.int kv tkk)) (m13 : m (Str.ofString "more") = some (.int more tmo))
    (fin : ∀ m' h' tk', StX prog w h₀ L l c cd dD k kd rd th I oI ((i : Int) + 1) h' m' → Q .next { s with heap := h', toks := tk' })
    (hK : kv = 3) : wpAny (model prog w) (callerA.deeper (envOfC (Str.ofString "law") lawScope L fa cdv)) (exec turnIf (envOfC (Str.ofString "law") lawScope L fa cdv)) Q E s := by
  subst hK
  obtain ⟨d12, d13, d14, d15, d16, d17, d23, d24, d25, d26, d27, d34, d35, d36, d37, d45, d46, d47, d56, d57, d67⟩ := id D
  have xe1 : @Ne Nat e c := news_ne N (.tail _ (.tail _ (.tail _ (.tail _ (.tail _ (.tail _ (.head _))))))) (.head _) (by intro h; cases h)
  have xe2 : @Ne Nat e cd := news_ne N (.tail _ (.tail _ (.tail _ (.tail _ (.tail _ (.tail _ (.head _))))))) (.tail _ (.head _)) (fun e => absurd (Value.type.inj e) (by decide))
  have xe3 : @Ne Nat e dD := news_ne N (.tail _ (.tail _ (.tail _ (.tail _ (.tail _ (.tail _ (.head _))))))) (.tail _ (.tail _ (.head _))) (by show Value.type "list" ≠ oD.cls; rw [dict_cls C.d]; exact fun e => absurd (Value.type.inj e) (by decide))
  have xe4 : @Ne Nat e k := news_ne N (.tail _ (.tail _ (.tail _ (.tail _ (.tail _ (.tail _ (.head _))))))) (.tail _ (.tail _ (.tail _ (.head _)))) (by intro h; cases h)
  have xe5 : @Ne Nat e kd := news_ne N (.tail _ (.tail _ (.tail _ (.tail _ (.tail _ (.tail _ (.head _))))))) (.tail _ (.tail _ (.tail _ (.tail _ (.head _))))) (fun e => absurd (Value.type.inj e) (by decide))
  have xe6 : @Ne Nat e rd := news_ne N (.tail _ (.tail _ (.tail _ (.tail _ (.tail _ (.tail _ (.head _))))))) (.tail _ (.tail _ (.tail _ (.tail _ (.tail _ (.head _)))))) (by show Value.type "list" ≠ oR.cls; rw [dict_cls W.d]; exact fun e => absurd (Value.type.inj e) (by decide))
  have xe7 : @Ne Nat e (L + 1) := news_cell N (.tail _ (.tail _ (.tail _ (.tail _ (.tail _ (.tail _ (.head _))))))) (.tail _ (.tail _ (.tail _ (.tail _ (.tail _ (.tail _ (.tail _ (.head _)))))))) hoc
  conv in (occs := *) lawScope => all_goals whnf
  conv in (occs := *) turnIf => all_goals whnf
  have hDR := W.d

  have hz6 : (rs.map (·.k)).length ≤ 1000 := by have := rows_six C.kn C.kb; simp; omega
  k_steps
  all_goals (try (walk_at "CompSrcT"))
  all_goals (try k_steps)
  all_goals (try (exfalso; omega; done))
  all_goals (refine' fin _ _ _ (StX.intro (StF.mk ?F ?N ?O ?C ?W ?hi ?ht ?n0 ?n1 ?h0 ?h1 ?hoc ?m1 ?m2 ?m3 ?m4 ?m5 ?m6 ?m7 ?m8 ?m9 ?m10) ?b); (case F => k_asm); (case m1 => first | exact rfl | assumption); (case m2 => first | exact rfl | assumption); (case m3 => first | exact rfl | assumption); (case m4 => first | exact rfl | assumption); (case m5 => first | exact rfl | assumption); (case m6 => first | exact rfl | assumption); (case m7 => first | exact rfl | assumption); (case m8 => first | exact rfl | assumption); (case m9 => first | exact rfl | assumption); (case m10 => first | exact rfl | assumption); (case O => assumption); (case C => first | assumption | exact cac_up (by assumption) (by omega) | exact cac_entry (by assumption) (off9T3 (off8T3 (by assumption)))); (case W => first | assumption | exact lw_sub (by assumption) (sqz_sub (by assumption)) | exact lw_lessT3 (by assumption)); (case N => (refine news_sub (by k_asm) ?_; ((repeat (refine sub_cons (by k_mem) ?_)); (repeat (first | exact sub_id | refine sub_tl ?_))))); (case hi => first | assumption | exact ints_eqT3 (by assumption) (by assumption)); (case ht => first | assumption | exact Thr.whole _ _ (by assumption) (by assumption) | exact Thr.half _); (case n0 => omega); (case n1 => omega); (case h0 => omega); (case h1 => omega); (case hoc => assumption); (case b => first | assumption | exact keep_atT3 (by assumption) (by assumption) (by assumption) | exact List.Mem.tail _ (by assumption) | exact List.Mem.tail _ (keep_atT3 (by assumption) (by assumption) (by assumption))))

end Mine
end
section
namespace Mine
local macro_rules | `(tactic| walk_at "none of mine") => `(tactic| fail "none")
local macro_rules | `(tactic| walk_at "none of mine") => `(tactic| fail "none")
local macro_rules | `(tactic| walk_at "none of mine") => `(tactic| fail "none")
local macro_rules | `(tactic| walk_at "none of mine") => `(tactic| fail "none")
local macro_rules | `(tactic| walk_at "none of mine") => `(tactic| fail "none")
theorem fillT4 : True := by
  w_top off
  trivial


local macro_rules | `(tactic| k_room) => `(tactic| ktr_room)
local macro_rules | `(tactic| k_units) => `(tactic| ktr_units)
local macro_rules | `(tactic| ktr_enter) => `(tactic| (refine' code_def ?k1 ?k2 ?k3 ?k4 ?k5 ?kA ?kF ?kK ?k6 ?k7 ?k8 ?k9 ?kB ?_ ?c2 ?c3 ?c4 ?c5; (case kA => exact rfl); (case kF => exact rfl); (case kK => first | assumption | exact rfl); (case k1 => k_asm); (case k2 => k_asm); (case k3 => k_asm); (case k4 => k_asm); (case k5 => k_asm); (case k6 => k_is); (case k7 => k_is); (case k8 => ktr_room); (case k9 => first | exact BindsTo.of_eq rfl | exact binds_K (by k_in) rfl (by k_is) rfl rfl rfl | fail "ktr_enter: no rule for these arguments"); (case c5 => decide); (case kB => exact locs rfl); (case c2 => exact rfl); (case c3 => exact rfl); (case c4 => exact rfl); k_whole; intro g' L' h' FG' F' N' B' X' T'; (try dsimp only); (try k_fold)))
local macro_rules | `(tactic| k_lt $h:ident) => `(tactic| (replace $h := allLt_of $h; simp only [AllLt, and_true] at $h:ident; (try ((fail_if_success (rename AllLt _ _ => l6)); have l7 : AllLt _ _ := (by first | exact ($h).2 | exact ($h).2.2 | exact ($h).2.2.2 | exact ($h).2.2.2.2 | exact ($h).2.2.2.2.2 | exact ($h).2.2.2.2.2.2 | exact ($h).2.2.2.2.2.2.2 | exact ($h).2.2.2.2.2.2.2.2 | exact ($h).2.2.2.2.2.2.2.2.2 | exact ($h).2.2.2.2.2.2.2.2.2.2 | exact ($h).2.2.2.2.2.2.2.2.2.2.2 | exact ($h).2.2.2.2.2.2.2.2.2.2.2.2)))))
local macro_rules | `(tactic| k_all) => `(tactic| (refine' allLt_ne ?h6 ?h7; (case h6 => assumption); (case h7 => ((try dsimp only); omega))))
local macro_rules | `(tactic| k_all) => `(tactic| with_reducible assumption)
local macro_rules | `(tactic| walk_at "call builtin:len") => `(tactic| (k_here; (with_reducible show wpAny _ _ (call (Value.builtin "len") [Value.ref _]) _ _ _); k_dflt (refine' kda_len (knd := PySem.intKind _ _) ?N ?m ?d ?lo ?f ?_; (case N => k_asm); (case m => k_mem); (case d => k_asm); (case lo => k_asm); (case f => assumption); k_whole)))
local macro_rules | `(tactic| walk_at "getMethod ref") => `(tactic| (k_here; (with_reducible show wpAny _ _ (getMethod (Value.ref _) (Str.ofString "get") _) _ _ _); k_dflt (refine' kdg_method (knd := PySem.intKind _ _) ?N ?m ?d ?_; (case N => k_asm); (case m => k_mem); (case d => k_asm); k_whole)))
local macro_rules | `(tactic| walk_at "call builtin:dict.get") => `(tactic| (k_here; (with_reducible show wpAny _ _ (call (Value.builtin "dict.get") [Value.ref _, Value.int _ _]) _ _ _); k_dflt (refine' kdg_get1 (knd := PySem.intKind _ _) ?N ?m ?d ?lo (intKind_is _ _ _ _) _ ?hl ?_; (case N => k_asm); (case m => k_mem); (case d => k_asm); (case lo => k_asm); (case hl => assumption); k_whole; (try dsimp only [Option.getD]))))
local macro_rules | `(tactic| walk_at "subscriptTail") => `(tactic| (k_here; (with_reducible show wpAny _ _ (subscriptTail _ _ (Value.ref _) (Value.int _ _)) _ _ _); k_dflt (refine' kda_item (knd := PySem.intKind _ _) ?N ?m ?d (intKind_is _ _ _ _) ?hl ?_; (case N => k_asm); (case m => k_mem); (case d => k_asm); (case hl => assumption); k_whole)))
theorem x_get_missT4 {prog : Program} {w : World} {A : Around} {E : Value → Shared → Prop} {s : Shared} {h₀ : Heap} {L d : Addr} {news : List (Addr × Obj)} {o : Obj} {kvs : List (Int × Value)} {k : Int} {t : Tok} {Q : Value → Shared → Prop}
    (N : News h₀ L s.heap news) (hp : (d, o) ∈ news) (hd : o.IsDictOf (PySem.intKind prog w) kvs) (lo : (d == sysModules) = false) (hh : A.handled = none) (hl : valueAt kvs k = none)
    (h : ∀ h' e, Heap.NewExc s.heap h' e "KeyError" → E (.ref e) { s with heap := h', toks := s.toks + 1 }) : wpAny (model prog w) A (getItem (.ref d) (.int k t)) Q E s :=
  wpAny_getItem_missing_of (intKind_is _ _ _ _) lo hh (kda_dict N hp hd).mapOf hl h
local macro_rules | `(tactic| walk_at "getItem ref int") => `(tactic| (k_here; k_dflt (refine' x_get_missT4 ?N ?m ?d ?lo ?hh ?hl ?_; (case N => k_asm); (case m => k_mem); (case d => k_asm); (case lo => k_asm); (case hh => exact rfl); (case hl => assumption); k_whole); intro h' e' x'))
local macro_rules | `(tactic| walk_at "getItem ref int") => `(tactic| (k_here; k_dflt (refine' kdt_getItem (knd := PySem.intKind _ _) ?N ?m ?d (intKind_is _ _ _ _) ?hl ?_; (case N => k_asm); (case m => k_mem); (case d => k_asm); (case hl => assumption); k_whole)))
local macro_rules | `(tactic| walk_at "delItem ref int") => `(tactic| (k_here; k_dflt (refine' x_del_miss ?N ?m ?d ?lo ?hh ?hl ?_; (case N => k_asm); (case m => k_mem); (case d => k_asm); (case lo => k_asm); (case hh => exact rfl); (case hl => assumption); k_whole); intro h' e' x'))
local macro_rules | `(tactic| walk_at "delItem ref int") => `(tactic| (k_here; k_dflt (refine' kob_del (knd := PySem.intKind _ _) ?F ?N ?U ?d (intKind_is _ _ _ _) ?l ?z ?_; (case F => k_asm); (case N => k_asm); (case U => k_updF); (case d => k_asm); (case l => assumption); (case z => first | assumption | (rw [sizeLine_eq]; assumption)); k_whole); intro h' o' F' N' hd'; (try dsimp only at N')))
theorem x_del_ownT4 {M : Model} {A : Around} {E : Value → Shared → Prop} {s : Shared} {K : Frag} {x C L f : Addr} {h₀ : Heap} {m : Str → Option Value} {ox : Obj} {od : Option Obj} {i : Value} {Q : Unit → Shared → Prop}
    (F : Fr h₀ L s.heap m) (X₀ : K.In h₀) (I : InstAt s.heap x ox C od) (hq : noSeq K C = true) (hs : findIn K (.ref C) "__delitem__" = some (some (.ref f))) (hf : isFn K (.ref f) = true)
    (h : wpAny M A (call (.ref f) [.ref x, i]) (fun _ s' => Q () s') E s) : wpAny M A (delItem (.ref x) i) Q E s := by
  have X := X₀.keeps F.keep
  unfold delItem sequenceKey
  refine wpAny_holding (wpAny_bind (wpAny_bind (I.type.here ?_)))
  refine wpAny_bind ((anyM_none X hq).here ?_)
  rw [if_pos (show (!false) = true from rfl)]
  exact wpAny_pure (wpAny_bind (special_fn X I hs (beq_iff_eq.mp hf) (wpAny_mono h (fun _ _ z => wpAny_pure z) fun _ _ z => z)))
local macro_rules | `(tactic| walk_at "delItem ref int") => `(tactic| (k_here; k_dflt (refine' x_del_ownT4 ?k1 ?k2 ?k3 ?k4 ?k5 ?k6 ?_; (case k1 => k_asm); (case k2 => k_asm); (case k3 => k_inst); (case k4 => k_is); (case k5 => k_is); (case k6 => k_is); k_whole)))
local macro_rules | `(tactic| walk_at "WhlIf") => `(tactic| (first | (refine WhlIf.yes (decide_eq_true (by omega)) ?_) | (refine WhlIf.no (decide_eq_false (by omega)) ?_)))
local macro_rules | `(tactic| walk_at "eval Dict nil nil") => `(tactic| (k_here; k_dflt (refine' newDict_K ?k1 ?k2 ?k3 ?_; (case k1 => k_asm); (case k2 => k_asm); (case k3 => first | exact Top.nolimit (by k_asm) | exact TopRead.nolimit (by k_asm)); k_whole); intro d' h' o' F' N' l1 lo' hs' fs' hi' fi'; (try k_lt l1)))
theorem add_genT4 {prog : Program} {w : World} {A : Around} {E : Value → Shared → Prop} {s : Shared} {a b : Int} {ta tb : Tok} {Q : Value → Shared → Prop} (h : ∀ t tk, Q (.int (a + b) t) { s with toks := tk }) : wpAny (model prog w) A (binaryOp .Add (.int a ta) (.int b tb)) Q E s := add_int (h _ _)
local macro_rules | `(tactic| walk_at "binaryOp Add int int") => `(tactic| (k_here; with_reducible (refine add_genT4 ?_); intro t' tk'))


theorem lw_lessT4 {prog : Program} {w : World} {rs : List Row} {ks : List Int} {qs : List (Int × Value)} {oR : Obj} {T : List (Addr × Obj)} (W : Lw prog w rs qs oR T) : Lw prog w (less rs ks) qs oR T := lw_sub W fun _ hx => (List.mem_filter.mp hx).1
theorem keep_atT4 {T T' : List (Addr × Obj)} {p : Addr × Obj} (h : ∀ p ∈ T, p.2.cls ≠ .type "list" → p ∈ T') (hp : p ∈ T) (hc : p.2.cls ≠ .type "list") : p ∈ T' := h p hp hc
theorem at_putT4 {prog : Program} {w : World} {rs : List Row} {qs : List (Int × Value)} {key : Int} {v : Value} {oR : Obj} {T : List (Addr × Obj)} (_ : Lw prog w rs (stored qs key v) oR T) : valueAt (stored qs key v) key = some v := by rw [at_stored, if_pos rfl]
theorem off8T4 {p1 p2 p3 p4 p5 p6 p7 p8 P : Prop} (h : p1 ∧ p2 ∧ p3 ∧ p4 ∧ p5 ∧ p6 ∧ p7 ∧ p8 ∧ P) : P := h.2.2.2.2.2.2.2.2
theorem off9T4 {D : Addr} : ∀ {T : List (Addr × Obj)}, PyProof.Rows.LCg.Off1 D T → ∀ p ∈ T, p.1 ≠ D
  | [], _, _, h => nomatch h
  | q :: r, h, p, hp => by
    rcases List.mem_cons.mp hp with rfl | hp
    · exact h.1
    · exact off9T4 h.2 p hp
theorem bne_decT4 (a b : Int) : (a != b) = decide (a ≠ b) := by by_cases h : a = b <;> simp [h]
local macro_rules | `(tactic| walk_at "Eq") => `(tactic| exact bne_decT4 _ _)
theorem ne_ltT4 {T news : List (Addr × Obj)} {D : Addr} (l1 : ∀ p ∈ news, p.1 < D) (hs : ∀ p ∈ T, p ∈ news) : ∀ p ∈ T, p.1 ≠ D := fun p hp => Nat.ne_of_lt (l1 p (hs p hp))
theorem ne_atT4 {T news : List (Addr × Obj)} {D : Addr} (l1 : ∀ p ∈ news, p.1 ≠ D) (hs : ∀ p ∈ T, p ∈ news) : ∀ p ∈ T, p.1 ≠ D := fun p hp => l1 p (hs p hp)
theorem sqz_trueT4 {rs rs2 : List Row} {a b c : Int} (h : Sqz true rs rs2 a b c) : rs2 = rs := by
  rcases h with ⟨_, h⟩ | ⟨h, _⟩
  · exact h
  · cases h
theorem less_oneT4 {rs : List Row} {key : Int} (_ : key ∈ rs.map (·.k)) : (less rs [key]).map (·.k) = (rs.filter fun r => decide (r.k ≠ key)).map (·.k) := by
  have : less rs [key] = rs.filter fun r => decide (r.k ≠ key) := List.filter_congr fun r _ => by simp
  rw [this]
theorem less_noneT4 {rs : List Row} {key : Int} (h : key ∉ rs.map (·.k)) : rs.map (·.k) = (rs.filter fun r => decide (r.k ≠ key)).map (·.k) := by
  have : rs.filter (fun r => decide (r.k ≠ key)) = rs := List.filter_eq_self.mpr fun r hr => decide_eq_true fun e => h (e ▸ List.mem_map_of_mem hr)
  rw [this]
local macro_rules | `(tactic| k_all) => `(tactic| first | exact ne_atT4 (by assumption) (by ((repeat (refine sub_cons (by k_mem) ?_)); (repeat (first | exact sub_id | refine sub_tl ?_)))) | exact ne_ltT4 (by assumption) (by ((repeat (refine sub_cons (by k_mem) ?_)); (repeat (first | exact sub_id | refine sub_tl ?_)))))
local macro_rules | `(tactic| walk_at "binaryOp Add ref ref") => `(tactic| (k_here; (with_reducible show wpAny _ _ (binaryOp _ (Value.ref _) (Value.ref _)) _ _ _); k_dflt (refine' x_add_one ?F ?N ?m1 ?m2 ?i1 ?hz ?_; (case F => k_asm); (case N => k_asm); (case m1 => k_mem); (case m2 => k_mem); (case i1 => with_reducible assumption); (case hz => assumption); k_whole); intro D' us' h' F' N' l1 hi'; have l9' := l1; (try k_lt l1)))
local macro_rules | `(tactic| walk_at "compareOp In int ref") => `(tactic| (k_here; (with_reducible show wpAny _ _ (compareOp CmpOp.In (Value.int _ _) (Value.ref _)) _ _ _); k_dflt (first
  | (refine' x_in_yes ?N ?m1 ?i1 ?hin ?_; (case N => k_asm); (case m1 => k_mem); (case i1 => with_reducible assumption); (case hin => assumption); k_whole)
  | (refine' x_in_no ?N ?m1 ?i1 ?hin ?_; (case N => k_asm); (case m1 => k_mem); (case i1 => with_reducible assumption); (case hin => assumption); k_whole))))
local macro_rules | `(tactic| walk_at "compareOp NotIn int ref") => `(tactic| (k_here; (with_reducible show wpAny _ _ (compareOp CmpOp.NotIn (Value.int _ _) (Value.ref _)) _ _ _); k_dflt (first
  | (refine' x_notin_yes ?N ?m1 ?i1 ?hin ?_; (case N => k_asm); (case m1 => k_mem); (case i1 => with_reducible assumption); (case hin => assumption); k_whole)
  | (refine' x_notin_no ?N ?m1 ?i1 ?hin ?_; (case N => k_asm); (case m1 => k_mem); (case i1 => with_reducible assumption); (case hin => assumption); k_whole))))
local macro_rules | `(tactic| k_ne) => `(tactic| (refine neN ?_; (try dsimp only); first | assumption | (refine Ne.symm ?_; assumption) | omega))
local macro_rules | `(tactic| walk_at "CompSrcT") => `(tactic| (k_here; k_dflt (refine' comp_src_ne ?hdc _ ?hh ?F ?N ?m ?i ?z ?test ?turn ?fin; (case hdc => first | with_reducible assumption | assumption); (case hh => rfl); (case F => k_asm); (case N => k_asm); (case m => k_mem); (case i => with_reducible assumption); (case z => assumption)); (case' test => (intro g' r' hr' t' I' oI' C' oC' D' m2' h' tk' E' ys' hC' hx' F' N')); (case' turn => (intro g' r' hr' t' I' oI' C' oC' D' m2' h' tk' E' ys' hC' hx' F' N')); (case' fin => (intro g' us' hi'))))
local macro_rules | `(tactic| walk_at "Keep") => `(tactic| exact Keep.intro (by k_asm) (by k_asm))
local macro_rules | `(tactic| walk_at "exec Assign cons ListComp") => `(tactic| (k_here; lct_look; k_dflt (refine LCt.Assign_ListComp_T (F₀ := by k_asm) (by rfl) (by with_unfolding_all rfl) (by with_unfolding_all rfl) (by decide) (by rfl) (by decide) (by rfl) (by rfl) (by rfl) ?_)))

theorem ints_eqT4 {vs : List Value} {a b : List Int} (e : a = b) (h : IntsAre vs b) : IntsAre vs a := e ▸ h
theorem sq_ofT4 {rs rs2 : List Row} {a b c : Int} (h : Sqz false rs rs2 a b c) : Sq rs rs2 a b c := by
  rcases h with ⟨h, _⟩ | ⟨_, h⟩
  · cases h
  · exact h
local macro_rules | `(tactic| k_mem) => `(tactic| assumption)
local macro_rules | `(tactic| walk_at "eval Name") => `(tactic| (k_here; k_dflt (refine' nameX_L ?k1 ?k2 ?_ ?a ?b; (case a => rfl); (case b => rfl); (case k1 => k_asm); (case k2 => assumption); k_whole)))
local macro_rules | `(tactic| k_all) => `(tactic| first | exact Offs.o1 (by assumption) | exact Offs.o2 (by assumption) | exact Offs.o3 (by assumption) | exact Offs.o4 (by assumption) | exact Offs.o5 (by assumption) | exact Offs.o6 (by assumption) | exact Offs.o7 (by assumption))
local macro_rules | `(tactic| walk_at "call ref") => `(tactic| (k_here; (with_reducible show wpAny _ _ (call (Value.ref 116) _) _ _ _); k_dflt (refine' s_inc (rs := []) (qs := []) ?B ?F ?X ?N ?hs ?TP ?hk ?D ?O ?hd ?hu ?n0 ?n1 ?_; (case B => k_asm); (case F => k_asm); (case X => k_asm); (case N => k_asm); (case TP => k_asm); (case hk => exact rfl); (case D => assumption); (case O => assumption); (case hs => ((repeat (refine sub_cons (by k_mem) ?_)); (repeat (first | exact sub_id | refine sub_tl ?_)))); (case hd => ktr_room); (case hu => ktr_units); (case n0 => omega); (case n1 => omega); k_whole); intro t' h' tk' F' N'))
local macro_rules | `(tactic| walk_at "call ref") => `(tactic| (k_here; (with_reducible show wpAny _ _ (call (Value.ref 124) _) _ _ _); k_dflt (refine' s_get ?B ?F ?X ?N ?hs ?TP ?hk ?D ?O ?lo ?C ?W ?hd ?hu ?n0 ?n1 ?hit ?miss; (case B => k_asm); (case F => k_asm); (case X => k_asm); (case N => k_asm); (case TP => k_asm); (case hk => exact rfl); (case D => assumption); (case O => assumption); (case lo => assumption); (case C => assumption); (case W => assumption); (case hs => ((repeat (refine sub_cons (by k_mem) ?_)); (repeat (first | exact sub_id | refine sub_tl ?_)))); (case hd => ktr_room); (case hu => ktr_units); (case n0 => omega); (case n1 => omega)); (case' hit => (intro hin' v' st' qa' t1' n1' rs' T' tn' h' tk' hv' hq' hm' hke' hup' C' W' hkeep' O' F' N'; rcases hv' with hv' | ⟨j', tj', hv'⟩ <;> subst hv')); (case' miss => (intro hin' h' tk' F' N'))))
local macro_rules | `(tactic| walk_at "call ref") => `(tactic| (k_here; (with_reducible show wpAny _ _ (call (Value.ref 203) _) _ _ _); k_dflt (refine' s_read ?B ?F ?X ?N ?hs ?TP ?hk ?D ?O ?lo ?C ?W ?hd ?hu ?n0 ?n1 ?hit ?miss; (case B => k_asm); (case F => k_asm); (case X => k_asm); (case N => k_asm); (case TP => k_asm); (case hk => exact rfl); (case D => assumption); (case O => assumption); (case lo => assumption); (case C => assumption); (case W => assumption); (case hs => ((repeat (refine sub_cons (by k_mem) ?_)); (repeat (first | exact sub_id | refine sub_tl ?_)))); (case hd => ktr_room); (case hu => ktr_units); (case n0 => omega); (case n1 => omega)); (case' hit => (intro hin' v' st' qa' t1' n1' rs' T' tn' h' tk' hv' hq' hm' hke' hup' C' W' hkeep' O' F' N'; rcases hv' with hv' | ⟨j', tj', hv'⟩ <;> subst hv')); (case' miss => (intro hin' h' tk' F' N' t'))))
local macro_rules | `(tactic| walk_at "call ref") => `(tactic| (k_here; (with_reducible show wpAny _ _ (call (Value.ref 210) _) _ _ _); k_dflt (refine' s_take (qs := []) ?B ?F ?X ?N ?hs ?TP ?hk ?D ?O ?lo ?C ?hd ?hu ?hit ?miss; (case B => k_asm); (case F => k_asm); (case X => k_asm); (case N => k_asm); (case TP => k_asm); (case hk => exact rfl); (case D => assumption); (case O => assumption); (case lo => assumption); (case C => assumption); (case hs => ((repeat (refine sub_cons (by k_mem) ?_)); (repeat (first | exact sub_id | refine sub_tl ?_)))); (case hd => ktr_room); (case hu => ktr_units)); (case' hit => (intro hin' oD' h' tk' C' F' N'; have hle' := less_oneT4 hin')); (case' miss => (intro hin' h' tk' F' N'; have hle' := less_noneT4 hin'))))
local macro_rules | `(tactic| walk_at "call ref") => `(tactic| (k_here; (with_reducible show wpAny _ _ (call (Value.ref 174) _) _ _ _); k_dflt (refine' s_man (qs := []) ?B ?F ?X ?N ?hs ?TP ?hk ?D ?O ?lo ?C ?ht ?h0 ?h1 ?hd ?hu ?_; (case B => k_asm); (case F => k_asm); (case X => k_asm); (case N => k_asm); (case TP => k_asm); (case hk => exact rfl); (case D => assumption); (case O => assumption); (case lo => assumption); (case C => assumption); (case hs => ((repeat (refine sub_cons (by k_mem) ?_)); (repeat (first | exact sub_id | refine sub_tl ?_)))); (case ht => first | assumption | exact Thr.whole _ _ (by assumption) (by assumption) | exact Thr.half _); (case h0 => omega); (case h1 => omega); (case hd => ktr_room); (case hu => ktr_units); k_whole); intro rs2' oD' h' tk' hsq' C' F' N'))
local macro_rules | `(tactic| walk_at "call ref") => `(tactic| first | (k_here; (with_reducible show wpAny _ _ (call (Value.ref 196) _) _ _ _); k_dflt (refine' s_kept ?B ?F ?X ?N ?TP ?hk ?m1 ?m2 ?hi ?W ?hT ?lo ?hkn ?hkb ?ht ?h0 ?h1 ?hsq ?hd ?hu ?_ ?_; (case B => k_asm); (case F => k_asm); (case X => k_asm); (case N => k_asm); (case TP => k_asm); (case hk => exact rfl); (case m1 => k_mem); (case m2 => k_mem); (case hsq => exact sq_ofT4 (by assumption)); (case W => assumption); (case hi => first | assumption | exact ints_eqT4 (by assumption) (by assumption)); (case hT => ((repeat (refine sub_cons (by k_mem) ?_)); (repeat (first | exact sub_id | refine sub_tl ?_)))); (case lo => assumption); (case hkn => assumption); (case hkb => assumption); (case ht => first | assumption | exact Thr.whole _ 0 (by assumption) (by assumption) | exact Thr.half 0); (case h0 => omega); (case h1 => omega); (case hd => ktr_room); (case hu => ktr_units)); all_goals (first | (intro D' us' n' h' tk' hi' F' N' off') | (intro hrs' h' tk' F' N'))) | fail "no")
local macro_rules | `(tactic| walk_at "setItem ref int") => `(tactic| (k_here; k_dflt (refine' x_set_q ?F ?N ?U ?W ?P ?C ?O ?m1 ?a0 ?a5 ?hD ?_; (case F => k_asm); (case N => k_asm); (case U => k_updF); (case W => assumption); (case P => assumption); (case C => assumption); (case O => assumption); (case m1 => k_mem); (case a0 => assumption); (case a5 => assumption); (case hD => exact ⟨by k_ne, by k_ne, by k_ne, by k_ne, by k_ne, by k_ne, by k_ne⟩); k_whole); intro h' oR' F' N' W' C' O'; have hd9' := Lw.d W'; have hq9' := at_putT4 W'; (try dsimp only at N')))
local macro_rules | `(tactic| walk_at "setItem ref int") => `(tactic| (k_here; k_dflt (refine' s_set2 ?B ?F ?X ?N ?hs ?TP ?hk ?D ?O ?lo ?C ?W ?ht ?h0 ?h1 ?a0 ?a5 ?hv ?hd ?hu ?n0 ?n1 ?old ?new; (case B => k_asm); (case F => k_asm); (case X => k_asm); (case N => k_asm); (case TP => k_asm); (case hk => exact rfl); (case D => assumption); (case O => assumption); (case lo => assumption); (case C => assumption); (case W => assumption); (case hs => ((repeat (refine sub_cons (by k_mem) ?_)); (repeat (first | exact sub_id | refine sub_tl ?_)))); (case ht => assumption); (case h0 => omega); (case h1 => omega); (case a0 => assumption); (case a5 => assumption); (case hv => first | exact .inl rfl | exact .inr ⟨_, _, rfl⟩); (case hd => ktr_room); (case hu => ktr_units); (case n0 => omega); (case n1 => omega)); (case' old => (intro hin' rs1' rs2' oD' T' tn' h' tk' hke' hup' hkn' hkb' hsq' C' hkeep' W' O' F' N')); (case' new => (intro hin' rs1' rs2' oD' T' tn' h' tk' hke' hup' hkn' hkb' hsq' C' hkeep' W' O' F' N'))))
local macro_rules | `(tactic| walk_at "isTrue BoolOp") => `(tactic| (k_here; k_dflt (refine' tailB (qs := []) ?B ?F ?X ?N ?hs ?TP ?D ?lo ?C ?hi ?mc ?me ?_; (case B => k_asm); (case F => k_asm); (case X => k_asm); (case N => k_asm); (case TP => k_asm); (case D => assumption); (case me => first | exact rfl | assumption); (case mc => first | exact rfl | assumption); (case lo => assumption); (case C => assumption); (case hs => ((repeat (refine sub_cons (by k_mem) ?_)); (repeat (first | exact sub_id | refine sub_tl ?_)))); (case hi => first | assumption | exact ints_eqT4 (by assumption) (by assumption)); k_whole); intro h' tk' F' N'))
local macro_rules | `(tactic| walk_at "setItem ref") => `(tactic| (k_here; k_dflt (refine' x_set_q ?F ?N ?U ?W ?P ?C ?O ?m1 ?a0 ?a5 ?hD ?_; (case F => k_asm); (case N => k_asm); (case U => k_updF); (case W => assumption); (case P => assumption); (case C => assumption); (case O => assumption); (case m1 => k_mem); (case a0 => assumption); (case a5 => assumption); (case hD => exact ⟨by k_ne, by k_ne, by k_ne, by k_ne, by k_ne, by k_ne, by k_ne⟩); k_whole); intro h' oR' F' N' W' C' O'; have hd9' := Lw.d W'; have hq9' := at_putT4 W'; (try dsimp only at N')))
local macro_rules | `(tactic| walk_at "setItem ref") => `(tactic| (k_here; k_dflt (refine' s_set2 ?B ?F ?X ?N ?hs ?TP ?hk ?D ?O ?lo ?C ?W ?ht ?h0 ?h1 ?a0 ?a5 ?hv ?hd ?hu ?n0 ?n1 ?old ?new; (case B => k_asm); (case F => k_asm); (case X => k_asm); (case N => k_asm); (case TP => k_asm); (case hk => exact rfl); (case D => assumption); (case O => assumption); (case lo => assumption); (case C => assumption); (case W => assumption); (case hs => ((repeat (refine sub_cons (by k_mem) ?_)); (repeat (first | exact sub_id | refine sub_tl ?_)))); (case ht => assumption); (case h0 => omega); (case h1 => omega); (case a0 => assumption); (case a5 => assumption); (case hv => first | exact .inl rfl | exact .inr ⟨_, _, rfl⟩); (case hd => ktr_room); (case hu => ktr_units); (case n0 => omega); (case n1 => omega)); (case' old => (intro hin' rs1' rs2' oD' T' tn' h' tk' hke' hup' hkn' hkb' hsq' C' hkeep' W' O' F' N')); (case' new => (intro hin' rs1' rs2' oD' T' tn' h' tk' hke' hup' hkn' hkb' hsq' C' hkeep' W' O' F' N'))))

set_option maxHeartbeats 2000000 in
theorem kind4 {prog : Program} {w : World} {mean : ExcName → Option Value} {mg mb : Str → Option Value} {h₀ : Heap} {L fa I l : Addr} {oI : Obj} {cdv : Value} {m : Str → Option Value} {s : Shared} {Q : Flow → Shared → Prop} {E : Value → Shared → Prop}
    {T : List (Addr × Obj)} {c cd dD k kd rd e : Addr} {n room num den kv key more : Int} {tn th tc ti t1 t2 t3 t4 tkk tke tmo : Tok} {thr : Value} {held : Bool} {oD oR oC : Obj} {vs : List Value} {ne : Nat} {rs : List Row} {qs : List (Int × Value)} {i : Nat}
    (B : Below callerA h₀ [] h₀) (F : Fr h₀ L s.heap m) (X : (Mine.hd.heap_39 w.params).In h₀)
    (N : News h₀ L s.heap ((c, lru cd dD k n tn (.int room tc) thr) :: (cd, dictOf [] 0) :: (dD, oD) :: (k, instObj 46 kd) :: (kd, lockD w.params th held) :: (rd, oR) :: (e, listOf (List.toArray vs) ne) :: (L + 1, oC) :: T))
    (TP : Top Mine.hd.view_39 (looseW Mine.hd.view_39 [Str.ofString "itemgetter", Str.ofString "LRUCache"]) mean mg mb h₀) (D : Dist c cd dD k kd rd (L + 1)) (O : Offs T c cd dD k kd rd (L + 1)) (lo : (dD == sysModules) = false) (lo2 : (rd == sysModules) = false)
    (C : Cac prog w rs oD T e n) (W : Lw prog w rs qs oR T) (hi : IntsAre vs (rs.map (·.k))) (ht : Thr thr num den) (hn0 : 0 ≤ n) (hn1 : n ≤ (i : Int)) (hi4 : (i : Int) ≤ 39) (h0 : 0 ≤ room) (h1 : room ≤ 4)
    (hIT : (I, oI) ∈ T) (hIc : oI.cls ≠ .type "list")
    (hoc : oC.data = .cell (some (.int key tke))) (hk0 : 0 ≤ key) (hk5 : key ≤ 5)
    (m1 : m (Str.ofString "script") = some (.ref l)) (m2 : m (Str.ofString "room") = some (.int room t1)) (m3 : m (Str.ofString "num") = some (.int num t2)) (m4 : m (Str.ofString "den") = some (.int den t3)) (m5 : m (Str.ofString "c") = some (.ref c)) (m6 : m (Str.ofString "lock") = some (.ref k))
    (m7 : m (Str.ofString "entry") = some (.ref e)) (m8 : m (Str.ofString "rows") = some (.ref rd)) (m9 : m (Str.ofString "counter") = some (.int n t4)) (m10 : m (Str.ofString "held") = some (.bool held))
    (m11 : m (Str.ofString "i") = some (.int (0 + (i : Int)) ti)) (m12 : m (Str.ofString "kind") = some (.int kv tkk)) (m13 : m (Str.ofString "more") = some (.int more tmo))
    (fin : ∀ m' h' tk', StX prog w h₀ L l c cd dD k kd rd th I oI ((i : Int) + 1) h' m' → Q .next { s with heap := h', toks := tk' })
    (hK : kv = 4) : wpAny (model prog w) (callerA.deeper (envOfC (Str.ofString "law") lawScope L fa cdv)) (exec turnIf (envOfC (Str.ofString "law") lawScope L fa cdv)) Q E s := by
  subst hK
  obtain ⟨d12, d13, d14, d15, d16, d17, d23, d24, d25, d26, d27, d34, d35, d36, d37, d45, d46, d47, d56, d57, d67⟩ := id D
  have xe1 : @Ne Nat e c := news_ne N (.tail _ (.tail _ (.tail _ (.tail _ (.tail _ (.tail _ (.head _))))))) (.head _) (by intro h; cases h)
  have xe2 : @Ne Nat e cd := news_ne N (.tail _ (.tail _ (.tail _ (.tail _ (.tail _ (.tail _ (.head _))))))) (.tail _ (.head _)) (fun e => absurd (Value.type.inj e) (by decide))
  have xe3 : @Ne Nat e dD := news_ne N (.tail _ (.tail _ (.tail _ (.tail _ (.tail _ (.tail _ (.head _))))))) (.tail _ (.tail _ (.head _))) (by show Value.type "list" ≠ oD.cls; rw [dict_cls C.d]; exact fun e => absurd (Value.type.inj e) (by decide))
  have xe4 : @Ne Nat e k := news_ne N (.tail _ (.tail _ (.tail _ (.tail _ (.tail _ (.tail _ (.head _))))))) (.tail _ (.tail _ (.tail _ (.head _)))) (by intro h; cases h)
  have xe5 : @Ne Nat e kd := news_ne N (.tail _ (.tail _ (.tail _ (.tail _ (.tail _ (.tail _ (.head _))))))) (.tail _ (.tail _ (.tail _ (.tail _ (.head _))))) (fun e => absurd (Value.type.inj e) (by decide))
  have xe6 : @Ne Nat e rd := news_ne N (.tail _ (.tail _ (.tail _ (.tail _ (.tail _ (.tail _ (.head _))))))) (.tail _ (.tail _ (.tail _ (.tail _ (.tail _ (.head _)))))) (by show Value.type "list" ≠ oR.cls; rw [dict_cls W.d]; exact fun e => absurd (Value.type.inj e) (by decide))
  have xe7 : @Ne Nat e (L + 1) := news_cell N (.tail _ (.tail _ (.tail _ (.tail _ (.tail _ (.tail _ (.head _))))))) (.tail _ (.tail _ (.tail _ (.tail _ (.tail _ (.tail _ (.tail _ (.head _)))))))) hoc
  conv in (occs := *) lawScope => all_goals whnf
  conv in (occs := *) turnIf => all_goals whnf
  have hDR := W.d

  k_steps
  all_goals (try (exfalso; omega; done))
  all_goals (refine' fin _ _ _ (StX.intro (StF.mk ?F ?N ?O ?C ?W ?hi ?ht ?n0 ?n1 ?h0 ?h1 ?hoc ?m1 ?m2 ?m3 ?m4 ?m5 ?m6 ?m7 ?m8 ?m9 ?m10) ?b); (case F => k_asm); (case m1 => first | exact rfl | assumption); (case m2 => first | exact rfl | assumption); (case m3 => first | exact rfl | assumption); (case m4 => first | exact rfl | assumption); (case m5 => first | exact rfl | assumption); (case m6 => first | exact rfl | assumption); (case m7 => first | exact rfl | assumption); (case m8 => first | exact rfl | assumption); (case m9 => first | exact rfl | assumption); (case m10 => first | exact rfl | assumption); (case O => assumption); (case C => first | assumption | exact cac_up (by assumption) (by omega)); (case W => first | assumption | exact lw_sub (by assumption) (sqz_sub (by assumption)) | exact lw_lessT4 (by assumption)); (case N => (refine news_sub (by k_asm) ?_; ((repeat (refine sub_cons (by k_mem) ?_)); (repeat (first | exact sub_id | refine sub_tl ?_))))); (case hi => first | assumption | exact ints_eqT4 (by assumption) (by assumption)); (case ht => first | assumption | exact Thr.whole _ _ (by assumption) (by assumption) | exact Thr.half _); (case n0 => omega); (case n1 => omega); (case h0 => omega); (case h1 => omega); (case hoc => assumption); (case b => first | assumption | exact keep_atT4 (by assumption) (by assumption) (by assumption) | exact List.Mem.tail _ (by assumption) | exact List.Mem.tail _ (keep_atT4 (by assumption) (by assumption) (by assumption))))

end Mine
end
section
namespace Mine
local macro_rules | `(tactic| walk_at "none of mine") => `(tactic| fail "none")
local macro_rules | `(tactic| walk_at "none of mine") => `(tactic| fail "none")
local macro_rules | `(tactic| walk_at "none of mine") => `(tactic| fail "none")
local macro_rules | `(tactic| walk_at "none of mine") => `(tactic| fail "none")
local macro_rules | `(tactic| walk_at "none of mine") => `(tactic| fail "none")
local macro_rules | `(tactic| walk_at "none of mine") => `(tactic| fail "none")
theorem fillT5 : True := by
  w_top off
  trivial


local macro_rules | `(tactic| k_room) => `(tactic| ktr_room)
local macro_rules | `(tactic| k_units) => `(tactic| ktr_units)
local macro_rules | `(tactic| ktr_enter) => `(tactic| (refine' code_def ?k1 ?k2 ?k3 ?k4 ?k5 ?kA ?kF ?kK ?k6 ?k7 ?k8 ?k9 ?kB ?_ ?c2 ?c3 ?c4 ?c5; (case kA => exact rfl); (case kF => exact rfl); (case kK => first | assumption | exact rfl); (case k1 => k_asm); (case k2 => k_asm); (case k3 => k_asm); (case k4 => k_asm); (case k5 => k_asm); (case k6 => k_is); (case k7 => k_is); (case k8 => ktr_room); (case k9 => first | exact BindsTo.of_eq rfl | exact binds_K (by k_in) rfl (by k_is) rfl rfl rfl | fail "ktr_enter: no rule for these arguments"); (case c5 => decide); (case kB => exact locs rfl); (case c2 => exact rfl); (case c3 => exact rfl); (case c4 => exact rfl); k_whole; intro g' L' h' FG' F' N' B' X' T'; (try dsimp only); (try k_fold)))
local macro_rules | `(tactic| k_lt $h:ident) => `(tactic| (replace $h := allLt_of $h; simp only [AllLt, and_true] at $h:ident; (try ((fail_if_success (rename AllLt _ _ => l6)); have l7 : AllLt _ _ := (by first | exact ($h).2 | exact ($h).2.2 | exact ($h).2.2.2 | exact ($h).2.2.2.2 | exact ($h).2.2.2.2.2 | exact ($h).2.2.2.2.2.2 | exact ($h).2.2.2.2.2.2.2 | exact ($h).2.2.2.2.2.2.2.2 | exact ($h).2.2.2.2.2.2.2.2.2 | exact ($h).2.2.2.2.2.2.2.2.2.2 | exact ($h).2.2.2.2.2.2.2.2.2.2.2 | exact ($h).2.2.2.2.2.2.2.2.2.2.2.2)))))
local macro_rules | `(tactic| k_all) => `(tactic| (refine' allLt_ne ?h6 ?h7; (case h6 => assumption); (case h7 => ((try dsimp only); omega))))
local macro_rules | `(tactic| k_all) => `(tactic| with_reducible assumption)
local macro_rules | `(tactic| walk_at "call builtin:len") => `(tactic| (k_here; (with_reducible show wpAny _ _ (call (Value.builtin "len") [Value.ref _]) _ _ _); k_dflt (refine' kda_len (knd := PySem.intKind _ _) ?N ?m ?d ?lo ?f ?_; (case N => k_asm); (case m => k_mem); (case d => k_asm); (case lo => k_asm); (case f => assumption); k_whole)))
local macro_rules | `(tactic| walk_at "getMethod ref") => `(tactic| (k_here; (with_reducible show wpAny _ _ (getMethod (Value.ref _) (Str.ofString "get") _) _ _ _); k_dflt (refine' kdg_method (knd := PySem.intKind _ _) ?N ?m ?d ?_; (case N => k_asm); (case m => k_mem); (case d => k_asm); k_whole)))
local macro_rules | `(tactic| walk_at "call builtin:dict.get") => `(tactic| (k_here; (with_reducible show wpAny _ _ (call (Value.builtin "dict.get") [Value.ref _, Value.int _ _]) _ _ _); k_dflt (refine' kdg_get1 (knd := PySem.intKind _ _) ?N ?m ?d ?lo (intKind_is _ _ _ _) _ ?hl ?_; (case N => k_asm); (case m => k_mem); (case d => k_asm); (case lo => k_asm); (case hl => assumption); k_whole; (try dsimp only [Option.getD]))))
local macro_rules | `(tactic| walk_at "subscriptTail") => `(tactic| (k_here; (with_reducible show wpAny _ _ (subscriptTail _ _ (Value.ref _) (Value.int _ _)) _ _ _); k_dflt (refine' kda_item (knd := PySem.intKind _ _) ?N ?m ?d (intKind_is _ _ _ _) ?hl ?_; (case N => k_asm); (case m => k_mem); (case d => k_asm); (case hl => assumption); k_whole)))
theorem x_get_missT5 {prog : Program} {w : World} {A : Around} {E : Value → Shared → Prop} {s : Shared} {h₀ : Heap} {L d : Addr} {news : List (Addr × Obj)} {o : Obj} {kvs : List (Int × Value)} {k : Int} {t : Tok} {Q : Value → Shared → Prop}
    (N : News h₀ L s.heap news) (hp : (d, o) ∈ news) (hd : o.IsDictOf (PySem.intKind prog w) kvs) (lo : (d == sysModules) = false) (hh : A.handled = none) (hl : valueAt kvs k = none)
    (h : ∀ h' e, Heap.NewExc s.heap h' e "KeyError" → E (.ref e) { s with heap := h', toks := s.toks + 1 }) : wpAny (model prog w) A (getItem (.ref d) (.int k t)) Q E s :=
  wpAny_getItem_missing_of (intKind_is _ _ _ _) lo hh (kda_dict N hp hd).mapOf hl h
local macro_rules | `(tactic| walk_at "getItem ref int") => `(tactic| (k_here; k_dflt (refine' x_get_missT5 ?N ?m ?d ?lo ?hh ?hl ?_; (case N => k_asm); (case m => k_mem); (case d => k_asm); (case lo => k_asm); (case hh => exact rfl); (case hl => assumption); k_whole); intro h' e' x'))
local macro_rules | `(tactic| walk_at "getItem ref int") => `(tactic| (k_here; k_dflt (refine' kdt_getItem (knd := PySem.intKind _ _) ?N ?m ?d (intKind_is _ _ _ _) ?hl ?_; (case N => k_asm); (case m => k_mem); (case d => k_asm); (case hl => assumption); k_whole)))
local macro_rules | `(tactic| walk_at "delItem ref int") => `(tactic| (k_here; k_dflt (refine' x_del_miss ?N ?m ?d ?lo ?hh ?hl ?_; (case N => k_asm); (case m => k_mem); (case d => k_asm); (case lo => k_asm); (case hh => exact rfl); (case hl => assumption); k_whole); intro h' e' x'))
local macro_rules | `(tactic| walk_at "delItem ref int") => `(tactic| (k_here; k_dflt (refine' kob_del (knd := PySem.intKind _ _) ?F ?N ?U ?d (intKind_is _ _ _ _) ?l ?z ?_; (case F => k_asm); (case N => k_asm); (case U => k_updF); (case d => k_asm); (case l => assumption); (case z => first | assumption | (rw [sizeLine_eq]; assumption)); k_whole); intro h' o' F' N' hd'; (try dsimp only at N')))
theorem x_del_ownT5 {M : Model} {A : Around} {E : Value → Shared → Prop} {s : Shared} {K : Frag} {x C L f : Addr} {h₀ : Heap} {m : Str → Option Value} {ox : Obj} {od : Option Obj} {i : Value} {Q : Unit → Shared → Prop}
    (F : Fr h₀ L s.heap m) (X₀ : K.In h₀) (I : InstAt s.heap x ox C od) (hq : noSeq K C = true) (hs : findIn K (.ref C) "__delitem__" = some (some (.ref f))) (hf : isFn K (.ref f) = true)
    (h : wpAny M A (call (.ref f) [.ref x, i]) (fun _ s' => Q () s') E s) : wpAny M A (delItem (.ref x) i) Q E s := by
  have X := X₀.keeps F.keep
  unfold delItem sequenceKey
  refine wpAny_holding (wpAny_bind (wpAny_bind (I.type.here ?_)))
  refine wpAny_bind ((anyM_none X hq).here ?_)
  rw [if_pos (show (!false) = true from rfl)]
  exact wpAny_pure (wpAny_bind (special_fn X I hs (beq_iff_eq.mp hf) (wpAny_mono h (fun _ _ z => wpAny_pure z) fun _ _ z => z)))
local macro_rules | `(tactic| walk_at "delItem ref int") => `(tactic| (k_here; k_dflt (refine' x_del_ownT5 ?k1 ?k2 ?k3 ?k4 ?k5 ?k6 ?_; (case k1 => k_asm); (case k2 => k_asm); (case k3 => k_inst); (case k4 => k_is); (case k5 => k_is); (case k6 => k_is); k_whole)))
local macro_rules | `(tactic| walk_at "WhlIf") => `(tactic| (first | (refine WhlIf.yes (decide_eq_true (by omega)) ?_) | (refine WhlIf.no (decide_eq_false (by omega)) ?_)))
local macro_rules | `(tactic| walk_at "eval Dict nil nil") => `(tactic| (k_here; k_dflt (refine' newDict_K ?k1 ?k2 ?k3 ?_; (case k1 => k_asm); (case k2 => k_asm); (case k3 => first | exact Top.nolimit (by k_asm) | exact TopRead.nolimit (by k_asm)); k_whole); intro d' h' o' F' N' l1 lo' hs' fs' hi' fi'; (try k_lt l1)))
theorem add_genT5 {prog : Program} {w : World} {A : Around} {E : Value → Shared → Prop} {s : Shared} {a b : Int} {ta tb : Tok} {Q : Value → Shared → Prop} (h : ∀ t tk, Q (.int (a + b) t) { s with toks := tk }) : wpAny (model prog w) A (binaryOp .Add (.int a ta) (.int b tb)) Q E s := add_int (h _ _)
local macro_rules | `(tactic| walk_at "binaryOp Add int int") => `(tactic| (k_here; with_reducible (refine add_genT5 ?_); intro t' tk'))


theorem lw_lessT5 {prog : Program} {w : World} {rs : List Row} {ks : List Int} {qs : List (Int × Value)} {oR : Obj} {T : List (Addr × Obj)} (W : Lw prog w rs qs oR T) : Lw prog w (less rs ks) qs oR T := lw_sub W fun _ hx => (List.mem_filter.mp hx).1
theorem keep_atT5 {T T' : List (Addr × Obj)} {p : Addr × Obj} (h : ∀ p ∈ T, p.2.cls ≠ .type "list" → p ∈ T') (hp : p ∈ T) (hc : p.2.cls ≠ .type "list") : p ∈ T' := h p hp hc
theorem at_putT5 {prog : Program} {w : World} {rs : List Row} {qs : List (Int × Value)} {key : Int} {v : Value} {oR : Obj} {T : List (Addr × Obj)} (_ : Lw prog w rs (stored qs key v) oR T) : valueAt (stored qs key v) key = some v := by rw [at_stored, if_pos rfl]
theorem off8T5 {p1 p2 p3 p4 p5 p6 p7 p8 P : Prop} (h : p1 ∧ p2 ∧ p3 ∧ p4 ∧ p5 ∧ p6 ∧ p7 ∧ p8 ∧ P) : P := h.2.2.2.2.2.2.2.2
theorem off9T5 {D : Addr} : ∀ {T : List (Addr × Obj)}, PyProof.Rows.LCg.Off1 D T → ∀ p ∈ T, p.1 ≠ D
  | [], _, _, h => nomatch h
  | q :: r, h, p, hp => by
    rcases List.mem_cons.mp hp with rfl | hp
    · exact h.1
    · exact off9T5 h.2 p hp
theorem bne_decT5 (a b : Int) : (a != b) = decide (a ≠ b) := by by_cases h : a = b <;> simp [h]
local macro_rules | `(tactic| walk_at "Eq") => `(tactic| exact bne_decT5 _ _)
theorem ne_ltT5 {T news : List (Addr × Obj)} {D : Addr} (l1 : ∀ p ∈ news, p.1 < D) (hs : ∀ p ∈ T, p ∈ news) : ∀ p ∈ T, p.1 ≠ D := fun p hp => Nat.ne_of_lt (l1 p (hs p hp))
theorem ne_atT5 {T news : List (Addr × Obj)} {D : Addr} (l1 : ∀ p ∈ news, p.1 ≠ D) (hs : ∀ p ∈ T, p ∈ news) : ∀ p ∈ T, p.1 ≠ D := fun p hp => l1 p (hs p hp)
theorem sqz_trueT5 {rs rs2 : List Row} {a b c : Int} (h : Sqz true rs rs2 a b c) : rs2 = rs := by
  rcases h with ⟨_, h⟩ | ⟨h, _⟩
  · exact h
  · cases h
theorem less_oneT5 {rs : List Row} {key : Int} (_ : key ∈ rs.map (·.k)) : (less rs [key]).map (·.k) = (rs.filter fun r => decide (r.k ≠ key)).map (·.k) := by
  have : less rs [key] = rs.filter fun r => decide (r.k ≠ key) := List.filter_congr fun r _ => by simp
  rw [this]
theorem less_noneT5 {rs : List Row} {key : Int} (h : key ∉ rs.map (·.k)) : rs.map (·.k) = (rs.filter fun r => decide (r.k ≠ key)).map (·.k) := by
  have : rs.filter (fun r => decide (r.k ≠ key)) = rs := List.filter_eq_self.mpr fun r hr => decide_eq_true fun e => h (e ▸ List.mem_map_of_mem hr)
  rw [this]
local macro_rules | `(tactic| k_all) => `(tactic| first | exact ne_atT5 (by assumption) (by ((repeat (refine sub_cons (by k_mem) ?_)); (repeat (first | exact sub_id | refine sub_tl ?_)))) | exact ne_ltT5 (by assumption) (by ((repeat (refine sub_cons (by k_mem) ?_)); (repeat (first | exact sub_id | refine sub_tl ?_)))))
local macro_rules | `(tactic| walk_at "binaryOp Add ref ref") => `(tactic| (k_here; (with_reducible show wpAny _ _ (binaryOp _ (Value.ref _) (Value.ref _)) _ _ _); k_dflt (refine' x_add_one ?F ?N ?m1 ?m2 ?i1 ?hz ?_; (case F => k_asm); (case N => k_asm); (case m1 => k_mem); (case m2 => k_mem); (case i1 => with_reducible assumption); (case hz => assumption); k_whole); intro D' us' h' F' N' l1 hi'; have l9' := l1; (try k_lt l1)))
local macro_rules | `(tactic| walk_at "compareOp In int ref") => `(tactic| (k_here; (with_reducible show wpAny _ _ (compareOp CmpOp.In (Value.int _ _) (Value.ref _)) _ _ _); k_dflt (first
  | (refine' x_in_yes ?N ?m1 ?i1 ?hin ?_; (case N => k_asm); (case m1 => k_mem); (case i1 => with_reducible assumption); (case hin => assumption); k_whole)
  | (refine' x_in_no ?N ?m1 ?i1 ?hin ?_; (case N => k_asm); (case m1 => k_mem); (case i1 => with_reducible assumption); (case hin => assumption); k_whole))))
local macro_rules | `(tactic| walk_at "compareOp NotIn int ref") => `(tactic| (k_here; (with_reducible show wpAny _ _ (compareOp CmpOp.NotIn (Value.int _ _) (Value.ref _)) _ _ _); k_dflt (first
  | (refine' x_notin_yes ?N ?m1 ?i1 ?hin ?_; (case N => k_asm); (case m1 => k_mem); (case i1 => with_reducible assumption); (case hin => assumption); k_whole)
  | (refine' x_notin_no ?N ?m1 ?i1 ?hin ?_; (case N => k_asm); (case m1 => k_mem); (case i1 => with_reducible assumption); (case hin => assumption); k_whole))))
local macro_rules | `(tactic| k_ne) => `(tactic| (refine neN ?_; (try dsimp only); first | assumption | (refine Ne.symm ?_; assumption) | omega))
local macro_rules | `(tactic| walk_at "CompSrcT") => `(tactic| (k_here; k_dflt (refine' comp_src_ne ?hdc _ ?hh ?F ?N ?m ?i ?z ?test ?turn ?fin; (case hdc => first | with_reducible assumption | assumption); (case hh => rfl); (case F => k_asm); (case N => k_asm); (case m => k_mem); (case i => with_reducible assumption); (case z => assumption)); (case' test => (intro g' r' hr' t' I' oI' C' oC' D' m2' h' tk' E' ys' hC' hx' F' N')); (case' turn => (intro g' r' hr' t' I' oI' C' oC' D' m2' h' tk' E' ys' hC' hx' F' N')); (case' fin => (intro g' us' hi'))))
local macro_rules | `(tactic| walk_at "Keep") => `(tactic| exact Keep.intro (by k_asm) (by k_asm))
local macro_rules | `(tactic| walk_at "exec Assign cons ListComp") => `(tactic| (k_here; lct_look; k_dflt (refine LCt.Assign_ListComp_T (F₀ := by k_asm) (by rfl) (by with_unfolding_all rfl) (by with_unfolding_all rfl) (by decide) (by rfl) (by decide) (by rfl) (by rfl) (by rfl) ?_)))

theorem ints_eqT5 {vs : List Value} {a b : List Int} (e : a = b) (h : IntsAre vs b) : IntsAre vs a := e ▸ h
theorem sq_ofT5 {rs rs2 : List Row} {a b c : Int} (h : Sqz false rs rs2 a b c) : Sq rs rs2 a b c := by
  rcases h with ⟨h, _⟩ | ⟨_, h⟩
  · cases h
  · exact h
local macro_rules | `(tactic| k_mem) => `(tactic| assumption)
local macro_rules | `(tactic| walk_at "eval Name") => `(tactic| (k_here; k_dflt (refine' nameX_L ?k1 ?k2 ?_ ?a ?b; (case a => rfl); (case b => rfl); (case k1 => k_asm); (case k2 => assumption); k_whole)))
local macro_rules | `(tactic| k_all) => `(tactic| first | exact Offs.o1 (by assumption) | exact Offs.o2 (by assumption) | exact Offs.o3 (by assumption) | exact Offs.o4 (by assumption) | exact Offs.o5 (by assumption) | exact Offs.o6 (by assumption) | exact Offs.o7 (by assumption))
local macro_rules | `(tactic| walk_at "call ref") => `(tactic| (k_here; (with_reducible show wpAny _ _ (call (Value.ref 116) _) _ _ _); k_dflt (refine' s_inc (rs := []) (qs := []) ?B ?F ?X ?N ?hs ?TP ?hk ?D ?O ?hd ?hu ?n0 ?n1 ?_; (case B => k_asm); (case F => k_asm); (case X => k_asm); (case N => k_asm); (case TP => k_asm); (case hk => exact rfl); (case D => assumption); (case O => assumption); (case hs => ((repeat (refine sub_cons (by k_mem) ?_)); (repeat (first | exact sub_id | refine sub_tl ?_)))); (case hd => ktr_room); (case hu => ktr_units); (case n0 => omega); (case n1 => omega); k_whole); intro t' h' tk' F' N'))
local macro_rules | `(tactic| walk_at "call ref") => `(tactic| (k_here; (with_reducible show wpAny _ _ (call (Value.ref 124) _) _ _ _); k_dflt (refine' s_get ?B ?F ?X ?N ?hs ?TP ?hk ?D ?O ?lo ?C ?W ?hd ?hu ?n0 ?n1 ?hit ?miss; (case B => k_asm); (case F => k_asm); (case X => k_asm); (case N => k_asm); (case TP => k_asm); (case hk => exact rfl); (case D => assumption); (case O => assumption); (case lo => assumption); (case C => assumption); (case W => assumption); (case hs => ((repeat (refine sub_cons (by k_mem) ?_)); (repeat (first | exact sub_id | refine sub_tl ?_)))); (case hd => ktr_room); (case hu => ktr_units); (case n0 => omega); (case n1 => omega)); (case' hit => (intro hin' v' st' qa' t1' n1' rs' T' tn' h' tk' hv' hq' hm' hke' hup' C' W' hkeep' O' F' N'; rcases hv' with hv' | ⟨j', tj', hv'⟩ <;> subst hv')); (case' miss => (intro hin' h' tk' F' N'))))
local macro_rules | `(tactic| walk_at "call ref") => `(tactic| (k_here; (with_reducible show wpAny _ _ (call (Value.ref 203) _) _ _ _); k_dflt (refine' s_read ?B ?F ?X ?N ?hs ?TP ?hk ?D ?O ?lo ?C ?W ?hd ?hu ?n0 ?n1 ?hit ?miss; (case B => k_asm); (case F => k_asm); (case X => k_asm); (case N => k_asm); (case TP => k_asm); (case hk => exact rfl); (case D => assumption); (case O => assumption); (case lo => assumption); (case C => assumption); (case W => assumption); (case hs => ((repeat (refine sub_cons (by k_mem) ?_)); (repeat (first | exact sub_id | refine sub_tl ?_)))); (case hd => ktr_room); (case hu => ktr_units); (case n0 => omega); (case n1 => omega)); (case' hit => (intro hin' v' st' qa' t1' n1' rs' T' tn' h' tk' hv' hq' hm' hke' hup' C' W' hkeep' O' F' N'; rcases hv' with hv' | ⟨j', tj', hv'⟩ <;> subst hv')); (case' miss => (intro hin' h' tk' F' N' t'))))
local macro_rules | `(tactic| walk_at "call ref") => `(tactic| (k_here; (with_reducible show wpAny _ _ (call (Value.ref 210) _) _ _ _); k_dflt (refine' s_take (qs := []) ?B ?F ?X ?N ?hs ?TP ?hk ?D ?O ?lo ?C ?hd ?hu ?hit ?miss; (case B => k_asm); (case F => k_asm); (case X => k_asm); (case N => k_asm); (case TP => k_asm); (case hk => exact rfl); (case D => assumption); (case O => assumption); (case lo => assumption); (case C => assumption); (case hs => ((repeat (refine sub_cons (by k_mem) ?_)); (repeat (first | exact sub_id | refine sub_tl ?_)))); (case hd => ktr_room); (case hu => ktr_units)); (case' hit => (intro hin' oD' h' tk' C' F' N'; have hle' := less_oneT5 hin')); (case' miss => (intro hin' h' tk' F' N'; have hle' := less_noneT5 hin'))))
local macro_rules | `(tactic| walk_at "call ref") => `(tactic| (k_here; (with_reducible show wpAny _ _ (call (Value.ref 174) _) _ _ _); k_dflt (refine' s_man (qs := []) ?B ?F ?X ?N ?hs ?TP ?hk ?D ?O ?lo ?C ?ht ?h0 ?h1 ?hd ?hu ?_; (case B => k_asm); (case F => k_asm); (case X => k_asm); (case N => k_asm); (case TP => k_asm); (case hk => exact rfl); (case D => assumption); (case O => assumption); (case lo => assumption); (case C => assumption); (case hs => ((repeat (refine sub_cons (by k_mem) ?_)); (repeat (first | exact sub_id | refine sub_tl ?_)))); (case ht => first | assumption | exact Thr.whole _ _ (by assumption) (by assumption) | exact Thr.half _); (case h0 => omega); (case h1 => omega); (case hd => ktr_room); (case hu => ktr_units); k_whole); intro rs2' oD' h' tk' hsq' C' F' N'))
local macro_rules | `(tactic| walk_at "call ref") => `(tactic| first | (k_here; (with_reducible show wpAny _ _ (call (Value.ref 196) _) _ _ _); k_dflt (refine' s_kept ?B ?F ?X ?N ?TP ?hk ?m1 ?m2 ?hi ?W ?hT ?lo ?hkn ?hkb ?ht ?h0 ?h1 ?hsq ?hd ?hu ?_ ?_; (case B => k_asm); (case F => k_asm); (case X => k_asm); (case N => k_asm); (case TP => k_asm); (case hk => exact rfl); (case m1 => k_mem); (case m2 => k_mem); (case hsq => exact sq_ofT5 (by assumption)); (case W => assumption); (case hi => first | assumption | exact ints_eqT5 (by assumption) (by assumption)); (case hT => ((repeat (refine sub_cons (by k_mem) ?_)); (repeat (first | exact sub_id | refine sub_tl ?_)))); (case lo => assumption); (case hkn => assumption); (case hkb => assumption); (case ht => first | assumption | exact Thr.whole _ 0 (by assumption) (by assumption) | exact Thr.half 0); (case h0 => omega); (case h1 => omega); (case hd => ktr_room); (case hu => ktr_units)); all_goals (first | (intro D' us' n' h' tk' hi' F' N' off') | (intro hrs' h' tk' F' N'))) | fail "no")
local macro_rules | `(tactic| walk_at "setItem ref int") => `(tactic| (k_here; k_dflt (refine' x_set_q ?F ?N ?U ?W ?P ?C ?O ?m1 ?a0 ?a5 ?hD ?_; (case F => k_asm); (case N => k_asm); (case U => k_updF); (case W => assumption); (case P => assumption); (case C => assumption); (case O => assumption); (case m1 => k_mem); (case a0 => assumption); (case a5 => assumption); (case hD => exact ⟨by k_ne, by k_ne, by k_ne, by k_ne, by k_ne, by k_ne, by k_ne⟩); k_whole); intro h' oR' F' N' W' C' O'; have hd9' := Lw.d W'; have hq9' := at_putT5 W'; (try dsimp only at N')))
local macro_rules | `(tactic| walk_at "setItem ref int") => `(tactic| (k_here; k_dflt (refine' s_set2 ?B ?F ?X ?N ?hs ?TP ?hk ?D ?O ?lo ?C ?W ?ht ?h0 ?h1 ?a0 ?a5 ?hv ?hd ?hu ?n0 ?n1 ?old ?new; (case B => k_asm); (case F => k_asm); (case X => k_asm); (case N => k_asm); (case TP => k_asm); (case hk => exact rfl); (case D => assumption); (case O => assumption); (case lo => assumption); (case C => assumption); (case W => assumption); (case hs => ((repeat (refine sub_cons (by k_mem) ?_)); (repeat (first | exact sub_id | refine sub_tl ?_)))); (case ht => assumption); (case h0 => omega); (case h1 => omega); (case a0 => assumption); (case a5 => assumption); (case hv => first | exact .inl rfl | exact .inr ⟨_, _, rfl⟩); (case hd => ktr_room); (case hu => ktr_units); (case n0 => omega); (case n1 => omega)); (case' old => (intro hin' rs1' rs2' oD' T' tn' h' tk' hke' hup' hkn' hkb' hsq' C' hkeep' W' O' F' N')); (case' new => (intro hin' rs1' rs2' oD' T' tn' h' tk' hke' hup' hkn' hkb' hsq' C' hkeep' W' O' F' N'))))
local macro_rules | `(tactic| walk_at "isTrue BoolOp") => `(tactic| (k_here; k_dflt (refine' tailB (qs := []) ?B ?F ?X ?N ?hs ?TP ?D ?lo ?C ?hi ?mc ?me ?_; (case B => k_asm); (case F => k_asm); (case X => k_asm); (case N => k_asm); (case TP => k_asm); (case D => assumption); (case me => first | exact rfl | assumption); (case mc => first | exact rfl | assumption); (case lo => assumption); (case C => assumption); (case hs => ((repeat (refine sub_cons (by k_mem) ?_)); (repeat (first | exact sub_id | refine sub_tl ?_)))); (case hi => first | assumption | exact ints_eqT5 (by assumption) (by assumption)); k_whole); intro h' tk' F' N'))
local macro_rules | `(tactic| walk_at "setItem ref") => `(tactic| (k_here; k_dflt (refine' x_set_q ?F ?N ?U ?W ?P ?C ?O ?m1 ?a0 ?a5 ?hD ?_; (case F => k_asm); (case N => k_asm); (case U => k_updF); (case W => assumption); (case P => assumption); (case C => assumption); (case O => assumption); (case m1 => k_mem); (case a0 => assumption); (case a5 => assumption); (case hD => exact ⟨by k_ne, by k_ne, by k_ne, by k_ne, by k_ne, by k_ne, by k_ne⟩); k_whole); intro h' oR' F' N' W' C' O'; have hd9' := Lw.d W'; have hq9' := at_putT5 W'; (try dsimp only at N')))
local macro_rules | `(tactic| walk_at "setItem ref") => `(tactic| (k_here; k_dflt (refine' s_set2 ?B ?F ?X ?N ?hs ?TP ?hk ?D ?O ?lo ?C ?W ?ht ?h0 ?h1 ?a0 ?a5 ?hv ?hd ?hu ?n0 ?n1 ?old ?new; (case B => k_asm); (case F => k_asm); (case X => k_asm); (case N => k_asm); (case TP => k_asm); (case hk => exact rfl); (case D => assumption); (case O => assumption); (case lo => assumption); (case C => assumption); (case W => assumption); (case hs => ((repeat (refine sub_cons (by k_mem) ?_)); (repeat (first | exact sub_id | refine sub_tl ?_)))); (case ht => assumption); (case h0 => omega); (case h1 => omega); (case a0 => assumption); (case a5 => assumption); (case hv => first | exact .inl rfl | exact .inr ⟨_, _, rfl⟩); (case hd => ktr_room); (case hu => ktr_units); (case n0 => omega); (case n1 => omega)); (case' old => (intro hin' rs1' rs2' oD' T' tn' h' tk' hke' hup' hkn' hkb' hsq' C' hkeep' W' O' F' N')); (case' new => (intro hin' rs1' rs2' oD' T' tn' h' tk' hke' hup' hkn' hkb' hsq' C' hkeep' W' O' F' N'))))

set_option maxHeartbeats 2000000 in
theorem kind5 {prog : Program} {w : World} {mean : ExcName → Option Value} {mg mb : Str → Option Value} {h₀ : Heap} {L fa I l : Addr} {oI : Obj} {cdv : Value} {m : Str → Option Value} {s : Shared} {Q : Flow → Shared → Prop} {E : Value → Shared → Prop}
    {T : List (Addr × Obj)} {c cd dD k kd rd e : Addr} {n room num den kv key more : Int} {tn th tc ti t1 t2 t3 t4 tkk tke tmo : Tok} {thr : Value} {held : Bool} {oD oR oC : Obj} {vs : List Value} {ne : Nat} {rs : List Row} {qs : List (Int × Value)} {i : Nat}
    (B : Below callerA h₀ [] h₀) (F : Fr h₀ L s.heap m) (X : (Mine.hd.heap_39 w.params).In h₀)
    (N : News h₀ L s.heap ((c, lru cd dD k n tn (.int room tc) thr) :: (cd, dictOf [] 0) :: (dD, oD) :: (k, instObj 46 kd) :: (kd, lockD w.params th held) :: (rd, oR) :: (e, listOf (List.toArray vs) ne) :: (L + 1, oC) :: T))
    (TP : Top Mine.hd.view_39 (looseW Mine.hd.view_39 [Str.ofString "itemgetter", Str.ofString "LRUCache"]) mean mg mb h₀) (D : Dist c cd dD k kd rd (L + 1)) (O : Offs T c cd dD k kd rd (L + 1)) (lo : (dD == sysModules) = false) (lo2 : (rd == sysModules) = false)
    (C : Cac prog w rs oD T e n) (W : Lw prog w rs qs oR T) (hi : IntsAre vs (rs.map (·.k))) (ht : Thr thr num den) (hn0 : 0 ≤ n) (hn1 : n ≤ (i : Int)) (hi4 : (i : Int) ≤ 39) (h0 : 0 ≤ room) (h1 : room ≤ 4)
    (hIT : (I, oI) ∈ T) (hIc : oI.cls ≠ .type "list")
    (hoc : oC.data = .cell (some (.int key tke))) (hk0 : 0 ≤ key) (hk5 : key ≤ 5)
    (m1 : m (Str.ofString "script") = some (.ref l)) (m2 : m (Str.ofString "room") = some (.int room t1)) (m3 : m (Str.ofString "num") = some (.int num t2)) (m4 : m (Str.ofString "den") = some (.int den t3)) (m5 : m (Str.ofString "c") = some (.ref c)) (m6 : m (Str.ofString "lock") = some (.ref k))
    (m7 : m (Str.ofString "entry") = some (.ref e)) (m8 : m (Str.ofString "rows") = some (.ref rd)) (m9 : m (Str.ofString "counter") = some (.int n t4)) (m10 : m (Str.ofString "held") = some (.bool held))
    (m11 : m (Str.ofString "i") = some (.int (0 + (i : Int)) ti)) (m12 : m (Str.ofString "kind") = some (.int kv tkk)) (m13 : m (Str.ofString "more") = some (.int more tmo))
    (fin : ∀ m' h' tk', StX prog w h₀ L l c cd dD k kd rd th I oI ((i : Int) + 1) h' m' → Q .next { s with heap := h', toks := tk' })
    (hK : kv = 5) : wpAny (model prog w) (callerA.deeper (envOfC (Str.ofString "law") lawScope L fa cdv)) (exec turnIf (envOfC (Str.ofString "law") lawScope L fa cdv)) Q E s := by
  subst hK
  obtain ⟨d12, d13, d14, d15, d16, d17, d23, d24, d25, d26, d27, d34, d35, d36, d37, d45, d46, d47, d56, d57, d67⟩ := id D
  have xe1 : @Ne Nat e c := news_ne N (.tail _ (.tail _ (.tail _ (.tail _ (.tail _ (.tail _ (.head _))))))) (.head _) (by intro h; cases h)
  have xe2 : @Ne Nat e cd := news_ne N (.tail _ (.tail _ (.tail _ (.tail _ (.tail _ (.tail _ (.head _))))))) (.tail _ (.head _)) (fun e => absurd (Value.type.inj e) (by decide))
  have xe3 : @Ne Nat e dD := news_ne N (.tail _ (.tail _ (.tail _ (.tail _ (.tail _ (.tail _ (.head _))))))) (.tail _ (.tail _ (.head _))) (by show Value.type "list" ≠ oD.cls; rw [dict_cls C.d]; exact fun e => absurd (Value.type.inj e) (by decide))
  have xe4 : @Ne Nat e k := news_ne N (.tail _ (.tail _ (.tail _ (.tail _ (.tail _ (.tail _ (.head _))))))) (.tail _ (.tail _ (.tail _ (.head _)))) (by intro h; cases h)
  have xe5 : @Ne Nat e kd := news_ne N (.tail _ (.tail _ (.tail _ (.tail _ (.tail _ (.tail _ (.head _))))))) (.tail _ (.tail _ (.tail _ (.tail _ (.head _))))) (fun e => absurd (Value.type.inj e) (by decide))
  have xe6 : @Ne Nat e rd := news_ne N (.tail _ (.tail _ (.tail _ (.tail _ (.tail _ (.tail _ (.head _))))))) (.tail _ (.tail _ (.tail _ (.tail _ (.tail _ (.head _)))))) (by show Value.type "list" ≠ oR.cls; rw [dict_cls W.d]; exact fun e => absurd (Value.type.inj e) (by decide))
  have xe7 : @Ne Nat e (L + 1) := news_cell N (.tail _ (.tail _ (.tail _ (.tail _ (.tail _ (.tail _ (.head _))))))) (.tail _ (.tail _ (.tail _ (.tail _ (.tail _ (.tail _ (.tail _ (.head _)))))))) hoc
  conv in (occs := *) lawScope => all_goals whnf
  conv in (occs := *) turnIf => all_goals whnf
  have hDR := W.d

  cases held <;> k_steps
  all_goals (try (exfalso; omega; done))
  all_goals (refine' fin _ _ _ (StX.intro (StF.mk ?F ?N ?O ?C ?W ?hi ?ht ?n0 ?n1 ?h0 ?h1 ?hoc ?m1 ?m2 ?m3 ?m4 ?m5 ?m6 ?m7 ?m8 ?m9 ?m10) ?b); (case F => k_asm); (case m1 => first | exact rfl | assumption); (case m2 => first | exact rfl | assumption); (case m3 => first | exact rfl | assumption); (case m4 => first | exact rfl | assumption); (case m5 => first | exact rfl | assumption); (case m6 => first | exact rfl | assumption); (case m7 => first | exact rfl | assumption); (case m8 => first | exact rfl | assumption); (case m9 => first | exact rfl | assumption); (case m10 => first | exact rfl | assumption); (case O => assumption); (case C => first | assumption | exact cac_up (by assumption) (by omega)); (case W => first | assumption | exact lw_sub (by assumption) (sqz_sub (by assumption))); (case N => (refine news_sub (by k_asm) ?_; ((repeat (refine sub_cons (by k_mem) ?_)); (repeat (first | exact sub_id | refine sub_tl ?_))))); (case hi => first | assumption | exact ints_eqT5 (by assumption) (by assumption)); (case ht => first | assumption | exact Thr.whole _ _ (by assumption) (by assumption) | exact Thr.half _); (case n0 => omega); (case n1 => omega); (case h0 => omega); (case h1 => omega); (case hoc => assumption); (case b => first | assumption | (exact (by assumption : ∀ p ∈ _, p.2.cls ≠ .type "list" → p ∈ _) _ (by assumption) (by assumption)) | exact List.Mem.tail _ (by assumption)))

end Mine
end
section
namespace Mine
local macro_rules | `(tactic| walk_at "none of mine") => `(tactic| fail "none")
local macro_rules | `(tactic| walk_at "none of mine") => `(tactic| fail "none")
local macro_rules | `(tactic| walk_at "none of mine") => `(tactic| fail "none")
local macro_rules | `(tactic| walk_at "none of mine") => `(tactic| fail "none")
local macro_rules | `(tactic| walk_at "none of mine") => `(tactic| fail "none")
local macro_rules | `(tactic| walk_at "none of mine") => `(tactic| fail "none")
local macro_rules | `(tactic| walk_at "none of mine") => `(tactic| fail "none")
theorem fillT6 : True := by
  w_top off
  trivial


local macro_rules | `(tactic| k_room) => `(tactic| ktr_room)
local macro_rules | `(tactic| k_units) => `(tactic| ktr_units)
local macro_rules | `(tactic| ktr_enter) => `(tactic| (refine' code_def ?k1 ?k2 ?k3 ?k4 ?k5 ?kA ?kF ?kK ?k6 ?k7 ?k8 ?k9 ?kB ?_ ?c2 ?c3 ?c4 ?c5; (case kA => exact rfl); (case kF => exact rfl); (case kK => first | assumption | exact rfl); (case k1 => k_asm); (case k2 => k_asm); (case k3 => k_asm); (case k4 => k_asm); (case k5 => k_asm); (case k6 => k_is); (case k7 => k_is); (case k8 => ktr_room); (case k9 => first | exact BindsTo.of_eq rfl | exact binds_K (by k_in) rfl (by k_is) rfl rfl rfl | fail "ktr_enter: no rule for these arguments"); (case c5 => decide); (case kB => exact locs rfl); (case c2 => exact rfl); (case c3 => exact rfl); (case c4 => exact rfl); k_whole; intro g' L' h' FG' F' N' B' X' T'; (try dsimp only); (try k_fold)))
local macro_rules | `(tactic| k_lt $h:ident) => `(tactic| (replace $h := allLt_of $h; simp only [AllLt, and_true] at $h:ident; (try ((fail_if_success (rename AllLt _ _ => l6)); have l7 : AllLt _ _ := (by first | exact ($h).2 | exact ($h).2.2 | exact ($h).2.2.2 | exact ($h).2.2.2.2 | exact ($h).2.2.2.2.2 | exact ($h).2.2.2.2.2.2 | exact ($h).2.2.2.2.2.2.2 | exact ($h).2.2.2.2.2.2.2.2 | exact ($h).2.2.2.2.2.2.2.2.2 | exact ($h).2.2.2.2.2.2.2.2.2.2 | exact ($h).2.2.2.2.2.2.2.2.2.2.2 | exact ($h).2.2.2.2.2.2.2.2.2.2.2.2)))))
local macro_rules | `(tactic| k_all) => `(tactic| (refine' allLt_ne ?h6 ?h7; (case h6 => assumption); (case h7 => ((try dsimp only); omega))))
local macro_rules | `(tactic| k_all) => `(tactic| with_reducible assumption)
local macro_rules | `(tactic| walk_at "call builtin:len") => `(tactic| (k_here; (with_reducible show wpAny _ _ (call (Value.builtin "len") [Value.ref _]) _ _ _); k_dflt (refine' kda_len (knd := PySem.intKind _ _) ?N ?m ?d ?lo ?f ?_; (case N => k_asm); (case m => k_mem); (case d => k_asm); (case lo => k_asm); (case f => assumption); k_whole)))
local macro_rules | `(tactic| walk_at "getMethod ref") => `(tactic| (k_here; (with_reducible show wpAny _ _ (getMethod (Value.ref _) (Str.ofString "get") _) _ _ _); k_dflt (refine' kdg_method (knd := PySem.intKind _ _) ?N ?m ?d ?_; (case N => k_asm); (case m => k_mem); (case d => k_asm); k_whole)))
local macro_rules | `(tactic| walk_at "call builtin:dict.get") => `(tactic| (k_here; (with_reducible show wpAny _ _ (call (Value.builtin "dict.get") [Value.ref _, Value.int _ _]) _ _ _); k_dflt (refine' kdg_get1 (knd := PySem.intKind _ _) ?N ?m ?d ?lo (intKind_is _ _ _ _) _ ?hl ?_; (case N => k_asm); (case m => k_mem); (case d => k_asm); (case lo => k_asm); (case hl => assumption); k_whole; (try dsimp only [Option.getD]))))
local macro_rules | `(tactic| walk_at "subscriptTail") => `(tactic| (k_here; (with_reducible show wpAny _ _ (subscriptTail _ _ (Value.ref _) (Value.int _ _)) _ _ _); k_dflt (refine' kda_item (knd := PySem.intKind _ _) ?N ?m ?d (intKind_is _ _ _ _) ?hl ?_; (case N => k_asm); (case m => k_mem); (case d => k_asm); (case hl => assumption); k_whole)))
theorem x_get_missT6 {prog : Program} {w : World} {A : Around} {E : Value → Shared → Prop} {s : Shared} {h₀ : Heap} {L d : Addr} {news : List (Addr × Obj)} {o : Obj} {kvs : List (Int × Value)} {k : Int} {t : Tok} {Q : Value → Shared → Prop}
    (N : News h₀ L s.heap news) (hp : (d, o) ∈ news) (hd : o.IsDictOf (PySem.intKind prog w) kvs) (lo : (d == sysModules) = false) (hh : A.handled = none) (hl : valueAt kvs k = none)
    (h : ∀ h' e, Heap.NewExc s.heap h' e "KeyError" → E (.ref e) { s with heap := h', toks := s.toks + 1 }) : wpAny (model prog w) A (getItem (.ref d) (.int k t)) Q E s :=
  wpAny_getItem_missing_of (intKind_is _ _ _ _) lo hh (kda_dict N hp hd).mapOf hl h
local macro_rules | `(tactic| walk_at "getItem ref int") => `(tactic| (k_here; k_dflt (refine' x_get_missT6 ?N ?m ?d ?lo ?hh ?hl ?_; (case N => k_asm); (case m => k_mem); (case d => k_asm); (case lo => k_asm); (case hh => exact rfl); (case hl => assumption); k_whole); intro h' e' x'))
local macro_rules | `(tactic| walk_at "getItem ref int") => `(tactic| (k_here; k_dflt (refine' kdt_getItem (knd := PySem.intKind _ _) ?N ?m ?d (intKind_is _ _ _ _) ?hl ?_; (case N => k_asm); (case m => k_mem); (case d => k_asm); (case hl => assumption); k_whole)))
local macro_rules | `(tactic| walk_at "delItem ref int") => `(tactic| (k_here; k_dflt (refine' x_del_miss ?N ?m ?d ?lo ?hh ?hl ?_; (case N => k_asm); (case m => k_mem); (case d => k_asm); (case lo => k_asm); (case hh => exact rfl); (case hl => assumption); k_whole); intro h' e' x'))
local macro_rules | `(tactic| walk_at "delItem ref int") => `(tactic| (k_here; k_dflt (refine' kob_del (knd := PySem.intKind _ _) ?F ?N ?U ?d (intKind_is _ _ _ _) ?l ?z ?_; (case F => k_asm); (case N => k_asm); (case U => k_updF); (case d => k_asm); (case l => assumption); (case z => first | assumption | (rw [sizeLine_eq]; assumption)); k_whole); intro h' o' F' N' hd'; (try dsimp only at N')))
theorem x_del_ownT6 {M : Model} {A : Around} {E : Value → Shared → Prop} {s : Shared} {K : Frag} {x C L f : Addr} {h₀ : Heap} {m : Str → Option Value} {ox : Obj} {od : Option Obj} {i : Value} {Q : Unit → Shared → Prop}
    (F : Fr h₀ L s.heap m) (X₀ : K.In h₀) (I : InstAt s.heap x ox C od) (hq : noSeq K C = true) (hs : findIn K (.ref C) "__delitem__" = some (some (.ref f))) (hf : isFn K (.ref f) = true)
    (h : wpAny M A (call (.ref f) [.ref x, i]) (fun _ s' => Q () s') E s) : wpAny M A (delItem (.ref x) i) Q E s := by
  have X := X₀.keeps F.keep
  unfold delItem sequenceKey
  refine wpAny_holding (wpAny_bind (wpAny_bind (I.type.here ?_)))
  refine wpAny_bind ((anyM_none X hq).here ?_)
  rw [if_pos (show (!false) = true from rfl)]
  exact wpAny_pure (wpAny_bind (special_fn X I hs (beq_iff_eq.mp hf) (wpAny_mono h (fun _ _ z => wpAny_pure z) fun _ _ z => z)))
local macro_rules | `(tactic| walk_at "delItem ref int") => `(tactic| (k_here; k_dflt (refine' x_del_ownT6 ?k1 ?k2 ?k3 ?k4 ?k5 ?k6 ?_; (case k1 => k_asm); (case k2 => k_asm); (case k3 => k_inst); (case k4 => k_is); (case k5 => k_is); (case k6 => k_is); k_whole)))
local macro_rules | `(tactic| walk_at "WhlIf") => `(tactic| (first | (refine WhlIf.yes (decide_eq_true (by omega)) ?_) | (refine WhlIf.no (decide_eq_false (by omega)) ?_)))
local macro_rules | `(tactic| walk_at "eval Dict nil nil") => `(tactic| (k_here; k_dflt (refine' newDict_K ?k1 ?k2 ?k3 ?_; (case k1 => k_asm); (case k2 => k_asm); (case k3 => first | exact Top.nolimit (by k_asm) | exact TopRead.nolimit (by k_asm)); k_whole); intro d' h' o' F' N' l1 lo' hs' fs' hi' fi'; (try k_lt l1)))
theorem add_genT6 {prog : Program} {w : World} {A : Around} {E : Value → Shared → Prop} {s : Shared} {a b : Int} {ta tb : Tok} {Q : Value → Shared → Prop} (h : ∀ t tk, Q (.int (a + b) t) { s with toks := tk }) : wpAny (model prog w) A (binaryOp .Add (.int a ta) (.int b tb)) Q E s := add_int (h _ _)
local macro_rules | `(tactic| walk_at "binaryOp Add int int") => `(tactic| (k_here; with_reducible (refine add_genT6 ?_); intro t' tk'))


theorem lw_lessT6 {prog : Program} {w : World} {rs : List Row} {ks : List Int} {qs : List (Int × Value)} {oR : Obj} {T : List (Addr × Obj)} (W : Lw prog w rs qs oR T) : Lw prog w (less rs ks) qs oR T := lw_sub W fun _ hx => (List.mem_filter.mp hx).1
theorem keep_atT6 {T T' : List (Addr × Obj)} {p : Addr × Obj} (h : ∀ p ∈ T, p.2.cls ≠ .type "list" → p ∈ T') (hp : p ∈ T) (hc : p.2.cls ≠ .type "list") : p ∈ T' := h p hp hc
theorem at_putT6 {prog : Program} {w : World} {rs : List Row} {qs : List (Int × Value)} {key : Int} {v : Value} {oR : Obj} {T : List (Addr × Obj)} (_ : Lw prog w rs (stored qs key v) oR T) : valueAt (stored qs key v) key = some v := by rw [at_stored, if_pos rfl]
theorem off8T6 {p1 p2 p3 p4 p5 p6 p7 p8 P : Prop} (h : p1 ∧ p2 ∧ p3 ∧ p4 ∧ p5 ∧ p6 ∧ p7 ∧ p8 ∧ P) : P := h.2.2.2.2.2.2.2.2
theorem off9T6 {D : Addr} : ∀ {T : List (Addr × Obj)}, PyProof.Rows.LCg.Off1 D T → ∀ p ∈ T, p.1 ≠ D
  | [], _, _, h => nomatch h
  | q :: r, h, p, hp => by
    rcases List.mem_cons.mp hp with rfl | hp
    · exact h.1
    · exact off9T6 h.2 p hp
theorem bne_decT6 (a b : Int) : (a != b) = decide (a ≠ b) := by by_cases h : a = b <;> simp [h]
local macro_rules | `(tactic| walk_at "Eq") => `(tactic| exact bne_decT6 _ _)
theorem ne_ltT6 {T news : List (Addr × Obj)} {D : Addr} (l1 : ∀ p ∈ news, p.1 < D) (hs : ∀ p ∈ T, p ∈ news) : ∀ p ∈ T, p.1 ≠ D := fun p hp => Nat.ne_of_lt (l1 p (hs p hp))
theorem ne_atT6 {T news : List (Addr × Obj)} {D : Addr} (l1 : ∀ p ∈ news, p.1 ≠ D) (hs : ∀ p ∈ T, p ∈ news) : ∀ p ∈ T, p.1 ≠ D := fun p hp => l1 p (hs p hp)
theorem sqz_trueT6 {rs rs2 : List Row} {a b c : Int} (h : Sqz true rs rs2 a b c) : rs2 = rs := by
  rcases h with ⟨_, h⟩ | ⟨h, _⟩
  · exact h
  · cases h
theorem less_oneT6 {rs : List Row} {key : Int} (_ : key ∈ rs.map (·.k)) : (less rs [key]).map (·.k) = (rs.filter fun r => decide (r.k ≠ key)).map (·.k) := by
  have : less rs [key] = rs.filter fun r => decide (r.k ≠ key) := List.filter_congr fun r _ => by simp
  rw [this]
theorem less_noneT6 {rs : List Row} {key : Int} (h : key ∉ rs.map (·.k)) : rs.map (·.k) = (rs.filter fun r => decide (r.k ≠ key)).map (·.k) := by
  have : rs.filter (fun r => decide (r.k ≠ key)) = rs := List.filter_eq_self.mpr fun r hr => decide_eq_true fun e => h (e ▸ List.mem_map_of_mem hr)
  rw [this]
local macro_rules | `(tactic| k_all) => `(tactic| first | exact ne_atT6 (by assumption) (by ((repeat (refine sub_cons (by k_mem) ?_)); (repeat (first | exact sub_id | refine sub_tl ?_)))) | exact ne_ltT6 (by assumption) (by ((repeat (refine sub_cons (by k_mem) ?_)); (repeat (first | exact sub_id | refine sub_tl ?_)))))
local macro_rules | `(tactic| walk_at "binaryOp Add ref ref") => `(tactic| (k_here; (with_reducible show wpAny _ _ (binaryOp _ (Value.ref _) (Value.ref _)) _ _ _); k_dflt (refine' x_add_one ?F ?N ?m1 ?m2 ?i1 ?hz ?_; (case F => k_asm); (case N => k_asm); (case m1 => k_mem); (case m2 => k_mem); (case i1 => with_reducible assumption); (case hz => assumption); k_whole); intro D' us' h' F' N' l1 hi'; have l9' := l1; (try k_lt l1)))
local macro_rules | `(tactic| walk_at "compareOp In int ref") => `(tactic| (k_here; (with_reducible show wpAny _ _ (compareOp CmpOp.In (Value.int _ _) (Value.ref _)) _ _ _); k_dflt (first
  | (refine' x_in_yes ?N ?m1 ?i1 ?hin ?_; (case N => k_asm); (case m1 => k_mem); (case i1 => with_reducible assumption); (case hin => assumption); k_whole)
  | (refine' x_in_no ?N ?m1 ?i1 ?hin ?_; (case N => k_asm); (case m1 => k_mem); (case i1 => with_reducible assumption); (case hin => assumption); k_whole))))
local macro_rules | `(tactic| walk_at "compareOp NotIn int ref") => `(tactic| (k_here; (with_reducible show wpAny _ _ (compareOp CmpOp.NotIn (Value.int _ _) (Value.ref _)) _ _ _); k_dflt (first
  | (refine' x_notin_yes ?N ?m1 ?i1 ?hin ?_; (case N => k_asm); (case m1 => k_mem); (case i1 => with_reducible assumption); (case hin => assumption); k_whole)
  | (refine' x_notin_no ?N ?m1 ?i1 ?hin ?_; (case N => k_asm); (case m1 => k_mem); (case i1 => with_reducible assumption); (case hin => assumption); k_whole))))
local macro_rules | `(tactic| k_ne) => `(tactic| (refine neN ?_; (try dsimp only); first | assumption | (refine Ne.symm ?_; assumption) | omega))
local macro_rules | `(tactic| walk_at "CompSrcT") => `(tactic| (k_here; k_dflt (refine' comp_src_ne ?hdc _ ?hh ?F ?N ?m ?i ?z ?test ?turn ?fin; (case hdc => first | with_reducible assumption | assumption); (case hh => rfl); (case F => k_asm); (case N => k_asm); (case m => k_mem); (case i => with_reducible assumption); (case z => assumption)); (case' test => (intro g' r' hr' t' I' oI' C' oC' D' m2' h' tk' E' ys' hC' hx' F' N')); (case' turn => (intro g' r' hr' t' I' oI' C' oC' D' m2' h' tk' E' ys' hC' hx' F' N')); (case' fin => (intro g' us' hi'))))
local macro_rules | `(tactic| walk_at "Keep") => `(tactic| exact Keep.intro (by k_asm) (by k_asm))
local macro_rules | `(tactic| walk_at "exec Assign cons ListComp") => `(tactic| (k_here; lct_look; k_dflt (refine LCt.Assign_ListComp_T (F₀ := by k_asm) (by rfl) (by with_unfolding_all rfl) (by with_unfolding_all rfl) (by decide) (by rfl) (by decide) (by rfl) (by rfl) (by rfl) ?_)))

theorem ints_eqT6 {vs : List Value} {a b : List Int} (e : a = b) (h : IntsAre vs b) : IntsAre vs a := e ▸ h
theorem sq_ofT6 {rs rs2 : List Row} {a b c : Int} (h : Sqz false rs rs2 a b c) : Sq rs rs2 a b c := by
  rcases h with ⟨h, _⟩ | ⟨_, h⟩
  · cases h
  · exact h
local macro_rules | `(tactic| k_mem) => `(tactic| assumption)
local macro_rules | `(tactic| walk_at "eval Name") => `(tactic| (k_here; k_dflt (refine' nameX_L ?k1 ?k2 ?_ ?a ?b; (case a => rfl); (case b => rfl); (case k1 => k_asm); (case k2 => assumption); k_whole)))
local macro_rules | `(tactic| k_all) => `(tactic| first | exact Offs.o1 (by assumption) | exact Offs.o2 (by assumption) | exact Offs.o3 (by assumption) | exact Offs.o4 (by assumption) | exact Offs.o5 (by assumption) | exact Offs.o6 (by assumption) | exact Offs.o7 (by assumption))
local macro_rules | `(tactic| walk_at "call ref") => `(tactic| (k_here; (with_reducible show wpAny _ _ (call (Value.ref 116) _) _ _ _); k_dflt (refine' s_inc (rs := []) (qs := []) ?B ?F ?X ?N ?hs ?TP ?hk ?D ?O ?hd ?hu ?n0 ?n1 ?_; (case B => k_asm); (case F => k_asm); (case X => k_asm); (case N => k_asm); (case TP => k_asm); (case hk => exact rfl); (case D => assumption); (case O => assumption); (case hs => ((repeat (refine sub_cons (by k_mem) ?_)); (repeat (first | exact sub_id | refine sub_tl ?_)))); (case hd => ktr_room); (case hu => ktr_units); (case n0 => omega); (case n1 => omega); k_whole); intro t' h' tk' F' N'))
local macro_rules | `(tactic| walk_at "call ref") => `(tactic| (k_here; (with_reducible show wpAny _ _ (call (Value.ref 124) _) _ _ _); k_dflt (refine' s_get ?B ?F ?X ?N ?hs ?TP ?hk ?D ?O ?lo ?C ?W ?hd ?hu ?n0 ?n1 ?hit ?miss; (case B => k_asm); (case F => k_asm); (case X => k_asm); (case N => k_asm); (case TP => k_asm); (case hk => exact rfl); (case D => assumption); (case O => assumption); (case lo => assumption); (case C => assumption); (case W => assumption); (case hs => ((repeat (refine sub_cons (by k_mem) ?_)); (repeat (first | exact sub_id | refine sub_tl ?_)))); (case hd => ktr_room); (case hu => ktr_units); (case n0 => omega); (case n1 => omega)); (case' hit => (intro hin' v' st' qa' t1' n1' rs' T' tn' h' tk' hv' hq' hm' hke' hup' C' W' hkeep' O' F' N'; rcases hv' with hv' | ⟨j', tj', hv'⟩ <;> subst hv')); (case' miss => (intro hin' h' tk' F' N'))))
local macro_rules | `(tactic| walk_at "call ref") => `(tactic| (k_here; (with_reducible show wpAny _ _ (call (Value.ref 203) _) _ _ _); k_dflt (refine' s_read ?B ?F ?X ?N ?hs ?TP ?hk ?D ?O ?lo ?C ?W ?hd ?hu ?n0 ?n1 ?hit ?miss; (case B => k_asm); (case F => k_asm); (case X => k_asm); (case N => k_asm); (case TP => k_asm); (case hk => exact rfl); (case D => assumption); (case O => assumption); (case lo => assumption); (case C => assumption); (case W => assumption); (case hs => ((repeat (refine sub_cons (by k_mem) ?_)); (repeat (first | exact sub_id | refine sub_tl ?_)))); (case hd => ktr_room); (case hu => ktr_units); (case n0 => omega); (case n1 => omega)); (case' hit => (intro hin' v' st' qa' t1' n1' rs' T' tn' h' tk' hv' hq' hm' hke' hup' C' W' hkeep' O' F' N'; rcases hv' with hv' | ⟨j', tj', hv'⟩ <;> subst hv')); (case' miss => (intro hin' h' tk' F' N' t'))))
local macro_rules | `(tactic| walk_at "call ref") => `(tactic| (k_here; (with_reducible show wpAny _ _ (call (Value.ref 210) _) _ _ _); k_dflt (refine' s_take (qs := []) ?B ?F ?X ?N ?hs ?TP ?hk ?D ?O ?lo ?C ?hd ?hu ?hit ?miss; (case B => k_asm); (case F => k_asm); (case X => k_asm); (case N => k_asm); (case TP => k_asm); (case hk => exact rfl); (case D => assumption); (case O => assumption); (case lo => assumption); (case C => assumption); (case hs => ((repeat (refine sub_cons (by k_mem) ?_)); (repeat (first | exact sub_id | refine sub_tl ?_)))); (case hd => ktr_room); (case hu => ktr_units)); (case' hit => (intro hin' oD' h' tk' C' F' N'; have hle' := less_oneT6 hin')); (case' miss => (intro hin' h' tk' F' N'; have hle' := less_noneT6 hin'))))
local macro_rules | `(tactic| walk_at "call ref") => `(tactic| (k_here; (with_reducible show wpAny _ _ (call (Value.ref 174) _) _ _ _); k_dflt (refine' s_man (qs := []) ?B ?F ?X ?N ?hs ?TP ?hk ?D ?O ?lo ?C ?ht ?h0 ?h1 ?hd ?hu ?_; (case B => k_asm); (case F => k_asm); (case X => k_asm); (case N => k_asm); (case TP => k_asm); (case hk => exact rfl); (case D => assumption); (case O => assumption); (case lo => assumption); (case C => assumption); (case hs => ((repeat (refine sub_cons (by k_mem) ?_)); (repeat (first | exact sub_id | refine sub_tl ?_)))); (case ht => first | assumption | exact Thr.whole _ _ (by assumption) (by assumption) | exact Thr.half _); (case h0 => omega); (case h1 => omega); (case hd => ktr_room); (case hu => ktr_units); k_whole); intro rs2' oD' h' tk' hsq' C' F' N'))
local macro_rules | `(tactic| walk_at "call ref") => `(tactic| first | (k_here; (with_reducible show wpAny _ _ (call (Value.ref 196) _) _ _ _); k_dflt (refine' s_kept ?B ?F ?X ?N ?TP ?hk ?m1 ?m2 ?hi ?W ?hT ?lo ?hkn ?hkb ?ht ?h0 ?h1 ?hsq ?hd ?hu ?_ ?_; (case B => k_asm); (case F => k_asm); (case X => k_asm); (case N => k_asm); (case TP => k_asm); (case hk => exact rfl); (case m1 => k_mem); (case m2 => k_mem); (case hsq => exact sq_ofT6 (by assumption)); (case W => assumption); (case hi => first | assumption | exact ints_eqT6 (by assumption) (by assumption)); (case hT => ((repeat (refine sub_cons (by k_mem) ?_)); (repeat (first | exact sub_id | refine sub_tl ?_)))); (case lo => assumption); (case hkn => assumption); (case hkb => assumption); (case ht => first | assumption | exact Thr.whole _ 0 (by assumption) (by assumption) | exact Thr.half 0); (case h0 => omega); (case h1 => omega); (case hd => ktr_room); (case hu => ktr_units)); all_goals (first | (intro D' us' n' h' tk' hi' F' N' off') | (intro hrs' h' tk' F' N'))) | fail "no")
local macro_rules | `(tactic| walk_at "setItem ref int") => `(tactic| (k_here; k_dflt (refine' x_set_q ?F ?N ?U ?W ?P ?C ?O ?m1 ?a0 ?a5 ?hD ?_; (case F => k_asm); (case N => k_asm); (case U => k_updF); (case W => assumption); (case P => assumption); (case C => assumption); (case O => assumption); (case m1 => k_mem); (case a0 => assumption); (case a5 => assumption); (case hD => exact ⟨by k_ne, by k_ne, by k_ne, by k_ne, by k_ne, by k_ne, by k_ne⟩); k_whole); intro h' oR' F' N' W' C' O'; have hd9' := Lw.d W'; have hq9' := at_putT6 W'; (try dsimp only at N')))
local macro_rules | `(tactic| walk_at "setItem ref int") => `(tactic| (k_here; k_dflt (refine' s_set2 ?B ?F ?X ?N ?hs ?TP ?hk ?D ?O ?lo ?C ?W ?ht ?h0 ?h1 ?a0 ?a5 ?hv ?hd ?hu ?n0 ?n1 ?old ?new; (case B => k_asm); (case F => k_asm); (case X => k_asm); (case N => k_asm); (case TP => k_asm); (case hk => exact rfl); (case D => assumption); (case O => assumption); (case lo => assumption); (case C => assumption); (case W => assumption); (case hs => ((repeat (refine sub_cons (by k_mem) ?_)); (repeat (first | exact sub_id | refine sub_tl ?_)))); (case ht => assumption); (case h0 => omega); (case h1 => omega); (case a0 => assumption); (case a5 => assumption); (case hv => first | exact .inl rfl | exact .inr ⟨_, _, rfl⟩); (case hd => ktr_room); (case hu => ktr_units); (case n0 => omega); (case n1 => omega)); (case' old => (intro hin' rs1' rs2' oD' T' tn' h' tk' hke' hup' hkn' hkb' hsq' C' hkeep' W' O' F' N')); (case' new => (intro hin' rs1' rs2' oD' T' tn' h' tk' hke' hup' hkn' hkb' hsq' C' hkeep' W' O' F' N'))))
local macro_rules | `(tactic| walk_at "isTrue BoolOp") => `(tactic| (k_here; k_dflt (refine' tailB (qs := []) ?B ?F ?X ?N ?hs ?TP ?D ?lo ?C ?hi ?mc ?me ?_; (case B => k_asm); (case F => k_asm); (case X => k_asm); (case N => k_asm); (case TP => k_asm); (case D => assumption); (case me => first | exact rfl | assumption); (case mc => first | exact rfl | assumption); (case lo => assumption); (case C => assumption); (case hs => ((repeat (refine sub_cons (by k_mem) ?_)); (repeat (first | exact sub_id | refine sub_tl ?_)))); (case hi => first | assumption | exact ints_eqT6 (by assumption) (by assumption)); k_whole); intro h' tk' F' N'))
local macro_rules | `(tactic| walk_at "setItem ref") => `(tactic| (k_here; k_dflt (refine' x_set_q ?F ?N ?U ?W ?P ?C ?O ?m1 ?a0 ?a5 ?hD ?_; (case F => k_asm); (case N => k_asm); (case U => k_updF); (case W => assumption); (case P => assumption); (case C => assumption); (case O => assumption); (case m1 => k_mem); (case a0 => assumption); (case a5 => assumption); (case hD => exact ⟨by k_ne, by k_ne, by k_ne, by k_ne, by k_ne, by k_ne, by k_ne⟩); k_whole); intro h' oR' F' N' W' C' O'; have hd9' := Lw.d W'; have hq9' := at_putT6 W'; (try dsimp only at N')))
local macro_rules | `(tactic| walk_at "setItem ref") => `(tactic| (k_here; k_dflt (refine' s_set2 ?B ?F ?X ?N ?hs ?TP ?hk ?D ?O ?lo ?C ?W ?ht ?h0 ?h1 ?a0 ?a5 ?hv ?hd ?hu ?n0 ?n1 ?old ?new; (case B => k_asm); (case F => k_asm); (case X => k_asm); (case N => k_asm); (case TP => k_asm); (case hk => exact rfl); (case D => assumption); (case O => assumption); (case lo => assumption); (case C => assumption); (case W => assumption); (case hs => ((repeat (refine sub_cons (by k_mem) ?_)); (repeat (first | exact sub_id | refine sub_tl ?_)))); (case ht => assumption); (case h0 => omega); (case h1 => omega); (case a0 => assumption); (case a5 => assumption); (case hv => first | exact .inl rfl | exact .inr ⟨_, _, rfl⟩); (case hd => ktr_room); (case hu => ktr_units); (case n0 => omega); (case n1 => omega)); (case' old => (intro hin' rs1' rs2' oD' T' tn' h' tk' hke' hup' hkn' hkb' hsq' C' hkeep' W' O' F' N')); (case' new => (intro hin' rs1' rs2' oD' T' tn' h' tk' hke' hup' hkn' hkb' hsq' C' hkeep' W' O' F' N'))))

set_option maxHeartbeats 2000000 in
theorem kind6 {prog : Program} {w : World} {mean : ExcName → Option Value} {mg mb : Str → Option Value} {h₀ : Heap} {L fa I l : Addr} {oI : Obj} {cdv : Value} {m : Str → Option Value} {s : Shared} {Q : Flow → Shared → Prop} {E : Value → Shared → Prop}
    {T : List (Addr × Obj)} {c cd dD k kd rd e : Addr} {n room num den kv key more : Int} {tn th tc ti t1 t2 t3 t4 tkk tke tmo : Tok} {thr : Value} {held : Bool} {oD oR oC : Obj} {vs : List Value} {ne : Nat} {rs : List Row} {qs : List (Int × Value)} {i : Nat}
    (B : Below callerA h₀ [] h₀) (F : Fr h₀ L s.heap m) (X : (Mine.hd.heap_39 w.params).In h₀)
    (N : News h₀ L s.heap ((c, lru cd dD k n tn (.int room tc) thr) :: (cd, dictOf [] 0) :: (dD, oD) :: (k, instObj 46 kd) :: (kd, lockD w.params th held) :: (rd, oR) :: (e, listOf (List.toArray vs) ne) :: (L + 1, oC) :: T))
    (TP : Top Mine.hd.view_39 (looseW Mine.hd.view_39 [Str.ofString "itemgetter", Str.ofString "LRUCache"]) mean mg mb h₀) (D : Dist c cd dD k kd rd (L + 1)) (O : Offs T c cd dD k kd rd (L + 1)) (lo : (dD == sysModules) = false) (lo2 : (rd == sysModules) = false)
    (C : Cac prog w rs oD T e n) (W : Lw prog w rs qs oR T) (hi : IntsAre vs (rs.map (·.k))) (ht : Thr thr num den) (hn0 : 0 ≤ n) (hn1 : n ≤ (i : Int)) (hi4 : (i : Int) ≤ 39) (h0 : 0 ≤ room) (h1 : room ≤ 4)
    (hIT : (I, oI) ∈ T) (hIc : oI.cls ≠ .type "list")
    (hoc : oC.data = .cell (some (.int key tke))) (hk0 : 0 ≤ key) (hk5 : key ≤ 5)
    (m1 : m (Str.ofString "script") = some (.ref l)) (m2 : m (Str.ofString "room") = some (.int room t1)) (m3 : m (Str.ofString "num") = some (.int num t2)) (m4 : m (Str.ofString "den") = some (.int den t3)) (m5 : m (Str.ofString "c") = some (.ref c)) (m6 : m (Str.ofString "lock") = some (.ref k))
    (m7 : m (Str.ofString "entry") = some (.ref e)) (m8 : m (Str.ofString "rows") = some (.ref rd)) (m9 : m (Str.ofString "counter") = some (.int n t4)) (m10 : m (Str.ofString "held") = some (.bool held))
    (m11 : m (Str.ofString "i") = some (.int (0 + (i : Int)) ti)) (m12 : m (Str.ofString "kind") = some (.int kv tkk)) (m13 : m (Str.ofString "more") = some (.int more tmo))
    (fin : ∀ m' h' tk', StX prog w h₀ L l c cd dD k kd rd th I oI ((i : Int) + 1) h' m' → Q .next { s with heap := h', toks := tk' })
    (hK : kv = 6) : wpAny (model prog w) (callerA.deeper (envOfC (Str.ofString "law") lawScope L fa cdv)) (exec turnIf (envOfC (Str.ofString "law") lawScope L fa cdv)) Q E s := by
  subst hK
  obtain ⟨d12, d13, d14, d15, d16, d17, d23, d24, d25, d26, d27, d34, d35, d36, d37, d45, d46, d47, d56, d57, d67⟩ := id D
  have xe1 : @Ne Nat e c := news_ne N (.tail _ (.tail _ (.tail _ (.tail _ (.tail _ (.tail _ (.head _))))))) (.head _) (by intro h; cases h)
  have xe2 : @Ne Nat e cd := news_ne N (.tail _ (.tail _ (.tail _ (.tail _ (.tail _ (.tail _ (.head _))))))) (.tail _ (.head _)) (fun e => absurd (Value.type.inj e) (by decide))
  have xe3 : @Ne Nat e dD := news_ne N (.tail _ (.tail _ (.tail _ (.tail _ (.tail _ (.tail _ (.head _))))))) (.tail _ (.tail _ (.head _))) (by show Value.type "list" ≠ oD.cls; rw [dict_cls C.d]; exact fun e => absurd (Value.type.inj e) (by decide))
  have xe4 : @Ne Nat e k := news_ne N (.tail _ (.tail _ (.tail _ (.tail _ (.tail _ (.tail _ (.head _))))))) (.tail _ (.tail _ (.tail _ (.head _)))) (by intro h; cases h)
  have xe5 : @Ne Nat e kd := news_ne N (.tail _ (.tail _ (.tail _ (.tail _ (.tail _ (.tail _ (.head _))))))) (.tail _ (.tail _ (.tail _ (.tail _ (.head _))))) (fun e => absurd (Value.type.inj e) (by decide))
  have xe6 : @Ne Nat e rd := news_ne N (.tail _ (.tail _ (.tail _ (.tail _ (.tail _ (.tail _ (.head _))))))) (.tail _ (.tail _ (.tail _ (.tail _ (.tail _ (.head _)))))) (by show Value.type "list" ≠ oR.cls; rw [dict_cls W.d]; exact fun e => absurd (Value.type.inj e) (by decide))
  have xe7 : @Ne Nat e (L + 1) := news_cell N (.tail _ (.tail _ (.tail _ (.tail _ (.tail _ (.tail _ (.head _))))))) (.tail _ (.tail _ (.tail _ (.tail _ (.tail _ (.tail _ (.tail _ (.head _)))))))) hoc
  conv in (occs := *) lawScope => all_goals whnf
  conv in (occs := *) turnIf => all_goals whnf
  have hDR := W.d

  k_steps
  all_goals (try (exfalso; omega; done))
  all_goals (refine' fin _ _ _ (StX.intro (StF.mk ?F ?N ?O ?C ?W ?hi ?ht ?n0 ?n1 ?h0 ?h1 ?hoc ?m1 ?m2 ?m3 ?m4 ?m5 ?m6 ?m7 ?m8 ?m9 ?m10) ?b); (case F => k_asm); (case m1 => first | exact rfl | assumption); (case m2 => first | exact rfl | assumption); (case m3 => first | exact rfl | assumption); (case m4 => first | exact rfl | assumption); (case m5 => first | exact rfl | assumption); (case m6 => first | exact rfl | assumption); (case m7 => first | exact rfl | assumption); (case m8 => first | exact rfl | assumption); (case m9 => first | exact rfl | assumption); (case m10 => first | exact rfl | assumption); (case O => assumption); (case C => first | assumption | exact cac_up (by assumption) (by omega)); (case W => assumption); (case N => (refine news_sub (by k_asm) ?_; ((repeat (refine sub_cons (by k_mem) ?_)); (repeat (first | exact sub_id | refine sub_tl ?_))))); (case hi => first | assumption | exact ints_eqT6 (by assumption) (by assumption)); (case ht => first | assumption | exact Thr.whole _ _ (by assumption) (by assumption) | exact Thr.half _); (case n0 => omega); (case n1 => omega); (case h0 => omega); (case h1 => omega); (case hoc => assumption); (case b => assumption))

end Mine
end
section
namespace Mine
local macro_rules | `(tactic| walk_at "none of mine") => `(tactic| fail "none")
local macro_rules | `(tactic| walk_at "none of mine") => `(tactic| fail "none")
theorem fillT7a : True := by
  w_top off
  trivial


local macro_rules | `(tactic| k_room) => `(tactic| ktr_room)
local macro_rules | `(tactic| k_units) => `(tactic| ktr_units)
local macro_rules | `(tactic| ktr_enter) => `(tactic| (refine' code_def ?k1 ?k2 ?k3 ?k4 ?k5 ?kA ?kF ?kK ?k6 ?k7 ?k8 ?k9 ?kB ?_ ?c2 ?c3 ?c4 ?c5; (case kA => exact rfl); (case kF => exact rfl); (case kK => first | assumption | exact rfl); (case k1 => k_asm); (case k2 => k_asm); (case k3 => k_asm); (case k4 => k_asm); (case k5 => k_asm); (case k6 => k_is); (case k7 => k_is); (case k8 => ktr_room); (case k9 => first | exact BindsTo.of_eq rfl | exact binds_K (by k_in) rfl (by k_is) rfl rfl rfl | fail "ktr_enter: no rule for these arguments"); (case c5 => decide); (case kB => exact locs rfl); (case c2 => exact rfl); (case c3 => exact rfl); (case c4 => exact rfl); k_whole; intro g' L' h' FG' F' N' B' X' T'; (try dsimp only); (try k_fold)))
local macro_rules | `(tactic| k_lt $h:ident) => `(tactic| (replace $h := allLt_of $h; simp only [AllLt, and_true] at $h:ident; (try ((fail_if_success (rename AllLt _ _ => l6)); have l7 : AllLt _ _ := (by first | exact ($h).2 | exact ($h).2.2 | exact ($h).2.2.2 | exact ($h).2.2.2.2 | exact ($h).2.2.2.2.2 | exact ($h).2.2.2.2.2.2 | exact ($h).2.2.2.2.2.2.2 | exact ($h).2.2.2.2.2.2.2.2 | exact ($h).2.2.2.2.2.2.2.2.2 | exact ($h).2.2.2.2.2.2.2.2.2.2 | exact ($h).2.2.2.2.2.2.2.2.2.2.2 | exact ($h).2.2.2.2.2.2.2.2.2.2.2.2)))))
local macro_rules | `(tactic| k_all) => `(tactic| (refine' allLt_ne ?h6 ?h7; (case h6 => assumption); (case h7 => ((try dsimp only); omega))))
local macro_rules | `(tactic| k_all) => `(tactic| with_reducible assumption)
local macro_rules | `(tactic| walk_at "call builtin:len") => `(tactic| (k_here; (with_reducible show wpAny _ _ (call (Value.builtin "len") [Value.ref _]) _ _ _); k_dflt (refine' kda_len (knd := PySem.intKind _ _) ?N ?m ?d ?lo ?f ?_; (case N => k_asm); (case m => k_mem); (case d => k_asm); (case lo => k_asm); (case f => assumption); k_whole)))
local macro_rules | `(tactic| walk_at "getMethod ref") => `(tactic| (k_here; (with_reducible show wpAny _ _ (getMethod (Value.ref _) (Str.ofString "get") _) _ _ _); k_dflt (refine' kdg_method (knd := PySem.intKind _ _) ?N ?m ?d ?_; (case N => k_asm); (case m => k_mem); (case d => k_asm); k_whole)))
local macro_rules | `(tactic| walk_at "call builtin:dict.get") => `(tactic| (k_here; (with_reducible show wpAny _ _ (call (Value.builtin "dict.get") [Value.ref _, Value.int _ _]) _ _ _); k_dflt (refine' kdg_get1 (knd := PySem.intKind _ _) ?N ?m ?d ?lo (intKind_is _ _ _ _) _ ?hl ?_; (case N => k_asm); (case m => k_mem); (case d => k_asm); (case lo => k_asm); (case hl => assumption); k_whole; (try dsimp only [Option.getD]))))
local macro_rules | `(tactic| walk_at "subscriptTail") => `(tactic| (k_here; (with_reducible show wpAny _ _ (subscriptTail _ _ (Value.ref _) (Value.int _ _)) _ _ _); k_dflt (refine' kda_item (knd := PySem.intKind _ _) ?N ?m ?d (intKind_is _ _ _ _) ?hl ?_; (case N => k_asm); (case m => k_mem); (case d => k_asm); (case hl => assumption); k_whole)))
theorem x_get_missT7a {prog : Program} {w : World} {A : Around} {E : Value → Shared → Prop} {s : Shared} {h₀ : Heap} {L d : Addr} {news : List (Addr × Obj)} {o : Obj} {kvs : List (Int × Value)} {k : Int} {t : Tok} {Q : Value → Shared → Prop}
    (N : News h₀ L s.heap news) (hp : (d, o) ∈ news) (hd : o.IsDictOf (PySem.intKind prog w) kvs) (lo : (d == sysModules) = false) (hh : A.handled = none) (hl : valueAt kvs k = none)
    (h : ∀ h' e, Heap.NewExc s.heap h' e "KeyError" → E (.ref e) { s with heap := h', toks := s.toks + 1 }) : wpAny (model prog w) A (getItem (.ref d) (.int k t)) Q E s :=
  wpAny_getItem_missing_of (intKind_is _ _ _ _) lo hh (kda_dict N hp hd).mapOf hl h
local macro_rules | `(tactic| walk_at "getItem ref int") => `(tactic| (k_here; k_dflt (refine' x_get_missT7a ?N ?m ?d ?lo ?hh ?hl ?_; (case N => k_asm); (case m => k_mem); (case d => k_asm); (case lo => k_asm); (case hh => exact rfl); (case hl => assumption); k_whole); intro h' e' x'))
local macro_rules | `(tactic| walk_at "getItem ref int") => `(tactic| (k_here; k_dflt (refine' kdt_getItem (knd := PySem.intKind _ _) ?N ?m ?d (intKind_is _ _ _ _) ?hl ?_; (case N => k_asm); (case m => k_mem); (case d => k_asm); (case hl => assumption); k_whole)))
local macro_rules | `(tactic| walk_at "delItem ref int") => `(tactic| (k_here; k_dflt (refine' x_del_miss ?N ?m ?d ?lo ?hh ?hl ?_; (case N => k_asm); (case m => k_mem); (case d => k_asm); (case lo => k_asm); (case hh => exact rfl); (case hl => assumption); k_whole); intro h' e' x'))
local macro_rules | `(tactic| walk_at "delItem ref int") => `(tactic| (k_here; k_dflt (refine' kob_del (knd := PySem.intKind _ _) ?F ?N ?U ?d (intKind_is _ _ _ _) ?l ?z ?_; (case F => k_asm); (case N => k_asm); (case U => k_updF); (case d => k_asm); (case l => assumption); (case z => first | assumption | (rw [sizeLine_eq]; assumption)); k_whole); intro h' o' F' N' hd'; (try dsimp only at N')))
theorem x_del_ownT7a {M : Model} {A : Around} {E : Value → Shared → Prop} {s : Shared} {K : Frag} {x C L f : Addr} {h₀ : Heap} {m : Str → Option Value} {ox : Obj} {od : Option Obj} {i : Value} {Q : Unit → Shared → Prop}
    (F : Fr h₀ L s.heap m) (X₀ : K.In h₀) (I : InstAt s.heap x ox C od) (hq : noSeq K C = true) (hs : findIn K (.ref C) "__delitem__" = some (some (.ref f))) (hf : isFn K (.ref f) = true)
    (h : wpAny M A (call (.ref f) [.ref x, i]) (fun _ s' => Q () s') E s) : wpAny M A (delItem (.ref x) i) Q E s := by
  have X := X₀.keeps F.keep
  unfold delItem sequenceKey
  refine wpAny_holding (wpAny_bind (wpAny_bind (I.type.here ?_)))
  refine wpAny_bind ((anyM_none X hq).here ?_)
  rw [if_pos (show (!false) = true from rfl)]
  exact wpAny_pure (wpAny_bind (special_fn X I hs (beq_iff_eq.mp hf) (wpAny_mono h (fun _ _ z => wpAny_pure z) fun _ _ z => z)))
local macro_rules | `(tactic| walk_at "delItem ref int") => `(tactic| (k_here; k_dflt (refine' x_del_ownT7a ?k1 ?k2 ?k3 ?k4 ?k5 ?k6 ?_; (case k1 => k_asm); (case k2 => k_asm); (case k3 => k_inst); (case k4 => k_is); (case k5 => k_is); (case k6 => k_is); k_whole)))
local macro_rules | `(tactic| walk_at "WhlIf") => `(tactic| (first | (refine WhlIf.yes (decide_eq_true (by omega)) ?_) | (refine WhlIf.no (decide_eq_false (by omega)) ?_)))
local macro_rules | `(tactic| walk_at "eval Dict nil nil") => `(tactic| (k_here; k_dflt (refine' newDict_K ?k1 ?k2 ?k3 ?_; (case k1 => k_asm); (case k2 => k_asm); (case k3 => first | exact Top.nolimit (by k_asm) | exact TopRead.nolimit (by k_asm)); k_whole); intro d' h' o' F' N' l1 lo' hs' fs' hi' fi'; (try k_lt l1)))
theorem add_genT7a {prog : Program} {w : World} {A : Around} {E : Value → Shared → Prop} {s : Shared} {a b : Int} {ta tb : Tok} {Q : Value → Shared → Prop} (h : ∀ t tk, Q (.int (a + b) t) { s with toks := tk }) : wpAny (model prog w) A (binaryOp .Add (.int a ta) (.int b tb)) Q E s := add_int (h _ _)
local macro_rules | `(tactic| walk_at "binaryOp Add int int") => `(tactic| (k_here; with_reducible (refine add_genT7a ?_); intro t' tk'))


theorem lw_lessT7a {prog : Program} {w : World} {rs : List Row} {ks : List Int} {qs : List (Int × Value)} {oR : Obj} {T : List (Addr × Obj)} (W : Lw prog w rs qs oR T) : Lw prog w (less rs ks) qs oR T := lw_sub W fun _ hx => (List.mem_filter.mp hx).1
theorem keep_atT7a {T T' : List (Addr × Obj)} {p : Addr × Obj} (h : ∀ p ∈ T, p.2.cls ≠ .type "list" → p ∈ T') (hp : p ∈ T) (hc : p.2.cls ≠ .type "list") : p ∈ T' := h p hp hc
theorem at_putT7a {prog : Program} {w : World} {rs : List Row} {qs : List (Int × Value)} {key : Int} {v : Value} {oR : Obj} {T : List (Addr × Obj)} (_ : Lw prog w rs (stored qs key v) oR T) : valueAt (stored qs key v) key = some v := by rw [at_stored, if_pos rfl]
theorem off8T7a {p1 p2 p3 p4 p5 p6 p7 p8 P : Prop} (h : p1 ∧ p2 ∧ p3 ∧ p4 ∧ p5 ∧ p6 ∧ p7 ∧ p8 ∧ P) : P := h.2.2.2.2.2.2.2.2
theorem off9T7a {D : Addr} : ∀ {T : List (Addr × Obj)}, PyProof.Rows.LCg.Off1 D T → ∀ p ∈ T, p.1 ≠ D
  | [], _, _, h => nomatch h
  | q :: r, h, p, hp => by
    rcases List.mem_cons.mp hp with rfl | hp
    · exact h.1
    · exact off9T7a h.2 p hp
theorem bne_decT7a (a b : Int) : (a != b) = decide (a ≠ b) := by by_cases h : a = b <;> simp [h]
local macro_rules | `(tactic| walk_at "Eq") => `(tactic| exact bne_decT7a _ _)
theorem ne_ltT7a {T news : List (Addr × Obj)} {D : Addr} (l1 : ∀ p ∈ news, p.1 < D) (hs : ∀ p ∈ T, p ∈ news) : ∀ p ∈ T, p.1 ≠ D := fun p hp => Nat.ne_of_lt (l1 p (hs p hp))
theorem ne_atT7a {T news : List (Addr × Obj)} {D : Addr} (l1 : ∀ p ∈ news, p.1 ≠ D) (hs : ∀ p ∈ T, p ∈ news) : ∀ p ∈ T, p.1 ≠ D := fun p hp => l1 p (hs p hp)
theorem sqz_trueT7a {rs rs2 : List Row} {a b c : Int} (h : Sqz true rs rs2 a b c) : rs2 = rs := by
  rcases h with ⟨_, h⟩ | ⟨h, _⟩
  · exact h
  · cases h
theorem less_oneT7a {rs : List Row} {key : Int} (_ : key ∈ rs.map (·.k)) : (less rs [key]).map (·.k) = (rs.filter fun r => decide (r.k ≠ key)).map (·.k) := by
  have : less rs [key] = rs.filter fun r => decide (r.k ≠ key) := List.filter_congr fun r _ => by simp
  rw [this]
theorem less_noneT7a {rs : List Row} {key : Int} (h : key ∉ rs.map (·.k)) : rs.map (·.k) = (rs.filter fun r => decide (r.k ≠ key)).map (·.k) := by
  have : rs.filter (fun r => decide (r.k ≠ key)) = rs := List.filter_eq_self.mpr fun r hr => decide_eq_true fun e => h (e ▸ List.mem_map_of_mem hr)
  rw [this]
local macro_rules | `(tactic| k_all) => `(tactic| first | exact ne_atT7a (by assumption) (by ((repeat (refine sub_cons (by k_mem) ?_)); (repeat (first | exact sub_id | refine sub_tl ?_)))) | exact ne_ltT7a (by assumption) (by ((repeat (refine sub_cons (by k_mem) ?_)); (repeat (first | exact sub_id | refine sub_tl ?_)))))
local macro_rules | `(tactic| walk_at "binaryOp Add ref ref") => `(tactic| (k_here; (with_reducible show wpAny _ _ (binaryOp _ (Value.ref _) (Value.ref _)) _ _ _); k_dflt (refine' x_add_one ?F ?N ?m1 ?m2 ?i1 ?hz ?_; (case F => k_asm); (case N => k_asm); (case m1 => k_mem); (case m2 => k_mem); (case i1 => with_reducible assumption); (case hz => assumption); k_whole); intro D' us' h' F' N' l1 hi'; have l9' := l1; (try k_lt l1)))
local macro_rules | `(tactic| walk_at "compareOp In int ref") => `(tactic| (k_here; (with_reducible show wpAny _ _ (compareOp CmpOp.In (Value.int _ _) (Value.ref _)) _ _ _); k_dflt (first
  | (refine' x_in_yes ?N ?m1 ?i1 ?hin ?_; (case N => k_asm); (case m1 => k_mem); (case i1 => with_reducible assumption); (case hin => assumption); k_whole)
  | (refine' x_in_no ?N ?m1 ?i1 ?hin ?_; (case N => k_asm); (case m1 => k_mem); (case i1 => with_reducible assumption); (case hin => assumption); k_whole))))
local macro_rules | `(tactic| walk_at "compareOp NotIn int ref") => `(tactic| (k_here; (with_reducible show wpAny _ _ (compareOp CmpOp.NotIn (Value.int _ _) (Value.ref _)) _ _ _); k_dflt (first
  | (refine' x_notin_yes ?N ?m1 ?i1 ?hin ?_; (case N => k_asm); (case m1 => k_mem); (case i1 => with_reducible assumption); (case hin => assumption); k_whole)
  | (refine' x_notin_no ?N ?m1 ?i1 ?hin ?_; (case N => k_asm); (case m1 => k_mem); (case i1 => with_reducible assumption); (case hin => assumption); k_whole))))
local macro_rules | `(tactic| k_ne) => `(tactic| (refine neN ?_; (try dsimp only); first | assumption | (refine Ne.symm ?_; assumption) | omega))
local macro_rules | `(tactic| walk_at "CompSrcT") => `(tactic| (k_here; k_dflt (refine' comp_src_ne ?hdc _ ?hh ?F ?N ?m ?i ?z ?test ?turn ?fin; (case hdc => first | with_reducible assumption | assumption); (case hh => rfl); (case F => k_asm); (case N => k_asm); (case m => k_mem); (case i => with_reducible assumption); (case z => assumption)); (case' test => (intro g' r' hr' t' I' oI' C' oC' D' m2' h' tk' E' ys' hC' hx' F' N')); (case' turn => (intro g' r' hr' t' I' oI' C' oC' D' m2' h' tk' E' ys' hC' hx' F' N')); (case' fin => (intro g' us' hi'))))
local macro_rules | `(tactic| walk_at "Keep") => `(tactic| exact Keep.intro (by k_asm) (by k_asm))
local macro_rules | `(tactic| walk_at "exec Assign cons ListComp") => `(tactic| (k_here; lct_look; k_dflt (refine LCt.Assign_ListComp_T (F₀ := by k_asm) (by rfl) (by with_unfolding_all rfl) (by with_unfolding_all rfl) (by decide) (by rfl) (by decide) (by rfl) (by rfl) (by rfl) ?_)))

theorem ints_eqT7a {vs : List Value} {a b : List Int} (e : a = b) (h : IntsAre vs b) : IntsAre vs a := e ▸ h
theorem sq_ofT7a {rs rs2 : List Row} {a b c : Int} (h : Sqz false rs rs2 a b c) : Sq rs rs2 a b c := by
  rcases h with ⟨h, _⟩ | ⟨_, h⟩
  · cases h
  · exact h
local macro_rules | `(tactic| k_mem) => `(tactic| assumption)
local macro_rules | `(tactic| walk_at "eval Name") => `(tactic| (k_here; k_dflt (refine' nameX_L ?k1 ?k2 ?_ ?a ?b; (case a => rfl); (case b => rfl); (case k1 => k_asm); (case k2 => assumption); k_whole)))
local macro_rules | `(tactic| k_all) => `(tactic| first | exact Offs.o1 (by assumption) | exact Offs.o2 (by assumption) | exact Offs.o3 (by assumption) | exact Offs.o4 (by assumption) | exact Offs.o5 (by assumption) | exact Offs.o6 (by assumption) | exact Offs.o7 (by assumption))
local macro_rules | `(tactic| walk_at "call ref") => `(tactic| (k_here; (with_reducible show wpAny _ _ (call (Value.ref 116) _) _ _ _); k_dflt (refine' s_inc (rs := []) (qs := []) ?B ?F ?X ?N ?hs ?TP ?hk ?D ?O ?hd ?hu ?n0 ?n1 ?_; (case B => k_asm); (case F => k_asm); (case X => k_asm); (case N => k_asm); (case TP => k_asm); (case hk => exact rfl); (case D => assumption); (case O => assumption); (case hs => ((repeat (refine sub_cons (by k_mem) ?_)); (repeat (first | exact sub_id | refine sub_tl ?_)))); (case hd => ktr_room); (case hu => ktr_units); (case n0 => omega); (case n1 => omega); k_whole); intro t' h' tk' F' N'))
local macro_rules | `(tactic| walk_at "call ref") => `(tactic| (k_here; (with_reducible show wpAny _ _ (call (Value.ref 124) _) _ _ _); k_dflt (refine' s_get ?B ?F ?X ?N ?hs ?TP ?hk ?D ?O ?lo ?C ?W ?hd ?hu ?n0 ?n1 ?hit ?miss; (case B => k_asm); (case F => k_asm); (case X => k_asm); (case N => k_asm); (case TP => k_asm); (case hk => exact rfl); (case D => assumption); (case O => assumption); (case lo => assumption); (case C => assumption); (case W => assumption); (case hs => ((repeat (refine sub_cons (by k_mem) ?_)); (repeat (first | exact sub_id | refine sub_tl ?_)))); (case hd => ktr_room); (case hu => ktr_units); (case n0 => omega); (case n1 => omega)); (case' hit => (intro hin' v' st' qa' t1' n1' rs' T' tn' h' tk' hv' hq' hm' hke' hup' C' W' hkeep' O' F' N'; rcases hv' with hv' | ⟨j', tj', hv'⟩ <;> subst hv')); (case' miss => (intro hin' h' tk' F' N'))))
local macro_rules | `(tactic| walk_at "call ref") => `(tactic| (k_here; (with_reducible show wpAny _ _ (call (Value.ref 203) _) _ _ _); k_dflt (refine' s_read ?B ?F ?X ?N ?hs ?TP ?hk ?D ?O ?lo ?C ?W ?hd ?hu ?n0 ?n1 ?hit ?miss; (case B => k_asm); (case F => k_asm); (case X => k_asm); (case N => k_asm); (case TP => k_asm); (case hk => exact rfl); (case D => assumption); (case O => assumption); (case lo => assumption); (case C => assumption); (case W => assumption); (case hs => ((repeat (refine sub_cons (by k_mem) ?_)); (repeat (first | exact sub_id | refine sub_tl ?_)))); (case hd => ktr_room); (case hu => ktr_units); (case n0 => omega); (case n1 => omega)); (case' hit => (intro hin' v' st' qa' t1' n1' rs' T' tn' h' tk' hv' hq' hm' hke' hup' C' W' hkeep' O' F' N'; rcases hv' with hv' | ⟨j', tj', hv'⟩ <;> subst hv')); (case' miss => (intro hin' h' tk' F' N' t'))))
local macro_rules | `(tactic| walk_at "call ref") => `(tactic| (k_here; (with_reducible show wpAny _ _ (call (Value.ref 210) _) _ _ _); k_dflt (refine' s_take (qs := []) ?B ?F ?X ?N ?hs ?TP ?hk ?D ?O ?lo ?C ?hd ?hu ?hit ?miss; (case B => k_asm); (case F => k_asm); (case X => k_asm); (case N => k_asm); (case TP => k_asm); (case hk => exact rfl); (case D => assumption); (case O => assumption); (case lo => assumption); (case C => assumption); (case hs => ((repeat (refine sub_cons (by k_mem) ?_)); (repeat (first | exact sub_id | refine sub_tl ?_)))); (case hd => ktr_room); (case hu => ktr_units)); (case' hit => (intro hin' oD' h' tk' C' F' N'; have hle' := less_oneT7a hin')); (case' miss => (intro hin' h' tk' F' N'; have hle' := less_noneT7a hin'))))
local macro_rules | `(tactic| walk_at "call ref") => `(tactic| (k_here; (with_reducible show wpAny _ _ (call (Value.ref 174) _) _ _ _); k_dflt (refine' s_man (qs := []) ?B ?F ?X ?N ?hs ?TP ?hk ?D ?O ?lo ?C ?ht ?h0 ?h1 ?hd ?hu ?_; (case B => k_asm); (case F => k_asm); (case X => k_asm); (case N => k_asm); (case TP => k_asm); (case hk => exact rfl); (case D => assumption); (case O => assumption); (case lo => assumption); (case C => assumption); (case hs => ((repeat (refine sub_cons (by k_mem) ?_)); (repeat (first | exact sub_id | refine sub_tl ?_)))); (case ht => first | assumption | exact Thr.whole _ _ (by assumption) (by assumption) | exact Thr.half _); (case h0 => omega); (case h1 => omega); (case hd => ktr_room); (case hu => ktr_units); k_whole); intro rs2' oD' h' tk' hsq' C' F' N'))
local macro_rules | `(tactic| walk_at "call ref") => `(tactic| first | (k_here; (with_reducible show wpAny _ _ (call (Value.ref 196) _) _ _ _); k_dflt (refine' s_kept ?B ?F ?X ?N ?TP ?hk ?m1 ?m2 ?hi ?W ?hT ?lo ?hkn ?hkb ?ht ?h0 ?h1 ?hsq ?hd ?hu ?_ ?_; (case B => k_asm); (case F => k_asm); (case X => k_asm); (case N => k_asm); (case TP => k_asm); (case hk => exact rfl); (case m1 => k_mem); (case m2 => k_mem); (case hsq => exact sq_ofT7a (by assumption)); (case W => assumption); (case hi => first | assumption | exact ints_eqT7a (by assumption) (by assumption)); (case hT => ((repeat (refine sub_cons (by k_mem) ?_)); (repeat (first | exact sub_id | refine sub_tl ?_)))); (case lo => assumption); (case hkn => assumption); (case hkb => assumption); (case ht => first | assumption | exact Thr.whole _ 0 (by assumption) (by assumption) | exact Thr.half 0); (case h0 => omega); (case h1 => omega); (case hd => ktr_room); (case hu => ktr_units)); all_goals (first | (intro D' us' n' h' tk' hi' F' N' off') | (intro hrs' h' tk' F' N'))) | fail "no")
local macro_rules | `(tactic| walk_at "setItem ref int") => `(tactic| (k_here; k_dflt (refine' x_set_q ?F ?N ?U ?W ?P ?C ?O ?m1 ?a0 ?a5 ?hD ?_; (case F => k_asm); (case N => k_asm); (case U => k_updF); (case W => assumption); (case P => assumption); (case C => assumption); (case O => assumption); (case m1 => k_mem); (case a0 => assumption); (case a5 => assumption); (case hD => exact ⟨by k_ne, by k_ne, by k_ne, by k_ne, by k_ne, by k_ne, by k_ne⟩); k_whole); intro h' oR' F' N' W' C' O'; have hd9' := Lw.d W'; have hq9' := at_putT7a W'; (try dsimp only at N')))
local macro_rules | `(tactic| walk_at "setItem ref int") => `(tactic| (k_here; k_dflt (refine' s_set2 ?B ?F ?X ?N ?hs ?TP ?hk ?D ?O ?lo ?C ?W ?ht ?h0 ?h1 ?a0 ?a5 ?hv ?hd ?hu ?n0 ?n1 ?old ?new; (case B => k_asm); (case F => k_asm); (case X => k_asm); (case N => k_asm); (case TP => k_asm); (case hk => exact rfl); (case D => assumption); (case O => assumption); (case lo => assumption); (case C => assumption); (case W => assumption); (case hs => ((repeat (refine sub_cons (by k_mem) ?_)); (repeat (first | exact sub_id | refine sub_tl ?_)))); (case ht => assumption); (case h0 => omega); (case h1 => omega); (case a0 => assumption); (case a5 => assumption); (case hv => first | exact .inl rfl | exact .inr ⟨_, _, rfl⟩); (case hd => ktr_room); (case hu => ktr_units); (case n0 => omega); (case n1 => omega)); (case' old => (intro hin' rs1' rs2' oD' T' tn' h' tk' hke' hup' hkn' hkb' hsq' C' hkeep' W' O' F' N')); (case' new => (intro hin' rs1' rs2' oD' T' tn' h' tk' hke' hup' hkn' hkb' hsq' C' hkeep' W' O' F' N'))))
local macro_rules | `(tactic| walk_at "isTrue BoolOp") => `(tactic| (k_here; k_dflt (refine' tailB (qs := []) ?B ?F ?X ?N ?hs ?TP ?D ?lo ?C ?hi ?mc ?me ?_; (case B => k_asm); (case F => k_asm); (case X => k_asm); (case N => k_asm); (case TP => k_asm); (case D => assumption); (case me => first | exact rfl | assumption); (case mc => first | exact rfl | assumption); (case lo => assumption); (case C => assumption); (case hs => ((repeat (refine sub_cons (by k_mem) ?_)); (repeat (first | exact sub_id | refine sub_tl ?_)))); (case hi => first | assumption | exact ints_eqT7a (by assumption) (by assumption)); k_whole); intro h' tk' F' N'))
local macro_rules | `(tactic| walk_at "setItem ref") => `(tactic| (k_here; k_dflt (refine' x_set_q ?F ?N ?U ?W ?P ?C ?O ?m1 ?a0 ?a5 ?hD ?_; (case F => k_asm); (case N => k_asm); (case U => k_updF); (case W => assumption); (case P => assumption); (case C => assumption); (case O => assumption); (case m1 => k_mem); (case a0 => assumption); (case a5 => assumption); (case hD => exact ⟨by k_ne, by k_ne, by k_ne, by k_ne, by k_ne, by k_ne, by k_ne⟩); k_whole); intro h' oR' F' N' W' C' O'; have hd9' := Lw.d W'; have hq9' := at_putT7a W'; (try dsimp only at N')))
local macro_rules | `(tactic| walk_at "setItem ref") => `(tactic| (k_here; k_dflt (refine' s_set2 ?B ?F ?X ?N ?hs ?TP ?hk ?D ?O ?lo ?C ?W ?ht ?h0 ?h1 ?a0 ?a5 ?hv ?hd ?hu ?n0 ?n1 ?old ?new; (case B => k_asm); (case F => k_asm); (case X => k_asm); (case N => k_asm); (case TP => k_asm); (case hk => exact rfl); (case D => assumption); (case O => assumption); (case lo => assumption); (case C => assumption); (case W => assumption); (case hs => ((repeat (refine sub_cons (by k_mem) ?_)); (repeat (first | exact sub_id | refine sub_tl ?_)))); (case ht => assumption); (case h0 => omega); (case h1 => omega); (case a0 => assumption); (case a5 => assumption); (case hv => first | exact .inl rfl | exact .inr ⟨_, _, rfl⟩); (case hd => ktr_room); (case hu => ktr_units); (case n0 => omega); (case n1 => omega)); (case' old => (intro hin' rs1' rs2' oD' T' tn' h' tk' hke' hup' hkn' hkb' hsq' C' hkeep' W' O' F' N')); (case' new => (intro hin' rs1' rs2' oD' T' tn' h' tk' hke' hup' hkn' hkb' hsq' C' hkeep' W' O' F' N'))))

section
open PySem.W
theorem x_get_propT7a {prog : Program} {w : World} {A : Around} {E : Value → Shared → Prop} {s : Shared} {K : Frag} {x C L : Addr} {h₀ : Heap} {m : Str → Option Value} {ox : Obj} {name : Str} {expr : Bool} {Q : Value → Shared → Prop} {p fget : Addr} {rest : List Value} {od : Obj} (F : Fr h₀ L s.heap m) (X₀ : K.In h₀) (I : InstAt s.heap x ox C (some od)) (hg : plainGet K C name = true) (hh : isClsIn K C = true)
    (ha : findIn K (.ref C) name = some (some (.ref p))) (hn : specialIn K (.ref p) "__get__" = some (some (.builtin "property.__get__"))) (ht : takesIn K (.ref p) = some true) (hp : recIn K p "property" = some (.ref fget :: rest))
    (h : codeAny (model prog w) A.in1 (.call (.ref fget) ⟨[.ref x], []⟩) (fun r s' => match r with | .ok (.ret v) => wpAny (model prog w) A (handedOut v) Q E s' | .ok _ => False | .error e => wpAny (model prog w) A (noteIf true (.ref x) (.str name s.toks) e) (fun _ s'' => E e s'') E s') { s with toks := s.toks + 1 }) :
    wpAny (model prog w) A (getAttr (.ref x) name expr) Q E s :=
  get_bind (X₀.keeps F.keep) I (plainGet_of hg).1 (findObj_data hh ha hn ht) (plainGet_of hg).2 (wpAny_call (prop_get (s := { s with toks := s.toks + 1 }) (X₀.keeps F.keep) hp h))
end
local macro_rules | `(tactic| walk_at "getAttr ref") => `(tactic| (k_here; (with_reducible show wpAny _ _ (getAttr (Value.ref _) (Str.ofString "size_threshold") _) _ _ _); k_dflt (refine' x_get_propT7a ?k1 ?k2 ?k3 ?k4 ?k5 ?k6 ?k7 ?k8 ?k9 ?_; (case k1 => k_asm); (case k2 => k_asm); (case k3 => k_inst); (case k4 => k_is); (case k5 => k_is); (case k6 => k_is); (case k7 => k_is); (case k8 => k_is); (case k9 => k_is); k_whole); k_dflt ktr_enter))
local macro_rules | `(tactic| walk_at "handedOut") => `(tactic| (k_here; k_dflt (refine' sum_out ?hv ?_; (case hv => assumption); k_whole)))
local macro_rules | `(tactic| k_handed) => `(tactic| exact thr_in (by assumption))
local macro_rules | `(tactic| walk_at "binaryOp Mult int") => `(tactic| (k_here; k_dflt (refine' thr_den ?hv ?hn0 ?hn2 ?h0 ?h1 ?_; (case hv => assumption); (case hn0 => assumption); (case hn2 => assumption); (case h0 => assumption); (case h1 => assumption); k_whole); intro v' tk' hv'))
local macro_rules | `(tactic| walk_at "binaryOp Mult int") => `(tactic| (k_here; k_dflt (refine' thr_mul ?ht ?h0 ?h1 ?_; (case ht => assumption); (case h0 => assumption); (case h1 => assumption); k_whole); intro v' tk' hv'))
local macro_rules | `(tactic| walk_at "binaryOp Add int") => `(tactic| (k_here; k_dflt (refine' thr_add ?hv ?h0 ?h1 ?_; (case hv => assumption); (case h0 => assumption); (case h1 => assumption); k_whole); intro v' tk' hv'))
local macro_rules | `(tactic| walk_at "compareOp NotEq int") => `(tactic| (k_here; k_dflt (refine' thr_ne ?hv ?h0 ?h1 ?_; (case hv => assumption); (case h0 => assumption); (case h1 => assumption); k_whole); intro tk'))
theorem thr_nT7a {thr : Value} {num den : Int} (ht : Thr thr num den) : 0 ≤ num ∧ num ≤ 2 ∧ 1 ≤ den ∧ den ≤ 2 := by
  cases ht with
  | half tq => omega
  | whole _ tq g0 g2 => omega
theorem ks_mulT7a (a b : Int) : 1 * (a + a * b) = a * (1 + b) := by rw [Int.one_mul, Int.mul_add a 1 b, Int.mul_one]
theorem sub_atT7a {T T1 : List (Addr × Obj)} {p : Addr × Obj} (h : ∀ p ∈ T, p ∈ T1) (hp : p ∈ T) : p ∈ T1 := h p hp
set_option maxHeartbeats 2000000 in
theorem kind7a {prog : Program} {w : World} {mean : ExcName → Option Value} {mg mb : Str → Option Value} {h₀ : Heap} {L fa I l : Addr} {oI : Obj} {cdv : Value} {m : Str → Option Value} {s : Shared} {Q : Flow → Shared → Prop} {E : Value → Shared → Prop}
    {T : List (Addr × Obj)} {c cd dD k kd rd e : Addr} {n room num den kv key more : Int} {tn th tc ti t1 t2 t3 t4 tkk tke tmo : Tok} {thr : Value} {held : Bool} {oD oR oC : Obj} {vs : List Value} {ne : Nat} {rs : List Row} {qs : List (Int × Value)} {i : Nat}
    (B : Below callerA h₀ [] h₀) (F : Fr h₀ L s.heap m) (X : (Mine.hd.heap_39 w.params).In h₀)
    (N : News h₀ L s.heap ((c, lru cd dD k n tn (.int room tc) thr) :: (cd, dictOf [] 0) :: (dD, oD) :: (k, instObj 46 kd) :: (kd, lockD w.params th held) :: (rd, oR) :: (e, listOf (List.toArray vs) ne) :: (L + 1, oC) :: T))
    (TP : Top Mine.hd.view_39 (looseW Mine.hd.view_39 [Str.ofString "itemgetter", Str.ofString "LRUCache"]) mean mg mb h₀) (D : Dist c cd dD k kd rd (L + 1)) (O : Offs T c cd dD k kd rd (L + 1)) (lo : (dD == sysModules) = false) (lo2 : (rd == sysModules) = false)
    (C : Cac prog w rs oD T e n) (W : Lw prog w rs qs oR T) (hi : IntsAre vs (rs.map (·.k))) (ht : Thr thr num den) (hn0 : 0 ≤ n) (hn1 : n ≤ (i : Int)) (hi4 : (i : Int) ≤ 39) (h0 : 0 ≤ room) (h1 : room ≤ 4)
    (hIT : (I, oI) ∈ T) (hIc : oI.cls ≠ .type "list")
    (hoc : oC.data = .cell (some (.int key tke))) (hk0 : 0 ≤ key) (hk5 : key ≤ 5)
    (m1 : m (Str.ofString "script") = some (.ref l)) (m2 : m (Str.ofString "room") = some (.int room t1)) (m3 : m (Str.ofString "num") = some (.int num t2)) (m4 : m (Str.ofString "den") = some (.int den t3)) (m5 : m (Str.ofString "c") = some (.ref c)) (m6 : m (Str.ofString "lock") = some (.ref k))
    (m7 : m (Str.ofString "entry") = some (.ref e)) (m8 : m (Str.ofString "rows") = some (.ref rd)) (m9 : m (Str.ofString "counter") = some (.int n t4)) (m10 : m (Str.ofString "held") = some (.bool held))
    (m11 : m (Str.ofString "i") = some (.int (0 + (i : Int)) ti)) (m12 : m (Str.ofString "kind") = some (.int kv tkk)) (m13 : m (Str.ofString "more") = some (.int more tmo))
    (fin : ∀ m' h' tk', StX prog w h₀ L l c cd dD k kd rd th I oI ((i : Int) + 1) h' m' → Q .next { s with heap := h', toks := tk' })
    (hK : kv = 7) (hH : held = false) : wpAny (model prog w) (callerA.deeper (envOfC (Str.ofString "law") lawScope L fa cdv)) (exec turnIf (envOfC (Str.ofString "law") lawScope L fa cdv)) Q E s := by
  subst hK hH
  obtain ⟨d12, d13, d14, d15, d16, d17, d23, d24, d25, d26, d27, d34, d35, d36, d37, d45, d46, d47, d56, d57, d67⟩ := id D
  have xe1 : @Ne Nat e c := news_ne N (.tail _ (.tail _ (.tail _ (.tail _ (.tail _ (.tail _ (.head _))))))) (.head _) (by intro h; cases h)
  have xe2 : @Ne Nat e cd := news_ne N (.tail _ (.tail _ (.tail _ (.tail _ (.tail _ (.tail _ (.head _))))))) (.tail _ (.head _)) (fun e => absurd (Value.type.inj e) (by decide))
  have xe3 : @Ne Nat e dD := news_ne N (.tail _ (.tail _ (.tail _ (.tail _ (.tail _ (.tail _ (.head _))))))) (.tail _ (.tail _ (.head _))) (by show Value.type "list" ≠ oD.cls; rw [dict_cls C.d]; exact fun e => absurd (Value.type.inj e) (by decide))
  have xe4 : @Ne Nat e k := news_ne N (.tail _ (.tail _ (.tail _ (.tail _ (.tail _ (.tail _ (.head _))))))) (.tail _ (.tail _ (.tail _ (.head _)))) (by intro h; cases h)
  have xe5 : @Ne Nat e kd := news_ne N (.tail _ (.tail _ (.tail _ (.tail _ (.tail _ (.tail _ (.head _))))))) (.tail _ (.tail _ (.tail _ (.tail _ (.head _))))) (fun e => absurd (Value.type.inj e) (by decide))
  have xe6 : @Ne Nat e rd := news_ne N (.tail _ (.tail _ (.tail _ (.tail _ (.tail _ (.tail _ (.head _))))))) (.tail _ (.tail _ (.tail _ (.tail _ (.tail _ (.head _)))))) (by show Value.type "list" ≠ oR.cls; rw [dict_cls W.d]; exact fun e => absurd (Value.type.inj e) (by decide))
  have xe7 : @Ne Nat e (L + 1) := news_cell N (.tail _ (.tail _ (.tail _ (.tail _ (.tail _ (.tail _ (.head _))))))) (.tail _ (.tail _ (.tail _ (.tail _ (.tail _ (.tail _ (.tail _ (.head _)))))))) hoc
  conv in (occs := *) lawScope => all_goals whnf
  conv in (occs := *) turnIf => all_goals whnf
  have hDR := W.d

  have hz6 : (rs.map (·.k)).length ≤ 1000 := by have := rows_six C.kn C.kb; simp; omega
  have g1 : 0 ≤ more.fmod 5 := Int.fmod_nonneg_of_pos _ (by omega)
  have g2 : more.fmod 5 ≤ 4 := by have := Int.fmod_lt_of_pos more (b := 5) (by omega); omega
  have g3 : 0 ≤ (more.fdiv 10).fmod 3 := Int.fmod_nonneg_of_pos _ (by omega)
  have g4 : (more.fdiv 10).fmod 3 ≤ 2 := by have := Int.fmod_lt_of_pos (more.fdiv 10) (b := 3) (by omega); omega
  have hkn9 := C.kn
  have hkb9 := C.kb
  have hq1 := (thr_nT7a ht).1
  have hq2 := (thr_nT7a ht).2.1
  have hq3 := (thr_nT7a ht).2.2.1
  have hq4 := (thr_nT7a ht).2.2.2
  k_steps
  all_goals (try (exact absurd (ks_mulT7a _ _) (by assumption)))
  all_goals (try (rename (_ : List Row) = (_ : List Row) => hr9; replace hr9 := hr9.symm; subst hr9))
  all_goals (try (exfalso; omega; done))
  all_goals (refine' fin _ _ _ (StX.intro (StF.mk ?F ?N ?O ?C ?W ?hi ?ht ?n0 ?n1 ?h0 ?h1 ?hoc ?m1 ?m2 ?m3 ?m4 ?m5 ?m6 ?m7 ?m8 ?m9 ?m10) ?b); (case F => k_asm); (case m1 => first | exact rfl | assumption); (case m2 => first | exact rfl | assumption); (case m3 => first | exact rfl | assumption); (case m4 => first | exact rfl | assumption); (case m5 => first | exact rfl | assumption); (case m6 => first | exact rfl | assumption); (case m7 => first | exact rfl | assumption); (case m8 => first | exact rfl | assumption); (case m9 => first | exact rfl | assumption); (case m10 => first | exact rfl | assumption); (case O => assumption); (case C => first | assumption | exact cac_up (by assumption) (by omega) | exact cac_entry (by assumption) (by k_all)); (case W => first | assumption | exact lw_sub (by assumption) (sqz_sub (by assumption)) | exact lw_lessT7a (by assumption)); (case N => (refine news_sub (by k_asm) ?_; ((repeat (refine sub_cons (by k_mem) ?_)); (repeat (first | exact sub_id | refine sub_tl ?_))))); (case hi => first | assumption | exact ints_eqT7a (by assumption) (by assumption)); (case ht => first | assumption | exact Thr.whole _ _ (by assumption) (by assumption) | exact Thr.half _); (case n0 => omega); (case n1 => omega); (case h0 => omega); (case h1 => omega); (case hoc => assumption); (case b => first | assumption | exact List.Mem.tail _ (by assumption) | exact List.Mem.tail _ (sub_atT7a (by assumption) (by assumption))))

end Mine
end
section
namespace Mine
local macro_rules | `(tactic| walk_at "none of mine") => `(tactic| fail "none")
local macro_rules | `(tactic| walk_at "none of mine") => `(tactic| fail "none")
local macro_rules | `(tactic| walk_at "none of mine") => `(tactic| fail "none")
theorem fillT7c : True := by
  w_top off
  trivial


local macro_rules | `(tactic| k_room) => `(tactic| ktr_room)
local macro_rules | `(tactic| k_units) => `(tactic| ktr_units)
local macro_rules | `(tactic| ktr_enter) => `(tactic| (refine' code_def ?k1 ?k2 ?k3 ?k4 ?k5 ?kA ?kF ?kK ?k6 ?k7 ?k8 ?k9 ?kB ?_ ?c2 ?c3 ?c4 ?c5; (case kA => exact rfl); (case kF => exact rfl); (case kK => first | assumption | exact rfl); (case k1 => k_asm); (case k2 => k_asm); (case k3 => k_asm); (case k4 => k_asm); (case k5 => k_asm); (case k6 => k_is); (case k7 => k_is); (case k8 => ktr_room); (case k9 => first | exact BindsTo.of_eq rfl | exact binds_K (by k_in) rfl (by k_is) rfl rfl rfl | fail "ktr_enter: no rule for these arguments"); (case c5 => decide); (case kB => exact locs rfl); (case c2 => exact rfl); (case c3 => exact rfl); (case c4 => exact rfl); k_whole; intro g' L' h' FG' F' N' B' X' T'; (try dsimp only); (try k_fold)))
local macro_rules | `(tactic| k_lt $h:ident) => `(tactic| (replace $h := allLt_of $h; simp only [AllLt, and_true] at $h:ident; (try ((fail_if_success (rename AllLt _ _ => l6)); have l7 : AllLt _ _ := (by first | exact ($h).2 | exact ($h).2.2 | exact ($h).2.2.2 | exact ($h).2.2.2.2 | exact ($h).2.2.2.2.2 | exact ($h).2.2.2.2.2.2 | exact ($h).2.2.2.2.2.2.2 | exact ($h).2.2.2.2.2.2.2.2 | exact ($h).2.2.2.2.2.2.2.2.2 | exact ($h).2.2.2.2.2.2.2.2.2.2 | exact ($h).2.2.2.2.2.2.2.2.2.2.2 | exact ($h).2.2.2.2.2.2.2.2.2.2.2.2)))))
local macro_rules | `(tactic| k_all) => `(tactic| (refine' allLt_ne ?h6 ?h7; (case h6 => assumption); (case h7 => ((try dsimp only); omega))))
local macro_rules | `(tactic| k_all) => `(tactic| with_reducible assumption)
local macro_rules | `(tactic| walk_at "call builtin:len") => `(tactic| (k_here; (with_reducible show wpAny _ _ (call (Value.builtin "len") [Value.ref _]) _ _ _); k_dflt (refine' kda_len (knd := PySem.intKind _ _) ?N ?m ?d ?lo ?f ?_; (case N => k_asm); (case m => k_mem); (case d => k_asm); (case lo => k_asm); (case f => assumption); k_whole)))
local macro_rules | `(tactic| walk_at "getMethod ref") => `(tactic| (k_here; (with_reducible show wpAny _ _ (getMethod (Value.ref _) (Str.ofString "get") _) _ _ _); k_dflt (refine' kdg_method (knd := PySem.intKind _ _) ?N ?m ?d ?_; (case N => k_asm); (case m => k_mem); (case d => k_asm); k_whole)))
local macro_rules | `(tactic| walk_at "call builtin:dict.get") => `(tactic| (k_here; (with_reducible show wpAny _ _ (call (Value.builtin "dict.get") [Value.ref _, Value.int _ _]) _ _ _); k_dflt (refine' kdg_get1 (knd := PySem.intKind _ _) ?N ?m ?d ?lo (intKind_is _ _ _ _) _ ?hl ?_; (case N => k_asm); (case m => k_mem); (case d => k_asm); (case lo => k_asm); (case hl => assumption); k_whole; (try dsimp only [Option.getD]))))
local macro_rules | `(tactic| walk_at "subscriptTail") => `(tactic| (k_here; (with_reducible show wpAny _ _ (subscriptTail _ _ (Value.ref _) (Value.int _ _)) _ _ _); k_dflt (refine' kda_item (knd := PySem.intKind _ _) ?N ?m ?d (intKind_is _ _ _ _) ?hl ?_; (case N => k_asm); (case m => k_mem); (case d => k_asm); (case hl => assumption); k_whole)))
theorem x_get_missT7c {prog : Program} {w : World} {A : Around} {E : Value → Shared → Prop} {s : Shared} {h₀ : Heap} {L d : Addr} {news : List (Addr × Obj)} {o : Obj} {kvs : List (Int × Value)} {k : Int} {t : Tok} {Q : Value → Shared → Prop}
    (N : News h₀ L s.heap news) (hp : (d, o) ∈ news) (hd : o.IsDictOf (PySem.intKind prog w) kvs) (lo : (d == sysModules) = false) (hh : A.handled = none) (hl : valueAt kvs k = none)
    (h : ∀ h' e, Heap.NewExc s.heap h' e "KeyError" → E (.ref e) { s with heap := h', toks := s.toks + 1 }) : wpAny (model prog w) A (getItem (.ref d) (.int k t)) Q E s :=
  wpAny_getItem_missing_of (intKind_is _ _ _ _) lo hh (kda_dict N hp hd).mapOf hl h
local macro_rules | `(tactic| walk_at "getItem ref int") => `(tactic| (k_here; k_dflt (refine' x_get_missT7c ?N ?m ?d ?lo ?hh ?hl ?_; (case N => k_asm); (case m => k_mem); (case d => k_asm); (case lo => k_asm); (case hh => exact rfl); (case hl => assumption); k_whole); intro h' e' x'))
local macro_rules | `(tactic| walk_at "getItem ref int") => `(tactic| (k_here; k_dflt (refine' kdt_getItem (knd := PySem.intKind _ _) ?N ?m ?d (intKind_is _ _ _ _) ?hl ?_; (case N => k_asm); (case m => k_mem); (case d => k_asm); (case hl => assumption); k_whole)))
local macro_rules | `(tactic| walk_at "delItem ref int") => `(tactic| (k_here; k_dflt (refine' x_del_miss ?N ?m ?d ?lo ?hh ?hl ?_; (case N => k_asm); (case m => k_mem); (case d => k_asm); (case lo => k_asm); (case hh => exact rfl); (case hl => assumption); k_whole); intro h' e' x'))
local macro_rules | `(tactic| walk_at "delItem ref int") => `(tactic| (k_here; k_dflt (refine' kob_del (knd := PySem.intKind _ _) ?F ?N ?U ?d (intKind_is _ _ _ _) ?l ?z ?_; (case F => k_asm); (case N => k_asm); (case U => k_updF); (case d => k_asm); (case l => assumption); (case z => first | assumption | (rw [sizeLine_eq]; assumption)); k_whole); intro h' o' F' N' hd'; (try dsimp only at N')))
theorem x_del_ownT7c {M : Model} {A : Around} {E : Value → Shared → Prop} {s : Shared} {K : Frag} {x C L f : Addr} {h₀ : Heap} {m : Str → Option Value} {ox : Obj} {od : Option Obj} {i : Value} {Q : Unit → Shared → Prop}
    (F : Fr h₀ L s.heap m) (X₀ : K.In h₀) (I : InstAt s.heap x ox C od) (hq : noSeq K C = true) (hs : findIn K (.ref C) "__delitem__" = some (some (.ref f))) (hf : isFn K (.ref f) = true)
    (h : wpAny M A (call (.ref f) [.ref x, i]) (fun _ s' => Q () s') E s) : wpAny M A (delItem (.ref x) i) Q E s := by
  have X := X₀.keeps F.keep
  unfold delItem sequenceKey
  refine wpAny_holding (wpAny_bind (wpAny_bind (I.type.here ?_)))
  refine wpAny_bind ((anyM_none X hq).here ?_)
  rw [if_pos (show (!false) = true from rfl)]
  exact wpAny_pure (wpAny_bind (special_fn X I hs (beq_iff_eq.mp hf) (wpAny_mono h (fun _ _ z => wpAny_pure z) fun _ _ z => z)))
local macro_rules | `(tactic| walk_at "delItem ref int") => `(tactic| (k_here; k_dflt (refine' x_del_ownT7c ?k1 ?k2 ?k3 ?k4 ?k5 ?k6 ?_; (case k1 => k_asm); (case k2 => k_asm); (case k3 => k_inst); (case k4 => k_is); (case k5 => k_is); (case k6 => k_is); k_whole)))
local macro_rules | `(tactic| walk_at "WhlIf") => `(tactic| (first | (refine WhlIf.yes (decide_eq_true (by omega)) ?_) | (refine WhlIf.no (decide_eq_false (by omega)) ?_)))
local macro_rules | `(tactic| walk_at "eval Dict nil nil") => `(tactic| (k_here; k_dflt (refine' newDict_K ?k1 ?k2 ?k3 ?_; (case k1 => k_asm); (case k2 => k_asm); (case k3 => first | exact Top.nolimit (by k_asm) | exact TopRead.nolimit (by k_asm)); k_whole); intro d' h' o' F' N' l1 lo' hs' fs' hi' fi'; (try k_lt l1)))
theorem add_genT7c {prog : Program} {w : World} {A : Around} {E : Value → Shared → Prop} {s : Shared} {a b : Int} {ta tb : Tok} {Q : Value → Shared → Prop} (h : ∀ t tk, Q (.int (a + b) t) { s with toks := tk }) : wpAny (model prog w) A (binaryOp .Add (.int a ta) (.int b tb)) Q E s := add_int (h _ _)
local macro_rules | `(tactic| walk_at "binaryOp Add int int") => `(tactic| (k_here; with_reducible (refine add_genT7c ?_); intro t' tk'))


theorem lw_lessT7c {prog : Program} {w : World} {rs : List Row} {ks : List Int} {qs : List (Int × Value)} {oR : Obj} {T : List (Addr × Obj)} (W : Lw prog w rs qs oR T) : Lw prog w (less rs ks) qs oR T := lw_sub W fun _ hx => (List.mem_filter.mp hx).1
theorem keep_atT7c {T T' : List (Addr × Obj)} {p : Addr × Obj} (h : ∀ p ∈ T, p.2.cls ≠ .type "list" → p ∈ T') (hp : p ∈ T) (hc : p.2.cls ≠ .type "list") : p ∈ T' := h p hp hc
theorem at_putT7c {prog : Program} {w : World} {rs : List Row} {qs : List (Int × Value)} {key : Int} {v : Value} {oR : Obj} {T : List (Addr × Obj)} (_ : Lw prog w rs (stored qs key v) oR T) : valueAt (stored qs key v) key = some v := by rw [at_stored, if_pos rfl]
theorem off8T7c {p1 p2 p3 p4 p5 p6 p7 p8 P : Prop} (h : p1 ∧ p2 ∧ p3 ∧ p4 ∧ p5 ∧ p6 ∧ p7 ∧ p8 ∧ P) : P := h.2.2.2.2.2.2.2.2
theorem off9T7c {D : Addr} : ∀ {T : List (Addr × Obj)}, PyProof.Rows.LCg.Off1 D T → ∀ p ∈ T, p.1 ≠ D
  | [], _, _, h => nomatch h
  | q :: r, h, p, hp => by
    rcases List.mem_cons.mp hp with rfl | hp
    · exact h.1
    · exact off9T7c h.2 p hp
theorem bne_decT7c (a b : Int) : (a != b) = decide (a ≠ b) := by by_cases h : a = b <;> simp [h]
local macro_rules | `(tactic| walk_at "Eq") => `(tactic| exact bne_decT7c _ _)
theorem ne_ltT7c {T news : List (Addr × Obj)} {D : Addr} (l1 : ∀ p ∈ news, p.1 < D) (hs : ∀ p ∈ T, p ∈ news) : ∀ p ∈ T, p.1 ≠ D := fun p hp => Nat.ne_of_lt (l1 p (hs p hp))
theorem ne_atT7c {T news : List (Addr × Obj)} {D : Addr} (l1 : ∀ p ∈ news, p.1 ≠ D) (hs : ∀ p ∈ T, p ∈ news) : ∀ p ∈ T, p.1 ≠ D := fun p hp => l1 p (hs p hp)
theorem sqz_trueT7c {rs rs2 : List Row} {a b c : Int} (h : Sqz true rs rs2 a b c) : rs2 = rs := by
  rcases h with ⟨_, h⟩ | ⟨h, _⟩
  · exact h
  · cases h
theorem less_oneT7c {rs : List Row} {key : Int} (_ : key ∈ rs.map (·.k)) : (less rs [key]).map (·.k) = (rs.filter fun r => decide (r.k ≠ key)).map (·.k) := by
  have : less rs [key] = rs.filter fun r => decide (r.k ≠ key) := List.filter_congr fun r _ => by simp
  rw [this]
theorem less_noneT7c {rs : List Row} {key : Int} (h : key ∉ rs.map (·.k)) : rs.map (·.k) = (rs.filter fun r => decide (r.k ≠ key)).map (·.k) := by
  have : rs.filter (fun r => decide (r.k ≠ key)) = rs := List.filter_eq_self.mpr fun r hr => decide_eq_true fun e => h (e ▸ List.mem_map_of_mem hr)
  rw [this]
local macro_rules | `(tactic| k_all) => `(tactic| first | exact ne_atT7c (by assumption) (by ((repeat (refine sub_cons (by k_mem) ?_)); (repeat (first | exact sub_id | refine sub_tl ?_)))) | exact ne_ltT7c (by assumption) (by ((repeat (refine sub_cons (by k_mem) ?_)); (repeat (first | exact sub_id | refine sub_tl ?_)))))
local macro_rules | `(tactic| walk_at "binaryOp Add ref ref") => `(tactic| (k_here; (with_reducible show wpAny _ _ (binaryOp _ (Value.ref _) (Value.ref _)) _ _ _); k_dflt (refine' x_add_one ?F ?N ?m1 ?m2 ?i1 ?hz ?_; (case F => k_asm); (case N => k_asm); (case m1 => k_mem); (case m2 => k_mem); (case i1 => with_reducible assumption); (case hz => assumption); k_whole); intro D' us' h' F' N' l1 hi'; have l9' := l1; (try k_lt l1)))
local macro_rules | `(tactic| walk_at "compareOp In int ref") => `(tactic| (k_here; (with_reducible show wpAny _ _ (compareOp CmpOp.In (Value.int _ _) (Value.ref _)) _ _ _); k_dflt (first
  | (refine' x_in_yes ?N ?m1 ?i1 ?hin ?_; (case N => k_asm); (case m1 => k_mem); (case i1 => with_reducible assumption); (case hin => assumption); k_whole)
  | (refine' x_in_no ?N ?m1 ?i1 ?hin ?_; (case N => k_asm); (case m1 => k_mem); (case i1 => with_reducible assumption); (case hin => assumption); k_whole))))
local macro_rules | `(tactic| walk_at "compareOp NotIn int ref") => `(tactic| (k_here; (with_reducible show wpAny _ _ (compareOp CmpOp.NotIn (Value.int _ _) (Value.ref _)) _ _ _); k_dflt (first
  | (refine' x_notin_yes ?N ?m1 ?i1 ?hin ?_; (case N => k_asm); (case m1 => k_mem); (case i1 => with_reducible assumption); (case hin => assumption); k_whole)
  | (refine' x_notin_no ?N ?m1 ?i1 ?hin ?_; (case N => k_asm); (case m1 => k_mem); (case i1 => with_reducible assumption); (case hin => assumption); k_whole))))
local macro_rules | `(tactic| k_ne) => `(tactic| (refine neN ?_; (try dsimp only); first | assumption | (refine Ne.symm ?_; assumption) | omega))
local macro_rules | `(tactic| walk_at "CompSrcT") => `(tactic| (k_here; k_dflt (refine' comp_src_ne ?hdc _ ?hh ?F ?N ?m ?i ?z ?test ?turn ?fin; (case hdc => first | with_reducible assumption | assumption); (case hh => rfl); (case F => k_asm); (case N => k_asm); (case m => k_mem); (case i => with_reducible assumption); (case z => assumption)); (case' test => (intro g' r' hr' t' I' oI' C' oC' D' m2' h' tk' E' ys' hC' hx' F' N')); (case' turn => (intro g' r' hr' t' I' oI' C' oC' D' m2' h' tk' E' ys' hC' hx' F' N')); (case' fin => (intro g' us' hi'))))
local macro_rules | `(tactic| walk_at "Keep") => `(tactic| exact Keep.intro (by k_asm) (by k_asm))
local macro_rules | `(tactic| walk_at "exec Assign cons ListComp") => `(tactic| (k_here; lct_look; k_dflt (refine LCt.Assign_ListComp_T (F₀ := by k_asm) (by rfl) (by with_unfolding_all rfl) (by with_unfolding_all rfl) (by decide) (by rfl) (by decide) (by rfl) (by rfl) (by rfl) ?_)))

theorem ints_eqT7c {vs : List Value} {a b : List Int} (e : a = b) (h : IntsAre vs b) : IntsAre vs a := e ▸ h
theorem sq_ofT7c {rs rs2 : List Row} {a b c : Int} (h : Sqz false rs rs2 a b c) : Sq rs rs2 a b c := by
  rcases h with ⟨h, _⟩ | ⟨_, h⟩
  · cases h
  · exact h
local macro_rules | `(tactic| k_mem) => `(tactic| assumption)
local macro_rules | `(tactic| walk_at "eval Name") => `(tactic| (k_here; k_dflt (refine' nameX_L ?k1 ?k2 ?_ ?a ?b; (case a => rfl); (case b => rfl); (case k1 => k_asm); (case k2 => assumption); k_whole)))
local macro_rules | `(tactic| k_all) => `(tactic| first | exact Offs.o1 (by assumption) | exact Offs.o2 (by assumption) | exact Offs.o3 (by assumption) | exact Offs.o4 (by assumption) | exact Offs.o5 (by assumption) | exact Offs.o6 (by assumption) | exact Offs.o7 (by assumption))
local macro_rules | `(tactic| walk_at "call ref") => `(tactic| (k_here; (with_reducible show wpAny _ _ (call (Value.ref 116) _) _ _ _); k_dflt (refine' s_inc (rs := []) (qs := []) ?B ?F ?X ?N ?hs ?TP ?hk ?D ?O ?hd ?hu ?n0 ?n1 ?_; (case B => k_asm); (case F => k_asm); (case X => k_asm); (case N => k_asm); (case TP => k_asm); (case hk => exact rfl); (case D => assumption); (case O => assumption); (case hs => ((repeat (refine sub_cons (by k_mem) ?_)); (repeat (first | exact sub_id | refine sub_tl ?_)))); (case hd => ktr_room); (case hu => ktr_units); (case n0 => omega); (case n1 => omega); k_whole); intro t' h' tk' F' N'))
local macro_rules | `(tactic| walk_at "call ref") => `(tactic| (k_here; (with_reducible show wpAny _ _ (call (Value.ref 124) _) _ _ _); k_dflt (refine' s_get ?B ?F ?X ?N ?hs ?TP ?hk ?D ?O ?lo ?C ?W ?hd ?hu ?n0 ?n1 ?hit ?miss; (case B => k_asm); (case F => k_asm); (case X => k_asm); (case N => k_asm); (case TP => k_asm); (case hk => exact rfl); (case D => assumption); (case O => assumption); (case lo => assumption); (case C => assumption); (case W => assumption); (case hs => ((repeat (refine sub_cons (by k_mem) ?_)); (repeat (first | exact sub_id | refine sub_tl ?_)))); (case hd => ktr_room); (case hu => ktr_units); (case n0 => omega); (case n1 => omega)); (case' hit => (intro hin' v' st' qa' t1' n1' rs' T' tn' h' tk' hv' hq' hm' hke' hup' C' W' hkeep' O' F' N'; rcases hv' with hv' | ⟨j', tj', hv'⟩ <;> subst hv')); (case' miss => (intro hin' h' tk' F' N'))))
local macro_rules | `(tactic| walk_at "call ref") => `(tactic| (k_here; (with_reducible show wpAny _ _ (call (Value.ref 203) _) _ _ _); k_dflt (refine' s_read ?B ?F ?X ?N ?hs ?TP ?hk ?D ?O ?lo ?C ?W ?hd ?hu ?n0 ?n1 ?hit ?miss; (case B => k_asm); (case F => k_asm); (case X => k_asm); (case N => k_asm); (case TP => k_asm); (case hk => exact rfl); (case D => assumption); (case O => assumption); (case lo => assumption); (case C => assumption); (case W => assumption); (case hs => ((repeat (refine sub_cons (by k_mem) ?_)); (repeat (first | exact sub_id | refine sub_tl ?_)))); (case hd => ktr_room); (case hu => ktr_units); (case n0 => omega); (case n1 => omega)); (case' hit => (intro hin' v' st' qa' t1' n1' rs' T' tn' h' tk' hv' hq' hm' hke' hup' C' W' hkeep' O' F' N'; rcases hv' with hv' | ⟨j', tj', hv'⟩ <;> subst hv')); (case' miss => (intro hin' h' tk' F' N' t'))))
local macro_rules | `(tactic| walk_at "call ref") => `(tactic| (k_here; (with_reducible show wpAny _ _ (call (Value.ref 210) _) _ _ _); k_dflt (refine' s_take (qs := []) ?B ?F ?X ?N ?hs ?TP ?hk ?D ?O ?lo ?C ?hd ?hu ?hit ?miss; (case B => k_asm); (case F => k_asm); (case X => k_asm); (case N => k_asm); (case TP => k_asm); (case hk => exact rfl); (case D => assumption); (case O => assumption); (case lo => assumption); (case C => assumption); (case hs => ((repeat (refine sub_cons (by k_mem) ?_)); (repeat (first | exact sub_id | refine sub_tl ?_)))); (case hd => ktr_room); (case hu => ktr_units)); (case' hit => (intro hin' oD' h' tk' C' F' N'; have hle' := less_oneT7c hin')); (case' miss => (intro hin' h' tk' F' N'; have hle' := less_noneT7c hin'))))
local macro_rules | `(tactic| walk_at "call ref") => `(tactic| (k_here; (with_reducible show wpAny _ _ (call (Value.ref 174) _) _ _ _); k_dflt (refine' s_man (qs := []) ?B ?F ?X ?N ?hs ?TP ?hk ?D ?O ?lo ?C ?ht ?h0 ?h1 ?hd ?hu ?_; (case B => k_asm); (case F => k_asm); (case X => k_asm); (case N => k_asm); (case TP => k_asm); (case hk => exact rfl); (case D => assumption); (case O => assumption); (case lo => assumption); (case C => assumption); (case hs => ((repeat (refine sub_cons (by k_mem) ?_)); (repeat (first | exact sub_id | refine sub_tl ?_)))); (case ht => first | assumption | exact Thr.whole _ _ (by assumption) (by assumption) | exact Thr.half _); (case h0 => omega); (case h1 => omega); (case hd => ktr_room); (case hu => ktr_units); k_whole); intro rs2' oD' h' tk' hsq' C' F' N'))
local macro_rules | `(tactic| walk_at "call ref") => `(tactic| first | (k_here; (with_reducible show wpAny _ _ (call (Value.ref 196) _) _ _ _); k_dflt (refine' s_kept ?B ?F ?X ?N ?TP ?hk ?m1 ?m2 ?hi ?W ?hT ?lo ?hkn ?hkb ?ht ?h0 ?h1 ?hsq ?hd ?hu ?_ ?_; (case B => k_asm); (case F => k_asm); (case X => k_asm); (case N => k_asm); (case TP => k_asm); (case hk => exact rfl); (case m1 => k_mem); (case m2 => k_mem); (case hsq => exact sq_ofT7c (by assumption)); (case W => assumption); (case hi => first | assumption | exact ints_eqT7c (by assumption) (by assumption)); (case hT => ((repeat (refine sub_cons (by k_mem) ?_)); (repeat (first | exact sub_id | refine sub_tl ?_)))); (case lo => assumption); (case hkn => assumption); (case hkb => assumption); (case ht => first | assumption | exact Thr.whole _ 0 (by assumption) (by assumption) | exact Thr.half 0); (case h0 => omega); (case h1 => omega); (case hd => ktr_room); (case hu => ktr_units)); all_goals (first | (intro D' us' n' h' tk' hi' F' N' off') | (intro hrs' h' tk' F' N'))) | fail "no")
local macro_rules | `(tactic| walk_at "setItem ref int") => `(tactic| (k_here; k_dflt (refine' x_set_q ?F ?N ?U ?W ?P ?C ?O ?m1 ?a0 ?a5 ?hD ?_; (case F => k_asm); (case N => k_asm); (case U => k_updF); (case W => assumption); (case P => assumption); (case C => assumption); (case O => assumption); (case m1 => k_mem); (case a0 => assumption); (case a5 => assumption); (case hD => exact ⟨by k_ne, by k_ne, by k_ne, by k_ne, by k_ne, by k_ne, by k_ne⟩); k_whole); intro h' oR' F' N' W' C' O'; have hd9' := Lw.d W'; have hq9' := at_putT7c W'; (try dsimp only at N')))
local macro_rules | `(tactic| walk_at "setItem ref int") => `(tactic| (k_here; k_dflt (refine' s_set2 ?B ?F ?X ?N ?hs ?TP ?hk ?D ?O ?lo ?C ?W ?ht ?h0 ?h1 ?a0 ?a5 ?hv ?hd ?hu ?n0 ?n1 ?old ?new; (case B => k_asm); (case F => k_asm); (case X => k_asm); (case N => k_asm); (case TP => k_asm); (case hk => exact rfl); (case D => assumption); (case O => assumption); (case lo => assumption); (case C => assumption); (case W => assumption); (case hs => ((repeat (refine sub_cons (by k_mem) ?_)); (repeat (first | exact sub_id | refine sub_tl ?_)))); (case ht => assumption); (case h0 => omega); (case h1 => omega); (case a0 => assumption); (case a5 => assumption); (case hv => first | exact .inl rfl | exact .inr ⟨_, _, rfl⟩); (case hd => ktr_room); (case hu => ktr_units); (case n0 => omega); (case n1 => omega)); (case' old => (intro hin' rs1' rs2' oD' T' tn' h' tk' hke' hup' hkn' hkb' hsq' C' hkeep' W' O' F' N')); (case' new => (intro hin' rs1' rs2' oD' T' tn' h' tk' hke' hup' hkn' hkb' hsq' C' hkeep' W' O' F' N'))))
local macro_rules | `(tactic| walk_at "isTrue BoolOp") => `(tactic| (k_here; k_dflt (refine' tailB (qs := []) ?B ?F ?X ?N ?hs ?TP ?D ?lo ?C ?hi ?mc ?me ?_; (case B => k_asm); (case F => k_asm); (case X => k_asm); (case N => k_asm); (case TP => k_asm); (case D => assumption); (case me => first | exact rfl | assumption); (case mc => first | exact rfl | assumption); (case lo => assumption); (case C => assumption); (case hs => ((repeat (refine sub_cons (by k_mem) ?_)); (repeat (first | exact sub_id | refine sub_tl ?_)))); (case hi => first | assumption | exact ints_eqT7c (by assumption) (by assumption)); k_whole); intro h' tk' F' N'))
local macro_rules | `(tactic| walk_at "setItem ref") => `(tactic| (k_here; k_dflt (refine' x_set_q ?F ?N ?U ?W ?P ?C ?O ?m1 ?a0 ?a5 ?hD ?_; (case F => k_asm); (case N => k_asm); (case U => k_updF); (case W => assumption); (case P => assumption); (case C => assumption); (case O => assumption); (case m1 => k_mem); (case a0 => assumption); (case a5 => assumption); (case hD => exact ⟨by k_ne, by k_ne, by k_ne, by k_ne, by k_ne, by k_ne, by k_ne⟩); k_whole); intro h' oR' F' N' W' C' O'; have hd9' := Lw.d W'; have hq9' := at_putT7c W'; (try dsimp only at N')))
local macro_rules | `(tactic| walk_at "setItem ref") => `(tactic| (k_here; k_dflt (refine' s_set2 ?B ?F ?X ?N ?hs ?TP ?hk ?D ?O ?lo ?C ?W ?ht ?h0 ?h1 ?a0 ?a5 ?hv ?hd ?hu ?n0 ?n1 ?old ?new; (case B => k_asm); (case F => k_asm); (case X => k_asm); (case N => k_asm); (case TP => k_asm); (case hk => exact rfl); (case D => assumption); (case O => assumption); (case lo => assumption); (case C => assumption); (case W => assumption); (case hs => ((repeat (refine sub_cons (by k_mem) ?_)); (repeat (first | exact sub_id | refine sub_tl ?_)))); (case ht => assumption); (case h0 => omega); (case h1 => omega); (case a0 => assumption); (case a5 => assumption); (case hv => first | exact .inl rfl | exact .inr ⟨_, _, rfl⟩); (case hd => ktr_room); (case hu => ktr_units); (case n0 => omega); (case n1 => omega)); (case' old => (intro hin' rs1' rs2' oD' T' tn' h' tk' hke' hup' hkn' hkb' hsq' C' hkeep' W' O' F' N')); (case' new => (intro hin' rs1' rs2' oD' T' tn' h' tk' hke' hup' hkn' hkb' hsq' C' hkeep' W' O' F' N'))))

section
open PySem.W
theorem x_get_propT7c {prog : Program} {w : World} {A : Around} {E : Value → Shared → Prop} {s : Shared} {K : Frag} {x C L : Addr} {h₀ : Heap} {m : Str → Option Value} {ox : Obj} {name : Str} {expr : Bool} {Q : Value → Shared → Prop} {p fget : Addr} {rest : List Value} {od : Obj} (F : Fr h₀ L s.heap m) (X₀ : K.In h₀) (I : InstAt s.heap x ox C (some od)) (hg : plainGet K C name = true) (hh : isClsIn K C = true)
    (ha : findIn K (.ref C) name = some (some (.ref p))) (hn : specialIn K (.ref p) "__get__" = some (some (.builtin "property.__get__"))) (ht : takesIn K (.ref p) = some true) (hp : recIn K p "property" = some (.ref fget :: rest))
    (h : codeAny (model prog w) A.in1 (.call (.ref fget) ⟨[.ref x], []⟩) (fun r s' => match r with | .ok (.ret v) => wpAny (model prog w) A (handedOut v) Q E s' | .ok _ => False | .error e => wpAny (model prog w) A (noteIf true (.ref x) (.str name s.toks) e) (fun _ s'' => E e s'') E s') { s with toks := s.toks + 1 }) :
    wpAny (model prog w) A (getAttr (.ref x) name expr) Q E s :=
  get_bind (X₀.keeps F.keep) I (plainGet_of hg).1 (findObj_data hh ha hn ht) (plainGet_of hg).2 (wpAny_call (prop_get (s := { s with toks := s.toks + 1 }) (X₀.keeps F.keep) hp h))
end
local macro_rules | `(tactic| walk_at "getAttr ref") => `(tactic| (k_here; (with_reducible show wpAny _ _ (getAttr (Value.ref _) (Str.ofString "size_threshold") _) _ _ _); k_dflt (refine' x_get_propT7c ?k1 ?k2 ?k3 ?k4 ?k5 ?k6 ?k7 ?k8 ?k9 ?_; (case k1 => k_asm); (case k2 => k_asm); (case k3 => k_inst); (case k4 => k_is); (case k5 => k_is); (case k6 => k_is); (case k7 => k_is); (case k8 => k_is); (case k9 => k_is); k_whole); k_dflt ktr_enter))
local macro_rules | `(tactic| walk_at "handedOut") => `(tactic| (k_here; k_dflt (refine' sum_out ?hv ?_; (case hv => assumption); k_whole)))
local macro_rules | `(tactic| k_handed) => `(tactic| exact thr_in (by assumption))
local macro_rules | `(tactic| walk_at "binaryOp Mult int") => `(tactic| (k_here; k_dflt (refine' thr_den ?hv ?hn0 ?hn2 ?h0 ?h1 ?_; (case hv => assumption); (case hn0 => assumption); (case hn2 => assumption); (case h0 => assumption); (case h1 => assumption); k_whole); intro v' tk' hv'))
local macro_rules | `(tactic| walk_at "binaryOp Mult int") => `(tactic| (k_here; k_dflt (refine' thr_mul ?ht ?h0 ?h1 ?_; (case ht => assumption); (case h0 => assumption); (case h1 => assumption); k_whole); intro v' tk' hv'))
local macro_rules | `(tactic| walk_at "binaryOp Add int") => `(tactic| (k_here; k_dflt (refine' thr_add ?hv ?h0 ?h1 ?_; (case hv => assumption); (case h0 => assumption); (case h1 => assumption); k_whole); intro v' tk' hv'))
local macro_rules | `(tactic| walk_at "compareOp NotEq int") => `(tactic| (k_here; k_dflt (refine' thr_ne ?hv ?h0 ?h1 ?_; (case hv => assumption); (case h0 => assumption); (case h1 => assumption); k_whole); intro tk'))
theorem thr_nT7c {thr : Value} {num den : Int} (ht : Thr thr num den) : 0 ≤ num ∧ num ≤ 2 ∧ 1 ≤ den ∧ den ≤ 2 := by
  cases ht with
  | half tq => omega
  | whole _ tq g0 g2 => omega
theorem ks_mulT7c (a b : Int) : 1 * (a + a * b) = a * (1 + b) := by rw [Int.one_mul, Int.mul_add a 1 b, Int.mul_one]
theorem sub_atT7c {T T1 : List (Addr × Obj)} {p : Addr × Obj} (h : ∀ p ∈ T, p ∈ T1) (hp : p ∈ T) : p ∈ T1 := h p hp
set_option maxHeartbeats 2000000 in
theorem kind7c {prog : Program} {w : World} {mean : ExcName → Option Value} {mg mb : Str → Option Value} {h₀ : Heap} {L fa I l : Addr} {oI : Obj} {cdv : Value} {m : Str → Option Value} {s : Shared} {Q : Flow → Shared → Prop} {E : Value → Shared → Prop}
    {T : List (Addr × Obj)} {c cd dD k kd rd e : Addr} {n room num den kv key more : Int} {tn th tc ti t1 t2 t3 t4 tkk tke tmo : Tok} {thr : Value} {held : Bool} {oD oR oC : Obj} {vs : List Value} {ne : Nat} {rs : List Row} {qs : List (Int × Value)} {i : Nat}
    (B : Below callerA h₀ [] h₀) (F : Fr h₀ L s.heap m) (X : (Mine.hd.heap_39 w.params).In h₀)
    (N : News h₀ L s.heap ((c, lru cd dD k n tn (.int room tc) thr) :: (cd, dictOf [] 0) :: (dD, oD) :: (k, instObj 46 kd) :: (kd, lockD w.params th held) :: (rd, oR) :: (e, listOf (List.toArray vs) ne) :: (L + 1, oC) :: T))
    (TP : Top Mine.hd.view_39 (looseW Mine.hd.view_39 [Str.ofString "itemgetter", Str.ofString "LRUCache"]) mean mg mb h₀) (D : Dist c cd dD k kd rd (L + 1)) (O : Offs T c cd dD k kd rd (L + 1)) (lo : (dD == sysModules) = false) (lo2 : (rd == sysModules) = false)
    (C : Cac prog w rs oD T e n) (W : Lw prog w rs qs oR T) (hi : IntsAre vs (rs.map (·.k))) (ht : Thr thr num den) (hn0 : 0 ≤ n) (hn1 : n ≤ (i : Int)) (hi4 : (i : Int) ≤ 39) (h0 : 0 ≤ room) (h1 : room ≤ 4)
    (hIT : (I, oI) ∈ T) (hIc : oI.cls ≠ .type "list")
    (hoc : oC.data = .cell (some (.int key tke))) (hk0 : 0 ≤ key) (hk5 : key ≤ 5)
    (m1 : m (Str.ofString "script") = some (.ref l)) (m2 : m (Str.ofString "room") = some (.int room t1)) (m3 : m (Str.ofString "num") = some (.int num t2)) (m4 : m (Str.ofString "den") = some (.int den t3)) (m5 : m (Str.ofString "c") = some (.ref c)) (m6 : m (Str.ofString "lock") = some (.ref k))
    (m7 : m (Str.ofString "entry") = some (.ref e)) (m8 : m (Str.ofString "rows") = some (.ref rd)) (m9 : m (Str.ofString "counter") = some (.int n t4)) (m10 : m (Str.ofString "held") = some (.bool held))
    (m11 : m (Str.ofString "i") = some (.int (0 + (i : Int)) ti)) (m12 : m (Str.ofString "kind") = some (.int kv tkk)) (m13 : m (Str.ofString "more") = some (.int more tmo))
    (fin : ∀ m' h' tk', StX prog w h₀ L l c cd dD k kd rd th I oI ((i : Int) + 1) h' m' → Q .next { s with heap := h', toks := tk' })
    (hK : kv = 7) (hH : held = true) : wpAny (model prog w) (callerA.deeper (envOfC (Str.ofString "law") lawScope L fa cdv)) (exec turnIf (envOfC (Str.ofString "law") lawScope L fa cdv)) Q E s := by
  subst hK hH
  obtain ⟨d12, d13, d14, d15, d16, d17, d23, d24, d25, d26, d27, d34, d35, d36, d37, d45, d46, d47, d56, d57, d67⟩ := id D
  have xe1 : @Ne Nat e c := news_ne N (.tail _ (.tail _ (.tail _ (.tail _ (.tail _ (.tail _ (.head _))))))) (.head _) (by intro h; cases h)
  have xe2 : @Ne Nat e cd := news_ne N (.tail _ (.tail _ (.tail _ (.tail _ (.tail _ (.tail _ (.head _))))))) (.tail _ (.head _)) (fun e => absurd (Value.type.inj e) (by decide))
  have xe3 : @Ne Nat e dD := news_ne N (.tail _ (.tail _ (.tail _ (.tail _ (.tail _ (.tail _ (.head _))))))) (.tail _ (.tail _ (.head _))) (by show Value.type "list" ≠ oD.cls; rw [dict_cls C.d]; exact fun e => absurd (Value.type.inj e) (by decide))
  have xe4 : @Ne Nat e k := news_ne N (.tail _ (.tail _ (.tail _ (.tail _ (.tail _ (.tail _ (.head _))))))) (.tail _ (.tail _ (.tail _ (.head _)))) (by intro h; cases h)
  have xe5 : @Ne Nat e kd := news_ne N (.tail _ (.tail _ (.tail _ (.tail _ (.tail _ (.tail _ (.head _))))))) (.tail _ (.tail _ (.tail _ (.tail _ (.head _))))) (fun e => absurd (Value.type.inj e) (by decide))
  have xe6 : @Ne Nat e rd := news_ne N (.tail _ (.tail _ (.tail _ (.tail _ (.tail _ (.tail _ (.head _))))))) (.tail _ (.tail _ (.tail _ (.tail _ (.tail _ (.head _)))))) (by show Value.type "list" ≠ oR.cls; rw [dict_cls W.d]; exact fun e => absurd (Value.type.inj e) (by decide))
  have xe7 : @Ne Nat e (L + 1) := news_cell N (.tail _ (.tail _ (.tail _ (.tail _ (.tail _ (.tail _ (.head _))))))) (.tail _ (.tail _ (.tail _ (.tail _ (.tail _ (.tail _ (.tail _ (.head _)))))))) hoc
  conv in (occs := *) lawScope => all_goals whnf
  conv in (occs := *) turnIf => all_goals whnf
  have hDR := W.d

  have hz6 : (rs.map (·.k)).length ≤ 1000 := by have := rows_six C.kn C.kb; simp; omega
  have g1 : 0 ≤ more.fmod 5 := Int.fmod_nonneg_of_pos _ (by omega)
  have g2 : more.fmod 5 ≤ 4 := by have := Int.fmod_lt_of_pos more (b := 5) (by omega); omega
  have g3 : 0 ≤ (more.fdiv 10).fmod 3 := Int.fmod_nonneg_of_pos _ (by omega)
  have g4 : (more.fdiv 10).fmod 3 ≤ 2 := by have := Int.fmod_lt_of_pos (more.fdiv 10) (b := 3) (by omega); omega
  have hkn9 := C.kn
  have hkb9 := C.kb
  have hq1 := (thr_nT7c ht).1
  have hq2 := (thr_nT7c ht).2.1
  have hq3 := (thr_nT7c ht).2.2.1
  have hq4 := (thr_nT7c ht).2.2.2
  k_steps
  all_goals (try (exact absurd (ks_mulT7c _ _) (by assumption)))
  all_goals (try (have hq9 := (sqz_trueT7c (by assumption)).symm; subst hq9))
  all_goals (try (exfalso; omega; done))
  all_goals (refine' fin _ _ _ (StX.intro (StF.mk ?F ?N ?O ?C ?W ?hi ?ht ?n0 ?n1 ?h0 ?h1 ?hoc ?m1 ?m2 ?m3 ?m4 ?m5 ?m6 ?m7 ?m8 ?m9 ?m10) ?b); (case F => k_asm); (case m1 => first | exact rfl | assumption); (case m2 => first | exact rfl | assumption); (case m3 => first | exact rfl | assumption); (case m4 => first | exact rfl | assumption); (case m5 => first | exact rfl | assumption); (case m6 => first | exact rfl | assumption); (case m7 => first | exact rfl | assumption); (case m8 => first | exact rfl | assumption); (case m9 => first | exact rfl | assumption); (case m10 => first | exact rfl | assumption); (case O => assumption); (case C => first | assumption | exact cac_up (by assumption) (by omega) | exact cac_entry (by assumption) (by k_all)); (case W => first | assumption | exact lw_sub (by assumption) (sqz_sub (by assumption)) | exact lw_lessT7c (by assumption)); (case N => (refine news_sub (by k_asm) ?_; ((repeat (refine sub_cons (by k_mem) ?_)); (repeat (first | exact sub_id | refine sub_tl ?_))))); (case hi => first | assumption | exact ints_eqT7c (by assumption) (by assumption)); (case ht => first | assumption | exact Thr.whole _ _ (by assumption) (by assumption) | exact Thr.half _); (case n0 => omega); (case n1 => omega); (case h0 => omega); (case h1 => omega); (case hoc => assumption); (case b => first | assumption | exact List.Mem.tail _ (by assumption) | exact List.Mem.tail _ (sub_atT7c (by assumption) (by assumption))))

end Mine
end
section
namespace Mine
local macro_rules | `(tactic| walk_at "none of mine") => `(tactic| fail "none")
local macro_rules | `(tactic| walk_at "none of mine") => `(tactic| fail "none")
local macro_rules | `(tactic| walk_at "none of mine") => `(tactic| fail "none")
local macro_rules | `(tactic| walk_at "none of mine") => `(tactic| fail "none")
local macro_rules | `(tactic| walk_at "none of mine") => `(tactic| fail "none")
local macro_rules | `(tactic| walk_at "none of mine") => `(tactic| fail "none")
local macro_rules | `(tactic| walk_at "none of mine") => `(tactic| fail "none")
local macro_rules | `(tactic| walk_at "none of mine") => `(tactic| fail "none")
local macro_rules | `(tactic| walk_at "none of mine") => `(tactic| fail "none")
local macro_rules | `(tactic| walk_at "none of mine") => `(tactic| fail "none")
theorem fillU1 : True := by
  w_top off
  trivial


local macro_rules | `(tactic| k_room) => `(tactic| ktr_room)
local macro_rules | `(tactic| k_units) => `(tactic| ktr_units)
local macro_rules | `(tactic| ktr_enter) => `(tactic| (refine' code_def ?k1 ?k2 ?k3 ?k4 ?k5 ?kA ?kF ?kK ?k6 ?k7 ?k8 ?k9 ?kB ?_ ?c2 ?c3 ?c4 ?c5; (case kA => exact rfl); (case kF => exact rfl); (case kK => first | assumption | exact rfl); (case k1 => k_asm); (case k2 => k_asm); (case k3 => k_asm); (case k4 => k_asm); (case k5 => k_asm); (case k6 => k_is); (case k7 => k_is); (case k8 => ktr_room); (case k9 => first | exact BindsTo.of_eq rfl | exact binds_K (by k_in) rfl (by k_is) rfl rfl rfl | fail "ktr_enter: no rule for these arguments"); (case c5 => decide); (case kB => exact locs rfl); (case c2 => exact rfl); (case c3 => exact rfl); (case c4 => exact rfl); k_whole; intro g' L' h' FG' F' N' B' X' T'; (try dsimp only); (try k_fold)))
local macro_rules | `(tactic| k_lt $h:ident) => `(tactic| (replace $h := allLt_of $h; simp only [AllLt, and_true] at $h:ident; (try ((fail_if_success (rename AllLt _ _ => l6)); have l7 : AllLt _ _ := (by first | exact ($h).2 | exact ($h).2.2 | exact ($h).2.2.2 | exact ($h).2.2.2.2 | exact ($h).2.2.2.2.2 | exact ($h).2.2.2.2.2.2 | exact ($h).2.2.2.2.2.2.2 | exact ($h).2.2.2.2.2.2.2.2 | exact ($h).2.2.2.2.2.2.2.2.2 | exact ($h).2.2.2.2.2.2.2.2.2.2 | exact ($h).2.2.2.2.2.2.2.2.2.2.2 | exact ($h).2.2.2.2.2.2.2.2.2.2.2.2)))))
local macro_rules | `(tactic| k_all) => `(tactic| (refine' allLt_ne ?h6 ?h7; (case h6 => assumption); (case h7 => ((try dsimp only); omega))))
local macro_rules | `(tactic| k_all) => `(tactic| with_reducible assumption)
local macro_rules | `(tactic| walk_at "call builtin:len") => `(tactic| (k_here; (with_reducible show wpAny _ _ (call (Value.builtin "len") [Value.ref _]) _ _ _); k_dflt (refine' kda_len (knd := PySem.intKind _ _) ?N ?m ?d ?lo ?f ?_; (case N => k_asm); (case m => k_mem); (case d => k_asm); (case lo => k_asm); (case f => assumption); k_whole)))
local macro_rules | `(tactic| walk_at "getMethod ref") => `(tactic| (k_here; (with_reducible show wpAny _ _ (getMethod (Value.ref _) (Str.ofString "get") _) _ _ _); k_dflt (refine' kdg_method (knd := PySem.intKind _ _) ?N ?m ?d ?_; (case N => k_asm); (case m => k_mem); (case d => k_asm); k_whole)))
local macro_rules | `(tactic| walk_at "call builtin:dict.get") => `(tactic| (k_here; (with_reducible show wpAny _ _ (call (Value.builtin "dict.get") [Value.ref _, Value.int _ _]) _ _ _); k_dflt (refine' kdg_get1 (knd := PySem.intKind _ _) ?N ?m ?d ?lo (intKind_is _ _ _ _) _ ?hl ?_; (case N => k_asm); (case m => k_mem); (case d => k_asm); (case lo => k_asm); (case hl => assumption); k_whole; (try dsimp only [Option.getD]))))
local macro_rules | `(tactic| walk_at "subscriptTail") => `(tactic| (k_here; (with_reducible show wpAny _ _ (subscriptTail _ _ (Value.ref _) (Value.int _ _)) _ _ _); k_dflt (refine' kda_item (knd := PySem.intKind _ _) ?N ?m ?d (intKind_is _ _ _ _) ?hl ?_; (case N => k_asm); (case m => k_mem); (case d => k_asm); (case hl => assumption); k_whole)))
theorem x_get_missU1 {prog : Program} {w : World} {A : Around} {E : Value → Shared → Prop} {s : Shared} {h₀ : Heap} {L d : Addr} {news : List (Addr × Obj)} {o : Obj} {kvs : List (Int × Value)} {k : Int} {t : Tok} {Q : Value → Shared → Prop}
    (N : News h₀ L s.heap news) (hp : (d, o) ∈ news) (hd : o.IsDictOf (PySem.intKind prog w) kvs) (lo : (d == sysModules) = false) (hh : A.handled = none) (hl : valueAt kvs k = none)
    (h : ∀ h' e, Heap.NewExc s.heap h' e "KeyError" → E (.ref e) { s with heap := h', toks := s.toks + 1 }) : wpAny (model prog w) A (getItem (.ref d) (.int k t)) Q E s :=
  wpAny_getItem_missing_of (intKind_is _ _ _ _) lo hh (kda_dict N hp hd).mapOf hl h
local macro_rules | `(tactic| walk_at "getItem ref int") => `(tactic| (k_here; k_dflt (refine' x_get_missU1 ?N ?m ?d ?lo ?hh ?hl ?_; (case N => k_asm); (case m => k_mem); (case d => k_asm); (case lo => k_asm); (case hh => exact rfl); (case hl => assumption); k_whole); intro h' e' x'))
local macro_rules | `(tactic| walk_at "getItem ref int") => `(tactic| (k_here; k_dflt (refine' kdt_getItem (knd := PySem.intKind _ _) ?N ?m ?d (intKind_is _ _ _ _) ?hl ?_; (case N => k_asm); (case m => k_mem); (case d => k_asm); (case hl => assumption); k_whole)))
local macro_rules | `(tactic| walk_at "delItem ref int") => `(tactic| (k_here; k_dflt (refine' x_del_miss ?N ?m ?d ?lo ?hh ?hl ?_; (case N => k_asm); (case m => k_mem); (case d => k_asm); (case lo => k_asm); (case hh => exact rfl); (case hl => assumption); k_whole); intro h' e' x'))
local macro_rules | `(tactic| walk_at "delItem ref int") => `(tactic| (k_here; k_dflt (refine' kob_del (knd := PySem.intKind _ _) ?F ?N ?U ?d (intKind_is _ _ _ _) ?l ?z ?_; (case F => k_asm); (case N => k_asm); (case U => k_updF); (case d => k_asm); (case l => assumption); (case z => first | assumption | (rw [sizeLine_eq]; assumption)); k_whole); intro h' o' F' N' hd'; (try dsimp only at N')))
theorem x_del_ownU1 {M : Model} {A : Around} {E : Value → Shared → Prop} {s : Shared} {K : Frag} {x C L f : Addr} {h₀ : Heap} {m : Str → Option Value} {ox : Obj} {od : Option Obj} {i : Value} {Q : Unit → Shared → Prop}
    (F : Fr h₀ L s.heap m) (X₀ : K.In h₀) (I : InstAt s.heap x ox C od) (hq : noSeq K C = true) (hs : findIn K (.ref C) "__delitem__" = some (some (.ref f))) (hf : isFn K (.ref f) = true)
    (h : wpAny M A (call (.ref f) [.ref x, i]) (fun _ s' => Q () s') E s) : wpAny M A (delItem (.ref x) i) Q E s := by
  have X := X₀.keeps F.keep
  unfold delItem sequenceKey
  refine wpAny_holding (wpAny_bind (wpAny_bind (I.type.here ?_)))
  refine wpAny_bind ((anyM_none X hq).here ?_)
  rw [if_pos (show (!false) = true from rfl)]
  exact wpAny_pure (wpAny_bind (special_fn X I hs (beq_iff_eq.mp hf) (wpAny_mono h (fun _ _ z => wpAny_pure z) fun _ _ z => z)))
local macro_rules | `(tactic| walk_at "delItem ref int") => `(tactic| (k_here; k_dflt (refine' x_del_ownU1 ?k1 ?k2 ?k3 ?k4 ?k5 ?k6 ?_; (case k1 => k_asm); (case k2 => k_asm); (case k3 => k_inst); (case k4 => k_is); (case k5 => k_is); (case k6 => k_is); k_whole)))
local macro_rules | `(tactic| walk_at "WhlIf") => `(tactic| (first | (refine WhlIf.yes (decide_eq_true (by omega)) ?_) | (refine WhlIf.no (decide_eq_false (by omega)) ?_)))
local macro_rules | `(tactic| walk_at "eval Dict nil nil") => `(tactic| (k_here; k_dflt (refine' newDict_K ?k1 ?k2 ?k3 ?_; (case k1 => k_asm); (case k2 => k_asm); (case k3 => first | exact Top.nolimit (by k_asm) | exact TopRead.nolimit (by k_asm)); k_whole); intro d' h' o' F' N' l1 lo' hs' fs' hi' fi'; (try k_lt l1)))
theorem add_genU1 {prog : Program} {w : World} {A : Around} {E : Value → Shared → Prop} {s : Shared} {a b : Int} {ta tb : Tok} {Q : Value → Shared → Prop} (h : ∀ t tk, Q (.int (a + b) t) { s with toks := tk }) : wpAny (model prog w) A (binaryOp .Add (.int a ta) (.int b tb)) Q E s := add_int (h _ _)
local macro_rules | `(tactic| walk_at "binaryOp Add int int") => `(tactic| (k_here; with_reducible (refine add_genU1 ?_); intro t' tk'))


theorem lw_lessU1 {prog : Program} {w : World} {rs : List Row} {ks : List Int} {qs : List (Int × Value)} {oR : Obj} {T : List (Addr × Obj)} (W : Lw prog w rs qs oR T) : Lw prog w (less rs ks) qs oR T := lw_sub W fun _ hx => (List.mem_filter.mp hx).1
theorem keep_atU1 {T T' : List (Addr × Obj)} {p : Addr × Obj} (h : ∀ p ∈ T, p.2.cls ≠ .type "list" → p ∈ T') (hp : p ∈ T) (hc : p.2.cls ≠ .type "list") : p ∈ T' := h p hp hc
theorem at_putU1 {prog : Program} {w : World} {rs : List Row} {qs : List (Int × Value)} {key : Int} {v : Value} {oR : Obj} {T : List (Addr × Obj)} (_ : Lw prog w rs (stored qs key v) oR T) : valueAt (stored qs key v) key = some v := by rw [at_stored, if_pos rfl]
theorem off8U1 {p1 p2 p3 p4 p5 p6 p7 p8 P : Prop} (h : p1 ∧ p2 ∧ p3 ∧ p4 ∧ p5 ∧ p6 ∧ p7 ∧ p8 ∧ P) : P := h.2.2.2.2.2.2.2.2
theorem off9U1 {D : Addr} : ∀ {T : List (Addr × Obj)}, PyProof.Rows.LCg.Off1 D T → ∀ p ∈ T, p.1 ≠ D
  | [], _, _, h => nomatch h
  | q :: r, h, p, hp => by
    rcases List.mem_cons.mp hp with rfl | hp
    · exact h.1
    · exact off9U1 h.2 p hp
theorem bne_decU1 (a b : Int) : (a != b) = decide (a ≠ b) := by by_cases h : a = b <;> simp [h]
local macro_rules | `(tactic| walk_at "Eq") => `(tactic| exact bne_decU1 _ _)
theorem ne_ltU1 {T news : List (Addr × Obj)} {D : Addr} (l1 : ∀ p ∈ news, p.1 < D) (hs : ∀ p ∈ T, p ∈ news) : ∀ p ∈ T, p.1 ≠ D := fun p hp => Nat.ne_of_lt (l1 p (hs p hp))
theorem ne_atU1 {T news : List (Addr × Obj)} {D : Addr} (l1 : ∀ p ∈ news, p.1 ≠ D) (hs : ∀ p ∈ T, p ∈ news) : ∀ p ∈ T, p.1 ≠ D := fun p hp => l1 p (hs p hp)
theorem sqz_trueU1 {rs rs2 : List Row} {a b c : Int} (h : Sqz true rs rs2 a b c) : rs2 = rs := by
  rcases h with ⟨_, h⟩ | ⟨h, _⟩
  · exact h
  · cases h
theorem less_oneU1 {rs : List Row} {key : Int} (_ : key ∈ rs.map (·.k)) : (less rs [key]).map (·.k) = (rs.filter fun r => decide (r.k ≠ key)).map (·.k) := by
  have : less rs [key] = rs.filter fun r => decide (r.k ≠ key) := List.filter_congr fun r _ => by simp
  rw [this]
theorem less_noneU1 {rs : List Row} {key : Int} (h : key ∉ rs.map (·.k)) : rs.map (·.k) = (rs.filter fun r => decide (r.k ≠ key)).map (·.k) := by
  have : rs.filter (fun r => decide (r.k ≠ key)) = rs := List.filter_eq_self.mpr fun r hr => decide_eq_true fun e => h (e ▸ List.mem_map_of_mem hr)
  rw [this]
local macro_rules | `(tactic| k_all) => `(tactic| first | exact ne_atU1 (by assumption) (by ((repeat (refine sub_cons (by k_mem) ?_)); (repeat (first | exact sub_id | refine sub_tl ?_)))) | exact ne_ltU1 (by assumption) (by ((repeat (refine sub_cons (by k_mem) ?_)); (repeat (first | exact sub_id | refine sub_tl ?_)))))
local macro_rules | `(tactic| walk_at "binaryOp Add ref ref") => `(tactic| (k_here; (with_reducible show wpAny _ _ (binaryOp _ (Value.ref _) (Value.ref _)) _ _ _); k_dflt (refine' x_add_one ?F ?N ?m1 ?m2 ?i1 ?hz ?_; (case F => k_asm); (case N => k_asm); (case m1 => k_mem); (case m2 => k_mem); (case i1 => with_reducible assumption); (case hz => assumption); k_whole); intro D' us' h' F' N' l1 hi'; have l9' := l1; (try k_lt l1)))
local macro_rules | `(tactic| walk_at "compareOp In int ref") => `(tactic| (k_here; (with_reducible show wpAny _ _ (compareOp CmpOp.In (Value.int _ _) (Value.ref _)) _ _ _); k_dflt (first
  | (refine' x_in_yes ?N ?m1 ?i1 ?hin ?_; (case N => k_asm); (case m1 => k_mem); (case i1 => with_reducible assumption); (case hin => assumption); k_whole)
  | (refine' x_in_no ?N ?m1 ?i1 ?hin ?_; (case N => k_asm); (case m1 => k_mem); (case i1 => with_reducible assumption); (case hin => assumption); k_whole))))
local macro_rules | `(tactic| walk_at "compareOp NotIn int ref") => `(tactic| (k_here; (with_reducible show wpAny _ _ (compareOp CmpOp.NotIn (Value.int _ _) (Value.ref _)) _ _ _); k_dflt (first
  | (refine' x_notin_yes ?N ?m1 ?i1 ?hin ?_; (case N => k_asm); (case m1 => k_mem); (case i1 => with_reducible assumption); (case hin => assumption); k_whole)
  | (refine' x_notin_no ?N ?m1 ?i1 ?hin ?_; (case N => k_asm); (case m1 => k_mem); (case i1 => with_reducible assumption); (case hin => assumption); k_whole))))
local macro_rules | `(tactic| k_ne) => `(tactic| (refine neN ?_; (try dsimp only); first | assumption | (refine Ne.symm ?_; assumption) | omega))
local macro_rules | `(tactic| walk_at "CompSrcT") => `(tactic| (k_here; k_dflt (refine' comp_src_ne ?hdc _ ?hh ?F ?N ?m ?i ?z ?test ?turn ?fin; (case hdc => first | with_reducible assumption | assumption); (case hh => rfl); (case F => k_asm); (case N => k_asm); (case m => k_mem); (case i => with_reducible assumption); (case z => assumption)); (case' test => (intro g' r' hr' t' I' oI' C' oC' D' m2' h' tk' E' ys' hC' hx' F' N')); (case' turn => (intro g' r' hr' t' I' oI' C' oC' D' m2' h' tk' E' ys' hC' hx' F' N')); (case' fin => (intro g' us' hi'))))
local macro_rules | `(tactic| walk_at "Keep") => `(tactic| exact Keep.intro (by k_asm) (by k_asm))
local macro_rules | `(tactic| walk_at "exec Assign cons ListComp") => `(tactic| (k_here; lct_look; k_dflt (refine LCt.Assign_ListComp_T (F₀ := by k_asm) (by rfl) (by with_unfolding_all rfl) (by with_unfolding_all rfl) (by decide) (by rfl) (by decide) (by rfl) (by rfl) (by rfl) ?_)))

theorem ints_eqU1 {vs : List Value} {a b : List Int} (e : a = b) (h : IntsAre vs b) : IntsAre vs a := e ▸ h
theorem sq_ofU1 {rs rs2 : List Row} {a b c : Int} (h : Sqz false rs rs2 a b c) : Sq rs rs2 a b c := by
  rcases h with ⟨h, _⟩ | ⟨_, h⟩
  · cases h
  · exact h
local macro_rules | `(tactic| k_mem) => `(tactic| assumption)
local macro_rules | `(tactic| walk_at "eval Name") => `(tactic| (k_here; k_dflt (refine' nameX_L ?k1 ?k2 ?_ ?a ?b; (case a => rfl); (case b => rfl); (case k1 => k_asm); (case k2 => assumption); k_whole)))
local macro_rules | `(tactic| k_all) => `(tactic| first | exact Offs.o1 (by assumption) | exact Offs.o2 (by assumption) | exact Offs.o3 (by assumption) | exact Offs.o4 (by assumption) | exact Offs.o5 (by assumption) | exact Offs.o6 (by assumption) | exact Offs.o7 (by assumption))
local macro_rules | `(tactic| walk_at "call ref") => `(tactic| (k_here; (with_reducible show wpAny _ _ (call (Value.ref 116) _) _ _ _); k_dflt (refine' s_inc (rs := []) (qs := []) ?B ?F ?X ?N ?hs ?TP ?hk ?D ?O ?hd ?hu ?n0 ?n1 ?_; (case B => k_asm); (case F => k_asm); (case X => k_asm); (case N => k_asm); (case TP => k_asm); (case hk => exact rfl); (case D => assumption); (case O => assumption); (case hs => ((repeat (refine sub_cons (by k_mem) ?_)); (repeat (first | exact sub_id | refine sub_tl ?_)))); (case hd => ktr_room); (case hu => ktr_units); (case n0 => omega); (case n1 => omega); k_whole); intro t' h' tk' F' N'))
local macro_rules | `(tactic| walk_at "call ref") => `(tactic| (k_here; (with_reducible show wpAny _ _ (call (Value.ref 124) _) _ _ _); k_dflt (refine' s_get ?B ?F ?X ?N ?hs ?TP ?hk ?D ?O ?lo ?C ?W ?hd ?hu ?n0 ?n1 ?hit ?miss; (case B => k_asm); (case F => k_asm); (case X => k_asm); (case N => k_asm); (case TP => k_asm); (case hk => exact rfl); (case D => assumption); (case O => assumption); (case lo => assumption); (case C => assumption); (case W => assumption); (case hs => ((repeat (refine sub_cons (by k_mem) ?_)); (repeat (first | exact sub_id | refine sub_tl ?_)))); (case hd => ktr_room); (case hu => ktr_units); (case n0 => omega); (case n1 => omega)); (case' hit => (intro hin' v' st' qa' t1' n1' rs' T' tn' h' tk' hv' hq' hm' hke' hup' C' W' hkeep' O' F' N'; rcases hv' with hv' | ⟨j', tj', hv'⟩ <;> subst hv')); (case' miss => (intro hin' h' tk' F' N'))))
local macro_rules | `(tactic| walk_at "call ref") => `(tactic| (k_here; (with_reducible show wpAny _ _ (call (Value.ref 203) _) _ _ _); k_dflt (refine' s_read ?B ?F ?X ?N ?hs ?TP ?hk ?D ?O ?lo ?C ?W ?hd ?hu ?n0 ?n1 ?hit ?miss; (case B => k_asm); (case F => k_asm); (case X => k_asm); (case N => k_asm); (case TP => k_asm); (case hk => exact rfl); (case D => assumption); (case O => assumption); (case lo => assumption); (case C => assumption); (case W => assumption); (case hs => ((repeat (refine sub_cons (by k_mem) ?_)); (repeat (first | exact sub_id | refine sub_tl ?_)))); (case hd => ktr_room); (case hu => ktr_units); (case n0 => omega); (case n1 => omega)); (case' hit => (intro hin' v' st' qa' t1' n1' rs' T' tn' h' tk' hv' hq' hm' hke' hup' C' W' hkeep' O' F' N'; rcases hv' with hv' | ⟨j', tj', hv'⟩ <;> subst hv')); (case' miss => (intro hin' h' tk' F' N' t'))))
local macro_rules | `(tactic| walk_at "call ref") => `(tactic| (k_here; (with_reducible show wpAny _ _ (call (Value.ref 210) _) _ _ _); k_dflt (refine' s_take (qs := []) ?B ?F ?X ?N ?hs ?TP ?hk ?D ?O ?lo ?C ?hd ?hu ?hit ?miss; (case B => k_asm); (case F => k_asm); (case X => k_asm); (case N => k_asm); (case TP => k_asm); (case hk => exact rfl); (case D => assumption); (case O => assumption); (case lo => assumption); (case C => assumption); (case hs => ((repeat (refine sub_cons (by k_mem) ?_)); (repeat (first | exact sub_id | refine sub_tl ?_)))); (case hd => ktr_room); (case hu => ktr_units)); (case' hit => (intro hin' oD' h' tk' C' F' N'; have hle' := less_oneU1 hin')); (case' miss => (intro hin' h' tk' F' N'; have hle' := less_noneU1 hin'))))
local macro_rules | `(tactic| walk_at "call ref") => `(tactic| (k_here; (with_reducible show wpAny _ _ (call (Value.ref 174) _) _ _ _); k_dflt (refine' s_man (qs := []) ?B ?F ?X ?N ?hs ?TP ?hk ?D ?O ?lo ?C ?ht ?h0 ?h1 ?hd ?hu ?_; (case B => k_asm); (case F => k_asm); (case X => k_asm); (case N => k_asm); (case TP => k_asm); (case hk => exact rfl); (case D => assumption); (case O => assumption); (case lo => assumption); (case C => assumption); (case hs => ((repeat (refine sub_cons (by k_mem) ?_)); (repeat (first | exact sub_id | refine sub_tl ?_)))); (case ht => first | assumption | exact Thr.whole _ _ (by assumption) (by assumption) | exact Thr.half _); (case h0 => omega); (case h1 => omega); (case hd => ktr_room); (case hu => ktr_units); k_whole); intro rs2' oD' h' tk' hsq' C' F' N'))
local macro_rules | `(tactic| walk_at "call ref") => `(tactic| first | (k_here; (with_reducible show wpAny _ _ (call (Value.ref 196) _) _ _ _); k_dflt (refine' s_kept ?B ?F ?X ?N ?TP ?hk ?m1 ?m2 ?hi ?W ?hT ?lo ?hkn ?hkb ?ht ?h0 ?h1 ?hsq ?hd ?hu ?_ ?_; (case B => k_asm); (case F => k_asm); (case X => k_asm); (case N => k_asm); (case TP => k_asm); (case hk => exact rfl); (case m1 => k_mem); (case m2 => k_mem); (case hsq => exact sq_ofU1 (by assumption)); (case W => assumption); (case hi => first | assumption | exact ints_eqU1 (by assumption) (by assumption)); (case hT => ((repeat (refine sub_cons (by k_mem) ?_)); (repeat (first | exact sub_id | refine sub_tl ?_)))); (case lo => assumption); (case hkn => assumption); (case hkb => assumption); (case ht => first | assumption | exact Thr.whole _ 0 (by assumption) (by assumption) | exact Thr.half 0); (case h0 => omega); (case h1 => omega); (case hd => ktr_room); (case hu => ktr_units)); all_goals (first | (intro D' us' n' h' tk' hi' F' N' off') | (intro hrs' h' tk' F' N'))) | fail "no")
local macro_rules | `(tactic| walk_at "setItem ref int") => `(tactic| (k_here; k_dflt (refine' x_set_q ?F ?N ?U ?W ?P ?C ?O ?m1 ?a0 ?a5 ?hD ?_; (case F => k_asm); (case N => k_asm); (case U => k_updF); (case W => assumption); (case P => assumption); (case C => assumption); (case O => assumption); (case m1 => k_mem); (case a0 => assumption); (case a5 => assumption); (case hD => exact ⟨by k_ne, by k_ne, by k_ne, by k_ne, by k_ne, by k_ne, by k_ne⟩); k_whole); intro h' oR' F' N' W' C' O'; have hd9' := Lw.d W'; have hq9' := at_putU1 W'; (try dsimp only at N')))
local macro_rules | `(tactic| walk_at "setItem ref int") => `(tactic| (k_here; k_dflt (refine' s_set2 ?B ?F ?X ?N ?hs ?TP ?hk ?D ?O ?lo ?C ?W ?ht ?h0 ?h1 ?a0 ?a5 ?hv ?hd ?hu ?n0 ?n1 ?old ?new; (case B => k_asm); (case F => k_asm); (case X => k_asm); (case N => k_asm); (case TP => k_asm); (case hk => exact rfl); (case D => assumption); (case O => assumption); (case lo => assumption); (case C => assumption); (case W => assumption); (case hs => ((repeat (refine sub_cons (by k_mem) ?_)); (repeat (first | exact sub_id | refine sub_tl ?_)))); (case ht => assumption); (case h0 => omega); (case h1 => omega); (case a0 => assumption); (case a5 => assumption); (case hv => first | exact .inl rfl | exact .inr ⟨_, _, rfl⟩); (case hd => ktr_room); (case hu => ktr_units); (case n0 => omega); (case n1 => omega)); (case' old => (intro hin' rs1' rs2' oD' T' tn' h' tk' hke' hup' hkn' hkb' hsq' C' hkeep' W' O' F' N')); (case' new => (intro hin' rs1' rs2' oD' T' tn' h' tk' hke' hup' hkn' hkb' hsq' C' hkeep' W' O' F' N'))))
local macro_rules | `(tactic| walk_at "isTrue BoolOp") => `(tactic| (k_here; k_dflt (refine' tailB (qs := []) ?B ?F ?X ?N ?hs ?TP ?D ?lo ?C ?hi ?mc ?me ?_; (case B => k_asm); (case F => k_asm); (case X => k_asm); (case N => k_asm); (case TP => k_asm); (case D => assumption); (case me => first | exact rfl | assumption); (case mc => first | exact rfl | assumption); (case lo => assumption); (case C => assumption); (case hs => ((repeat (refine sub_cons (by k_mem) ?_)); (repeat (first | exact sub_id | refine sub_tl ?_)))); (case hi => first | assumption | exact ints_eqU1 (by assumption) (by assumption)); k_whole); intro h' tk' F' N'))
local macro_rules | `(tactic| walk_at "setItem ref") => `(tactic| (k_here; k_dflt (refine' x_set_q ?F ?N ?U ?W ?P ?C ?O ?m1 ?a0 ?a5 ?hD ?_; (case F => k_asm); (case N => k_asm); (case U => k_updF); (case W => assumption); (case P => assumption); (case C => assumption); (case O => assumption); (case m1 => k_mem); (case a0 => assumption); (case a5 => assumption); (case hD => exact ⟨by k_ne, by k_ne, by k_ne, by k_ne, by k_ne, by k_ne, by k_ne⟩); k_whole); intro h' oR' F' N' W' C' O'; have hd9' := Lw.d W'; have hq9' := at_putU1 W'; (try dsimp only at N')))
local macro_rules | `(tactic| walk_at "setItem ref") => `(tactic| (k_here; k_dflt (refine' s_set2 ?B ?F ?X ?N ?hs ?TP ?hk ?D ?O ?lo ?C ?W ?ht ?h0 ?h1 ?a0 ?a5 ?hv ?hd ?hu ?n0 ?n1 ?old ?new; (case B => k_asm); (case F => k_asm); (case X => k_asm); (case N => k_asm); (case TP => k_asm); (case hk => exact rfl); (case D => assumption); (case O => assumption); (case lo => assumption); (case C => assumption); (case W => assumption); (case hs => ((repeat (refine sub_cons (by k_mem) ?_)); (repeat (first | exact sub_id | refine sub_tl ?_)))); (case ht => assumption); (case h0 => omega); (case h1 => omega); (case a0 => assumption); (case a5 => assumption); (case hv => first | exact .inl rfl | exact .inr ⟨_, _, rfl⟩); (case hd => ktr_room); (case hu => ktr_units); (case n0 => omega); (case n1 => omega)); (case' old => (intro hin' rs1' rs2' oD' T' tn' h' tk' hke' hup' hkn' hkb' hsq' C' hkeep' W' O' F' N')); (case' new => (intro hin' rs1' rs2' oD' T' tn' h' tk' hke' hup' hkn' hkb' hsq' C' hkeep' W' O' F' N'))))

theorem turn_if {prog : Program} {w : World} {mean : ExcName → Option Value} {mg mb : Str → Option Value} {h₀ : Heap} {L fa I l : Addr} {oI : Obj} {cdv : Value} {m : Str → Option Value} {s : Shared} {Q : Flow → Shared → Prop} {E : Value → Shared → Prop}
    {T : List (Addr × Obj)} {c cd dD k kd rd e : Addr} {n room num den kv key more : Int} {tn th tc ti t1 t2 t3 t4 tkk tke tmo : Tok} {thr : Value} {held : Bool} {oD oR oC : Obj} {vs : List Value} {ne : Nat} {rs : List Row} {qs : List (Int × Value)} {i : Nat}
    (B : Below callerA h₀ [] h₀) (F : Fr h₀ L s.heap m) (X : (Mine.hd.heap_39 w.params).In h₀)
    (N : News h₀ L s.heap ((c, lru cd dD k n tn (.int room tc) thr) :: (cd, dictOf [] 0) :: (dD, oD) :: (k, instObj 46 kd) :: (kd, lockD w.params th held) :: (rd, oR) :: (e, listOf (List.toArray vs) ne) :: (L + 1, oC) :: T))
    (TP : Top Mine.hd.view_39 (looseW Mine.hd.view_39 [Str.ofString "itemgetter", Str.ofString "LRUCache"]) mean mg mb h₀) (D : Dist c cd dD k kd rd (L + 1)) (O : Offs T c cd dD k kd rd (L + 1)) (lo : (dD == sysModules) = false) (lo2 : (rd == sysModules) = false)
    (C : Cac prog w rs oD T e n) (W : Lw prog w rs qs oR T) (hi : IntsAre vs (rs.map (·.k))) (ht : Thr thr num den) (hn0 : 0 ≤ n) (hn1 : n ≤ (i : Int)) (hi4 : (i : Int) ≤ 39) (h0 : 0 ≤ room) (h1 : room ≤ 4)
    (hIT : (I, oI) ∈ T) (hIc : oI.cls ≠ .type "list")
    (hoc : oC.data = .cell (some (.int key tke))) (hk0 : 0 ≤ key) (hk5 : key ≤ 5)
    (m1 : m (Str.ofString "script") = some (.ref l)) (m2 : m (Str.ofString "room") = some (.int room t1)) (m3 : m (Str.ofString "num") = some (.int num t2)) (m4 : m (Str.ofString "den") = some (.int den t3)) (m5 : m (Str.ofString "c") = some (.ref c)) (m6 : m (Str.ofString "lock") = some (.ref k))
    (m7 : m (Str.ofString "entry") = some (.ref e)) (m8 : m (Str.ofString "rows") = some (.ref rd)) (m9 : m (Str.ofString "counter") = some (.int n t4)) (m10 : m (Str.ofString "held") = some (.bool held))
    (m11 : m (Str.ofString "i") = some (.int (0 + (i : Int)) ti)) (m12 : m (Str.ofString "kind") = some (.int kv tkk)) (m13 : m (Str.ofString "more") = some (.int more tmo))
    (fin : ∀ m' h' tk', StX prog w h₀ L l c cd dD k kd rd th I oI ((i : Int) + 1) h' m' → Q .next { s with heap := h', toks := tk' }) (hv0 : 0 ≤ kv) (hv7 : kv < 8) : wpAny (model prog w) (callerA.deeper (envOfC (Str.ofString "law") lawScope L fa cdv)) (exec turnIf (envOfC (Str.ofString "law") lawScope L fa cdv)) Q E s := by
  have h9 : kv = 0 ∨ kv = 1 ∨ kv = 2 ∨ kv = 3 ∨ kv = 4 ∨ kv = 5 ∨ kv = 6 ∨ kv = 7 := by omega
  rcases h9 with h9 | h9 | h9 | h9 | h9 | h9 | h9 | h9
  · rcases Bool.eq_false_or_eq_true held with hh | hh
    · exact kind0a B F X N TP D O lo lo2 C W hi ht hn0 hn1 hi4 h0 h1 hIT hIc hoc hk0 hk5 m1 m2 m3 m4 m5 m6 m7 m8 m9 m10 m11 m12 m13 fin h9 hh
    · exact kind0b B F X N TP D O lo lo2 C W hi ht hn0 hn1 hi4 h0 h1 hIT hIc hoc hk0 hk5 m1 m2 m3 m4 m5 m6 m7 m8 m9 m10 m11 m12 m13 fin h9 hh
  · exact kind1 B F X N TP D O lo lo2 C W hi ht hn0 hn1 hi4 h0 h1 hIT hIc hoc hk0 hk5 m1 m2 m3 m4 m5 m6 m7 m8 m9 m10 m11 m12 m13 fin h9
  · exact kind2 B F X N TP D O lo lo2 C W hi ht hn0 hn1 hi4 h0 h1 hIT hIc hoc hk0 hk5 m1 m2 m3 m4 m5 m6 m7 m8 m9 m10 m11 m12 m13 fin h9
  · exact kind3 B F X N TP D O lo lo2 C W hi ht hn0 hn1 hi4 h0 h1 hIT hIc hoc hk0 hk5 m1 m2 m3 m4 m5 m6 m7 m8 m9 m10 m11 m12 m13 fin h9
  · exact kind4 B F X N TP D O lo lo2 C W hi ht hn0 hn1 hi4 h0 h1 hIT hIc hoc hk0 hk5 m1 m2 m3 m4 m5 m6 m7 m8 m9 m10 m11 m12 m13 fin h9
  · exact kind5 B F X N TP D O lo lo2 C W hi ht hn0 hn1 hi4 h0 h1 hIT hIc hoc hk0 hk5 m1 m2 m3 m4 m5 m6 m7 m8 m9 m10 m11 m12 m13 fin h9
  · exact kind6 B F X N TP D O lo lo2 C W hi ht hn0 hn1 hi4 h0 h1 hIT hIc hoc hk0 hk5 m1 m2 m3 m4 m5 m6 m7 m8 m9 m10 m11 m12 m13 fin h9
  · rcases Bool.eq_false_or_eq_true held with hh | hh
    · exact kind7c B F X N TP D O lo lo2 C W hi ht hn0 hn1 hi4 h0 h1 hIT hIc hoc hk0 hk5 m1 m2 m3 m4 m5 m6 m7 m8 m9 m10 m11 m12 m13 fin h9 hh
    · exact kind7a B F X N TP D O lo lo2 C W hi ht hn0 hn1 hi4 h0 h1 hIT hIc hoc hk0 hk5 m1 m2 m3 m4 m5 m6 m7 m8 m9 m10 m11 m12 m13 fin h9 hh
end Mine
end
section
namespace Mine
local macro_rules | `(tactic| walk_at "none of mine") => `(tactic| fail "none")
local macro_rules | `(tactic| walk_at "none of mine") => `(tactic| fail "none")
local macro_rules | `(tactic| walk_at "none of mine") => `(tactic| fail "none")
local macro_rules | `(tactic| walk_at "none of mine") => `(tactic| fail "none")
local macro_rules | `(tactic| walk_at "none of mine") => `(tactic| fail "none")
local macro_rules | `(tactic| walk_at "none of mine") => `(tactic| fail "none")
local macro_rules | `(tactic| walk_at "none of mine") => `(tactic| fail "none")
local macro_rules | `(tactic| walk_at "none of mine") => `(tactic| fail "none")
local macro_rules | `(tactic| walk_at "none of mine") => `(tactic| fail "none")
local macro_rules | `(tactic| walk_at "none of mine") => `(tactic| fail "none")
theorem fillU2 : True := by
  w_top off
  trivial


local macro_rules | `(tactic| k_room) => `(tactic| ktr_room)
local macro_rules | `(tactic| k_units) => `(tactic| ktr_units)
local macro_rules | `(tactic| ktr_enter) => `(tactic| (refine' code_def ?k1 ?k2 ?k3 ?k4 ?k5 ?kA ?kF ?kK ?k6 ?k7 ?k8 ?k9 ?kB ?_ ?c2 ?c3 ?c4 ?c5; (case kA => exact rfl); (case kF => exact rfl); (case kK => first | assumption | exact rfl); (case k1 => k_asm); (case k2 => k_asm); (case k3 => k_asm); (case k4 => k_asm); (case k5 => k_asm); (case k6 => k_is); (case k7 => k_is); (case k8 => ktr_room); (case k9 => first | exact BindsTo.of_eq rfl | exact binds_K (by k_in) rfl (by k_is) rfl rfl rfl | fail "ktr_enter: no rule for these arguments"); (case c5 => decide); (case kB => exact locs rfl); (case c2 => exact rfl); (case c3 => exact rfl); (case c4 => exact rfl); k_whole; intro g' L' h' FG' F' N' B' X' T'; (try dsimp only); (try k_fold)))
local macro_rules | `(tactic| k_lt $h:ident) => `(tactic| (replace $h := allLt_of $h; simp only [AllLt, and_true] at $h:ident; (try ((fail_if_success (rename AllLt _ _ => l6)); have l7 : AllLt _ _ := (by first | exact ($h).2 | exact ($h).2.2 | exact ($h).2.2.2 | exact ($h).2.2.2.2 | exact ($h).2.2.2.2.2 | exact ($h).2.2.2.2.2.2 | exact ($h).2.2.2.2.2.2.2 | exact ($h).2.2.2.2.2.2.2.2 | exact ($h).2.2.2.2.2.2.2.2.2 | exact ($h).2.2.2.2.2.2.2.2.2.2 | exact ($h).2.2.2.2.2.2.2.2.2.2.2 | exact ($h).2.2.2.2.2.2.2.2.2.2.2.2)))))
local macro_rules | `(tactic| k_all) => `(tactic| (refine' allLt_ne ?h6 ?h7; (case h6 => assumption); (case h7 => ((try dsimp only); omega))))
local macro_rules | `(tactic| k_all) => `(tactic| with_reducible assumption)
local macro_rules | `(tactic| walk_at "call builtin:len") => `(tactic| (k_here; (with_reducible show wpAny _ _ (call (Value.builtin "len") [Value.ref _]) _ _ _); k_dflt (refine' kda_len (knd := PySem.intKind _ _) ?N ?m ?d ?lo ?f ?_; (case N => k_asm); (case m => k_mem); (case d => k_asm); (case lo => k_asm); (case f => assumption); k_whole)))
local macro_rules | `(tactic| walk_at "getMethod ref") => `(tactic| (k_here; (with_reducible show wpAny _ _ (getMethod (Value.ref _) (Str.ofString "get") _) _ _ _); k_dflt (refine' kdg_method (knd := PySem.intKind _ _) ?N ?m ?d ?_; (case N => k_asm); (case m => k_mem); (case d => k_asm); k_whole)))
local macro_rules | `(tactic| walk_at "call builtin:dict.get") => `(tactic| (k_here; (with_reducible show wpAny _ _ (call (Value.builtin "dict.get") [Value.ref _, Value.int _ _]) _ _ _); k_dflt (refine' kdg_get1 (knd := PySem.intKind _ _) ?N ?m ?d ?lo (intKind_is _ _ _ _) _ ?hl ?_; (case N => k_asm); (case m => k_mem); (case d => k_asm); (case lo => k_asm); (case hl => assumption); k_whole; (try dsimp only [Option.getD]))))
local macro_rules | `(tactic| walk_at "subscriptTail") => `(tactic| (k_here; (with_reducible show wpAny _ _ (subscriptTail _ _ (Value.ref _) (Value.int _ _)) _ _ _); k_dflt (refine' kda_item (knd := PySem.intKind _ _) ?N ?m ?d (intKind_is _ _ _ _) ?hl ?_; (case N => k_asm); (case m => k_mem); (case d => k_asm); (case hl => assumption); k_whole)))
theorem x_get_missU2 {prog : Program} {w : World} {A : Around} {E : Value → Shared → Prop} {s : Shared} {h₀ : Heap} {L d : Addr} {news : List (Addr × Obj)} {o : Obj} {kvs : List (Int × Value)} {k : Int} {t : Tok} {Q : Value → Shared → Prop}
    (N : News h₀ L s.heap news) (hp : (d, o) ∈ news) (hd : o.IsDictOf (PySem.intKind prog w) kvs) (lo : (d == sysModules) = false) (hh : A.handled = none) (hl : valueAt kvs k = none)
    (h : ∀ h' e, Heap.NewExc s.heap h' e "KeyError" → E (.ref e) { s with heap := h', toks := s.toks + 1 }) : wpAny (model prog w) A (getItem (.ref d) (.int k t)) Q E s :=
  wpAny_getItem_missing_of (intKind_is _ _ _ _) lo hh (kda_dict N hp hd).mapOf hl h
local macro_rules | `(tactic| walk_at "getItem ref int") => `(tactic| (k_here; k_dflt (refine' x_get_missU2 ?N ?m ?d ?lo ?hh ?hl ?_; (case N => k_asm); (case m => k_mem); (case d => k_asm); (case lo => k_asm); (case hh => exact rfl); (case hl => assumption); k_whole); intro h' e' x'))
local macro_rules | `(tactic| walk_at "getItem ref int") => `(tactic| (k_here; k_dflt (refine' kdt_getItem (knd := PySem.intKind _ _) ?N ?m ?d (intKind_is _ _ _ _) ?hl ?_; (case N => k_asm); (case m => k_mem); (case d => k_asm); (case hl => assumption); k_whole)))
local macro_rules | `(tactic| walk_at "delItem ref int") => `(tactic| (k_here; k_dflt (refine' x_del_miss ?N ?m ?d ?lo ?hh ?hl ?_; (case N => k_asm); (case m => k_mem); (case d => k_asm); (case lo => k_asm); (case hh => exact rfl); (case hl => assumption); k_whole); intro h' e' x'))
local macro_rules | `(tactic| walk_at "delItem ref int") => `(tactic| (k_here; k_dflt (refine' kob_del (knd := PySem.intKind _ _) ?F ?N ?U ?d (intKind_is _ _ _ _) ?l ?z ?_; (case F => k_asm); (case N => k_asm); (case U => k_updF); (case d => k_asm); (case l => assumption); (case z => first | assumption | (rw [sizeLine_eq]; assumption)); k_whole); intro h' o' F' N' hd'; (try dsimp only at N')))
theorem x_del_ownU2 {M : Model} {A : Around} {E : Value → Shared → Prop} {s : Shared} {K : Frag} {x C L f : Addr} {h₀ : Heap} {m : Str → Option Value} {ox : Obj} {od : Option Obj} {i : Value} {Q : Unit → Shared → Prop}
    (F : Fr h₀ L s.heap m) (X₀ : K.In h₀) (I : InstAt s.heap x ox C od) (hq : noSeq K C = true) (hs : findIn K (.ref C) "__delitem__" = some (some (.ref f))) (hf : isFn K (.ref f) = true)
    (h : wpAny M A (call (.ref f) [.ref x, i]) (fun _ s' => Q () s') E s) : wpAny M A (delItem (.ref x) i) Q E s := by
  have X := X₀.keeps F.keep
  unfold delItem sequenceKey
  refine wpAny_holding (wpAny_bind (wpAny_bind (I.type.here ?_)))
  refine wpAny_bind ((anyM_none X hq).here ?_)
  rw [if_pos (show (!false) = true from rfl)]
  exact wpAny_pure (wpAny_bind (special_fn X I hs (beq_iff_eq.mp hf) (wpAny_mono h (fun _ _ z => wpAny_pure z) fun _ _ z => z)))
local macro_rules | `(tactic| walk_at "delItem ref int") => `(tactic| (k_here; k_dflt (refine' x_del_ownU2 ?k1 ?k2 ?k3 ?k4 ?k5 ?k6 ?_; (case k1 => k_asm); (case k2 => k_asm); (case k3 => k_inst); (case k4 => k_is); (case k5 => k_is); (case k6 => k_is); k_whole)))
local macro_rules | `(tactic| walk_at "WhlIf") => `(tactic| (first | (refine WhlIf.yes (decide_eq_true (by omega)) ?_) | (refine WhlIf.no (decide_eq_false (by omega)) ?_)))
local macro_rules | `(tactic| walk_at "eval Dict nil nil") => `(tactic| (k_here; k_dflt (refine' newDict_K ?k1 ?k2 ?k3 ?_; (case k1 => k_asm); (case k2 => k_asm); (case k3 => first | exact Top.nolimit (by k_asm) | exact TopRead.nolimit (by k_asm)); k_whole); intro d' h' o' F' N' l1 lo' hs' fs' hi' fi'; (try k_lt l1)))
theorem add_genU2 {prog : Program} {w : World} {A : Around} {E : Value → Shared → Prop} {s : Shared} {a b : Int} {ta tb : Tok} {Q : Value → Shared → Prop} (h : ∀ t tk, Q (.int (a + b) t) { s with toks := tk }) : wpAny (model prog w) A (binaryOp .Add (.int a ta) (.int b tb)) Q E s := add_int (h _ _)
local macro_rules | `(tactic| walk_at "binaryOp Add int int") => `(tactic| (k_here; with_reducible (refine add_genU2 ?_); intro t' tk'))


theorem lw_lessU2 {prog : Program} {w : World} {rs : List Row} {ks : List Int} {qs : List (Int × Value)} {oR : Obj} {T : List (Addr × Obj)} (W : Lw prog w rs qs oR T) : Lw prog w (less rs ks) qs oR T := lw_sub W fun _ hx => (List.mem_filter.mp hx).1
theorem keep_atU2 {T T' : List (Addr × Obj)} {p : Addr × Obj} (h : ∀ p ∈ T, p.2.cls ≠ .type "list" → p ∈ T') (hp : p ∈ T) (hc : p.2.cls ≠ .type "list") : p ∈ T' := h p hp hc
theorem at_putU2 {prog : Program} {w : World} {rs : List Row} {qs : List (Int × Value)} {key : Int} {v : Value} {oR : Obj} {T : List (Addr × Obj)} (_ : Lw prog w rs (stored qs key v) oR T) : valueAt (stored qs key v) key = some v := by rw [at_stored, if_pos rfl]
theorem off8U2 {p1 p2 p3 p4 p5 p6 p7 p8 P : Prop} (h : p1 ∧ p2 ∧ p3 ∧ p4 ∧ p5 ∧ p6 ∧ p7 ∧ p8 ∧ P) : P := h.2.2.2.2.2.2.2.2
theorem off9U2 {D : Addr} : ∀ {T : List (Addr × Obj)}, PyProof.Rows.LCg.Off1 D T → ∀ p ∈ T, p.1 ≠ D
  | [], _, _, h => nomatch h
  | q :: r, h, p, hp => by
    rcases List.mem_cons.mp hp with rfl | hp
    · exact h.1
    · exact off9U2 h.2 p hp
theorem bne_decU2 (a b : Int) : (a != b) = decide (a ≠ b) := by by_cases h : a = b <;> simp [h]
local macro_rules | `(tactic| walk_at "Eq") => `(tactic| exact bne_decU2 _ _)
theorem ne_ltU2 {T news : List (Addr × Obj)} {D : Addr} (l1 : ∀ p ∈ news, p.1 < D) (hs : ∀ p ∈ T, p ∈ news) : ∀ p ∈ T, p.1 ≠ D := fun p hp => Nat.ne_of_lt (l1 p (hs p hp))
theorem ne_atU2 {T news : List (Addr × Obj)} {D : Addr} (l1 : ∀ p ∈ news, p.1 ≠ D) (hs : ∀ p ∈ T, p ∈ news) : ∀ p ∈ T, p.1 ≠ D := fun p hp => l1 p (hs p hp)
theorem sqz_trueU2 {rs rs2 : List Row} {a b c : Int} (h : Sqz true rs rs2 a b c) : rs2 = rs := by
  rcases h with ⟨_, h⟩ | ⟨h, _⟩
  · exact h
  · cases h
theorem less_oneU2 {rs : List Row} {key : Int} (_ : key ∈ rs.map (·.k)) : (less rs [key]).map (·.k) = (rs.filter fun r => decide (r.k ≠ key)).map (·.k) := by
  have : less rs [key] = rs.filter fun r => decide (r.k ≠ key) := List.filter_congr fun r _ => by simp
  rw [this]
theorem less_noneU2 {rs : List Row} {key : Int} (h : key ∉ rs.map (·.k)) : rs.map (·.k) = (rs.filter fun r => decide (r.k ≠ key)).map (·.k) := by
  have : rs.filter (fun r => decide (r.k ≠ key)) = rs := List.filter_eq_self.mpr fun r hr => decide_eq_true fun e => h (e ▸ List.mem_map_of_mem hr)
  rw [this]
local macro_rules | `(tactic| k_all) => `(tactic| first | exact ne_atU2 (by assumption) (by ((repeat (refine sub_cons (by k_mem) ?_)); (repeat (first | exact sub_id | refine sub_tl ?_)))) | exact ne_ltU2 (by assumption) (by ((repeat (refine sub_cons (by k_mem) ?_)); (repeat (first | exact sub_id | refine sub_tl ?_)))))
local macro_rules | `(tactic| walk_at "binaryOp Add ref ref") => `(tactic| (k_here; (with_reducible show wpAny _ _ (binaryOp _ (Value.ref _) (Value.ref _)) _ _ _); k_dflt (refine' x_add_one ?F ?N ?m1 ?m2 ?i1 ?hz ?_; (case F => k_asm); (case N => k_asm); (case m1 => k_mem); (case m2 => k_mem); (case i1 => with_reducible assumption); (case hz => assumption); k_whole); intro D' us' h' F' N' l1 hi'; have l9' := l1; (try k_lt l1)))
local macro_rules | `(tactic| walk_at "compareOp In int ref") => `(tactic| (k_here; (with_reducible show wpAny _ _ (compareOp CmpOp.In (Value.int _ _) (Value.ref _)) _ _ _); k_dflt (first
  | (refine' x_in_yes ?N ?m1 ?i1 ?hin ?_; (case N => k_asm); (case m1 => k_mem); (case i1 => with_reducible assumption); (case hin => assumption); k_whole)
  | (refine' x_in_no ?N ?m1 ?i1 ?hin ?_; (case N => k_asm); (case m1 => k_mem); (case i1 => with_reducible assumption); (case hin => assumption); k_whole))))
local macro_rules | `(tactic| walk_at "compareOp NotIn int ref") => `(tactic| (k_here; (with_reducible show wpAny _ _ (compareOp CmpOp.NotIn (Value.int _ _) (Value.ref _)) _ _ _); k_dflt (first
  | (refine' x_notin_yes ?N ?m1 ?i1 ?hin ?_; (case N => k_asm); (case m1 => k_mem); (case i1 => with_reducible assumption); (case hin => assumption); k_whole)
  | (refine' x_notin_no ?N ?m1 ?i1 ?hin ?_; (case N => k_asm); (case m1 => k_mem); (case i1 => with_reducible assumption); (case hin => assumption); k_whole))))
local macro_rules | `(tactic| k_ne) => `(tactic| (refine neN ?_; (try dsimp only); first | assumption | (refine Ne.symm ?_; assumption) | omega))
local macro_rules | `(tactic| walk_at "CompSrcT") => `(tactic| (k_here; k_dflt (refine' comp_src_ne ?hdc _ ?hh ?F ?N ?m ?i ?z ?test ?turn ?fin; (case hdc => first | with_reducible assumption | assumption); (case hh => rfl); (case F => k_asm); (case N => k_asm); (case m => k_mem); (case i => with_reducible assumption); (case z => assumption)); (case' test => (intro g' r' hr' t' I' oI' C' oC' D' m2' h' tk' E' ys' hC' hx' F' N')); (case' turn => (intro g' r' hr' t' I' oI' C' oC' D' m2' h' tk' E' ys' hC' hx' F' N')); (case' fin => (intro g' us' hi'))))
local macro_rules | `(tactic| walk_at "Keep") => `(tactic| exact Keep.intro (by k_asm) (by k_asm))
local macro_rules | `(tactic| walk_at "exec Assign cons ListComp") => `(tactic| (k_here; lct_look; k_dflt (refine LCt.Assign_ListComp_T (F₀ := by k_asm) (by rfl) (by with_unfolding_all rfl) (by with_unfolding_all rfl) (by decide) (by rfl) (by decide) (by rfl) (by rfl) (by rfl) ?_)))

theorem ints_eqU2 {vs : List Value} {a b : List Int} (e : a = b) (h : IntsAre vs b) : IntsAre vs a := e ▸ h
theorem sq_ofU2 {rs rs2 : List Row} {a b c : Int} (h : Sqz false rs rs2 a b c) : Sq rs rs2 a b c := by
  rcases h with ⟨h, _⟩ | ⟨_, h⟩
  · cases h
  · exact h
local macro_rules | `(tactic| k_mem) => `(tactic| assumption)
local macro_rules | `(tactic| walk_at "eval Name") => `(tactic| (k_here; k_dflt (refine' nameX_L ?k1 ?k2 ?_ ?a ?b; (case a => rfl); (case b => rfl); (case k1 => k_asm); (case k2 => assumption); k_whole)))
local macro_rules | `(tactic| k_all) => `(tactic| first | exact Offs.o1 (by assumption) | exact Offs.o2 (by assumption) | exact Offs.o3 (by assumption) | exact Offs.o4 (by assumption) | exact Offs.o5 (by assumption) | exact Offs.o6 (by assumption) | exact Offs.o7 (by assumption))
local macro_rules | `(tactic| walk_at "call ref") => `(tactic| (k_here; (with_reducible show wpAny _ _ (call (Value.ref 116) _) _ _ _); k_dflt (refine' s_inc (rs := []) (qs := []) ?B ?F ?X ?N ?hs ?TP ?hk ?D ?O ?hd ?hu ?n0 ?n1 ?_; (case B => k_asm); (case F => k_asm); (case X => k_asm); (case N => k_asm); (case TP => k_asm); (case hk => exact rfl); (case D => assumption); (case O => assumption); (case hs => ((repeat (refine sub_cons (by k_mem) ?_)); (repeat (first | exact sub_id | refine sub_tl ?_)))); (case hd => ktr_room); (case hu => ktr_units); (case n0 => omega); (case n1 => omega); k_whole); intro t' h' tk' F' N'))
local macro_rules | `(tactic| walk_at "call ref") => `(tactic| (k_here; (with_reducible show wpAny _ _ (call (Value.ref 124) _) _ _ _); k_dflt (refine' s_get ?B ?F ?X ?N ?hs ?TP ?hk ?D ?O ?lo ?C ?W ?hd ?hu ?n0 ?n1 ?hit ?miss; (case B => k_asm); (case F => k_asm); (case X => k_asm); (case N => k_asm); (case TP => k_asm); (case hk => exact rfl); (case D => assumption); (case O => assumption); (case lo => assumption); (case C => assumption); (case W => assumption); (case hs => ((repeat (refine sub_cons (by k_mem) ?_)); (repeat (first | exact sub_id | refine sub_tl ?_)))); (case hd => ktr_room); (case hu => ktr_units); (case n0 => omega); (case n1 => omega)); (case' hit => (intro hin' v' st' qa' t1' n1' rs' T' tn' h' tk' hv' hq' hm' hke' hup' C' W' hkeep' O' F' N'; rcases hv' with hv' | ⟨j', tj', hv'⟩ <;> subst hv')); (case' miss => (intro hin' h' tk' F' N'))))
local macro_rules | `(tactic| walk_at "call ref") => `(tactic| (k_here; (with_reducible show wpAny _ _ (call (Value.ref 203) _) _ _ _); k_dflt (refine' s_read ?B ?F ?X ?N ?hs ?TP ?hk ?D ?O ?lo ?C ?W ?hd ?hu ?n0 ?n1 ?hit ?miss; (case B => k_asm); (case F => k_asm); (case X => k_asm); (case N => k_asm); (case TP => k_asm); (case hk => exact rfl); (case D => assumption); (case O => assumption); (case lo => assumption); (case C => assumption); (case W => assumption); (case hs => ((repeat (refine sub_cons (by k_mem) ?_)); (repeat (first | exact sub_id | refine sub_tl ?_)))); (case hd => ktr_room); (case hu => ktr_units); (case n0 => omega); (case n1 => omega)); (case' hit => (intro hin' v' st' qa' t1' n1' rs' T' tn' h' tk' hv' hq' hm' hke' hup' C' W' hkeep' O' F' N'; rcases hv' with hv' | ⟨j', tj', hv'⟩ <;> subst hv')); (case' miss => (intro hin' h' tk' F' N' t'))))
local macro_rules | `(tactic| walk_at "call ref") => `(tactic| (k_here; (with_reducible show wpAny _ _ (call (Value.ref 210) _) _ _ _); k_dflt (refine' s_take (qs := []) ?B ?F ?X ?N ?hs ?TP ?hk ?D ?O ?lo ?C ?hd ?hu ?hit ?miss; (case B => k_asm); (case F => k_asm); (case X => k_asm); (case N => k_asm); (case TP => k_asm); (case hk => exact rfl); (case D => assumption); (case O => assumption); (case lo => assumption); (case C => assumption); (case hs => ((repeat (refine sub_cons (by k_mem) ?_)); (repeat (first | exact sub_id | refine sub_tl ?_)))); (case hd => ktr_room); (case hu => ktr_units)); (case' hit => (intro hin' oD' h' tk' C' F' N'; have hle' := less_oneU2 hin')); (case' miss => (intro hin' h' tk' F' N'; have hle' := less_noneU2 hin'))))
local macro_rules | `(tactic| walk_at "call ref") => `(tactic| (k_here; (with_reducible show wpAny _ _ (call (Value.ref 174) _) _ _ _); k_dflt (refine' s_man (qs := []) ?B ?F ?X ?N ?hs ?TP ?hk ?D ?O ?lo ?C ?ht ?h0 ?h1 ?hd ?hu ?_; (case B => k_asm); (case F => k_asm); (case X => k_asm); (case N => k_asm); (case TP => k_asm); (case hk => exact rfl); (case D => assumption); (case O => assumption); (case lo => assumption); (case C => assumption); (case hs => ((repeat (refine sub_cons (by k_mem) ?_)); (repeat (first | exact sub_id | refine sub_tl ?_)))); (case ht => first | assumption | exact Thr.whole _ _ (by assumption) (by assumption) | exact Thr.half _); (case h0 => omega); (case h1 => omega); (case hd => ktr_room); (case hu => ktr_units); k_whole); intro rs2' oD' h' tk' hsq' C' F' N'))
local macro_rules | `(tactic| walk_at "call ref") => `(tactic| first | (k_here; (with_reducible show wpAny _ _ (call (Value.ref 196) _) _ _ _); k_dflt (refine' s_kept ?B ?F ?X ?N ?TP ?hk ?m1 ?m2 ?hi ?W ?hT ?lo ?hkn ?hkb ?ht ?h0 ?h1 ?hsq ?hd ?hu ?_ ?_; (case B => k_asm); (case F => k_asm); (case X => k_asm); (case N => k_asm); (case TP => k_asm); (case hk => exact rfl); (case m1 => k_mem); (case m2 => k_mem); (case hsq => exact sq_ofU2 (by assumption)); (case W => assumption); (case hi => first | assumption | exact ints_eqU2 (by assumption) (by assumption)); (case hT => ((repeat (refine sub_cons (by k_mem) ?_)); (repeat (first | exact sub_id | refine sub_tl ?_)))); (case lo => assumption); (case hkn => assumption); (case hkb => assumption); (case ht => first | assumption | exact Thr.whole _ 0 (by assumption) (by assumption) | exact Thr.half 0); (case h0 => omega); (case h1 => omega); (case hd => ktr_room); (case hu => ktr_units)); all_goals (first | (intro D' us' n' h' tk' hi' F' N' off') | (intro hrs' h' tk' F' N'))) | fail "no")
local macro_rules | `(tactic| walk_at "setItem ref int") => `(tactic| (k_here; k_dflt (refine' x_set_q ?F ?N ?U ?W ?P ?C ?O ?m1 ?a0 ?a5 ?hD ?_; (case F => k_asm); (case N => k_asm); (case U => k_updF); (case W => assumption); (case P => assumption); (case C => assumption); (case O => assumption); (case m1 => k_mem); (case a0 => assumption); (case a5 => assumption); (case hD => exact ⟨by k_ne, by k_ne, by k_ne, by k_ne, by k_ne, by k_ne, by k_ne⟩); k_whole); intro h' oR' F' N' W' C' O'; have hd9' := Lw.d W'; have hq9' := at_putU2 W'; (try dsimp only at N')))
local macro_rules | `(tactic| walk_at "setItem ref int") => `(tactic| (k_here; k_dflt (refine' s_set2 ?B ?F ?X ?N ?hs ?TP ?hk ?D ?O ?lo ?C ?W ?ht ?h0 ?h1 ?a0 ?a5 ?hv ?hd ?hu ?n0 ?n1 ?old ?new; (case B => k_asm); (case F => k_asm); (case X => k_asm); (case N => k_asm); (case TP => k_asm); (case hk => exact rfl); (case D => assumption); (case O => assumption); (case lo => assumption); (case C => assumption); (case W => assumption); (case hs => ((repeat (refine sub_cons (by k_mem) ?_)); (repeat (first | exact sub_id | refine sub_tl ?_)))); (case ht => assumption); (case h0 => omega); (case h1 => omega); (case a0 => assumption); (case a5 => assumption); (case hv => first | exact .inl rfl | exact .inr ⟨_, _, rfl⟩); (case hd => ktr_room); (case hu => ktr_units); (case n0 => omega); (case n1 => omega)); (case' old => (intro hin' rs1' rs2' oD' T' tn' h' tk' hke' hup' hkn' hkb' hsq' C' hkeep' W' O' F' N')); (case' new => (intro hin' rs1' rs2' oD' T' tn' h' tk' hke' hup' hkn' hkb' hsq' C' hkeep' W' O' F' N'))))
local macro_rules | `(tactic| walk_at "isTrue BoolOp") => `(tactic| (k_here; k_dflt (refine' tailB (qs := []) ?B ?F ?X ?N ?hs ?TP ?D ?lo ?C ?hi ?mc ?me ?_; (case B => k_asm); (case F => k_asm); (case X => k_asm); (case N => k_asm); (case TP => k_asm); (case D => assumption); (case me => first | exact rfl | assumption); (case mc => first | exact rfl | assumption); (case lo => assumption); (case C => assumption); (case hs => ((repeat (refine sub_cons (by k_mem) ?_)); (repeat (first | exact sub_id | refine sub_tl ?_)))); (case hi => first | assumption | exact ints_eqU2 (by assumption) (by assumption)); k_whole); intro h' tk' F' N'))
local macro_rules | `(tactic| walk_at "setItem ref") => `(tactic| (k_here; k_dflt (refine' x_set_q ?F ?N ?U ?W ?P ?C ?O ?m1 ?a0 ?a5 ?hD ?_; (case F => k_asm); (case N => k_asm); (case U => k_updF); (case W => assumption); (case P => assumption); (case C => assumption); (case O => assumption); (case m1 => k_mem); (case a0 => assumption); (case a5 => assumption); (case hD => exact ⟨by k_ne, by k_ne, by k_ne, by k_ne, by k_ne, by k_ne, by k_ne⟩); k_whole); intro h' oR' F' N' W' C' O'; have hd9' := Lw.d W'; have hq9' := at_putU2 W'; (try dsimp only at N')))
local macro_rules | `(tactic| walk_at "setItem ref") => `(tactic| (k_here; k_dflt (refine' s_set2 ?B ?F ?X ?N ?hs ?TP ?hk ?D ?O ?lo ?C ?W ?ht ?h0 ?h1 ?a0 ?a5 ?hv ?hd ?hu ?n0 ?n1 ?old ?new; (case B => k_asm); (case F => k_asm); (case X => k_asm); (case N => k_asm); (case TP => k_asm); (case hk => exact rfl); (case D => assumption); (case O => assumption); (case lo => assumption); (case C => assumption); (case W => assumption); (case hs => ((repeat (refine sub_cons (by k_mem) ?_)); (repeat (first | exact sub_id | refine sub_tl ?_)))); (case ht => assumption); (case h0 => omega); (case h1 => omega); (case a0 => assumption); (case a5 => assumption); (case hv => first | exact .inl rfl | exact .inr ⟨_, _, rfl⟩); (case hd => ktr_room); (case hu => ktr_units); (case n0 => omega); (case n1 => omega)); (case' old => (intro hin' rs1' rs2' oD' T' tn' h' tk' hke' hup' hkn' hkb' hsq' C' hkeep' W' O' F' N')); (case' new => (intro hin' rs1' rs2' oD' T' tn' h' tk' hke' hup' hkn' hkb' hsq' C' hkeep' W' O' F' N'))))

theorem mod8_0 (x : Int) : 0 ≤ x.fmod 8 := Int.fmod_nonneg_of_pos _ (by omega)
theorem mod8_7 (x : Int) : x.fmod 8 < 8 := Int.fmod_lt_of_pos x (by omega)
theorem mod6_0 (x : Int) : 0 ≤ x.fmod 6 := Int.fmod_nonneg_of_pos _ (by omega)
theorem mod6_5 (x : Int) : x.fmod 6 ≤ 5 := by have := Int.fmod_lt_of_pos x (b := 6) (by omega); omega
theorem not_list {oI : Obj} (h : oI.cls = .type "range_iterator") : oI.cls ≠ .type "list" := by rw [h]; exact fun e => absurd (Value.type.inj e) (by decide)
section
variable {prog : Program} {w : World} {h₀ : Heap} {L l c cd dD k kd rd : Addr} {th : Tok} {bound : Int} {h h' : Heap} {m : Str → Option Value} {n room num den : Int} {tn tc t1 t2 t3 t4 : Tok} {thr : Value} {held : Bool} {oD oR oC : Obj} {oc : Option Value} {e : Addr} {vs : List Value} {ne : Nat} {rs : List Row} {qs : List (Int × Value)} {T : List (Addr × Obj)}
theorem StF.again (S : StF prog w h₀ L l c cd dD k kd rd th bound h m n room num den tn tc t1 t2 t3 t4 thr held oD oR oC oc e vs ne rs qs T) (F : Fr h₀ L h' m) (N : News h₀ L h' ((c, lru cd dD k n tn (.int room tc) thr) :: (cd, dictOf [] 0) :: (dD, oD) :: (k, instObj 46 kd) :: (kd, lockD w.params th held) :: (rd, oR) :: (e, listOf (List.toArray vs) ne) :: (L + 1, oC) :: T)) :
    StF prog w h₀ L l c cd dD k kd rd th bound h' m n room num den tn tc t1 t2 t3 t4 thr held oD oR oC oc e vs ne rs qs T :=
  ⟨F, N, S.O, S.C, S.W, S.hi, S.ht, S.n0, S.n1, S.h0, S.h1, S.hoc, S.m1, S.m2, S.m3, S.m4, S.m5, S.m6, S.m7, S.m8, S.m9, S.m10⟩
theorem StX.elim {I : Addr} {oI : Obj} {P : Prop} (S : StX prog w h₀ L l c cd dD k kd rd th I oI bound h m)
    (f : ∀ n room num den tn tc t1 t2 t3 t4 thr held oD oR oC oc e vs ne rs qs T, (I, oI) ∈ T → StF prog w h₀ L l c cd dD k kd rd th bound h m n room num den tn tc t1 t2 t3 t4 thr held oD oR oC oc e vs ne rs qs T → Fr h₀ L h m → News h₀ L h ((c, lru cd dD k n tn (.int room tc) thr) :: (cd, dictOf [] 0) :: (dD, oD) :: (k, instObj 46 kd) :: (kd, lockD w.params th held) :: (rd, oR) :: (e, listOf (List.toArray vs) ne) :: (L + 1, oC) :: T) → Cac prog w rs oD T e n → IntsAre vs (rs.map (·.k)) → m (Str.ofString "c") = some (.ref c) → m (Str.ofString "entry") = some (.ref e) → P) : P := by
  obtain ⟨n, room, num, den, tn, tc, t1, t2, t3, t4, thr, held, oD, oR, oC, oc, e, vs, ne, rs, qs, T, hT, S⟩ := S
  exact f n room num den tn tc t1 t2 t3 t4 thr held oD oR oC oc e vs ne rs qs T hT S S.F S.N S.C S.hi S.m5 S.m7
end
local macro_rules | `(tactic| walk_at "exec If") => `(tactic| (k_here; (rename News _ _ _ _ => lN'); k_dflt (refine' turn_if ?B ?F ?X ?N ?TP ?D ?O ?lo ?lo2 ?C ?W ?hi ?ht ?hn0 ?hn1 ?hi4 ?h0 ?h1 ?hIT ?hIc ?hoc ?hk0 ?hk5 ?m1 ?m2 ?m3 ?m4 ?m5 ?m6 ?m7 ?m8 ?m9 ?m10 ?m11 ?m12 ?m13 ?_ ?hv0 ?hv7; (case B => assumption); (case F => k_asm); (case X => assumption); (case N => first | exact news_sub lN' (fun _ hp => List.Mem.tail _ hp)); (case TP => assumption); (case D => assumption); (case O => assumption); (case lo => assumption); (case lo2 => assumption); (case C => assumption); (case W => assumption); (case hi => assumption); (case ht => assumption); (case hn0 => assumption); (case hn1 => assumption); (case hi4 => assumption); (case h0 => assumption); (case h1 => assumption); (case hIT => assumption); (case hIc => exact not_list (by assumption)); (case hoc => assumption); (case m1 => first | exact rfl | assumption); (case m2 => first | exact rfl | assumption); (case m3 => first | exact rfl | assumption); (case m4 => first | exact rfl | assumption); (case m5 => first | exact rfl | assumption); (case m6 => first | exact rfl | assumption); (case m7 => first | exact rfl | assumption); (case m8 => first | exact rfl | assumption); (case m9 => first | exact rfl | assumption); (case m10 => first | exact rfl | assumption); (case m11 => first | exact rfl | assumption); (case m12 => first | exact rfl | assumption); (case m13 => first | exact rfl | assumption); (case hk0 => exact mod6_0 _); (case hk5 => exact mod6_5 _); (case hv0 => exact mod8_0 _); (case hv7 => exact mod8_7 _); k_whole); intro m' h' tk' hX'; (refine' StX.elim hX' ?_); intro n' room' num' den' tn' tc' t1' t2' t3' t4' thr' held' oD' oR' oC' oc' e' vs' ne' rs' qs' T' hT' hS' F' N' C' hi' mc' me'))
set_option maxHeartbeats 1000000 in
theorem turn {prog : Program} {w : World} {mean : ExcName → Option Value} {mg mb : Str → Option Value} {h₀ : Heap} {L fa I l : Addr} {oI : Obj} {cdv : Value} {m : Str → Option Value} {s : Shared} {Q : Flow → Shared → Prop} {E : Value → Shared → Prop}
    {c cd dD k kd rd : Addr} {th ti : Tok} {lv : List Value} {ns : List Int} {i : Nat}
    (B : Below callerA h₀ [] h₀) (X : (Mine.hd.heap_39 w.params).In h₀)
    (TP : Top Mine.hd.view_39 (looseW Mine.hd.view_39 [Str.ofString "itemgetter", Str.ofString "LRUCache"]) mean mg mb h₀) (D : Dist c cd dD k kd rd (L + 1)) (lo : (dD == sysModules) = false) (lo2 : (rd == sysModules) = false)
    (S : StX prog w h₀ L l c cd dD k kd rd th I oI (i : Int) s.heap m) (m11 : m (Str.ofString "i") = some (.int (0 + (i : Int)) ti)) (hi4 : (i : Int) ≤ 39) (hIc : oI.cls = .type "range_iterator")
    (hL : h₀.IsList l lv.toArray) (hI : IntsAre lv ns) (hlay : (PyData.list (ns.map .int)).layable0 = true) (hlen : 1 + (i : Int) < ns.length)
    (fin : ∀ m' h' tk', StX prog w h₀ L l c cd dD k kd rd th I oI ((i : Int) + 1) h' m' → Q .next { s with heap := h', toks := tk' }) :
    wpAny (model prog w) (callerA.deeper (envOfC (Str.ofString "law") lawScope L fa cdv)) (execs turnBody (envOfC (Str.ofString "law") lawScope L fa cdv)) Q E s := by
  obtain ⟨n, room, num, den, tn, tc, t1, t2, t3, t4, thr, held, oD, oR, oC, oc0, e, vs, ne, rs, qs, T, hIT, S⟩ := S
  obtain ⟨F, N, O, C, W, hi, ht, hn0, hn1, h0, h1, hoc, m1, m2, m3, m4, m5, m6, m7, m8, m9, m10⟩ := S
  obtain ⟨d12, d13, d14, d15, d16, d17, d23, d24, d25, d26, d27, d34, d35, d36, d37, d45, d46, d47, d56, d57, d67⟩ := id D
  have xe1 : @Ne Nat e c := news_ne N (.tail _ (.tail _ (.tail _ (.tail _ (.tail _ (.tail _ (.head _))))))) (.head _) (by intro h; cases h)
  have xe2 : @Ne Nat e cd := news_ne N (.tail _ (.tail _ (.tail _ (.tail _ (.tail _ (.tail _ (.head _))))))) (.tail _ (.head _)) (fun e => absurd (Value.type.inj e) (by decide))
  have xe3 : @Ne Nat e dD := news_ne N (.tail _ (.tail _ (.tail _ (.tail _ (.tail _ (.tail _ (.head _))))))) (.tail _ (.tail _ (.head _))) (by show Value.type "list" ≠ oD.cls; rw [dict_cls C.d]; exact fun e => absurd (Value.type.inj e) (by decide))
  have xe4 : @Ne Nat e k := news_ne N (.tail _ (.tail _ (.tail _ (.tail _ (.tail _ (.tail _ (.head _))))))) (.tail _ (.tail _ (.tail _ (.head _)))) (by intro h; cases h)
  have xe5 : @Ne Nat e kd := news_ne N (.tail _ (.tail _ (.tail _ (.tail _ (.tail _ (.tail _ (.head _))))))) (.tail _ (.tail _ (.tail _ (.tail _ (.head _))))) (fun e => absurd (Value.type.inj e) (by decide))
  have xe6 : @Ne Nat e rd := news_ne N (.tail _ (.tail _ (.tail _ (.tail _ (.tail _ (.tail _ (.head _))))))) (.tail _ (.tail _ (.tail _ (.tail _ (.tail _ (.head _)))))) (by show Value.type "list" ≠ oR.cls; rw [dict_cls W.d]; exact fun e => absurd (Value.type.inj e) (by decide))
  have xe7 : @Ne Nat e (L + 1) := news_cell N (.tail _ (.tail _ (.tail _ (.tail _ (.tail _ (.tail _ (.head _))))))) (.tail _ (.tail _ (.tail _ (.tail _ (.tail _ (.tail _ (.tail _ (.head _)))))))) hoc
  conv in (occs := *) lawScope => all_goals whnf
  conv in (occs := *) turnBody => all_goals whnf

  k_steps
  all_goals exact fin _ _ _ (StX.intro (StF.again (by assumption) (by k_asm) (by k_asm)) (by assumption))
end Mine
end
section
namespace Mine
theorem fillU3 : True := by
  w_top off
  trivial

section
variable {prog : Program} {w : World} {h₀ : Heap} {L l c cd dD k kd rd I : Addr} {oI : Obj} {th : Tok} {bound : Int} {h : Heap} {m : Str → Option Value}
/-- between two turns, said of the frame's map and of the ledger alone; the loop's own name is free -/
def Inv (prog : Program) (w : World) (h₀ : Heap) (L l c cd dD k kd rd : Addr) (th : Tok) (bound : Int) (m : Str → Option Value) (news : List (Addr × Obj)) : Prop :=
  ∀ (h : Heap) (m2 : Str → Option Value), (∀ y, y ≠ Str.ofString "i" → m2 y = m y) → Fr h₀ L h m2 → News h₀ L h news → St prog w h₀ L l c cd dD k kd rd th bound h m2
theorem inv_of {n room num den : Int} {tn tc t1 t2 t3 t4 : Tok} {thr : Value} {held : Bool} {oD oR oC : Obj} {oc : Option Value} {e : Addr} {vs : List Value} {ne : Nat} {rs : List Row} {qs : List (Int × Value)} {T : List (Addr × Obj)}
    (S : StF prog w h₀ L l c cd dD k kd rd th bound h m n room num den tn tc t1 t2 t3 t4 thr held oD oR oC oc e vs ne rs qs T) : Inv prog w h₀ L l c cd dD k kd rd th bound m ((c, lru cd dD k n tn (.int room tc) thr) :: (cd, dictOf [] 0) :: (dD, oD) :: (k, instObj 46 kd) :: (kd, lockD w.params th held) :: (rd, oR) :: (e, listOf (List.toArray vs) ne) :: (L + 1, oC) :: T) :=
  fun _ _ ha F N => ⟨n, room, num, den, tn, tc, t1, t2, t3, t4, thr, held, oD, oR, oC, oc, e, vs, ne, rs, qs, T,
    ⟨F, N, S.O, S.C, S.W, S.hi, S.ht, S.n0, S.n1, S.h0, S.h1, S.hoc, (ha _ (by decide)).trans S.m1, (ha _ (by decide)).trans S.m2, (ha _ (by decide)).trans S.m3, (ha _ (by decide)).trans S.m4, (ha _ (by decide)).trans S.m5, (ha _ (by decide)).trans S.m6, (ha _ (by decide)).trans S.m7, (ha _ (by decide)).trans S.m8, (ha _ (by decide)).trans S.m9, (ha _ (by decide)).trans S.m10⟩⟩
theorem cac_it {rs : List Row} {oD : Obj} {T : List (Addr × Obj)} {e : Addr} {n : Int} {q : Addr × Obj} (C : Cac prog w rs oD T e n) (hc : q.2.cls = .type "range_iterator") : Cac prog w rs oD (q :: T) e n :=
  ⟨C.d, fun r hr => ⟨.tail _ (C.rin r hr).1, .tail _ (C.rin r hr).2⟩, C.kn, C.kb, C.sn, C.sb, C.ln, C.le, List.forall_mem_cons.mpr ⟨.inr (.inr hc), C.tt⟩, C.vb⟩
def offI (I : Addr) (T : List (Addr × Obj)) : List (Addr × Obj) := T.filter fun p => decide (p.1 ≠ I)
def OffFix (I c cd dD k kd rd ck : Addr) : Prop := @Ne Nat I c ∧ @Ne Nat I cd ∧ @Ne Nat I dD ∧ @Ne Nat I k ∧ @Ne Nat I kd ∧ @Ne Nat I rd ∧ @Ne Nat I ck
theorem pushI (S : St prog w h₀ L l c cd dD k kd rd th bound h m) (hN : News h₀ L h [(I, oI)]) (hc : oI.cls = .type "range_iterator") (hne : OffFix I c cd dD k kd rd (L + 1)) : StX prog w h₀ L l c cd dD k kd rd th I oI bound h m := by
  obtain ⟨n, room, num, den, tn, tc, t1, t2, t3, t4, thr, held, oD, oR, oC, oc, e, vs, ne, rs, qs, T, S⟩ := S
  have N1 : News h₀ L h ((I, oI) :: ((c, lru cd dD k n tn (.int room tc) thr) :: (cd, dictOf [] 0) :: (dD, oD) :: (k, instObj 46 kd) :: (kd, lockD w.params th held) :: (rd, oR) :: (e, listOf (List.toArray vs) ne) :: (L + 1, oC) :: T)) := fun p hp => by
    rcases List.mem_cons.mp hp with rfl | hp
    · exact hN _ (.head _)
    · exact S.N p hp
  refine StX.intro (T := (I, oI) :: T) (tn := tn) (tc := tc) (ne := ne) ⟨S.F, news_sub N1 ?_, offs_new S.O hne, cac_it S.C hc, lw_move S.W fun p hp _ => .tail _ hp, S.hi, S.ht, S.n0, S.n1, S.h0, S.h1, S.hoc, S.m1, S.m2, S.m3, S.m4, S.m5, S.m6, S.m7, S.m8, S.m9, S.m10⟩ (.head _)
  exact sub_cons (.tail _ (.head _)) (sub_cons (.tail _ (.tail _ (.head _))) (sub_cons (.tail _ (.tail _ (.tail _ (.head _)))) (sub_cons (.tail _ (.tail _ (.tail _ (.tail _ (.head _))))) (sub_cons (.tail _ (.tail _ (.tail _ (.tail _ (.tail _ (.head _)))))) (sub_cons (.tail _ (.tail _ (.tail _ (.tail _ (.tail _ (.tail _ (.head _))))))) (sub_cons (.tail _ (.tail _ (.tail _ (.tail _ (.tail _ (.tail _ (.tail _ (.head _)))))))) (sub_cons (.tail _ (.tail _ (.tail _ (.tail _ (.tail _ (.tail _ (.tail _ (.tail _ (.head _))))))))) (sub_cons (.head _) (fun p hp => (.tail _ (.tail _ (.tail _ (.tail _ (.tail _ (.tail _ (.tail _ (.tail _ (.tail _ (hp)))))))))))))))))))
theorem popI (S : StX prog w h₀ L l c cd dD k kd rd th I oI bound h m) (hc : oI.cls = .type "range_iterator") (hne : OffFix I c cd dD k kd rd (L + 1)) :
    Fr h₀ L h m ∧ ∃ news', News h₀ L h ((I, oI) :: news') ∧ (∀ p ∈ news', p.1 ≠ I) ∧ Inv prog w h₀ L l c cd dD k kd rd th bound m news' := by
  obtain ⟨n, room, num, den, tn, tc, t1, t2, t3, t4, thr, held, oD, oR, oC, oc, e, vs, ne, rs, qs, T, hIT, S⟩ := S
  have hT : ∀ p ∈ T, p ∈ ((c, lru cd dD k n tn (.int room tc) thr) :: (cd, dictOf [] 0) :: (dD, oD) :: (k, instObj 46 kd) :: (kd, lockD w.params th held) :: (rd, oR) :: (e, listOf (List.toArray vs) ne) :: (L + 1, oC) :: T) := fun p hp => (.tail _ (.tail _ (.tail _ (.tail _ (.tail _ (.tail _ (.tail _ (.tail _ (hp)))))))))
  have hI := hT _ hIT
  have N1 : News h₀ L h ((c, lru cd dD k n tn (.int room tc) thr) :: (cd, dictOf [] 0) :: (dD, oD) :: (k, instObj 46 kd) :: (kd, lockD w.params th held) :: (rd, oR) :: (e, listOf (List.toArray vs) ne) :: (L + 1, oC) :: (offI I T)) := by
    refine news_sub S.N ?_
    exact sub_cons (.head _) (sub_cons (.tail _ (.head _)) (sub_cons (.tail _ (.tail _ (.head _))) (sub_cons (.tail _ (.tail _ (.tail _ (.head _)))) (sub_cons (.tail _ (.tail _ (.tail _ (.tail _ (.head _))))) (sub_cons (.tail _ (.tail _ (.tail _ (.tail _ (.tail _ (.head _)))))) (sub_cons (.tail _ (.tail _ (.tail _ (.tail _ (.tail _ (.tail _ (.head _))))))) (sub_cons (.tail _ (.tail _ (.tail _ (.tail _ (.tail _ (.tail _ (.tail _ (.head _)))))))) (fun p hp => hT p (List.mem_filter.mp hp).1))))))))
  have he : e ≠ I := news_ne S.N (.tail _ (.tail _ (.tail _ (.tail _ (.tail _ (.tail _ (.head _))))))) hI (by rw [hc]; exact fun e => absurd (Value.type.inj e) (by decide))
  refine ⟨S.F, ((c, lru cd dD k n tn (.int room tc) thr) :: (cd, dictOf [] 0) :: (dD, oD) :: (k, instObj 46 kd) :: (kd, lockD w.params th held) :: (rd, oR) :: (e, listOf (List.toArray vs) ne) :: (L + 1, oC) :: (offI I T)), ?_, ?_, ?_⟩
  · intro p hp
    rcases List.mem_cons.mp hp with rfl | hp
    · exact S.N _ hI
    · exact N1 p hp
  · exact List.forall_mem_cons.mpr ⟨hne.1.symm, List.forall_mem_cons.mpr ⟨hne.2.1.symm, List.forall_mem_cons.mpr ⟨hne.2.2.1.symm, List.forall_mem_cons.mpr ⟨hne.2.2.2.1.symm, List.forall_mem_cons.mpr ⟨hne.2.2.2.2.1.symm, List.forall_mem_cons.mpr ⟨hne.2.2.2.2.2.1.symm, List.forall_mem_cons.mpr ⟨he, List.forall_mem_cons.mpr ⟨hne.2.2.2.2.2.2.symm, fun p hp => of_decide_eq_true (List.mem_filter.mp hp).2⟩⟩⟩⟩⟩⟩⟩⟩
  · refine inv_of (h := h) (tn := tn) (tc := tc) (ne := ne) ⟨S.F, N1, ?_, cac_off S.N hT hI hc S.C, lw_off S.N hT hI hc S.W, S.hi, S.ht, S.n0, S.n1, S.h0, S.h1, S.hoc, S.m1, S.m2, S.m3, S.m4, S.m5, S.m6, S.m7, S.m8, S.m9, S.m10⟩
    exact ⟨fun p hp => S.O.o1 p (List.mem_filter.mp hp).1, fun p hp => S.O.o2 p (List.mem_filter.mp hp).1, fun p hp => S.O.o3 p (List.mem_filter.mp hp).1, fun p hp => S.O.o4 p (List.mem_filter.mp hp).1, fun p hp => S.O.o5 p (List.mem_filter.mp hp).1, fun p hp => S.O.o6 p (List.mem_filter.mp hp).1, fun p hp => S.O.o7 p (List.mem_filter.mp hp).1⟩
theorem offFix_of {n room : Int} {tn tc : Tok} {thr : Value} {held : Bool} {oD oR oC : Obj} {e : Addr} {vs : List Value} {ne : Nat} {T : List (Addr × Obj)} (hI : ∀ p ∈ ((c, lru cd dD k n tn (.int room tc) thr) :: (cd, dictOf [] 0) :: (dD, oD) :: (k, instObj 46 kd) :: (kd, lockD w.params th held) :: (rd, oR) :: (e, listOf (List.toArray vs) ne) :: (L + 1, oC) :: T), p.1 < I) : OffFix I c cd dD k kd rd (L + 1) :=
  ⟨Nat.ne_of_gt (hI _ (.head _)), Nat.ne_of_gt (hI _ (.tail _ (.head _))), Nat.ne_of_gt (hI _ (.tail _ (.tail _ (.head _)))), Nat.ne_of_gt (hI _ (.tail _ (.tail _ (.tail _ (.head _))))), Nat.ne_of_gt (hI _ (.tail _ (.tail _ (.tail _ (.tail _ (.head _)))))), Nat.ne_of_gt (hI _ (.tail _ (.tail _ (.tail _ (.tail _ (.tail _ (.head _))))))), Nat.ne_of_gt (hI _ (.tail _ (.tail _ (.tail _ (.tail _ (.tail _ (.tail _ (.tail _ (.head _)))))))))⟩
end
end Mine
end
section
namespace Mine
theorem fillU4 : True := by
  w_top off
  trivial

theorem st_i (n : Nat) : ((n + 1 : Nat) : Int) = (n : Int) + 1 := by omega
theorem loopA {prog : Program} {w : World} {mean : ExcName → Option Value} {mg mb : Str → Option Value} {h₀ : Heap} {L fa I l : Addr} {cdv : Value} {s : Shared} {Q : Flow → Shared → Prop} {E : Value → Shared → Prop}
    {c cd dD k kd rd : Addr} {th : Tok} {lv : List Value} {ns : List Int} {nn : Nat}
    (B : Below callerA h₀ [] h₀) (X : (Mine.hd.heap_39 w.params).In h₀)
    (TP : Top Mine.hd.view_39 (looseW Mine.hd.view_39 [Str.ofString "itemgetter", Str.ofString "LRUCache"]) mean mg mb h₀) (D : Dist c cd dD k kd rd (L + 1)) (lo : (dD == sysModules) = false) (lo2 : (rd == sysModules) = false)
    (hL : h₀.IsList l lv.toArray) (hI : IntsAre lv ns) (hlay : (PyData.list (ns.map .int)).layable0 = true) (hnn : nn ≤ 40) (hlen : nn + 1 ≤ ns.length ∨ nn = 0) (hne : OffFix I c cd dD k kd rd (L + 1))
    (done : ∀ m h tk, St prog w h₀ L l c cd dD k kd rd th (nn : Int) h m → Q .next { s with heap := h, toks := tk }) :
    ∀ (q i : Nat) (m : Str → Option Value) (news : List (Addr × Obj)), i + q = nn → Inv prog w h₀ L l c cd dD k kd rd th (i : Int) m news →
      RangeRest prog w (callerA.deeper (envOfC (Str.ofString "law") lawScope L fa cdv)) E h₀ (envOfC (Str.ofString "law") lawScope L fa cdv) (Str.ofString "i") turnBody Q s I 0 nn q i m news := by
  intro q
  induction q with
  | zero =>
    intro i m news hi V
    have hi : i = nn := by omega
    subst hi
    exact RangeRest.zero fun h tk F N => done m h tk (V h m (fun _ _ => rfl) F N)
  | succ q ih =>
    intro i m news hi V
    refine RangeRest.succ fun t h tk F N => ?_
    have S := V h _ (fun y hy => if_neg hy) F (fun p hp => N p (.tail _ hp))
    have SX := pushI S (fun p hp => N p (by rw [List.mem_singleton.mp hp]; exact .head _)) rfl hne
    refine turn (s := { s with heap := h, toks := tk }) (ti := t) (i := i) B X TP D lo lo2 SX (if_pos rfl) (by omega) rfl hL hI hlay (by omega) fun m' h' tk' SX' => ?_
    obtain ⟨F', news', N', off, V'⟩ := popI SX' rfl hne
    exact ⟨h', tk', m', news', rfl, F', N', off, ih (i + 1) m' news' (by omega) (by rw [st_i]; exact V')⟩
theorem loop1 {prog : Program} {w : World} {mean : ExcName → Option Value} {mg mb : Str → Option Value} {h₀ : Heap} {L fa l r : Addr} {cdv : Value} {s : Shared} {m : Str → Option Value} {Q : Flow → Shared → Prop} {E : Value → Shared → Prop}
    {c cd dD k kd rd : Addr} {th t₀ u₀ v₀ : Tok} {lv : List Value} {ns : List Int} {nn : Nat}
    {n room : Int} {tn tc : Tok} {thr : Value} {held : Bool} {oD oR oC : Obj} {e : Addr} {vs : List Value} {ne : Nat} {T : List (Addr × Obj)}
    (B : Below callerA h₀ [] h₀) (X : (Mine.hd.heap_39 w.params).In h₀)
    (TP : Top Mine.hd.view_39 (looseW Mine.hd.view_39 [Str.ofString "itemgetter", Str.ofString "LRUCache"]) mean mg mb h₀) (D : Dist c cd dD k kd rd (L + 1)) (lo : (dD == sysModules) = false) (lo2 : (rd == sysModules) = false)
    (hL : h₀.IsList l lv.toArray) (hI : IntsAre lv ns) (hlay : (PyData.list (ns.map .int)).layable0 = true) (hnn : nn ≤ 40) (hlen : nn + 1 ≤ ns.length ∨ nn = 0)
    (R : IsRange s.heap r 0 (nn : Int) 1 t₀ u₀ v₀) (F : Fr h₀ L s.heap m) (N : News h₀ L s.heap ((c, lru cd dD k n tn (.int room tc) thr) :: (cd, dictOf [] 0) :: (dD, oD) :: (k, instObj 46 kd) :: (kd, lockD w.params th held) :: (rd, oR) :: (e, listOf (List.toArray vs) ne) :: (L + 1, oC) :: T))
    (V : Inv prog w h₀ L l c cd dD k kd rd th 0 m ((c, lru cd dD k n tn (.int room tc) thr) :: (cd, dictOf [] 0) :: (dD, oD) :: (k, instObj 46 kd) :: (kd, lockD w.params th held) :: (rd, oR) :: (e, listOf (List.toArray vs) ne) :: (L + 1, oC) :: T))
    (done : ∀ m h tk, St prog w h₀ L l c cd dD k kd rd th (nn : Int) h m → Q .next { s with heap := h, toks := tk }) :
    wpAny (model prog w) (callerA.deeper (envOfC (Str.ofString "law") lawScope L fa cdv)) (pyIter (.ref r)) (fun it s₂ => LoopAtV prog w (callerA.deeper (envOfC (Str.ofString "law") lawScope L fa cdv)) h₀ (envOfC (Str.ofString "law") lawScope L fa cdv) (Str.ofString "i") turnBody Q E it s₂) E s := by
  refine iter_rangeUnr (n := nn) rfl R (small_one (by omega) (by omega) (by omega) (by omega)) (by rw [rangeSize_nat]; omega) F N fun I hlt => ?_
  exact loopA B X TP D lo lo2 hL hI hlay hnn hlen (offFix_of hlt) done nn 0 m _ (by omega) V
end Mine
end
section
namespace Mine
theorem fillE4 : True := by
  w_top off
  trivial

/-- the law's rows where stamps no longer matter -/
structure LwV (prog : Program) (w : World) (rs : List Row) (qs : List (Int × Value)) (oR : Obj) (T : List (Addr × Obj)) : Prop where
  d : oR.IsDictOf (PySem.intKind prog w) qs
  kn : (qs.map (·.1)).Nodup
  kb : ∀ q ∈ qs, 0 ≤ q.1 ∧ q.1 ≤ 5
  q : ∀ r ∈ rs, ∃ qa t1 n1 st, valueAt qs r.k = some (.ref qa) ∧ (qa, qTup r.v st t1 n1) ∈ T
section
variable {prog : Program} {w : World} {rs : List Row} {qs : List (Int × Value)} {oR : Obj} {T : List (Addr × Obj)}
theorem lwv_of (W : Lw prog w rs qs oR T) : LwV prog w rs qs oR T := ⟨W.d, W.kn, W.kb, fun r hr => let ⟨qa, t1, n1, a, b⟩ := W.q r hr; ⟨qa, t1, n1, r.st, a, b⟩⟩
theorem lwv_move {T' : List (Addr × Obj)} (W : LwV prog w rs qs oR T) (h : ∀ p ∈ T, p.2.cls = .type "tuple" → p ∈ T') : LwV prog w rs qs oR T' :=
  ⟨W.d, W.kn, W.kb, fun r hr => let ⟨qa, t1, n1, st, a, b⟩ := W.q r hr; ⟨qa, t1, n1, st, a, h _ b rfl⟩⟩
theorem lwv_up {rs' : List Row} {r : Row} {st : Int} (W : LwV prog w rs qs oR T) (hr : r ∈ rs) (P : Up rs rs' r.k r.v st) : LwV prog w rs' qs oR T :=
  ⟨W.d, W.kn, W.kb, fun x hx => by
    rcases P x hx with ⟨h1, h2, _⟩ | ⟨_, h⟩
    · rw [h1, h2]; exact W.q r hr
    · exact W.q x h⟩
theorem lwv_off {oI : Obj} {l : List (Addr × Obj)} {I L : Addr} {h₀ h : Heap} (N : News h₀ L h l) (hT : ∀ p ∈ T, p ∈ l) (hI : (I, oI) ∈ l) (hc : oI.cls = .type "range_iterator")
    (W : LwV prog w rs qs oR T) : LwV prog w rs qs oR (T.filter fun p => decide (p.1 ≠ I)) :=
  lwv_move W fun p hp h => List.mem_filter.mpr ⟨hp, decide_eq_true (news_ne N (hT _ hp) hI (by rw [hc, h]; exact fun e => absurd (Value.type.inj e) (by decide)))⟩
end
theorem s_getV {prog : Program} {w : World} {mean : ExcName → Option Value} {mg mb : Str → Option Value}
    {dp un : Nat} {gd : Option (List Code)} {cn : Str} {cs : Scope} {a : Addr} {ccd : Value} {cl : List (Str × Addr)} {A₀ : Around} {h₀ : Heap} {L : Addr} {m : Str → Option Value} {s : Shared} {Q E : Value → Shared → Prop}
    {news T : List (Addr × Obj)} {c cd dD k kd rd e ck : Addr} {n room : Int} {tn th tc : Tok} {thr : Value} {held : Bool} {oD oR oC : Obj} {vs : List Value} {ne : Nat} {rs : List Row} {qs : List (Int × Value)} {key : Int} {tk : Tok} {df : Value}
    (B : Below A₀ h₀ [] h₀) (F : Fr h₀ L s.heap m) (X : (Mine.hd.heap_39 w.params).In h₀) (N : News h₀ L s.heap news) (hs : ∀ p ∈ (c, lru cd dD k n tn (.int room tc) thr) :: (cd, dictOf [] 0) :: (dD, oD) :: (k, instObj 46 kd) :: (kd, lockD w.params th held) :: (rd, oR) :: (e, listOf (List.toArray vs) ne) :: (ck, oC) :: T, p ∈ news) (TP : Top Mine.hd.view_39 (looseW Mine.hd.view_39 [Str.ofString "itemgetter", Str.ofString "LRUCache"]) mean mg mb h₀) (hk : cs.kind = .function) (D : Dist c cd dD k kd rd ck) (O : Offs T c cd dD k kd rd ck) (lo : (dD == sysModules) = false) (C : Cac prog w rs oD T e n) (W : LwV prog w rs qs oR T)
    (hd : dp + 2 < recursionLimit) (hu : un + 16 < cLine) (hn0 : 0 ≤ n) (hn1 : n ≤ 100)
    (hit : key ∈ rs.map (·.k) → ∀ (v : Value) (st : Int) qa t1 n1 rs' T' tn' h' tk', (v = .none ∨ ∃ j t, v = .int j t) → valueAt qs key = some (.ref qa) → (qa, qTup v st t1 n1) ∈ T' → rs'.map (·.k) = rs.map (·.k) → Up rs rs' key v (n + 1) →
      Cac prog w rs' oD T' e (n + 1) → LwV prog w rs' qs oR T' → (∀ p ∈ T, p.2.cls ≠ .type "list" → p ∈ T') → Offs T' c cd dD k kd rd ck → Fr h₀ L h' m → News h₀ L h' ((c, lru cd dD k (n + 1) tn' (.int room tc) thr) :: (cd, dictOf [] 0) :: (dD, oD) :: (k, instObj 46 kd) :: (kd, lockD w.params th held) :: (rd, oR) :: (e, listOf (List.toArray vs) ne) :: (ck, oC) :: T') → Q v { s with heap := h', toks := tk' })
    (miss : key ∉ rs.map (·.k) → ∀ h' tk', Fr h₀ L h' m → News h₀ L h' ((c, lru cd dD k n tn (.int room tc) thr) :: (cd, dictOf [] 0) :: (dD, oD) :: (k, instObj 46 kd) :: (kd, lockD w.params th held) :: (rd, oR) :: (e, listOf (List.toArray vs) ne) :: (ck, oC) :: T) → Q df { s with heap := h', toks := tk' }) :
    wpAny (model prog w) (ktrTop dp un gd cn cs L a ccd cl []) (call (.ref 124) [.ref c, .int key tk, df]) Q E s := by
  by_cases hin : key ∈ rs.map (·.k)
  · obtain ⟨r, hr, hrk⟩ := List.mem_map.mp hin
    have hrk : r.k = key := hrk
    subst hrk
    obtain ⟨qa, t1, n1, st9, hq, hqm⟩ := W.q r hr
    have mta := (C.rin r hr).1
    have mla := (C.rin r hr).2
    have hTn : ∀ p ∈ T, p ∈ news := fun p hp => hs p (.tail _ (.tail _ (.tail _ (.tail _ (.tail _ (.tail _ (.tail _ (.tail _ (hp)))))))))
    have hec : e ≠ c := news_ne N (hs _ (.tail _ (.tail _ (.tail _ (.tail _ (.tail _ (.tail _ (.head _)))))))) (hs _ (.head _)) (by intro h; cases h)
    have hnl : ∀ {x : Addr} {o : Obj}, (x, o) ∈ T → o.cls ≠ .type "list" → x ≠ r.la := fun hx hc => news_ne N (hTn _ hx) (hTn _ mla) hc
    have hne : ∀ {x : Addr} {o : Obj}, (x, o) ∈ T → o.cls = .type "tuple" → x ≠ r.la := fun hx hc => hnl hx (by rw [hc]; exact fun e => absurd (Value.type.inj e) (by decide))
    refine get_hit (k := k) (tn := tn) (cap := .int room tc) (thr := thr) (r := r) (T := (k, instObj 46 kd) :: (kd, lockD w.params th held) :: (rd, oR) :: (e, listOf (List.toArray vs) ne) :: (ck, oC) :: T.filter (fun p => decide (p.1 ≠ r.la))) B F X ?_ TP hk C.d lo (at_row C.kn hr)
      D.d12.symm D.d13.symm (O.o1 _ mta) (O.o1 _ mla) ?_ (O.o1 _ mla).symm (O.o2 _ mla).symm (O.o3 _ mla).symm (hne mta rfl) ?_ hd hu hn0 hn1 fun t n2 h' tk' F' N' => ?_
    · refine fun p hp => N p (?_ : p ∈ news)
      revert p
      exact sub_cons (hs _ (.head _)) (sub_cons (hs _ (.tail _ (.head _))) (sub_cons (hs _ (.tail _ (.tail _ (.head _)))) (sub_cons (hTn _ mta) (sub_cons (hTn _ mla) (sub_cons (hs _ (.tail _ (.tail _ (.tail _ (.head _))))) (sub_cons (hs _ (.tail _ (.tail _ (.tail _ (.tail _ (.head _)))))) (sub_cons (hs _ (.tail _ (.tail _ (.tail _ (.tail _ (.tail _ (.head _))))))) (sub_cons (hs _ (.tail _ (.tail _ (.tail _ (.tail _ (.tail _ (.tail _ (.head _)))))))) (sub_cons (hs _ (.tail _ (.tail _ (.tail _ (.tail _ (.tail _ (.tail _ (.tail _ (.head _))))))))) (fun p hp => hTn p (List.mem_filter.mp hp).1))))))))))
    · exact List.forall_mem_cons.mpr ⟨D.d14.symm, List.forall_mem_cons.mpr ⟨D.d15.symm, List.forall_mem_cons.mpr ⟨D.d16.symm, List.forall_mem_cons.mpr ⟨hec, List.forall_mem_cons.mpr ⟨D.d17.symm, fun p hp => O.o1 p (List.mem_filter.mp hp).1⟩⟩⟩⟩⟩
    · exact List.forall_mem_cons.mpr ⟨(O.o4 _ mla).symm, List.forall_mem_cons.mpr ⟨(O.o5 _ mla).symm, List.forall_mem_cons.mpr ⟨(O.o6 _ mla).symm, List.forall_mem_cons.mpr ⟨(C.le r hr).symm, List.forall_mem_cons.mpr ⟨(O.o7 _ mla).symm, fun p hp => of_decide_eq_true (List.mem_filter.mp hp).2⟩⟩⟩⟩⟩
    · refine hit hin r.v st9 qa t1 n1 _ _ t h' tk' (C.vb r hr) hq (.tail _ (List.mem_filter.mpr ⟨hqm, decide_eq_true (hne hqm rfl)⟩)) ?_ (put_up rs { r with st := n + 1, tt := t, n2 := n2 }) (cac_touch N hTn C hr) (lwv_up (lwv_move W fun p hp hc => .tail _ (List.mem_filter.mpr ⟨hp, decide_eq_true (hne hp hc)⟩)) hr (put_up rs { r with st := n + 1, tt := t, n2 := n2 })) (fun p hp hc => .tail _ (List.mem_filter.mpr ⟨hp, decide_eq_true (hnl hp hc)⟩)) (offs_sub O ?_) F' ?_
      · rw [put_keys]; exact if_pos hin
      · intro p hp
        rcases List.mem_cons.mp hp with rfl | hp
        · exact ⟨_, mla, rfl⟩
        · exact ⟨p, (List.mem_filter.mp hp).1, rfl⟩
      · refine fun p hp => N' p ?_
        revert p
        exact sub_cons (.head _) (sub_cons (.tail _ (.head _)) (sub_cons (.tail _ (.tail _ (.head _))) (sub_cons (.tail _ (.tail _ (.tail _ (.tail _ (.tail _ (.head _)))))) (sub_cons (.tail _ (.tail _ (.tail _ (.tail _ (.tail _ (.tail _ (.head _))))))) (sub_cons (.tail _ (.tail _ (.tail _ (.tail _ (.tail _ (.tail _ (.tail _ (.head _)))))))) (sub_cons (.tail _ (.tail _ (.tail _ (.tail _ (.tail _ (.tail _ (.tail _ (.tail _ (.head _))))))))) (sub_cons (.tail _ (.tail _ (.tail _ (.tail _ (.tail _ (.tail _ (.tail _ (.tail _ (.tail _ (.head _)))))))))) (sub_cons (.tail _ (.tail _ (.tail _ (.tail _ (.head _))))) (fun p hp => (.tail _ (.tail _ (.tail _ (.tail _ (.tail _ (.tail _ (.tail _ (.tail _ (.tail _ (.tail _ (hp))))))))))))))))))))
  · refine get_miss (k := k) (tn := tn) (cap := .int room tc) (thr := thr) (T := (k, instObj 46 kd) :: (kd, lockD w.params th held) :: (rd, oR) :: (e, listOf (List.toArray vs) ne) :: (ck, oC) :: T) B F X (fun p hp => N p (hs p hp)) TP hk C.d lo (at_none hin) hd hu fun h' tk' F' N' => miss hin h' tk' F' N'
end Mine
end
section
namespace Mine
theorem fillV0 : True := by
  w_top off
  trivial

structure AkF (prog : Program) (w : World) (h₀ : Heap) (L l c cd dD k kd rd : Addr) (th : Tok) (bound : Int) (h : Heap) (m : Str → Option Value) (n room num den : Int) (tn tc t1 t2 t3 t4 : Tok) (thr : Value) (held : Bool) (oD oR oC : Obj) (oc : Option Value) (e : Addr) (vs : List Value) (ne : Nat) (rs : List Row) (qs : List (Int × Value)) (T : List (Addr × Obj)) : Prop where
  F : Fr h₀ L h m
  N : News h₀ L h ((c, lru cd dD k n tn (.int room tc) thr) :: (cd, dictOf [] 0) :: (dD, oD) :: (k, instObj 46 kd) :: (kd, lockD w.params th held) :: (rd, oR) :: (e, listOf (List.toArray vs) ne) :: (L + 1, oC) :: T)
  O : Offs T c cd dD k kd rd (L + 1)
  C : Cac prog w rs oD T e n
  W : LwV prog w rs qs oR T
  hi : IntsAre vs (rs.map (·.k))
  ht : Thr thr num den
  n0 : 0 ≤ n
  n1 : n ≤ bound
  h0 : 0 ≤ room
  h1 : room ≤ 4
  hoc : oC.data = .cell oc
  m1 : m (Str.ofString "script") = some (.ref l)
  m2 : m (Str.ofString "room") = some (.int room t1)
  m3 : m (Str.ofString "num") = some (.int num t2)
  m4 : m (Str.ofString "den") = some (.int den t3)
  m5 : m (Str.ofString "c") = some (.ref c)
  m6 : m (Str.ofString "lock") = some (.ref k)
  m7 : m (Str.ofString "entry") = some (.ref e)
  m8 : m (Str.ofString "rows") = some (.ref rd)
  m9 : m (Str.ofString "counter") = some (.int n t4)
  m10 : m (Str.ofString "held") = some (.bool held)
def AkX (prog : Program) (w : World) (h₀ : Heap) (L l c cd dD k kd rd : Addr) (th : Tok) (I : Addr) (oI : Obj) (bound : Int) (h : Heap) (m : Str → Option Value) : Prop :=
  ∃ n room num den tn tc t1 t2 t3 t4 thr held oD oR oC oc e vs ne rs qs T, (I, oI) ∈ T ∧ AkF prog w h₀ L l c cd dD k kd rd th bound h m n room num den tn tc t1 t2 t3 t4 thr held oD oR oC oc e vs ne rs qs T
def Ak (prog : Program) (w : World) (h₀ : Heap) (L l c cd dD k kd rd : Addr) (th : Tok) (bound : Int) (h : Heap) (m : Str → Option Value) : Prop :=
  ∃ n room num den tn tc t1 t2 t3 t4 thr held oD oR oC oc e vs ne rs qs T, AkF prog w h₀ L l c cd dD k kd rd th bound h m n room num den tn tc t1 t2 t3 t4 thr held oD oR oC oc e vs ne rs qs T
theorem AkX.intro {prog : Program} {w : World} {h₀ : Heap} {L l c cd dD k kd rd : Addr} {th : Tok} {I : Addr} {oI : Obj} {bound : Int} {h : Heap} {m : Str → Option Value} {n room num den : Int} {tn tc t1 t2 t3 t4 : Tok} {thr : Value} {held : Bool} {oD oR oC : Obj} {oc : Option Value} {e : Addr} {vs : List Value} {ne : Nat} {rs : List Row} {qs : List (Int × Value)} {T : List (Addr × Obj)}
    (a : AkF prog w h₀ L l c cd dD k kd rd th bound h m n room num den tn tc t1 t2 t3 t4 thr held oD oR oC oc e vs ne rs qs T) (b : (I, oI) ∈ T) : AkX prog w h₀ L l c cd dD k kd rd th I oI bound h m := ⟨_, _, _, _, _, _, _, _, _, _, _, _, _, _, _, _, _, _, _, _, _, _, b, a⟩
section
variable {prog : Program} {w : World} {h₀ : Heap} {L l c cd dD k kd rd I : Addr} {oI : Obj} {th : Tok} {bound : Int} {h : Heap} {m : Str → Option Value}
def InvA (prog : Program) (w : World) (h₀ : Heap) (L l c cd dD k kd rd : Addr) (th : Tok) (bound : Int) (m : Str → Option Value) (news : List (Addr × Obj)) : Prop :=
  ∀ (h : Heap) (m2 : Str → Option Value), (∀ y, y ≠ Str.ofString "i" → m2 y = m y) → Fr h₀ L h m2 → News h₀ L h news → Ak prog w h₀ L l c cd dD k kd rd th bound h m2
theorem inv_ofA {n room num den : Int} {tn tc t1 t2 t3 t4 : Tok} {thr : Value} {held : Bool} {oD oR oC : Obj} {oc : Option Value} {e : Addr} {vs : List Value} {ne : Nat} {rs : List Row} {qs : List (Int × Value)} {T : List (Addr × Obj)}
    (S : AkF prog w h₀ L l c cd dD k kd rd th bound h m n room num den tn tc t1 t2 t3 t4 thr held oD oR oC oc e vs ne rs qs T) : InvA prog w h₀ L l c cd dD k kd rd th bound m ((c, lru cd dD k n tn (.int room tc) thr) :: (cd, dictOf [] 0) :: (dD, oD) :: (k, instObj 46 kd) :: (kd, lockD w.params th held) :: (rd, oR) :: (e, listOf (List.toArray vs) ne) :: (L + 1, oC) :: T) :=
  fun _ _ ha F N => ⟨n, room, num, den, tn, tc, t1, t2, t3, t4, thr, held, oD, oR, oC, oc, e, vs, ne, rs, qs, T,
    ⟨F, N, S.O, S.C, S.W, S.hi, S.ht, S.n0, S.n1, S.h0, S.h1, S.hoc, (ha _ (by decide)).trans S.m1, (ha _ (by decide)).trans S.m2, (ha _ (by decide)).trans S.m3, (ha _ (by decide)).trans S.m4, (ha _ (by decide)).trans S.m5, (ha _ (by decide)).trans S.m6, (ha _ (by decide)).trans S.m7, (ha _ (by decide)).trans S.m8, (ha _ (by decide)).trans S.m9, (ha _ (by decide)).trans S.m10⟩⟩
theorem pushA (S : Ak prog w h₀ L l c cd dD k kd rd th bound h m) (hN : News h₀ L h [(I, oI)]) (hc : oI.cls = .type "range_iterator") (hne : OffFix I c cd dD k kd rd (L + 1)) : AkX prog w h₀ L l c cd dD k kd rd th I oI bound h m := by
  obtain ⟨n, room, num, den, tn, tc, t1, t2, t3, t4, thr, held, oD, oR, oC, oc, e, vs, ne, rs, qs, T, S⟩ := S
  have N1 : News h₀ L h ((I, oI) :: ((c, lru cd dD k n tn (.int room tc) thr) :: (cd, dictOf [] 0) :: (dD, oD) :: (k, instObj 46 kd) :: (kd, lockD w.params th held) :: (rd, oR) :: (e, listOf (List.toArray vs) ne) :: (L + 1, oC) :: T)) := fun p hp => by
    rcases List.mem_cons.mp hp with rfl | hp
    · exact hN _ (.head _)
    · exact S.N p hp
  refine AkX.intro (T := (I, oI) :: T) (tn := tn) (tc := tc) (ne := ne) ⟨S.F, news_sub N1 ?_, offs_new S.O hne, cac_it S.C hc, lwv_move S.W fun p hp _ => .tail _ hp, S.hi, S.ht, S.n0, S.n1, S.h0, S.h1, S.hoc, S.m1, S.m2, S.m3, S.m4, S.m5, S.m6, S.m7, S.m8, S.m9, S.m10⟩ (.head _)
  exact sub_cons (.tail _ (.head _)) (sub_cons (.tail _ (.tail _ (.head _))) (sub_cons (.tail _ (.tail _ (.tail _ (.head _)))) (sub_cons (.tail _ (.tail _ (.tail _ (.tail _ (.head _))))) (sub_cons (.tail _ (.tail _ (.tail _ (.tail _ (.tail _ (.head _)))))) (sub_cons (.tail _ (.tail _ (.tail _ (.tail _ (.tail _ (.tail _ (.head _))))))) (sub_cons (.tail _ (.tail _ (.tail _ (.tail _ (.tail _ (.tail _ (.tail _ (.head _)))))))) (sub_cons (.tail _ (.tail _ (.tail _ (.tail _ (.tail _ (.tail _ (.tail _ (.tail _ (.head _))))))))) (sub_cons (.head _) (fun p hp => (.tail _ (.tail _ (.tail _ (.tail _ (.tail _ (.tail _ (.tail _ (.tail _ (.tail _ (hp)))))))))))))))))))
theorem popA (S : AkX prog w h₀ L l c cd dD k kd rd th I oI bound h m) (hc : oI.cls = .type "range_iterator") (hne : OffFix I c cd dD k kd rd (L + 1)) :
    Fr h₀ L h m ∧ ∃ news', News h₀ L h ((I, oI) :: news') ∧ (∀ p ∈ news', p.1 ≠ I) ∧ InvA prog w h₀ L l c cd dD k kd rd th bound m news' := by
  obtain ⟨n, room, num, den, tn, tc, t1, t2, t3, t4, thr, held, oD, oR, oC, oc, e, vs, ne, rs, qs, T, hIT, S⟩ := S
  have hT : ∀ p ∈ T, p ∈ ((c, lru cd dD k n tn (.int room tc) thr) :: (cd, dictOf [] 0) :: (dD, oD) :: (k, instObj 46 kd) :: (kd, lockD w.params th held) :: (rd, oR) :: (e, listOf (List.toArray vs) ne) :: (L + 1, oC) :: T) := fun p hp => (.tail _ (.tail _ (.tail _ (.tail _ (.tail _ (.tail _ (.tail _ (.tail _ (hp)))))))))
  have hI := hT _ hIT
  have N1 : News h₀ L h ((c, lru cd dD k n tn (.int room tc) thr) :: (cd, dictOf [] 0) :: (dD, oD) :: (k, instObj 46 kd) :: (kd, lockD w.params th held) :: (rd, oR) :: (e, listOf (List.toArray vs) ne) :: (L + 1, oC) :: (offI I T)) := by
    refine news_sub S.N ?_
    exact sub_cons (.head _) (sub_cons (.tail _ (.head _)) (sub_cons (.tail _ (.tail _ (.head _))) (sub_cons (.tail _ (.tail _ (.tail _ (.head _)))) (sub_cons (.tail _ (.tail _ (.tail _ (.tail _ (.head _))))) (sub_cons (.tail _ (.tail _ (.tail _ (.tail _ (.tail _ (.head _)))))) (sub_cons (.tail _ (.tail _ (.tail _ (.tail _ (.tail _ (.tail _ (.head _))))))) (sub_cons (.tail _ (.tail _ (.tail _ (.tail _ (.tail _ (.tail _ (.tail _ (.head _)))))))) (fun p hp => hT p (List.mem_filter.mp hp).1))))))))
  have he : e ≠ I := news_ne S.N (.tail _ (.tail _ (.tail _ (.tail _ (.tail _ (.tail _ (.head _))))))) hI (by rw [hc]; exact fun e => absurd (Value.type.inj e) (by decide))
  refine ⟨S.F, ((c, lru cd dD k n tn (.int room tc) thr) :: (cd, dictOf [] 0) :: (dD, oD) :: (k, instObj 46 kd) :: (kd, lockD w.params th held) :: (rd, oR) :: (e, listOf (List.toArray vs) ne) :: (L + 1, oC) :: (offI I T)), ?_, ?_, ?_⟩
  · intro p hp
    rcases List.mem_cons.mp hp with rfl | hp
    · exact S.N _ hI
    · exact N1 p hp
  · exact List.forall_mem_cons.mpr ⟨hne.1.symm, List.forall_mem_cons.mpr ⟨hne.2.1.symm, List.forall_mem_cons.mpr ⟨hne.2.2.1.symm, List.forall_mem_cons.mpr ⟨hne.2.2.2.1.symm, List.forall_mem_cons.mpr ⟨hne.2.2.2.2.1.symm, List.forall_mem_cons.mpr ⟨hne.2.2.2.2.2.1.symm, List.forall_mem_cons.mpr ⟨he, List.forall_mem_cons.mpr ⟨hne.2.2.2.2.2.2.symm, fun p hp => of_decide_eq_true (List.mem_filter.mp hp).2⟩⟩⟩⟩⟩⟩⟩⟩
  · refine inv_ofA (h := h) (tn := tn) (tc := tc) (ne := ne) ⟨S.F, N1, ?_, cac_off S.N hT hI hc S.C, lwv_off S.N hT hI hc S.W, S.hi, S.ht, S.n0, S.n1, S.h0, S.h1, S.hoc, S.m1, S.m2, S.m3, S.m4, S.m5, S.m6, S.m7, S.m8, S.m9, S.m10⟩
    exact ⟨fun p hp => S.O.o1 p (List.mem_filter.mp hp).1, fun p hp => S.O.o2 p (List.mem_filter.mp hp).1, fun p hp => S.O.o3 p (List.mem_filter.mp hp).1, fun p hp => S.O.o4 p (List.mem_filter.mp hp).1, fun p hp => S.O.o5 p (List.mem_filter.mp hp).1, fun p hp => S.O.o6 p (List.mem_filter.mp hp).1, fun p hp => S.O.o7 p (List.mem_filter.mp hp).1⟩

end
end Mine
end
section
namespace Mine
theorem fillV1 : True := by
  w_top off
  trivial

section
variable {prog : Program} {w : World} {A : Around} {E : Value → Shared → Prop} {s : Shared} {env : Env} {h₀ : Heap} {x : Str} {px : Pos} {body : List Stmt} {Q : Flow → Shared → Prop}
def askItm (j : Nat) : Itm := .tok fun t => .int (j : Int) t
theorem ask_item : ∀ (i : Nat) (v : Value), (i < 6 ∧ ∃ t, v = .int (0 + (i : Int) * 1) t) → ∀ h : Heap, ∃ a, ([0, 1, 2, 3, 4, 5].map askItm)[i]? = some a ∧ a.Is v h := by
  rintro i v ⟨hi, t, rfl⟩ h
  refine ⟨askItm i, ?_, ?_⟩
  · have h6 : i = 0 ∨ i = 1 ∨ i = 2 ∨ i = 3 ∨ i = 4 ∨ i = 5 := by omega
    rcases h6 with rfl | rfl | rfl | rfl | rfl | rfl <;> rfl
  · exact ⟨t, by show Value.int (0 + (i : Int) * 1) t = Value.int (i : Int) t; rw [Int.mul_one, Int.zero_add]⟩
/-- a loop over range(6) whose name may live in a cell -/
theorem iter_ask {r : Addr} {t₀ u₀ v₀ : Tok} {m₀ : Str → Option Value} {news : List (Addr × Obj)} (hh : A.handled = none) (hr : IsRange s.heap r 0 6 1 t₀ u₀ v₀) (F : Fr h₀ env.locals s.heap m₀) (N : News h₀ env.locals s.heap news)
    (rest₀ : ∀ I : Addr, (∀ p ∈ news, p.1 < I) → ItemsRest prog w A E h₀ env (.Name x px) body Q s [(I, "range_iterator")] [] ([0, 1, 2, 3, 4, 5].map askItm) m₀ news) :
    wpAny (model prog w) A (pyIter (.ref r)) (fun it s₂ => TurnsAt prog w A h₀ env (.Name x px) body Q E it s₂) E s := by
  refine wpAny_pyIter_range hr (by decide) ?_
  have W : Walks prog w A s.heap.objs.size [s.heap.objs.size] [s.heap.objs.size] 6 (fun i v => i < 6 ∧ ∃ t, v = .int (0 + (i : Int) * 1) t)
      (fun i h => IsRangeIter h s.heap.objs.size (0 + (i : Nat) * 1) (((6 : Nat) : Int) - (i : Nat)) 1) := (Walks.range hh _ 0 1 6).bound
  refine ktu_core (tk0 := s.toks) (keep := []) (KTurns.ofWalks W fun i v s Q E st q => ?go) (by rfl) (fun i v h hp => ask_item i v hp h) (fun i h st => ?obj) (fun b hb => ?ws) (fun b hb => ?wr) (fun b hb => ?fp) ?L (fun p hp hI => ?nw) ?st (F.push _) (fun p hp => ⟨Heap.get?_push_of_some _ (N p hp).1, (N p hp).2⟩) trivial (rest₀ _ fun p hp => Heap.lt_size (N p hp).1)
  case go => exact wpAny_pure q
  case obj => exact ⟨[(s.heap.objs.size, itR (0 + (i : Nat) * 1) (((6 : Nat) : Int) - (i : Nat)))], ⟨⟨rfl, rfl⟩, trivial⟩, fun p hp => by rw [List.mem_singleton.mp hp]; exact st⟩
  case ws => rw [List.mem_singleton.mp hb]; exact ⟨.head _, next_is_new F⟩
  case wr => exact hb
  case fp => exact .inl hb
  case L => exact fun hm => absurd F.ns.lt ((List.mem_singleton.mp hm) ▸ Nat.lt_irrefl _)
  case nw => exact absurd (Heap.lt_size (N p hp).1) ((List.mem_singleton.mp hI) ▸ Nat.lt_irrefl _)
  case st =>
    have hn : Builtin.Range.rangeSize 0 6 1 = 6 := by decide
    show IsRangeIter _ _ _ _ _
    rw [hn]
    exact Heap.get?_push_size _ rfl
end
end Mine
end
section
namespace Mine
local macro_rules | `(tactic| walk_at "none of mine") => `(tactic| fail "none")
local macro_rules | `(tactic| walk_at "none of mine") => `(tactic| fail "none")
local macro_rules | `(tactic| walk_at "none of mine") => `(tactic| fail "none")
local macro_rules | `(tactic| walk_at "none of mine") => `(tactic| fail "none")
local macro_rules | `(tactic| walk_at "none of mine") => `(tactic| fail "none")
local macro_rules | `(tactic| walk_at "none of mine") => `(tactic| fail "none")
local macro_rules | `(tactic| walk_at "none of mine") => `(tactic| fail "none")
local macro_rules | `(tactic| walk_at "none of mine") => `(tactic| fail "none")
local macro_rules | `(tactic| walk_at "none of mine") => `(tactic| fail "none")
local macro_rules | `(tactic| walk_at "none of mine") => `(tactic| fail "none")
local macro_rules | `(tactic| walk_at "none of mine") => `(tactic| fail "none")
theorem fillV2 : True := by
  w_top off
  trivial


local macro_rules | `(tactic| k_room) => `(tactic| ktr_room)
local macro_rules | `(tactic| k_units) => `(tactic| ktr_units)
local macro_rules | `(tactic| ktr_enter) => `(tactic| (refine' code_def ?k1 ?k2 ?k3 ?k4 ?k5 ?kA ?kF ?kK ?k6 ?k7 ?k8 ?k9 ?kB ?_ ?c2 ?c3 ?c4 ?c5; (case kA => exact rfl); (case kF => exact rfl); (case kK => first | assumption | exact rfl); (case k1 => k_asm); (case k2 => k_asm); (case k3 => k_asm); (case k4 => k_asm); (case k5 => k_asm); (case k6 => k_is); (case k7 => k_is); (case k8 => ktr_room); (case k9 => first | exact BindsTo.of_eq rfl | exact binds_K (by k_in) rfl (by k_is) rfl rfl rfl | fail "ktr_enter: no rule for these arguments"); (case c5 => decide); (case kB => exact locs rfl); (case c2 => exact rfl); (case c3 => exact rfl); (case c4 => exact rfl); k_whole; intro g' L' h' FG' F' N' B' X' T'; (try dsimp only); (try k_fold)))
local macro_rules | `(tactic| k_lt $h:ident) => `(tactic| (replace $h := allLt_of $h; simp only [AllLt, and_true] at $h:ident; (try ((fail_if_success (rename AllLt _ _ => l6)); have l7 : AllLt _ _ := (by first | exact ($h).2 | exact ($h).2.2 | exact ($h).2.2.2 | exact ($h).2.2.2.2 | exact ($h).2.2.2.2.2 | exact ($h).2.2.2.2.2.2 | exact ($h).2.2.2.2.2.2.2 | exact ($h).2.2.2.2.2.2.2.2 | exact ($h).2.2.2.2.2.2.2.2.2 | exact ($h).2.2.2.2.2.2.2.2.2.2 | exact ($h).2.2.2.2.2.2.2.2.2.2.2 | exact ($h).2.2.2.2.2.2.2.2.2.2.2.2)))))
local macro_rules | `(tactic| k_all) => `(tactic| (refine' allLt_ne ?h6 ?h7; (case h6 => assumption); (case h7 => ((try dsimp only); omega))))
local macro_rules | `(tactic| k_all) => `(tactic| with_reducible assumption)
local macro_rules | `(tactic| walk_at "call builtin:len") => `(tactic| (k_here; (with_reducible show wpAny _ _ (call (Value.builtin "len") [Value.ref _]) _ _ _); k_dflt (refine' kda_len (knd := PySem.intKind _ _) ?N ?m ?d ?lo ?f ?_; (case N => k_asm); (case m => k_mem); (case d => k_asm); (case lo => k_asm); (case f => assumption); k_whole)))
local macro_rules | `(tactic| walk_at "getMethod ref") => `(tactic| (k_here; (with_reducible show wpAny _ _ (getMethod (Value.ref _) (Str.ofString "get") _) _ _ _); k_dflt (refine' kdg_method (knd := PySem.intKind _ _) ?N ?m ?d ?_; (case N => k_asm); (case m => k_mem); (case d => k_asm); k_whole)))
local macro_rules | `(tactic| walk_at "call builtin:dict.get") => `(tactic| (k_here; (with_reducible show wpAny _ _ (call (Value.builtin "dict.get") [Value.ref _, Value.int _ _]) _ _ _); k_dflt (refine' kdg_get1 (knd := PySem.intKind _ _) ?N ?m ?d ?lo (intKind_is _ _ _ _) _ ?hl ?_; (case N => k_asm); (case m => k_mem); (case d => k_asm); (case lo => k_asm); (case hl => assumption); k_whole; (try dsimp only [Option.getD]))))
local macro_rules | `(tactic| walk_at "subscriptTail") => `(tactic| (k_here; (with_reducible show wpAny _ _ (subscriptTail _ _ (Value.ref _) (Value.int _ _)) _ _ _); k_dflt (refine' kda_item (knd := PySem.intKind _ _) ?N ?m ?d (intKind_is _ _ _ _) ?hl ?_; (case N => k_asm); (case m => k_mem); (case d => k_asm); (case hl => assumption); k_whole)))
theorem x_get_missV2 {prog : Program} {w : World} {A : Around} {E : Value → Shared → Prop} {s : Shared} {h₀ : Heap} {L d : Addr} {news : List (Addr × Obj)} {o : Obj} {kvs : List (Int × Value)} {k : Int} {t : Tok} {Q : Value → Shared → Prop}
    (N : News h₀ L s.heap news) (hp : (d, o) ∈ news) (hd : o.IsDictOf (PySem.intKind prog w) kvs) (lo : (d == sysModules) = false) (hh : A.handled = none) (hl : valueAt kvs k = none)
    (h : ∀ h' e, Heap.NewExc s.heap h' e "KeyError" → E (.ref e) { s with heap := h', toks := s.toks + 1 }) : wpAny (model prog w) A (getItem (.ref d) (.int k t)) Q E s :=
  wpAny_getItem_missing_of (intKind_is _ _ _ _) lo hh (kda_dict N hp hd).mapOf hl h
local macro_rules | `(tactic| walk_at "getItem ref int") => `(tactic| (k_here; k_dflt (refine' x_get_missV2 ?N ?m ?d ?lo ?hh ?hl ?_; (case N => k_asm); (case m => k_mem); (case d => k_asm); (case lo => k_asm); (case hh => exact rfl); (case hl => assumption); k_whole); intro h' e' x'))
local macro_rules | `(tactic| walk_at "getItem ref int") => `(tactic| (k_here; k_dflt (refine' kdt_getItem (knd := PySem.intKind _ _) ?N ?m ?d (intKind_is _ _ _ _) ?hl ?_; (case N => k_asm); (case m => k_mem); (case d => k_asm); (case hl => assumption); k_whole)))
local macro_rules | `(tactic| walk_at "delItem ref int") => `(tactic| (k_here; k_dflt (refine' x_del_miss ?N ?m ?d ?lo ?hh ?hl ?_; (case N => k_asm); (case m => k_mem); (case d => k_asm); (case lo => k_asm); (case hh => exact rfl); (case hl => assumption); k_whole); intro h' e' x'))
local macro_rules | `(tactic| walk_at "delItem ref int") => `(tactic| (k_here; k_dflt (refine' kob_del (knd := PySem.intKind _ _) ?F ?N ?U ?d (intKind_is _ _ _ _) ?l ?z ?_; (case F => k_asm); (case N => k_asm); (case U => k_updF); (case d => k_asm); (case l => assumption); (case z => first | assumption | (rw [sizeLine_eq]; assumption)); k_whole); intro h' o' F' N' hd'; (try dsimp only at N')))
theorem x_del_ownV2 {M : Model} {A : Around} {E : Value → Shared → Prop} {s : Shared} {K : Frag} {x C L f : Addr} {h₀ : Heap} {m : Str → Option Value} {ox : Obj} {od : Option Obj} {i : Value} {Q : Unit → Shared → Prop}
    (F : Fr h₀ L s.heap m) (X₀ : K.In h₀) (I : InstAt s.heap x ox C od) (hq : noSeq K C = true) (hs : findIn K (.ref C) "__delitem__" = some (some (.ref f))) (hf : isFn K (.ref f) = true)
    (h : wpAny M A (call (.ref f) [.ref x, i]) (fun _ s' => Q () s') E s) : wpAny M A (delItem (.ref x) i) Q E s := by
  have X := X₀.keeps F.keep
  unfold delItem sequenceKey
  refine wpAny_holding (wpAny_bind (wpAny_bind (I.type.here ?_)))
  refine wpAny_bind ((anyM_none X hq).here ?_)
  rw [if_pos (show (!false) = true from rfl)]
  exact wpAny_pure (wpAny_bind (special_fn X I hs (beq_iff_eq.mp hf) (wpAny_mono h (fun _ _ z => wpAny_pure z) fun _ _ z => z)))
local macro_rules | `(tactic| walk_at "delItem ref int") => `(tactic| (k_here; k_dflt (refine' x_del_ownV2 ?k1 ?k2 ?k3 ?k4 ?k5 ?k6 ?_; (case k1 => k_asm); (case k2 => k_asm); (case k3 => k_inst); (case k4 => k_is); (case k5 => k_is); (case k6 => k_is); k_whole)))
local macro_rules | `(tactic| walk_at "WhlIf") => `(tactic| (first | (refine WhlIf.yes (decide_eq_true (by omega)) ?_) | (refine WhlIf.no (decide_eq_false (by omega)) ?_)))
local macro_rules | `(tactic| walk_at "eval Dict nil nil") => `(tactic| (k_here; k_dflt (refine' newDict_K ?k1 ?k2 ?k3 ?_; (case k1 => k_asm); (case k2 => k_asm); (case k3 => first | exact Top.nolimit (by k_asm) | exact TopRead.nolimit (by k_asm)); k_whole); intro d' h' o' F' N' l1 lo' hs' fs' hi' fi'; (try k_lt l1)))
theorem add_genV2 {prog : Program} {w : World} {A : Around} {E : Value → Shared → Prop} {s : Shared} {a b : Int} {ta tb : Tok} {Q : Value → Shared → Prop} (h : ∀ t tk, Q (.int (a + b) t) { s with toks := tk }) : wpAny (model prog w) A (binaryOp .Add (.int a ta) (.int b tb)) Q E s := add_int (h _ _)
local macro_rules | `(tactic| walk_at "binaryOp Add int int") => `(tactic| (k_here; with_reducible (refine add_genV2 ?_); intro t' tk'))


theorem lw_lessV2 {prog : Program} {w : World} {rs : List Row} {ks : List Int} {qs : List (Int × Value)} {oR : Obj} {T : List (Addr × Obj)} (W : Lw prog w rs qs oR T) : Lw prog w (less rs ks) qs oR T := lw_sub W fun _ hx => (List.mem_filter.mp hx).1
theorem keep_atV2 {T T' : List (Addr × Obj)} {p : Addr × Obj} (h : ∀ p ∈ T, p.2.cls ≠ .type "list" → p ∈ T') (hp : p ∈ T) (hc : p.2.cls ≠ .type "list") : p ∈ T' := h p hp hc
theorem at_putV2 {prog : Program} {w : World} {rs : List Row} {qs : List (Int × Value)} {key : Int} {v : Value} {oR : Obj} {T : List (Addr × Obj)} (_ : Lw prog w rs (stored qs key v) oR T) : valueAt (stored qs key v) key = some v := by rw [at_stored, if_pos rfl]
theorem off8V2 {p1 p2 p3 p4 p5 p6 p7 p8 P : Prop} (h : p1 ∧ p2 ∧ p3 ∧ p4 ∧ p5 ∧ p6 ∧ p7 ∧ p8 ∧ P) : P := h.2.2.2.2.2.2.2.2
theorem off9V2 {D : Addr} : ∀ {T : List (Addr × Obj)}, PyProof.Rows.LCg.Off1 D T → ∀ p ∈ T, p.1 ≠ D
  | [], _, _, h => nomatch h
  | q :: r, h, p, hp => by
    rcases List.mem_cons.mp hp with rfl | hp
    · exact h.1
    · exact off9V2 h.2 p hp
theorem bne_decV2 (a b : Int) : (a != b) = decide (a ≠ b) := by by_cases h : a = b <;> simp [h]
local macro_rules | `(tactic| walk_at "Eq") => `(tactic| exact bne_decV2 _ _)
theorem ne_ltV2 {T news : List (Addr × Obj)} {D : Addr} (l1 : ∀ p ∈ news, p.1 < D) (hs : ∀ p ∈ T, p ∈ news) : ∀ p ∈ T, p.1 ≠ D := fun p hp => Nat.ne_of_lt (l1 p (hs p hp))
theorem ne_atV2 {T news : List (Addr × Obj)} {D : Addr} (l1 : ∀ p ∈ news, p.1 ≠ D) (hs : ∀ p ∈ T, p ∈ news) : ∀ p ∈ T, p.1 ≠ D := fun p hp => l1 p (hs p hp)
theorem sqz_trueV2 {rs rs2 : List Row} {a b c : Int} (h : Sqz true rs rs2 a b c) : rs2 = rs := by
  rcases h with ⟨_, h⟩ | ⟨h, _⟩
  · exact h
  · cases h
theorem less_oneV2 {rs : List Row} {key : Int} (_ : key ∈ rs.map (·.k)) : (less rs [key]).map (·.k) = (rs.filter fun r => decide (r.k ≠ key)).map (·.k) := by
  have : less rs [key] = rs.filter fun r => decide (r.k ≠ key) := List.filter_congr fun r _ => by simp
  rw [this]
theorem less_noneV2 {rs : List Row} {key : Int} (h : key ∉ rs.map (·.k)) : rs.map (·.k) = (rs.filter fun r => decide (r.k ≠ key)).map (·.k) := by
  have : rs.filter (fun r => decide (r.k ≠ key)) = rs := List.filter_eq_self.mpr fun r hr => decide_eq_true fun e => h (e ▸ List.mem_map_of_mem hr)
  rw [this]
local macro_rules | `(tactic| k_all) => `(tactic| first | exact ne_atV2 (by assumption) (by ((repeat (refine sub_cons (by k_mem) ?_)); (repeat (first | exact sub_id | refine sub_tl ?_)))) | exact ne_ltV2 (by assumption) (by ((repeat (refine sub_cons (by k_mem) ?_)); (repeat (first | exact sub_id | refine sub_tl ?_)))))
local macro_rules | `(tactic| walk_at "binaryOp Add ref ref") => `(tactic| (k_here; (with_reducible show wpAny _ _ (binaryOp _ (Value.ref _) (Value.ref _)) _ _ _); k_dflt (refine' x_add_one ?F ?N ?m1 ?m2 ?i1 ?hz ?_; (case F => k_asm); (case N => k_asm); (case m1 => k_mem); (case m2 => k_mem); (case i1 => with_reducible assumption); (case hz => assumption); k_whole); intro D' us' h' F' N' l1 hi'; have l9' := l1; (try k_lt l1)))
local macro_rules | `(tactic| walk_at "compareOp In int ref") => `(tactic| (k_here; (with_reducible show wpAny _ _ (compareOp CmpOp.In (Value.int _ _) (Value.ref _)) _ _ _); k_dflt (first
  | (refine' x_in_yes ?N ?m1 ?i1 ?hin ?_; (case N => k_asm); (case m1 => k_mem); (case i1 => with_reducible assumption); (case hin => assumption); k_whole)
  | (refine' x_in_no ?N ?m1 ?i1 ?hin ?_; (case N => k_asm); (case m1 => k_mem); (case i1 => with_reducible assumption); (case hin => assumption); k_whole))))
local macro_rules | `(tactic| walk_at "compareOp NotIn int ref") => `(tactic| (k_here; (with_reducible show wpAny _ _ (compareOp CmpOp.NotIn (Value.int _ _) (Value.ref _)) _ _ _); k_dflt (first
  | (refine' x_notin_yes ?N ?m1 ?i1 ?hin ?_; (case N => k_asm); (case m1 => k_mem); (case i1 => with_reducible assumption); (case hin => assumption); k_whole)
  | (refine' x_notin_no ?N ?m1 ?i1 ?hin ?_; (case N => k_asm); (case m1 => k_mem); (case i1 => with_reducible assumption); (case hin => assumption); k_whole))))
local macro_rules | `(tactic| k_ne) => `(tactic| (refine neN ?_; (try dsimp only); first | assumption | (refine Ne.symm ?_; assumption) | omega))
local macro_rules | `(tactic| walk_at "CompSrcT") => `(tactic| (k_here; k_dflt (refine' comp_src_ne ?hdc _ ?hh ?F ?N ?m ?i ?z ?test ?turn ?fin; (case hdc => first | with_reducible assumption | assumption); (case hh => rfl); (case F => k_asm); (case N => k_asm); (case m => k_mem); (case i => with_reducible assumption); (case z => assumption)); (case' test => (intro g' r' hr' t' I' oI' C' oC' D' m2' h' tk' E' ys' hC' hx' F' N')); (case' turn => (intro g' r' hr' t' I' oI' C' oC' D' m2' h' tk' E' ys' hC' hx' F' N')); (case' fin => (intro g' us' hi'))))
local macro_rules | `(tactic| walk_at "Keep") => `(tactic| exact Keep.intro (by k_asm) (by k_asm))
local macro_rules | `(tactic| walk_at "exec Assign cons ListComp") => `(tactic| (k_here; lct_look; k_dflt (refine LCt.Assign_ListComp_T (F₀ := by k_asm) (by rfl) (by with_unfolding_all rfl) (by with_unfolding_all rfl) (by decide) (by rfl) (by decide) (by rfl) (by rfl) (by rfl) ?_)))

theorem ints_eqV2 {vs : List Value} {a b : List Int} (e : a = b) (h : IntsAre vs b) : IntsAre vs a := e ▸ h
theorem sq_ofV2 {rs rs2 : List Row} {a b c : Int} (h : Sqz false rs rs2 a b c) : Sq rs rs2 a b c := by
  rcases h with ⟨h, _⟩ | ⟨_, h⟩
  · cases h
  · exact h
local macro_rules | `(tactic| k_mem) => `(tactic| assumption)
local macro_rules | `(tactic| walk_at "eval Name") => `(tactic| (k_here; k_dflt (refine' nameX_L ?k1 ?k2 ?_ ?a ?b; (case a => rfl); (case b => rfl); (case k1 => k_asm); (case k2 => assumption); k_whole)))
local macro_rules | `(tactic| k_all) => `(tactic| first | exact Offs.o1 (by assumption) | exact Offs.o2 (by assumption) | exact Offs.o3 (by assumption) | exact Offs.o4 (by assumption) | exact Offs.o5 (by assumption) | exact Offs.o6 (by assumption) | exact Offs.o7 (by assumption))
local macro_rules | `(tactic| walk_at "call ref") => `(tactic| (k_here; (with_reducible show wpAny _ _ (call (Value.ref 116) _) _ _ _); k_dflt (refine' s_inc (rs := []) (qs := []) ?B ?F ?X ?N ?hs ?TP ?hk ?D ?O ?hd ?hu ?n0 ?n1 ?_; (case B => k_asm); (case F => k_asm); (case X => k_asm); (case N => k_asm); (case TP => k_asm); (case hk => exact rfl); (case D => assumption); (case O => assumption); (case hs => ((repeat (refine sub_cons (by k_mem) ?_)); (repeat (first | exact sub_id | refine sub_tl ?_)))); (case hd => ktr_room); (case hu => ktr_units); (case n0 => omega); (case n1 => omega); k_whole); intro t' h' tk' F' N'))
local macro_rules | `(tactic| walk_at "call ref") => `(tactic| (k_here; (with_reducible show wpAny _ _ (call (Value.ref 124) _) _ _ _); k_dflt (refine' s_get ?B ?F ?X ?N ?hs ?TP ?hk ?D ?O ?lo ?C ?W ?hd ?hu ?n0 ?n1 ?hit ?miss; (case B => k_asm); (case F => k_asm); (case X => k_asm); (case N => k_asm); (case TP => k_asm); (case hk => exact rfl); (case D => assumption); (case O => assumption); (case lo => assumption); (case C => assumption); (case W => assumption); (case hs => ((repeat (refine sub_cons (by k_mem) ?_)); (repeat (first | exact sub_id | refine sub_tl ?_)))); (case hd => ktr_room); (case hu => ktr_units); (case n0 => omega); (case n1 => omega)); (case' hit => (intro hin' v' st' qa' t1' n1' rs' T' tn' h' tk' hv' hq' hm' hke' hup' C' W' hkeep' O' F' N'; rcases hv' with hv' | ⟨j', tj', hv'⟩ <;> subst hv')); (case' miss => (intro hin' h' tk' F' N'))))
local macro_rules | `(tactic| walk_at "call ref") => `(tactic| (k_here; (with_reducible show wpAny _ _ (call (Value.ref 203) _) _ _ _); k_dflt (refine' s_read ?B ?F ?X ?N ?hs ?TP ?hk ?D ?O ?lo ?C ?W ?hd ?hu ?n0 ?n1 ?hit ?miss; (case B => k_asm); (case F => k_asm); (case X => k_asm); (case N => k_asm); (case TP => k_asm); (case hk => exact rfl); (case D => assumption); (case O => assumption); (case lo => assumption); (case C => assumption); (case W => assumption); (case hs => ((repeat (refine sub_cons (by k_mem) ?_)); (repeat (first | exact sub_id | refine sub_tl ?_)))); (case hd => ktr_room); (case hu => ktr_units); (case n0 => omega); (case n1 => omega)); (case' hit => (intro hin' v' st' qa' t1' n1' rs' T' tn' h' tk' hv' hq' hm' hke' hup' C' W' hkeep' O' F' N'; rcases hv' with hv' | ⟨j', tj', hv'⟩ <;> subst hv')); (case' miss => (intro hin' h' tk' F' N' t'))))
local macro_rules | `(tactic| walk_at "call ref") => `(tactic| (k_here; (with_reducible show wpAny _ _ (call (Value.ref 210) _) _ _ _); k_dflt (refine' s_take (qs := []) ?B ?F ?X ?N ?hs ?TP ?hk ?D ?O ?lo ?C ?hd ?hu ?hit ?miss; (case B => k_asm); (case F => k_asm); (case X => k_asm); (case N => k_asm); (case TP => k_asm); (case hk => exact rfl); (case D => assumption); (case O => assumption); (case lo => assumption); (case C => assumption); (case hs => ((repeat (refine sub_cons (by k_mem) ?_)); (repeat (first | exact sub_id | refine sub_tl ?_)))); (case hd => ktr_room); (case hu => ktr_units)); (case' hit => (intro hin' oD' h' tk' C' F' N'; have hle' := less_oneV2 hin')); (case' miss => (intro hin' h' tk' F' N'; have hle' := less_noneV2 hin'))))
local macro_rules | `(tactic| walk_at "call ref") => `(tactic| (k_here; (with_reducible show wpAny _ _ (call (Value.ref 174) _) _ _ _); k_dflt (refine' s_man (qs := []) ?B ?F ?X ?N ?hs ?TP ?hk ?D ?O ?lo ?C ?ht ?h0 ?h1 ?hd ?hu ?_; (case B => k_asm); (case F => k_asm); (case X => k_asm); (case N => k_asm); (case TP => k_asm); (case hk => exact rfl); (case D => assumption); (case O => assumption); (case lo => assumption); (case C => assumption); (case hs => ((repeat (refine sub_cons (by k_mem) ?_)); (repeat (first | exact sub_id | refine sub_tl ?_)))); (case ht => first | assumption | exact Thr.whole _ _ (by assumption) (by assumption) | exact Thr.half _); (case h0 => omega); (case h1 => omega); (case hd => ktr_room); (case hu => ktr_units); k_whole); intro rs2' oD' h' tk' hsq' C' F' N'))
local macro_rules | `(tactic| walk_at "call ref") => `(tactic| first | (k_here; (with_reducible show wpAny _ _ (call (Value.ref 196) _) _ _ _); k_dflt (refine' s_kept ?B ?F ?X ?N ?TP ?hk ?m1 ?m2 ?hi ?W ?hT ?lo ?hkn ?hkb ?ht ?h0 ?h1 ?hsq ?hd ?hu ?_ ?_; (case B => k_asm); (case F => k_asm); (case X => k_asm); (case N => k_asm); (case TP => k_asm); (case hk => exact rfl); (case m1 => k_mem); (case m2 => k_mem); (case hsq => exact sq_ofV2 (by assumption)); (case W => assumption); (case hi => first | assumption | exact ints_eqV2 (by assumption) (by assumption)); (case hT => ((repeat (refine sub_cons (by k_mem) ?_)); (repeat (first | exact sub_id | refine sub_tl ?_)))); (case lo => assumption); (case hkn => assumption); (case hkb => assumption); (case ht => first | assumption | exact Thr.whole _ 0 (by assumption) (by assumption) | exact Thr.half 0); (case h0 => omega); (case h1 => omega); (case hd => ktr_room); (case hu => ktr_units)); all_goals (first | (intro D' us' n' h' tk' hi' F' N' off') | (intro hrs' h' tk' F' N'))) | fail "no")
local macro_rules | `(tactic| walk_at "setItem ref int") => `(tactic| (k_here; k_dflt (refine' x_set_q ?F ?N ?U ?W ?P ?C ?O ?m1 ?a0 ?a5 ?hD ?_; (case F => k_asm); (case N => k_asm); (case U => k_updF); (case W => assumption); (case P => assumption); (case C => assumption); (case O => assumption); (case m1 => k_mem); (case a0 => assumption); (case a5 => assumption); (case hD => exact ⟨by k_ne, by k_ne, by k_ne, by k_ne, by k_ne, by k_ne, by k_ne⟩); k_whole); intro h' oR' F' N' W' C' O'; have hd9' := Lw.d W'; have hq9' := at_putV2 W'; (try dsimp only at N')))
local macro_rules | `(tactic| walk_at "setItem ref int") => `(tactic| (k_here; k_dflt (refine' s_set2 ?B ?F ?X ?N ?hs ?TP ?hk ?D ?O ?lo ?C ?W ?ht ?h0 ?h1 ?a0 ?a5 ?hv ?hd ?hu ?n0 ?n1 ?old ?new; (case B => k_asm); (case F => k_asm); (case X => k_asm); (case N => k_asm); (case TP => k_asm); (case hk => exact rfl); (case D => assumption); (case O => assumption); (case lo => assumption); (case C => assumption); (case W => assumption); (case hs => ((repeat (refine sub_cons (by k_mem) ?_)); (repeat (first | exact sub_id | refine sub_tl ?_)))); (case ht => assumption); (case h0 => omega); (case h1 => omega); (case a0 => assumption); (case a5 => assumption); (case hv => first | exact .inl rfl | exact .inr ⟨_, _, rfl⟩); (case hd => ktr_room); (case hu => ktr_units); (case n0 => omega); (case n1 => omega)); (case' old => (intro hin' rs1' rs2' oD' T' tn' h' tk' hke' hup' hkn' hkb' hsq' C' hkeep' W' O' F' N')); (case' new => (intro hin' rs1' rs2' oD' T' tn' h' tk' hke' hup' hkn' hkb' hsq' C' hkeep' W' O' F' N'))))
local macro_rules | `(tactic| walk_at "isTrue BoolOp") => `(tactic| (k_here; k_dflt (refine' tailB (qs := []) ?B ?F ?X ?N ?hs ?TP ?D ?lo ?C ?hi ?mc ?me ?_; (case B => k_asm); (case F => k_asm); (case X => k_asm); (case N => k_asm); (case TP => k_asm); (case D => assumption); (case me => first | exact rfl | assumption); (case mc => first | exact rfl | assumption); (case lo => assumption); (case C => assumption); (case hs => ((repeat (refine sub_cons (by k_mem) ?_)); (repeat (first | exact sub_id | refine sub_tl ?_)))); (case hi => first | assumption | exact ints_eqV2 (by assumption) (by assumption)); k_whole); intro h' tk' F' N'))
local macro_rules | `(tactic| walk_at "setItem ref") => `(tactic| (k_here; k_dflt (refine' x_set_q ?F ?N ?U ?W ?P ?C ?O ?m1 ?a0 ?a5 ?hD ?_; (case F => k_asm); (case N => k_asm); (case U => k_updF); (case W => assumption); (case P => assumption); (case C => assumption); (case O => assumption); (case m1 => k_mem); (case a0 => assumption); (case a5 => assumption); (case hD => exact ⟨by k_ne, by k_ne, by k_ne, by k_ne, by k_ne, by k_ne, by k_ne⟩); k_whole); intro h' oR' F' N' W' C' O'; have hd9' := Lw.d W'; have hq9' := at_putV2 W'; (try dsimp only at N')))
local macro_rules | `(tactic| walk_at "setItem ref") => `(tactic| (k_here; k_dflt (refine' s_set2 ?B ?F ?X ?N ?hs ?TP ?hk ?D ?O ?lo ?C ?W ?ht ?h0 ?h1 ?a0 ?a5 ?hv ?hd ?hu ?n0 ?n1 ?old ?new; (case B => k_asm); (case F => k_asm); (case X => k_asm); (case N => k_asm); (case TP => k_asm); (case hk => exact rfl); (case D => assumption); (case O => assumption); (case lo => assumption); (case C => assumption); (case W => assumption); (case hs => ((repeat (refine sub_cons (by k_mem) ?_)); (repeat (first | exact sub_id | refine sub_tl ?_)))); (case ht => assumption); (case h0 => omega); (case h1 => omega); (case a0 => assumption); (case a5 => assumption); (case hv => first | exact .inl rfl | exact .inr ⟨_, _, rfl⟩); (case hd => ktr_room); (case hu => ktr_units); (case n0 => omega); (case n1 => omega)); (case' old => (intro hin' rs1' rs2' oD' T' tn' h' tk' hke' hup' hkn' hkb' hsq' C' hkeep' W' O' F' N')); (case' new => (intro hin' rs1' rs2' oD' T' tn' h' tk' hke' hup' hkn' hkb' hsq' C' hkeep' W' O' F' N'))))

local macro_rules | `(tactic| walk_at "call ref") => `(tactic| (k_here; (with_reducible show wpAny _ _ (call (Value.ref 124) _) _ _ _); k_dflt (refine' s_getV ?B ?F ?X ?N ?hs ?TP ?hk ?D ?O ?lo ?C ?W ?hd ?hu ?n0 ?n1 ?hit ?miss; (case B => k_asm); (case F => k_asm); (case X => k_asm); (case N => k_asm); (case TP => k_asm); (case hk => exact rfl); (case D => assumption); (case O => assumption); (case lo => assumption); (case C => assumption); (case W => assumption); (case hs => ((repeat (refine sub_cons (by k_mem) ?_)); (repeat (first | exact sub_id | refine sub_tl ?_)))); (case hd => ktr_room); (case hu => ktr_units); (case n0 => omega); (case n1 => omega)); (case' hit => (intro hin' v' st' qa' t1' n1' rs' T' tn' h' tk' hv' hq' hm' hke' hup' C' W' hkeep' O' F' N'; rcases hv' with hv' | ⟨j', tj', hv'⟩ <;> subst hv')); (case' miss => (intro hin' h' tk' F' N'))))
def targetOf : PySem.Stmt → PySem.Expr
  | .For t _ _ _ _ => t
  | _ => default
def askTarget : PySem.Expr := targetOf (lastOf (forsOf (bodyOf lawDef)))
theorem not_list2 {oI : Obj} (h : oI.cls = .type "range_iterator") : oI.cls ≠ .type "list" := by rw [h]; exact fun e => absurd (Value.type.inj e) (by decide)
set_option maxHeartbeats 1000000 in
theorem ask {prog : Program} {w : World} {mean : ExcName → Option Value} {mg mb : Str → Option Value} {h₀ : Heap} {L fa I l : Addr} {oI : Obj} {cdv : Value} {m : Str → Option Value} {s : Shared} {Q : Flow → Shared → Prop} {E : Value → Shared → Prop}
    {c cd dD k kd rd : Addr} {th tke : Tok} {i : Nat} {key : Int}
    (B : Below callerA h₀ [] h₀) (X : (Mine.hd.heap_39 w.params).In h₀)
    (TP : Top Mine.hd.view_39 (looseW Mine.hd.view_39 [Str.ofString "itemgetter", Str.ofString "LRUCache"]) mean mg mb h₀) (D : Dist c cd dD k kd rd (L + 1)) (lo : (dD == sysModules) = false) (lo2 : (rd == sysModules) = false)
    (S : AkX prog w h₀ L l c cd dD k kd rd th I oI (i : Int) s.heap m) (hi4 : (i : Int) ≤ 60) (hk0 : 0 ≤ key) (hk5 : key ≤ 5) (hIc1 : oI.cls = .type "range_iterator")
    (fin : ∀ m' h' tk', AkX prog w h₀ L l c cd dD k kd rd th I oI ((i : Int) + 1) h' m' → Q .next { s with heap := h', toks := tk' }) :
    wpAny (model prog w) (callerA.deeper (envOfC (Str.ofString "law") lawScope L fa cdv)) (assign askTarget (envOfC (Str.ofString "law") lawScope L fa cdv) (.int key tke))
      (fun _ s₂ => wpAny (model prog w) (callerA.deeper (envOfC (Str.ofString "law") lawScope L fa cdv)) (execs askBody (envOfC (Str.ofString "law") lawScope L fa cdv)) Q E s₂) E s := by
  obtain ⟨n, room, num, den, tn, tc, t1, t2, t3, t4, thr, held, oD, oR, oC, oc0, e, vs, ne, rs, qs, T, hIT, S⟩ := S
  obtain ⟨F, N, O, C, W, hi, ht, hn0, hn1, h0, h1, hoc, m1, m2, m3, m4, m5, m6, m7, m8, m9, m10⟩ := S
  have hIc := not_list2 hIc1
  have hDR := W.d
  have hz6 : (rs.map (·.k)).length ≤ 1000 := by have := rows_six C.kn C.kb; simp; omega
  obtain ⟨d12, d13, d14, d15, d16, d17, d23, d24, d25, d26, d27, d34, d35, d36, d37, d45, d46, d47, d56, d57, d67⟩ := id D
  have xe1 : @Ne Nat e c := news_ne N (.tail _ (.tail _ (.tail _ (.tail _ (.tail _ (.tail _ (.head _))))))) (.head _) (by intro h; cases h)
  have xe2 : @Ne Nat e cd := news_ne N (.tail _ (.tail _ (.tail _ (.tail _ (.tail _ (.tail _ (.head _))))))) (.tail _ (.head _)) (fun e => absurd (Value.type.inj e) (by decide))
  have xe3 : @Ne Nat e dD := news_ne N (.tail _ (.tail _ (.tail _ (.tail _ (.tail _ (.tail _ (.head _))))))) (.tail _ (.tail _ (.head _))) (by show Value.type "list" ≠ oD.cls; rw [dict_cls C.d]; exact fun e => absurd (Value.type.inj e) (by decide))
  have xe4 : @Ne Nat e k := news_ne N (.tail _ (.tail _ (.tail _ (.tail _ (.tail _ (.tail _ (.head _))))))) (.tail _ (.tail _ (.tail _ (.head _)))) (by intro h; cases h)
  have xe5 : @Ne Nat e kd := news_ne N (.tail _ (.tail _ (.tail _ (.tail _ (.tail _ (.tail _ (.head _))))))) (.tail _ (.tail _ (.tail _ (.tail _ (.head _))))) (fun e => absurd (Value.type.inj e) (by decide))
  have xe6 : @Ne Nat e rd := news_ne N (.tail _ (.tail _ (.tail _ (.tail _ (.tail _ (.tail _ (.head _))))))) (.tail _ (.tail _ (.tail _ (.tail _ (.tail _ (.head _)))))) (by show Value.type "list" ≠ oR.cls; rw [dict_cls W.d]; exact fun e => absurd (Value.type.inj e) (by decide))
  have xe7 : @Ne Nat e (L + 1) := news_cell N (.tail _ (.tail _ (.tail _ (.tail _ (.tail _ (.tail _ (.head _))))))) (.tail _ (.tail _ (.tail _ (.tail _ (.tail _ (.tail _ (.tail _ (.head _)))))))) hoc
  conv in (occs := *) lawScope => all_goals whnf
  conv in (occs := *) askBody => all_goals whnf

  conv in (occs := *) askTarget => all_goals whnf
  k_steps
  all_goals (try (exfalso; omega; done))
  all_goals (refine' fin _ _ _ (AkX.intro (AkF.mk ?F ?N ?O ?C ?W ?hi ?ht ?n0 ?n1 ?h0 ?h1 ?hoc ?m1 ?m2 ?m3 ?m4 ?m5 ?m6 ?m7 ?m8 ?m9 ?m10) ?b); (case F => k_asm); (case m1 => first | exact rfl | assumption); (case m2 => first | exact rfl | assumption); (case m3 => first | exact rfl | assumption); (case m4 => first | exact rfl | assumption); (case m5 => first | exact rfl | assumption); (case m6 => first | exact rfl | assumption); (case m7 => first | exact rfl | assumption); (case m8 => first | exact rfl | assumption); (case m9 => first | exact rfl | assumption); (case m10 => first | exact rfl | assumption); (case O => assumption); (case C => first | assumption | exact cac_up (by assumption) (by omega)); (case W => first | assumption); (case N => (refine news_sub (by k_asm) ?_; ((repeat (refine sub_cons (by k_mem) ?_)); (repeat (first | exact sub_id | refine sub_tl ?_))))); (case hi => first | assumption | exact ints_eqV2 (by assumption) (by assumption)); (case ht => first | assumption | exact Thr.whole _ _ (by assumption) (by assumption) | exact Thr.half _); (case n0 => omega); (case n1 => omega); (case h0 => omega); (case h1 => omega); (case hoc => assumption); (case b => first | assumption | exact keep_atV2 (by assumption) (by assumption) (by assumption) | exact List.Mem.tail _ (by assumption)))

end Mine
end
section
namespace Mine
theorem fillV3 : True := by
  w_top off
  trivial

theorem st_a (n : Nat) : ((n + 1 : Nat) : Int) = (n : Int) + 1 := by omega
theorem akf_of {prog : Program} {w : World} {h₀ : Heap} {L l c cd dD k kd rd : Addr} {th : Tok} {bound : Int} {h : Heap} {m : Str → Option Value} {n room num den : Int} {tn tc t1 t2 t3 t4 : Tok} {thr : Value} {held : Bool} {oD oR oC : Obj} {oc : Option Value} {e : Addr} {vs : List Value} {ne : Nat} {rs : List Row} {qs : List (Int × Value)} {T : List (Addr × Obj)}
    (S : StF prog w h₀ L l c cd dD k kd rd th bound h m n room num den tn tc t1 t2 t3 t4 thr held oD oR oC oc e vs ne rs qs T) : AkF prog w h₀ L l c cd dD k kd rd th bound h m n room num den tn tc t1 t2 t3 t4 thr held oD oR oC oc e vs ne rs qs T :=
  ⟨S.F, S.N, S.O, S.C, lwv_of S.W, S.hi, S.ht, S.n0, S.n1, S.h0, S.h1, S.hoc, S.m1, S.m2, S.m3, S.m4, S.m5, S.m6, S.m7, S.m8, S.m9, S.m10⟩
section
variable {prog : Program} {w : World} {mean : ExcName → Option Value} {mg mb : Str → Option Value} {h₀ : Heap} {L fa l : Addr} {cdv : Value} {s : Shared} {Q : Flow → Shared → Prop} {E : Value → Shared → Prop}
    {c cd dD k kd rd : Addr} {th : Tok}
theorem askA {I : Addr} {b : Nat} (B : Below callerA h₀ [] h₀) (X : (Mine.hd.heap_39 w.params).In h₀)
    (TP : Top Mine.hd.view_39 (looseW Mine.hd.view_39 [Str.ofString "itemgetter", Str.ofString "LRUCache"]) mean mg mb h₀) (D : Dist c cd dD k kd rd (L + 1)) (lo : (dD == sysModules) = false) (lo2 : (rd == sysModules) = false)
    (hne : OffFix I c cd dD k kd rd (L + 1)) (hb : b ≤ 60)
    (done : ∀ m h tk, Ak prog w h₀ L l c cd dD k kd rd th (b : Int) h m → Q .next { s with heap := h, toks := tk }) :
    ∀ (ks : List Nat) (i : Nat) (m : Str → Option Value) (news : List (Addr × Obj)), (∀ j ∈ ks, j ≤ 5) → i + ks.length = b → InvA prog w h₀ L l c cd dD k kd rd th (i : Int) m news →
      ItemsRest prog w (callerA.deeper (envOfC (Str.ofString "law") lawScope L fa cdv)) E h₀ (envOfC (Str.ofString "law") lawScope L fa cdv) askTarget askBody Q s [(I, "range_iterator")] [] (ks.map askItm) m news := by
  intro ks
  induction ks with
  | nil =>
    intro i m news _ hi V
    have hi : i = b := hi
    subst hi
    exact ItemsRest.zero fun h tk F N => done m h tk (V h m (fun _ _ => rfl) F N)
  | cons j ks ih =>
    intro i m news hj hi V
    have hi : i + (ks.length + 1) = b := hi
    have hj5 := hj j (.head _)
    refine ItemsRest.tok fun t h tk F => AllObj.cons fun o ho => AllObj.nil fun N => ?_
    have S := V h m (fun _ _ => rfl) F (fun p hp => N p (List.mem_append_right _ hp))
    have SX := pushA S (fun p hp => N p (by rw [List.mem_singleton.mp hp]; exact .head _)) ho hne
    refine ask (s := { s with heap := h, toks := tk }) (tke := t) (key := (j : Int)) (i := i) B X TP D lo lo2 SX (by omega) (by omega) (by omega) ho fun m' h' tk' SX' => ?_
    obtain ⟨F', news', N', off, V'⟩ := popA SX' ho hne
    exact ⟨h', tk', m', news', rfl, F', N', fun p hp q hq => by rw [List.mem_singleton.mp hq]; exact off p hp, trivial, ih (i + 1) m' news' (fun x hx => hj x (.tail _ hx)) (by omega) (by rw [st_a]; exact V')⟩
theorem loop2 {r : Addr} {m : Str → Option Value} {t₀ u₀ v₀ : Tok} {i : Nat}
    {n room : Int} {tn tc : Tok} {thr : Value} {held : Bool} {oD oR oC : Obj} {e : Addr} {vs : List Value} {ne : Nat} {T : List (Addr × Obj)}
    (B : Below callerA h₀ [] h₀) (X : (Mine.hd.heap_39 w.params).In h₀)
    (TP : Top Mine.hd.view_39 (looseW Mine.hd.view_39 [Str.ofString "itemgetter", Str.ofString "LRUCache"]) mean mg mb h₀) (D : Dist c cd dD k kd rd (L + 1)) (lo : (dD == sysModules) = false) (lo2 : (rd == sysModules) = false)
    (hi : i ≤ 40) (R : IsRange s.heap r 0 6 1 t₀ u₀ v₀) (F : Fr h₀ L s.heap m) (N : News h₀ L s.heap ((c, lru cd dD k n tn (.int room tc) thr) :: (cd, dictOf [] 0) :: (dD, oD) :: (k, instObj 46 kd) :: (kd, lockD w.params th held) :: (rd, oR) :: (e, listOf (List.toArray vs) ne) :: (L + 1, oC) :: T))
    (V : InvA prog w h₀ L l c cd dD k kd rd th (i : Int) m ((c, lru cd dD k n tn (.int room tc) thr) :: (cd, dictOf [] 0) :: (dD, oD) :: (k, instObj 46 kd) :: (kd, lockD w.params th held) :: (rd, oR) :: (e, listOf (List.toArray vs) ne) :: (L + 1, oC) :: T))
    (done : ∀ m h tk, Ak prog w h₀ L l c cd dD k kd rd th ((i + 6 : Nat) : Int) h m → Q .next { s with heap := h, toks := tk }) :
    wpAny (model prog w) (callerA.deeper (envOfC (Str.ofString "law") lawScope L fa cdv)) (pyIter (.ref r)) (fun it s₂ => TurnsAt prog w (callerA.deeper (envOfC (Str.ofString "law") lawScope L fa cdv)) h₀ (envOfC (Str.ofString "law") lawScope L fa cdv) askTarget askBody Q E it s₂) E s := by
  refine iter_ask rfl R F N fun I hlt => ?_
  exact askA B X TP D lo lo2 (offFix_of hlt) (by omega) done [0, 1, 2, 3, 4, 5] i m _ (by decide) rfl V
end
end Mine
end
section
namespace Mine
theorem fillW0 : True := by
  w_top off
  trivial

section
variable {prog : Program} {w : World} {mean : ExcName → Option Value} {mg mb : Str → Option Value} {h₀ : Heap} {L fa l r : Addr} {cdv : Value} {s : Shared} {m : Str → Option Value} {Q : Flow → Shared → Prop} {E : Value → Shared → Prop}
    {c cd dD k kd rd : Addr} {th t₀ u₀ v₀ : Tok} {lv : List Value} {ns : List Int} {nn : Nat} {h : Heap} {bound : Int}
    {n room num den : Int} {tn tc t1 t2 t3 t4 : Tok} {thr : Value} {held : Bool} {oD oR oC : Obj} {oc : Option Value} {e : Addr} {vs : List Value} {ne : Nat} {rs : List Row} {qs : List (Int × Value)} {T : List (Addr × Obj)}
theorem St.elim {P : Prop} (S : St prog w h₀ L l c cd dD k kd rd th bound h m)
    (f : ∀ n room num den tn tc t1 t2 t3 t4 thr held oD oR oC oc e vs ne rs qs T, StF prog w h₀ L l c cd dD k kd rd th bound h m n room num den tn tc t1 t2 t3 t4 thr held oD oR oC oc e vs ne rs qs T → Fr h₀ L h m → News h₀ L h ((c, lru cd dD k n tn (.int room tc) thr) :: (cd, dictOf [] 0) :: (dD, oD) :: (k, instObj 46 kd) :: (kd, lockD w.params th held) :: (rd, oR) :: (e, listOf (List.toArray vs) ne) :: (L + 1, oC) :: T) → P) : P := by
  obtain ⟨n, room, num, den, tn, tc, t1, t2, t3, t4, thr, held, oD, oR, oC, oc, e, vs, ne, rs, qs, T, S⟩ := S
  exact f n room num den tn tc t1 t2 t3 t4 thr held oD oR oC oc e vs ne rs qs T S S.F S.N
theorem Ak.elim {P : Prop} (S : Ak prog w h₀ L l c cd dD k kd rd th bound h m)
    (f : ∀ n room tn tc t4 thr held oD oR oC e vs ne T, Fr h₀ L h m → News h₀ L h ((c, lru cd dD k n tn (.int room tc) thr) :: (cd, dictOf [] 0) :: (dD, oD) :: (k, instObj 46 kd) :: (kd, lockD w.params th held) :: (rd, oR) :: (e, listOf (List.toArray vs) ne) :: (L + 1, oC) :: T) → Offs T c cd dD k kd rd (L + 1) → 0 ≤ n → n ≤ bound → m (Str.ofString "c") = some (.ref c) → m (Str.ofString "counter") = some (.int n t4) → P) : P := by
  obtain ⟨n, room, num, den, tn, tc, t1, t2, t3, t4, thr, held, oD, oR, oC, oc, e, vs, ne, rs, qs, T, S⟩ := S
  exact f n room tn tc t4 thr held oD oR oC e vs ne T S.F S.N S.O S.n0 S.n1 S.m5 S.m9
theorem loop1S
    (B : Below callerA h₀ [] h₀) (X : (Mine.hd.heap_39 w.params).In h₀)
    (TP : Top Mine.hd.view_39 (looseW Mine.hd.view_39 [Str.ofString "itemgetter", Str.ofString "LRUCache"]) mean mg mb h₀) (D : Dist c cd dD k kd rd (L + 1)) (lo : (dD == sysModules) = false) (lo2 : (rd == sysModules) = false)
    (hL : h₀.IsList l lv.toArray) (hI : IntsAre lv ns) (hlay : (PyData.list (ns.map .int)).layable0 = true) (hnn : nn ≤ 40) (hlen : nn + 1 ≤ ns.length ∨ nn = 0)
    (R : IsRange s.heap r 0 (nn : Int) 1 t₀ u₀ v₀)
    (F : Fr h₀ L s.heap m) (N : News h₀ L s.heap ((c, lru cd dD k n tn (.int room tc) thr) :: (cd, dictOf [] 0) :: (dD, oD) :: (k, instObj 46 kd) :: (kd, lockD w.params th held) :: (rd, oR) :: (e, listOf (List.toArray vs) ne) :: (L + 1, oC) :: T)) (S : StF prog w h₀ L l c cd dD k kd rd th 0 h m n room num den tn tc t1 t2 t3 t4 thr held oD oR oC oc e vs ne rs qs T)
    (done : ∀ m h tk, St prog w h₀ L l c cd dD k kd rd th (nn : Int) h m → Q .next { s with heap := h, toks := tk }) :
    wpAny (model prog w) (callerA.deeper (envOfC (Str.ofString "law") lawScope L fa cdv)) (pyIter (.ref r)) (fun it s₂ => LoopAtV prog w (callerA.deeper (envOfC (Str.ofString "law") lawScope L fa cdv)) h₀ (envOfC (Str.ofString "law") lawScope L fa cdv) (Str.ofString "i") turnBody Q E it s₂) E s :=
  loop1 B X TP D lo lo2 hL hI hlay hnn hlen R F N (inv_of S) done
theorem loop2S {h' : Heap} {i : Nat}
    (B : Below callerA h₀ [] h₀) (X : (Mine.hd.heap_39 w.params).In h₀)
    (TP : Top Mine.hd.view_39 (looseW Mine.hd.view_39 [Str.ofString "itemgetter", Str.ofString "LRUCache"]) mean mg mb h₀) (D : Dist c cd dD k kd rd (L + 1)) (lo : (dD == sysModules) = false) (lo2 : (rd == sysModules) = false)
    (S : StF prog w h₀ L l c cd dD k kd rd th (i : Int) h' m n room num den tn tc t1 t2 t3 t4 thr held oD oR oC oc e vs ne rs qs T)
    (hi : i ≤ 40) (R : IsRange s.heap r 0 6 1 t₀ u₀ v₀) (F : Fr h₀ L s.heap m) (N : News h₀ L s.heap ((c, lru cd dD k n tn (.int room tc) thr) :: (cd, dictOf [] 0) :: (dD, oD) :: (k, instObj 46 kd) :: (kd, lockD w.params th held) :: (rd, oR) :: (e, listOf (List.toArray vs) ne) :: (L + 1, oC) :: T))
    (done : ∀ m h tk, Ak prog w h₀ L l c cd dD k kd rd th ((i + 6 : Nat) : Int) h m → Q .next { s with heap := h, toks := tk }) :
    wpAny (model prog w) (callerA.deeper (envOfC (Str.ofString "law") lawScope L fa cdv)) (pyIter (.ref r)) (fun it s₂ => TurnsAt prog w (callerA.deeper (envOfC (Str.ofString "law") lawScope L fa cdv)) h₀ (envOfC (Str.ofString "law") lawScope L fa cdv) askTarget askBody Q E it s₂) E s :=
  loop2 B X TP D lo lo2 hi R F N (inv_ofA (akf_of S)) done
/-- two places that hold objects of two forms are two -/
theorem news_nf {h₀ h : Heap} {L : Addr} {l : List (Addr × Obj)} {a b : Addr} {o o' : Obj} (N : News h₀ L h l) (h1 : (a, o) ∈ l) (h2 : (b, o') ∈ l) (hc : o ≠ o') : a ≠ b := fun e => by
  have g1 := (N _ h1).1
  have g2 := (N _ h2).1
  simp only at g1 g2
  rw [e, g2] at g1
  exact hc (Option.some.inj g1).symm
theorem not_cell {o o' : Obj} {x : Option Value} (h : o.data = .plain) (h' : o'.data = .cell x) : o ≠ o' := fun e => by rw [← e, h] at h'; cases h'
theorem dist_of (N : News h₀ L h ((c, lru cd dD k n tn (.int room tc) thr) :: (cd, dictOf [] 0) :: (dD, oD) :: (k, instObj 46 kd) :: (kd, lockD w.params th held) :: (rd, oR) :: (e, listOf (List.toArray vs) ne) :: (L + 1, oC) :: T)) (hoc : oC.data = .cell oc)
    (a1 : @LT.lt Nat _ (L + 1) cd) (a2 : @LT.lt Nat _ cd kd) (a3 : @LT.lt Nat _ c kd) (a4 : @LT.lt Nat _ kd dD) (a5 : @LT.lt Nat _ k dD) (a6 : @LT.lt Nat _ dD rd) (a7 : @LT.lt Nat _ c dD) : Dist c cd dD k kd rd (L + 1) := by
  have n1 : @Ne Nat c cd := news_ne N (.head _) (.tail _ (.head _)) (by intro h; cases h)
  have n2 : @Ne Nat c k := news_ne N (.head _) (.tail _ (.tail _ (.tail _ (.head _)))) (by intro h; exact absurd (Value.ref.inj h) (by decide))
  have n3 : @Ne Nat cd k := news_ne N (.tail _ (.head _)) (.tail _ (.tail _ (.tail _ (.head _)))) (by intro h; cases h)
  have n4 : @Ne Nat k kd := news_ne N (.tail _ (.tail _ (.tail _ (.head _)))) (.tail _ (.tail _ (.tail _ (.tail _ (.head _))))) (by intro h; cases h)
  have n5 : @Ne Nat c (L + 1) := news_nf N (.head _) (.tail _ (.tail _ (.tail _ (.tail _ (.tail _ (.tail _ (.tail _ (.head _)))))))) (not_cell rfl hoc)
  have n6 : @Ne Nat k (L + 1) := news_nf N (.tail _ (.tail _ (.tail _ (.head _)))) (.tail _ (.tail _ (.tail _ (.tail _ (.tail _ (.tail _ (.tail _ (.head _)))))))) (not_cell rfl hoc)
  exact ⟨n1, by refine neN ?_; omega, n2, by refine neN ?_; omega, by refine neN ?_; omega, n5, by refine neN ?_; omega, n3, by refine neN ?_; omega, by refine neN ?_; omega, by refine neN ?_; omega, by refine neN ?_; omega, by refine neN ?_; omega, by refine neN ?_; omega, by refine neN ?_; omega, n4, by refine neN ?_; omega, n6, by refine neN ?_; omega, by refine neN ?_; omega, by refine neN ?_; omega⟩
theorem offs_nil {c cd dD k kd rd ck : Addr} : Offs [] c cd dD k kd rd ck := ⟨fun _ h => (nomatch h), fun _ h => (nomatch h), fun _ h => (nomatch h), fun _ h => (nomatch h), fun _ h => (nomatch h), fun _ h => (nomatch h), fun _ h => (nomatch h)⟩
theorem cac_nil {e : Addr} (hd : oD.IsDictOf (PySem.intKind prog w) []) : Cac prog w [] oD [] e 0 :=
  ⟨hd, fun _ h => (nomatch h), List.nodup_nil, fun _ h => (nomatch h), List.nodup_nil, fun _ h => (nomatch h), List.nodup_nil, fun _ h => (nomatch h), fun _ h => (nomatch h), fun _ h => (nomatch h)⟩
theorem lw_nil (hd : oR.IsDictOf (PySem.intKind prog w) []) : Lw prog w [] [] oR [] := ⟨hd, List.nodup_nil, fun _ h => (nomatch h), fun _ h => (nomatch h)⟩
end
end Mine
end
section
namespace Mine
local macro_rules | `(tactic| walk_at "none of mine") => `(tactic| fail "none")
local macro_rules | `(tactic| walk_at "none of mine") => `(tactic| fail "none")
local macro_rules | `(tactic| walk_at "none of mine") => `(tactic| fail "none")
local macro_rules | `(tactic| walk_at "none of mine") => `(tactic| fail "none")
local macro_rules | `(tactic| walk_at "none of mine") => `(tactic| fail "none")
local macro_rules | `(tactic| walk_at "none of mine") => `(tactic| fail "none")
local macro_rules | `(tactic| walk_at "none of mine") => `(tactic| fail "none")
local macro_rules | `(tactic| walk_at "none of mine") => `(tactic| fail "none")
local macro_rules | `(tactic| walk_at "none of mine") => `(tactic| fail "none")
theorem fillX1 : True := by
  w_top off
  trivial


local macro_rules | `(tactic| k_room) => `(tactic| ktr_room)
local macro_rules | `(tactic| k_units) => `(tactic| ktr_units)
local macro_rules | `(tactic| ktr_enter) => `(tactic| (refine' code_def ?k1 ?k2 ?k3 ?k4 ?k5 ?kA ?kF ?kK ?k6 ?k7 ?k8 ?k9 ?kB ?_ ?c2 ?c3 ?c4 ?c5; (case kA => exact rfl); (case kF => exact rfl); (case kK => first | assumption | exact rfl); (case k1 => k_asm); (case k2 => k_asm); (case k3 => k_asm); (case k4 => k_asm); (case k5 => k_asm); (case k6 => k_is); (case k7 => k_is); (case k8 => ktr_room); (case k9 => first | exact BindsTo.of_eq rfl | exact binds_K (by k_in) rfl (by k_is) rfl rfl rfl | fail "ktr_enter: no rule for these arguments"); (case c5 => decide); (case kB => exact locs rfl); (case c2 => exact rfl); (case c3 => exact rfl); (case c4 => exact rfl); k_whole; intro g' L' h' FG' F' N' B' X' T'; (try dsimp only); (try k_fold)))
local macro_rules | `(tactic| k_lt $h:ident) => `(tactic| (replace $h := allLt_of $h; simp only [AllLt, and_true] at $h:ident; (try ((fail_if_success (rename AllLt _ _ => l6)); have l7 : AllLt _ _ := (by first | exact ($h).2 | exact ($h).2.2 | exact ($h).2.2.2 | exact ($h).2.2.2.2 | exact ($h).2.2.2.2.2 | exact ($h).2.2.2.2.2.2 | exact ($h).2.2.2.2.2.2.2 | exact ($h).2.2.2.2.2.2.2.2 | exact ($h).2.2.2.2.2.2.2.2.2 | exact ($h).2.2.2.2.2.2.2.2.2.2 | exact ($h).2.2.2.2.2.2.2.2.2.2.2 | exact ($h).2.2.2.2.2.2.2.2.2.2.2.2)))))
local macro_rules | `(tactic| k_all) => `(tactic| (refine' allLt_ne ?h6 ?h7; (case h6 => assumption); (case h7 => ((try dsimp only); omega))))
local macro_rules | `(tactic| k_all) => `(tactic| with_reducible assumption)
local macro_rules | `(tactic| walk_at "call builtin:len") => `(tactic| (k_here; (with_reducible show wpAny _ _ (call (Value.builtin "len") [Value.ref _]) _ _ _); k_dflt (refine' kda_len (knd := PySem.intKind _ _) ?N ?m ?d ?lo ?f ?_; (case N => k_asm); (case m => k_mem); (case d => k_asm); (case lo => k_asm); (case f => assumption); k_whole)))
local macro_rules | `(tactic| walk_at "getMethod ref") => `(tactic| (k_here; (with_reducible show wpAny _ _ (getMethod (Value.ref _) (Str.ofString "get") _) _ _ _); k_dflt (refine' kdg_method (knd := PySem.intKind _ _) ?N ?m ?d ?_; (case N => k_asm); (case m => k_mem); (case d => k_asm); k_whole)))
local macro_rules | `(tactic| walk_at "call builtin:dict.get") => `(tactic| (k_here; (with_reducible show wpAny _ _ (call (Value.builtin "dict.get") [Value.ref _, Value.int _ _]) _ _ _); k_dflt (refine' kdg_get1 (knd := PySem.intKind _ _) ?N ?m ?d ?lo (intKind_is _ _ _ _) _ ?hl ?_; (case N => k_asm); (case m => k_mem); (case d => k_asm); (case lo => k_asm); (case hl => assumption); k_whole; (try dsimp only [Option.getD]))))
local macro_rules | `(tactic| walk_at "subscriptTail") => `(tactic| (k_here; (with_reducible show wpAny _ _ (subscriptTail _ _ (Value.ref _) (Value.int _ _)) _ _ _); k_dflt (refine' kda_item (knd := PySem.intKind _ _) ?N ?m ?d (intKind_is _ _ _ _) ?hl ?_; (case N => k_asm); (case m => k_mem); (case d => k_asm); (case hl => assumption); k_whole)))
theorem x_get_missX1 {prog : Program} {w : World} {A : Around} {E : Value → Shared → Prop} {s : Shared} {h₀ : Heap} {L d : Addr} {news : List (Addr × Obj)} {o : Obj} {kvs : List (Int × Value)} {k : Int} {t : Tok} {Q : Value → Shared → Prop}
    (N : News h₀ L s.heap news) (hp : (d, o) ∈ news) (hd : o.IsDictOf (PySem.intKind prog w) kvs) (lo : (d == sysModules) = false) (hh : A.handled = none) (hl : valueAt kvs k = none)
    (h : ∀ h' e, Heap.NewExc s.heap h' e "KeyError" → E (.ref e) { s with heap := h', toks := s.toks + 1 }) : wpAny (model prog w) A (getItem (.ref d) (.int k t)) Q E s :=
  wpAny_getItem_missing_of (intKind_is _ _ _ _) lo hh (kda_dict N hp hd).mapOf hl h
local macro_rules | `(tactic| walk_at "getItem ref int") => `(tactic| (k_here; k_dflt (refine' x_get_missX1 ?N ?m ?d ?lo ?hh ?hl ?_; (case N => k_asm); (case m => k_mem); (case d => k_asm); (case lo => k_asm); (case hh => exact rfl); (case hl => assumption); k_whole); intro h' e' x'))
local macro_rules | `(tactic| walk_at "getItem ref int") => `(tactic| (k_here; k_dflt (refine' kdt_getItem (knd := PySem.intKind _ _) ?N ?m ?d (intKind_is _ _ _ _) ?hl ?_; (case N => k_asm); (case m => k_mem); (case d => k_asm); (case hl => assumption); k_whole)))
local macro_rules | `(tactic| walk_at "delItem ref int") => `(tactic| (k_here; k_dflt (refine' x_del_miss ?N ?m ?d ?lo ?hh ?hl ?_; (case N => k_asm); (case m => k_mem); (case d => k_asm); (case lo => k_asm); (case hh => exact rfl); (case hl => assumption); k_whole); intro h' e' x'))
local macro_rules | `(tactic| walk_at "delItem ref int") => `(tactic| (k_here; k_dflt (refine' kob_del (knd := PySem.intKind _ _) ?F ?N ?U ?d (intKind_is _ _ _ _) ?l ?z ?_; (case F => k_asm); (case N => k_asm); (case U => k_updF); (case d => k_asm); (case l => assumption); (case z => first | assumption | (rw [sizeLine_eq]; assumption)); k_whole); intro h' o' F' N' hd'; (try dsimp only at N')))
theorem x_del_ownX1 {M : Model} {A : Around} {E : Value → Shared → Prop} {s : Shared} {K : Frag} {x C L f : Addr} {h₀ : Heap} {m : Str → Option Value} {ox : Obj} {od : Option Obj} {i : Value} {Q : Unit → Shared → Prop}
    (F : Fr h₀ L s.heap m) (X₀ : K.In h₀) (I : InstAt s.heap x ox C od) (hq : noSeq K C = true) (hs : findIn K (.ref C) "__delitem__" = some (some (.ref f))) (hf : isFn K (.ref f) = true)
    (h : wpAny M A (call (.ref f) [.ref x, i]) (fun _ s' => Q () s') E s) : wpAny M A (delItem (.ref x) i) Q E s := by
  have X := X₀.keeps F.keep
  unfold delItem sequenceKey
  refine wpAny_holding (wpAny_bind (wpAny_bind (I.type.here ?_)))
  refine wpAny_bind ((anyM_none X hq).here ?_)
  rw [if_pos (show (!false) = true from rfl)]
  exact wpAny_pure (wpAny_bind (special_fn X I hs (beq_iff_eq.mp hf) (wpAny_mono h (fun _ _ z => wpAny_pure z) fun _ _ z => z)))
local macro_rules | `(tactic| walk_at "delItem ref int") => `(tactic| (k_here; k_dflt (refine' x_del_ownX1 ?k1 ?k2 ?k3 ?k4 ?k5 ?k6 ?_; (case k1 => k_asm); (case k2 => k_asm); (case k3 => k_inst); (case k4 => k_is); (case k5 => k_is); (case k6 => k_is); k_whole)))
local macro_rules | `(tactic| walk_at "WhlIf") => `(tactic| (first | (refine WhlIf.yes (decide_eq_true (by omega)) ?_) | (refine WhlIf.no (decide_eq_false (by omega)) ?_)))
local macro_rules | `(tactic| walk_at "eval Dict nil nil") => `(tactic| (k_here; k_dflt (refine' newDict_K ?k1 ?k2 ?k3 ?_; (case k1 => k_asm); (case k2 => k_asm); (case k3 => first | exact Top.nolimit (by k_asm) | exact TopRead.nolimit (by k_asm)); k_whole); intro d' h' o' F' N' l1 lo' hs' fs' hi' fi'; (try k_lt l1)))
theorem add_genX1 {prog : Program} {w : World} {A : Around} {E : Value → Shared → Prop} {s : Shared} {a b : Int} {ta tb : Tok} {Q : Value → Shared → Prop} (h : ∀ t tk, Q (.int (a + b) t) { s with toks := tk }) : wpAny (model prog w) A (binaryOp .Add (.int a ta) (.int b tb)) Q E s := add_int (h _ _)
local macro_rules | `(tactic| walk_at "binaryOp Add int int") => `(tactic| (k_here; with_reducible (refine add_genX1 ?_); intro t' tk'))


theorem lw_lessX1 {prog : Program} {w : World} {rs : List Row} {ks : List Int} {qs : List (Int × Value)} {oR : Obj} {T : List (Addr × Obj)} (W : Lw prog w rs qs oR T) : Lw prog w (less rs ks) qs oR T := lw_sub W fun _ hx => (List.mem_filter.mp hx).1
theorem keep_atX1 {T T' : List (Addr × Obj)} {p : Addr × Obj} (h : ∀ p ∈ T, p.2.cls ≠ .type "list" → p ∈ T') (hp : p ∈ T) (hc : p.2.cls ≠ .type "list") : p ∈ T' := h p hp hc
theorem at_putX1 {prog : Program} {w : World} {rs : List Row} {qs : List (Int × Value)} {key : Int} {v : Value} {oR : Obj} {T : List (Addr × Obj)} (_ : Lw prog w rs (stored qs key v) oR T) : valueAt (stored qs key v) key = some v := by rw [at_stored, if_pos rfl]
theorem off8X1 {p1 p2 p3 p4 p5 p6 p7 p8 P : Prop} (h : p1 ∧ p2 ∧ p3 ∧ p4 ∧ p5 ∧ p6 ∧ p7 ∧ p8 ∧ P) : P := h.2.2.2.2.2.2.2.2
theorem off9X1 {D : Addr} : ∀ {T : List (Addr × Obj)}, PyProof.Rows.LCg.Off1 D T → ∀ p ∈ T, p.1 ≠ D
  | [], _, _, h => nomatch h
  | q :: r, h, p, hp => by
    rcases List.mem_cons.mp hp with rfl | hp
    · exact h.1
    · exact off9X1 h.2 p hp
theorem bne_decX1 (a b : Int) : (a != b) = decide (a ≠ b) := by by_cases h : a = b <;> simp [h]
local macro_rules | `(tactic| walk_at "Eq") => `(tactic| exact bne_decX1 _ _)
theorem ne_ltX1 {T news : List (Addr × Obj)} {D : Addr} (l1 : ∀ p ∈ news, p.1 < D) (hs : ∀ p ∈ T, p ∈ news) : ∀ p ∈ T, p.1 ≠ D := fun p hp => Nat.ne_of_lt (l1 p (hs p hp))
theorem ne_atX1 {T news : List (Addr × Obj)} {D : Addr} (l1 : ∀ p ∈ news, p.1 ≠ D) (hs : ∀ p ∈ T, p ∈ news) : ∀ p ∈ T, p.1 ≠ D := fun p hp => l1 p (hs p hp)
theorem sqz_trueX1 {rs rs2 : List Row} {a b c : Int} (h : Sqz true rs rs2 a b c) : rs2 = rs := by
  rcases h with ⟨_, h⟩ | ⟨h, _⟩
  · exact h
  · cases h
theorem less_oneX1 {rs : List Row} {key : Int} (_ : key ∈ rs.map (·.k)) : (less rs [key]).map (·.k) = (rs.filter fun r => decide (r.k ≠ key)).map (·.k) := by
  have : less rs [key] = rs.filter fun r => decide (r.k ≠ key) := List.filter_congr fun r _ => by simp
  rw [this]
theorem less_noneX1 {rs : List Row} {key : Int} (h : key ∉ rs.map (·.k)) : rs.map (·.k) = (rs.filter fun r => decide (r.k ≠ key)).map (·.k) := by
  have : rs.filter (fun r => decide (r.k ≠ key)) = rs := List.filter_eq_self.mpr fun r hr => decide_eq_true fun e => h (e ▸ List.mem_map_of_mem hr)
  rw [this]
local macro_rules | `(tactic| k_all) => `(tactic| first | exact ne_atX1 (by assumption) (by ((repeat (refine sub_cons (by k_mem) ?_)); (repeat (first | exact sub_id | refine sub_tl ?_)))) | exact ne_ltX1 (by assumption) (by ((repeat (refine sub_cons (by k_mem) ?_)); (repeat (first | exact sub_id | refine sub_tl ?_)))))
local macro_rules | `(tactic| walk_at "binaryOp Add ref ref") => `(tactic| (k_here; (with_reducible show wpAny _ _ (binaryOp _ (Value.ref _) (Value.ref _)) _ _ _); k_dflt (refine' x_add_one ?F ?N ?m1 ?m2 ?i1 ?hz ?_; (case F => k_asm); (case N => k_asm); (case m1 => k_mem); (case m2 => k_mem); (case i1 => with_reducible assumption); (case hz => assumption); k_whole); intro D' us' h' F' N' l1 hi'; have l9' := l1; (try k_lt l1)))
local macro_rules | `(tactic| walk_at "compareOp In int ref") => `(tactic| (k_here; (with_reducible show wpAny _ _ (compareOp CmpOp.In (Value.int _ _) (Value.ref _)) _ _ _); k_dflt (first
  | (refine' x_in_yes ?N ?m1 ?i1 ?hin ?_; (case N => k_asm); (case m1 => k_mem); (case i1 => with_reducible assumption); (case hin => assumption); k_whole)
  | (refine' x_in_no ?N ?m1 ?i1 ?hin ?_; (case N => k_asm); (case m1 => k_mem); (case i1 => with_reducible assumption); (case hin => assumption); k_whole))))
local macro_rules | `(tactic| walk_at "compareOp NotIn int ref") => `(tactic| (k_here; (with_reducible show wpAny _ _ (compareOp CmpOp.NotIn (Value.int _ _) (Value.ref _)) _ _ _); k_dflt (first
  | (refine' x_notin_yes ?N ?m1 ?i1 ?hin ?_; (case N => k_asm); (case m1 => k_mem); (case i1 => with_reducible assumption); (case hin => assumption); k_whole)
  | (refine' x_notin_no ?N ?m1 ?i1 ?hin ?_; (case N => k_asm); (case m1 => k_mem); (case i1 => with_reducible assumption); (case hin => assumption); k_whole))))
local macro_rules | `(tactic| k_ne) => `(tactic| (refine neN ?_; (try dsimp only); first | assumption | (refine Ne.symm ?_; assumption) | omega))
local macro_rules | `(tactic| walk_at "CompSrcT") => `(tactic| (k_here; k_dflt (refine' comp_src_ne ?hdc _ ?hh ?F ?N ?m ?i ?z ?test ?turn ?fin; (case hdc => first | with_reducible assumption | assumption); (case hh => rfl); (case F => k_asm); (case N => k_asm); (case m => k_mem); (case i => with_reducible assumption); (case z => assumption)); (case' test => (intro g' r' hr' t' I' oI' C' oC' D' m2' h' tk' E' ys' hC' hx' F' N')); (case' turn => (intro g' r' hr' t' I' oI' C' oC' D' m2' h' tk' E' ys' hC' hx' F' N')); (case' fin => (intro g' us' hi'))))
local macro_rules | `(tactic| walk_at "Keep") => `(tactic| exact Keep.intro (by k_asm) (by k_asm))
local macro_rules | `(tactic| walk_at "exec Assign cons ListComp") => `(tactic| (k_here; lct_look; k_dflt (refine LCt.Assign_ListComp_T (F₀ := by k_asm) (by rfl) (by with_unfolding_all rfl) (by with_unfolding_all rfl) (by decide) (by rfl) (by decide) (by rfl) (by rfl) (by rfl) ?_)))

theorem ints_eqX1 {vs : List Value} {a b : List Int} (e : a = b) (h : IntsAre vs b) : IntsAre vs a := e ▸ h
theorem sq_ofX1 {rs rs2 : List Row} {a b c : Int} (h : Sqz false rs rs2 a b c) : Sq rs rs2 a b c := by
  rcases h with ⟨h, _⟩ | ⟨_, h⟩
  · cases h
  · exact h
local macro_rules | `(tactic| k_mem) => `(tactic| assumption)
local macro_rules | `(tactic| walk_at "eval Name") => `(tactic| (k_here; k_dflt (refine' nameX_L ?k1 ?k2 ?_ ?a ?b; (case a => rfl); (case b => rfl); (case k1 => k_asm); (case k2 => assumption); k_whole)))
local macro_rules | `(tactic| k_all) => `(tactic| first | exact Offs.o1 (by assumption) | exact Offs.o2 (by assumption) | exact Offs.o3 (by assumption) | exact Offs.o4 (by assumption) | exact Offs.o5 (by assumption) | exact Offs.o6 (by assumption) | exact Offs.o7 (by assumption))
local macro_rules | `(tactic| walk_at "call ref") => `(tactic| (k_here; (with_reducible show wpAny _ _ (call (Value.ref 116) _) _ _ _); k_dflt (refine' s_inc (rs := []) (qs := []) ?B ?F ?X ?N ?hs ?TP ?hk ?D ?O ?hd ?hu ?n0 ?n1 ?_; (case B => k_asm); (case F => k_asm); (case X => k_asm); (case N => k_asm); (case TP => k_asm); (case hk => exact rfl); (case D => assumption); (case O => assumption); (case hs => ((repeat (refine sub_cons (by k_mem) ?_)); (repeat (first | exact sub_id | refine sub_tl ?_)))); (case hd => ktr_room); (case hu => ktr_units); (case n0 => omega); (case n1 => omega); k_whole); intro t' h' tk' F' N'))
local macro_rules | `(tactic| walk_at "call ref") => `(tactic| (k_here; (with_reducible show wpAny _ _ (call (Value.ref 124) _) _ _ _); k_dflt (refine' s_get ?B ?F ?X ?N ?hs ?TP ?hk ?D ?O ?lo ?C ?W ?hd ?hu ?n0 ?n1 ?hit ?miss; (case B => k_asm); (case F => k_asm); (case X => k_asm); (case N => k_asm); (case TP => k_asm); (case hk => exact rfl); (case D => assumption); (case O => assumption); (case lo => assumption); (case C => assumption); (case W => assumption); (case hs => ((repeat (refine sub_cons (by k_mem) ?_)); (repeat (first | exact sub_id | refine sub_tl ?_)))); (case hd => ktr_room); (case hu => ktr_units); (case n0 => omega); (case n1 => omega)); (case' hit => (intro hin' v' st' qa' t1' n1' rs' T' tn' h' tk' hv' hq' hm' hke' hup' C' W' hkeep' O' F' N'; rcases hv' with hv' | ⟨j', tj', hv'⟩ <;> subst hv')); (case' miss => (intro hin' h' tk' F' N'))))
local macro_rules | `(tactic| walk_at "call ref") => `(tactic| (k_here; (with_reducible show wpAny _ _ (call (Value.ref 203) _) _ _ _); k_dflt (refine' s_read ?B ?F ?X ?N ?hs ?TP ?hk ?D ?O ?lo ?C ?W ?hd ?hu ?n0 ?n1 ?hit ?miss; (case B => k_asm); (case F => k_asm); (case X => k_asm); (case N => k_asm); (case TP => k_asm); (case hk => exact rfl); (case D => assumption); (case O => assumption); (case lo => assumption); (case C => assumption); (case W => assumption); (case hs => ((repeat (refine sub_cons (by k_mem) ?_)); (repeat (first | exact sub_id | refine sub_tl ?_)))); (case hd => ktr_room); (case hu => ktr_units); (case n0 => omega); (case n1 => omega)); (case' hit => (intro hin' v' st' qa' t1' n1' rs' T' tn' h' tk' hv' hq' hm' hke' hup' C' W' hkeep' O' F' N'; rcases hv' with hv' | ⟨j', tj', hv'⟩ <;> subst hv')); (case' miss => (intro hin' h' tk' F' N' t'))))
local macro_rules | `(tactic| walk_at "call ref") => `(tactic| (k_here; (with_reducible show wpAny _ _ (call (Value.ref 210) _) _ _ _); k_dflt (refine' s_take (qs := []) ?B ?F ?X ?N ?hs ?TP ?hk ?D ?O ?lo ?C ?hd ?hu ?hit ?miss; (case B => k_asm); (case F => k_asm); (case X => k_asm); (case N => k_asm); (case TP => k_asm); (case hk => exact rfl); (case D => assumption); (case O => assumption); (case lo => assumption); (case C => assumption); (case hs => ((repeat (refine sub_cons (by k_mem) ?_)); (repeat (first | exact sub_id | refine sub_tl ?_)))); (case hd => ktr_room); (case hu => ktr_units)); (case' hit => (intro hin' oD' h' tk' C' F' N'; have hle' := less_oneX1 hin')); (case' miss => (intro hin' h' tk' F' N'; have hle' := less_noneX1 hin'))))
local macro_rules | `(tactic| walk_at "call ref") => `(tactic| (k_here; (with_reducible show wpAny _ _ (call (Value.ref 174) _) _ _ _); k_dflt (refine' s_man (qs := []) ?B ?F ?X ?N ?hs ?TP ?hk ?D ?O ?lo ?C ?ht ?h0 ?h1 ?hd ?hu ?_; (case B => k_asm); (case F => k_asm); (case X => k_asm); (case N => k_asm); (case TP => k_asm); (case hk => exact rfl); (case D => assumption); (case O => assumption); (case lo => assumption); (case C => assumption); (case hs => ((repeat (refine sub_cons (by k_mem) ?_)); (repeat (first | exact sub_id | refine sub_tl ?_)))); (case ht => first | assumption | exact Thr.whole _ _ (by assumption) (by assumption) | exact Thr.half _); (case h0 => omega); (case h1 => omega); (case hd => ktr_room); (case hu => ktr_units); k_whole); intro rs2' oD' h' tk' hsq' C' F' N'))
local macro_rules | `(tactic| walk_at "call ref") => `(tactic| first | (k_here; (with_reducible show wpAny _ _ (call (Value.ref 196) _) _ _ _); k_dflt (refine' s_kept ?B ?F ?X ?N ?TP ?hk ?m1 ?m2 ?hi ?W ?hT ?lo ?hkn ?hkb ?ht ?h0 ?h1 ?hsq ?hd ?hu ?_ ?_; (case B => k_asm); (case F => k_asm); (case X => k_asm); (case N => k_asm); (case TP => k_asm); (case hk => exact rfl); (case m1 => k_mem); (case m2 => k_mem); (case hsq => exact sq_ofX1 (by assumption)); (case W => assumption); (case hi => first | assumption | exact ints_eqX1 (by assumption) (by assumption)); (case hT => ((repeat (refine sub_cons (by k_mem) ?_)); (repeat (first | exact sub_id | refine sub_tl ?_)))); (case lo => assumption); (case hkn => assumption); (case hkb => assumption); (case ht => first | assumption | exact Thr.whole _ 0 (by assumption) (by assumption) | exact Thr.half 0); (case h0 => omega); (case h1 => omega); (case hd => ktr_room); (case hu => ktr_units)); all_goals (first | (intro D' us' n' h' tk' hi' F' N' off') | (intro hrs' h' tk' F' N'))) | fail "no")
local macro_rules | `(tactic| walk_at "setItem ref int") => `(tactic| (k_here; k_dflt (refine' x_set_q ?F ?N ?U ?W ?P ?C ?O ?m1 ?a0 ?a5 ?hD ?_; (case F => k_asm); (case N => k_asm); (case U => k_updF); (case W => assumption); (case P => assumption); (case C => assumption); (case O => assumption); (case m1 => k_mem); (case a0 => assumption); (case a5 => assumption); (case hD => exact ⟨by k_ne, by k_ne, by k_ne, by k_ne, by k_ne, by k_ne, by k_ne⟩); k_whole); intro h' oR' F' N' W' C' O'; have hd9' := Lw.d W'; have hq9' := at_putX1 W'; (try dsimp only at N')))
local macro_rules | `(tactic| walk_at "setItem ref int") => `(tactic| (k_here; k_dflt (refine' s_set2 ?B ?F ?X ?N ?hs ?TP ?hk ?D ?O ?lo ?C ?W ?ht ?h0 ?h1 ?a0 ?a5 ?hv ?hd ?hu ?n0 ?n1 ?old ?new; (case B => k_asm); (case F => k_asm); (case X => k_asm); (case N => k_asm); (case TP => k_asm); (case hk => exact rfl); (case D => assumption); (case O => assumption); (case lo => assumption); (case C => assumption); (case W => assumption); (case hs => ((repeat (refine sub_cons (by k_mem) ?_)); (repeat (first | exact sub_id | refine sub_tl ?_)))); (case ht => assumption); (case h0 => omega); (case h1 => omega); (case a0 => assumption); (case a5 => assumption); (case hv => first | exact .inl rfl | exact .inr ⟨_, _, rfl⟩); (case hd => ktr_room); (case hu => ktr_units); (case n0 => omega); (case n1 => omega)); (case' old => (intro hin' rs1' rs2' oD' T' tn' h' tk' hke' hup' hkn' hkb' hsq' C' hkeep' W' O' F' N')); (case' new => (intro hin' rs1' rs2' oD' T' tn' h' tk' hke' hup' hkn' hkb' hsq' C' hkeep' W' O' F' N'))))
local macro_rules | `(tactic| walk_at "isTrue BoolOp") => `(tactic| (k_here; k_dflt (refine' tailB (qs := []) ?B ?F ?X ?N ?hs ?TP ?D ?lo ?C ?hi ?mc ?me ?_; (case B => k_asm); (case F => k_asm); (case X => k_asm); (case N => k_asm); (case TP => k_asm); (case D => assumption); (case me => first | exact rfl | assumption); (case mc => first | exact rfl | assumption); (case lo => assumption); (case C => assumption); (case hs => ((repeat (refine sub_cons (by k_mem) ?_)); (repeat (first | exact sub_id | refine sub_tl ?_)))); (case hi => first | assumption | exact ints_eqX1 (by assumption) (by assumption)); k_whole); intro h' tk' F' N'))
local macro_rules | `(tactic| walk_at "setItem ref") => `(tactic| (k_here; k_dflt (refine' x_set_q ?F ?N ?U ?W ?P ?C ?O ?m1 ?a0 ?a5 ?hD ?_; (case F => k_asm); (case N => k_asm); (case U => k_updF); (case W => assumption); (case P => assumption); (case C => assumption); (case O => assumption); (case m1 => k_mem); (case a0 => assumption); (case a5 => assumption); (case hD => exact ⟨by k_ne, by k_ne, by k_ne, by k_ne, by k_ne, by k_ne, by k_ne⟩); k_whole); intro h' oR' F' N' W' C' O'; have hd9' := Lw.d W'; have hq9' := at_putX1 W'; (try dsimp only at N')))
local macro_rules | `(tactic| walk_at "setItem ref") => `(tactic| (k_here; k_dflt (refine' s_set2 ?B ?F ?X ?N ?hs ?TP ?hk ?D ?O ?lo ?C ?W ?ht ?h0 ?h1 ?a0 ?a5 ?hv ?hd ?hu ?n0 ?n1 ?old ?new; (case B => k_asm); (case F => k_asm); (case X => k_asm); (case N => k_asm); (case TP => k_asm); (case hk => exact rfl); (case D => assumption); (case O => assumption); (case lo => assumption); (case C => assumption); (case W => assumption); (case hs => ((repeat (refine sub_cons (by k_mem) ?_)); (repeat (first | exact sub_id | refine sub_tl ?_)))); (case ht => assumption); (case h0 => omega); (case h1 => omega); (case a0 => assumption); (case a5 => assumption); (case hv => first | exact .inl rfl | exact .inr ⟨_, _, rfl⟩); (case hd => ktr_room); (case hu => ktr_units); (case n0 => omega); (case n1 => omega)); (case' old => (intro hin' rs1' rs2' oD' T' tn' h' tk' hke' hup' hkn' hkb' hsq' C' hkeep' W' O' F' N')); (case' new => (intro hin' rs1' rs2' oD' T' tn' h' tk' hke' hup' hkn' hkb' hsq' C' hkeep' W' O' F' N'))))

def toFors : List PySem.Stmt → List PySem.Stmt
  | [] => []
  | .For t i b o p :: r => .For t i b o p :: r
  | _ :: r => toFors r
def lawBody : List PySem.Stmt := bodyOf lawDef
def restBody : List PySem.Stmt := toFors lawBody
local macro_rules | `(tactic| walk_at "exec For Name Call cons nil") => `(tactic| (k_here; (rename Fr _ _ _ _ => lF'); (with_unfolding_all refine' For_turns lF' ?_; k_whole)))
local macro_rules | `(tactic| walk_at "exec For Name Call cons nil") => `(tactic| (k_here; (rename Fr _ _ _ _ => lF'); (with_unfolding_all refine' For_invVF lF' ?k1 ?k2 ?_; (case k1 => exact rfl); (case k2 => exact rfl); k_whole)))
local macro_rules | `(tactic| walk_at "pyIter ref") => `(tactic| (k_here; (with_reducible show wpAny _ _ (pyIter (Value.ref _)) (fun it s₂ => LoopAtV _ _ _ _ _ _ _ _ _ it s₂) _ _); k_dflt (refine' loop1S ?B ?X ?TP ?D ?lo ?lo2 ?hL ?hI ?hlay ?hnn ?hlen ?R ?F ?N ?S ?_; (case F => k_asm); (case S => assumption); (case N => (refine news_sub (by k_asm) ?_; ((repeat (refine sub_cons (by k_mem) ?_)); (repeat (first | exact sub_id | refine sub_tl ?_))))); (case R => with_reducible assumption); (case B => assumption); (case X => k_asm); (case TP => k_asm); (case D => assumption); (case lo => assumption); (case lo2 => assumption); (case hL => assumption); (case hI => assumption); (case hlay => assumption); (case hnn => omega); (case hlen => omega); k_whole); intro m' h' tk' S'; (refine' St.elim S' ?_); intro n' room' num' den' tn' tc' t1' t2' t3' t4' thr' held' oD' oR' oC' oc' e' vs' ne' rs' qs' T' hS' F' N'))
local macro_rules | `(tactic| walk_at "pyIter ref") => `(tactic| (k_here; (with_reducible show wpAny _ _ (pyIter (Value.ref _)) (fun it s₂ => TurnsAt _ _ _ _ _ _ _ _ _ it s₂) _ _); k_dflt (refine' loop2S ?B ?X ?TP ?D ?lo ?lo2 ?S ?hi ?R ?F ?N ?_; (case F => k_asm); (case S => assumption); (case N => (refine news_sub (by k_asm) ?_; ((repeat (refine sub_cons (by k_mem) ?_)); (repeat (first | exact sub_id | refine sub_tl ?_))))); (case R => with_reducible assumption); (case B => assumption); (case X => k_asm); (case TP => k_asm); (case D => assumption); (case lo => assumption); (case lo2 => assumption); (case hi => omega); k_whole); intro m' h' tk' A'; (refine' Ak.elim A' ?_); intro n' room' tn' tc' t4' thr' held' oD' oR' oC' e' vs' ne' T' F' N' O' n0' n1' mc' m9'))
set_option maxHeartbeats 800000 in
theorem restLaw {prog : Program} {w : World} {mean : ExcName → Option Value} {mg mb : Str → Option Value} {h₀ : Heap} {L fa l : Addr} {cdv : Value} {s : Shared} {m : Str → Option Value} {Q : Flow → Shared → Prop}
    {c cd dD k kd rd : Addr} {th : Tok} {lv : List Value} {ns : List Int}
    {n room num den : Int} {tn tc t1 t2 t3 t4 : Tok} {thr : Value} {held : Bool} {oD oR oC : Obj} {oc : Option Value} {e : Addr} {vs : List Value} {ne : Nat} {rs : List Row} {qs : List (Int × Value)} {T : List (Addr × Obj)}
    (B : Below callerA h₀ [] h₀) (X : (Mine.hd.heap_39 w.params).In h₀)
    (TP : Top Mine.hd.view_39 (looseW Mine.hd.view_39 [Str.ofString "itemgetter", Str.ofString "LRUCache"]) mean mg mb h₀) (D : Dist c cd dD k kd rd (L + 1)) (lo : (dD == sysModules) = false) (lo2 : (rd == sysModules) = false)
    (hL : h₀.IsList l lv.toArray) (hI : IntsAre lv ns) (hlay : (PyData.list (ns.map .int)).layable0 = true) (hlen : ns.length ≤ 63)
    (S : StF prog w h₀ L l c cd dD k kd rd th 0 s.heap m n room num den tn tc t1 t2 t3 t4 thr held oD oR oC oc e vs ne rs qs T)
    (fin : ∀ m' h' tk', Fr h₀ L h' m' → Q (.ret (.bool true)) { s with heap := h', toks := tk' }) :
    wpAny (model prog w) (callerA.deeper (envOfC (Str.ofString "law") lawScope L fa cdv)) (execs restBody (envOfC (Str.ofString "law") lawScope L fa cdv)) Q (fun _ _ => False) s := by
  have F := S.F
  have N := S.N
  have m1 := S.m1
  conv in (occs := *) lawScope => all_goals whnf
  conv in (occs := *) restBody => all_goals whnf
  k_steps
  all_goals (rw [beq_self_eq_true]; exact fin _ _ _ (by k_asm))
end Mine
end
section
namespace Mine
theorem fillX1b : True := by
  w_top off
  trivial

theorem room_lo (x : Int) : 0 ≤ x.fmod 4 + 1 := by have := Int.fmod_nonneg_of_pos x (b := 4) (by omega); omega
theorem room_hi (x : Int) : x.fmod 4 + 1 ≤ 4 := by have := Int.fmod_lt_of_pos x (b := 4) (by omega); omega
theorem startLaw {prog : Program} {w : World} {mean : ExcName → Option Value} {mg mb : Str → Option Value} {h₀ : Heap} {L fa l : Addr} {cdv : Value} {s : Shared} {m : Str → Option Value} {Q : Flow → Shared → Prop} {oC : Obj} {oc : Option Value}
    {lv : List Value} {ns : List Int} {c cd dD k kd rd e : Addr} {th tn tc t1 t2 t3 t4 : Tok} {room num den : Int} {thr : Value} {oD oR : Obj} {P0 : Addr × Obj}
    (B : Below callerA h₀ [] h₀) (X : (Mine.hd.heap_39 w.params).In h₀)
    (TP : Top Mine.hd.view_39 (looseW Mine.hd.view_39 [Str.ofString "itemgetter", Str.ofString "LRUCache"]) mean mg mb h₀)
    (hL : h₀.IsList l lv.toArray) (hI : IntsAre lv ns) (hlay : (PyData.list (ns.map .int)).layable0 = true) (hlen : ns.length ≤ 63)
    (F : Fr h₀ L s.heap m)
    (N : News h₀ L s.heap (P0 :: (rd, oR) :: (e, listOf #[] 0) :: (dD, oD) :: (k, instObj 46 kd) :: (kd, lockD w.params th false) :: (c, lru cd dD k 0 tn (.int room tc) thr) :: (cd, dictOf [] 0) :: [(L + 1, oC)]))
    (hoc : oC.data = .cell oc) (hD : oD.IsDictOf (PySem.intKind prog w) []) (hR : oR.IsDictOf (PySem.intKind prog w) []) (lo : (dD == sysModules) = false) (lo2 : (rd == sysModules) = false)
    (a1 : @LT.lt Nat _ (L + 1) cd) (a2 : @LT.lt Nat _ cd kd) (a3 : @LT.lt Nat _ c kd) (a4 : @LT.lt Nat _ kd dD) (a5 : @LT.lt Nat _ k dD) (a6 : @LT.lt Nat _ dD rd) (a7 : @LT.lt Nat _ c dD)
    (ht : Thr thr num den) (h0 : 0 ≤ room) (h1 : room ≤ 4)
    (m1 : m (Str.ofString "script") = some (.ref l)) (m2 : m (Str.ofString "room") = some (.int room t1)) (m3 : m (Str.ofString "num") = some (.int num t2)) (m4 : m (Str.ofString "den") = some (.int den t3)) (m5 : m (Str.ofString "c") = some (.ref c)) (m6 : m (Str.ofString "lock") = some (.ref k))
    (m7 : m (Str.ofString "entry") = some (.ref e)) (m8 : m (Str.ofString "rows") = some (.ref rd)) (m9 : m (Str.ofString "counter") = some (.int 0 t4)) (m10 : m (Str.ofString "held") = some (.bool false))
    (fin : ∀ m' h' tk', Fr h₀ L h' m' → Q (.ret (.bool true)) { s with heap := h', toks := tk' }) :
    wpAny (model prog w) (callerA.deeper (envOfC (Str.ofString "law") lawScope L fa cdv)) (execs restBody (envOfC (Str.ofString "law") lawScope L fa cdv)) Q (fun _ _ => False) s := by
  have N1 : News h₀ L s.heap ((c, lru cd dD k 0 tn (.int room tc) thr) :: (cd, dictOf [] 0) :: (dD, oD) :: (k, instObj 46 kd) :: (kd, lockD w.params th false) :: (rd, oR) :: (e, listOf (List.toArray []) 0) :: (L + 1, oC) :: []) := by
    refine news_sub N ?_
    exact sub_cons (.tail _ (.tail _ (.tail _ (.tail _ (.tail _ (.tail _ (.head _))))))) (sub_cons (.tail _ (.tail _ (.tail _ (.tail _ (.tail _ (.tail _ (.tail _ (.head _)))))))) (sub_cons (.tail _ (.tail _ (.tail _ (.head _)))) (sub_cons (.tail _ (.tail _ (.tail _ (.tail _ (.head _))))) (sub_cons (.tail _ (.tail _ (.tail _ (.tail _ (.tail _ (.head _)))))) (sub_cons (.tail _ (.head _)) (sub_cons (.tail _ (.tail _ (.head _))) (sub_cons (.tail _ (.tail _ (.tail _ (.tail _ (.tail _ (.tail _ (.tail _ (.tail _ (.head _))))))))) (fun _ hp => (nomatch hp)))))))))
  have S : StF prog w h₀ L l c cd dD k kd rd th 0 s.heap m 0 room num den tn tc t1 t2 t3 t4 thr false oD oR oC oc e [] 0 [] [] [] :=
    ⟨F, N1, offs_nil, cac_nil hD, lw_nil hR, .nil, ht, Int.le_refl _, Int.le_refl _, h0, h1, hoc, m1, m2, m3, m4, m5, m6, m7, m8, m9, m10⟩
  exact restLaw B X TP (dist_of N1 hoc a1 a2 a3 a4 a5 a6 a7) lo lo2 hL hI hlay hlen S fin
end Mine
end
section
namespace Mine
local macro_rules | `(tactic| walk_at "none of mine") => `(tactic| fail "none")
local macro_rules | `(tactic| walk_at "none of mine") => `(tactic| fail "none")
local macro_rules | `(tactic| walk_at "none of mine") => `(tactic| fail "none")
local macro_rules | `(tactic| walk_at "none of mine") => `(tactic| fail "none")
local macro_rules | `(tactic| walk_at "none of mine") => `(tactic| fail "none")
local macro_rules | `(tactic| walk_at "none of mine") => `(tactic| fail "none")
local macro_rules | `(tactic| walk_at "none of mine") => `(tactic| fail "none")
local macro_rules | `(tactic| walk_at "none of mine") => `(tactic| fail "none")
local macro_rules | `(tactic| walk_at "none of mine") => `(tactic| fail "none")
local macro_rules | `(tactic| walk_at "none of mine") => `(tactic| fail "none")
local macro_rules | `(tactic| walk_at "none of mine") => `(tactic| fail "none")
theorem fillY1 : True := by
  w_top off
  trivial


local macro_rules | `(tactic| k_room) => `(tactic| ktr_room)
local macro_rules | `(tactic| k_units) => `(tactic| ktr_units)
local macro_rules | `(tactic| ktr_enter) => `(tactic| (refine' code_def ?k1 ?k2 ?k3 ?k4 ?k5 ?kA ?kF ?kK ?k6 ?k7 ?k8 ?k9 ?kB ?_ ?c2 ?c3 ?c4 ?c5; (case kA => exact rfl); (case kF => exact rfl); (case kK => first | assumption | exact rfl); (case k1 => k_asm); (case k2 => k_asm); (case k3 => k_asm); (case k4 => k_asm); (case k5 => k_asm); (case k6 => k_is); (case k7 => k_is); (case k8 => ktr_room); (case k9 => first | exact BindsTo.of_eq rfl | exact binds_K (by k_in) rfl (by k_is) rfl rfl rfl | fail "ktr_enter: no rule for these arguments"); (case c5 => decide); (case kB => exact locs rfl); (case c2 => exact rfl); (case c3 => exact rfl); (case c4 => exact rfl); k_whole; intro g' L' h' FG' F' N' B' X' T'; (try dsimp only); (try k_fold)))
local macro_rules | `(tactic| k_lt $h:ident) => `(tactic| (replace $h := allLt_of $h; simp only [AllLt, and_true] at $h:ident; (try ((fail_if_success (rename AllLt _ _ => l6)); have l7 : AllLt _ _ := (by first | exact ($h).2 | exact ($h).2.2 | exact ($h).2.2.2 | exact ($h).2.2.2.2 | exact ($h).2.2.2.2.2 | exact ($h).2.2.2.2.2.2 | exact ($h).2.2.2.2.2.2.2 | exact ($h).2.2.2.2.2.2.2.2 | exact ($h).2.2.2.2.2.2.2.2.2 | exact ($h).2.2.2.2.2.2.2.2.2.2 | exact ($h).2.2.2.2.2.2.2.2.2.2.2 | exact ($h).2.2.2.2.2.2.2.2.2.2.2.2)))))
local macro_rules | `(tactic| k_all) => `(tactic| (refine' allLt_ne ?h6 ?h7; (case h6 => assumption); (case h7 => ((try dsimp only); omega))))
local macro_rules | `(tactic| k_all) => `(tactic| with_reducible assumption)
local macro_rules | `(tactic| walk_at "call builtin:len") => `(tactic| (k_here; (with_reducible show wpAny _ _ (call (Value.builtin "len") [Value.ref _]) _ _ _); k_dflt (refine' kda_len (knd := PySem.intKind _ _) ?N ?m ?d ?lo ?f ?_; (case N => k_asm); (case m => k_mem); (case d => k_asm); (case lo => k_asm); (case f => assumption); k_whole)))
local macro_rules | `(tactic| walk_at "getMethod ref") => `(tactic| (k_here; (with_reducible show wpAny _ _ (getMethod (Value.ref _) (Str.ofString "get") _) _ _ _); k_dflt (refine' kdg_method (knd := PySem.intKind _ _) ?N ?m ?d ?_; (case N => k_asm); (case m => k_mem); (case d => k_asm); k_whole)))
local macro_rules | `(tactic| walk_at "call builtin:dict.get") => `(tactic| (k_here; (with_reducible show wpAny _ _ (call (Value.builtin "dict.get") [Value.ref _, Value.int _ _]) _ _ _); k_dflt (refine' kdg_get1 (knd := PySem.intKind _ _) ?N ?m ?d ?lo (intKind_is _ _ _ _) _ ?hl ?_; (case N => k_asm); (case m => k_mem); (case d => k_asm); (case lo => k_asm); (case hl => assumption); k_whole; (try dsimp only [Option.getD]))))
local macro_rules | `(tactic| walk_at "subscriptTail") => `(tactic| (k_here; (with_reducible show wpAny _ _ (subscriptTail _ _ (Value.ref _) (Value.int _ _)) _ _ _); k_dflt (refine' kda_item (knd := PySem.intKind _ _) ?N ?m ?d (intKind_is _ _ _ _) ?hl ?_; (case N => k_asm); (case m => k_mem); (case d => k_asm); (case hl => assumption); k_whole)))
theorem x_get_missY1 {prog : Program} {w : World} {A : Around} {E : Value → Shared → Prop} {s : Shared} {h₀ : Heap} {L d : Addr} {news : List (Addr × Obj)} {o : Obj} {kvs : List (Int × Value)} {k : Int} {t : Tok} {Q : Value → Shared → Prop}
    (N : News h₀ L s.heap news) (hp : (d, o) ∈ news) (hd : o.IsDictOf (PySem.intKind prog w) kvs) (lo : (d == sysModules) = false) (hh : A.handled = none) (hl : valueAt kvs k = none)
    (h : ∀ h' e, Heap.NewExc s.heap h' e "KeyError" → E (.ref e) { s with heap := h', toks := s.toks + 1 }) : wpAny (model prog w) A (getItem (.ref d) (.int k t)) Q E s :=
  wpAny_getItem_missing_of (intKind_is _ _ _ _) lo hh (kda_dict N hp hd).mapOf hl h
local macro_rules | `(tactic| walk_at "getItem ref int") => `(tactic| (k_here; k_dflt (refine' x_get_missY1 ?N ?m ?d ?lo ?hh ?hl ?_; (case N => k_asm); (case m => k_mem); (case d => k_asm); (case lo => k_asm); (case hh => exact rfl); (case hl => assumption); k_whole); intro h' e' x'))
local macro_rules | `(tactic| walk_at "getItem ref int") => `(tactic| (k_here; k_dflt (refine' kdt_getItem (knd := PySem.intKind _ _) ?N ?m ?d (intKind_is _ _ _ _) ?hl ?_; (case N => k_asm); (case m => k_mem); (case d => k_asm); (case hl => assumption); k_whole)))
local macro_rules | `(tactic| walk_at "delItem ref int") => `(tactic| (k_here; k_dflt (refine' x_del_miss ?N ?m ?d ?lo ?hh ?hl ?_; (case N => k_asm); (case m => k_mem); (case d => k_asm); (case lo => k_asm); (case hh => exact rfl); (case hl => assumption); k_whole); intro h' e' x'))
local macro_rules | `(tactic| walk_at "delItem ref int") => `(tactic| (k_here; k_dflt (refine' kob_del (knd := PySem.intKind _ _) ?F ?N ?U ?d (intKind_is _ _ _ _) ?l ?z ?_; (case F => k_asm); (case N => k_asm); (case U => k_updF); (case d => k_asm); (case l => assumption); (case z => first | assumption | (rw [sizeLine_eq]; assumption)); k_whole); intro h' o' F' N' hd'; (try dsimp only at N')))
theorem x_del_ownY1 {M : Model} {A : Around} {E : Value → Shared → Prop} {s : Shared} {K : Frag} {x C L f : Addr} {h₀ : Heap} {m : Str → Option Value} {ox : Obj} {od : Option Obj} {i : Value} {Q : Unit → Shared → Prop}
    (F : Fr h₀ L s.heap m) (X₀ : K.In h₀) (I : InstAt s.heap x ox C od) (hq : noSeq K C = true) (hs : findIn K (.ref C) "__delitem__" = some (some (.ref f))) (hf : isFn K (.ref f) = true)
    (h : wpAny M A (call (.ref f) [.ref x, i]) (fun _ s' => Q () s') E s) : wpAny M A (delItem (.ref x) i) Q E s := by
  have X := X₀.keeps F.keep
  unfold delItem sequenceKey
  refine wpAny_holding (wpAny_bind (wpAny_bind (I.type.here ?_)))
  refine wpAny_bind ((anyM_none X hq).here ?_)
  rw [if_pos (show (!false) = true from rfl)]
  exact wpAny_pure (wpAny_bind (special_fn X I hs (beq_iff_eq.mp hf) (wpAny_mono h (fun _ _ z => wpAny_pure z) fun _ _ z => z)))
local macro_rules | `(tactic| walk_at "delItem ref int") => `(tactic| (k_here; k_dflt (refine' x_del_ownY1 ?k1 ?k2 ?k3 ?k4 ?k5 ?k6 ?_; (case k1 => k_asm); (case k2 => k_asm); (case k3 => k_inst); (case k4 => k_is); (case k5 => k_is); (case k6 => k_is); k_whole)))
local macro_rules | `(tactic| walk_at "WhlIf") => `(tactic| (first | (refine WhlIf.yes (decide_eq_true (by omega)) ?_) | (refine WhlIf.no (decide_eq_false (by omega)) ?_)))
local macro_rules | `(tactic| walk_at "eval Dict nil nil") => `(tactic| (k_here; k_dflt (refine' newDict_K ?k1 ?k2 ?k3 ?_; (case k1 => k_asm); (case k2 => k_asm); (case k3 => first | exact Top.nolimit (by k_asm) | exact TopRead.nolimit (by k_asm)); k_whole); intro d' h' o' F' N' l1 lo' hs' fs' hi' fi'; (try k_lt l1)))
theorem add_genY1 {prog : Program} {w : World} {A : Around} {E : Value → Shared → Prop} {s : Shared} {a b : Int} {ta tb : Tok} {Q : Value → Shared → Prop} (h : ∀ t tk, Q (.int (a + b) t) { s with toks := tk }) : wpAny (model prog w) A (binaryOp .Add (.int a ta) (.int b tb)) Q E s := add_int (h _ _)
local macro_rules | `(tactic| walk_at "binaryOp Add int int") => `(tactic| (k_here; with_reducible (refine add_genY1 ?_); intro t' tk'))

set_option maxHeartbeats 2000000 in
theorem new_half {prog : Program} {w : World} {mean : ExcName → Option Value} {mg mb : Str → Option Value} {h₀ : Heap} {L fa : Addr} {cdv : Value} {s : Shared} {m : Str → Option Value} {Q E : Value → Shared → Prop}
    {oC : Obj} {room : Int} {tr : Tok}
    (B : Below callerA h₀ [] h₀) (F : Fr h₀ L s.heap m) (X : (Mine.hd.heap_39 w.params).In h₀) (N : News h₀ L s.heap [(L + 1, oC)]) (TP : Top Mine.hd.view_39 (looseW Mine.hd.view_39 [Str.ofString "itemgetter", Str.ofString "LRUCache"]) mean mg mb h₀)
    (ret : ∀ c cd dD k kd oD tn th tq h' tk', Fr h₀ L h' m →
      News h₀ L h' ((dD, oD) :: (k, instObj 46 kd) :: (kd, lockD w.params th false) :: (c, lru cd dD k 0 tn (.int room tr) (.float 4602678819172646912 tq)) :: (cd, dictOf [] 0) :: [(L + 1, oC)]) → oD.IsDictOf (PySem.intKind prog w) [] → (dD == sysModules) = false → @LT.lt Nat _ (L + 1) cd → @LT.lt Nat _ cd kd → @LT.lt Nat _ c kd → @LT.lt Nat _ kd dD → @LT.lt Nat _ k dD → @LT.lt Nat _ c dD → @LT.lt Nat _ cd dD → Q (.ref c) { s with heap := h', toks := tk' }) :
    wpAny (model prog w) (callerA.deeper (envOfC (Str.ofString "law") lawScope L fa cdv)) (call (.ref 178) [.int room tr]) Q E s := by
  conv in (occs := *) lawScope => all_goals whnf
  k_steps
  all_goals exact ret _ _ _ _ _ _ _ _ _ _ _ (by k_asm) (by assumption) (by with_reducible assumption) (by with_reducible assumption) (by omega) (by omega) (by omega) (by omega) (by omega) (by omega) (by omega)
set_option maxHeartbeats 2000000 in
theorem new_whole {prog : Program} {w : World} {mean : ExcName → Option Value} {mg mb : Str → Option Value} {h₀ : Heap} {L fa : Addr} {cdv : Value} {s : Shared} {m : Str → Option Value} {Q E : Value → Shared → Prop}
    {oC : Obj} {room num : Int} {tr tq : Tok}
    (B : Below callerA h₀ [] h₀) (F : Fr h₀ L s.heap m) (X : (Mine.hd.heap_39 w.params).In h₀) (N : News h₀ L s.heap [(L + 1, oC)]) (TP : Top Mine.hd.view_39 (looseW Mine.hd.view_39 [Str.ofString "itemgetter", Str.ofString "LRUCache"]) mean mg mb h₀)
    (ret : ∀ c cd dD k kd oD tn th h' tk', Fr h₀ L h' m →
      News h₀ L h' ((dD, oD) :: (k, instObj 46 kd) :: (kd, lockD w.params th false) :: (c, lru cd dD k 0 tn (.int room tr) (.int num tq)) :: (cd, dictOf [] 0) :: [(L + 1, oC)]) → oD.IsDictOf (PySem.intKind prog w) [] → (dD == sysModules) = false → @LT.lt Nat _ (L + 1) cd → @LT.lt Nat _ cd kd → @LT.lt Nat _ c kd → @LT.lt Nat _ kd dD → @LT.lt Nat _ k dD → @LT.lt Nat _ c dD → @LT.lt Nat _ cd dD → Q (.ref c) { s with heap := h', toks := tk' }) :
    wpAny (model prog w) (callerA.deeper (envOfC (Str.ofString "law") lawScope L fa cdv)) (call (.ref 178) [.int room tr, .int num tq]) Q E s := by
  conv in (occs := *) lawScope => all_goals whnf
  k_steps
  all_goals exact ret _ _ _ _ _ _ _ _ _ _ (by k_asm) (by assumption) (by with_reducible assumption) (by with_reducible assumption) (by omega) (by omega) (by omega) (by omega) (by omega) (by omega) (by omega)
end Mine
end
section
namespace Mine
local macro_rules | `(tactic| walk_at "none of mine") => `(tactic| fail "none")
local macro_rules | `(tactic| walk_at "none of mine") => `(tactic| fail "none")
local macro_rules | `(tactic| walk_at "none of mine") => `(tactic| fail "none")
local macro_rules | `(tactic| walk_at "none of mine") => `(tactic| fail "none")
local macro_rules | `(tactic| walk_at "none of mine") => `(tactic| fail "none")
local macro_rules | `(tactic| walk_at "none of mine") => `(tactic| fail "none")
local macro_rules | `(tactic| walk_at "none of mine") => `(tactic| fail "none")
local macro_rules | `(tactic| walk_at "none of mine") => `(tactic| fail "none")
theorem fillX2 : True := by
  w_top off
  trivial


local macro_rules | `(tactic| k_room) => `(tactic| ktr_room)
local macro_rules | `(tactic| k_units) => `(tactic| ktr_units)
local macro_rules | `(tactic| ktr_enter) => `(tactic| (refine' code_def ?k1 ?k2 ?k3 ?k4 ?k5 ?kA ?kF ?kK ?k6 ?k7 ?k8 ?k9 ?kB ?_ ?c2 ?c3 ?c4 ?c5; (case kA => exact rfl); (case kF => exact rfl); (case kK => first | assumption | exact rfl); (case k1 => k_asm); (case k2 => k_asm); (case k3 => k_asm); (case k4 => k_asm); (case k5 => k_asm); (case k6 => k_is); (case k7 => k_is); (case k8 => ktr_room); (case k9 => first | exact BindsTo.of_eq rfl | exact binds_K (by k_in) rfl (by k_is) rfl rfl rfl | fail "ktr_enter: no rule for these arguments"); (case c5 => decide); (case kB => exact locs rfl); (case c2 => exact rfl); (case c3 => exact rfl); (case c4 => exact rfl); k_whole; intro g' L' h' FG' F' N' B' X' T'; (try dsimp only); (try k_fold)))
local macro_rules | `(tactic| k_lt $h:ident) => `(tactic| (replace $h := allLt_of $h; simp only [AllLt, and_true] at $h:ident; (try ((fail_if_success (rename AllLt _ _ => l6)); have l7 : AllLt _ _ := (by first | exact ($h).2 | exact ($h).2.2 | exact ($h).2.2.2 | exact ($h).2.2.2.2 | exact ($h).2.2.2.2.2 | exact ($h).2.2.2.2.2.2 | exact ($h).2.2.2.2.2.2.2 | exact ($h).2.2.2.2.2.2.2.2 | exact ($h).2.2.2.2.2.2.2.2.2 | exact ($h).2.2.2.2.2.2.2.2.2.2 | exact ($h).2.2.2.2.2.2.2.2.2.2.2 | exact ($h).2.2.2.2.2.2.2.2.2.2.2.2)))))
local macro_rules | `(tactic| k_all) => `(tactic| (refine' allLt_ne ?h6 ?h7; (case h6 => assumption); (case h7 => ((try dsimp only); omega))))
local macro_rules | `(tactic| k_all) => `(tactic| with_reducible assumption)
local macro_rules | `(tactic| walk_at "call builtin:len") => `(tactic| (k_here; (with_reducible show wpAny _ _ (call (Value.builtin "len") [Value.ref _]) _ _ _); k_dflt (refine' kda_len (knd := PySem.intKind _ _) ?N ?m ?d ?lo ?f ?_; (case N => k_asm); (case m => k_mem); (case d => k_asm); (case lo => k_asm); (case f => assumption); k_whole)))
local macro_rules | `(tactic| walk_at "getMethod ref") => `(tactic| (k_here; (with_reducible show wpAny _ _ (getMethod (Value.ref _) (Str.ofString "get") _) _ _ _); k_dflt (refine' kdg_method (knd := PySem.intKind _ _) ?N ?m ?d ?_; (case N => k_asm); (case m => k_mem); (case d => k_asm); k_whole)))
local macro_rules | `(tactic| walk_at "call builtin:dict.get") => `(tactic| (k_here; (with_reducible show wpAny _ _ (call (Value.builtin "dict.get") [Value.ref _, Value.int _ _]) _ _ _); k_dflt (refine' kdg_get1 (knd := PySem.intKind _ _) ?N ?m ?d ?lo (intKind_is _ _ _ _) _ ?hl ?_; (case N => k_asm); (case m => k_mem); (case d => k_asm); (case lo => k_asm); (case hl => assumption); k_whole; (try dsimp only [Option.getD]))))
local macro_rules | `(tactic| walk_at "subscriptTail") => `(tactic| (k_here; (with_reducible show wpAny _ _ (subscriptTail _ _ (Value.ref _) (Value.int _ _)) _ _ _); k_dflt (refine' kda_item (knd := PySem.intKind _ _) ?N ?m ?d (intKind_is _ _ _ _) ?hl ?_; (case N => k_asm); (case m => k_mem); (case d => k_asm); (case hl => assumption); k_whole)))
theorem x_get_missX2 {prog : Program} {w : World} {A : Around} {E : Value → Shared → Prop} {s : Shared} {h₀ : Heap} {L d : Addr} {news : List (Addr × Obj)} {o : Obj} {kvs : List (Int × Value)} {k : Int} {t : Tok} {Q : Value → Shared → Prop}
    (N : News h₀ L s.heap news) (hp : (d, o) ∈ news) (hd : o.IsDictOf (PySem.intKind prog w) kvs) (lo : (d == sysModules) = false) (hh : A.handled = none) (hl : valueAt kvs k = none)
    (h : ∀ h' e, Heap.NewExc s.heap h' e "KeyError" → E (.ref e) { s with heap := h', toks := s.toks + 1 }) : wpAny (model prog w) A (getItem (.ref d) (.int k t)) Q E s :=
  wpAny_getItem_missing_of (intKind_is _ _ _ _) lo hh (kda_dict N hp hd).mapOf hl h
local macro_rules | `(tactic| walk_at "getItem ref int") => `(tactic| (k_here; k_dflt (refine' x_get_missX2 ?N ?m ?d ?lo ?hh ?hl ?_; (case N => k_asm); (case m => k_mem); (case d => k_asm); (case lo => k_asm); (case hh => exact rfl); (case hl => assumption); k_whole); intro h' e' x'))
local macro_rules | `(tactic| walk_at "getItem ref int") => `(tactic| (k_here; k_dflt (refine' kdt_getItem (knd := PySem.intKind _ _) ?N ?m ?d (intKind_is _ _ _ _) ?hl ?_; (case N => k_asm); (case m => k_mem); (case d => k_asm); (case hl => assumption); k_whole)))
local macro_rules | `(tactic| walk_at "delItem ref int") => `(tactic| (k_here; k_dflt (refine' x_del_miss ?N ?m ?d ?lo ?hh ?hl ?_; (case N => k_asm); (case m => k_mem); (case d => k_asm); (case lo => k_asm); (case hh => exact rfl); (case hl => assumption); k_whole); intro h' e' x'))
local macro_rules | `(tactic| walk_at "delItem ref int") => `(tactic| (k_here; k_dflt (refine' kob_del (knd := PySem.intKind _ _) ?F ?N ?U ?d (intKind_is _ _ _ _) ?l ?z ?_; (case F => k_asm); (case N => k_asm); (case U => k_updF); (case d => k_asm); (case l => assumption); (case z => first | assumption | (rw [sizeLine_eq]; assumption)); k_whole); intro h' o' F' N' hd'; (try dsimp only at N')))
theorem x_del_ownX2 {M : Model} {A : Around} {E : Value → Shared → Prop} {s : Shared} {K : Frag} {x C L f : Addr} {h₀ : Heap} {m : Str → Option Value} {ox : Obj} {od : Option Obj} {i : Value} {Q : Unit → Shared → Prop}
    (F : Fr h₀ L s.heap m) (X₀ : K.In h₀) (I : InstAt s.heap x ox C od) (hq : noSeq K C = true) (hs : findIn K (.ref C) "__delitem__" = some (some (.ref f))) (hf : isFn K (.ref f) = true)
    (h : wpAny M A (call (.ref f) [.ref x, i]) (fun _ s' => Q () s') E s) : wpAny M A (delItem (.ref x) i) Q E s := by
  have X := X₀.keeps F.keep
  unfold delItem sequenceKey
  refine wpAny_holding (wpAny_bind (wpAny_bind (I.type.here ?_)))
  refine wpAny_bind ((anyM_none X hq).here ?_)
  rw [if_pos (show (!false) = true from rfl)]
  exact wpAny_pure (wpAny_bind (special_fn X I hs (beq_iff_eq.mp hf) (wpAny_mono h (fun _ _ z => wpAny_pure z) fun _ _ z => z)))
local macro_rules | `(tactic| walk_at "delItem ref int") => `(tactic| (k_here; k_dflt (refine' x_del_ownX2 ?k1 ?k2 ?k3 ?k4 ?k5 ?k6 ?_; (case k1 => k_asm); (case k2 => k_asm); (case k3 => k_inst); (case k4 => k_is); (case k5 => k_is); (case k6 => k_is); k_whole)))
local macro_rules | `(tactic| walk_at "WhlIf") => `(tactic| (first | (refine WhlIf.yes (decide_eq_true (by omega)) ?_) | (refine WhlIf.no (decide_eq_false (by omega)) ?_)))
local macro_rules | `(tactic| walk_at "eval Dict nil nil") => `(tactic| (k_here; k_dflt (refine' newDict_K ?k1 ?k2 ?k3 ?_; (case k1 => k_asm); (case k2 => k_asm); (case k3 => first | exact Top.nolimit (by k_asm) | exact TopRead.nolimit (by k_asm)); k_whole); intro d' h' o' F' N' l1 lo' hs' fs' hi' fi'; (try k_lt l1)))
theorem add_genX2 {prog : Program} {w : World} {A : Around} {E : Value → Shared → Prop} {s : Shared} {a b : Int} {ta tb : Tok} {Q : Value → Shared → Prop} (h : ∀ t tk, Q (.int (a + b) t) { s with toks := tk }) : wpAny (model prog w) A (binaryOp .Add (.int a ta) (.int b tb)) Q E s := add_int (h _ _)
local macro_rules | `(tactic| walk_at "binaryOp Add int int") => `(tactic| (k_here; with_reducible (refine add_genX2 ?_); intro t' tk'))

local macro_rules | `(tactic| walk_at "eval Name") => `(tactic| (k_here; k_dflt (refine' nameX_L ?k1 ?k2 ?_ ?a ?b; (case a => rfl); (case b => rfl); (case k1 => k_asm); (case k2 => assumption); k_whole)))
local macro_rules | `(tactic| walk_at "call ref") => `(tactic| (k_here; (with_reducible show wpAny _ _ (call (Value.ref 178) [_]) _ _ _); k_dflt (refine' new_half ?B ?F ?X ?N ?TP ?_; (case B => k_asm); (case F => k_asm); (case X => k_asm); (case N => k_asm); (case TP => k_asm); k_whole); intro c' cd' dD' k' kd' oD' tn' th' tq' h' tk' F' N' hD' lo' l1' l2' l3' l4' l5' l6' l7'))
local macro_rules | `(tactic| walk_at "call ref") => `(tactic| (k_here; (with_reducible show wpAny _ _ (call (Value.ref 178) [_, _]) _ _ _); k_dflt (refine' new_whole ?B ?F ?X ?N ?TP ?_; (case B => k_asm); (case F => k_asm); (case X => k_asm); (case N => k_asm); (case TP => k_asm); k_whole); intro c' cd' dD' k' kd' oD' tn' th' h' tk' F' N' hD' lo' l1' l2' l3' l4' l5' l6' l7'))
structure Hold (P : Prop) : Prop where
  h : P
theorem hold_it {P : Prop} (h : Hold P) : P := h.h
local macro_rules | `(tactic| walk_at "execs cons") => `(tactic| (k_here; (with_reducible show wpAny _ _ (execs (PySem.Stmt.For _ _ _ _ _ :: _) _) _ _ _); refine hold_it ?_))
set_option maxHeartbeats 4000000 in
theorem headLaw {prog : Program} {w : World} {mean : ExcName → Option Value} {mg mb : Str → Option Value} {h₀ : Heap} {L fa l : Addr} {cdv : Value} {s : Shared} {m : Str → Option Value} {Q : Flow → Shared → Prop} {oC : Obj} {oc : Option Value}
    {lv : List Value} {ns : List Int}
    (B : Below callerA h₀ [] h₀) (X : (Mine.hd.heap_39 w.params).In h₀)
    (TP : Top Mine.hd.view_39 (looseW Mine.hd.view_39 [Str.ofString "itemgetter", Str.ofString "LRUCache"]) mean mg mb h₀)
    (hL : h₀.IsList l lv.toArray) (hI : IntsAre lv ns) (hlay : (PyData.list (ns.map .int)).layable0 = true) (hlen : ns.length ≤ 63)
    (F : Fr h₀ L s.heap m) (N : News h₀ L s.heap [(L + 1, oC)]) (hoc : oC.data = .cell oc) (m1 : m (Str.ofString "script") = some (.ref l))
    (fin : ∀ m' h' tk', Fr h₀ L h' m' → Q (.ret (.bool true)) { s with heap := h', toks := tk' }) :
    wpAny (model prog w) (callerA.deeper (envOfC (Str.ofString "law") lawScope L fa cdv)) (execs lawBody (envOfC (Str.ofString "law") lawScope L fa cdv)) Q (fun _ _ => False) s := by
  conv in (occs := *) lawScope => all_goals whnf
  conv in (occs := *) lawBody => all_goals whnf
  k_steps
  all_goals (refine Hold.mk ?_; exact startLaw B X TP hL hI hlay hlen (by k_asm) (by assumption) hoc (by with_reducible assumption) (by with_reducible assumption) (by with_reducible assumption) (by with_reducible assumption) (by omega) (by omega) (by omega) (by omega) (by omega) (by omega) (by omega) (by first | exact Thr.half _ | exact Thr.whole _ _ (by decide) (by decide)) (by exact room_lo _) (by exact room_hi _) (by first | assumption | exact rfl) (by exact rfl) (by exact rfl) (by exact rfl) (by exact rfl) (by exact rfl) (by exact rfl) (by exact rfl) (by exact rfl) (by exact rfl) fin)
end Mine
end
section
namespace Mine
local macro_rules | `(tactic| walk_at "none of mine") => `(tactic| fail "none")
local macro_rules | `(tactic| walk_at "none of mine") => `(tactic| fail "none")
local macro_rules | `(tactic| walk_at "none of mine") => `(tactic| fail "none")
local macro_rules | `(tactic| walk_at "none of mine") => `(tactic| fail "none")
local macro_rules | `(tactic| walk_at "none of mine") => `(tactic| fail "none")
local macro_rules | `(tactic| walk_at "none of mine") => `(tactic| fail "none")
local macro_rules | `(tactic| walk_at "none of mine") => `(tactic| fail "none")
local macro_rules | `(tactic| walk_at "none of mine") => `(tactic| fail "none")
local macro_rules | `(tactic| walk_at "none of mine") => `(tactic| fail "none")
local macro_rules | `(tactic| walk_at "none of mine") => `(tactic| fail "none")
local macro_rules | `(tactic| walk_at "none of mine") => `(tactic| fail "none")
local macro_rules | `(tactic| walk_at "none of mine") => `(tactic| fail "none")
theorem fillX3 : True := by
  w_top off
  trivial


local macro_rules | `(tactic| k_room) => `(tactic| ktr_room)
local macro_rules | `(tactic| k_units) => `(tactic| ktr_units)
local macro_rules | `(tactic| ktr_enter) => `(tactic| (refine' code_def ?k1 ?k2 ?k3 ?k4 ?k5 ?kA ?kF ?kK ?k6 ?k7 ?k8 ?k9 ?kB ?_ ?c2 ?c3 ?c4 ?c5; (case kA => exact rfl); (case kF => exact rfl); (case kK => first | assumption | exact rfl); (case k1 => k_asm); (case k2 => k_asm); (case k3 => k_asm); (case k4 => k_asm); (case k5 => k_asm); (case k6 => k_is); (case k7 => k_is); (case k8 => ktr_room); (case k9 => first | exact BindsTo.of_eq rfl | exact binds_K (by k_in) rfl (by k_is) rfl rfl rfl | fail "ktr_enter: no rule for these arguments"); (case c5 => decide); (case kB => exact locs rfl); (case c2 => exact rfl); (case c3 => exact rfl); (case c4 => exact rfl); k_whole; intro g' L' h' FG' F' N' B' X' T'; (try dsimp only); (try k_fold)))
local macro_rules | `(tactic| k_lt $h:ident) => `(tactic| (replace $h := allLt_of $h; simp only [AllLt, and_true] at $h:ident; (try ((fail_if_success (rename AllLt _ _ => l6)); have l7 : AllLt _ _ := (by first | exact ($h).2 | exact ($h).2.2 | exact ($h).2.2.2 | exact ($h).2.2.2.2 | exact ($h).2.2.2.2.2 | exact ($h).2.2.2.2.2.2 | exact ($h).2.2.2.2.2.2.2 | exact ($h).2.2.2.2.2.2.2.2 | exact ($h).2.2.2.2.2.2.2.2.2 | exact ($h).2.2.2.2.2.2.2.2.2.2 | exact ($h).2.2.2.2.2.2.2.2.2.2.2 | exact ($h).2.2.2.2.2.2.2.2.2.2.2.2)))))
local macro_rules | `(tactic| k_all) => `(tactic| (refine' allLt_ne ?h6 ?h7; (case h6 => assumption); (case h7 => ((try dsimp only); omega))))
local macro_rules | `(tactic| k_all) => `(tactic| with_reducible assumption)
local macro_rules | `(tactic| walk_at "call builtin:len") => `(tactic| (k_here; (with_reducible show wpAny _ _ (call (Value.builtin "len") [Value.ref _]) _ _ _); k_dflt (refine' kda_len (knd := PySem.intKind _ _) ?N ?m ?d ?lo ?f ?_; (case N => k_asm); (case m => k_mem); (case d => k_asm); (case lo => k_asm); (case f => assumption); k_whole)))
local macro_rules | `(tactic| walk_at "getMethod ref") => `(tactic| (k_here; (with_reducible show wpAny _ _ (getMethod (Value.ref _) (Str.ofString "get") _) _ _ _); k_dflt (refine' kdg_method (knd := PySem.intKind _ _) ?N ?m ?d ?_; (case N => k_asm); (case m => k_mem); (case d => k_asm); k_whole)))
local macro_rules | `(tactic| walk_at "call builtin:dict.get") => `(tactic| (k_here; (with_reducible show wpAny _ _ (call (Value.builtin "dict.get") [Value.ref _, Value.int _ _]) _ _ _); k_dflt (refine' kdg_get1 (knd := PySem.intKind _ _) ?N ?m ?d ?lo (intKind_is _ _ _ _) _ ?hl ?_; (case N => k_asm); (case m => k_mem); (case d => k_asm); (case lo => k_asm); (case hl => assumption); k_whole; (try dsimp only [Option.getD]))))
local macro_rules | `(tactic| walk_at "subscriptTail") => `(tactic| (k_here; (with_reducible show wpAny _ _ (subscriptTail _ _ (Value.ref _) (Value.int _ _)) _ _ _); k_dflt (refine' kda_item (knd := PySem.intKind _ _) ?N ?m ?d (intKind_is _ _ _ _) ?hl ?_; (case N => k_asm); (case m => k_mem); (case d => k_asm); (case hl => assumption); k_whole)))
theorem x_get_missX3 {prog : Program} {w : World} {A : Around} {E : Value → Shared → Prop} {s : Shared} {h₀ : Heap} {L d : Addr} {news : List (Addr × Obj)} {o : Obj} {kvs : List (Int × Value)} {k : Int} {t : Tok} {Q : Value → Shared → Prop}
    (N : News h₀ L s.heap news) (hp : (d, o) ∈ news) (hd : o.IsDictOf (PySem.intKind prog w) kvs) (lo : (d == sysModules) = false) (hh : A.handled = none) (hl : valueAt kvs k = none)
    (h : ∀ h' e, Heap.NewExc s.heap h' e "KeyError" → E (.ref e) { s with heap := h', toks := s.toks + 1 }) : wpAny (model prog w) A (getItem (.ref d) (.int k t)) Q E s :=
  wpAny_getItem_missing_of (intKind_is _ _ _ _) lo hh (kda_dict N hp hd).mapOf hl h
local macro_rules | `(tactic| walk_at "getItem ref int") => `(tactic| (k_here; k_dflt (refine' x_get_missX3 ?N ?m ?d ?lo ?hh ?hl ?_; (case N => k_asm); (case m => k_mem); (case d => k_asm); (case lo => k_asm); (case hh => exact rfl); (case hl => assumption); k_whole); intro h' e' x'))
local macro_rules | `(tactic| walk_at "getItem ref int") => `(tactic| (k_here; k_dflt (refine' kdt_getItem (knd := PySem.intKind _ _) ?N ?m ?d (intKind_is _ _ _ _) ?hl ?_; (case N => k_asm); (case m => k_mem); (case d => k_asm); (case hl => assumption); k_whole)))
local macro_rules | `(tactic| walk_at "delItem ref int") => `(tactic| (k_here; k_dflt (refine' x_del_miss ?N ?m ?d ?lo ?hh ?hl ?_; (case N => k_asm); (case m => k_mem); (case d => k_asm); (case lo => k_asm); (case hh => exact rfl); (case hl => assumption); k_whole); intro h' e' x'))
local macro_rules | `(tactic| walk_at "delItem ref int") => `(tactic| (k_here; k_dflt (refine' kob_del (knd := PySem.intKind _ _) ?F ?N ?U ?d (intKind_is _ _ _ _) ?l ?z ?_; (case F => k_asm); (case N => k_asm); (case U => k_updF); (case d => k_asm); (case l => assumption); (case z => first | assumption | (rw [sizeLine_eq]; assumption)); k_whole); intro h' o' F' N' hd'; (try dsimp only at N')))
theorem x_del_ownX3 {M : Model} {A : Around} {E : Value → Shared → Prop} {s : Shared} {K : Frag} {x C L f : Addr} {h₀ : Heap} {m : Str → Option Value} {ox : Obj} {od : Option Obj} {i : Value} {Q : Unit → Shared → Prop}
    (F : Fr h₀ L s.heap m) (X₀ : K.In h₀) (I : InstAt s.heap x ox C od) (hq : noSeq K C = true) (hs : findIn K (.ref C) "__delitem__" = some (some (.ref f))) (hf : isFn K (.ref f) = true)
    (h : wpAny M A (call (.ref f) [.ref x, i]) (fun _ s' => Q () s') E s) : wpAny M A (delItem (.ref x) i) Q E s := by
  have X := X₀.keeps F.keep
  unfold delItem sequenceKey
  refine wpAny_holding (wpAny_bind (wpAny_bind (I.type.here ?_)))
  refine wpAny_bind ((anyM_none X hq).here ?_)
  rw [if_pos (show (!false) = true from rfl)]
  exact wpAny_pure (wpAny_bind (special_fn X I hs (beq_iff_eq.mp hf) (wpAny_mono h (fun _ _ z => wpAny_pure z) fun _ _ z => z)))
local macro_rules | `(tactic| walk_at "delItem ref int") => `(tactic| (k_here; k_dflt (refine' x_del_ownX3 ?k1 ?k2 ?k3 ?k4 ?k5 ?k6 ?_; (case k1 => k_asm); (case k2 => k_asm); (case k3 => k_inst); (case k4 => k_is); (case k5 => k_is); (case k6 => k_is); k_whole)))
local macro_rules | `(tactic| walk_at "WhlIf") => `(tactic| (first | (refine WhlIf.yes (decide_eq_true (by omega)) ?_) | (refine WhlIf.no (decide_eq_false (by omega)) ?_)))
local macro_rules | `(tactic| walk_at "eval Dict nil nil") => `(tactic| (k_here; k_dflt (refine' newDict_K ?k1 ?k2 ?k3 ?_; (case k1 => k_asm); (case k2 => k_asm); (case k3 => first | exact Top.nolimit (by k_asm) | exact TopRead.nolimit (by k_asm)); k_whole); intro d' h' o' F' N' l1 lo' hs' fs' hi' fi'; (try k_lt l1)))
theorem add_genX3 {prog : Program} {w : World} {A : Around} {E : Value → Shared → Prop} {s : Shared} {a b : Int} {ta tb : Tok} {Q : Value → Shared → Prop} (h : ∀ t tk, Q (.int (a + b) t) { s with toks := tk }) : wpAny (model prog w) A (binaryOp .Add (.int a ta) (.int b tb)) Q E s := add_int (h _ _)
local macro_rules | `(tactic| walk_at "binaryOp Add int int") => `(tactic| (k_here; with_reducible (refine add_genX3 ?_); intro t' tk'))

theorem headLawE {prog : Program} {w : World} {mean : ExcName → Option Value} {mg mb : Str → Option Value} {h₀ : Heap} {L fa l : Addr} {cdv : Value} {s : Shared} {m : Str → Option Value} {Q : Flow → Shared → Prop} {E : Value → Shared → Prop} {oC : Obj} {oc : Option Value}
    {lv : List Value} {ns : List Int}
    (B : Below callerA h₀ [] h₀) (X : (Mine.hd.heap_39 w.params).In h₀)
    (TP : Top Mine.hd.view_39 (looseW Mine.hd.view_39 [Str.ofString "itemgetter", Str.ofString "LRUCache"]) mean mg mb h₀)
    (hL : h₀.IsList l lv.toArray) (hI : IntsAre lv ns) (hlay : (PyData.list (ns.map .int)).layable0 = true) (hlen : ns.length ≤ 63)
    (F : Fr h₀ L s.heap m) (N : News h₀ L s.heap [(L + 1, oC)]) (hoc : oC.data = .cell oc) (m1 : m (Str.ofString "script") = some (.ref l))
    (fin : ∀ m' h' tk', Fr h₀ L h' m' → Q (.ret (.bool true)) { s with heap := h', toks := tk' }) :
    wpAny (model prog w) (callerA.deeper (envOfC (Str.ofString "law") lawScope L fa cdv)) (execs lawBody (envOfC (Str.ofString "law") lawScope L fa cdv)) Q E s :=
  wpAny_mono (headLaw B X TP hL hI hlay hlen F N hoc m1 fin) (fun _ _ h => h) (fun _ _ h => h.elim)
theorem len63 {n : Nat} (h : ¬ ((63 : Nat) : Int) < (n : Int)) : n ≤ 63 := by omega
local macro_rules | `(tactic| walk_at "execs cons") => `(tactic| (k_here; k_dflt (refine' headLawE ?B ?X ?TP ?hL ?hI ?hlay ?hlen ?F ?N ?hoc ?m1 ?_; (case F => k_asm); (case N => k_asm); (case m1 => first | exact rfl | with_unfolding_all rfl); (case hL => is_list); (case hI => with_reducible assumption); (case hlay => with_reducible assumption); (case hlen => first | omega | exact len63 (by assumption)); (case hoc => with_reducible assumption); (case B => first | with_reducible assumption | assumption); (case X => k_asm); (case TP => k_asm); k_whole); intro m' h' tk' F'))
set_option maxHeartbeats 8000000 in
theorem main : PySem.Challenge.rw_ep5039_01.Holds := Mine.hd (by k_go)
end Mine
end
theorem PySem.Challenge.cw_ep5039_01_holds : PySem.Challenge.rw_ep5039_01.Holds := by
  exact Mine.main
