import PyProof.Rows.All
import Wide.All
import OpenK.AllK
import Wide.FinOn
import PySem.Challenge.RW_ez0024_01
open PySem PySem.W PyProof.Rows PySem.Calls PySem.Spec
set_option Elab.async false
set_option maxRecDepth 100000
set_option maxHeartbeats 16000000
namespace Mine
/-! part HD -/
open_top hd for PySem.Challenge.rw_ez0024_01
theorem top_off : True := by
  w_top off
  trivial
/-! part R -/
def PureCall (w : World) (mean : ExcName → Option Value) (mg mb : Str → Option Value) (f : Addr) (k : Nat) (vs : List Value) (R : Tok → Value) : Prop :=
  ∀ (news : List (Addr × Obj)) (dp un : Nat) (gd : Option (List Code)) (cn : Str) (cs : Scope) (a : Addr) (ccd : Value) (cl : List (Str × Addr)) (outer : List Env) (A₀ : Around) (base h₀ : Heap) (L : Addr) (m : Str → Option Value) (s : Shared) (Q E : Value → Shared → Prop),
    Below A₀ base outer h₀ → Fr h₀ L s.heap m → (hd.heap_39 w.params).In h₀ → News h₀ L s.heap news → Top hd.view_39 (looseW hd.view_39 [Str.ofString "_make_default_short_help"]) mean mg mb h₀ → cs.kind = .function →
    dp + k < recursionLimit → un + 200 * k < cLine →
    (∀ (t : Tok) (h' : Heap) (tk' : Nat), Fr h₀ L h' m → News h₀ L h' news → Q (R t) { s with heap := h', toks := tk' }) →
    wpAny (model (RowW.prog (OpenRow.toRowW (OpenLaw.row PySem.Challenge.rw_ez0024_01))) w) (ktrTop dp un gd cn cs L a ccd cl outer) (call (.ref f) vs) Q E s

theorem fill : (∀ P, hd.heap_39 P = hd.heap_39 P) ∧ PySem.Challenge.rw_ez0024_01 = PySem.Challenge.rw_ez0024_01 := by
  k_fill
  exact ⟨fun _ => rfl, rfl⟩

/-! lists of texts in the ledger -/
def Small (ws : List Str) : Prop := (ws.map (·.length)).sum + ws.length ≤ 1001

theorem Small.take {ws : List Str} (h : Small ws) (k : Nat) : Small (ws.take k) := by
  unfold Small at *
  have e := congrArg (fun l : List Str => (l.map (·.length)).sum) (List.take_append_drop k ws)
  simp only [List.map_append, List.sum_append] at e
  rw [List.length_take]
  omega
theorem Small.drop {ws : List Str} (h : Small ws) (k : Nat) : Small (ws.drop k) := by
  unfold Small at *
  have e := congrArg (fun l : List Str => (l.map (·.length)).sum) (List.take_append_drop k ws)
  simp only [List.map_append, List.sum_append] at e
  rw [List.length_drop]
  omega
theorem strs_take {vs : List Value} {ws : List Str} (h : StrsAre vs ws) : ∀ k, StrsAre (vs.take k) (ws.take k) := by
  induction h with
  | nil => intro k; simp only [List.take_nil]; exact .nil
  | cons y t h ih =>
    intro k
    cases k with
    | zero => exact .nil
    | succ k => exact .cons y t (ih k)
theorem strs_drop {vs : List Value} {ws : List Str} (h : StrsAre vs ws) : ∀ k, StrsAre (vs.drop k) (ws.drop k) := by
  induction h with
  | nil => intro k; simp only [List.drop_nil]; exact .nil
  | cons y t h ih =>
    intro k
    cases k with
    | zero => exact .cons y t h
    | succ k => exact ih k
theorem strs_append {vs vs' : List Value} {ws ws' : List Str} (h : StrsAre vs ws) (h' : StrsAre vs' ws') : StrsAre (vs ++ vs') (ws ++ ws') := by
  induction h with
  | nil => exact h'
  | cons y t h ih => exact .cons y t ih

section
variable {prog : Program} {w : World} {A : Around} {E : Value → Shared → Prop} {s : Shared} {h₀ : Heap} {L l : Addr} {m : Str → Option Value} {news : List (Addr × Obj)} {x y : Str} {t u : Tok} {Q : Value → Shared → Prop}

theorem r_split (hF : Fr h₀ L s.heap m) (hN : News h₀ L s.heap news) (hy : (y.length == 0) = false) (hy1 : 1 ≤ y.length) (hx : x.length ≤ 1000)
    (h : ∀ D vs h' k, StrsAre vs (Txt.split x y) → Small (Txt.split x y) → Fr h₀ L h' m → News h₀ L h' ((D, listOf vs.toArray 0) :: news) → (∀ p ∈ news, p.1 < D) → Q (.ref D) { s with heap := h', toks := k }) :
    wpAny (model prog w) A (call (.builtin "str.split") [.str x t, .str y u]) Q E s := by
  refine KSpl.split1 hF hN hy (fun D l h' k e a F N lt => ?_) (by rw [sizeLine_eq]; omega)
  rw [e] at a
  refine h D _ h' k a ?_ F N lt
  have := split_weight x y hy1
  unfold Small
  omega
theorem r_words (hF : Fr h₀ L s.heap m) (hN : News h₀ L s.heap news) (hx : x.length ≤ 1000)
    (h : ∀ D vs h' k, StrsAre vs (Txt.words x) → Small (Txt.words x) → Fr h₀ L h' m → News h₀ L h' ((D, listOf vs.toArray 0) :: news) → (∀ p ∈ news, p.1 < D) → Q (.ref D) { s with heap := h', toks := k }) :
    wpAny (model prog w) A (call (.builtin "str.split") [.str x t]) Q E s := by
  refine KSpl.split0 hF hN (fun D l h' k e a F N lt => ?_) (by rw [sizeLine_eq]; omega)
  rw [e] at a
  refine h D _ h' k a ?_ F N lt
  have := StrLaws.words_weight x
  unfold Small
  omega
theorem r_pick_to (vs : List Value) (k : Int) (hk : 0 ≤ k) : slicePick vs.toArray none (some k) none = (vs.take k.toNat).toArray := by
  rw [kms_pick_eq]
  congr 1
  show (vs.drop 0).take _ = _
  rw [List.drop_zero]
  unfold kms_hi kms_lo
  simp only [if_neg (show ¬ k < 0 by omega), Nat.sub_zero]
  exact kmk_take_min _ _
theorem r_pick_from (vs : List Value) (k : Int) (hk : 0 ≤ k) : slicePick vs.toArray (some k) none none = (vs.drop k.toNat).toArray := by
  rw [kms_pick_eq]
  congr 1
  show (vs.drop _).take _ = _
  unfold kms_hi kms_lo
  simp only [if_neg (show ¬ k < 0 by omega)]
  rw [kmk_drop_min, List.take_of_length_le]
  rw [List.length_drop]
  omega

theorem r_slice_to {value slice : PySem.Expr} {vs : List Value} {ws : List Str} {n : Nat} {k : Int} {tk : Tok}
    (F : Fr h₀ L s.heap m) (N : News h₀ L s.heap news) (hm : (l, listOf vs.toArray n) ∈ news) (hi : StrsAre vs ws) (hsm : Small ws) (hk : 0 ≤ k)
    (h : ∀ D vs' h', StrsAre vs' (ws.take k.toNat) → Small (ws.take k.toNat) → Fr h₀ L h' m → News h₀ L h' ((D, listOf vs'.toArray 0) :: news) → (∀ p ∈ news, p.1 < D) → Q (.ref D) { s with heap := h' })
    (hs : subscripted slice false (.ref l) (.ref s.heap.objs.size) = operate [.ref s.heap.objs.size, .ref l] (getItem (.ref l) (.ref s.heap.objs.size))) (ht : ∀ r, letTemporaryGo value (.ref l) r = pure ()) :
    wpAny (model prog w) A (subscriptTail value slice (.ref l) (.ref s.heap.objs.size)) Q E { s with heap := s.heap.push { cls := .type "slice", data := .fields #[.none, .int k tk, .none] } } := by
  have hsz : vs.toArray.size ≤ sizeLine := by
    have e := hi.len_eq
    unfold Small at hsm
    rw [List.size_toArray, sizeLine_eq]
    omega
  refine kmk_slice F N (News.isList N hm) .none (.int k tk) (fun D h' F' N' lt => ?_) hs ht hsz
  rw [r_pick_to vs k hk] at N'
  exact h D _ h' (strs_take hi _) (hsm.take _) F' N' lt
theorem r_slice_from {value slice : PySem.Expr} {vs : List Value} {ws : List Str} {n : Nat} {k : Int} {tk : Tok}
    (F : Fr h₀ L s.heap m) (N : News h₀ L s.heap news) (hm : (l, listOf vs.toArray n) ∈ news) (hi : StrsAre vs ws) (hsm : Small ws) (hk : 0 ≤ k)
    (h : ∀ D vs' h', StrsAre vs' (ws.drop k.toNat) → Small (ws.drop k.toNat) → Fr h₀ L h' m → News h₀ L h' ((D, listOf vs'.toArray 0) :: news) → (∀ p ∈ news, p.1 < D) → Q (.ref D) { s with heap := h' })
    (hs : subscripted slice false (.ref l) (.ref s.heap.objs.size) = operate [.ref s.heap.objs.size, .ref l] (getItem (.ref l) (.ref s.heap.objs.size))) (ht : ∀ r, letTemporaryGo value (.ref l) r = pure ()) :
    wpAny (model prog w) A (subscriptTail value slice (.ref l) (.ref s.heap.objs.size)) Q E { s with heap := s.heap.push { cls := .type "slice", data := .fields #[.int k tk, .none, .none] } } := by
  have hsz : vs.toArray.size ≤ sizeLine := by
    have e := hi.len_eq
    unfold Small at hsm
    rw [List.size_toArray, sizeLine_eq]
    omega
  refine kmk_slice F N (News.isList N hm) (.int k tk) .none (fun D h' F' N' lt => ?_) hs ht hsz
  rw [r_pick_from vs k hk] at N'
  exact h D _ h' (strs_drop hi _) (hsm.drop _) F' N' lt

theorem r_len {vs : List Value} {ws : List Str} {n : Nat} (N : News h₀ L s.heap news) (hm : (l, listOf vs.toArray n) ∈ news) (hi : StrsAre vs ws) (hsm : Small ws)
    (h : ws.length ≤ 1001 → ∀ tk tk', Q (.int ws.length tk) { s with toks := tk' }) : wpAny (model prog w) A (call (.builtin "len") [.ref l]) Q E s := by
  have hl : ws.length ≤ 1001 := by unfold Small at hsm; omega
  exact len_strsA (News.isList N hm) hi (by omega) (h hl _ _)

theorem len_join_le (x : Str) (hx : x.length ≤ 1) (ws : List Str) : (Txt.join x ws).length ≤ (ws.map (·.length)).sum + ws.length - 1 := by
  show (Builtin.Str.glued x ws).length ≤ _
  rw [StrLaws.glued_eq_join]
  cases ws with
  | nil => exact Nat.zero_le _
  | cons a r =>
    rw [len_join_cons]
    have h1 : r.length * x.length ≤ r.length * 1 := Nat.mul_le_mul_left _ hx
    simp only [List.length_cons]
    omega
theorem r_join {vs : List Value} {ws : List Str} {n : Nat} (N : News h₀ L s.heap news) (hm : (l, listOf vs.toArray n) ∈ news) (hi : StrsAre vs ws) (hsm : Small ws) (hx : x.length ≤ 1)
    (h : (Txt.join x ws).length ≤ 1000 → ∀ tk tk', Q (.str (Txt.join x ws) tk) { s with toks := tk' }) : wpAny (model prog w) A (call (.builtin "str.join") [.str x t, .ref l]) Q E s := by
  unfold Small at hsm
  refine join_listW (News.isList N hm) hi (by omega) (by omega) (fun tk tk' => h ?_ tk tk')
  have := len_join_le x hx ws
  omega
theorem r_strlen (hx : x.length ≤ 10000) (h : ∀ tk tk', Q (.int x.length tk) { s with toks := tk' }) : wpAny (model prog w) A (call (.builtin "len") [.str x t]) Q E s :=
  P.len_str (by omega) (h _ _)
theorem r_add (hx : x.length ≤ 10000) (hy : y.length ≤ 10000) (h : (x ++ y).length = x.length + y.length → ∀ tk tk', Q (.str (x ++ y) tk) { s with toks := tk' }) :
    wpAny (model prog w) A (binaryOp .Add (.str x t) (.str y u)) Q E s :=
  KOpn.add (by omega) (fun t' k _ => h (Str.length_append x y) t' k)
end

/-! a list against the empty one -/
theorem nil_of_strs {vs : List Value} {ws : List Str} (h : StrsAre vs ws) : vs = [] ↔ ws = [] := by
  cases h with
  | nil => exact ⟨fun _ => rfl, fun _ => rfl⟩
  | cons y t r => exact ⟨(fun e => by cases e), (fun e => by cases e)⟩
theorem nil_of_ints {vs : List Value} {ws : List Int} (h : IntsAre vs ws) : vs = [] ↔ ws = [] := by
  cases h with
  | nil => exact ⟨fun _ => rfl, fun _ => rfl⟩
  | cons y t r => exact ⟨(fun e => by cases e), (fun e => by cases e)⟩
section
variable {prog : Program} {w : World} {A : Around} {E : Value → Shared → Prop} {s : Shared} {h₀ : Heap} {L a b : Addr} {news : List (Addr × Obj)} {vs : List Value} {ns : List Int} {ws : List Str} {n n' : Nat} {Q : Value → Shared → Prop}
theorem r_ne_nil (N : News h₀ L s.heap news) (ha : (a, listOf vs.toArray n) ∈ news) (hb : (b, listOf [].toArray n') ∈ news) (hu : A.units + 64 < cLine) (h : Q (.bool (!decide (vs = []))) s) :
    wpAny (model prog w) A (compareOp .NotEq (.ref a) (.ref b)) Q E s := by
  cases vs with
  | nil => exact ne_dataH_same (reads_newData (News.isList N ha) .nil) (reads_newData (News.isList N hb) .nil) (by rfl) (by rfl) hu (SeqAt.noMix_of_shape (.list .int) rfl _ _ (by rfl) (by rfl)) (by exact h)
  | cons v r => exact PySem.SeqAt.RcNeAt.lists_lengths (News.isList N ha) (News.isList N hb) (by simp) (by omega) prog w E Q (by simpa using h)
theorem r_eq_nil (N : News h₀ L s.heap news) (ha : (a, listOf vs.toArray n) ∈ news) (hb : (b, listOf [].toArray n') ∈ news) (hu : A.units + 64 < cLine) (h : Q (.bool (decide (vs = []))) s) :
    wpAny (model prog w) A (compareOp .Eq (.ref a) (.ref b)) Q E s := by
  cases vs with
  | nil => exact eq_dataH_same (reads_newData (News.isList N ha) .nil) (reads_newData (News.isList N hb) .nil) (by rfl) (by rfl) hu (SeqAt.noMix_of_shape (.list .int) rfl _ _ (by rfl) (by rfl)) (by exact h)
  | cons v r => exact P.eq_list_lengths (N.get ha) (N.get hb) (by simp) (by omega) (by simpa using h)
theorem r_ne_nil_ints (N : News h₀ L s.heap news) (ha : (a, listOf vs.toArray n) ∈ news) (hb : (b, listOf [].toArray n') ∈ news) (hi : IntsAre vs ns) (hu : A.units + 64 < cLine) (h : Q (.bool (!decide (ns = []))) s) :
    wpAny (model prog w) A (compareOp .NotEq (.ref a) (.ref b)) Q E s :=
  r_ne_nil N ha hb hu (by rw [show decide (vs = []) = decide (ns = []) from by simp only [nil_of_ints hi]]; exact h)
theorem r_ne_nil_strs (N : News h₀ L s.heap news) (ha : (a, listOf vs.toArray n) ∈ news) (hb : (b, listOf [].toArray n') ∈ news) (hi : StrsAre vs ws) (hu : A.units + 64 < cLine) (h : Q (.bool (!decide (ws = []))) s) :
    wpAny (model prog w) A (compareOp .NotEq (.ref a) (.ref b)) Q E s :=
  r_ne_nil N ha hb hu (by rw [show decide (vs = []) = decide (ws = []) from by simp only [nil_of_strs hi]]; exact h)
theorem r_eq_nil_strs (N : News h₀ L s.heap news) (ha : (a, listOf vs.toArray n) ∈ news) (hb : (b, listOf [].toArray n') ∈ news) (hi : StrsAre vs ws) (hu : A.units + 64 < cLine) (h : Q (.bool (decide (ws = []))) s) :
    wpAny (model prog w) A (compareOp .Eq (.ref a) (.ref b)) Q E s :=
  r_eq_nil N ha hb hu (by rw [show decide (vs = []) = decide (ws = []) from by simp only [nil_of_strs hi]]; exact h)

/-! the first int of a list, taken away -/
theorem r_pop0 {D : Addr} {u : Tok} {news' : List (Addr × Obj)} {m : Str → Option Value} (F : Fr h₀ L s.heap m) (N : News h₀ L s.heap news) (hi : IntsAre vs ns) (hne : ns ≠ []) (hlen : ns.length ≤ 4000)
    (U : Upd D (listOf vs.toArray n) (listOf vs.tail.toArray (n + 1)) news news')
    (h : ∀ t h', Fr h₀ L h' m → News h₀ L h' news' → IntsAre vs.tail ns.tail → Q (.int (ns.headD 0) t) { s with heap := h' }) : wpAny (model prog w) A (call (.builtin "list.pop") [.ref D, .int 0 u]) Q E s := by
  cases hi with
  | nil => exact absurd rfl hne
  | cons k t r =>
    refine kl_popAt (p := []) (y := .int k t) (k := 0) F N (by decide) ?_ ?_ U ?_ (fun h' F' N' => h t h' F' N' r)
    · rw [List.size_toArray, List.length_cons]; exact StrLaws.seqIndex_nonneg (Int.le_refl 0) (by omega)
    · rfl
    · have := r.length
      simp only [List.length_cons] at hlen ⊢
      rw [sizeLine_eq]
      omega
end

/-! a range that goes down, a body that keeps nothing -/
def LpEnd (h₀ : Heap) (L : Addr) (x : Str) (stored : List Str) (m₀ : Str → Option Value) (all : List (Addr × Obj)) (P : Prop) (s₁ s₂ : Shared) : Prop :=
  ∃ h' tk' m', s₂ = { s₁ with heap := h', toks := tk' } ∧ Fr h₀ L h' m' ∧ News h₀ L h' all ∧ (∀ z, z ≠ x → stored.contains z = false → m' z = m₀ z) ∧ P
def LpPost (h₀ : Heap) (L : Addr) (x : Str) (stored : List Str) (m₀ : Str → Option Value) (all : List (Addr × Obj)) (P : Prop) (s₁ : Shared) (Q : Flow → Shared → Prop) (f : Flow) (s₂ : Shared) : Prop :=
  match f with
  | .ret v => Q (.ret v) s₂
  | .brk => Q .next s₂
  | _ => LpEnd h₀ L x stored m₀ all P s₁ s₂
theorem LpEnd.intro {h₀ : Heap} {L : Addr} {x : Str} {stored : List Str} {m₀ m' : Str → Option Value} {all all' : List (Addr × Obj)} {P : Prop} {s₁ : Shared} {h' : Heap} {tk' : Nat}
    (F : Fr h₀ L h' m') (N : News h₀ L h' all') (hsub : ∀ p ∈ all, p ∈ all') (hm : ∀ z, z ≠ x → stored.contains z = false → m' z = m₀ z) (hP : P) : LpEnd h₀ L x stored m₀ all P s₁ { s₁ with heap := h', toks := tk' } :=
  ⟨h', tk', m', rfl, F, fun p hp => N p (hsub p hp), hm, hP⟩

def mix (x : Str) (stored : List Str) (v : Value) (u m₀ : Str → Option Value) : Str → Option Value := fun y => if y = x then some v else if stored.contains y then u y else m₀ y
theorem mix_eq {x : Str} {stored : List Str} {v : Value} {m₁ m₀ : Str → Option Value} (h : ∀ z, z ≠ x → stored.contains z = false → m₁ z = m₀ z) : (fun y => if y = x then some v else m₁ y) = mix x stored v m₁ m₀ := by
  funext y
  unfold mix
  by_cases h1 : y = x
  · rw [if_pos h1, if_pos h1]
  · rw [if_neg h1, if_neg h1]
    cases h2 : stored.contains y with
    | true => simp
    | false => simp only [Bool.false_eq_true, if_false]; exact h y h1 h2
section
variable {prog : Program} {w : World} {A : Around} {E : Value → Shared → Prop} {s : Shared} {env : Env} {h₀ : Heap} {x : Str} {body : List Stmt} {Q : Flow → Shared → Prop}
theorem r_down {r : Addr} {a₀ b₀ : Int} {t₀ u₀ v₀ : Tok} {n : Nat} {m₀ : Str → Option Value} {news : List (Addr × Obj)} (stored : List Str) (P : Nat → Prop)
    (hh : A.handled = none) (hr : IsRange s.heap r a₀ b₀ (-1) t₀ u₀ v₀) (hlo : -(2 ^ 62) ≤ a₀) (hhi : a₀ < 2 ^ 62) (hlo' : -(2 ^ 62) ≤ b₀) (hhi' : b₀ < 2 ^ 62) (hn : (a₀ - b₀).toNat = n)
    (F : Fr h₀ env.locals s.heap m₀) (N : News h₀ env.locals s.heap news) (hp : P 0)
    (turn : ∀ (i : Nat) (k : Int) t (u : Str → Option Value) h tk own, k = a₀ - (i : Int) → i < n → P i → OwnOff own (news.map (·.1)) →
      Fr h₀ env.locals h (fun y => if y = x then some (.int k t) else if stored.contains y then u y else m₀ y) → News h₀ env.locals h (news ++ own) →
      wpAny (model prog w) A (execs body env) (LpPost h₀ env.locals x stored m₀ (news ++ own) (P (i + 1)) { s with heap := h, toks := tk } Q) E { s with heap := h, toks := tk })
    (done : ∀ (u : Str → Option Value) h tk, P n → Fr h₀ env.locals h (fun y => if y = x then u y else if stored.contains y then u y else m₀ y) → News h₀ env.locals h news → Q .next { s with heap := h, toks := tk }) :
    wpAny (model prog w) A (pyIter (.ref r)) (fun it s₂ => LoopAtV prog w A h₀ env x body Q E it s₂) E s := by
  have hsmall := small_down hlo hhi hlo' hhi'
  have hn' : Builtin.Range.rangeSize a₀ b₀ (-1) = (n : Int) := by rw [rangeSize_downNat, hn]
  refine wpAny_pyIter_range hr hsmall ?_
  have W : Walks prog w A s.heap.objs.size [s.heap.objs.size] [s.heap.objs.size] n (fun i v => i < n ∧ ∃ t, v = .int (a₀ + i * (-1)) t)
      (fun i h => IsRangeIter h s.heap.objs.size (a₀ + (i : Nat) * (-1)) ((n : Int) - (i : Nat)) (-1)) := (Walks.range hh _ a₀ (-1) n).bound
  refine loop_invN (fun i m nx => nx = news ∧ (∀ z, z ≠ x → stored.contains z = false → m z = m₀ z) ∧ P i) W ?_ ?_ ?_ ?_ (by show IsRangeIter _ _ _ _ _; rw [hn']; simpa using Heap.get?_push_size _ rfl) (F.push _) (fun p hp => ⟨Heap.get?_push_of_some _ (N p hp).1, (N p hp).2⟩) ⟨rfl, fun _ _ _ => rfl, hp⟩ ?_ ?_
  · intro hm
    exact absurd F.ns.lt ((List.mem_singleton.mp hm) ▸ Nat.lt_irrefl _)
  · intro b hb
    rw [List.mem_singleton.mp hb]
    exact next_is_new F
  · intro p hp hI
    exact absurd (Heap.lt_size (N p hp).1) ((List.mem_singleton.mp hI) ▸ Nat.lt_irrefl _)
  · intro p hp hI
    exact absurd (Heap.lt_size (N p hp).1) ((List.mem_singleton.mp hI) ▸ Nat.lt_irrefl _)
  · rintro i v m₁ nx h tk own hi ⟨_, t, rfl⟩ _ hoff ⟨rfl, hm, hP⟩ F₁ N₁
    have e1 : a₀ + (i : Int) * (-1) = a₀ - (i : Int) := by omega
    rw [e1, mix_eq hm] at F₁
    refine wpAny_mono (turn i _ t m₁ h tk own rfl hi hP hoff F₁ N₁) (fun f s₂ p => ?_) fun _ _ e => e
    have fin : LpEnd h₀ env.locals x stored m₀ (nx ++ own) (P (i + 1)) { s with heap := h, toks := tk } s₂ → InvEndN h₀ env.locals (fun m nx' => nx' = nx ∧ (∀ z, z ≠ x → stored.contains z = false → m z = m₀ z) ∧ P (i + 1)) own (nx.map (·.1)) { s with heap := h, toks := tk } s₂ := by
      rintro ⟨h', tk', m', e, F', N', hm', hP'⟩
      exact ⟨h', tk', m', nx ++ own, nx, e, F', N', fun p hp => List.mem_append_left _ hp, fun p hp => List.mem_append_right _ hp, rfl, rfl, hm', hP'⟩
    cases f with
    | ret v => exact p
    | brk => exact p
    | next => exact fin p
    | cont => exact fin p
  · rintro m₁ nx h tk ⟨rfl, hm, hP⟩ F₁ N₁
    refine done m₁ h tk hP ?_ N₁
    have em : (fun y => if y = x then m₁ y else if stored.contains y then m₁ y else m₀ y) = m₁ := by
      funext y
      by_cases h1 : y = x
      · rw [if_pos h1]
      · rw [if_neg h1]
        cases h2 : stored.contains y with
        | true => simp
        | false => simp only [Bool.false_eq_true, if_false]; exact (hm y h1 h2).symm
    rw [em]
    exact F₁
end
/-! part M -/
local macro_rules | `(tactic| walk_at "call builtin:str.split") => `(tactic| (k_here; (with_reducible show wpAny _ _ (call (Value.builtin "str.split") [Value.str _ _, Value.str _ _]) _ _ _); (refine r_split (by k_asm) (by k_asm) (by decide) (by decide) (by omega) ?_); intro D' vs' h' k' hi' hs' F' N' l1; (try k_lt l1)))
local macro_rules | `(tactic| walk_at "call builtin:str.split") => `(tactic| (k_here; (with_reducible show wpAny _ _ (call (Value.builtin "str.split") [Value.str _ _]) _ _ _); (refine r_words (by k_asm) (by k_asm) (by omega) ?_); intro D' vs' h' k' hi' hs' F' N' l1; (try k_lt l1)))
local macro_rules | `(tactic| walk_at "call builtin:len") => `(tactic| (k_here; (with_reducible show wpAny _ _ (call (Value.builtin "len") [Value.ref _]) _ _ _); (refine r_len (by k_asm) (by k_mem) (by assumption) (by assumption) ?_); intro hlen' _ _))
local macro_rules | `(tactic| walk_at "call builtin:len") => `(tactic| (k_here; (with_reducible show wpAny _ _ (call (Value.builtin "len") [Value.str _ _]) _ _ _); (refine r_strlen (by omega) ?_); intro _ _))
local macro_rules | `(tactic| walk_at "call builtin:str.join") => `(tactic| (k_here; (with_reducible show wpAny _ _ (call (Value.builtin "str.join") [Value.str _ _, Value.ref _]) _ _ _); (refine r_join (by k_asm) (by k_mem) (by assumption) (by assumption) (by decide) ?_); intro hlen' _ _))
local macro_rules | `(tactic| walk_at "subscriptTail Name Slice ref ref") => `(tactic| (k_here; (with_reducible show wpAny _ _ (subscriptTail _ (PySem.Expr.Slice none (some _) none _) (Value.ref _) (Value.ref _)) _ _ _); k_dflt (refine' r_slice_to ?F ?N ?l ?p ?q ?e ?_ ?s ?t; (case F => k_asm); (case N => k_asm); (case l => k_mem); (case p => assumption); (case q => assumption); (case e => omega); (case s => with_unfolding_all rfl); (case t => kmk_pure)); intro D' vs' h' hi' hs' F' N' l1; (try k_lt l1)))
local macro_rules | `(tactic| walk_at "subscriptTail Name Slice ref ref") => `(tactic| (k_here; (with_reducible show wpAny _ _ (subscriptTail _ (PySem.Expr.Slice (some _) none none _) (Value.ref _) (Value.ref _)) _ _ _); k_dflt (refine' r_slice_from ?F ?N ?l ?p ?q ?e ?_ ?s ?t; (case F => k_asm); (case N => k_asm); (case l => k_mem); (case p => assumption); (case q => assumption); (case e => omega); (case s => with_unfolding_all rfl); (case t => kmk_pure)); intro D' vs' h' hi' hs' F' N' l1; (try k_lt l1)))
local macro_rules | `(tactic| walk_at "r_ln") => `(tactic| first | omega | (kopn_lits; omega))
local macro_rules | `(tactic| walk_at "binaryOp Add str str") => `(tactic| (k_here; (with_reducible show wpAny _ _ (binaryOp Operator.Add (Value.str _ _) (Value.str _ _)) _ _ _); (refine r_add (by walk_at "r_ln") (by walk_at "r_ln") ?_); intro hadd' _ _))
local macro_rules | `(tactic| walk_at "compareOp NotEq ref ref") => `(tactic| (k_here; (with_reducible show wpAny _ _ (compareOp CmpOp.NotEq (Value.ref _) (Value.ref _)) _ _ _); first
  | (with_unfolding_all refine r_ne_nil_ints (by k_asm) (by k_mem) (by k_mem) (by assumption) (by units_room) ?_)
  | (with_unfolding_all refine r_ne_nil_strs (by k_asm) (by k_mem) (by k_mem) (by assumption) (by units_room) ?_)))
local macro_rules | `(tactic| walk_at "compareOp Eq ref ref") => `(tactic| (k_here; (with_reducible show wpAny _ _ (compareOp CmpOp.Eq (Value.ref _) (Value.ref _)) _ _ _); (with_unfolding_all refine r_eq_nil_strs (by k_asm) (by k_mem) (by k_mem) (by assumption) (by units_room) ?_)))
local macro_rules | `(tactic| walk_at "call builtin:list.pop") => `(tactic| (k_here; (with_reducible show wpAny _ _ (call (Value.builtin _) [Value.ref _, Value.int 0 _]) _ _ _); k_dflt (refine' r_pop0 ?F ?N ?i ?ne ?le ?U ?_; (case F => k_asm); (case N => k_asm); (case U => k_upd); (case i => assumption); (case ne => assumption); (case le => omega)); intro t' h' F' N' hi'; (try dsimp only [List.nil_append, List.cons_append] at N')))
theorem ret_s {h₀ h' : Heap} {L : Addr} {m : Str → Option Value} {news all : List (Addr × Obj)} {s : Shared} {Q : Value → Shared → Prop} {t : Tok} {tk' : Nat} {x y : Str}
    (hret : ∀ (t : Tok) (h' : Heap) (tk' : Nat), Fr h₀ L h' m → News h₀ L h' news → Q (.str x t) { s with heap := h', toks := tk' }) (e : y = x) (F : Fr h₀ L h' m) (N : News h₀ L h' all) (hs : ∀ p ∈ news, p ∈ all) : Q (.str y t) { s with heap := h', toks := tk' } := by
  subst e
  exact hret t h' tk' F fun p hp => N p (hs p hp)
theorem sub_tail1 {q1 : Addr × Obj} {rest rest' : List (Addr × Obj)} (h : ∀ p ∈ rest, p ∈ rest') : ∀ p ∈ rest, p ∈ q1 :: rest' := fun p hp => .tail _ (h p hp)
theorem sub_tail2 {q1 q2 : Addr × Obj} {rest rest' : List (Addr × Obj)} (h : ∀ p ∈ rest, p ∈ rest') : ∀ p ∈ rest, p ∈ q1 :: q2 :: rest' := fun p hp => .tail _ (.tail _ (h p hp))
local macro_rules | `(tactic| walk_at "r_sub") => `(tactic| first | exact sub_tail1 (by with_reducible assumption) | exact sub_tail2 (by with_reducible assumption) | (intro p9 h9; (try simp only [List.mem_cons, List.mem_append, List.cons_append, List.append_assoc] at h9 ⊢); first
  | exact h9
  | (simp only [h9, true_or, or_true]; done)
  | (repeat (first | exact h9 | apply Or.inr))
  | grind))
local macro_rules | `(tactic| walk_at "r_same") => `(tactic| (intro z h1 h2; (have h3 := h2); (simp only [List.contains_cons, List.contains_nil, Bool.or_false, Bool.or_eq_false_iff, beq_eq_false_iff_ne, ne_eq] at h3); (simp only [h1, h2, h3, if_false, Bool.false_eq_true]); (try rfl)))
local macro_rules | `(tactic| walk_at "LpPost") => `(tactic| (dsimp only [LpPost]))
/-! part S2 -/
theorem fill2 : (∀ P, hd.heap_39 P = hd.heap_39 P) ∧ PySem.Challenge.rw_ez0024_01 = PySem.Challenge.rw_ez0024_01 := by
  k_fill
  exact ⟨fun _ => rfl, rfl⟩
def shortenS (ws : List Str) (width : Int) : Nat → Str
  | 0 => Str.ofString "..."
  | k + 1 => if ((Txt.join (Str.ofString " ") (ws.take (k + 1))).length : Int) + 3 ≤ width then Txt.join (Str.ofString " ") (ws.take (k + 1)) ++ Str.ofString "..." else shortenS ws width k
def shortenT (text : Str) (width : Int) : Str := shortenS (Txt.split text (Str.ofString " ")) width ((Txt.split text (Str.ofString " ")).length - 1)

theorem shorten_ok (w : World) (mean : ExcName → Option Value) (mg mb : Str → Option Value) (text : Str) (width : Int) (t u : Tok) (hlen : text.length ≤ 1000) :
    PureCall w mean mg mb 21 1 [.str text t, .int width u] (fun t => .str (shortenT text width) t) := by
  unfold PureCall
  intro news dp un gd cn cs a ccd cl outer A₀ base h₀ L m s Q E B F X N T hk hd hu hret
  refine wpAny_call ?_
  k_dflt cell_enter
  k_steps
  rename IsRange _ _ _ _ _ _ _ _ => hR
  with_unfolding_all refine' r_down [Str.ofString "begin"] (fun i => shortenS (Txt.split text (Str.ofString " ")) width ((Txt.split text (Str.ofString " ")).length - 1 - i) = shortenT text width) (by rfl) hR (by omega) (by omega) (by omega) (by omega) rfl ?jF ?jN ?jP ?jturn ?jdone
  case jF => k_asm
  case jN => k_asm
  case jP => rfl
  case jturn =>
    intro i k t u h tk own hk' hi hP hoff F1 N1
    have hk0 : 0 ≤ k := by omega
    have hkn : k.toNat = (Txt.split text (Str.ofString " ")).length - 1 - i := by omega
    have hstep : shortenS (Txt.split text (Str.ofString " ")) width k.toNat = shortenT text width := by rw [hkn]; exact hP
    have hk1 : k.toNat = (k.toNat - 1) + 1 := by omega
    rw [hk1] at hstep
    unfold shortenS at hstep
    rw [← hk1] at hstep
    k_steps
    · refine ret_s hret ?_ (by assumption) (by assumption) (by walk_at "r_sub")
      rw [if_pos (by assumption)] at hstep
      exact hstep
    · refine LpEnd.intro (by k_asm) (by k_asm) (by walk_at "r_sub") (by walk_at "r_same") ?_
      rw [if_neg (by assumption)] at hstep
      rw [← hstep]
      congr 1
      omega
  case jdone =>
    intro u h tk hP F1 N1
    k_steps
    refine ret_s hret ?_ (by assumption) (by assumption) (by walk_at "r_sub")
    rw [← hP]
    have e : (Txt.split text (Str.ofString " ")).length - 1 - ((((Txt.split text (Str.ofString " ")).length : Int) - 1 - 0).toNat) = 0 := by omega
    rw [e]
    rfl
/-! part T1 -/
theorem fill3 : (∀ P, hd.heap_39 P = hd.heap_39 P) ∧ PySem.Challenge.rw_ez0024_01 = PySem.Challenge.rw_ez0024_01 := by
  k_fill
  exact ⟨fun _ => rfl, rfl⟩

structure DrawsOk (x : Int) (ns : List Int) : Prop where
  lo : 0 ≤ x
  hi : x < 1000000000000000
  all : ∀ n ∈ ns, 0 ≤ n ∧ n < 1000000000000000
  len : ns.length ≤ 10

def DrawCall (w : World) (mean : ExcName → Option Value) (mg mb : Str → Option Value) (f : Addr) (k : Nat) (more : List Value) (Ret : Value → Prop) : Prop :=
  ∀ (d e : Addr) (x : Int) (tx : Tok) (vs : List Value) (ns : List Int) (n1 n2 : Nat) (rest : List (Addr × Obj)) (dp un : Nat) (gd : Option (List Code)) (cn : Str) (cs : Scope) (a : Addr) (ccd : Value) (cl : List (Str × Addr)) (outer : List Env) (A₀ : Around) (base h₀ : Heap) (L : Addr) (m : Str → Option Value) (s : Shared) (Q E : Value → Shared → Prop),
    Below A₀ base outer h₀ → Fr h₀ L s.heap m → (hd.heap_39 w.params).In h₀ → News h₀ L s.heap ((d, listOf [.int x tx, .ref e].toArray n1) :: (e, listOf vs.toArray n2) :: rest) → Top hd.view_39 (looseW hd.view_39 [Str.ofString "_make_default_short_help"]) mean mg mb h₀ → cs.kind = .function →
    dp + k < recursionLimit → un + 200 * k < cLine → @Ne Nat d e → OwnOff rest [d, e] → IntsAre vs ns → DrawsOk x ns →
    (∀ (v : Value) (x' : Int) (tx' : Tok) (vs' : List Value) (ns' : List Int) (n1' n2' : Nat) (h' : Heap) (tk' : Nat), Fr h₀ L h' m → News h₀ L h' ((d, listOf [.int x' tx', .ref e].toArray n1') :: (e, listOf vs'.toArray n2') :: rest) → IntsAre vs' ns' → DrawsOk x' ns' → Ret v → Q v { s with heap := h', toks := tk' }) →
    wpAny (model (RowW.prog (OpenRow.toRowW (OpenLaw.row PySem.Challenge.rw_ez0024_01))) w) (ktrTop dp un gd cn cs L a ccd cl outer) (call (.ref f) (.ref d :: more)) Q E s

theorem news_tail {h₀ h : Heap} {L : Addr} {q : Addr × Obj} {l : List (Addr × Obj)} (N : News h₀ L h (q :: l)) : News h₀ L h l := fun p hp => N p (.tail _ hp)
theorem draws_step {x many : Int} {ns : List Int} (h : DrawsOk x ns) (hm : 0 < many) : DrawsOk (Int.fdiv x many) ns ∧ 0 ≤ Int.fmod x many ∧ Int.fmod x many < many := by
  obtain ⟨h1, h2, h3, h4⟩ := h
  have e1 : Int.fdiv x many = x / many := Int.fdiv_eq_ediv_of_nonneg _ (by omega)
  have e2 : Int.fmod x many = x % many := Int.fmod_eq_emod_of_nonneg _ (by omega)
  rw [e1, e2]
  have h5 : 0 ≤ x / many := Int.ediv_nonneg h1 (by omega)
  have h6 : x / many ≤ x := Int.ediv_le_self _ h1
  exact ⟨⟨h5, by omega, h3, h4⟩, Int.emod_nonneg _ (by omega), Int.emod_lt_of_pos _ hm⟩
theorem draws_head {x : Int} {ns : List Int} (h : DrawsOk x ns) (hne : ¬ ns = []) : DrawsOk (ns.headD 0) ns.tail := by
  obtain ⟨h1, h2, h3, h4⟩ := h
  cases ns with
  | nil => exact absurd rfl hne
  | cons a r =>
    have ha := h3 a (.head _)
    refine ⟨ha.1, ha.2, fun n hn => h3 n (.tail _ hn), ?_⟩
    simp only [List.length_cons] at h4
    show r.length ≤ 10
    omega

theorem take_ok (w : World) (mean : ExcName → Option Value) (mg mb : Str → Option Value) (many : Int) (t : Tok) (hm0 : 0 < many) (hm3 : many ≤ 100) :
    DrawCall w mean mg mb 36 1 [.int many t] (fun v => ∃ i t, v = .int i t ∧ 0 ≤ i ∧ i < many) := by
  unfold DrawCall
  intro d e x tx vs ns n1 n2 rest dp un gd cn cs a ccd cl outer A₀ base h₀ L m s Q E B F X N T hk hd hu hne hoff hI hD hret
  have hlen := hD.len
  refine wpAny_call ?_
  k_dflt cell_enter
  k_steps
  · have q := draws_step hD hm0
    exact hret _ _ _ _ _ _ _ _ _ (by assumption) (by first | assumption | exact news_tail (by assumption)) hI q.1 ⟨_, _, rfl, q.2⟩
  · have q := draws_step (draws_head hD (by assumption)) hm0
    exact hret _ _ _ _ _ _ _ _ _ (by assumption) (by first | assumption | exact news_tail (by assumption)) (by assumption) q.1 ⟨_, _, rfl, q.2⟩
  · have q := draws_step hD hm0
    exact hret _ _ _ _ _ _ _ _ _ (by assumption) (by first | assumption | exact news_tail (by assumption)) hI q.1 ⟨_, _, rfl, q.2⟩
/-! part T2 -/
theorem fill4 : (∀ P, hd.heap_39 P = hd.heap_39 P) ∧ PySem.Challenge.rw_ez0024_01 = PySem.Challenge.rw_ez0024_01 := by
  k_fill
  exact ⟨fun _ => rfl, rfl⟩
theorem news_mid1 {h₀ h : Heap} {L : Addr} {q1 d e : Addr × Obj} {l : List (Addr × Obj)} (N : News h₀ L h (q1 :: d :: e :: l)) : News h₀ L h (d :: e :: q1 :: l) := fun p hp => N p (by
  simp only [List.mem_cons] at hp ⊢
  rcases hp with h | h | h | h <;> simp [h])
theorem news_mid2 {h₀ h : Heap} {L : Addr} {q1 q2 d e : Addr × Obj} {l : List (Addr × Obj)} (N : News h₀ L h (q1 :: q2 :: d :: e :: l)) : News h₀ L h (d :: e :: q1 :: q2 :: l) := fun p hp => N p (by
  simp only [List.mem_cons] at hp ⊢
  rcases hp with h | h | h | h | h <;> simp [h])
theorem ownOff_cons {q : Addr × Obj} {d e : Addr} {l : List (Addr × Obj)} (h : OwnOff l [d, e]) (h1 : @Ne Nat q.1 d) (h2 : @Ne Nat q.1 e) : OwnOff (q :: l) [d, e] := by
  intro p hp b hb
  rcases List.mem_cons.mp hp with rfl | hp
  · rcases List.mem_cons.mp hb with rfl | hb
    · exact h1
    · rw [List.mem_singleton.mp hb]; exact h2
  · exact h p hp b hb
local macro_rules | `(tactic| walk_at "r_off") => `(tactic| repeat (first | assumption | (refine ownOff_cons ?_ (by k_ne) (by k_ne))))
local macro_rules | `(tactic| walk_at "r_draws") => `(tactic| first | assumption | exact news_mid1 (by assumption) | exact news_mid2 (by assumption))
theorem getD_all (P : Int → Prop) (l : List Int) (k : Nat) (d : Int) (hk : k < l.length) (h : ∀ a ∈ l, P a) : P (l.getD k d) := by
  have e : l.getD k d = l[k] := by simp [List.getD, hk]
  rw [e]
  exact h _ (List.getElem_mem hk)
local macro_rules | `(tactic| walk_at "r_idx") => `(tactic| ((try simp only [List.length_cons, List.length_nil]); omega))
local macro_rules | `(tactic| walk_at "r_posI") => `(tactic| first | omega | (exact getD_all (fun a => 0 < a) _ _ _ (by walk_at "r_idx") (by decide)))
local macro_rules | `(tactic| walk_at "r_topI") => `(tactic| first | omega | (exact getD_all (fun a => a ≤ 100) _ _ _ (by walk_at "r_idx") (by decide)))
local macro_rules | `(tactic| walk_at "call ref") => `(tactic| (k_here; (with_reducible show wpAny _ _ (call (Value.ref 36) [Value.ref _, Value.int _ _]) _ _ _); k_dflt (refine' take_ok _ _ _ _ _ _ ?m0 ?m1 _ _ _ _ _ _ _ _ _ _ _ _ _ _ _ _ _ _ _ _ _ _ _ _ _ _ ?jB ?jF ?jX ?jN ?jT ?jk ?jd ?ju ?jne ?joff ?jI ?jD ?_; (case jN => walk_at "r_draws"); (case jF => k_asm); (case jB => k_asm); (case jX => k_asm); (case jT => k_asm); (case jk => first | exact rfl | assumption); (case jd => ktr_room); (case ju => ktr_units); (case jI => assumption); (case jD => assumption); (case jne => first | assumption | k_ne); (case joff => walk_at "r_off"); (case m0 => walk_at "r_posI"); (case m1 => walk_at "r_topI")); intro v' x' tx' vs' ns' n1' n2' h' tk' F' N' hi' hD' hv'; obtain ⟨i', t', ev', hlo', hhi'⟩ := hv'; subst ev'; (try (first
  | (have htop' := Int.lt_of_lt_of_le hhi' (getD_all (fun a => a ≤ 20) _ _ _ (by walk_at "r_idx") (by decide)))
  | (have htop' := Int.lt_of_lt_of_le hhi' (getD_all (fun a => a ≤ 52) _ _ _ (by walk_at "r_idx") (by decide)))))))

def signW (c : Nat) : Bool := (decide (97 ≤ c) && decide (c ≤ 122)) || c == 77 || c == 46
def wordB (x : Str) : Bool := decide (x.length ≤ 22) && x.cps.toList.all signW
def alpha : Str := Str.ofString "abcdefghijklmnopqrst"
theorem wordB_1 : ∀ n : Nat, n < 20 → wordB (Str.ofString "M" ++ Txt.slice (Txt.slice alpha none (some (1 + (n : Int)))) (some 1) none ++ Str.ofString ".") = true := by decide +kernel
theorem wordB_2 : ∀ n : Nat, n < 20 → wordB (Str.ofString "M" ++ Txt.slice (Txt.slice alpha none (some (1 + (n : Int)))) (some 1) none ++ Str.ofString "") = true := by decide +kernel
theorem wordB_3 : ∀ n : Nat, n < 20 → wordB (Txt.slice alpha none (some (1 + (n : Int))) ++ Str.ofString ".") = true := by decide +kernel
theorem wordB_4 : ∀ n : Nat, n < 20 → wordB (Txt.slice alpha none (some (1 + (n : Int))) ++ Str.ofString "") = true := by decide +kernel
theorem wordB_at (f : Int → Str) (h : ∀ n : Nat, n < 20 → wordB (f (n : Int)) = true) {i : Int} (h0 : 0 ≤ i) (h1 : i < 20) : wordB (f i) = true := by
  have q := h i.toNat (by omega)
  rwa [Int.toNat_of_nonneg h0] at q
theorem news_drop3 {h₀ h : Heap} {L : Addr} {q d e : Addr × Obj} {l : List (Addr × Obj)} (N : News h₀ L h (d :: e :: q :: l)) : News h₀ L h (d :: e :: l) := fun p hp => N p (by
  simp only [List.mem_cons] at hp ⊢
  rcases hp with h | h | h <;> simp [h])

theorem word_ok (w : World) (mean : ExcName → Option Value) (mg mb : Str → Option Value) :
    DrawCall w mean mg mb 43 2 [] (fun v => ∃ y t, v = .str y t ∧ wordB y = true) := by
  unfold DrawCall
  intro d e x tx vs ns n1 n2 rest dp un gd cn cs a ccd cl outer A₀ base h₀ L m s Q E B F X N T hk hd hu hne hoff hI hD hret
  refine wpAny_call ?_
  k_dflt cell_enter
  k_steps
  · exact hret _ _ _ _ _ _ _ _ _ (by assumption) (news_drop3 (by assumption)) (by assumption) (by assumption) ⟨_, _, rfl, wordB_at (fun i => Str.ofString "M" ++ Txt.slice (Txt.slice alpha none (some (1 + i))) (some 1) none ++ Str.ofString ".") wordB_1 (by assumption) (by assumption)⟩
  · exact hret _ _ _ _ _ _ _ _ _ (by assumption) (news_drop3 (by assumption)) (by assumption) (by assumption) ⟨_, _, rfl, wordB_at (fun i => Str.ofString "M" ++ Txt.slice (Txt.slice alpha none (some (1 + i))) (some 1) none ++ Str.ofString "") wordB_2 (by assumption) (by assumption)⟩
  · exact hret _ _ _ _ _ _ _ _ _ (by assumption) (news_drop3 (by assumption)) (by assumption) (by assumption) ⟨_, _, rfl, wordB_at (fun i => Txt.slice alpha none (some (1 + i)) ++ Str.ofString ".") wordB_3 (by assumption) (by assumption)⟩
  · exact hret _ _ _ _ _ _ _ _ _ (by assumption) (news_drop3 (by assumption)) (by assumption) (by assumption) ⟨_, _, rfl, wordB_at (fun i => Txt.slice alpha none (some (1 + i)) ++ Str.ofString "") wordB_4 (by assumption) (by assumption)⟩
/-! part T3 -/
theorem fill5 : (∀ P, hd.heap_39 P = hd.heap_39 P) ∧ PySem.Challenge.rw_ez0024_01 = PySem.Challenge.rw_ez0024_01 := by
  k_fill
  exact ⟨fun _ => rfl, rfl⟩
/-! the texts that are built -/
def signB (c : Nat) : Bool := signW c || c == 32 || c == 10
def signT (c : Nat) : Bool := signB c || c == 8
structure TextOk (y : Str) (n : Nat) : Prop where
  len : y.length ≤ n
  signs : ∀ c ∈ y.cps.toList, signT c = true
  one : y.cps.toList.count 8 ≤ 1
theorem signB_ne {c : Nat} (h : signB c = true) : c ≠ 8 := by
  intro e
  subst e
  exact absurd h (by decide)
theorem TextOk.add {y z : Str} {n k : Nat} (h : TextOk y n) (hl : z.length ≤ k) (hz : ∀ c ∈ z.cps.toList, signB c = true) : TextOk (y ++ z) (n + k) := by
  obtain ⟨h1, h2, h3⟩ := h
  refine ⟨by rw [Str.length_append]; omega, fun c hc => ?_, ?_⟩
  · rw [Str.cps_append, Array.toList_append] at hc
    rcases List.mem_append.mp hc with hc | hc
    · exact h2 c hc
    · unfold signT; rw [hz c hc]; rfl
  · rw [Str.cps_append, Array.toList_append, List.count_append]
    have e : z.cps.toList.count 8 = 0 := List.count_eq_zero.mpr fun hm => signB_ne (hz 8 hm) rfl
    omega
theorem TextOk.word {y z : Str} {n : Nat} (h : TextOk y n) (hz : wordB z = true) : TextOk (y ++ z) (n + 22) := by
  unfold wordB at hz
  rw [Bool.and_eq_true, decide_eq_true_eq, List.all_eq_true] at hz
  exact h.add hz.1 fun c hc => by unfold signB; rw [hz.2 c hc]; rfl
def sepB (z : Str) : Bool := decide (z.length ≤ 2) && z.cps.toList.all signB
theorem TextOk.sep {y z : Str} {n : Nat} (h : TextOk y n) (hz : sepB z = true) : TextOk (y ++ z) (n + 2) := by
  unfold sepB at hz
  rw [Bool.and_eq_true, decide_eq_true_eq, List.all_eq_true] at hz
  exact h.add hz.1 hz.2
def headB (z : Str) : Bool := decide (z.length ≤ 3) && z.cps.toList.all signT && decide (z.cps.toList.count 8 ≤ 1)
theorem TextOk.head {z : Str} (hz : headB z = true) : TextOk z 3 := by
  unfold headB at hz
  rw [Bool.and_eq_true, Bool.and_eq_true, decide_eq_true_eq, List.all_eq_true, decide_eq_true_eq] at hz
  exact ⟨hz.1.1, hz.1.2, hz.2⟩
theorem getD_allS (P : Str → Prop) (l : List Str) (k : Nat) (d : Str) (hk : k < l.length) (h : ∀ a ∈ l, P a) : P (l.getD k d) := by
  have e : l.getD k d = l[k] := by simp [List.getD, hk]
  rw [e]
  exact h _ (List.getElem_mem hk)

/-! the loop that builds -/
def dO (e : Addr) (x : Int) (tx : Tok) (n1 : Nat) : Obj := listOf [.int x tx, .ref e].toArray n1
def TxEnd (h₀ : Heap) (L : Addr) (x : Str) (m₀ : Str → Option Value) (d e : Addr) (rest : List (Addr × Obj)) (n : Nat) (s₁ s₂ : Shared) : Prop :=
  ∃ h' tk' m' x' tx' vs' ns' n1' n2' y' ty', s₂ = { s₁ with heap := h', toks := tk' } ∧ Fr h₀ L h' m' ∧ News h₀ L h' ((d, listOf [.int x' tx', .ref e].toArray n1') :: (e, listOf vs'.toArray n2') :: rest) ∧ IntsAre vs' ns' ∧ DrawsOk x' ns' ∧
    m' (Str.ofString "found") = some (.str y' ty') ∧ TextOk y' n ∧ ∀ z, z ≠ x → z ≠ Str.ofString "found" → m' z = m₀ z
def TxPost (h₀ : Heap) (L : Addr) (x : Str) (m₀ : Str → Option Value) (d e : Addr) (rest : List (Addr × Obj)) (n : Nat) (s₁ : Shared) (Q : Flow → Shared → Prop) (f : Flow) (s₂ : Shared) : Prop :=
  match f with
  | .ret v => Q (.ret v) s₂
  | .brk => Q .next s₂
  | _ => TxEnd h₀ L x m₀ d e rest n s₁ s₂
theorem TxEnd.intro {h₀ : Heap} {L : Addr} {x : Str} {m₀ m' : Str → Option Value} {d e : Addr} {rest : List (Addr × Obj)} {n : Nat} {s₁ : Shared} {h' : Heap} {tk' : Nat} {x' : Int} {tx' : Tok} {vs' : List Value} {ns' : List Int} {n1' n2' : Nat} {y' : Str} {ty' : Tok}
    (F : Fr h₀ L h' m') (N : News h₀ L h' ((d, listOf [.int x' tx', .ref e].toArray n1') :: (e, listOf vs'.toArray n2') :: rest)) (hI : IntsAre vs' ns') (hD : DrawsOk x' ns')
    (hy : m' (Str.ofString "found") = some (.str y' ty')) (ht : TextOk y' n) (hm : ∀ z, z ≠ x → z ≠ Str.ofString "found" → m' z = m₀ z) : TxEnd h₀ L x m₀ d e rest n s₁ { s₁ with heap := h', toks := tk' } :=
  ⟨h', tk', m', x', tx', vs', ns', n1', n2', y', ty', rfl, F, N, hI, hD, hy, ht, hm⟩

def TxJ (x : Str) (m₀ : Str → Option Value) (d e : Addr) (rest : List (Addr × Obj)) (i : Nat) (m : Str → Option Value) (nx : List (Addr × Obj)) : Prop :=
  ∃ x1 tx1 vs1 ns1 n11 n21 y1 ty1, nx = ((d, listOf [.int x1 tx1, .ref e].toArray n11) :: (e, listOf vs1.toArray n21) :: rest) ∧ IntsAre vs1 ns1 ∧ DrawsOk x1 ns1 ∧ m (Str.ofString "found") = some (.str y1 ty1) ∧ TextOk y1 (3 + 24 * i) ∧ ∀ z, z ≠ x → z ≠ Str.ofString "found" → m z = m₀ z
section
variable {prog : Program} {w : World} {A : Around} {E : Value → Shared → Prop} {s : Shared} {env : Env} {h₀ : Heap} {x : Str} {body : List Stmt} {Q : Flow → Shared → Prop}
theorem r_text_loop {r d e : Addr} {b₀ : Int} {t₀ u₀ v₀ : Tok} {n : Nat} {m₀ : Str → Option Value} {rest : List (Addr × Obj)} {x0 : Int} {tx0 : Tok} {vs0 : List Value} {ns0 : List Int} {n10 n20 : Nat} {y0 : Str} {ty0 : Tok}
    (hh : A.handled = none) (hr : IsRange s.heap r 0 b₀ 1 t₀ u₀ v₀) (hb0 : 0 ≤ b₀) (hb1 : b₀ < 10) (hn : b₀.toNat = n)
    (F : Fr h₀ env.locals s.heap m₀) (N : News h₀ env.locals s.heap ((d, listOf [.int x0 tx0, .ref e].toArray n10) :: (e, listOf vs0.toArray n20) :: rest)) (hI : IntsAre vs0 ns0) (hD : DrawsOk x0 ns0) (hne : @Ne Nat d e) (hoff : OwnOff rest [d, e])
    (hy : m₀ (Str.ofString "found") = some (.str y0 ty0)) (hy0 : TextOk y0 3)
    (turn : ∀ (i : Nat) (k : Int) t h tk (rest' : List (Addr × Obj)) x1 tx1 vs1 ns1 n11 n21 y1 ty1, i < 10 → (∀ p ∈ rest, p ∈ rest') → OwnOff rest' [d, e] → IntsAre vs1 ns1 → DrawsOk x1 ns1 → TextOk y1 (3 + 24 * i) → y1.length ≤ 300 →
      Fr h₀ env.locals h (fun z => if z = x then some (.int k t) else if z = Str.ofString "found" then some (.str y1 ty1) else m₀ z) → News h₀ env.locals h ((d, listOf [.int x1 tx1, .ref e].toArray n11) :: (e, listOf vs1.toArray n21) :: rest') →
      wpAny (model prog w) A (execs body env) (TxPost h₀ env.locals x m₀ d e rest' (3 + 24 * (i + 1)) { s with heap := h, toks := tk } Q) E { s with heap := h, toks := tk })
    (done : ∀ (u : Str → Option Value) h tk x1 tx1 vs1 ns1 n11 n21 y1 ty1, IntsAre vs1 ns1 → DrawsOk x1 ns1 → TextOk y1 300 →
      Fr h₀ env.locals h (fun z => if z = x then u z else if z = Str.ofString "found" then some (.str y1 ty1) else m₀ z) → News h₀ env.locals h ((d, listOf [.int x1 tx1, .ref e].toArray n11) :: (e, listOf vs1.toArray n21) :: rest) → Q .next { s with heap := h, toks := tk })
    (hxf : x ≠ Str.ofString "found") :
    wpAny (model prog w) A (pyIter (.ref r)) (fun it s₂ => LoopAtV prog w A h₀ env x body Q E it s₂) E s := by
  have hsmall : Builtin.Range.small 0 b₀ 1 = true := small_one (by omega) (by omega) (by omega) (by omega)
  have hn' : Builtin.Range.rangeSize 0 b₀ 1 = (n : Int) := by rw [rangeSize_nat]; omega
  refine wpAny_pyIter_range hr hsmall ?_
  have W : Walks prog w A s.heap.objs.size [s.heap.objs.size] [s.heap.objs.size] n (fun i v => i < n ∧ ∃ t, v = .int (0 + i * 1) t)
      (fun i h => IsRangeIter h s.heap.objs.size (0 + (i : Nat) * 1) ((n : Int) - (i : Nat)) 1) := (Walks.range hh _ 0 1 n).bound
  refine loop_invN (TxJ x m₀ d e rest)
    W ?_ ?_ ?_ ?_ (by show IsRangeIter _ _ _ _ _; rw [hn']; simpa using Heap.get?_push_size _ rfl) (F.push _) (fun p hp => ⟨Heap.get?_push_of_some _ (N p hp).1, (N p hp).2⟩) ⟨_, _, _, _, _, _, _, _, rfl, hI, hD, hy, hy0, fun _ _ _ => rfl⟩ ?_ ?_
  · intro hm
    exact absurd F.ns.lt ((List.mem_singleton.mp hm) ▸ Nat.lt_irrefl _)
  · intro b hb
    rw [List.mem_singleton.mp hb]
    exact next_is_new F
  · intro p hp hI
    exact absurd (Heap.lt_size (N p hp).1) ((List.mem_singleton.mp hI) ▸ Nat.lt_irrefl _)
  · intro p hp hI
    exact absurd (Heap.lt_size (N p hp).1) ((List.mem_singleton.mp hI) ▸ Nat.lt_irrefl _)
  · rintro i v m₁ nx h tk own hi ⟨_, t, rfl⟩ _ hown ⟨x1, tx1, vs1, ns1, n11, n21, y1, ty1, rfl, hI1, hD1, hf1, ht1, hm1⟩ F₁ N₁
    have em : (fun z => if z = x then some (Value.int (0 + (i : Int) * 1) t) else m₁ z) = fun z => if z = x then some (Value.int (0 + (i : Int) * 1) t) else if z = Str.ofString "found" then some (.str y1 ty1) else m₀ z := by
      funext z
      by_cases h1 : z = x
      · rw [if_pos h1, if_pos h1]
      · rw [if_neg h1, if_neg h1]
        by_cases h2 : z = Str.ofString "found"
        · rw [if_pos h2, h2]; exact hf1
        · rw [if_neg h2]; exact hm1 z h1 h2
    rw [em] at F₁
    have hoff' : OwnOff (rest ++ own) [d, e] := by
      intro p hp b hb
      rcases List.mem_append.mp hp with hp | hp
      · exact hoff p hp b hb
      · refine hown p hp b ?_
        rcases List.mem_cons.mp hb with rfl | hb
        · exact .head _
        · rw [List.mem_singleton.mp hb]; exact .tail _ (.head _)
    refine wpAny_mono (turn i _ t h tk (rest ++ own) x1 tx1 vs1 ns1 n11 n21 y1 ty1 (by omega) (fun p hp => List.mem_append_left _ hp) hoff' hI1 hD1 ht1 (by have := ht1.len; omega) F₁ N₁) (fun f s₂ p => ?_) fun _ _ e => e
    have fin : TxEnd h₀ env.locals x m₀ d e (rest ++ own) (3 + 24 * (i + 1)) { s with heap := h, toks := tk } s₂ → InvEndN h₀ env.locals (TxJ x m₀ d e rest (i + 1)) own (((d, listOf [.int x0 tx0, .ref e].toArray n10) :: (e, listOf vs0.toArray n20) :: rest).map (·.1)) { s with heap := h, toks := tk } s₂ := by
      rintro ⟨h', tk', m', x', tx', vs', ns', n1', n2', y', ty', es, F', N', hI', hD', hf', ht', hm'⟩
      exact ⟨h', tk', m', _, ((d, listOf [.int x' tx', .ref e].toArray n1') :: (e, listOf vs'.toArray n2') :: rest), es, F', N', fun p hp => by
        rw [← List.cons_append, ← List.cons_append]; exact List.mem_append_left _ hp, fun p hp => by
        rw [← List.cons_append, ← List.cons_append]; exact List.mem_append_right _ hp, rfl, x', tx', vs', ns', n1', n2', y', ty', rfl, hI', hD', hf', ht', hm'⟩
    cases f with
    | ret v => exact p
    | brk => exact p
    | next => exact fin p
    | cont => exact fin p
  · rintro m₁ nx h tk ⟨x1, tx1, vs1, ns1, n11, n21, y1, ty1, rfl, hI1, hD1, hf1, ht1, hm1⟩ F₁ N₁
    refine done m₁ h tk x1 tx1 vs1 ns1 n11 n21 y1 ty1 hI1 hD1 ⟨by have := ht1.len; omega, ht1.signs, ht1.one⟩ ?_ N₁
    have em : (fun z => if z = x then m₁ z else if z = Str.ofString "found" then some (.str y1 ty1) else m₀ z) = m₁ := by
      funext z
      by_cases h1 : z = x
      · rw [if_pos h1]
      · rw [if_neg h1]
        by_cases h2 : z = Str.ofString "found"
        · rw [if_pos h2, h2]; exact hf1.symm
        · rw [if_neg h2]; exact (hm1 z h1 h2).symm
    rw [em]
    exact F₁
end
/-! part T4 -/
theorem fill6 : (∀ P, hd.heap_39 P = hd.heap_39 P) ∧ PySem.Challenge.rw_ez0024_01 = PySem.Challenge.rw_ez0024_01 := by
  k_fill
  exact ⟨fun _ => rfl, rfl⟩
theorem TextOk.at {y : Str} {n k : Nat} (h : TextOk y n) (e : n = k) : TextOk y k := e ▸ h
theorem wordB_len {y : Str} (h : wordB y = true) : y.length ≤ 22 := by
  unfold wordB at h
  rw [Bool.and_eq_true, decide_eq_true_eq] at h
  exact h.1
local macro_rules | `(tactic| walk_at "call ref") => `(tactic| (k_here; (with_reducible show wpAny _ _ (call (Value.ref 43) [Value.ref _]) _ _ _); k_dflt (refine' word_ok _ _ _ _ _ _ _ _ _ _ _ _ _ _ _ _ _ _ _ _ _ _ _ _ _ _ _ _ _ _ ?jB ?jF ?jX ?jN ?jT ?jk ?jd ?ju ?jne ?joff ?jI ?jD ?_; (case jN => walk_at "r_draws"); (case jF => k_asm); (case jB => k_asm); (case jX => k_asm); (case jT => k_asm); (case jk => first | exact rfl | assumption); (case jd => ktr_room); (case ju => ktr_units); (case jI => assumption); (case jD => assumption); (case jne => first | assumption | k_ne); (case joff => walk_at "r_off")); intro v' x' tx' vs' ns' n1' n2' h' tk' F' N' hi' hD' hv'; obtain ⟨y', t', ev', hyB'⟩ := hv'; subst ev'; (have hyL' := wordB_len hyB')))
local macro_rules | `(tactic| walk_at "pyIter ref") => `(tactic| (k_here; (with_reducible show wpAny _ _ (pyIter (Value.ref _)) (fun it s₂ => LoopAtV _ _ _ _ _ (Str.ofString "k") _ _ _ it s₂) _ _); k_dflt (refine' r_text_loop ?jh ?jr ?jb0 ?jb1 ?jn ?jF ?jN ?jI ?jD ?jne ?joff ?jy ?jy0 ?jturn ?jdone ?jx; (case jF => k_asm); (case jN => walk_at "r_draws"); (case jh => exact rfl); (case jr => assumption); (case jb0 => omega); (case jb1 => omega); (case jn => exact rfl); (case jI => assumption); (case jD => assumption); (case jne => first | assumption | k_ne); (case joff => walk_at "r_off"); (case jy => exact rfl); (case jy0 => exact TextOk.head (getD_allS (fun a => headB a = true) _ _ _ (by walk_at "r_idx") (by decide +kernel))); (case jx => decide)); (case' jturn => intro i9 k9 t9 h9 tk9 rest9 x9 tx9 vs9 ns9 n19 n29 y9 ty9 hi9 hsub9 hoff9 hI9 hD9 hT9 hL9 F9 N9); (case' jdone => intro u9 h9 tk9 x9 tx9 vs9 ns9 n19 n29 y9 ty9 hI9 hD9 hT9 F9 N9)))
local macro_rules | `(tactic| walk_at "TxPost") => `(tactic| (dsimp only [TxPost]))

theorem text_ok (w : World) (mean : ExcName → Option Value) (mg mb : Str → Option Value) :
    DrawCall w mean mg mb 50 3 [] (fun v => ∃ y t, v = .str y t ∧ TextOk y 300) := by
  unfold DrawCall
  intro d e x tx vs ns n1 n2 rest dp un gd cn cs a ccd cl outer A₀ base h₀ L m s Q E B F X N T hk hd hu hne hoff hI hD hret
  refine wpAny_call ?_
  k_with "table" => skip
  k_dflt cell_enter
  k_steps
  · exact hret _ _ _ _ _ _ _ _ _ (by assumption) (news_drop3 (by assumption)) (by assumption) (by assumption) ⟨_, _, rfl, by assumption⟩
  · refine TxEnd.intro (by assumption) (news_drop3 (by assumption)) (by assumption) (by assumption) rfl ?_ (fun z h1 h2 => by simp only [if_neg h1, if_neg h2])
    exact TextOk.at (TextOk.sep (TextOk.word (by assumption) (by assumption)) (getD_allS (fun a => sepB a = true) _ _ _ (by walk_at "r_idx") (by decide +kernel))) (by omega)
/-! part E1 -/
/-! what the cut is -/
def hit (ws : List Str) (i : Nat) : Bool := Txt.endswith (ws.getD i Str.empty) (Str.ofString ".") && (decide (i + 1 = ws.length) || !Txt.islower (Txt.item (ws.getD (i + 1) Str.empty) 0))
def cutI (ws : List Str) : List Str := match (List.range ws.length).find? (hit ws) with
  | some i => ws.take (i + 1)
  | none => ws
theorem cutI_at {ws : List Str} {i : Nat} (hi : i < ws.length) (h : hit ws i = true) (hno : ∀ j, j < i → hit ws j = false) : cutI ws = ws.take (i + 1) := by
  unfold cutI
  have e : (List.range ws.length).find? (hit ws) = some i := by
    rw [List.find?_range_eq_some]
    exact ⟨h, List.mem_range.mpr hi, fun j hj => by rw [hno j hj]; rfl⟩
  rw [e]
theorem cutI_none {ws : List Str} (hno : ∀ j, j < ws.length → hit ws j = false) : cutI ws = ws := by
  unfold cutI
  have e : (List.range ws.length).find? (hit ws) = none := by
    rw [List.find?_eq_none]
    intro j hj
    rw [hno j (List.mem_range.mp hj)]
    exact Bool.false_ne_true
  rw [e]
def dropB (ws : List Str) : List Str := if ws ≠ [] ∧ ws.getD 0 Str.empty = Str.ofString "\u0008" then ws.drop 1 else ws
theorem dropB_nil {ws : List Str} (h : ws = []) : dropB ws = ws := by
  unfold dropB
  rw [if_neg (fun q => q.1 h)]
theorem dropB_ne {ws : List Str} (h : ¬ ws.getD 0 Str.empty = Str.ofString "\u0008") : dropB ws = ws := by
  unfold dropB
  rw [if_neg (fun q => h q.2)]
theorem dropB_eq {ws : List Str} (h0 : ¬ ws = []) (h : ws.getD 0 Str.empty = Str.ofString "\u0008") : dropB ws = ws.drop 1 := by
  unfold dropB
  rw [if_pos ⟨h0, h⟩]

/-! statements whose ways meet -/
def DropPost (h₀ : Heap) (L : Addr) (m : Str → Option Value) (rest : List (Addr × Obj)) (ws1 : List Str) (s : Shared) (f : Flow) (s' : Shared) : Prop :=
  f = .next ∧ ∃ D' vs' n' h' tk' m', s' = { s with heap := h', toks := tk' } ∧ StrsAre vs' ws1 ∧ Fr h₀ L h' m' ∧ m' (Str.ofString "words") = some (.ref D') ∧ (∀ z, z ≠ Str.ofString "words" → z ≠ Str.ofString "i" → z ≠ Str.ofString "word" → m' z = m z) ∧ News h₀ L h' ((D', listOf vs'.toArray n') :: rest)
theorem DropPost.intro {h₀ : Heap} {L : Addr} {m m' : Str → Option Value} {rest all : List (Addr × Obj)} {ws1 ws2 : List Str} {s : Shared} {D' : Addr} {vs' : List Value} {n' : Nat} {h' : Heap} {tk' : Nat}
    (F : Fr h₀ L h' m') (N : News h₀ L h' all) (hw : m' (Str.ofString "words") = some (.ref D')) (hm : (D', listOf vs'.toArray n') ∈ all) (hi : StrsAre vs' ws2) (e : ws2 = ws1) (hs : ∀ p ∈ rest, p ∈ all)
    (hz : ∀ z, z ≠ Str.ofString "words" → z ≠ Str.ofString "i" → z ≠ Str.ofString "word" → m' z = m z) : DropPost h₀ L m rest ws1 s .next { s with heap := h', toks := tk' } := by
  subst e
  refine ⟨rfl, D', vs', n', h', tk', m', rfl, hi, F, hw, hz, fun p hp => ?_⟩
  rcases List.mem_cons.mp hp with rfl | hp
  · exact N _ hm
  · exact N p (hs p hp)
section
variable {M : Model} {A : Around} {E : Value → Shared → Prop} {s : Shared} {env : Env} {h₀ : Heap} {L : Addr} {m : Str → Option Value} {news : List (Addr × Obj)} {Q : Flow → Shared → Prop}
theorem r_meet {st : Stmt} {rest : List Stmt} {ws1 : List Str} {rst : List (Addr × Obj)} (hsm : Small ws1)
    (hif : wpAny M A (exec st env) (DropPost h₀ L m rst ws1 s) E s)
    (hrest : ∀ D' vs' n' h' tk' (u : Str → Option Value), StrsAre vs' ws1 → Small ws1 → Fr h₀ L h' (fun y => if y = Str.ofString "words" then some (.ref D') else if y = Str.ofString "i" then u y else if y = Str.ofString "word" then u y else m y) → News h₀ L h' ((D', listOf vs'.toArray n') :: rst) →
      wpAny M A (execs rest env) Q E { s with heap := h', toks := tk' }) :
    wpAny M A (execs (st :: rest) env) Q E s := by
  refine wpAny_execs_cons (wpAny_mono hif (fun f s' hp => ?_) fun _ _ e => e)
  obtain ⟨rfl, D', vs', n', h', tk', m', rfl, hi, F, hw, hz, N⟩ := hp
  refine hrest D' vs' n' h' tk' m' hi hsm ?_ N
  have em : (fun y => if y = Str.ofString "words" then some (.ref D') else if y = Str.ofString "i" then m' y else if y = Str.ofString "word" then m' y else m y) = m' := by
    funext y
    by_cases h1 : y = Str.ofString "words"
    · rw [if_pos h1, h1, hw]
    · rw [if_neg h1]
      by_cases h2 : y = Str.ofString "i"
      · rw [if_pos h2]
      · rw [if_neg h2]
        by_cases h3 : y = Str.ofString "word"
        · rw [if_pos h3]
        · rw [if_neg h3, hz y h1 h2 h3]
  rw [em]
  exact F
end

/-! for i, word in enumerate(words) -/
def EnEnd (h₀ : Heap) (L : Addr) (m₀ : Str → Option Value) (all : List (Addr × Obj)) (P : Prop) (s₁ s₂ : Shared) : Prop :=
  ∃ h' tk' m', s₂ = { s₁ with heap := h', toks := tk' } ∧ Fr h₀ L h' m' ∧ News h₀ L h' all ∧ (∀ z, z ≠ Str.ofString "i" → z ≠ Str.ofString "word" → m' z = m₀ z) ∧ P
def EnPost (h₀ : Heap) (L : Addr) (m₀ : Str → Option Value) (all : List (Addr × Obj)) (P : Prop) (s₁ : Shared) (Q : Flow → Shared → Prop) (f : Flow) (s₂ : Shared) : Prop :=
  match f with
  | .ret v => Q (.ret v) s₂
  | .brk => Q .next s₂
  | _ => EnEnd h₀ L m₀ all P s₁ s₂
theorem EnEnd.intro {h₀ : Heap} {L : Addr} {m₀ m' : Str → Option Value} {all all' : List (Addr × Obj)} {P : Prop} {s₁ : Shared} {h' : Heap} {tk' : Nat}
    (F : Fr h₀ L h' m') (N : News h₀ L h' all') (hsub : ∀ p ∈ all, p ∈ all') (hm : ∀ z, z ≠ Str.ofString "i" → z ≠ Str.ofString "word" → m' z = m₀ z) (hP : P) : EnEnd h₀ L m₀ all P s₁ { s₁ with heap := h', toks := tk' } :=
  ⟨h', tk', m', rfl, F, fun p hp => N p (hsub p hp), hm, hP⟩

theorem subL_of {l all : List (Addr × Obj)} (h : ∀ p ∈ l, p ∈ all) : SubL l all := by
  induction l with
  | nil => trivial
  | cons a r ih => exact ⟨h a (.head _), ih fun p hp => h p (.tail _ hp)⟩
section
variable {prog : Program} {w : World} {A : Around} {E : Value → Shared → Prop} {s : Shared} {env : Env} {h₀ : Heap} {body : List Stmt} {Q : Flow → Shared → Prop}
theorem r_enum {elts : List Expr} {k : Nat} {pos : Pos} {l : Addr} {vs : List Value} {ws : List Str} {n : Nat} {m₀ : Str → Option Value} {rest : List (Addr × Obj)}
    (hh : A.handled = none) (F : Fr h₀ env.locals s.heap m₀) (N : News h₀ env.locals s.heap ((l, listOf vs.toArray n) :: rest)) (hi : StrsAre vs ws)
    (turn : ∀ (i : Nat) T ti tv h tk (u : Str → Option Value) (rest' : List (Addr × Obj)), i < ws.length → (∀ j, j < i → hit ws j = false) → (∀ p ∈ rest, p ∈ rest') → IsTup h T #[.int (i : Int) ti, .str (ws.getD i Str.empty) tv] →
      Fr h₀ env.locals h (fun y => if y = Str.ofString "i" then u y else if y = Str.ofString "word" then u y else m₀ y) → News h₀ env.locals h ((l, listOf vs.toArray n) :: rest') →
      wpAny (model prog w) A (assign (.Tuple elts k pos) env (.ref T)) (fun _ s₂ => wpAny (model prog w) A (execs body env) (EnPost h₀ env.locals m₀ ((l, listOf vs.toArray n) :: rest') (hit ws i = false) { s with heap := h, toks := tk } Q) E s₂) E { s with heap := h, toks := tk })
    (done : ∀ h tk (u : Str → Option Value), (∀ j, j < ws.length → hit ws j = false) → Fr h₀ env.locals h (fun y => if y = Str.ofString "i" then u y else if y = Str.ofString "word" then u y else m₀ y) → News h₀ env.locals h ((l, listOf vs.toArray n) :: rest) → Q .next { s with heap := h, toks := tk }) :
    wpAny (model prog w) A (call (.type "enumerate") [.ref l]) (fun xv s₁ => wpAny (model prog w) A (pyIter xv) (fun it s₂ => TurnsAt prog w A h₀ env (.Tuple elts k pos) body Q E it s₂) E s₁) E s := by
  refine ktu_enum (xs := enumItems 0 vs) hh F N (List.mem_cons_self ..) rfl rfl rfl fun I hI => ?_
  have mixE : ∀ m : Str → Option Value, (∀ z, z ≠ Str.ofString "i" → z ≠ Str.ofString "word" → m z = m₀ z) → (fun y => if y = Str.ofString "i" then m y else if y = Str.ofString "word" then m y else m₀ y) = m := by
    intro m hm
    funext y
    by_cases h1 : y = Str.ofString "i"
    · rw [if_pos h1]
    · rw [if_neg h1]
      by_cases h2 : y = Str.ofString "word"
      · rw [if_pos h2]
      · rw [if_neg h2, hm y h1 h2]
  have key : ∀ (r : List Value) (i : Nat) (m : Str → Option Value), vs.drop i = r → (∀ z, z ≠ Str.ofString "i" → z ≠ Str.ofString "word" → m z = m₀ z) → (∀ j, j < i → hit ws j = false) → i ≤ vs.length →
      ItemsRest prog w A E h₀ env (.Tuple elts k pos) body Q s [(I + 1, "enumerate"), (I, "list_iterator")] [(l, listOf vs.toArray n)] (enumItems i r) m ((l, listOf vs.toArray n) :: rest) := by
    intro r
    induction r with
    | nil =>
      intro i m hr hm hno hle
      refine ItemsRest.zero fun h tk F' N' => ?_
      have hlen : vs.length ≤ i := List.drop_eq_nil_iff.mp hr
      refine done h tk m (fun j hj => hno j (by rw [← hi.len_eq] at hj; omega)) ?_ N'
      rw [mixE m hm]; exact F'
    | cons v r ih =>
      intro i m hr hm hno hle
      have hlt : i < vs.length := by
        have := congrArg List.length hr
        rw [List.length_drop, List.length_cons] at this
        omega
      have hltw : i < ws.length := by rw [← hi.len_eq]; exact hlt
      obtain ⟨hv, hr'⟩ := List.cons.inj ((List.drop_eq_getElem_cons hlt).symm.trans hr)
      obtain ⟨tv, htv⟩ := hi.at (j := i) (y := ws.getD i Str.empty) (by simp [List.getD, hltw])
      have hv' : v = .str (ws.getD i Str.empty) tv := by
        rw [List.getElem?_eq_getElem hlt, hv] at htv
        exact Option.some.inj htv
      show ItemsRest prog w A E h₀ env (.Tuple elts k pos) body Q s _ _ (.pair (fun t => .int (i : Int) t) v :: enumItems (i + 1) r) m _
      refine ItemsRest.pair fun T ti h tk hT F' => AllObj.cons fun oe hce => AllObj.cons fun oi hci => AllObj.nil fun N' => ?_
      rw [hv'] at hT
      have N'' : News h₀ env.locals h ((l, listOf vs.toArray n) :: ((I + 1, oe) :: (I, oi) :: rest)) := fun p hp => N' p (by
        simp only [List.mem_cons, List.cons_append, List.nil_append, List.mem_append] at hp ⊢
        rcases hp with h | h | h | h <;> simp [h])
      refine wpAny_mono (turn i T ti tv h tk m ((I + 1, oe) :: (I, oi) :: rest) hltw hno (fun p hp => .tail _ (.tail _ hp)) hT (by rw [mixE m hm]; exact F') N'') (fun _ s₂ h₂ => wpAny_mono h₂ (fun f s₃ p => ?_) fun _ _ e => e) fun _ _ e => e
      have fin : EnEnd h₀ env.locals m₀ ((l, listOf vs.toArray n) :: ((I + 1, oe) :: (I, oi) :: rest)) (hit ws i = false) { s with heap := h, toks := tk } s₃ →
          UnrEndW h₀ env.locals { s with heap := h, toks := tk } [(I + 1, oe), (I, oi)] (fun m' n' => SubL [(l, listOf vs.toArray n)] n' ∧ ItemsRest prog w A E h₀ env (.Tuple elts k pos) body Q s [(I + 1, "enumerate"), (I, "list_iterator")] [(l, listOf vs.toArray n)] (enumItems (i + 1) r) m' n') s₃ := by
        rintro ⟨h', tk', m', e, F₃, N₃, hm', hP⟩
        refine ⟨h', tk', m', (l, listOf vs.toArray n) :: rest, e, F₃, fun p hp => N₃ p (by
          simp only [List.mem_cons, List.cons_append, List.nil_append, List.mem_append] at hp ⊢
          rcases hp with h | h | h | h <;> simp [h]), fun p hp q hq => ?_, ⟨List.mem_cons_self .., trivial⟩, ih (i + 1) m' hr' hm' (fun j hj => ?_) (by omega)⟩
        · have hpI : @LT.lt Nat _ p.1 I := hI p hp
          rcases List.mem_cons.mp hq with rfl | hq
          · exact Nat.ne_of_lt (Nat.lt_succ_of_lt hpI)
          · rw [List.mem_singleton.mp hq]; exact Nat.ne_of_lt hpI
        · rcases Nat.lt_or_ge j i with hj' | hj'
          · exact hno j hj'
          · have e : j = i := by omega
            rw [e]; exact hP
      cases f with
      | ret v => exact p
      | brk => exact p
      | next => exact fin p
      | cont => exact fin p
  exact key vs 0 m₀ List.drop_zero (fun _ _ _ => rfl) (fun j hj => absurd hj (Nat.not_lt_zero _)) (Nat.zero_le _)
end
/-! part E2 -/
def PosW (ws : List Str) : Prop := ∀ j, j < ws.length → 1 ≤ (ws.getD j Str.empty).length
theorem PosW.at {ws : List Str} (h : PosW ws) {j : Nat} (hj : j < ws.length) : 1 ≤ (ws.getD j Str.empty).length := h j hj
theorem Small.dropB {ws : List Str} (h : Small ws) : Small (dropB ws) := by
  unfold Mine.dropB
  split
  · exact h.drop 1
  · exact h
theorem Small.cutI {ws : List Str} (h : Small ws) : Small (cutI ws) := by
  unfold Mine.cutI
  split
  · exact h.take _
  · exact h
section
variable {prog : Program} {w : World} {A : Around} {E : Value → Shared → Prop} {s : Shared} {env : Env} {h₀ : Heap} {L l : Addr} {m : Str → Option Value} {news : List (Addr × Obj)} {vs : List Value} {ws : List Str} {n : Nat}
theorem r_meet_drop {Q : Flow → Shared → Prop} {st : Stmt} {rest : List Stmt} (_F : Fr h₀ L s.heap m) (_N : News h₀ L s.heap ((l, listOf vs.toArray n) :: news)) (_hi : StrsAre vs ws) (hsm : Small ws)
    (hif : wpAny (model prog w) A (exec st env) (DropPost h₀ L m news (dropB ws) s) E s)
    (hrest : ∀ D' vs' n' h' tk' (u : Str → Option Value), StrsAre vs' (dropB ws) → Small (dropB ws) → Fr h₀ L h' (fun y => if y = Str.ofString "words" then some (.ref D') else if y = Str.ofString "i" then u y else if y = Str.ofString "word" then u y else m y) → News h₀ L h' ((D', listOf vs'.toArray n') :: news) →
      wpAny (model prog w) A (execs rest env) Q E { s with heap := h', toks := tk' }) :
    wpAny (model prog w) A (execs (st :: rest) env) Q E s := r_meet hsm.dropB hif hrest
theorem r_meet_cut {Q : Flow → Shared → Prop} {st : Stmt} {rest : List Stmt} (_F : Fr h₀ L s.heap m) (_N : News h₀ L s.heap ((l, listOf vs.toArray n) :: news)) (_hi : StrsAre vs ws) (hsm : Small ws)
    (hif : wpAny (model prog w) A (exec st env) (DropPost h₀ L m news (cutI ws) s) E s)
    (hrest : ∀ D' vs' n' h' tk' (u : Str → Option Value), StrsAre vs' (cutI ws) → Small (cutI ws) → Fr h₀ L h' (fun y => if y = Str.ofString "words" then some (.ref D') else if y = Str.ofString "i" then u y else if y = Str.ofString "word" then u y else m y) → News h₀ L h' ((D', listOf vs'.toArray n') :: news) →
      wpAny (model prog w) A (execs rest env) Q E { s with heap := h', toks := tk' }) :
    wpAny (model prog w) A (execs (st :: rest) env) Q E s := r_meet hsm.cutI hif hrest
theorem r_truthy {Q : Bool → Shared → Prop} (N : News h₀ L s.heap news) (hm : (l, listOf vs.toArray n) ∈ news) (hi : StrsAre vs ws) (hsm : Small ws) (h : ∀ tk', Q (!decide (ws = [])) { s with toks := tk' }) : wpAny (model prog w) A (truthy (.ref l)) Q E s := by
  have e := hi.len_eq
  have hl : ws.length ≤ 1001 := by unfold Small at hsm; omega
  refine wpAny_truthy_list (News.isList N hm) (by rw [List.size_toArray]; omega) ?_
  have e2 : (!vs.toArray.isEmpty) = !decide (ws = []) := by
    cases hi with
    | nil => rfl
    | cons y t r => rfl
  rw [e2]
  exact h _
theorem r_item {Q : Value → Shared → Prop} {value slice : PySem.Expr} {k : Int} {u : Tok} (j : Nat) (N : News h₀ L s.heap news) (hm : (l, listOf vs.toArray n) ∈ news) (hi : StrsAre vs ws) (hsm : Small ws) (hk : k = (j : Int)) (hj : j < ws.length)
    (h : ∀ t', Q (.str (ws.getD j Str.empty) t') s)
    (hs : subscripted slice false (.ref l) (.int k u) = operate [.ref l, .int k u] (getItem (.ref l) (.int k u))) :
    wpAny (model prog w) A (subscriptTail value slice (.ref l) (.int k u)) Q E s := by
  have hl : ws.length ≤ 1001 := by unfold Small at hsm; omega
  refine KTb.item_list (News.isList N hm) hi (by omega) (by omega) (by omega) (fun t' _ => ?_) hs
  have e : k.toNat = j := by omega
  rw [e]
  exact h t'
theorem r_item_succ {Q : Value → Shared → Prop} {value slice : PySem.Expr} {i : Nat} {u : Tok} (N : News h₀ L s.heap news) (hm : (l, listOf vs.toArray n) ∈ news) (hi : StrsAre vs ws) (hsm : Small ws) (hj : i + 1 < ws.length)
    (h : ∀ t', Q (.str (ws.getD (i + 1) Str.empty) t') s)
    (hs : subscripted slice false (.ref l) (.int ((i : Int) + 1) u) = operate [.ref l, .int ((i : Int) + 1) u] (getItem (.ref l) (.int ((i : Int) + 1) u))) :
    wpAny (model prog w) A (subscriptTail value slice (.ref l) (.int ((i : Int) + 1) u)) Q E s := r_item (i + 1) N hm hi hsm rfl hj h hs
theorem r_sign0 {Q : Value → Shared → Prop} {value slice : PySem.Expr} {x : Str} {t u : Tok} (hx : 1 ≤ x.length) (h : ∀ t' k, Q (.str (Txt.item x 0) t') { s with toks := k })
    (hs : subscripted slice false (.str x t) (.int 0 u) = operate [.str x t, .int 0 u] (getItem (.str x t) (.int 0 u))) (ht : ∀ r, letTemporaryGo value (.str x t) r = pure ()) :
    wpAny (model prog w) A (subscriptTail value slice (.str x t) (.int 0 u)) Q E s := item_str (by decide) (by omega) (by omega) (fun _ => h _ _) hs ht
theorem len_pos_of_ne {ws : List Str} (h : ¬ ws = []) : 0 < ws.length := List.length_pos_iff.mpr h
end
/-! what is answered -/
def shortSpec (text : Str) (most : Int) : Str :=
  if dropB (Txt.words (Txt.partition text (Str.ofString "\n\n")).1) = [] then Str.ofString ""
  else if ((Txt.join (Str.ofString " ") (cutI (dropB (Txt.words (Txt.partition text (Str.ofString "\n\n")).1)))).length : Int) ≤ most then Txt.join (Str.ofString " ") (cutI (dropB (Txt.words (Txt.partition text (Str.ofString "\n\n")).1)))
  else shortenT (Txt.join (Str.ofString " ") (cutI (dropB (Txt.words (Txt.partition text (Str.ofString "\n\n")).1)))) most
theorem shortenS_small (ws : List Str) {width : Int} (h : width < 3) : ∀ k, shortenS ws width k = Str.ofString "..."
  | 0 => rfl
  | k + 1 => by
    unfold shortenS
    rw [if_neg (by omega), shortenS_small ws h k]
theorem spec_nil {text : Str} {most : Int} (h : dropB (Txt.words (Txt.partition text (Str.ofString "\n\n")).1) = []) : shortSpec text most = Str.ofString "" := by
  unfold shortSpec; rw [if_pos h]
theorem spec_fits {text : Str} {most : Int} (h : ¬ dropB (Txt.words (Txt.partition text (Str.ofString "\n\n")).1) = []) (h2 : ((Txt.join (Str.ofString " ") (cutI (dropB (Txt.words (Txt.partition text (Str.ofString "\n\n")).1)))).length : Int) ≤ most) :
    shortSpec text most = Txt.join (Str.ofString " ") (cutI (dropB (Txt.words (Txt.partition text (Str.ofString "\n\n")).1))) := by
  unfold shortSpec; rw [if_neg h, if_pos h2]
theorem spec_long {text : Str} {most : Int} (h : ¬ dropB (Txt.words (Txt.partition text (Str.ofString "\n\n")).1) = []) (h2 : ¬ ((Txt.join (Str.ofString " ") (cutI (dropB (Txt.words (Txt.partition text (Str.ofString "\n\n")).1)))).length : Int) ≤ most) :
    shortSpec text most = shortenT (Txt.join (Str.ofString " ") (cutI (dropB (Txt.words (Txt.partition text (Str.ofString "\n\n")).1)))) most := by
  unfold shortSpec; rw [if_neg h, if_neg h2]
theorem spec_dots {text : Str} {most : Int} (h : ¬ dropB (Txt.words (Txt.partition text (Str.ofString "\n\n")).1) = []) (h2 : ¬ ((Txt.join (Str.ofString " ") (cutI (dropB (Txt.words (Txt.partition text (Str.ofString "\n\n")).1)))).length : Int) ≤ most) (h3 : most < 3) :
    shortSpec text most = Str.ofString "..." := by
  rw [spec_long h h2]
  exact shortenS_small _ h3 _
theorem part_len (text : Str) : (Txt.partition text (Str.ofString "\n\n")).1.length ≤ text.length := by
  have e := congrArg Str.length (StrLaws.partition_sum text (Str.ofString "\n\n"))
  rw [Str.length_append, Str.length_append] at e
  omega
theorem posW_words (x : Str) : PosW (Txt.words x) := by
  intro j hj
  have e : (Txt.words x).getD j Str.empty = (Txt.words x)[j] := by simp [List.getD, hj]
  rw [e]
  exact StrLaws.words_pos x _ (List.getElem_mem hj)
theorem PosW.drop {ws : List Str} (h : PosW ws) (k : Nat) : PosW (ws.drop k) := by
  intro j hj
  rw [List.length_drop] at hj
  have e : (ws.drop k).getD j Str.empty = ws.getD (k + j) Str.empty := by simp [List.getD]
  rw [e]
  exact h _ (by omega)
theorem PosW.dropB {ws : List Str} (h : PosW ws) : PosW (dropB ws) := by
  unfold Mine.dropB
  split
  · exact h.drop 1
  · exact h
theorem hit_last {ws : List Str} {i : Nat} (h1 : Txt.endswith (ws.getD i Str.empty) (Str.ofString ".") = true) (h2 : (i : Int) = (ws.length : Int) - 1) : hit ws i = true := by
  unfold hit
  rw [h1, decide_eq_true (by omega : i + 1 = ws.length)]
  rfl
theorem hit_low {ws : List Str} {i : Nat} {b : Bool} (h1 : Txt.endswith (ws.getD i Str.empty) (Str.ofString ".") = true) (h2 : (i : Int) ≠ (ws.length : Int) - 1) (h3 : Txt.islower (Txt.item (ws.getD ((i : Int) + 1).toNat Str.empty) 0) = b) : hit ws i = !b := by
  have e : ((i : Int) + 1).toNat = i + 1 := by omega
  rw [e] at h3
  unfold hit
  rw [h1, h3, decide_eq_false (by omega : ¬ i + 1 = ws.length)]
  rfl
theorem hit_no {ws : List Str} {i : Nat} (h1 : Txt.endswith (ws.getD i Str.empty) (Str.ofString ".") = false) : hit ws i = false := by
  unfold hit
  rw [h1]
  rfl
theorem cut_take {ws : List Str} {i : Nat} (hi : i < ws.length) (h : hit ws i = true) (hno : ∀ j, j < i → hit ws j = false) : ws.take ((i : Int) + 1).toNat = cutI ws := by
  have e : ((i : Int) + 1).toNat = i + 1 := by omega
  rw [e, cutI_at hi h hno]
/-! part T5 -/
section
theorem fill7 : (∀ P, hd.heap_39 P = hd.heap_39 P) ∧ PySem.Challenge.rw_ez0024_01 = PySem.Challenge.rw_ez0024_01 := by
  k_fill
  exact ⟨fun _ => rfl, rfl⟩
local macro_rules | `(tactic| walk_at "call builtin:str.partition") => `(tactic| (k_here; (with_reducible show wpAny _ _ (call (Value.builtin "str.partition") [Value.str _ _, Value.str _ _]) _ _ _); (refine KXpa.partition (by k_asm) (by k_asm) (by decide) rfl rfl rfl (by rw [sizeLine_eq]; omega) ?_); intro D' _ _ _ _ _ F' N' l1; (try k_lt l1)))
local macro_rules | `(tactic| walk_at "r_enter") => `(tactic| (refine' code_def ?k1 ?k2 ?k3 ?k4 ?k5 ?kA ?kF ?kK ?k6 ?k7 ?k8 ?k9 ?kB ?_ ?c2 ?c3 ?c4 ?c5; (case kA => exact rfl); (case kF => exact rfl); (case kK => assumption); (case k1 => k_asm); (case k2 => k_asm); (case k3 => k_asm); (case k4 => k_asm); (case k5 => k_asm); (case k6 => k_is); (case k7 => k_is); (case k8 => ktr_room); (case k9 => first | exact BindsTo.of_eq rfl | exact binds_K (by k_in) rfl (by k_is) rfl rfl rfl); (case c5 => decide); (case kB => exact locs rfl); (case c2 => exact rfl); (case c3 => exact rfl); (case c4 => exact rfl); k_whole; intro g' L' h' FG' F' N' B' X' T'; (try dsimp only); (try k_lift B'); (try k_fold)))
local macro_rules | `(tactic| walk_at "execs cons") => `(tactic| (k_here; (with_reducible show wpAny _ _ (execs (Stmt.If (PySem.Expr.BoolOp PySem.BoolOp.And [PySem.Expr.Name _ _, _] _) [_] [] _ :: _) _) _ _ _); (refine r_meet_drop (by k_asm) (by k_asm) (by assumption) (by assumption) ?_ ?_); rotate_left; intro D' vs' n' h' tk' u' hi' hs' F' N'; rotate_left))
local macro_rules | `(tactic| walk_at "execs cons") => `(tactic| (k_here; (with_reducible show wpAny _ _ (execs (Stmt.For (PySem.Expr.Tuple _ _ _) _ _ [] _ :: _) _) _ _ _); (refine r_meet_cut (by k_asm) (by k_asm) (by assumption) (by assumption) ?_ ?_); rotate_left; intro D' vs' n' h' tk' u' hi' hs' F' N'; rotate_left))
local macro_rules | `(tactic| walk_at "exec For Tuple Call cons nil") => `(tactic| (k_here; (rename Fr _ _ _ _ => lF'); (with_unfolding_all refine' For_turns lF' ?_; k_whole)))
local macro_rules | `(tactic| walk_at "call type:enumerate") => `(tactic| (k_here; (with_reducible show wpAny _ _ (call (Value.type _) [Value.ref _]) (fun xv s₁ => wpAny _ _ (pyIter xv) (fun it s₂ => TurnsAt _ _ _ _ _ _ _ _ _ it s₂) _ s₁) _ _); k_dflt (refine' r_enum ?jh ?jF ?jN ?ji ?jturn ?jdone; (case jh => exact rfl); (case jF => k_asm); (case jN => k_asm); (case ji => assumption)); (case' jturn => intro i9 T9 ti9 tv9 h9 tk9 u9 rest9 hi9 hno9 hsub9 hT9 F9 N9); (case' jdone => intro h9 tk9 u9 hno9 F9 N9)))
local macro_rules | `(tactic| walk_at "truthy ref") => `(tactic| (k_here; (with_reducible show wpAny _ _ (truthy (Value.ref _)) _ _ _); (refine r_truthy (by k_asm) (by k_mem) (by assumption) (by assumption) ?_); intro _))
local macro_rules | `(tactic| walk_at "r_lt") => `(tactic| first | omega | exact len_pos_of_ne (by assumption) | (have q9 := len_pos_of_ne (by assumption); omega))
local macro_rules | `(tactic| walk_at "r_item_rest") => `(tactic| ((case jN => k_asm); (case jm => k_mem); (case ji => assumption); (case js => assumption); (case jj => with_reducible walk_at "r_lt"); (case jhs => with_unfolding_all rfl)))
local macro_rules | `(tactic| walk_at "subscriptTail") => `(tactic| (k_here; (with_reducible show wpAny _ _ (subscriptTail _ _ (Value.ref _) (Value.int _ _)) _ _ _); k_dflt (first
  | (refine' r_item 0 ?jN ?jm ?ji ?js rfl ?jj ?_ ?jhs; walk_at "r_item_rest")
  | (refine' r_item_succ ?jN ?jm ?ji ?js ?jj ?_ ?jhs; walk_at "r_item_rest")); intro _))
local macro_rules | `(tactic| walk_at "subscriptTail") => `(tactic| (k_here; (with_reducible show wpAny _ _ (subscriptTail _ _ (Value.str (List.getD _ _ _) _) (Value.int 0 _)) _ _ _); k_dflt (refine' r_sign0 ?jx ?_ ?jhs ?jhg; (case jx => exact PosW.at (by assumption) (by walk_at "r_lt")); (case jhs => with_unfolding_all rfl); (case jhg => kmk_pure)); intro _ _))
local macro_rules | `(tactic| walk_at "call ref") => `(tactic| (k_here; (with_reducible show wpAny _ _ (call (Value.ref 21) [Value.str _ _, Value.int _ _]) _ _ _); k_dflt (refine' shorten_ok _ _ _ _ _ _ _ _ ?jlen _ _ _ _ _ _ _ _ _ _ _ _ _ _ _ _ _ _ ?jB ?jF ?jX ?jN ?jT ?jk ?jd ?ju ?_; (case jN => k_asm); (case jF => k_asm); (case jB => k_asm); (case jX => k_asm); (case jT => k_asm); (case jk => first | exact rfl | assumption); (case jd => ktr_room); (case ju => ktr_units); (case jlen => assumption)); intro t9 h9 tk9 F9 N9))
local macro_rules | `(tactic| walk_at "EnPost") => `(tactic| (dsimp only [EnPost]))

local macro_rules | `(tactic| walk_at "r_z") => `(tactic| (intro z h1 h2 h3; first | rfl | (simp only [if_neg h1, if_neg h2, if_neg h3]; done) | (simp only [if_neg h1, if_neg h2, if_neg h3]; rfl)))
local macro_rules | `(tactic| walk_at "r_z2") => `(tactic| (intro z h1 h2; first | rfl | (simp only [if_neg h1, if_neg h2]; done) | (simp only [if_neg h1, if_neg h2]; rfl)))

theorem make_ok (w : World) (mean : ExcName → Option Value) (mg mb : Str → Option Value) (text : Str) (most : Int) (t u : Tok) (hlen : text.length ≤ 400) :
    PureCall w mean mg mb 29 2 [.str text t, .int most u] (fun t => .str (shortSpec text most) t) := by
  unfold PureCall
  intro news dp un gd cn cs a ccd cl outer A₀ base h₀ L m s Q E B F X N T hk hd hu hret
  have hpl : (Txt.partition text (Str.ofString "\n\n")).1.length ≤ 400 := Nat.le_trans (part_len text) hlen
  have hpos : PosW (dropB (Txt.words (Txt.partition text (Str.ofString "\n\n")).1)) := (posW_words _).dropB
  refine wpAny_call ?_
  k_dflt walk_at "r_enter"
  k_steps
  · exact DropPost.intro (by k_asm) (by k_asm) rfl (by k_mem) (by assumption) (dropB_nil (by assumption)).symm (by walk_at "r_sub") (by walk_at "r_z")
  · exact DropPost.intro (by k_asm) (by k_asm) rfl (by k_mem) (by assumption) (dropB_eq (by assumption) (eq_of_beq (by assumption))).symm (by walk_at "r_sub") (by walk_at "r_z")
  · exact DropPost.intro (by k_asm) (by k_asm) rfl (by k_mem) (by assumption) (dropB_ne (ne_of_beq_false (by assumption))).symm (by walk_at "r_sub") (by walk_at "r_z")
  · exact ret_s hret (spec_nil (by assumption)).symm (by assumption) (by assumption) (by walk_at "r_sub")
  · exact DropPost.intro (by k_asm) (by k_asm) rfl (by k_mem) (by assumption) (cutI_none (by assumption)).symm (by walk_at "r_sub") (by walk_at "r_z")
  · exact DropPost.intro (by k_asm) (by k_asm) rfl (by k_mem) (by assumption) (cut_take (by assumption) (hit_last (by assumption) (by assumption)) (by assumption)) (by walk_at "r_sub") (by walk_at "r_z")
  · exact EnEnd.intro (by k_asm) (by k_asm) (by walk_at "r_sub") (by walk_at "r_z2") (hit_low (b := true) (by assumption) (by assumption) (by assumption))
  · exact DropPost.intro (by k_asm) (by k_asm) rfl (by k_mem) (by assumption) (cut_take (by assumption) (hit_low (b := false) (by assumption) (by assumption) (by assumption)) (by assumption)) (by walk_at "r_sub") (by walk_at "r_z")
  · exact EnEnd.intro (by k_asm) (by k_asm) (by walk_at "r_sub") (by walk_at "r_z2") (hit_no (by assumption))
  · exact ret_s hret (spec_fits (by assumption) (by assumption)).symm (by assumption) (by assumption) (by walk_at "r_sub")
  · exact ret_s hret (spec_dots (by assumption) (by assumption) (by assumption)).symm (by assumption) (by assumption) (by walk_at "r_sub")
  · exact ret_s hret (spec_long (by assumption) (by assumption)).symm (by assumption) (by assumption) (by walk_at "r_sub")
/-! part T5b -/
theorem fill8 : (∀ P, hd.heap_39 P = hd.heap_39 P) ∧ PySem.Challenge.rw_ez0024_01 = PySem.Challenge.rw_ez0024_01 := by
  k_fill
  exact ⟨fun _ => rfl, rfl⟩

theorem make1_ok (w : World) (mean : ExcName → Option Value) (mg mb : Str → Option Value) (text : Str) (t : Tok) (hlen : text.length ≤ 400) :
    PureCall w mean mg mb 29 2 [.str text t] (fun t => .str (shortSpec text 45) t) := by
  unfold PureCall
  intro news dp un gd cn cs a ccd cl outer A₀ base h₀ L m s Q E B F X N T hk hd hu hret
  have hpl : (Txt.partition text (Str.ofString "\n\n")).1.length ≤ 400 := Nat.le_trans (part_len text) hlen
  have hpos : PosW (dropB (Txt.words (Txt.partition text (Str.ofString "\n\n")).1)) := (posW_words _).dropB
  refine wpAny_call ?_
  k_dflt walk_at "r_enter"
  k_steps
  · exact DropPost.intro (by k_asm) (by k_asm) rfl (by k_mem) (by assumption) (dropB_nil (by assumption)).symm (by walk_at "r_sub") (by walk_at "r_z")
  · exact DropPost.intro (by k_asm) (by k_asm) rfl (by k_mem) (by assumption) (dropB_eq (by assumption) (eq_of_beq (by assumption))).symm (by walk_at "r_sub") (by walk_at "r_z")
  · exact DropPost.intro (by k_asm) (by k_asm) rfl (by k_mem) (by assumption) (dropB_ne (ne_of_beq_false (by assumption))).symm (by walk_at "r_sub") (by walk_at "r_z")
  · exact ret_s hret (spec_nil (by assumption)).symm (by assumption) (by assumption) (by walk_at "r_sub")
  · exact DropPost.intro (by k_asm) (by k_asm) rfl (by k_mem) (by assumption) (cutI_none (by assumption)).symm (by walk_at "r_sub") (by walk_at "r_z")
  · exact DropPost.intro (by k_asm) (by k_asm) rfl (by k_mem) (by assumption) (cut_take (by assumption) (hit_last (by assumption) (by assumption)) (by assumption)) (by walk_at "r_sub") (by walk_at "r_z")
  · exact EnEnd.intro (by k_asm) (by k_asm) (by walk_at "r_sub") (by walk_at "r_z2") (hit_low (b := true) (by assumption) (by assumption) (by assumption))
  · exact DropPost.intro (by k_asm) (by k_asm) rfl (by k_mem) (by assumption) (cut_take (by assumption) (hit_low (b := false) (by assumption) (by assumption) (by assumption)) (by assumption)) (by walk_at "r_sub") (by walk_at "r_z")
  · exact EnEnd.intro (by k_asm) (by k_asm) (by walk_at "r_sub") (by walk_at "r_z2") (hit_no (by assumption))
  · exact ret_s hret (spec_fits (by assumption) (by assumption)).symm (by assumption) (by assumption) (by walk_at "r_sub")
  · exact ret_s hret (spec_long (by assumption) (by assumption)).symm (by assumption) (by assumption) (by walk_at "r_sub")
/-! part E3 -/
section
variable {prog : Program} {w : World} {A : Around} {E : Value → Shared → Prop} {s : Shared} {h₀ : Heap} {L a b : Addr} {m : Str → Option Value} {news : List (Addr × Obj)} {vs us : List Value} {ws xs : List Str} {n n' : Nat} {Q : Value → Shared → Prop}
theorem r_cat (F : Fr h₀ L s.heap m) (N : News h₀ L s.heap news) (ha : (a, listOf vs.toArray n) ∈ news) (hb : (b, listOf us.toArray n') ∈ news) (hi : StrsAre vs ws) (hj : StrsAre us xs) (hl : ws.length + xs.length ≤ 2000)
    (h : ∀ D zs h', StrsAre zs (ws ++ xs) → Fr h₀ L h' m → News h₀ L h' ((D, listOf zs.toArray 0) :: news) → (∀ p ∈ news, p.1 < D) → Q (.ref D) { s with heap := h' }) :
    wpAny (model prog w) A (binaryOp .Add (.ref a) (.ref b)) Q E s := by
  have e1 := hi.len_eq
  have e2 := hj.len_eq
  refine add_lists (vs := vs) (ws := us) F N (News.isList N ha) (News.isList N hb) (fun h' F' N' => h _ (vs ++ us) h' (strs_append hi hj) F' N' fun p hp => Heap.lt_size (N p hp).1) (by rw [sizeLine_eq]; omega)
def blank (c : Nat) : Bool := c == 32 || c == 10
theorem r_in {c : Nat} {t u : Tok} (h : Q (.bool (blank c)) s) : wpAny (model prog w) A (compareOp .In (.str ⟨#[c]⟩ u) (.str (Str.ofString " \n") t)) Q E s := by
  refine P.in_str ?_
  rw [StrLaws.found_one]
  have e : decide (c ∈ (Str.ofString " \n").cps.toList) = blank c := by
    have e2 : (Str.ofString " \n").cps.toList = [32, 10] := by decide
    rw [e2]
    unfold blank
    simp only [List.mem_cons, List.not_mem_nil, or_false]
    by_cases h1 : c = 32 <;> by_cases h2 : c = 10 <;> simp [h1, h2]
  rw [e]
  exact h
end
theorem blank_space {c : Nat} (h : signT c = true) : Unicode.isSpace c = blank c := by
  have hc : c < 128 := by
    unfold signT signB signW at h
    simp only [Bool.or_eq_true, Bool.and_eq_true, decide_eq_true_eq, beq_iff_eq] at h
    omega
  have key : ∀ c, c < 128 → signT c = true → Unicode.isSpace c = blank c := by decide +kernel
  exact key c hc h
theorem empty_ofString : Str.ofString "" = Str.empty := by decide
def wst (st : List Str × Str) : Nat := (st.1.map (·.length)).sum + st.1.length + st.2.length
theorem wst_step (st : List Str × Str) (c : Nat) : wst (KWd.step st c) ≤ wst st + 1 := by
  unfold KWd.step
  split
  · split
    · omega
    · unfold wst
      simp only [List.map_append, List.sum_append, List.map_cons, List.map_nil, List.sum_cons, List.sum_nil, List.length_append, List.length_cons, List.length_nil]
      have e : Str.empty.length = 0 := rfl
      omega
  · unfold wst
    have e : (⟨#[c]⟩ : Str).length = 1 := rfl
    simp only [Str.length_append, e]
    omega
theorem wst_fold (l : List Nat) : ∀ st, wst (l.foldl KWd.step st) ≤ wst st + l.length := by
  induction l with
  | nil => intro st; exact Nat.le_refl _
  | cons c l ih =>
    intro st
    have h1 := ih (KWd.step st c)
    have h2 := wst_step st c
    simp only [List.foldl_cons, List.length_cons]
    omega
theorem scan_blank_end (p : Str) : (KWd.scan (p ++ Str.ofString " ")).1 = Txt.words p := by
  have e1 : Str.ofString " " = ⟨#[32]⟩ := by decide
  rw [e1, KWd.scan_snoc, KWd.words_of (x := p) (ws := (KWd.scan p).1) (r := (KWd.scan p).2) rfl]
  unfold KWd.step
  rw [if_pos (by decide)]
  split <;> rfl

/-! the loop over the signs -/
def ChEnd (h₀ : Heap) (L : Addr) (m₀ : Str → Option Value) (cw : Addr) (rest : List (Addr × Obj)) (st : List Str × Str) (s₁ s₂ : Shared) : Prop :=
  ∃ h' tk' m' D' vs' n' o' ty', s₂ = { s₁ with heap := h', toks := tk' } ∧ Fr h₀ L h' m' ∧ News h₀ L h' ((D', listOf vs'.toArray n') :: (cw, o') :: rest) ∧ StrsAre vs' st.1 ∧ o'.data = .cell (some (.ref D')) ∧ @Ne Nat D' cw ∧ OwnOff rest [D'] ∧
    m' (Str.ofString "word") = some (.str st.2 ty') ∧ ∀ z, z ≠ Str.ofString "sign" → z ≠ Str.ofString "word" → m' z = m₀ z
def ChPost (h₀ : Heap) (L : Addr) (m₀ : Str → Option Value) (cw : Addr) (rest : List (Addr × Obj)) (st : List Str × Str) (s₁ : Shared) (Q : Flow → Shared → Prop) (f : Flow) (s₂ : Shared) : Prop :=
  match f with
  | .ret v => Q (.ret v) s₂
  | .brk => Q .next s₂
  | _ => ChEnd h₀ L m₀ cw rest st s₁ s₂
theorem ChEnd.intro {h₀ : Heap} {L : Addr} {m₀ m' : Str → Option Value} {cw D' : Addr} {rest all : List (Addr × Obj)} {st : List Str × Str} {s₁ : Shared} {h' : Heap} {tk' : Nat} {vs' : List Value} {n' : Nat} {o' : Obj} {ty' : Tok} {ws : List Str} {r : Str}
    (F : Fr h₀ L h' m') (N : News h₀ L h' all) (ho : o'.data = .cell (some (.ref D'))) (hc : (cw, o') ∈ all) (hd : (D', listOf vs'.toArray n') ∈ all) (hs : ∀ p ∈ rest, p ∈ all) (hi : StrsAre vs' ws)
    (hw : m' (Str.ofString "word") = some (.str r ty')) (hst : (ws, r) = st) (hne : @Ne Nat D' cw) (hoff : OwnOff rest [D']) (hm : ∀ z, z ≠ Str.ofString "sign" → z ≠ Str.ofString "word" → m' z = m₀ z) :
    ChEnd h₀ L m₀ cw rest st s₁ { s₁ with heap := h', toks := tk' } := by
  subst hst
  refine ⟨h', tk', m', D', vs', n', o', ty', rfl, F, fun p hp => ?_, hi, ho, hne, hoff, hw, hm⟩
  rcases List.mem_cons.mp hp with rfl | hp
  · exact N _ hd
  · rcases List.mem_cons.mp hp with rfl | hp
    · exact N _ hc
    · exact N p (hs p hp)
theorem ownOff_allLt {rest : List (Addr × Obj)} {D : Addr} (h : AllLt D rest) : OwnOff rest [D] := by
  intro p hp b hb
  rw [List.mem_singleton.mp hb]
  exact Nat.ne_of_lt (ktn_ltOf h p hp)

section
variable {prog : Program} {w : World} {A : Around} {E : Value → Shared → Prop} {s : Shared} {env : Env} {h₀ : Heap} {body : List Stmt} {Q : Flow → Shared → Prop}
def ChJ (m₀ : Str → Option Value) (cw : Addr) (rest : List (Addr × Obj)) (codes : List Nat) (i : Nat) (m : Str → Option Value) (nx : List (Addr × Obj)) : Prop :=
  ∃ D vs n o ty, nx = ((D, listOf vs.toArray n) :: (cw, o) :: rest) ∧ StrsAre vs ((codes.take i).foldl KWd.step ([], Str.empty)).1 ∧ o.data = .cell (some (.ref D)) ∧ @Ne Nat D cw ∧ OwnOff rest [D] ∧
    m (Str.ofString "word") = some (.str ((codes.take i).foldl KWd.step ([], Str.empty)).2 ty) ∧ ∀ z, z ≠ Str.ofString "sign" → z ≠ Str.ofString "word" → m z = m₀ z
theorem r_chars {p : Str} {tx : Tok} {cw l : Addr} {o0 : Obj} {n0 : Nat} {m₀ : Str → Option Value} {rest : List (Addr × Obj)} {t0 : Tok}
    (hh : A.handled = none) (F : Fr h₀ env.locals s.heap m₀) (N : News h₀ env.locals s.heap ((l, listOf ([] : List Value).toArray n0) :: (cw, o0) :: rest)) (ho : o0.data = .cell (some (.ref l))) (hne : @Ne Nat l cw) (hoffl : OwnOff rest [l]) (hoff : OwnOff rest [cw])
    (hw : m₀ (Str.ofString "word") = some (.str (Str.ofString "") t0)) (hx : p.length ≤ 400) (hch : ∀ c ∈ p.cps.toList, signT c = true)
    (turn : ∀ (c : Nat) t h tk (D : Addr) o vs n ws r tr (rest' : List (Addr × Obj)), signT c = true → ws.length ≤ 900 → r.length ≤ 900 → StrsAre vs ws → o.data = .cell (some (.ref D)) → @Ne Nat D cw → OwnOff rest' [D] → OwnOff rest' [cw] → (∀ q ∈ rest, q ∈ rest') →
      Fr h₀ env.locals h (fun y => if y = Str.ofString "sign" then some (.str ⟨#[c]⟩ t) else if y = Str.ofString "word" then some (.str r tr) else m₀ y) → News h₀ env.locals h ((D, listOf vs.toArray n) :: (cw, o) :: rest') →
      wpAny (model prog w) A (execs body env) (ChPost h₀ env.locals m₀ cw rest' (KWd.step (ws, r) c) { s with heap := h, toks := tk } Q) E { s with heap := h, toks := tk })
    (done : ∀ h tk (u : Str → Option Value) D vs n o, StrsAre vs (Txt.words p) → Small (Txt.words p) → o.data = .cell (some (.ref D)) → @Ne Nat D cw → OwnOff rest [D] →
      Fr h₀ env.locals h (fun y => if y = Str.ofString "sign" then u y else if y = Str.ofString "word" then u y else m₀ y) → News h₀ env.locals h ((D, listOf vs.toArray n) :: (cw, o) :: rest) → Q .next { s with heap := h, toks := tk }) :
    wpAny (model prog w) A (pyIter (.str (p ++ Str.ofString " ") tx)) (fun it s₂ => LoopAtV prog w A h₀ env (Str.ofString "sign") body Q E it s₂) E s := by
  have hcodes : (p ++ Str.ofString " ").cps.toList = p.cps.toList ++ [32] := by
    rw [Str.cps_append, Array.toList_append]; rfl
  have hch' : ∀ c ∈ (p ++ Str.ofString " ").cps.toList, signT c = true := by
    intro c hc
    rw [hcodes] at hc
    rcases List.mem_append.mp hc with hc | hc
    · exact hch c hc
    · rw [List.mem_singleton.mp hc]; decide
  have hlen : (p ++ Str.ofString " ").cps.toList.length ≤ 401 := by
    rw [hcodes, List.length_append]
    have : p.cps.toList.length = p.length := Array.length_toList
    simp only [List.length_cons, List.length_nil]
    omega
  have hasc : (p ++ Str.ofString " ").cps.all (· < 128) = true := by
    rw [Array.all_eq_true_iff_forall_mem]
    intro c hc
    have hs := hch' c (Array.mem_toList_iff.mpr hc)
    unfold signT signB signW at hs
    simp only [Bool.or_eq_true, Bool.and_eq_true, decide_eq_true_eq, beq_iff_eq] at hs
    exact decide_eq_true (by omega)
  have hwt : ∀ i, wst (((p ++ Str.ofString " ").cps.toList.take i).foldl KWd.step ([], Str.empty)) ≤ 401 := by
    intro i
    have h1 := wst_fold ((p ++ Str.ofString " ").cps.toList.take i) ([], Str.empty)
    have h2 : ((p ++ Str.ofString " ").cps.toList.take i).length ≤ 401 := by rw [List.length_take]; omega
    have h3 : wst (([], Str.empty) : List Str × Str) = 0 := rfl
    omega
  have mixE : ∀ m : Str → Option Value, (∀ z, z ≠ Str.ofString "sign" → z ≠ Str.ofString "word" → m z = m₀ z) → (fun y => if y = Str.ofString "sign" then m y else if y = Str.ofString "word" then m y else m₀ y) = m := by
    intro m hm
    funext y
    by_cases h1 : y = Str.ofString "sign"
    · rw [if_pos h1]
    · rw [if_neg h1]
      by_cases h2 : y = Str.ofString "word"
      · rw [if_pos h2]
      · rw [if_neg h2, hm y h1 h2]
  refine wpAny_pyIter_ascii hasc ?_
  have W : Walks prog w A s.heap.objs.size [s.heap.objs.size] [s.heap.objs.size] (p ++ Str.ofString " ").cps.size (SignAt (p ++ Str.ofString " ")) (fun i h => h.IsStrIter s.heap.objs.size "str_ascii_iterator" (p ++ Str.ofString " ") tx i) := Walks.strAscii hh _ _ _
  have nI : ∀ q ∈ ((l, listOf ([] : List Value).toArray n0) :: (cw, o0) :: rest), q.1 ≠ s.heap.objs.size := fun q hq => Nat.ne_of_lt (Heap.lt_size (N q hq).1)
  refine ⟨s.heap.objs.size, [s.heap.objs.size], [s.heap.objs.size], (p ++ Str.ofString " ").cps.size, _, _, m₀, _, ChJ m₀ cw rest (p ++ Str.ofString " ").cps.toList, rfl, W, ?_, ?_, ?_, ⟨_, Heap.get?_push_size _ rfl, rfl, rfl⟩, F.push _, (fun q hq => ⟨Heap.get?_push_of_some _ (N q hq).1, (N q hq).2⟩), ?_, ?_, ?_⟩
  · intro hm
    exact absurd F.ns.lt ((List.mem_singleton.mp hm) ▸ Nat.lt_irrefl _)
  · intro b hb
    rw [List.mem_singleton.mp hb]
    exact next_is_new F
  · intro q hq hI
    exact nI q hq (List.mem_singleton.mp hI)
  · refine ⟨l, [], n0, o0, t0, rfl, .nil, ho, hne, hoffl, ?_, fun _ _ _ => rfl⟩
    rw [hw, empty_ofString]; rfl
  · rintro i v m₁ nx s₁ own ⟨hh', tk', rfl⟩ hin ⟨c, u, hc, rfl⟩ ⟨D, vs, n, o, ty, rfl, hi, hod, hnD, hoD, hwm, hz⟩ hoffw hown hget hall hst F₁ N₁
    have hc' : (p ++ Str.ofString " ").cps.toList[i]? = some c := by simpa using hc
    have hsc : signT c = true := hch' c (List.mem_of_getElem? hc')
    have hstep : ((p ++ Str.ofString " ").cps.toList.take (i + 1)).foldl KWd.step ([], Str.empty) = KWd.step (((p ++ Str.ofString " ").cps.toList.take i).foldl KWd.step ([], Str.empty)) c := by
      rw [List.take_add_one, hc', List.foldl_append]; rfl
    have hwi := hwt i
    unfold wst at hwi
    have hIn : ∃ oI, (s.heap.objs.size, oI) ∈ own := by
      obtain ⟨oI, hoI, _⟩ := hst
      exact ⟨oI, hall _ (List.mem_cons_self ..) (next_is_new F) oI hoI⟩
    have hownI : ∀ q ∈ own, q.1 = s.heap.objs.size := fun q hq => List.mem_singleton.mp (hown q hq)
    have hDI : D ≠ s.heap.objs.size := fun e => hoffw (D, listOf vs.toArray n) (List.mem_cons_self ..) (by rw [e]; exact List.mem_cons_self ..)
    have hcI : cw ≠ s.heap.objs.size := nI (cw, o0) (List.mem_cons_of_mem _ (List.mem_cons_self ..))
    have em : (fun y => if y = Str.ofString "sign" then some (Value.str ⟨#[c]⟩ u) else m₁ y) = (fun y => if y = Str.ofString "sign" then some (.str ⟨#[c]⟩ u) else if y = Str.ofString "word" then some (.str (((p ++ Str.ofString " ").cps.toList.take i).foldl KWd.step ([], Str.empty)).2 ty) else m₀ y) := by
      funext y
      by_cases h1 : y = Str.ofString "sign"
      · rw [if_pos h1, if_pos h1]
      · rw [if_neg h1, if_neg h1]
        by_cases h2 : y = Str.ofString "word"
        · rw [if_pos h2, h2]; exact hwm
        · rw [if_neg h2]; exact hz y h1 h2
    rw [em] at F₁
    have N₂ : News h₀ env.locals hh' ((D, listOf vs.toArray n) :: (cw, o) :: (rest ++ own)) := fun q hq => N₁ q (by
      simp only [List.mem_cons, List.mem_append] at hq ⊢
      rcases hq with h | h | h | h <;> simp [h])
    have oD' : OwnOff (rest ++ own) [D] := by
      intro q hq b hb
      rcases List.mem_append.mp hq with hq | hq
      · exact hoD q hq b hb
      · rw [List.mem_singleton.mp hb, hownI q hq]; exact Ne.symm hDI
    have oC' : OwnOff (rest ++ own) [cw] := by
      intro q hq b hb
      rcases List.mem_append.mp hq with hq | hq
      · exact hoff q hq b hb
      · rw [List.mem_singleton.mp hb, hownI q hq]; exact Ne.symm hcI
    refine wpAny_mono (turn c u hh' tk' D o vs n _ _ ty (rest ++ own) hsc (by omega) (by omega) hi hod hnD oD' oC' (fun q hq => List.mem_append_left _ hq) F₁ N₂) (fun f s₂ q => ?_) fun _ _ e => e
    have fin : ChEnd h₀ env.locals m₀ cw (rest ++ own) (KWd.step (((p ++ Str.ofString " ").cps.toList.take i).foldl KWd.step ([], Str.empty)) c) { s with heap := hh', toks := tk' } s₂ →
        LoopStepU h₀ env.locals [s.heap.objs.size] own (ChJ m₀ cw rest (p ++ Str.ofString " ").cps.toList (i + 1)) { s with heap := hh', toks := tk' } .next s₂ := by
      rintro ⟨h', tk2, m', D', vs', n', o', ty', e, F', N', hi', ho', hne', hoff', hw', hz'⟩
      refine ⟨rfl, h', tk2, m', ((D', listOf vs'.toArray n') :: (cw, o') :: rest), e, F', fun q hq => N' q ?_, fun q hq hI => ?_, D', vs', n', o', ty', rfl, ?_, ho', hne', fun q hq b hb => hoff' q (List.mem_append_left _ hq) b hb, ?_, hz'⟩
      · simp only [List.mem_cons, List.mem_append] at hq ⊢
        rcases hq with h | h | h | h <;> simp [h]
      · have hI' := List.mem_singleton.mp hI
        obtain ⟨oI, hoI⟩ := hIn
        rcases List.mem_cons.mp hq with rfl | hq
        · exact hoff' (s.heap.objs.size, oI) (List.mem_append_right _ hoI) D' (List.mem_cons_self ..) hI'.symm
        · rcases List.mem_cons.mp hq with rfl | hq
          · exact hcI hI'
          · exact nI q (List.mem_cons_of_mem _ (List.mem_cons_of_mem _ hq)) hI'
      · rw [hstep]; exact hi'
      · rw [hstep]; exact hw'
    cases f with
    | ret v => exact .ret q
    | brk => exact .brk q
    | next => exact .next (fin q)
    | cont => exact .cont (fin q)
  · rintro h' tk' m' nx F' N' _ ⟨D, vs, n, o, ty, rfl, hi, hod, hnD, hoD, hwm, hz⟩
    have hfull : (p ++ Str.ofString " ").cps.toList.take (p ++ Str.ofString " ").cps.size = (p ++ Str.ofString " ").cps.toList := List.take_of_length_le (by rw [Array.length_toList]; exact Nat.le_refl _)
    rw [hfull] at hi
    have hws : ((p ++ Str.ofString " ").cps.toList.foldl KWd.step ([], Str.empty)).1 = Txt.words p := scan_blank_end p
    rw [hws] at hi
    have hsm : Small (Txt.words p) := by
      have := StrLaws.words_weight p
      unfold Small
      omega
    exact done h' tk' m' D vs n o hi hsm hod hnD hoD (by rw [mixE m' hz]; exact F') N'
end
/-! part E4 -/
theorem ownOff_one {q : Addr × Obj} {d : Addr} {l : List (Addr × Obj)} (h : OwnOff l [d]) (h1 : @Ne Nat q.1 d) : OwnOff (q :: l) [d] := by
  intro p hp b hb
  rcases List.mem_cons.mp hp with rfl | hp
  · rw [List.mem_singleton.mp hb]; exact h1
  · exact h p hp b hb
theorem ownOff_lt2 {q : Addr × Obj} {rest : List (Addr × Obj)} {D : Addr} (h1 : @LT.lt Nat _ q.1 D) (h : AllLt D rest) : OwnOff (q :: rest) [D] := ownOff_allLt (show AllLt D (q :: rest) from ⟨h1, h⟩)
theorem ownOff_l {d e : Addr} {l : List (Addr × Obj)} (h : OwnOff l [d, e]) : OwnOff l [d] := fun p hp b hb => h p hp b (by rw [List.mem_singleton.mp hb]; exact List.mem_cons_self ..)
theorem step_ne {ws : List Str} {r : Str} {c : Nat} (hs : signT c = true) (hb : blank c = true) (hr : ¬ r = Str.ofString "") : (ws ++ [r], Str.ofString "") = KWd.step (ws, r) c := by
  unfold KWd.step
  rw [if_pos (by rw [blank_space hs, hb]), if_neg, empty_ofString]
  intro h0
  exact hr (by rw [empty_ofString]; exact KWd.len0 h0)
theorem step_eq {ws : List Str} {r : Str} {c : Nat} (hs : signT c = true) (hb : blank c = true) (hr : r = Str.ofString "") : (ws ++ [], Str.ofString "") = KWd.step (ws, r) c := by
  unfold KWd.step
  subst hr
  rw [if_pos (by rw [blank_space hs, hb]), if_pos (show (Str.ofString "").length = 0 from by decide), List.append_nil]
theorem step_on {ws : List Str} {r : Str} {c : Nat} (hs : signT c = true) (hb : blank c = false) : (ws, r ++ ⟨#[c]⟩) = KWd.step (ws, r) c := by
  unfold KWd.step
  rw [if_neg (by rw [blank_space hs, hb]; exact Bool.false_ne_true)]

/-! statements over the cell that holds the words, whose ways meet -/
def CellPost (h₀ : Heap) (L : Addr) (m : Str → Option Value) (cw : Addr) (rest : List (Addr × Obj)) (ws1 : List Str) (s : Shared) (f : Flow) (s' : Shared) : Prop :=
  f = .next ∧ ∃ D' vs' n' o' h' tk', s' = { s with heap := h', toks := tk' } ∧ StrsAre vs' ws1 ∧ o'.data = .cell (some (.ref D')) ∧ @Ne Nat D' cw ∧ OwnOff rest [D'] ∧ Fr h₀ L h' m ∧ News h₀ L h' ((D', listOf vs'.toArray n') :: (cw, o') :: rest)
theorem CellPost.intro {h₀ : Heap} {L : Addr} {m : Str → Option Value} {cw D' : Addr} {rest all : List (Addr × Obj)} {ws1 ws2 : List Str} {s : Shared} {vs' : List Value} {n' : Nat} {o' : Obj} {h' : Heap} {tk' : Nat}
    (F : Fr h₀ L h' m) (N : News h₀ L h' all) (ho : o'.data = .cell (some (.ref D'))) (hc : (cw, o') ∈ all) (hd : (D', listOf vs'.toArray n') ∈ all) (hi : StrsAre vs' ws2) (e : ws2 = ws1) (hs : ∀ p ∈ rest, p ∈ all) (hne : @Ne Nat D' cw) (hoff : OwnOff rest [D']) :
    CellPost h₀ L m cw rest ws1 s .next { s with heap := h', toks := tk' } := by
  subst e
  refine ⟨rfl, D', vs', n', o', h', tk', rfl, hi, ho, hne, hoff, F, fun p hp => ?_⟩
  rcases List.mem_cons.mp hp with rfl | hp
  · exact N _ hd
  · rcases List.mem_cons.mp hp with rfl | hp
    · exact N _ hc
    · exact N p (hs p hp)
section
variable {M : Model} {A : Around} {E : Value → Shared → Prop} {s : Shared} {env : Env} {h₀ : Heap} {L D cw : Addr} {m : Str → Option Value} {rst : List (Addr × Obj)} {vs : List Value} {n : Nat} {o : Obj} {ws : List Str} {Q : Flow → Shared → Prop}
theorem r_cell {ws1 : List Str} {st : Stmt} {rest : List Stmt} (hsm : Small ws1)
    (hif : wpAny M A (exec st env) (CellPost h₀ L m cw rst ws1 s) E s)
    (hrest : ∀ D' vs' n' o' h' tk', StrsAre vs' ws1 → Small ws1 → o'.data = .cell (some (.ref D')) → @Ne Nat D' cw → OwnOff rst [D'] → Fr h₀ L h' m → News h₀ L h' ((D', listOf vs'.toArray n') :: (cw, o') :: rst) → wpAny M A (execs rest env) Q E { s with heap := h', toks := tk' }) :
    wpAny M A (execs (st :: rest) env) Q E s := by
  refine wpAny_execs_cons (wpAny_mono hif (fun f s' hp => ?_) fun _ _ e => e)
  obtain ⟨rfl, D', vs', n', o', h', tk', rfl, hi, ho, hne, hoff, F, N⟩ := hp
  exact hrest D' vs' n' o' h' tk' hi hsm ho hne hoff F N
theorem r_cell_drop {st : Stmt} {rest : List Stmt} (_F : Fr h₀ L s.heap m) (_N : News h₀ L s.heap ((D, listOf vs.toArray n) :: (cw, o) :: rst)) (_hi : StrsAre vs ws) (hsm : Small ws)
    (hif : wpAny M A (exec st env) (CellPost h₀ L m cw rst (dropB ws) s) E s)
    (hrest : ∀ D' vs' n' o' h' tk', StrsAre vs' (dropB ws) → Small (dropB ws) → o'.data = .cell (some (.ref D')) → @Ne Nat D' cw → OwnOff rst [D'] → Fr h₀ L h' m → News h₀ L h' ((D', listOf vs'.toArray n') :: (cw, o') :: rst) → wpAny M A (execs rest env) Q E { s with heap := h', toks := tk' }) :
    wpAny M A (execs (st :: rest) env) Q E s := r_cell hsm.dropB hif hrest
end
/-! part E5 -/
/-! a comprehension with a test over a range, its element the turn's own int -/
def REl (p : Int → Bool) (k : Int) (news : List (Addr × Obj)) (y : Value) (news' : List (Addr × Obj)) : Prop := news' = news ∧ p k = true ∧ ∃ t, y = .int k t
def RNo (p : Int → Bool) (k : Int) (news news' : List (Addr × Obj)) : Prop := news' = news ∧ p k = false
section
variable {prog : Program} {w : World} {A : Around} {h₀ : Heap} {L : Addr} {m : Str → Option Value} {env : Env} {ct elt : Expr} {x : Str} {scope : Scope} {cl : List (Str × Addr)} {s : Shared} {S : List (Addr × Obj) → Prop} {Fin : List Value → List (Addr × Obj) → Prop} {news : List (Addr × Obj)}
theorem r_comp {n n' : Nat} {a : Int} (p : Int → Bool) (hn : n = n')
    (turn : ∀ k t I oI C oC D m₂ ys h tk (E' : Value → Shared → Prop), a ≤ k → k < a + (n' : Int) → LCg.NsObj oC m₂ → m₂ x = some (.int k t) → Fr h₀ L h m → News h₀ L h ((I, oI) :: (C, oC) :: (D, LCg.lst ys) :: news) → LCg.Off3 I C D news → ((@Ne Nat I C) ∧ (@Ne Nat I D) ∧ (@Ne Nat C D)) →
      wpAny (model prog w) A (isTrue ct (compEnvC scope cl C env) (eval ct (compEnvC scope cl C env))) (fun b s' => if b = true then wpAny (model prog w) A (eval elt (compEnvC scope cl C env)) (LCg.CompEnd h₀ L m { s with heap := h, toks := tk } I oI C oC D (LCg.lst ys) S (fun y news' => REl p k news y news')) E' s'
        else LCg.CompEnd h₀ L m { s with heap := h, toks := tk } I oI C oC D (LCg.lst ys) S (fun _ news' => RNo p k news news') Value.none s') E' { s with heap := h, toks := tk })
    (fin : ∀ ys, IntsAre ys ((rangeKs a n').filter p) → ys.length ≤ n' → Fin ys news) :
    LCt.CompRestT prog w A h₀ L m env ct elt x scope cl s S (fun i v => ∃ t, v = .int (a + (i : Int)) t) Fin n 0 [] news := by
  subst hn
  have key : ∀ (j i : Nat) (ys : List Value), i + j = n → IntsAre ys (((rangeKs a n).take i).filter p) → LCt.CompRestT prog w A h₀ L m env ct elt x scope cl s S (fun i v => ∃ t, v = .int (a + (i : Int)) t) Fin j i ys news := by
    intro j
    induction j with
    | zero =>
      intro i ys hi hy
      have e : i = (rangeKs a n).length := by rw [rangeKs_length]; omega
      rw [e, List.take_length] at hy
      refine LCt.CompRestT.zero (fin ys hy ?_)
      have h1 := hy.length
      have h2 := List.length_filter_le p (rangeKs a n)
      rw [rangeKs_length] at h2
      omega
    | succ j ih =>
      intro i ys hi hy
      refine LCt.CompRestT.succ ?_
      intro v I oI C oC D m₂ h tk E' hv hC hx F N off ne
      obtain ⟨t, rfl⟩ := hv
      have hk : (rangeKs a n)[i]? = some (a + (i : Int)) := by simp [rangeKs, (by omega : i < n)]
      have hs : ((rangeKs a n).take (i + 1)).filter p = ((rangeKs a n).take i).filter p ++ (if p (a + (i : Int)) = true then [a + (i : Int)] else []) := by
        rw [List.take_add_one, hk, List.filter_append]
        show _ ++ List.filter p [a + (i : Int)] = _
        cases hp : p (a + (i : Int)) <;> simp [List.filter, hp]
      refine wpAny_mono (turn (a + (i : Int)) t I oI C oC D m₂ ys h tk E' (by omega) (by omega) hC hx F N off ne) (fun b s₂ hq => ?_) fun _ _ e => e
      cases b with
      | true =>
        simp only [if_true] at hq ⊢
        refine wpAny_mono hq (fun y s₃ hr => ?_) fun _ _ e => e
        obtain ⟨h', tk', nw, e, F', N', off', hS, hnw, hp, t', hy'⟩ := hr
        rw [hnw] at N' off' hS
        refine ⟨h', tk', news, e, F', N', off', hS, ?_⟩
        rw [hy']
        refine ih (i + 1) _ (by omega) ?_
        rw [hs, if_pos hp]
        exact IntsAre.append hy (.cons _ t' .nil)
      | false =>
        simp only [Bool.false_eq_true, if_false] at hq ⊢
        obtain ⟨h', tk', nw, e, F', N', off', hS, hnw, hp⟩ := hq
        rw [hnw] at N' off' hS
        refine ⟨h', tk', news, e, F', N', off', hS, ih (i + 1) _ (by omega) ?_⟩
        rw [hs, hp]
        simpa using hy
  exact key n 0 [] (by omega) (by simp only [List.take_zero, List.filter_nil]; exact .nil)
end
def MostIs (_most : Int) : Prop := True
def pEnds (ws : List Str) (k : Int) : Bool := hit ws k.toNat
def pFits (ws : List Str) (most : Int) (k : Int) : Bool := decide (((Txt.join (Str.ofString " ") (ws.take k.toNat)).length : Int) + 3 ≤ most)
section
variable {prog : Program} {w : World} {A : Around} {h₀ : Heap} {L : Addr} {m : Str → Option Value} {env : Env} {elt : Expr} {x : Str} {scope : Scope} {cl : List (Str × Addr)} {s : Shared} {S : List (Addr × Obj) → Prop} {Fin : List Value → List (Addr × Obj) → Prop} {news : List (Addr × Obj)} {vs : List Value} {ws : List Str}
theorem r_ends {n : Nat} {op : BoolOp} {es : List Expr} {ps : Pos} (_hi : StrsAre vs ws) (hn : n = ws.length)
    (turn : ∀ k t I oI C oC D m₂ ys h tk (E' : Value → Shared → Prop), 0 ≤ k → k < (ws.length : Int) → LCg.NsObj oC m₂ → m₂ x = some (.int k t) → Fr h₀ L h m → News h₀ L h ((I, oI) :: (C, oC) :: (D, LCg.lst ys) :: news) → LCg.Off3 I C D news → ((@Ne Nat I C) ∧ (@Ne Nat I D) ∧ (@Ne Nat C D)) →
      wpAny (model prog w) A (isTrue (.BoolOp op es ps) (compEnvC scope cl C env) (eval (.BoolOp op es ps) (compEnvC scope cl C env))) (fun b s' => if b = true then wpAny (model prog w) A (eval elt (compEnvC scope cl C env)) (LCg.CompEnd h₀ L m { s with heap := h, toks := tk } I oI C oC D (LCg.lst ys) S (fun y news' => REl (pEnds ws) k news y news')) E' s'
        else LCg.CompEnd h₀ L m { s with heap := h, toks := tk } I oI C oC D (LCg.lst ys) S (fun _ news' => RNo (pEnds ws) k news news') Value.none s') E' { s with heap := h, toks := tk })
    (fin : ∀ ys, IntsAre ys ((rangeKs 0 ws.length).filter (pEnds ws)) → ys.length ≤ ws.length → Fin ys news) :
    LCt.CompRestT prog w A h₀ L m env (.BoolOp op es ps) elt x scope cl s S (fun i v => ∃ t, v = .int (0 + (i : Int)) t) Fin n 0 [] news :=
  r_comp (pEnds ws) hn (fun k t I oI C oC D m₂ ys h tk E' h0 h1 => turn k t I oI C oC D m₂ ys h tk E' h0 (by omega)) fin
theorem r_fits {n : Nat} {c1 : Expr} {c2 : List CmpOp} {c3 : List Expr} {ps : Pos} {most : Int} (_hi : StrsAre vs ws) (_hM : MostIs most) (hn : n = ws.length)
    (turn : ∀ k t I oI C oC D m₂ ys h tk (E' : Value → Shared → Prop), 1 ≤ k → k < 1 + (ws.length : Int) → LCg.NsObj oC m₂ → m₂ x = some (.int k t) → Fr h₀ L h m → News h₀ L h ((I, oI) :: (C, oC) :: (D, LCg.lst ys) :: news) → LCg.Off3 I C D news → ((@Ne Nat I C) ∧ (@Ne Nat I D) ∧ (@Ne Nat C D)) →
      wpAny (model prog w) A (isTrue (.Compare c1 c2 c3 ps) (compEnvC scope cl C env) (eval (.Compare c1 c2 c3 ps) (compEnvC scope cl C env))) (fun b s' => if b = true then wpAny (model prog w) A (eval elt (compEnvC scope cl C env)) (LCg.CompEnd h₀ L m { s with heap := h, toks := tk } I oI C oC D (LCg.lst ys) S (fun y news' => REl (pFits ws most) k news y news')) E' s'
        else LCg.CompEnd h₀ L m { s with heap := h, toks := tk } I oI C oC D (LCg.lst ys) S (fun _ news' => RNo (pFits ws most) k news news') Value.none s') E' { s with heap := h, toks := tk })
    (fin : ∀ ys, IntsAre ys ((rangeKs 1 ws.length).filter (pFits ws most)) → ys.length ≤ ws.length → Fin ys news) :
    LCt.CompRestT prog w A h₀ L m env (.Compare c1 c2 c3 ps) elt x scope cl s S (fun i v => ∃ t, v = .int (1 + (i : Int)) t) Fin n 0 [] news :=
  r_comp (pFits ws most) hn (fun k t I oI C oC D m₂ ys h tk E' h0 h1 => turn k t I oI C oC D m₂ ys h tk E' h0 (by omega)) fin
end
section
variable {prog : Program} {w : World} {A : Around} {E : Value → Shared → Prop} {s : Shared} {env : Env} {h₀ : Heap} {L l : Addr} {m : Str → Option Value} {news : List (Addr × Obj)} {vs : List Value} {ws : List Str} {ns : List Int} {n : Nat} {Q : Value → Shared → Prop} {value slice : PySem.Expr}
theorem r_itemI {k : Int} {u : Tok} (N : News h₀ L s.heap news) (hm : (l, listOf vs.toArray n) ∈ news) (hi : StrsAre vs ws) (hsm : Small ws) (h0 : 0 ≤ k) (h1 : k < (ws.length : Int))
    (h : ∀ t', Q (.str (ws.getD k.toNat Str.empty) t') s)
    (hs : subscripted slice false (.ref l) (.int k u) = operate [.ref l, .int k u] (getItem (.ref l) (.int k u))) :
    wpAny (model prog w) A (subscriptTail value slice (.ref l) (.int k u)) Q E s := r_item k.toNat N hm hi hsm (by omega) (by omega) h hs
theorem r_signL {x : Str} {t u : Tok} (hx : 1 ≤ x.length) (h : ∀ t' k, Q (.str (Txt.item x (-1)) t') { s with toks := k })
    (hs : subscripted slice false (.str x t) (.int (-1) u) = operate [.str x t, .int (-1) u] (getItem (.str x t) (.int (-1) u))) (ht : ∀ r, letTemporaryGo value (.str x t) r = pure ()) :
    wpAny (model prog w) A (subscriptTail value slice (.str x t) (.int (-1) u)) Q E s := item_str (by decide) (by omega) (by omega) (fun _ => h _ _) hs ht
theorem r_first {u : Tok} (N : News h₀ L s.heap news) (hm : (l, listOf vs.toArray n) ∈ news) (hi : IntsAre vs ns) (hne : ¬ ns = [])
    (h : ∀ t', Q (.int (ns.headD 0) t') s)
    (hs : subscripted slice false (.ref l) (.int 0 u) = operate [.ref l, .int 0 u] (getItem (.ref l) (.int 0 u))) :
    wpAny (model prog w) A (subscriptTail value slice (.ref l) (.int 0 u)) Q E s := by
  cases hi with
  | nil => exact absurd rfl hne
  | cons k t r =>
    have hL := News.isList N hm
    exact tail_any hL.typeIs slot_list_getitem.lookup (wpAny_getItem_list hL (by decide) (by decide) (x := .int k t) (by simp) (h t)) hs
theorem r_last {u : Tok} (N : News h₀ L s.heap news) (hm : (l, listOf vs.toArray n) ∈ news) (hi : IntsAre vs ns) (hne : ¬ ns = []) (hl : ns.length ≤ 2000)
    (h : ∀ t', Q (.int (ns.getLastD 0) t') s)
    (hs : subscripted slice false (.ref l) (.int (-1) u) = operate [.ref l, .int (-1) u] (getItem (.ref l) (.int (-1) u))) :
    wpAny (model prog w) A (subscriptTail value slice (.ref l) (.int (-1) u)) Q E s := by
  have h0 : 0 < ns.length := List.length_pos_iff.mpr hne
  refine item_list_ints_negR (News.isList N hm) hi (by decide) (by omega) (by decide) (fun t => ?_) hs
  have e : ns.getD (-1 + (ns.length : Int)).toNat 0 = ns.getLastD 0 := by
    have e1 : (-1 + (ns.length : Int)).toNat = ns.length - 1 := by omega
    rw [e1]
    simp [List.getLastD_eq_getLast?, List.getLast?_eq_getElem?, List.getD]
  rw [e]
  exact h t
end
section
variable {M : Model} {A : Around} {E : Value → Shared → Prop} {s : Shared} {env : Env} {h₀ : Heap} {L D cw : Addr} {m : Str → Option Value} {rst : List (Addr × Obj)} {vs : List Value} {n : Nat} {o : Obj} {ws : List Str} {Q : Flow → Shared → Prop}
theorem r_cell_cut {st : Stmt} {rest : List Stmt} (_F : Fr h₀ L s.heap m) (_N : News h₀ L s.heap ((D, listOf vs.toArray n) :: (cw, o) :: rst)) (_hi : StrsAre vs ws) (hsm : Small ws)
    (hif : wpAny M A (exec st env) (CellPost h₀ L m cw rst (cutI ws) s) E s)
    (hrest : ∀ D' vs' n' o' h' tk', StrsAre vs' (cutI ws) → Small (cutI ws) → o'.data = .cell (some (.ref D')) → @Ne Nat D' cw → OwnOff rst [D'] → Fr h₀ L h' m → News h₀ L h' ((D', listOf vs'.toArray n') :: (cw, o') :: rst) → wpAny M A (execs rest env) Q E { s with heap := h', toks := tk' }) :
    wpAny M A (execs (st :: rest) env) Q E s := r_cell hsm.cutI hif hrest
end
/-! part P1 -/
theorem split_zero (x : Str) : (Txt.split x (Str.ofString "\n\n")).getD 0 Str.empty = (Txt.partition x (Str.ofString "\n\n")).1 := by
  have hp := PyProof.Rows.split_pos x (Str.ofString "\n\n")
  have e : (Txt.split x (Str.ofString "\n\n"))[0]? = some ((Txt.split x (Str.ofString "\n\n")).getD 0 Str.empty) := by
    rw [List.getD_eq_getElem?_getD]
    rw [List.getElem?_eq_getElem (show 0 < (Txt.split x (Str.ofString "\n\n")).length from hp)]
    rfl
  rcases split_head x (Str.ofString "\n\n") (by decide +kernel) _ e with ⟨h1, h2⟩ | ⟨i, h1, h2, h3⟩ <;> rcases partition_head x (Str.ofString "\n\n") with ⟨g1, g2⟩ | ⟨j, g1, g2, g3⟩
  · rw [h1, g1]
  · exact absurd g2 (h2 j)
  · exact absurd h2 (g2 i)
  · have : i = j := by
      rcases Nat.lt_trichotomy i j with h | h | h
      · exact absurd h2 (g3 i h)
      · exact h
      · exact absurd g2 (h3 j h)
    rw [h1, g1, this]
theorem part_signs {text : Str} (h : ∀ c ∈ text.cps.toList, signT c = true) : ∀ c ∈ (Txt.partition text (Str.ofString "\n\n")).1.cps.toList, signT c = true := by
  intro c hc
  refine h c ?_
  have e := StrLaws.partition_sum text (Str.ofString "\n\n")
  rw [← e]
  show c ∈ ((_ ++ _ : Array Nat)).toList
  rw [Array.toList_append]
  refine List.mem_append_left _ ?_
  show c ∈ ((_ ++ _ : Array Nat)).toList
  rw [Array.toList_append]
  exact List.mem_append_left _ hc
theorem item_last {w : Str} (h : 1 ≤ w.length) : (Txt.item w (-1) == Str.ofString ".") = Txt.endswith w (Str.ofString ".") := by
  have e : Str.ofString "." = ⟨#[46]⟩ := by decide
  rw [e]
  obtain ⟨a⟩ := w
  have h : 1 ≤ a.size := h
  have hs : seqIndex? (-1) a.size = some (a.size - 1) := by
    unfold seqIndex?
    simp
    omega
  have hi : Txt.item ⟨a⟩ (-1) = ⟨#[a[a.size - 1]]⟩ := by
    unfold Txt.item Txt.charAt
    show (⟨#[((seqIndex? (-1) a.size).bind fun i => a[i]?).getD 0]⟩ : Str) = _
    rw [hs]
    simp [show a.size - 1 < a.size by omega]
  rw [hi]
  unfold Txt.endswith Builtin.Str.subAt
  show (_ : Bool) = (decide (0 + 1 ≤ a.size) && (a.extract (a.size - 1) (a.size - 1 + 1) == #[46]))
  have hx : a.extract (a.size - 1) (a.size - 1 + 1) = #[a[a.size - 1]] := by
    apply Array.ext
    · simp; omega
    · intro i h1 h2
      simp at h2
      subst h2
      simp
  rw [hx, decide_eq_true (by omega), Bool.true_and]
  rw [Bool.eq_iff_iff]
  simp
theorem sign_low : ∀ c, c < 128 → signT c = true → (Unicode.isLower c && !(Unicode.isUpper c || Unicode.isTitle c)) = decide (97 ≤ c ∧ c ≤ 122) := by decide +kernel
theorem item_first {w : Str} (h : 1 ≤ w.length) : ∃ c, c ∈ w.cps.toList ∧ Txt.item w 0 = ⟨#[c]⟩ := by
  obtain ⟨a⟩ := w
  have h : 1 ≤ a.size := h
  have hs : seqIndex? 0 a.size = some 0 := by
    unfold seqIndex?
    simp
    intro h0
    subst h0
    simp at h
  refine ⟨a[0], ?_, ?_⟩
  · exact Array.getElem_mem_toList _
  · unfold Txt.item Txt.charAt
    show (⟨#[((seqIndex? 0 a.size).bind fun i => a[i]?).getD 0]⟩ : Str) = _
    rw [hs]
    simp [show 0 < a.size by omega]
theorem islower_one (c : Nat) : Txt.islower ⟨#[c]⟩ = (Unicode.isLower c && !(Unicode.isUpper c || Unicode.isTitle c)) := by
  unfold Txt.islower
  simp
/-! part P2 -/
/-! words that hold no blank -/
def Pure1 (w : Str) : Prop := 1 ≤ w.length ∧ ∀ c ∈ w.cps.toList, Unicode.isSpace c = false
def Clean (ws : List Str) : Prop := ∀ w ∈ ws, Pure1 w
theorem append_signs (x y : Str) : (x ++ y).cps.toList = x.cps.toList ++ y.cps.toList := by
  rw [Str.cps_append, Array.toList_append]
theorem scan_inv (l : List Nat) : ∀ st : KWd.St, Clean st.1 → (∀ c ∈ st.2.cps.toList, Unicode.isSpace c = false) → Clean (l.foldl KWd.step st).1 ∧ ∀ c ∈ (l.foldl KWd.step st).2.cps.toList, Unicode.isSpace c = false := by
  induction l with
  | nil => intro st h1 h2; exact ⟨h1, h2⟩
  | cons c l ih =>
    intro st h1 h2
    rw [List.foldl_cons]
    refine ih _ ?_ ?_
    · unfold KWd.step
      split
      · split
        · exact h1
        · rename_i h0
          intro w hw
          rcases List.mem_append.mp hw with hw | hw
          · exact h1 w hw
          · rw [List.mem_singleton.mp hw]
            exact ⟨by omega, h2⟩
      · exact h1
    · unfold KWd.step
      split
      · split
        · exact h2
        · intro c hc
          cases hc
      · rename_i hsp
        intro d hd
        have hd : d ∈ (st.2 ++ ⟨#[c]⟩ : Str).cps.toList := hd
        rw [append_signs] at hd
        rcases List.mem_append.mp hd with hd | hd
        · exact h2 d hd
        · rw [List.mem_singleton.mp hd]
          exact Bool.eq_false_iff.mpr hsp
theorem clean_words (x : Str) : Clean (Txt.words x) := by
  have h := scan_inv x.cps.toList ([], Str.empty) (fun w hw => by cases hw) (fun c hc => by cases hc)
  rw [KWd.words_of (x := x) (ws := (KWd.scan x).1) (r := (KWd.scan x).2) rfl]
  split
  · exact h.1
  · rename_i h0
    intro w hw
    rcases List.mem_append.mp hw with hw | hw
    · exact h.1 w hw
    · rw [List.mem_singleton.mp hw]
      exact ⟨by omega, h.2⟩
theorem Clean.take {ws : List Str} (h : Clean ws) (k : Nat) : Clean (ws.take k) := fun w hw => h w (List.mem_of_mem_take hw)
theorem Clean.drop {ws : List Str} (h : Clean ws) (k : Nat) : Clean (ws.drop k) := fun w hw => h w (List.mem_of_mem_drop hw)
theorem Clean.dropB {ws : List Str} (h : Clean ws) : Clean (dropB ws) := by
  unfold Mine.dropB; split
  · exact h.drop 1
  · exact h
theorem Clean.cutI {ws : List Str} (h : Clean ws) : Clean (cutI ws) := by
  unfold Mine.cutI; split
  · exact h.take _
  · exact h
theorem join_eq (x : Str) (ws : List Str) : Txt.join x ws = Str.join x ws := StrLaws.glued_eq_join x ws
theorem join_cons2 (x a b : Str) (r : List Str) : Txt.join x (a :: b :: r) = a ++ x ++ Txt.join x (b :: r) := by
  rw [join_eq, join_eq]; rfl
theorem join_one (x a : Str) : Txt.join x [a] = a := by rw [join_eq]; rfl
/-! the pieces of a text without the glue's sign are the text's own -/
theorem cat_uniq {c : Nat} : ∀ {a a' u u' : List Nat}, c ∉ a → c ∉ a' → a ++ c :: u = a' ++ c :: u' → a = a' ∧ u = u'
  | [], [], _, _, _, _, h => ⟨rfl, by simpa using h⟩
  | [], d :: _, _, _, _, h2, h => by
    rw [List.nil_append, List.cons_append] at h
    exact absurd (List.mem_cons.mpr (.inl (List.cons.inj h).1)) h2
  | d :: _, [], _, _, h1, _, h => by
    rw [List.nil_append, List.cons_append] at h
    exact absurd (List.mem_cons.mpr (.inl (List.cons.inj h).1.symm)) h1
  | d :: a, d' :: a', _, _, h1, h2, h => by
    rw [List.cons_append, List.cons_append] at h
    have q := List.cons.inj h
    have r := cat_uniq (a := a) (a' := a') (fun k => h1 (.tail _ k)) (fun k => h2 (.tail _ k)) q.2
    exact ⟨by rw [q.1, r.1], r.2⟩
theorem sp_mk : Str.ofString " " = ⟨#[32]⟩ := by decide
theorem signs_inj {x y : Str} (h : x.cps.toList = y.cps.toList) : x = y := by
  cases x; cases y; congr 1; exact Array.toList_inj.mp h
theorem join_uniq : ∀ {ws vs : List Str}, (∀ w ∈ ws, (32 : Nat) ∉ w.cps.toList) → (∀ w ∈ vs, (32 : Nat) ∉ w.cps.toList) → ws ≠ [] → vs ≠ [] → Txt.join (Str.ofString " ") ws = Txt.join (Str.ofString " ") vs → ws = vs
  | [], _, _, _, h, _, _ => absurd rfl h
  | _ :: _, [], _, _, _, h, _ => absurd rfl h
  | [a], [b], _, _, _, _, h => by rw [join_one, join_one] at h; rw [h]
  | [a], b :: b2 :: s, h1, _, _, _, h => by
    rw [join_one, join_cons2] at h
    refine absurd ?_ (h1 a (.head _))
    rw [h, append_signs, append_signs, sp_mk]
    simp
  | a :: a2 :: r, [b], _, h2, _, _, h => by
    rw [join_one, join_cons2] at h
    refine absurd ?_ (h2 b (.head _))
    rw [← h, append_signs, append_signs, sp_mk]
    simp
  | a :: a2 :: r, b :: b2 :: s, h1, h2, _, _, h => by
    rw [join_cons2, join_cons2] at h
    have e : (a ++ Str.ofString " " ++ Txt.join (Str.ofString " ") (a2 :: r)).cps.toList = (b ++ Str.ofString " " ++ Txt.join (Str.ofString " ") (b2 :: s)).cps.toList := by rw [h]
    rw [append_signs, append_signs, append_signs, append_signs, sp_mk, List.append_assoc, List.append_assoc] at e
    have q := cat_uniq (h1 a (.head _)) (h2 b (.head _)) e
    rw [signs_inj q.1, join_uniq (ws := a2 :: r) (vs := b2 :: s) (fun w hw => h1 w (.tail _ hw)) (fun w hw => h2 w (.tail _ hw)) (by simp) (by simp) (signs_inj q.2)]
theorem Clean.no32 {ws : List Str} (h : Clean ws) : ∀ w ∈ ws, (32 : Nat) ∉ w.cps.toList := fun w hw hm => by
  have := (h w hw).2 32 hm
  revert this
  decide
theorem split_join {ws : List Str} (h : Clean ws) (hne : ws ≠ []) : Txt.split (Txt.join (Str.ofString " ") ws) (Str.ofString " ") = ws := by
  refine join_uniq ?_ h.no32 ?_ hne ?_
  · rw [sp_mk]; exact StrLaws.split_free _ 32
  · intro h0
    have := PyProof.Rows.split_pos (Txt.join (Str.ofString " ") ws) (Str.ofString " ")
    rw [h0] at this
    exact absurd this (by decide)
  · rw [join_eq, StrLaws.join_split]
/-! its words are the words -/
theorem scan_word {w : Str} (h : ∀ c ∈ w.cps.toList, Unicode.isSpace c = false) (st : KWd.St) : w.cps.toList.foldl KWd.step st = (st.1, st.2 ++ w) := by
  have key : ∀ (l : List Nat) (st : KWd.St), (∀ c ∈ l, Unicode.isSpace c = false) → l.foldl KWd.step st = (st.1, st.2 ++ ⟨l.toArray⟩) := by
    intro l
    induction l with
    | nil => intro st _; exact Prod.ext rfl (signs_inj (by rw [append_signs]; simp))
    | cons c l ih =>
      intro st hl
      rw [List.foldl_cons, ih _ (fun d hd => hl d (.tail _ hd))]
      unfold KWd.step
      rw [if_neg (by rw [hl c (.head _)]; exact Bool.false_ne_true)]
      refine Prod.ext rfl (signs_inj ?_)
      rw [append_signs, append_signs, append_signs]
      simp
  have := key w.cps.toList st h
  rw [this]
theorem scan_join : ∀ (ws : List Str) (a : Str) (st : List Str), Clean (a :: ws) → KWd.fin ((Txt.join (Str.ofString " ") (a :: ws)).cps.toList.foldl KWd.step (st, Str.empty)) = st ++ a :: ws
  | [], a, st, h => by
    rw [join_one, scan_word (h a (.head _)).2]
    unfold KWd.fin
    have e : Str.empty ++ a = a := signs_inj (by rw [append_signs]; rfl)
    have := (h a (.head _)).1
    rw [e, if_neg (by show ¬ a.length = 0; omega)]
  | b :: r, a, st, h => by
    rw [join_cons2, append_signs, append_signs, List.foldl_append, List.foldl_append, scan_word (h a (.head _)).2, sp_mk]
    have e : Str.empty ++ a = a := signs_inj (by rw [append_signs]; rfl)
    rw [e]
    show KWd.fin (List.foldl KWd.step (KWd.step (st, a) 32) _) = _
    have := (h a (.head _)).1
    have e2 : KWd.step (st, a) 32 = (st ++ [a], Str.empty) := by
      unfold KWd.step
      rw [if_pos (by decide), if_neg (by show ¬ a.length = 0; omega)]
    rw [e2, ← sp_mk, scan_join r b (st ++ [a]) (fun w hw => h w (.tail _ hw))]
    simp
theorem words_join {ws : List Str} (h : Clean ws) : Txt.words (Txt.join (Str.ofString " ") ws) = ws := by
  rw [KWd.words_scan]
  cases ws with
  | nil => rfl
  | cons a r => exact scan_join r a [] h
/-! part P3 -/
def dots : Str := Str.ofString "..."
def fitsOf (ws : List Str) (most : Int) (n : Nat) : List Int := (rangeKs 1 n).filter (pFits ws most)
theorem rangeKs_snoc (a : Int) (n : Nat) : rangeKs a (n + 1) = rangeKs a n ++ [a + (n : Int)] := by
  unfold rangeKs
  rw [List.range_succ, List.map_append]
  rfl
theorem fits_short (ws : List Str) (most : Int) : ∀ n : Nat, (fitsOf ws most n = [] → shortenS ws most n = dots) ∧ (fitsOf ws most n ≠ [] → shortenS ws most n = Txt.join (Str.ofString " ") (ws.take ((fitsOf ws most n).getLastD 0).toNat) ++ dots)
  | 0 => ⟨fun _ => rfl, fun h => absurd rfl h⟩
  | n + 1 => by
    have ih := fits_short ws most n
    have e : fitsOf ws most (n + 1) = fitsOf ws most n ++ (if pFits ws most (1 + (n : Int)) = true then [1 + (n : Int)] else []) := by
      unfold fitsOf
      rw [rangeKs_snoc, List.filter_append]
      cases hp : pFits ws most (1 + (n : Int)) <;> simp [List.filter, hp]
    have en : (1 + (n : Int)).toNat = n + 1 := by omega
    by_cases hp : pFits ws most (1 + (n : Int)) = true
    · rw [if_pos hp] at e
      have hq := hp
      unfold pFits at hq
      rw [en, decide_eq_true_eq] at hq
      refine ⟨fun h0 => ?_, fun _ => ?_⟩
      · rw [e] at h0
        simp at h0
      · rw [e]
        unfold shortenS
        rw [if_pos hq]
        simp only [List.getLastD_eq_getLast?, List.getLast?_append, List.getLast?_singleton, Option.some_or, Option.getD_some]
        rw [en]
        rfl
    · rw [if_neg hp, List.append_nil] at e
      have hq := hp
      unfold pFits at hq
      rw [en, decide_eq_true_eq] at hq
      rw [e]
      have es : shortenS ws most (n + 1) = shortenS ws most n := by
        conv => lhs; unfold shortenS
        rw [if_neg hq]
      rw [es]
      exact ih
theorem shorten_whole {ws : List Str} {most : Int} (hne : ws ≠ []) (h : ¬ ((Txt.join (Str.ofString " ") ws).length : Int) ≤ most) : shortenS ws most (ws.length - 1) = shortenS ws most ws.length := by
  have h0 : 0 < ws.length := List.length_pos_iff.mpr hne
  have e : ws.length = (ws.length - 1) + 1 := by omega
  conv => rhs; rw [e]; unfold shortenS
  rw [← e, List.take_length, if_neg (by omega)]
theorem shortenT_join {ws : List Str} {most : Int} (hc : Clean ws) (hne : ws ≠ []) (h : ¬ ((Txt.join (Str.ofString " ") ws).length : Int) ≤ most) : shortenT (Txt.join (Str.ofString " ") ws) most = shortenS ws most ws.length := by
  unfold shortenT
  rw [split_join hc hne, shorten_whole hne h]
/-! the words that are asked -/
def wordsOf (text : Str) : List Str := dropB (Txt.words ((Txt.split text (Str.ofString "\n\n")).getD 0 Str.empty))
theorem wordsOf_eq (text : Str) : dropB (Txt.words (Txt.partition text (Str.ofString "\n\n")).1) = wordsOf text := by
  unfold wordsOf; rw [split_zero]
theorem wordsOf_clean (text : Str) : Clean (wordsOf text) := (clean_words _).dropB
theorem cutI_ne {ws : List Str} (h : ws ≠ []) : cutI ws ≠ [] := by
  have h0 : 0 < ws.length := List.length_pos_iff.mpr h
  unfold cutI
  split
  · intro e
    rcases List.take_eq_nil_iff.mp e with h1 | h1
    · omega
    · exact h h1
  · exact h
theorem cutI_nil : cutI [] = [] := rfl
theorem spec_eq (text : Str) (most : Int) : shortSpec text most = if wordsOf text = [] then Str.ofString "" else if ((Txt.join (Str.ofString " ") (cutI (wordsOf text))).length : Int) ≤ most then Txt.join (Str.ofString " ") (cutI (wordsOf text)) else shortenS (cutI (wordsOf text)) most (cutI (wordsOf text)).length := by
  unfold shortSpec
  rw [wordsOf_eq]
  split
  · rfl
  · rename_i h
    split
    · rfl
    · rename_i h2
      exact shortenT_join (wordsOf_clean text).cutI (cutI_ne h) h2
/-! the four ways in which the law's own function ends -/
theorem own_nil {text : Str} {most : Int} (h : cutI (wordsOf text) = []) : Txt.join (Str.ofString " ") (cutI (wordsOf text)) = shortSpec text most := by
  rw [spec_eq]
  by_cases h0 : wordsOf text = []
  · rw [if_pos h0, h]; rfl
  · exact absurd h (cutI_ne h0)
theorem own_fits {text : Str} {most : Int} (h : ¬ cutI (wordsOf text) = []) (h2 : ((Txt.join (Str.ofString " ") (cutI (wordsOf text))).length : Int) ≤ most) : Txt.join (Str.ofString " ") (cutI (wordsOf text)) = shortSpec text most := by
  rw [spec_eq, if_neg (fun h0 => h (by rw [h0]; rfl)), if_pos h2]
theorem own_dots {text : Str} {most : Int} (h : ¬ cutI (wordsOf text) = []) (h2 : ¬ ((Txt.join (Str.ofString " ") (cutI (wordsOf text))).length : Int) ≤ most) (h3 : fitsOf (cutI (wordsOf text)) most (cutI (wordsOf text)).length = []) : Str.ofString "..." = shortSpec text most := by
  rw [spec_eq, if_neg (fun h0 => h (by rw [h0]; rfl)), if_neg h2]
  exact ((fits_short _ _ _).1 h3).symm
theorem own_cut {text : Str} {most : Int} (h : ¬ cutI (wordsOf text) = []) (h2 : ¬ ((Txt.join (Str.ofString " ") (cutI (wordsOf text))).length : Int) ≤ most) (h3 : ¬ fitsOf (cutI (wordsOf text)) most (cutI (wordsOf text)).length = []) :
    Txt.join (Str.ofString " ") ((cutI (wordsOf text)).take ((fitsOf (cutI (wordsOf text)) most (cutI (wordsOf text)).length).getLastD 0).toNat) ++ Str.ofString "..." = shortSpec text most := by
  rw [spec_eq, if_neg (fun h0 => h (by rw [h0]; rfl)), if_neg h2]
  exact ((fits_short _ _ _).2 h3).symm
/-! its cut -/
theorem ends_list (ws : List Str) : (rangeKs 0 ws.length).filter (pEnds ws) = ((List.range ws.length).filter (hit ws)).map fun (i : Nat) => (0 : Int) + (i : Int) := by
  unfold rangeKs
  rw [List.filter_map]
  congr 1
  apply List.filter_congr
  intro i _
  unfold pEnds
  show hit ws ((0 : Int) + (i : Int)).toNat = hit ws i
  congr 1
  omega
theorem cut_some {ws : List Str} (h : ¬ (rangeKs 0 ws.length).filter (pEnds ws) = []) : ws.take ((((rangeKs 0 ws.length).filter (pEnds ws)).headD 0) + 1).toNat = cutI ws := by
  rw [ends_list] at h ⊢
  unfold cutI
  rw [← List.head?_filter]
  cases hf : (List.range ws.length).filter (hit ws) with
  | nil => rw [hf] at h; exact absurd rfl h
  | cons i r =>
    show ws.take (((0 : Int) + (i : Int)) + 1).toNat = ws.take (i + 1)
    congr 1
    omega
theorem cut_nothing {ws : List Str} (h : (rangeKs 0 ws.length).filter (pEnds ws) = []) : ws = cutI ws := by
  rw [ends_list, List.map_eq_nil_iff] at h
  unfold cutI
  rw [← List.head?_filter, h]
  rfl
/-! part P4 -/
def SignW (ws : List Str) : Prop := ∀ w ∈ ws, ∀ c ∈ w.cps.toList, signT c = true
theorem scan_signs (l : List Nat) (hl : ∀ c ∈ l, signT c = true) : ∀ st : KWd.St, SignW st.1 → (∀ c ∈ st.2.cps.toList, signT c = true) → SignW (l.foldl KWd.step st).1 ∧ ∀ c ∈ (l.foldl KWd.step st).2.cps.toList, signT c = true := by
  induction l with
  | nil => intro st h1 h2; exact ⟨h1, h2⟩
  | cons c l ih =>
    intro st h1 h2
    rw [List.foldl_cons]
    refine ih (fun d hd => hl d (.tail _ hd)) _ ?_ ?_
    · unfold KWd.step
      split
      · split
        · exact h1
        · intro w hw
          rcases List.mem_append.mp hw with hw | hw
          · exact h1 w hw
          · rw [List.mem_singleton.mp hw]
            exact h2
      · exact h1
    · unfold KWd.step
      split
      · split
        · exact h2
        · intro c hc
          cases hc
      · intro d hd
        have hd : d ∈ (st.2 ++ ⟨#[c]⟩ : Str).cps.toList := hd
        rw [append_signs] at hd
        rcases List.mem_append.mp hd with hd | hd
        · exact h2 d hd
        · rw [List.mem_singleton.mp hd]
          exact hl c (.head _)
theorem signs_words {x : Str} (hx : ∀ c ∈ x.cps.toList, signT c = true) : SignW (Txt.words x) := by
  have h := scan_signs x.cps.toList hx ([], Str.empty) (fun w hw => by cases hw) (fun c hc => by cases hc)
  rw [KWd.words_of (x := x) (ws := (KWd.scan x).1) (r := (KWd.scan x).2) rfl]
  split
  · exact h.1
  · intro w hw
    rcases List.mem_append.mp hw with hw | hw
    · exact h.1 w hw
    · rw [List.mem_singleton.mp hw]
      exact h.2
theorem SignW.dropB {ws : List Str} (h : SignW ws) : SignW (dropB ws) := by
  unfold Mine.dropB; split
  · exact fun w hw => h w (List.mem_of_mem_drop hw)
  · exact h
theorem getD_mem {ws : List Str} {j : Nat} (h : j < ws.length) : ws.getD j Str.empty ∈ ws := by
  have e : ws.getD j Str.empty = ws[j] := by simp [List.getD, h]
  rw [e]; exact List.getElem_mem h
section
variable {ws : List Str} {k : Int}
theorem hit_item (hp : PosW ws) (h0 : 0 ≤ k) (h1 : k < (ws.length : Int)) {b : Bool} (h : (Txt.item (ws.getD k.toNat Str.empty) (-1) == Str.ofString ".") = b) : Txt.endswith (ws.getD k.toNat Str.empty) (Str.ofString ".") = b := by
  rw [← item_last (hp _ (by omega))]; exact h
theorem hitA (hp : PosW ws) (h0 : 0 ≤ k) (h1 : k < (ws.length : Int)) (h : (Txt.item (ws.getD k.toNat Str.empty) (-1) == Str.ofString ".") = false) : pEnds ws k = false := by
  unfold pEnds hit; rw [hit_item hp h0 h1 h]; rfl
theorem hitB (hp : PosW ws) (h0 : 0 ≤ k) (h1 : k < (ws.length : Int)) (h : (Txt.item (ws.getD k.toNat Str.empty) (-1) == Str.ofString ".") = true) (e : k + 1 = (ws.length : Int)) : pEnds ws k = true := by
  unfold pEnds hit; rw [hit_item hp h0 h1 h, decide_eq_true (by omega)]; rfl
theorem hit_sign (hs : SignW ws) (hp : PosW ws) (h0 : 0 ≤ k) (h1 : k < (ws.length : Int)) (h : (Txt.item (ws.getD k.toNat Str.empty) (-1) == Str.ofString ".") = true) (e : k + 1 ≠ (ws.length : Int)) :
    ∃ c, Txt.item (ws.getD (k + 1).toNat Str.empty) 0 = ⟨#[c]⟩ ∧ pEnds ws k = !decide (97 ≤ c ∧ c ≤ 122) := by
  have hl : (k + 1).toNat < ws.length := by omega
  obtain ⟨c, hc, hi⟩ := item_first (hp _ hl)
  refine ⟨c, hi, ?_⟩
  have hsg := hs _ (getD_mem hl) c hc
  have hlt : c < 128 := by
    have hq := hsg
    unfold signT signB signW at hq
    simp only [Bool.or_eq_true, Bool.and_eq_true, decide_eq_true_eq, beq_iff_eq] at hq
    omega
  have hlow := sign_low c hlt hsg
  unfold pEnds hit
  have e1 : k.toNat + 1 = (k + 1).toNat := by omega
  rw [hit_item hp h0 h1 h, decide_eq_false (by omega : ¬ k.toNat + 1 = ws.length), e1, hi, islower_one, hlow]
  rfl
theorem lt_one {c d : Nat} : ([c] < [d]) ↔ c < d := by
  simp [List.cons_lt_cons_iff]
theorem hitC (hs : SignW ws) (hp : PosW ws) (h0 : 0 ≤ k) (h1 : k < (ws.length : Int)) (h : (Txt.item (ws.getD k.toNat Str.empty) (-1) == Str.ofString ".") = true) (e : k + 1 ≠ (ws.length : Int))
    (hc : (Txt.item (ws.getD (k + 1).toNat Str.empty) 0).cps.toList < (Str.ofString "a").cps.toList) : pEnds ws k = true := by
  obtain ⟨c, hi, hq⟩ := hit_sign hs hp h0 h1 h e
  rw [hi] at hc
  have : c < 97 := lt_one.mp hc
  rw [hq, decide_eq_false (by omega)]; rfl
theorem hitD (hs : SignW ws) (hp : PosW ws) (h0 : 0 ≤ k) (h1 : k < (ws.length : Int)) (h : (Txt.item (ws.getD k.toNat Str.empty) (-1) == Str.ofString ".") = true) (e : k + 1 ≠ (ws.length : Int))
    (hc : (Str.ofString "z").cps.toList < (Txt.item (ws.getD (k + 1).toNat Str.empty) 0).cps.toList) : pEnds ws k = true := by
  obtain ⟨c, hi, hq⟩ := hit_sign hs hp h0 h1 h e
  rw [hi] at hc
  have : 122 < c := lt_one.mp hc
  rw [hq, decide_eq_false (by omega)]; rfl
theorem hitE (hs : SignW ws) (hp : PosW ws) (h0 : 0 ≤ k) (h1 : k < (ws.length : Int)) (h : (Txt.item (ws.getD k.toNat Str.empty) (-1) == Str.ofString ".") = true) (e : k + 1 ≠ (ws.length : Int))
    (ha : ¬ (Txt.item (ws.getD (k + 1).toNat Str.empty) 0).cps.toList < (Str.ofString "a").cps.toList)
    (hz : ¬ (Str.ofString "z").cps.toList < (Txt.item (ws.getD (k + 1).toNat Str.empty) 0).cps.toList) : pEnds ws k = false := by
  obtain ⟨c, hi, hq⟩ := hit_sign hs hp h0 h1 h e
  rw [hi] at ha hz
  have h1 : ¬ c < 97 := fun q => ha (lt_one.mpr q)
  have h2 : ¬ 122 < c := fun q => hz (lt_one.mpr q)
  rw [hq, decide_eq_true (by omega)]; rfl
end
theorem ne_of_bneT {x y : Str} (h : (x != y) = true) : ¬ x = y := bne_iff_ne.mp h
theorem eq_of_bneF {x y : Str} (h : (x != y) = false) : x = y := by simpa using h
theorem fitsT {ws : List Str} {most k : Int} (h : ((Txt.join (Str.ofString " ") (ws.take k.toNat)).length : Int) + 3 ≤ most) : pFits ws most k = true := decide_eq_true h
theorem fitsF {ws : List Str} {most k : Int} (h : ¬ ((Txt.join (Str.ofString " ") (ws.take k.toNat)).length : Int) + 3 ≤ most) : pFits ws most k = false := decide_eq_false h
/-! part P5 -/
theorem dots_len : dots.length = 3 := by decide
theorem shortenS_len (ws : List Str) (most : Int) : ∀ n : Nat, ((shortenS ws most n).length : Int) ≤ max most 3
  | 0 => by
    show (dots.length : Int) ≤ _
    rw [dots_len]; omega
  | n + 1 => by
    unfold shortenS
    split
    · rename_i h
      rw [Str.length_append]
      have := dots_len
      unfold dots at this
      omega
    · exact shortenS_len ws most n
theorem spec_len (text : Str) (most : Int) : ((shortSpec text most).length : Int) ≤ max most 3 := by
  rw [spec_eq]
  split
  · show ((0 : Nat) : Int) ≤ _; omega
  · split
    · omega
    · exact shortenS_len _ _ _
theorem shortenS_dots (ws : List Str) (most : Int) : ∀ n : Nat, ∃ y, shortenS ws most n = y ++ dots
  | 0 => ⟨Str.empty, signs_inj (by rw [append_signs]; rfl)⟩
  | n + 1 => by
    unfold shortenS
    split
    · exact ⟨_, rfl⟩
    · exact shortenS_dots ws most n
theorem slice_dots (y : Str) : Txt.slice (y ++ dots) (some (-3)) none = dots := by
  have hl : (y ++ dots).length = y.length + 3 := by rw [Str.length_append, dots_len]
  rw [slice_from_neg (by decide), slice_from_eq (b := ((y ++ dots).length : Int)) (by omega) (by omega) rfl]
  have e : (max 0 (((y ++ dots).length : Int) + -3)).toNat = y.length := by omega
  have e2 : (((y ++ dots).length : Int) - max 0 (((y ++ dots).length : Int) + -3)).toNat = 3 := by omega
  rw [e, e2, append_signs]
  have hy : y.cps.toList.length = y.length := Array.length_toList
  rw [← hy, List.drop_left]
  rfl
/-! the marks -/
def marks (ws : List Str) : Nat := (ws.map fun w => w.cps.toList.count 8).sum
theorem marks_append (a b : List Str) : marks (a ++ b) = marks a + marks b := by
  unfold marks; rw [List.map_append, List.sum_append]
theorem scan_marks (l : List Nat) : ∀ st : KWd.St, marks (l.foldl KWd.step st).1 + (l.foldl KWd.step st).2.cps.toList.count 8 ≤ marks st.1 + st.2.cps.toList.count 8 + l.count 8 := by
  induction l with
  | nil => intro st; exact Nat.le_refl _
  | cons c l ih =>
    intro st
    rw [List.foldl_cons]
    refine Nat.le_trans (ih _) ?_
    have hc : l.count 8 ≤ (c :: l).count 8 := List.count_le_count_cons
    unfold KWd.step
    split
    · split
      · omega
      · have e1 : (Str.empty.cps.toList).count 8 = 0 := rfl
        have e2 : marks [st.2] = st.2.cps.toList.count 8 := by simp [marks]
        show marks (st.1 ++ [st.2]) + (Str.empty.cps.toList).count 8 + _ ≤ _
        rw [marks_append, e1, e2]
        omega
    · show marks st.1 + ((st.2 ++ ⟨#[c]⟩ : Str).cps.toList).count 8 + _ ≤ _
      rw [append_signs, List.count_append]
      have e : List.count 8 (c :: l) = List.count 8 [c] + List.count 8 l := by
        rw [← List.count_append]; rfl
      rw [e]
      show marks st.1 + (_ + List.count 8 [c]) + _ ≤ _
      omega
theorem marks_words (x : Str) : marks (Txt.words x) ≤ x.cps.toList.count 8 := by
  have h := scan_marks x.cps.toList ([], Str.empty)
  have h : marks (KWd.scan x).1 + (KWd.scan x).2.cps.toList.count 8 ≤ 0 + 0 + x.cps.toList.count 8 := h
  rw [KWd.words_of (x := x) (ws := (KWd.scan x).1) (r := (KWd.scan x).2) rfl]
  split
  · omega
  · rw [marks_append]
    have e2 : marks [(KWd.scan x).2] = (KWd.scan x).2.cps.toList.count 8 := by simp [marks]
    rw [e2]
    omega
theorem part_marks (text : Str) : (Txt.partition text (Str.ofString "\n\n")).1.cps.toList.count 8 ≤ text.cps.toList.count 8 := by
  have e := StrLaws.partition_sum text (Str.ofString "\n\n")
  have : text.cps.toList = (Txt.partition text (Str.ofString "\n\n")).1.cps.toList ++ (Txt.partition text (Str.ofString "\n\n")).2.1.cps.toList ++ (Txt.partition text (Str.ofString "\n\n")).2.2.cps.toList := by
    rw [← append_signs, ← append_signs, e]
  rw [this, List.count_append, List.count_append]
  omega
theorem head_mark {text : Str} (h : text.cps.toList.count 8 ≤ 1) : ¬ (wordsOf text ≠ [] ∧ (wordsOf text).getD 0 Str.empty = Str.ofString "\u0008") := by
  rintro ⟨h1, h2⟩
  have hm : marks (Txt.words (Txt.partition text (Str.ofString "\n\n")).1) ≤ 1 := Nat.le_trans (marks_words _) (Nat.le_trans (part_marks text) h)
  rw [← wordsOf_eq] at h1 h2
  revert h1 h2
  unfold dropB
  split
  · rename_i hb
    intro h1 h2
    cases hw : Txt.words (Txt.partition text (Str.ofString "\n\n")).1 with
    | nil => rw [hw] at hb; exact hb.1 rfl
    | cons a r =>
      rw [hw] at hb h1 h2 hm
      cases r with
      | nil => exact h1 rfl
      | cons b r =>
        have ha : a = Str.ofString "\u0008" := hb.2
        have hb2 : b = Str.ofString "\u0008" := h2
        subst ha hb2
        unfold marks at hm
        simp only [List.map_cons, List.sum_cons] at hm
        have : (Str.ofString "\u0008").cps.toList.count 8 = 1 := by decide
        omega
  · rename_i hb
    intro h1 h2
    exact hb ⟨h1, h2⟩
theorem cutI_head (ws : List Str) : (cutI ws).getD 0 Str.empty = ws.getD 0 Str.empty := by
  unfold cutI
  split
  · cases ws with
    | nil => rfl
    | cons a r => rfl
  · rfl
theorem cutI_again (ws : List Str) : cutI (cutI ws) = cutI ws := by
  cases hf : (List.range ws.length).find? (hit ws) with
  | none =>
    have e : cutI ws = ws := by unfold cutI; rw [hf]
    rw [e, e]
  | some i =>
    rw [List.find?_range_eq_some] at hf
    obtain ⟨h1, h2, h3⟩ := hf
    have hi : i < ws.length := List.mem_range.mp h2
    have e : cutI ws = ws.take (i + 1) := cutI_at hi h1 (fun j hj => by have := h3 j hj; simpa using this)
    rw [e]
    have hl : (ws.take (i + 1)).length = i + 1 := by rw [List.length_take]; omega
    have hg : ∀ j, j ≤ i → (ws.take (i + 1)).getD j Str.empty = ws.getD j Str.empty := by
      intro j hj
      simp [List.getD, List.getElem?_take, (by omega : j < i + 1)]
    have := cutI_at (ws := ws.take (i + 1)) (i := i) (by omega) (by
      unfold hit at h1 ⊢
      rw [hg i (Nat.le_refl i), hl, decide_eq_true rfl]
      rw [Bool.and_eq_true] at h1
      rw [h1.1]; rfl) (fun j hj => by
      have h4 : hit ws j = false := by have := h3 j hj; simpa using this
      unfold hit at h4 ⊢
      rw [hg j (by omega), hg (j + 1) (by omega), hl, decide_eq_false (by omega : ¬ j + 1 = i + 1)]
      rw [decide_eq_false (by omega : ¬ j + 1 = ws.length)] at h4
      exact h4)
    rw [this, List.take_take]
    simp
theorem join_sign : ∀ (ws : List Str) (c : Nat), c ∈ (Txt.join (Str.ofString " ") ws).cps.toList → c = 32 ∨ ∃ w ∈ ws, c ∈ w.cps.toList
  | [], c, h => by cases h
  | [a], c, h => by rw [join_one] at h; exact .inr ⟨a, .head _, h⟩
  | a :: b :: r, c, h => by
    rw [join_cons2, append_signs, append_signs, sp_mk] at h
    rcases List.mem_append.mp h with h | h
    · rcases List.mem_append.mp h with h | h
      · exact .inr ⟨a, .head _, h⟩
      · exact .inl (List.mem_singleton.mp h)
    · rcases join_sign (b :: r) c h with h | ⟨w, hw, hc⟩
      · exact .inl h
      · exact .inr ⟨w, .tail _ hw, hc⟩
theorem part_none {x : Str} (h : (10 : Nat) ∉ x.cps.toList) : (Txt.partition x (Str.ofString "\n\n")).1 = x := by
  rcases partition_head x (Str.ofString "\n\n") with ⟨h1, _⟩ | ⟨i, _, h2, _⟩
  · exact h1
  · exfalso
    obtain ⟨ha, hb⟩ := h2
    unfold Builtin.Str.subAt at hb
    have hb := eq_of_beq hb
    have e : (Str.ofString "\n\n").cps = #[10, 10] := by decide
    rw [e] at hb
    apply h
    have hm : (10 : Nat) ∈ (x.cps.extract i (i + (Str.ofString "\n\n").length)).toList := by rw [hb]; simp
    rw [Array.toList_extract] at hm
    exact List.mem_of_mem_drop (List.mem_of_mem_take hm)
theorem clean_join_words {ws : List Str} (hc : Clean ws) (hm : ¬ (ws ≠ [] ∧ ws.getD 0 Str.empty = Str.ofString "\u0008")) : wordsOf (Txt.join (Str.ofString " ") ws) = ws := by
  rw [← wordsOf_eq, part_none, words_join hc]
  · unfold dropB; rw [if_neg hm]
  · intro h
    rcases join_sign ws 10 h with h | ⟨w, hw, h⟩
    · exact absurd h (by decide)
    · have := (hc w hw).2 10 h
      revert this
      decide
theorem spec_empty (most : Int) : shortSpec (Str.ofString "") most = Str.ofString "" := by
  rw [spec_eq, if_pos (by decide +kernel)]
theorem spec_mark (most : Int) : shortSpec (Str.ofString "\u0008") most = Str.ofString "" := by
  rw [spec_eq, if_pos (by decide +kernel)]
theorem spec_again {text : Str} {most : Int} (hT : text.cps.toList.count 8 ≤ 1) (h1 : ((shortSpec text most).length : Int) ≤ most) (h2 : ¬ Txt.slice (shortSpec text most) (some (-3)) none = Str.ofString "...") :
    shortSpec (shortSpec text most) most = shortSpec text most := by
  by_cases h0 : wordsOf text = []
  · have e : shortSpec text most = Str.ofString "" := by rw [spec_eq, if_pos h0]
    rw [e, spec_empty]
  · by_cases h3 : ((Txt.join (Str.ofString " ") (cutI (wordsOf text))).length : Int) ≤ most
    · have e : shortSpec text most = Txt.join (Str.ofString " ") (cutI (wordsOf text)) := by rw [spec_eq, if_neg h0, if_pos h3]
      rw [e]
      have hw : wordsOf (Txt.join (Str.ofString " ") (cutI (wordsOf text))) = cutI (wordsOf text) := by
        refine clean_join_words (wordsOf_clean text).cutI ?_
        rintro ⟨_, q⟩
        rw [cutI_head] at q
        exact head_mark hT ⟨h0, q⟩
      rw [spec_eq, hw, if_neg (cutI_ne h0), cutI_again, if_pos h3]
    · exfalso
      apply h2
      have e : shortSpec text most = shortenS (cutI (wordsOf text)) most (cutI (wordsOf text)).length := by rw [spec_eq, if_neg h0, if_neg h3]
      obtain ⟨y, hy⟩ := shortenS_dots (cutI (wordsOf text)) most (cutI (wordsOf text)).length
      rw [e, hy]
      exact slice_dots y
theorem spec_len400 {text : Str} {most : Int} (h : most ≤ 100) : (shortSpec text most).length ≤ 400 := by
  have := spec_len text most
  omega
/-! part T6 -/
theorem fill9 : (∀ P, hd.heap_39 P = hd.heap_39 P) ∧ PySem.Challenge.rw_ez0024_01 = PySem.Challenge.rw_ez0024_01 := by
  k_fill
  exact ⟨fun _ => rfl, rfl⟩
theorem ownOff_of_lt {news : List (Addr × Obj)} {L' : Addr} (h : ∀ p ∈ news, p.1 < L') : OwnOff news [L' + 1 + 1, L' + 1] := by
  intro p hp b hb
  have q : @LT.lt Nat _ p.1 L' := h p hp
  rcases List.mem_cons.mp hb with rfl | hb
  · exact Nat.ne_of_lt (Nat.lt_succ_of_lt (Nat.lt_succ_of_lt q))
  · rw [List.mem_singleton.mp hb]; exact Nat.ne_of_lt (Nat.lt_succ_of_lt q)
local macro_rules | `(tactic| walk_at "r_enterC") => `(tactic| (refine' code_defC ?k1 ?k2 ?k3 ?k4 ?k5 ?kA ?kF ?kK ?k6 ?k7 ?k8 ?k9 ?kB ?kD ?_ ?c2 ?c3 ?c4; (case kA => exact rfl); (case kF => exact rfl); (case kK => assumption); (case k1 => k_asm); (case k2 => k_asm); (case k3 => k_asm); (case k4 => k_asm); (case k5 => k_asm); (case k6 => k_is); (case k7 => k_is); (case k8 => ktr_room); (case k9 => first | exact BindsTo.of_eq rfl | exact binds_K (by k_in) rfl (by k_is) rfl rfl rfl); (case kB => exact rfl); (case kD => decide +kernel); (case c2 => exact rfl); (case c3 => exact rfl); (case c4 => exact rfl); k_whole; intro g' L' h' tk' cells' FG' F' N' Y' B' X' T' l1; (have hoffC := ownOff_of_lt l1); (try k_lt l1); k_cells Y'; (try simp only [List.cons_append, List.nil_append] at N'); (try dsimp only); (try k_lift B'); (try k_fold)))
local macro_rules | `(tactic| walk_at "subscriptTail Call Attribute cons nil Constant ref int") => `(tactic| (k_here; (with_reducible show wpAny _ _ (subscriptTail _ _ (Value.ref _) (Value.int 0 _)) _ _ _); k_dflt (refine' r_item 0 ?jN ?jm ?ji ?js rfl ?jj ?_ ?jhs; walk_at "r_item_rest"); intro _))
local macro_rules | `(tactic| walk_at "exec For") => `(tactic| (k_here; (with_reducible show wpAny _ _ (exec (Stmt.For (PySem.Expr.Name (Str.ofString "sign") _) _ _ [] _) _) _ _ _); (rename Fr _ _ _ _ => lF'); (with_unfolding_all refine' For_invVF lF' ?k1 ?k2 ?_; (case k1 => exact rfl); (case k2 => exact rfl); k_whole)))
local macro_rules | `(tactic| walk_at "r_and") => `(tactic| first | assumption | exact And.right (by with_reducible assumption) | exact And.right (And.right (by with_reducible assumption)) | exact And.right (And.right (And.right (by with_reducible assumption))) | exact And.right (And.right (And.right (And.right (by with_reducible assumption)))) | exact And.right (And.right (And.right (And.right (And.right (by with_reducible assumption))))))
local macro_rules | `(tactic| walk_at "pyIter str") => `(tactic| (k_here; (with_reducible show wpAny _ _ (pyIter (Value.str _ _)) (fun it s₂ => LoopAtV _ _ _ _ _ (Str.ofString "sign") _ _ _ it s₂) _ _); k_dflt (refine' r_chars ?jh ?jF ?jN ?jo ?jne ?joffl ?joff ?jw ?jx ?jch ?jturn ?jdone; (case jF => k_asm); (case jN => exact news_tail (news_tail (by k_asm))); (case jh => exact rfl); (case jo => assumption); (case jne => k_ne); (case joffl => exact ownOff_lt2 (by dsimp only; omega) (by walk_at "r_and")); (case joff => exact ownOff_one (ownOff_l (by assumption)) (by k_ne)); (case jw => exact rfl); (case jx => assumption); (case jch => assumption)); (case' jturn => intro c9 t9 h9 tk9 D9 o9 vs9 n9 ws9 r9 tr9 rest9 hc9 hwl9 hrl9 hi9 ho9 hne9 hoffD9 hoffc9 hsub9 F9 N9); (case' jdone => intro h9 tk9 u9 D9 vs9 n9 o9 hi9 hs9 ho9 hne9 hoffD9 F9 N9)))
local macro_rules | `(tactic| walk_at "compareOp In str str") => `(tactic| (k_here; (with_reducible refine r_in ?_)))
local macro_rules | `(tactic| walk_at "binaryOp Add ref ref") => `(tactic| (k_here; (with_reducible show wpAny _ _ (binaryOp _ (Value.ref _) (Value.ref _)) _ _ _); k_dflt (refine' r_cat ?F ?N ?a ?b ?i ?j ?hl ?_; (case F => k_asm); (case N => k_asm); (case a => k_mem); (case b => k_mem); (case i => assumption); (case j => first | exact .nil | exact .cons _ _ .nil); (case hl => ((try simp only [List.length_cons, List.length_nil]); omega))); intro D' zs' h' hi' F' N' l1; (try k_lt l1)))
local macro_rules | `(tactic| walk_at "ChPost") => `(tactic| (dsimp only [ChPost]))
local macro_rules | `(tactic| walk_at "execs cons") => `(tactic| (k_here; (with_reducible show wpAny _ _ (execs (Stmt.If (PySem.Expr.BoolOp PySem.BoolOp.And [PySem.Expr.Compare (PySem.Expr.Name _ _) _ _ _, _] _) [_] [] _ :: _) _) _ _ _); (refine r_cell_drop (by k_asm) (by k_asm) (by assumption) (by assumption) ?_ ?_); rotate_left; intro D' vs' n' o' h' tk' hi' hs' ho' hne' hoffD' F' N'; rotate_left))
local macro_rules | `(tactic| walk_at "execs cons") => `(tactic| (k_here; (with_reducible show wpAny _ _ (execs (Stmt.If (PySem.Expr.Compare (PySem.Expr.Name (Str.ofString "ends") _) _ _ _) [_] [] _ :: _) _) _ _ _); (refine r_cell_cut (by k_asm) (news_tail (by k_asm)) (by assumption) (by assumption) ?_ ?_); rotate_left; intro D' vs' n' o' h' tk' hi' hs' ho' hne' hoffD' F' N'; rotate_left))
theorem fits_n (n : Nat) : (((n : Int) + 1) - 1).toNat = n := by omega
def Halt (P : Prop) : Prop := P
theorem stop_here {P : Prop} (h : Halt P) : P := h
theorem unhalt {P : Prop} (h : P) : Halt P := h
theorem head_of {ys : List Value} {p : Int → Bool} {n : Nat} (_h : IntsAre ys ((rangeKs 0 n).filter p)) : 0 ≤ ((rangeKs 0 n).filter p).headD 0 := by
  cases hf : (rangeKs 0 n).filter p with
  | nil => exact Int.le_refl 0
  | cons k r =>
    have hm : k ∈ (rangeKs 0 n).filter p := by rw [hf]; exact List.mem_cons_self ..
    have := (List.mem_filter.mp hm).1
    unfold rangeKs at this
    obtain ⟨i, _, rfl⟩ := List.mem_map.mp this
    show (0 : Int) ≤ 0 + (i : Int)
    omega
theorem last_of {ys : List Value} {p : Int → Bool} {n : Nat} (_h : IntsAre ys ((rangeKs 1 n).filter p)) : 0 ≤ ((rangeKs 1 n).filter p).getLastD 0 := by
  rcases List.eq_nil_or_concat ((rangeKs 1 n).filter p) with hf | ⟨l, k, hf⟩
  · rw [hf]; exact Int.le_refl 0
  · have hm : k ∈ (rangeKs 1 n).filter p := by rw [hf]; simp
    have := (List.mem_filter.mp hm).1
    unfold rangeKs at this
    obtain ⟨i, _, rfl⟩ := List.mem_map.mp this
    rw [hf]
    simp [List.getLastD_eq_getLast?]
    omega
local macro_rules | `(tactic| walk_at "CompSrcT") => `(tactic| (k_here; (with_reducible show LCt.CompSrcT _ _ _ _ _ _ _ (Expr.BoolOp _ _ _) _ _ _ _ _ _ _); k_dflt (refine LCt.CompSrcT.range (by rfl) (by k_asm) (by k_asm) (by assumption) (small_one (by with_reducible omega) (by with_reducible omega) (by with_reducible omega) (by with_reducible omega)) (rangeSize_nat _ _) (by rw [sizeLine_eq]; with_reducible omega) ?_; intro g9; refine' r_ends ?ji ?jn ?jturn ?jfin; (case ji => assumption)); (case jn => first | omega | (k_dflt exact fits_n _)); (case' jturn => intro k9 t9 I9 oI9 C9 oC9 D9 m9 ys9 h9 tk9 E9 hlo9 hhi9 hC9 hx9 F9 N9 off9 ne9; (have off8 := off9); (try (simp only [LCg.Off3, and_true] at off9))); (case' jfin => intro ys9 hI9 hl9; (have hn9 := head_of hI9); (try dsimp only))))
local macro_rules | `(tactic| walk_at "CompSrcT") => `(tactic| (k_here; (with_reducible show LCt.CompSrcT _ _ _ _ _ _ _ (Expr.Compare _ _ _ _) _ _ _ _ _ _ _); k_dflt (refine stop_here ?_)))
local macro_rules | `(tactic| walk_at "subscriptTail") => `(tactic| (k_here; (with_reducible show wpAny _ _ (subscriptTail _ _ (Value.ref _) (Value.int _ _)) _ _ _); k_dflt (refine' r_itemI ?jN ?jm ?ji ?js ?j0 ?j1 ?_ ?jhs; (case jN => k_asm); (case jm => k_mem); (case ji => assumption); (case js => assumption); (case j0 => with_reducible omega); (case j1 => with_reducible omega); (case jhs => with_unfolding_all rfl)); intro _))
local macro_rules | `(tactic| walk_at "subscriptTail Name UnaryOp ref int") => `(tactic| (k_here; (with_reducible show wpAny _ _ (subscriptTail _ _ (Value.ref _) (Value.int _ _)) _ _ _); k_dflt (refine' r_last ?jN ?jm ?ji ?jne ?jl ?_ ?jhs; (case jN => k_asm); (case jm => k_mem); (case ji => assumption); (case jne => assumption); (case jl => (have q9 := IntsAre.length (by assumption)); with_reducible omega); (case jhs => with_unfolding_all rfl)); intro _))
local macro_rules | `(tactic| walk_at "subscriptTail Name Constant ref int") => `(tactic| (k_here; (with_reducible show wpAny _ _ (subscriptTail _ _ (Value.ref _) (Value.int 0 _)) _ _ _); k_dflt (refine' r_first ?jN ?jm ?ji ?jne ?_ ?jhs; (case jN => k_asm); (case jm => k_mem); (case ji => assumption); (case jne => assumption); (case jhs => with_unfolding_all rfl)); intro _))
local macro_rules | `(tactic| walk_at "r_keys") => `(tactic| (k_here; (with_reducible show wpAny _ _ (subscriptTail _ _ (Value.ref _) (Value.int _ _)) _ _ _); k_dflt (refine' r_itemI ?jN ?jm ?ji ?js ?j0 ?j1 ?_ ?jhs; (case jN => k_asm); (case jm => k_mem); (case ji => assumption); (case js => assumption); (case j0 => with_reducible omega); (case j1 => with_reducible omega); (case jhs => with_unfolding_all rfl)); intro _))
local macro_rules | `(tactic| walk_at "subscriptTail Name Name ref int") => `(tactic| walk_at "r_keys")
local macro_rules | `(tactic| walk_at "subscriptTail Name BinOp ref int") => `(tactic| walk_at "r_keys")
local macro_rules | `(tactic| walk_at "subscriptTail Name UnaryOp str int") => `(tactic| (k_here; (with_reducible show wpAny _ _ (subscriptTail _ _ (Value.str (List.getD _ _ _) _) (Value.int _ _)) _ _ _); k_dflt (refine' r_signL ?jx ?_ ?jhs ?jhg; (case jx => exact PosW.at (by assumption) (by with_reducible omega)); (case jhs => with_unfolding_all rfl); (case jhg => kmk_pure)); intro _ _))
local macro_rules | `(tactic| walk_at "subscriptTail Name Constant str int") => `(tactic| (k_here; (with_reducible show wpAny _ _ (subscriptTail _ _ (Value.str (List.getD _ _ _) _) (Value.int 0 _)) _ _ _); k_dflt (refine' r_sign0 ?jx ?_ ?jhs ?jhg; (case jx => exact PosW.at (by assumption) (by with_reducible omega)); (case jhs => with_unfolding_all rfl); (case jhg => kmk_pure)); intro _ _))
local macro_rules | `(tactic| walk_at "subscriptTail Subscript Name Name UnaryOp str int") => `(tactic| (k_here; (with_reducible show wpAny _ _ (subscriptTail _ _ (Value.str (List.getD _ _ _) _) (Value.int _ _)) _ _ _); k_dflt (refine' r_signL ?jx ?_ ?jhs ?jhg; (case jx => exact PosW.at (by assumption) (by with_reducible omega)); (case jhs => with_unfolding_all rfl); (case jhg => kmk_pure)); intro _ _))
local macro_rules | `(tactic| walk_at "subscriptTail Subscript Name BinOp Constant str int") => `(tactic| (k_here; (with_reducible show wpAny _ _ (subscriptTail _ _ (Value.str (List.getD _ _ _) _) (Value.int 0 _)) _ _ _); k_dflt (refine' r_sign0 ?jx ?_ ?jhs ?jhg; (case jx => exact PosW.at (by assumption) (by with_reducible omega)); (case jhs => with_unfolding_all rfl); (case jhg => kmk_pure)); intro _ _))
section
variable {h₀ : Heap} {L : Addr} {m : Str → Option Value} {s₁ : Shared} {I C D : Addr} {oI oC oD : Obj} {p : Int → Bool} {k : Int} {t : Tok} {news all : List (Addr × Obj)} {h' : Heap} {tk : Nat}
theorem compEl (F : Fr h₀ L h' m) (N : News h₀ L h' all) (sub : ∀ q ∈ (I, oI) :: (C, oC) :: (D, oD) :: news, q ∈ all) (off : LCg.Off3 I C D news) (hp : p k = true) :
    LCg.CompEnd h₀ L m s₁ I oI C oC D oD (fun _ => True) (fun y news' => REl p k news y news') (.int k t) { s₁ with heap := h', toks := tk } :=
  ⟨h', tk, news, rfl, F, fun q hq => N q (sub q hq), off, trivial, rfl, hp, t, rfl⟩
theorem compNo (F : Fr h₀ L h' m) (N : News h₀ L h' all) (sub : ∀ q ∈ (I, oI) :: (C, oC) :: (D, oD) :: news, q ∈ all) (off : LCg.Off3 I C D news) (hp : p k = false) :
    LCg.CompEnd h₀ L m s₁ I oI C oC D oD (fun _ => True) (fun _ news' => RNo p k news news') Value.none { s₁ with heap := h', toks := tk } :=
  ⟨h', tk, news, rfl, F, fun q hq => N q (sub q hq), off, trivial, rfl, hp⟩
end
theorem short_ok (w : World) (mean : ExcName → Option Value) (mg mb : Str → Option Value) (text : Str) (most : Int) (t u : Tok) (hlen : text.length ≤ 400) (htx : ∀ c ∈ text.cps.toList, signT c = true) :
    PureCall w mean mg mb 55 2 [.str text t, .int most u] (fun t => .str (shortSpec text most) t) := by
  unfold PureCall
  intro news dp un gd cn cs a ccd cl outer A₀ base h₀ L m s Q E B F X N T hk hd hu hret
  have hsp : 0 < (Txt.split text (Str.ofString "\n\n")).length := PyProof.Rows.split_pos text (Str.ofString "\n\n")
  have hp0 : ((Txt.split text (Str.ofString "\n\n")).getD 0 Str.empty).length ≤ 400 := by
    rw [split_zero]; exact Nat.le_trans (part_len text) hlen
  have hpc : ∀ c ∈ ((Txt.split text (Str.ofString "\n\n")).getD 0 Str.empty).cps.toList, signT c = true := by
    rw [split_zero]; exact part_signs htx
  have hMost : MostIs most := trivial
  have hpos : PosW (dropB (Txt.words ((Txt.split text (Str.ofString "\n\n")).getD 0 Str.empty))) := (posW_words _).dropB
  have hsgw : SignW (dropB (Txt.words ((Txt.split text (Str.ofString "\n\n")).getD 0 Str.empty))) := (signs_words hpc).dropB
  refine wpAny_call ?_
  k_dflt walk_at "r_enterC"
  k_steps
  all_goals (try (refine unhalt ?_; k_dflt (refine LCt.CompSrcT.range (by rfl) (by k_asm) (by k_asm) (by assumption) (small_one (by with_reducible omega) (by with_reducible omega) (by with_reducible omega) (by with_reducible omega)) (rangeSize_nat _ _) (by rw [sizeLine_eq]; with_reducible omega) ?_; intro g9; refine' r_fits ?ji ?jM ?jn ?jturn ?jfin; (case ji => assumption); (case jM => assumption)); (case jn => first | omega | (k_dflt exact fits_n _)); (case' jturn => intro k9 t9 I9 oI9 C9 oC9 D9 m9 ys9 h9 tk9 E9 hlo9 hhi9 hC9 hx9 F9 N9 off9 ne9; (have off8 := off9); (try (simp only [LCg.Off3, and_true] at off9))); (case' jfin => intro ys9 hI9 hl9; (have hn9 := last_of hI9); (try dsimp only))))
  all_goals (try k_steps)
  · exact CellPost.intro (by k_asm) (by k_asm) (by assumption) (by k_mem) (by k_mem) (by assumption) (dropB_nil (by assumption)).symm (by walk_at "r_sub") (by assumption) (by assumption)
  · exact CellPost.intro (by k_asm) (by k_asm) (by assumption) (by k_mem) (by k_mem) (by assumption) (dropB_eq (by assumption) (eq_of_beq (by assumption))).symm (by walk_at "r_sub") (by k_ne) (ownOff_lt2 (by dsimp only; omega) (by walk_at "r_and"))
  · exact CellPost.intro (by k_asm) (by k_asm) (by assumption) (by k_mem) (by k_mem) (by assumption) (dropB_ne (ne_of_beq_false (by assumption))).symm (by walk_at "r_sub") (by assumption) (by assumption)
  · exact CellPost.intro (by k_asm) (by k_asm) (by assumption) (by k_mem) (by k_mem) (by assumption) (cut_nothing (by assumption)) (by walk_at "r_sub") (by assumption) (by assumption)
  · exact CellPost.intro (by k_asm) (by k_asm) (by assumption) (by k_mem) (by k_mem) (by assumption) (cut_some (by assumption)) (by walk_at "r_sub") (by k_ne) (ownOff_lt2 (by dsimp only; omega) (by walk_at "r_and"))
  · exact ret_s hret (own_nil (by assumption)) (by assumption) (by assumption) (by walk_at "r_sub")
  · exact ret_s hret (own_fits (by assumption) (by assumption)) (by assumption) (by assumption) (by walk_at "r_sub")
  · exact ret_s hret (own_dots (by assumption) (by assumption) (by assumption)) (by assumption) (by assumption) (by walk_at "r_sub")
  · exact ret_s hret (own_cut (by assumption) (by assumption) (by assumption)) (by assumption) (by assumption) (by walk_at "r_sub")
  · exact compEl (by k_asm) (by k_asm) (by walk_at "r_sub") (by assumption) (fitsT (by assumption))
  · exact compNo (by k_asm) (by k_asm) (by walk_at "r_sub") (by assumption) (fitsF (by assumption))
  · exact compEl (by k_asm) (by k_asm) (fun _ q => q) (by assumption) (hitB (by assumption) (by assumption) (by assumption) (by assumption) (by assumption))
  · exact compEl (by k_asm) (by k_asm) (fun _ q => q) (by assumption) (hitC (by assumption) (by assumption) (by assumption) (by assumption) (by assumption) (by assumption) (by assumption))
  · exact compEl (by k_asm) (by k_asm) (fun _ q => q) (by assumption) (hitD (by assumption) (by assumption) (by assumption) (by assumption) (by assumption) (by assumption) (by assumption))
  · exact compNo (by k_asm) (by k_asm) (fun _ q => q) (by assumption) (hitE (by assumption) (by assumption) (by assumption) (by assumption) (by assumption) (by assumption) (by assumption) (by assumption))
  · exact compNo (by k_asm) (by k_asm) (fun _ q => q) (by assumption) (hitA (by assumption) (by assumption) (by assumption) (by assumption))
  · exact ChEnd.intro (by k_asm) (by k_asm) (by assumption) (by k_mem) (by k_mem) (by walk_at "r_sub") (by assumption) rfl (step_ne (by assumption) (by assumption) (ne_of_bneT (by assumption))) (by k_ne) (ownOff_allLt (by walk_at "r_and")) (by walk_at "r_z2")
  · exact ChEnd.intro (by k_asm) (by k_asm) (by assumption) (by k_mem) (by k_mem) (by walk_at "r_sub") (by assumption) rfl (step_eq (by assumption) (by assumption) (eq_of_bneF (by assumption))) (by k_ne) (ownOff_allLt (by walk_at "r_and")) (by walk_at "r_z2")
  · exact ChEnd.intro (by k_asm) (by k_asm) (by assumption) (by k_mem) (by k_mem) (by walk_at "r_sub") (by assumption) rfl (step_on (by assumption) (by assumption)) (by assumption) (by assumption) (by walk_at "r_z2")
end
/-! part L1 -/
/-! the law's own loop: two turns over the draws; what it stores: the turn, the text, the length, what was found -/
def lwTurn : Str := Str.ofString "turn"
def LwJ (m₀ : Str → Option Value) (d e : Addr) (rest : List (Addr × Obj)) (i : Nat) (m : Str → Option Value) (nx : List (Addr × Obj)) : Prop :=
  ∃ x1 tx1 vs1 ns1 n11 n21, nx = ((d, listOf [.int x1 tx1, .ref e].toArray n11) :: (e, listOf vs1.toArray n21) :: rest) ∧ IntsAre vs1 ns1 ∧ DrawsOk x1 ns1 ∧ (0 < i → ∃ mo tm, m (Str.ofString "most") = some (.int mo tm) ∧ mo ≤ 100) ∧
    ∀ z, z ≠ Str.ofString "turn" → z ≠ Str.ofString "text" → z ≠ Str.ofString "most" → z ≠ Str.ofString "found" → m z = m₀ z
def LwEnd (h₀ : Heap) (L : Addr) (m₀ : Str → Option Value) (d e : Addr) (rest : List (Addr × Obj)) (s₁ s₂ : Shared) : Prop :=
  ∃ h' tk' m' x' tx' vs' ns' n1' n2' mo tm, s₂ = { s₁ with heap := h', toks := tk' } ∧ Fr h₀ L h' m' ∧ News h₀ L h' ((d, listOf [.int x' tx', .ref e].toArray n1') :: (e, listOf vs'.toArray n2') :: rest) ∧ IntsAre vs' ns' ∧ DrawsOk x' ns' ∧
    m' (Str.ofString "most") = some (.int mo tm) ∧ mo ≤ 100 ∧ ∀ z, z ≠ Str.ofString "turn" → z ≠ Str.ofString "text" → z ≠ Str.ofString "most" → z ≠ Str.ofString "found" → m' z = m₀ z
def LwPost (h₀ : Heap) (L : Addr) (m₀ : Str → Option Value) (d e : Addr) (rest : List (Addr × Obj)) (s₁ : Shared) (Q : Flow → Shared → Prop) (f : Flow) (s₂ : Shared) : Prop :=
  match f with
  | .ret v => Q (.ret v) s₂
  | .brk => Q .next s₂
  | _ => LwEnd h₀ L m₀ d e rest s₁ s₂
theorem LwEnd.intro {h₀ : Heap} {L : Addr} {m₀ m' : Str → Option Value} {d e : Addr} {rest all : List (Addr × Obj)} {s₁ : Shared} {h' : Heap} {tk' : Nat} {x' : Int} {tx' : Tok} {vs' : List Value} {ns' : List Int} {n1' n2' : Nat} {mo : Int} {tm : Tok}
    (F : Fr h₀ L h' m') (N : News h₀ L h' all) (h1 : (d, listOf [.int x' tx', .ref e].toArray n1') ∈ all) (h2 : (e, listOf vs'.toArray n2') ∈ all) (hs : ∀ p ∈ rest, p ∈ all) (hI : IntsAre vs' ns') (hD : DrawsOk x' ns')
    (hy : m' (Str.ofString "most") = some (.int mo tm)) (ht : mo ≤ 100) (hm : ∀ z, z ≠ Str.ofString "turn" → z ≠ Str.ofString "text" → z ≠ Str.ofString "most" → z ≠ Str.ofString "found" → m' z = m₀ z) : LwEnd h₀ L m₀ d e rest s₁ { s₁ with heap := h', toks := tk' } :=
  ⟨h', tk', m', x', tx', vs', ns', n1', n2', mo, tm, rfl, F, fun p hp => by
    rcases List.mem_cons.mp hp with rfl | hp
    · exact N _ h1
    · rcases List.mem_cons.mp hp with rfl | hp
      · exact N _ h2
      · exact N p (hs p hp), hI, hD, hy, ht, hm⟩
section
variable {prog : Program} {w : World} {A : Around} {E : Value → Shared → Prop} {s : Shared} {env : Env} {h₀ : Heap} {body : List Stmt} {Q : Flow → Shared → Prop}
theorem r_law_loop {r d e : Addr} {t₀ u₀ v₀ : Tok} {m₀ : Str → Option Value} {rest : List (Addr × Obj)} {x0 : Int} {tx0 : Tok} {vs0 : List Value} {ns0 : List Int} {n10 n20 : Nat}
    (hh : A.handled = none) (hr : IsRange s.heap r 0 2 1 t₀ u₀ v₀)
    (F : Fr h₀ env.locals s.heap m₀) (N : News h₀ env.locals s.heap ((d, listOf [.int x0 tx0, .ref e].toArray n10) :: (e, listOf vs0.toArray n20) :: rest)) (hI : IntsAre vs0 ns0) (hD : DrawsOk x0 ns0) (hne : @Ne Nat d e) (hoff : OwnOff rest [d, e])
    (turn : ∀ (u : Str → Option Value) (k : Int) t h tk (rest' : List (Addr × Obj)) x1 tx1 vs1 ns1 n11 n21, (∀ p ∈ rest, p ∈ rest') → OwnOff rest' [d, e] → IntsAre vs1 ns1 → DrawsOk x1 ns1 →
      Fr h₀ env.locals h (fun z => if z = Str.ofString "turn" then some (.int k t) else if z = Str.ofString "text" then u z else if z = Str.ofString "most" then u z else if z = Str.ofString "found" then u z else m₀ z) → News h₀ env.locals h ((d, listOf [.int x1 tx1, .ref e].toArray n11) :: (e, listOf vs1.toArray n21) :: rest') →
      wpAny (model prog w) A (execs body env) (LwPost h₀ env.locals m₀ d e rest' { s with heap := h, toks := tk } Q) E { s with heap := h, toks := tk })
    (done : ∀ (u : Str → Option Value) h tk mo tm x1 tx1 vs1 ns1 n11 n21, mo ≤ 100 → IntsAre vs1 ns1 → DrawsOk x1 ns1 →
      Fr h₀ env.locals h (fun z => if z = Str.ofString "most" then some (.int mo tm) else if z = Str.ofString "turn" then u z else if z = Str.ofString "text" then u z else if z = Str.ofString "found" then u z else m₀ z) → News h₀ env.locals h ((d, listOf [.int x1 tx1, .ref e].toArray n11) :: (e, listOf vs1.toArray n21) :: rest) → Q .next { s with heap := h, toks := tk }) :
    wpAny (model prog w) A (pyIter (.ref r)) (fun it s₂ => LoopAtV prog w A h₀ env (Str.ofString "turn") body Q E it s₂) E s := by
  have hsmall : Builtin.Range.small 0 2 1 = true := small_one (by omega) (by omega) (by omega) (by omega)
  have hn' : Builtin.Range.rangeSize 0 2 1 = ((2 : Nat) : Int) := by rw [rangeSize_nat]; omega
  refine wpAny_pyIter_range hr hsmall ?_
  have W : Walks prog w A s.heap.objs.size [s.heap.objs.size] [s.heap.objs.size] 2 (fun i v => i < 2 ∧ ∃ t, v = .int (0 + i * 1) t)
      (fun i h => IsRangeIter h s.heap.objs.size (0 + (i : Nat) * 1) (((2 : Nat) : Int) - (i : Nat)) 1) := (Walks.range hh _ 0 1 2).bound
  refine loop_invN (LwJ m₀ d e rest)
    W ?_ ?_ ?_ ?_ (by show IsRangeIter _ _ _ _ _; rw [hn']; simpa using Heap.get?_push_size _ rfl) (F.push _) (fun p hp => ⟨Heap.get?_push_of_some _ (N p hp).1, (N p hp).2⟩) ⟨_, _, _, _, _, _, rfl, hI, hD, fun h => absurd h (by decide), fun _ _ _ _ _ => rfl⟩ ?_ ?_
  · intro hm
    exact absurd F.ns.lt ((List.mem_singleton.mp hm) ▸ Nat.lt_irrefl _)
  · intro b hb
    rw [List.mem_singleton.mp hb]
    exact next_is_new F
  · intro p hp hI
    exact absurd (Heap.lt_size (N p hp).1) ((List.mem_singleton.mp hI) ▸ Nat.lt_irrefl _)
  · intro p hp hI
    exact absurd (Heap.lt_size (N p hp).1) ((List.mem_singleton.mp hI) ▸ Nat.lt_irrefl _)
  · rintro i v m₁ nx h tk own hi ⟨_, t, rfl⟩ _ hown ⟨x1, tx1, vs1, ns1, n11, n21, rfl, hI1, hD1, _, hm1⟩ F₁ N₁
    have em : (fun z => if z = Str.ofString "turn" then some (Value.int (0 + (i : Int) * 1) t) else m₁ z) = fun z => if z = Str.ofString "turn" then some (Value.int (0 + (i : Int) * 1) t) else if z = Str.ofString "text" then m₁ z else if z = Str.ofString "most" then m₁ z else if z = Str.ofString "found" then m₁ z else m₀ z := by
      funext z
      by_cases h1 : z = Str.ofString "turn"
      · rw [if_pos h1, if_pos h1]
      · rw [if_neg h1, if_neg h1]
        by_cases h2 : z = Str.ofString "text"
        · rw [if_pos h2]
        · rw [if_neg h2]
          by_cases h3 : z = Str.ofString "most"
          · rw [if_pos h3]
          · rw [if_neg h3]
            by_cases h4 : z = Str.ofString "found"
            · rw [if_pos h4]
            · rw [if_neg h4]; exact hm1 z h1 h2 h3 h4
    rw [em] at F₁
    have hoff' : OwnOff (rest ++ own) [d, e] := by
      intro p hp b hb
      rcases List.mem_append.mp hp with hp | hp
      · exact hoff p hp b hb
      · refine hown p hp b ?_
        rcases List.mem_cons.mp hb with rfl | hb
        · exact .head _
        · rw [List.mem_singleton.mp hb]; exact .tail _ (.head _)
    refine wpAny_mono (turn m₁ _ t h tk (rest ++ own) x1 tx1 vs1 ns1 n11 n21 (fun p hp => List.mem_append_left _ hp) hoff' hI1 hD1 F₁ N₁) (fun f s₂ p => ?_) fun _ _ e => e
    have fin : LwEnd h₀ env.locals m₀ d e (rest ++ own) { s with heap := h, toks := tk } s₂ → InvEndN h₀ env.locals (LwJ m₀ d e rest (i + 1)) own (((d, listOf [.int x0 tx0, .ref e].toArray n10) :: (e, listOf vs0.toArray n20) :: rest).map (·.1)) { s with heap := h, toks := tk } s₂ := by
      rintro ⟨h', tk', m', x', tx', vs', ns', n1', n2', mo, tm, es, F', N', hI', hD', hf', ht', hm'⟩
      exact ⟨h', tk', m', _, ((d, listOf [.int x' tx', .ref e].toArray n1') :: (e, listOf vs'.toArray n2') :: rest), es, F', N', fun p hp => by
        rw [← List.cons_append, ← List.cons_append]; exact List.mem_append_left _ hp, fun p hp => by
        rw [← List.cons_append, ← List.cons_append]; exact List.mem_append_right _ hp, rfl, x', tx', vs', ns', n1', n2', rfl, hI', hD', fun _ => ⟨mo, tm, hf', ht'⟩, hm'⟩
    cases f with
    | ret v => exact p
    | brk => exact p
    | next => exact fin p
    | cont => exact fin p
  · rintro m₁ nx h tk ⟨x1, tx1, vs1, ns1, n11, n21, rfl, hI1, hD1, hmo, hm1⟩ F₁ N₁
    obtain ⟨mo, tm, hf1, hmo⟩ := hmo (by decide)
    refine done m₁ h tk mo tm x1 tx1 vs1 ns1 n11 n21 hmo hI1 hD1 ?_ N₁
    have em : (fun z => if z = Str.ofString "most" then some (.int mo tm) else if z = Str.ofString "turn" then m₁ z else if z = Str.ofString "text" then m₁ z else if z = Str.ofString "found" then m₁ z else m₀ z) = m₁ := by
      funext z
      by_cases h3 : z = Str.ofString "most"
      · rw [if_pos h3, h3]; exact hf1.symm
      · rw [if_neg h3]
        by_cases h1 : z = Str.ofString "turn"
        · rw [if_pos h1]
        · rw [if_neg h1]
          by_cases h2 : z = Str.ofString "text"
          · rw [if_pos h2]
          · rw [if_neg h2]
            by_cases h4 : z = Str.ofString "found"
            · rw [if_pos h4]
            · rw [if_neg h4]; exact (hm1 z h1 h2 h3 h4).symm
    rw [em]
    exact F₁
end
/-! part T7 -/
theorem fill12 : (∀ P, hd.heap_39 P = hd.heap_39 P) ∧ PySem.Challenge.rw_ez0024_01 = PySem.Challenge.rw_ez0024_01 := by
  k_fill
  exact ⟨fun _ => rfl, rfl⟩
def PureCallP (P : Prop) (w : World) (mean : ExcName → Option Value) (mg mb : Str → Option Value) (f : Addr) (k : Nat) (vs : List Value) (R : Tok → Value) : Prop :=
  ∀ (news : List (Addr × Obj)) (dp un : Nat) (gd : Option (List Code)) (cn : Str) (cs : Scope) (a : Addr) (ccd : Value) (cl : List (Str × Addr)) (outer : List Env) (A₀ : Around) (base h₀ : Heap) (L : Addr) (m : Str → Option Value) (s : Shared) (Q E : Value → Shared → Prop),
    Below A₀ base outer h₀ → Fr h₀ L s.heap m → (hd.heap_39 w.params).In h₀ → News h₀ L s.heap news → Top hd.view_39 (looseW hd.view_39 [Str.ofString "_make_default_short_help"]) mean mg mb h₀ → cs.kind = .function →
    dp + k < recursionLimit → un + 200 * k < cLine →
    (P → ∀ (t : Tok) (h' : Heap) (tk' : Nat), Fr h₀ L h' m → News h₀ L h' news → Q (R t) { s with heap := h', toks := tk' }) →
    wpAny (model (RowW.prog (OpenRow.toRowW (OpenLaw.row PySem.Challenge.rw_ez0024_01))) w) (ktrTop dp un gd cn cs L a ccd cl outer) (call (.ref f) vs) Q E s
theorem make_okL (w : World) (mean : ExcName → Option Value) (mg mb : Str → Option Value) (text : Str) (most : Int) (t u : Tok) (hlen : text.length ≤ 400) (hm : most ≤ 100) :
    PureCallP ((shortSpec text most).length ≤ 400 ∧ ((shortSpec text most).length : Int) ≤ max most 3) w mean mg mb 29 2 [.str text t, .int most u] (fun t => .str (shortSpec text most) t) := by
  unfold PureCallP
  intro news dp un gd cn cs a ccd cl outer A₀ base h₀ L m s Q E B F X N T hk hd hu hret
  exact make_ok w mean mg mb text most t u hlen news dp un gd cn cs a ccd cl outer A₀ base h₀ L m s Q E B F X N T hk hd hu (hret ⟨spec_len400 hm, spec_len text most⟩)
local macro_rules | `(tactic| walk_at "r_tl") => `(tactic| first | (with_reducible assumption) | (with_reducible omega) | exact spec_len400 (by with_reducible omega) | decide)
local macro_rules | `(tactic| walk_at "call ref") => `(tactic| (k_here; (with_reducible show wpAny _ _ (call (Value.ref 50) [Value.ref _]) _ _ _); k_dflt (refine' text_ok _ _ _ _ _ _ _ _ _ _ _ _ _ _ _ _ _ _ _ _ _ _ _ _ _ _ _ _ _ _ ?jB ?jF ?jX ?jN ?jT ?jk ?jd ?ju ?jne ?joff ?jI ?jD ?_; (case jN => walk_at "r_draws"); (case jF => k_asm); (case jB => k_asm); (case jX => k_asm); (case jT => k_asm); (case jk => first | exact rfl | assumption); (case jd => ktr_room); (case ju => ktr_units); (case jI => assumption); (case jD => assumption); (case jne => first | assumption | k_ne); (case joff => walk_at "r_off")); intro v' x' tx' vs' ns' n1' n2' h' tk' F' N' hi' hD' hv'; obtain ⟨y', t', ev', hTx'⟩ := hv'; subst ev'; (have hTl' := hTx'.len); (have hTs' := hTx'.signs)))
local macro_rules | `(tactic| walk_at "call ref") => `(tactic| (k_here; (with_reducible show wpAny _ _ (call (Value.ref 29) [Value.str _ _, Value.int _ _]) _ _ _); k_dflt (refine' make_okL _ _ _ _ _ _ _ _ ?jlen ?jmo _ _ _ _ _ _ _ _ _ _ _ _ _ _ _ _ _ _ ?jB ?jF ?jX ?jN ?jT ?jk ?jd ?ju ?_; (case jN => k_asm); (case jF => k_asm); (case jB => k_asm); (case jX => k_asm); (case jT => k_asm); (case jk => first | exact rfl | assumption); (case jd => ktr_room); (case ju => ktr_units); (case jlen => walk_at "r_tl"); (case jmo => with_reducible omega)); intro hLn9 t9 h9 tk9 F9 N9; obtain ⟨hLa9, hLb9⟩ := hLn9))
local macro_rules | `(tactic| walk_at "call ref") => `(tactic| (k_here; (with_reducible show wpAny _ _ (call (Value.ref 29) [Value.str _ _]) _ _ _); k_dflt (refine' make1_ok _ _ _ _ _ _ ?jlen _ _ _ _ _ _ _ _ _ _ _ _ _ _ _ _ _ _ ?jB ?jF ?jX ?jN ?jT ?jk ?jd ?ju ?_; (case jN => k_asm); (case jF => k_asm); (case jB => k_asm); (case jX => k_asm); (case jT => k_asm); (case jk => first | exact rfl | assumption); (case jd => ktr_room); (case ju => ktr_units); (case jlen => walk_at "r_tl")); intro t9 h9 tk9 F9 N9))
local macro_rules | `(tactic| walk_at "call ref") => `(tactic| (k_here; (with_reducible show wpAny _ _ (call (Value.ref 55) [Value.str _ _, Value.int _ _]) _ _ _); k_dflt (refine' short_ok _ _ _ _ _ _ _ _ ?jlen ?jsg _ _ _ _ _ _ _ _ _ _ _ _ _ _ _ _ _ _ ?jB ?jF ?jX ?jN ?jT ?jk ?jd ?ju ?_; (case jN => k_asm); (case jF => k_asm); (case jB => k_asm); (case jX => k_asm); (case jT => k_asm); (case jk => first | exact rfl | assumption); (case jd => ktr_room); (case ju => ktr_units); (case jlen => walk_at "r_tl"); (case jsg => assumption)); intro t9 h9 tk9 F9 N9))

local macro_rules | `(tactic| walk_at "exec For Name Call cons nil") => `(tactic| (k_here; (with_reducible show wpAny _ _ (exec (Stmt.For (PySem.Expr.Name (Str.ofString "turn") _) _ _ [] _) _) _ _ _); (rename Fr _ _ _ _ => lF'); (with_unfolding_all refine' For_invVF lF' ?k1 ?k2 ?_; (case k1 => exact rfl); (case k2 => exact rfl); k_whole)))
theorem draws_start (l : List Int) : DrawsOk 0 ((l.take 10).map fun k' => Int.fmod (if k' < 0 then -k' else k') (10 ^ Int.toNat 15)) := by
  have e : ((10 : Int) ^ Int.toNat 15) = 1000000000000000 := by decide
  refine ⟨by omega, by omega, fun n hn => ?_, ?_⟩
  · obtain ⟨k, _, rfl⟩ := List.mem_map.mp hn
    rw [e]
    exact ⟨Int.fmod_nonneg_of_pos _ (by omega), Int.fmod_lt_of_pos _ (by omega)⟩
  · rw [List.length_map, List.length_take]; omega
theorem ownOff_nil {l : List Addr} : OwnOff [] l := fun p hp => by cases hp
local macro_rules | `(tactic| walk_at "pyIter ref") => `(tactic| (k_here; (with_reducible show wpAny _ _ (pyIter (Value.ref _)) (fun it s₂ => LoopAtV _ _ _ _ _ (Str.ofString "turn") _ _ _ it s₂) _ _); k_dflt (refine' r_law_loop ?jh ?jr ?jF ?jN ?jI ?jD ?jne ?joff ?jturn ?jdone; (case jF => k_asm); (case jN => k_asm); (case jh => exact rfl); (case jr => assumption); (case jI => assumption); (case jD => exact draws_start _); (case jne => first | assumption | k_ne); (case joff => walk_at "r_off"; exact ownOff_nil)); (case' jturn => intro u9 k9 t9 h9 tk9 rest9 x9 tx9 vs9 ns9 n19 n29 hsub9 hoff9 hI9 hD9 F9 N9); (case' jdone => intro u9 h9 tk9 mo9 tm9 x9 tx9 vs9 ns9 n19 n29 hmo9 hI9 hD9 F9 N9)))
local macro_rules | `(tactic| walk_at "LwPost") => `(tactic| (dsimp only [LwPost]))
theorem empty_ne {most : Int} (h : (shortSpec (Str.ofString "") most == Str.ofString "") = false) : False := by
  rw [spec_empty] at h
  exact absurd h (by decide)
theorem mark_eq (most : Int) : (shortSpec (Str.ofString "\u0008") most == Str.ofString "") = true := by
  rw [spec_mark]
  decide
theorem again_ne {text : Str} {most : Int} (hT : TextOk text 300) (h1 : ((shortSpec text most).length : Int) ≤ most) (h2 : (Txt.slice (shortSpec text most) (some (-3)) none != Str.ofString "...") = true)
    (h3 : (shortSpec (shortSpec text most) most != shortSpec text most) = true) : False :=
  ne_of_bneT h3 (spec_again hT.one h1 (ne_of_bneT h2))
local macro_rules | `(tactic| walk_at "r_z4") => `(tactic| (intro z h1 h2 h3 h4; first | rfl | (simp only [if_neg h1, if_neg h2, if_neg h3, if_neg h4]; done) | (simp only [if_neg h1, if_neg h2, if_neg h3, if_neg h4]; rfl)))
local macro_rules | `(tactic| walk_at "r_good") => `(tactic| (rw [mark_eq]; k_steps))
theorem law_holds : PySem.Challenge.rw_ez0024_01.Holds := by
  exact hd (by
    k_go0
    (all_goals try k_fold)
    k_steps
    · walk_at "r_good"
    · exact (empty_ne (by assumption)).elim
    · exact (again_ne (by assumption) (by assumption) (by assumption) (by assumption)).elim
    · exact LwEnd.intro (by k_asm) (by k_asm) (by k_mem) (by k_mem) (by walk_at "r_sub") (by assumption) (by assumption) rfl (by with_reducible omega) (by walk_at "r_z4")
    · exact LwEnd.intro (by k_asm) (by k_asm) (by k_mem) (by k_mem) (by walk_at "r_sub") (by assumption) (by assumption) rfl (by with_reducible omega) (by walk_at "r_z4")
    · exact LwEnd.intro (by k_asm) (by k_asm) (by k_mem) (by k_mem) (by walk_at "r_sub") (by assumption) (by assumption) rfl (by with_reducible omega) (by walk_at "r_z4"))
end Mine
theorem PySem.Challenge.cw_ez0024_01_holds : PySem.Challenge.rw_ez0024_01.Holds := by
  exact Mine.law_holds
