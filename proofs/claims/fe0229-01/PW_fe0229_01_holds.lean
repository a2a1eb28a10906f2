import PyProof.Rows.All
import Wide.All
import OpenK.AllK
import Wide.FinOn
import PySem.Challenge.RW_fe0229_01
open PySem PySem.W PyProof.Rows
set_option Elab.async false
namespace Mine
-- part M0
section
open PySem.Calls
section
variable {prog : Program} {w : World} {A : Around} {E : Value → Shared → Prop} {s : Shared} {b c x y : Array UInt8} {t u tx ty : Tok}
theorem eqAt_bytes (A : Around) (s : Shared) (x y : Array UInt8) (t u : Tok) : SeqAt.EqAt A s (.bytes x t) (.bytes y u) (x.toList == y.toList) := by
  intro prog w E Q h
  unfold eqBool
  refine wpAny_holding ?_
  refine wpAny_ite_split (fun hab => ?_) (fun hab => ?_)
  · have e : x = y := by have := eq_of_beq hab; injection this
    subst e
    exact wpAny_bind (wpAny_rule (wpAny_pure (by simpa using h)))
  · exact wpAny_bind (richCompare_gives (typeIs_bytes s x t) (typeIs_bytes s y u) FB.slot_bytes_eq FB.entry_bytes_eq (FB.args_bytes_eq_2 _ _) (gives_bytes_eq x y t u) (fun e => nomatch e) (wpAny_truthy_bool h))
def isB (b : Array UInt8) (v : Value) : Bool := match v with
  | .bytes c _ => c.toList == b.toList
  | _ => false
theorem in_tup_bytes2 {D : Addr} {Q : Value → Shared → Prop} (hl : IsTup s.heap D #[.bytes x tx, .bytes y ty]) (h : Q (.bool (x.toList == b.toList || y.toList == b.toList)) s) :
    wpAny (model prog w) A (compareOp .In (.bytes b t) (.ref D)) Q E s := by
  refine SeqAt.in_tupleAt (isB b) hl (fun v hv => ?_) ?_
  · simp only [List.mem_toArray, List.mem_cons, List.not_mem_nil, or_false] at hv
    rcases hv with rfl | rfl
    · exact eqAt_bytes _ _ _ _ _ _
    · exact eqAt_bytes _ _ _ _ _ _
  · simpa [isB] using h
end
end
-- part M1
section
open PySem.Calls
theorem little_rev (i : Nat) (n : Int) : (KTBy.little (i + 1) n).reverse = [n / 256 ^ i % 256] ++ (KTBy.little i n).reverse := by
  rw [KTBy.little_eq, KTBy.little_eq, List.range_succ, List.map_append, List.reverse_append]
  rfl
section
variable {prog : Program} {w : World} {A : Around} {E : Value → Shared → Prop} {s : Shared} {env : Env} {h₀ : Heap} {body : List Stmt} {Q : Flow → Shared → Prop}
def OctEnd (h₀ : Heap) (L : Addr) (s : Shared) (m₀ : Str → Option Value) (n : Int) (i : Nat) (I : Addr) (it : Obj) (news : List (Addr × Obj)) (f : Flow) (s₂ : Shared) : Prop :=
  f = .next ∧ ∃ h' tk' m' l' vs' nn' tn', s₂ = { s with heap := h', toks := tk' } ∧ Fr h₀ L h' m' ∧ News h₀ L h' ((l', listOf vs'.toArray nn') :: (I, it) :: news) ∧ IntsAre vs' (KTBy.little (i + 1) n).reverse ∧
    m' (Str.ofString "octets") = some (.ref l') ∧ m' (Str.ofString "number") = some (.int (n / 256 ^ (i + 1)) tn') ∧ ∀ z, z ≠ Str.ofString "i" → z ≠ Str.ofString "octets" → z ≠ Str.ofString "number" → m' z = m₀ z
theorem iter_oct {r l₀ : Addr} {t₀ u₀ v₀ tn₀ : Tok} {m₀ : Str → Option Value} {news : List (Addr × Obj)} {n : Int}
    (hh : A.handled = none) (hr : IsRange s.heap r 0 32 1 t₀ u₀ v₀) (F : Fr h₀ env.locals s.heap m₀) (N : News h₀ env.locals s.heap ((l₀, listOf #[] 0) :: news))
    (ho : m₀ (Str.ofString "octets") = some (.ref l₀)) (hm : m₀ (Str.ofString "number") = some (.int n tn₀))
    (turn : ∀ (i : Nat) (t : Tok) (l : Addr) (vs : List Value) (nn : Nat) (tn : Tok) (h : Heap) (tk : Nat) (I : Addr) (it : Obj), i < 32 → IntsAre vs (KTBy.little i n).reverse → it.cls = .type "range_iterator" →
      Fr h₀ env.locals h (fun y => if y = Str.ofString "i" then some (.int (0 + (i : Int) * 1) t) else if y = Str.ofString "octets" then some (.ref l) else if y = Str.ofString "number" then some (.int (n / 256 ^ i) tn) else m₀ y) →
      News h₀ env.locals h ((l, listOf vs.toArray nn) :: (I, it) :: news) →
      wpAny (model prog w) A (execs body env) (OctEnd h₀ env.locals s m₀ n i I it news) E { s with heap := h, toks := tk })
    (done : ∀ (l : Addr) (vs : List Value) (nn : Nat) (tn : Tok) (u : Str → Option Value) (h : Heap) (tk : Nat), IntsAre vs (KTBy.little 32 n).reverse →
      Fr h₀ env.locals h (fun y => if y = Str.ofString "i" then u y else if y = Str.ofString "octets" then some (.ref l) else if y = Str.ofString "number" then some (.int (n / 256 ^ 32) tn) else m₀ y) →
      News h₀ env.locals h ((l, listOf vs.toArray nn) :: news) → Q .next { s with heap := h, toks := tk }) :
    wpAny (model prog w) A (pyIter (.ref r)) (fun it s₂ => LoopAtV prog w A h₀ env (Str.ofString "i") body Q E it s₂) E s := by
  have same : ∀ {m : Str → Option Value} {l : Addr} {k : Int} {tk : Tok} {v : Option Value}, m (Str.ofString "octets") = some (.ref l) → m (Str.ofString "number") = some (.int k tk) →
      (∀ z, z ≠ Str.ofString "i" → z ≠ Str.ofString "octets" → z ≠ Str.ofString "number" → m z = m₀ z) →
      (fun y => if y = Str.ofString "i" then v else m y) = fun y => if y = Str.ofString "i" then v else if y = Str.ofString "octets" then some (.ref l) else if y = Str.ofString "number" then some (.int k tk) else m₀ y := by
    intro m l k tk v h1 h2 h3
    funext y
    by_cases e1 : y = Str.ofString "i"
    · simp [e1]
    · simp only [if_neg e1]
      by_cases e2 : y = Str.ofString "octets"
      · simp only [e2, h1, if_true]
      · simp only [if_neg e2]
        by_cases e3 : y = Str.ofString "number"
        · simp only [e3, h2, if_true]
        · simp only [if_neg e3]; exact h3 y e1 e2 e3
  have sameU : ∀ {m : Str → Option Value} {l : Addr} {k : Int} {tk : Tok}, m (Str.ofString "octets") = some (.ref l) → m (Str.ofString "number") = some (.int k tk) →
      (∀ z, z ≠ Str.ofString "i" → z ≠ Str.ofString "octets" → z ≠ Str.ofString "number" → m z = m₀ z) →
      m = fun y => if y = Str.ofString "i" then m y else if y = Str.ofString "octets" then some (.ref l) else if y = Str.ofString "number" then some (.int k tk) else m₀ y := by
    intro m l k tk h1 h2 h3
    funext y
    by_cases e1 : y = Str.ofString "i"
    · simp [e1]
    · simp only [if_neg e1]
      by_cases e2 : y = Str.ofString "octets"
      · simp only [e2, h1, if_true]
      · simp only [if_neg e2]
        by_cases e3 : y = Str.ofString "number"
        · simp only [e3, h2, if_true]
        · simp only [if_neg e3]; exact h3 y e1 e2 e3
  refine wpAny_pyIter_range hr (by decide) ?_
  have W : Walks prog w A s.heap.objs.size [s.heap.objs.size] [s.heap.objs.size] 32 (fun i v => i < 32 ∧ ∃ t, v = .int (0 + i * 1) t)
      (fun i h => IsRangeIter h s.heap.objs.size (0 + (i : Nat) * 1) ((32 : Nat) - (i : Nat)) 1) := (Walks.range hh _ 0 1 32).bound
  have hnew := next_is_new F
  let J : Nat → (Str → Option Value) → List (Addr × Obj) → Prop := fun i m₁ news₁ => ∃ l vs nn tn, news₁ = (l, listOf vs.toArray nn) :: news ∧ IntsAre vs (KTBy.little i n).reverse ∧
    m₁ (Str.ofString "octets") = some (.ref l) ∧ m₁ (Str.ofString "number") = some (.int (n / 256 ^ i) tn) ∧ ∀ z, z ≠ Str.ofString "i" → z ≠ Str.ofString "octets" → z ≠ Str.ofString "number" → m₁ z = m₀ z
  refine ⟨_, _, _, 32, _, _, m₀, (l₀, listOf #[] 0) :: news, J, rfl, W, ?_, ?_, ?_, (by exact Heap.get?_push_size _ rfl), F.push _, (fun p hp => ⟨Heap.get?_push_of_some _ (N p hp).1, (N p hp).2⟩), ⟨l₀, [], 0, tn₀, rfl, .nil, ho, by simpa using hm, fun _ _ _ _ => rfl⟩, ?_, ?_⟩
  · intro hm
    exact absurd F.ns.lt ((List.mem_singleton.mp hm) ▸ Nat.lt_irrefl _)
  · intro b hb
    rw [List.mem_singleton.mp hb]
    exact hnew
  · intro p hp hI
    exact absurd (Heap.lt_size (N p hp).1) ((List.mem_singleton.mp hI) ▸ Nat.lt_irrefl _)
  · rintro i v m₁ news₁ s₁ own ⟨hh', tk', rfl⟩ hin ⟨_, t, rfl⟩ ⟨l, vs, nn, tn, rfl, hi, h1, h2, h3⟩ hoff hown hget hall hst F₁ N₁
    rw [same h1 h2 h3] at F₁
    obtain ⟨it, hit, hic⟩ : ∃ it : Obj, hh'.get? s.heap.objs.size = some it ∧ it.cls = .type "range_iterator" := ⟨_, hst, rfl⟩
    have hmem := hall s.heap.objs.size (List.mem_singleton.mpr rfl) hnew it hit
    have N₂ : News h₀ env.locals hh' ((l, listOf vs.toArray nn) :: (s.heap.objs.size, it) :: news) := fun p hp => by
      rcases List.mem_cons.mp hp with rfl | hp
      · exact N₁ _ (List.mem_append_right _ (List.mem_cons_self ..))
      · rcases List.mem_cons.mp hp with rfl | hp
        · exact N₁ _ (List.mem_append_left _ hmem)
        · exact N₁ _ (List.mem_append_right _ (List.mem_cons_of_mem _ hp))
    refine wpAny_mono (turn i t l vs nn tn hh' tk' s.heap.objs.size it hin hi hic F₁ N₂) (fun f s₂ p => ?_) fun _ _ e => e
    obtain ⟨rfl, h', tk'', m', l', vs', nn', tn', rfl, F', N', hi', h1', h2', h3'⟩ := p
    refine .next ⟨rfl, h', tk'', m', (l', listOf vs'.toArray nn') :: news, rfl, F', fun p hp => ?_, fun p hp hI => ?_, l', vs', nn', tn', rfl, hi', h1', h2', h3'⟩
    · rcases List.mem_append.mp hp with hp | hp
      · have h1 : p.1 = s.heap.objs.size := List.mem_singleton.mp (hown p hp)
        have h2 : hh'.get? p.1 = some p.2 := hget p hp
        have h3 : p = (s.heap.objs.size, it) := by
          rw [h1, hit] at h2
          exact Prod.ext h1 (Option.some.inj h2).symm
        rw [h3]; exact N' _ (List.mem_cons_of_mem _ (List.mem_cons_self ..))
      · rcases List.mem_cons.mp hp with rfl | hp
        · exact N' _ (List.mem_cons_self ..)
        · exact N' _ (List.mem_cons_of_mem _ (List.mem_cons_of_mem _ hp))
    · rcases List.mem_cons.mp hp with rfl | hp
      · have e := List.mem_singleton.mp hI
        have g1 := (N' _ (List.mem_cons_self ..)).1
        have g2 := (N' _ (List.mem_cons_of_mem _ (List.mem_cons_self ..))).1
        dsimp only at e g1 g2
        rw [e, g2] at g1
        have := Option.some.inj g1
        rw [this] at hic
        exact absurd hic (by intro e; exact absurd (Value.type.inj e) (by decide))
      · exact hoff p (List.mem_cons_of_mem _ hp) hI
  · rintro h' tk m' news' F' N' _ ⟨l, vs, nn, tn, rfl, hi, h1, h2, h3⟩
    rw [sameU h1 h2 h3] at F'
    exact done l vs nn tn m' h' tk hi F' N'
theorem oct_close {h' : Heap} {L : Addr} {m₀ m' : Str → Option Value} {n : Int} {i : Nat} {I l' : Addr} {it : Obj} {news : List (Addr × Obj)} {X Y : Addr × Obj} {t tn : Tok} {vs : List Value} {tk : Nat}
    (F : Fr h₀ L h' m') (N : News h₀ L h' ((l', { cls := .type "list", data := .seq ([Value.int ((n / 256 ^ i).fmod 256) t] ++ vs).toArray }) :: X :: Y :: (I, it) :: news))
    (hi : IntsAre vs (KTBy.little i n).reverse) (h1 : m' (Str.ofString "octets") = some (.ref l')) (h2 : m' (Str.ofString "number") = some (.int ((n / 256 ^ i).fdiv 256) tn))
    (h3 : ∀ z, z ≠ Str.ofString "i" → z ≠ Str.ofString "octets" → z ≠ Str.ofString "number" → m' z = m₀ z) :
    OctEnd h₀ L s m₀ n i I it news .next { s with heap := h', toks := tk } := by
  refine ⟨rfl, h', tk, m', l', [Value.int ((n / 256 ^ i).fmod 256) t] ++ vs, 0, tn, rfl, F, fun p hp => ?_, ?_, h1, ?_, h3⟩
  · rcases List.mem_cons.mp hp with rfl | hp
    · exact N _ (List.mem_cons_self ..)
    · exact N _ (List.mem_cons_of_mem _ (List.mem_cons_of_mem _ (List.mem_cons_of_mem _ hp)))
  · rw [little_rev, Int.fmod_eq_emod_of_nonneg _ (by decide)]
    exact .cons _ _ hi
  · rw [h2, Int.fdiv_eq_ediv_of_nonneg _ (by decide), Int.pow_succ, Int.ediv_ediv_of_nonneg (Int.pow_nonneg (by decide))]
end
end
-- part M2
section
open PySem.Calls
open PySem.Builtin.Int (intBits)
theorem arr_of {b : Array UInt8} {ns : List Int} (h : KBw.bInts b = ns) : b = byteArr ns := by
  subst h
  have e : ∀ c : UInt8, (((c.toNat : Nat) : Int).toNat).toUInt8 = c := fun c => by
    rw [Int.toNat_natCast]
    show UInt8.ofNat c.toNat = c
    exact UInt8.ofNat_toNat
  have e2 : (byteArr (KBw.bInts b)).toList = b.toList := by
    show (((b.toList.map fun c : UInt8 => ((c.toNat : Nat) : Int)).map fun n => n.toNat.toUInt8)) = b.toList
    rw [List.map_map]
    exact (List.map_congr_left (g := _root_.id) fun c _ => e c).trans (List.map_id _)
  exact (Array.toList_inj.mp e2).symm
-- the two built-ins' trees at a call by keyword: what is left of each when all that is written has been reckoned
set_option maxRecDepth 100000 in
theorem tb_tree (x : Int) (t u v : Tok) : ∃ T1 T2 : Sem Fin, Builtin.«int.to_bytes» ⟨[.int x t, .int 32 u], [(PySem.Str.ofString "byteorder", .str (PySem.Str.ofString "big") v)]⟩ =
    (if (decide (x < 0) && !false) = true then T1 else if (x != 0 && decide ((intBits x : Int) > 8 * 32)) = true then T2 else (mkBytes ((KTBy.low x 32).reverse.toArray) >>= fun r => ret r)) := by
  with_unfolding_all exact ⟨_, _, rfl⟩
theorem fb_tree (b : Array UInt8) (t u : Tok) : Builtin.«int.from_bytes» ⟨[.type "int", .bytes b t], [(PySem.Str.ofString "byteorder", .str (PySem.Str.ofString "big") u)]⟩ =
    (mkIntGrown (b.toList.foldl (fun (acc : Int) (c : UInt8) => acc * 256 + (c.toNat : Int)) ((0 : Nat) : Int)) >>= fun v => ret v) := by kernel_rfl
theorem low_bytes {x : Int} (h0 : 0 ≤ x) (h1 : x < 256 ^ 32) : (KTBy.low x 32).reverse.toArray = byteArr (KTBy.little 32 x).reverse := by
  refine arr_of ?_
  rw [KBw.ints_list, List.map_reverse, KTBy.low_ints h0 h1, ← KTBy.little_eq]
section
variable {prog : Program} {w : World} {A : Around} {E : Value → Shared → Prop} {s : Shared} {x : Int} {t u v : Tok} {env : Env}
theorem to_big_kw {Q : Value → Shared → Prop} (h0 : 0 ≤ x) (h1 : x < 256 ^ 32) (h : ∀ t' k', Q (.bytes (byteArr (KTBy.little 32 x).reverse) t') { s with toks := k' }) :
    wpAny (model prog w) A (call (.builtin "int.to_bytes") [.int x t, .int 32 u] [(PySem.Str.ofString "byteorder", .str (PySem.Str.ofString "big") v)]) Q E s := by
  have hb := KTBy.bits_le (k := 32) rfl h0 h1
  have n1 : ¬ (decide (x < 0) && !false) = true := by simp only [Bool.not_false, Bool.and_true, decide_eq_true_eq]; omega
  have n2 : ¬ (x != 0 && decide ((intBits x : Int) > 8 * 32)) = true := by simp only [Bool.and_eq_true, decide_eq_true_eq]; omega
  obtain ⟨T1, T2, e⟩ := tb_tree x t u v
  refine wpAny_call_entry_kw KTBy.slot (typeIs_int s x t) KTBy.entry ?_ (by unfold argsOk; kernel_rfl)
  rw [e, if_neg n1, if_neg n2, low_bytes h0 h1]
  refine wpAny_bind (wpAny_mkBytes (wpAny_pure ⟨_, rfl, h _ _⟩) ?_)
  show (List.map _ _).toArray.size ≤ sizeLine
  rw [List.size_toArray, List.length_map, List.length_reverse, KTBy.little_length, sizeLine_eq]
  decide
theorem toBytes_with {pos p1 p2 p3 : Pos} {k1 k2 : _} {Q : Value → Shared → Prop} (h0 : 0 ≤ x) (h1 : x < 256 ^ 32) (h : ∀ t' k', Q (.bytes (byteArr (KTBy.little 32 x).reverse) t') { s with toks := k' }) :
    wpAny (model prog w) A (callWith pos (.builtin "int.to_bytes") [.int x t] (backTo pos (starEach [.Constant (.int 32) k1 p1] env)) (backToKw pos (keywordEach [⟨some (PySem.Str.ofString "byteorder"), .Constant (.str (PySem.Str.ofString "big")) k2 p2, p3⟩] env))) Q E s := by
  refine callWith_builtin_kwB rfl rfl ?_
  refine evalArgs_kwB rfl ?_
  show wpAny _ _ (spliced (backTo pos (starEach [.Constant (.int 32) k1 p1] env))) _ _ _
  walk1
  walk1
  walk1
  refine kws_cons ?_
  walk1
  refine kws_nil ?_
  exact to_big_kw h0 h1 fun t' k' => h t' k'
end

namespace FB
section
variable {prog : Program} {w : World} {M : Model} {A : Around} {E : Value → Shared → Prop} {s : Shared}
theorem stands_keep {u : Addr} (h : Heap) (X : KFB.StandsAt u h) : ∃ k, (k = Keeper.frame ∨ k = Keeper.machine ∨ k = Keeper.boundFrame) ∧ Looks M h (keeperOf (.ref u)) k :=
  ⟨.machine, .inr (.inl rfl), (Looks.ld (part := none) X).andThen (Looks.of_pure (by kernel_rfl))⟩
theorem with_kw {pos : Pos} {u : Addr} {env : Env} {e : PySem.Expr} {kws : List Keyword} {Q : Value → Shared → Prop} (hall : (backToKw pos (keywordEach kws env)).all (·.1.isSome) = true)
    (hno : (backToKw pos (keywordEach kws env)).any (·.1.isNone) = false)
    (h : wpAny M A (spliced (backTo pos (starEach [e] env))) (fun vs s₁ => wpAny M A (evalAll ((backToKw pos (keywordEach kws env)).map (·.2)))
      (fun ks s₂ => KFB.StandsAt u s₂.heap ∧ wpAny M A (call (.ref u) vs (((backToKw pos (keywordEach kws env)).filterMap (·.1)).zip ks)) Q E s₂) E s₁) E s)
    (he : backTo pos (starEach [e] env) = (false, eval e env) :: [] := by rfl) :
    wpAny M A (callWith pos (.ref u) [] (backTo pos (starEach [e] env)) (backToKw pos (keywordEach kws env))) Q E s := by
  rw [he] at h ⊢
  exact callWith_of (by rw [hno]; rfl) stands_keep (evalArgs_kwB hall h)
theorem grown_at {n : Nat} {Q : Value → Shared → Prop} (hn : n < 2 ^ 256) (h : Q (.int (n : Int) s.toks) { s with toks := s.toks + 1 }) : wpAny M A (mkIntGrown (n : Int)) Q E s := by
  have hl : n.log2 < bitsLine := by
    have hb : bitsLine = 134217728 := by first | rfl | decide
    rcases Nat.eq_zero_or_pos n with rfl | hz
    · rw [hb]; decide
    · have h1 := (Nat.log2_lt (Nat.ne_of_gt hz)).mpr hn
      omega
  unfold mkIntGrown
  rw [Int.natAbs_natCast, if_neg (Nat.not_le.mpr hl)]
  exact wpAny_mkInt h
theorem fb_run {b : Array UInt8} {t u : Tok} {P : Fin → Shared → Prop} (hl : b.size ≤ 32) (h : P (.done (.ret (.int (KFB.value (KBw.bInts b)) s.toks))) { s with toks := s.toks + 1 }) :
    wpAny M A (Builtin.«int.from_bytes» ⟨[.type "int", .bytes b t], [(PySem.Str.ofString "byteorder", .str (PySem.Str.ofString "big") u)]⟩) P E s := by
  have h1 := KFB.fold_lt b.toList 0
  have h2 : 256 ^ b.size ≤ 256 ^ 32 := Nat.pow_le_pow_right (by decide) hl
  have h3 : 256 ^ 32 ≤ 2 ^ 256 := Nat.le_of_eq (by decide)
  rw [Nat.zero_add, Nat.one_mul, Array.length_toList] at h1
  have hv : ((b.toList.foldl (fun (acc : Nat) (c : UInt8) => acc * 256 + c.toNat) 0 : Nat) : Int) = KFB.value (KBw.bInts b) := KFB.fold_cast b.toList 0
  rw [fb_tree, KFB.foldI_eq]
  refine wpAny_bind (grown_at (Nat.lt_of_lt_of_le h1 (Nat.le_trans h2 h3)) (wpAny_pure ?_))
  rw [hv]
  exact h
theorem call_kw {x : Addr} {b : Array UInt8} {t u : Tok} {Q : Value → Shared → Prop} (ho : KFB.StandsAt x s.heap) (hl : b.size ≤ 32)
    (h : Q (.int (KFB.value (KBw.bInts b)) s.toks) { s with toks := s.toks + 1 }) : wpAny (model prog w) A (call (.ref x) [.bytes b t] [(PySem.Str.ofString "byteorder", .str (PySem.Str.ofString "big") u)]) Q E s := by
  refine wpAny_call (codeAny_of_tree ?_)
  show wpAny _ A.in1 (callAny (.ref x) ⟨[.bytes b t], [(PySem.Str.ofString "byteorder", .str (PySem.Str.ofString "big") u)]⟩) _ _ s
  simp only [callAny]
  refine wpAny_bind (wpAny_load ho ?_)
  refine wpAny_of_eq (a := .again (.builtin "int.from_bytes" ⟨[.type "int", .bytes b t], [(PySem.Str.ofString "byteorder", .str (PySem.Str.ofString "big") u)]⟩)) (by kernel_rfl) ?_
  exact ⟨KFB.quiet_fb, codeAny_builtin KFB.entry_fb (fb_run hl h)⟩
end
end FB
end
-- part M3
section
open PySem.Calls
theorem pack_kind : builtinKind "_struct.pack" = none := by decide +kernel
theorem pack_plain : plainId "_struct.pack" = true := by decide +kernel
theorem pack_entry : entryFor table "_struct.pack" = some Builtin.«_struct.pack» := entryFor_of_fast (by kernel_rfl)
theorem pack_args (a b : Value) : argsOk "_struct.pack" ⟨[a, b], []⟩ := by unfold argsOk; kernel_rfl
theorem pack_two (t u : Tok) : Builtin.«_struct.pack» ⟨[.str (PySem.Str.ofString ">B") t, .int 2 u], []⟩ = (mkBytes #[2] >>= fun v => ret v) := by kernel_rfl
theorem pack_three (t u : Tok) : Builtin.«_struct.pack» ⟨[.str (PySem.Str.ofString ">B") t, .int 3 u], []⟩ = (mkBytes #[3] >>= fun v => ret v) := by kernel_rfl
section
variable {prog : Program} {w : World} {A : Around} {E : Value → Shared → Prop} {s : Shared} {n : Int} {t u : Tok}
theorem pack_call {Q : Value → Shared → Prop} (hn : n = 2 ∨ n = 3) (h : ∀ t' k', Q (.bytes (byteArr [n]) t') { s with toks := k' }) :
    wpAny (model prog w) A (call (.builtin "_struct.pack") [.str (PySem.Str.ofString ">B") t, .int n u]) Q E s := by
  refine call_function_entry pack_kind pack_plain pack_entry (pack_args _ _) ?_
  rcases hn with rfl | rfl
  · rw [pack_two]
    exact wpAny_bind (wpAny_mkBytes (wpAny_pure ⟨_, rfl, h _ _⟩) (by rw [sizeLine_eq]; decide))
  · rw [pack_three]
    exact wpAny_bind (wpAny_mkBytes (wpAny_pure ⟨_, rfl, h _ _⟩) (by rw [sizeLine_eq]; decide))
end
end
-- part M4
section
def compP (c : List UInt8) : Bool := [2] == c || [3] == c
def secP (c : List UInt8) (n : Int) : Bool := (compP c && n == 33) || (c == [4] && n == 65)
theorem cb_use {prog : Program} {w : World} {K : Frag} {p : Program} {loose : List Str} {mean : ExcName → Option Value} {mg mb : Str → Option Value} {f : Addr} {news : List (Addr × Obj)} {vs : List Value} {R : Tok → Value}
    (C : CbClaim prog w K p loose mean mg mb f news [] True vs R) {dp un : Nat} {gd : Option (List Code)} {cn : Str} {cs : Scope} {a : Addr} {ccd : Value} {cl : List (Str × Addr)} {outer : List Env} {A₀ : Around} {base h₀ : Heap} {L : Addr} {m : Str → Option Value} {s : Shared} {Q E : Value → Shared → Prop}
    (B : Below A₀ base outer h₀) (F : Fr h₀ L s.heap m) (X : K.In h₀) (N : News h₀ L s.heap news) (T : Top p loose mean mg mb h₀) (hk : cs.kind = .function) (hd : dp + 1 < recursionLimit) (hu : un + 8 < cLine)
    (ret : ∀ (t : Tok) (h' : Heap) (tk' : Nat), Fr h₀ L h' m → News h₀ L h' news → Q (R t) { s with heap := h', toks := tk' }) :
    wpAny (model prog w) (ktrTop dp un gd cn cs L a ccd cl outer) (call (.ref f) vs) Q E s :=
  C dp un gd cn cs a ccd cl outer A₀ base h₀ L m s Q E B F X N T hk trivial hd hu ret
structure Claims (prog : Program) (P : Params → Frag) (p : Program) (loose : List Str) : Prop where
  oct : ∀ (w : World) (mean : ExcName → Option Value) (mg mb : Str → Option Value) (news : List (Addr × Obj)) (n : Int) (t : Tok), CbClaim prog w (P w.params) p loose mean mg mb 92 news [] True [.int n t] (fun t => .bytes (byteArr (KTBy.little 32 n).reverse) t)
  tb : ∀ (w : World) (mean : ExcName → Option Value) (mg mb : Str → Option Value) (news : List (Addr × Obj)) (n : Int) (t : Tok), 0 ≤ n → n < 256 ^ 32 → CbClaim prog w (P w.params) p loose mean mg mb 56 news [] True [.int n t] (fun t => .bytes (byteArr (KTBy.little 32 n).reverse) t)
  i2b : ∀ (w : World) (mean : ExcName → Option Value) (mg mb : Str → Option Value) (news : List (Addr × Obj)) (n : Int) (t : Tok), n = 2 ∨ n = 3 → CbClaim prog w (P w.params) p loose mean mg mb 49 news [] True [.int n t] (fun t => .bytes (byteArr [n]) t)
  fb : ∀ (w : World) (mean : ExcName → Option Value) (mg mb : Str → Option Value) (news : List (Addr × Obj)) (b : Array UInt8) (t : Tok), b.size ≤ 32 → CbClaim prog w (P w.params) p loose mean mg mb 63 news [] True [.bytes b t] (fun t => .int (KFB.value (KBw.bInts b)) t)
  sec : ∀ (w : World) (mean : ExcName → Option Value) (mg mb : Str → Option Value) (news : List (Addr × Obj)) (b : Array UInt8) (t : Tok) (ks : List Int), KBw.bInts b = ks → ks.length ≤ 1000 → CbClaim prog w (P w.params) p loose mean mg mb 78 news [] True [.bytes b t] (fun _ => .bool (secP (KBy.picked b none (some 1)).toList ks.length))
  comp : ∀ (w : World) (mean : ExcName → Option Value) (mg mb : Str → Option Value) (news : List (Addr × Obj)) (b : Array UInt8) (t : Tok) (ks : List Int), KBw.bInts b = ks → ks.length ≤ 1000 → CbClaim prog w (P w.params) p loose mean mg mb 85 news [] True [.bytes b t] (fun _ => .bool (compP (KBy.picked b none (some 1)).toList))
end
-- part M5
section
open PySem.Calls
open PySem.Builtin.Int (intBits)
def Sm (p : Nat) (v : Int) : Prop := 0 ≤ v ∧ intBits v ≤ p
theorem sm_nums {w : List Int} (h : (PyData.list (w.map PyData.int)).layable0 = true) (j : Nat) :
    Sm 1048576 (((w ++ [2, 1, 3]).map (fun k => if k < 0 then -k else k)).getD j 0) := by
  have each : ∀ k ∈ w ++ [2, 1, 3], Sm 1048576 (if k < 0 then -k else k) := by
    intro k hk
    have hb : intBits k ≤ 1048576 := by
      rcases List.mem_append.mp hk with hk | hk
      · exact PyData.bits_item_of_ints h hk
      · simp only [List.mem_cons, List.not_mem_nil, or_false] at hk
        rcases hk with rfl | rfl | rfl <;> exact Nat.le_trans (m := 2) (intBits_le_iff.mpr (by decide)) (by decide)
    split
    · exact ⟨by omega, bits_neg hb⟩
    · exact ⟨by omega, hb⟩
  rw [List.getD_eq_getElem?_getD]
  cases e : ((w ++ [2, 1, 3]).map (fun k => if k < 0 then -k else k))[j]? with
  | none => exact ⟨Int.le_refl 0, Nat.le_trans (m := 1) (intBits_le_iff.mpr (by decide)) (by decide)⟩
  | some v =>
    obtain ⟨k, hk, rfl⟩ := List.mem_map.mp (List.mem_of_getElem? e)
    exact each k hk
theorem sm_lit {v : Int} (h0 : 0 ≤ v) (h : v.natAbs < 2 ^ 20) : Sm 20 v := ⟨h0, intBits_le_iff.mpr h⟩
theorem Sm.mul {p q : Nat} {a b : Int} (ha : Sm p a) (hb : Sm q b) : Sm (p + q) (a * b) := ⟨Int.mul_nonneg ha.1 hb.1, bits_mul ha.2 hb.2⟩
theorem Sm.add {p q : Nat} {a b : Int} (ha : Sm p a) (hb : Sm q b) : Sm (p + q + 1) (a + b) := ⟨Int.add_nonneg ha.1 hb.1, Nat.le_trans (bits_add ha.2 hb.2) (by omega)⟩
section
variable {prog : Program} {w : World} {A : Around} {E : Value → Shared → Prop} {s : Shared} {a b : Int} {t u : Tok} {p q : Nat}
theorem num_item {value slice : PySem.Expr} {l : Addr} {vs : List Value} {ns : List Int} {k : Int} {Q : Value → Shared → Prop} (hl : s.heap.IsList l vs.toArray)
    (hi : IntsAre vs ((ns ++ [2, 1, 3]).map (fun k => if k < 0 then -k else k))) (hlay : (PyData.list (ns.map PyData.int)).layable0 = true) (h0 : 0 ≤ k) (h1 : k < 3)
    (h : ∀ v t, Sm 1048576 v → Q (.int v t) s)
    (hs : subscripted slice false (.ref l) (.int k u) = operate [.ref l, .int k u] (getItem (.ref l) (.int k u)) := by with_unfolding_all rfl) (hg : ∀ r, letTemporaryGo value (.ref l) r = pure () := by intro _; with_unfolding_all rfl) :
    wpAny (model prog w) A (subscriptTail value slice (.ref l) (.int k u)) Q E s := by
  have hlen := len_ints_list hlay
  refine item_list_ints hl hi h0 (by rw [List.length_map, List.length_append, List.length_cons, List.length_cons, List.length_cons, List.length_nil]; omega) (by omega) (fun t => h _ t (sm_nums hlay _)) hs hg
theorem mul_sm {Q : Value → Shared → Prop} (ha : Sm p a) (hb : Sm q b) (hpq : p + q ≤ 134217728) (h : ∀ v t k, Sm (p + q) v → Q (.int v t) { s with toks := k }) :
    wpAny (model prog w) A (binaryOp .Mult (.int a t) (.int b u)) Q E s :=
  mul_int (h _ _ _ (ha.mul hb)) (mulOk_of_bits ha.2 hb.2 hpq)
theorem add_sm {Q : Value → Shared → Prop} (ha : Sm p a) (hb : Sm q b) (h : ∀ v t k, Sm (p + q + 1) v → Q (.int v t) { s with toks := k }) :
    wpAny (model prog w) A (binaryOp .Add (.int a t) (.int b u)) Q E s :=
  add_int (h _ _ _ (ha.add hb))
theorem mod_sm {Q : Value → Shared → Prop} (m : Int) (_ha : Sm p a) (hm : b = m) (h0 : 0 < m) (h : ∀ v t k, 0 ≤ v → v < m → Q (.int v t) { s with toks := k }) :
    wpAny (model prog w) A (binaryOp .Mod (.int a t) (.int b u)) Q E s := by
  subst hm
  have e : a.fmod b = a % b := Int.fmod_eq_emod_of_nonneg _ (Int.le_of_lt h0)
  refine mod_int (by omega) ?_
  rw [e]
  exact h _ _ _ (Int.emod_nonneg _ (by omega)) (Int.emod_lt_of_pos _ h0)
end
end
-- part M6
section
open PySem.Calls
def Bz (n : Nat) (b : Array UInt8) : Prop := b.size ≤ n
theorem bz_byteArr (ns : List Int) : Bz ns.length (byteArr ns) := by
  show (List.map _ ns).toArray.size ≤ ns.length
  rw [List.size_toArray, List.length_map]
  exact Nat.le_refl _
theorem bz_octs (n : Int) : Bz 32 (byteArr (KTBy.little 32 n).reverse) := by
  have h := bz_byteArr (KTBy.little 32 n).reverse
  rw [List.length_reverse, KTBy.little_length] at h
  exact h
theorem little_in (n : Int) : KBa.In (KTBy.little 32 n).reverse := by
  intro k hk
  rw [List.mem_reverse, KTBy.little_eq, List.mem_map] at hk
  obtain ⟨i, _, rfl⟩ := hk
  omega
theorem foldl_little : ∀ (n : Nat) (y : Int), 0 ≤ y → y < 256 ^ n → (KTBy.little n y).foldr (fun k a => a * 256 + k) 0 = y
  | 0, y, h0, h1 => by
    rw [Int.pow_zero] at h1
    show (0 : Int) = y
    omega
  | n + 1, y, h0, h1 => by
    show (KTBy.little n (y / 256)).foldr (fun k a => a * 256 + k) 0 * 256 + y % 256 = y
    rw [Int.pow_succ] at h1
    rw [foldl_little n (y / 256) (Int.ediv_nonneg h0 (by decide)) (Int.ediv_lt_of_lt_mul (by decide) h1)]
    omega
theorem val_octs {y : Int} (h0 : 0 ≤ y) (h1 : y < 256 ^ 32) : KFB.value (KBw.bInts (byteArr (KTBy.little 32 y).reverse)) = y := by
  rw [KBa.ints_make (little_in y)]
  show List.foldl _ _ _ = y
  rw [List.foldl_reverse]
  exact foldl_little 32 y h0 h1
theorem and_one {y : Int} (h : 0 ≤ y) : Builtin.bitAnd y 1 = y % 2 := by
  obtain ⟨n, rfl⟩ := Int.eq_ofNat_of_zero_le h
  have e : Builtin.bitAnd (n : Int) 1 = ((n &&& 1 : Nat) : Int) := by
    unfold Builtin.bitAnd
    rw [decide_eq_true h, decide_eq_true (show (0 : Int) ≤ 1 by decide)]
    rfl
  rw [e, Nat.and_one_is_mod]
  rfl
section
variable {prog : Program} {w : World} {A : Around} {E : Value → Shared → Prop} {s : Shared} {h₀ : Heap} {L : Addr} {m : PySem.Str → Option Value} {news : List (Addr × Obj)} {a b : Int} {t u : Tok} {x y : Array UInt8} {p q : Nat}
theorem and_one_int {Q : Value → Shared → Prop} (h0 : 0 ≤ a) (h : ∀ t k, Q (.int (a % 2) t) { s with toks := k }) : wpAny (model prog w) A (binaryOp .BitAnd (.int a t) (.int 1 u)) Q E s :=
  and_int (by rw [and_one h0]; exact h _ _)
theorem mod_two_int {Q : Value → Shared → Prop} (h : ∀ t k, Q (.int (a % 2) t) { s with toks := k }) : wpAny (model prog w) A (binaryOp .Mod (.int a t) (.int 2 u)) Q E s :=
  mod_int (by decide) (by rw [Int.fmod_eq_emod_of_nonneg _ (by decide)]; exact h _ _)
theorem add_bz {Q : Value → Shared → Prop} (hx : Bz p x) (hy : Bz q y) (hz : p + q ≤ 16777216) (h : ∀ t k, Bz (p + q) (x ++ y) → Q (.bytes (x ++ y) t) { s with toks := k }) :
    wpAny (model prog w) A (binaryOp .Add (.bytes x t) (.bytes y u)) Q E s := by
  have h1 : x.size ≤ p := hx
  have h2 : y.size ≤ q := hy
  refine KBy.add_bytes (by omega) fun t' k => h t' k ?_
  show (x ++ y).size ≤ p + q
  rw [Array.size_append]
  omega
theorem slice_bz {value slice : PySem.Expr} {l v : Value} {lo hi : Option Int} {Q : Value → Shared → Prop} (hF : Fr h₀ L s.heap m) (hN : News h₀ L s.heap news) (hx : Bz p x) (hp : p ≤ 16777216) (hl : IsPart l lo) (hu : IsPart v hi)
    (h : ∀ c h' t' k, Fr h₀ L h' m → News h₀ L h' news → Bz p c → Q (.bytes c t') { s with heap := h', toks := k })
    (hs : subscripted slice false (.bytes x t) (.ref s.heap.objs.size) = operate [.ref s.heap.objs.size, .bytes x t] (getItem (.bytes x t) (.ref s.heap.objs.size)) := by with_unfolding_all rfl)
    (ht : ∀ r, letTemporaryGo value (.bytes x t) r = pure () := by intro _; with_unfolding_all rfl) :
    wpAny (model prog w) A (subscriptTail value slice (.bytes x t) (.ref s.heap.objs.size)) Q E { s with heap := s.heap.push { cls := .type "slice", data := .fields #[l, v, .none] } } := by
  have h1 : x.size ≤ p := hx
  refine KBc.slice_K hF hN rfl hl hu (by rw [KBw.ints_length]; omega) (fun h' t' k F' N' _ => h _ h' t' k F' N' (Nat.le_trans (KBc.size_picked_le x lo hi) h1)) hs ht
theorem make_bz {D : Addr} {vs : List Value} {ns : List Int} {Q : Value → Shared → Prop} (F : Fr h₀ L s.heap m) (N : News h₀ L s.heap news) (hh : A.handled = none) (hl : s.heap.IsList D vs.toArray) (hi : IntsAre vs ns) (hr : KBa.In ns) (hn : ns.length ≤ 16777216)
    (h : ∀ h' t' k, Fr h₀ L h' m → News h₀ L h' news → Bz ns.length (byteArr ns) → Q (.bytes (byteArr ns) t') { s with heap := h', toks := k }) : wpAny (model prog w) A (call (.type "bytes") [.ref D]) Q E s :=
  KBa.make_K F N hh hl hi hr hn fun h' t' k F' N' _ => h h' t' k F' N' (bz_byteArr ns)
theorem in_one {n : Int} (h0 : 0 ≤ n) (h1 : n < 256) : KBa.In [n] := by
  intro k hk
  rw [List.mem_singleton] at hk
  subst hk
  exact ⟨h0, h1⟩
theorem ne_bytes_same {Q : Value → Shared → Prop} (e : x = y) (h : Q (.bool false) s) : wpAny (model prog w) A (compareOp .NotEq (.bytes x t) (.bytes y u)) Q E s := by
  subst e
  refine ne_bytes ?_
  have e : (x.toList != x.toList) = false := bne_self_eq_false _
  rw [e]
  exact h
theorem ne_int_same {Q : Value → Shared → Prop} (e : a = b) (h : Q (.bool false) s) : wpAny (model prog w) A (compareOp .NotEq (.int a t) (.int b u)) Q E s := by
  subst e
  refine ne_int ?_
  have e : (a != a) = false := bne_self_eq_false _
  rw [e]
  exact h
end
section
variable {prog : Program} {w : World} {A : Around} {E : Value → Shared → Prop} {s : Shared} {env : Env} {h₀ : Heap} {body : List Stmt} {Q : Flow → Shared → Prop}
def TextEnd (h₀ : Heap) (L : Addr) (s : Shared) (m₀ : PySem.Str → Option Value) (I : Addr) (it : Obj) (news : List (Addr × Obj)) (f : Flow) (s₂ : Shared) : Prop :=
  f = .next ∧ ∃ h' tk' m', s₂ = { s with heap := h', toks := tk' } ∧ Fr h₀ L h' m' ∧ News h₀ L h' ((I, it) :: news) ∧ ∀ z, z ≠ PySem.Str.ofString "text" → z ≠ PySem.Str.ofString "begin" → m' z = m₀ z
theorem iter_texts {ax : Addr} {lo : Obj} {vs : List Value} {n : Nat} {m₀ : PySem.Str → Option Value} {news : List (Addr × Obj)}
    (hh : A.handled = none) (F : Fr h₀ env.locals s.heap m₀) (N : News h₀ env.locals s.heap news) (hm : (ax, lo) ∈ news) (hc : lo.cls = .type "list") (hd : lo.data = .seq vs.toArray n)
    (hvs : ∀ v ∈ vs, ∃ b t, v = Value.bytes b t ∧ Bz 1000 b)
    (turn : ∀ (nw : List (Addr × Obj)) (m₁ : PySem.Str → Option Value) (s₁ : Shared) (b : Array UInt8) (t : Tok) (u : Option Value) (I : Addr) (it : Obj) (h : Heap) (tk : Nat) (ks : List Int), KBw.bInts b = ks → ks.length ≤ 1000 →
      Fr h₀ env.locals h (fun y => if y = PySem.Str.ofString "text" then some (.bytes b t) else if y = PySem.Str.ofString "begin" then u else m₁ y) → News h₀ env.locals h ((I, it) :: nw) →
      wpAny (model prog w) A (execs body env) (TextEnd h₀ env.locals s₁ m₁ I it nw) E { s₁ with heap := h, toks := tk })
    (done : ∀ (u u' : Option Value) (h : Heap) (tk : Nat), Fr h₀ env.locals h (fun y => if y = PySem.Str.ofString "text" then u else if y = PySem.Str.ofString "begin" then u' else m₀ y) → News h₀ env.locals h news → Q .next { s with heap := h, toks := tk }) :
    wpAny (model prog w) A (pyIter (.ref ax)) (fun it s₂ => LoopAtV prog w A h₀ env (PySem.Str.ofString "text") body Q E it s₂) E s := by
  refine iter_listUnr hh F N hm hc hd fun I hI => ?_
  have off : ∀ p ∈ news, p.1 ≠ I := fun p hp => Nat.ne_of_lt (hI p hp)
  have main : ∀ (vs : List Value), (∀ v ∈ vs, ∃ b t, v = Value.bytes b t ∧ Bz 1000 b) → ∀ m₁ : PySem.Str → Option Value, (∀ z, z ≠ PySem.Str.ofString "text" → z ≠ PySem.Str.ofString "begin" → m₁ z = m₀ z) →
      ListRest prog w A E h₀ env (PySem.Str.ofString "text") body Q s I (ax, lo) vs m₁ news := by
    intro vs
    induction vs with
    | nil =>
      intro _ m₁ hz
      refine ListRest.zero fun h tk F₁ N₁ => done (m₁ (PySem.Str.ofString "text")) (m₁ (PySem.Str.ofString "begin")) h tk ?_ N₁
      have e : (fun y => if y = PySem.Str.ofString "text" then m₁ (PySem.Str.ofString "text") else if y = PySem.Str.ofString "begin" then m₁ (PySem.Str.ofString "begin") else m₀ y) = m₁ := by
        funext y
        by_cases e1 : y = PySem.Str.ofString "text"
        · rw [if_pos e1, e1]
        · rw [if_neg e1]
          by_cases e2 : y = PySem.Str.ofString "begin"
          · rw [if_pos e2, e2]
          · rw [if_neg e2]; exact (hz y e1 e2).symm
      rw [e]
      exact F₁
    | cons v r ih =>
      intro hv m₁ hz
      obtain ⟨b, t, rfl, hb⟩ := hv v (List.mem_cons_self ..)
      refine ListRest.succ fun it h tk _ F₁ N₁ => ?_
      have e : (fun y => if y = PySem.Str.ofString "text" then some (Value.bytes b t) else m₁ y) = fun y => if y = PySem.Str.ofString "text" then some (Value.bytes b t) else if y = PySem.Str.ofString "begin" then m₁ (PySem.Str.ofString "begin") else m₀ y := by
        funext y
        by_cases e1 : y = PySem.Str.ofString "text"
        · rw [if_pos e1, if_pos e1]
        · rw [if_neg e1, if_neg e1]
          by_cases e2 : y = PySem.Str.ofString "begin"
          · rw [if_pos e2, e2]
          · rw [if_neg e2]; exact hz y e1 e2
      rw [e] at F₁
      refine wpAny_mono (turn news m₀ s b t _ I it h tk _ rfl (by rw [KBw.ints_length]; exact hb) F₁ N₁) (fun f s₂ p => ?_) fun _ _ e => e
      obtain ⟨rfl, h', tk', m', rfl, F', N', hz'⟩ := p
      exact ⟨h', tk', m', news, rfl, F', N', off, hm, ih (fun v hv' => hv v (List.mem_cons_of_mem _ hv')) m' hz'⟩
  exact main vs hvs m₀ fun _ _ _ => rfl
end
end
-- part M7
section
theorem picked_one (b : Array UInt8) : (KBy.picked b none (some 1)).toList = b.toList.take 1 := by
  rw [KBc.picked_eq]
  show (List.take (clipAt b.size 1 - 0) (List.drop 0 b.toList)) = b.toList.take 1
  rw [List.drop_zero, Nat.sub_zero, show clipAt b.size 1 = min 1 b.size from clipAt_nat b.size 1]
  cases h : b.toList with
  | nil => simp
  | cons c r =>
    have : b.size = r.length + 1 := by rw [← Array.length_toList, h]; rfl
    rw [this]
    have e : min 1 (r.length + 1) = 1 := by omega
    rw [e]
theorem first_some {b : Array UInt8} {ks : List Int} (hks : KBw.bInts b = ks) (h : (0 : Int) < (ks.length : Int)) :
    ∃ c : UInt8, (KBy.picked b none (some 1)).toList = [c] ∧ ks.getD (Int.toNat 0) 0 = (c.toNat : Int) := by
  subst hks
  rw [picked_one]
  unfold KBw.bInts at h ⊢
  cases e : b.toList with
  | nil => rw [e] at h; exact absurd h (by simp)
  | cons c r => exact ⟨c, rfl, rfl⟩
theorem first_none {b : Array UInt8} {ks : List Int} (hks : KBw.bInts b = ks) (h : ¬ (0 : Int) < (ks.length : Int)) : (KBy.picked b none (some 1)).toList = [] := by
  subst hks
  rw [picked_one]
  have hl := KBw.ints_length b
  have : b.toList.length = 0 := by rw [Array.length_toList]; omega
  rw [List.length_eq_zero_iff.mp this]
  rfl
theorem u8_eq (c : UInt8) (n : Nat) (hn : n < 256) : (UInt8.ofNat n == c) = ((n : Int) == (c.toNat : Int)) := by
  rw [Bool.eq_iff_iff, beq_iff_eq, beq_iff_eq]
  constructor
  · intro h
    rw [← h, UInt8.toNat_ofNat']
    omega
  · intro h
    have h2 : n = c.toNat := by omega
    rw [h2]
    exact UInt8.ofNat_toNat
theorem comp_some (c : UInt8) (k : Int) (hk : k = (c.toNat : Int)) : compP [c] = ([2, 3].any fun x => x == k) := by
  subst hk
  have h2 := u8_eq c 2 (by decide)
  have h3 := u8_eq c 3 (by decide)
  show (([2] == [c]) || ([3] == [c])) = (((2 : Int) == (c.toNat : Int)) || (((3 : Int) == (c.toNat : Int)) || false))
  rw [Bool.or_false]
  show (((2 : UInt8) == c && true) || ((3 : UInt8) == c && true)) = _
  rw [Bool.and_true, Bool.and_true]
  exact congr (congrArg _ h2) h3
theorem four_some (c : UInt8) (k : Int) (hk : k = (c.toNat : Int)) : ([c] == [4]) = (k == 4) := by
  subst hk
  have h4 := u8_eq c 4 (by decide)
  show ((c == (4 : UInt8)) && true) = _
  rw [Bool.and_true, Bool.eq_iff_iff, beq_iff_eq, beq_iff_eq]
  rw [Bool.eq_iff_iff, beq_iff_eq, beq_iff_eq] at h4
  exact ⟨fun h => (h4.mp h.symm).symm, fun h => (h4.mpr h.symm).symm⟩
theorem turn_comp1 {b : Array UInt8} {ks : List Int} (hks : KBw.bInts b = ks) (h : (0 : Int) < (ks.length : Int)) :
    compP (KBy.picked b none (some 1)).toList = ([2, 3].any fun x => x == ks.getD (Int.toNat 0) 0) := by
  obtain ⟨c, e, hk⟩ := first_some hks h
  rw [e]
  exact comp_some c _ hk
theorem turn_comp2 {b : Array UInt8} {ks : List Int} (hks : KBw.bInts b = ks) (h : ¬ (0 : Int) < (ks.length : Int)) :
    compP (KBy.picked b none (some 1)).toList = ([2, 3].any fun x => x == (0 : Int)) := by
  rw [first_none hks h]
  rfl
theorem turn_sec1 {b : Array UInt8} {ks : List Int} (hks : KBw.bInts b = ks) (h : (0 : Int) < (ks.length : Int)) (n : Int) :
    secP (KBy.picked b none (some 1)).toList n = ((([2, 3].any fun x => x == ks.getD (Int.toNat 0) 0) && n == 33) || (ks.getD (Int.toNat 0) 0 == 4 && n == 65)) := by
  obtain ⟨c, e, hk⟩ := first_some hks h
  rw [e]
  unfold secP
  rw [comp_some c _ hk, four_some c _ hk]
theorem turn_sec2 {b : Array UInt8} {ks : List Int} (hks : KBw.bInts b = ks) (h : ¬ (0 : Int) < (ks.length : Int)) (n : Int) :
    secP (KBy.picked b none (some 1)).toList n = false := by
  rw [first_none hks h]
  rfl
section
variable {b : Array UInt8} {ks : List Int} {n : Int}
theorem turn_s1 (hks : KBw.bInts b = ks) (h : (0 : Int) < (ks.length : Int)) (ha : ([2, 3].any fun x => x == ks.getD (Int.toNat 0) 0) = true) (hn : n = 33) :
    secP (KBy.picked b none (some 1)).toList n = (n == 33) := by
  rw [turn_sec1 hks h, ha]
  subst hn
  simp
theorem turn_s2 (hks : KBw.bInts b = ks) (h : (0 : Int) < (ks.length : Int)) (hn : n ≠ 33) (hk : ks.getD (Int.toNat 0) 0 = 4) :
    secP (KBy.picked b none (some 1)).toList n = (n == 65) := by
  rw [turn_sec1 hks h, hk]
  have e : (n == 33) = false := by simpa using hn
  rw [e]
  simp
theorem turn_s3 (hks : KBw.bInts b = ks) (h : (0 : Int) < (ks.length : Int)) (hn : n ≠ 33) (hk : ks.getD (Int.toNat 0) 0 ≠ 4) :
    secP (KBy.picked b none (some 1)).toList n = (ks.getD (Int.toNat 0) 0 == 4) := by
  rw [turn_sec1 hks h]
  have e : (n == 33) = false := by simpa using hn
  have e2 : (ks.getD (Int.toNat 0) 0 == 4) = false := beq_eq_false_iff_ne.mpr hk
  rw [e, e2]
  simp
theorem turn_s4 (hks : KBw.bInts b = ks) (h : (0 : Int) < (ks.length : Int)) (ha : ([2, 3].any fun x => x == ks.getD (Int.toNat 0) 0) = false) (hk : ks.getD (Int.toNat 0) 0 = 4) :
    secP (KBy.picked b none (some 1)).toList n = (n == 65) := by
  rw [turn_sec1 hks h, ha, hk]
  simp
theorem turn_s5 (hks : KBw.bInts b = ks) (h : (0 : Int) < (ks.length : Int)) (ha : ([2, 3].any fun x => x == ks.getD (Int.toNat 0) 0) = false) (hk : ks.getD (Int.toNat 0) 0 ≠ 4) :
    secP (KBy.picked b none (some 1)).toList n = (ks.getD (Int.toNat 0) 0 == 4) := by
  rw [turn_sec1 hks h, ha]
  have e2 : (ks.getD (Int.toNat 0) 0 == 4) = false := beq_eq_false_iff_ne.mpr hk
  rw [e2]
  simp
theorem turn_s6 (hks : KBw.bInts b = ks) (h : ¬ (0 : Int) < (ks.length : Int)) : secP (KBy.picked b none (some 1)).toList n = ((0 : Int) == 4) := by
  rw [turn_sec2 hks h]
  rfl
end
section
variable {prog : Program} {w : World} {A : Around} {E : Value → Shared → Prop} {s : Shared} {a b : Bool}
theorem ne_bool_same {Q : Value → Shared → Prop} (e : a = b) (h : Q (.bool false) s) : wpAny (model prog w) A (compareOp .NotEq (.bool a) (.bool b)) Q E s := by
  subst e
  refine ne_bool ?_
  cases a <;> exact h
end
end
-- part M8
section
def lawBody : List Stmt → List Stmt × Option Scope
  | [] => ([], none)
  | [.FunctionDef _ _ b _ _ _ sc _ _ _] => (b, some sc)
  | _ :: r => lawBody r
def forBody : List Stmt → List Stmt
  | [] => []
  | .For _ _ b _ _ :: _ => b
  | _ :: r => forBody r
def TurnClaim (prog : Program) (P : Params → Frag) (p : Program) (loose : List Str) (bd : List Stmt) (cs : Scope) : Prop :=
  ∀ (w : World) (mean : ExcName → Option Value) (mg mb : Str → Option Value) (dp un : Nat) (gd : Option (List PySem.Code)) (cn : Str) (a : Addr) (ccd : Value) (outer : List Env) (A₀ : Around) (base h₀ : Heap) (L : Addr) (m₁ : Str → Option Value) (s₁ : Shared)
    (nw : List (Addr × Obj)) (b : Array UInt8) (t : Tok) (u : Option Value) (I : Addr) (it : Obj) (h : Heap) (tk : Nat) (ks : List Int) (E : Value → Shared → Prop),
    Below A₀ base outer h₀ → (P w.params).In h₀ → Top p loose mean mg mb h₀ → dp + 1 < recursionLimit → un + 8 < cLine → KBw.bInts b = ks → ks.length ≤ 1000 →
    Fr h₀ L h (fun y => if y = PySem.Str.ofString "text" then some (.bytes b t) else if y = PySem.Str.ofString "begin" then u else m₁ y) → News h₀ L h ((I, it) :: nw) →
    wpAny (model prog w) (ktrTop dp un gd cn cs L a ccd [] outer) (execs bd (envOf cn cs L a ccd)) (TextEnd h₀ L s₁ m₁ I it nw) E { s₁ with heap := h, toks := tk }
end
-- part M9
section
theorem bz_lit (l : List UInt8) : Bz l.length l.toArray := Nat.le_refl _
theorem bz_up {n : Nat} {b : Array UInt8} {t : Tok} (h : Bz n b) (hn : n ≤ 1000) : ∃ b' t', Value.bytes b t = Value.bytes b' t' ∧ Bz 1000 b' := ⟨b, t, rfl, Nat.le_trans h hn⟩
theorem octs_len (n : Int) : (KTBy.little 32 n).reverse.length = 32 := by rw [List.length_reverse, KTBy.little_length]
theorem sec1 {c : List UInt8} {n : Int} (h : ([2] == c || [3] == c) = true) (h2 : n = 33) : true = secP c n := by
  subst h2; simp [secP, compP, h]
theorem sec2 {c : List UInt8} {n : Int} (h : (c == [4]) = true) : (n == 65) = secP c n := by
  have e := eq_of_beq h
  subst e
  simp [secP, compP]
theorem sec3 {c : List UInt8} {n : Int} (h2 : ¬ n = 33) (h : (c == [4]) = false) : (c == [4]) = secP c n := by
  have e : (n == 33) = false := by simpa using h2
  rw [secP, h, e]; simp
theorem sec5 {c : List UInt8} {n : Int} (h2 : ([2] == c || [3] == c) = false) (h : (c == [4]) = false) : (c == [4]) = secP c n := by
  have e : compP c = false := h2
  rw [secP, h, e]; simp
theorem cb_retY {h₀ h' : Heap} {L : Addr} {m : Str → Option Value} {news : List (Addr × Obj)} {s : Shared} {Q : Value → Shared → Prop} {t : Tok} {tk' : Nat} {x y : Array UInt8}
    (hret : ∀ (t : Tok) (h' : Heap) (tk' : Nat), Fr h₀ L h' m → News h₀ L h' news → Q (.bytes x t) { s with heap := h', toks := tk' }) (e : y = x) (F : Fr h₀ L h' m) (N : News h₀ L h' news) :
    Q (.bytes y t) { s with heap := h', toks := tk' } := by
  subst e
  exact hret t h' tk' F N
def TurnAll (prog : Program) (P : Params → Frag) (p : Program) (loose : List Str) : Prop :=
  ∀ cs : Scope, (lawBody prog.main.body).2 = some cs → TurnClaim prog P p loose (forBody (lawBody prog.main.body).1) cs
theorem turn_use {prog : Program} {P : Params → Frag} {p : Program} {loose : List Str} (TT : TurnAll prog P p loose) {cs : Scope} (hcs : (lawBody prog.main.body).2 = some cs)
    {w : World} {mean : ExcName → Option Value} {mg mb : Str → Option Value} {dp un : Nat} {gd : Option (List PySem.Code)} {cn : Str} {a : Addr} {ccd : Value} {outer : List Env} {A₀ : Around} {base h₀ : Heap} {L : Addr} {m₁ : Str → Option Value} {s₁ : Shared}
    {nw : List (Addr × Obj)} {b : Array UInt8} {t : Tok} {u : Option Value} {I : Addr} {it : Obj} {h : Heap} {tk : Nat} {ks : List Int} {E : Value → Shared → Prop}
    (B : Below A₀ base outer h₀) (X : (P w.params).In h₀) (T : Top p loose mean mg mb h₀) (hd : dp + 1 < recursionLimit) (hu : un + 8 < cLine) (hks : KBw.bInts b = ks) (hkl : ks.length ≤ 1000)
    (F : Fr h₀ L h (fun y => if y = PySem.Str.ofString "text" then some (.bytes b t) else if y = PySem.Str.ofString "begin" then u else m₁ y)) (N : News h₀ L h ((I, it) :: nw)) :
    wpAny (model prog w) (ktrTop dp un gd cn cs L a ccd [] outer) (execs (forBody (lawBody prog.main.body).1) (envOf cn cs L a ccd)) (TextEnd h₀ L s₁ m₁ I it nw) E { s₁ with heap := h, toks := tk } :=
  TT cs hcs w mean mg mb dp un gd cn a ccd outer A₀ base h₀ L m₁ s₁ nw b t u I it h tk ks E B X T hd hu hks hkl F N
theorem with_claims {q : Program} {loose : List Str} {XP : (Str → Option Value) → Heap → Prop} {K : Params → Frag} {as : List Addr} {e : ∀ P, as = (K P).map (·.1)} {r : RowW} {d : DefRec} {kwd : List (Str × Expr)} {run : Value → List Value → Sem Value}
    (c : Claims r.prog K q (looseW q loose)) (tn : Claims r.prog K q (looseW q loose) → TurnAll r.prog K q (looseW q loose))
    (walk : Claims r.prog K q (looseW q loose) → TurnAll r.prog K q (looseW q loose) → WalkO q loose XP (kHook K as e).says r d kwd run) : WalkO q loose XP (kHook K as e).says r d kwd run := walk c (tn c)
end
end Mine
open Mine
local macro_rules | `(tactic| walk_at "compareOp In bytes ref") => `(tactic| (k_here; (with_reducible show wpAny _ _ (compareOp CmpOp.In (Value.bytes _ _) (Value.ref _)) _ _ _); k_dflt (refine' in_tup_bytes2 ?t ?_; (case t => exact News.isTup (by k_asm) (by k_mem)); k_whole)))
local macro_rules | `(tactic| walk_at "pyIter ref") => `(tactic| (k_here; (with_reducible show wpAny _ _ (pyIter (Value.ref _)) (fun it s₂ => LoopAtV _ _ _ _ _ _ _ _ _ it s₂) _ _); (rename Fr _ _ _ _ => lF'); (rename News _ _ _ _ => lN'); (with_unfolding_all refine' iter_oct (by rfl) (by assumption) lF' lN' (by rfl) (by rfl) (fun i t l vs nn tn h tk I it hi hI hc F N => ?_) (fun l vs nn tn u h tk hI F N => ?_)); (all_goals clear lF' lN'); (have hlv := IntsAre.length (by assumption)); (rw [List.length_reverse, KTBy.little_length] at hlv); (try dsimp only [envOf] at *)))
local macro_rules | `(tactic| walk_at "callWith builtin:int.to_bytes") => `(tactic| (k_here; with_unfolding_all refine toBytes_with (by assumption) (by assumption) ?_; intro _ _))
local macro_rules | `(tactic| walk_at "call builtin:_struct.pack") => `(tactic| (k_here; with_unfolding_all refine pack_call (by assumption) ?_; intro _ _))
local macro_rules | `(tactic| walk_at "callWith ref") => `(tactic| (k_here; kfb_any; with_unfolding_all refine FB.with_kw (by rfl) (by rfl) ?_))
local macro_rules | `(tactic| walk_at "call ref") => `(tactic| (k_here; (with_reducible show wpAny _ _ (call (Value.ref _) [Value.bytes _ _] _) _ _ _); with_unfolding_all refine FB.call_kw (KFB.at_of (by k_asm) (by k_mem)) (by assumption) ?_))
local macro_rules | `(tactic| walk_at "subscriptTail Name Constant ref int") => `(tactic| (k_here; (with_reducible show wpAny _ _ (subscriptTail _ _ (Value.ref _) (Value.int _ _)) _ _ _); (with_unfolding_all refine' num_item ?k1 ?k2 ?k3 ?k4 ?k5 ?_; (case k1 => is_list); (case k2 => assumption); (case k3 => assumption); (case k4 => decide); (case k5 => decide)); intro v t hv))
local macro_rules | `(tactic| walk_at "binaryOp Mult int int") => `(tactic| (k_here; (with_reducible refine' mul_sm ?k1 ?k2 ?k3 ?_; (case k1 => first | assumption | exact sm_lit (by decide) (by decide)); (case k2 => first | assumption | exact sm_lit (by decide) (by decide)); (case k3 => decide)); intro v t k hv))
local macro_rules | `(tactic| walk_at "binaryOp Add int int") => `(tactic| (k_here; (with_reducible refine' add_sm ?k1 ?k2 ?_; (case k1 => assumption); (case k2 => assumption)); intro v t k hv))
local macro_rules | `(tactic| walk_at "binaryOp Mod int int") => `(tactic| (k_here; first
  | ((with_reducible refine' mod_two_int ?_); intro t k)
  | ((with_reducible refine' mod_sm (256 ^ 32) ?k1 ?k2 ?k3 ?_; (case k1 => assumption); (case k2 => with_unfolding_all decide +kernel); (case k3 => decide +kernel)); intro v t k hv0 hv1)
  | ((with_reducible refine' mod_sm _ ?k1 rfl ?k3 ?_; (case k1 => assumption); (case k3 => decide)); intro v t k hv0 hv1)))
local macro_rules | `(tactic| walk_at "binaryOp BitAnd int int") => `(tactic| (k_here; (with_reducible refine' and_one_int ?k1 ?_; (case k1 => assumption)); intro t k))
local macro_rules | `(tactic| walk_at "compareOp NotEq bytes bytes") => `(tactic| (k_here; (with_reducible refine' ne_bytes_same ?k1 ?_); (case k1 => with_unfolding_all exact rfl)))
local macro_rules | `(tactic| walk_at "compareOp NotEq int int") => `(tactic| (k_here; (with_reducible refine' ne_int_same ?k1 ?_); (case k1 => exact val_octs (by assumption) (by assumption))))
local macro_rules | `(tactic| walk_at "binaryOp Add bytes bytes") => `(tactic| (k_here; (with_reducible refine' add_bz ?k1 ?k2 ?k3 ?_; (case k1 => first | assumption | exact bz_lit _ | exact bz_octs _ | exact bz_byteArr _); (case k2 => first | assumption | exact bz_lit _ | exact bz_octs _ | exact bz_byteArr _); (case k3 => with_unfolding_all exact Nat.le_of_ble_eq_true rfl)); intro t k hz))
local macro_rules | `(tactic| walk_at "subscriptTail") => `(tactic| (k_here; (with_reducible show wpAny _ _ (subscriptTail _ (Expr.Slice _ _ none _) (Value.bytes _ _) (Value.ref _)) _ _ _); (with_reducible rename Fr _ _ _ _ => F'); (with_reducible rename News _ _ _ _ => N'); (refine' slice_bz (s := ⟨_, _, _, _, _⟩) F' N' ?k1 ?k2 (by constructor) (by constructor) ?_; (case k1 => assumption); (case k2 => with_unfolding_all exact Nat.le_of_ble_eq_true rfl)); intro c h' t' k' F' N' hz))
local macro_rules | `(tactic| walk_at "call type:bytes") => `(tactic| (k_here; (with_reducible show wpAny _ _ (call (Value.type "bytes") [Value.ref _]) _ _ _); k_dflt (refine' make_bz ?kbaF ?kbaN ?kbah ?kbal ?kbai ?kbar ?kban ?_; (case kbaF => k_asm); (case kbaN => k_asm); (case kbah => rfl); (case kbal => kba_isList); (case kbai => kba_listInts); (case kbar => exact in_one (by omega) (by omega)); (case kban => exact Nat.le_of_ble_eq_true rfl)); intro _ _ _ F' N' hz))
local macro_rules | `(tactic| walk_at "call ref") => `(tactic| (k_here; (with_reducible show wpAny _ _ (call (Value.ref _) [Value.int _ _]) _ _ _); (rename Claims _ _ _ _ => CC); k_dflt (first
  | (refine' cb_use (Claims.oct CC _ _ _ _ _ _ _) ?k1 ?k2 ?k3 ?k4 ?k5 ?kK ?kd ?ku ?_; (case k1 => k_asm); (case k2 => k_asm); (case k3 => k_asm); (case k4 => k_asm); (case k5 => k_asm); (case kK => first | exact rfl | assumption); (case kd => ktr_room); (case ku => ktr_units); intro t9 h9 tk9 F9 N9)
  | (refine' cb_use (Claims.tb CC _ _ _ _ _ _ _ ?p1 ?p2) ?k1 ?k2 ?k3 ?k4 ?k5 ?kK ?kd ?ku ?_; (case p1 => assumption); (case p2 => assumption); (case k1 => k_asm); (case k2 => k_asm); (case k3 => k_asm); (case k4 => k_asm); (case k5 => k_asm); (case kK => first | exact rfl | assumption); (case kd => ktr_room); (case ku => ktr_units); intro t9 h9 tk9 F9 N9)
  | (refine' cb_use (Claims.i2b CC _ _ _ _ _ _ _ ?p1) ?k1 ?k2 ?k3 ?k4 ?k5 ?kK ?kd ?ku ?_; (case p1 => omega); (case k1 => k_asm); (case k2 => k_asm); (case k3 => k_asm); (case k4 => k_asm); (case k5 => k_asm); (case kK => first | exact rfl | assumption); (case kd => ktr_room); (case ku => ktr_units); intro t9 h9 tk9 F9 N9))))
local macro_rules | `(tactic| walk_at "call ref") => `(tactic| (k_here; (with_reducible show wpAny _ _ (call (Value.ref _) [Value.bytes _ _]) _ _ _); (rename Claims _ _ _ _ => CC); k_dflt (first
  | (refine' cb_use (Claims.fb CC _ _ _ _ _ _ _ ?p1) ?k1 ?k2 ?k3 ?k4 ?k5 ?kK ?kd ?ku ?_; (case p1 => exact bz_octs _); (case k1 => k_asm); (case k2 => k_asm); (case k3 => k_asm); (case k4 => k_asm); (case k5 => k_asm); (case kK => first | exact rfl | assumption); (case kd => ktr_room); (case ku => ktr_units); intro t9 h9 tk9 F9 N9)
  | (refine' cb_use (Claims.sec CC _ _ _ _ _ _ _ _ ?p1 ?p2) ?k1 ?k2 ?k3 ?k4 ?k5 ?kK ?kd ?ku ?_; (case p1 => assumption); (case p2 => assumption); (case k1 => k_asm); (case k2 => k_asm); (case k3 => k_asm); (case k4 => k_asm); (case k5 => k_asm); (case kK => first | exact rfl | assumption); (case kd => ktr_room); (case ku => ktr_units); intro t9 h9 tk9 F9 N9)
  | (refine' cb_use (Claims.comp CC _ _ _ _ _ _ _ _ ?p1 ?p2) ?k1 ?k2 ?k3 ?k4 ?k5 ?kK ?kd ?ku ?_; (case p1 => assumption); (case p2 => assumption); (case k1 => k_asm); (case k2 => k_asm); (case k3 => k_asm); (case k4 => k_asm); (case k5 => k_asm); (case kK => first | exact rfl | assumption); (case kd => ktr_room); (case ku => ktr_units); intro t9 h9 tk9 F9 N9))))
local macro_rules | `(tactic| walk_at "exec For Name Name cons nil") => `(tactic| (k_here; (rename Fr _ _ _ _ => lF'); (with_unfolding_all refine' For_invVF lF' ?k1 ?k2 ?_; (case k1 => exact rfl); (case k2 => exact rfl); k_whole)))
local macro_rules | `(tactic| walk_at "compareOp NotEq bool bool") => `(tactic| (k_here; (with_reducible refine' ne_bool_same ?k1 ?_); (case k1 => first | exact turn_comp1 (by assumption) (by assumption) | exact turn_comp2 (by assumption) (by assumption) | exact turn_s1 (by assumption) (by assumption) (by assumption) (by assumption) | exact turn_s2 (by assumption) (by assumption) (by assumption) (by assumption) | exact turn_s3 (by assumption) (by assumption) (by assumption) (by assumption) | exact turn_s4 (by assumption) (by assumption) (by assumption) (by assumption) | exact turn_s5 (by assumption) (by assumption) (by assumption) (by assumption) | exact turn_s6 (by assumption) (by assumption))))
local macro_rules | `(tactic| walk_at "pyIter ref") => `(tactic| (k_here; (with_reducible show wpAny _ _ (pyIter (Value.ref _)) (fun it s₂ => LoopAtV _ _ _ _ _ _ _ _ _ it s₂) _ _); (rename TurnAll _ _ _ _ => TT); (rename Fr _ _ _ _ => lF'); (rename News _ _ _ _ => lN'); (with_unfolding_all refine' iter_texts (by rfl) lF' lN' (by k_mem) (by rfl) (by rfl) ?hvs ?turn (fun u u' h tk F N => ?_)); (case hvs => repeat' (first | exact List.forall_mem_nil _ | (refine List.forall_mem_cons.mpr ⟨bz_up (by assumption) (by with_unfolding_all exact Nat.le_of_ble_eq_true rfl), ?_⟩))); (case turn => (intro nw m1 s1 b t u I it h tk ks hks hkl F N; with_unfolding_all refine' turn_use TT ?hcs ?hB ?hX ?hT ?hd ?hu hks hkl F N; (case hcs => with_unfolding_all exact rfl); (case hB => k_asm); (case hX => k_asm); (case hT => k_asm); (case hd => ktr_room); (case hu => ktr_units))); (clear lF' lN'); (try dsimp only [envOf] at *)))
local macro_rules | `(tactic| k_steps) => `(tactic| repeat' (first | (k_unfold; (try dsimp only)) | (k_end; wrow_close) | (walk1 <;> try dsimp only) | (dsimp only; walk1) | (leave1; walk_say "STEP leave1"; try dsimp only) | fail "no step"))
set_option maxRecDepth 100000 in
set_option maxHeartbeats 100000000 in
theorem PySem.Challenge.cw_fe0229_01_holds : PySem.Challenge.rw_fe0229_01.Holds := by
  w_on
  o_law
  k_head
  (case hw => w_witness2)
  refine' Mine.with_claims ?claims ?turn ?walk
  case claims =>
    k_fill
    refine ⟨?_, ?_, ?_, ?_, ?_, ?_⟩
    · intro w mean mg mb news n t
      have hIn := Mine.little_in n
      have hLen := Mine.octs_len n
      dsimp only [CbClaim, CbLists, CbRet]
      intros
      rename_i hret
      refine wpAny_call ?_
      k_dflt cell_enter
      k_steps
      · (try dsimp only)
        exact Mine.oct_close (by assumption) (by assumption) (by assumption) rfl rfl (fun z h1 h2 h3 => by simp only [if_neg h1, if_neg h2, if_neg h3])
      · exact Mine.cb_retY hret rfl (by k_asm) (cb_drop (by assumption) (by kcj_all))
    · intro w mean mg mb news n t hn h2
      dsimp only [CbClaim, CbLists, CbRet]
      intros
      rename_i hret
      refine wpAny_call ?_
      k_dflt cell_enter
      k_steps
      all_goals exact Mine.cb_retY hret rfl (by k_asm) (cb_drop (by assumption) (by kcj_all))
    · intro w mean mg mb news n t hn
      dsimp only [CbClaim, CbLists, CbRet]
      intros
      rename_i hret
      refine wpAny_call ?_
      k_dflt cell_enter
      k_steps
      all_goals exact Mine.cb_retY hret rfl (by k_asm) (cb_drop (by assumption) (by kcj_all))
    · intro w mean mg mb news b t hkl
      dsimp only [CbClaim, CbLists, CbRet]
      intros
      rename_i hret
      refine wpAny_call ?_
      k_dflt cell_enter
      k_steps
      all_goals exact cb_retI hret rfl (by k_asm) (cb_drop (by assumption) (by kcj_all))
    · intro w mean mg mb news b t ks hks hkl
      dsimp only [CbClaim, CbLists, CbRet]
      intros
      rename_i hret
      refine wpAny_call ?_
      k_dflt cell_enter
      k_steps
      all_goals (
        refine' cb_retB hret ?e1 ?e2 ?e3
        (case e2 => k_asm)
        (case e3 => exact cb_drop (by assumption) (by kcj_all))
        (case e1 => first | exact Mine.sec1 (by assumption) (by assumption) | exact Mine.sec2 (by assumption) | exact Mine.sec3 (by assumption) (by assumption) | exact Mine.sec5 (by assumption) (by assumption)))
    · intro w mean mg mb news b t ks hks hkl
      dsimp only [CbClaim, CbLists, CbRet]
      intros
      rename_i hret
      refine wpAny_call ?_
      k_dflt cell_enter
      k_steps
      all_goals exact cb_retB hret rfl (by k_asm) (cb_drop (by assumption) (by kcj_all))

  case turn =>
    intro C cs hcs
    k_fill
    unfold Mine.TurnClaim
    obtain ⟨bd, hbd⟩ : ∃ bd, Mine.forBody (Mine.lawBody PySem.Challenge.rw_fe0229_01.row.prog.main.body).1 = bd := ⟨_, rfl⟩
    with_unfolding_all rw [hbd]
    (with_unfolding_all conv at hbd => lhs; whnf)
    (with_unfolding_all conv at hcs => lhs; whnf)
    have hcs' := Option.some.inj hcs
    subst hcs' hbd
    intro w mean mg mb dp un gd cn a ccd outer A₀ base h₀ L m₁ s₁ nw b t u I it h tk ks E B X T hd hu hks hkl F N
    k_steps
    all_goals exact ⟨rfl, _, _, _, rfl, by assumption, cb_drop (by assumption) (by kcj_all), fun z h1 h2 => by simp only [if_neg h1, if_neg h2]⟩
  case walk =>
    intro C TN
    w_strict (k_go0; (all_goals try k_fold); k_steps; (all_goals (try k_data)); all_goals w_report)
