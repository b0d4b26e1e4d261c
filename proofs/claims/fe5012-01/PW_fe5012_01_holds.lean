import PyProof.Rows.All
import Wide.All
import OpenK.AllK
import Wide.FinOn
import PySem.Challenge.RW_fe5012_01
open PySem PySem.W PyProof.Rows
set_option Elab.async false
set_option maxRecDepth 100000
set_option maxHeartbeats 16000000
set_option linter.all false
open_top hd for PySem.Challenge.rw_fe5012_01
section SBs0
namespace Mine
theorem item_ints {prog : Program} {w : World} {A : Around} {E : Value → Shared → Prop} {s : Shared} {value slice : PySem.Expr} {h₀ : Heap} {L l : Addr} {news : List (Addr × Obj)} {vs : List Value} {xs : List Int} {n : Nat} {k : Int} {u : Tok} {Q : Value → Shared → Prop}
    (N : News h₀ L s.heap news) (hm : (l, listOf vs.toArray n) ∈ news) (hi : IntsAre vs xs) (h0 : 0 ≤ k) (hk : k < (xs.length : Int)) (hb : k < 2 ^ 63) (h : ∀ t, Q (.int (xs.getD k.toNat 0) t) s)
    (hs : subscripted slice false (.ref l) (.int k u) = operate [.ref l, .int k u] (getItem (.ref l) (.int k u))) :
    wpAny (model prog w) A (subscriptTail value slice (.ref l) (.int k u)) Q E s := by
  have hL : s.heap.IsList l vs.toArray := ⟨_, (N _ hm).1, rfl, n, rfl⟩
  have hlt : k.toNat < vs.length := by rw [hi.length]; omega
  obtain ⟨v, hv⟩ : ∃ v, vs[k.toNat]? = some v := ⟨_, List.getElem?_eq_getElem hlt⟩
  obtain ⟨t, rfl⟩ := hi.int_at _ _ hv
  exact tail_any hL.typeIs slot_list_getitem.lookup (wpAny_getItem_list hL h0 hb (by simpa using hv) (h t)) hs
theorem item_at {prog : Program} {w : World} {A : Around} {E : Value → Shared → Prop} {s : Shared} {value slice : PySem.Expr} {h₀ : Heap} {L l : Addr} {news : List (Addr × Obj)} {vs : List Value} {n : Nat} {k : Int} {u : Tok} {v : Value} {Q : Value → Shared → Prop}
    (N : News h₀ L s.heap news) (hm : (l, listOf vs.toArray n) ∈ news) (hv : vs[k.toNat]? = some v) (h0 : 0 ≤ k) (hb : k < 2 ^ 63) (h : Q v s)
    (hs : subscripted slice false (.ref l) (.int k u) = operate [.ref l, .int k u] (getItem (.ref l) (.int k u))) :
    wpAny (model prog w) A (subscriptTail value slice (.ref l) (.int k u)) Q E s := by
  have hL : s.heap.IsList l vs.toArray := ⟨_, (N _ hm).1, rfl, n, rfl⟩
  exact tail_any hL.typeIs slot_list_getitem.lookup (wpAny_getItem_list hL h0 hb (by simpa using hv) h) hs
end Mine
end SBs0
local macro_rules | `(tactic| news_mem) => `(tactic| kcf_m)
local macro_rules | `(tactic| k_mem) => `(tactic| kcf_m)
local macro_rules | `(tactic| keq_hits) => `(tactic| first
  | (refine' code_def ?k1 ?k2 ?k3 ?k4 ?k5 ?kA ?kF ?kK ?k6 ?k7 ?k8 ?k9 ?kB ?_ ?c2 ?c3 ?c4 ?c5; (case kA => exact rfl); (case kF => exact rfl); (case kK => assumption); (case k1 => k_asm); (case k2 => k_asm); (case k3 => k_asm); (case k4 => k_asm); (case k5 => k_asm); (case k6 => k_is); (case k7 => k_is); (case k8 => ktr_room); (case k9 => first | exact BindsTo.of_eq rfl | exact binds_K (by k_in) rfl (by k_is) rfl rfl rfl); (case c5 => decide); (case kB => exact locs rfl); (case c2 => exact rfl); (case c3 => exact rfl); (case c4 => exact rfl); k_whole; intro g' L' h' FG' F' N' B' X' T'; (try dsimp only); (try k_lift B'); (try k_fold))
  | (refine' code_defC ?k1 ?k2 ?k3 ?k4 ?k5 ?kA ?kF ?kK ?k6 ?k7 ?k8 ?k9 ?kB ?kD ?_ ?c2 ?c3 ?c4; (case kA => exact rfl); (case kF => exact rfl); (case kK => assumption); (case k1 => k_asm); (case k2 => k_asm); (case k3 => k_asm); (case k4 => k_asm); (case k5 => k_asm); (case k6 => k_is); (case k7 => k_is); (case k8 => ktr_room); (case k9 => first | exact BindsTo.of_eq rfl | exact binds_K (by k_in) rfl (by k_is) rfl rfl rfl); (case kB => exact rfl); (case kD => decide +kernel); (case c2 => exact rfl); (case c3 => exact rfl); (case c4 => exact rfl); k_whole; intro g' L' h' tk' cells' FG' F' N' Y' B' X' T' l1; (try k_lt l1); k_cells Y'; (try simp only [List.cons_append, List.nil_append] at N'); (try dsimp only); (try k_lift B'); (try k_fold)))
local macro_rules | `(tactic| walk_at "subscriptTail") => `(tactic| (k_here; (with_reducible show wpAny _ _ (subscriptTail _ _ (Value.ref _) (Value.int _ _)) _ _ _); (rename News _ _ _ _ => lN'); (first | (with_unfolding_all refine' Mine.item_ints lN' ?k1 ?k2 ?k3 ?k4 ?k5 ?_ ?k6; (case k1 => kcf_m); (case k2 => assumption); (case k3 => omega); (case k4 => omega); (case k5 => omega); (case k6 => with_unfolding_all rfl); intro tt'; (try dsimp only); (try k_fold)) | (with_unfolding_all refine' Mine.item_at lN' ?k1 ?k2 ?k3 ?k4 ?_ ?k6; (case k1 => kcf_m); (case k2 => assumption); (case k3 => omega); (case k4 => omega); (case k6 => with_unfolding_all rfl); (try dsimp only); (try k_fold)))))
section SR10
namespace Mine

/-! ## min of four ints -/
theorem args_min4 (a b c d : Value) : argsOk "min" ⟨[a, b, c, d], []⟩ := by unfold argsOk; kernel_rfl

theorem call_min_four {prog : Program} {w : World} {A : Around} {E : Value → Shared → Prop} {s : Shared} {a b c d : Value} {Q : Value → Shared → Prop}
    (h : wpAny (model prog w) A.in1 (pyIter (.ref s.heap.objs.size)) (fun it s₂ => ∃ I fp wr n P St bt, it = .ref I ∧ Walks prog w A.in1 I fp wr n P St ∧ St 0 s₂.heap ∧ (∀ b ∈ fp, b < s₂.heap.objs.size) ∧ 0 < n ∧ CmpOf prog w A.in1 .Lt P bt ∧
      ∀ v h' tk, P (argBest bt (n - 1)) v → (∀ b o, b ∉ wr → s₂.heap.get? b = some o → h'.get? b = some o) → Q v { s₂ with heap := h', toks := tk }) E
      { s with heap := s.heap.push { cls := .type "tuple", data := .seq #[a, b, c, d] } }) :
    wpAny (model prog w) A (call (.builtin "min") [a, b, c, d]) Q E s := by
  have nm : (toString "min" ++ toString ".loop" : String) = "min.loop" := by decide
  refine call_function_tree F.kind_min F.plain_min F.entry_min (args_min4 _ _ _ _) ?_
  show wpAny _ A.in1 (Builtin.Builtins.bindParams "min" ["key", "default"] 0 ⟨[], []⟩ >>= _) _ _ s
  refine wpAny_bind (wpAny_of_eq (show Builtin.Builtins.bindParams "min" ["key", "default"] 0 ⟨[], []⟩ = pure [none, none] from rfl) ?_)
  show wpAny _ A.in1 (newTuple [a, b, c, d] >>= _) _ _ s
  refine wpAny_bind (wpAny_newObj_type (wpAny_bind (wpAny_mono h (fun it s₂ h₂ => ?_) fun _ _ e => e)))
  obtain ⟨I, fp, wr, n, P, St, bt, rfl, W, hst, hfp, hn, hcmp, hQ⟩ := h₂
  refine wpAny_bind (wpAny_newObj_type ?_)
  have off : s₂.heap.objs.size ∉ fp := fun hm => Nat.lt_irrefl _ (hfp _ hm)
  rw [nm]
  refine wpAny_pure ⟨plainId_quiet F.plain_min_loop _, codeAny_min_loop_first W bt hcmp s₂.heap.objs.size off hn (W.frame _ _ _ hst fun b _ o e => Heap.get?_push_of_some _ e) (Heap.get?_push_size _ rfl) fun v h' tk hP hk => ?_⟩
  exact hQ v h' tk hP fun b o hb e => hk b o hb (Nat.ne_of_lt (Heap.lt_size e)) (Heap.get?_push_of_some _ e)

theorem min_four_N {prog : Program} {w : World} {A : Around} {E : Value → Shared → Prop} {s : Shared} {h₀ : Heap} {L : Addr} {m : Str → Option Value} {news : List (Addr × Obj)} {a b c d : Int} {ta tb tc td : Tok} {Q : Value → Shared → Prop}
    (hh : A.handled = none) (F : Fr h₀ L s.heap m) (N : News h₀ L s.heap news)
    (h : ∀ v t h' tk, v = min (min a b) (min c d) → Fr h₀ L h' m → News h₀ L h' news → Q (.int v t) { s with heap := h', toks := tk }) :
    wpAny (model prog w) A (call (.builtin "min") [.int a ta, .int b tb, .int c tc, .int d td]) Q E s := by
  let xs : Array (Int × Tok) := #[(a, ta), (b, tb), (c, tc), (d, td)]
  have hT : (s.heap.push { cls := .type "tuple", data := .seq #[.int a ta, .int b tb, .int c tc, .int d td] }).IsTuple s.heap.objs.size (intItems xs) := ⟨_, Heap.get?_push_size _ rfl, rfl, 0, by simp [intItems, xs]⟩
  have hsz : (s.heap.push { cls := .type "tuple", data := .seq #[.int a ta, .int b tb, .int c tc, .int d td] }).objs.size = s.heap.objs.size + 1 := Heap.size_push ..
  refine call_min_four (wpAny_pyIter_tuple hT ⟨_, [_, s.heap.objs.size], [_], _, _, _, _, rfl, Walks.tuple (A := A.in1) hh _ s.heap.objs.size (by rw [hsz]; exact Nat.ne_of_lt (Nat.lt_succ_self _)) (intItems xs),
    ⟨⟨_, Heap.get?_push_size _ rfl, rfl, rfl⟩, hT.push _⟩, fun e he => ?_, by simp [intItems, xs], CmpOf.ints_lt (numAt xs) (fun _ _ => intItems_at), fun v h' tk hP hk => ?_⟩)
  · show e < ((s.heap.push _).push _).objs.size
    rw [Heap.size_push, hsz]
    simp only [List.mem_cons, List.not_mem_nil, or_false] at he
    rcases he with rfl | rfl
    · rw [hsz]; exact Nat.lt_succ_self _
    · exact Nat.lt_succ_of_lt (Nat.lt_succ_self _)
  · have hold : ∀ e o, s.heap.get? e = some o → h'.get? e = some o := fun e o q => by
      refine hk e o (fun hm => ?_) (Heap.get?_push_of_some _ (Heap.get?_push_of_some _ q))
      have hl := Heap.lt_size q
      rw [List.mem_singleton.mp hm, hsz] at hl
      exact Nat.lt_irrefl _ (Nat.lt_of_succ_lt hl)
    have hz : (intItems xs).size - 1 = 3 := by simp [intItems, xs]
    rw [hz] at hP
    obtain ⟨t, rfl⟩ := intItems_at hP
    have B := argBest_lt (numAt xs) 3
    refine h _ t h' tk ?_ (F.grownK hold) (N.grown hold)
    have n0 : numAt xs 0 = a := rfl
    have n1 : numAt xs 1 = b := rfl
    have n2 : numAt xs 2 = c := rfl
    have n3 : numAt xs 3 = d := rfl
    have b0 := B.2 0 (by decide)
    have b1 := B.2 1 (by decide)
    have b2 := B.2 2 (by decide)
    have b3 := B.2 3 (by decide)
    rw [n0] at b0; rw [n1] at b1; rw [n2] at b2; rw [n3] at b3
    have hb := B.1
    have e : numAt xs (argBest (fun i j => decide (numAt xs i < numAt xs j)) 3) = a ∨ numAt xs (argBest (fun i j => decide (numAt xs i < numAt xs j)) 3) = b ∨ numAt xs (argBest (fun i j => decide (numAt xs i < numAt xs j)) 3) = c ∨ numAt xs (argBest (fun i j => decide (numAt xs i < numAt xs j)) 3) = d := by
      generalize argBest (fun i j => decide (numAt xs i < numAt xs j)) 3 = q at hb
      rcases q with _ | _ | _ | _ | q
      · exact .inl n0
      · exact .inr (.inl n1)
      · exact .inr (.inr (.inl n2))
      · exact .inr (.inr (.inr n3))
      · omega
    omega

/-! ## loops -/
def Stop (P : Prop) : Prop := P

section
variable {prog : Program} {w : World} {A : Around} {E : Value → Shared → Prop} {s : Shared} {env : Env} {h₀ : Heap} {x : Str} {body : List Stmt} {Q : Flow → Shared → Prop}

theorem for_stop {px pos : Pos} {iter : Expr} {m : Str → Option Value} (_F : Fr h₀ env.locals s.heap m) (hx : env.kindOf x = some .local)
    (hp : (env.scope.kind == .class || (env.scope.kind == .module && env.locals != env.globals)) = false)
    (h : wpAny (model prog w) A (eval iter env) (fun xv s₁ => Stop (wpAny (model prog w) A (pyIter xv) (fun it s₂ => LoopAtV prog w A h₀ env x body Q E it s₂) E s₁)) E s)
    (hs : ∀ x, foldedSetIterable iter env x = pure x := by intro _; rfl)
    (hE : PassesOwn (model prog w) A env E := by passes_own) :
    wpAny (model prog w) A (exec (.For (.Name x px) iter body [] pos) env) Q E s := For_invV h₀ hx hp h hs hE

/-- what a loop keeps: letters c, the names that they stand under, forgotten names, and a word of the ledger -/
def GS {σ : Type} (ps : σ → List (Str × Value)) (x : Str) (stored : List Str) (m₀ : Str → Option Value) (G : σ → List (Addr × Obj) → Prop) (m : Str → Option Value) (nx : List (Addr × Obj)) : Prop :=
  ∃ c : σ, (∀ p ∈ ps c, m p.1 = some p.2) ∧ (∀ z, z ≠ x → (∀ p ∈ ps c, z ≠ p.1) → stored.contains z = false → m z = m₀ z) ∧ G c nx

theorem gs_end {σ : Type} {ps : σ → List (Str × Value)} {stored : List Str} {m₀ : Str → Option Value} {G : σ → List (Addr × Obj) → Prop} (c : σ) {L : Addr} {m' : Str → Option Value} {own news' : List (Addr × Obj)} {s₁ : Shared} {h' : Heap} {tk : Nat}
    (nx : List (Addr × Obj)) (F : Fr h₀ L h' m') (N : News h₀ L h' news') (hn : ∀ p ∈ nx, p ∈ news') (ho : ∀ p ∈ own, p ∈ news') (ha : OwnOff own (nx.map (·.1)))
    (hk : ∀ p ∈ ps c, m' p.1 = some p.2) (hr : ∀ z, z ≠ x → (∀ p ∈ ps c, z ≠ p.1) → stored.contains z = false → m' z = m₀ z) (hG : G c nx) :
    InvEndG h₀ L (GS ps x stored m₀ G) own s₁ { s₁ with heap := h', toks := tk } := InvEndG.intro F N ⟨c, hk, hr, hG⟩ ha hn ho

theorem loop_range {σ : Type} {r : Addr} {a₀ b₀ d₀ : Int} {t₀ u₀ v₀ : Tok} {n : Nat} {m₀ : Str → Option Value} {news : List (Addr × Obj)} (ps : σ → List (Str × Value)) (stored : List Str) (G : Nat → σ → List (Addr × Obj) → Prop) (c₀ : σ)
    (hh : A.handled = none) (hr : IsRange s.heap r a₀ b₀ d₀ t₀ u₀ v₀) (hsmall : Builtin.Range.small a₀ b₀ d₀ = true) (hsz : Builtin.Range.rangeSize a₀ b₀ d₀ = (n : Int)) (F : Fr h₀ env.locals s.heap m₀) (N : News h₀ env.locals s.heap news)
    (nx₀ : List (Addr × Obj)) (hn : ∀ p ∈ nx₀, p ∈ news) (hk : ∀ p ∈ ps c₀, m₀ p.1 = some p.2) (hg : G 0 c₀ nx₀)
    (turn : ∀ (i : Nat) (z : Int) (c : σ) nx t (u : Str → Option Value) h tk own, i < n → z = a₀ + i * d₀ → OwnOff own (nx.map (·.1)) → G i c nx →
      Fr h₀ env.locals h (fun y => if y = x then some (.int z t) else kstB (fun z => if stored.contains z then u z else m₀ z) (ps c) y) → News h₀ env.locals h (nx ++ own) →
      wpAny (model prog w) A (execs body env) (InvPostG h₀ env.locals (GS ps x stored m₀ (G (i + 1))) own { s with heap := h, toks := tk } Q) E { s with heap := h, toks := tk })
    (done : ∀ (c : σ) nx (u : Str → Option Value) h tk, G n c nx → Fr h₀ env.locals h (fun y => if y = x then u y else kstB (fun z => if stored.contains z then u z else m₀ z) (ps c) y) → News h₀ env.locals h nx → Q .next { s with heap := h, toks := tk }) :
    wpAny (model prog w) A (pyIter (.ref r)) (fun it s₂ => LoopAtV prog w A h₀ env x body Q E it s₂) E s := by
  refine wpAny_pyIter_range hr hsmall ?_
  have W : Walks prog w A s.heap.objs.size [s.heap.objs.size] [s.heap.objs.size] n (fun i v => i < n ∧ ∃ t, v = .int (a₀ + i * d₀) t)
      (fun i h => IsRangeIter h s.heap.objs.size (a₀ + (i : Nat) * d₀) ((n : Int) - (i : Nat)) d₀) := (Walks.range hh _ a₀ d₀ n).bound
  refine kdr_loop (news := nx₀) (fun i m nx => GS ps x stored m₀ (G i) m nx) W (fun _ h => h) (fun _ h => h) (fun i h hi b hb => ?_) (fun hm => ?_) (fun b hb => ?_) (fun p hp hI => ?_) ?_ (F.push _) (fun p hp => ⟨Heap.get?_push_of_some _ (N p (hn p hp)).1, (N p (hn p hp)).2⟩) ⟨c₀, hk, fun _ _ _ _ => rfl, hg⟩ ?_ ?_
  · rw [List.mem_singleton.mp hb]; exact ⟨_, hi⟩
  · exact absurd F.ns.lt ((List.mem_singleton.mp hm) ▸ Nat.lt_irrefl _)
  · rw [List.mem_singleton.mp hb]; exact next_is_new F
  · exact absurd (Heap.lt_size (N p (hn p hp)).1) ((List.mem_singleton.mp hI) ▸ Nat.lt_irrefl _)
  · show IsRangeIter _ _ _ _ _
    rw [hsz]
    simpa using Heap.get?_push_size _ rfl
  · rintro i v m₁ nx h tk own hi ⟨_, t, rfl⟩ hoff ⟨c, h1, h2, hG⟩ F₁ N₁
    exact turn i _ c nx t m₁ h tk own hi rfl hoff hG (kst_fr h1 h2 F₁) N₁
  · rintro m₁ nx h tk ⟨c, h1, h2, hG⟩ F₁ N₁
    exact done c nx m₁ h tk hG (kst_frOut h1 h2 F₁) N₁

theorem loop_list {σ : Type} {l : Addr} {vs : List Value} {nn : Nat} {m₀ : Str → Option Value} {news : List (Addr × Obj)} (ps : σ → List (Str × Value)) (stored : List Str) (G : Nat → σ → List (Addr × Obj) → Prop) (c₀ : σ)
    (hh : A.handled = none) (nx₀ : List (Addr × Obj)) (hl : (l, listOf vs.toArray nn) ∈ nx₀) (F : Fr h₀ env.locals s.heap m₀) (N : News h₀ env.locals s.heap news) (hn : ∀ p ∈ nx₀, p ∈ news) (hk : ∀ p ∈ ps c₀, m₀ p.1 = some p.2) (hg : G 0 c₀ nx₀)
    (turn : ∀ (i : Nat) (v : Value) (c : σ) nx (u : Str → Option Value) h tk own, vs[i]? = some v → OwnOff own (nx.map (·.1)) → (l, listOf vs.toArray nn) ∈ nx → G i c nx →
      Fr h₀ env.locals h (fun y => if y = x then some v else kstB (fun z => if stored.contains z then u z else m₀ z) (ps c) y) → News h₀ env.locals h (nx ++ own) →
      wpAny (model prog w) A (execs body env) (InvPostG h₀ env.locals (GS ps x stored m₀ (fun c nx => (l, listOf vs.toArray nn) ∈ nx ∧ G (i + 1) c nx)) own { s with heap := h, toks := tk } Q) E { s with heap := h, toks := tk })
    (done : ∀ (c : σ) nx (u : Str → Option Value) h tk, G vs.length c nx → Fr h₀ env.locals h (fun y => if y = x then u y else kstB (fun z => if stored.contains z then u z else m₀ z) (ps c) y) → News h₀ env.locals h nx → Q .next { s with heap := h, toks := tk }) :
    wpAny (model prog w) A (pyIter (.ref l)) (fun it s₂ => LoopAtV prog w A h₀ env x body Q E it s₂) E s := by
  refine kdl_iter (news := nx₀) (fun i m nx => GS ps x stored m₀ (G i) m nx) hh hl F (fun p hp => N p (hn p hp)) ⟨c₀, hk, fun _ _ _ _ => rfl, hg⟩ ?_ ?_
  · rintro i v m₁ nx h tk own hv hoff hl₁ ⟨c, h1, h2, hG⟩ F₁ N₁
    refine wpAny_mono (turn i v c nx m₁ h tk own hv hoff hl₁ hG (kst_fr h1 h2 F₁) N₁) (fun f s₂ p => ?_) fun _ _ x => x
    have up : InvEndG h₀ env.locals (GS ps x stored m₀ (fun c nx => (l, listOf vs.toArray nn) ∈ nx ∧ G (i + 1) c nx)) own { s with heap := h, toks := tk } s₂ →
        InvEndG h₀ env.locals (fun m' nx => (l, listOf vs.toArray nn) ∈ nx ∧ GS ps x stored m₀ (G (i + 1)) m' nx) own { s with heap := h, toks := tk } s₂ := by
      rintro ⟨h', tk', m', news', nx', e', F', N', hn', ho', ha, c', k1, k2, k3, k4⟩
      exact ⟨h', tk', m', news', nx', e', F', N', hn', ho', ha, k3, c', k1, k2, k4⟩
    cases f with
    | ret v => exact p
    | brk => exact p
    | next => exact up p
    | cont => exact up p
  · rintro m₁ nx h tk ⟨c, h1, h2, hG⟩ F₁ N₁
    exact done c nx m₁ h tk hG (kst_frOut h1 h2 F₁) N₁

end
end Mine
end SR10
local macro_rules | `(tactic| walk_at "call builtin:min") => `(tactic| (k_here; (with_reducible show wpAny _ _ (call (Value.builtin _) [Value.int _ _, Value.int _ _, Value.int _ _, Value.int _ _]) _ _ _); (with_unfolding_all refine' Mine.min_four_N ?k1 ?k2 ?k3 ?_; (case k1 => rfl); (case k2 => k_asm); (case k3 => k_asm)); intro v' t' h' tk' hv' F' N'; (try dsimp only); (try k_fold)))
local macro_rules | `(tactic| k_all) => `(tactic| ((repeat' (first | assumption | exact List.forall_mem_nil _ | refine' List.forall_mem_cons.mpr (And.intro ?_ ?_) | refine' List.forall_mem_append.mpr (And.intro ?_ ?_) | k_ne)); done))
section SR11
namespace Mine
theorem head_of {h₀ h : Heap} {L a : Addr} {o : Obj} {r : List (Addr × Obj)} (N : News h₀ L h ((a, o) :: r)) : ∃ x, x = a ∧ News h₀ L h ((x, o) :: r) := ⟨a, rfl, N⟩
theorem stop_in {P : Prop} (h : P) : Stop P := h

/-- the rows of a table as ledger entries -/
def rowsLed (as : List Addr) (Vs : List (List Value)) : List (Addr × Obj) := List.zipWith (fun a v => (a, listOf v.toArray 0)) as Vs
theorem mem_rowsLed {as : List Addr} {Vs : List (List Value)} {q : Addr × Obj} (h : q ∈ rowsLed as Vs) : ∃ (i : Nat) (a : Addr) (v : List Value), as[i]? = some a ∧ Vs[i]? = some v ∧ q = (a, listOf v.toArray 0) := by
  obtain ⟨i, hi⟩ := List.mem_iff_getElem?.mp h
  unfold rowsLed at hi
  rw [List.getElem?_zipWith] at hi
  cases ha : as[i]? with
  | none => simp [ha] at hi
  | some a =>
    cases hv : Vs[i]? with
    | none => simp [ha, hv] at hi
    | some v =>
      simp only [ha, hv] at hi
      exact ⟨i, a, v, ha, hv, (Option.some.inj hi).symm⟩
theorem rowsLed_mem {as : List Addr} {Vs : List (List Value)} {i : Nat} {a : Addr} {v : List Value} (ha : as[i]? = some a) (hv : Vs[i]? = some v) : (a, listOf v.toArray 0) ∈ rowsLed as Vs := by
  refine List.mem_iff_getElem?.mpr ⟨i, ?_⟩
  unfold rowsLed
  rw [List.getElem?_zipWith, ha, hv]
theorem rowsLed_append {as bs : List Addr} {Vs Ws : List (List Value)} (h : as.length = Vs.length) : rowsLed (as ++ bs) (Vs ++ Ws) = rowsLed as Vs ++ rowsLed bs Ws := by
  unfold rowsLed
  exact List.zipWith_append h
def matLed (lv : Addr) (nl : Nat) (as : List Addr) (Vs : List (List Value)) (news : List (Addr × Obj)) : List (Addr × Obj) := (lv, listOf (as.map Value.ref).toArray nl) :: (rowsLed as Vs ++ news)
structure MatOk (lv : Addr) (as : List Addr) (Vs : List (List Value)) (M : List (List Int)) (news : List (Addr × Obj)) : Prop where
  len : as.length = Vs.length
  lenM : Vs.length = M.length
  iv : ∀ (i : Nat) (v : List Value) (r : List Int), Vs[i]? = some v → M[i]? = some r → IntsAre v r
  nd : as.Nodup
  lv_as : lv ∉ as
  news_as : ∀ p ∈ news, p.1 ∉ as
  news_lv : ∀ p ∈ news, p.1 ≠ lv
end Mine
namespace Mine
theorem MatOk.rows_ne {lv : Addr} {as : List Addr} {Vs : List (List Value)} {M : List (List Int)} {news : List (Addr × Obj)} (h : MatOk lv as Vs M news) : ∀ p ∈ rowsLed as Vs, p.1 ≠ lv := by
  intro p hp e
  obtain ⟨i, a, v, ha, _, rfl⟩ := mem_rowsLed hp
  exact h.lv_as (e ▸ List.mem_of_getElem? ha)
theorem rowsLed_keys {as : List Addr} {Vs : List (List Value)} {p : Addr × Obj} (hp : p ∈ rowsLed as Vs) : p.1 ∈ as := by
  obtain ⟨i, a, v, ha, _, rfl⟩ := mem_rowsLed hp
  exact List.mem_of_getElem? ha
theorem allLt_append {d : Addr} {l r : List (Addr × Obj)} : AllLt d (l ++ r) ↔ AllLt d l ∧ AllLt d r := by
  induction l with
  | nil => simp [AllLt]
  | cons p l ih => simp [AllLt, ih, and_assoc]
theorem allLt_iff {d : Addr} {l : List (Addr × Obj)} : AllLt d l ↔ ∀ p ∈ l, p.1 < d := by
  induction l with
  | nil => simp [AllLt]
  | cons p l ih => simp [AllLt, ih]
end Mine

end SR11
section SR20
namespace Mine
theorem MatOk.snoc {lv : Addr} {as : List Addr} {Vs : List (List Value)} {M : List (List Int)} {news : List (Addr × Obj)} (h : MatOk lv as Vs M news) {d : Addr} {v : List Value} {r : List Int}
    (h1 : d ∉ as) (h2 : d ≠ lv) (h3 : ∀ p ∈ news, p.1 ≠ d) (hi : IntsAre v r) : MatOk lv (as ++ [d]) (Vs ++ [v]) (M ++ [r]) news where
  len := by simp [h.len]
  lenM := by simp [h.lenM]
  iv := by
    intro i v' r' e1 e2
    by_cases hlt : i < Vs.length
    · rw [List.getElem?_append_left hlt] at e1
      rw [List.getElem?_append_left (by rw [← h.lenM]; exact hlt)] at e2
      exact h.iv i v' r' e1 e2
    · rw [List.getElem?_append_right (by omega)] at e1
      rw [List.getElem?_append_right (by rw [← h.lenM]; omega)] at e2
      rw [← h.lenM] at e2
      cases hq : i - Vs.length with
      | zero =>
        rw [hq] at e1 e2
        simp only [List.getElem?_cons_zero, Option.some.injEq] at e1 e2
        subst e1 e2
        exact hi
      | succ n => rw [hq] at e1; simp at e1
  nd := by
    rw [List.nodup_append]
    refine ⟨h.nd, by simp, ?_⟩
    intro a ha b hb e
    simp only [List.mem_singleton] at hb
    exact h1 (hb ▸ e ▸ ha)
  lv_as := by
    intro hm
    rcases List.mem_append.mp hm with hm | hm
    · exact h.lv_as hm
    · exact h2 (List.mem_singleton.mp hm).symm
  news_as := by
    intro p hp hm
    rcases List.mem_append.mp hm with hm | hm
    · exact h.news_as p hp hm
    · exact h3 p hp (List.mem_singleton.mp hm)
  news_lv := h.news_lv
theorem MatOk.put {lv : Addr} {as : List Addr} {Vs : List (List Value)} {M : List (List Int)} {news : List (Addr × Obj)} (h : MatOk lv as Vs M news) {i : Nat} {v : List Value} {r : List Int}
    (hi : IntsAre v r) : MatOk lv as (Vs.set i v) (M.set i r) news where
  len := by simp [h.len]
  lenM := by simp [h.lenM]
  iv := by
    intro k v' r' e1 e2
    rw [List.getElem?_set] at e1 e2
    by_cases hk : i = k
    · subst hk
      rw [if_pos rfl] at e1 e2
      split at e1
      · split at e2
        · cases e1; cases e2; exact hi
        · cases e2
      · cases e1
    · rw [if_neg hk] at e1 e2
      exact h.iv k v' r' e1 e2
  nd := h.nd
  lv_as := h.lv_as
  news_as := h.news_as
  news_lv := h.news_lv
theorem mat_open {h₀ h : Heap} {L lv : Addr} {nl : Nat} {as : List Addr} {Vs : List (List Value)} {news own : List (Addr × Obj)} (N : News h₀ L h (matLed lv nl as Vs news ++ own))
    {i : Nat} {rb : Addr} {vb : List Value} (ha : as[i]? = some rb) (hv : Vs[i]? = some vb) :
    ∃ rest, News h₀ L h ((rb, listOf vb.toArray 0) :: rest) ∧ (∀ p ∈ rest, p.1 ≠ rb) ∧ (∀ p ∈ matLed lv nl as Vs news ++ own, p.1 ≠ rb → p ∈ rest) := by
  refine ⟨(matLed lv nl as Vs news ++ own).filter fun p => decide (p.1 ≠ rb), ?_, ?_, ?_⟩
  · intro p hp
    rcases List.mem_cons.mp hp with rfl | hp
    · exact N _ (List.mem_append_left _ (List.mem_cons_of_mem _ (List.mem_append_left _ (rowsLed_mem ha hv))))
    · exact N p (List.mem_filter.mp hp).1
  · intro p hp
    simpa using (List.mem_filter.mp hp).2
  · intro p hp hne
    exact List.mem_filter.mpr ⟨hp, by simpa using hne⟩
theorem mat_close {lv : Addr} {nl : Nat} {as : List Addr} {Vs : List (List Value)} {M : List (List Int)} {news own rest : List (Addr × Obj)} {i : Nat} {rb : Addr} (hM : MatOk lv as Vs M news) (ha : as[i]? = some rb)
    (hr : ∀ p ∈ matLed lv nl as Vs news ++ own, p.1 ≠ rb → p ∈ rest) (vb' : List Value) : ∀ p ∈ matLed lv nl as (Vs.set i vb') news, p ∈ (rb, listOf vb'.toArray 0) :: rest := by
  intro p hp
  have hmem : rb ∈ as := List.mem_of_getElem? ha
  rcases List.mem_cons.mp hp with rfl | hp
  · exact List.mem_cons_of_mem _ (hr _ (List.mem_append_left _ (.head _)) (fun e => hM.lv_as ((show lv = rb from e).symm ▸ hmem)))
  · rcases List.mem_append.mp hp with hp | hp
    · obtain ⟨k, a, v, h1, h2, rfl⟩ := mem_rowsLed hp
      rw [List.getElem?_set] at h2
      by_cases hk : i = k
      · subst hk
        rw [ha] at h1
        cases h1
        rw [if_pos rfl] at h2
        split at h2
        · cases h2; exact .head _
        · cases h2
      · rw [if_neg hk] at h2
        refine List.mem_cons_of_mem _ (hr _ (List.mem_append_left _ (List.mem_cons_of_mem _ (List.mem_append_left _ (rowsLed_mem h1 h2)))) ?_)
        intro e
        obtain ⟨p1, q1⟩ := List.getElem?_eq_some_iff.mp h1
        obtain ⟨p2, q2⟩ := List.getElem?_eq_some_iff.mp ha
        have pw := List.pairwise_iff_getElem.mp hM.nd
        have e' : as[k] = as[i] := by rw [q1, q2]; exact e
        rcases Nat.lt_trichotomy i k with g | g | g
        · exact pw i k p2 p1 g e'.symm
        · exact hk g
        · exact pw k i p1 p2 g e'
    · exact List.mem_cons_of_mem _ (hr _ (List.mem_append_left _ (List.mem_cons_of_mem _ (List.mem_append_right _ hp))) (fun e => hM.news_as p hp (e ▸ hmem)))
theorem MatOk.key_ne {lv : Addr} {as : List Addr} {Vs : List (List Value)} {M : List (List Int)} {news : List (Addr × Obj)} (h : MatOk lv as Vs M news) {i : Nat} {rb : Addr} (ha : as[i]? = some rb) : (∀ p ∈ news, p.1 ≠ rb) ∧ lv ≠ rb :=
  ⟨fun p hp e => h.news_as p hp (e ▸ List.mem_of_getElem? ha), fun e => h.lv_as (e ▸ List.mem_of_getElem? ha)⟩
theorem OwnOff.as {own : List (Addr × Obj)} {lv : Addr} {nl : Nat} {as : List Addr} {Vs : List (List Value)} {news : List (Addr × Obj)} (h : OwnOff own ((matLed lv nl as Vs news).map (·.1))) (hl : as.length = Vs.length) {i : Nat} {rb : Addr} (ha : as[i]? = some rb) : ∀ p ∈ own, p.1 ≠ rb := by
  intro p hp
  obtain ⟨hi, e⟩ := List.getElem?_eq_some_iff.mp ha
  have hv : Vs[i]? = some (Vs[i]'(hl ▸ hi)) := List.getElem?_eq_getElem (hl ▸ hi)
  exact h p hp _ (List.mem_map.mpr ⟨_, List.mem_cons_of_mem _ (List.mem_append_left _ (rowsLed_mem ha hv)), rfl⟩)
theorem matLed_keys {lv : Addr} {nl nl' : Nat} {as : List Addr} {Vs Vs' : List (List Value)} {news : List (Addr × Obj)} (h : Vs.length = Vs'.length) : (matLed lv nl as Vs news).map (·.1) = (matLed lv nl' as Vs' news).map (·.1) := by
  have key : ∀ (as : List Addr) (Vs Vs' : List (List Value)), Vs.length = Vs'.length → (rowsLed as Vs).map (·.1) = (rowsLed as Vs').map (·.1) := by
    intro as
    induction as with
    | nil => intro Vs Vs' _; simp [rowsLed]
    | cons a as ih =>
      intro Vs Vs' h
      cases Vs with
      | nil => cases Vs' with
        | nil => rfl
        | cons _ _ => simp at h
      | cons v Vs => cases Vs' with
        | nil => simp at h
        | cons v' Vs' =>
          have := ih Vs Vs' (by simpa using h)
          simp only [rowsLed, List.zipWith_cons_cons, List.map_cons] at this ⊢
          rw [this]
  simp only [matLed, List.map_cons, List.map_append, key as Vs Vs' h]

/-! the first table -/
def m2 (n1 n2 : Nat) : Nat → List (List Int)
  | 0 => List.replicate n1 (List.replicate n2 0)
  | k + 1 => (m2 n1 n2 k).set k (((m2 n1 n2 k).getD k []).set 0 (k : Int))
def m3 (n1 n2 : Nat) : Nat → List (List Int)
  | 0 => m2 n1 n2 n1
  | k + 1 => (m3 n1 n2 k).set 0 (((m3 n1 n2 k).getD 0 []).set k (k : Int))
def initM (n1 n2 : Nat) : List (List Int) := m3 n1 n2 n2
def Shape (n1 n2 : Nat) (M : List (List Int)) : Prop := M.length = n1 ∧ ∀ (i : Nat) (r : List Int), M[i]? = some r → r.length = n2
theorem Shape.put {n1 n2 : Nat} {M : List (List Int)} (h : Shape n1 n2 M) {i : Nat} {r : List Int} (hr : r.length = n2) : Shape n1 n2 (M.set i r) := by
  refine ⟨by rw [List.length_set]; exact h.1, ?_⟩
  intro k r' e
  rw [List.getElem?_set] at e
  split at e
  · split at e
    · cases e; exact hr
    · cases e
  · exact h.2 k r' e
theorem Shape.row {n1 n2 : Nat} {M : List (List Int)} (h : Shape n1 n2 M) {i : Nat} (hi : i < n1) : M[i]? = some (M.getD i []) ∧ (M.getD i []).length = n2 := by
  have e : M[i]? = some (M.getD i []) := by
    rw [List.getD_eq_getElem?_getD, List.getElem?_eq_getElem (by rw [h.1]; exact hi)]; rfl
  exact ⟨e, h.2 i _ e⟩
theorem m2_shape (n1 n2 : Nat) : ∀ k, k ≤ n1 → Shape n1 n2 (m2 n1 n2 k)
  | 0, _ => by
    refine ⟨by simp [m2], ?_⟩
    intro i r e
    simp only [m2, List.getElem?_replicate] at e
    split at e
    · cases e; simp
    · cases e
  | k + 1, hk => by
    have ih := m2_shape n1 n2 k (by omega)
    refine ih.put ?_
    rw [List.length_set]
    exact (ih.row (by omega)).2
theorem m3_shape (n1 n2 : Nat) (h1 : 1 ≤ n1) : ∀ k, Shape n1 n2 (m3 n1 n2 k)
  | 0 => m2_shape n1 n2 n1 (Nat.le_refl _)
  | k + 1 => by
    have ih := m3_shape n1 n2 h1 k
    refine ih.put ?_
    rw [List.length_set]
    exact (ih.row (by omega)).2
theorem map_ref_at {as : List Addr} {i : Nat} {rb : Addr} (ha : as[i]? = some rb) : (as.map Value.ref)[i]? = some (Value.ref rb) := by rw [List.getElem?_map, ha]; rfl
end Mine
namespace Mine
theorem new_of {h₀ g h : Heap} {L D : Addr} {m : Str → Option Value} {o : Obj} {news : List (Addr × Obj)} (FG : Fr h₀ L g m) (hn : g.get? D = none) (N : News h₀ L h news) (ho : h.get? D = some o) : News h₀ L h ((D, o) :: news) := by
  intro p hp
  rcases List.mem_cons.mp hp with rfl | hp
  · refine ⟨ho, ?_, ?_⟩
    · rintro rfl
      obtain ⟨oL, _, _, hL, _⟩ := FG.ns
      rw [hn] at hL
      cases hL
    · cases hq : h₀.get? D with
      | none => rfl
      | some o' => have := FG.keep _ _ hq; rw [hn] at this; cases this
  · exact N p hp
theorem putD_len (k d : PyData) (D : List (PyData × PyData)) : (PyProof.V.putD k d D).length ≤ D.length + 1 := by
  unfold PyProof.V.putD
  split <;> simp
theorem putAll_len (xs : List Int) (d : Int → PyData) : (putAll PyData.int (fun a => a) d xs).length ≤ xs.length := by
  have key : ∀ (xs : List Int) (acc : List (PyData × PyData)), (xs.foldl (fun acc a => PyProof.V.putD (PyData.int a) (d a) acc) acc).length ≤ acc.length + xs.length := by
    intro xs
    induction xs with
    | nil => intro acc; simp
    | cons x xs ih =>
      intro acc
      have h1 := ih (PyProof.V.putD (PyData.int x) (d x) acc)
      have h2 := putD_len (PyData.int x) (d x) acc
      simp only [List.foldl_cons, List.length_cons] at h1 ⊢
      omega
  have := key xs []
  simpa [putAll] using this
end Mine
namespace Mine
/-! dicts of ints on the ledger -/
def DictInts (kvs : List (Int × Value)) (xs : List Int) : Prop := ∀ x ∈ xs, ∃ i t, valueAt kvs x = some (.int i t)
theorem valueAt_put (kvs : List (Int × Value)) (k x : Int) (v : Value) : valueAt (stored kvs k v) x = if x = k then some v else valueAt kvs x := by
  have h1 : ∀ l : List (Int × Value), (l.map fun kv => if kv.1 = k then (kv.1, v) else kv).find? (fun kv => decide (kv.1 = x)) = (l.find? fun kv => decide (kv.1 = x)).map fun kv => if kv.1 = k then (kv.1, v) else kv := by
    intro l
    induction l with
    | nil => rfl
    | cons p l ih =>
      obtain ⟨a, b⟩ := p
      by_cases ha : a = k
      · by_cases hx : a = x
        · simp [ha, hx, List.find?_cons]; subst ha; subst hx; simp
        · have hkx : ¬ k = x := fun e => hx (ha.trans e)
          simp only [List.map_cons, List.find?_cons, ha, if_true]
          simp only [hkx, decide_false]
          exact ih
      · by_cases hx : a = x
        · subst hx; simp [List.find?_cons, ha]
        · simp only [List.map_cons, List.find?_cons, ha, if_false, hx, decide_false]
          exact ih
  unfold valueAt stored
  split
  · rename_i hany
    rw [h1]
    by_cases hx : x = k
    · subst hx
      rw [if_pos rfl]
      cases hf : kvs.find? (fun kv => decide (kv.1 = x)) with
      | none =>
        exfalso
        obtain ⟨kv, hkv, e⟩ := List.any_eq_true.mp hany
        have := List.find?_eq_none.mp hf kv hkv
        exact this e
      | some kv =>
        have e := List.find?_some hf
        simp only [decide_eq_true_eq] at e
        simp [e]
    · rw [if_neg hx]
      cases hf : kvs.find? (fun kv => decide (kv.1 = x)) with
      | none => rfl
      | some kv =>
        have e := List.find?_some hf
        simp only [decide_eq_true_eq] at e
        have : ¬ kv.1 = k := fun q => hx (e ▸ q)
        simp [this]
  · rename_i hany
    rw [List.find?_append]
    by_cases hx : x = k
    · subst hx
      have hf : kvs.find? (fun kv => decide (kv.1 = x)) = none := by
        rw [List.find?_eq_none]
        intro kv hkv e
        exact hany (List.any_eq_true.mpr ⟨kv, hkv, e⟩)
      rw [hf]
      simp
    · have hkx : ¬ k = x := fun e => hx e.symm
      rw [if_neg hx]
      simp [hkx]
theorem stored_len {kvs : List (Int × Value)} {k : Int} {v u : Value} (h : valueAt kvs k = some u) : (stored kvs k v).length = kvs.length := by
  unfold stored
  rw [if_pos]
  · simp
  · unfold valueAt at h
    obtain ⟨kv, hkv, _⟩ := Option.map_eq_some_iff.mp h
    have e := List.find?_some hkv
    exact List.any_eq_true.mpr ⟨kv, List.mem_of_find?_eq_some hkv, e⟩
theorem DictInts.put {kvs : List (Int × Value)} {xs : List Int} (h : DictInts kvs xs) (k i : Int) (t : Tok) : DictInts (stored kvs k (.int i t)) xs := by
  intro x hx
  rw [valueAt_put]
  split
  · exact ⟨i, t, rfl⟩
  · exact h x hx
def NoDict (news : List (Addr × Obj)) : Prop := ∀ p ∈ news, ∀ es n, p.2.data ≠ .dict es n
theorem NoDict.mat {lv : Addr} {nl : Nat} {as : List Addr} {Vs : List (List Value)} {news : List (Addr × Obj)} (h : NoDict news) : NoDict (matLed lv nl as Vs news) := by
  intro p hp es n e
  rcases List.mem_cons.mp hp with rfl | hp
  · cases e
  · rcases List.mem_append.mp hp with hp | hp
    · obtain ⟨_, _, _, _, _, rfl⟩ := mem_rowsLed hp
      cases e
    · exact h p hp es n e
theorem dict_ne {h₀ h : Heap} {L D : Addr} {news : List (Addr × Obj)} {prog : Program} {w : World} {o : Obj} {kvs : List (Int × Value)} (hn : NoDict news) (N : News h₀ L h ((D, o) :: news)) (hd : o.IsDictOf (PySem.intKind prog w) kvs) : ∀ p ∈ news, p.1 ≠ D := by
  intro p hp e
  obtain ⟨es, ep, _, h2, _⟩ := hd
  have h3 := (N p (List.mem_cons_of_mem _ hp)).1
  rw [e, (N (D, o) (.head _)).1] at h3
  exact hn p hp es ep (by rw [← Option.some.inj h3]; exact h2)
/-! the table filled -/
def cellV (c p q r a b : Int) : Int := min (min (p + 1) (q + 1)) (r + if a = b then 0 else c)
def fillRow (c a : Int) (ys : List Int) (p z0 : List Int) : Nat → List Int
  | 0 => z0
  | j + 1 => (fillRow c a ys p z0 j).set (j + 1) (cellV c (p.getD (j + 1) 0) ((fillRow c a ys p z0 j).getD j 0) (p.getD j 0) a (ys.getD j 0))
def fillMat (c : Int) (xs ys : List Int) : Nat → List (List Int)
  | 0 => initM (xs.length + 1) (ys.length + 1)
  | k + 1 => (fillMat c xs ys k).set (k + 1) (fillRow c (xs.getD k 0) ys ((fillMat c xs ys k).getD k []) ((fillMat c xs ys k).getD (k + 1) []) ys.length)
def edV (c : Int) (xs ys : List Int) : Int := ((fillMat c xs ys xs.length).getD xs.length []).getD ys.length 0
theorem fillRow_len (c a : Int) (ys p z0 : List Int) : ∀ j, (fillRow c a ys p z0 j).length = z0.length
  | 0 => rfl
  | j + 1 => by rw [fillRow, List.length_set]; exact fillRow_len c a ys p z0 j
theorem fillMat_shape (c : Int) (xs ys : List Int) : ∀ k, k ≤ xs.length → Shape (xs.length + 1) (ys.length + 1) (fillMat c xs ys k)
  | 0, _ => m3_shape _ _ (by omega) _
  | k + 1, hk => by
    have ih := fillMat_shape c xs ys k (by omega)
    refine ih.put ?_
    rw [fillRow_len]
    exact (ih.row (by omega)).2
end Mine
namespace Mine
theorem names_dist {h₀ h : Heap} {L D lv Sg : Addr} {o os : Obj} {ne : Nat} {as : List Addr} {Vs : List (List Value)} {news : List (Addr × Obj)} (_N : News h₀ L h ((D, o) :: (Sg, os) :: matLed lv ne as Vs news)) :
    ∃ D' o' lv' ne' as' Vs', D' = D ∧ o' = o ∧ lv' = lv ∧ ne' = ne ∧ as' = as ∧ Vs' = Vs := ⟨_, _, _, _, _, _, rfl, rfl, rfl, rfl, rfl, rfl⟩
theorem names_kvs {prog : Program} {w : World} {o : Obj} {kvs : List (Int × Value)} (_h : o.IsDictOf (PySem.intKind prog w) kvs) : ∃ k, k = kvs := ⟨_, rfl⟩
theorem mat_off {D lv : Addr} {ne : Nat} {as : List Addr} {Vs : List (List Value)} {news : List (Addr × Obj)} (h1 : D ≠ lv) (h2 : D ∉ as) (h3 : ∀ p ∈ news, p.1 ≠ D) : ∀ p ∈ matLed lv ne as Vs news, p.1 ≠ D := by
  intro p hp
  rcases List.mem_cons.mp hp with rfl | hp
  · exact fun e => h1 e.symm
  · rcases List.mem_append.mp hp with hp | hp
    · exact fun e => h2 (e ▸ rowsLed_keys hp)
    · exact h3 p hp
theorem off_mat {D lv : Addr} {ne : Nat} {as : List Addr} {Vs : List (List Value)} {news : List (Addr × Obj)} (hl : as.length = Vs.length) (h : ∀ p ∈ matLed lv ne as Vs news, p.1 ≠ D) : D ≠ lv ∧ D ∉ as ∧ ∀ p ∈ news, p.1 ≠ D := by
  refine ⟨fun e => h _ (.head _) e.symm, ?_, fun p hp => h p (List.mem_cons_of_mem _ (List.mem_append_right _ hp))⟩
  intro hm
  obtain ⟨q, hq, e⟩ := List.mem_iff_getElem.mp hm
  have hv : Vs[q]? = some (Vs[q]'(hl ▸ hq)) := List.getElem?_eq_getElem (hl ▸ hq)
  exact h _ (List.mem_cons_of_mem _ (List.mem_append_left _ (rowsLed_mem (List.getElem?_eq_some_iff.mpr ⟨hq, e⟩) hv))) rfl
theorem nodup_ne {as : List Addr} (h : as.Nodup) {i j : Nat} {a b : Addr} (ha : as[i]? = some a) (hb : as[j]? = some b) (hij : i < j) : a ≠ b := by
  obtain ⟨p1, q1⟩ := List.getElem?_eq_some_iff.mp ha
  obtain ⟨p2, q2⟩ := List.getElem?_eq_some_iff.mp hb
  have := List.pairwise_iff_getElem.mp h i j p1 p2 hij
  rw [q1, q2] at this
  exact this
theorem front {h₀ h : Heap} {L D : Addr} {o : Obj} {led : List (Addr × Obj)} (N : News h₀ L h led) (hm : (D, o) ∈ led) :
    ∃ rest, News h₀ L h ((D, o) :: rest) ∧ (∀ p ∈ rest, p.1 ≠ D) ∧ (∀ p ∈ led, p.1 ≠ D → p ∈ rest) := by
  refine ⟨led.filter fun p => decide (p.1 ≠ D), ?_, ?_, ?_⟩
  · intro p hp
    rcases List.mem_cons.mp hp with rfl | hp
    · exact N _ hm
    · exact N p (List.mem_filter.mp hp).1
  · intro p hp
    simpa using (List.mem_filter.mp hp).2
  · intro p hp hne
    exact List.mem_filter.mpr ⟨hp, by simpa using hne⟩
theorem getD_mem {xs : List Int} {j : Nat} (h : j < xs.length) : xs.getD j 0 ∈ xs := by
  rw [List.getD_eq_getElem?_getD, List.getElem?_eq_getElem h]
  exact List.getElem_mem h
end Mine
namespace Mine
theorem regroup {h₀ h : Heap} {L : Addr} {a b : List (Addr × Obj)} {q : Addr × Obj} (N : News h₀ L h ((a ++ [q]) ++ b)) : News h₀ L h (a ++ (q :: b)) := by
  simpa only [List.append_assoc, List.cons_append, List.nil_append] using N
end Mine
namespace Mine
theorem while_stop {M : Model} {A : Around} {env : Env} {test : PySem.Expr} {body orelse : List Stmt} {pos : Pos} {Q : Flow → Shared → Prop} {E : Value → Shared → Prop} {s : Shared} (h : Stop (wpAny M A (exec (.While test body orelse pos) env) Q E s)) : wpAny M A (exec (.While test body orelse pos) env) Q E s := h
end Mine
namespace Mine
theorem len_led {prog : Program} {w : World} {A : Around} {E : Value → Shared → Prop} {s : Shared} {h₀ : Heap} {L l : Addr} {news : List (Addr × Obj)} {vs : List Value} {n : Nat} {k : Int} {Q : Value → Shared → Prop}
    (N : News h₀ L s.heap news) (hm : (l, listOf vs.toArray n) ∈ news) (hk : (vs.length : Int) = k) (hz : k ≤ 16384) (h : Q (.int k (s.toks + 1)) { s with toks := s.toks + 1 + 1 }) :
    wpAny (model prog w) A (call (.builtin "len") [.ref l]) Q E s :=
  kun_lenL (PySem.IsL.isList (n := n) (N _ hm).1) (by simpa using hk) hz h
end Mine

end SR20
section SStep0
namespace Mine
theorem step_spec {w : World} {p : Program} {loose : List Str} {mean : ExcName → Option Value} {mg mb : Str → Option Value} {dp un : Nat} {gd : Option (List Code)} {cn : Str} {cs : Scope} {a : Addr} {ccd : Value} {cl : List (Str × Addr)} {outer : List Env} {A₀ : Around} {base h₀ : Heap} {L : Addr} {m : Str → Option Value} {s : Shared} {Q E : Value → Shared → Prop}
  {l1 : Addr} {v1 : List Value} {n1 : Nat} {x1 : List Int}{l2 : Addr} {v2 : List Value} {n2 : Nat} {x2 : List Int} {lv ra rb : Addr} {rs va vb : List Value} {za zb : List Int} {nr na nb : Nat} {i j c ll lr : Int} {ti tj tc tl1 tl2 : Tok} {rest : List (Addr × Obj)}
  (B : Below A₀ base outer h₀) (F : Fr h₀ L s.heap m) (X : (hd.heap_39 w.params).In h₀) (N : News h₀ L s.heap ((rb, listOf vb.toArray nb) :: rest)) (T : Top p loose mean mg mb h₀) (hk : cs.kind = .function)
  (hl1 : (l1, listOf v1.toArray n1) ∈ rest) (hi1 : IntsAre v1 x1) (hb1 : x1.length ≤ 1000)(hl2 : (l2, listOf v2.toArray n2) ∈ rest) (hi2 : IntsAre v2 x2) (hb2 : x2.length ≤ 1000)(hlv : (lv, listOf rs.toArray nr) ∈ rest) (hra : (ra, listOf va.toArray na) ∈ rest) (hza : IntsAre va za) (hzb : IntsAre vb zb) (hne : ∀ p ∈ rest, p.1 ≠ rb)
  (hr1 : rs[(i - 1).toNat]? = some (.ref ra)) (hr2 : rs[i.toNat]? = some (.ref rb)) (hi1 : 1 ≤ i) (hi2 : i ≤ x1.length) (hj1 : 1 ≤ j) (hj2 : j ≤ x2.length) (hla : za.length = x2.length + 1) (hlb : zb.length = x2.length + 1)
  (hdp : dp + 1 < recursionLimit) (hun : un + 8 < cLine)
  (hret : ∀ (t : Tok) (h' : Heap) (tk' : Nat), Fr h₀ L h' m → News h₀ L h' ((rb, listOf (vb.set j.toNat (.int (cellV c (za.getD j.toNat 0) (zb.getD (j - 1).toNat 0) (za.getD (j - 1).toNat 0) (x1.getD (i - 1).toNat 0) (x2.getD (j - 1).toNat 0)) t)).toArray nb) :: rest) → Q .none { s with heap := h', toks := tk' }) :
  wpAny (model PySem.Challenge.rw_fe5012_01.row.prog w) (ktrTop dp un gd cn cs L a ccd cl outer) (call (.ref 41) [.ref lv, .int i ti, .int j tj, .ref l1, .ref l2, .int ll tl1, .int lr tl2] [(Str.ofString "substitution_cost", .int c tc), (Str.ofString "transpositions", .bool false)]) Q E s := by
  have hret' : ∀ (v : Int) (t : Tok) (h' : Heap) (tk' : Nat), v = cellV c (za.getD j.toNat 0) (zb.getD (j - 1).toNat 0) (za.getD (j - 1).toNat 0) (x1.getD (i - 1).toNat 0) (x2.getD (j - 1).toNat 0) → Fr h₀ L h' m → News h₀ L h' ((rb, listOf (vb.set j.toNat (.int v t)).toArray nb) :: rest) → Q .none { s with heap := h', toks := tk' } := by
    rintro v t h' tk' rfl
    exact hret t h' tk'
  clear hret
  w_top off
  refine wpAny_call ?_
  k_dflt keq_hits
  k_steps
  all_goals (refine hret' _ _ _ _ ?_ (by assumption) (by assumption))
  all_goals (unfold cellV; split <;> omega)

end Mine

end SStep0
section SEInit0
local macro_rules | `(tactic| walk_at "exec For") => `(tactic| (k_here; (rename Fr _ _ _ _ => lF'); (with_unfolding_all refine' Mine.for_stop lF' ?k1 ?k2 ?_); (case k1 => with_unfolding_all exact rfl); (case k2 => with_unfolding_all exact rfl)))
local macro_rules | `(tactic| walk_at "exec For Name Call cons nil") => `(tactic| (k_here; (rename Fr _ _ _ _ => lF'); (with_unfolding_all refine' Mine.for_stop lF' ?k1 ?k2 ?_); (case k1 => with_unfolding_all exact rfl); (case k2 => with_unfolding_all exact rfl)))
local macro_rules | `(tactic| walk_at "exec For Name Name cons nil") => `(tactic| (k_here; (rename Fr _ _ _ _ => lF'); (with_unfolding_all refine' Mine.for_stop lF' ?k1 ?k2 ?_); (case k1 => with_unfolding_all exact rfl); (case k2 => with_unfolding_all exact rfl)))
namespace Mine
theorem init_spec {w : World} {p : Program} {loose : List Str} {mean : ExcName → Option Value} {mg mb : Str → Option Value} {dp un : Nat} {gd : Option (List Code)} {cn : Str} {cs : Scope} {a : Addr} {ccd : Value} {cl : List (Str × Addr)} {outer : List Env} {A₀ : Around} {base h₀ : Heap} {L : Addr} {m : Str → Option Value} {s : Shared} {Q E : Value → Shared → Prop}
  {i j : Int} {t u : Tok} {news : List (Addr × Obj)}
  (B : Below A₀ base outer h₀) (F : Fr h₀ L s.heap m) (X : (hd.heap_39 w.params).In h₀) (N : News h₀ L s.heap news) (T : Top p loose mean mg mb h₀) (hk : cs.kind = .function)
  (h0 : 1 ≤ i) (h1 : i ≤ 1000) (h2 : 1 ≤ j) (h3 : j ≤ 1000)
  (hdp : dp + 1 < recursionLimit) (hun : un + 8 < cLine)
  (hret : ∀ (lv : Addr) (as : List Addr) (Vs : List (List Value)) (ne : Nat) (h' : Heap) (tk' : Nat), MatOk lv as Vs (initM i.toNat j.toNat) news → Fr h₀ L h' m → News h₀ L h' (matLed lv ne as Vs news) → Q (.ref lv) { s with heap := h', toks := tk' }) :
  wpAny (model PySem.Challenge.rw_fe5012_01.row.prog w) (ktrTop dp un gd cn cs L a ccd cl outer) (call (.ref 28) [.int i t, .int j u] ) Q E s := by
  w_top off
  refine wpAny_call ?_
  k_dflt keq_hits
  k_steps
  refine stop_in ?_
  rename IsRange _ _ _ _ _ _ _ _ => rgX
  rename Fr _ _ _ _ => lF
  rename News _ _ _ _ => lN
  rename ∀ p ∈ news, _ => l1
  obtain ⟨lev, rfl, -⟩ := head_of lN
  obtain ⟨n1, rfl⟩ : ∃ n : Nat, i = (n : Int) := ⟨i.toNat, by omega⟩
  obtain ⟨n2, rfl⟩ : ∃ n : Nat, j = (n : Int) := ⟨j.toNat, by omega⟩
  refine loop_range (σ := List Addr × List (List Value) × Nat) (n := n1) (fun _ => []) [] (fun k c nx => nx = matLed lev c.2.2 c.1 c.2.1 news ∧ MatOk lev c.1 c.2.1 (List.replicate k (List.replicate n2 0)) news) ([], [], 0) rfl rgX (small_one (by omega) (by omega) (by omega) (by omega)) (rangeSize_nat _ _) lF lN _ (fun _ h => h) (fun _ h => nomatch h) ⟨by rfl, ?_⟩ ?_ ?_
  · exact ⟨rfl, rfl, by intro i v r h; simp at h, List.nodup_nil, by simp, by simp, fun p hp => Nat.ne_of_lt (l1 p hp)⟩
  · rintro k z ⟨as, Vs, ne⟩ nx t u h tk own hkn hz hoff ⟨rfl, hM⟩ F₁ N₁
    dsimp only at hM F₁ N₁ hoff ⊢
    have hr := hM.rows_ne
    have hnl := hM.news_lv
    have hol : ∀ p ∈ own, p.1 ≠ lev := fun p hp => hoff p hp _ (by simp [matLed])
    have hal : as.length = k := by rw [hM.len, hM.lenM, List.length_replicate]
    unfold matLed at N₁
    simp only [List.cons_append] at N₁
    k_steps
    rename News _ _ _ _ => lN
    obtain ⟨d, rfl, -⟩ := head_of lN
    rename _ ∧ _ ∧ AllLt _ _ => l3
    have l4 := allLt_iff.mp l3.2.2
    have hd1 : ∀ p ∈ news, p.1 ≠ d := fun p hp => Nat.ne_of_lt (l4 p (List.mem_append_left _ (List.mem_append_right _ hp)))
    have hd2 : d ∉ as := by
      intro hm
      obtain ⟨q, hq, e⟩ := List.mem_iff_getElem.mp hm
      have hv : Vs[q]? = some (Vs[q]'(hM.len ▸ hq)) := List.getElem?_eq_getElem (hM.len ▸ hq)
      have h9 := l4 _ (List.mem_append_left _ (List.mem_append_left _ (rowsLed_mem (List.getElem?_eq_some_iff.mpr ⟨hq, e⟩) hv)))
      exact Nat.lt_irrefl _ h9
    have hd3 : ∀ p ∈ own, p.1 ≠ d := fun p hp => Nat.ne_of_lt (l4 p (List.mem_append_right _ hp))
    rename IntsAre _ _ => iN
    have hrow : List.flatten (List.replicate (Int.toNat (n2 : Int)) [(0 : Int)]) = List.replicate n2 0 := by
      rw [Int.toNat_natCast]; simp
    rw [hrow] at iN
    have hM' := hM.snoc hd2 (Nat.ne_of_gt l3.2.1) hd1 iN
    rw [← List.replicate_succ'] at hM'
    refine gs_end (_, _, ne + 1) _ (by assumption) lN ?_ ?_ ?_ (fun _ h => nomatch h) ?_ ⟨rfl, hM'⟩
    · intro p hp
      dsimp only at hp
      unfold matLed at hp
      rw [rowsLed_append hM.len] at hp
      simp only [List.map_append, List.map_cons, List.map_nil] at hp
      rcases List.mem_cons.mp hp with rfl | hp
      · exact List.Mem.tail _ (List.Mem.tail _ (by rw [List.push_toArray]; exact List.Mem.head _))
      · rcases List.mem_append.mp hp with hp | hp
        · rcases List.mem_append.mp hp with hp | hp
          · exact List.Mem.tail _ (List.Mem.tail _ (List.Mem.tail _ (List.mem_append_left _ (List.mem_append_left _ hp))))
          · rw [List.mem_singleton.mp hp]; exact List.Mem.head _
        · exact List.Mem.tail _ (List.Mem.tail _ (List.Mem.tail _ (List.mem_append_left _ (List.mem_append_right _ hp))))
    · intro p hp
      exact List.Mem.tail _ (List.Mem.tail _ (List.Mem.tail _ (List.mem_append_right _ hp)))
    · intro p hp b hb
      dsimp only at hb
      obtain ⟨q, hq, rfl⟩ := List.mem_map.mp hb
      unfold matLed at hq
      rw [rowsLed_append hM.len] at hq
      rcases List.mem_cons.mp hq with rfl | hq
      · exact hol p hp
      · rcases List.mem_append.mp hq with hq | hq
        · rcases List.mem_append.mp hq with hq | hq
          · exact hoff p hp _ (List.mem_map.mpr ⟨q, List.mem_cons_of_mem _ (List.mem_append_left _ hq), rfl⟩)
          · rw [List.mem_singleton.mp hq]; exact hd3 p hp
        · exact hoff p hp _ (List.mem_map.mpr ⟨q, List.mem_cons_of_mem _ (List.mem_append_right _ hq), rfl⟩)
    · intro z hz _ _
      dsimp only [kstB]
      rw [if_neg hz]
      rfl
  · rintro ⟨as, Vs, ne⟩ nx u h tk ⟨rfl, hM⟩ F₁ N₁
    dsimp only at hM F₁ N₁ ⊢
    k_steps
    refine stop_in ?_
    rename IsRange _ _ _ _ _ _ _ _ => rgX
    rename Fr _ _ _ _ => lF
    rename News _ _ _ _ => lN
    refine loop_range (σ := List (List Value)) (n := n1) (fun _ => []) [] (fun k c nx => nx = matLed lev ne as c news ∧ MatOk lev as c (m2 n1 n2 k) news) Vs rfl rgX (small_one (by omega) (by omega) (by omega) (by omega)) (rangeSize_nat _ _) lF lN _ (fun _ h => h) (fun _ h => nomatch h) ⟨rfl, hM⟩ ?_ ?_
    · rintro k z c nx t u h tk own hkn hz hoff ⟨rfl, hM⟩ F₁ N₁
      dsimp only at hM F₁ N₁ hoff ⊢
      have hsh := m2_shape n1 n2 k (by omega)
      have hk1 : k < n1 := by omega
      obtain ⟨rb, ha⟩ : ∃ rb, as[k]? = some rb := ⟨_, List.getElem?_eq_getElem (by rw [hM.len, hM.lenM, hsh.1]; exact hk1)⟩
      obtain ⟨vb, hv⟩ : ∃ vb, c[k]? = some vb := ⟨_, List.getElem?_eq_getElem (by rw [hM.lenM, hsh.1]; exact hk1)⟩
      obtain ⟨hrow, hlen⟩ := hsh.row hk1
      have hzb := hM.iv _ vb _ hv hrow
      obtain ⟨rest, N₂, hne, hin⟩ := mat_open N₁ ha hv
      have hlv : (lev, listOf (as.map Value.ref).toArray ne) ∈ rest := hin _ (List.mem_append_left _ (List.Mem.head _)) (hM.key_ne ha).2
      have hit : (as.map Value.ref)[z.toNat]? = some (.ref rb) := by rw [show z.toNat = k by omega]; exact map_ref_at ha
      have hoa : ∀ p ∈ own, p.1 ≠ rb := OwnOff.as hoff hM.len ha
      clear N₁
      obtain rfl : z = (k : Int) := by omega
      k_steps
      rename News _ _ _ _ => lN
      refine gs_end (c.set k (vb.set 0 (.int (k : Int) t))) (matLed lev ne as (c.set k (vb.set 0 (.int (k : Int) t))) news) (by assumption) lN (mat_close hM ha hin _) ?_ ?_ (fun _ h => nomatch h) ?_ ⟨rfl, hM.put (ints_set hzb _)⟩
      · exact fun p hp => List.mem_cons_of_mem _ (hin p (List.mem_append_right _ hp) (hoa p hp))
      · rw [matLed_keys (Vs' := c) (nl' := ne) (by simp)]; exact hoff
      · intro z hz _ _
        dsimp only [kstB]
        rw [if_neg hz]
        rfl
    · rintro Vs nx u h tk ⟨rfl, hM⟩ F₁ N₁
      dsimp only at hM F₁ N₁ ⊢
      k_steps
      refine stop_in ?_
      rename IsRange _ _ _ _ _ _ _ _ => rgX
      rename Fr _ _ _ _ => lF
      rename News _ _ _ _ => lN

      refine loop_range (σ := List (List Value)) (n := n2) (fun _ => []) [] (fun k c nx => nx = matLed lev ne as c news ∧ MatOk lev as c (m3 n1 n2 k) news) Vs rfl rgX (small_one (by omega) (by omega) (by omega) (by omega)) (rangeSize_nat _ _) lF lN _ (fun _ h => h) (fun _ h => nomatch h) ⟨rfl, hM⟩ ?_ ?_
      · rintro k z c nx t u h tk own hkn hz hoff ⟨rfl, hM⟩ F₁ N₁
        dsimp only at hM F₁ N₁ hoff ⊢
        have hsh := m3_shape n1 n2 (by omega) k
        have hk1 : 0 < n1 := by omega
        obtain ⟨rb, ha⟩ : ∃ rb, as[0]? = some rb := ⟨_, List.getElem?_eq_getElem (by rw [hM.len, hM.lenM, hsh.1]; exact hk1)⟩
        obtain ⟨vb, hv⟩ : ∃ vb, c[0]? = some vb := ⟨_, List.getElem?_eq_getElem (by rw [hM.lenM, hsh.1]; exact hk1)⟩
        obtain ⟨hrow, hlen⟩ := hsh.row hk1
        have hzb := hM.iv _ vb _ hv hrow
        obtain ⟨rest, N₂, hne, hin⟩ := mat_open N₁ ha hv
        have hlv : (lev, listOf (as.map Value.ref).toArray ne) ∈ rest := hin _ (List.mem_append_left _ (List.Mem.head _)) (hM.key_ne ha).2
        have hit : (as.map Value.ref)[(0 : Int).toNat]? = some (.ref rb) := by exact map_ref_at ha
        have hoa : ∀ p ∈ own, p.1 ≠ rb := OwnOff.as hoff hM.len ha
        clear N₁
        obtain rfl : z = (k : Int) := by omega
        k_steps
        rename News _ _ _ _ => lN
        refine gs_end (c.set 0 (vb.set k (.int (k : Int) t))) (matLed lev ne as (c.set 0 (vb.set k (.int (k : Int) t))) news) (by assumption) lN (mat_close hM ha hin _) ?_ ?_ (fun _ h => nomatch h) ?_ ⟨rfl, hM.put (ints_set hzb _)⟩
        · exact fun p hp => List.mem_cons_of_mem _ (hin p (List.mem_append_right _ hp) (hoa p hp))
        · rw [matLed_keys (Vs' := c) (nl' := ne) (by simp)]; exact hoff
        · intro z hz _ _
          dsimp only [kstB]
          rw [if_neg hz]
          rfl
      · rintro Vs nx u h tk ⟨rfl, hM⟩ F₁ N₁
        dsimp only at hM F₁ N₁ ⊢
        k_steps
        exact hret lev as Vs ne _ _ hM (by assumption) (by assumption)

end Mine

end SEInit0
section SELast0
namespace Mine
theorem last_spec {w : World} {p : Program} {loose : List Str} {mean : ExcName → Option Value} {mg mb : Str → Option Value} {dp un : Nat} {gd : Option (List Code)} {cn : Str} {cs : Scope} {a : Addr} {ccd : Value} {cl : List (Str × Addr)} {outer : List Env} {A₀ : Around} {base h₀ : Heap} {L : Addr} {m : Str → Option Value} {s : Shared} {Q E : Value → Shared → Prop}
  {l1 : Addr} {v1 : List Value} {n1 : Nat} {x1 : List Int}{news : List (Addr × Obj)}
  (B : Below A₀ base outer h₀) (F : Fr h₀ L s.heap m) (X : (hd.heap_39 w.params).In h₀) (N : News h₀ L s.heap news) (T : Top p loose mean mg mb h₀) (hk : cs.kind = .function)
  (hl1 : (l1, listOf v1.toArray n1) ∈ news) (hi1 : IntsAre v1 x1) (hb1 : x1.length ≤ 1000)
  (hdp : dp + 1 < recursionLimit) (hun : un + 8 < cLine)
  (hret : ∀ (D : Addr) (o : Obj) (kvs : List (Int × Value)) (h' : Heap) (tk' : Nat), o.IsDictOf (PySem.intKind PySem.Challenge.rw_fe5012_01.row.prog w) kvs → kvs.length ≤ x1.length → DictInts kvs x1 → Fr h₀ L h' m → News h₀ L h' ((D, o) :: news) → Q (.ref D) { s with heap := h', toks := tk' }) :
  wpAny (model PySem.Challenge.rw_fe5012_01.row.prog w) (ktrTop dp un gd cn cs L a ccd cl outer) (call (.ref 33) [.ref l1] ) Q E s := by
  w_top off
  refine wpAny_call ?_
  k_dflt keq_hits
  rename News _ _ _ _ => lN
  have hL := PySem.IsL.isList (n := n1) (lN.get hl1)
  k_steps
  rename Heap.get? _ _ = none => hDn
  rename Heap.DictOf _ _ _ _ => hD
  rename PyProof.V.FlatPairs _ _ _ => hfp
  obtain ⟨o, ho, hd⟩ := Heap.dictOf_iff.mp hD
  refine hret _ o _ _ _ hd ?_ ?_ (by assumption) (new_of (by assumption) hDn (by assumption) ho)
  · have h1 := hfp.length
    have h2 := putAll_len (x1.filter fun _ => true) (fun _ => PyData.int 0)
    have h3 : (x1.filter fun _ => true).length ≤ x1.length := List.length_filter_le _ _
    omega
  · intro x hx
    obtain ⟨v, hv, hfl⟩ := hfp.of_lookup PyProof.V.same_int (lookup_putAll (enc := PyData.int) (kf := fun a => a) (d := fun _ => PyData.int 0) PyProof.V.keyEnc_int (fun _ _ _ => rfl) (a := x) (x1.filter fun _ => true) (by simp [hx]))
    obtain ⟨tv, rfl⟩ := hfl.int_inv
    exact ⟨_, tv, hv⟩

end Mine

end SELast0
section SECheck0
namespace Mine
theorem check_spec {w : World} {p : Program} {loose : List Str} {mean : ExcName → Option Value} {mg mb : Str → Option Value} {dp un : Nat} {gd : Option (List Code)} {cn : Str} {cs : Scope} {a : Addr} {ccd : Value} {cl : List (Str × Addr)} {outer : List Env} {A₀ : Around} {base h₀ : Heap} {L : Addr} {m : Str → Option Value} {s : Shared} {Q E : Value → Shared → Prop}
  {l1 : Addr} {v1 : List Value} {n1 : Nat} {x1 : List Int}{l2 : Addr} {v2 : List Value} {n2 : Nat} {x2 : List Int}{u : Str} {tu : Tok} {news : List (Addr × Obj)}
  (B : Below A₀ base outer h₀) (F : Fr h₀ L s.heap m) (X : (hd.heap_39 w.params).In h₀) (N : News h₀ L s.heap news) (T : Top p loose mean mg mb h₀) (hk : cs.kind = .function)
  (hl1 : (l1, listOf v1.toArray n1) ∈ news) (hi1 : IntsAre v1 x1) (hb1 : x1.length ≤ 1000)(hl2 : (l2, listOf v2.toArray n2) ∈ news) (hi2 : IntsAre v2 x2) (hb2 : x2.length ≤ 1000)
  (hdp : dp + 1 < recursionLimit) (hun : un + 8 < cLine)
  (hret : ∀ (h' : Heap) (tk' : Nat), Fr h₀ L h' m → News h₀ L h' news → Q .none { s with heap := h', toks := tk' }) :
  wpAny (model PySem.Challenge.rw_fe5012_01.row.prog w) (ktrTop dp un gd cn cs L a ccd cl outer) (call (.ref 21) [.ref l1, .ref l2, .str u tu] ) Q E s := by
  w_top off
  refine wpAny_call ?_
  k_dflt keq_hits
  k_steps
  all_goals (exact hret _ _ (by assumption) (by assumption))

end Mine

end SECheck0
section SEDist0
local macro_rules | `(tactic| walk_at "exec For") => `(tactic| (k_here; (rename Fr _ _ _ _ => lF'); (with_unfolding_all refine' Mine.for_stop lF' ?k1 ?k2 ?_); (case k1 => with_unfolding_all exact rfl); (case k2 => with_unfolding_all exact rfl)))
local macro_rules | `(tactic| walk_at "exec For Name Call cons nil") => `(tactic| (k_here; (rename Fr _ _ _ _ => lF'); (with_unfolding_all refine' Mine.for_stop lF' ?k1 ?k2 ?_); (case k1 => with_unfolding_all exact rfl); (case k2 => with_unfolding_all exact rfl)))
local macro_rules | `(tactic| walk_at "exec For Name Name cons nil") => `(tactic| (k_here; (rename Fr _ _ _ _ => lF'); (with_unfolding_all refine' Mine.for_stop lF' ?k1 ?k2 ?_); (case k1 => with_unfolding_all exact rfl); (case k2 => with_unfolding_all exact rfl)))
local macro_rules | `(tactic| walk_at "call ref") => `(tactic| (k_here; (with_reducible show wpAny _ _ (call (Value.ref 21) _ _) _ _ _); k_dflt (refine' Mine.check_spec ?kB ?kF ?kX ?kN ?kT ?kK ?h0 ?h1 ?h2 ?h3 ?h4 ?h5 ?kd ?ku ?_); (case kB => k_asm); (case kF => k_asm); (case kX => k_asm); (case kN => k_asm); (case kT => k_asm); (case kK => first | exact rfl | assumption); (case h0 => kcf_m); (case h1 => assumption); (case h2 => omega); (case h3 => kcf_m); (case h4 => assumption); (case h5 => omega); (case kd => ktr_room); (case ku => ktr_units); intro h' tk' F' N'; (try dsimp only); (try k_fold)))
local macro_rules | `(tactic| walk_at "call ref") => `(tactic| (k_here; (with_reducible show wpAny _ _ (call (Value.ref 28) _ _) _ _ _); k_dflt (refine' Mine.init_spec ?kB ?kF ?kX ?kN ?kT ?kK ?h0 ?h1 ?h2 ?h3 ?kd ?ku ?_); (case kB => k_asm); (case kF => k_asm); (case kX => k_asm); (case kN => k_asm); (case kT => k_asm); (case kK => first | exact rfl | assumption); (case h0 => omega); (case h1 => omega); (case h2 => omega); (case h3 => omega); (case kd => ktr_room); (case ku => ktr_units); intro lv' as' Vs' ne' h' tk' hM' F' N'; (try dsimp only); (try k_fold)))
local macro_rules | `(tactic| walk_at "call ref") => `(tactic| (k_here; (with_reducible show wpAny _ _ (call (Value.ref 33) _ _) _ _ _); k_dflt (refine' Mine.last_spec ?kB ?kF ?kX ?kN ?kT ?kK ?h0 ?h1 ?h2 ?kd ?ku ?_); (case kB => k_asm); (case kF => k_asm); (case kX => k_asm); (case kN => k_asm); (case kT => k_asm); (case kK => first | exact rfl | assumption); (case h0 => kcf_m); (case h1 => (first | assumption | exact IntsAre.append (by assumption) (by assumption))); (case h2 => (simp only [List.length_append]; omega)); (case kd => ktr_room); (case ku => ktr_units); intro D' o' kvs' h' tk' hd' hlen' hdi' F' N'; (try dsimp only); (try k_fold)))
local macro_rules | `(tactic| walk_at "call ref") => `(tactic| (k_here; (with_reducible show wpAny _ _ (call (Value.ref 41) _ _) _ _ _); k_dflt (refine' Mine.step_spec ?kB ?kF ?kX ?kN ?kT ?kK ?h0 ?h1 ?h2 ?h3 ?h4 ?h5 ?h6 ?h7 ?h8 ?h9 ?h10 ?h11 ?h12 ?h13 ?h14 ?h15 ?h16 ?h17 ?h18 ?kd ?ku ?_); (case kB => k_asm); (case kF => k_asm); (case kX => k_asm); (case kN => k_asm); (case kT => k_asm); (case kK => first | exact rfl | assumption); (case h0 => kcf_m); (case h1 => assumption); (case h2 => omega); (case h3 => kcf_m); (case h4 => assumption); (case h5 => omega); (case h6 => kcf_m); (case h11 => assumption); (case h12 => assumption); (case h7 => kcf_m); (case h8 => assumption); (case h9 => assumption); (case h10 => ((repeat' (first | assumption | exact List.forall_mem_nil _ | refine' List.forall_mem_cons.mpr (And.intro ?_ ?_) | refine' List.forall_mem_append.mpr (And.intro ?_ ?_) | k_ne)); done)); (case h13 => omega); (case h14 => omega); (case h15 => omega); (case h16 => omega); (case h17 => omega); (case h18 => omega); (case kd => ktr_room); (case ku => ktr_units); intro t' h' tk' F' N'; (try dsimp only); (try k_fold)))
local macro_rules | `(tactic| walk_at "subscriptTail") => `(tactic| (k_here; (with_reducible show wpAny _ _ (subscriptTail _ _ (Value.ref _) (Value.int _ _)) _ _ _); (rename News _ _ _ _ => lN'); (with_unfolding_all refine' kda_item (knd := PySem.intKind _ _) lN' ?k1 ?k2 (intKind_is _ _ _ _) ?k4 ?_ ?k6 ?k7); (case k1 => kcf_m); (case k2 => assumption); (case k4 => assumption); (case k6 => with_unfolding_all rfl); (case k7 => intro _; with_unfolding_all rfl); (try dsimp only); (try k_fold)))
local macro_rules | `(tactic| walk_at "setItem ref int") => `(tactic| (k_here; (with_reducible show wpAny _ _ (setItem (Value.ref _) (Value.int _ _) (Value.int _ _)) _ _ _); k_dflt (refine' kda_set (knd := PySem.intKind _ _) ?kF ?kN (UpdF.head ?kU) ?kd (intKind_is _ _ _ _) ?kz ?_; (case kF => k_asm); (case kN => k_asm); (case kU => ((repeat' (first | assumption | exact List.forall_mem_nil _ | refine' List.forall_mem_cons.mpr (And.intro ?_ ?_) | refine' List.forall_mem_append.mpr (And.intro ?_ ?_) | k_ne)); done)); (case kd => assumption); (case kz => rw [sizeLine_eq]; omega)); intro h' o' F' N' hd'; (try dsimp only); (try k_fold)))
namespace Mine
theorem dist_spec {w : World} {p : Program} {loose : List Str} {mean : ExcName → Option Value} {mg mb : Str → Option Value} {dp un : Nat} {gd : Option (List Code)} {cn : Str} {cs : Scope} {a : Addr} {ccd : Value} {cl : List (Str × Addr)} {outer : List Env} {A₀ : Around} {base h₀ : Heap} {L : Addr} {m : Str → Option Value} {s : Shared} {Q E : Value → Shared → Prop}
  {l1 : Addr} {v1 : List Value} {n1 : Nat} {x1 : List Int}{l2 : Addr} {v2 : List Value} {n2 : Nat} {x2 : List Int}{c : Int} {tc : Tok} {news : List (Addr × Obj)}
  (B : Below A₀ base outer h₀) (F : Fr h₀ L s.heap m) (X : (hd.heap_39 w.params).In h₀) (N : News h₀ L s.heap news) (T : Top p loose mean mg mb h₀) (hk : cs.kind = .function)
  (hl1 : (l1, listOf v1.toArray n1) ∈ news) (hi1 : IntsAre v1 x1) (hb1 : x1.length ≤ 400)(hl2 : (l2, listOf v2.toArray n2) ∈ news) (hi2 : IntsAre v2 x2) (hb2 : x2.length ≤ 400)(hnd : NoDict news)
  (hdp : dp + 2 < recursionLimit) (hun : un + 40 < cLine)
  (hret : ∀ (t : Tok) (h' : Heap) (tk' : Nat), Fr h₀ L h' m → News h₀ L h' news → Q (.int (edV c x1 x2) t) { s with heap := h', toks := tk' }) :
  wpAny (model PySem.Challenge.rw_fe5012_01.row.prog w) (ktrTop dp un gd cn cs L a ccd cl outer) (call (.ref 49) [.ref l1, .ref l2, .int c tc] ) Q E s := by
  w_top off
  refine wpAny_call ?_
  k_dflt keq_hits
  k_steps
  refine stop_in ?_
  rename IsRange _ _ _ _ _ _ _ _ => rgX
  rename Fr _ _ _ _ => lF
  rename News _ _ _ _ => lN
  rename MatOk _ _ _ _ _ => hM
  rename Obj.IsDictOf _ _ _ => hdo
  rename DictInts _ _ => hdi
  rename List.length _ ≤ List.length (_ ++ _) => hkl
  obtain ⟨D, o, lv, ne, as, Vs, rfl, rfl, rfl, rfl, rfl, rfl⟩ := names_dist lN
  obtain ⟨kvs, rfl⟩ := names_kvs hdo
  rw [show ((x1.length : Int) + 1).toNat = x1.length + 1 by omega, show ((x2.length : Int) + 1).toNat = x2.length + 1 by omega] at hM
  rw [List.length_append] at hkl
  have hD0 : ∀ p ∈ matLed lv ne as Vs news, p.1 ≠ D := dict_ne hnd.mat (fun p hp => lN p (by
    rcases List.mem_cons.mp hp with rfl | hp
    · exact .head _
    · exact .tail _ (.tail _ hp))) hdo
  obtain ⟨hD1, hD2, hD3⟩ := off_mat hM.len hD0
  refine loop_range (σ := List (List Value) × Obj × List (Int × Value)) (n := x1.length) (fun _ => []) [Str.ofString "last_right_buf", Str.ofString "j", Str.ofString "last_left", Str.ofString "last_right"]
    (fun k q nx => nx = matLed lv ne as q.1 news ++ [(D, q.2.1)] ∧ MatOk lv as q.1 (fillMat c x1 x2 k) news ∧ q.2.1.IsDictOf (PySem.intKind _ w) q.2.2 ∧ q.2.2.length ≤ 800 ∧ DictInts q.2.2 (x1 ++ x2)) (Vs, o, kvs) rfl rgX (small_one (by omega) (by omega) (by omega) (by omega)) (by rw [rangeSize_nat]; omega) lF lN
    _ ?_ (fun _ h => nomatch h) ⟨rfl, hM, hdo, by dsimp only; omega, hdi⟩ ?_ ?_
  · intro p hp
    dsimp only at hp
    rcases List.mem_append.mp hp with hp | hp
    · exact .tail _ (.tail _ hp)
    · rw [List.mem_singleton.mp hp]; exact .head _
  · rintro k z ⟨Vs, o, kvs⟩ nx t u h tk own hkn hz hoff ⟨rfl, hM, hdo, hkl, hdi⟩ F₁ N₁
    dsimp only at hM F₁ N₁ hoff hdo hkl hdi ⊢
    have hsh := fillMat_shape c x1 x2 k (by omega)
    have hl0 : as.length = x1.length + 1 := by rw [hM.len, hM.lenM, hsh.1]
    have hl0' : Vs.length = x1.length + 1 := by rw [hM.lenM, hsh.1]
    obtain ⟨ra, ha1⟩ : ∃ ra, as[k]? = some ra := ⟨_, List.getElem?_eq_getElem (by omega)⟩
    obtain ⟨rb, ha2⟩ : ∃ rb, as[k + 1]? = some rb := ⟨_, List.getElem?_eq_getElem (by omega)⟩
    obtain ⟨va, hv1⟩ : ∃ va, Vs[k]? = some va := ⟨_, List.getElem?_eq_getElem (by omega)⟩
    obtain ⟨vb, hv2⟩ : ∃ vb, Vs[k + 1]? = some vb := ⟨_, List.getElem?_eq_getElem (by omega)⟩
    obtain ⟨hrow1, hla⟩ := hsh.row (i := k) (by omega)
    obtain ⟨hrow2, hlb⟩ := hsh.row (i := k + 1) (by omega)
    have hza := hM.iv _ va _ hv1 hrow1
    have hzb := hM.iv _ vb _ hv2 hrow2
    generalize hgza : (fillMat c x1 x2 k).getD k [] = za at hrow1 hla hza
    generalize hgzb : (fillMat c x1 x2 k).getD (k + 1) [] = zb at hrow2 hlb hzb
    have N₂ := regroup N₁
    clear N₁
    obtain ⟨rest, N₃, hne, hin⟩ := mat_open N₂ ha2 hv2
    clear N₂
    have hDb : D ≠ rb := fun e => hD2 (e ▸ List.mem_of_getElem? ha2)
    have hoffM : OwnOff own ((matLed lv ne as Vs news).map (·.1)) := fun p hp b hb => hoff p hp b (by rw [List.map_append]; exact List.mem_append_left _ hb)
    have hoD : ∀ p ∈ own, p.1 ≠ D := fun p hp => hoff p hp _ (by simp)
    have hob : ∀ p ∈ own, p.1 ≠ rb := OwnOff.as hoffM hM.len ha2
    have hlv : (lv, listOf (as.map Value.ref).toArray ne) ∈ rest := hin _ (List.mem_append_left _ (.head _)) (hM.key_ne ha2).2
    have hra : (ra, listOf va.toArray 0) ∈ rest := hin _ (List.mem_append_left _ (List.mem_cons_of_mem _ (List.mem_append_left _ (rowsLed_mem ha1 hv1)))) (nodup_ne hM.nd ha1 ha2 (by omega))
    have hl1r : (l1, listOf v1.toArray n1) ∈ rest := hin _ (List.mem_append_left _ (List.mem_cons_of_mem _ (List.mem_append_right _ hl1))) ((hM.key_ne ha2).1 _ hl1)
    have hl2r : (l2, listOf v2.toArray n2) ∈ rest := hin _ (List.mem_append_left _ (List.mem_cons_of_mem _ (List.mem_append_right _ hl2))) ((hM.key_ne ha2).1 _ hl2)
    have hDr : (D, o) ∈ rest := hin _ (List.mem_append_right _ (.head _)) hDb
    have hor : ∀ p ∈ own, p ∈ rest := fun p hp => hin p (List.mem_append_right _ (.tail _ hp)) (hob p hp)
    have hit1 : (as.map Value.ref)[(z - 1).toNat]? = some (.ref ra) := by rw [show (z - 1).toNat = k by omega]; exact map_ref_at ha1
    have hit2 : (as.map Value.ref)[z.toNat]? = some (.ref rb) := by rw [show z.toNat = k + 1 by omega]; exact map_ref_at ha2
    have ez : (z - 1).toNat = k := by omega
    k_steps
    refine stop_in ?_
    rename IsRange _ _ _ _ _ _ _ _ => rgY
    rename Fr _ _ _ _ => lF2
    rename News _ _ _ _ => lN2
    refine' loop_range (σ := List Value × Int × Tok) (n := x2.length) (fun q => [(Str.ofString "last_right_buf", Value.int q.2.1 q.2.2)]) [Str.ofString "last_left", Str.ofString "last_right"]
      (fun j q nx => nx = (rb, listOf q.1.toArray 0) :: rest ∧ IntsAre q.1 (fillRow c (x1.getD k 0) x2 za zb j)) (vb, 0, _) rfl rgY (small_one (by omega) (by omega) (by omega) (by omega)) (by rw [rangeSize_nat]; omega) lF2 lN2
      _ (fun _ h => h) ?hk0 ⟨rfl, hzb⟩ ?turn ?done
    case hk0 =>
      refine List.forall_mem_cons.mpr ⟨?_, List.forall_mem_nil _⟩
      with_unfolding_all rfl
    case turn =>
      rintro j y ⟨vs, lr, tr⟩ nx t2 u2 h2 tk2 own2 hjn hy hoff2 ⟨rfl, hzs⟩ F₂ N₃'
      dsimp only at hzs F₂ N₃' hoff2 ⊢
      simp only [List.cons_append] at N₃'
      have hob2 : ∀ p ∈ own2, p.1 ≠ rb := fun p hp => hoff2 p hp _ (by simp)
      have hls : (fillRow c (x1.getD k 0) x2 za zb j).length = x2.length + 1 := by rw [fillRow_len]; exact hlb
      have ey : (y - 1).toNat = j := by omega
      have ey2 : y.toNat = j + 1 := by omega
      obtain ⟨li, tl, hva⟩ := hdi (x2.getD (y - 1).toNat 0) (by rw [ey]; exact List.mem_append_right _ (getD_mem hjn))
      k_steps
      all_goals (
        rename News _ _ _ _ => lN3
        rw [ey2, ey, ez] at lN3
        refine' gs_end (_, _, _) ((rb, _) :: rest) (by assumption) lN3 ?h1 ?h2 ?h3 ?h4 (by (intro z h1 h2 h3; (try (have h2' := h2 _ (List.Mem.head _); dsimp only at h2')); (try (simp only [List.contains_cons, List.contains_nil, Bool.or_false, Bool.or_eq_false_iff, beq_eq_false_iff_ne, ne_eq] at h3)); first | rfl | (simp [kstB, h1, h3]; done) | (simp [kstB, h1, h2', h3]; done) | (simp [kstB, h1]; done))) ⟨rfl, ints_set hzs _⟩
        case h1 =>
          intro p hp
          rcases List.mem_cons.mp hp with rfl | hp
          · exact .head _
          · exact .tail _ (List.mem_append_left _ hp)
        case h2 => exact fun p hp => .tail _ (List.mem_append_right _ hp)
        case h3 => exact hoff2
        case h4 =>
          refine List.forall_mem_cons.mpr ⟨?_, List.forall_mem_nil _⟩
          with_unfolding_all rfl)
    case done =>
      rintro ⟨vs, lr, tr⟩ nx u2 h2 tk2 ⟨rfl, hzs⟩ F₂ N₄
      dsimp only at hzs F₂ N₄ ⊢
      have hDr4 : (D, o) ∈ (rb, listOf vs.toArray 0) :: rest := .tail _ hDr
      obtain ⟨rest2, N₅, hne2, hin2⟩ := front N₄ hDr4
      clear N₄
      have hl1q : (l1, listOf v1.toArray n1) ∈ rest2 := hin2 _ (.tail _ hl1r) (hD3 _ hl1)
      have hkey : x1.getD (z - 1).toNat 0 ∈ x1 ++ x2 := by rw [ez]; exact List.mem_append_left _ (getD_mem hkn)
      obtain ⟨pi, pt, hpk⟩ := hdi _ hkey
      have hsl := stored_len (v := Value.int z t) hpk
      k_steps
      rename News _ _ _ _ => lN4
      rename Obj.IsDictOf _ _ _ => hdo2
      have hM2 : MatOk lv as (Vs.set (k + 1) vs) (fillMat c x1 x2 (k + 1)) news := by
        show MatOk lv as (Vs.set (k + 1) vs) ((fillMat c x1 x2 k).set (k + 1) (fillRow c (x1.getD k 0) x2 ((fillMat c x1 x2 k).getD k []) ((fillMat c x1 x2 k).getD (k + 1) []) x2.length)) news
        rw [hgza, hgzb]
        exact hM.put hzs
      refine' gs_end (Vs.set (k + 1) vs, _, _) (matLed lv ne as (Vs.set (k + 1) vs) news ++ [(D, _)]) (by assumption) lN4 ?h1 ?h2 ?h3 (fun _ h => nomatch h) (by (intro z h1 h2 h3; (try (have h2' := h2 _ (List.Mem.head _); dsimp only at h2')); (try (simp only [List.contains_cons, List.contains_nil, Bool.or_false, Bool.or_eq_false_iff, beq_eq_false_iff_ne, ne_eq] at h3)); first | rfl | (simp [kstB, h1, h3]; done) | (simp [kstB, h1, h2', h3]; done) | (simp [kstB, h1]; done))) ⟨rfl, hM2, hdo2, Nat.le_trans (Nat.le_of_eq (stored_len hpk)) hkl, hdi.put _ _ _⟩
      case h1 =>
        intro p hp
        rcases List.mem_append.mp hp with hp | hp
        · exact .tail _ (hin2 p (mat_close hM ha2 hin vs p hp) (mat_off hD1 hD2 hD3 p hp))
        · rw [List.mem_singleton.mp hp]; exact .head _
      case h2 => exact fun p hp => .tail _ (hin2 p (.tail _ (hor p hp)) (hoD p hp))
      case h3 =>
        intro p hp b hb
        rw [List.map_append] at hb
        rcases List.mem_append.mp hb with hb | hb
        · exact hoffM p hp b (by rw [matLed_keys (Vs' := Vs.set (k + 1) vs) (nl' := ne) (by simp)]; exact hb)
        · simp only [List.map_cons, List.map_nil, List.mem_singleton] at hb
          rw [hb]; exact hoD p hp
  · rintro ⟨Vs, o, kvs⟩ nx u h tk ⟨rfl, hM, hdo, hkl, hdi⟩ F₁ N₁
    dsimp only at hM F₁ N₁ hdo hkl hdi ⊢
    have hsh := fillMat_shape c x1 x2 x1.length (Nat.le_refl _)
    have hl0 : as.length = x1.length + 1 := by rw [hM.len, hM.lenM, hsh.1]
    have hl0' : Vs.length = x1.length + 1 := by rw [hM.lenM, hsh.1]
    obtain ⟨ra, ha1⟩ : ∃ ra, as[x1.length]? = some ra := ⟨_, List.getElem?_eq_getElem (by omega)⟩
    obtain ⟨va, hv1⟩ : ∃ va, Vs[x1.length]? = some va := ⟨_, List.getElem?_eq_getElem (by omega)⟩
    obtain ⟨hrow1, hla⟩ := hsh.row (i := x1.length) (by omega)
    have hza := hM.iv _ va _ hv1 hrow1
    have hlv : (lv, listOf (as.map Value.ref).toArray ne) ∈ matLed lv ne as Vs news ++ [(D, o)] := List.mem_append_left _ (.head _)
    have hra : (ra, listOf va.toArray 0) ∈ matLed lv ne as Vs news ++ [(D, o)] := List.mem_append_left _ (List.mem_cons_of_mem _ (List.mem_append_left _ (rowsLed_mem ha1 hv1)))
    have hit : (as.map Value.ref)[((x1.length : Nat) : Int).toNat]? = some (.ref ra) := by rw [Int.toNat_natCast]; exact map_ref_at ha1
    k_steps
    rename News h₀ L _ _ => kN
    rename Fr h₀ L _ _ => kF
    exact hret _ _ _ kF (fun p hp => kN p (List.mem_append_left _ (List.mem_cons_of_mem _ (List.mem_append_right _ hp))))

end Mine

end SEDist0
section SR30
open PySem PySem.W PyProof.Rows PySem.Calls
namespace Mine
/-! a while by letters, a ledger word and a measure -/
section
variable {prog : Program} {w : World} {A : Around} {E : Value → Shared → Prop} {Q : Flow → Shared → Prop} {s : Shared} {env : Env} {h₀ : Heap} {L : Addr}
def WS {σ : Type} (ps : σ → List (Str × Value)) (stored : List Str) (m₀ : Str → Option Value) (G : σ → List (Addr × Obj) → Prop) (c : σ) (m : Str → Option Value) (nx : List (Addr × Obj)) : Prop :=
  (∀ p ∈ ps c, m p.1 = some p.2) ∧ (∀ z, (∀ p ∈ ps c, z ≠ p.1) → stored.contains z = false → m z = m₀ z) ∧ G c nx
def WEnd {σ : Type} (h₀ : Heap) (L : Addr) (s : Shared) (ps : σ → List (Str × Value)) (stored : List Str) (m₀ : Str → Option Value) (G : σ → List (Addr × Obj) → Prop) (μ : σ → Nat) (k : Nat) (s₂ : Shared) : Prop :=
  ∃ (c' : σ) (h' : Heap) (tk : Nat) (m' : Str → Option Value) (nx : List (Addr × Obj)), s₂ = { s with heap := h', toks := tk } ∧ Fr h₀ L h' m' ∧ News h₀ L h' nx ∧ μ c' < k ∧ WS ps stored m₀ G c' m' nx
def WPost {σ : Type} (h₀ : Heap) (L : Addr) (s : Shared) (ps : σ → List (Str × Value)) (stored : List Str) (m₀ : Str → Option Value) (G : σ → List (Addr × Obj) → Prop) (μ : σ → Nat) (k : Nat) (Q : Flow → Shared → Prop) (f : Flow) (s₂ : Shared) : Prop :=
  match f with
  | .ret v => Q (.ret v) s₂
  | .brk => Q .next s₂
  | _ => WEnd h₀ L s ps stored m₀ G μ k s₂
theorem wend {σ : Type} {ps : σ → List (Str × Value)} {stored : List Str} {m₀ m' : Str → Option Value} {G : σ → List (Addr × Obj) → Prop} {μ : σ → Nat} {k : Nat} {h' : Heap} {tk : Nat} {news' : List (Addr × Obj)} (c' : σ) (nx : List (Addr × Obj))
    (F : Fr h₀ L h' m') (N : News h₀ L h' news') (hn : ∀ p ∈ nx, p ∈ news') (hμ : μ c' < k) (hk : ∀ p ∈ ps c', m' p.1 = some p.2) (hr : ∀ z, (∀ p ∈ ps c', z ≠ p.1) → stored.contains z = false → m' z = m₀ z) (hg : G c' nx) :
    WEnd h₀ L s ps stored m₀ G μ k { s with heap := h', toks := tk } := ⟨c', h', tk, m', nx, rfl, F, fun p hp => N p (hn p hp), hμ, hk, hr, hg⟩
theorem loop_while {σ : Type} {test : PySem.Expr} {body : List Stmt} {pos : Pos} {m₀ : Str → Option Value} {news : List (Addr × Obj)} (ps : σ → List (Str × Value)) (stored : List Str) (G : σ → List (Addr × Obj) → Prop) (μ : σ → Nat) (c₀ : σ)
    (F : Fr h₀ L s.heap m₀) (N : News h₀ L s.heap news) (nx₀ : List (Addr × Obj)) (hn : ∀ p ∈ nx₀, p ∈ news) (hk : ∀ p ∈ ps c₀, m₀ p.1 = some p.2) (hg : G c₀ nx₀)
    (turn : ∀ (c : σ) nx (u : Str → Option Value) h tk, G c nx → Fr h₀ L h (kstB (fun z => if stored.contains z then u z else m₀ z) (ps c)) → News h₀ L h nx →
      wpAny (model prog w) A (isTrue test env (eval test env)) (fun b s₂ =>
        if b = true then wpAny (model prog w) A (execs body env) (WPost h₀ L s ps stored m₀ G μ (μ c) Q) E s₂ else Q .next s₂) E { s with heap := h, toks := tk })
    (hE : PassesOwn (model prog w) A env E := by passes_own) :
    wpAny (model prog w) A (exec (.While test body [] pos) env) Q E s := by
  refine While_inv2 (n₀ := μ c₀) (fun n m nx => ∃ c, μ c = n ∧ WS ps stored m₀ G c m nx) F (fun p hp => N p (hn p hp)) ⟨c₀, rfl, hk, fun _ _ _ => rfl, hg⟩ ?_ hE
  rintro n m₁ nx h tk F₁ N₁ ⟨c, rfl, h1, h2, hG⟩
  refine wpAny_mono (turn c nx m₁ h tk hG (ksw_fr h1 h2 F₁) N₁) (fun b s₂ p => ?_) fun _ _ x => x
  cases b with
  | false => simpa using p
  | true =>
    simp only [if_true] at p ⊢
    refine wpAny_mono p (fun f s₃ q => ?_) fun _ _ x => x
    cases f with
    | ret v => exact q
    | brk => exact q
    | next =>
      obtain ⟨c', h', tk', m', nx', e, F', N', hμ, hS⟩ := q
      exact ⟨h', tk', m', nx', μ c', e, F', N', hμ, c', rfl, hS⟩
    | cont =>
      obtain ⟨c', h', tk', m', nx', e, F', N', hμ, hS⟩ := q
      exact ⟨h', tk', m', nx', μ c', e, F', N', hμ, c', rfl, hS⟩
end
end Mine
namespace Mine
structure BSt where
  i : Nat
  ti : Tok
  j : Nat
  tj : Tok
  P : List (Nat × Nat)
  vs : List Value
  ep : Nat
  ps : Array Value
  rest : List (Addr × Obj)
  f : Nat
def tupD (p : Nat × Nat) : Dat := .tuple [.int p.1, .int p.2]
def mAt (M : List (List Int)) (i j : Nat) : Int := (M.getD i []).getD j 0
def d1 (c : Int) (xs ys : List Int) (M : List (List Int)) (i j : Nat) : Int := if i = 0 ∨ j = 0 then 1000000000 else mAt M (i - 1) (j - 1) + if xs.getD (i - 1) 0 = ys.getD (j - 1) 0 then 0 else c
def d2 (M : List (List Int)) (i j : Nat) : Int := if i = 0 then 1000000000 else mAt M (i - 1) j + 1
def d3 (M : List (List Int)) (i j : Nat) : Int := if j = 0 then 1000000000 else mAt M i (j - 1) + 1
def backStep (c : Int) (xs ys : List Int) (M : List (List Int)) (i j : Nat) : Nat × Nat :=
  if d1 c xs ys M i j ≤ d2 M i j ∧ d1 c xs ys M i j ≤ d3 M i j then (i - 1, j - 1) else if d2 M i j ≤ d3 M i j then (i - 1, j) else (i, j - 1)
def backPath (c : Int) (xs ys : List Int) (M : List (List Int)) : Nat → Nat → Nat → List (Nat × Nat)
  | 0, _, _ => []
  | f + 1, i, j => if i = 0 ∧ j = 0 then [] else backStep c xs ys M i j :: backPath c xs ys M f (backStep c xs ys M i j).1 (backStep c xs ys M i j).2
def LamTab (ps : Array Value) (rest : List (Addr × Obj)) (line col : Nat) (qual : Str) : Prop :=
  ps = #[] ∨ ∃ (c' : Addr) (oc : Obj) (vs : Array Value) (t : Tok), ps = #[rawInt line, rawInt col, .ref c'] ∧ (c', oc) ∈ rest ∧ oc.data = .fields vs ∧ vs[1]? = some (.str qual t)
end Mine

end SR30
section SR40
open PySem PySem.W PyProof.Rows PySem.Calls
namespace Mine
/-! list(reversed(..)) of a list of whatever items -/
theorem rv_no_len : typeLookup (.type "list_reverseiterator") "__len__" = pure none := by rw [typeLookup_type, builtinLookup_eq_fast]; kernel_rfl
theorem rv_has_hint : typeLookup (.type "list_reverseiterator") "__length_hint__" = pure (some (.builtin "list_reverseiterator.__length_hint__")) := by rw [typeLookup_type, builtinLookup_eq_fast]; kernel_rfl
theorem rv_sub : isSubtype (.type "list_reverseiterator") (.type "list_reverseiterator") = pure true := by rw [isSubtype_type]; kernel_rfl
theorem rv_hint {prog : Program} {w : World} {A : Around} {E : Value → Shared → Prop} {s : Shared} {r : Addr} {Q : Bool → Shared → Prop} (hT : s.TypeIs (.ref r) "list_reverseiterator") (h : Q false s) : wpAny (model prog w) A (Builtin.List.listLengthHint (.ref r)) Q E s := by
  unfold Builtin.List.listLengthHint
  refine wpAny_bind (wpAny_specialOf hT rv_no_len ?_)
  show wpAny _ A (specialOf (Value.ref r) (Str.ofString "__length_hint__") >>= _) _ _ _
  refine wpAny_bind (wpAny_specialOf hT rv_has_hint ?_)
  generalize hid : ("list_reverseiterator.__length_hint__" : String) = id0
  wp_delta
  rw [show splitId id0 = some ("list_reverseiterator", "__length_hint__") from by subst hid; decide +kernel]
  subst hid
  refine wpAny_bind (wpAny_isInstance (T := "list_reverseiterator") (b := true) hT rv_sub ?_)
  refine wpAny_ite_split (fun hab => absurd hab (by decide)) (fun _ => ?_)
  refine wpAny_ite_split (fun _ => ?_) (fun hab => absurd (by decide +kernel) hab)
  refine wpAny_ite_split (fun hab => absurd hab (by decide +kernel)) (fun _ => ?_)
  exact wpAny_pure h
theorem rv_extend {prog : Program} {w : World} {A : Around} {s : Shared} {I l : Addr} {items : Array Value} {R : Result → Shared → Prop} (hh : A.handled = none) (hit : s.heap.IsRevIter I l ((items.size : Int) - 1)) (hl : s.heap.IsList l items) (hne : l ≠ I) (S : Addr) (hSI : S ≠ I) (hSl : S ≠ l) (res : Value) (c₀ : Nat)
    (hS : s.heap.get? S = some { cls := .type "list", data := .seq #[] c₀ })
    (hR : ∀ h' tk acc' c', (∀ b o, b ≠ S → b ≠ I → s.heap.get? b = some o → h'.get? b = some o) → h'.get? S = some { cls := .type "list", dict := none, data := .seq acc' c', slots := #[] } → ItemsOf (fun i v => items[items.size - 1 - i]? = some v) acc' items.size → R (.ok (.ret res)) { s with heap := h', toks := tk }) (hn : items.size ≤ sizeLine) :
    wpAny (model prog w) A.in1 (Builtin.List.listExtendWith (.ref S) (.ref I) res)
      (fun fin s' => match fin with | .done f => R (.ok f) s' | .again c' => c'.quiet = true ∧ codeAny (model prog w) A c' R s') (fun e s' => R (.error e) s') s := by
  have W := Walks.listRev (prog := prog) (w := w) (A := A.in1) hh I l hne items
  have hSf : S ∉ [I, l] := by simp only [List.mem_cons, List.not_mem_nil, or_false, not_or]; exact ⟨hSI, hSl⟩
  have hT : s.TypeIs (.ref I) "list_reverseiterator" := hit.typeIs
  have st : 0 ≤ items.size ∧ s.heap.IsRevIter I l ((items.size : Int) - 1 - ((0 : Nat) : Int)) ∧ s.heap.IsList l items := ⟨Nat.zero_le _, by rw [show (items.size : Int) - 1 - ((0 : Nat) : Int) = (items.size : Int) - 1 by omega]; exact hit, hl⟩
  have key : ∀ (h : Heap) (c₁ tk : Nat), (0 ≤ items.size ∧ h.IsRevIter I l ((items.size : Int) - 1 - ((0 : Nat) : Int)) ∧ h.IsList l items) → (∀ b o, b ≠ S → s.heap.get? b = some o → h.get? b = some o) →
      h.get? S = some { cls := .type "list", data := .seq #[] c₁ } → codeAny (model prog w) A (.builtin "list.extend.loop" ⟨[.ref S, .ref I, res], []⟩) R { s with heap := h, toks := tk } := by
    intro h c₁ tk hst hk hS₁
    refine codeAny_extend_loopS W.toS hn S hSf res items.size 0 _ #[] c₁ rfl (Nat.zero_le _) hst hS₁ (ItemsOf.nil _) fun s' acc' c' hm hS' hacc => ?_
    rw [Moved.eq_with hm]
    refine hR s'.heap s'.toks acc' c' (fun b o hb hb2 e => hm.heap b o (fun hmem => ?_) (hk b o hb e)) hS' hacc
    rcases List.mem_cons.mp hmem with e' | hmem
    · exact hb e'
    · exact hb2 (List.mem_singleton.mp hmem)
  unfold Builtin.List.listExtendWith
  refine wpAny_bind (wpAny_typeOf (T := "list_reverseiterator") hT ?_)
  have h1 : Builtin.List.listSameRef (.ref S) (.ref I) = false := by simp [Builtin.List.listSameRef, hSI]
  have h2 : (Value.type "list_reverseiterator" == Value.type "list") = false := by decide
  have h3 : (Value.type "list_reverseiterator" == Value.type "tuple") = false := by decide
  simp only [h1, h2, h3, Bool.or_false, Bool.false_eq_true, if_false]
  refine wpAny_bind (wpAny_pyIter_revIter hit ?_)
  refine wpAny_bind (wpAny_holding (rv_hint hT ?_))
  refine wpAny_ite_split (fun _ => ?_) (fun _ => wpAny_pure ⟨plainId_quiet PySem.F.plain_extend_loop _, key _ c₀ _ st (fun b o _ e => e) hS⟩)
  refine wpAny_bind (wpAny_rule ?_)
  refine wpAny_bind ?_
  show wpAny _ _ (updateSeq S (·.push .none) >>= fun _ => updateSeq S (·.pop)) _ _ _
  refine wpAny_bind (wpAny_updateSeq hS rfl ?_)
  have hS₂ := Heap.get?_update_self (Obj.mapSeq (·.push Value.none)) hS rfl
  refine wpAny_updateSeq (hz := by seq_fits) hS₂ rfl ?_
  have hS₃ := Heap.get?_update_self (Obj.mapSeq (·.pop)) hS₂ rfl
  have oth : ∀ b o, b ≠ S → s.heap.get? b = some o → ((s.heap.update S (Obj.mapSeq (·.push Value.none))).update S (Obj.mapSeq (·.pop))).get? b = some o :=
    fun b o hb e => (Heap.get?_update_other _ _ (Ne.symm hb)).trans ((Heap.get?_update_other _ _ (Ne.symm hb)).trans e)
  exact wpAny_pure ⟨plainId_quiet PySem.F.plain_extend_loop _, key _ _ _ (W.frame 0 _ _ st fun b hb o e => oth b o (fun h => hSf (h ▸ hb)) e) oth hS₃⟩
theorem rv_list {prog : Program} {w : World} {A : Around} {E : Value → Shared → Prop} {s : Shared} {h₀ : Heap} {L I l : Addr} {m : Str → Option Value} {news : List (Addr × Obj)} {vs : List Value} {n : Nat} {Q : Value → Shared → Prop}
    (hh : A.handled = none) (F : Fr h₀ L s.heap m) (N : News h₀ L s.heap news) (rest : List (Addr × Obj)) (hi : (I, revObj l ((vs.length : Int) - 1)) ∈ news) (hl : (l, listOf vs.toArray n) ∈ news) (hr : ∀ p ∈ rest, p ∈ news) (hrI : ∀ p ∈ rest, p.1 ≠ I) (hn : vs.length ≤ sizeLine)
    (h : ∀ (D : Addr) c h' tk, Fr h₀ L h' m → News h₀ L h' ((D, listOf vs.reverse.toArray c) :: rest) → (∀ q ∈ news, q.1 < D) → Q (.ref D) { s with heap := h', toks := tk }) :
    wpAny (model prog w) A (call (.type "list") [.ref I]) Q E s := by
  have gI := N _ hi
  have gl := N _ hl
  have hls : s.heap.IsList l vs.toArray := PySem.IsL.isList (n := n) gl.1
  have hit : s.heap.IsRevIter I l ((vs.toArray.size : Int) - 1) := ⟨_, gI.1, rfl, by simp [revObj]⟩
  have hne : l ≠ I := by
    rintro rfl
    have e := gI.1
    rw [gl.1] at e
    have := congrArg Obj.cls (Option.some.inj e)
    simp [revObj] at this
  have hIlt := Heap.lt_size gI.1
  have hllt := Heap.lt_size gl.1
  refine callType_codes (Q₁ := fun obj s₁ => obj = .ref s.heap.objs.size ∧ s₁ = { s with heap := s.heap.push { cls := .type "list", data := .seq #[] } }) PySem.F.called_list (PySem.F.typeCall_list_1 _) PySem.F.entry_list_init
    (code_list_new _ ⟨rfl, rfl⟩) fun obj s₁ h₁ => ?_
  obtain ⟨rfl, rfl⟩ := h₁
  have hS : (s.heap.push { cls := .type "list", data := .seq #[] }).get? s.heap.objs.size = some { cls := .type "list", data := .seq #[] } := Heap.get?_push_size _ rfl
  refine ⟨⟨_, hS, rfl⟩, PySem.F.args_list_init_2 _ _, ?_⟩
  show wpAny _ _ (do let old ← Builtin.List.listItems (.ref s.heap.objs.size); Builtin.List.listUpdate (.ref s.heap.objs.size) (fun _ => #[]); letGo old.toList.reverse; Builtin.List.listExtendWith (.ref s.heap.objs.size) (.ref I) .none) _ _ _
  refine wpAny_bind ?_
  unfold Builtin.List.listItems
  refine wpAny_bind (wpAny_seqItems hS rfl (wpAny_pure ?_))
  show wpAny _ _ (updateSeq s.heap.objs.size (fun _ => #[]) >>= fun _ => letGo (#[] : Array Value).toList.reverse >>= fun _ => Builtin.List.listExtendWith (.ref s.heap.objs.size) (.ref I) .none) _ _ _
  refine wpAny_bind (wpAny_updateSeq hS rfl ?_)
  have hS₂ := Heap.get?_update_self (Obj.mapSeq (fun _ => (#[] : Array Value))) hS rfl
  have oth : ∀ b o, s.heap.get? b = some o → ((s.heap.push { cls := .type "list", data := .seq #[] }).update s.heap.objs.size (Obj.mapSeq (fun _ => (#[] : Array Value)))).get? b = some o :=
    fun b o e => (Heap.get?_update_other _ _ (Ne.symm (Nat.ne_of_lt (Heap.lt_size e)))).trans (Heap.get?_push_of_some _ e)
  refine wpAny_bind (wpAny_letGo ?_)
  refine rv_extend (A := A.in1) (items := vs.toArray) hh (hit.at fun o e => oth _ o e) (hls.at fun o e => oth _ o e) hne _ (Nat.ne_of_gt hIlt) (Nat.ne_of_gt hllt) .none _ hS₂ (fun h' tk acc' c' hk hS' hacc => ?_) (by simpa using hn)
  have hk' : ∀ b o, b ≠ I → s.heap.get? b = some o → h'.get? b = some o := fun b o hb e => hk b o (Nat.ne_of_lt (Heap.lt_size e)) hb (oth b o e)
  have eacc : acc' = vs.reverse.toArray := by
    obtain ⟨hz, hx⟩ := hacc
    apply Array.ext
    · simpa using hz
    · intro j h1 h2
      have := hx j _ (Array.getElem?_eq_getElem h1)
      have hj : j < vs.length := by simpa using h2
      simp only [List.size_toArray, List.getElem?_toArray] at this
      obtain ⟨q1, q2⟩ := List.getElem?_eq_some_iff.mp this
      rw [← q2]
      simp
  subst eacc
  have hIL : I ≠ L := gI.2.1
  have hI0 : h₀.get? I = none := gI.2.2
  refine ⟨rfl, h s.heap.objs.size c' h' tk ⟨?_, fun b o e => hk' b o (fun q => by rw [q, hI0] at e; cases e) (F.keep b o e), F.above⟩ ?_ (fun q hq => Heap.lt_size (N q hq).1)⟩
  · exact F.ns.at' fun o e => hk' L o (Ne.symm hIL) e
  · intro p hp
    rcases List.mem_cons.mp hp with rfl | hp
    · exact ⟨hS', Nat.ne_of_gt F.ns.lt, next_is_new F⟩
    · exact ⟨hk' _ _ (hrI p hp) (N p (hr p hp)).1, (N p (hr p hp)).2⟩
end Mine

end SR40
section SR50
open PySem PySem.W PyProof.Rows PySem.Calls
namespace Mine
section
variable {prog : Program} {w : World} {A : Around} {E : Value → Shared → Prop} {s : Shared} {env : Env} {h₀ : Heap} {target : PySem.Expr} {body : List Stmt} {Q : Flow → Shared → Prop}
theorem turns_stop {pos : Pos} {iter : PySem.Expr} {m : Str → Option Value} (F : Fr h₀ env.locals s.heap m)
    (h : wpAny (model prog w) A (eval iter env) (fun xv s₁ => Stop (wpAny (model prog w) A (pyIter xv) (fun it s₂ => TurnsAt prog w A h₀ env target body Q E it s₂) E s₁)) E s)
    (hs : ∀ x, foldedSetIterable iter env x = pure x := by intro _; rfl)
    (hE : PassesOwn (model prog w) A env E := by passes_own) :
    wpAny (model prog w) A (exec (.For target iter body [] pos) env) Q E s := For_turns F h hs hE
theorem loop_turns {σ : Type} {l : Addr} {vs : List Value} {nn : Nat} {m₀ : Str → Option Value} {news : List (Addr × Obj)} (ps : σ → List (Str × Value)) (stored : List Str) (G : Nat → σ → List (Addr × Obj) → Prop) (c₀ : σ)
    (hh : A.handled = none) (nx₀ : List (Addr × Obj)) (hl : (l, listOf vs.toArray nn) ∈ nx₀) (F : Fr h₀ env.locals s.heap m₀) (N : News h₀ env.locals s.heap news) (hn : ∀ p ∈ nx₀, p ∈ news) (hk : ∀ p ∈ ps c₀, m₀ p.1 = some p.2) (hg : G 0 c₀ nx₀)
    (turn : ∀ (i : Nat) (v : Value) (c : σ) nx (u : Str → Option Value) h tk own, vs[i]? = some v → OwnOff own (nx.map (·.1)) → (l, listOf vs.toArray nn) ∈ nx → G i c nx →
      Fr h₀ env.locals h (kstB (fun z => if stored.contains z then u z else m₀ z) (ps c)) → News h₀ env.locals h (nx ++ own) →
      wpAny (model prog w) A (assign target env v) (fun _ s₂ => wpAny (model prog w) A (execs body env) (InvPostG h₀ env.locals (fun m nx => ∃ c, WS ps stored m₀ (fun c nx => (l, listOf vs.toArray nn) ∈ nx ∧ G (i + 1) c nx) c m nx) own { s with heap := h, toks := tk } Q) E s₂) E { s with heap := h, toks := tk })
    (done : ∀ (c : σ) nx (u : Str → Option Value) h tk, G vs.length c nx → Fr h₀ env.locals h (kstB (fun z => if stored.contains z then u z else m₀ z) (ps c)) → News h₀ env.locals h nx → Q .next { s with heap := h, toks := tk }) :
    wpAny (model prog w) A (pyIter (.ref l)) (fun it s₂ => TurnsAt prog w A h₀ env target body Q E it s₂) E s := by
  have N := fun p hp => N p (hn p hp)
  have hol : s.heap.get? l = some (listOf vs.toArray nn) := (N _ hl).1
  have hls : s.heap.IsList l vs.toArray := ⟨_, hol, rfl, nn, rfl⟩
  have hne : l ≠ s.heap.objs.size := Nat.ne_of_lt (Heap.lt_size hol)
  refine wpAny_pyIter_list hls ?_
  have W := KTurns.ofWalks (target := target) (Walks.list (prog := prog) (w := w) hh s.heap.objs.size l hne vs.toArray) fun i v s Q E st q => letGo_listiter st.1 q
  have hlen : vs.toArray.size = vs.length := by simp
  rw [hlen] at W
  refine ⟨_, _, _, vs.length, _, _, _, m₀, nx₀, (fun i m nx => (l, listOf vs.toArray nn) ∈ nx ∧ ∃ c, WS ps stored m₀ (G i) c m nx), rfl, W, ?_, ?_, ?_, ⟨⟨_, Heap.get?_push_size _ rfl, rfl, rfl⟩, hls.at fun o e => Heap.get?_push_of_some _ e⟩, F.push _, (fun p hp => ⟨Heap.get?_push_of_some _ (N p hp).1, (N p hp).2⟩), ⟨hl, c₀, hk, fun _ _ _ => rfl, hg⟩, ?_, ?_⟩
  · intro hm
    rcases List.mem_cons.mp hm with e | hm
    · exact absurd F.ns.lt (e ▸ Nat.lt_irrefl _)
    · exact (N _ hl).2.1 ((List.mem_singleton.mp hm).symm)
  · intro b hb
    rw [List.mem_singleton.mp hb]
    exact next_is_new F
  · intro p hp hI
    exact absurd (Heap.lt_size (N p hp).1) ((List.mem_singleton.mp hI) ▸ Nat.lt_irrefl _)
  · rintro i v m₁ news₁ hh' tk' own hin hP ⟨hl₁, c, h1, h2, hG⟩ hoff hown hget hfp hst F₁ N₁
    have hP' : vs[i]? = some v := by simpa using hP
    have hI0 : h₀.get? s.heap.objs.size = none := next_is_new F
    obtain ⟨⟨oI, hoI, _⟩, _⟩ := id hst
    have hIown : (s.heap.objs.size, oI) ∈ own.filter fun p => decide (p.1 = s.heap.objs.size) := List.mem_filter.mpr ⟨hfp _ (List.mem_cons.mpr (.inl rfl)) hI0 _ hoI, by simp⟩
    have hsep : OwnOff (own.filter fun p => decide (p.1 = s.heap.objs.size)) (news₁.map (·.1)) := by
      intro p hp b hb e
      obtain ⟨q, hq, rfl⟩ := List.mem_map.mp hb
      have h1 : p.1 = s.heap.objs.size := by simpa using (List.mem_filter.mp hp).2
      exact hoff q hq (List.mem_singleton.mpr (e ▸ h1))
    have N₂ : News h₀ env.locals hh' (news₁ ++ own.filter fun p => decide (p.1 = s.heap.objs.size)) := fun p hp => N₁ p ((List.mem_append.mp hp).elim (fun h => List.mem_append.mpr (.inr h)) fun h => List.mem_append.mpr (.inl ((List.mem_filter.mp h).1)))
    have hlo : hh'.get? l = some (listOf vs.toArray nn) := (N₁ _ (List.mem_append.mpr (.inr hl₁))).1
    refine wpAny_mono (turn i v c news₁ m₁ hh' tk' _ hP' hsep hl₁ hG (ksw_fr h1 h2 F₁) N₂) (fun _ s₂ q => wpAny_mono q (fun f s₂ p => ?_) fun _ _ e => e) fun _ _ e => e
    have fin : InvEndG h₀ env.locals (fun m nx => ∃ c, WS ps stored m₀ (fun c nx => (l, listOf vs.toArray nn) ∈ nx ∧ G (i + 1) c nx) c m nx) (own.filter fun p => decide (p.1 = s.heap.objs.size)) { s with heap := hh', toks := tk' } s₂ →
        LoopStepU h₀ env.locals [s.heap.objs.size] own (fun m nx => (l, listOf vs.toArray nn) ∈ nx ∧ ∃ c, WS ps stored m₀ (G (i + 1)) c m nx) { s with heap := hh', toks := tk' } .next s₂ := by
      rintro ⟨h', tk, m', news', nx, e, F', N', hn, ho, ha, c', k1, k2, k3, k4⟩
      refine ⟨rfl, h', tk, m', nx, e, F', fun p hp => ?_, fun p hp hq => ?_, k3, c', k1, k2, k4⟩
      · rcases List.mem_append.mp hp with h | h
        · by_cases hI : p.1 = s.heap.objs.size
          · exact N' p (ho p (List.mem_filter.mpr ⟨h, by simpa using hI⟩))
          · have h1 : p.1 = l := by
              rcases List.mem_cons.mp (hown p h) with h2 | h2
              · exact absurd h2 hI
              · exact List.mem_singleton.mp h2
            have h2 : hh'.get? p.1 = some p.2 := hget p h
            rw [h1, hlo] at h2
            have h3 : p = (l, listOf vs.toArray nn) := Prod.ext h1 (Option.some.inj h2).symm
            rw [h3]
            exact N' _ (hn _ k3)
        · exact N' p (hn p h)
      · exact ha _ hIown p.1 (List.mem_map.mpr ⟨p, hp, rfl⟩) (List.mem_singleton.mp hq).symm
    cases f with
    | ret v => exact .ret p
    | brk => exact .brk p
    | next => exact .next (fin p)
    | cont => exact .cont (fin p)
  · rintro h' tk m' news' F' N' _ ⟨_, c, h1, h2, hG⟩
    exact done c news' m' h' tk hG (ksw_fr h1 h2 F') N'
theorem ws_end {σ : Type} {ps : σ → List (Str × Value)} {stored : List Str} {m₀ : Str → Option Value} {G : σ → List (Addr × Obj) → Prop} (c : σ) {L : Addr} {m' : Str → Option Value} {own news' : List (Addr × Obj)} {s₁ : Shared} {h' : Heap} {tk : Nat}
    (nx : List (Addr × Obj)) (F : Fr h₀ L h' m') (N : News h₀ L h' news') (hn : ∀ p ∈ nx, p ∈ news') (ho : ∀ p ∈ own, p ∈ news') (ha : OwnOff own (nx.map (·.1)))
    (hk : ∀ p ∈ ps c, m' p.1 = some p.2) (hr : ∀ z, (∀ p ∈ ps c, z ≠ p.1) → stored.contains z = false → m' z = m₀ z) (hG : G c nx) :
    InvEndG h₀ L (fun m nx => ∃ c, WS ps stored m₀ G c m nx) own s₁ { s₁ with heap := h', toks := tk } := InvEndG.intro F N ⟨c, hk, hr, hG⟩ ha hn ho
end
/-! a lambda whose code may or may not stand -/
theorem lam_any {M : Model} {A : Around} {E : Value → Shared → Prop} {s : Shared} {h₀ : Heap} {L a P : Addr} {m mg mb : Str → Option Value} {cn : Str} {cs : Scope} {ccd : Value} {cl : List (Str × Addr)} {led rest : List (Addr × Obj)} {g : Obj → List (Addr × Obj)}
    {p : Program} {loose : List Str} {mean : ExcName → Option Value} {c : Addr} {name qual : Str} {params : Arguments} {body : PySem.Expr} {scope : Scope} {ps : Array Value} {pos : Pos} {firstLine : Nat} {clos : List (Str × Addr)} {al : Addr} {oa : Obj} {Q : Value → Shared → Prop}
    (F : Fr h₀ L s.heap m) (N : News h₀ L s.heap led) (T : Top p loose mean mg mb h₀) (C : CodeHd h₀ c P) (hcd : ccd = .ref c) (U : UpdF P (tabObj ps) led g) (hsub : ∀ p ∈ rest, p ∈ led) (LT : LamTab ps rest pos.line pos.col qual ∧ ∀ p ∈ rest, p.1 ≠ al)
    (hal : (al, oa) ∈ led) (hcl : closureFor scope (envX cn cs L a ccd cl) = pure clos)
    (h : ∀ f c' oc vs t ctv h' tk, Fr h₀ L h' m →
      News h₀ L h' ((f, kla_obj name qual params body scope clos ((mg "__name__").getD .none) c' ctv) :: (c', oc) :: g (tabObj #[rawInt pos.line, rawInt pos.col, .ref c'])) →
      oc.data = .fields vs → vs[1]? = some (.str qual t) → (∀ q ∈ led, q.1 < f) → c' < f → c' ≠ al → c' ≠ P → Q (.ref f) { s with heap := h', toks := tk }) :
    wpAny M A (makeFunction name qual params (.expr body) scope (envX cn cs L a ccd cl) [] [] [] pos firstLine) Q E s := by
  obtain ⟨LT, hra⟩ := LT
  rcases LT with rfl | ⟨c₁, oc₁, vs₁, t₁, rfl, hm, hd, hv⟩
  · refine kla_nest F N T C hcd U (by exact True.intro) rfl hcl fun f c' oc vs t ctv h' tk F' N' hd hv hlt hcf => ?_
    refine h f c' oc vs t ctv h' tk F' ?_ hd hv (fun q hq => Nat.lt_trans (hlt q hq) hcf) hcf (Nat.ne_of_gt (hlt _ hal)) ?_
    · simpa using N'
    · obtain ⟨pre, post, rfl, _⟩ := U.split
      exact Nat.ne_of_gt (hlt (P, tabObj #[]) (List.mem_append_right _ (.head _)))
  · have hmem : (P, tabObj #[rawInt pos.line, rawInt pos.col, .ref c₁]) ∈ led := by
      obtain ⟨pre, post, rfl, _⟩ := U.split
      exact List.mem_append_right _ (.head _)
    have hg : g (tabObj #[rawInt pos.line, rawInt pos.col, .ref c₁]) = led := by
      obtain ⟨pre, post, rfl, hg, _⟩ := U.split
      rw [hg]
    refine kla_hit (c' := c₁) F N T C hcd hmem (by simp [TriplesOk, rawInt]) (by simp [codeAmong, rawInt]) hcl fun f ctv h' tk F' N' hlt => ?_
    refine h f c₁ oc₁ vs₁ t₁ ctv h' tk F' ?_ hd hv hlt (hlt _ (hsub _ hm)) (hra _ hm) ?_
    · rw [hg]
      intro q hq
      rcases List.mem_cons.mp hq with rfl | hq
      · exact N' _ (.head _)
      · rcases List.mem_cons.mp hq with rfl | hq
        · exact N' _ (.tail _ (hsub _ hm))
        · exact N' _ (.tail _ hq)
    · intro e
      have h1 := (N _ hmem).1
      have h2 := (N _ (hsub _ hm)).1
      dsimp only at h1 h2
      rw [e, h1] at h2
      obtain rfl := Option.some.inj h2
      simp only at hd
      cases hd
      simp [rawInt] at hv

structure Ent where
  T : Addr
  tc : Tok
  P : Addr
  ta : Tok
  tb : Tok
  d : Int
  a : Int
  b : Int
abbrev tupObj (vs : Array Value) : Obj := { cls := .type "tuple", data := .seq vs }
def entLed : List Ent → List (Addr × Obj)
  | [] => []
  | e :: r => (e.T, tupObj #[.int e.d e.tc, .ref e.P]) :: (e.P, tupObj #[.int e.a e.ta, .int e.b e.tb]) :: entLed r
def dval (c : Int) (xs ys : List Int) (M : List (List Int)) (i j : Nat) : Nat → Int
  | 0 => d1 c xs ys M i j
  | 1 => d2 M i j
  | _ => d3 M i j
def aval (i : Nat) : Nat → Int
  | 0 => (i : Int) - 1
  | 1 => (i : Int) - 1
  | _ => i
def bval (j : Nat) : Nat → Int
  | 0 => (j : Int) - 1
  | 1 => j
  | _ => (j : Int) - 1
theorem back_a {c : Int} {xs ys : List Int} {M : List (List Int)} {i j : Nat} (h0 : ∀ j, j ≤ ys.length → mAt M 0 j ≤ 1000000) (h1 : ∀ i, i ≤ xs.length → mAt M i 0 ≤ 1000000) (hi : i ≤ xs.length) (hj : j ≤ ys.length) (hij : ¬ (i = 0 ∧ j = 0))
    (r1 : d1 c xs ys M i j ≤ d2 M i j) (r2 : d1 c xs ys M i j ≤ d3 M i j) : 1 ≤ i ∧ 1 ≤ j ∧ backStep c xs ys M i j = (i - 1, j - 1) := by
  have e : backStep c xs ys M i j = (i - 1, j - 1) := by unfold backStep; rw [if_pos ⟨r1, r2⟩]
  refine ⟨?_, ?_, e⟩
  · cases i with
    | succ i => omega
    | zero =>
      exfalso
      have hj' : j ≠ 0 := fun q => hij ⟨rfl, q⟩
      have := h0 (j - 1) (by omega)
      simp only [d1, d3, true_or, if_true, hj', if_false] at r2
      omega
  · cases j with
    | succ j => omega
    | zero =>
      exfalso
      have hi' : i ≠ 0 := fun q => hij ⟨q, rfl⟩
      have := h1 (i - 1) (by omega)
      simp only [d1, d2, or_true, if_true, hi', if_false] at r1
      omega
theorem back_b {c : Int} {xs ys : List Int} {M : List (List Int)} {i j : Nat} (r1 : d2 M i j < d1 c xs ys M i j) (r2 : d2 M i j ≤ d3 M i j) : 1 ≤ i ∧ backStep c xs ys M i j = (i - 1, j) := by
  refine ⟨?_, by unfold backStep; rw [if_neg (by omega), if_pos r2]⟩
  cases i with
  | succ i => omega
  | zero => exfalso; simp [d1, d2] at r1
theorem back_c {c : Int} {xs ys : List Int} {M : List (List Int)} {i j : Nat} (r1 : d3 M i j < d1 c xs ys M i j) (r2 : d3 M i j < d2 M i j) : 1 ≤ j ∧ backStep c xs ys M i j = (i, j - 1) := by
  refine ⟨?_, by unfold backStep; rw [if_neg (by omega), if_neg (by omega)]⟩
  cases j with
  | succ j => omega
  | zero => exfalso; simp [d1, d3] at r1
theorem backPath_zero {c : Int} {xs ys : List Int} {M : List (List Int)} : ∀ f, backPath c xs ys M f 0 0 = []
  | 0 => rfl
  | f + 1 => by rw [backPath]; simp
theorem backPath_step {c : Int} {xs ys : List Int} {M : List (List Int)} {f i j : Nat} (hf : i + j ≤ f + 1) (hij : ¬ (i = 0 ∧ j = 0)) : backPath c xs ys M (f + 1) i j = backStep c xs ys M i j :: backPath c xs ys M f (backStep c xs ys M i j).1 (backStep c xs ys M i j).2 := by
  rw [backPath, if_neg hij]
theorem datAll_reverse {news : List (Addr × Obj)} : ∀ {vs : List Value} {ds : List Dat}, DatAll news vs ds → DatAll news vs.reverse ds.reverse := by
  intro vs
  induction vs with
  | nil => intro ds h; cases h; exact .nil
  | cons v vs ih =>
    intro ds h
    cases h with
    | cons h r =>
      rw [List.reverse_cons, List.reverse_cons]
      exact (ih r).append (DatAll.one h)
def alignV (c : Int) (xs ys : List Int) (M : List (List Int)) : List (Nat × Nat) := ((xs.length, ys.length) :: backPath c xs ys M (xs.length + ys.length) xs.length ys.length).reverse
end Mine
namespace Mine
theorem names_two {h₀ h : Heap} {L a b : Addr} {o o' : Obj} {r : List (Addr × Obj)} (_N : News h₀ L h ((a, o) :: (b, o') :: r)) : ∃ a' b', a' = a ∧ b' = b := ⟨_, _, rfl, rfl⟩
end Mine
namespace Mine
theorem names_tup {h₀ h : Heap} {L al T0 : Addr} {oa : Obj} {a b : Int} {ta tb : Tok} {r : List (Addr × Obj)} (_N : News h₀ L h ((al, oa) :: (T0, tupObj #[.int a ta, .int b tb]) :: r)) : ∃ x y, x = ta ∧ y = tb := ⟨_, _, rfl, rfl⟩
end Mine
namespace Mine
theorem backPath_len {c : Int} {xs ys : List Int} {M : List (List Int)} : ∀ f i j, (backPath c xs ys M f i j).length ≤ f
  | 0, _, _ => Nat.le_refl _
  | f + 1, i, j => by
    rw [backPath]
    split
    · simp
    · rw [List.length_cons]; exact Nat.succ_le_succ (backPath_len f _ _)
theorem ne_of_lt_all {D : Addr} {l : List (Addr × Obj)} (h : AllLt D l) : ∀ p ∈ l, p.1 ≠ D := fun p hp => Nat.ne_of_lt (allLt_iff.mp h p hp)
end Mine
namespace Mine
theorem names_dirs {h₀ h : Heap} {L dcl dl T1 T2 T3 : Addr} {od o1 o2 o3 : Obj} {r : List (Addr × Obj)} (_N : News h₀ L h ((dcl, od) :: (dl, listOf #[.ref T1, .ref T2, .ref T3] 0) :: (T3, o3) :: (T2, o2) :: (T1, o1) :: r)) :
    ∃ a b c d e, a = dcl ∧ b = dl ∧ c = T1 ∧ d = T2 ∧ e = T3 := ⟨_, _, _, _, _, rfl, rfl, rfl, rfl, rfl⟩
theorem open_dirs {h₀ h : Heap} {L dcl dl T1 T2 T3 A1 A2 al : Addr} {od o1 o2 tb oa : Obj} {i0 i1 i2 j0 j1 j2 : Int} {a1 a2 a3 b1 b2 b3 : Tok} {rest : List (Addr × Obj)}
    (N : News h₀ L h ((dcl, od) :: (dl, listOf #[.ref T1, .ref T2, .ref T3] 0) :: (T3, tupObj #[.int i2 a3, .int j2 b3]) :: (T2, tupObj #[.int i1 a2, .int j1 b2]) :: (T1, tupObj #[.int i0 a1, .int j0 b1]) :: (A1, o1) :: (A2, o2) :: (52, tb) :: (al, oa) :: rest))
    (l : dl < dcl ∧ T3 < dcl ∧ T2 < dcl ∧ T1 < dcl ∧ A1 < dcl ∧ A2 < dcl ∧ 52 < dcl ∧ al < dcl ∧ AllLt dcl rest) :
    ∃ base, News h₀ L h ((dcl, od) :: base) ∧ (dl, listOf [.ref T1, .ref T2, .ref T3].toArray 0) ∈ base ∧ (∃ a b, (T1, tupObj #[.int i0 a, .int j0 b]) ∈ base) ∧ (∃ a b, (T2, tupObj #[.int i1 a, .int j1 b]) ∈ base) ∧ (∃ a b, (T3, tupObj #[.int i2 a, .int j2 b]) ∈ base) ∧
      (52, tb) ∈ base ∧ (al, oa) ∈ base ∧ (∀ p ∈ rest, p ∈ base) ∧ ∀ p ∈ base, p.1 < dcl := by
  refine ⟨_, N, by kcf_m, ⟨_, _, by kcf_m⟩, ⟨_, _, by kcf_m⟩, ⟨_, _, by kcf_m⟩, by kcf_m, by kcf_m, by (intro p9 h9; kcf_m), ?_⟩
  refine allLt_iff.mp ?_
  simp only [AllLt]
  exact l
theorem entLed_snoc (es : List Ent) (e : Ent) : entLed (es ++ [e]) = entLed es ++ [(e.T, tupObj #[.int e.d e.tc, .ref e.P]), (e.P, tupObj #[.int e.a e.ta, .int e.b e.tb])] := by
  induction es with
  | nil => rfl
  | cons x xs ih => simp only [List.cons_append, entLed, ih]
def EntOk (c : Int) (xs ys : List Int) (M : List (List Int)) (i j : Nat) (es : List Ent) : Prop := ∀ (q : Nat) (e : Ent), es[q]? = some e → e.d = dval c xs ys M i j q ∧ e.a = aval i q ∧ e.b = bval j q
theorem EntOk.snoc {c : Int} {xs ys : List Int} {M : List (List Int)} {i j : Nat} {es : List Ent} (h : EntOk c xs ys M i j es) {e : Ent} {q : Nat} (hq : es.length = q) (h1 : e.d = dval c xs ys M i j q) (h2 : e.a = aval i q) (h3 : e.b = bval j q) : EntOk c xs ys M i j (es ++ [e]) := by
  intro k e' he
  by_cases hk : k < es.length
  · rw [List.getElem?_append_left hk] at he
    exact h k e' he
  · rw [List.getElem?_append_right (by omega)] at he
    cases hz : k - es.length with
    | zero =>
      rw [hz] at he
      simp only [List.getElem?_cons_zero, Option.some.injEq] at he
      subst he
      have : k = q := by omega
      subst this
      exact ⟨h1, h2, h3⟩
    | succ n => rw [hz] at he; simp at he
theorem names_ent {h₀ h : Heap} {L T P : Addr} {tc ta tb : Tok} {d a b : Int} {r : List (Addr × Obj)} (N : News h₀ L h ((T, tupObj #[.int d tc, .ref P]) :: (P, tupObj #[.int a ta, .int b tb]) :: r)) :
    ∃ e : Ent, News h₀ L h ((e.T, tupObj #[.int e.d e.tc, .ref e.P]) :: (e.P, tupObj #[.int e.a e.ta, .int e.b e.tb]) :: r) ∧ e.d = d ∧ e.a = a ∧ e.b = b ∧ e.T = T ∧ e.P = P := ⟨⟨T, tc, P, ta, tb, d, a, b⟩, N, rfl, rfl, rfl, rfl, rfl⟩
theorem d1_val {c : Int} {xs ys : List Int} {M : List (List Int)} {i j : Nat} (hi : i ≠ 0) (hj : j ≠ 0) : dval c xs ys M i j 0 = (M.getD (i - 1) []).getD ((j : Int) - 1).toNat 0 + if xs.getD ((i : Int) - 1).toNat 0 = ys.getD ((j : Int) - 1).toNat 0 then 0 else c := by
  have e1 : ((i : Int) - 1).toNat = i - 1 := by omega
  have e2 : ((j : Int) - 1).toNat = j - 1 := by omega
  rw [e1, e2]
  show d1 c xs ys M i j = _
  unfold d1 mAt
  rw [if_neg (by omega)]
theorem d1_big {c : Int} {xs ys : List Int} {M : List (List Int)} {i j : Nat} (h : i = 0 ∨ j = 0) : dval c xs ys M i j 0 = 1000000000 := by
  show d1 c xs ys M i j = _
  unfold d1
  rw [if_pos h]
theorem d2_val {c : Int} {xs ys : List Int} {M : List (List Int)} {i j : Nat} (hi : i ≠ 0) : dval c xs ys M i j 1 = (M.getD (i - 1) []).getD (j : Int).toNat 0 + 1 := by
  show d2 M i j = _
  unfold d2 mAt
  rw [if_neg hi, Int.toNat_natCast]
theorem d2_big {c : Int} {xs ys : List Int} {M : List (List Int)} {i j : Nat} (h : i = 0) : dval c xs ys M i j 1 = 1000000000 := by
  show d2 M i j = _
  unfold d2
  rw [if_pos h]
theorem d3_val {c : Int} {xs ys : List Int} {M : List (List Int)} {i j : Nat} (hj : j ≠ 0) : dval c xs ys M i j 2 = (M.getD i []).getD ((j : Int) - 1).toNat 0 + 1 := by
  have e2 : ((j : Int) - 1).toNat = j - 1 := by omega
  show d3 M i j = _
  unfold d3 mAt
  rw [if_neg hj, e2]
theorem d3_big {c : Int} {xs ys : List Int} {M : List (List Int)} {i j : Nat} (h : j = 0) : dval c xs ys M i j 2 = 1000000000 := by
  show d3 M i j = _
  unfold d3
  rw [if_pos h]
end Mine
namespace Mine
theorem news_sub {h₀ h : Heap} {L : Addr} {l l' : List (Addr × Obj)} (N : News h₀ L h l) (hs : ∀ p ∈ l', p ∈ l) : News h₀ L h l' := fun p hp => N p (hs p hp)
end Mine
namespace Mine
theorem names_last {h₀ h : Heap} {L Tn f' c' : Addr} {o1 o2 oc : Obj} {r : List (Addr × Obj)} (_N : News h₀ L h ((Tn, o1) :: (f', o2) :: (c', oc) :: r)) : ∃ x y z u, x = Tn ∧ y = f' ∧ z = c' ∧ u = oc := ⟨_, _, _, _, rfl, rfl, rfl, rfl⟩
theorem step_path {c : Int} {xs ys : List Int} {M : List (List Int)} {f i j i' j' : Nat} {P t : List (Nat × Nat)} (hf : i + j ≤ f + 1) (hij : ¬ (i = 0 ∧ j = 0)) (hs : backStep c xs ys M i j = (i', j')) (h : P ++ backPath c xs ys M (f + 1) i j = t) :
    (P ++ [(i', j')]) ++ backPath c xs ys M f i' j' = t := by
  rw [backPath_step hf hij, hs] at h
  rw [← h, List.append_assoc]
  rfl
end Mine

end SR50
section SEBack0
local macro_rules | `(tactic| ke_room) => `(tactic| ktr_units)
local macro_rules | `(tactic| units_room) => `(tactic| ktr_units)
local macro_rules | `(tactic| k_room) => `(tactic| ktr_room)
local macro_rules | `(tactic| walk_at "exec While") => `(tactic| (k_here; (refine Mine.while_stop ?_)))
local macro_rules | `(tactic| walk_at "exec While Compare cons nil") => `(tactic| (k_here; (refine Mine.while_stop ?_)))
local macro_rules | `(tactic| walk_at "exec While Compare") => `(tactic| (k_here; (refine Mine.while_stop ?_)))
local macro_rules | `(tactic| walk_at "exec For") => `(tactic| (k_here; (rename Fr _ _ _ _ => lF'); (with_unfolding_all refine Mine.turns_stop lF' ?_)))
local macro_rules | `(tactic| walk_at "exec For Tuple") => `(tactic| (k_here; (rename Fr _ _ _ _ => lF'); (with_unfolding_all refine Mine.turns_stop lF' ?_)))
local macro_rules | `(tactic| walk_at "exec For Tuple Name cons nil") => `(tactic| (k_here; (rename Fr _ _ _ _ => lF'); (with_unfolding_all refine Mine.turns_stop lF' ?_)))
local macro_rules | `(tactic| walk_at "eval Lambda") => `(tactic| (k_here; k_dflt (refine' kla_eval ?d0 ?_; (case d0 => exact rfl)); k_dflt (refine' Mine.lam_any ?F ?N ?T ?C ?cd ?U ?sub ?LT ?al ?cl ?_; (case F => k_asm); (case N => k_asm); (case T => k_asm); (case cd => exact rfl); (case C => kn_code); (case U => k_updF); (case LT => assumption); (case al => kcf_m); (case sub => (intro p9 h9; kcf_m)); (case cl => exact rfl)); intro f' c' oc' vs' t' ct' h' tk' F' N' d1' d2' l1 l2 l3 l4; (try dsimp only at N'); (try k_lt l1); (try k_lt2 l2); (replace l3 := neN l3); (replace l4 := neN l4)))
local macro_rules | `(tactic| walk_at "call builtin:len") => `(tactic| (k_here; (with_reducible show wpAny _ _ (call (Value.builtin "len") [Value.ref _]) _ _ _); k_dflt (refine' Mine.len_led ?k0 ?k1 ?k2 ?k3 ?_; (case k0 => k_asm); (case k1 => kcf_m); (case k2 => assumption); (case k3 => omega)); (try dsimp only); (try k_fold)))
namespace Mine
theorem back_spec {w : World} {p : Program} {loose : List Str} {mean : ExcName → Option Value} {mg mb : Str → Option Value} {dp un : Nat} {gd : Option (List Code)} {cn : Str} {cs : Scope} {a : Addr} {ccd : Value} {cl : List (Str × Addr)} {outer : List Env} {A₀ : Around} {base h₀ : Heap} {L : Addr} {m : Str → Option Value} {s : Shared} {Q E : Value → Shared → Prop}
  {l1 : Addr} {v1 : List Value} {n1 : Nat} {x1 : List Int}{l2 : Addr} {v2 : List Value} {n2 : Nat} {x2 : List Int}{lv : Addr} {ne : Nat} {as : List Addr} {Vs : List (List Value)} {M : List (List Int)} {c : Int} {tc : Tok} {news : List (Addr × Obj)}
  (B : Below A₀ base outer h₀) (F : Fr h₀ L s.heap m) (X : (hd.heap_39 w.params).In h₀) (N : News h₀ L s.heap ((52, tabObj #[]) :: news)) (T : Top p loose mean mg mb h₀) (hk : cs.kind = .function)
  (hl1 : (l1, listOf v1.toArray n1) ∈ news) (hi1 : IntsAre v1 x1) (hb1 : x1.length ≤ 400)(hl2 : (l2, listOf v2.toArray n2) ∈ news) (hi2 : IntsAre v2 x2) (hb2 : x2.length ≤ 400)(h52 : ∀ p ∈ news, p.1 ≠ 52) (hcode : CodeHd base 56 52) (hlv : (lv, listOf (as.map Value.ref).toArray ne) ∈ news)
  (hrows : ∀ (i : Nat) (a : Addr) (v : List Value), as[i]? = some a → Vs[i]? = some v → (a, listOf v.toArray 0) ∈ news) (hiv : ∀ (i : Nat) (v : List Value), Vs[i]? = some v → IntsAre v (M.getD i [])) (hln : ∀ (i : Nat) {v : List Value}, Vs[i]? = some v → (M.getD i []).length = x2.length + 1)
  (hla : as.length = x1.length + 1) (hlV : Vs.length = x1.length + 1) (hm0 : ∀ j, j ≤ x2.length → mAt M 0 j ≤ 1000000) (hm1 : ∀ i, i ≤ x1.length → mAt M i 0 ≤ 1000000)
  (hdp : dp + 2 < recursionLimit) (hun : un + 300 < cLine)
  (hret : ∀ (D : Addr) (vs : List Value) (ep : Nat) (ps : Array Value) (led : List (Addr × Obj)) (h' : Heap) (tk' : Nat), DatAll led vs ((alignV c x1 x2 M).map tupD) → (52, tabObj ps) ∈ led → (∀ p ∈ news, p ∈ led) → Fr h₀ L h' m → News h₀ L h' ((D, listOf vs.toArray ep) :: led) → Q (.ref D) { s with heap := h', toks := tk' }) :
  wpAny (model PySem.Challenge.rw_fe5012_01.row.prog w) (ktrTop dp un gd cn cs L a ccd cl outer) (call (.ref 57) [.ref lv, .ref l1, .ref l2, .int c tc] ) Q E s := by
  w_top off
  refine wpAny_call ?_
  k_dflt keq_hits
  obtain ⟨r0, ha0⟩ : ∃ r0, as[0]? = some r0 := ⟨_, List.getElem?_eq_getElem (by omega)⟩
  obtain ⟨w0, hv0⟩ : ∃ w0, Vs[0]? = some w0 := ⟨_, List.getElem?_eq_getElem (by omega)⟩
  have hr0 := hrows 0 r0 w0 ha0 hv0
  have hi0 := hiv 0 w0 hv0
  have hq0 := hln 0 hv0
  have hlen1 : ((as.map Value.ref).length : Int) = x1.length + 1 := by rw [List.length_map]; omega
  have hit0 : (as.map Value.ref)[(0 : Int).toNat]? = some (.ref r0) := map_ref_at ha0
  k_steps
  refine stop_in ?_
  rename Fr _ _ _ _ => lF
  rename News _ _ _ _ => lN
  rename _ ∧ _ ∧ _ ∧ AllLt _ news => l3
  obtain ⟨al, T0, rfl, rfl⟩ := names_two lN
  rw [show ((x1.length : Int) + 1 - 1) = x1.length by omega, hq0, show (((x2.length + 1 : Nat) : Int) - 1) = x2.length by omega] at lN
  rw [show ((x1.length : Int) + 1 - 1) = x1.length by omega, hq0, show (((x2.length + 1 : Nat) : Int) - 1) = x2.length by omega] at lF
  obtain ⟨tA, tB, eA, eB⟩ := names_tup lN
  simp only [← eB] at lN lF
  simp only [← eA] at lN lF
  have l4 := allLt_iff.mp l3.2.2.2
  refine' loop_while (σ := BSt) (fun q => [(Str.ofString "i", Value.int (q.i : Int) q.ti), (Str.ofString "j", Value.int (q.j : Int) q.tj)]) [Str.ofString "directions", Str.ofString "direction_costs", Str.ofString "pi", Str.ofString "pj", Str.ofString "cost", Str.ofString "sub_cost"]
    (fun q nx => nx = (52, tabObj q.ps) :: (al, listOf q.vs.toArray q.ep) :: q.rest ∧ (∀ p ∈ q.rest, p.1 ≠ 52) ∧ 52 < al ∧ (∀ p ∈ news, p ∈ q.rest) ∧ DatAll q.rest q.vs (q.P.map tupD) ∧ (LamTab q.ps q.rest 60 40 ((Str.ofString "_edit_dist_backtrace" ++ (".<locals>." : Str)) ++ ("<lambda>" : Str)) ∧ ∀ p ∈ q.rest, p.1 ≠ al) ∧ q.i ≤ x1.length ∧ q.j ≤ x2.length ∧ q.i + q.j ≤ q.f
      ∧ q.P ++ backPath c x1 x2 M q.f q.i q.j = (x1.length, x2.length) :: backPath c x1 x2 M (x1.length + x2.length) x1.length x2.length) (fun q => q.f)
    ⟨x1.length, tA, x2.length, tB, [(x1.length, x2.length)], [.ref T0], 0, #[], (T0, tupObj #[.int x1.length tA, .int x2.length tB]) :: news, x1.length + x2.length⟩ lF lN ((52, tabObj #[]) :: (al, listOf [Value.ref T0].toArray 0) :: (T0, tupObj #[.int x1.length tA, .int x2.length tB]) :: news) ?hn ?hk ?hg ?turn
  case hk =>
    refine List.forall_mem_cons.mpr ⟨?_, List.forall_mem_cons.mpr ⟨?_, List.forall_mem_nil _⟩⟩
    · with_unfolding_all rfl
    · with_unfolding_all rfl
  case hg =>
    refine ⟨rfl, ?_, l3.2.2.1, fun p hp => .tail _ hp, .cons (.tuple (.head _) (.cons (.int _ _) (.cons (.int _ _) .nil))) .nil, ⟨.inl rfl, ?_⟩, Nat.le_refl _, Nat.le_refl _, Nat.le_refl _, rfl⟩
    · intro p hp
      rcases List.mem_cons.mp hp with rfl | hp
      · rename _ ∧ _ ∧ AllLt _ news => l5
        exact Nat.ne_of_gt l5.2.1
      · exact h52 p hp
    · intro p hp
      rcases List.mem_cons.mp hp with rfl | hp
      · exact Nat.ne_of_lt l3.1
      · exact Nat.ne_of_lt (l4 p hp)
  case hn =>
    ((repeat' (first | exact List.forall_mem_nil _ | refine List.forall_mem_cons.mpr (And.intro ?_ ?_) | refine List.forall_mem_append.mpr (And.intro ?_ ?_) | kcf_m | (intro p9 h9; kcf_m))); done)
  case turn =>
    rintro ⟨i, ti, j, tj, P, vs, ep, ps, rest, f⟩ nx u h tk ⟨rfl, hr1, h52a, hr3, hda, hLT, hin, hjn, hf, hpath⟩ F₁ N₁
    dsimp only at hr1 hr3 hda hLT hin hjn hf hpath F₁ N₁ ⊢
    have hl1r := hr3 _ hl1
    have hl2r := hr3 _ hl2
    have hlvr := hr3 _ hlv
    have hral := hLT.2
    replace h52a := ltN h52a
    clear lN lF l3 l4 eA eB
    k_steps
    · rename (_ && _) = _ => hb9
      simp only [Bool.and_eq_true, beq_iff_eq] at hb9
      have hi00 : i = 0 := by omega
      have hj00 : j = 0 := by omega
      subst hi00 hj00
      rw [backPath_zero, List.append_nil] at hpath
      rename News _ _ _ _ => lNx
      rename Fr _ _ _ _ => lFx
      obtain ⟨D, rfl, -⟩ := head_of lNx
      rename _ ∧ _ ∧ _ ∧ _ ∧ AllLt D rest => lx
      have hvl : vs.length ≤ 801 := by
        have e1 := hda.length
        rw [List.length_map, hpath, List.length_cons] at e1
        have e2 := backPath_len (c := c) (xs := x1) (ys := x2) (M := M) (x1.length + x2.length) x1.length x2.length
        omega
      refine rv_list rfl lFx lNx ((52, tabObj ps) :: (al, listOf vs.toArray ep) :: rest) (.head _) (by kcf_m) (by ((repeat' (first | exact List.forall_mem_nil _ | refine List.forall_mem_cons.mpr (And.intro ?_ ?_) | refine List.forall_mem_append.mpr (And.intro ?_ ?_) | kcf_m | (intro p9 h9; kcf_m))); done)) ?_ (by rw [sizeLine_eq]; omega) ?_
      · exact List.forall_mem_cons.mpr ⟨Nat.ne_of_lt lx.2.2.1, List.forall_mem_cons.mpr ⟨Nat.ne_of_lt lx.2.2.2.1, ne_of_lt_all lx.2.2.2.2⟩⟩
      · intro D2 ep2 h2 tk2 F2 N2 _
        clear lNx lFx
        k_steps
        rename News h₀ L _ _ => kN
        rename Fr h₀ L _ _ => kF
        refine hret D2 vs.reverse ep2 ps ((52, tabObj ps) :: (al, listOf vs.toArray ep) :: rest) _ _ ?_ (.head _) (fun p hp => .tail _ (.tail _ (hr3 p hp))) kF kN
        have e3 : (alignV c x1 x2 M).map tupD = (P.map tupD).reverse := by rw [alignV, List.map_reverse, hpath]
        rw [e3]
        exact datAll_reverse (hda.mono fun p hp => .tail _ (.tail _ hp))
    · rename (_ && _) = _ => hb9
      have hij : ¬ (i = 0 ∧ j = 0) := by
        rintro ⟨rfl, rfl⟩
        simp at hb9
      refine stop_in ?_
      rename News _ _ _ _ => lNd
      rename Fr _ _ _ _ => lFd
      obtain ⟨dcl, dl, T1, T2, T3, rfl, rfl, rfl, rfl, rfl⟩ := names_dirs lNd
      rename _ ∧ _ ∧ _ ∧ _ ∧ _ ∧ _ ∧ _ ∧ _ ∧ AllLt dcl rest => ld
      obtain ⟨base', N₂, hdl, hT1, hT2, hT3, hb52, hbal, hbr, hbl⟩ := open_dirs lNd ld
      have hd52 := ltN ld.2.2.2.2.2.2.1
      have hdal := ltN ld.2.2.2.2.2.2.2.1
      clear lNd ld
      refine loop_turns (σ := List Ent) (vs := [.ref T1, .ref T2, .ref T3]) (nn := 0) (fun _ => []) [Str.ofString "pi", Str.ofString "pj", Str.ofString "cost", Str.ofString "sub_cost"]
        (fun q es nx => es.length = q ∧ nx = (dcl, listOf (es.map fun e => Value.ref e.T).toArray q) :: (entLed es ++ base') ∧ EntOk c x1 x2 M i j es ∧ ∀ p ∈ entLed es, dcl < p.1) [] rfl ((dcl, listOf [].toArray 0) :: base') (.tail _ hdl) lFd N₂ (fun _ h => h) (fun _ h => nomatch h)
        ⟨rfl, rfl, (fun q e h => by simp at h), fun p h => nomatch h⟩ ?_ ?_
      · rintro q v es nx u2 h2 tk2 own hv hoff hdl2 ⟨hes, rfl, hok, hkeys⟩ F₂ N₃
        clear N₂ lFd hda hpath
        have hbo : ∀ p ∈ own, p.1 ≠ dcl := fun p hp => hoff p hp _ (by simp)
        have hbe : ∀ p ∈ entLed es ++ (base' ++ own), p.1 ≠ dcl := by
          intro p hp
          rcases List.mem_append.mp hp with hp | hp
          · exact Nat.ne_of_gt (hkeys p hp)
          · rcases List.mem_append.mp hp with hp | hp
            · exact Nat.ne_of_lt (hbl p hp)
            · exact hbo p hp
        simp only [List.cons_append, List.append_assoc] at N₃
        have hbig : ∀ p ∈ base' ++ own, p ∈ entLed es ++ (base' ++ own) := fun p hp => List.mem_append_right _ hp
        generalize hbg : entLed es ++ (base' ++ own) = big at N₃ hbe hbig
        have hl1b := hbig _ (List.mem_append_left _ (hbr _ hl1r))
        have hl2b := hbig _ (List.mem_append_left _ (hbr _ hl2r))
        have hlvb := hbig _ (List.mem_append_left _ (hbr _ hlvr))
        have hq3 : q = 0 ∨ q = 1 ∨ q = 2 := by
          have := (List.getElem?_eq_some_iff.mp hv).1
          simp only [List.length_cons, List.length_nil] at this
          omega
        rcases hq3 with rfl | rfl | rfl
        · obtain rfl : v = .ref T1 := by simpa using hv.symm
          obtain ⟨b1, b2, hT⟩ := hT1
          have hTb := hbig _ (List.mem_append_left _ hT)
          clear hv
          by_cases hbad : i = 0 ∨ j = 0
          · k_steps
            all_goals (
              rename News _ _ _ _ => lNe
              rename Fr _ _ _ _ => lFe
              rename _ ∧ _ ∧ AllLt _ big => lle
              obtain ⟨e, lN5, hed, hea, heb, heT, heP⟩ := names_ent lNe
              rw [← heT, ← heP] at lle
              clear lNe
              refine ws_end (es ++ [e]) ((dcl, listOf ((es ++ [e]).map fun e => Value.ref e.T).toArray (0 + 1)) :: (entLed (es ++ [e]) ++ base')) lFe lN5 ?h1 ?h2 ?h3 (fun _ h => nomatch h) (by (intro z h2 h3; (try (have h2' := h2 _ (List.Mem.head _); dsimp only at h2')); (try (have h2'' := h2 _ (List.Mem.tail _ (List.Mem.head _)); dsimp only at h2'')); (try (simp only [List.contains_cons, List.contains_nil, Bool.or_false, Bool.or_eq_false_iff, beq_eq_false_iff_ne, ne_eq] at h3)); first | rfl | (simp [kstB, h3]; done) | (simp [kstB, h2', h3]; done) | (simp [kstB, h2', h2'', h3]; done))) ⟨.tail _ (List.mem_append_right _ hdl), by rw [List.length_append]; simp only [List.length_cons, List.length_nil]; omega, rfl, hok.snoc hes (hed.trans ?hd) hea heb, ?hk⟩
              case h1 =>
                rw [entLed_snoc]
                intro p hp
                rcases List.mem_cons.mp hp with rfl | hp
                · refine .tail _ (.tail _ ?_)
                  rw [List.map_append, List.map_cons, List.map_nil, heT, List.push_toArray]
                  exact .head _
                · rcases List.mem_append.mp hp with hp | hp
                  · rcases List.mem_append.mp hp with hp | hp
                    · exact .tail _ (.tail _ (.tail _ (hbg ▸ List.mem_append_left _ hp)))
                    · rcases List.mem_cons.mp hp with rfl | hp
                      · exact .head _
                      · rw [List.mem_singleton.mp hp]; exact .tail _ (.head _)
                  · exact .tail _ (.tail _ (.tail _ (hbig p (List.mem_append_left _ hp))))
              case h2 => exact fun p hp => .tail _ (.tail _ (.tail _ (hbig p (List.mem_append_right _ hp))))
              case h3 =>
                rw [entLed_snoc]
                intro p hp b hb
                obtain ⟨y, hy, rfl⟩ := List.mem_map.mp hb
                have hpb := allLt_iff.mp lle.2.2 p (hbig p (List.mem_append_right _ hp))
                rcases List.mem_cons.mp hy with rfl | hy
                · exact hbo p hp
                · rcases List.mem_append.mp hy with hy | hy
                  · rcases List.mem_append.mp hy with hy | hy
                    · exact hoff p hp _ (List.mem_map.mpr ⟨y, .tail _ (List.mem_append_left _ hy), rfl⟩)
                    · rcases List.mem_cons.mp hy with rfl | hy
                      · exact Nat.ne_of_lt hpb
                      · rw [List.mem_singleton.mp hy]
                        rename _ ∧ AllLt _ big => llp
                        rw [← heP] at llp
                        exact Nat.ne_of_lt (allLt_iff.mp llp.2 p (hbig p (List.mem_append_right _ hp)))
                  · exact hoff p hp _ (List.mem_map.mpr ⟨y, .tail _ (List.mem_append_right _ hy), rfl⟩)
              case hd => exact (d1_big hbad).symm
              case hk =>
                rw [entLed_snoc]
                intro p hp
                rcases List.mem_append.mp hp with hp | hp
                · exact hkeys p hp
                · rcases List.mem_cons.mp hp with rfl | hp
                  · exact lle.2.1
                  · rw [List.mem_singleton.mp hp]
                    rename _ ∧ AllLt _ big => llp
                    rw [← heP] at llp
                    exact llp.1)
          · have hi1 : i ≠ 0 := fun q => hbad (.inl q)
            have hj1 : j ≠ 0 := fun q => hbad (.inr q)
            obtain ⟨ra, ha1⟩ : ∃ ra, as[i - 1]? = some ra := ⟨_, List.getElem?_eq_getElem (by omega)⟩
            obtain ⟨va, hv1⟩ : ∃ va, Vs[i - 1]? = some va := ⟨_, List.getElem?_eq_getElem (by omega)⟩
            have hrab := hbig _ (List.mem_append_left _ (hbr _ (hr3 _ (hrows _ ra va ha1 hv1))))
            have hia := hiv _ va hv1
            have hna := hln _ hv1
            have hit1 : (as.map Value.ref)[((i : Int) - 1).toNat]? = some (.ref ra) := by rw [show ((i : Int) - 1).toNat = i - 1 by omega]; exact map_ref_at ha1
            k_steps
            all_goals (
              rename News _ _ _ _ => lNe
              rename Fr _ _ _ _ => lFe
              rename _ ∧ _ ∧ AllLt _ big => lle
              obtain ⟨e, lN5, hed, hea, heb, heT, heP⟩ := names_ent lNe
              rw [← heT, ← heP] at lle
              clear lNe
              refine ws_end (es ++ [e]) ((dcl, listOf ((es ++ [e]).map fun e => Value.ref e.T).toArray (0 + 1)) :: (entLed (es ++ [e]) ++ base')) lFe lN5 ?h1 ?h2 ?h3 (fun _ h => nomatch h) (by (intro z h2 h3; (try (have h2' := h2 _ (List.Mem.head _); dsimp only at h2')); (try (have h2'' := h2 _ (List.Mem.tail _ (List.Mem.head _)); dsimp only at h2'')); (try (simp only [List.contains_cons, List.contains_nil, Bool.or_false, Bool.or_eq_false_iff, beq_eq_false_iff_ne, ne_eq] at h3)); first | rfl | (simp [kstB, h3]; done) | (simp [kstB, h2', h3]; done) | (simp [kstB, h2', h2'', h3]; done))) ⟨.tail _ (List.mem_append_right _ hdl), by rw [List.length_append]; simp only [List.length_cons, List.length_nil]; omega, rfl, hok.snoc hes (hed.trans ?hd) hea heb, ?hk⟩
              case h1 =>
                rw [entLed_snoc]
                intro p hp
                rcases List.mem_cons.mp hp with rfl | hp
                · refine .tail _ (.tail _ ?_)
                  rw [List.map_append, List.map_cons, List.map_nil, heT, List.push_toArray]
                  exact .head _
                · rcases List.mem_append.mp hp with hp | hp
                  · rcases List.mem_append.mp hp with hp | hp
                    · exact .tail _ (.tail _ (.tail _ (hbg ▸ List.mem_append_left _ hp)))
                    · rcases List.mem_cons.mp hp with rfl | hp
                      · exact .head _
                      · rw [List.mem_singleton.mp hp]; exact .tail _ (.head _)
                  · exact .tail _ (.tail _ (.tail _ (hbig p (List.mem_append_left _ hp))))
              case h2 => exact fun p hp => .tail _ (.tail _ (.tail _ (hbig p (List.mem_append_right _ hp))))
              case h3 =>
                rw [entLed_snoc]
                intro p hp b hb
                obtain ⟨y, hy, rfl⟩ := List.mem_map.mp hb
                have hpb := allLt_iff.mp lle.2.2 p (hbig p (List.mem_append_right _ hp))
                rcases List.mem_cons.mp hy with rfl | hy
                · exact hbo p hp
                · rcases List.mem_append.mp hy with hy | hy
                  · rcases List.mem_append.mp hy with hy | hy
                    · exact hoff p hp _ (List.mem_map.mpr ⟨y, .tail _ (List.mem_append_left _ hy), rfl⟩)
                    · rcases List.mem_cons.mp hy with rfl | hy
                      · exact Nat.ne_of_lt hpb
                      · rw [List.mem_singleton.mp hy]
                        rename _ ∧ AllLt _ big => llp
                        rw [← heP] at llp
                        exact Nat.ne_of_lt (allLt_iff.mp llp.2 p (hbig p (List.mem_append_right _ hp)))
                  · exact hoff p hp _ (List.mem_map.mpr ⟨y, .tail _ (List.mem_append_right _ hy), rfl⟩)
              case hd => (rw [d1_val hi1 hj1]; split <;> omega)
              case hk =>
                rw [entLed_snoc]
                intro p hp
                rcases List.mem_append.mp hp with hp | hp
                · exact hkeys p hp
                · rcases List.mem_cons.mp hp with rfl | hp
                  · exact lle.2.1
                  · rw [List.mem_singleton.mp hp]
                    rename _ ∧ AllLt _ big => llp
                    rw [← heP] at llp
                    exact llp.1)
        · obtain rfl : v = .ref T2 := by simpa using hv.symm
          obtain ⟨b1, b2, hT⟩ := hT2
          have hTb := hbig _ (List.mem_append_left _ hT)
          clear hv
          by_cases hbad : i = 0
          · k_steps
            all_goals (
              rename News _ _ _ _ => lNe
              rename Fr _ _ _ _ => lFe
              rename _ ∧ _ ∧ AllLt _ big => lle
              obtain ⟨e, lN5, hed, hea, heb, heT, heP⟩ := names_ent lNe
              rw [← heT, ← heP] at lle
              clear lNe
              refine ws_end (es ++ [e]) ((dcl, listOf ((es ++ [e]).map fun e => Value.ref e.T).toArray (1 + 1)) :: (entLed (es ++ [e]) ++ base')) lFe lN5 ?h1 ?h2 ?h3 (fun _ h => nomatch h) (by (intro z h2 h3; (try (have h2' := h2 _ (List.Mem.head _); dsimp only at h2')); (try (have h2'' := h2 _ (List.Mem.tail _ (List.Mem.head _)); dsimp only at h2'')); (try (simp only [List.contains_cons, List.contains_nil, Bool.or_false, Bool.or_eq_false_iff, beq_eq_false_iff_ne, ne_eq] at h3)); first | rfl | (simp [kstB, h3]; done) | (simp [kstB, h2', h3]; done) | (simp [kstB, h2', h2'', h3]; done))) ⟨.tail _ (List.mem_append_right _ hdl), by rw [List.length_append]; simp only [List.length_cons, List.length_nil]; omega, rfl, hok.snoc hes (hed.trans ?hd) hea heb, ?hk⟩
              case h1 =>
                rw [entLed_snoc]
                intro p hp
                rcases List.mem_cons.mp hp with rfl | hp
                · refine .tail _ (.tail _ ?_)
                  rw [List.map_append, List.map_cons, List.map_nil, heT, List.push_toArray]
                  exact .head _
                · rcases List.mem_append.mp hp with hp | hp
                  · rcases List.mem_append.mp hp with hp | hp
                    · exact .tail _ (.tail _ (.tail _ (hbg ▸ List.mem_append_left _ hp)))
                    · rcases List.mem_cons.mp hp with rfl | hp
                      · exact .head _
                      · rw [List.mem_singleton.mp hp]; exact .tail _ (.head _)
                  · exact .tail _ (.tail _ (.tail _ (hbig p (List.mem_append_left _ hp))))
              case h2 => exact fun p hp => .tail _ (.tail _ (.tail _ (hbig p (List.mem_append_right _ hp))))
              case h3 =>
                rw [entLed_snoc]
                intro p hp b hb
                obtain ⟨y, hy, rfl⟩ := List.mem_map.mp hb
                have hpb := allLt_iff.mp lle.2.2 p (hbig p (List.mem_append_right _ hp))
                rcases List.mem_cons.mp hy with rfl | hy
                · exact hbo p hp
                · rcases List.mem_append.mp hy with hy | hy
                  · rcases List.mem_append.mp hy with hy | hy
                    · exact hoff p hp _ (List.mem_map.mpr ⟨y, .tail _ (List.mem_append_left _ hy), rfl⟩)
                    · rcases List.mem_cons.mp hy with rfl | hy
                      · exact Nat.ne_of_lt hpb
                      · rw [List.mem_singleton.mp hy]
                        rename _ ∧ AllLt _ big => llp
                        rw [← heP] at llp
                        exact Nat.ne_of_lt (allLt_iff.mp llp.2 p (hbig p (List.mem_append_right _ hp)))
                  · exact hoff p hp _ (List.mem_map.mpr ⟨y, .tail _ (List.mem_append_right _ hy), rfl⟩)
              case hd => exact (d2_big hbad).symm
              case hk =>
                rw [entLed_snoc]
                intro p hp
                rcases List.mem_append.mp hp with hp | hp
                · exact hkeys p hp
                · rcases List.mem_cons.mp hp with rfl | hp
                  · exact lle.2.1
                  · rw [List.mem_singleton.mp hp]
                    rename _ ∧ AllLt _ big => llp
                    rw [← heP] at llp
                    exact llp.1)
          ·
            obtain ⟨ra, ha1⟩ : ∃ ra, as[i - 1]? = some ra := ⟨_, List.getElem?_eq_getElem (by omega)⟩
            obtain ⟨va, hv1⟩ : ∃ va, Vs[i - 1]? = some va := ⟨_, List.getElem?_eq_getElem (by omega)⟩
            have hrab := hbig _ (List.mem_append_left _ (hbr _ (hr3 _ (hrows _ ra va ha1 hv1))))
            have hia := hiv _ va hv1
            have hna := hln _ hv1
            have hit1 : (as.map Value.ref)[((i : Int) - 1).toNat]? = some (.ref ra) := by rw [show ((i : Int) - 1).toNat = i - 1 by omega]; exact map_ref_at ha1
            k_steps
            all_goals (
              rename News _ _ _ _ => lNe
              rename Fr _ _ _ _ => lFe
              rename _ ∧ _ ∧ AllLt _ big => lle
              obtain ⟨e, lN5, hed, hea, heb, heT, heP⟩ := names_ent lNe
              rw [← heT, ← heP] at lle
              clear lNe
              refine ws_end (es ++ [e]) ((dcl, listOf ((es ++ [e]).map fun e => Value.ref e.T).toArray (1 + 1)) :: (entLed (es ++ [e]) ++ base')) lFe lN5 ?h1 ?h2 ?h3 (fun _ h => nomatch h) (by (intro z h2 h3; (try (have h2' := h2 _ (List.Mem.head _); dsimp only at h2')); (try (have h2'' := h2 _ (List.Mem.tail _ (List.Mem.head _)); dsimp only at h2'')); (try (simp only [List.contains_cons, List.contains_nil, Bool.or_false, Bool.or_eq_false_iff, beq_eq_false_iff_ne, ne_eq] at h3)); first | rfl | (simp [kstB, h3]; done) | (simp [kstB, h2', h3]; done) | (simp [kstB, h2', h2'', h3]; done))) ⟨.tail _ (List.mem_append_right _ hdl), by rw [List.length_append]; simp only [List.length_cons, List.length_nil]; omega, rfl, hok.snoc hes (hed.trans ?hd) hea heb, ?hk⟩
              case h1 =>
                rw [entLed_snoc]
                intro p hp
                rcases List.mem_cons.mp hp with rfl | hp
                · refine .tail _ (.tail _ ?_)
                  rw [List.map_append, List.map_cons, List.map_nil, heT, List.push_toArray]
                  exact .head _
                · rcases List.mem_append.mp hp with hp | hp
                  · rcases List.mem_append.mp hp with hp | hp
                    · exact .tail _ (.tail _ (.tail _ (hbg ▸ List.mem_append_left _ hp)))
                    · rcases List.mem_cons.mp hp with rfl | hp
                      · exact .head _
                      · rw [List.mem_singleton.mp hp]; exact .tail _ (.head _)
                  · exact .tail _ (.tail _ (.tail _ (hbig p (List.mem_append_left _ hp))))
              case h2 => exact fun p hp => .tail _ (.tail _ (.tail _ (hbig p (List.mem_append_right _ hp))))
              case h3 =>
                rw [entLed_snoc]
                intro p hp b hb
                obtain ⟨y, hy, rfl⟩ := List.mem_map.mp hb
                have hpb := allLt_iff.mp lle.2.2 p (hbig p (List.mem_append_right _ hp))
                rcases List.mem_cons.mp hy with rfl | hy
                · exact hbo p hp
                · rcases List.mem_append.mp hy with hy | hy
                  · rcases List.mem_append.mp hy with hy | hy
                    · exact hoff p hp _ (List.mem_map.mpr ⟨y, .tail _ (List.mem_append_left _ hy), rfl⟩)
                    · rcases List.mem_cons.mp hy with rfl | hy
                      · exact Nat.ne_of_lt hpb
                      · rw [List.mem_singleton.mp hy]
                        rename _ ∧ AllLt _ big => llp
                        rw [← heP] at llp
                        exact Nat.ne_of_lt (allLt_iff.mp llp.2 p (hbig p (List.mem_append_right _ hp)))
                  · exact hoff p hp _ (List.mem_map.mpr ⟨y, .tail _ (List.mem_append_right _ hy), rfl⟩)
              case hd => first | exact (d2_val hbad).symm | (exfalso; omega)
              case hk =>
                rw [entLed_snoc]
                intro p hp
                rcases List.mem_append.mp hp with hp | hp
                · exact hkeys p hp
                · rcases List.mem_cons.mp hp with rfl | hp
                  · exact lle.2.1
                  · rw [List.mem_singleton.mp hp]
                    rename _ ∧ AllLt _ big => llp
                    rw [← heP] at llp
                    exact llp.1)
        · obtain rfl : v = .ref T3 := by simpa using hv.symm
          obtain ⟨b1, b2, hT⟩ := hT3
          have hTb := hbig _ (List.mem_append_left _ hT)
          clear hv
          by_cases hbad : j = 0
          · k_steps
            all_goals (
              rename News _ _ _ _ => lNe
              rename Fr _ _ _ _ => lFe
              rename _ ∧ _ ∧ AllLt _ big => lle
              obtain ⟨e, lN5, hed, hea, heb, heT, heP⟩ := names_ent lNe
              rw [← heT, ← heP] at lle
              clear lNe
              refine ws_end (es ++ [e]) ((dcl, listOf ((es ++ [e]).map fun e => Value.ref e.T).toArray (2 + 1)) :: (entLed (es ++ [e]) ++ base')) lFe lN5 ?h1 ?h2 ?h3 (fun _ h => nomatch h) (by (intro z h2 h3; (try (have h2' := h2 _ (List.Mem.head _); dsimp only at h2')); (try (have h2'' := h2 _ (List.Mem.tail _ (List.Mem.head _)); dsimp only at h2'')); (try (simp only [List.contains_cons, List.contains_nil, Bool.or_false, Bool.or_eq_false_iff, beq_eq_false_iff_ne, ne_eq] at h3)); first | rfl | (simp [kstB, h3]; done) | (simp [kstB, h2', h3]; done) | (simp [kstB, h2', h2'', h3]; done))) ⟨.tail _ (List.mem_append_right _ hdl), by rw [List.length_append]; simp only [List.length_cons, List.length_nil]; omega, rfl, hok.snoc hes (hed.trans ?hd) hea heb, ?hk⟩
              case h1 =>
                rw [entLed_snoc]
                intro p hp
                rcases List.mem_cons.mp hp with rfl | hp
                · refine .tail _ (.tail _ ?_)
                  rw [List.map_append, List.map_cons, List.map_nil, heT, List.push_toArray]
                  exact .head _
                · rcases List.mem_append.mp hp with hp | hp
                  · rcases List.mem_append.mp hp with hp | hp
                    · exact .tail _ (.tail _ (.tail _ (hbg ▸ List.mem_append_left _ hp)))
                    · rcases List.mem_cons.mp hp with rfl | hp
                      · exact .head _
                      · rw [List.mem_singleton.mp hp]; exact .tail _ (.head _)
                  · exact .tail _ (.tail _ (.tail _ (hbig p (List.mem_append_left _ hp))))
              case h2 => exact fun p hp => .tail _ (.tail _ (.tail _ (hbig p (List.mem_append_right _ hp))))
              case h3 =>
                rw [entLed_snoc]
                intro p hp b hb
                obtain ⟨y, hy, rfl⟩ := List.mem_map.mp hb
                have hpb := allLt_iff.mp lle.2.2 p (hbig p (List.mem_append_right _ hp))
                rcases List.mem_cons.mp hy with rfl | hy
                · exact hbo p hp
                · rcases List.mem_append.mp hy with hy | hy
                  · rcases List.mem_append.mp hy with hy | hy
                    · exact hoff p hp _ (List.mem_map.mpr ⟨y, .tail _ (List.mem_append_left _ hy), rfl⟩)
                    · rcases List.mem_cons.mp hy with rfl | hy
                      · exact Nat.ne_of_lt hpb
                      · rw [List.mem_singleton.mp hy]
                        rename _ ∧ AllLt _ big => llp
                        rw [← heP] at llp
                        exact Nat.ne_of_lt (allLt_iff.mp llp.2 p (hbig p (List.mem_append_right _ hp)))
                  · exact hoff p hp _ (List.mem_map.mpr ⟨y, .tail _ (List.mem_append_right _ hy), rfl⟩)
              case hd => exact (d3_big hbad).symm
              case hk =>
                rw [entLed_snoc]
                intro p hp
                rcases List.mem_append.mp hp with hp | hp
                · exact hkeys p hp
                · rcases List.mem_cons.mp hp with rfl | hp
                  · exact lle.2.1
                  · rw [List.mem_singleton.mp hp]
                    rename _ ∧ AllLt _ big => llp
                    rw [← heP] at llp
                    exact llp.1)
          ·
            obtain ⟨rb, ha2⟩ : ∃ rb, as[i]? = some rb := ⟨_, List.getElem?_eq_getElem (by omega)⟩
            obtain ⟨vb, hv2⟩ : ∃ vb, Vs[i]? = some vb := ⟨_, List.getElem?_eq_getElem (by omega)⟩
            have hrbb := hbig _ (List.mem_append_left _ (hbr _ (hr3 _ (hrows _ rb vb ha2 hv2))))
            have hib := hiv _ vb hv2
            have hnb := hln _ hv2
            have hit2 : (as.map Value.ref)[(i : Int).toNat]? = some (.ref rb) := by rw [show (i : Int).toNat = i by omega]; exact map_ref_at ha2
            k_steps
            all_goals (
              rename News _ _ _ _ => lNe
              rename Fr _ _ _ _ => lFe
              rename _ ∧ _ ∧ AllLt _ big => lle
              obtain ⟨e, lN5, hed, hea, heb, heT, heP⟩ := names_ent lNe
              rw [← heT, ← heP] at lle
              clear lNe
              refine ws_end (es ++ [e]) ((dcl, listOf ((es ++ [e]).map fun e => Value.ref e.T).toArray (2 + 1)) :: (entLed (es ++ [e]) ++ base')) lFe lN5 ?h1 ?h2 ?h3 (fun _ h => nomatch h) (by (intro z h2 h3; (try (have h2' := h2 _ (List.Mem.head _); dsimp only at h2')); (try (have h2'' := h2 _ (List.Mem.tail _ (List.Mem.head _)); dsimp only at h2'')); (try (simp only [List.contains_cons, List.contains_nil, Bool.or_false, Bool.or_eq_false_iff, beq_eq_false_iff_ne, ne_eq] at h3)); first | rfl | (simp [kstB, h3]; done) | (simp [kstB, h2', h3]; done) | (simp [kstB, h2', h2'', h3]; done))) ⟨.tail _ (List.mem_append_right _ hdl), by rw [List.length_append]; simp only [List.length_cons, List.length_nil]; omega, rfl, hok.snoc hes (hed.trans ?hd) hea heb, ?hk⟩
              case h1 =>
                rw [entLed_snoc]
                intro p hp
                rcases List.mem_cons.mp hp with rfl | hp
                · refine .tail _ (.tail _ ?_)
                  rw [List.map_append, List.map_cons, List.map_nil, heT, List.push_toArray]
                  exact .head _
                · rcases List.mem_append.mp hp with hp | hp
                  · rcases List.mem_append.mp hp with hp | hp
                    · exact .tail _ (.tail _ (.tail _ (hbg ▸ List.mem_append_left _ hp)))
                    · rcases List.mem_cons.mp hp with rfl | hp
                      · exact .head _
                      · rw [List.mem_singleton.mp hp]; exact .tail _ (.head _)
                  · exact .tail _ (.tail _ (.tail _ (hbig p (List.mem_append_left _ hp))))
              case h2 => exact fun p hp => .tail _ (.tail _ (.tail _ (hbig p (List.mem_append_right _ hp))))
              case h3 =>
                rw [entLed_snoc]
                intro p hp b hb
                obtain ⟨y, hy, rfl⟩ := List.mem_map.mp hb
                have hpb := allLt_iff.mp lle.2.2 p (hbig p (List.mem_append_right _ hp))
                rcases List.mem_cons.mp hy with rfl | hy
                · exact hbo p hp
                · rcases List.mem_append.mp hy with hy | hy
                  · rcases List.mem_append.mp hy with hy | hy
                    · exact hoff p hp _ (List.mem_map.mpr ⟨y, .tail _ (List.mem_append_left _ hy), rfl⟩)
                    · rcases List.mem_cons.mp hy with rfl | hy
                      · exact Nat.ne_of_lt hpb
                      · rw [List.mem_singleton.mp hy]
                        rename _ ∧ AllLt _ big => llp
                        rw [← heP] at llp
                        exact Nat.ne_of_lt (allLt_iff.mp llp.2 p (hbig p (List.mem_append_right _ hp)))
                  · exact hoff p hp _ (List.mem_map.mpr ⟨y, .tail _ (List.mem_append_right _ hy), rfl⟩)
              case hd => first | exact (d3_val hbad).symm | (exfalso; omega)
              case hk =>
                rw [entLed_snoc]
                intro p hp
                rcases List.mem_append.mp hp with hp | hp
                · exact hkeys p hp
                · rcases List.mem_cons.mp hp with rfl | hp
                  · exact lle.2.1
                  · rw [List.mem_singleton.mp hp]
                    rename _ ∧ AllLt _ big => llp
                    rw [← heP] at llp
                    exact llp.1)
      · rintro es nx u2 h2 tk2 ⟨hes, rfl, hok, hkeys⟩ F₂ N₃
        obtain ⟨e0, e1, e2, rfl⟩ : ∃ e0 e1 e2, es = [e0, e1, e2] := by
          match es, hes with
          | [a, b, d], _ => exact ⟨a, b, d, rfl⟩
        obtain ⟨hd0, hx0, hy0⟩ := hok 0 e0 rfl
        obtain ⟨hd1, hx1, hy1⟩ := hok 1 e1 rfl
        obtain ⟨hd2, hx2, hy2⟩ := hok 2 e2 rfl
        rcases e0 with ⟨A0, s0, P0, p0, q0, D0, x0, y0⟩
        rcases e1 with ⟨A1, s1, P1, p1, q1, D1, u1, y1⟩
        rcases e2 with ⟨A2, s2, P2, p2, q2, D2, u2', y2⟩
        simp only [entLed, List.cons_append, List.nil_append, List.map_cons, List.map_nil, List.length_cons, List.length_nil] at N₃ hkeys hd0 hx0 hy0 hd1 hx1 hy1 hd2 hx2 hy2
        have k0 := ltN (hkeys _ (.head _))
        have k1 := ltN (hkeys _ (.tail _ (.head _)))
        have k2 := ltN (hkeys _ (.tail _ (.tail _ (.head _))))
        have k3 := ltN (hkeys _ (.tail _ (.tail _ (.tail _ (.head _)))))
        have k4 := ltN (hkeys _ (.tail _ (.tail _ (.tail _ (.tail _ (.head _))))))
        have k5 := ltN (hkeys _ (.tail _ (.tail _ (.tail _ (.tail _ (.tail _ (.head _)))))))
        have N₄ := news_sub N₃ (l' := (dcl, listOf [.ref A0, .ref A1, .ref A2].toArray 3) :: (A0, tupObj #[.int D0 s0, .ref P0]) :: (P0, tupObj #[.int x0 p0, .int y0 q0]) :: (A1, tupObj #[.int D1 s1, .ref P1]) :: (P1, tupObj #[.int u1 p1, .int y1 q1]) :: (A2, tupObj #[.int D2 s2, .ref P2]) :: (P2, tupObj #[.int u2' p2, .int y2 q2]) :: (52, tabObj ps) :: (al, listOf vs.toArray ep) :: rest) (by
          (repeat (refine List.forall_mem_cons.mpr ⟨by kcf_m, ?_⟩))
          intro p hp
          exact .tail _ (.tail _ (.tail _ (.tail _ (.tail _ (.tail _ (.tail _ (hbr p hp))))))))
        have hvl : vs.length ≤ 801 := by
          have e1 := hda.length
          have e2 := backPath_len (c := c) (xs := x1) (ys := x2) (M := M) (x1.length + x2.length) x1.length x2.length
          have e3 := congrArg List.length hpath
          rw [List.length_append, List.length_cons] at e3
          rw [List.length_map] at e1
          omega
        clear N₃ N₂ hok hkeys lFd hT1 hT2 hT3 hdl hb52 hbal hbr hbl
        k_steps
        · rename News _ _ _ _ => lNx
          rename Fr _ _ _ _ => lFx
          obtain ⟨Tn, f9, c9, oc9, rfl, rfl, rfl, rfl⟩ := names_last lNx
          rename f9 < Tn ∧ _ => ly
          rename Obj.data oc9 = _ => d8
          rename _[1]? = some _ => d9
          rename c9 ≠ al => l3'
          rename c9 ≠ 52 => l4'
          have ly1 := ly.2.2.2.2.2.2.2.2.2.2.1
          have ly2 := ly.2.2.2.2.2.2.2.2.2.1
          rw [List.push_toArray] at lNx
          subst hd0 hd1 hd2 hx0 hy0
          obtain ⟨hi1, hj1, hs⟩ := back_a hm0 hm1 hin hjn hij ‹dval c x1 x2 M i j 0 ≤ dval c x1 x2 M i j 1› ‹dval c x1 x2 M i j 0 ≤ dval c x1 x2 M i j 2›
          obtain ⟨i9, rfl⟩ : ∃ i9, i = i9 + 1 := ⟨i - 1, by omega⟩
          obtain ⟨j9, rfl⟩ : ∃ j9, j = j9 + 1 := ⟨j - 1, by omega⟩
          obtain ⟨f0, rfl⟩ : ∃ f0, f = f0 + 1 := ⟨f - 1, by omega⟩
          rw [show aval (i9 + 1) 0 = (i9 : Int) by simp [aval]] at lNx lFx
          rw [show bval (j9 + 1) 0 = (j9 : Int) by simp [bval]] at lNx lFx
          show WEnd _ _ _ _ _ _ _ _ _ _
          refine wend ⟨i9, p0, j9, q0, P ++ [(i9, j9)], vs ++ [Value.ref Tn], ep + 1, #[rawInt 60, rawInt 40, .ref c9], (Tn, tupObj #[.int i9 p0, .int j9 q0]) :: (c9, oc9) :: rest, f0⟩
            ((52, tabObj #[rawInt 60, rawInt 40, .ref c9]) :: (al, listOf (vs ++ [Value.ref Tn]).toArray (ep + 1)) :: (Tn, tupObj #[.int i9 p0, .int j9 q0]) :: (c9, oc9) :: rest) lFx lNx ?hn (Nat.lt_succ_self _) ?hk ?hr ?hg
          case hn => ((repeat' (first | exact List.forall_mem_nil _ | refine List.forall_mem_cons.mpr (And.intro ?_ ?_) | refine List.forall_mem_append.mpr (And.intro ?_ ?_) | kcf_m | (intro p9 h9; kcf_m))); done)
          case hk =>
            refine List.forall_mem_cons.mpr ⟨?_, List.forall_mem_cons.mpr ⟨?_, List.forall_mem_nil _⟩⟩
            · with_unfolding_all rfl
            · with_unfolding_all rfl
          case hr => (intro z h2 h3; (try (have h2' := h2 _ (List.Mem.head _); dsimp only at h2')); (try (have h2'' := h2 _ (List.Mem.tail _ (List.Mem.head _)); dsimp only at h2'')); (try (simp only [List.contains_cons, List.contains_nil, Bool.or_false, Bool.or_eq_false_iff, beq_eq_false_iff_ne, ne_eq] at h3)); first | rfl | (simp [kstB, h3]; done) | (simp [kstB, h2', h3]; done) | (simp [kstB, h2', h2'', h3]; done))
          case hg =>
            refine ⟨rfl, List.forall_mem_cons.mpr ⟨Nat.ne_of_gt ly2, List.forall_mem_cons.mpr ⟨l4', hr1⟩⟩, h52a, fun p hp => .tail _ (.tail _ (hr3 p hp)), ?_, ⟨.inr ⟨c9, oc9, _, _, rfl, .tail _ (.head _), d8, d9⟩, List.forall_mem_cons.mpr ⟨Nat.ne_of_gt ly1, List.forall_mem_cons.mpr ⟨l3', hral⟩⟩⟩, ?_, ?_, ?_, step_path hf hij (show backStep _ _ _ _ (i9 + 1) (j9 + 1) = (i9, j9) from hs) hpath⟩
            · rw [List.map_append]
              exact (hda.mono fun p hp => .tail _ (.tail _ hp)).append (DatAll.one (.tuple (.head _) (.cons (.int _ _) (.cons (.int _ _) .nil))))
            · exact Nat.le_trans (by dsimp only; omega) hin
            · exact Nat.le_trans (by dsimp only; omega) hjn
            · dsimp only; omega
        · rename News _ _ _ _ => lNx
          rename Fr _ _ _ _ => lFx
          obtain ⟨Tn, f9, c9, oc9, rfl, rfl, rfl, rfl⟩ := names_last lNx
          rename f9 < Tn ∧ _ => ly
          rename Obj.data oc9 = _ => d8
          rename _[1]? = some _ => d9
          rename c9 ≠ al => l3'
          rename c9 ≠ 52 => l4'
          have ly1 := ly.2.2.2.2.2.2.2.2.2.2.1
          have ly2 := ly.2.2.2.2.2.2.2.2.2.1
          rw [List.push_toArray] at lNx
          subst hd0 hd1 hd2 hx1 hy1
          obtain ⟨hi1, hs⟩ := back_b (j := j) ‹dval c x1 x2 M i j 1 < dval c x1 x2 M i j 0› ‹dval c x1 x2 M i j 1 ≤ dval c x1 x2 M i j 2›
          obtain ⟨i9, rfl⟩ : ∃ i9, i = i9 + 1 := ⟨i - 1, by omega⟩
          obtain ⟨f0, rfl⟩ : ∃ f0, f = f0 + 1 := ⟨f - 1, by omega⟩
          rw [show aval (i9 + 1) 1 = (i9 : Int) by simp [aval]] at lNx lFx
          rw [show bval j 1 = (j : Int) by simp [bval]] at lNx lFx
          show WEnd _ _ _ _ _ _ _ _ _ _
          refine wend ⟨i9, p1, j, q1, P ++ [(i9, j)], vs ++ [Value.ref Tn], ep + 1, #[rawInt 60, rawInt 40, .ref c9], (Tn, tupObj #[.int i9 p1, .int j q1]) :: (c9, oc9) :: rest, f0⟩
            ((52, tabObj #[rawInt 60, rawInt 40, .ref c9]) :: (al, listOf (vs ++ [Value.ref Tn]).toArray (ep + 1)) :: (Tn, tupObj #[.int i9 p1, .int j q1]) :: (c9, oc9) :: rest) lFx lNx ?hn (Nat.lt_succ_self _) ?hk ?hr ?hg
          case hn => ((repeat' (first | exact List.forall_mem_nil _ | refine List.forall_mem_cons.mpr (And.intro ?_ ?_) | refine List.forall_mem_append.mpr (And.intro ?_ ?_) | kcf_m | (intro p9 h9; kcf_m))); done)
          case hk =>
            refine List.forall_mem_cons.mpr ⟨?_, List.forall_mem_cons.mpr ⟨?_, List.forall_mem_nil _⟩⟩
            · with_unfolding_all rfl
            · with_unfolding_all rfl
          case hr => (intro z h2 h3; (try (have h2' := h2 _ (List.Mem.head _); dsimp only at h2')); (try (have h2'' := h2 _ (List.Mem.tail _ (List.Mem.head _)); dsimp only at h2'')); (try (simp only [List.contains_cons, List.contains_nil, Bool.or_false, Bool.or_eq_false_iff, beq_eq_false_iff_ne, ne_eq] at h3)); first | rfl | (simp [kstB, h3]; done) | (simp [kstB, h2', h3]; done) | (simp [kstB, h2', h2'', h3]; done))
          case hg =>
            refine ⟨rfl, List.forall_mem_cons.mpr ⟨Nat.ne_of_gt ly2, List.forall_mem_cons.mpr ⟨l4', hr1⟩⟩, h52a, fun p hp => .tail _ (.tail _ (hr3 p hp)), ?_, ⟨.inr ⟨c9, oc9, _, _, rfl, .tail _ (.head _), d8, d9⟩, List.forall_mem_cons.mpr ⟨Nat.ne_of_gt ly1, List.forall_mem_cons.mpr ⟨l3', hral⟩⟩⟩, ?_, ?_, ?_, step_path hf hij (show backStep _ _ _ _ (i9 + 1) j = (i9, j) from hs) hpath⟩
            · rw [List.map_append]
              exact (hda.mono fun p hp => .tail _ (.tail _ hp)).append (DatAll.one (.tuple (.head _) (.cons (.int _ _) (.cons (.int _ _) .nil))))
            · exact Nat.le_trans (by dsimp only; omega) hin
            · exact Nat.le_trans (by dsimp only; omega) hjn
            · dsimp only; omega
        · rename News _ _ _ _ => lNx
          rename Fr _ _ _ _ => lFx
          obtain ⟨Tn, f9, c9, oc9, rfl, rfl, rfl, rfl⟩ := names_last lNx
          rename f9 < Tn ∧ _ => ly
          rename Obj.data oc9 = _ => d8
          rename _[1]? = some _ => d9
          rename c9 ≠ al => l3'
          rename c9 ≠ 52 => l4'
          have ly1 := ly.2.2.2.2.2.2.2.2.2.2.1
          have ly2 := ly.2.2.2.2.2.2.2.2.2.1
          rw [List.push_toArray] at lNx
          subst hd0 hd1 hd2 hx2 hy2
          obtain ⟨hj1, hs⟩ := back_c (i := i) ‹dval c x1 x2 M i j 2 < dval c x1 x2 M i j 0› ‹dval c x1 x2 M i j 2 < dval c x1 x2 M i j 1›
          obtain ⟨j9, rfl⟩ : ∃ j9, j = j9 + 1 := ⟨j - 1, by omega⟩
          obtain ⟨f0, rfl⟩ : ∃ f0, f = f0 + 1 := ⟨f - 1, by omega⟩
          rw [show aval i 2 = (i : Int) by simp [aval]] at lNx lFx
          rw [show bval (j9 + 1) 2 = (j9 : Int) by simp [bval]] at lNx lFx
          show WEnd _ _ _ _ _ _ _ _ _ _
          refine wend ⟨i, p2, j9, q2, P ++ [(i, j9)], vs ++ [Value.ref Tn], ep + 1, #[rawInt 60, rawInt 40, .ref c9], (Tn, tupObj #[.int i p2, .int j9 q2]) :: (c9, oc9) :: rest, f0⟩
            ((52, tabObj #[rawInt 60, rawInt 40, .ref c9]) :: (al, listOf (vs ++ [Value.ref Tn]).toArray (ep + 1)) :: (Tn, tupObj #[.int i p2, .int j9 q2]) :: (c9, oc9) :: rest) lFx lNx ?hn (Nat.lt_succ_self _) ?hk ?hr ?hg
          case hn => ((repeat' (first | exact List.forall_mem_nil _ | refine List.forall_mem_cons.mpr (And.intro ?_ ?_) | refine List.forall_mem_append.mpr (And.intro ?_ ?_) | kcf_m | (intro p9 h9; kcf_m))); done)
          case hk =>
            refine List.forall_mem_cons.mpr ⟨?_, List.forall_mem_cons.mpr ⟨?_, List.forall_mem_nil _⟩⟩
            · with_unfolding_all rfl
            · with_unfolding_all rfl
          case hr => (intro z h2 h3; (try (have h2' := h2 _ (List.Mem.head _); dsimp only at h2')); (try (have h2'' := h2 _ (List.Mem.tail _ (List.Mem.head _)); dsimp only at h2'')); (try (simp only [List.contains_cons, List.contains_nil, Bool.or_false, Bool.or_eq_false_iff, beq_eq_false_iff_ne, ne_eq] at h3)); first | rfl | (simp [kstB, h3]; done) | (simp [kstB, h2', h3]; done) | (simp [kstB, h2', h2'', h3]; done))
          case hg =>
            refine ⟨rfl, List.forall_mem_cons.mpr ⟨Nat.ne_of_gt ly2, List.forall_mem_cons.mpr ⟨l4', hr1⟩⟩, h52a, fun p hp => .tail _ (.tail _ (hr3 p hp)), ?_, ⟨.inr ⟨c9, oc9, _, _, rfl, .tail _ (.head _), d8, d9⟩, List.forall_mem_cons.mpr ⟨Nat.ne_of_gt ly1, List.forall_mem_cons.mpr ⟨l3', hral⟩⟩⟩, ?_, ?_, ?_, step_path hf hij (show backStep _ _ _ _ i (j9 + 1) = (i, j9) from hs) hpath⟩
            · rw [List.map_append]
              exact (hda.mono fun p hp => .tail _ (.tail _ hp)).append (DatAll.one (.tuple (.head _) (.cons (.int _ _) (.cons (.int _ _) .nil))))
            · exact Nat.le_trans (by dsimp only; omega) hin
            · exact Nat.le_trans (by dsimp only; omega) hjn
            · dsimp only; omega

end Mine

end SEBack0
section SR60
open PySem PySem.W PyProof.Rows PySem.Calls
namespace Mine
def Apart (l : List (Addr × Obj)) (D : Addr) : Prop := ∀ p ∈ l, p.1 ≠ D
theorem apart_of {h : Heap} {news : List (Addr × Obj)} {D : Addr} {items : Array Value} (x : NewPlain h news D items) : Apart news D := x.2
theorem call_stop {M : Model} {A : Around} {f : Value} {as : List Value} {kw : List (Str × Value)} {Q : Value → Shared → Prop} {E : Value → Shared → Prop} {s : Shared} (h : Stop (wpAny M A (call f as kw) Q E s)) : wpAny M A (call f as kw) Q E s := h
theorem names_mat {h₀ h : Heap} {L lv : Addr} {ne : Nat} {as : List Addr} {Vs : List (List Value)} {news : List (Addr × Obj)} (_N : News h₀ L h (matLed lv ne as Vs news)) : ∃ a b c d, a = lv ∧ b = ne ∧ c = as ∧ d = Vs := ⟨_, _, _, _, rfl, rfl, rfl, rfl⟩
theorem mAt_set {M : List (List Int)} {k q : Nat} {x : Int} (i j : Nat) : mAt (M.set k ((M.getD k []).set q x)) i j = mAt M i j ∨ mAt (M.set k ((M.getD k []).set q x)) i j = x ∨ mAt (M.set k ((M.getD k []).set q x)) i j = 0 := by
  unfold mAt
  simp only [List.getD_eq_getElem?_getD, List.getElem?_set]
  by_cases h : k = i
  · subst h
    simp only [if_true]
    by_cases h2 : k < M.length
    · simp only [h2, if_true, Option.getD_some, List.getElem?_set]
      by_cases h3 : q = j
      · subst h3
        simp only [if_true]
        split
        · exact .inr (.inl rfl)
        · exact .inr (.inr rfl)
      · simp only [h3, if_false]
        exact .inl trivial
    · simp only [h2, if_false]
      exact .inr (.inr rfl)
  · simp only [h, if_false]
    exact .inl trivial
theorem mAt_zero (n1 n2 i j : Nat) : mAt (List.replicate n1 (List.replicate n2 0)) i j = 0 := by
  unfold mAt
  simp only [List.getD_eq_getElem?_getD, List.getElem?_replicate]
  by_cases h : i < n1
  · simp only [h, if_true, Option.getD_some, List.getElem?_replicate]
    split <;> rfl
  · simp only [h, if_false]
    rfl
theorem m2_le (n1 n2 : Nat) (i j : Nat) : ∀ k, mAt (m2 n1 n2 k) i j ≤ k
  | 0 => by rw [m2, mAt_zero]; exact Int.le_refl _
  | k + 1 => by
    have := m2_le n1 n2 i j k
    rcases mAt_set (M := m2 n1 n2 k) (k := k) (q := 0) (x := (k : Int)) i j with e | e | e <;> (rw [m2, e]; omega)
theorem m3_le (n1 n2 : Nat) (i j : Nat) : ∀ k, mAt (m3 n1 n2 k) i j ≤ n1 + k
  | 0 => by rw [m3]; have := m2_le n1 n2 i j n1; omega
  | k + 1 => by
    have := m3_le n1 n2 i j k
    rcases mAt_set (M := m3 n1 n2 k) (k := 0) (q := k) (x := (k : Int)) i j with e | e | e <;> (rw [m3, e]; omega)
theorem fillRow_zero (c a : Int) (ys p z0 : List Int) : ∀ j, (fillRow c a ys p z0 j).getD 0 0 = z0.getD 0 0
  | 0 => rfl
  | j + 1 => by
    rw [fillRow, List.getD_eq_getElem?_getD, List.getElem?_set_ne (by omega), ← List.getD_eq_getElem?_getD]
    exact fillRow_zero c a ys p z0 j
theorem fillMat_succ (c : Int) (xs ys : List Int) (k : Nat) : fillMat c xs ys (k + 1) = (fillMat c xs ys k).set (k + 1) (fillRow c (xs.getD k 0) ys ((fillMat c xs ys k).getD k []) ((fillMat c xs ys k).getD (k + 1) []) ys.length) := rfl
theorem mat_row0 (c : Int) (xs ys : List Int) : ∀ k, (fillMat c xs ys k).getD 0 [] = (fillMat c xs ys 0).getD 0 []
  | 0 => rfl
  | k + 1 => by
    rw [fillMat_succ, List.getD_eq_getElem?_getD (l := List.set _ _ _), List.getElem?_set_ne (by omega), ← List.getD_eq_getElem?_getD]
    exact mat_row0 c xs ys k
theorem mat_col0 (c : Int) (xs ys : List Int) (i : Nat) : ∀ k, mAt (fillMat c xs ys k) i 0 = mAt (fillMat c xs ys 0) i 0 ∨ mAt (fillMat c xs ys k) i 0 = 0
  | 0 => .inl rfl
  | k + 1 => by
    have ih := mat_col0 c xs ys i k
    rw [fillMat_succ]
    unfold mAt at ih ⊢
    by_cases h : k + 1 = i
    · subst h
      by_cases h2 : k + 1 < (fillMat c xs ys k).length
      · rw [show ((fillMat c xs ys k).set (k + 1) (fillRow c (xs.getD k 0) ys ((fillMat c xs ys k).getD k []) ((fillMat c xs ys k).getD (k + 1) []) ys.length)).getD (k + 1) [] = fillRow c (xs.getD k 0) ys ((fillMat c xs ys k).getD k []) ((fillMat c xs ys k).getD (k + 1) []) ys.length by
          rw [List.getD_eq_getElem?_getD, List.getElem?_set_self h2]; rfl]
        rw [fillRow_zero]
        exact ih
      · refine .inr ?_
        rw [List.getD_eq_getElem?_getD (l := List.set _ _ _), List.getElem?_eq_none (by rw [List.length_set]; omega)]
        rfl
    · rw [List.getD_eq_getElem?_getD (l := List.set _ _ _), List.getElem?_set_ne h, ← List.getD_eq_getElem?_getD]
      exact ih
theorem edge_row (c : Int) (xs ys : List Int) (h1 : xs.length ≤ 400) (h2 : ys.length ≤ 400) (j : Nat) (_ : j ≤ ys.length) : mAt (fillMat c xs ys xs.length) 0 j ≤ 1000000 := by
  unfold mAt
  rw [mat_row0]
  have := m3_le (xs.length + 1) (ys.length + 1) 0 j (ys.length + 1)
  unfold mAt at this
  show ((m3 (xs.length + 1) (ys.length + 1) (ys.length + 1)).getD 0 []).getD j 0 ≤ 1000000
  omega
theorem edge_col (c : Int) (xs ys : List Int) (h1 : xs.length ≤ 400) (h2 : ys.length ≤ 400) (i : Nat) (_ : i ≤ xs.length) : mAt (fillMat c xs ys xs.length) i 0 ≤ 1000000 := by
  have := m3_le (xs.length + 1) (ys.length + 1) i 0 (ys.length + 1)
  rcases mat_col0 c xs ys i xs.length with e | e
  · rw [e]
    show mAt (m3 (xs.length + 1) (ys.length + 1) (ys.length + 1)) i 0 ≤ 1000000
    omega
  · rw [e]; omega
theorem MatOk.lv_ne {lv : Addr} {as : List Addr} {Vs : List (List Value)} {M : List (List Int)} {news : List (Addr × Obj)} (h : MatOk lv as Vs M news) : ∀ p ∈ news, lv ≠ p.1 := fun p hp => Ne.symm (h.news_lv p hp)
end Mine

end SR60
section SEAlign0
local macro_rules | `(tactic| walk_at "zz") => `(tactic| fail)
local macro_rules | `(tactic| walk_at "zz") => `(tactic| fail)
local macro_rules | `(tactic| ke_room) => `(tactic| ktr_units)
local macro_rules | `(tactic| units_room) => `(tactic| ktr_units)
local macro_rules | `(tactic| k_room) => `(tactic| ktr_room)
local macro_rules | `(tactic| walk_at "call ref") => `(tactic| (k_here; (with_reducible show wpAny _ _ (call (Value.ref 57) _ _) _ _ _); refine Mine.call_stop ?_))
local macro_rules | `(tactic| walk_at "call ref") => `(tactic| (k_here; (with_reducible show wpAny _ _ (call (Value.ref 41) _ _) _ _ _); refine Mine.call_stop ?_))
local macro_rules | `(tactic| walk_at "exec For") => `(tactic| (k_here; (rename Fr _ _ _ _ => lF'); (with_unfolding_all refine' Mine.for_stop lF' ?k1 ?k2 ?_); (case k1 => with_unfolding_all exact rfl); (case k2 => with_unfolding_all exact rfl)))
local macro_rules | `(tactic| walk_at "exec For Name Call cons nil") => `(tactic| (k_here; (rename Fr _ _ _ _ => lF'); (with_unfolding_all refine' Mine.for_stop lF' ?k1 ?k2 ?_); (case k1 => with_unfolding_all exact rfl); (case k2 => with_unfolding_all exact rfl)))
local macro_rules | `(tactic| walk_at "exec For Name Name cons nil") => `(tactic| (k_here; (rename Fr _ _ _ _ => lF'); (with_unfolding_all refine' Mine.for_stop lF' ?k1 ?k2 ?_); (case k1 => with_unfolding_all exact rfl); (case k2 => with_unfolding_all exact rfl)))
local macro_rules | `(tactic| walk_at "call ref") => `(tactic| (k_here; (with_reducible show wpAny _ _ (call (Value.ref 21) _ _) _ _ _); k_dflt (refine' Mine.check_spec ?kB ?kF ?kX ?kN ?kT ?kK ?h0 ?h1 ?h2 ?h3 ?h4 ?h5 ?kd ?ku ?_); (case kB => k_asm); (case kF => k_asm); (case kX => k_asm); (case kN => k_asm); (case kT => k_asm); (case kK => first | exact rfl | assumption); (case h0 => kcf_m); (case h1 => assumption); (case h2 => omega); (case h3 => kcf_m); (case h4 => assumption); (case h5 => omega); (case kd => ktr_room); (case ku => ktr_units); intro h' tk' F' N'; (try dsimp only); (try k_fold)))
local macro_rules | `(tactic| walk_at "call ref") => `(tactic| (k_here; (with_reducible show wpAny _ _ (call (Value.ref 28) _ _) _ _ _); k_dflt (refine' Mine.init_spec ?kB ?kF ?kX ?kN ?kT ?kK ?h0 ?h1 ?h2 ?h3 ?kd ?ku ?_); (case kB => k_asm); (case kF => k_asm); (case kX => k_asm); (case kN => k_asm); (case kT => k_asm); (case kK => first | exact rfl | assumption); (case h0 => omega); (case h1 => omega); (case h2 => omega); (case h3 => omega); (case kd => ktr_room); (case ku => ktr_units); intro lv' as' Vs' ne' h' tk' hM' F' N'; (try dsimp only); (try k_fold)))
local macro_rules | `(tactic| walk_at "call builtin:len") => `(tactic| (k_here; (with_reducible show wpAny _ _ (call (Value.builtin "len") [Value.ref _]) _ _ _); k_dflt (refine' Mine.len_led ?k0 ?k1 ?k2 ?k3 ?_; (case k0 => k_asm); (case k1 => kcf_m); (case k2 => assumption); (case k3 => omega)); (try dsimp only); (try k_fold)))
namespace Mine
theorem align_spec {w : World} {p : Program} {loose : List Str} {mean : ExcName → Option Value} {mg mb : Str → Option Value} {dp un : Nat} {gd : Option (List Code)} {cn : Str} {cs : Scope} {a : Addr} {ccd : Value} {cl : List (Str × Addr)} {outer : List Env} {A₀ : Around} {base h₀ : Heap} {L : Addr} {m : Str → Option Value} {s : Shared} {Q E : Value → Shared → Prop}
  {l1 : Addr} {v1 : List Value} {n1 : Nat} {x1 : List Int}{l2 : Addr} {v2 : List Value} {n2 : Nat} {x2 : List Int}{c : Int} {tc : Tok} {news : List (Addr × Obj)}
  (B : Below A₀ base outer h₀) (F : Fr h₀ L s.heap m) (X : (hd.heap_39 w.params).In h₀) (N : News h₀ L s.heap news) (T : Top p loose mean mg mb h₀) (hk : cs.kind = .function)
  (hl1 : (l1, listOf v1.toArray n1) ∈ news) (hi1 : IntsAre v1 x1) (hb1 : x1.length ≤ 400)(hl2 : (l2, listOf v2.toArray n2) ∈ news) (hi2 : IntsAre v2 x2) (hb2 : x2.length ≤ 400)(h52 : (52, tabObj #[]) ∈ news) (hl15 : l1 ≠ 52) (hl25 : l2 ≠ 52) (hcode : CodeHd base 56 52)
  (hdp : dp + 3 < recursionLimit) (hun : un + 400 < cLine)
  (hret : ∀ (D : Addr) (vs : List Value) (ep : Nat) (ps : Array Value) (led : List (Addr × Obj)) (h' : Heap) (tk' : Nat), DatAll led vs ((alignV c x1 x2 (fillMat c x1 x2 x1.length)).map tupD) → (52, tabObj ps) ∈ led → (∀ p ∈ news, p.1 ≠ 52 → p ∈ led) → Fr h₀ L h' m → News h₀ L h' ((D, listOf vs.toArray ep) :: led) → Q (.ref D) { s with heap := h', toks := tk' }) :
  wpAny (model PySem.Challenge.rw_fe5012_01.row.prog w) (ktrTop dp un gd cn cs L a ccd cl outer) (call (.ref 65) [.ref l1, .ref l2, .int c tc] []) Q E s := by
  w_top off
  refine wpAny_call ?_
  k_dflt keq_hits
  k_steps
  refine stop_in ?_
  rename IsRange _ _ _ _ _ _ _ _ => rgX
  rename Fr _ _ _ _ => lF
  rename News _ _ _ _ => lN
  rename MatOk _ _ _ _ _ => hM
  obtain ⟨lv, ne, as, Vs, rfl, rfl, rfl, rfl⟩ := names_mat lN
  rw [show ((x1.length : Int) + 1).toNat = x1.length + 1 by omega, show ((x2.length : Int) + 1).toNat = x2.length + 1 by omega] at hM
  refine loop_range (σ := List (List Value)) (n := x1.length) (fun _ => []) [Str.ofString "j"]
    (fun k q nx => nx = matLed lv ne as q news ∧ MatOk lv as q (fillMat c x1 x2 k) news) Vs rfl rgX (small_one (by omega) (by omega) (by omega) (by omega)) (by rw [rangeSize_nat]; omega) lF lN
    _ (fun _ h => h) (fun _ h => nomatch h) ⟨rfl, hM⟩ ?_ ?_
  · rintro k z Vs nx t u h tk own hkn hz hoff ⟨rfl, hM⟩ F₁ N₁
    dsimp only at hM F₁ N₁ hoff ⊢
    have hsh := fillMat_shape c x1 x2 k (by omega)
    have hl0 : as.length = x1.length + 1 := by rw [hM.len, hM.lenM, hsh.1]
    have hl0' : Vs.length = x1.length + 1 := by rw [hM.lenM, hsh.1]
    obtain ⟨ra, ha1⟩ : ∃ ra, as[k]? = some ra := ⟨_, List.getElem?_eq_getElem (by omega)⟩
    obtain ⟨rb, ha2⟩ : ∃ rb, as[k + 1]? = some rb := ⟨_, List.getElem?_eq_getElem (by omega)⟩
    obtain ⟨va, hv1⟩ : ∃ va, Vs[k]? = some va := ⟨_, List.getElem?_eq_getElem (by omega)⟩
    obtain ⟨vb, hv2⟩ : ∃ vb, Vs[k + 1]? = some vb := ⟨_, List.getElem?_eq_getElem (by omega)⟩
    obtain ⟨hrow1, hla⟩ := hsh.row (i := k) (by omega)
    obtain ⟨hrow2, hlb⟩ := hsh.row (i := k + 1) (by omega)
    have hza := hM.iv _ va _ hv1 hrow1
    have hzb := hM.iv _ vb _ hv2 hrow2
    generalize hgza : (fillMat c x1 x2 k).getD k [] = za at hrow1 hla hza
    generalize hgzb : (fillMat c x1 x2 k).getD (k + 1) [] = zb at hrow2 hlb hzb
    obtain ⟨rest, N₃, hne, hin⟩ := mat_open N₁ ha2 hv2
    clear N₁
    have hob : ∀ p ∈ own, p.1 ≠ rb := OwnOff.as hoff hM.len ha2
    have hlv : (lv, listOf (as.map Value.ref).toArray ne) ∈ rest := hin _ (List.mem_append_left _ (.head _)) (hM.key_ne ha2).2
    have hra : (ra, listOf va.toArray 0) ∈ rest := hin _ (List.mem_append_left _ (List.mem_cons_of_mem _ (List.mem_append_left _ (rowsLed_mem ha1 hv1)))) (nodup_ne hM.nd ha1 ha2 (by omega))
    have hl1r : (l1, listOf v1.toArray n1) ∈ rest := hin _ (List.mem_append_left _ (List.mem_cons_of_mem _ (List.mem_append_right _ hl1))) ((hM.key_ne ha2).1 _ hl1)
    have hl2r : (l2, listOf v2.toArray n2) ∈ rest := hin _ (List.mem_append_left _ (List.mem_cons_of_mem _ (List.mem_append_right _ hl2))) ((hM.key_ne ha2).1 _ hl2)
    have hor : ∀ p ∈ own, p ∈ rest := fun p hp => hin p (List.mem_append_right _ hp) (hob p hp)
    have hit1 : (as.map Value.ref)[(z + 1 - 1).toNat]? = some (.ref ra) := by rw [show (z + 1 - 1).toNat = k by omega]; exact map_ref_at ha1
    have hit2 : (as.map Value.ref)[(z + 1).toNat]? = some (.ref rb) := by rw [show (z + 1).toNat = k + 1 by omega]; exact map_ref_at ha2
    have ez : (z + 1 - 1).toNat = k := by omega
    k_steps
    refine stop_in ?_
    rename IsRange _ _ _ _ _ _ _ _ => rgY
    rename Fr _ _ _ _ => lF2
    rename News _ _ _ _ => lN2
    refine' loop_range (σ := List Value) (n := x2.length) (fun _ => []) []
      (fun j q nx => nx = (rb, listOf q.toArray 0) :: rest ∧ IntsAre q (fillRow c (x1.getD k 0) x2 za zb j)) vb rfl rgY (small_one (by omega) (by omega) (by omega) (by omega)) (by rw [rangeSize_nat]; omega) lF2 lN2
      _ (fun _ h => h) (fun _ h => nomatch h) ⟨rfl, hzb⟩ ?turn ?done
    case turn =>
      rintro j y vs nx t2 u2 h2 tk2 own2 hjn hy hoff2 ⟨rfl, hzs⟩ F₂ N₃'
      dsimp only at hzs F₂ N₃' hoff2 ⊢
      simp only [List.cons_append] at N₃'
      have hob2 : ∀ p ∈ own2, p.1 ≠ rb := fun p hp => hoff2 p hp _ (by simp)
      have hls : (fillRow c (x1.getD k 0) x2 za zb j).length = x2.length + 1 := by rw [fillRow_len]; exact hlb
      have ey : (y + 1 - 1).toNat = j := by omega
      have ey2 : (y + 1).toNat = j + 1 := by omega
      k_steps
      refine stop_in ?_
      k_dflt (refine' Mine.step_spec ?kB ?kF ?kX ?kN ?kT ?kK ?h0 ?h1 ?h2 ?h3 ?h4 ?h5 ?h6 ?h7 ?h8 ?h9 ?h10 ?h11 ?h12 ?h13 ?h14 ?h15 ?h16 ?h17 ?h18 ?kd ?ku ?_); (case kB => k_asm); (case kF => k_asm); (case kX => k_asm); (case kN => k_asm); (case kT => k_asm); (case kK => first | exact rfl | assumption); (case h0 => kcf_m); (case h1 => assumption); (case h2 => omega); (case h3 => kcf_m); (case h4 => assumption); (case h5 => omega); (case h6 => kcf_m); (case h11 => assumption); (case h12 => assumption); (case h7 => kcf_m); (case h8 => assumption); (case h9 => assumption); (case h10 => ((repeat' (first | assumption | exact List.forall_mem_nil _ | refine' List.forall_mem_cons.mpr (And.intro ?_ ?_) | refine' List.forall_mem_append.mpr (And.intro ?_ ?_) | k_ne)); done)); (case h13 => omega); (case h14 => omega); (case h15 => omega); (case h16 => omega); (case h17 => omega); (case h18 => omega); (case kd => ktr_room); (case ku => ktr_units)
      (intro t' h' tk' F' N'; (try dsimp only); (try k_fold))
      k_steps
      (
        rename News _ _ _ _ => lN3
        rw [ey2, ey, ez] at lN3
        refine' gs_end (vs.set (j + 1) _) ((rb, _) :: rest) (by assumption) lN3 ?h1 ?h2 ?h3 (fun _ h => nomatch h) (by (intro z h1 h2 h3; (try (have h2' := h2 _ (List.Mem.head _); dsimp only at h2')); (try (simp only [List.contains_cons, List.contains_nil, Bool.or_false, Bool.or_eq_false_iff, beq_eq_false_iff_ne, ne_eq] at h3)); first | rfl | (simp [kstB, h1, h3]; done) | (simp [kstB, h1, h2', h3]; done) | (simp [kstB, h1]; done))) ⟨rfl, ints_set hzs _⟩
        case h1 =>
          intro p hp
          rcases List.mem_cons.mp hp with rfl | hp
          · exact .head _
          · exact .tail _ (List.mem_append_left _ hp)
        case h2 => exact fun p hp => .tail _ (List.mem_append_right _ hp)
        case h3 => exact hoff2)
    case done =>
      rintro vs nx u2 h2 tk2 ⟨rfl, hzs⟩ F₂ N₄
      dsimp only at hzs F₂ N₄ ⊢
      k_steps
      rename News _ _ _ _ => lN4
      have hM2 : MatOk lv as (Vs.set (k + 1) vs) (fillMat c x1 x2 (k + 1)) news := by
        show MatOk lv as (Vs.set (k + 1) vs) ((fillMat c x1 x2 k).set (k + 1) (fillRow c (x1.getD k 0) x2 ((fillMat c x1 x2 k).getD k []) ((fillMat c x1 x2 k).getD (k + 1) []) x2.length)) news
        rw [hgza, hgzb]
        exact hM.put hzs
      refine' gs_end (Vs.set (k + 1) vs) (matLed lv ne as (Vs.set (k + 1) vs) news) (by assumption) lN4 ?h1 ?h2 ?h3 (fun _ h => nomatch h) (by (intro z h1 h2 h3; (try (have h2' := h2 _ (List.Mem.head _); dsimp only at h2')); (try (simp only [List.contains_cons, List.contains_nil, Bool.or_false, Bool.or_eq_false_iff, beq_eq_false_iff_ne, ne_eq] at h3)); first | rfl | (simp [kstB, h1, h3]; done) | (simp [kstB, h1, h2', h3]; done) | (simp [kstB, h1]; done))) ⟨rfl, hM2⟩
      case h1 => exact fun p hp => mat_close hM ha2 hin vs p hp
      case h2 => exact fun p hp => .tail _ (hor p hp)
      case h3 =>
        intro p hp b hb
        exact hoff p hp b (by rw [matLed_keys (Vs' := Vs.set (k + 1) vs) (nl' := ne) (by simp)]; exact hb)
  · rintro Vs nx u h tk ⟨rfl, hM⟩ F₁ N₁
    dsimp only at hM F₁ N₁ ⊢
    have hsh := fillMat_shape c x1 x2 x1.length (Nat.le_refl _)
    have hl0 : as.length = x1.length + 1 := by rw [hM.len, hM.lenM, hsh.1]
    have hl0' : Vs.length = x1.length + 1 := by rw [hM.lenM, hsh.1]
    obtain ⟨rest, N₂, hne, hin⟩ := front N₁ (List.mem_cons_of_mem _ (List.mem_append_right _ h52))
    have hk5 : ∀ (i : Nat) (a : Addr), as[i]? = some a → a ≠ 52 := fun i a ha => Ne.symm ((hM.key_ne ha).1 _ h52)
    have hlv5 : lv ≠ 52 := hM.lv_ne _ h52
    clear N₁
    k_steps
    refine stop_in ?_
    rename News _ _ _ _ => lN5
    rename Fr _ _ _ _ => lF5
    rename Below _ _ _ _ => lB5
    refine back_spec (n1 := n1) (n2 := n2) (as := as) (Vs := Vs) (ne := ne) (x1 := x1) (x2 := x2) (M := fillMat c x1 x2 x1.length) (news := rest) lB5 lF5 (by assumption) lN5 (by assumption) rfl ?l1 hi1 hb1 ?l2 hi2 hb2 hne hcode ?lv ?rows ?iv ?ln hl0 hl0' ?m0 ?m1 ?kd ?ku ?_
    case l1 => exact hin _ (List.mem_cons_of_mem _ (List.mem_append_right _ hl1)) hl15
    case l2 => exact hin _ (List.mem_cons_of_mem _ (List.mem_append_right _ hl2)) hl25
    case lv => exact hin _ (.head _) hlv5
    case rows => exact fun i a v ha hv => hin _ (List.mem_cons_of_mem _ (List.mem_append_left _ (rowsLed_mem ha hv))) (hk5 i a ha)
    case iv =>
      intro i v hv
      have hi : i < x1.length + 1 := by have := (List.getElem?_eq_some_iff.mp hv).1; omega
      exact hM.iv _ v _ hv (hsh.row hi).1
    case ln =>
      intro i v hv
      have hi : i < x1.length + 1 := by have := (List.getElem?_eq_some_iff.mp hv).1; omega
      exact (hsh.row hi).2
    case m0 => exact fun j hj => edge_row c x1 x2 hb1 hb2 j hj
    case m1 => exact fun i hi => edge_col c x1 x2 hb1 hb2 i hi
    case kd => ktr_room
    case ku => ktr_units
    · intro D vs ep ps led h9 tk9 hda h52f hsub F9 N9
      clear lN5 lF5
      k_steps
      rename News h₀ L _ _ => kN
      rename Fr h₀ L _ _ => kF
      exact hret D vs ep ps led _ _ hda h52f (fun p hp hp5 => hsub _ (hin _ (List.mem_cons_of_mem _ (List.mem_append_right _ hp)) hp5)) kF kN

end Mine

end SEAlign0
section SERun0
local macro_rules | `(tactic| walk_at "zz") => `(tactic| fail)
local macro_rules | `(tactic| walk_at "zz") => `(tactic| fail)
local macro_rules | `(tactic| ke_room) => `(tactic| ktr_units)
local macro_rules | `(tactic| units_room) => `(tactic| ktr_units)
local macro_rules | `(tactic| k_room) => `(tactic| ktr_room)
local macro_rules | `(tactic| walk_at "exec For") => `(tactic| (k_here; (rename Fr _ _ _ _ => lF'); (with_unfolding_all refine' Mine.for_stop lF' ?k1 ?k2 ?_); (case k1 => with_unfolding_all exact rfl); (case k2 => with_unfolding_all exact rfl)))
local macro_rules | `(tactic| walk_at "exec For Name Call cons nil") => `(tactic| (k_here; (rename Fr _ _ _ _ => lF'); (with_unfolding_all refine' Mine.for_stop lF' ?k1 ?k2 ?_); (case k1 => with_unfolding_all exact rfl); (case k2 => with_unfolding_all exact rfl)))
local macro_rules | `(tactic| walk_at "exec For Name Name cons nil") => `(tactic| (k_here; (rename Fr _ _ _ _ => lF'); (with_unfolding_all refine' Mine.for_stop lF' ?k1 ?k2 ?_); (case k1 => with_unfolding_all exact rfl); (case k2 => with_unfolding_all exact rfl)))
local macro_rules | `(tactic| walk_at "exec While") => `(tactic| (k_here; (refine Mine.while_stop ?_)))
local macro_rules | `(tactic| walk_at "exec While BoolOp") => `(tactic| (k_here; (refine Mine.while_stop ?_)))
local macro_rules | `(tactic| walk_at "exec While Compare") => `(tactic| (k_here; (refine Mine.while_stop ?_)))
local macro_rules | `(tactic| walk_at "exec While Compare cons nil") => `(tactic| (k_here; (refine Mine.while_stop ?_)))
local macro_rules | `(tactic| walk_at "exec While BoolOp cons nil") => `(tactic| (k_here; (refine Mine.while_stop ?_)))
local macro_rules | `(tactic| walk_at "call builtin:len") => `(tactic| (k_here; (with_reducible show wpAny _ _ (call (Value.builtin "len") [Value.ref _]) _ _ _); k_dflt (refine' Mine.len_led ?k0 ?k1 ?k2 ?k3 ?_; (case k0 => k_asm); (case k1 => kcf_m); (case k2 => assumption); (case k3 => omega)); (try dsimp only); (try k_fold)))
namespace Mine
def runN (xs : List Int) : Nat → Nat
  | 0 => 0
  | k + 1 => if xs.getD k 0 = xs.getD (k + 1) 0 then runN xs k else k + 1
theorem run_spec {w : World} {p : Program} {loose : List Str} {mean : ExcName → Option Value} {mg mb : Str → Option Value} {dp un : Nat} {gd : Option (List Code)} {cn : Str} {cs : Scope} {a : Addr} {ccd : Value} {cl : List (Str × Addr)} {outer : List Env} {A₀ : Around} {base h₀ : Heap} {L : Addr} {m : Str → Option Value} {s : Shared} {Q E : Value → Shared → Prop}
  {l1 : Addr} {v1 : List Value} {n1 : Nat} {x1 : List Int}{i : Nat} {ti : Tok} {news : List (Addr × Obj)}
  (B : Below A₀ base outer h₀) (F : Fr h₀ L s.heap m) (X : (hd.heap_39 w.params).In h₀) (N : News h₀ L s.heap news) (T : Top p loose mean mg mb h₀) (hk : cs.kind = .function)
  (hl1 : (l1, listOf v1.toArray n1) ∈ news) (hi1 : IntsAre v1 x1) (hb1 : x1.length ≤ 400) (hil : i < x1.length)
  (hdp : dp + 1 < recursionLimit) (hun : un + 100 < cLine)
  (hret : ∀ (t : Tok) (h' : Heap) (tk' : Nat), Fr h₀ L h' m → News h₀ L h' news → Q (.int (runN x1 i : Nat) t) { s with heap := h', toks := tk' }) :
  wpAny (model PySem.Challenge.rw_fe5012_01.row.prog w) (ktrTop dp un gd cn cs L a ccd cl outer) (call (.ref 89) [.ref l1, .int (i : Int) ti] []) Q E s := by
  w_top off
  refine wpAny_call ?_
  k_dflt keq_hits
  k_steps
  refine stop_in ?_
  rename Fr _ _ _ _ => lF
  rename News _ _ _ _ => lN
  refine' loop_while (σ := Nat × Tok) (fun q => [(Str.ofString "at", Value.int (q.1 : Int) q.2)]) []
    (fun q nx => nx = news ∧ runN x1 q.1 = runN x1 i ∧ q.1 ≤ i) (fun q => q.1) (i, ti) lF lN news (fun _ h => h) ?hk ⟨rfl, rfl, Nat.le_refl _⟩ ?turn
  case hk =>
    refine List.forall_mem_cons.mpr ⟨?_, List.forall_mem_nil _⟩
    with_unfolding_all rfl
  case turn =>
    rintro ⟨k, tk0⟩ nx u h tk ⟨rfl, hr, hki⟩ F₁ N₁
    dsimp only at hr hki F₁ N₁ ⊢
    clear lN lF
    k_steps
    · rename News _ _ _ _ => lNx
      rename Fr _ _ _ _ => lFx
      obtain ⟨k, rfl⟩ : ∃ k', k = k' + 1 := ⟨k - 1, by omega⟩
      rename x1.getD _ 0 = x1.getD _ 0 => hne
      rw [show ((k + 1 : Nat) : Int) - 1 = (k : Int) by omega] at lFx hne
      rw [Int.toNat_natCast, Int.toNat_natCast] at hne
      rw [runN, if_pos hne] at hr
      show WEnd _ _ _ _ _ _ _ _ _ _
      refine' wend (k, _) nx lFx lNx (fun _ h => h) (Nat.lt_succ_self _) ?hk ?hr ⟨rfl, hr, Nat.le_of_succ_le hki⟩
      case hk =>
        refine List.forall_mem_cons.mpr ⟨?_, List.forall_mem_nil _⟩
        with_unfolding_all rfl
      case hr => (intro z h2 h3; (try (have h2' := h2 _ (List.Mem.head _); dsimp only at h2')); (try (have h2'' := h2 _ (List.Mem.tail _ (List.Mem.head _)); dsimp only at h2'')); (try (simp only [List.contains_cons, List.contains_nil, Bool.or_false, Bool.or_eq_false_iff, beq_eq_false_iff_ne, ne_eq] at h3)); first | rfl | (simp [kstB, h3]; done) | (simp [kstB, h2', h3]; done) | (simp [kstB, h2', h2'', h3]; done))
    · rename News h₀ L _ _ => kN
      rename Fr h₀ L _ _ => kF
      obtain ⟨k, rfl⟩ : ∃ k', k = k' + 1 := ⟨k - 1, by omega⟩
      rename x1.getD _ 0 ≠ x1.getD _ 0 => hne
      rw [show ((k + 1 : Nat) : Int) - 1 = (k : Int) by omega, Int.toNat_natCast, Int.toNat_natCast] at hne
      have hq := hret tk0 h tk kF kN
      rw [← hr, runN, if_neg hne] at hq
      exact hq
    · rename News h₀ L _ _ => kN
      rename Fr h₀ L _ _ => kF
      obtain rfl : k = 0 := by omega
      have hq := hret tk0 h tk kF kN
      rw [← hr, runN] at hq
      exact hq

end Mine

end SERun0
section SENum0
local macro_rules | `(tactic| walk_at "zz") => `(tactic| fail)
local macro_rules | `(tactic| walk_at "zz") => `(tactic| fail)
local macro_rules | `(tactic| walk_at "zz") => `(tactic| fail)
local macro_rules | `(tactic| ke_room) => `(tactic| ktr_units)
local macro_rules | `(tactic| units_room) => `(tactic| ktr_units)
local macro_rules | `(tactic| k_room) => `(tactic| ktr_room)
local macro_rules | `(tactic| walk_at "exec For") => `(tactic| (k_here; (rename Fr _ _ _ _ => lF'); (with_unfolding_all refine' Mine.for_stop lF' ?k1 ?k2 ?_); (case k1 => with_unfolding_all exact rfl); (case k2 => with_unfolding_all exact rfl)))
local macro_rules | `(tactic| walk_at "exec For Name Call cons nil") => `(tactic| (k_here; (rename Fr _ _ _ _ => lF'); (with_unfolding_all refine' Mine.for_stop lF' ?k1 ?k2 ?_); (case k1 => with_unfolding_all exact rfl); (case k2 => with_unfolding_all exact rfl)))
local macro_rules | `(tactic| walk_at "exec For Name Name cons nil") => `(tactic| (k_here; (rename Fr _ _ _ _ => lF'); (with_unfolding_all refine' Mine.for_stop lF' ?k1 ?k2 ?_); (case k1 => with_unfolding_all exact rfl); (case k2 => with_unfolding_all exact rfl)))
local macro_rules | `(tactic| walk_at "exec While") => `(tactic| (k_here; (refine Mine.while_stop ?_)))
local macro_rules | `(tactic| walk_at "exec While BoolOp") => `(tactic| (k_here; (refine Mine.while_stop ?_)))
local macro_rules | `(tactic| walk_at "exec While Compare") => `(tactic| (k_here; (refine Mine.while_stop ?_)))
local macro_rules | `(tactic| walk_at "exec While Compare cons nil") => `(tactic| (k_here; (refine Mine.while_stop ?_)))
local macro_rules | `(tactic| walk_at "exec While BoolOp cons nil") => `(tactic| (k_here; (refine Mine.while_stop ?_)))
local macro_rules | `(tactic| walk_at "call builtin:len") => `(tactic| (k_here; (with_reducible show wpAny _ _ (call (Value.builtin "len") [Value.ref _]) _ _ _); k_dflt (refine' Mine.len_led ?k0 ?k1 ?k2 ?k3 ?_; (case k0 => k_asm); (case k1 => kcf_m); (case k2 => assumption); (case k3 => omega)); (try dsimp only); (try k_fold)))
local macro_rules | `(tactic| k_made) => `(tactic| ((with_reducible rename NewPlain _ _ _ _ => npX); (obtain ⟨nX, NX⟩ := made_enters npX (by assumption) (by assumption) (by assumption)); (have npY := Mine.apart_of npX); clear npX; (try (have iX := CarriedAll.intsOf (by assumption)))))
namespace Mine
structure NSt where
  vs : List Value
  ys : List Int
  ep : Nat
  last : Int
  tl : Tok
  f : Nat
theorem filter_true {α : Type} (l : List α) : l.filter (fun _ => true) = l := by simp
theorem names_num {h₀ h : Heap} {L D D2 : Addr} {ws ws2 : List Value} {ep n2 : Nat} {r : List (Addr × Obj)} (_N : News h₀ L h ((D, listOf ws.toArray ep) :: (D2, listOf ws2.toArray n2) :: r)) : ∃ a b c d e, a = D ∧ b = ws ∧ c = ep ∧ d = D2 ∧ e = ws2 := ⟨_, _, _, _, _, rfl, rfl, rfl, rfl, rfl⟩
theorem numbers_spec {w : World} {p : Program} {loose : List Str} {mean : ExcName → Option Value} {mg mb : Str → Option Value} {dp un : Nat} {gd : Option (List Code)} {cn : Str} {cs : Scope} {a : Addr} {ccd : Value} {cl : List (Str × Addr)} {outer : List Env} {A₀ : Around} {base h₀ : Heap} {L : Addr} {m : Str → Option Value} {s : Shared} {Q E : Value → Shared → Prop}
  {l1 : Addr} {v1 : List Value} {x1 : List Int}{ti : Tok} {news : List (Addr × Obj)}
  (B : Below A₀ base outer h₀) (F : Fr h₀ L s.heap m) (X : (hd.heap_39 w.params).In h₀) (N : News h₀ L s.heap news) (T : Top p loose mean mg mb h₀) (hk : cs.kind = .function)
  (hl1 : base.IsList l1 v1.toArray) (hi1 : IntsAre v1 x1) (hb1 : x1.length ≤ 63)
  (hdp : dp + 2 < recursionLimit) (hun : un + 200 < cLine)
  (hret : ∀ (D : Addr) (vs : List Value) (ep : Nat) (ys : List Int) (h' : Heap) (tk' : Nat), IntsAre vs ys → ys.length = 7 → Fr h₀ L h' m → News h₀ L h' ((D, listOf vs.toArray ep) :: news) → Q (.ref D) { s with heap := h', toks := tk' }) :
  wpAny (model PySem.Challenge.rw_fe5012_01.row.prog w) (ktrTop dp un gd cn cs L a ccd cl outer) (call (.ref 70) [.ref l1, .int 7 ti] []) Q E s := by
  w_top off
  refine wpAny_call ?_
  k_dflt keq_hits
  k_steps
  refine stop_in ?_
  rename Fr _ _ _ _ => lF
  rename News _ _ _ _ => lN
  rename List.length (List.take 7 x1) = _ => hC
  rename Apart _ _ => lne
  rename IntsAre _ (List.map (fun a => a) _) => iX
  obtain ⟨D, ws, ep, D2, ws2, rfl, rfl, rfl, rfl, rfl⟩ := names_num lN
  rw [filter_true, List.map_id'] at iX
  refine' loop_while (σ := NSt) (fun q => [(Str.ofString "last", Value.int q.last q.tl)]) []
    (fun q nx => nx = (D, listOf q.vs.toArray q.ep) :: news ∧ IntsAre q.vs q.ys ∧ q.ys.length + q.f = 7) (fun q => q.f) ⟨ws, List.take 7 x1, ep, 7 + (x1.length : Int), _, 7 - (List.take 7 x1).length⟩ lF lN ((D, listOf ws.toArray ep) :: news) ?hn ?hk ?hg ?turn
  case hk =>
    refine List.forall_mem_cons.mpr ⟨?_, List.forall_mem_nil _⟩
    with_unfolding_all rfl
  case hn => ((repeat' (first | exact List.forall_mem_nil _ | refine List.forall_mem_cons.mpr (And.intro ?_ ?_) | refine List.forall_mem_append.mpr (And.intro ?_ ?_) | kcf_m | (intro p9 h9; kcf_m))); done)
  case hg => exact ⟨rfl, iX, by dsimp only; omega⟩
  case turn =>
    rintro ⟨vs, ys, ep, last, tl, f⟩ nx u h tk ⟨rfl, hi, hlf⟩ F₁ N₁
    dsimp only at hi hlf F₁ N₁ ⊢
    clear lN lF
    have hDn : ∀ p ∈ news, p.1 ≠ D := fun p hp => lne p (.tail _ hp)
    have hvl : vs.length ≤ 1000 := by rw [hi.length]; omega
    k_steps
    · rename News _ _ _ _ => lNx
      rename Fr _ _ _ _ => lFx
      obtain ⟨f, rfl⟩ : ∃ f', f = f' + 1 := ⟨f - 1, by omega⟩
      rw [List.push_toArray] at lNx
      show WEnd _ _ _ _ _ _ _ _ _ _
      refine' wend ⟨_, _, ep + 1, _, _, f⟩ _ lFx lNx (fun _ h => h) (Nat.lt_succ_self _) ?hk ?hr ⟨rfl, IntsAre.append hi (.cons _ _ .nil), ?hl⟩
      case hk =>
        refine List.forall_mem_cons.mpr ⟨?_, List.forall_mem_nil _⟩
        with_unfolding_all rfl
      case hr => (intro z h2 h3; (try (have h2' := h2 _ (List.Mem.head _); dsimp only at h2')); (try (have h2'' := h2 _ (List.Mem.tail _ (List.Mem.head _)); dsimp only at h2'')); (try (simp only [List.contains_cons, List.contains_nil, Bool.or_false, Bool.or_eq_false_iff, beq_eq_false_iff_ne, ne_eq] at h3)); first | rfl | (simp [kstB, h3]; done) | (simp [kstB, h2', h3]; done) | (simp [kstB, h2', h2'', h3]; done))
      case hl => rw [List.length_append]; simp only [List.length_cons, List.length_nil]; omega
    · rename News h₀ L _ _ => kN
      rename Fr h₀ L _ _ => kF
      exact hret D vs ep ys h tk hi (by omega) kF kN

end Mine

end SENum0
section SR70
open PySem PySem.W PyProof.Rows PySem.Calls
namespace Mine
def goAt (ls : List Int) (j : Int) : Nat → Nat → Nat
  | 0, a => a
  | f + 1, a => if a < ls.length ∧ ls.getD a 0 < j then goAt ls j f (a + 1) else a
def putAt (ls : List Int) (j : Nat) : List Int := ls.take (goAt ls j ls.length 0) ++ [(j : Int)] ++ ls.drop (goAt ls j ls.length 0 + 1)
def stayRow (two : List Int) (x : Int) (ls : List Int) : Nat → List Int
  | 0 => ls
  | k + 1 => if two.getD (two.length - 1 - k) 0 = x then putAt (stayRow two x ls k) (two.length - 1 - k) else stayRow two x ls k
def stayFold (one two : List Int) : Nat → List Int
  | 0 => []
  | k + 1 => stayRow two (one.getD k 0) (stayFold one two k) two.length
def stayN (one two : List Int) : Nat := (stayFold one two one.length).length
theorem goAt_le (ls : List Int) (j : Int) : ∀ f a, a ≤ ls.length → goAt ls j f a ≤ ls.length
  | 0, _, h => h
  | f + 1, a, h => by
    rw [goAt]
    split
    · rename_i hc
      exact goAt_le ls j f (a + 1) hc.1
    · exact h
theorem putAt_len (ls : List Int) (j : Nat) : (putAt ls j).length ≤ ls.length + 1 := by
  have := goAt_le ls j ls.length 0 (Nat.zero_le _)
  rw [putAt, List.length_append, List.length_append, List.length_take, List.length_drop]
  simp only [List.length_cons, List.length_nil]
  omega
theorem stayRow_len (two : List Int) (x : Int) (ls : List Int) : ∀ k, (stayRow two x ls k).length ≤ ls.length + k
  | 0 => Nat.le_refl _
  | k + 1 => by
    have := stayRow_len two x ls k
    rw [stayRow]
    split
    · have := putAt_len (stayRow two x ls k) (two.length - 1 - k)
      omega
    · omega
theorem stayFold_len (one two : List Int) : ∀ k, (stayFold one two k).length ≤ k * two.length
  | 0 => Nat.zero_le _
  | k + 1 => by
    have h1 := stayFold_len one two k
    have h2 := stayRow_len two (one.getD k 0) (stayFold one two k) two.length
    rw [stayFold, Nat.succ_mul]
    omega
structure SSt where
  D : Addr
  vs : List Value
  ep : Nat
theorem size_down (n : Nat) : Builtin.Range.rangeSize ((n : Int) - 1) (-1) (-1) = (n : Int) := by
  unfold Builtin.Range.rangeSize
  simp only [show ¬ ((-1 : Int) > 0) by decide, if_false, show (-(-1) : Int) = 1 from rfl, Int.ediv_one]
  split <;> omega
theorem small_dn {n : Nat} (h : n ≤ 400) : Builtin.Range.small ((n : Int) - 1) (-1) (-1) = true := small_down (by omega) (by omega) (by omega) (by omega)
theorem names_one {h₀ h : Heap} {L D : Addr} {vs : List Value} {ep : Nat} {r : List (Addr × Obj)} (_N : News h₀ L h ((D, listOf vs.toArray ep) :: r)) : ∃ a b c, a = D ∧ b = vs ∧ c = ep := ⟨_, _, _, rfl, rfl, rfl⟩
end Mine
namespace Mine
theorem goAt_step {ls : List Int} {j : Int} {a : Nat} (h1 : a < ls.length) (h2 : ls.getD a 0 < j) : goAt ls j (ls.length - a) a = goAt ls j (ls.length - (a + 1)) (a + 1) := by
  obtain ⟨f, hf⟩ : ∃ f, ls.length - a = f + 1 := ⟨ls.length - a - 1, by omega⟩
  rw [hf, goAt, if_pos ⟨h1, h2⟩]
  congr 1
  omega
theorem goAt_stop {ls : List Int} {j : Int} {a : Nat} (h : ¬ (a < ls.length ∧ ls.getD a 0 < j)) : ∀ f, goAt ls j f a = a
  | 0 => rfl
  | f + 1 => by rw [goAt, if_neg h]
theorem put_of {ls : List Int} {j a : Nat} (hgo : goAt ls j (ls.length - a) a = goAt ls j ls.length 0) (h : ¬ (a < ls.length ∧ ls.getD a 0 < (j : Int))) : putAt ls j = ls.take a ++ [(j : Int)] ++ ls.drop (a + 1) := by
  rw [goAt_stop h] at hgo
  rw [putAt, ← hgo]
end Mine

end SR70
section SEStay0
local macro_rules | `(tactic| walk_at "zz") => `(tactic| fail)
local macro_rules | `(tactic| walk_at "zz") => `(tactic| fail)
local macro_rules | `(tactic| walk_at "zz") => `(tactic| fail)
local macro_rules | `(tactic| walk_at "zz") => `(tactic| fail)
local macro_rules | `(tactic| ke_room) => `(tactic| ktr_units)
local macro_rules | `(tactic| units_room) => `(tactic| ktr_units)
local macro_rules | `(tactic| k_room) => `(tactic| ktr_room)
local macro_rules | `(tactic| walk_at "exec For") => `(tactic| (k_here; (rename Fr _ _ _ _ => lF'); (with_unfolding_all refine' Mine.for_stop lF' ?k1 ?k2 ?_); (case k1 => with_unfolding_all exact rfl); (case k2 => with_unfolding_all exact rfl)))
local macro_rules | `(tactic| walk_at "exec For Name Call cons nil") => `(tactic| (k_here; (rename Fr _ _ _ _ => lF'); (with_unfolding_all refine' Mine.for_stop lF' ?k1 ?k2 ?_); (case k1 => with_unfolding_all exact rfl); (case k2 => with_unfolding_all exact rfl)))
local macro_rules | `(tactic| walk_at "exec For Name Name cons nil") => `(tactic| (k_here; (rename Fr _ _ _ _ => lF'); (with_unfolding_all refine' Mine.for_stop lF' ?k1 ?k2 ?_); (case k1 => with_unfolding_all exact rfl); (case k2 => with_unfolding_all exact rfl)))
local macro_rules | `(tactic| walk_at "exec While") => `(tactic| (k_here; (refine Mine.while_stop ?_)))
local macro_rules | `(tactic| walk_at "exec While BoolOp") => `(tactic| (k_here; (refine Mine.while_stop ?_)))
local macro_rules | `(tactic| walk_at "exec While Compare") => `(tactic| (k_here; (refine Mine.while_stop ?_)))
local macro_rules | `(tactic| walk_at "exec While Compare cons nil") => `(tactic| (k_here; (refine Mine.while_stop ?_)))
local macro_rules | `(tactic| walk_at "exec While BoolOp cons nil") => `(tactic| (k_here; (refine Mine.while_stop ?_)))
local macro_rules | `(tactic| walk_at "call builtin:len") => `(tactic| (k_here; (with_reducible show wpAny _ _ (call (Value.builtin "len") [Value.ref _]) _ _ _); k_dflt (refine' Mine.len_led ?k0 ?k1 ?k2 ?k3 ?_; (case k0 => k_asm); (case k1 => kcf_m); (case k2 => assumption); (case k3 => omega)); (try dsimp only); (try k_fold)))
namespace Mine
theorem stay_spec {w : World} {p : Program} {loose : List Str} {mean : ExcName → Option Value} {mg mb : Str → Option Value} {dp un : Nat} {gd : Option (List Code)} {cn : Str} {cs : Scope} {a : Addr} {ccd : Value} {cl : List (Str × Addr)} {outer : List Env} {A₀ : Around} {base h₀ : Heap} {L : Addr} {m : Str → Option Value} {s : Shared} {Q E : Value → Shared → Prop}
  {l1 : Addr} {v1 : List Value} {n1 : Nat} {x1 : List Int}{l2 : Addr} {v2 : List Value} {n2 : Nat} {x2 : List Int}{news : List (Addr × Obj)}
  (B : Below A₀ base outer h₀) (F : Fr h₀ L s.heap m) (X : (hd.heap_39 w.params).In h₀) (N : News h₀ L s.heap news) (T : Top p loose mean mg mb h₀) (hk : cs.kind = .function)
  (hl1 : (l1, listOf v1.toArray n1) ∈ news) (hi1 : IntsAre v1 x1) (hb1 : x1.length ≤ 20)(hl2 : (l2, listOf v2.toArray n2) ∈ news) (hi2 : IntsAre v2 x2) (hb2 : x2.length ≤ 20)
  (hdp : dp + 2 < recursionLimit) (hun : un + 200 < cLine)
  (hret : ∀ (t : Tok) (h' : Heap) (tk' : Nat), Fr h₀ L h' m → News h₀ L h' news → Q (.int (stayN x1 x2 : Nat) t) { s with heap := h', toks := tk' }) :
  wpAny (model PySem.Challenge.rw_fe5012_01.row.prog w) (ktrTop dp un gd cn cs L a ccd cl outer) (call (.ref 82) [.ref l1, .ref l2] []) Q E s := by
  w_top off
  refine wpAny_call ?_
  k_dflt keq_hits
  k_steps
  refine stop_in ?_
  rename Fr _ _ _ _ => lF
  rename News _ _ _ _ => lN
  obtain ⟨D0, rfl, -⟩ := head_of lN
  rename ∀ p ∈ news, Prod.fst p < D0 => l0'
  refine' loop_list (σ := SSt) (vs := v1) (nn := n1) (fun q => [(Str.ofString "least", Value.ref q.D)]) [Str.ofString "j", Str.ofString "at"]
    (fun k q nx => nx = (q.D, listOf q.vs.toArray q.ep) :: news ∧ IntsAre q.vs (stayFold x1 x2 k) ∧ ∀ p ∈ news, p.1 ≠ q.D) ⟨D0, [], 0⟩ rfl _ (.tail _ hl1) lF lN (fun _ h => h) ?hk ⟨rfl, .nil, fun p hp => Nat.ne_of_lt (l0' p hp)⟩ ?turn ?done
  case hk =>
    refine List.forall_mem_cons.mpr ⟨?_, List.forall_mem_nil _⟩
    with_unfolding_all rfl
  case turn =>
    rintro k v ⟨D, vs, ep⟩ nx u h tk own hv hoff hl1' ⟨rfl, hi, hne⟩ F₁ N₁
    obtain ⟨tx, rfl⟩ := hi1.int_at _ _ hv
    dsimp only at hi hne F₁ N₁ hoff ⊢
    clear lF lN l0'
    have hkl : k < x1.length := by rw [← hi1.length]; exact (List.getElem?_eq_some_iff.mp hv).1
    have hsl := stayFold_len x1 x2 k
    have hsb : (stayFold x1 x2 k).length ≤ 400 := by
      have : k * x2.length ≤ 20 * 20 := Nat.mul_le_mul (by omega) (by omega)
      omega
    simp only [List.cons_append] at N₁
    have hob : ∀ p ∈ own, p.1 ≠ D := fun p hp => hoff p hp _ (by simp)
    have hl1b : (l1, listOf v1.toArray n1) ∈ news ++ own := List.mem_append_left _ hl1
    have hl2b : (l2, listOf v2.toArray n2) ∈ news ++ own := List.mem_append_left _ hl2
    have hne2 : ∀ p ∈ news ++ own, p.1 ≠ D := by
      intro p hp
      rcases List.mem_append.mp hp with hp | hp
      · exact hne p hp
      · exact hob p hp
    generalize hbg : news ++ own = big at N₁ hl1b hl2b hne2
    k_steps
    refine stop_in ?_
    rename IsRange _ _ _ _ _ _ _ _ => rgX
    rename Fr _ _ _ _ => lF2
    rename News _ _ _ _ => lN2
    refine' loop_range (σ := SSt) (n := x2.length) (fun q => [(Str.ofString "least", Value.ref q.D)]) [Str.ofString "at"]
      (fun j q nx => nx = (q.D, listOf q.vs.toArray q.ep) :: big ∧ IntsAre q.vs (stayRow x2 (x1.getD k 0) (stayFold x1 x2 k) j) ∧ ∀ p ∈ big, p.1 ≠ q.D) ⟨D, vs, ep⟩ rfl rgX (small_dn (by omega)) (size_down _) lF2 lN2
      _ (fun _ h => h) ?hk0 ⟨rfl, hi, hne2⟩ ?turn2 ?done2
    case hk0 =>
      refine List.forall_mem_cons.mpr ⟨?_, List.forall_mem_nil _⟩
      with_unfolding_all rfl
    case turn2 =>
      rintro j y ⟨D, vs, ep⟩ nx t2 u2 h2 tk2 own2 hjn hy hoff2 ⟨rfl, hi, hne⟩ F₂ N₂
      have hrl := stayRow_len x2 (x1.getD k 0) (stayFold x1 x2 k) j
      generalize hgl : stayRow x2 (x1.getD k 0) (stayFold x1 x2 k) j = ls at hi hrl
      have hrb : ls.length ≤ 1000 := by omega
      obtain rfl : y = ((x2.length - 1 - j : Nat) : Int) := by omega
      have hjj : x2.length - 1 - j < x2.length := by omega
      generalize hgj : x2.length - 1 - j = jj at hjj hy F₂
      dsimp only at hi hne F₂ N₂ hoff2 ⊢
      clear lF2 lN2
      simp only [List.cons_append] at N₂
      have hob2 : ∀ p ∈ own2, p.1 ≠ D := fun p hp => hoff2 p hp _ (by simp)
      have hlb1 : (l1, listOf v1.toArray n1) ∈ big ++ own2 := List.mem_append_left _ hl1b
      have hlb2 : (l2, listOf v2.toArray n2) ∈ big ++ own2 := List.mem_append_left _ hl2b
      k_steps
      · refine stop_in ?_
        rename Fr _ _ _ _ => lF3
        rename News _ _ _ _ => lN3
        refine' loop_while (σ := Nat × Tok) (fun q => [(Str.ofString "at", Value.int (q.1 : Int) q.2)]) []
          (fun q nx => nx = (D, listOf vs.toArray ep) :: (big ++ own2) ∧ q.1 ≤ ls.length ∧ goAt ls jj (ls.length - q.1) q.1 = goAt ls jj ls.length 0) (fun q => ls.length - q.1) (0, _) lF3 lN3 _ (fun _ h => h) ?hk3 ⟨rfl, Nat.zero_le _, rfl⟩ ?turn3
        case hk3 =>
          refine List.forall_mem_cons.mpr ⟨?_, List.forall_mem_nil _⟩
          with_unfolding_all rfl
        case turn3 =>
          rintro ⟨a, ta⟩ nx u3 h3 tk3 ⟨rfl, hal, hgo⟩ F₃ N₃
          dsimp only at hal hgo F₃ N₃ ⊢
          clear lF3 lN3
          k_steps
          · rename News _ _ _ _ => lNx
            rename Fr _ _ _ _ => lFx
            rename List.getD ls _ 0 < _ => hlt
            rw [Int.toNat_natCast] at hlt
            rw [show (a : Int) + 1 = ((a + 1 : Nat) : Int) by omega] at lFx
            show WEnd _ _ _ _ _ _ _ _ _ _
            refine' wend (a + 1, _) _ lFx lNx (fun _ h => h) ?hm ?hk4 ?hr4 ⟨rfl, by dsimp only; omega, (goAt_step (by omega) hlt).symm.trans hgo⟩
            case hm => dsimp only; omega
            case hk4 =>
              refine List.forall_mem_cons.mpr ⟨?_, List.forall_mem_nil _⟩
              with_unfolding_all rfl
            case hr4 => (intro z h2 h3; (try (have h2' := h2 _ (List.Mem.head _); dsimp only at h2')); (try (have h2'' := h2 _ (List.Mem.tail _ (List.Mem.head _)); dsimp only at h2'')); (try (simp only [List.contains_cons, List.contains_nil, Bool.or_false, Bool.or_eq_false_iff, beq_eq_false_iff_ne, ne_eq] at h3)); first | rfl | (simp [kstB, h3]; done) | (simp [kstB, h2', h3]; done) | (simp [kstB, h2', h2'', h3]; done))
          · rename News _ _ _ _ => lNx
            rename Fr _ _ _ _ => lFx
            obtain ⟨D9, ws9, -, rfl, rfl, -⟩ := names_one lNx
            rename IntsAre ws9 _ => hI9
            rename _ ∧ _ ∧ _ ∧ _ ∧ _ ∧ AllLt D9 (big ++ own2) => lz
            have lz' := allLt_iff.mp lz.2.2.2.2.2
            rw [Int.toNat_natCast, show ((a : Int) + 1).toNat = a + 1 by omega] at hI9
            rename x2.getD _ 0 = x1.getD _ 0 => hnq
            rw [Int.toNat_natCast] at hnq
            rename ¬ List.getD ls _ 0 < _ => hlt
            rw [Int.toNat_natCast] at hlt
            have hnot : ¬ (a < ls.length ∧ ls.getD a 0 < (jj : Int)) := fun q => hlt q.2
            refine' gs_end ⟨D9, ws9, 0⟩ ((D9, listOf ws9.toArray 0) :: big) lFx lNx ?h1 ?h2 ?h3 ?h4 (by (intro z h1 h2 h3; (try (have h2' := h2 _ (List.Mem.head _); dsimp only at h2')); (try (simp only [List.contains_cons, List.contains_nil, Bool.or_false, Bool.or_eq_false_iff, beq_eq_false_iff_ne, ne_eq] at h3)); first | rfl | (simp [kstB, h1, h3]; done) | (simp [kstB, h1, h2', h3]; done) | (simp [kstB, h1]; done))) ⟨rfl, ?h5, fun p hp => Nat.ne_of_lt (lz' p (List.mem_append_left _ hp))⟩
            case h1 => ((repeat' (first | exact List.forall_mem_nil _ | refine List.forall_mem_cons.mpr (And.intro ?_ ?_) | refine List.forall_mem_append.mpr (And.intro ?_ ?_) | kcf_m | (intro p9 h9; kcf_m))); done)
            case h2 => (intro p9 h9; kcf_m)
            case h3 =>
              intro p hp b hb
              rcases List.mem_cons.mp hb with rfl | hb
              · exact Nat.ne_of_lt (lz' p (List.mem_append_right _ hp))
              · exact hoff2 p hp b (.tail _ hb)
            case h4 =>
              refine List.forall_mem_cons.mpr ⟨?_, List.forall_mem_nil _⟩
              with_unfolding_all rfl
            case h5 =>
              rw [stayRow, hgj, if_pos hnq, hgl, put_of hgo hnot]
              exact hI9
          · rename News _ _ _ _ => lNx
            rename Fr _ _ _ _ => lFx
            obtain ⟨D9, ws9, -, rfl, rfl, -⟩ := names_one lNx
            rename IntsAre ws9 _ => hI9
            rename _ ∧ _ ∧ _ ∧ _ ∧ _ ∧ AllLt D9 (big ++ own2) => lz
            have lz' := allLt_iff.mp lz.2.2.2.2.2
            rw [Int.toNat_natCast, show ((a : Int) + 1).toNat = a + 1 by omega] at hI9
            rename x2.getD _ 0 = x1.getD _ 0 => hnq
            rw [Int.toNat_natCast] at hnq
            have hnot : ¬ (a < ls.length ∧ ls.getD a 0 < (jj : Int)) := fun q => absurd q.1 (by omega)
            refine' gs_end ⟨D9, ws9, 0⟩ ((D9, listOf ws9.toArray 0) :: big) lFx lNx ?h1 ?h2 ?h3 ?h4 (by (intro z h1 h2 h3; (try (have h2' := h2 _ (List.Mem.head _); dsimp only at h2')); (try (simp only [List.contains_cons, List.contains_nil, Bool.or_false, Bool.or_eq_false_iff, beq_eq_false_iff_ne, ne_eq] at h3)); first | rfl | (simp [kstB, h1, h3]; done) | (simp [kstB, h1, h2', h3]; done) | (simp [kstB, h1]; done))) ⟨rfl, ?h5, fun p hp => Nat.ne_of_lt (lz' p (List.mem_append_left _ hp))⟩
            case h1 => ((repeat' (first | exact List.forall_mem_nil _ | refine List.forall_mem_cons.mpr (And.intro ?_ ?_) | refine List.forall_mem_append.mpr (And.intro ?_ ?_) | kcf_m | (intro p9 h9; kcf_m))); done)
            case h2 => (intro p9 h9; kcf_m)
            case h3 =>
              intro p hp b hb
              rcases List.mem_cons.mp hb with rfl | hb
              · exact Nat.ne_of_lt (lz' p (List.mem_append_right _ hp))
              · exact hoff2 p hp b (.tail _ hb)
            case h4 =>
              refine List.forall_mem_cons.mpr ⟨?_, List.forall_mem_nil _⟩
              with_unfolding_all rfl
            case h5 =>
              rw [stayRow, hgj, if_pos hnq, hgl, put_of hgo hnot]
              exact hI9
      · rename News _ _ _ _ => lN3
        rename x2.getD _ 0 ≠ x1.getD _ 0 => hnq
        rw [Int.toNat_natCast] at hnq
        refine' gs_end ⟨D, vs, ep⟩ ((D, listOf vs.toArray ep) :: big) (by assumption) lN3 ?h1 ?h2 hoff2 ?h4 (by (intro z h1 h2 h3; (try (have h2' := h2 _ (List.Mem.head _); dsimp only at h2')); (try (simp only [List.contains_cons, List.contains_nil, Bool.or_false, Bool.or_eq_false_iff, beq_eq_false_iff_ne, ne_eq] at h3)); first | rfl | (simp [kstB, h1, h3]; done) | (simp [kstB, h1, h2', h3]; done) | (simp [kstB, h1]; done))) ⟨rfl, ?h5, hne⟩
        case h1 =>
          intro p hp
          rcases List.mem_cons.mp hp with rfl | hp
          · exact .head _
          · exact .tail _ (List.mem_append_left _ hp)
        case h2 => exact fun p hp => .tail _ (List.mem_append_right _ hp)
        case h4 =>
          refine List.forall_mem_cons.mpr ⟨?_, List.forall_mem_nil _⟩
          with_unfolding_all rfl
        case h5 =>
          rw [stayRow, hgj, if_neg hnq, hgl]
          exact hi
    case done2 =>
      rintro ⟨D, vs, ep⟩ nx u2 h2 tk2 ⟨rfl, hi, hne⟩ F₂ N₂
      dsimp only at hi hne F₂ N₂ ⊢
      clear lF2 lN2
      k_steps
      rename News _ _ _ _ => lN3
      subst hbg
      refine' gs_end ⟨D, vs, ep⟩ ((D, listOf vs.toArray ep) :: news) (by assumption) lN3 ?h1 ?h2 ?h3 ?h4 (by (intro z h1 h2 h3; (try (have h2' := h2 _ (List.Mem.head _); dsimp only at h2')); (try (simp only [List.contains_cons, List.contains_nil, Bool.or_false, Bool.or_eq_false_iff, beq_eq_false_iff_ne, ne_eq] at h3)); first | rfl | (simp [kstB, h1, h3]; done) | (simp [kstB, h1, h2', h3]; done) | (simp [kstB, h1]; done))) ⟨.tail _ hl1, rfl, hi, fun p hp => hne p (List.mem_append_left _ hp)⟩
      case h1 =>
        intro p hp
        rcases List.mem_cons.mp hp with rfl | hp
        · exact .head _
        · exact .tail _ (List.mem_append_left _ hp)
      case h2 => exact fun p hp => .tail _ (List.mem_append_right _ hp)
      case h3 =>
        intro p hp b hb
        rcases List.mem_cons.mp hb with rfl | hb
        · exact hne p (List.mem_append_right _ hp)
        · exact hoff p hp b (.tail _ hb)
      case h4 =>
        refine List.forall_mem_cons.mpr ⟨?_, List.forall_mem_nil _⟩
        with_unfolding_all rfl
  case done =>
    rintro ⟨D, vs, ep⟩ nx u h tk ⟨rfl, hi, hne⟩ F₁ N₁
    dsimp only at hi hne F₁ N₁ ⊢
    clear lF lN l0'
    have hsl := stayFold_len x1 x2 v1.length
    rw [hi1.length] at hsl hi
    have hsb : (stayFold x1 x2 x1.length).length ≤ 400 := by
      have : x1.length * x2.length ≤ 20 * 20 := Nat.mul_le_mul (by omega) (by omega)
      omega
    k_steps
    rename News h₀ L _ _ => kN
    rename Fr h₀ L _ _ => kF
    exact hret _ _ _ kF (fun p hp => kN p (.tail _ hp))

end Mine

end SEStay0
section SR80
open PySem PySem.W PyProof.Rows PySem.Calls PyProof.Rows.LCg PyProof.Rows.LCt
namespace Mine
def Seen (_ : Nat) : Prop := True
theorem cend_mono {h₀ : Heap} {L I C D : Addr} {m : Str → Option Value} {s₁ : Shared} {oI oC oD : Obj} {S : List (Addr × Obj) → Prop} {r r' : Value → List (Addr × Obj) → Prop} {y : Value} {s₂ : Shared} (hr : ∀ y n, r y n → r' y n)
    (x : CompEnd h₀ L m s₁ I oI C oC D oD S r y s₂) : CompEnd h₀ L m s₁ I oI C oC D oD S r' y s₂ := by
  obtain ⟨h', tk, news', e, F, N, o, hS, hr'⟩ := x
  exact ⟨h', tk, news', e, F, N, o, hS, hr _ _ hr'⟩
section
variable {prog : Program} {w : World} {A : Around} {s : Shared} {h₀ : Heap} {L : Addr} {m : Str → Option Value} {env : Env}
theorem rest_inv {elt : PySem.Expr} {x : Str} {scope : Scope} {cl : List (Str × Addr)} {S : List (Addr × Obj) → Prop} {P : Nat → Value → Prop} {Fin : List Value → List (Addr × Obj) → Prop} {n : Nat} (G : Nat → List Value → List (Addr × Obj) → Prop) {news : List (Addr × Obj)} (g0 : G 0 [] news)
    (turn : ∀ i ys news v I oI C oC D m₂ h tk (E' : Value → Shared → Prop), i < n → G i ys news → P i v → NsObj oC m₂ → m₂ x = some v → Fr h₀ L h m → News h₀ L h ((I, oI) :: (C, oC) :: (D, lst ys) :: news) → Off3 I C D news → ((@Ne Nat I C) ∧ (@Ne Nat I D) ∧ (@Ne Nat C D)) →
      wpAny (model prog w) A (eval elt (compEnvC scope cl C env)) (CompEnd h₀ L m { s with heap := h, toks := tk } I oI C oC D (lst ys) S (fun y news' => G (i + 1) (ys ++ [y]) news')) E' { s with heap := h, toks := tk })
    (fin : ∀ ys news, G n ys news → Fin ys news) : CompRest prog w A h₀ L m env elt x scope cl s S P Fin n 0 [] news := by
  have main : ∀ k i ys news, i + k = n → G i ys news → CompRest prog w A h₀ L m env elt x scope cl s S P Fin k i ys news := by
    intro k
    induction k with
    | zero =>
      intro i ys news hi hG
      obtain rfl : i = n := by omega
      exact fin _ _ hG
    | succ k ih =>
      intro i ys news hi hG v I oI C oC D m₂ h tk E' hP hC hx F N off ne
      exact wpAny_mono (turn i ys news v I oI C oC D m₂ h tk E' (by omega) hG hP hC hx F N off ne) (fun y s' q => cend_mono (fun y n hg => ih (i + 1) _ _ (by omega) hg) q) fun _ _ e => e
  exact main n 0 [] news (by omega) g0
theorem restT_inv {ct elt : PySem.Expr} {x : Str} {scope : Scope} {cl : List (Str × Addr)} {S : List (Addr × Obj) → Prop} {P : Nat → Value → Prop} {Fin : List Value → List (Addr × Obj) → Prop} {n : Nat} (G : Nat → List Value → List (Addr × Obj) → Prop) {news : List (Addr × Obj)} (g0 : G 0 [] news)
    (turn : ∀ i ys news v I oI C oC D m₂ h tk (E' : Value → Shared → Prop), i < n → G i ys news → P i v → NsObj oC m₂ → m₂ x = some v → Fr h₀ L h m → News h₀ L h ((I, oI) :: (C, oC) :: (D, lst ys) :: news) → Off3 I C D news → ((@Ne Nat I C) ∧ (@Ne Nat I D) ∧ (@Ne Nat C D)) →
      wpAny (model prog w) A (isTrue ct (compEnvC scope cl C env) (eval ct (compEnvC scope cl C env))) (fun ok s' => if ok = true then
        wpAny (model prog w) A (eval elt (compEnvC scope cl C env)) (CompEnd h₀ L m { s with heap := h, toks := tk } I oI C oC D (lst ys) S (fun y news' => G (i + 1) (ys ++ [y]) news')) E' s'
        else CompEnd h₀ L m { s with heap := h, toks := tk } I oI C oC D (lst ys) S (fun _ news' => G (i + 1) ys news') Value.none s') E' { s with heap := h, toks := tk })
    (fin : ∀ ys news, G n ys news → Fin ys news) : CompRestT prog w A h₀ L m env ct elt x scope cl s S P Fin n 0 [] news := by
  have main : ∀ k i ys news, i + k = n → G i ys news → CompRestT prog w A h₀ L m env ct elt x scope cl s S P Fin k i ys news := by
    intro k
    induction k with
    | zero =>
      intro i ys news hi hG
      obtain rfl : i = n := by omega
      exact fin _ _ hG
    | succ k ih =>
      intro i ys news hi hG v I oI C oC D m₂ h tk E' hP hC hx F N off ne
      refine wpAny_mono (turn i ys news v I oI C oC D m₂ h tk E' (by omega) hG hP hC hx F N off ne) (fun ok s' q => ?_) fun _ _ e => e
      cases ok with
      | true =>
        rw [if_pos rfl] at q ⊢
        exact wpAny_mono q (fun y s' q => cend_mono (fun y n hg => ih (i + 1) _ _ (by omega) hg) q) fun _ _ e => e
      | false =>
        rw [if_neg Bool.false_ne_true] at q ⊢
        exact cend_mono (fun y n hg => ih (i + 1) _ _ (by omega) hg) q
  exact main n 0 [] news (by omega) g0
theorem src_stop {elt : PySem.Expr} {x : Str} {scope : Scope} {cl : List (Str × Addr)} {Fin : Shared → List Value → List (Addr × Obj) → Prop} {xv : Value} {s₁ : Shared} (h : Stop (CompSrc prog w A h₀ L m env elt x scope cl Fin xv s₁)) : CompSrc prog w A h₀ L m env elt x scope cl Fin xv s₁ := h
theorem srcT_stop {ct elt : PySem.Expr} {x : Str} {scope : Scope} {cl : List (Str × Addr)} {Fin : Shared → List Value → List (Addr × Obj) → Prop} {xv : Value} {s₁ : Shared} (h : Stop (CompSrcT prog w A h₀ L m env ct elt x scope cl Fin xv s₁)) : CompSrcT prog w A h₀ L m env ct elt x scope cl Fin xv s₁ := h
end
end Mine
namespace Mine
theorem exec_stop {M : Model} {A : Around} {st : Stmt} {env : Env} {Q : Flow → Shared → Prop} {E : Value → Shared → Prop} {s : Shared} (h : Stop (wpAny M A (exec st env) Q E s)) : wpAny M A (exec st env) Q E s := h
theorem at_of (z : Int) {n : Nat} {m : Int} (h1 : 1 ≤ n) (hm : 0 ≤ m) : ∃ a : Nat, Int.fmod z ((n : Int) + m) = (a : Int) ∧ (a : Int) < n + m := by
  have h2 := Int.fmod_nonneg_of_pos z (b := (n : Int) + m) (by omega)
  have h3 := Int.fmod_lt_of_pos z (b := (n : Int) + m) (by omega)
  exact ⟨(Int.fmod z ((n : Int) + m)).toNat, by omega, by omega⟩
end Mine

end SR80
section SR90
open PySem PySem.W PyProof.Rows PySem.Calls PyProof.Rows.LCg PyProof.Rows.LCt
namespace Mine
theorem abs_law1 {h₀ h : Heap} {L D : Addr} {low mo n : Int} {t1 t2 t3 : Tok} {m0 : Str → Option Value}
    (F : Fr h₀ L h (fun z => if z = (Str.ofString "word") then some (.ref D) else if z = (Str.ofString "low") then some (.int low t1) else if z = (Str.ofString "more") then some (.int mo t2) else if z = (Str.ofString "n") then some (.int n t3) else m0 z)) :
    ∃ (t1 t2 t3 : Tok) (m0 : Str → Option Value), Fr h₀ L h (fun z => if z = (Str.ofString "word") then some (.ref D) else if z = (Str.ofString "low") then some (.int low t1) else if z = (Str.ofString "more") then some (.int mo t2) else if z = (Str.ofString "n") then some (.int n t3) else m0 z) := ⟨_, _, _, _, F⟩
theorem abs_at {h₀ h : Heap} {L : Addr} {at' : Int} {t1 : Tok} {m0 : Str → Option Value}
    (F : Fr h₀ L h (fun z => if z = (Str.ofString "at") then some (.int at' t1) else m0 z)) :
    ∃ (t1 : Tok), Fr h₀ L h (fun z => if z = (Str.ofString "at") then some (.int at' t1) else m0 z) := ⟨_, F⟩
theorem if_join {M : Model} {A : Around} {st : Stmt} {env : Env} {Q : Flow → Shared → Prop} {E : Value → Shared → Prop} {s : Shared} (Mid : Shared → Prop) (h1 : wpAny M A (exec st env) (fun f s' => f = .next ∧ Mid s') E s) (h2 : ∀ s', Mid s' → Q .next s') : wpAny M A (exec st env) Q E s :=
  wpAny_mono h1 (fun f s' h => by obtain ⟨rfl, h⟩ := h; exact h2 s' h) fun _ _ e => e
end Mine
namespace Mine
theorem wp_stop {α : Type} {M : Model} {A : Around} {c : Sem α} {Q : α → Shared → Prop} {E : Value → Shared → Prop} {s : Shared} (h : Stop (wpAny M A c Q E s)) : wpAny M A c Q E s := h
theorem take_named {ws : List Value} {xs : List Int} {a n : Nat} (_h : IntsAre ws (List.take (Int.toNat (a : Int)) xs)) (hx : xs.length = n) (ha : (a : Int) ≤ n) : ∃ A, A = xs.take a ∧ A.length = a ∧ A = List.take (Int.toNat (a : Int)) xs := by
  refine ⟨xs.take a, rfl, ?_, by rw [Int.toNat_natCast]⟩
  rw [List.length_take]; omega
theorem drop_named {ws : List Value} {xs : List Int} {z : Int} (b : Nat) {n : Nat} (_h : IntsAre ws (List.drop (Int.toNat z) xs)) (hx : xs.length = n) (hz : z = b) (ha : b ≤ n) : ∃ A, A = xs.drop b ∧ A.length = n - b ∧ A = List.drop (Int.toNat z) xs := by
  subst hz
  refine ⟨xs.drop b, rfl, ?_, by rw [Int.toNat_natCast]⟩
  rw [List.length_drop]; omega
end Mine
namespace Mine
theorem runN_le (xs : List Int) : ∀ k, runN xs k ≤ k
  | 0 => Nat.le_refl _
  | k + 1 => by
    rw [runN]
    split
    · exact Nat.le_trans (runN_le xs k) (Nat.le_succ _)
    · exact Nat.le_refl _
end Mine
namespace Mine
theorem nod_nil : NoDict [] := fun _ h => nomatch h
theorem nod_cons {a : Addr} {o : Obj} {l : List (Addr × Obj)} (h1 : ∀ es n, o.data ≠ .dict es n) (h2 : NoDict l) : NoDict ((a, o) :: l) := fun p hp => by
  rcases List.mem_cons.mp hp with rfl | hp
  · exact h1
  · exact h2 p hp
theorem nod_append {l r : List (Addr × Obj)} (h1 : NoDict l) (h2 : NoDict r) : NoDict (l ++ r) := fun p hp => by
  rcases List.mem_append.mp hp with hp | hp
  · exact h1 p hp
  · exact h2 p hp
theorem nod_list {vs : Array Value} {n : Nat} : ∀ es k, (listOf vs n).data ≠ .dict es k := fun _ _ h => nomatch h
theorem nod_tup {vs : Array Value} : ∀ es k, (tupObj vs).data ≠ .dict es k := fun _ _ h => nomatch h
theorem nod_cell {o : Obj} {v : Option Value} (h : o.data = .cell v) : ∀ es k, o.data ≠ .dict es k := fun es k e => by rw [h] at e; cases e
theorem nod_tab : ∀ es k, (tabObj #[]).data ≠ .dict es k := fun _ _ h => nomatch h
def TupsOf (f : Nat → Nat × Nat) (base : List (Addr × Obj)) (i : Nat) (ys : List Value) (nx : List (Addr × Obj)) : Prop :=
  (∀ p ∈ base, p ∈ nx) ∧ DatAll nx ys ((List.range i).map fun k => tupD (f k)) ∧ (NoDict base → NoDict nx)
theorem TupsOf.zero (f : Nat → Nat × Nat) (base : List (Addr × Obj)) : TupsOf f base 0 [] base := ⟨fun _ h => h, .nil, fun h => h⟩
theorem TupsOf.snoc {f : Nat → Nat × Nat} {base : List (Addr × Obj)} {i : Nat} {ys : List Value} {nx : List (Addr × Obj)} {T : Addr} {a b : Int} {ta tb : Tok} (h : TupsOf f base i ys nx) (ha : a = ((f i).1 : Nat)) (hb : b = ((f i).2 : Nat)) :
    TupsOf f base (i + 1) (ys ++ [.ref T]) ((T, tupObj #[.int a ta, .int b tb]) :: nx) := by
  subst ha hb
  refine ⟨fun p hp => .tail _ (h.1 p hp), ?_, fun hb => nod_cons nod_tup (h.2.2 hb)⟩
  rw [List.range_succ, List.map_append]
  exact (h.2.1.mono fun p hp => .tail _ hp).append (DatAll.one (.tuple (.head _) (.cons (.int _ _) (.cons (.int _ _) .nil))))
theorem add_any {prog : Program} {w : World} {A : Around} {E : Value → Shared → Prop} {s : Shared} {h₀ : Heap} {L a b : Addr} {m : Str → Option Value} {news : List (Addr × Obj)} {vs ws : List Value} {n1 n2 : Nat} {Q : Value → Shared → Prop}
    (F : Fr h₀ L s.heap m) (N : News h₀ L s.heap news) (ha : (a, listOf vs.toArray n1) ∈ news) (hb : (b, listOf ws.toArray n2) ∈ news) (hz : vs.length + ws.length ≤ sizeLine)
    (h : ∀ D h', Fr h₀ L h' m → News h₀ L h' ((D, listOf (vs ++ ws).toArray 0) :: news) → (∀ p ∈ news, p.1 < D) → Q (.ref D) { s with heap := h' }) : wpAny (model prog w) A (binaryOp .Add (.ref a) (.ref b)) Q E s :=
  kmk_add_lit F N (News.isList N ha) (News.isList N hb) rfl h (by simpa using hz)
theorem names_tupC {h₀ h : Heap} {L T0 : Addr} {a b : Int} {ta tb : Tok} {r : List (Addr × Obj)} (_N : News h₀ L h ((T0, tupObj #[.int a ta, .int b tb]) :: r)) : ∃ T x y, T = T0 ∧ x = ta ∧ y = tb := ⟨_, _, _, rfl, rfl, rfl⟩
end Mine
namespace Mine
theorem news_more {h₀ h : Heap} {L : Addr} {x : Addr × Obj} {base nx : List (Addr × Obj)} (N : News h₀ L h (x :: nx)) (hs : ∀ p ∈ base, p ∈ nx) : News h₀ L h (x :: (base ++ nx)) := fun p hp => by
  rcases List.mem_cons.mp hp with rfl | hp
  · exact N _ (.head _)
  · rcases List.mem_append.mp hp with hp | hp
    · exact N _ (.tail _ (hs p hp))
    · exact N _ (.tail _ hp)
def Mid (s : Shared) (h₀ : Heap) (L : Addr) (m0 : Str → Option Value) (came : List Int) (way : List (Nat × Nat)) (rest : List (Addr × Obj)) (s' : Shared) : Prop :=
  ∃ (Dw Dc : Addr) (ws qc : List Value) (ec ew : Nat) (wh : Int) (tw : Tok) (nx : List (Addr × Obj)) (h : Heap) (tk : Nat), s' = { s with heap := h, toks := tk } ∧
    Fr h₀ L h (fun y => if y = (Str.ofString "way") then some (.ref Dw) else if y = (Str.ofString "where") then some (.int wh tw) else if y = (Str.ofString "came") then some (.ref Dc) else m0 y) ∧
    News h₀ L h ((Dw, listOf ws.toArray ew) :: (Dc, listOf qc.toArray ec) :: (rest ++ nx)) ∧ IntsAre qc came ∧ DatAll nx ws (way.map tupD) ∧ NoDict nx
theorem Mid.intro {s : Shared} {h₀ : Heap} {L : Addr} {m0 : Str → Option Value} {came : List Int} {way : List (Nat × Nat)} {rest : List (Addr × Obj)} {Dw Dc : Addr} {ws qc : List Value} {ec ew : Nat} {wh : Int} {tw : Tok} {all : List (Addr × Obj)} {h : Heap} {tk : Nat}
    (F : Fr h₀ L h (fun y => if y = (Str.ofString "way") then some (.ref Dw) else if y = (Str.ofString "where") then some (.int wh tw) else if y = (Str.ofString "came") then some (.ref Dc) else m0 y))
    (N : News h₀ L h all) (hw : (Dw, listOf ws.toArray ew) ∈ all) (hc : (Dc, listOf qc.toArray ec) ∈ all) (hr : ∀ p ∈ rest, p ∈ all) (hi : IntsAre qc came) (hd : DatAll all ws (way.map tupD)) (hno : NoDict all) : Mid s h₀ L m0 came way rest { s with heap := h, toks := tk } := by
  refine ⟨Dw, Dc, ws, qc, ec, ew, wh, tw, all, h, tk, rfl, F, fun p hp => N p ?_, hi, hd, hno⟩
  rcases List.mem_cons.mp hp with rfl | hp
  · exact hw
  · rcases List.mem_cons.mp hp with rfl | hp
    · exact hc
    · rcases List.mem_append.mp hp with hp | hp
      · exact hr p hp
      · exact hp
end Mine
namespace Mine
def atN (n : Nat) (mo z5 : Int) : Nat := (Int.fmod z5 ((n : Int) + mo)).toNat
def cameN (mo : Int) (xs : List Int) (z5 z6 : Int) : List Int :=
  if mo = 1 then xs.take (atN xs.length mo z5) ++ [Int.fmod z6 2] ++ xs.drop (atN xs.length mo z5) else xs.take (atN xs.length mo z5) ++ xs.drop (atN xs.length mo z5 + 1)
def whN (mo : Int) (xs : List Int) (z5 z6 : Int) : Nat := if mo = 1 then runN (cameN mo xs z5 z6) (atN xs.length mo z5) else runN xs (atN xs.length mo z5)
def wayN (mo : Int) (xs : List Int) (z5 z6 : Int) : List (Nat × Nat) :=
  if mo = 1 then (List.range (whN mo xs z5 z6 + 1)).map (fun k => (k, k)) ++ (List.range (xs.length + 1 - whN mo xs z5 z6)).map (fun k => (whN mo xs z5 z6 + k + 1, whN mo xs z5 z6 + k))
  else (List.range (whN mo xs z5 z6 + 1)).map (fun k => (k, k)) ++ (List.range (xs.length - whN mo xs z5 z6)).map (fun k => (whN mo xs z5 z6 + k, whN mo xs z5 z6 + k + 1))
theorem came0 {xs : List Int} {z5 z6 : Int} {n a wh : Nat} (hn : xs.length = n) (ha : Int.fmod z5 ((n : Int) + 0) = a) (hwh : runN xs a = wh) :
    cameN 0 xs z5 z6 = xs.take a ++ xs.drop (a + 1) ∧ wayN 0 xs z5 z6 = (List.range (wh + 1)).map (fun k => (k, k)) ++ (List.range (n - wh)).map (fun k => (wh + k, wh + k + 1)) := by
  have e : atN xs.length 0 z5 = a := by rw [atN, hn, ha, Int.toNat_natCast]
  have e2 : whN 0 xs z5 z6 = wh := by rw [whN, if_neg (by decide), e, hwh]
  constructor
  · rw [cameN, if_neg (by decide), e]
  · rw [wayN, if_neg (by decide), e2, hn]
theorem came1 {xs : List Int} {z5 z6 : Int} {n a wh : Nat} (hn : xs.length = n) (ha : Int.fmod z5 ((n : Int) + 1) = a) (hwh : runN (xs.take a ++ [Int.fmod z6 2] ++ xs.drop a) a = wh) :
    cameN 1 xs z5 z6 = xs.take a ++ [Int.fmod z6 2] ++ xs.drop a ∧ wayN 1 xs z5 z6 = (List.range (wh + 1)).map (fun k => (k, k)) ++ (List.range (n + 1 - wh)).map (fun k => (wh + k + 1, wh + k)) := by
  have e : atN xs.length 1 z5 = a := by rw [atN, hn, ha, Int.toNat_natCast]
  have e1 : cameN 1 xs z5 z6 = xs.take a ++ [Int.fmod z6 2] ++ xs.drop a := by rw [cameN, if_pos rfl, e]
  have e2 : whN 1 xs z5 z6 = wh := by rw [whN, if_pos rfl, e, e1, hwh]
  refine ⟨e1, ?_⟩
  rw [wayN, if_pos rfl, e2, hn]
end Mine
namespace Mine
theorem if_mid {M : Model} {A : Around} {st : Stmt} {env : Env} {Q : Flow → Shared → Prop} {E : Value → Shared → Prop} {s : Shared} {h₀ h : Heap} {L : Addr} {m0 : Str → Option Value} (_F : Fr h₀ L h m0) (s1 : Shared) (came : List Int) (way : List (Nat × Nat)) (rest : List (Addr × Obj))
    (h1 : wpAny M A (exec st env) (fun f s' => f = .next ∧ Mid s1 h₀ L m0 came way rest s') E s) (h2 : ∀ s', Mid s1 h₀ L m0 came way rest s' → Q .next s') : wpAny M A (exec st env) Q E s := if_join _ h1 h2
end Mine

namespace Mine
def Bits (xs : List Int) : Prop := ∀ b ∈ xs, b = 0 ∨ b = 1
theorem bit_of (z : Int) : Int.fmod z 2 = 0 ∨ Int.fmod z 2 = 1 := by
  have h1 := Int.fmod_nonneg_of_pos z (b := 2) (by decide)
  have h2 := Int.fmod_lt_of_pos z (b := 2) (by decide)
  omega
theorem bits_came {mo : Int} {xs : List Int} (z5 z6 : Int) (h : Bits xs) : Bits (cameN mo xs z5 z6) := by
  intro b hb
  rw [cameN] at hb
  split at hb
  · rcases List.mem_append.mp hb with hb | hb
    · rcases List.mem_append.mp hb with hb | hb
      · exact h b (List.mem_of_mem_take hb)
      · rw [List.mem_singleton.mp hb]; exact bit_of z6
    · exact h b (List.mem_of_mem_drop hb)
  · rcases List.mem_append.mp hb with hb | hb
    · exact h b (List.mem_of_mem_take hb)
    · exact h b (List.mem_of_mem_drop hb)
theorem len_came (mo : Int) (xs : List Int) (z5 z6 : Int) : (cameN mo xs z5 z6).length ≤ xs.length + 1 := by
  rw [cameN]
  split <;> simp only [List.length_append, List.length_take, List.length_drop, List.length_cons, List.length_nil] <;> omega
def lett (lo hi b : Int) : Int := if b = 0 then lo else hi
theorem lett_snoc {lo hi : Int} {ys : List Value} {L : List Int} {i : Nat} {t : Tok} (h : IntsAre ys ((L.take i).map (lett lo hi))) (hi' : i < L.length) : IntsAre (ys ++ [.int (lett lo hi (L.getD i 0)) t]) ((L.take (i + 1)).map (lett lo hi)) := by
  rw [List.take_add_one, List.getElem?_eq_getElem hi', List.map_append]
  rw [List.getD_eq_getElem?_getD, List.getElem?_eq_getElem hi']
  exact h.append (.cons _ _ .nil)
def Cost (c : Int) : Prop := 2 ≤ c ∧ c ≤ 4
theorem cost_of (z : Int) : ∃ c, 2 + Int.fmod (Int.fdiv z 2) 3 = c ∧ Cost c := by
  have h1 := Int.fmod_nonneg_of_pos (Int.fdiv z 2) (b := 3) (by decide)
  have h2 := Int.fmod_lt_of_pos (Int.fdiv z 2) (b := 3) (by decide)
  exact ⟨_, rfl, by omega, by omega⟩
theorem bits_word (z : Int) (n : Nat) : Bits (List.map (fun k => Int.fmod (Int.fdiv z ((2 : Int) ^ k)) 2) (List.range n)) := by
  intro b hb
  obtain ⟨k, _, rfl⟩ := List.mem_map.mp hb
  exact bit_of _
end Mine
namespace Mine
theorem getD_memL {L : List Int} {i : Nat} (h : i < L.length) : L.getD i 0 ∈ L := by
  rw [List.getD_eq_getElem?_getD, List.getElem?_eq_getElem h]
  exact List.getElem_mem h
theorem ints_tok {ys : List Value} {x : Int} {t t' : Tok} {xs : List Int} (h : IntsAre (ys ++ [.int x t]) xs) : IntsAre (ys ++ [.int x t']) xs := by
  induction ys generalizing xs with
  | nil => cases h with | cons _ _ r => cases r; exact .cons _ _ .nil
  | cons y ys ih => cases h with | cons a b r => exact .cons _ _ (ih r)
end Mine

end SR90
section SR100
open PySem PySem.W PyProof.Rows PySem.Calls PyProof.Rows.LCg PyProof.Rows.LCt
namespace Mine
def NoD (o : Obj) : Prop := ∀ es n, o.data ≠ .dict es n
section
variable {prog : Program} {w : World} {A : Around} {E : Value → Shared → Prop} {s : Shared} {env : Env} {h₀ : Heap} {x : Str} {body : List Stmt} {Q : Flow → Shared → Prop}
theorem list_iter2 {l : Addr} {vs : List Value} {nn : Nat} {m₀ : Str → Option Value} {news : List (Addr × Obj)} (J : Nat → (Str → Option Value) → List (Addr × Obj) → Prop)
    (hh : A.handled = none) (hl : (l, listOf vs.toArray nn) ∈ news) (F : Fr h₀ env.locals s.heap m₀) (N : News h₀ env.locals s.heap news) (hj : J 0 m₀ news)
    (turn : ∀ i v m₁ nx h tk I oI, vs[i]? = some v → NoD oI → (∀ p ∈ nx, p.1 ≠ I) → (l, listOf vs.toArray nn) ∈ nx → J i m₁ nx → Fr h₀ env.locals h (fun y => if y = x then some v else m₁ y) → News h₀ env.locals h (nx ++ [(I, oI)]) →
      wpAny (model prog w) A (execs body env) (InvPostG h₀ env.locals (fun m' nx => (l, listOf vs.toArray nn) ∈ nx ∧ J (i + 1) m' nx) [(I, oI)] { s with heap := h, toks := tk } Q) E { s with heap := h, toks := tk })
    (done : ∀ m₁ nx h tk, J vs.length m₁ nx → Fr h₀ env.locals h m₁ → News h₀ env.locals h nx → Q .next { s with heap := h, toks := tk }) :
    wpAny (model prog w) A (pyIter (.ref l)) (fun it s₂ => LoopAtV prog w A h₀ env x body Q E it s₂) E s := by
  have h1 := (N _ hl).1
  have h2 : s.heap.IsList l vs.toArray := ⟨_, h1, rfl, nn, rfl⟩
  have hlt : l < s.heap.objs.size := Heap.lt_size h1
  have W := Walks.list (prog := prog) (w := w) hh s.heap.objs.size l (Nat.ne_of_lt hlt) vs.toArray
  rw [List.size_toArray] at W
  have hI₀ : h₀.get? s.heap.objs.size = none := next_is_new F
  refine wpAny_pyIter_list h2 ⟨s.heap.objs.size, _, _, vs.length, _, _, m₀, news, (fun i m nx => (l, listOf vs.toArray nn) ∈ nx ∧ J i m nx), rfl, W, ?_, ?_, ?_, ⟨⟨_, Heap.get?_push_size _ rfl, rfl, rfl⟩, h2.at fun o e => Heap.get?_push_of_some _ e⟩, F.push _, N.grown fun b o e => Heap.get?_push_of_some _ e, ⟨hl, hj⟩, ?_, ?_⟩
  · intro hm
    rcases List.mem_cons.mp hm with e | hm
    · have q := F.ns.lt
      rw [e] at q
      exact absurd q (Nat.lt_irrefl _)
    · exact (N _ hl).2.1 (List.mem_singleton.mp hm).symm
  · intro b hb
    rw [List.mem_singleton.mp hb]
    exact hI₀
  · intro p hp hI
    have := Heap.lt_size (N p hp).1
    rw [show p.1 = s.heap.objs.size from List.mem_singleton.mp hI] at this
    exact absurd this (Nat.lt_irrefl _)
  · rintro i v m₁ nx s₁ own ⟨g, tk, rfl⟩ _ hP ⟨hl₁, hJ⟩ hoff hown hget hfp hst F₁ N₁
    obtain ⟨⟨oI, hoI, _, hdI⟩, _⟩ := id hst
    have hmI : (s.heap.objs.size, oI) ∈ own := hfp _ (List.mem_cons_self) hI₀ _ hoI
    have hne : ∀ p ∈ nx, p.1 ≠ s.heap.objs.size := fun p hp e => hoff p hp (List.mem_singleton.mpr e)
    have hlg : g.get? l = some (listOf vs.toArray nn) := (N₁ _ (List.mem_append_right _ hl₁)).1
    have N₂ : News h₀ env.locals g (nx ++ [(s.heap.objs.size, oI)]) := fun p hp => by
      rcases List.mem_append.mp hp with hp | hp
      · exact N₁ p (List.mem_append_right _ hp)
      · rw [List.mem_singleton.mp hp]
        exact N₁ _ (List.mem_append_left _ hmI)
    have hN : NoD oI := fun es n e => by rw [hdI] at e; cases e
    refine wpAny_mono (turn i v m₁ nx g tk _ oI (by simpa using hP) hN hne hl₁ hJ F₁ N₂) (fun f s₂ p => ?_) fun _ _ e => e
    have fin : InvEndG h₀ env.locals (fun m' nx => (l, listOf vs.toArray nn) ∈ nx ∧ J (i + 1) m' nx) [(s.heap.objs.size, oI)] { s with heap := g, toks := tk } s₂ →
        LoopStepU h₀ env.locals [s.heap.objs.size] own (fun m nx => (l, listOf vs.toArray nn) ∈ nx ∧ J (i + 1) m nx) { s with heap := g, toks := tk } .next s₂ := by
      rintro ⟨h', tk', m', news', nx', e, F', N', hn, ho, ha, hm⟩
      refine ⟨rfl, h', tk', m', nx', e, F', fun p hp => ?_, fun p hp hq => ?_, hm⟩
      · rcases List.mem_append.mp hp with hp | hp
        · have hg := hget p hp
          dsimp only at hg
          rcases List.mem_cons.mp (hown p hp) with e1 | e1
          · have e2 : p = (s.heap.objs.size, oI) := Prod.ext e1 (by rw [e1, hoI] at hg; exact (Option.some.inj hg).symm)
            rw [e2]
            exact N' _ (ho _ (List.mem_singleton.mpr rfl))
          · have e3 : p.1 = l := List.mem_singleton.mp e1
            have e2 : p = (l, listOf vs.toArray nn) := Prod.ext e3 (by rw [e3, hlg] at hg; exact (Option.some.inj hg).symm)
            rw [e2]
            exact N' _ (hn _ hm.1)
        · exact N' p (hn p hp)
      · exact ha _ (List.mem_singleton.mpr rfl) p.1 (List.mem_map.mpr ⟨p, hp, rfl⟩) (List.mem_singleton.mp hq).symm
    cases f with
    | ret v => exact .ret p
    | brk => exact .brk p
    | next => exact .next (fin p)
    | cont => exact .cont (fin p)
  · rintro h' tk m' nx F' N' _ ⟨_, hJ⟩
    exact done m' nx h' tk hJ F' N'
theorem loop_list2 {σ : Type} {l : Addr} {vs : List Value} {nn : Nat} {m₀ : Str → Option Value} {news : List (Addr × Obj)} (ps : σ → List (Str × Value)) (stored : List Str) (G : Nat → σ → List (Addr × Obj) → Prop) (c₀ : σ)
    (hh : A.handled = none) (nx₀ : List (Addr × Obj)) (hl : (l, listOf vs.toArray nn) ∈ nx₀) (F : Fr h₀ env.locals s.heap m₀) (N : News h₀ env.locals s.heap news) (hn : ∀ p ∈ nx₀, p ∈ news) (hk : ∀ p ∈ ps c₀, m₀ p.1 = some p.2) (hg : G 0 c₀ nx₀)
    (turn : ∀ (i : Nat) (v : Value) (c : σ) nx (u : Str → Option Value) h tk I oI, vs[i]? = some v → NoD oI → (∀ p ∈ nx, p.1 ≠ I) → (l, listOf vs.toArray nn) ∈ nx → G i c nx →
      Fr h₀ env.locals h (fun y => if y = x then some v else kstB (fun z => if stored.contains z then u z else m₀ z) (ps c) y) → News h₀ env.locals h (nx ++ [(I, oI)]) →
      wpAny (model prog w) A (execs body env) (InvPostG h₀ env.locals (GS ps x stored m₀ (fun c nx => (l, listOf vs.toArray nn) ∈ nx ∧ G (i + 1) c nx)) [(I, oI)] { s with heap := h, toks := tk } Q) E { s with heap := h, toks := tk })
    (done : ∀ (c : σ) nx (u : Str → Option Value) h tk, G vs.length c nx → Fr h₀ env.locals h (fun y => if y = x then u y else kstB (fun z => if stored.contains z then u z else m₀ z) (ps c) y) → News h₀ env.locals h nx → Q .next { s with heap := h, toks := tk }) :
    wpAny (model prog w) A (pyIter (.ref l)) (fun it s₂ => LoopAtV prog w A h₀ env x body Q E it s₂) E s := by
  refine list_iter2 (news := nx₀) (fun i m nx => GS ps x stored m₀ (G i) m nx) hh hl F (fun p hp => N p (hn p hp)) ⟨c₀, hk, fun _ _ _ _ => rfl, hg⟩ ?_ ?_
  · rintro i v m₁ nx h tk I oI hv hno hoff hl₁ ⟨c, h1, h2, hG⟩ F₁ N₁
    refine wpAny_mono (turn i v c nx m₁ h tk I oI hv hno hoff hl₁ hG (kst_fr h1 h2 F₁) N₁) (fun f s₂ p => ?_) fun _ _ x => x
    have up : InvEndG h₀ env.locals (GS ps x stored m₀ (fun c nx => (l, listOf vs.toArray nn) ∈ nx ∧ G (i + 1) c nx)) [(I, oI)] { s with heap := h, toks := tk } s₂ →
        InvEndG h₀ env.locals (fun m' nx => (l, listOf vs.toArray nn) ∈ nx ∧ GS ps x stored m₀ (G (i + 1)) m' nx) [(I, oI)] { s with heap := h, toks := tk } s₂ := by
      rintro ⟨h', tk', m', news', nx', e', F', N', hn', ho', ha, c', k1, k2, k3, k4⟩
      exact ⟨h', tk', m', news', nx', e', F', N', hn', ho', ha, k3, c', k1, k2, k4⟩
    cases f with
    | ret v => exact p
    | brk => exact p
    | next => exact up p
    | cont => exact up p
  · rintro m₁ nx h tk ⟨c, h1, h2, hG⟩ F₁ N₁
    exact done c nx m₁ h tk hG (kst_frOut h1 h2 F₁) N₁
end
end Mine
namespace Mine
def wordsN : Nat → List (List Int)
  | 0 => [[]]
  | k + 1 => (wordsN k).flatMap fun r => [r ++ [0], r ++ [1]]
def posSum (r : List Int) : Nat → Int
  | 0 => 0
  | k + 1 => posSum r k + if r.getD k 0 = 1 then (k : Int) + 1 else 0
def vtSum (r : List Int) (n : Nat) : Int := Int.fmod (posSum r n) ((n : Int) + 1)
def lawCode (x : List Int) : List (List Int) := (wordsN x.length).filter fun r => decide (vtSum r x.length = vtSum x x.length)
def RowAt (led : List (Addr × Obj)) (v : Value) (xs : List Int) : Prop := ∃ a vs ep, v = .ref a ∧ (a, listOf (List.toArray vs) ep) ∈ led ∧ IntsAre vs xs
theorem RowAt.mono {l r : List (Addr × Obj)} {v : Value} {xs : List Int} (h : RowAt l v xs) (hs : ∀ p ∈ l, p ∈ r) : RowAt r v xs := by
  obtain ⟨a, vs, ep, e, hm, hi⟩ := h
  exact ⟨a, vs, ep, e, hs _ hm, hi⟩
theorem Paired.mapR {α β : Type} {F G : α → β → Prop} (h : ∀ a b, F a b → G a b) : ∀ {l : List α} {r : List β}, Paired F l r → Paired G l r
  | _, _, .nil => .nil
  | _, _, .cons a b => .cons (h _ _ a) (Paired.mapR h b)
theorem paired_at {α β : Type} {F : α → β → Prop} : ∀ {l : List α} {r : List β} {i : Nat} {a : α}, Paired F l r → l[i]? = some a → ∃ b, r[i]? = some b ∧ F a b
  | _, _, 0, _, .cons h _, e => by cases e; exact ⟨_, rfl, h⟩
  | _, _, i + 1, _, .cons _ t, e => by
    rw [List.getElem?_cons_succ] at e
    obtain ⟨b, h1, h2⟩ := paired_at t e
    exact ⟨b, by rw [List.getElem?_cons_succ]; exact h1, h2⟩
theorem off1_ne {D a : Addr} {o : Obj} : ∀ {l : List (Addr × Obj)}, Off1 D l → (a, o) ∈ l → D ≠ a
  | p :: r, h, hm => by
    rcases List.mem_cons.mp hm with rfl | hm
    · exact Ne.symm h.1
    · exact off1_ne h.2 hm
theorem abs_cost {h₀ h : Heap} {L : Addr} {c : Int} {t1 : Tok} {m0 : Str → Option Value}
    (F : Fr h₀ L h (fun z => if z = (Str.ofString "cost") then some (.int c t1) else m0 z)) :
    ∃ (t1 : Tok), Fr h₀ L h (fun z => if z = (Str.ofString "cost") then some (.int c t1) else m0 z) := ⟨_, F⟩
end Mine
namespace Mine
theorem letters_ne {z2 zn y : Int} (h : z2 + 1 + (if y < 0 then -y else y) = zn) : z2 ≠ zn := by
  split at h <;> omega
end Mine
namespace Mine
theorem ne52 {h₀ h : Heap} {L a : Addr} {o : Obj} {news : List (Addr × Obj)} (N : News h₀ L h news) (h5 : (52, tabObj #[]) ∈ news) (hm : (a, o) ∈ news) (ho : o ≠ tabObj #[]) : a ≠ 52 := by
  rintro rfl
  have e1 := (N _ h5).1
  have e2 := (N _ hm).1
  dsimp only at e1 e2
  rw [e1] at e2
  exact ho (Option.some.inj e2).symm
theorem move52 {h₀ h : Heap} {L a : Addr} {o : Obj} {news led : List (Addr × Obj)} (N : News h₀ L h news) (h5 : (52, tabObj #[]) ∈ news) (hs : ∀ p ∈ news, p.1 ≠ 52 → p ∈ led) (ho : o ≠ tabObj #[]) (hm : (a, o) ∈ news) : (a, o) ∈ led :=
  hs _ hm (ne52 N h5 hm ho)
theorem list_ne_tab {vs : Array Value} {n : Nat} : listOf vs n ≠ tabObj #[] := fun e => by cases e
theorem tup_ne_tab {vs : Array Value} : tupObj vs ≠ tabObj #[] := fun e => by cases e
theorem cell_ne_tab {o : Obj} {v : Option Value} (h : o.data = .cell v) : o ≠ tabObj #[] := fun e => by rw [e] at h; cases h
theorem dat_move {h₀ h : Heap} {L : Addr} {news led nx : List (Addr × Obj)} (N : News h₀ L h news) (h5 : (52, tabObj #[]) ∈ news) (hs : ∀ p ∈ news, p.1 ≠ 52 → p ∈ led) (hx : ∀ p ∈ nx, p ∈ news) : ∀ {vs : List Value} {ps : List (Nat × Nat)}, DatAll nx vs (ps.map tupD) → DatAll led vs (ps.map tupD)
  | [], [], _ => .nil
  | v :: vs, p :: ps, h => by
    rw [List.map_cons] at h ⊢
    cases h with
    | cons h1 h2 =>
      refine .cons ?_ (dat_move N h5 hs hx h2)
      rw [tupD] at h1 ⊢
      cases h1 with
      | tuple hm r => 
        refine .tuple (move52 N h5 hs (fun e => by cases e) (hx _ hm)) ?_
        cases r with
        | cons a b => 
          cases a
          cases b with
          | cons c d =>
            cases c
            cases d
            exact .cons (.int _ _) (.cons (.int _ _) .nil)
end Mine

end SR100
section SR110
open PySem PySem.W PyProof.Rows PySem.Calls PyProof.Rows.LCg PyProof.Rows.LCt
namespace Mine
theorem turn_out (elt t1 i1 t2 i2 : PySem.Expr) (scope : Scope) (pos : Pos) (it acc : Value) (env : Env) :
    compTurn (.ListComp elt [⟨t1, i1, [], 0⟩, ⟨t2, i2, [], 0⟩] scope pos) 0 it acc env = (standAt i1.pos >>= fun _ => pyNext it >>= fun r => match r with
      | none => pure (.done .next)
      | some v => letOwnedTupleGo t1 it v >>= fun _ => assign t1 env v >>= fun _ =>
        eval i2 env >>= fun x => standAt i2.pos >>= fun _ => foldedSetIterable i2 env x >>= fun x => holding [x] (pyIter x) >>= fun jt =>
          runOwn (.compStart (.ListComp elt [⟨t1, i1, [], 0⟩, ⟨t2, i2, [], 0⟩] scope pos) 1 jt acc env) env >>= fun _ =>
          again (.compLoop (.ListComp elt [⟨t1, i1, [], 0⟩, ⟨t2, i2, [], 0⟩] scope pos) 0 it acc env)) := by rfl
theorem turn_in (elt t1 i1 t2 i2 : PySem.Expr) (scope : Scope) (pos : Pos) (it acc : Value) (env : Env) :
    compTurn (.ListComp elt [⟨t1, i1, [], 0⟩, ⟨t2, i2, [], 0⟩] scope pos) 1 it acc env = (standAt i2.pos >>= fun _ => pyNext it >>= fun r => match r with
      | none => pure (.done .next)
      | some v => letOwnedTupleGo t2 it v >>= fun _ => assign t2 env v >>= fun _ =>
        (eval elt env >>= fun x => call (.builtin "list.append") [acc, x] >>= fun _ => pure ()) >>= fun _ =>
          again (.compLoop (.ListComp elt [⟨t1, i1, [], 0⟩, ⟨t2, i2, [], 0⟩] scope pos) 1 it acc env)) := by rfl
section
variable {prog : Program} {w : World} {A : Around} {E : Value → Shared → Prop} {R : Result → Shared → Prop} {s : Shared}
theorem start_in {elt t1 i1 t2 i2 : PySem.Expr} {scope : Scope} {pos : Pos} {it acc : Value} {env : Env}
    (h0 : codeAny (model prog w) A (.compLoop (.ListComp elt [⟨t1, i1, [], 0⟩, ⟨t2, i2, [], 0⟩] scope pos) 1 it acc env) R s)
    (h : wpAny (model prog w) A (pyIter it) (fun it' s' => codeAny (model prog w) A (.compLoop (.ListComp elt [⟨t1, i1, [], 0⟩, ⟨t2, i2, [], 0⟩] scope pos) 1 it' acc env) R s')
      (notedBy (model prog w) A env fun x s' => R (.error x) s') s) :
    codeAny (model prog w) A (.compStart (.ListComp elt [⟨t1, i1, [], 0⟩, ⟨t2, i2, [], 0⟩] scope pos) 1 it acc env) R s := by
  refine codeAny_of_tree ?_
  show wpAny _ _ ((compStart (.ListComp elt [⟨t1, i1, [], 0⟩, ⟨t2, i2, [], 0⟩] scope pos) 1 it acc env).onRaise (fun x => do noteFrame x env; standAt theWindowsPlace)) _ _ s
  refine wpAny_notedAt ?_
  unfold compStart
  show wpAny _ _ (ask >>= _) _ _ s
  refine wpAny_bind (wpAny_askSetting (wpAny_ite ?_))
  split
  · first
      | exact wpAny_bind (wpAny_pure (wpAny_pure (And.intro rfl h0)))
      | exact wpAny_pure (And.intro rfl h0)
  · first
      | exact wpAny_bind (wpAny_rule (wpAny_bind (wpAny_standAt (wpAny_bind (wpAny_mono h (fun it' s' h' => wpAny_pure (And.intro rfl h')) fun _ _ x => x)))))
      | (refine wpAny_bind (wpAny_rule ?_); show wpAny _ _ (standAt i2.pos >>= _) _ _ s; exact wpAny_bind (wpAny_standAt (wpAny_bind (wpAny_mono h (fun it' s' h' => wpAny_pure (And.intro rfl h')) fun _ _ x => x))))
theorem loop_in {elt t1 i1 t2 i2 : PySem.Expr} {scope : Scope} {pos : Pos} {it acc : Value} {env : Env} (I : Nat → Shared → Prop)
    (turn : ∀ n s, I n s → wpAny (model prog w) A (pyNext it) (fun r s₁ => match r with
      | none => R (.ok .next) s₁
      | some v => wpAny (model prog w) A (assign t2 env v) (fun _ s₂ => wpAny (model prog w) A (eval elt env) (fun x s₃ =>
          wpAny (model prog w) A (call (.builtin "list.append") [acc, x]) (fun _ s₄ => ∃ m, m < n ∧ I m s₄) (notedBy (model prog w) A env fun e s' => R (.error e) s') s₃)
          (notedBy (model prog w) A env fun e s' => R (.error e) s') s₂) (notedBy (model prog w) A env fun e s' => R (.error e) s') s₁) (notedBy (model prog w) A env fun e s' => R (.error e) s') s)
    (n : Nat) (h : I n s) (ht : ∀ v, letOwnedTupleGo t2 it v = pure () := by intro _; rfl) :
    codeAny (model prog w) A (.compLoop (.ListComp elt [⟨t1, i1, [], 0⟩, ⟨t2, i2, [], 0⟩] scope pos) 1 it acc env) R s := by
  refine codeAny_loop rfl I (fun n s hI => ?_) n h
  show wpAny _ _ ((compTurn (.ListComp elt [⟨t1, i1, [], 0⟩, ⟨t2, i2, [], 0⟩] scope pos) 1 it acc env).onRaise (fun x => do noteFrame x env; theTreesLotGoes x)) _ _ s
  refine wpAny_noted ?_
  rw [turn_in]
  refine wpAny_bind (wpAny_standAt (wpAny_bind (wpAny_mono (turn n s hI) (fun r s₁ h₁ => ?_) fun _ _ h' => h')))
  cases r with
  | none => exact wpAny_pure h₁
  | some v =>
    refine wpAny_bind (wpAny_of_eq (ht v) ?_)
    exact wpAny_bind (wpAny_mono h₁ (fun _ s₂ h₂ => wpAny_bind (wpAny_bind (wpAny_mono h₂ (fun x s₃ h₃ => wpAny_bind (wpAny_mono h₃
      (fun _ s₄ h₄ => wpAny_pure (wpAny_pure ⟨rfl, h₄⟩)) fun _ _ h' => h')) fun _ _ h' => h'))) fun _ _ h' => h')
theorem loop_out {elt t1 i1 t2 i2 : PySem.Expr} {scope : Scope} {pos : Pos} {it acc : Value} {env : Env} (I : Nat → Shared → Prop)
    (turn : ∀ n s, I n s → wpAny (model prog w) A (pyNext it) (fun r s₁ => match r with
      | none => R (.ok .next) s₁
      | some v => wpAny (model prog w) A (assign t1 env v) (fun _ s₂ => wpAny (model prog w) A (eval i2 env) (fun x s₃ =>
          wpAny (model prog w) A (pyIter x) (fun jt s₄ => ∀ E', wpAny (model prog w) A (runOwn (.compStart (.ListComp elt [⟨t1, i1, [], 0⟩, ⟨t2, i2, [], 0⟩] scope pos) 1 jt acc env) env) (fun _ s₅ => ∃ m, m < n ∧ I m s₅) E' s₄) (notedBy (model prog w) A env fun e s' => R (.error e) s') s₃)
          (notedBy (model prog w) A env fun e s' => R (.error e) s') s₂) (notedBy (model prog w) A env fun e s' => R (.error e) s') s₁) (notedBy (model prog w) A env fun e s' => R (.error e) s') s)
    (n : Nat) (h : I n s) (ht : ∀ v, letOwnedTupleGo t1 it v = pure () := by intro _; rfl) (hf : ∀ x, foldedSetIterable i2 env x = pure x := by intro _; rfl) :
    codeAny (model prog w) A (.compLoop (.ListComp elt [⟨t1, i1, [], 0⟩, ⟨t2, i2, [], 0⟩] scope pos) 0 it acc env) R s := by
  refine codeAny_loop rfl I (fun n s hI => ?_) n h
  show wpAny _ _ ((compTurn (.ListComp elt [⟨t1, i1, [], 0⟩, ⟨t2, i2, [], 0⟩] scope pos) 0 it acc env).onRaise (fun x => do noteFrame x env; theTreesLotGoes x)) _ _ s
  refine wpAny_noted ?_
  rw [turn_out]
  refine wpAny_bind (wpAny_standAt (wpAny_bind (wpAny_mono (turn n s hI) (fun r s₁ h₁ => ?_) fun _ _ h' => h')))
  cases r with
  | none => exact wpAny_pure h₁
  | some v =>
    refine wpAny_bind (wpAny_of_eq (ht v) ?_)
    refine wpAny_bind (wpAny_mono h₁ (fun _ s₂ h₂ => wpAny_bind (wpAny_mono h₂ (fun x s₃ h₃ => ?_) fun _ _ h' => h')) fun _ _ h' => h')
    refine wpAny_bind (wpAny_standAt (wpAny_bind (wpAny_of_eq (hf x) (wpAny_bind (wpAny_holding (wpAny_mono h₃ (fun jt s₄ h₄ => ?_) fun _ _ h' => h'))))))
    exact wpAny_bind (wpAny_mono (h₄ _) (fun _ s₅ h₅ => wpAny_pure ⟨rfl, h₅⟩) fun _ _ h' => h')
end
end Mine
namespace Mine
def LIter (o : Obj) (l : Addr) (i : Nat) : Prop := o.cls = .type "list_iterator" ∧ o.data = .fields #[.ref l, .int i 0]
theorem LIter.is {h : Heap} {I l : Addr} {o : Obj} {i : Nat} (x : LIter o l i) (e : h.get? I = some o) : h.IsListIter I l i := ⟨o, e, x.1, x.2⟩
theorem news_set {h₀ h h' : Heap} {L a : Addr} {o' : Obj} {l l' : List (Addr × Obj)} (N : News h₀ L h l) (hs : Heap.SameBut a h h') (ho : h'.get? a = some o') (h1 : a ≠ L) (h2 : h₀.get? a = none)
    (hl : ∀ p ∈ l', p = (a, o') ∨ (p ∈ l ∧ p.1 ≠ a)) : News h₀ L h' l' := fun p hp => by
  rcases hl p hp with rfl | ⟨hm, hne⟩
  · exact ⟨ho, h1, h2⟩
  · exact ⟨(hs.2 _ hne).trans (N p hm).1, (N p hm).2⟩
theorem news_ext {h₀ h h' : Heap} {L a : Addr} {l l' : List (Addr × Obj)} (N : News h₀ L h l) (hs : Heap.ExtBut a h h')
    (hl : ∀ p ∈ l', p ∈ l ∧ p.1 ≠ a) : News h₀ L h' l' := fun p hp => by
  obtain ⟨hm, hne⟩ := hl p hp
  exact ⟨hs _ _ hne (N p hm).1, (N p hm).2⟩
theorem fr_ext {h₀ h h' : Heap} {L a : Addr} {m : Str → Option Value} (F : Fr h₀ L h m) (hs : Heap.ExtBut a h h') (h1 : a ≠ L) (h2 : h₀.get? a = none) : Fr h₀ L h' m :=
  ⟨F.ns.at' fun o e => hs L o (Ne.symm h1) e, fun b o e => hs b o (fun q => by rw [q, h2] at e; cases e) (F.keep b o e), F.above⟩
section
variable {prog : Program} {w : World} {A : Around} {E : Value → Shared → Prop} {s : Shared} {h₀ : Heap} {L : Addr} {m : Str → Option Value} {env : Env}
def End2 (h₀ : Heap) (L : Addr) (m : Str → Option Value) (s₁ : Shared) (J E I C D : Addr) (oJ oE oI oC oD : Obj) (rest : Value → List (Addr × Obj) → Prop) (y : Value) (s₂ : Shared) : Prop :=
  ∃ h' tk news', s₂ = { s₁ with heap := h', toks := tk } ∧ Fr h₀ L h' m ∧ News h₀ L h' ((J, oJ) :: (E, oE) :: (I, oI) :: (C, oC) :: (D, oD) :: news') ∧ (∀ p ∈ news', p.1 ≠ J ∧ p.1 ≠ E ∧ p.1 ≠ I ∧ p.1 ≠ C ∧ p.1 ≠ D) ∧ rest y news'
def Turn2 (prog : Program) (w : World) (A : Around) (h₀ : Heap) (L : Addr) (m : Str → Option Value) (env : Env) (elt : PySem.Expr) (x1 x2 : Str) (scope : Scope) (cl : List (Str × Addr)) (s : Shared) (ax : Addr) (its : Array Value) (nn : Nat) (G : Nat → List Value → List (Addr × Obj) → Prop) : Prop :=
  ∀ i j ys news v t J E I C D oJ oE oI oC m₂ h tk (E' : Value → Shared → Prop), its[i]? = some v → j < 2 → G (2 * i + j) ys news → (ax, listOf its nn) ∈ news → NsObj oC m₂ → m₂ x1 = some v → m₂ x2 = some (.int (j : Nat) t) →
    Fr h₀ L h m → News h₀ L h ((J, oJ) :: (E, oE) :: (I, oI) :: (C, oC) :: (D, lst ys) :: news) → (∀ p ∈ news, p.1 ≠ J ∧ p.1 ≠ E ∧ p.1 ≠ I ∧ p.1 ≠ C ∧ p.1 ≠ D) →
    wpAny (model prog w) A (eval elt (compEnvC scope cl C env)) (End2 h₀ L m { s with heap := h, toks := tk } J E I C D oJ oE oI oC (lst ys) (fun y news' => (ax, listOf its nn) ∈ news' ∧ G (2 * i + j + 1) (ys ++ [y]) news')) E' { s with heap := h, toks := tk }
theorem inner2 {elt t1 i1 : PySem.Expr} {x1 x2 : Str} {px2 q : Pos} {i2 : PySem.Expr} {scope : Scope} {pos : Pos} {cl : List (Str × Addr)} {ax : Addr} {its : Array Value} {nn : Nat} {G : Nat → List Value → List (Addr × Obj) → Prop} {J E I C D : Addr} {oE oI : Obj} {t0 t1' : Tok} {i n : Nat} {v : Value} {R : Result → Shared → Prop}
    (hh : A.handled = none) (hkind : scope.kind = .function) (hx2 : scope.names.lookup x2 = some .local) (hne : x1 ≠ x2) (hsz : 2 * n + 2 ≤ sizeLine) (hi : i < n)
    (turn : Turn2 prog w A h₀ L m env elt x1 x2 scope cl s ax its nn G) (hv : its[i]? = some v) (hoE : oE = listOf #[.int 0 t0, .int 1 t1'] 0)
    (hJE : J ≠ E) (hJI : J ≠ I) (hJC : J ≠ C) (hJD : J ≠ D) (hEC : E ≠ C) (hED : E ≠ D) (hIC : I ≠ C) (hID : I ≠ D) (hCD : C ≠ D)
    (fin : ∀ ys h tk oC m₂ news, ys.length = 2 * i + 2 → NsObj oC m₂ → Fr h₀ L h m → News h₀ L h ((E, oE) :: (I, oI) :: (C, oC) :: (D, lst ys) :: news) → (∀ p ∈ news, p.1 ≠ I ∧ p.1 ≠ C ∧ p.1 ≠ D) → (ax, listOf its nn) ∈ news → G (2 * i + 2) ys news → R (.ok .next) { s with heap := h, toks := tk }) :
    ∀ j ys h tk oJ oC m₂ news, j ≤ 2 → ys.length = 2 * i + j → LIter oJ E j → NsObj oC m₂ → m₂ x1 = some v → Fr h₀ L h m → News h₀ L h ((J, oJ) :: (E, oE) :: (I, oI) :: (C, oC) :: (D, lst ys) :: news) →
      (∀ p ∈ news, p.1 ≠ J ∧ p.1 ≠ E ∧ p.1 ≠ I ∧ p.1 ≠ C ∧ p.1 ≠ D) → (ax, listOf its nn) ∈ news → G (2 * i + j) ys news →
      codeAny (model prog w) A (.compLoop (.ListComp elt [⟨t1, i1, [], 0⟩, ⟨.Name x2 px2, i2, [], 0⟩] scope pos) 1 (.ref J) (.ref D) (compEnvC scope cl C env)) R { s with heap := h, toks := tk } := by
  intro j ys h tk oJ oC m₂ news hj hyl hJ hC hm1 F N off hax hG
  refine loop_in (fun k s' => ∃ j ys h tk oJ oC m₂ news, s' = { s with heap := h, toks := tk } ∧ k = 2 - j ∧ j ≤ 2 ∧ ys.length = 2 * i + j ∧ LIter oJ E j ∧ NsObj oC m₂ ∧ m₂ x1 = some v ∧ Fr h₀ L h m ∧ News h₀ L h ((J, oJ) :: (E, oE) :: (I, oI) :: (C, oC) :: (D, lst ys) :: news) ∧
      (∀ p ∈ news, p.1 ≠ J ∧ p.1 ≠ E ∧ p.1 ≠ I ∧ p.1 ≠ C ∧ p.1 ≠ D) ∧ (ax, listOf its nn) ∈ news ∧ G (2 * i + j) ys news) ?_ (2 - j)
    ⟨j, ys, h, tk, oJ, oC, m₂, news, rfl, rfl, hj, hyl, hJ, hC, hm1, F, N, off, hax, hG⟩
  clear hj hyl hJ hC hm1 F N off hax hG
  rintro k s' ⟨j, ys, h, tk, oJ, oC, m₂, news, rfl, rfl, hj, hyl, hJ, hC, hm1, F, N, off, hax, hG⟩
  have nJ := N (J, oJ) (.head _)
  have nE := N (E, oE) (.tail _ (.head _))
  have nC := N (C, oC) (.tail _ (.tail _ (.tail _ (.head _))))
  have nD := N (D, lst ys) (.tail _ (.tail _ (.tail _ (.tail _ (.head _)))))
  have hEl : h.IsList E #[.int 0 t0, .int 1 t1'] := ⟨oE, nE.1, by rw [hoE], 0, by rw [hoE]⟩
  by_cases hj2 : j < 2
  · obtain ⟨t, hb⟩ : ∃ t, (#[Value.int 0 t0, Value.int 1 t1'] : Array Value)[j]? = some (.int (j : Nat) t) := by
      match j, hj2 with
      | 0, _ => exact ⟨t0, rfl⟩
      | 1, _ => exact ⟨t1', rfl⟩
    refine wpAny_pyNext_list_item (hJ.is nJ.1) hEl hb fun h₁ hit hs₁ => ?_
    obtain ⟨oJ', heJ, hJ1, hJ2⟩ := hit
    have F₁ : Fr h₀ L h₁ m := F.change hs₁ nJ.2.1 nJ.2.2
    have N₁ : News h₀ L h₁ ((J, oJ') :: (E, oE) :: (I, oI) :: (C, oC) :: (D, lst ys) :: news) := news_set N hs₁ heJ nJ.2.1 nJ.2.2 fun p hp => by
      rcases List.mem_cons.mp hp with rfl | hp'
      · exact .inl rfl
      · refine .inr ⟨.tail _ hp', ?_⟩
        rcases List.mem_cons.mp hp' with rfl | hp'
        · exact Ne.symm hJE
        rcases List.mem_cons.mp hp' with rfl | hp'
        · exact Ne.symm hJI
        rcases List.mem_cons.mp hp' with rfl | hp'
        · exact Ne.symm hJC
        rcases List.mem_cons.mp hp' with rfl | hp'
        · exact Ne.symm hJD
        · exact (off p hp').1
    have nC₁ := N₁ (C, oC) (.tail _ (.tail _ (.tail _ (.head _))))
    refine wpAny_assign_Name (wpAny_storeName_local (lookup_relabel_local hx2) (hC.ns nC₁.1) (fun h₂ hn₂ hs₂ => ?_) (by simp [compEnvC, relabel, hkind]))
    obtain ⟨oC', heC, hC'⟩ := ns_obj hn₂
    have F₂ : Fr h₀ L h₂ m := F₁.change hs₂ nC₁.2.1 nC₁.2.2
    have N₂ : News h₀ L h₂ ((J, oJ') :: (E, oE) :: (I, oI) :: (C, oC') :: (D, lst ys) :: news) := news_set N₁ hs₂ heC nC₁.2.1 nC₁.2.2 fun p hp => by
      rcases List.mem_cons.mp hp with rfl | hp'
      · exact .inr ⟨.head _, hJC⟩
      rcases List.mem_cons.mp hp' with rfl | hp'
      · exact .inr ⟨.tail _ (.head _), hEC⟩
      rcases List.mem_cons.mp hp' with rfl | hp'
      · exact .inr ⟨.tail _ (.tail _ (.head _)), hIC⟩
      rcases List.mem_cons.mp hp' with rfl | hp'
      · exact .inl rfl
      rcases List.mem_cons.mp hp' with rfl | hp'
      · exact .inr ⟨.tail _ (.tail _ (.tail _ (.tail _ (.head _)))), Ne.symm hCD⟩
      · exact .inr ⟨.tail _ (.tail _ (.tail _ (.tail _ (.tail _ hp')))), (off p hp').2.2.2.1⟩
    refine wpAny_mono (turn i j ys news v t J E I C D oJ' oE oI oC' _ h₂ _ _ hv hj2 hG hax hC' (by simp [hne, hm1]) (by simp) F₂ N₂ off) (fun y s₃ h₃ => ?_) fun _ _ e => e
    obtain ⟨h₃, tk₃, news₃, rfl, F₃, N₃, off₃, hax₃, hG₃⟩ := h₃
    have zD := N₃ (D, lst ys) (.tail _ (.tail _ (.tail _ (.tail _ (.head _)))))
    refine append_at (hsz := by show ys.toArray.size ≤ sizeLine; rw [List.size_toArray, hyl]; omega) zD.1 fun h₅ hs₅ hD₅ => ?_
    refine ⟨2 - (j + 1), by omega, j + 1, ys ++ [y], h₅, tk₃, oJ', oC', _, news₃, rfl, rfl, by omega, by rw [List.length_append, List.length_singleton, hyl]; omega, ⟨hJ1, hJ2⟩, hC', by simp [hne, hm1], F₃.change hs₅ zD.2.1 zD.2.2, news_set N₃ hs₅ (hD₅.trans (congrArg some (lst_snoc ys y))) zD.2.1 zD.2.2 fun p hp => ?_, off₃, hax₃, hG₃⟩
    rcases List.mem_cons.mp hp with rfl | hp'
    · exact .inr ⟨.head _, hJD⟩
    rcases List.mem_cons.mp hp' with rfl | hp'
    · exact .inr ⟨.tail _ (.head _), hED⟩
    rcases List.mem_cons.mp hp' with rfl | hp'
    · exact .inr ⟨.tail _ (.tail _ (.head _)), hID⟩
    rcases List.mem_cons.mp hp' with rfl | hp'
    · exact .inr ⟨.tail _ (.tail _ (.tail _ (.head _))), hCD⟩
    rcases List.mem_cons.mp hp' with rfl | hp'
    · exact .inl rfl
    · exact .inr ⟨.tail _ (.tail _ (.tail _ (.tail _ (.tail _ hp')))), (off₃ p hp').2.2.2.2⟩
  · obtain rfl : j = 2 := by omega
    refine wpAny_pyNext_list_end hh (hJ.is nJ.1) hEl rfl fun h₁ he₁ => ?_
    refine fin ys h₁ tk oC m₂ news hyl hC (fr_ext F he₁ nJ.2.1 nJ.2.2) (news_ext N he₁ fun p hp => ⟨.tail _ hp, ?_⟩) (fun p hp => (off p hp).2.2) hax hG
    rcases List.mem_cons.mp hp with rfl | hp'
    · exact Ne.symm hJE
    rcases List.mem_cons.mp hp' with rfl | hp'
    · exact Ne.symm hJI
    rcases List.mem_cons.mp hp' with rfl | hp'
    · exact Ne.symm hJC
    rcases List.mem_cons.mp hp' with rfl | hp'
    · exact Ne.symm hJD
    · exact (off p hp').1
end
end Mine

end SR110
section SR120
open PySem PySem.W PyProof.Rows PySem.Calls PyProof.Rows.LCg PyProof.Rows.LCt
namespace Mine
theorem ne_of_new {h₀ h : Heap} {L : Addr} {news : List (Addr × Obj)} (N : News h₀ L h news) : ∀ p ∈ news, p.1 ≠ h.objs.size := fun p hp e => by
  have := Heap.lt_size (N p hp).1
  rw [e] at this
  exact absurd this (Nat.lt_irrefl _)
section
variable {prog : Program} {w : World} {A : Around} {E : Value → Shared → Prop} {s : Shared} {h₀ : Heap} {L : Addr} {m : Str → Option Value} {env : Env}
def PairEnd (h₀ : Heap) (L : Addr) (m : Str → Option Value) (s : Shared) (news : List (Addr × Obj)) (x : Value) (s' : Shared) : Prop :=
  ∃ Ea t0 t1 h' tk', x = .ref Ea ∧ s' = { s with heap := h', toks := tk' } ∧ Fr h₀ L h' m ∧ News h₀ L h' ((Ea, listOf #[.int 0 t0, .int 1 t1] 0) :: news) ∧ (∀ p ∈ news, p.1 ≠ Ea)
theorem PairEnd.intro {h₀ : Heap} {L Ea : Addr} {m : Str → Option Value} {s : Shared} {news : List (Addr × Obj)} {t0 t1 : Tok} {h' : Heap} {tk' : Nat} (F : Fr h₀ L h' m) (N : News h₀ L h' ((Ea, listOf #[.int 0 t0, .int 1 t1] 0) :: news)) (h : ∀ p ∈ news, p.1 < Ea) :
    PairEnd h₀ L m s news (.ref Ea) { s with heap := h', toks := tk' } := ⟨Ea, t0, t1, h', tk', rfl, rfl, F, N, fun p hp => Nat.ne_of_lt (h p hp)⟩
def Pair2 (prog : Program) (w : World) (A : Around) (h₀ : Heap) (L : Addr) (m : Str → Option Value) (env : Env) (i2 : PySem.Expr) (scope : Scope) (cl : List (Str × Addr)) (s : Shared) : Prop :=
  ∀ C h tk news (E' : Value → Shared → Prop), Fr h₀ L h m → News h₀ L h news → wpAny (model prog w) A (eval i2 (compEnvC scope cl C env))
    (PairEnd h₀ L m s news) E' { s with heap := h, toks := tk }
theorem outer2 {elt i1 i2 : PySem.Expr} {x1 x2 : Str} {px1 px2 : Pos} {scope : Scope} {pos : Pos} {cl : List (Str × Addr)} {ax : Addr} {its : Array Value} {nn : Nat} {G : Nat → List Value → List (Addr × Obj) → Prop} {I C D : Addr} {R : Result → Shared → Prop}
    (hh : A.handled = none) (hkind : scope.kind = .function) (hx1 : scope.names.lookup x1 = some .local) (hx2 : scope.names.lookup x2 = some .local) (hne : x1 ≠ x2) (hsz : 2 * its.size + 2 ≤ sizeLine)
    (hf : ∀ x, foldedSetIterable i2 (compEnvC scope cl C env) x = pure x)
    (turn : Turn2 prog w A h₀ L m env elt x1 x2 scope cl s ax its nn G) (pr : Pair2 prog w A h₀ L m env i2 scope cl s)
    (hIC : I ≠ C) (hID : I ≠ D) (hCD : C ≠ D)
    (fin : ∀ ys h tk oC m₂ news, NsObj oC m₂ → Fr h₀ L h m → News h₀ L h ((C, oC) :: (D, lst ys) :: news) → (∀ p ∈ news, p.1 ≠ I ∧ p.1 ≠ C ∧ p.1 ≠ D) → G (2 * its.size) ys news → R (.ok .next) { s with heap := h, toks := tk }) :
    ∀ h tk oI oC m₂ news, LIter oI ax 0 → NsObj oC m₂ → Fr h₀ L h m → News h₀ L h ((I, oI) :: (C, oC) :: (D, lst []) :: news) →
      (∀ p ∈ news, p.1 ≠ I ∧ p.1 ≠ C ∧ p.1 ≠ D) → (ax, listOf its nn) ∈ news → G 0 [] news →
      codeAny (model prog w) A (.compLoop (.ListComp elt [⟨.Name x1 px1, i1, [], 0⟩, ⟨.Name x2 px2, i2, [], 0⟩] scope pos) 0 (.ref I) (.ref D) (compEnvC scope cl C env)) R { s with heap := h, toks := tk } := by
  intro h tk oI oC m₂ news hI hC F N off hax hG
  refine loop_out (fun k s' => ∃ i ys h tk oI oC m₂ news, s' = { s with heap := h, toks := tk } ∧ k = its.size - i ∧ i ≤ its.size ∧ ys.length = 2 * i ∧ LIter oI ax i ∧ NsObj oC m₂ ∧ Fr h₀ L h m ∧ News h₀ L h ((I, oI) :: (C, oC) :: (D, lst ys) :: news) ∧
      (∀ p ∈ news, p.1 ≠ I ∧ p.1 ≠ C ∧ p.1 ≠ D) ∧ (ax, listOf its nn) ∈ news ∧ G (2 * i) ys news) ?_ (its.size - 0)
    ⟨0, [], h, tk, oI, oC, m₂, news, rfl, rfl, Nat.zero_le _, rfl, hI, hC, F, N, off, hax, hG⟩ (by intro _; rfl) hf
  clear hI hC F N off hax hG
  rintro k s' ⟨i, ys, h, tk, oI, oC, m₂, news, rfl, rfl, hi, hyl, hI, hC, F, N, off, hax, hG⟩
  have nI := N (I, oI) (.head _)
  have nC := N (C, oC) (.tail _ (.head _))
  have hal : h.IsList ax its := ⟨_, (N _ (.tail _ (.tail _ (.tail _ hax)))).1, rfl, nn, rfl⟩
  by_cases hlt : i < its.size
  · obtain ⟨v, hv⟩ : ∃ v, its[i]? = some v := ⟨its[i], by simp [hlt]⟩
    refine wpAny_pyNext_list_item (hI.is nI.1) hal hv fun h₁ hit hs₁ => ?_
    obtain ⟨oI', heI, hI1, hI2⟩ := hit
    have F₁ : Fr h₀ L h₁ m := F.change hs₁ nI.2.1 nI.2.2
    have N₁ : News h₀ L h₁ ((I, oI') :: (C, oC) :: (D, lst ys) :: news) := news_set N hs₁ heI nI.2.1 nI.2.2 fun p hp => by
      rcases List.mem_cons.mp hp with rfl | hp'
      · exact .inl rfl
      refine .inr ⟨.tail _ hp', ?_⟩
      rcases List.mem_cons.mp hp' with rfl | hp'
      · exact Ne.symm hIC
      rcases List.mem_cons.mp hp' with rfl | hp'
      · exact Ne.symm hID
      · exact (off p hp').1
    have nC₁ := N₁ (C, oC) (.tail _ (.head _))
    refine wpAny_assign_Name (wpAny_storeName_local (lookup_relabel_local hx1) (hC.ns nC₁.1) (fun h₂ hn₂ hs₂ => ?_) (by simp [compEnvC, relabel, hkind]))
    obtain ⟨oC', heC, hC'⟩ := ns_obj hn₂
    have F₂ : Fr h₀ L h₂ m := F₁.change hs₂ nC₁.2.1 nC₁.2.2
    have N₂ : News h₀ L h₂ ((I, oI') :: (C, oC') :: (D, lst ys) :: news) := news_set N₁ hs₂ heC nC₁.2.1 nC₁.2.2 fun p hp => by
      rcases List.mem_cons.mp hp with rfl | hp'
      · exact .inr ⟨.head _, hIC⟩
      rcases List.mem_cons.mp hp' with rfl | hp'
      · exact .inl rfl
      rcases List.mem_cons.mp hp' with rfl | hp'
      · exact .inr ⟨.tail _ (.tail _ (.head _)), Ne.symm hCD⟩
      · exact .inr ⟨.tail _ (.tail _ (.tail _ hp')), (off p hp').2.1⟩
    refine wpAny_mono (pr C h₂ _ _ _ F₂ N₂) (fun x s₃ h₃ => ?_) fun _ _ e => e
    obtain ⟨Ea, t0, t1', h₃, tk₃, rfl, rfl, F₃, N₃, hE⟩ := h₃
    have nE := N₃ (Ea, listOf #[.int 0 t0, .int 1 t1'] 0) (.head _)
    have hEl : h₃.IsList Ea #[.int 0 t0, .int 1 t1'] := ⟨_, nE.1, rfl, 0, rfl⟩
    refine wpAny_pyIter_list hEl fun E' => ?_
    have off₃ := ne_of_new N₃
    have N₄ := News.push F₃ N₃ { cls := .type "list_iterator", data := .fields #[.ref Ea, .int 0 0] }
    have F₄ := F₃.push { cls := .type "list_iterator", data := .fields #[.ref Ea, .int 0 0] }
    have hJE : h₃.objs.size ≠ Ea := Ne.symm (off₃ _ (.head _))
    have hJI : h₃.objs.size ≠ I := Ne.symm (off₃ _ (.tail _ (.head _)))
    have hJC : h₃.objs.size ≠ C := Ne.symm (off₃ _ (.tail _ (.tail _ (.head _))))
    have hJD : h₃.objs.size ≠ D := Ne.symm (off₃ _ (.tail _ (.tail _ (.tail _ (.head _)))))
    have hIE : I ≠ Ea := hE _ (.head _)
    have hCE : C ≠ Ea := hE _ (.tail _ (.head _))
    have hDE : D ≠ Ea := hE _ (.tail _ (.tail _ (.head _)))
    refine wpAny_runOwn ?_
    show codeAny (model prog w) A _ _ _
    have body := fun (R : Result → Shared → Prop) fin' => inner2 (elt := elt) (t1 := .Name x1 px1) (i1 := i1) (i2 := i2) (px2 := px2) (pos := pos) (oI := oI') (q := pos) (R := R) hh hkind hx2 hne hsz hlt turn hv rfl hJE hJI hJC hJD (Ne.symm hCE) (Ne.symm hDE) hIC hID hCD fin' 0 ys _ tk₃ _ oC' _ news (by omega) (by omega)
        ⟨rfl, rfl⟩ hC' (by simp) F₄ N₄ (fun p hp => ⟨off₃ p (.tail _ (.tail _ (.tail _ (.tail _ hp)))), hE p (.tail _ (.tail _ (.tail _ hp))), (off p hp).1, (off p hp).2.1, (off p hp).2.2⟩) hax hG
    have go := body (fun r s' => match r with | .ok f => ∃ m_1, m_1 < its.size - i ∧ ∃ i ys h tk oI oC m₂ news, s' = { s with heap := h, toks := tk } ∧ m_1 = its.size - i ∧ i ≤ its.size ∧ ys.length = 2 * i ∧ LIter oI ax i ∧ NsObj oC m₂ ∧ Fr h₀ L h m ∧ News h₀ L h ((I, oI) :: (C, oC) :: (D, lst ys) :: news) ∧
      (∀ p ∈ news, p.1 ≠ I ∧ p.1 ≠ C ∧ p.1 ≠ D) ∧ (ax, listOf its nn) ∈ news ∧ G (2 * i) ys news | .error e => cameBackBy (model prog w) A (compEnvC scope cl C env) E' e s') (by
        intro ys' h' tk' oC'' m'' news' hyl' hC'' F' N' off' hax' hG'
        refine ⟨its.size - (i + 1), by omega, i + 1, ys', h', tk', oI', oC'', m'', news', rfl, rfl, by omega, by rw [hyl']; omega, ⟨hI1, hI2⟩, hC'', F', fun p hp => N' p (.tail _ hp), off', hax', ?_⟩
        rw [show 2 * (i + 1) = 2 * i + 2 by omega]
        exact hG')
    exact start_in go ((Walks.list (prog := prog) (w := w) hh h₃.objs.size Ea (Ne.symm hJE) #[.int 0 t0, .int 1 t1']).self 0 _ _ _ ⟨⟨_, Heap.get?_push_size _ rfl, rfl, rfl⟩, hEl.at fun o e => Heap.get?_push_of_some _ e⟩ go)
  · obtain rfl : i = its.size := by omega
    refine wpAny_pyNext_list_end hh (hI.is nI.1) hal (by simp) fun h₁ he₁ => ?_
    refine fin ys h₁ tk oC m₂ news hC (fr_ext F he₁ nI.2.1 nI.2.2) (news_ext N he₁ fun p hp => ⟨.tail _ hp, ?_⟩) off hG
    rcases List.mem_cons.mp hp with rfl | hp'
    · exact Ne.symm hIC
    rcases List.mem_cons.mp hp' with rfl | hp'
    · exact Ne.symm hID
    · exact (off p hp').1
end
end Mine
namespace Mine
section
variable {prog : Program} {w : World} {A : Around} {E : Value → Shared → Prop} {s : Shared} {h₀ : Heap} {L : Addr} {m : Str → Option Value} {env : Env}
theorem block_2 {elt i1 i2 : PySem.Expr} {x1 x2 : Str} {px1 px2 : Pos} {scope : Scope} {pos : Pos} {cl : List (Str × Addr)} {ax : Addr} {its : Array Value} {nn : Nat} {G : Nat → List Value → List (Addr × Obj) → Prop} {I : Addr} {oI : Obj} {news : List (Addr × Obj)} {RR : Value → Addr → Result → Shared → Prop}
    (hh : A.handled = none) (hcell : ∀ y ∈ scope.names, y.2 ≠ .cell) (hkind : scope.kind = .function) (hx1 : scope.names.lookup x1 = some .local) (hx2 : scope.names.lookup x2 = some .local) (hne : x1 ≠ x2) (hsz : 2 * its.size + 2 ≤ sizeLine)
    (hf : ∀ C x, foldedSetIterable i2 (compEnvC scope cl C env) x = pure x)
    (turn : Turn2 prog w A h₀ L m env elt x1 x2 scope cl s ax its nn G) (pr : Pair2 prog w A h₀ L m env i2 scope cl s)
    (hI : LIter oI ax 0) (F : Fr h₀ L s.heap m) (N : News h₀ L s.heap ((I, oI) :: news)) (off : ∀ p ∈ news, p.1 ≠ I) (hax : (ax, listOf its nn) ∈ news) (hG : G 0 [] news)
    (hRR : ∀ D C h tk m' ys news', Fr h₀ L h m → News h₀ L h ((D, lst ys) :: news') → (∀ p ∈ news', p.1 ≠ D) → h.Ns C m' → h₀.get? C = none → C ≠ L → C ≠ D → (∀ p ∈ news', p.1 ≠ C) → G (2 * its.size) ys news' → RR (.ref D) C (.ok .next) { s with heap := h, toks := tk }) :
    wpAny (model prog w) A (newList []) (fun acc s₃ => wpAny (model prog w) A (newFunctionEnv scope env.globals cl [] env.qual none .none (some env)) (fun cenv s₄ =>
      codeAny (model prog w) A (.compStart (.ListComp elt [⟨.Name x1 px1, i1, [], 0⟩, ⟨.Name x2 px2, i2, [], 0⟩] scope pos) 0 (.ref I) acc { cenv with scope := relabel scope env }) (RR acc cenv.locals) s₄) E s₃) E s := by
  have N₁ := News.push F N (lst [])
  have F₁ := F.push (lst [])
  have offD := ne_of_new N
  refine wpAny_newObj_type (wpAny_newFunctionEnv hcell (by intro y hy; simp at hy) (fun h₁ hns₁ hsb₁ => ?_) hkind)
  dsimp only at hns₁ hsb₁ ⊢
  have e0 : s.heap.push { cls := .type "list", dict := none, data := .seq ([] : List Value).toArray } = s.heap.push (lst []) := rfl
  rw [e0] at hns₁ hsb₁ ⊢
  generalize hH : s.heap.push (lst []) = H at hns₁ hsb₁ N₁ F₁ ⊢
  have hC0 : h₀.get? H.objs.size = none := next_is_new F₁
  have offC := ne_of_new N₁
  have hCL : H.objs.size ≠ L := Ne.symm (Nat.ne_of_lt F₁.ns.lt)
  have up : ∀ b o, H.get? b = some o → h₁.get? b = some o := fun b o e => hsb₁.extBut b o (Nat.ne_of_lt (Heap.lt_size e)) (Heap.get?_push_of_some _ e)
  obtain ⟨oC, heC, hC⟩ := ns_obj hns₁
  have F₂ : Fr h₀ L h₁ m := F₁.keeps up
  have nI := N (I, oI) (.head _)
  have hIC : I ≠ H.objs.size := offC (I, oI) (.tail _ (.head _))
  have hID : I ≠ s.heap.objs.size := offD (I, oI) (.head _)
  have hCD : H.objs.size ≠ s.heap.objs.size := Ne.symm (offC _ (.head _))
  have N₂ : News h₀ L h₁ ((I, oI) :: (H.objs.size, oC) :: (s.heap.objs.size, lst []) :: news) := fun p hp => by
    rcases List.mem_cons.mp hp with rfl | hp
    · exact ⟨up _ _ (N₁ _ (.tail _ (.head _))).1, nI.2⟩
    rcases List.mem_cons.mp hp with rfl | hp
    · exact ⟨heC, hCL, hC0⟩
    rcases List.mem_cons.mp hp with rfl | hp
    · exact ⟨up _ _ (N₁ _ (.head _)).1, (N₁ _ (.head _)).2⟩
    · exact ⟨up _ _ (N₁ _ (.tail _ (.tail _ hp))).1, (N₁ _ (.tail _ (.tail _ hp))).2⟩
  have off₂ : ∀ p ∈ news, p.1 ≠ I ∧ p.1 ≠ H.objs.size ∧ p.1 ≠ s.heap.objs.size := fun p hp => ⟨off p hp, offC p (.tail _ (.tail _ hp)), offD p (.tail _ hp)⟩
  have hal : h₁.IsList ax its := ⟨_, (N₂ _ (.tail _ (.tail _ (.tail _ hax)))).1, rfl, nn, rfl⟩
  have go := outer2 (elt := elt) (i1 := i1) (px1 := px1) (px2 := px2) (pos := pos) (D := s.heap.objs.size) (R := RR (.ref s.heap.objs.size) H.objs.size) hh hkind hx1 hx2 hne hsz (hf _) turn pr hIC hID hCD
    (fun ys h tk oC' m₂ news' hC' F' N' off' hG' => hRR _ _ h tk m₂ ys news' F' (fun p hp => N' p (.tail _ hp)) (fun p hp => (off' p hp).2.2) (hC'.ns (N' _ (.head _)).1) hC0 hCL hCD (fun p hp => (off' p hp).2.1) hG')
    h₁ (s.toks + ([] : List (Str × Value)).length) oI oC _ news hI hC F₂ N₂ off₂ hax hG
  have hne' : ax ≠ I := fun e => off _ hax e
  exact codeAny_compStart_list go ((Walks.list (prog := prog) (w := w) hh I ax hne' its).self 0 _ _ _ ⟨hI.is (N₂ _ (.head _)).1, hal⟩ go)
def Src2 (prog : Program) (w : World) (A : Around) (h₀ : Heap) (L : Addr) (m : Str → Option Value) (env : Env) (elt i2 : PySem.Expr) (x1 x2 : Str) (scope : Scope) (cl : List (Str × Addr)) (Q : Value → Shared → Prop) (xv : Value) (s₁ : Shared) : Prop :=
  ∃ ax its nn news G, xv = .ref ax ∧ A.handled = none ∧ Fr h₀ L s₁.heap m ∧ News h₀ L s₁.heap news ∧ (ax, listOf its nn) ∈ news ∧ 2 * its.size + 2 ≤ sizeLine ∧ G 0 [] news ∧ Turn2 prog w A h₀ L m env elt x1 x2 scope cl s₁ ax its nn G ∧
    Pair2 prog w A h₀ L m env i2 scope cl s₁ ∧ ∀ ys news' D h tk, G (2 * its.size) ys news' → Fr h₀ L h m → News h₀ L h ((D, lst ys) :: news') → (∀ p ∈ news', p.1 ≠ D) → Q (.ref D) { s₁ with heap := h, toks := tk }
theorem ListComp_2 {elt i1 i2 : PySem.Expr} {x1 x2 : Str} {px1 px2 : Pos} {scope : Scope} {cl : List (Str × Addr)} {pos : Pos} {Q : Value → Shared → Prop} (_F₀ : Fr h₀ L s.heap m)
    (hclos : closureFor scope env = pure cl) (hcell : ∀ y ∈ scope.names, y.2 ≠ .cell) (hkind : scope.kind = .function)
    (hnames : ∀ y ∈ scope.names, y.2 = .local → scope.names.lookup y.1 = some .local) (hx1 : scope.names.lookup x1 = some .local) (hx2 : scope.names.lookup x2 = some .local) (hne : x1 ≠ x2)
    (h : wpAny (model prog w) A (eval i1 env) (Src2 prog w A h₀ L m env elt i2 x1 x2 scope cl Q) E s)
    (hs : ∀ x, foldedSetIterable i1 env x = pure x := by intro _; rfl) (hf : ∀ C x, foldedSetIterable i2 (compEnvC scope cl C env) x = pure x := by intro _ _; rfl) :
    wpAny (model prog w) A (eval (.ListComp elt [⟨.Name x1 px1, i1, [], 0⟩, ⟨.Name x2 px2, i2, [], 0⟩] scope pos) env) Q E s := by
  rw [eval_ListComp]
  refine wpAny_comprehension_free (use := none) rfl hs hclos hkind hnames (wpAny_mono h (fun xv s₁ h₁ => ?_) fun _ _ e => e)
  obtain ⟨ax, its, nn, news, G, rfl, hh, F, N, hax, hsz, hG, turn, pr, fin⟩ := h₁
  have hl : s₁.heap.IsList ax its := ⟨_, (N _ hax).1, rfl, nn, rfl⟩
  refine wpAny_pyIter_list hl ?_
  refine block_2 (s := { s₁ with heap := s₁.heap.push { cls := .type "list_iterator", data := .fields #[.ref ax, .int 0 0] } }) (RR := fun acc C => compPost (model prog w) A E none Q acc C) (oI := { cls := .type "list_iterator", data := .fields #[.ref ax, .int 0 0] }) hh hcell hkind hx1 hx2 hne hsz hf turn pr ⟨rfl, rfl⟩ (F.push _) (News.push F N _) (ne_of_new N) hax hG ?_
  intro D C h tk m' ys news' F' N' offD hn hC₀ hCL hCD offC hG'
  refine ⟨m', hn, fun h'' hs'' => fin ys news' D h'' tk hG' (F'.change hs'' hCL hC₀) (fun p hp => ?_) offD⟩
  refine ⟨hs''.extBut _ _ ?_ (N' p hp).1, (N' p hp).2⟩
  rcases List.mem_cons.mp hp with rfl | hp
  · exact Ne.symm hCD
  · exact offC p hp
end
end Mine

end SR120
section SR130
open PySem PySem.W PyProof.Rows PySem.Calls PyProof.Rows.LCg PyProof.Rows.LCt
namespace Mine
abbrev cellObj : Obj := { cls := .type "cell", data := .cell none }
section
variable {prog : Program} {w : World} {A : Around} {E : Value → Shared → Prop} {s : Shared} {h₀ : Heap} {L : Addr} {m : Str → Option Value} {env : Env}
theorem compEnv_cell {scope : Scope} {cl : List (Str × Addr)} {x : Str} {Q : Env → Shared → Prop} (hc : ∀ n, cellsFrom n scope.names cl = (x, n) :: cl) (hp : ∀ h, pushCells h scope.names = h.push cellObj)
    (hQ : Q (newEnv scope s.heap.objs.size env.globals ((x, s.heap.objs.size + 1) :: cl) env.qual none .none (some env) builtinsNs) { s with heap := (s.heap.push { cls := .type "dict", data := .dict #[] }).push cellObj }) :
    wpAny (model prog w) A (newFunctionEnv scope env.globals cl [] env.qual none .none (some env)) Q E s := by
  simp only [newFunctionEnv, Option.isSome_some, if_true]
  refine wpAny_bind (wpAny_alloc ?_)
  refine wpAny_bind (wpAny_layCells _ (fun name kind cells => by cases hkc : kind == NameKind.cell <;> simp [hkc]) _ _ _ _ ?_)
  rw [hc, hp]
  rw [show ({ s with heap := s.heap.push { cls := .type "dict", data := .dict #[] } } : Shared).heap.objs.size = s.heap.objs.size + 1 from Heap.size_push ..]
  exact wpAny_pure hQ
def EndC (h₀ : Heap) (L : Addr) (m : Str → Option Value) (s₁ : Shared) (I C c D : Addr) (oI oC oc oD : Obj) (rest : Value → List (Addr × Obj) → Prop) (y : Value) (s₂ : Shared) : Prop :=
  ∃ h' tk news', s₂ = { s₁ with heap := h', toks := tk } ∧ Fr h₀ L h' m ∧ News h₀ L h' ((I, oI) :: (C, oC) :: (c, oc) :: (D, oD) :: news') ∧ (∀ p ∈ news', p.1 ≠ I ∧ p.1 ≠ C ∧ p.1 ≠ c ∧ p.1 ≠ D) ∧ rest y news'
def TurnC (prog : Program) (w : World) (A : Around) (h₀ : Heap) (L : Addr) (m : Str → Option Value) (env : Env) (elt : PySem.Expr) (x : Str) (scope : Scope) (cl : List (Str × Addr)) (s : Shared) (ax : Addr) (its : Array Value) (nn : Nat) (G : Nat → List Value → List (Addr × Obj) → Prop) : Prop :=
  ∀ i ys news v I C c D oI oC oc h tk (E' : Value → Shared → Prop), its[i]? = some v → G i ys news → (ax, listOf its nn) ∈ news → oc.data = .cell (some v) →
    Fr h₀ L h m → News h₀ L h ((I, oI) :: (C, oC) :: (c, oc) :: (D, lst ys) :: news) → (∀ p ∈ news, p.1 ≠ I ∧ p.1 ≠ C ∧ p.1 ≠ c ∧ p.1 ≠ D) →
    wpAny (model prog w) A (eval elt (compEnvC scope ((x, c) :: cl) C env)) (EndC h₀ L m { s with heap := h, toks := tk } I C c D oI oC oc (lst ys) (fun y news' => (ax, listOf its nn) ∈ news' ∧ G (i + 1) (ys ++ [y]) news')) E' { s with heap := h, toks := tk }
theorem loopC {elt i1 : PySem.Expr} {x : Str} {px : Pos} {scope : Scope} {pos : Pos} {cl : List (Str × Addr)} {ax : Addr} {its : Array Value} {nn : Nat} {G : Nat → List Value → List (Addr × Obj) → Prop} {I C c D : Addr} {oC : Obj} {R : Result → Shared → Prop}
    (hh : A.handled = none) (hkind : scope.kind = .function) (hxc : (compEnvC scope ((x, c) :: cl) C env).kindOf x = some .cell) (hsz : its.size ≤ sizeLine)
    (turn : TurnC prog w A h₀ L m env elt x scope cl s ax its nn G)
    (hIC : I ≠ C) (hIc : I ≠ c) (hID : I ≠ D) (hCc : C ≠ c) (hCD : C ≠ D) (hcD : c ≠ D)
    (fin : ∀ ys h tk oc news, Fr h₀ L h m → News h₀ L h ((C, oC) :: (c, oc) :: (D, lst ys) :: news) → (∀ p ∈ news, p.1 ≠ I ∧ p.1 ≠ C ∧ p.1 ≠ c ∧ p.1 ≠ D) → G its.size ys news → R (.ok .next) { s with heap := h, toks := tk }) :
    ∀ h tk oI oc v₀ news, LIter oI ax 0 → oc.data = .cell v₀ → Fr h₀ L h m → News h₀ L h ((I, oI) :: (C, oC) :: (c, oc) :: (D, lst []) :: news) →
      (∀ p ∈ news, p.1 ≠ I ∧ p.1 ≠ C ∧ p.1 ≠ c ∧ p.1 ≠ D) → (ax, listOf its nn) ∈ news → G 0 [] news →
      codeAny (model prog w) A (.compLoop (.ListComp elt [⟨.Name x px, i1, [], 0⟩] scope pos) 0 (.ref I) (.ref D) (compEnvC scope ((x, c) :: cl) C env)) R { s with heap := h, toks := tk } := by
  intro h tk oI oc v₀ news hI hc F N off hax hG
  refine codeAny_compLoop_list (fun k s' => ∃ i ys h tk oI oc v₀ news, s' = { s with heap := h, toks := tk } ∧ k = its.size - i ∧ i ≤ its.size ∧ ys.length = i ∧ LIter oI ax i ∧ oc.data = .cell v₀ ∧ Fr h₀ L h m ∧ News h₀ L h ((I, oI) :: (C, oC) :: (c, oc) :: (D, lst ys) :: news) ∧
      (∀ p ∈ news, p.1 ≠ I ∧ p.1 ≠ C ∧ p.1 ≠ c ∧ p.1 ≠ D) ∧ (ax, listOf its nn) ∈ news ∧ G i ys news) ?_ (its.size - 0)
    ⟨0, [], h, tk, oI, oc, v₀, news, rfl, rfl, Nat.zero_le _, rfl, hI, hc, F, N, off, hax, hG⟩
  clear hI hc F N off hax hG
  rintro k s' ⟨i, ys, h, tk, oI, oc, v₀, news, rfl, rfl, hi, hyl, hI, hc, F, N, off, hax, hG⟩
  have nI := N (I, oI) (.head _)
  have nc := N (c, oc) (.tail _ (.tail _ (.head _)))
  have hal : h.IsList ax its := ⟨_, (N _ (.tail _ (.tail _ (.tail _ (.tail _ hax))))).1, rfl, nn, rfl⟩
  by_cases hlt : i < its.size
  · obtain ⟨v, hv⟩ : ∃ v, its[i]? = some v := ⟨its[i], by simp [hlt]⟩
    refine wpAny_pyNext_list_item (hI.is nI.1) hal hv fun h₁ hit hs₁ => ?_
    obtain ⟨oI', heI, hI1, hI2⟩ := hit
    have F₁ : Fr h₀ L h₁ m := F.change hs₁ nI.2.1 nI.2.2
    have N₁ : News h₀ L h₁ ((I, oI') :: (C, oC) :: (c, oc) :: (D, lst ys) :: news) := news_set N hs₁ heI nI.2.1 nI.2.2 fun p hp => by
      rcases List.mem_cons.mp hp with rfl | hp'
      · exact .inl rfl
      refine .inr ⟨.tail _ hp', ?_⟩
      rcases List.mem_cons.mp hp' with rfl | hp'
      · exact Ne.symm hIC
      rcases List.mem_cons.mp hp' with rfl | hp'
      · exact Ne.symm hIc
      rcases List.mem_cons.mp hp' with rfl | hp'
      · exact Ne.symm hID
      · exact (off p hp').1
    have nc₁ := N₁ (c, oc) (.tail _ (.tail _ (.head _)))
    refine wpAny_assign_Name (wpAny_storeName_cell (c := c) (by simp [compEnvC, relabel, hkind]) hxc (by simp [compEnvC, List.lookup]) ⟨oc, nc₁.1, hc⟩ (fun h₂ hc₂ hs₂ => ?_))
    obtain ⟨oc', hec, hc'⟩ := hc₂
    have F₂ : Fr h₀ L h₂ m := F₁.change hs₂ nc₁.2.1 nc₁.2.2
    have N₂ : News h₀ L h₂ ((I, oI') :: (C, oC) :: (c, oc') :: (D, lst ys) :: news) := news_set N₁ hs₂ hec nc₁.2.1 nc₁.2.2 fun p hp => by
      rcases List.mem_cons.mp hp with rfl | hp'
      · exact .inr ⟨.head _, hIc⟩
      rcases List.mem_cons.mp hp' with rfl | hp'
      · exact .inr ⟨.tail _ (.head _), hCc⟩
      rcases List.mem_cons.mp hp' with rfl | hp'
      · exact .inl rfl
      rcases List.mem_cons.mp hp' with rfl | hp'
      · exact .inr ⟨.tail _ (.tail _ (.tail _ (.head _))), Ne.symm hcD⟩
      · exact .inr ⟨.tail _ (.tail _ (.tail _ (.tail _ hp'))), (off p hp').2.2.1⟩
    refine wpAny_mono (turn i ys news v I C c D oI' oC oc' h₂ _ _ hv hG hax hc' F₂ N₂ off) (fun y s₃ h₃ => ?_) fun _ _ e => e
    obtain ⟨h₃, tk₃, news₃, rfl, F₃, N₃, off₃, hax₃, hG₃⟩ := h₃
    have zD := N₃ (D, lst ys) (.tail _ (.tail _ (.tail _ (.head _))))
    refine append_at (hsz := by show ys.toArray.size ≤ sizeLine; rw [List.size_toArray, hyl]; omega) zD.1 fun h₅ hs₅ hD₅ => ?_
    refine ⟨its.size - (i + 1), by omega, i + 1, ys ++ [y], h₅, tk₃, oI', oc', some v, news₃, rfl, rfl, by omega, by rw [List.length_append, List.length_singleton, hyl], ⟨hI1, hI2⟩, hc', F₃.change hs₅ zD.2.1 zD.2.2, news_set N₃ hs₅ (hD₅.trans (congrArg some (lst_snoc ys y))) zD.2.1 zD.2.2 fun p hp => ?_, off₃, hax₃, hG₃⟩
    rcases List.mem_cons.mp hp with rfl | hp'
    · exact .inr ⟨.head _, hID⟩
    rcases List.mem_cons.mp hp' with rfl | hp'
    · exact .inr ⟨.tail _ (.head _), hCD⟩
    rcases List.mem_cons.mp hp' with rfl | hp'
    · exact .inr ⟨.tail _ (.tail _ (.head _)), hcD⟩
    rcases List.mem_cons.mp hp' with rfl | hp'
    · exact .inl rfl
    · exact .inr ⟨.tail _ (.tail _ (.tail _ (.tail _ hp'))), (off₃ p hp').2.2.2⟩
  · obtain rfl : i = its.size := by omega
    refine wpAny_pyNext_list_end hh (hI.is nI.1) hal (by simp) fun h₁ he₁ => ?_
    refine fin ys h₁ tk oc news (fr_ext F he₁ nI.2.1 nI.2.2) (news_ext N he₁ fun p hp => ⟨.tail _ hp, ?_⟩) off hG
    rcases List.mem_cons.mp hp with rfl | hp'
    · exact Ne.symm hIC
    rcases List.mem_cons.mp hp' with rfl | hp'
    · exact Ne.symm hIc
    rcases List.mem_cons.mp hp' with rfl | hp'
    · exact Ne.symm hID
    · exact (off p hp').1
theorem block_C {elt i1 : PySem.Expr} {x : Str} {px : Pos} {scope : Scope} {pos : Pos} {cl : List (Str × Addr)} {ax : Addr} {its : Array Value} {nn : Nat} {G : Nat → List Value → List (Addr × Obj) → Prop} {I : Addr} {oI : Obj} {news : List (Addr × Obj)} {RR : Value → Addr → Result → Shared → Prop}
    (hh : A.handled = none) (hcs : ∀ n, cellsFrom n scope.names cl = (x, n) :: cl) (hps : ∀ h, pushCells h scope.names = h.push cellObj) (hkind : scope.kind = .function) (hxc : ∀ C c, (compEnvC scope ((x, c) :: cl) C env).kindOf x = some .cell) (hsz : its.size ≤ sizeLine)
    (turn : TurnC prog w A h₀ L m env elt x scope cl s ax its nn G)
    (hI : LIter oI ax 0) (F : Fr h₀ L s.heap m) (N : News h₀ L s.heap ((I, oI) :: news)) (off : ∀ p ∈ news, p.1 ≠ I) (hax : (ax, listOf its nn) ∈ news) (hG : G 0 [] news)
    (hRR : ∀ D C h tk m' ys news', Fr h₀ L h m → News h₀ L h ((D, lst ys) :: news') → (∀ p ∈ news', p.1 ≠ D) → h.Ns C m' → h₀.get? C = none → C ≠ L → C ≠ D → (∀ p ∈ news', p.1 ≠ C) → G its.size ys news' → RR (.ref D) C (.ok .next) { s with heap := h, toks := tk }) :
    wpAny (model prog w) A (newList []) (fun acc s₃ => wpAny (model prog w) A (newFunctionEnv scope env.globals cl [] env.qual none .none (some env)) (fun cenv s₄ =>
      codeAny (model prog w) A (.compStart (.ListComp elt [⟨.Name x px, i1, [], 0⟩] scope pos) 0 (.ref I) acc { cenv with scope := relabel scope env }) (RR acc cenv.locals) s₄) E s₃) E s := by
  have N₁ := News.push F N (lst [])
  have F₁ := F.push (lst [])
  have offD := ne_of_new N
  refine wpAny_newObj_type (compEnv_cell hcs hps ?_)
  dsimp only
  have e0 : s.heap.push { cls := .type "list", dict := none, data := .seq ([] : List Value).toArray } = s.heap.push (lst []) := rfl
  rw [e0]
  generalize hH : s.heap.push (lst []) = H at N₁ F₁ ⊢
  have N₂ := News.push F₁ N₁ { cls := .type "dict", data := .dict #[] }
  have F₂ := F₁.push { cls := .type "dict", data := .dict #[] }
  have offC := ne_of_new N₁
  have hC0 : h₀.get? H.objs.size = none := next_is_new F₁
  have hCL : H.objs.size ≠ L := Ne.symm (Nat.ne_of_lt F₁.ns.lt)
  have hns := Heap.Ns.new H (.type "dict")
  have hsz1 : (H.push { cls := .type "dict", data := .dict #[] }).objs.size = H.objs.size + 1 := Heap.size_push ..
  generalize hH2 : H.push { cls := .type "dict", data := .dict #[] } = H2 at N₂ F₂ hns hsz1 ⊢
  have N₃ := News.push F₂ N₂ cellObj
  have F₃ := F₂.push cellObj
  have offc := ne_of_new N₂
  rw [hsz1] at N₃ offc
  have hns3 : (H2.push cellObj).Ns H.objs.size (fun _ => none) := hns.keeps fun b o e => Heap.get?_push_of_some _ e
  have hIC : I ≠ H.objs.size := offC (I, oI) (.tail _ (.head _))
  have hID : I ≠ s.heap.objs.size := offD (I, oI) (.head _)
  have hCD : H.objs.size ≠ s.heap.objs.size := Ne.symm (offC _ (.head _))
  have hIc : I ≠ H.objs.size + 1 := offc (I, oI) (.tail _ (.tail _ (.head _)))
  have hCc : H.objs.size ≠ H.objs.size + 1 := offc _ (.head _)
  have hcD : H.objs.size + 1 ≠ s.heap.objs.size := Ne.symm (offc _ (.tail _ (.head _)))
  have N₄ : News h₀ L (H2.push cellObj) ((I, oI) :: (H.objs.size, { cls := .type "dict", data := .dict #[] }) :: (H.objs.size + 1, cellObj) :: (s.heap.objs.size, lst []) :: news) := fun p hp => by
    rcases List.mem_cons.mp hp with rfl | hp
    · exact N₃ _ (.tail _ (.tail _ (.tail _ (.head _))))
    rcases List.mem_cons.mp hp with rfl | hp
    · exact N₃ _ (.tail _ (.head _))
    rcases List.mem_cons.mp hp with rfl | hp
    · exact N₃ _ (.head _)
    rcases List.mem_cons.mp hp with rfl | hp
    · exact N₃ _ (.tail _ (.tail _ (.head _)))
    · exact N₃ _ (.tail _ (.tail _ (.tail _ (.tail _ hp))))
  have off₄ : ∀ p ∈ news, p.1 ≠ I ∧ p.1 ≠ H.objs.size ∧ p.1 ≠ H.objs.size + 1 ∧ p.1 ≠ s.heap.objs.size := fun p hp =>
    ⟨off p hp, offC p (.tail _ (.tail _ hp)), offc p (.tail _ (.tail _ (.tail _ hp))), offD p (.tail _ hp)⟩
  have hal : (H2.push cellObj).IsList ax its := ⟨_, (N₄ _ (.tail _ (.tail _ (.tail _ (.tail _ hax))))).1, rfl, nn, rfl⟩
  have go := loopC (elt := elt) (i1 := i1) (px := px) (pos := pos) (D := s.heap.objs.size) (oC := { cls := .type "dict", data := .dict #[] }) (R := RR (.ref s.heap.objs.size) H.objs.size) hh hkind (hxc H.objs.size _) hsz turn hIC hIc hID hCc hCD hcD
    (fun ys h tk oc' news' F' N' off' hG' => hRR _ _ h tk (fun _ => none) ys news' F' (fun p hp => N' p (.tail _ (.tail _ hp))) (fun p hp => (off' p hp).2.2.2)
      (hns3.at' fun o e => by rw [(N₄ _ (.tail _ (.head _))).1] at e; exact e ▸ (N' _ (.head _)).1) hC0 hCL hCD (fun p hp => (off' p hp).2.1) hG')
    (H2.push cellObj) s.toks oI cellObj none news hI rfl F₃ N₄ off₄ hax hG
  have hne' : ax ≠ I := fun e => off _ hax e
  exact codeAny_compStart_list go ((Walks.list (prog := prog) (w := w) hh I ax hne' its).self 0 _ _ _ ⟨hI.is (N₄ _ (.head _)).1, hal⟩ go)
def SrcC (prog : Program) (w : World) (A : Around) (h₀ : Heap) (L : Addr) (m : Str → Option Value) (env : Env) (elt : PySem.Expr) (x : Str) (scope : Scope) (cl : List (Str × Addr)) (Q : Value → Shared → Prop) (xv : Value) (s₁ : Shared) : Prop :=
  ∃ ax its nn news G, xv = .ref ax ∧ A.handled = none ∧ Fr h₀ L s₁.heap m ∧ News h₀ L s₁.heap news ∧ (ax, listOf its nn) ∈ news ∧ its.size ≤ sizeLine ∧ G 0 [] news ∧ TurnC prog w A h₀ L m env elt x scope cl s₁ ax its nn G ∧
    ∀ ys news' D h tk, G its.size ys news' → Fr h₀ L h m → News h₀ L h ((D, lst ys) :: news') → (∀ p ∈ news', p.1 ≠ D) → Q (.ref D) { s₁ with heap := h, toks := tk }
theorem ListComp_C {elt i1 : PySem.Expr} {x : Str} {px : Pos} {scope : Scope} {cl : List (Str × Addr)} {pos : Pos} {Q : Value → Shared → Prop} (_F₀ : Fr h₀ L s.heap m)
    (hclos : closureFor scope env = pure cl) (hcs : ∀ n, cellsFrom n scope.names cl = (x, n) :: cl) (hps : ∀ h, pushCells h scope.names = h.push cellObj) (hkind : scope.kind = .function)
    (hnames : ∀ y ∈ scope.names, y.2 = .local → scope.names.lookup y.1 = some .local) (hxc : ∀ C c, (compEnvC scope ((x, c) :: cl) C env).kindOf x = some .cell)
    (h : wpAny (model prog w) A (eval i1 env) (SrcC prog w A h₀ L m env elt x scope cl Q) E s)
    (hs : ∀ x, foldedSetIterable i1 env x = pure x := by intro _; rfl) :
    wpAny (model prog w) A (eval (.ListComp elt [⟨.Name x px, i1, [], 0⟩] scope pos) env) Q E s := by
  rw [eval_ListComp]
  refine wpAny_comprehension_free (use := none) rfl hs hclos hkind hnames (wpAny_mono h (fun xv s₁ h₁ => ?_) fun _ _ e => e)
  obtain ⟨ax, its, nn, news, G, rfl, hh, F, N, hax, hsz, hG, turn, fin⟩ := h₁
  have hl : s₁.heap.IsList ax its := ⟨_, (N _ hax).1, rfl, nn, rfl⟩
  refine wpAny_pyIter_list hl ?_
  refine block_C (s := { s₁ with heap := s₁.heap.push { cls := .type "list_iterator", data := .fields #[.ref ax, .int 0 0] } }) (RR := fun acc C => compPost (model prog w) A E none Q acc C) (oI := { cls := .type "list_iterator", data := .fields #[.ref ax, .int 0 0] }) hh hcs hps hkind hxc hsz turn ⟨rfl, rfl⟩ (F.push _) (News.push F N _) (ne_of_new N) hax hG ?_
  intro D C h tk m' ys news' F' N' offD hn hC₀ hCL hCD offC hG'
  refine ⟨m', hn, fun h'' hs'' => fin ys news' D h'' tk hG' (F'.change hs'' hCL hC₀) (fun p hp => ?_) offD⟩
  refine ⟨hs''.extBut _ _ ?_ (N' p hp).1, (N' p hp).2⟩
  rcases List.mem_cons.mp hp with rfl | hp
  · exact Ne.symm hCD
  · exact offC p hp
end
end Mine
namespace Mine
theorem names_cells {g h : Heap} {L a1 a2 a3 a4 a5 : Addr} {o1 o2 o3 o4 o5 : Obj} {news : List (Addr × Obj)} (_N : News g L h ((a1, o1) :: (a2, o2) :: (a3, o3) :: (a4, o4) :: (a5, o5) :: news)) :
    ∃ g' L' p1 p2 p3 p4 p5, g' = g ∧ L' = L ∧ p1 = o1 ∧ p2 = o2 ∧ p3 = o3 ∧ p4 = o4 ∧ p5 = o5 := ⟨_, _, _, _, _, _, _, rfl, rfl, rfl, rfl, rfl, rfl, rfl⟩
theorem off_cell {L : Addr} {news : List (Addr × Obj)} (h : ∀ p ∈ news, p.1 < L) (k : Nat) : ∀ p ∈ news, p.1 ≠ (L + k : Nat) := fun p hp e => by
  have h1 : @LT.lt Nat _ p.1 L := h p hp
  have h2 : @Eq Nat p.1 (L + k) := e
  omega
theorem data_cell {o : Obj} {v w : Option Value} (h : o.data = .cell v) (e : v = w) : o.data = .cell w := e ▸ h
end Mine
namespace Mine
structure RSt where
  D : Addr
  oR : Obj
  as : List Value
  ep : Nat
  led : List (Addr × Obj)
def OffC (L : Addr) (l : List (Addr × Obj)) : Prop := ∀ p ∈ l, p.1 ≠ L + 1 ∧ p.1 ≠ L + 1 + 1 ∧ p.1 ≠ L + 1 + 1 + 1 ∧ p.1 ≠ L + 1 + 1 + 1 + 1 ∧ p.1 ≠ L + 1 + 1 + 1 + 1 + 1
theorem OffC.cons {L a : Addr} {o : Obj} {l : List (Addr × Obj)} (h : OffC L l) (h1 : L + 1 < a ∧ L + 1 + 1 < a ∧ L + 1 + 1 + 1 < a ∧ L + 1 + 1 + 1 + 1 < a ∧ L + 1 + 1 + 1 + 1 + 1 < a) : OffC L ((a, o) :: l) := fun p hp => by
  rcases List.mem_cons.mp hp with rfl | hp
  · exact ⟨Ne.symm (Nat.ne_of_lt h1.1), Ne.symm (Nat.ne_of_lt h1.2.1), Ne.symm (Nat.ne_of_lt h1.2.2.1), Ne.symm (Nat.ne_of_lt h1.2.2.2.1), Ne.symm (Nat.ne_of_lt h1.2.2.2.2)⟩
  · exact h p hp
theorem OffC.consN {L a : Addr} {o : Obj} {l : List (Addr × Obj)} (h : OffC L l) (h1 : a ≠ L + 1 ∧ a ≠ L + 1 + 1 ∧ a ≠ L + 1 + 1 + 1 ∧ a ≠ L + 1 + 1 + 1 + 1 ∧ a ≠ L + 1 + 1 + 1 + 1 + 1) : OffC L ((a, o) :: l) := fun p hp => by
  rcases List.mem_cons.mp hp with rfl | hp
  · exact h1
  · exact h p hp
theorem OffC.append {L : Addr} {l r : List (Addr × Obj)} (h : OffC L l) (h1 : OffC L r) : OffC L (l ++ r) := fun p hp => by
  rcases List.mem_append.mp hp with hp | hp
  · exact h p hp
  · exact h1 p hp
def pre2 (W : List (List Int)) (q : Nat) : List (List Int) := (W.flatMap fun r => [r ++ [0], r ++ [1]]).take q
theorem flat_at {W : List (List Int)} {i j : Nat} {r : List Int} (h : W[i]? = some r) (hj : j < 2) : (W.flatMap fun r => [r ++ [0], r ++ [1]])[2 * i + j]? = some (r ++ [(j : Int)]) := by
  induction W generalizing i with
  | nil => simp at h
  | cons x W ih =>
    cases i with
    | zero =>
      cases h
      match j, hj with
      | 0, _ => rfl
      | 1, _ => rfl
    | succ i =>
      rw [List.getElem?_cons_succ] at h
      have := ih h
      rw [List.flatMap_cons, List.getElem?_append_right (by simp; omega)]
      rw [← this]
      congr 1
      simp only [List.length_cons, List.length_nil]
      omega
theorem pre2_succ {W : List (List Int)} {i j : Nat} {r : List Int} (h : W[i]? = some r) (hj : j < 2) : pre2 W (2 * i + j + 1) = pre2 W (2 * i + j) ++ [r ++ [(j : Int)]] := by
  rw [pre2, List.take_add_one, flat_at h hj]
  rfl
theorem pre2_all {W : List (List Int)} {n : Nat} (h : W.length = n) : pre2 W (2 * n) = W.flatMap fun r => [r ++ [0], r ++ [1]] := by
  rw [pre2, List.take_of_length_le]
  subst h
  induction W with
  | nil => exact Nat.le_refl _
  | cons x W ih =>
    rw [List.flatMap_cons, List.length_append]
    simp only [List.length_cons, List.length_nil]
    omega
def G2 (L1 : Addr) (om os oR on ow : Obj) (D : Addr) (oD : Obj) (own led news : List (Addr × Obj)) (W : List (List Int)) (q : Nat) (ys : List Value) (nx : List (Addr × Obj)) : Prop :=
  ∃ tl, nx = (D, oD) :: (L1 + 1 + 1 + 1 + 1 + 1, om) :: (L1 + 1 + 1 + 1 + 1, os) :: (L1 + 1 + 1 + 1, oR) :: (L1 + 1 + 1, on) :: (L1 + 1, ow) :: (tl ++ own) ∧ (∀ p ∈ led, p ∈ tl) ∧ Paired (RowAt tl) ys (pre2 W q) ∧ (NoDict news → NoDict tl) ∧ OffC L1 tl ∧ OwnOff own (tl.map (·.1))
theorem ownOff_cons {own : List (Addr × Obj)} {a : Addr} {l : List Addr} (h : OwnOff own l) (h1 : ∀ p ∈ own, p.1 ≠ a) : OwnOff own (a :: l) := fun p hp b hb => by
  rcases List.mem_cons.mp hb with rfl | hb
  · exact h1 p hp
  · exact h p hp b hb
theorem Src2.intro {prog : Program} {w : World} {A : Around} {h₀ : Heap} {L : Addr} {m : Str → Option Value} {env : Env} {elt i2 : PySem.Expr} {x1 x2 : Str} {scope : Scope} {cl : List (Str × Addr)} {Q : Value → Shared → Prop} {s₁ : Shared} {ax : Addr} {its : Array Value} {nn : Nat} {news : List (Addr × Obj)}
    (G : Nat → List Value → List (Addr × Obj) → Prop) (hh : A.handled = none) (F : Fr h₀ L s₁.heap m) (N : News h₀ L s₁.heap news) (hm : (ax, listOf its nn) ∈ news) (hsz : 2 * its.size + 2 ≤ sizeLine) (g0 : G 0 [] news)
    (turn : Turn2 prog w A h₀ L m env elt x1 x2 scope cl s₁ ax its nn G) (pr : Pair2 prog w A h₀ L m env i2 scope cl s₁)
    (fin : ∀ ys news' D h tk, G (2 * its.size) ys news' → Fr h₀ L h m → News h₀ L h ((D, lst ys) :: news') → (∀ p ∈ news', p.1 ≠ D) → Q (.ref D) { s₁ with heap := h, toks := tk }) :
    Src2 prog w A h₀ L m env elt i2 x1 x2 scope cl Q (.ref ax) s₁ := ⟨ax, its, nn, news, G, rfl, hh, F, N, hm, hsz, g0, turn, pr, fin⟩
theorem End2.intro {h₀ : Heap} {L : Addr} {m : Str → Option Value} {s₁ : Shared} {J E I C D : Addr} {oJ oE oI oC oD : Obj} {rest : Value → List (Addr × Obj) → Prop} {y : Value} {h' : Heap} {tk : Nat} {all : List (Addr × Obj)} (news' : List (Addr × Obj))
    (F : Fr h₀ L h' m) (N : News h₀ L h' all) (sub : ∀ p ∈ (J, oJ) :: (E, oE) :: (I, oI) :: (C, oC) :: (D, oD) :: news', p ∈ all) (off : ∀ p ∈ news', p.1 ≠ J ∧ p.1 ≠ E ∧ p.1 ≠ I ∧ p.1 ≠ C ∧ p.1 ≠ D) (r : rest y news') :
    End2 h₀ L m s₁ J E I C D oJ oE oI oC oD rest y { s₁ with heap := h', toks := tk } := ⟨h', tk, news', rfl, F, fun p hp => N p (sub p hp), off, r⟩
theorem EndC.intro {h₀ : Heap} {L : Addr} {m : Str → Option Value} {s₁ : Shared} {I C c D : Addr} {oI oC oc oD : Obj} {rest : Value → List (Addr × Obj) → Prop} {y : Value} {h' : Heap} {tk : Nat} {all : List (Addr × Obj)} (news' : List (Addr × Obj))
    (F : Fr h₀ L h' m) (N : News h₀ L h' all) (sub : ∀ p ∈ (I, oI) :: (C, oC) :: (c, oc) :: (D, oD) :: news', p ∈ all) (off : ∀ p ∈ news', p.1 ≠ I ∧ p.1 ≠ C ∧ p.1 ≠ c ∧ p.1 ≠ D) (r : rest y news') :
    EndC h₀ L m s₁ I C c D oI oC oc oD rest y { s₁ with heap := h', toks := tk } := ⟨h', tk, news', rfl, F, fun p hp => N p (sub p hp), off, r⟩
theorem SrcC.intro {prog : Program} {w : World} {A : Around} {h₀ : Heap} {L : Addr} {m : Str → Option Value} {env : Env} {elt : PySem.Expr} {x : Str} {scope : Scope} {cl : List (Str × Addr)} {Q : Value → Shared → Prop} {s₁ : Shared} {ax : Addr} {its : Array Value} {nn : Nat} {news : List (Addr × Obj)}
    (G : Nat → List Value → List (Addr × Obj) → Prop) (hh : A.handled = none) (F : Fr h₀ L s₁.heap m) (N : News h₀ L s₁.heap news) (hm : (ax, listOf its nn) ∈ news) (hsz : its.size ≤ sizeLine) (g0 : G 0 [] news)
    (turn : TurnC prog w A h₀ L m env elt x scope cl s₁ ax its nn G)
    (fin : ∀ ys news' D h tk, G its.size ys news' → Fr h₀ L h m → News h₀ L h ((D, lst ys) :: news') → (∀ p ∈ news', p.1 ≠ D) → Q (.ref D) { s₁ with heap := h, toks := tk }) :
    SrcC prog w A h₀ L m env elt x scope cl Q (.ref ax) s₁ := ⟨ax, its, nn, news, G, rfl, hh, F, N, hm, hsz, g0, turn, fin⟩
theorem names_rows {g h : Heap} {L Dr Er : Addr} {oM oS oR oN oW : Obj} {a5 a4 a3 a2 a1 : Addr} {news : List (Addr × Obj)} (_N : News g L h ((Dr, listOf #[.ref Er] 0) :: (Er, listOf #[] 0) :: (a5, oM) :: (a4, oS) :: (a3, oR) :: (a2, oN) :: (a1, oW) :: news)) :
    ∃ d e r n, d = Dr ∧ e = Er ∧ r = oR ∧ n = oN := ⟨_, _, _, _, rfl, rfl, rfl, rfl⟩
theorem names_add {h₀ h : Heap} {L T1 T2 : Addr} {ws : List Value} {o : Obj} {k : Nat} {r : List (Addr × Obj)} (_N : News h₀ L h ((T1, listOf ws.toArray k) :: (T2, o) :: r)) : ∃ a b c, a = T1 ∧ b = ws ∧ c = T2 := ⟨_, _, _, rfl, rfl, rfl⟩
theorem wordsN_len : ∀ n, (wordsN n).length = 2 ^ n
  | 0 => rfl
  | n + 1 => by
    have ih := wordsN_len n
    rw [wordsN]
    have : ∀ W : List (List Int), (W.flatMap fun r => [r ++ [0], r ++ [1]]).length = 2 * W.length := by
      intro W
      induction W with
      | nil => rfl
      | cons x W ih => rw [List.flatMap_cons, List.length_append, ih]; simp only [List.length_cons, List.length_nil]; omega
    rw [this, ih, Nat.pow_succ]
    omega
theorem wordsN_le {n k : Nat} (h : k < n) (hn : n < 6) : (wordsN k).length ≤ 32 := by
  rw [wordsN_len]
  have : 2 ^ k ≤ 2 ^ 5 := Nat.pow_le_pow_right (by decide) (by omega)
  omega
end Mine
namespace Mine
theorem wordsN_mem : ∀ (n : Nat) (r : List Int), r ∈ wordsN n → r.length = n ∧ Bits r
  | 0, r, h => by rw [wordsN, List.mem_singleton] at h; subst h; exact ⟨rfl, fun _ hb => nomatch hb⟩
  | n + 1, r, h => by
    rw [wordsN] at h
    obtain ⟨a, ha, hr⟩ := List.mem_flatMap.mp h
    obtain ⟨h1, h2⟩ := wordsN_mem n a ha
    rcases List.mem_cons.mp hr with rfl | hr
    · refine ⟨by rw [List.length_append, h1]; rfl, fun b hb => ?_⟩
      rcases List.mem_append.mp hb with hb | hb
      · exact h2 b hb
      · exact .inl (List.mem_singleton.mp hb)
    · rw [List.mem_singleton.mp hr]
      refine ⟨by rw [List.length_append, h1]; rfl, fun b hb => ?_⟩
      rcases List.mem_append.mp hb with hb | hb
      · exact h2 b hb
      · exact .inr (List.mem_singleton.mp hb)
end Mine
namespace Mine
theorem names_set {g h : Heap} {L a0 a1 a2 a3 a4 : Addr} {o0 o1 o2 o3 o4 : Obj} {r : List (Addr × Obj)} (_N : News g L h ((a0, o0) :: (a1, o1) :: (a2, o2) :: (a3, o3) :: (a4, o4) :: r)) : ∃ x, x = o4 := ⟨_, rfl⟩
end Mine
namespace Mine
def posList (r : List Int) : Nat → List Int
  | 0 => []
  | k + 1 => if r.getD k 0 = 1 then posList r k ++ [(k : Int) + 1] else posList r k
theorem posList_sum (r : List Int) : ∀ k, (posList r k).sum = posSum r k
  | 0 => rfl
  | k + 1 => by
    rw [posList, posSum]
    split
    · rw [List.sum_append, posList_sum r k]; simp
    · rw [posList_sum r k]; simp
theorem posList_len (r : List Int) : ∀ k, (posList r k).length ≤ k
  | 0 => Nat.le_refl _
  | k + 1 => by
    have := posList_len r k
    rw [posList]
    split
    · rw [List.length_append]; simp only [List.length_cons, List.length_nil]; omega
    · omega
theorem names_c {g h : Heap} {L D0 : Addr} {o : Obj} {r : List (Addr × Obj)} (_N : News g L h ((D0, o) :: r)) : ∃ x, x = D0 := ⟨_, rfl⟩
end Mine
namespace Mine
theorem vt_snoc {W : List (List Int)} {ys : List Value} {i : Nat} {r : List Int} {f : List Int → Int} (t : Tok) (h : IntsAre ys ((W.take i).map f)) (hr : W[i]? = some r) : IntsAre (ys ++ [.int (f r) t]) ((W.take (i + 1)).map f) := by
  rw [List.take_add_one, hr, List.map_append]
  exact h.append (.cons _ _ .nil)
theorem sel_yes {W : List (List Int)} {i : Nat} {r : List Int} {p : List Int → Bool} (hr : W[i]? = some r) (hp : p r = true) : (W.take (i + 1)).filter p = (W.take i).filter p ++ [r] := by
  rw [List.take_add_one, hr, List.filter_append]
  simp [hp]
theorem sel_no {W : List (List Int)} {i : Nat} {r : List Int} {p : List Int → Bool} (hr : W[i]? = some r) (hp : p r = false) : (W.take (i + 1)).filter p = (W.take i).filter p := by
  rw [List.take_add_one, hr, List.filter_append]
  simp [hp]
theorem names_os {g h : Heap} {L a0 a1 a2 a3 : Addr} {o0 o1 o2 o3 : Obj} {r : List (Addr × Obj)} (_N : News g L h ((a0, o0) :: (a1, o1) :: (a2, o2) :: (a3, o3) :: r)) : ∃ x, x = o3 := ⟨_, rfl⟩
end Mine
namespace Mine
theorem names_om {g h : Heap} {L a0 a1 a2 a3 : Addr} {o0 o1 o2 o3 : Obj} {r : List (Addr × Obj)} (_N : News g L h ((a0, o0) :: (a1, o1) :: (a2, o2) :: (a3, o3) :: r)) : ∃ x, x = o3 := ⟨_, rfl⟩
theorem abs_cell {o : Obj} {k : Int} {t : Tok} (h : o.data = .cell (some (.int k t))) : ∃ t', o.data = .cell (some (.int k t')) := ⟨t, h⟩
end Mine

end SR130
section SECode0
local macro_rules | `(tactic| walk_at "zz") => `(tactic| fail)
local macro_rules | `(tactic| walk_at "zz") => `(tactic| fail)
local macro_rules | `(tactic| walk_at "zz") => `(tactic| fail)
local macro_rules | `(tactic| walk_at "zz") => `(tactic| fail)
local macro_rules | `(tactic| walk_at "zz") => `(tactic| fail)
local macro_rules | `(tactic| walk_at "zz") => `(tactic| fail)
local macro_rules | `(tactic| ke_room) => `(tactic| ktr_units)
local macro_rules | `(tactic| units_room) => `(tactic| ktr_units)
local macro_rules | `(tactic| k_room) => `(tactic| ktr_room)
local macro_rules | `(tactic| walk_at "exec For") => `(tactic| (k_here; (rename Fr _ _ _ _ => lF'); (with_unfolding_all refine' Mine.for_stop lF' ?k1 ?k2 ?_); (case k1 => with_unfolding_all exact rfl); (case k2 => with_unfolding_all exact rfl)))
local macro_rules | `(tactic| walk_at "exec For Name Call cons nil") => `(tactic| (k_here; (rename Fr _ _ _ _ => lF'); (with_unfolding_all refine' Mine.for_stop lF' ?k1 ?k2 ?_); (case k1 => with_unfolding_all exact rfl); (case k2 => with_unfolding_all exact rfl)))
local macro_rules | `(tactic| walk_at "exec For Name Name cons nil") => `(tactic| (k_here; (rename Fr _ _ _ _ => lF'); (with_unfolding_all refine' Mine.for_stop lF' ?k1 ?k2 ?_); (case k1 => with_unfolding_all exact rfl); (case k2 => with_unfolding_all exact rfl)))
local macro_rules | `(tactic| walk_at "call builtin:len") => `(tactic| (k_here; (with_reducible show wpAny _ _ (call (Value.builtin "len") [Value.ref _]) _ _ _); k_dflt (refine' Mine.len_led ?k0 ?k1 ?k2 ?k3 ?_; (case k0 => k_asm); (case k1 => kcf_m); (case k2 => assumption); (case k3 => omega)); (try dsimp only); (try k_fold)))
local macro_rules | `(tactic| walk_at "CompSrc") => `(tactic| (k_here; refine Mine.src_stop ?_))
local macro_rules | `(tactic| walk_at "CompSrcT") => `(tactic| (k_here; refine Mine.srcT_stop ?_))
local macro_rules | `(tactic| walk_at "exec Assign cons ListComp") => `(tactic| (k_here; k_dflt (refine wpAny_Assign_Name ?_ (by with_unfolding_all rfl))))
local macro_rules | `(tactic| walk_at "eval ListComp") => `(tactic| (k_here; first
  | ((with_reducible show wpAny _ _ (eval (PySem.Expr.ListComp _ [_, _] _ _) _) _ _ _); k_dflt (refine Mine.ListComp_2 (_F₀ := by k_asm) (by with_unfolding_all rfl) (by decide) (by rfl) (by decide) (by rfl) (by rfl) (by decide) ?_))
  | ((with_reducible show wpAny _ _ (eval (PySem.Expr.ListComp _ [PySem.Comprehension.mk _ _ [] _] _ _) _) _ _ _); k_dflt (refine Mine.ListComp_C (_F₀ := by k_asm) (by with_unfolding_all rfl) (by intro _; with_unfolding_all rfl) (by intro _; with_unfolding_all rfl) (by rfl) (by decide) (by intro _ _; with_unfolding_all rfl) ?_))
  | ((with_reducible show wpAny _ _ (eval (PySem.Expr.ListComp _ [PySem.Comprehension.mk _ _ [_] _] _ _) _) _ _ _); k_dflt (refine LCt.ListComp_T (F₀ := by k_asm) (by with_unfolding_all rfl) (by decide) (by rfl) (by decide) (by rfl) ?_)); (try dsimp only)))
namespace Mine
theorem code_spec {w : World} {p : Program} {loose : List Str} {mean : ExcName → Option Value} {mg mb : Str → Option Value} {dp un : Nat} {gd : Option (List Code)} {cn : Str} {cs : Scope} {a : Addr} {ccd : Value} {cl : List (Str × Addr)} {outer : List Env} {A₀ : Around} {base h₀ : Heap} {L : Addr} {m : Str → Option Value} {s : Shared} {Q E : Value → Shared → Prop}
  {l1 : Addr} {v1 : List Value} {n1 : Nat} {x1 : List Int}{news : List (Addr × Obj)}
  (B : Below A₀ base outer h₀) (F : Fr h₀ L s.heap m) (X : (hd.heap_39 w.params).In h₀) (N : News h₀ L s.heap news) (T : Top p loose mean mg mb h₀) (hk : cs.kind = .function)
  (hl1 : (l1, listOf v1.toArray n1) ∈ news) (hi1 : IntsAre v1 x1) (hpos : 1 ≤ x1.length) (hfew : x1.length < 6)
  (hdp : dp + 4 < recursionLimit) (hun : un + 400 < cLine)
  (hret : ∀ (D : Addr) (ep : Nat) (as : List Value) (led : List (Addr × Obj)) (h' : Heap) (tk' : Nat), Paired (RowAt led) as (lawCode x1) → (NoDict news → NoDict led) → (∀ p ∈ news, p ∈ led) → Fr h₀ L h' m → News h₀ L h' ((D, listOf as.toArray ep) :: led) → Q (.ref D) { s with heap := h', toks := tk' }) :
  wpAny (model PySem.Challenge.rw_fe5012_01.row.prog w) (ktrTop dp un gd cn cs L a ccd cl outer) (call (.ref 75) [.ref l1] []) Q E s := by
  w_top off
  refine wpAny_call ?_
  k_dflt keq_hits
  rename News _ _ _ _ => lN
  obtain ⟨g1, L1, om, os, or_, on, ow, rfl, rfl, rfl, rfl, rfl, rfl, rfl⟩ := Mine.names_cells lN
  rename ∀ p ∈ news, Prod.fst p < L1 => hlt
  have hoff0 : ∀ p ∈ news, p.1 ≠ L1 := fun p hp => Nat.ne_of_lt (hlt p hp)
  have hoff1 : ∀ p ∈ news, p.1 ≠ L1 + 1 := Mine.off_cell hlt 1
  have hoff2 : ∀ p ∈ news, p.1 ≠ L1 + 1 + 1 := Mine.off_cell hlt 2
  have hoff3 : ∀ p ∈ news, p.1 ≠ L1 + 1 + 1 + 1 := Mine.off_cell hlt 3
  have hoff4 : ∀ p ∈ news, p.1 ≠ L1 + 1 + 1 + 1 + 1 := Mine.off_cell hlt 4
  have hoff5 : ∀ p ∈ news, p.1 ≠ L1 + 1 + 1 + 1 + 1 + 1 := Mine.off_cell hlt 5
  clear hlt
  k_steps
  refine Mine.stop_in ?_
  rename IsRange _ _ _ _ _ _ _ _ => rgX
  rename Fr _ _ _ _ => lF
  rename News _ _ _ _ => lN
  obtain ⟨Dr, Er, oR, oN, rfl, rfl, rfl, rfl⟩ := Mine.names_rows lN
  rename Obj.data oN = _ => hdN
  rename Obj.data oR = _ => hdR
  rename Obj.data ow = _ => hdW0
  have hdW : ow.data = .cell (some (.ref l1)) := Mine.data_cell hdW0 (by with_unfolding_all rfl)
  clear hdW0
  rename _ ∧ _ ∧ _ ∧ _ ∧ _ ∧ AllLt Er news => lzE
  rename _ ∧ _ ∧ _ ∧ _ ∧ _ ∧ _ ∧ AllLt Dr news => lzD
  refine Mine.loop_range (σ := Mine.RSt) (n := x1.length) (fun _ => []) []
    (fun k q nx => nx = (q.D, listOf q.as.toArray q.ep) :: (L1 + 1 + 1 + 1 + 1 + 1, om) :: (L1 + 1 + 1 + 1 + 1, os) :: (L1 + 1 + 1 + 1, q.oR) :: (L1 + 1 + 1, oN) :: (L1 + 1, ow) :: q.led ∧
      q.oR.data = .cell (some (.ref q.D)) ∧ Paired (Mine.RowAt q.led) q.as (Mine.wordsN k) ∧ (∀ p ∈ news, p ∈ q.led) ∧ (Mine.NoDict news → Mine.NoDict q.led) ∧ Mine.OffC L1 ((q.D, listOf q.as.toArray q.ep) :: q.led) ∧ ∀ p ∈ q.led, p.1 ≠ q.D)
    ⟨Dr, oR, [.ref Er], 0, (Er, listOf #[] 0) :: news⟩ rfl rgX (small_one (by omega) (by omega) (by omega) (by omega)) (by rw [rangeSize_nat]; omega) lF lN _ ?hn (fun _ h => nomatch h) ⟨rfl, hdR, ?g1, fun p hp => .tail _ hp, fun h => Mine.nod_cons Mine.nod_list h, ?g2, ?g3⟩ ?turn ?done
  case hn => ((repeat' (first | exact List.forall_mem_nil _ | refine List.forall_mem_cons.mpr (And.intro ?_ ?_) | refine List.forall_mem_append.mpr (And.intro ?_ ?_) | kcf_m | (intro p9 h9; kcf_m))); done)
  case g1 => exact .cons ⟨Er, [], 0, rfl, .head _, .nil⟩ .nil
  case g2 => exact Mine.OffC.cons (Mine.OffC.cons (fun p hp => ⟨hoff1 p hp, hoff2 p hp, hoff3 p hp, hoff4 p hp, hoff5 p hp⟩) (by refine ⟨?_, ?_, ?_, ?_, ?_⟩ <;> (refine ltN ?_; omega))) (by refine ⟨?_, ?_, ?_, ?_, ?_⟩ <;> (refine ltN ?_; dsimp only; omega))
  case g3 =>
    intro p hp
    rcases List.mem_cons.mp hp with rfl | hp
    · refine neN ?_
      dsimp only
      omega
    · exact Nat.ne_of_lt (allLt_iff.mp lzD.2.2.2.2.2.2 p hp)
  case turn =>
    rintro k z ⟨D0, oR0, as, ep, led⟩ nx t u h tk own hkn hz hoff ⟨rfl, hdR0, hpr, hsub, hnd, hoc, hled⟩ F₁ N₁
    dsimp only at hdR0 hpr hsub hnd hoc hled F₁ N₁ hoff ⊢
    have hW32 := Mine.wordsN_le hkn hfew
    have hasl : as.length ≤ 32 := by rw [hpr.length]; exact hW32
    clear lF lN rgX
    have F₁b : Fr g1 L1 h _ := F₁
    have N₁b : News g1 L1 h _ := N₁
    clear F₁ N₁
    simp only [List.cons_append] at N₁b
    have hownled : OwnOff own (led.map (·.1)) := fun p hp b hb => hoff p hp b (by simp only [List.map_cons]; exact .tail _ (.tail _ (.tail _ (.tail _ (.tail _ (.tail _ hb))))))
    have hownC : Mine.OffC L1 own := fun p hp => ⟨hoff p hp _ (by simp), hoff p hp _ (by simp), hoff p hp _ (by simp), hoff p hp _ (by simp), hoff p hp _ (by simp)⟩
    have hocl : Mine.OffC L1 led := fun p hp => hoc p (.tail _ hp)
    have hocD := hoc _ (.head _)
    k_steps
    rename Fr _ _ _ _ => lF
    rename News _ _ _ _ => lN
    refine Mine.Src2.intro (Mine.G2 L1 om os oR0 oN ow D0 (listOf as.toArray ep) own led news (Mine.wordsN k)) rfl lF lN (.head _) (by rw [sizeLine_eq, List.size_toArray]; omega) ⟨led, rfl, fun _ h => h, .nil, hnd, hocl, hownled⟩ ?turn2 ?pair2 ?fin2
    case turn2 =>
      rintro i j ys nx v tb J E0 I C D oJ oE oI oC m₂ h tk E' hv hj ⟨tl, rfl, hlt, hpy, hnt, hot, hown⟩ hax hC hm1 hm2 F₂ N₂ off
      rw [List.getElem?_toArray] at hv
      obtain ⟨r, hr, aR, vR, eR, rfl, hmR, hiR⟩ := Mine.paired_at hpr hv
      have hrl := (Mine.wordsN_mem k r (List.mem_of_getElem? hr)).1
      have hmR' := hlt _ hmR
      clear lF lN
      k_steps
      rename Fr _ _ _ _ => lF
      rename News _ _ _ _ => lN
      obtain ⟨Ta, wsN, Tb, rfl, rfl, rfl⟩ := Mine.names_add lN
      rename IntsAre wsN _ => hiN
      rename _ ∧ _ ∧ _ ∧ _ ∧ _ ∧ _ ∧ _ ∧ _ ∧ _ ∧ _ ∧ _ ∧ AllLt Tb _ => lzb
      rename _ ∧ _ ∧ _ ∧ _ ∧ _ ∧ _ ∧ _ ∧ _ ∧ _ ∧ _ ∧ _ ∧ _ ∧ AllLt Ta _ => lza
      have lzb' := allLt_iff.mp lzb.2.2.2.2.2.2.2.2.2.2.2
      have lza' := allLt_iff.mp lza.2.2.2.2.2.2.2.2.2.2.2.2
      refine Mine.End2.intro ((D0, listOf as.toArray ep) :: (L1 + 1 + 1 + 1 + 1 + 1, om) :: (L1 + 1 + 1 + 1 + 1, os) :: (L1 + 1 + 1 + 1, oR0) :: (L1 + 1 + 1, oN) :: (L1 + 1, ow) :: ((Ta, listOf wsN.toArray _) :: (Tb, _) :: tl ++ own)) lF lN (by simp only [List.cons_append]; ((repeat' (first | exact List.forall_mem_nil _ | refine List.forall_mem_cons.mpr (And.intro ?_ ?_) | refine List.forall_mem_append.mpr (And.intro ?_ ?_) | kcf_m | (intro p9 h9; kcf_m))); done)) ?off ⟨.head _, (Ta, listOf wsN.toArray _) :: (Tb, _) :: tl, rfl, fun p hp => .tail _ (.tail _ (hlt p hp)), ?pp, fun hn => Mine.nod_cons Mine.nod_list (Mine.nod_cons Mine.nod_list (hnt hn)), ?oc, ?oo⟩
      case off =>
        intro p hp
        rcases List.mem_cons.mp hp with rfl | hp
        · exact off _ (by kcf_m)
        rcases List.mem_cons.mp hp with rfl | hp
        · exact off _ (by kcf_m)
        rcases List.mem_cons.mp hp with rfl | hp
        · exact off _ (by kcf_m)
        rcases List.mem_cons.mp hp with rfl | hp
        · exact off _ (by kcf_m)
        rcases List.mem_cons.mp hp with rfl | hp
        · exact off _ (by kcf_m)
        rcases List.mem_cons.mp hp with rfl | hp
        · exact off _ (by kcf_m)
        rcases List.mem_cons.mp hp with rfl | hp
        · exact ⟨by k_ne, by k_ne, by k_ne, by k_ne, by k_ne⟩
        rcases List.mem_cons.mp hp with rfl | hp
        · exact ⟨by k_ne, by k_ne, by k_ne, by k_ne, by k_ne⟩
        · exact off _ (by kcf_m)
      case pp =>
        rw [Mine.pre2_succ hr hj]
        exact (Mine.Paired.mapR (fun a b h => h.mono fun p hp => .tail _ (.tail _ hp)) hpy).snoc ⟨Ta, wsN, _, rfl, .head _, hiN⟩
      case oc => exact Mine.OffC.cons (Mine.OffC.cons hot (by refine ⟨?_, ?_, ?_, ?_, ?_⟩ <;> (refine ltN ?_; omega))) (by refine ⟨?_, ?_, ?_, ?_, ?_⟩ <;> (refine ltN ?_; omega))
      case oo =>
        rw [List.map_cons, List.map_cons]
        exact Mine.ownOff_cons (Mine.ownOff_cons hown fun p hp => Nat.ne_of_lt (lzb' p (List.mem_append_right _ hp))) fun p hp => Nat.ne_of_lt (lza' p (List.mem_append_right _ hp))
    case pair2 =>
      intro C h tk nw E' F₂ N₂
      clear lF lN
      k_steps
      rename Fr _ _ _ _ => lF
      rename News _ _ _ _ => lN
      rename ∀ p ∈ nw, _ => lz
      exact Mine.PairEnd.intro lF lN lz
    case fin2 =>
      rintro ys nx D' h tk ⟨tl, rfl, hlt, hpy, hnt, hot, hown⟩ F₂ N₂ offD
      clear lF lN
      have q5 : @Ne Nat D' (L1 + 1 + 1 + 1 + 1 + 1) := Ne.symm (offD (L1 + 1 + 1 + 1 + 1 + 1, om) (by kcf_m))
      have q4 : @Ne Nat D' (L1 + 1 + 1 + 1 + 1) := Ne.symm (offD (L1 + 1 + 1 + 1 + 1, os) (by kcf_m))
      have q3 : @Ne Nat D' (L1 + 1 + 1 + 1) := Ne.symm (offD (L1 + 1 + 1 + 1, oR0) (by kcf_m))
      have q2 : @Ne Nat D' (L1 + 1 + 1) := Ne.symm (offD (L1 + 1 + 1, oN) (by kcf_m))
      have q1 : @Ne Nat D' (L1 + 1) := Ne.symm (offD (L1 + 1, ow) (by kcf_m))
      have q0 : @Ne Nat D0 (L1 + 1 + 1 + 1) := hocD.2.2.1
      have hot3 : ∀ p ∈ tl ++ own, p.1 ≠ L1 + 1 + 1 + 1 := fun p hp => (Mine.OffC.append hot hownC p hp).2.2.1
      have N₃ : News g1 L1 h ((D', listOf ys.toArray ys.length) :: _) := N₂
      clear N₂
      (try dsimp only)
      k_steps
      rename Fr _ _ _ _ => lF
      rename News _ _ _ _ => lN
      obtain ⟨oR', rfl⟩ := Mine.names_set lN
      rename Obj.data oR' = _ => hdR'
      refine' Mine.gs_end ⟨D', oR', ys, ys.length, (D0, listOf as.toArray ep) :: tl⟩ ((D', listOf ys.toArray ys.length) :: (L1 + 1 + 1 + 1 + 1 + 1, om) :: (L1 + 1 + 1 + 1 + 1, os) :: (L1 + 1 + 1 + 1, oR') :: (L1 + 1 + 1, oN) :: (L1 + 1, ow) :: (D0, listOf as.toArray ep) :: tl) lF lN ?h1 ?h2 ?h3 (fun _ h => nomatch h) (by (intro z h1 h2 h3; (try (have h2' := h2 _ (List.Mem.head _); dsimp only at h2')); (try (simp only [List.contains_cons, List.contains_nil, Bool.or_false, Bool.or_eq_false_iff, beq_eq_false_iff_ne, ne_eq] at h3)); first | rfl | (simp [kstB, h1, h3]; done) | (simp [kstB, h1, h2', h3]; done) | (simp [kstB, h1]; done))) ⟨rfl, hdR', ?h4, ?h5, fun hn => Mine.nod_cons Mine.nod_list (hnt hn), ?h6, ?h7⟩
      case h1 => ((repeat' (first | exact List.forall_mem_nil _ | refine List.forall_mem_cons.mpr (And.intro ?_ ?_) | refine List.forall_mem_append.mpr (And.intro ?_ ?_) | kcf_m | (intro p9 h9; kcf_m))); done)
      case h2 => ((repeat' (first | exact List.forall_mem_nil _ | refine List.forall_mem_cons.mpr (And.intro ?_ ?_) | refine List.forall_mem_append.mpr (And.intro ?_ ?_) | kcf_m | (intro p9 h9; kcf_m))); done)
      case h3 =>
        simp only [List.map_cons]
        refine Mine.ownOff_cons (Mine.ownOff_cons (Mine.ownOff_cons (Mine.ownOff_cons (Mine.ownOff_cons (Mine.ownOff_cons (Mine.ownOff_cons hown fun p hp => ?_) fun p hp => (hownC p hp).1) fun p hp => (hownC p hp).2.1) fun p hp => (hownC p hp).2.2.1) fun p hp => (hownC p hp).2.2.2.1) fun p hp => (hownC p hp).2.2.2.2) fun p hp => ?_
        · exact hoff p hp _ (by simp)
        · exact offD p (by kcf_m)
      case h4 =>
        dsimp only
        rw [List.size_toArray, hpr.length, Mine.pre2_all rfl] at hpy
        exact Mine.Paired.mapR (fun a b h => h.mono fun p hp => .tail _ hp) hpy
      case h5 => exact fun p hp => .tail _ (hlt p (hsub p hp))
      case h6 => exact Mine.OffC.consN (Mine.OffC.consN hot hocD) ⟨q1, q2, q3, q4, q5⟩
      case h7 =>
        intro p hp
        rcases List.mem_cons.mp hp with rfl | hp
        · exact offD _ (by kcf_m)
        · exact offD _ (by kcf_m)
  case done =>
    rintro ⟨D0, oR0, as, ep, led⟩ nx u h tk ⟨rfl, hdR0, hpr, hsub, hnd, hoc, hled⟩ F₁ N₁
    dsimp only at hdR0 hpr hsub hnd hoc hled F₁ N₁ ⊢
    have hW32 : (Mine.wordsN x1.length).length ≤ 32 := by
      rw [Mine.wordsN_len]
      have : 2 ^ x1.length ≤ 2 ^ 5 := Nat.pow_le_pow_right (by decide) (by omega)
      omega
    have hasl : as.length ≤ 32 := by rw [hpr.length]; exact hW32
    clear lF lN rgX
    have F₁b : Fr g1 L1 h _ := F₁
    have N₁b : News g1 L1 h _ := N₁
    clear F₁ N₁
    have hocl : Mine.OffC L1 led := fun p hp => hoc p (.tail _ hp)
    have hocD := hoc _ (.head _)
    k_steps
    rename Fr _ _ _ _ => lF
    rename News _ _ _ _ => lN
    refine Mine.SrcC.intro (fun i ys nx => nx = _ ∧ IntsAre ys ((List.take i (Mine.wordsN x1.length)).map fun r => Mine.vtSum r x1.length)) rfl lF lN (.head _) (by rw [sizeLine_eq, List.size_toArray]; omega) ⟨rfl, .nil⟩ ?turn3 ?fin3
    case turn3 =>
      rintro i ys nx v I C c D oI oC oc h tk E' hv ⟨rfl, hzs⟩ hax hdc F₂ N₂ off
      rw [List.getElem?_toArray] at hv
      obtain ⟨r, hr, aR, vR, eR, rfl, hmR, hiR⟩ := Mine.paired_at hpr hv
      have hrl := (Mine.wordsN_mem _ r (List.mem_of_getElem? hr)).1
      clear lF lN
      k_steps
      refine Mine.stop_in ?_
      rename Fr _ _ _ _ => lF
      rename News _ _ _ _ => lN
      rename IsRange _ _ _ _ _ _ _ _ => rgX
      refine LCt.CompSrcT.range (n := x1.length) (by rfl) lF lN rgX (small_one (by omega) (by omega) (by omega) (by omega)) (by rw [rangeSize_nat]; omega) (by rw [sizeLine_eq]; omega) ?_
      intro g3
      refine Mine.restT_inv (fun i q nx => nx = _ ∧ IntsAre q (Mine.posList r i)) ⟨rfl, .nil⟩ ?turn4 ?fin4
      case turn4 =>
        rintro i' q nx v I' oI' C' oC' D' m₂ h tk E' hin ⟨rfl, hq⟩ ⟨t, rfl⟩ hC hx F₂ N₂ off' ne
        rw [Int.zero_add] at hx
        clear lF lN rgX
        k_steps
        · rename Fr _ _ _ _ => lF
          rename News _ _ _ _ => lN
          rename List.getD r _ 0 = 1 => h1
          rw [Int.toNat_natCast] at h1
          refine LCg.CompEnd.intro lF lN _ (fun _ h => h) off' True.intro ⟨rfl, ?_⟩
          rw [Mine.posList, if_pos h1]
          exact hq.append (.cons _ _ .nil)
        · rename Fr _ _ _ _ => lF
          rename News _ _ _ _ => lN
          rename List.getD r _ 0 ≠ 1 => h1
          rw [Int.toNat_natCast] at h1
          refine LCg.CompEnd.intro lF lN _ (fun _ h => h) off' True.intro ⟨rfl, ?_⟩
          rw [Mine.posList, if_neg h1]
          exact hq
      case fin4 =>
        rintro q nx ⟨rfl, hq⟩ D' h tk F₃ N₃ off'
        have hql := Mine.posList_len r x1.length
        have N₆ : News g1 L1 h ((D', listOf q.toArray q.length) :: _) := N₃
        clear lF lN rgX N₃
        k_steps
        rename Fr _ _ _ _ => lF
        rename News _ _ _ _ => lN
        have e : Mine.vtSum r x1.length = Int.fmod (List.sum (Mine.posList r x1.length)) ((x1.length : Int) + 1) := by rw [Mine.vtSum, Mine.posList_sum]
        refine Mine.EndC.intro _ lF lN (by ((repeat' (first | exact List.forall_mem_nil _ | refine List.forall_mem_cons.mpr (And.intro ?_ ?_) | refine List.forall_mem_append.mpr (And.intro ?_ ?_) | kcf_m | (intro p9 h9; kcf_m))); done)) off ⟨hax, rfl, ?_⟩
        have q5 := Mine.vt_snoc (f := fun r => Mine.vtSum r x1.length) 0 hzs hr
        (try dsimp only at q5)
        rw [e] at q5
        exact Mine.ints_tok q5
    case fin3 =>
      rintro ys nx D' h tk ⟨rfl, hzs⟩ F₂ N₂ offD
      clear lF lN
      rw [List.size_toArray, hpr.length, List.take_length] at hzs
      have q5 : @Ne Nat D' (L1 + 1 + 1 + 1 + 1 + 1) := Ne.symm (offD (L1 + 1 + 1 + 1 + 1 + 1, om) (by kcf_m))
      have q4 : @Ne Nat D' (L1 + 1 + 1 + 1 + 1) := Ne.symm (offD (L1 + 1 + 1 + 1 + 1, os) (by kcf_m))
      have q04 : @Ne Nat D0 (L1 + 1 + 1 + 1 + 1) := hocD.2.2.2.1
      have q05 : @Ne Nat D0 (L1 + 1 + 1 + 1 + 1 + 1) := hocD.2.2.2.2
      have hl4 : ∀ p ∈ led, p.1 ≠ L1 + 1 + 1 + 1 + 1 := fun p hp => (hocl p hp).2.2.2.1
      have hl5 : ∀ p ∈ led, p.1 ≠ L1 + 1 + 1 + 1 + 1 + 1 := fun p hp => (hocl p hp).2.2.2.2
      have hm1 := hsub _ hl1
      have N₃ : News g1 L1 h ((D', listOf ys.toArray ys.length) :: _) := N₂
      clear N₂
      (try dsimp only)
      k_steps
      refine Mine.stop_in ?_
      rename Fr _ _ _ _ => lF
      rename News _ _ _ _ => lN
      rename IsRange _ _ _ _ _ _ _ _ => rgX
      obtain ⟨oS, rfl⟩ := Mine.names_os lN
      rename Obj.data oS = _ => hdS
      refine LCt.CompSrcT.range (n := x1.length) (by rfl) lF lN rgX (small_one (by omega) (by omega) (by omega) (by omega)) (by rw [rangeSize_nat]; omega) (by rw [sizeLine_eq]; omega) ?_
      intro g5
      refine Mine.restT_inv (fun i q nx => nx = _ ∧ IntsAre q (Mine.posList x1 i)) ⟨rfl, .nil⟩ ?turn5 ?fin5
      case turn5 =>
        rintro i' q nx v I' oI' C' oC' D5 m₂ h tk E' hin ⟨rfl, hq⟩ ⟨t, rfl⟩ hC hx F₂ N₂ off' ne
        rw [Int.zero_add] at hx
        clear lF lN rgX
        k_steps
        · rename Fr _ _ _ _ => lF
          rename News _ _ _ _ => lN
          rename List.getD x1 _ 0 = 1 => h1
          rw [Int.toNat_natCast] at h1
          refine LCg.CompEnd.intro lF lN _ (fun _ h => h) off' True.intro ⟨rfl, ?_⟩
          rw [Mine.posList, if_pos h1]
          exact hq.append (.cons _ _ .nil)
        · rename Fr _ _ _ _ => lF
          rename News _ _ _ _ => lN
          rename List.getD x1 _ 0 ≠ 1 => h1
          rw [Int.toNat_natCast] at h1
          refine LCg.CompEnd.intro lF lN _ (fun _ h => h) off' True.intro ⟨rfl, ?_⟩
          rw [Mine.posList, if_neg h1]
          exact hq
      case fin5 =>
        rintro q nx ⟨rfl, hq⟩ D5 h tk F₃ N₃ off'
        have hql := Mine.posList_len x1 x1.length
        have w5 : @Ne Nat D5 (L1 + 1 + 1 + 1 + 1 + 1) := Mine.off1_ne off' (o := om) (by kcf_m)
        have N₆ : News g1 L1 h ((D5, listOf q.toArray q.length) :: _) := N₃
        clear lF lN rgX N₃
        have hlas : ((as.length : Nat) : Int) = ((as.length : Nat) : Int) := rfl
        k_steps
        refine Mine.stop_in ?_
        rename Fr _ _ _ _ => lF
        rename News _ _ _ _ => lN
        rename IsRange _ _ _ _ _ _ _ _ => rgX
        obtain ⟨oM, rfl⟩ := Mine.names_om lN
        rename Obj.data oM = _ => hdM
        obtain ⟨tM, hdM⟩ := Mine.abs_cell hdM
        rw [Mine.posList_sum] at hdM
        refine LCt.CompSrcT.range (n := as.length) (by rfl) lF lN rgX (small_one (by omega) (by omega) (by omega) (by omega)) (by rw [rangeSize_nat]; omega) (by rw [sizeLine_eq]; omega) ?_
        intro g6
        refine Mine.restT_inv (fun i q nx => nx = _ ∧ Paired (Mine.RowAt led) q ((List.take i (Mine.wordsN x1.length)).filter fun r => decide (Mine.vtSum r x1.length = Mine.vtSum x1 x1.length))) ⟨rfl, .nil⟩ ?turn6 ?fin6
        case turn6 =>
          rintro i' q' nx v I' oI' C' oC' D6 m₂ h tk E' hin ⟨rfl, hq'⟩ ⟨t, rfl⟩ hC hx F₂ N₂ off' ne
          rw [Int.zero_add] at hx
          obtain ⟨vr, hvr⟩ : ∃ vr, as[i']? = some vr := ⟨as[i'], List.getElem?_eq_getElem hin⟩
          obtain ⟨r, hr, hrow⟩ := Mine.paired_at hpr hvr
          have hvr' : as[Int.toNat ((i' : Nat) : Int)]? = some vr := by rw [Int.toNat_natCast]; exact hvr
          have hyl : ((Mine.wordsN x1.length).map fun r => Mine.vtSum r x1.length).length = as.length := by rw [List.length_map, hpr.length]
          have hyv : ((Mine.wordsN x1.length).map fun r => Mine.vtSum r x1.length).getD (Int.toNat ((i' : Nat) : Int)) 0 = Mine.vtSum r x1.length := by
            rw [Int.toNat_natCast, List.getD_eq_getElem?_getD, List.getElem?_map, hr]; rfl
          clear lF lN rgX
          k_steps
          · rename Fr g1 L1 h _ => lF
            rename News g1 L1 h _ => lN
            rename List.getD (List.map _ _) _ 0 = _ => h1
            rw [hyv] at h1
            refine LCg.CompEnd.intro lF lN _ (fun _ h => h) off' True.intro ⟨rfl, ?_⟩
            rw [Mine.sel_yes hr (by exact decide_eq_true h1)]
            exact hq'.snoc hrow
          · rename Fr g1 L1 h _ => lF
            rename News g1 L1 h _ => lN
            rename List.getD (List.map _ _) _ 0 ≠ _ => h1
            rw [hyv] at h1
            refine LCg.CompEnd.intro lF lN _ (fun _ h => h) off' True.intro ⟨rfl, ?_⟩
            rw [Mine.sel_no hr (by exact decide_eq_false h1)]
            exact hq'
        case fin6 =>
          rintro q' nx ⟨rfl, hq'⟩ D6 h tk F₃ N₃ off'
          clear lF lN rgX
          k_steps
          rename News h₀ L _ _ => kN
          rename Fr h₀ L _ _ => kF
          rw [hpr.length, List.take_length] at hq'
          exact hret D6 _ q' led _ _ hq' hnd hsub kF (fun p hp => kN p (by
            rcases List.mem_cons.mp hp with rfl | hp
            · exact .head _
            · exact .tail _ (.tail _ (.tail _ (.tail _ (.tail _ (.tail _ (.tail _ (.tail _ (.tail _ hp))))))))))

end Mine

end SECode0
section SP10
namespace Mine
def minB (a b : Nat) : Nat := cond (Nat.ble a b) a b
def cellB (c p q r : Nat) (e : Bool) : Nat := minB (minB (p + 1) (q + 1)) (cond e r (r + c))
def rowB (c : Nat) (a : Bool) : List Bool → List Nat → Nat → List Nat
  | y :: ys, p0 :: p1 :: ps, l => cellB c p1 l p0 (a == y) :: rowB c a ys (p1 :: ps) (cellB c p1 l p0 (a == y))
  | _, _, _ => []
def goB (c : Nat) (ys : List Bool) : List Bool → Nat → List Nat → List (List Nat)
  | [], _, _ => []
  | x :: xs, k, prev => ((k + 1) :: rowB c x ys prev (k + 1)) :: goB c ys xs (k + 1) ((k + 1) :: rowB c x ys prev (k + 1))
def matB (c : Nat) (xs ys : List Bool) : List (List Nat) := List.range (ys.length + 1) :: goB c ys xs 0 (List.range (ys.length + 1))
def atB (M : List (List Nat)) (i j : Nat) : Nat := (M.getD i []).getD j 0
theorem minB_eq (a b : Nat) : ((minB a b : Nat) : Int) = min (a : Int) b := by
  unfold minB
  cases h : Nat.ble a b with
  | true =>
    have h2 := Nat.le_of_ble_eq_true h
    show (a : Int) = _
    omega
  | false =>
    have h2 : ¬ a ≤ b := fun q => by rw [Nat.ble_eq_true_of_le q] at h; cases h
    show (b : Int) = _
    omega
theorem cellB_eq (c p q r : Nat) (e : Bool) (x y : Int) (h : e = decide (x = y)) : ((cellB c p q r e : Nat) : Int) = cellV c p q r x y := by
  subst h
  unfold cellB cellV
  rw [minB_eq, minB_eq]
  by_cases hx : x = y
  · simp [hx]
  · simp [hx]
theorem rowB_len (c : Nat) (a : Bool) : ∀ (ys : List Bool) (p : List Nat) (l : Nat), p.length = ys.length + 1 → (rowB c a ys p l).length = ys.length
  | [], _, _, _ => by simp [rowB]
  | y :: ys, p0 :: p1 :: ps, l, h => by
    simp only [rowB, List.length_cons]
    rw [rowB_len c a ys (p1 :: ps) _ (by simpa using h)]
  | _ :: _, [], _, h => by simp at h
  | _ :: _, [_], _, h => by simp at h
theorem rowB_rec (c : Nat) (a : Bool) : ∀ (ys : List Bool) (p : List Nat) (l j : Nat), p.length = ys.length + 1 → j < ys.length →
    (l :: rowB c a ys p l).getD (j + 1) 0 = cellB c (p.getD (j + 1) 0) ((l :: rowB c a ys p l).getD j 0) (p.getD j 0) (a == ys.getD j false)
  | y :: ys, p0 :: p1 :: ps, l, 0, _, _ => by simp [rowB]
  | y :: ys, p0 :: p1 :: ps, l, j + 1, h, hj => by
    have ih := rowB_rec c a ys (p1 :: ps) (cellB c p1 l p0 (a == y)) j (by simpa using h) (by simpa using hj)
    simp only [rowB, List.getD_cons_succ] at ih ⊢
    exact ih
  | [], _, _, _, _, h => by simp at h
  | _ :: _, [], _, _, h, _ => by simp at h
  | _ :: _, [_], _, _, h, _ => by simp at h
theorem goB_rec (c : Nat) (ys : List Bool) : ∀ (xs : List Bool) (k : Nat) (prev : List Nat) (i : Nat), i < xs.length →
    (prev :: goB c ys xs k prev).getD (i + 1) [] = (k + i + 1) :: rowB c (xs.getD i false) ys ((prev :: goB c ys xs k prev).getD i []) (k + i + 1)
  | x :: xs, k, prev, 0, _ => by simp [goB]
  | x :: xs, k, prev, i + 1, h => by
    have ih := goB_rec c ys xs (k + 1) ((k + 1) :: rowB c x ys prev (k + 1)) i (by simpa using h)
    simp only [goB, List.getD_cons_succ] at ih ⊢
    rw [ih, show k + 1 + i + 1 = k + (i + 1) + 1 by omega]
  | [], _, _, _, h => by simp at h
theorem matB_row0 (c : Nat) (xs ys : List Bool) : (matB c xs ys).getD 0 [] = List.range (ys.length + 1) := rfl
theorem matB_row (c : Nat) (xs ys : List Bool) (i : Nat) (h : i < xs.length) : (matB c xs ys).getD (i + 1) [] = (i + 1) :: rowB c (xs.getD i false) ys ((matB c xs ys).getD i []) (i + 1) := by
  have := goB_rec c ys xs 0 (List.range (ys.length + 1)) i h
  rw [Nat.zero_add] at this
  exact this
theorem matB_len (c : Nat) (xs ys : List Bool) : ∀ i, i ≤ xs.length → ((matB c xs ys).getD i []).length = ys.length + 1
  | 0, _ => by rw [matB_row0, List.length_range]
  | i + 1, h => by
    rw [matB_row c xs ys i h, List.length_cons, rowB_len _ _ _ _ _ (matB_len c xs ys i (by omega))]
theorem atB_row0 (c : Nat) (xs ys : List Bool) (j : Nat) (h : j ≤ ys.length) : atB (matB c xs ys) 0 j = j := by
  rw [atB, matB_row0, List.getD_eq_getElem?_getD, List.getElem?_range (by omega)]
  rfl
theorem atB_col0 (c : Nat) (xs ys : List Bool) (i : Nat) (h : i ≤ xs.length) : atB (matB c xs ys) i 0 = i := by
  cases i with
  | zero => exact atB_row0 c xs ys 0 (Nat.zero_le _)
  | succ i => rw [atB, matB_row c xs ys i h]; rfl
theorem atB_rec (c : Nat) (xs ys : List Bool) (i j : Nat) (hi : i < xs.length) (hj : j < ys.length) :
    atB (matB c xs ys) (i + 1) (j + 1) = cellB c (atB (matB c xs ys) i (j + 1)) (atB (matB c xs ys) (i + 1) j) (atB (matB c xs ys) i j) (xs.getD i false == ys.getD j false) := by
  unfold atB
  rw [matB_row c xs ys i hi]
  exact rowB_rec c _ ys _ (i + 1) j (matB_len c xs ys i (by omega)) hj
end Mine
namespace Mine
theorem getD_ne {α : Type} {l : List α} {i j : Nat} {v d : α} (h : i ≠ j) : (l.set i v).getD j d = l.getD j d := by
  rw [List.getD_eq_getElem?_getD, List.getElem?_set_ne h, ← List.getD_eq_getElem?_getD]
theorem getD_eq {α : Type} {l : List α} {i : Nat} {v d : α} (h : i < l.length) : (l.set i v).getD i d = v := by
  rw [List.getD_eq_getElem?_getD, List.getElem?_set_self h]
  rfl
theorem fr_stable (c a : Int) (ys p z0 : List Int) (j : Nat) : ∀ t, j ≤ t → (fillRow c a ys p z0 t).getD j 0 = (fillRow c a ys p z0 j).getD j 0
  | 0, h => by rw [Nat.le_zero.mp h]
  | t + 1, h => by
    by_cases e : j = t + 1
    · rw [e]
    · rw [fillRow, getD_ne (by omega)]
      exact fr_stable c a ys p z0 j t (by omega)
theorem fr_rec (c a : Int) (ys p z0 : List Int) (n j : Nat) (hz : z0.length = n + 1) (hj : j < n) :
    (fillRow c a ys p z0 n).getD (j + 1) 0 = cellV c (p.getD (j + 1) 0) ((fillRow c a ys p z0 n).getD j 0) (p.getD j 0) a (ys.getD j 0) := by
  rw [fr_stable c a ys p z0 (j + 1) n (by omega), fr_stable c a ys p z0 j n (by omega), fillRow, getD_eq (by rw [fillRow_len]; omega)]
theorem fm_succ (c : Int) (xs ys : List Int) (k : Nat) : fillMat c xs ys (k + 1) = (fillMat c xs ys k).set (k + 1) (fillRow c (xs.getD k 0) ys ((fillMat c xs ys k).getD k []) ((fillMat c xs ys k).getD (k + 1) []) ys.length) := rfl
theorem fm_above (c : Int) (xs ys : List Int) (i : Nat) : ∀ k, k < i → (fillMat c xs ys k).getD i [] = (fillMat c xs ys 0).getD i []
  | 0, _ => rfl
  | k + 1, h => by rw [fm_succ, getD_ne (by omega)]; exact fm_above c xs ys i k (by omega)
theorem fm_stable (c : Int) (xs ys : List Int) (i : Nat) : ∀ k, i ≤ k → (fillMat c xs ys k).getD i [] = (fillMat c xs ys i).getD i []
  | 0, h => by rw [Nat.le_zero.mp h]
  | k + 1, h => by
    by_cases e : i = k + 1
    · rw [e]
    · rw [fm_succ, getD_ne (by omega)]
      exact fm_stable c xs ys i k (by omega)
theorem mAt_put {M : List (List Int)} {k q : Nat} {x : Int} (i j : Nat) (hk : k < M.length) (hq : q < (M.getD k []).length) : mAt (M.set k ((M.getD k []).set q x)) i j = if k = i ∧ q = j then x else mAt M i j := by
  unfold mAt
  by_cases h1 : k = i
  · subst h1
    rw [getD_eq hk]
    by_cases h2 : q = j
    · subst h2
      rw [getD_eq hq, if_pos ⟨rfl, rfl⟩]
    · rw [getD_ne h2, if_neg (fun e => h2 e.2)]
  · rw [getD_ne h1, if_neg (fun e => h1 e.1)]
theorem m2_col (n1 n2 : Nat) (h2 : 0 < n2) (i : Nat) : ∀ k, k ≤ n1 → i < k → mAt (m2 n1 n2 k) i 0 = i
  | 0, _, h => absurd h (Nat.not_lt_zero _)
  | k + 1, hk, h => by
    have sh := m2_shape n1 n2 k (by omega)
    rw [m2, mAt_put i 0 (by rw [sh.1]; omega) (by rw [(sh.row (by omega)).2]; omega)]
    by_cases e : k = i
    · rw [if_pos ⟨e, rfl⟩, e]
    · rw [if_neg (fun q => e q.1)]
      exact m2_col n1 n2 h2 i k (by omega) (by omega)
theorem m3_col (n1 n2 : Nat) (h1 : 1 ≤ n1) (h2 : 0 < n2) (i : Nat) (hi : i < n1) : ∀ k, k ≤ n2 → mAt (m3 n1 n2 k) i 0 = i
  | 0, _ => m2_col n1 n2 h2 i n1 (Nat.le_refl _) hi
  | k + 1, hk => by
    have sh := m3_shape n1 n2 h1 k
    rw [m3, mAt_put i 0 (by rw [sh.1]; omega) (by rw [(sh.row (by omega)).2]; omega)]
    have ih := m3_col n1 n2 h1 h2 i hi k (by omega)
    split
    · rename_i e
      rw [← e.1, e.2]
    · exact ih
theorem m3_row (n1 n2 : Nat) (h1 : 1 ≤ n1) (j : Nat) : ∀ k, k ≤ n2 → j < k → mAt (m3 n1 n2 k) 0 j = j
  | 0, _, h => absurd h (Nat.not_lt_zero _)
  | k + 1, hk, h => by
    have sh := m3_shape n1 n2 h1 k
    rw [m3, mAt_put 0 j (by rw [sh.1]; omega) (by rw [(sh.row (by omega)).2]; omega)]
    by_cases e : k = j
    · rw [if_pos ⟨rfl, e⟩, e]
    · rw [if_neg (fun q => e q.2)]
      exact m3_row n1 n2 h1 j k (by omega) (by omega)
theorem fm_row0 (c : Int) (xs ys : List Int) (j : Nat) (hj : j ≤ ys.length) : mAt (fillMat c xs ys xs.length) 0 j = j := by
  unfold mAt
  rw [fm_stable c xs ys 0 xs.length (Nat.zero_le _)]
  exact m3_row (xs.length + 1) (ys.length + 1) (by omega) j (ys.length + 1) (Nat.le_refl _) (by omega)
theorem fm_at (c : Int) (xs ys : List Int) (i : Nat) (hi : i < xs.length) : (fillMat c xs ys xs.length).getD (i + 1) [] = fillRow c (xs.getD i 0) ys ((fillMat c xs ys xs.length).getD i []) ((fillMat c xs ys 0).getD (i + 1) []) ys.length := by
  have sh := fillMat_shape c xs ys i (by omega)
  rw [fm_stable c xs ys (i + 1) xs.length (by omega), fm_succ, getD_eq (by rw [sh.1]; omega), fm_above c xs ys (i + 1) i (by omega), fm_stable c xs ys i xs.length (by omega)]
theorem fm_col0 (c : Int) (xs ys : List Int) (i : Nat) (hi : i ≤ xs.length) : mAt (fillMat c xs ys xs.length) i 0 = i := by
  cases i with
  | zero => exact fm_row0 c xs ys 0 (Nat.zero_le _)
  | succ i =>
    unfold mAt
    rw [fm_at c xs ys i hi, fillRow_zero]
    exact m3_col (xs.length + 1) (ys.length + 1) (by omega) (by omega) (i + 1) (by omega) (ys.length + 1) (Nat.le_refl _)
theorem fm_rec (c : Int) (xs ys : List Int) (i j : Nat) (hi : i < xs.length) (hj : j < ys.length) :
    mAt (fillMat c xs ys xs.length) (i + 1) (j + 1) = cellV c (mAt (fillMat c xs ys xs.length) i (j + 1)) (mAt (fillMat c xs ys xs.length) (i + 1) j) (mAt (fillMat c xs ys xs.length) i j) (xs.getD i 0) (ys.getD j 0) := by
  have sh := fillMat_shape c xs ys 0 (Nat.zero_le _)
  unfold mAt
  rw [fm_at c xs ys i hi]
  exact fr_rec c _ ys _ _ ys.length j (sh.row (by omega)).2 hj
theorem mat_agree (c : Nat) (g : Bool → Int) (hg : g false ≠ g true) (xs ys : List Bool) : ∀ i j, i ≤ xs.length → j ≤ ys.length → mAt (fillMat c (xs.map g) (ys.map g) (xs.map g).length) i j = ((atB (matB c xs ys) i j : Nat) : Int) := by
  intro i
  induction i with
  | zero =>
    intro j _ hj
    rw [fm_row0 _ _ _ _ (by rw [List.length_map]; exact hj), atB_row0 _ _ _ _ hj]
  | succ i ih =>
    intro j hi
    induction j with
    | zero => intro _; rw [fm_col0 _ _ _ _ (by rw [List.length_map]; exact hi), atB_col0 _ _ _ _ hi]
    | succ j jh =>
      intro hj
      rw [fm_rec _ _ _ _ _ (by rw [List.length_map]; omega) (by rw [List.length_map]; omega), atB_rec _ _ _ _ _ (by omega) (by omega), ih (j + 1) (by omega) hj, ih j (by omega) (by omega), jh (by omega)]
      refine (cellB_eq _ _ _ _ _ _ _ ?_).symm
      have e1 : (xs.map g).getD i 0 = g (xs.getD i false) := by
        rw [List.getD_eq_getElem?_getD, List.getElem?_map, List.getElem?_eq_getElem (by omega : i < xs.length), List.getD_eq_getElem?_getD, List.getElem?_eq_getElem (by omega : i < xs.length)]; rfl
      have e2 : (ys.map g).getD j 0 = g (ys.getD j false) := by
        rw [List.getD_eq_getElem?_getD, List.getElem?_map, List.getElem?_eq_getElem (by omega : j < ys.length), List.getD_eq_getElem?_getD, List.getElem?_eq_getElem (by omega : j < ys.length)]; rfl
      rw [e1, e2]
      cases xs.getD i false <;> cases ys.getD j false <;> simp [hg, Ne.symm hg]
theorem edV_bool (c : Nat) (g : Bool → Int) (hg : g false ≠ g true) (xs ys : List Bool) : edV c (xs.map g) (ys.map g) = ((atB (matB c xs ys) xs.length ys.length : Nat) : Int) := by
  have h := mat_agree c g hg xs ys xs.length ys.length (Nat.le_refl _) (Nat.le_refl _)
  unfold edV
  unfold mAt at h
  rw [List.length_map] at h ⊢
  rw [List.length_map]
  exact h
end Mine

end SP10
section SP20
namespace Mine
def insB : List Nat → Nat → List Nat
  | [], j => [j]
  | x :: r, j => cond (Nat.ble (x + 1) j) (x :: insB r j) (j :: r)
def rowT : List Bool → Nat → Bool → List Nat → List Nat
  | [], _, _, ls => ls
  | y :: ys, j, x, ls => cond (y == x) (insB (rowT ys (j + 1) x ls) j) (rowT ys (j + 1) x ls)
def stayT (two : List Bool) : List Bool → List Nat → List Nat
  | [], ls => ls
  | x :: xs, ls => stayT two xs (rowT two 0 x ls)
def cameB (more : Bool) (bs : List Bool) (a : Nat) (b : Bool) : List Bool := cond more (bs.take a ++ [b] ++ bs.drop a) (bs.take a ++ bs.drop (a + 1))
def runB (xs : List Bool) : Nat → Nat
  | 0 => 0
  | k + 1 => cond (xs.getD k false == xs.getD (k + 1) false) (runB xs k) (k + 1)
def wordsB : Nat → List (List Bool)
  | 0 => [[]]
  | k + 1 => (wordsB k).flatMap fun r => [r ++ [false], r ++ [true]]
def posB (r : List Bool) : Nat → Nat
  | 0 => 0
  | k + 1 => posB r k + cond (r.getD k false) (k + 1) 0
def chk1 (n m : Nat) : Bool := (wordsB m).all fun cb => (wordsB n).all fun ob => Nat.beq (atB (matB 2 cb ob) m n + 2 * (stayT ob cb []).length) (m + n)
def whB (more : Bool) (bs : List Bool) (a : Nat) (b : Bool) : Nat := cond more (runB (cameB more bs a b) a) (runB bs a)
def wayB (more : Bool) (n wh : Nat) : List (Nat × Nat) := cond more ((List.range (wh + 1)).map (fun k => (k, k)) ++ (List.range (n + 1 - wh)).map (fun k => (wh + k + 1, wh + k))) ((List.range (wh + 1)).map (fun k => (k, k)) ++ (List.range (n - wh)).map (fun k => (wh + k, wh + k + 1)))
def listEq : List Bool → List Bool → Bool
  | [], [] => true
  | x :: xs, y :: ys => (x == y) && listEq xs ys
  | _, _ => false
def casesB (n : Nat) (f : Bool → List Bool → Nat → Bool → Bool) : Bool :=
  (wordsB n).all fun bs => ((List.range n).all fun a => f false bs a false) && ((List.range (n + 1)).all fun a => f true bs a false && f true bs a true)
def chk2 (n : Nat) : Bool := casesB n fun more bs a b => (wordsB n).all fun ob => cond (Nat.beq (posB ob n % (n + 1)) (posB bs n % (n + 1)))
  (cond (listEq ob bs) (Nat.beq ((cameB more bs a b).length + n) (2 * (stayT ob (cameB more bs a b) []).length + 1)) (Nat.ble (3 + 2 * (stayT ob (cameB more bs a b) []).length) ((cameB more bs a b).length + n))) true
def d1B (c : Nat) (xs ys : List Bool) (M : List (List Nat)) : Nat → Nat → Nat
  | i + 1, j + 1 => atB M i j + cond (xs.getD i false == ys.getD j false) 0 c
  | _, _ => 1000000000
def d2B (M : List (List Nat)) : Nat → Nat → Nat
  | i + 1, j => atB M i j + 1
  | 0, _ => 1000000000
def d3B (M : List (List Nat)) : Nat → Nat → Nat
  | i, j + 1 => atB M i j + 1
  | _, 0 => 1000000000
def stepB (c : Nat) (xs ys : List Bool) (M : List (List Nat)) (i j : Nat) : Nat × Nat :=
  cond (Nat.ble (d1B c xs ys M i j) (d2B M i j) && Nat.ble (d1B c xs ys M i j) (d3B M i j)) (i - 1, j - 1) (cond (Nat.ble (d2B M i j) (d3B M i j)) (i - 1, j) (i, j - 1))
def okPath (c : Nat) (xs ys : List Bool) (M : List (List Nat)) : Nat → Nat → List (Nat × Nat) → Bool
  | i, j, [] => Nat.beq i 0 && Nat.beq j 0
  | i, j, (a, b) :: r => !(Nat.beq i 0 && Nat.beq j 0) && (Nat.beq (stepB c xs ys M i j).1 a && Nat.beq (stepB c xs ys M i j).2 b) && okPath c xs ys M a b r
def okWay (xs ys : List Bool) (way : List (Nat × Nat)) : Bool :=
  match way.reverse with
  | [] => false
  | (a, b) :: P => Nat.beq a xs.length && Nat.beq b ys.length && Nat.ble P.length (xs.length + ys.length) && okPath 2 xs ys (matB 2 xs ys) a b P && okPath 3 xs ys (matB 2 xs ys) a b P && okPath 4 xs ys (matB 2 xs ys) a b P
def chk3 (n : Nat) : Bool := casesB n fun more bs a b => okWay (cameB more bs a b) bs (wayB more n (whB more bs a b))
end Mine
namespace Mine
theorem minB_le (a b : Nat) : minB a b ≤ a ∧ minB a b ≤ b := by
  have h := minB_eq a b
  omega
theorem cellB_two (c p q r : Nat) (e : Bool) (hc : 2 ≤ c) (hp : p ≤ r + 1) : cellB c p q r e = cellB 2 p q r e := by
  unfold cellB
  cases e with
  | true => rfl
  | false =>
    have h1 := minB_eq (minB (p + 1) (q + 1)) (r + c)
    have h2 := minB_eq (minB (p + 1) (q + 1)) (r + 2)
    have h3 := minB_le (p + 1) (q + 1)
    show minB _ (r + c) = minB _ (r + 2)
    omega
theorem atB_step (c : Nat) (xs ys : List Bool) (i j : Nat) (hi : i ≤ xs.length) (hj : j < ys.length) : atB (matB c xs ys) i (j + 1) ≤ atB (matB c xs ys) i j + 1 := by
  cases i with
  | zero => rw [atB_row0 _ _ _ _ (by omega), atB_row0 _ _ _ _ (by omega)]; exact Nat.le_refl _
  | succ i =>
    rw [atB_rec c xs ys i j hi hj]
    unfold cellB
    have h1 := minB_le (minB (atB (matB c xs ys) i (j + 1) + 1) (atB (matB c xs ys) (i + 1) j + 1)) (cond (xs.getD i false == ys.getD j false) (atB (matB c xs ys) i j) (atB (matB c xs ys) i j + c))
    have h2 := minB_le (atB (matB c xs ys) i (j + 1) + 1) (atB (matB c xs ys) (i + 1) j + 1)
    omega
theorem atB_two (c : Nat) (hc : 2 ≤ c) (xs ys : List Bool) : ∀ i j, i ≤ xs.length → j ≤ ys.length → atB (matB c xs ys) i j = atB (matB 2 xs ys) i j := by
  intro i
  induction i with
  | zero => intro j _ hj; rw [atB_row0 _ _ _ _ hj, atB_row0 _ _ _ _ hj]
  | succ i ih =>
    intro j hi
    induction j with
    | zero => intro _; rw [atB_col0 _ _ _ _ hi, atB_col0 _ _ _ _ hi]
    | succ j jh =>
      intro hj
      rw [atB_rec _ _ _ _ _ hi hj, atB_rec _ _ _ _ _ hi hj, ih (j + 1) (by omega) hj, ih j (by omega) (by omega), jh (by omega)]
      exact cellB_two c _ _ _ _ hc (atB_step 2 xs ys i j (by omega) hj)
end Mine

end SP20
section SP30
namespace Mine
def b2i (b : Bool) : Int := cond b 1 0
theorem b2i_inj {a b : Bool} : (b2i a = b2i b) ↔ a = b := by cases a <;> cases b <;> simp [b2i]
theorem bits_list : ∀ {xs : List Int}, Bits xs → ∃ bs : List Bool, xs = bs.map b2i
  | [], _ => ⟨[], rfl⟩
  | x :: xs, h => by
    obtain ⟨bs, e⟩ := bits_list (xs := xs) fun b hb => h b (.tail _ hb)
    rcases h x (.head _) with rfl | rfl
    · exact ⟨false :: bs, by rw [e]; rfl⟩
    · exact ⟨true :: bs, by rw [e]; rfl⟩
theorem bits_map (bs : List Bool) : Bits (bs.map b2i) := fun b hb => by
  obtain ⟨x, _, rfl⟩ := List.mem_map.mp hb
  cases x
  · exact .inl rfl
  · exact .inr rfl
theorem words_eq : ∀ n, wordsN n = (wordsB n).map (List.map b2i)
  | 0 => rfl
  | n + 1 => by
    rw [wordsN, wordsB, words_eq n, List.map_flatMap, List.flatMap_map]
    congr 1
    funext r
    simp [b2i]
theorem mem_words : ∀ (n : Nat) (bs : List Bool), bs.length = n → bs ∈ wordsB n
  | 0, bs, h => by rw [List.length_eq_zero_iff.mp h]; exact .head _
  | n + 1, bs, h => by
    rcases List.eq_nil_or_concat bs with e | ⟨r, b, e⟩
    · rw [e] at h; cases h
    · rw [List.concat_eq_append] at e
      rw [e, List.length_append] at h
      rw [e, wordsB]
      refine List.mem_flatMap.mpr ⟨r, mem_words n r (by simpa using h), ?_⟩
      cases b
      · exact .head _
      · exact .tail _ (.head _)
theorem getD_b2i (bs : List Bool) (k : Nat) : (bs.map b2i).getD k 0 = b2i (bs.getD k false) := by
  rw [List.getD_eq_getElem?_getD, List.getElem?_map, List.getD_eq_getElem?_getD]
  cases bs[k]? <;> rfl
theorem pos_eq (bs : List Bool) : ∀ k, posSum (bs.map b2i) k = ((posB bs k : Nat) : Int)
  | 0 => rfl
  | k + 1 => by
    rw [posSum, posB, pos_eq bs k, getD_b2i]
    cases bs.getD k false <;> simp [b2i]
theorem vt_eq (bs : List Bool) (n : Nat) : vtSum (bs.map b2i) n = ((posB bs n % (n + 1) : Nat) : Int) := by
  rw [vtSum, pos_eq, Int.fmod_eq_emod_of_nonneg _ (by omega), show ((n : Int) + 1) = ((n + 1 : Nat) : Int) by omega]
  rfl
theorem run_eq (bs : List Bool) : ∀ k, runN (bs.map b2i) k = runB bs k
  | 0 => rfl
  | k + 1 => by
    rw [runN, runB, getD_b2i, getD_b2i, run_eq bs k]
    by_cases h : bs.getD k false = bs.getD (k + 1) false
    · rw [if_pos (b2i_inj.mpr h), beq_iff_eq.mpr h]; rfl
    · rw [if_neg (fun e => h (b2i_inj.mp e)), beq_eq_false_iff_ne.mpr h]; rfl
theorem came_eq (mo : Int) (bs : List Bool) (z5 z6 : Int) : cameN mo (bs.map b2i) z5 z6 = (cameB (decide (mo = 1)) bs (atN bs.length mo z5) (decide (Int.fmod z6 2 = 1))).map b2i := by
  have hb : [Int.fmod z6 2] = [decide (Int.fmod z6 2 = 1)].map b2i := by
    rcases bit_of z6 with h | h <;> rw [h] <;> rfl
  rw [cameN, List.length_map]
  by_cases h : mo = 1
  · rw [if_pos h, decide_eq_true h, hb, ← List.map_take, ← List.map_drop, ← List.map_append, ← List.map_append]; rfl
  · rw [if_neg h, decide_eq_false h, ← List.map_take, ← List.map_drop, ← List.map_append]; rfl
theorem way_eq (mo : Int) (bs : List Bool) (z5 z6 : Int) : wayN mo (bs.map b2i) z5 z6 = wayB (decide (mo = 1)) bs.length (whB (decide (mo = 1)) bs (atN bs.length mo z5) (decide (Int.fmod z6 2 = 1))) := by
  have e : whN mo (bs.map b2i) z5 z6 = whB (decide (mo = 1)) bs (atN bs.length mo z5) (decide (Int.fmod z6 2 = 1)) := by
    rw [whN, whB, came_eq, run_eq, run_eq, List.length_map]
    by_cases h : mo = 1
    · rw [if_pos h, decide_eq_true h]; rfl
    · rw [if_neg h, decide_eq_false h]; rfl
  rw [wayN, e, List.length_map, wayB]
  by_cases h : mo = 1
  · rw [if_pos h, decide_eq_true h]; rfl
  · rw [if_neg h, decide_eq_false h]; rfl
theorem code_eq (bs : List Bool) {other : List Int} (h : other ∈ lawCode (bs.map b2i)) : ∃ ob, ob ∈ wordsB bs.length ∧ other = ob.map b2i ∧ posB ob bs.length % (bs.length + 1) = posB bs bs.length % (bs.length + 1) := by
  rw [lawCode, List.length_map, words_eq] at h
  obtain ⟨h1, h2⟩ := List.mem_filter.mp h
  obtain ⟨ob, ho, rfl⟩ := List.mem_map.mp h1
  refine ⟨ob, ho, rfl, ?_⟩
  have := of_decide_eq_true h2
  rw [vt_eq, vt_eq] at this
  omega
/-! the stay -/
def nz (n : Nat) : Int := n
theorem goAt_shift (x : Int) (r : List Int) (j : Int) : ∀ f a, goAt (x :: r) j f (a + 1) = goAt r j f a + 1
  | 0, _ => rfl
  | f + 1, a => by
    rw [goAt, goAt, List.getD_cons_succ, List.length_cons]
    by_cases h : a < r.length ∧ r.getD a 0 < j
    · rw [if_pos h, if_pos ⟨by omega, h.2⟩, goAt_shift x r j f (a + 1)]
    · rw [if_neg h, if_neg (fun q => h ⟨by omega, q.2⟩)]
theorem put_ins (j : Nat) : ∀ ls : List Nat, putAt (ls.map nz) j = (insB ls j).map nz
  | [] => rfl
  | x :: r => by
    have ih := put_ins j r
    unfold putAt at ih ⊢
    rw [List.map_cons, List.length_cons, goAt, List.getD_cons_zero, List.length_cons, insB]
    by_cases h : x < j
    · rw [if_pos ⟨by omega, by unfold nz; omega⟩, goAt_shift, Nat.ble_eq_true_of_le (by omega : x + 1 ≤ j)]
      show _ = nz x :: (insB r j).map nz
      rw [← ih]
      simp
    · rw [if_neg (fun q => by have := q.2; unfold nz at this; omega)]
      have : Nat.ble (x + 1) j = false := by
        cases e : Nat.ble (x + 1) j with
        | false => rfl
        | true => exact absurd (Nat.le_of_ble_eq_true e) (by omega)
      rw [this]
      simp [nz]
theorem row_eq (two : List Bool) (x : Bool) (ls : List Nat) : ∀ k, k ≤ two.length → stayRow (two.map b2i) (b2i x) (ls.map nz) k = (rowT (two.drop (two.length - k)) (two.length - k) x ls).map nz
  | 0, _ => by rw [Nat.sub_zero, List.drop_length]; rfl
  | k + 1, h => by
    have ih := row_eq two x ls k (by omega)
    have hlt : two.length - (k + 1) < two.length := by omega
    rw [List.drop_eq_getElem_cons hlt, show two.length - (k + 1) + 1 = two.length - k by omega, rowT, stayRow, ih, List.length_map, show two.length - 1 - k = two.length - (k + 1) by omega, getD_b2i, List.getD_eq_getElem?_getD, List.getElem?_eq_getElem hlt, put_ins,
      show two.length - (k + 1) + 1 = two.length - k by omega]
    show (if b2i two[two.length - (k + 1)] = b2i x then _ else _) = _
    by_cases hx : two[two.length - (k + 1)] = x
    · rw [if_pos (b2i_inj.mpr hx), beq_iff_eq.mpr hx]; rfl
    · rw [if_neg (fun e => hx (b2i_inj.mp e)), beq_eq_false_iff_ne.mpr hx]; rfl
theorem stayT_append (two : List Bool) (x : Bool) : ∀ (a : List Bool) (ls : List Nat), stayT two (a ++ [x]) ls = rowT two 0 x (stayT two a ls)
  | [], _ => rfl
  | y :: a, ls => by rw [List.cons_append, stayT, stayT]; exact stayT_append two x a _
theorem fold_eq (one two : List Bool) : ∀ k, k ≤ one.length → stayFold (one.map b2i) (two.map b2i) k = (stayT two (one.take k) []).map nz
  | 0, _ => rfl
  | k + 1, h => by
    have ih := fold_eq one two k (by omega)
    rw [stayFold, ih, List.take_add_one, List.getElem?_eq_getElem (by omega : k < one.length), getD_b2i, List.getD_eq_getElem?_getD, List.getElem?_eq_getElem (by omega : k < one.length)]
    show stayRow _ (b2i one[k]) _ _ = ((stayT two (one.take k ++ [one[k]]) []).map nz)
    rw [stayT_append, List.length_map, row_eq two _ _ two.length (Nat.le_refl _), Nat.sub_self]
    rfl
theorem stay_eq (one two : List Bool) : stayN (one.map b2i) (two.map b2i) = (stayT two one []).length := by
  rw [stayN, List.length_map, fold_eq one two one.length (Nat.le_refl _), List.take_length, List.length_map]
end Mine

end SP30
section SP40
namespace Mine
theorem getD_map_bool (g : Bool → Int) {xs : List Bool} {i : Nat} (h : i < xs.length) : (xs.map g).getD i 0 = g (xs.getD i false) := by
  rw [List.getD_eq_getElem?_getD, List.getElem?_map, List.getElem?_eq_getElem h, List.getD_eq_getElem?_getD, List.getElem?_eq_getElem h]; rfl
section
variable {c : Nat} {g : Bool → Int} {xs ys : List Bool} {i j : Nat}
theorem d1_eq (hc : 2 ≤ c) (hg : g false ≠ g true) (hi : i ≤ xs.length) (hj : j ≤ ys.length) : d1 c (xs.map g) (ys.map g) (fillMat c (xs.map g) (ys.map g) (xs.map g).length) i j = ((d1B c xs ys (matB 2 xs ys) i j : Nat) : Int) := by
  cases i with
  | zero => rw [d1, if_pos (.inl rfl)]; rfl
  | succ i =>
    cases j with
    | zero => rw [d1, if_pos (.inr rfl)]; rfl
    | succ j =>
      rw [d1, if_neg (by omega)]
      show mAt _ i j + (if (xs.map g).getD i 0 = (ys.map g).getD j 0 then 0 else (c : Int)) = _
      rw [mat_agree c g hg xs ys i j (by omega) (by omega), atB_two c hc xs ys i j (by omega) (by omega), getD_map_bool g hi, getD_map_bool g hj]
      show _ = ((atB (matB 2 xs ys) i j + cond (xs.getD i false == ys.getD j false) 0 c : Nat) : Int)
      cases xs.getD i false <;> cases ys.getD j false <;> simp [hg, Ne.symm hg]
theorem d2_eq (hc : 2 ≤ c) (hg : g false ≠ g true) (hi : i ≤ xs.length) (hj : j ≤ ys.length) : d2 (fillMat c (xs.map g) (ys.map g) (xs.map g).length) i j = ((d2B (matB 2 xs ys) i j : Nat) : Int) := by
  cases i with
  | zero => rfl
  | succ i =>
    rw [d2, if_neg (by omega)]
    show mAt _ i j + 1 = ((atB (matB 2 xs ys) i j + 1 : Nat) : Int)
    rw [mat_agree c g hg xs ys i j (by omega) (by omega), atB_two c hc xs ys i j (by omega) (by omega)]
    rfl
theorem d3_eq (hc : 2 ≤ c) (hg : g false ≠ g true) (hi : i ≤ xs.length) (hj : j ≤ ys.length) : d3 (fillMat c (xs.map g) (ys.map g) (xs.map g).length) i j = ((d3B (matB 2 xs ys) i j : Nat) : Int) := by
  cases j with
  | zero => cases i <;> rfl
  | succ j =>
    rw [d3, if_neg (by omega)]
    show mAt _ i j + 1 = _
    rw [mat_agree c g hg xs ys i j (by omega) (by omega), atB_two c hc xs ys i j (by omega) (by omega)]
    cases i <;> rfl
theorem ble_dec (a b : Nat) : Nat.ble a b = decide (a ≤ b) := by
  cases h : Nat.ble a b with
  | true => exact (decide_eq_true (Nat.le_of_ble_eq_true h)).symm
  | false => exact (decide_eq_false fun q => by rw [Nat.ble_eq_true_of_le q] at h; cases h).symm
theorem step_eq (hc : 2 ≤ c) (hg : g false ≠ g true) (hi : i ≤ xs.length) (hj : j ≤ ys.length) : backStep c (xs.map g) (ys.map g) (fillMat c (xs.map g) (ys.map g) (xs.map g).length) i j = stepB c xs ys (matB 2 xs ys) i j := by
  rw [backStep, stepB, d1_eq hc hg hi hj, d2_eq hc hg hi hj, d3_eq hc hg hi hj, ble_dec, ble_dec, ble_dec]
  by_cases h1 : d1B c xs ys (matB 2 xs ys) i j ≤ d2B (matB 2 xs ys) i j
  · by_cases h2 : d1B c xs ys (matB 2 xs ys) i j ≤ d3B (matB 2 xs ys) i j
    · rw [if_pos ⟨by omega, by omega⟩, decide_eq_true h1, decide_eq_true h2]; rfl
    · rw [if_neg (fun q => h2 (by have := q.2; omega)), decide_eq_true h1, decide_eq_false h2]
      by_cases h3 : d2B (matB 2 xs ys) i j ≤ d3B (matB 2 xs ys) i j
      · rw [if_pos (by omega), decide_eq_true h3]; rfl
      · rw [if_neg (by omega), decide_eq_false h3]; rfl
  · rw [if_neg (fun q => h1 (by have := q.1; omega)), decide_eq_false h1]
    by_cases h3 : d2B (matB 2 xs ys) i j ≤ d3B (matB 2 xs ys) i j
    · rw [if_pos (by omega), decide_eq_true h3]; rfl
    · rw [if_neg (by omega), decide_eq_false h3]; rfl
theorem stepB_le (M : List (List Nat)) : (stepB c xs ys M i j).1 ≤ i ∧ (stepB c xs ys M i j).2 ≤ j := by
  unfold stepB
  cases (Nat.ble (d1B c xs ys M i j) (d2B M i j) && Nat.ble (d1B c xs ys M i j) (d3B M i j))
  · cases Nat.ble (d2B M i j) (d3B M i j)
    · exact ⟨Nat.le_refl _, Nat.sub_le _ _⟩
    · exact ⟨Nat.sub_le _ _, Nat.le_refl _⟩
  · exact ⟨Nat.sub_le _ _, Nat.sub_le _ _⟩
theorem path_eq (hc : 2 ≤ c) (hg : g false ≠ g true) : ∀ (P : List (Nat × Nat)) (f i j : Nat), i ≤ xs.length → j ≤ ys.length → P.length ≤ f → okPath c xs ys (matB 2 xs ys) i j P = true →
    backPath c (xs.map g) (ys.map g) (fillMat c (xs.map g) (ys.map g) (xs.map g).length) f i j = P
  | [], f, i, j, hi, hj, hf, h => by
    rw [okPath, Bool.and_eq_true] at h
    obtain rfl := Nat.eq_of_beq_eq_true h.1
    obtain rfl := Nat.eq_of_beq_eq_true h.2
    cases f with
    | zero => rfl
    | succ f => rw [backPath, if_pos ⟨rfl, rfl⟩]
  | (a, b) :: P, 0, _, _, _, _, hf, _ => by simp at hf
  | (a, b) :: P, f + 1, i, j, hi, hj, hf, h => by
    rw [okPath, Bool.and_eq_true, Bool.and_eq_true, Bool.and_eq_true] at h
    obtain ⟨⟨h0, h1, h2⟩, h3⟩ := h
    have e1 := Nat.eq_of_beq_eq_true h1
    have e2 := Nat.eq_of_beq_eq_true h2
    have hs : stepB c xs ys (matB 2 xs ys) i j = (a, b) := Prod.ext e1 e2
    have hle := stepB_le (c := c) (xs := xs) (ys := ys) (i := i) (j := j) (matB 2 xs ys)
    rw [hs] at hle
    have hn : ¬ (i = 0 ∧ j = 0) := fun q => by rw [q.1, q.2] at h0; exact absurd h0 (by decide)
    rw [backPath, if_neg hn, step_eq hc hg hi hj, hs, path_eq hc hg P f a b (by omega) (by omega) (by simpa using hf) h3]
theorem align_eq (hc : 2 ≤ c) (hc4 : c ≤ 4) (hg : g false ≠ g true) {way : List (Nat × Nat)} (h : okWay xs ys way = true) :
    alignV c (xs.map g) (ys.map g) (fillMat c (xs.map g) (ys.map g) (xs.map g).length) = way := by
  unfold okWay at h
  split at h
  · cases h
  · rename_i a b P e
    simp only [Bool.and_eq_true] at h
    obtain ⟨⟨⟨⟨⟨h1, h2⟩, h3⟩, k2⟩, k3⟩, k4⟩ := h
    obtain rfl := Nat.eq_of_beq_eq_true h1
    obtain rfl := Nat.eq_of_beq_eq_true h2
    have h5 := Nat.le_of_ble_eq_true h3
    have hp : okPath c xs ys (matB 2 xs ys) xs.length ys.length P = true := by
      match c, hc, hc4 with
      | 2, _, _ => exact k2
      | 3, _, _ => exact k3
      | 4, _, _ => exact k4
    have q := path_eq hc hg P (xs.length + ys.length) xs.length ys.length (Nat.le_refl _) (Nat.le_refl _) h5 hp
    have hl : (xs.map g).length = xs.length := List.length_map ..
    have hl2 : (ys.map g).length = ys.length := List.length_map ..
    rw [alignV, hl2]
    rw [hl] at q ⊢
    rw [q, ← e, List.reverse_reverse]
end
end Mine

end SP40
section SP50
namespace Mine
theorem k1_10 : chk1 1 0 = true := by decide +kernel
theorem k1_12 : chk1 1 2 = true := by decide +kernel
theorem k1_21 : chk1 2 1 = true := by decide +kernel
theorem k1_23 : chk1 2 3 = true := by decide +kernel
theorem k1_32 : chk1 3 2 = true := by decide +kernel
theorem k1_34 : chk1 3 4 = true := by decide +kernel
theorem k1_43 : chk1 4 3 = true := by decide +kernel
theorem k1_45 : chk1 4 5 = true := by decide +kernel
theorem k1_54 : chk1 5 4 = true := by decide +kernel
theorem k1_56 : chk1 5 6 = true := by decide +kernel
theorem k2_1 : chk2 1 = true := by decide +kernel
theorem k2_2 : chk2 2 = true := by decide +kernel
theorem k2_3 : chk2 3 = true := by decide +kernel
theorem k2_4 : chk2 4 = true := by decide +kernel
theorem k2_5 : chk2 5 = true := by decide +kernel
theorem k3_1 : chk3 1 = true := by decide +kernel
theorem k3_2 : chk3 2 = true := by decide +kernel
theorem k3_3 : chk3 3 = true := by decide +kernel
theorem k3_4 : chk3 4 = true := by decide +kernel
theorem k3_5 : chk3 5 = true := by decide +kernel
def AllOk (n : Nat) : Prop := chk1 n (n - 1) = true ∧ chk1 n (n + 1) = true ∧ chk2 n = true ∧ chk3 n = true
theorem all_ok (n : Nat) (h1 : 1 ≤ n) (h5 : n < 6) : AllOk n := by
  match n, h1, h5 with
  | 1, _, _ => exact ⟨k1_10, k1_12, k2_1, k3_1⟩
  | 2, _, _ => exact ⟨k1_21, k1_23, k2_2, k3_2⟩
  | 3, _, _ => exact ⟨k1_32, k1_34, k2_3, k3_3⟩
  | 4, _, _ => exact ⟨k1_43, k1_45, k2_4, k3_4⟩
  | 5, _, _ => exact ⟨k1_54, k1_56, k2_5, k3_5⟩
theorem chk1_at {n m : Nat} (h : chk1 n m = true) {cb ob : List Bool} (h1 : cb.length = m) (h2 : ob.length = n) : atB (matB 2 cb ob) m n + 2 * (stayT ob cb []).length = m + n := by
  have q := List.all_eq_true.mp h cb (mem_words m cb h1)
  have r := List.all_eq_true.mp q ob (mem_words n ob h2)
  exact Nat.eq_of_beq_eq_true r
theorem cases_at {n : Nat} {f : Bool → List Bool → Nat → Bool → Bool} (h : casesB n f = true) {bs : List Bool} (hbs : bs.length = n) (more : Bool) (a : Nat) (b : Bool) (ha : a < n + cond more 1 0) (hb : more = false → b = false) : f more bs a b = true := by
  have q := List.all_eq_true.mp h bs (mem_words n bs hbs)
  rw [Bool.and_eq_true] at q
  cases more with
  | false =>
    rw [hb rfl]
    exact List.all_eq_true.mp q.1 a (List.mem_range.mpr ha)
  | true =>
    have r := List.all_eq_true.mp q.2 a (List.mem_range.mpr ha)
    rw [Bool.and_eq_true] at r
    cases b
    · exact r.1
    · exact r.2
theorem listEq_eq : ∀ (a b : List Bool), listEq a b = decide (a = b)
  | [], [] => rfl
  | [], _ :: _ => rfl
  | _ :: _, [] => rfl
  | x :: xs, y :: ys => by
    rw [listEq, listEq_eq xs ys]
    by_cases h : x = y
    · by_cases h2 : xs = ys
      · subst h h2; simp
      · simp [h, h2]
    · simp [h]
theorem words_len : ∀ (n : Nat) (r : List Bool), r ∈ wordsB n → r.length = n
  | 0, r, h => by rw [wordsB, List.mem_singleton] at h; subst h; rfl
  | n + 1, r, h => by
    rw [wordsB] at h
    obtain ⟨a, ha, hr⟩ := List.mem_flatMap.mp h
    have h1 := words_len n a ha
    rcases List.mem_cons.mp hr with rfl | hr
    · rw [List.length_append, h1]; rfl
    · rw [List.mem_singleton.mp hr, List.length_append, h1]; rfl
theorem came_len (more : Bool) (bs : List Bool) (a : Nat) (b : Bool) (ha : a < bs.length + cond more 1 0) : (cameB more bs a b).length = cond more (bs.length + 1) (bs.length - 1) := by
  cases more with
  | false =>
    show (bs.take a ++ bs.drop (a + 1)).length = bs.length - 1
    simp only [cond_false, Nat.add_zero] at ha
    rw [List.length_append, List.length_take, List.length_drop]
    omega
  | true =>
    show (bs.take a ++ [b] ++ bs.drop a).length = bs.length + 1
    simp only [cond_true] at ha
    rw [List.length_append, List.length_append, List.length_take, List.length_drop, List.length_singleton]
    omega
theorem map_lett (lo hi : Int) (bs : List Bool) : (bs.map b2i).map (lett lo hi) = bs.map fun b => cond b hi lo := by
  rw [List.map_map]
  congr 1
  funext b
  cases b
  · rfl
  · rfl
theorem plain_law {lo hi mo c : Int} {xs : List Int} {z5 z6 : Int} (hmo : mo = 0 ∨ mo = 1) (hb : Bits xs) (h1 : 1 ≤ xs.length) (h5 : xs.length < 6) (hc : Cost c) (hne : lo ≠ hi) :
    (∀ other ∈ lawCode xs, Bits other ∧ other.length = xs.length ∧
      edV c ((cameN mo xs z5 z6).map (lett lo hi)) (other.map (lett lo hi)) = (cameN mo xs z5 z6).length + xs.length - 2 * (stayN (cameN mo xs z5 z6) other : Nat) ∧
      (other = xs → edV c ((cameN mo xs z5 z6).map (lett lo hi)) (other.map (lett lo hi)) = 1) ∧ (other ≠ xs → 3 ≤ edV c ((cameN mo xs z5 z6).map (lett lo hi)) (other.map (lett lo hi)))) ∧
    alignV c ((cameN mo xs z5 z6).map (lett lo hi)) (xs.map (lett lo hi)) (fillMat c ((cameN mo xs z5 z6).map (lett lo hi)) (xs.map (lett lo hi)) ((cameN mo xs z5 z6).map (lett lo hi)).length) = wayN mo xs z5 z6 := by
  obtain ⟨bs, rfl⟩ := bits_list hb
  obtain ⟨c, rfl⟩ : ∃ k : Nat, c = k := ⟨c.toNat, by have := hc.1; omega⟩
  have hc2 : 2 ≤ c := by have := hc.1; omega
  have hc4 : c ≤ 4 := by have := hc.2; omega
  rw [List.length_map] at h1 h5
  obtain ⟨ok1, ok2, ok3, ok4⟩ := all_ok bs.length h1 h5
  rw [came_eq, way_eq, map_lett, map_lett, List.length_map, List.length_map]
  generalize hb' : decide (Int.fmod z6 2 = 1) = b
  generalize hm' : decide (mo = 1) = more
  generalize ha' : atN bs.length mo z5 = a
  have ha : a < bs.length + cond more 1 0 := by
    have q1 := Int.fmod_nonneg_of_pos z5 (b := (bs.length : Int) + mo) (by omega)
    have q2 := Int.fmod_lt_of_pos z5 (b := (bs.length : Int) + mo) (by omega)
    rw [atN] at ha'
    rcases hmo with rfl | rfl
    · rw [← hm']
      show a < bs.length + 0
      omega
    · rw [← hm']
      show a < bs.length + 1
      omega
  have hg : (fun b => cond b hi lo) false ≠ (fun b => cond b hi lo) true := hne
  have hcl := came_len more bs a b ha
  obtain ⟨b0, hb0, hcb, hwb⟩ : ∃ b0, (more = false → b0 = false) ∧ cameB more bs a b = cameB more bs a b0 ∧ whB more bs a b = whB more bs a b0 := by
    cases more with
    | false => exact ⟨false, fun _ => rfl, rfl, rfl⟩
    | true => exact ⟨b, (fun h => nomatch h), rfl, rfl⟩
  have w2 := cases_at ok3 rfl more a b0 ha hb0
  have w3 := cases_at ok4 rfl more a b0 ha hb0
  rw [← hcb, ← hwb] at w3
  refine ⟨fun other ho => ?_, align_eq hc2 hc4 hg w3⟩
  obtain ⟨ob, hob, rfl, hpos⟩ := code_eq bs ho
  have hol := words_len _ _ hob
  have v2 := List.all_eq_true.mp w2 ob hob
  (try dsimp only at v2)
  rw [hpos, Nat.beq_refl, ← hcb, listEq_eq] at v2
  simp only [cond_true] at v2
  have v1 : atB (matB 2 (cameB more bs a b) ob) (cameB more bs a b).length bs.length + 2 * (stayT ob (cameB more bs a b) []).length = (cameB more bs a b).length + bs.length := by
    cases more with
    | false => exact chk1_at (m := (cameB false bs a b).length) (by rw [hcl]; exact ok1) rfl hol
    | true => exact chk1_at (m := (cameB true bs a b).length) (by rw [hcl]; exact ok2) rfl hol
  have e : edV c (List.map (fun b => cond b hi lo) (cameB more bs a b)) (List.map (lett lo hi) (List.map b2i ob)) = ((atB (matB 2 (cameB more bs a b) ob) (cameB more bs a b).length bs.length : Nat) : Int) := by
    rw [map_lett, edV_bool c _ hg, hol, atB_two c hc2 _ _ _ _ (Nat.le_refl _) (by omega)]
  rw [e, stay_eq]
  refine ⟨bits_map ob, by rw [List.length_map]; exact hol, by omega, fun heq => ?_, fun hnq => ?_⟩
  · have hbo : ob = bs := by
      have := congrArg (List.map fun x : Int => decide (x = 1)) heq
      rw [List.map_map, List.map_map] at this
      have hid : ((fun x : Int => decide (x = 1)) ∘ b2i) = id := by funext b; cases b <;> rfl
      rw [hid, List.map_id, List.map_id] at this
      exact this
    rw [decide_eq_true hbo] at v2
    have := Nat.eq_of_beq_eq_true v2
    omega
  · have hbo : ob ≠ bs := fun e => hnq (by rw [e])
    rw [decide_eq_false hbo] at v2
    have := Nat.le_of_ble_eq_true v2
    omega
end Mine

end SP50
local macro_rules | `(tactic| ke_room) => `(tactic| ktr_units)
local macro_rules | `(tactic| units_room) => `(tactic| ktr_units)
local macro_rules | `(tactic| k_room) => `(tactic| ktr_room)
local macro_rules | `(tactic| walk_at "exec For") => `(tactic| (k_here; (rename Fr _ _ _ _ => lF'); (with_unfolding_all refine' Mine.for_stop lF' ?k1 ?k2 ?_); (case k1 => with_unfolding_all exact rfl); (case k2 => with_unfolding_all exact rfl)))
local macro_rules | `(tactic| walk_at "exec For Name Call cons nil") => `(tactic| (k_here; (rename Fr _ _ _ _ => lF'); (with_unfolding_all refine' Mine.for_stop lF' ?k1 ?k2 ?_); (case k1 => with_unfolding_all exact rfl); (case k2 => with_unfolding_all exact rfl)))
local macro_rules | `(tactic| walk_at "exec For Name Name cons nil") => `(tactic| (k_here; (rename Fr _ _ _ _ => lF'); (with_unfolding_all refine' Mine.for_stop lF' ?k1 ?k2 ?_); (case k1 => with_unfolding_all exact rfl); (case k2 => with_unfolding_all exact rfl)))
local macro_rules | `(tactic| walk_at "call ref") => `(tactic| (k_here; (with_reducible show wpAny _ _ (call (Value.ref 70) _ _) _ _ _); k_dflt (refine' Mine.numbers_spec ?kB ?kF ?kX ?kN ?kT ?kK ?h0 ?h1 ?h2 ?kd ?ku ?_); (case kB => k_asm); (case kF => k_asm); (case kX => k_asm); (case kN => k_asm); (case kT => k_asm); (case kK => first | exact rfl | assumption); (case h0 => assumption); (case h1 => assumption); (case h2 => omega); (case kd => ktr_room); (case ku => ktr_units); intro D' vs' ep' ys' h' tk' hi' hn' F' N'; (try dsimp only); (try k_fold)))
local macro_rules | `(tactic| walk_at "call ref") => `(tactic| (k_here; (with_reducible show wpAny _ _ (call (Value.ref 89) _ _) _ _ _); refine Mine.call_stop ?_))
local macro_rules | `(tactic| walk_at "call ref") => `(tactic| (k_here; (with_reducible show wpAny _ _ (call (Value.ref 49) _ _) _ _ _); refine Mine.call_stop ?_))
local macro_rules | `(tactic| walk_at "call ref") => `(tactic| (k_here; (with_reducible show wpAny _ _ (call (Value.ref 65) _ _) _ _ _); refine Mine.call_stop ?_))
local macro_rules | `(tactic| walk_at "call ref") => `(tactic| (k_here; (with_reducible show wpAny _ _ (call (Value.ref 75) _ _) _ _ _); refine Mine.call_stop ?_))
local macro_rules | `(tactic| walk_at "call ref") => `(tactic| (k_here; (with_reducible show wpAny _ _ (call (Value.ref 82) _ _) _ _ _); refine Mine.call_stop ?_))
local macro_rules | `(tactic| walk_at "CompSrc") => `(tactic| (k_here; refine Mine.src_stop ?_))
local macro_rules | `(tactic| walk_at "CompSrcT") => `(tactic| (k_here; refine Mine.srcT_stop ?_))
local macro_rules | `(tactic| walk_at "eval ListComp") => `(tactic| (k_here; k_dflt (first | (refine LCg.ListComp_U (F₀ := by k_asm) (by with_unfolding_all rfl) (by decide) (by rfl) (by decide) (by rfl) ?_) | (refine LCt.ListComp_T (F₀ := by k_asm) (by with_unfolding_all rfl) (by decide) (by rfl) (by decide) (by rfl) ?_)); (try dsimp only)))
local macro_rules | `(tactic| walk_at "exec Assign cons ListComp") => `(tactic| (k_here; k_dflt (first | (refine LCg.Assign_ListComp_U (F₀ := by k_asm) (by rfl) (by with_unfolding_all rfl) (by with_unfolding_all rfl) (by decide) (by rfl) (by decide) (by rfl) (by rfl) (by rfl) ?_) | (refine LCt.Assign_ListComp_T (F₀ := by k_asm) (by rfl) (by with_unfolding_all rfl) (by with_unfolding_all rfl) (by decide) (by rfl) (by decide) (by rfl) (by rfl) (by rfl) ?_)); (try dsimp only)))
local macro_rules | `(tactic| walk_at "exec If") => `(tactic| (k_here; (fail_if_success (rename Mine.Seen 1 => hS)); refine Mine.exec_stop ?_))
local macro_rules | `(tactic| walk_at "subscriptTail Name Slice ref ref") => `(tactic| (k_here; (fail_if_success (rename Mine.Seen 2 => hS)); refine Mine.wp_stop ?_))
local macro_rules | `(tactic| walk_at "binaryOp Add ref ref") => `(tactic| (k_here; (rename Mine.Seen 3 => hS); refine Mine.wp_stop ?_))

namespace Mine
def wordOf (z : Int) (n : Nat) : List Int := (List.range n).map fun k => Int.fmod (Int.fdiv z ((2 : Int) ^ k)) 2
theorem wordOf_succ (z : Int) (n : Nat) : wordOf z (n + 1) = wordOf z n ++ [Int.fmod (Int.fdiv z ((2 : Int) ^ n)) 2] := by rw [wordOf, List.range_succ, List.map_append]; rfl
theorem names_law {h₀ h : Heap} {L Nm Fd c2 c1 : Addr} {o2 o1 tb : Obj} {a b : Int} {ta tb' : Tok} {vs : List Value} {ep : Nat} (_N : News h₀ L h [(Nm, listOf #[.int a ta, .int b tb'] 0), (Fd, listOf vs.toArray ep), (c2, o2), (c1, o1), (52, tb)]) :
    ∃ x1 x2 x3 x4 x5 x6 x7 x8, x1 = Nm ∧ x2 = Fd ∧ x3 = o2 ∧ x4 = o1 ∧ x5 = vs ∧ x6 = ep ∧ x7 = ta ∧ x8 = tb' := ⟨_, _, _, _, _, _, _, _, rfl, rfl, rfl, rfl, rfl, rfl, rfl, rfl⟩
theorem names_ints {vs : List Value} {ys : List Int} (_h : IntsAre vs ys) : ∃ x, x = ys := ⟨_, rfl⟩
theorem names_base {b : Heap} {a k : Addr} (_h : CodeHd b a k) : ∃ x, x = b := ⟨_, rfl⟩
theorem wordOf_len (z : Int) (n : Nat) : (wordOf z n).length = n := by rw [wordOf, List.length_map, List.length_range]
theorem more_of (z : Int) : ∃ mo, Int.fmod z 2 = mo ∧ (mo = 0 ∨ mo = 1) := by
  have h1 := Int.fmod_nonneg_of_pos z (b := 2) (by decide)
  have h2 := Int.fmod_lt_of_pos z (b := 2) (by decide)
  exact ⟨_, rfl, by omega⟩
def Few (n : Nat) : Prop := 1 ≤ n ∧ n ≤ 5
theorem few_of (z : Int) : ∃ n : Nat, 1 + Int.fmod z 5 = (n : Int) ∧ Few n ∧ n ≤ 100 ∧ 1 ≤ n := by
  have h1 := Int.fmod_nonneg_of_pos z (b := 5) (by decide)
  have h2 := Int.fmod_lt_of_pos z (b := 5) (by decide)
  exact ⟨(1 + Int.fmod z 5).toNat, by omega, ⟨by omega, by omega⟩, by omega, by omega⟩
end Mine
theorem Mine.law_holds : PySem.Challenge.rw_fe5012_01.Holds := by
  exact hd (by
    w_top off
    (k_go0; (all_goals try k_fold))
    k_steps
    refine Mine.stop_in ?_
    rename IsRange _ _ _ _ _ _ _ _ => rgX
    rename Fr _ _ _ _ => lF
    rename News _ _ _ _ => lN
    simp only [List.cons_append, List.nil_append] at lN
    obtain ⟨Nm, Fd, o2, o1, vs, ep, ta, tb, rfl, rfl, rfl, rfl, rfl, rfl, rfl, rfl⟩ := Mine.names_law lN
    rename IntsAre vs _ => hiY
    rename List.length _ = 7 => hn7
    obtain ⟨ys, rfl⟩ := Mine.names_ints hiY
    rename CodeHd _ _ _ => hCode
    obtain ⟨base, hbase⟩ := Mine.names_base hCode
    rename Obj.data o2 = _ => hd2
    rename Obj.data o1 = _ => hd1
    generalize ys.getD (Int.toNat 0) 0 = z0 at lF lN rgX ⊢
    generalize ys.getD (Int.toNat 1) 0 = z1 at lF lN rgX ⊢
    generalize ys.getD (Int.toNat 2) 0 = z2 at lF lN rgX ⊢
    generalize hz3 : z2 + 1 + (if ys.getD (Int.toNat 3) 0 < 0 then -ys.getD (Int.toNat 3) 0 else ys.getD (Int.toNat 3) 0) = zn at lF lN rgX ⊢
    obtain ⟨n, hn, hfew, hn100, hn1⟩ := Mine.few_of z1
    rw [hn] at lF rgX ⊢
    rename Shared => s1
    generalize hL0 : s1.heap.objs.size = L0 at lF lN rgX ⊢
    refine LCg.CompSrc.range (n := n) (by rfl) lF lN rgX (small_one (by omega) (by omega) (by omega) (by omega)) (by rw [rangeSize_nat]; omega) (by rw [sizeLine_eq]; omega) ?_
    intro g
    refine Mine.rest_inv (fun i q nx => nx = [(Nm, listOf #[.int z2 ta, .int zn tb] 0), (Fd, listOf vs.toArray ep), (L0 + 1 + 1, o2), (L0 + 1, o1), (52, tabObj #[])] ∧ IntsAre q (Mine.wordOf (ys.getD (Int.toNat 4) 0) i)) ⟨rfl, .nil⟩ ?turn ?fin
    case turn =>
      rintro i q nx v I oI C oC D m₂ h tk E' hin ⟨rfl, hq⟩ ⟨t, rfl⟩ hC hx F₂ N₂ off ne
      rw [Int.zero_add] at hx
      k_steps
      refine LCg.CompEnd.intro F₂ N₂ _ (fun _ h => h) off True.intro ⟨rfl, ?_⟩
      rw [Mine.wordOf_succ]
      exact hq.append (.cons _ _ .nil)
    case fin =>
      rintro q nx ⟨rfl, hq⟩ D h tk F₃ N₃ off
      clear lF lN rgX
      (try (rename Heap.CodeRec _ _ _ => zz; clear zz))
      (try (rename Dflts _ _ _ => zz; clear zz))
      (try (rename Dflts _ _ _ => zz; clear zz))
      (try (rename CellsAre _ _ _ => zz; clear zz))
      (try (rename Hook.says _ _ _ => zz; clear zz))
      (try (rename Flt.MathXP _ _ _ => zz; clear zz))
      (try (rename Tables _ _ _ _ => zz; clear zz))
      (try (rename LooseAre _ _ _ => zz; clear zz))
      (try (rename TopE _ _ _ _ => zz; clear zz))
      (try (rename TopW _ _ _ => zz; clear zz))
      (try (rename Well _ _ _ _ => zz; clear zz))
      (try (rename Reads _ _ _ _ => zz; clear zz))
      (try (rename ReadsAll _ _ _ _ => zz; clear zz))
      (try (rename ReadsAllW _ _ _ _ _ _ => zz; clear zz))
      (try (rename Ground _ _ _ _ _ _ _ _ _ => zz; clear zz))
      (try (rename Spec.Shape.has _ _ = true => zz; clear zz))
      (try (rename PyData.layable0 _ = true => zz; clear zz))
      (try (rename PyData.layableAll0 _ = true => zz; clear zz))
      (try (rename WShape.hasAll _ _ _ = true => zz; clear zz))
      (try (rename WData.layableAll _ = true => zz; clear zz))
      (try (rename _ = Data.cell (bindC _ _ _ _) => zz; clear zz))
      (try (rename _ = Data.cell (bindC _ _ _ _) => zz; clear zz))
      (try (rename TabsAt _ _ => zz; clear zz))
      (try (rename ∀ P, P ∈ [52] → _ => zz; clear zz))
      (try (rename True => zz; clear zz))
      (try (rename Frag.CodeRec _ _ _ => zz; clear zz))
      (try (rename Heap.get? (Shared.heap s1) _ = some _ => zz; clear zz))
      generalize hx : Mine.wordOf (ys.getD (Int.toNat 4) 0) n = xs at hq
      have hxl : xs.length = n := by rw [← hx, Mine.wordOf_len]
      obtain ⟨mo, hmo, hmo2⟩ : ∃ mo, Int.fmod z0 2 = mo ∧ (mo = 0 ∨ mo = 1) := Mine.more_of z0
      rw [hmo] at F₃
      dsimp only at F₃
      obtain ⟨tl1, tl2, tl3, m00, F₄⟩ := Mine.abs_law1 F₃
      have N₄ : News (ghostOf s1.heap [(56, 52)]) L0 h ((D, listOf q.toArray q.length) :: [(Nm, listOf #[.int z2 ta, .int zn tb] 0), (Fd, listOf vs.toArray ep), (L0 + 1 + 1, o2), (L0 + 1, o1), (52, tabObj #[])]) := N₃
      clear F₃ N₃
      revert F₄ N₄
      repeat (rename Fr _ _ _ _ => zz; clear zz)
      repeat (rename News _ _ _ _ => zz; clear zz)
      intro F₄ N₄
      dsimp only
      k_steps
      refine Mine.stop_in ?_
      have hS1 : Mine.Seen 1 := True.intro
      rename Fr _ _ _ _ => lF
      rename News _ _ _ _ => lN
      dsimp only at lF lN
      obtain ⟨tat, lF⟩ := Mine.abs_at lF
      obtain ⟨a, ha, han⟩ := Mine.at_of (ys.getD (Int.toNat 5) 0) (m := mo) hn1 (by omega)
      rw [ha] at lF
      have hab : a ≤ 100 := by omega
      have ha0 : 0 ≤ (a : Int) := by omega
      refine Mine.if_mid lF s1 (Mine.cameN mo xs (ys.getD (Int.toNat 5) 0) (ys.getD (Int.toNat 6) 0)) (Mine.wayN mo xs (ys.getD (Int.toNat 5) 0) (ys.getD (Int.toNat 6) 0)) [(D, listOf q.toArray q.length), (Nm, listOf #[.int z2 ta, .int zn tb] 0), (Fd, listOf vs.toArray ep), (L0 + 1 + 1, o2), (L0 + 1, o1), (52, tabObj #[])] ?thn ?rest
      case rest =>
        rintro s' ⟨Dw, Dc, ws, qc, ec, ew, wh, tw, nx, h, tk, rfl, F₂, N₂, hic, hdw, hno⟩
        clear lF lN
        repeat (rename Fr _ _ L0 _ => zz; clear zz)
        have hbc := Mine.bits_came (mo := mo) (ys.getD (Int.toNat 5) 0) (ys.getD (Int.toNat 6) 0) (hx ▸ Mine.bits_word _ _ : Mine.Bits xs)
        have hcl := Mine.len_came mo xs (ys.getD (Int.toNat 5) 0) (ys.getD (Int.toNat 6) 0)
        have hbx : Mine.Bits xs := hx ▸ Mine.bits_word _ _
        generalize hcm : Mine.cameN mo xs (ys.getD (Int.toNat 5) 0) (ys.getD (Int.toNat 6) 0) = cm at hic hbc hcl
        generalize hwy : Mine.wayN mo xs (ys.getD (Int.toNat 5) 0) (ys.getD (Int.toNat 6) 0) = wy at hdw
        have hcl2 : cm.length ≤ 101 := by omega
        simp only [List.cons_append, List.nil_append] at N₂
        dsimp only
        k_steps
        refine Mine.stop_in ?_
        rename Fr _ _ _ _ => lF
        rename News _ _ _ _ => lN
        obtain ⟨cc, hcc, hcost⟩ := Mine.cost_of (ys.getD (Int.toNat 0) 0)
        k_steps
        refine Mine.stop_in ?_
        rename Fr _ _ _ _ => lF
        rename News _ _ _ _ => lN
        refine LCg.CompSrc.ledger (ax := Dc) (its := qc.toArray) (by rfl) lF lN (by kcf_m) (by rw [sizeLine_eq, List.size_toArray, (hic).length]; omega) ?_
        intro g1
        refine Mine.rest_inv (fun i ys nx => nx = _ ∧ IntsAre ys ((List.take i cm).map (Mine.lett z2 zn))) ⟨rfl, .nil⟩ ?turn1 ?fin1
        case turn1 =>
          rintro i zs nx v I oI C oC D' m₂ h tk E' hin ⟨rfl, hzs⟩ hv hC hx F₂ N₂ off ne
          clear lF lN
          rw [List.size_toArray] at hin
          rw [List.getElem?_toArray] at hv
          obtain ⟨tb', rfl⟩ := (hic).int_at _ _ hv
          have hiL : i < (cm).length := by rw [← (hic).length]; exact hin
          have hb := hbc _ (Mine.getD_memL hiL)
          have hsn := Mine.lett_snoc (lo := z2) (hi := zn) (t := 0) hzs hiL
          generalize hbb : List.getD cm i 0 = bb at hx hb hsn
          rcases hb with rfl | rfl
          · k_steps
            rename Fr _ _ _ _ => lF
            rename News _ _ _ _ => lN
            refine LCg.CompEnd.intro lF lN _ (fun _ h => h) off (.inr ⟨_, by kcf_m, rfl, _, rfl⟩) ⟨rfl, ?_⟩
            exact Mine.ints_tok hsn
          · k_steps
            rename Fr _ _ _ _ => lF
            rename News _ _ _ _ => lN
            refine LCg.CompEnd.intro lF lN _ (fun _ h => h) off (.inr ⟨_, by kcf_m, rfl, _, rfl⟩) ⟨rfl, ?_⟩
            exact Mine.ints_tok hsn
        case fin1 =>
          rintro zs1 nx ⟨rfl, hzs1⟩ D1 h tk F₃ N₃ off
          rw [List.size_toArray, (hic).length, List.take_length] at hzs1
          have N₆ : News _ L0 _ ((D1, listOf zs1.toArray zs1.length) :: _) := N₃
          have off52 := off
          clear lF lN N₃ off
          revert F₃ N₆
          repeat (rename Fr _ _ _ _ => zz; clear zz)
          repeat (rename News _ _ _ _ => zz; clear zz)
          intro F₃ N₆
          (try dsimp only at F₃)
          have h52 : D1 ≠ 52 := Mine.off1_ne off52 (o := tabObj #[]) (by kcf_m)
          rw [hcc] at F₃
          dsimp only
          k_steps
          refine Mine.stop_in ?_
          k_dflt (refine' Mine.code_spec ?kB ?kF ?kX ?kN ?kT ?kK ?h0 ?h1 ?h2 ?h3 ?kd ?ku ?_)
          case kB => k_asm
          case kF => k_asm
          case kX => k_asm
          case kN => k_asm
          case kT => k_asm
          case kK => exact rfl
          case h0 => kcf_m
          case h1 => assumption
          case h2 => omega
          case h3 => have := hfew.2; omega
          case kd => ktr_room
          case ku => ktr_units
          intro Dk epk as led h tk hpr hnk hsk F₃ N₃
          have N₆ := Mine.news_more N₃ hsk
          have hnl : Mine.NoDict led := hnk (by ((repeat' (first | assumption | exact Mine.nod_nil | exact Mine.nod_list | exact Mine.nod_tab | exact Mine.nod_tup | exact Mine.nod_cell (by assumption) | refine Mine.nod_cons ?_ ?_ | refine Mine.nod_append ?_ ?_)); done))
          clear N₃
          revert F₃ N₆
          repeat (rename Fr _ _ _ _ => zz; clear zz)
          repeat (rename News _ _ _ _ => zz; clear zz)
          intro F₃ N₆
          simp only [List.cons_append, List.nil_append] at N₆
          dsimp only
          k_steps
          refine Mine.stop_in ?_
          rename Fr _ _ _ _ => lF
          rename News _ _ _ _ => lN
          have hlaw := Mine.plain_law (lo := z2) (hi := zn) (mo := mo) (xs := xs) (z5 := ys.getD (Int.toNat 5) 0) (z6 := ys.getD (Int.toNat 6) 0) hmo2 hbx (by omega) (by have := hfew.2; omega) hcost (Mine.letters_ne hz3)
          rw [hcm, hwy] at hlaw
          obtain ⟨hlawC, hlawA⟩ := hlaw
          refine' Mine.loop_list2 (σ := Unit) (vs := as) (nn := epk) (fun _ => []) [Str.ofString "sent", Str.ofString "told"]
            (fun _ _ nx' => nx' = _) () rfl _ (.head _) lF lN (fun _ h => h) (fun _ h => nomatch h) rfl ?turnL ?doneL
          case turnL =>
            rintro i v ⟨⟩ nx' u h tk I oI hv hnoI hoffI hlI rfl F₁ N₁
            obtain ⟨other, ho, aO, vO, eO, rfl, hmO, hiO⟩ := Mine.paired_at hpr hv
            have hoC := List.mem_of_getElem? ho
            obtain ⟨hw1, hw2, hw3, hw4, hw5⟩ := hlawC other hoC
            clear lF lN
            simp only [List.cons_append, List.append_assoc] at N₁
            (try dsimp only at F₁)
            have F₁b : Fr (ghostOf s1.heap [(56, 52)]) L0 h _ := F₁
            have N₁b : News (ghostOf s1.heap [(56, 52)]) L0 h _ := N₁
            clear F₁ N₁
            k_steps
            refine Mine.stop_in ?_
            rename Fr _ _ _ _ => lF
            rename News _ _ _ _ => lN
            refine LCg.CompSrc.ledger (ax := aO) (its := vO.toArray) (by rfl) lF lN (by kcf_m) (by rw [sizeLine_eq, List.size_toArray, (hiO).length]; omega) ?_
            intro g2
            refine Mine.rest_inv (fun i ys nx => nx = _ ∧ IntsAre ys ((List.take i other).map (Mine.lett z2 zn))) ⟨rfl, .nil⟩ ?turn2 ?fin2
            case turn2 =>
              rintro i zs nx v I oI C oC D' m₂ h tk E' hin ⟨rfl, hzs⟩ hv hC hx F₂ N₂ off ne
              clear lF lN
              rw [List.size_toArray] at hin
              rw [List.getElem?_toArray] at hv
              obtain ⟨tb', rfl⟩ := (hiO).int_at _ _ hv
              have hiL : i < (other).length := by rw [← (hiO).length]; exact hin
              have hb := hw1 _ (Mine.getD_memL hiL)
              have hsn := Mine.lett_snoc (lo := z2) (hi := zn) (t := 0) hzs hiL
              generalize hbb : List.getD other i 0 = bb at hx hb hsn
              rcases hb with rfl | rfl
              · k_steps
                rename Fr _ _ _ _ => lF
                rename News _ _ _ _ => lN
                refine LCg.CompEnd.intro lF lN _ (fun _ h => h) off (.inr ⟨_, by kcf_m, rfl, _, rfl⟩) ⟨rfl, ?_⟩
                exact Mine.ints_tok hsn
              · k_steps
                rename Fr _ _ _ _ => lF
                rename News _ _ _ _ => lN
                refine LCg.CompEnd.intro lF lN _ (fun _ h => h) off (.inr ⟨_, by kcf_m, rfl, _, rfl⟩) ⟨rfl, ?_⟩
                exact Mine.ints_tok hsn
            case fin2 =>
              rintro zs2 nx ⟨rfl, hzs2⟩ D2 h tk F₃ N₃ off
              rw [List.size_toArray, (hiO).length, List.take_length] at hzs2
              have N₆ : News _ L0 _ ((D2, listOf zs2.toArray zs2.length) :: _) := N₃
              have off52 := off
              clear lF lN N₃ off
              revert F₃ N₆
              repeat (rename Fr _ _ _ _ => zz; clear zz)
              repeat (rename News _ _ _ _ => zz; clear zz)
              intro F₃ N₆
              (try dsimp only at F₃)
              dsimp only
              k_steps
              refine Mine.stop_in ?_
              k_dflt (refine' Mine.dist_spec ?kB ?kF ?kX ?kN ?kT ?kK ?h0 ?h1 ?h2 ?h3 ?h4 ?h5 ?h6 ?kd ?ku ?_)
              case kB => k_asm
              case kF => k_asm
              case kX => k_asm
              case kN => k_asm
              case kT => k_asm
              case kK => exact rfl
              case h0 => kcf_m
              case h1 => assumption
              case h2 => (rw [List.length_map]; omega)
              case h3 => kcf_m
              case h4 => assumption
              case h5 => (rw [List.length_map]; omega)
              case h6 => ((repeat' (first | assumption | exact Mine.nod_nil | exact Mine.nod_list | exact Mine.nod_tab | exact Mine.nod_tup | exact Mine.nod_cell (by assumption) | refine Mine.nod_cons ?_ ?_ | refine Mine.nod_append ?_ ?_)); done)
              case kd => ktr_room
              case ku => ktr_units
              intro td h tk F₄ N₄
              clear F₃ N₆
              rw [hxl] at hw3
              generalize hst : Mine.stayN cm other = st at hw3
              generalize hT : Mine.edV cc (List.map (Mine.lett z2 zn) cm) (List.map (Mine.lett z2 zn) other) = T at F₄ hw3 hw4 hw5 ⊢
              k_steps
              refine Mine.stop_in ?_
              k_dflt (refine' Mine.stay_spec ?kB ?kF ?kX ?kN ?kT ?kK ?h0 ?h1 ?h2 ?h3 ?h4 ?h5 ?kd ?ku ?_)
              case kB => k_asm
              case kF => k_asm
              case kX => k_asm
              case kN => k_asm
              case kT => k_asm
              case kK => exact rfl
              case h0 => kcf_m
              case h1 => assumption
              case h2 => have := hfew.2; omega
              case h3 => kcf_m
              case h4 => assumption
              case h5 => have := hfew.2; omega
              case kd => ktr_room
              case ku => ktr_units
              rw [hst]
              intro ts h tk F₅ N₅
              revert F₅ N₅
              repeat (rename Fr _ _ _ _ => zz; clear zz)
              repeat (rename News _ _ _ _ => zz; clear zz)
              intro F₅ N₅
              k_steps
              · refine Mine.stop_in ?_
                rename Fr _ _ _ _ => lF
                rename News _ _ _ _ => lN
                refine LCg.CompSrc.ledger (ax := aO) (its := vO.toArray) (by rfl) lF lN (by kcf_m) (by rw [sizeLine_eq, List.size_toArray, (hiO).length]; omega) ?_
                intro g3
                refine Mine.rest_inv (fun i ys nx => nx = _ ∧ IntsAre ys ((List.take i other).map (Mine.lett z2 zn))) ⟨rfl, .nil⟩ ?turn3 ?fin3
                case turn3 =>
                  rintro i zs nx v I oI C oC D' m₂ h tk E' hin ⟨rfl, hzs⟩ hv hC hx F₂ N₂ off ne
                  clear lF lN
                  rw [List.size_toArray] at hin
                  rw [List.getElem?_toArray] at hv
                  obtain ⟨tb', rfl⟩ := (hiO).int_at _ _ hv
                  have hiL : i < (other).length := by rw [← (hiO).length]; exact hin
                  have hb := hw1 _ (Mine.getD_memL hiL)
                  have hsn := Mine.lett_snoc (lo := z2) (hi := zn) (t := 0) hzs hiL
                  generalize hbb : List.getD other i 0 = bb at hx hb hsn
                  rcases hb with rfl | rfl
                  · k_steps
                    rename Fr _ _ _ _ => lF
                    rename News _ _ _ _ => lN
                    refine LCg.CompEnd.intro lF lN _ (fun _ h => h) off (.inr ⟨_, by kcf_m, rfl, _, rfl⟩) ⟨rfl, ?_⟩
                    exact Mine.ints_tok hsn
                  · k_steps
                    rename Fr _ _ _ _ => lF
                    rename News _ _ _ _ => lN
                    refine LCg.CompEnd.intro lF lN _ (fun _ h => h) off (.inr ⟨_, by kcf_m, rfl, _, rfl⟩) ⟨rfl, ?_⟩
                    exact Mine.ints_tok hsn
                case fin3 =>
                  rintro zs3 nx ⟨rfl, hzs3⟩ D3 h tk F₃ N₃ off
                  rw [List.size_toArray, (hiO).length, List.take_length] at hzs3
                  have N₆ : News _ L0 _ ((D3, listOf zs3.toArray zs3.length) :: _) := N₃
                  have off52 := off
                  clear lF lN N₃ off
                  revert F₃ N₆
                  repeat (rename Fr _ _ _ _ => zz; clear zz)
                  repeat (rename News _ _ _ _ => zz; clear zz)
                  intro F₃ N₆
                  (try dsimp only at F₃)
                  dsimp only
                  k_steps
                  refine Mine.stop_in ?_
                  rename Fr _ _ _ _ => lF
                  rename News _ _ _ _ => lN
                  refine LCg.CompSrc.ledger (ax := Dc) (its := qc.toArray) (by rfl) lF lN (by kcf_m) (by rw [sizeLine_eq, List.size_toArray, (hic).length]; omega) ?_
                  intro g4
                  refine Mine.rest_inv (fun i ys nx => nx = _ ∧ IntsAre ys ((List.take i cm).map (Mine.lett z2 zn))) ⟨rfl, .nil⟩ ?turn4 ?fin4
                  case turn4 =>
                    rintro i zs nx v I oI C oC D' m₂ h tk E' hin ⟨rfl, hzs⟩ hv hC hx F₂ N₂ off ne
                    clear lF lN
                    rw [List.size_toArray] at hin
                    rw [List.getElem?_toArray] at hv
                    obtain ⟨tb', rfl⟩ := (hic).int_at _ _ hv
                    have hiL : i < (cm).length := by rw [← (hic).length]; exact hin
                    have hb := hbc _ (Mine.getD_memL hiL)
                    have hsn := Mine.lett_snoc (lo := z2) (hi := zn) (t := 0) hzs hiL
                    generalize hbb : List.getD cm i 0 = bb at hx hb hsn
                    rcases hb with rfl | rfl
                    · k_steps
                      rename Fr _ _ _ _ => lF
                      rename News _ _ _ _ => lN
                      refine LCg.CompEnd.intro lF lN _ (fun _ h => h) off (.inr ⟨_, by kcf_m, rfl, _, rfl⟩) ⟨rfl, ?_⟩
                      exact Mine.ints_tok hsn
                    · k_steps
                      rename Fr _ _ _ _ => lF
                      rename News _ _ _ _ => lN
                      refine LCg.CompEnd.intro lF lN _ (fun _ h => h) off (.inr ⟨_, by kcf_m, rfl, _, rfl⟩) ⟨rfl, ?_⟩
                      exact Mine.ints_tok hsn
                  case fin4 =>
                    rintro zs4 nx ⟨rfl, hzs4⟩ D4 h tk F₃ N₃ off
                    rw [List.size_toArray, (hic).length, List.take_length] at hzs4
                    have N₆ : News _ L0 _ ((D4, listOf zs4.toArray zs4.length) :: _) := N₃
                    have off52 := off
                    clear lF lN N₃ off
                    revert F₃ N₆
                    repeat (rename Fr _ _ _ _ => zz; clear zz)
                    repeat (rename News _ _ _ _ => zz; clear zz)
                    intro F₃ N₆
                    (try dsimp only at F₃)
                    dsimp only
                    k_steps
                    rename Fr _ _ _ _ => lF
                    rename News _ _ _ _ => lN
                    refine' Mine.gs_end () _ lF lN ?e1 ?e2 ?e3 (fun _ h => nomatch h) (by (intro z h1 h2 h3; (try (have h2' := h2 _ (List.Mem.head _); dsimp only at h2')); (try (simp only [List.contains_cons, List.contains_nil, Bool.or_false, Bool.or_eq_false_iff, beq_eq_false_iff_ne, ne_eq] at h3)); first | rfl | (simp [kstB, h1, h3]; done) | (simp [kstB, h1, h2', h3]; done) | (simp [kstB, h1]; done))) ⟨?e4, rfl⟩
                    case e4 => kcf_m
                    case e1 => ((repeat' (first | exact List.forall_mem_nil _ | refine List.forall_mem_cons.mpr (And.intro ?_ ?_) | refine List.forall_mem_append.mpr (And.intro ?_ ?_) | kcf_m | (intro p9 h9; kcf_m))); done)
                    case e2 => ((repeat' (first | exact List.forall_mem_nil _ | refine List.forall_mem_cons.mpr (And.intro ?_ ?_) | refine List.forall_mem_append.mpr (And.intro ?_ ?_) | kcf_m | (intro p9 h9; kcf_m))); done)
                    case e3 =>
                      intro p hp b hb
                      rw [List.mem_singleton.mp hp]
                      obtain ⟨y, hy, rfl⟩ := List.mem_map.mp hb
                      exact Ne.symm (hoffI y hy)
              · refine Mine.stop_in ?_
                rename Fr _ _ _ _ => lF
                rename News _ _ _ _ => lN
                refine LCg.CompSrc.ledger (ax := aO) (its := vO.toArray) (by rfl) lF lN (by kcf_m) (by rw [sizeLine_eq, List.size_toArray, (hiO).length]; omega) ?_
                intro g5
                refine Mine.rest_inv (fun i ys nx => nx = _ ∧ IntsAre ys ((List.take i other).map (Mine.lett z2 zn))) ⟨rfl, .nil⟩ ?turn5 ?fin5
                case turn5 =>
                  rintro i zs nx v I oI C oC D' m₂ h tk E' hin ⟨rfl, hzs⟩ hv hC hx F₂ N₂ off ne
                  clear lF lN
                  rw [List.size_toArray] at hin
                  rw [List.getElem?_toArray] at hv
                  obtain ⟨tb', rfl⟩ := (hiO).int_at _ _ hv
                  have hiL : i < (other).length := by rw [← (hiO).length]; exact hin
                  have hb := hw1 _ (Mine.getD_memL hiL)
                  have hsn := Mine.lett_snoc (lo := z2) (hi := zn) (t := 0) hzs hiL
                  generalize hbb : List.getD other i 0 = bb at hx hb hsn
                  rcases hb with rfl | rfl
                  · k_steps
                    rename Fr _ _ _ _ => lF
                    rename News _ _ _ _ => lN
                    refine LCg.CompEnd.intro lF lN _ (fun _ h => h) off (.inr ⟨_, by kcf_m, rfl, _, rfl⟩) ⟨rfl, ?_⟩
                    exact Mine.ints_tok hsn
                  · k_steps
                    rename Fr _ _ _ _ => lF
                    rename News _ _ _ _ => lN
                    refine LCg.CompEnd.intro lF lN _ (fun _ h => h) off (.inr ⟨_, by kcf_m, rfl, _, rfl⟩) ⟨rfl, ?_⟩
                    exact Mine.ints_tok hsn
                case fin5 =>
                  rintro zs5 nx ⟨rfl, hzs5⟩ D5 h tk F₃ N₃ off
                  rw [List.size_toArray, (hiO).length, List.take_length] at hzs5
                  have N₆ : News _ L0 _ ((D5, listOf zs5.toArray zs5.length) :: _) := N₃
                  have off52 := off
                  clear lF lN N₃ off
                  revert F₃ N₆
                  repeat (rename Fr _ _ _ _ => zz; clear zz)
                  repeat (rename News _ _ _ _ => zz; clear zz)
                  intro F₃ N₆
                  (try dsimp only at F₃)
                  dsimp only
                  k_steps
                  refine Mine.stop_in ?_
                  rename Fr _ _ _ _ => lF
                  rename News _ _ _ _ => lN
                  refine LCg.CompSrc.ledger (ax := Dc) (its := qc.toArray) (by rfl) lF lN (by kcf_m) (by rw [sizeLine_eq, List.size_toArray, (hic).length]; omega) ?_
                  intro g6
                  refine Mine.rest_inv (fun i ys nx => nx = _ ∧ IntsAre ys ((List.take i cm).map (Mine.lett z2 zn))) ⟨rfl, .nil⟩ ?turn6 ?fin6
                  case turn6 =>
                    rintro i zs nx v I oI C oC D' m₂ h tk E' hin ⟨rfl, hzs⟩ hv hC hx F₂ N₂ off ne
                    clear lF lN
                    rw [List.size_toArray] at hin
                    rw [List.getElem?_toArray] at hv
                    obtain ⟨tb', rfl⟩ := (hic).int_at _ _ hv
                    have hiL : i < (cm).length := by rw [← (hic).length]; exact hin
                    have hb := hbc _ (Mine.getD_memL hiL)
                    have hsn := Mine.lett_snoc (lo := z2) (hi := zn) (t := 0) hzs hiL
                    generalize hbb : List.getD cm i 0 = bb at hx hb hsn
                    rcases hb with rfl | rfl
                    · k_steps
                      rename Fr _ _ _ _ => lF
                      rename News _ _ _ _ => lN
                      refine LCg.CompEnd.intro lF lN _ (fun _ h => h) off (.inr ⟨_, by kcf_m, rfl, _, rfl⟩) ⟨rfl, ?_⟩
                      exact Mine.ints_tok hsn
                    · k_steps
                      rename Fr _ _ _ _ => lF
                      rename News _ _ _ _ => lN
                      refine LCg.CompEnd.intro lF lN _ (fun _ h => h) off (.inr ⟨_, by kcf_m, rfl, _, rfl⟩) ⟨rfl, ?_⟩
                      exact Mine.ints_tok hsn
                  case fin6 =>
                    rintro zs6 nx ⟨rfl, hzs6⟩ D6 h tk F₃ N₃ off
                    rw [List.size_toArray, (hic).length, List.take_length] at hzs6
                    have N₆ : News _ L0 _ ((D6, listOf zs6.toArray zs6.length) :: _) := N₃
                    have off52 := off
                    clear lF lN N₃ off
                    revert F₃ N₆
                    repeat (rename Fr _ _ _ _ => zz; clear zz)
                    repeat (rename News _ _ _ _ => zz; clear zz)
                    intro F₃ N₆
                    (try dsimp only at F₃)
                    dsimp only
                    k_steps
                    rename Fr _ _ _ _ => lF
                    rename News _ _ _ _ => lN
                    refine' Mine.gs_end () _ lF lN ?e1 ?e2 ?e3 (fun _ h => nomatch h) (by (intro z h1 h2 h3; (try (have h2' := h2 _ (List.Mem.head _); dsimp only at h2')); (try (simp only [List.contains_cons, List.contains_nil, Bool.or_false, Bool.or_eq_false_iff, beq_eq_false_iff_ne, ne_eq] at h3)); first | rfl | (simp [kstB, h1, h3]; done) | (simp [kstB, h1, h2', h3]; done) | (simp [kstB, h1]; done))) ⟨?e4, rfl⟩
                    case e4 => kcf_m
                    case e1 => ((repeat' (first | exact List.forall_mem_nil _ | refine List.forall_mem_cons.mpr (And.intro ?_ ?_) | refine List.forall_mem_append.mpr (And.intro ?_ ?_) | kcf_m | (intro p9 h9; kcf_m))); done)
                    case e2 => ((repeat' (first | exact List.forall_mem_nil _ | refine List.forall_mem_cons.mpr (And.intro ?_ ?_) | refine List.forall_mem_append.mpr (And.intro ?_ ?_) | kcf_m | (intro p9 h9; kcf_m))); done)
                    case e3 =>
                      intro p hp b hb
                      rw [List.mem_singleton.mp hp]
                      obtain ⟨y, hy, rfl⟩ := List.mem_map.mp hb
                      exact Ne.symm (hoffI y hy)
          case doneL =>
            rintro ⟨⟩ nx' u h tk rfl F₁ N₁
            clear lF lN
            have F₁b : Fr (ghostOf s1.heap [(56, 52)]) L0 h _ := F₁
            have N₁b : News (ghostOf s1.heap [(56, 52)]) L0 h _ := N₁
            clear F₁ N₁
            repeat (rename Fr _ (Env.locals _) _ _ => zz; clear zz)
            dsimp only
            k_steps
            refine Mine.stop_in ?_
            rename Fr _ _ _ _ => lF
            rename News _ _ _ _ => lN
            refine LCg.CompSrc.ledger (ax := D) (its := q.toArray) (by rfl) lF lN (by kcf_m) (by rw [sizeLine_eq, List.size_toArray, (hq).length]; omega) ?_
            intro g7
            refine Mine.rest_inv (fun i ys nx => nx = _ ∧ IntsAre ys ((List.take i xs).map (Mine.lett z2 zn))) ⟨rfl, .nil⟩ ?turn7 ?fin7
            case turn7 =>
              rintro i zs nx v I oI C oC D' m₂ h tk E' hin ⟨rfl, hzs⟩ hv hC hx F₂ N₂ off ne
              clear lF lN
              rw [List.size_toArray] at hin
              rw [List.getElem?_toArray] at hv
              obtain ⟨tb', rfl⟩ := (hq).int_at _ _ hv
              have hiL : i < (xs).length := by rw [← (hq).length]; exact hin
              have hb := hbx _ (Mine.getD_memL hiL)
              have hsn := Mine.lett_snoc (lo := z2) (hi := zn) (t := 0) hzs hiL
              generalize hbb : List.getD xs i 0 = bb at hx hb hsn
              rcases hb with rfl | rfl
              · k_steps
                rename Fr _ _ _ _ => lF
                rename News _ _ _ _ => lN
                refine LCg.CompEnd.intro lF lN _ (fun _ h => h) off (.inr ⟨_, by kcf_m, rfl, _, rfl⟩) ⟨rfl, ?_⟩
                exact Mine.ints_tok hsn
              · k_steps
                rename Fr _ _ _ _ => lF
                rename News _ _ _ _ => lN
                refine LCg.CompEnd.intro lF lN _ (fun _ h => h) off (.inr ⟨_, by kcf_m, rfl, _, rfl⟩) ⟨rfl, ?_⟩
                exact Mine.ints_tok hsn
            case fin7 =>
              rintro zs7 nx ⟨rfl, hzs7⟩ D7 h tk F₃ N₃ off
              rw [List.size_toArray, (hq).length, List.take_length] at hzs7
              have N₆ : News _ L0 _ ((D7, listOf zs7.toArray zs7.length) :: _) := N₃
              have off52 := off
              clear lF lN N₃ off
              revert F₃ N₆
              repeat (rename Fr _ _ _ _ => zz; clear zz)
              repeat (rename News _ _ _ _ => zz; clear zz)
              intro F₃ N₆
              (try dsimp only at F₃)
              dsimp only
              have h527 : D7 ≠ 52 := Mine.off1_ne off52 (o := tabObj #[]) (by kcf_m)
              k_steps
              refine Mine.stop_in ?_
              rename News _ _ _ _ => lNp
              k_dflt (refine' Mine.align_spec ?kB ?kF ?kX ?kN ?kT ?kK ?h0 ?h1 ?h2 ?h3 ?h4 ?h5 ?h6 ?h7 ?h8 ?h9 ?kd ?ku ?_)
              case kB => k_asm
              case kF => k_asm
              case kX => k_asm
              case kN => k_asm
              case kT => k_asm
              case kK => exact rfl
              case h0 => kcf_m
              case h1 => assumption
              case h2 => (rw [List.length_map]; omega)
              case h3 => kcf_m
              case h4 => assumption
              case h5 => (rw [List.length_map]; omega)
              case h6 => kcf_m
              case h7 => exact h52
              case h8 => exact h527
              case h9 => assumption
              case kd => ktr_room
              case ku => ktr_units
              rw [hlawA]
              intro De ve epe tps lede h tk hde h52f hse F₄ N₄
              have hdw' := Mine.dat_move lNp (by kcf_m) hse (fun p hp => (by kcf_m : p ∈ _)) hdw
              have q1 := Mine.move52 lNp (a := D1) (by kcf_m) hse Mine.list_ne_tab (by kcf_m)
              have q2 := Mine.move52 lNp (a := Dw) (by kcf_m) hse Mine.list_ne_tab (by kcf_m)
              have q3 := Mine.move52 lNp (a := Dc) (by kcf_m) hse Mine.list_ne_tab (by kcf_m)
              have q4 := Mine.move52 lNp (a := Nm) (by kcf_m) hse Mine.list_ne_tab (by kcf_m)
              have q5 := Mine.move52 lNp (a := L0 + 1 + 1) (by kcf_m) hse (Mine.cell_ne_tab hd2) (by kcf_m)
              have N₇ := Mine.news_more N₄ (List.forall_mem_cons.mpr ⟨q1, List.forall_mem_cons.mpr ⟨q2, List.forall_mem_cons.mpr ⟨q3, List.forall_mem_cons.mpr ⟨q4, List.forall_mem_cons.mpr ⟨q5, List.forall_mem_nil _⟩⟩⟩⟩⟩)
              clear N₄ lNp q1 q2 q3 q4 q5
              revert F₄ N₇
              repeat (rename Fr _ _ _ _ => zz; clear zz)
              repeat (rename News _ _ _ _ => zz; clear zz)
              intro F₄ N₇
              simp only [List.cons_append, List.nil_append] at N₇
              dsimp only
              k_steps
              refine Mine.stop_in ?_
              rename Fr _ _ _ _ => lF
              rename News _ _ _ _ => lN
              refine LCg.CompSrc.ledger (ax := Dc) (its := qc.toArray) (by rfl) lF lN (by kcf_m) (by rw [sizeLine_eq, List.size_toArray, (hic).length]; omega) ?_
              intro g8
              refine Mine.rest_inv (fun i ys nx => nx = _ ∧ IntsAre ys ((List.take i cm).map (Mine.lett z2 zn))) ⟨rfl, .nil⟩ ?turn8 ?fin8
              case turn8 =>
                rintro i zs nx v I oI C oC D' m₂ h tk E' hin ⟨rfl, hzs⟩ hv hC hx F₂ N₂ off ne
                clear lF lN
                rw [List.size_toArray] at hin
                rw [List.getElem?_toArray] at hv
                obtain ⟨tb', rfl⟩ := (hic).int_at _ _ hv
                have hiL : i < (cm).length := by rw [← (hic).length]; exact hin
                have hb := hbc _ (Mine.getD_memL hiL)
                have hsn := Mine.lett_snoc (lo := z2) (hi := zn) (t := 0) hzs hiL
                generalize hbb : List.getD cm i 0 = bb at hx hb hsn
                rcases hb with rfl | rfl
                · k_steps
                  rename Fr _ _ _ _ => lF
                  rename News _ _ _ _ => lN
                  refine LCg.CompEnd.intro lF lN _ (fun _ h => h) off (.inr ⟨_, by kcf_m, rfl, _, rfl⟩) ⟨rfl, ?_⟩
                  exact Mine.ints_tok hsn
                · k_steps
                  rename Fr _ _ _ _ => lF
                  rename News _ _ _ _ => lN
                  refine LCg.CompEnd.intro lF lN _ (fun _ h => h) off (.inr ⟨_, by kcf_m, rfl, _, rfl⟩) ⟨rfl, ?_⟩
                  exact Mine.ints_tok hsn
              case fin8 =>
                rintro zs8 nx ⟨rfl, hzs8⟩ D8 h tk F₃ N₃ off
                rw [List.size_toArray, (hic).length, List.take_length] at hzs8
                have N₆ : News _ L0 _ ((D8, listOf zs8.toArray zs8.length) :: _) := N₃
                have off52 := off
                clear lF lN N₃ off
                revert F₃ N₆
                repeat (rename Fr _ _ _ _ => zz; clear zz)
                repeat (rename News _ _ _ _ => zz; clear zz)
                intro F₃ N₆
                (try dsimp only at F₃)
                dsimp only
                iterate 1 (first | (k_unfold; try dsimp only) | walk1 | (dsimp only; walk1))
                rename Fr _ _ _ _ => lF
                rename News _ _ _ _ => lN
                refine ⟨goodW_bool lF (by assumption) (raisesW_false ?rr) ?pp, ?gg⟩
                case rr => wrow_none_raised
                case pp => wrow_post
                case gg => exact ⟨GrownAt.of lN (ps := tps) (by kcf_m), True.intro⟩
      case thn =>
        rcases hmo2 with rfl | rfl
        · have ha1 : 0 ≤ (a : Int) + 1 := by omega
          rw [show ((n : Int) + 0) = n by omega] at han
          k_steps
          refine Mine.stop_in ?_
          have hS2 : Mine.Seen 2 := True.intro
          iterate 1 (first | (k_unfold; try dsimp only) | walk1 | (dsimp only; walk1))
          clear hS2
          rename IntsAre _ (List.take _ _) => hi1
          rename List.length (List.take _ _) = _ => hc
          rename List.length (List.take _ _) ≤ _ => hl
          clear hc hl
          obtain ⟨W1, hW1, hW1l, hW⟩ := Mine.take_named  hi1 hxl (by omega)
          rw [← hW] at hi1
          clear hW
          k_steps
          refine Mine.stop_in ?_
          have hS2 : Mine.Seen 2 := True.intro
          iterate 1 (first | (k_unfold; try dsimp only) | walk1 | (dsimp only; walk1))
          clear hS2
          rename IntsAre _ (List.drop _ _) => hi2
          rename List.length (List.drop _ _) = _ => hc
          rename List.length (List.drop _ _) ≤ _ => hl
          clear hc hl
          obtain ⟨W2, hW2, hW2l, hW⟩ := Mine.drop_named (a + 1) hi2 hxl (by omega) (by omega)
          rw [← hW] at hi2
          clear hW
          k_steps
          refine Mine.stop_in ?_
          repeat (rename IsRange _ _ _ _ _ _ _ _ => zz; clear zz)
          k_dflt (refine' Mine.run_spec (i := a) ?kB ?kF ?kX ?kN ?kT ?kK ?h0 ?h1 ?h2 ?h3 ?kd ?ku ?_)
          case kB => k_asm
          case kF => k_asm
          case kX => k_asm
          case kN => k_asm
          case kT => k_asm
          case kK => exact rfl
          case h0 => kcf_m
          case h1 => assumption
          case h2 => first | omega | (simp only [List.length_append, List.length_cons, List.length_nil]; omega)
          case h3 => first | omega | (simp only [List.length_append, List.length_cons, List.length_nil]; omega)
          case kd => ktr_room
          case ku => ktr_units
          intro t1 h1 tk1 F1 N1
          have hwle := Mine.runN_le xs a
          generalize hwh : Mine.runN xs a = wh at F1 hwle ⊢
          k_steps
          refine Mine.stop_in ?_
          rename Fr _ _ _ _ => lF
          rename News _ _ _ _ => lN
          rename IsRange _ _ _ _ _ _ _ _ => rgX
          refine LCg.CompSrc.range (n := wh + 1) (by rfl) lF lN rgX (small_one (by omega) (by omega) (by omega) (by omega)) (by rw [rangeSize_nat]; omega) (by rw [sizeLine_eq]; omega) ?_
          intro g1
          refine Mine.rest_inv (Mine.TupsOf (fun k => (k, k)) _) (Mine.TupsOf.zero _ _) ?turn1 ?fin1
          case turn1 =>
            rintro i zs nx v I oI C oC D m₂ h tk E' hin hG ⟨t, rfl⟩ hC hx F₂ N₂ off ne
            clear lF lN rgX
            (try rw [Int.zero_add] at hx)
            k_steps
            rename Fr _ _ _ _ => lF
            rename News _ _ _ _ => lN
            obtain ⟨T, tx, ty, rfl, rfl, rfl⟩ := Mine.names_tupC lN
            refine LCg.CompEnd.intro lF lN ((T, Mine.tupObj #[_, _]) :: nx) (by ((repeat' (first | exact List.forall_mem_nil _ | refine List.forall_mem_cons.mpr (And.intro ?_ ?_) | refine List.forall_mem_append.mpr (And.intro ?_ ?_) | kcf_m | (intro p9 h9; kcf_m))); done)) ⟨⟨by k_ne, by k_ne, by k_ne⟩, off⟩ True.intro (hG.snoc ?_ ?_)
            · first | rfl | (dsimp only; omega) | omega
            · first | rfl | (dsimp only; omega) | omega
          case fin1 =>
            intro zs1 nx1 hG D1 h tk F₃ N₃ off
            obtain ⟨hsub1, hda1, hno1⟩ := hG
            have N₅ := Mine.news_more N₃ hsub1
            have N₆ : News _ L0 _ ((D1, listOf zs1.toArray zs1.length) :: _) := N₅
            clear lF lN rgX N₃ N₅ off
            revert F₃ N₆
            repeat (rename Fr _ _ _ _ => zz; clear zz)
            repeat (rename News _ _ _ _ => zz; clear zz)
            intro F₃ N₆
            simp only [List.cons_append, List.nil_append] at N₆
            (try dsimp only at F₃)
            k_steps
            refine Mine.stop_in ?_
            rename Fr _ _ _ _ => lF
            rename News _ _ _ _ => lN
            rename IsRange _ _ _ _ _ _ _ _ => rgX
            refine LCg.CompSrc.range (n := n - wh) (by rfl) lF lN rgX (small_one (by omega) (by omega) (by omega) (by omega)) (by rw [rangeSize_nat]; omega) (by rw [sizeLine_eq]; omega) ?_
            intro g2
            refine Mine.rest_inv (Mine.TupsOf (fun k => (wh + k, wh + k + 1)) _) (Mine.TupsOf.zero _ _) ?turn2 ?fin2
            case turn2 =>
              rintro i zs nx v I oI C oC D m₂ h tk E' hin hG ⟨t, rfl⟩ hC hx F₂ N₂ off ne
              clear lF lN rgX
              (try rw [Int.zero_add] at hx)
              k_steps
              rename Fr _ _ _ _ => lF
              rename News _ _ _ _ => lN
              obtain ⟨T, tx, ty, rfl, rfl, rfl⟩ := Mine.names_tupC lN
              refine LCg.CompEnd.intro lF lN ((T, Mine.tupObj #[_, _]) :: nx) (by ((repeat' (first | exact List.forall_mem_nil _ | refine List.forall_mem_cons.mpr (And.intro ?_ ?_) | refine List.forall_mem_append.mpr (And.intro ?_ ?_) | kcf_m | (intro p9 h9; kcf_m))); done)) ⟨⟨by k_ne, by k_ne, by k_ne⟩, off⟩ True.intro (hG.snoc ?_ ?_)
              · first | rfl | (dsimp only; omega) | omega
              · first | rfl | (dsimp only; omega) | omega
            case fin2 =>
              intro zs2 nx2 hG D2 h tk F₃ N₃ off
              obtain ⟨hsub2, hda2, hno2⟩ := hG
              have N₅ := Mine.news_more N₃ hsub2
              have N₆ : News _ L0 _ ((D2, listOf zs2.toArray zs2.length) :: _) := N₅
              clear lF lN rgX N₃ N₅ off
              revert F₃ N₆
              repeat (rename Fr _ _ _ _ => zz; clear zz)
              repeat (rename News _ _ _ _ => zz; clear zz)
              intro F₃ N₆
              simp only [List.cons_append, List.nil_append] at N₆
              (try dsimp only at F₃)
              have hS3 : Mine.Seen 3 := True.intro
              k_steps
              refine Mine.stop_in ?_
              rename Mine.Seen 3 => hS3
              clear hS3
              have hlz1 := hda1.length
              have hlz2 := hda2.length
              rw [List.length_map, List.length_range] at hlz1 hlz2
              rename Fr _ _ _ _ => lF
              rename News _ _ _ _ => lN
              k_dflt (refine' Mine.add_any lF lN ?a1 ?a2 ?a3 ?_)
              case a1 => kcf_m
              case a2 => kcf_m
              case a3 => rw [sizeLine_eq]; omega
              intro Dw hw Fw Nw hlt
              clear lF lN
              k_steps
              rename Fr _ _ _ _ => lF
              rename News _ _ _ _ => lN
              obtain ⟨hcm, hwy⟩ := Mine.came0 (wh := wh) (z6 := ys.getD (Int.toNat 6) 0) hxl ha (by first | exact hwh | (rw [hW1, hW2] at hwh; exact hwh))
              rw [hcm, hwy, ← hW1, ← hW2]
              refine Mine.Mid.intro lF lN (by kcf_m) (by kcf_m) (by ((repeat' (first | exact List.forall_mem_nil _ | refine List.forall_mem_cons.mpr (And.intro ?_ ?_) | refine List.forall_mem_append.mpr (And.intro ?_ ?_) | kcf_m | (intro p9 h9; kcf_m))); done)) (by assumption) ?dd ?dn
              case dd =>
                rw [List.map_append, List.map_map, List.map_map]
                exact (hda1.mono fun p hp => (by kcf_m : p ∈ _)).append (hda2.mono fun p hp => (by kcf_m : p ∈ _))
              case dn =>
                have hn1 := hno1 (by ((repeat' (first | assumption | exact Mine.nod_nil | exact Mine.nod_list | exact Mine.nod_tab | exact Mine.nod_tup | exact Mine.nod_cell (by assumption) | refine Mine.nod_cons ?_ ?_ | refine Mine.nod_append ?_ ?_)); done))
                have hn2 := hno2 (by ((repeat' (first | assumption | exact Mine.nod_nil | exact Mine.nod_list | exact Mine.nod_tab | exact Mine.nod_tup | exact Mine.nod_cell (by assumption) | refine Mine.nod_cons ?_ ?_ | refine Mine.nod_append ?_ ?_)); done))
                ((repeat' (first | assumption | exact Mine.nod_nil | exact Mine.nod_list | exact Mine.nod_tab | exact Mine.nod_tup | exact Mine.nod_cell (by assumption) | refine Mine.nod_cons ?_ ?_ | refine Mine.nod_append ?_ ?_)); done)
        · k_steps
          refine Mine.stop_in ?_
          have hS2 : Mine.Seen 2 := True.intro
          iterate 1 (first | (k_unfold; try dsimp only) | walk1 | (dsimp only; walk1))
          clear hS2
          rename IntsAre _ (List.take _ _) => hi1
          rename List.length (List.take _ _) = _ => hc
          rename List.length (List.take _ _) ≤ _ => hl
          clear hc hl
          obtain ⟨W1, hW1, hW1l, hW⟩ := Mine.take_named  hi1 hxl (by omega)
          rw [← hW] at hi1
          clear hW
          k_steps
          refine Mine.stop_in ?_
          have hS2 : Mine.Seen 2 := True.intro
          iterate 1 (first | (k_unfold; try dsimp only) | walk1 | (dsimp only; walk1))
          clear hS2
          rename IntsAre _ (List.drop _ _) => hi2
          rename List.length (List.drop _ _) = _ => hc
          rename List.length (List.drop _ _) ≤ _ => hl
          clear hc hl
          obtain ⟨W2, hW2, hW2l, hW⟩ := Mine.drop_named a hi2 hxl (by omega) (by omega)
          rw [← hW] at hi2
          clear hW
          k_steps
          refine Mine.stop_in ?_
          repeat (rename IsRange _ _ _ _ _ _ _ _ => zz; clear zz)
          k_dflt (refine' Mine.run_spec (i := a) ?kB ?kF ?kX ?kN ?kT ?kK ?h0 ?h1 ?h2 ?h3 ?kd ?ku ?_)
          case kB => k_asm
          case kF => k_asm
          case kX => k_asm
          case kN => k_asm
          case kT => k_asm
          case kK => exact rfl
          case h0 => kcf_m
          case h1 => assumption
          case h2 => first | omega | (simp only [List.length_append, List.length_cons, List.length_nil]; omega)
          case h3 => first | omega | (simp only [List.length_append, List.length_cons, List.length_nil]; omega)
          case kd => ktr_room
          case ku => ktr_units
          intro t1 h1 tk1 F1 N1
          have hwle := Mine.runN_le (W1 ++ [Int.fmod (ys.getD (Int.toNat 6) 0) 2] ++ W2) a
          generalize hwh : Mine.runN (W1 ++ [Int.fmod (ys.getD (Int.toNat 6) 0) 2] ++ W2) a = wh at F1 hwle ⊢
          k_steps
          refine Mine.stop_in ?_
          rename Fr _ _ _ _ => lF
          rename News _ _ _ _ => lN
          rename IsRange _ _ _ _ _ _ _ _ => rgX
          refine LCg.CompSrc.range (n := wh + 1) (by rfl) lF lN rgX (small_one (by omega) (by omega) (by omega) (by omega)) (by rw [rangeSize_nat]; omega) (by rw [sizeLine_eq]; omega) ?_
          intro g1
          refine Mine.rest_inv (Mine.TupsOf (fun k => (k, k)) _) (Mine.TupsOf.zero _ _) ?turn1 ?fin1
          case turn1 =>
            rintro i zs nx v I oI C oC D m₂ h tk E' hin hG ⟨t, rfl⟩ hC hx F₂ N₂ off ne
            clear lF lN rgX
            (try rw [Int.zero_add] at hx)
            k_steps
            rename Fr _ _ _ _ => lF
            rename News _ _ _ _ => lN
            obtain ⟨T, tx, ty, rfl, rfl, rfl⟩ := Mine.names_tupC lN
            refine LCg.CompEnd.intro lF lN ((T, Mine.tupObj #[_, _]) :: nx) (by ((repeat' (first | exact List.forall_mem_nil _ | refine List.forall_mem_cons.mpr (And.intro ?_ ?_) | refine List.forall_mem_append.mpr (And.intro ?_ ?_) | kcf_m | (intro p9 h9; kcf_m))); done)) ⟨⟨by k_ne, by k_ne, by k_ne⟩, off⟩ True.intro (hG.snoc ?_ ?_)
            · first | rfl | (dsimp only; omega) | omega
            · first | rfl | (dsimp only; omega) | omega
          case fin1 =>
            intro zs1 nx1 hG D1 h tk F₃ N₃ off
            obtain ⟨hsub1, hda1, hno1⟩ := hG
            have N₅ := Mine.news_more N₃ hsub1
            have N₆ : News _ L0 _ ((D1, listOf zs1.toArray zs1.length) :: _) := N₅
            clear lF lN rgX N₃ N₅ off
            revert F₃ N₆
            repeat (rename Fr _ _ _ _ => zz; clear zz)
            repeat (rename News _ _ _ _ => zz; clear zz)
            intro F₃ N₆
            simp only [List.cons_append, List.nil_append] at N₆
            (try dsimp only at F₃)
            k_steps
            refine Mine.stop_in ?_
            rename Fr _ _ _ _ => lF
            rename News _ _ _ _ => lN
            rename IsRange _ _ _ _ _ _ _ _ => rgX
            refine LCg.CompSrc.range (n := n + 1 - wh) (by rfl) lF lN rgX (small_one (by omega) (by omega) (by omega) (by omega)) (by rw [rangeSize_nat]; omega) (by rw [sizeLine_eq]; omega) ?_
            intro g2
            refine Mine.rest_inv (Mine.TupsOf (fun k => (wh + k + 1, wh + k)) _) (Mine.TupsOf.zero _ _) ?turn2 ?fin2
            case turn2 =>
              rintro i zs nx v I oI C oC D m₂ h tk E' hin hG ⟨t, rfl⟩ hC hx F₂ N₂ off ne
              clear lF lN rgX
              (try rw [Int.zero_add] at hx)
              k_steps
              rename Fr _ _ _ _ => lF
              rename News _ _ _ _ => lN
              obtain ⟨T, tx, ty, rfl, rfl, rfl⟩ := Mine.names_tupC lN
              refine LCg.CompEnd.intro lF lN ((T, Mine.tupObj #[_, _]) :: nx) (by ((repeat' (first | exact List.forall_mem_nil _ | refine List.forall_mem_cons.mpr (And.intro ?_ ?_) | refine List.forall_mem_append.mpr (And.intro ?_ ?_) | kcf_m | (intro p9 h9; kcf_m))); done)) ⟨⟨by k_ne, by k_ne, by k_ne⟩, off⟩ True.intro (hG.snoc ?_ ?_)
              · first | rfl | (dsimp only; omega) | omega
              · first | rfl | (dsimp only; omega) | omega
            case fin2 =>
              intro zs2 nx2 hG D2 h tk F₃ N₃ off
              obtain ⟨hsub2, hda2, hno2⟩ := hG
              have N₅ := Mine.news_more N₃ hsub2
              have N₆ : News _ L0 _ ((D2, listOf zs2.toArray zs2.length) :: _) := N₅
              clear lF lN rgX N₃ N₅ off
              revert F₃ N₆
              repeat (rename Fr _ _ _ _ => zz; clear zz)
              repeat (rename News _ _ _ _ => zz; clear zz)
              intro F₃ N₆
              simp only [List.cons_append, List.nil_append] at N₆
              (try dsimp only at F₃)
              have hS3 : Mine.Seen 3 := True.intro
              k_steps
              refine Mine.stop_in ?_
              rename Mine.Seen 3 => hS3
              clear hS3
              have hlz1 := hda1.length
              have hlz2 := hda2.length
              rw [List.length_map, List.length_range] at hlz1 hlz2
              rename Fr _ _ _ _ => lF
              rename News _ _ _ _ => lN
              k_dflt (refine' Mine.add_any lF lN ?a1 ?a2 ?a3 ?_)
              case a1 => kcf_m
              case a2 => kcf_m
              case a3 => rw [sizeLine_eq]; omega
              intro Dw hw Fw Nw hlt
              clear lF lN
              k_steps
              rename Fr _ _ _ _ => lF
              rename News _ _ _ _ => lN
              obtain ⟨hcm, hwy⟩ := Mine.came1 (wh := wh) (z6 := ys.getD (Int.toNat 6) 0) hxl ha (by first | exact hwh | (rw [hW1, hW2] at hwh; exact hwh))
              rw [hcm, hwy, ← hW1, ← hW2]
              refine Mine.Mid.intro lF lN (by kcf_m) (by kcf_m) (by ((repeat' (first | exact List.forall_mem_nil _ | refine List.forall_mem_cons.mpr (And.intro ?_ ?_) | refine List.forall_mem_append.mpr (And.intro ?_ ?_) | kcf_m | (intro p9 h9; kcf_m))); done)) (by assumption) ?dd ?dn
              case dd =>
                rw [List.map_append, List.map_map, List.map_map]
                exact (hda1.mono fun p hp => (by kcf_m : p ∈ _)).append (hda2.mono fun p hp => (by kcf_m : p ∈ _))
              case dn =>
                have hn1 := hno1 (by ((repeat' (first | assumption | exact Mine.nod_nil | exact Mine.nod_list | exact Mine.nod_tab | exact Mine.nod_tup | exact Mine.nod_cell (by assumption) | refine Mine.nod_cons ?_ ?_ | refine Mine.nod_append ?_ ?_)); done))
                have hn2 := hno2 (by ((repeat' (first | assumption | exact Mine.nod_nil | exact Mine.nod_list | exact Mine.nod_tab | exact Mine.nod_tup | exact Mine.nod_cell (by assumption) | refine Mine.nod_cons ?_ ?_ | refine Mine.nod_append ?_ ?_)); done))
                ((repeat' (first | assumption | exact Mine.nod_nil | exact Mine.nod_list | exact Mine.nod_tab | exact Mine.nod_tup | exact Mine.nod_cell (by assumption) | refine Mine.nod_cons ?_ ?_ | refine Mine.nod_append ?_ ?_)); done)
  )
theorem PySem.Challenge.cw_fe5012_01_holds : PySem.Challenge.rw_fe5012_01.Holds := by
  exact Mine.law_holds
