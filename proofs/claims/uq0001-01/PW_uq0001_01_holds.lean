import PyProof.Rows.All
import Wide.All
import OpenK.AllK
import Wide.FinOn
import PySem.Challenge.RW_uq0001_01
set_option Elab.async false
set_option rowWalk.seconds 3000
namespace Mine
open PySem PySem.W PyProof.Rows
set_option maxRecDepth 100000
set_option maxHeartbeats 8000000
open_top hd for PySem.Challenge.rw_uq0001_01
end Mine
namespace Mine
open PySem PySem.Spec PySem.Calls PySem.W PyProof.Rows
set_option maxRecDepth 100000
set_option maxHeartbeats 8000000
theorem newTuple_is (vs : List Value) (h : vs.length ≤ sizeLine) : newTuple vs = (alloc { cls := .type "tuple", data := .seq vs.toArray } >>= fun a => pure (.ref a)) := by
  have e : ¬ (vs.toArray.size > sizeLine) := by rw [List.size_toArray]; exact Nat.not_lt.mpr h
  unfold newTuple newObj
  dsimp only
  rw [if_neg e]
  rfl
theorem bind_rest (K : Frag) (S : Setting) {fd : FuncData} {a : Arg} (vs : List Value) (h : vs.length ≤ sizeLine) (hp : fd.params = { posonlyargs := [], args := [], vararg := some a, kwonlyargs := [], kw_defaults := [], kwarg := none, defaults := [] }) (hd : fd.defaults = .none) :
    peek1 K S (bindArgs fd ⟨vs, []⟩) = some (({ cls := .type "tuple", data := .seq vs.toArray } : Obj), fun D => some [(a.arg, .ref D)]) := by
  unfold bindArgs
  simp only [hp, hd, List.map_nil, List.nil_append, List.length_nil, List.zip_nil_left, Option.isNone_some, Bool.and_false, List.drop_zero, newTuple_is vs h]
  rfl
theorem dbg {w : World} {A A₀ : Around} {s : Shared} {base h₀ : Heap} {outer : List Env} {L : Addr} {m mg mb : Str → Option Value} {env : Env} {news : List (Addr × Obj)} {loose : List Str} {mean : ExcName → Option Value} {p : Program} {R : Result → Shared → Prop} (vs : List Value)
    (B : Below A₀ base outer h₀) (F : Fr h₀ L s.heap m) (X₀ : (hd.heap_39 w.params).In h₀) (N : News h₀ L s.heap news) (T : Top p loose mean mg mb h₀) (hA : A.frames = some (env :: outer)) (hf : env.frame = some L) (hke : env.scope.kind = .function) (hroom : A.depth < recursionLimit)
    (hsz : vs.length ≤ sizeLine)
    (h : ∀ h' tk, Fr h₀ L h' m → News h₀ L h' news → R (.ok (.ret .none)) { s with heap := h', toks := tk }) :
    codeAny (model PySem.Challenge.rw_uq0001_01.row.prog w) A (.call (.ref 183) ⟨vs, []⟩) R s := by
  revert X₀
  k_fill
  intro X₀
  refine kp_rest B F X₀ N T hA hf hke (by k_is) (by k_is) hroom (by exact rfl) (bind_rest _ _ vs hsz (by exact rfl) (by exact rfl)) (by exact fun _ => rfl) (by exact fun _ => locs rfl) ?_ (by exact rfl) (by exact rfl) (by exact rfl) (by decide)
  intro D' g' L' h' l1 FG' F' N' B' X' T'
  clear B F X₀ N T
  k_steps
  all_goals exact leaveK_ F' N' fun kF kN => h _ _ kF fun p hp => kN p (.tail _ hp)
theorem dbg_call {w : World} {A A₀ : Around} {s : Shared} {base h₀ : Heap} {outer : List Env} {L : Addr} {m mg mb : Str → Option Value} {env : Env} {news : List (Addr × Obj)} {loose : List Str} {mean : ExcName → Option Value} {p : Program} {Q E : Value → Shared → Prop} {vs : List Value}
    (B : Below A₀ base outer h₀) (F : Fr h₀ L s.heap m) (X₀ : (hd.heap_39 w.params).In h₀) (N : News h₀ L s.heap news) (T : Top p loose mean mg mb h₀) (hA : A.frames = some (env :: outer)) (hf : env.frame = some L) (hke : env.scope.kind = .function) (hroom : A.depth < recursionLimit)
    (hsz : vs.length ≤ sizeLine)
    (h : ∀ h' tk, Fr h₀ L h' m → News h₀ L h' news → Q .none { s with heap := h', toks := tk }) :
    wpAny (model PySem.Challenge.rw_uq0001_01.row.prog w) A (call (.ref 183) vs []) Q E s := wpAny_call (dbg vs B F X₀ N T hA hf hke hroom hsz h)
end Mine
namespace Mine
open PySem PySem.Spec PySem.Calls PySem.W PyProof.Rows
set_option maxRecDepth 100000
section
variable {prog : Program} {w : World} {A : Around} {E : Value → Shared → Prop} {s : Shared} {env : Env} {h₀ : Heap} {x : Str} {body : List Stmt} {Q : Flow → Shared → Prop}

/-- what a turn leaves: the loop's own iterator as it was, the rest by J -/
def TurnEnd (h₀ : Heap) (L : Addr) (J : (Str → Option Value) → List (Addr × Obj) → Prop) (I : Addr) (oI : Obj) (s₁ s₂ : Shared) : Prop :=
  ∃ h' tk m' nx, s₂ = { s₁ with heap := h', toks := tk } ∧ Fr h₀ L h' m' ∧ News h₀ L h' ((I, oI) :: nx) ∧ (∀ p ∈ nx, p.1 ≠ I) ∧ J m' nx
def TurnPost (h₀ : Heap) (L : Addr) (J : (Str → Option Value) → List (Addr × Obj) → Prop) (I : Addr) (oI : Obj) (s₁ : Shared) (Q : Flow → Shared → Prop) (f : Flow) (s₂ : Shared) : Prop :=
  match f with
  | .ret v => Q (.ret v) s₂
  | .brk => Q .next s₂
  | .next => TurnEnd h₀ L J I oI s₁ s₂
  | .cont => TurnEnd h₀ L J I oI s₁ s₂

theorem iter_any {l : Addr} {vs : List Value} {nn : Nat} {m₀ : Str → Option Value} {news : List (Addr × Obj)} (J : Nat → (Str → Option Value) → List (Addr × Obj) → Prop)
    (hh : A.handled = none) (hl : (l, W.listOf vs.toArray nn) ∈ news) (F : Fr h₀ env.locals s.heap m₀) (N : News h₀ env.locals s.heap news) (hj : J 0 m₀ news)
    (turn : ∀ i v m₁ nx h tk I oI, vs[i]? = some v → (l, W.listOf vs.toArray nn) ∈ nx → (∀ p ∈ nx, p.1 ≠ I) → J i m₁ nx →
      Fr h₀ env.locals h (fun y => if y = x then some v else m₁ y) → News h₀ env.locals h ((I, oI) :: nx) →
      wpAny (model prog w) A (execs body env) (TurnPost h₀ env.locals (fun m' nx' => (l, W.listOf vs.toArray nn) ∈ nx' ∧ J (i + 1) m' nx') I oI { s with heap := h, toks := tk } Q) E { s with heap := h, toks := tk })
    (done : ∀ m₁ nx h tk, (l, W.listOf vs.toArray nn) ∈ nx → J vs.length m₁ nx → Fr h₀ env.locals h m₁ → News h₀ env.locals h nx → Q .next { s with heap := h, toks := tk }) :
    wpAny (model prog w) A (pyIter (.ref l)) (fun it s₂ => LoopAtV prog w A h₀ env x body Q E it s₂) E s := by
  have hol : s.heap.get? l = some (W.listOf vs.toArray nn) := (N _ hl).1
  have hls : s.heap.IsList l vs.toArray := ⟨_, hol, rfl, nn, rfl⟩
  have hne : l ≠ s.heap.objs.size := Nat.ne_of_lt (Heap.lt_size hol)
  refine wpAny_pyIter_list hls ?_
  have WW := Walks.list (prog := prog) (w := w) hh s.heap.objs.size l hne vs.toArray
  rw [List.size_toArray] at WW
  refine ⟨_, _, _, vs.length, _, _, m₀, news, (fun i m nx => (l, W.listOf vs.toArray nn) ∈ nx ∧ J i m nx), rfl, WW, ?_, ?_, ?_, ⟨⟨_, Heap.get?_push_size _ rfl, rfl, rfl⟩, hls.at fun o e => Heap.get?_push_of_some _ e⟩, F.push _, (fun p hp => ⟨Heap.get?_push_of_some _ (N p hp).1, (N p hp).2⟩), ⟨hl, hj⟩, ?_, ?_⟩
  · intro hm
    rcases List.mem_cons.mp hm with e | hm
    · exact absurd F.ns.lt (e ▸ Nat.lt_irrefl _)
    · exact (N _ hl).2.1 (List.mem_singleton.mp hm).symm
  · intro b hb
    rw [List.mem_singleton.mp hb]
    exact next_is_new F
  · intro p hp hI
    exact absurd (Heap.lt_size (N p hp).1) ((List.mem_singleton.mp hI) ▸ Nat.lt_irrefl _)
  · rintro i v m₁ nx s₁ own ⟨hh', tk', rfl⟩ _ hP ⟨hl₁, hJ⟩ hoff hown hget hall hst F₁ N₁
    have hv : vs[i]? = some v := by simpa using hP
    obtain ⟨oI, hoI, _⟩ := hst.1
    have hI₀ : h₀.get? s.heap.objs.size = none := next_is_new F
    have hmem : (s.heap.objs.size, oI) ∈ own := hall _ (by simp) hI₀ oI hoI
    have hoff' : ∀ p ∈ nx, p.1 ≠ s.heap.objs.size := fun p hp e => hoff p hp (by simp [e])
    have N₂ : News h₀ env.locals hh' ((s.heap.objs.size, oI) :: nx) := fun p hp => N₁ p ((List.mem_cons.mp hp).elim (fun e => List.mem_append.mpr (.inl (e ▸ hmem))) fun h => List.mem_append.mpr (.inr h))
    have hlo : hh'.get? l = some (W.listOf vs.toArray nn) := (N₂ _ (.tail _ hl₁)).1
    refine wpAny_mono (turn i v m₁ nx hh' tk' _ oI hv hl₁ hoff' hJ F₁ N₂) (fun f s₂ p => ?_) fun _ _ e => e
    have fin : TurnEnd h₀ env.locals (fun m' nx' => (l, W.listOf vs.toArray nn) ∈ nx' ∧ J (i + 1) m' nx') s.heap.objs.size oI { s with heap := hh', toks := tk' } s₂ →
        LoopStepU h₀ env.locals [s.heap.objs.size] own (fun m nx => (l, W.listOf vs.toArray nn) ∈ nx ∧ J (i + 1) m nx) { s with heap := hh', toks := tk' } .next s₂ := by
      rintro ⟨h', tk, m', nx', e, F', N', hn, hl', hJ'⟩
      refine ⟨rfl, h', tk, m', nx', e, F', fun p hp => ?_, fun p hp q => hn p hp (List.mem_singleton.mp q), hl', hJ'⟩
      rcases List.mem_append.mp hp with h | h
      · have hg := hget p h
        rcases List.mem_cons.mp (hown p h) with h2 | h2
        · have h3 : p = (s.heap.objs.size, oI) := Prod.ext h2 (by rw [h2, hoI] at hg; exact (Option.some.inj hg).symm)
          rw [h3]; exact N' _ (.head _)
        · have h4 := List.mem_singleton.mp h2
          have h3 : p = (l, W.listOf vs.toArray nn) := Prod.ext h4 (by rw [h4, hlo] at hg; exact (Option.some.inj hg).symm)
          rw [h3]; exact N' _ (.tail _ hl')
      · exact N' p (.tail _ h)
    cases f with
    | ret v => exact .ret p
    | brk => exact .brk p
    | next => exact .next (fin p)
    | cont => exact .cont (fin p)
  · rintro h' tk m' nx F' N' _ ⟨hl', hJ⟩
    exact done m' nx h' tk hl' hJ F' N'

theorem range_any {r : Addr} {a₀ b₀ : Int} {t₀ u₀ v₀ : Tok} {n : Nat} {m₀ : Str → Option Value} {news : List (Addr × Obj)} (J : Nat → (Str → Option Value) → List (Addr × Obj) → Prop)
    (hh : A.handled = none) (hr : IsRange s.heap r a₀ b₀ 1 t₀ u₀ v₀) (hsmall : Builtin.Range.small a₀ b₀ 1 = true) (hn : Builtin.Range.rangeSize a₀ b₀ 1 = (n : Int)) (F : Fr h₀ env.locals s.heap m₀) (N : News h₀ env.locals s.heap news) (hj : J 0 m₀ news)
    (turn : ∀ i t m₁ nx h tk I oI, i < n → (∀ p ∈ nx, p.1 ≠ I) → J i m₁ nx →
      Fr h₀ env.locals h (fun y => if y = x then some (.int (a₀ + (i : Int)) t) else m₁ y) → News h₀ env.locals h ((I, oI) :: nx) →
      wpAny (model prog w) A (execs body env) (TurnPost h₀ env.locals (J (i + 1)) I oI { s with heap := h, toks := tk } Q) E { s with heap := h, toks := tk })
    (done : ∀ m₁ nx h tk, J n m₁ nx → Fr h₀ env.locals h m₁ → News h₀ env.locals h nx → Q .next { s with heap := h, toks := tk }) :
    wpAny (model prog w) A (pyIter (.ref r)) (fun it s₂ => LoopAtV prog w A h₀ env x body Q E it s₂) E s := by
  refine wpAny_pyIter_range hr hsmall ?_
  have WW : Walks prog w A s.heap.objs.size [s.heap.objs.size] [s.heap.objs.size] n (fun i v => ∃ t, v = .int (a₀ + i * 1) t)
      (fun i h => IsRangeIter h s.heap.objs.size (a₀ + (i : Nat) * 1) ((n : Int) - (i : Nat)) 1) := Walks.range hh _ a₀ 1 n
  refine ⟨_, _, _, n, _, _, m₀, news, J, rfl, WW, ?_, ?_, ?_, (by show IsRangeIter _ _ _ _ _; rw [hn]; simpa using Heap.get?_push_size _ rfl), F.push _, (fun p hp => ⟨Heap.get?_push_of_some _ (N p hp).1, (N p hp).2⟩), hj, ?_, ?_⟩
  · intro hm
    exact absurd F.ns.lt ((List.mem_singleton.mp hm) ▸ Nat.lt_irrefl _)
  · intro b hb
    rw [List.mem_singleton.mp hb]
    exact next_is_new F
  · intro p hp hI
    exact absurd (Heap.lt_size (N p hp).1) ((List.mem_singleton.mp hI) ▸ Nat.lt_irrefl _)
  · rintro i v m₁ nx s₁ own ⟨hh', tk', rfl⟩ hin ⟨t, rfl⟩ hJ hoff hown hget hall hst F₁ N₁
    have e1 : a₀ + (i : Int) * 1 = a₀ + (i : Int) := by omega
    rw [e1] at F₁
    have hI₀ : h₀.get? s.heap.objs.size = none := next_is_new F
    have hoI := hst
    have hmem := hall s.heap.objs.size (by simp) hI₀ _ hoI
    have hoff' : ∀ p ∈ nx, p.1 ≠ s.heap.objs.size := fun p hp e => hoff p hp (by simp [e])
    refine wpAny_mono (turn i t m₁ nx hh' tk' _ _ hin hoff' hJ F₁ (fun p hp => N₁ p ((List.mem_cons.mp hp).elim (fun e => List.mem_append.mpr (.inl (e ▸ hmem))) fun h => List.mem_append.mpr (.inr h)))) (fun f s₂ p => ?_) fun _ _ e => e
    have fin : ∀ oI, hh'.get? s.heap.objs.size = some oI → TurnEnd h₀ env.locals (J (i + 1)) s.heap.objs.size oI { s with heap := hh', toks := tk' } s₂ →
        LoopStepU h₀ env.locals [s.heap.objs.size] own (J (i + 1)) { s with heap := hh', toks := tk' } .next s₂ := by
      rintro oI ho ⟨h', tk, m', nx', e, F', N', hn, hJ'⟩
      refine ⟨rfl, h', tk, m', nx', e, F', fun p hp => ?_, fun p hp q => hn p hp (List.mem_singleton.mp q), hJ'⟩
      rcases List.mem_append.mp hp with h | h
      · have hg := hget p h
        have h4 := List.mem_singleton.mp (hown p h)
        have h3 : p = (s.heap.objs.size, oI) := Prod.ext h4 (by rw [h4, ho] at hg; exact (Option.some.inj hg).symm)
        rw [h3]; exact N' _ (.head _)
      · exact N' p (.tail _ h)
    cases f with
    | ret v => exact .ret p
    | brk => exact .brk p
    | next => exact .next (fin _ hoI p)
    | cont => exact .cont (fin _ hoI p)
  · rintro h' tk m' nx F' N' _ hJ
    exact done m' nx h' tk hJ F' N'
end
end Mine
namespace Mine
open PySem PySem.Spec PySem.Calls PySem.W PyProof.Rows
set_option maxRecDepth 100000
set_option maxHeartbeats 8000000
def ins (x : Int) : List Int → List Int
  | [] => [x]
  | y :: r => if x < y then x :: y :: r else y :: ins x r
def insAll (l : List Int) : List Int := l.foldl (fun a x => ins x a) []
theorem ins_len (x : Int) : ∀ l : List Int, (ins x l).length = l.length + 1
  | [] => rfl
  | y :: r => by
    unfold ins
    by_cases h : x < y
    · rw [if_pos h]; rfl
    · rw [if_neg h, List.length_cons, ins_len x r, List.length_cons]
theorem insAll_snoc (l : List Int) (x : Int) : insAll (l ++ [x]) = ins x (insAll l) := by
  unfold insAll; rw [List.foldl_append]; rfl
theorem foldl_ins_len : ∀ (l a : List Int), (l.foldl (fun a x => ins x a) a).length = a.length + l.length
  | [], a => rfl
  | x :: r, a => by rw [List.foldl_cons, foldl_ins_len r, ins_len, List.length_cons]; omega
theorem insAll_len (l : List Int) : (insAll l).length = l.length := by
  unfold insAll; rw [foldl_ins_len]; simp
theorem fr1 {h₀ h : Heap} {L : Addr} {m : Str → Option Value} {a : Str} {va : Value} (F : Fr h₀ L h m) (ha : m a = some va) : Fr h₀ L h (fun y => if y = a then some va else m y) := by
  have e : (fun y => if y = a then some va else m y) = m := by
    funext y
    by_cases h2 : y = a
    · rw [if_pos h2, h2, ha]
    · rw [if_neg h2]
  rw [e]; exact F
theorem fr2 {h₀ h : Heap} {L : Addr} {m : Str → Option Value} {x a b : Str} {v va vb : Value} (F : Fr h₀ L h (fun y => if y = x then some v else m y)) (ha : m a = some va) (hb : m b = some vb) :
    Fr h₀ L h (fun y => if y = x then some v else if y = a then some va else if y = b then some vb else m y) := by
  have e : (fun y => if y = x then some v else if y = a then some va else if y = b then some vb else m y) = (fun y => if y = x then some v else m y) := by
    funext y
    by_cases h1 : y = x
    · simp only [if_pos h1]
    · by_cases h2 : y = a
      · rw [if_neg h1, if_pos h2, if_neg h1, h2, ha]
      · by_cases h3 : y = b
        · rw [if_neg h1, if_neg h2, if_pos h3, if_neg h1, h3, hb]
        · simp only [if_neg h1, if_neg h2, if_neg h3]
  rw [e]; exact F
local macro_rules | `(tactic| walk_at "call builtin:len") => `(tactic| (k_here; (with_reducible show wpAny _ _ (call (Value.builtin "len") [Value.ref _]) _ _ _); k_dflt (refine' kst_len ?k1 ?k2 ?k3 ?k4 ?_; (case k1 => k_asm); (case k2 => k_memK); (case k3 => assumption); (case k4 => omega); k_whole)))
local macro_rules | `(tactic| walk_at "call ref") => `(tactic| (k_here; k_dflt (refine' dbg_call ?k1 ?k2 ?k3 ?k4 ?k5 ?k6 ?k7 ?k8 ?k9 ?k10 ?_; (case k1 => k_asm); (case k2 => k_asm); (case k3 => k_asm); (case k4 => k_asm); (case k5 => k_asm); (case k6 => exact Around.frames_deeper (Below.stack (by k_asm))); (case k7 => exact rfl); (case k8 => exact rfl); (case k9 => (simp only [depth_deeper]; omega)); (case k10 => size_fits)); intro h' tk' F' N'; (try k_sweep)))
theorem fr4 {h₀ h : Heap} {L : Addr} {m : Str → Option Value} {x a b c d : Str} {v va vb vc vd : Value} (F : Fr h₀ L h (fun y => if y = x then some v else m y)) (ha : m a = some va) (hb : m b = some vb) (hc : m c = some vc) (hd : m d = some vd) :
    Fr h₀ L h (fun y => if y = x then some v else if y = a then some va else if y = b then some vb else if y = c then some vc else if y = d then some vd else m y) := by
  have e : (fun y => if y = x then some v else if y = a then some va else if y = b then some vb else if y = c then some vc else if y = d then some vd else m y) = (fun y => if y = x then some v else m y) := by
    funext y
    by_cases h1 : y = x
    · simp only [if_pos h1]
    · by_cases h2 : y = a
      · rw [if_neg h1, if_pos h2, if_neg h1, h2, ha]
      · by_cases h3 : y = b
        · rw [if_neg h1, if_neg h2, if_pos h3, if_neg h1, h3, hb]
        · by_cases h4 : y = c
          · rw [if_neg h1, if_neg h2, if_neg h3, if_pos h4, if_neg h1, h4, hc]
          · by_cases h5 : y = d
            · rw [if_neg h1, if_neg h2, if_neg h3, if_neg h4, if_pos h5, if_neg h1, h5, hd]
            · simp only [if_neg h1, if_neg h2, if_neg h3, if_neg h4, if_neg h5]
  rw [e]; exact F
theorem frk4 {h₀ h : Heap} {L : Addr} {m : Str → Option Value} {a b c d : Str} {va vb vc vd : Value} (F : Fr h₀ L h m) (ha : m a = some va) (hb : m b = some vb) (hc : m c = some vc) (hd : m d = some vd) :
    Fr h₀ L h (fun y => if y = a then some va else if y = b then some vb else if y = c then some vc else if y = d then some vd else m y) := by
  have e : (fun y => if y = a then some va else if y = b then some vb else if y = c then some vc else if y = d then some vd else m y) = m := by
    funext y
    by_cases h2 : y = a
    · rw [if_pos h2, h2, ha]
    · by_cases h3 : y = b
      · rw [if_neg h2, if_pos h3, h3, hb]
      · by_cases h4 : y = c
        · rw [if_neg h2, if_neg h3, if_pos h4, h4, hc]
        · by_cases h5 : y = d
          · rw [if_neg h2, if_neg h3, if_neg h4, if_pos h5, h5, hd]
          · rw [if_neg h2, if_neg h3, if_neg h4, if_neg h5]
  rw [e]; exact F
theorem my_size {vs : List Value} {k : Nat} (e : vs.length = k) (h : k ≤ 1000) : vs.toArray.size ≤ sizeLine := by
  rw [List.size_toArray, e, sizeLine_eq]; omega
local macro_rules | `(tactic| walk_at "subscriptTail Name Slice ref ref") => `(tactic| (k_here; (with_reducible show wpAny _ _ (subscriptTail _ (PySem.Expr.Slice none (some _) none _) (Value.ref _) (Value.ref _)) _ _ _); k_dflt (refine' kmk_slice_ints ?F ?N ?l ?p ?q ?i ?m ?c ?_ ?s ?t ?z; (case F => k_asm); (case N => k_asm); (case l => exact News.isList (by k_asm) (by k_mem)); (case p => exact IsPart.none); (case q => exact IsPart.int _ _); (case i => assumption); (case m => exact kmk_upto (by assumption) (Int.natCast_nonneg _)); (case c => exact rfl); (case s => with_unfolding_all rfl); (case t => kmk_pure); (case z => exact my_size (by assumption) (by omega))); intro D' ws' h' F' N' l1 hI' hC' hL'; clear hC' hL'; (try simp only [Int.toNat_natCast] at hI'); (try k_lt l1); (try k_sweep)))
local macro_rules | `(tactic| walk_at "subscriptTail Name Slice ref ref") => `(tactic| (k_here; (with_reducible show wpAny _ _ (subscriptTail _ (PySem.Expr.Slice (some _) none none _) (Value.ref _) (Value.ref _)) _ _ _); k_dflt (refine' kmk_slice_ints ?F ?N ?l ?p ?q ?i ?m ?c ?_ ?s ?t ?z; (case F => k_asm); (case N => k_asm); (case l => exact News.isList (by k_asm) (by k_mem)); (case p => exact IsPart.int _ _); (case q => exact IsPart.none); (case i => assumption); (case m => exact kmk_from (by assumption) (Int.natCast_nonneg _)); (case c => exact rfl); (case s => with_unfolding_all rfl); (case t => kmk_pure); (case z => exact my_size (by assumption) (by omega))); intro D' ws' h' F' N' l1 hI' hC' hL'; clear hC' hL'; (try simp only [Int.toNat_natCast] at hI'); (try k_lt l1); (try k_sweep)))
local macro_rules | `(tactic| walk_at "binaryOp Add ref ref") => `(tactic| (k_here; (with_reducible show wpAny _ _ (binaryOp _ (Value.ref _) (Value.ref _)) _ _ _); k_dflt (refine' kmk_add_ints ?F ?N ?a ?b ?i ?j ?_ ?z; (case F => k_asm); (case N => k_asm); (case a => exact News.isList (by k_asm) (by k_mem)); (case b => exact News.isList (by k_asm) (by k_mem)); (case i => l_ints); (case j => l_ints); (case z => (simp only [List.length_append, List.length_take, List.length_drop, List.length_cons, List.length_nil, insAll_len, sizeLine_eq]; omega))); intro D' ws' h' F' N' l1 hI'; (try k_lt l1); (try k_sweep)))
theorem ins_at (x : Int) : ∀ (l : List Int) (q : Nat), q ≤ l.length → (∀ j, j < q → ¬ x < l.getD j 0) → (q < l.length → x < l.getD q 0) → l.take q ++ [x] ++ l.drop q = ins x l
  | [], q, hq, _, _ => by
    obtain rfl : q = 0 := by simpa using hq
    rfl
  | y :: r, 0, _, _, hg => by
    have h : x < y := by simpa using hg (by simp)
    unfold ins
    rw [if_pos h]; rfl
  | y :: r, q + 1, hq, hl, hg => by
    have h : ¬ x < y := by simpa using hl 0 (by omega)
    unfold ins
    rw [if_neg h]
    have e := ins_at x r q (by simpa using hq) (fun j hj => by simpa using hl (j + 1) (by omega)) (fun z => by simpa using hg (by simpa using z))
    rw [← e]; rfl
theorem order {w : World} {A A₀ : Around} {s : Shared} {base h₀ : Heap} {outer : List Env} {L : Addr} {m mg mb : Str → Option Value} {env : Env} {news : List (Addr × Obj)} {loose : List Str} {mean : ExcName → Option Value} {p : Program} {R : Result → Shared → Prop} {r : Addr} {ws : List Value} {ns : List Int} {c : Nat}
    (B : Below A₀ base outer h₀) (F : Fr h₀ L s.heap m) (X₀ : (hd.heap_39 w.params).In h₀) (N : News h₀ L s.heap news) (T : Top p loose mean mg mb h₀) (hA : A.frames = some (env :: outer)) (hf : env.frame = some L) (hke : env.scope.kind = .function) (hroom : A.depth + 3 < recursionLimit)
    (hr : (r, W.listOf ws.toArray c) ∈ news) (hi : IntsAre ws ns) (hn : ns.length ≤ 12)
    (hh : A.handled = none)
    (h : ∀ h' tk d us cd, Fr h₀ L h' m → News h₀ L h' ((d, W.listOf us.toArray cd) :: news) → IntsAre us (insAll ns) → R (.ok (.ret (.ref d))) { s with heap := h', toks := tk }) :
    codeAny (model PySem.Challenge.rw_uq0001_01.row.prog w) A (.call (.ref 190) ⟨[.ref r], []⟩) R s := by
  revert X₀
  k_fill
  intro X₀
  refine code_def B F X₀ N T hA hf hke (by k_is) (by k_is) (by omega) (BindsTo.of_eq rfl) (locs rfl) ?_ (by exact rfl) (by exact rfl) (by exact rfl) (by decide)
  have hfin := h
  clear h
  intro g' L' h' FG' F' N' B' X' T'
  clear B F X₀ N T
  repeat ((fail_if_success (with_reducible show wpAny _ _ (PySem.pyIter _) _ _ _)); (first | (k_unfold; (try dsimp only)) | (k_end; wrow_close) | walk1 | (dsimp only; walk1) | (leave1; (try dsimp only)) | fail "no step"))
  rename Fr _ _ _ _ => kF
  rename News _ _ _ _ => kN
  rename IntsAre _ _ => hi
  refine iter_any (fun i m nx => ∃ d us cd, m (Str.ofString "row") = some (.ref r) ∧ m (Str.ofString "done") = some (.ref d) ∧ nx = (d, W.listOf us.toArray cd) :: news ∧ IntsAre us (insAll (ns.take i))) (by exact hh) (.tail _ hr) kF kN ⟨_, [], _, rfl, rfl, rfl, .nil⟩ ?_ ?_
  · rintro i v m₁ nx h₅ tk I oI hv hl hI ⟨d, us, cd, m1, m2, rfl, hu⟩ F₁ N₁
    have hlt : i < ns.length := by
      have := (List.getElem?_eq_some_iff.mp hv).1
      rw [hi.length] at this; exact this
    obtain ⟨t, hx⟩ := hi.get i ns[i] (by simp [hlt])
    rw [hx] at hv
    obtain rfl := Option.some.inj hv
    generalize hxv : ns[i] = xv at F₁ hx hv
    have F₂ := fr2 F₁ m1 m2
    clear kF kN F₁ hv
    have hlen : us.length = i := by rw [hu.length, insAll_len, List.length_take]; omega
    repeat ((fail_if_success (with_reducible show wpAny _ _ (PySem.exec (PySem.Stmt.For _ _ _ _ _) _) _ _ _)); (first | (k_unfold; (try dsimp only)) | (k_end; wrow_close) | walk1 | (dsimp only; walk1) | (leave1; (try dsimp only)) | fail "no step"))
    refine wpAny_mono (Q := fun f s₂ => f = .next ∧ ∃ (h' : Heap) (tk q t' : Nat) (u : Str → Option Value), s₂ = ({ heap := h', gens := s.gens, drawn := s.drawn, toks := tk, os := s.os } : Shared) ∧ q ≤ i ∧ (∀ j, j < q → ¬ xv < (insAll (ns.take i)).getD j 0) ∧ (q < i → xv < (insAll (ns.take i)).getD q 0) ∧
      Fr g' L' h' (fun y => if y = Str.ofString "place" then some (.int ((q : Nat) : Int) t') else if y = Str.ofString "x" then some (.int xv t) else if y = Str.ofString "row" then some (.ref r) else if y = Str.ofString "done" then some (.ref d) else u y) ∧
      News g' L' h' ((I, oI) :: (d, W.listOf us.toArray cd) :: news)) ?_ ?_ (fun _ _ e => e)
    · repeat ((fail_if_success (with_reducible show wpAny _ _ (PySem.pyIter (Value.ref _)) _ _ _)); (first | (k_unfold; (try dsimp only)) | (k_end; wrow_close) | walk1 | (dsimp only; walk1) | (leave1; (try dsimp only)) | fail "no step"))
      rename Fr _ _ _ _ => kF
      rename News _ _ _ _ => kN
      refine range_any (n := i) (fun i₂ m nx => nx = ((I, oI) :: (d, W.listOf us.toArray cd) :: news) ∧ (∃ t' : Tok, m (Str.ofString "place") = some (.int (i : Int) t')) ∧ m (Str.ofString "x") = some (.int xv t) ∧ m (Str.ofString "row") = some (.ref r) ∧ m (Str.ofString "done") = some (.ref d) ∧ ∀ j, j < i₂ → ¬ xv < (insAll (ns.take i)).getD j 0) (by exact hh) (by assumption) (by first | exact small_one (by omega) (by omega) (by omega) (by omega)) (by first | exact rangeSize_nat _ _ | rfl) kF kN ⟨rfl, ⟨_, rfl⟩, rfl, rfl, rfl, fun _ hj => absurd hj (Nat.not_lt_zero _)⟩ ?_ ?_
      · rintro i₂ t₂ m₂ nx₂ h₂ tk₂ I₂ oI₂ hi₂ hI₂ ⟨rfl, ⟨tp, mp⟩, mx, mr, md, hle⟩ F₃ N₃
        rw [Int.zero_add] at F₃
        have F₄ := fr4 F₃ mp mx mr md
        clear kF kN F₃
        try clear F₂
        repeat ((fail_if_success (with_reducible show ite _ _ _)); (first | (k_unfold; (try dsimp only)) | (k_end; wrow_close) | walk1 | (dsimp only; walk1) | (leave1; (try dsimp only)) | fail "no step"))
        iterate 3 (first | (k_unfold; (try dsimp only)) | (k_end; wrow_close) | walk1 | (dsimp only; walk1) | (leave1; (try dsimp only)) | fail "no step")
        repeat ((fail_if_success (with_reducible show ite _ _ _)); (first | (k_unfold; (try dsimp only)) | (k_end; wrow_close) | walk1 | (dsimp only; walk1) | (leave1; (try dsimp only)) | fail "no step"))
        by_cases hc : xv < (insAll (ns.take i)).getD i₂ 0
        · refine ite_pos (by rw [Int.toNat_natCast]; exact decide_eq_true hc) ?_
          repeat ((fail_if_success (with_reducible show TurnPost _ _ _ _ _ _ _ _ _)); (first | (k_unfold; (try dsimp only)) | (k_end; wrow_close) | walk1 | (dsimp only; walk1) | (leave1; (try dsimp only)) | fail "no step"))
          rename Fr _ _ _ _ => kF
          rename News _ _ _ _ => kN
          exact ⟨rfl, _, _, i₂, _, _, rfl, Nat.le_of_lt hi₂, hle, fun _ => hc, frk4 kF rfl rfl rfl rfl, fun p hp => kN p (.tail _ hp)⟩
        · refine ite_neg (by rw [Int.toNat_natCast]; exact fun z => hc (of_decide_eq_true z)) ?_
          repeat ((fail_if_success (with_reducible show TurnPost _ _ _ _ _ _ _ _ _)); (first | (k_unfold; (try dsimp only)) | (k_end; wrow_close) | walk1 | (dsimp only; walk1) | (leave1; (try dsimp only)) | fail "no step"))
          rename Fr _ _ _ _ => kF
          rename News _ _ _ _ => kN
          refine ⟨_, _, _, _, rfl, kF, kN, hI₂, rfl, ⟨_, rfl⟩, rfl, rfl, rfl, fun j hj => ?_⟩
          by_cases e : j = i₂
          · rw [e]; exact hc
          · exact hle j (by omega)
      · rintro m₂ nx₂ h₂ tk₂ ⟨rfl, ⟨tp, mp⟩, mx, mr, md, hle⟩ F₃ N₃
        exact ⟨rfl, _, _, i, _, _, rfl, Nat.le_refl _, hle, fun z => absurd z (Nat.lt_irrefl _), frk4 F₃ mp mx mr md, N₃⟩
    · rintro f s₂ ⟨rfl, h₂, tk₂, q, t', u, rfl, hq, hle, hgt, F₃, N₃⟩
      try clear F₂
      dsimp only
      repeat ((fail_if_success (with_reducible show TurnPost _ _ _ _ _ _ _ _ _)); (first | (k_unfold; (try dsimp only)) | (k_end; wrow_close) | walk1 | (dsimp only; walk1) | (leave1; (try dsimp only)) | fail "no step"))
      rename Fr _ _ _ _ => kF
      rename News _ _ _ _ => kN
      rename IntsAre _ (_ ++ _ ++ _) => kI
      rw [ins_at xv _ q (by rw [insAll_len, List.length_take]; omega) hle (fun z => hgt (by rw [insAll_len, List.length_take] at z; omega)), ← insAll_snoc] at kI
      have e1 : ns.take (i + 1) = ns.take i ++ [xv] := by rw [List.take_add_one, List.getElem?_eq_getElem hlt, hxv]; rfl
      rw [← e1] at kI
      refine ⟨_, _, _, (_, W.listOf _ 0) :: news, rfl, kF, ?_, ?_, .tail _ hr, _, _, _, rfl, rfl, rfl, kI⟩
      · intro p hp
        refine kN p ?_
        rcases List.mem_cons.mp hp with rfl | hp
        · k_mem
        · rcases List.mem_cons.mp hp with rfl | hp
          · k_mem
          · kst_mem
      · intro p hp
        rcases List.mem_cons.mp hp with rfl | hp
        · k_ne
        · exact hI _ (.tail _ hp)
  · rintro m₁ nx h₅ tk hl ⟨d, us, cd, m1, m2, rfl, hu⟩ F₁ N₁
    rw [List.take_of_length_le (by rw [hi.length]; exact Nat.le_refl _)] at hu
    have F₂ := fr1 F₁ m2
    clear kF kN F₁
    repeat ((fail_if_success (with_reducible show LeaveK _ _ _ _ _ _ _)); (first | (k_unfold; (try dsimp only)) | (k_end; wrow_close) | walk1 | (dsimp only; walk1) | (leave1; (try dsimp only)) | fail "no step"))
    exact leaveK_ F₂ N₁ fun kF kN => hfin _ _ _ _ _ kF kN hu
end Mine
namespace Mine
open PySem PySem.Spec PySem.Calls PySem.W PyProof.Rows PyProof.Rows.LCg
set_option maxRecDepth 100000
def Off4 (e it C D : Addr) (l : List (Addr × Obj)) : Prop := ∀ p ∈ l, p.1 ≠ e ∧ p.1 ≠ it ∧ p.1 ≠ C ∧ p.1 ≠ D
section
variable {prog : Program} {w : World} {A : Around} {E : Value → Shared → Prop} {s : Shared} {h₀ : Heap} {L : Addr} {m : Str → Option Value} {env : Env}

/-- where an element's evaluation ends: the block's four objects as they were, the rest by the invariant -/
def EltEnd (h₀ : Heap) (L : Addr) (m : Str → Option Value) (s₁ : Shared) (four : List (Addr × Obj)) (e it C D : Addr) (J : Value → List (Addr × Obj) → Prop) (y : Value) (s₂ : Shared) : Prop :=
  ∃ h' tk nx, s₂ = { s₁ with heap := h', toks := tk } ∧ Fr h₀ L h' m ∧ News h₀ L h' (four ++ nx) ∧ Off4 e it C D nx ∧ J y nx

theorem enum_block {elt iter : Expr} {a b : Str} {pa pb tp : Pos} {kk : Nat} {scope : Scope} {cl : List (Str × Addr)} {pos : Pos} {s₂ : Shared} {e it ax : Addr} {its : List Value} {nn : Nat} {news : List (Addr × Obj)}
    {Inv : Nat → List Value → List (Addr × Obj) → Prop} {RR : Value → Addr → Result → Shared → Prop}
    (hh : A.handled = none) (hsz : its.length ≤ sizeLine) (hei : e ≠ it) (he : IsEnum s₂.heap e it 0 .none) (hit : s₂.heap.IsListIter it ax 0)
    (hax : ∀ i ys nx, Inv i ys nx → (ax, W.listOf its.toArray nn) ∈ nx)
    (hcell : ∀ y ∈ scope.names, y.2 ≠ .cell) (hkind : scope.kind = .function) (hxa : scope.names.lookup a = some .local) (hxb : scope.names.lookup b = some .local) (hab : ¬ a = b)
    (F : Fr h₀ L s₂.heap m) (N : News h₀ L s₂.heap news) (heL : L ≠ e) (hiL : L ≠ it) (he₀ : h₀.get? e = none) (hi₀ : h₀.get? it = none) (off : ∀ p ∈ news, p.1 ≠ e ∧ p.1 ≠ it)
    (hI : Inv 0 [] news)
    (turn : ∀ i v ys nx oe oi C oC D m₂ h tk t (E' : Value → Shared → Prop), its[i]? = some v → Inv i ys nx → NsObj oC m₂ → m₂ a = some (.int (i : Int) t) → m₂ b = some v → Fr h₀ L h m → News h₀ L h ([(e, oe), (it, oi), (C, oC), (D, lst ys)] ++ nx) → Off4 e it C D nx →
      wpAny (model prog w) A (eval elt (compEnvC scope cl C env)) (EltEnd h₀ L m { s₂ with heap := h, toks := tk } [(e, oe), (it, oi), (C, oC), (D, lst ys)] e it C D (fun y nx' => Inv (i + 1) (ys ++ [y]) nx')) E' { s₂ with heap := h, toks := tk })
    (hRR : ∀ D C h tk m' ys nx, Fr h₀ L h m → News h₀ L h ((D, lst ys) :: nx) → (∀ p ∈ nx, p.1 ≠ D) → h.Ns C m' → h₀.get? C = none → h₀.get? D = none → C ≠ L → D ≠ L → C ≠ D → (∀ p ∈ nx, p.1 ≠ C) → Inv its.length ys nx → RR (.ref D) C (.ok .next) { s₂ with heap := h, toks := tk }) :
    wpAny (model prog w) A (newList []) (fun acc s₃ => wpAny (model prog w) A (newFunctionEnv scope env.globals cl [] env.qual none .none (some env)) (fun cenv s₄ =>
      codeAny (model prog w) A (.compStart (.ListComp elt [⟨.Tuple [.Name a pa, .Name b pb] kk tp, iter, [], 0⟩] scope pos) 0 (.ref e) acc { cenv with scope := relabel scope env }) (RR acc cenv.locals) s₄) E s₃) E s₂ := by
  refine wpAny_newObj_type (wpAny_newFunctionEnv hcell (by intro y hy; simp at hy) (fun h₁ hns₁ hsb₁ => ?_) hkind)
  dsimp only at hns₁ hsb₁ ⊢
  generalize hH2 : s₂.heap.push { cls := .type "list", dict := none, data := .seq ([] : List Value).toArray } = H2 at hns₁ hsb₁ ⊢
  generalize hD : s₂.heap.objs.size = D at hsb₁ hns₁ ⊢
  have hCD : H2.objs.size = D + 1 := by rw [← hH2, Heap.size_push, hD]
  generalize hC : H2.objs.size = C at hCD hns₁ hsb₁ ⊢
  have new : ∀ x o, s₂.heap.get? x = some o → x ≠ C ∧ x ≠ D := fun x o q => by
    have : @LT.lt Nat _ x D := hD ▸ Heap.lt_size q
    exact ⟨fun z => absurd (z ▸ this) (by rw [hCD]; exact Nat.not_lt.mpr (Nat.le_succ _)), fun z => absurd (z ▸ this) (Nat.lt_irrefl _)⟩
  have old : ∀ x o, s₂.heap.get? x = some o → h₁.get? x = some o := fun x o q => hsb₁.extBut x o (new x o q).1 (Heap.get?_push_of_some _ (hH2 ▸ Heap.get?_push_of_some _ q))
  have fresh₀ : ∀ x, D ≤ x → h₀.get? x = none := fun x hx => by
    cases q : h₀.get? x with
    | none => rfl
    | some o => exact absurd (Heap.lt_size (F.keep _ _ q)) (by rw [hD]; exact Nat.not_lt.mpr hx)
  have hD₀ := fresh₀ D (Nat.le_refl _)
  have hC₀ := fresh₀ C (by rw [hCD]; exact Nat.le_succ _)
  have hDC : D ≠ C := by rw [hCD]; exact Nat.ne_of_lt (Nat.lt_succ_self _)
  obtain ⟨oL, _, _, hoL, _⟩ := F.ns
  obtain ⟨hLC, hLD⟩ := new L _ hoL
  obtain ⟨heC, heD⟩ := new e _ he
  obtain ⟨oit, hoit, hitr⟩ := id hit
  obtain ⟨hiC, hiD⟩ := new it _ hoit
  have hacc : h₁.get? D = some (lst []) := hsb₁.extBut _ _ hDC (by rw [← hD]; exact Heap.get?_push_of_some _ (hH2 ▸ Heap.get?_push_size _ rfl))
  have loop : ∀ s₃ : Shared, s₃ = { s₂ with heap := h₁, toks := s₂.toks + ([] : List (Str × Value)).length } →
      codeAny (model prog w) A (.compLoop (.ListComp elt [⟨.Tuple [.Name a pa, .Name b pb] kk tp, iter, [], 0⟩] scope pos) 0 (.ref e) (.ref D) (compEnvC scope cl C env)) (RR (.ref D) C) s₃ := by
    rintro s₃ rfl
    refine LCp.codeAny_compLoop_pair
      (fun k s' => ∃ h' tk i ys m' nx, s' = { s₂ with heap := h', toks := tk } ∧ i ≤ its.length ∧ k = its.length + 1 - i ∧ ys.length = i ∧ (∃ o, IsEnum h' e it i o) ∧ h'.IsListIter it ax i ∧ Fr h₀ L h' m ∧ h'.Ns C m' ∧
        News h₀ L h' ((D, lst ys) :: nx) ∧ Off4 e it C D nx ∧ Inv i ys nx) ?_ (its.length + 1)
      ⟨h₁, _, 0, [], _, news, rfl, Nat.zero_le _, rfl, rfl, ⟨_, old _ _ he⟩, ⟨oit, old _ _ hoit, hitr⟩, F.keeps old, hns₁, fun p hp => ?_, fun p hp => ?_, hI⟩
    · rintro k s' ⟨h', tk, i, ys, m', nx, rfl, hi, rfl, hyl, ⟨oo, he'⟩, hit', F', hn', N', off', hI'⟩
      have hmem := hax _ _ _ hI'
      have hl' : h'.IsList ax its.toArray := ⟨_, (N' _ (.tail _ hmem)).1, rfl, nn, rfl⟩
      have hxo := off' _ hmem
      have W := WalksT.enumerate (prog := prog) (w := w) hh e it ax hei hxo.1 hxo.2.1 its.toArray
      rw [List.size_toArray] at W
      have keep : ∀ {h₂ : Heap}, (∀ x o, x ∉ [e, it] → h'.get? x = some o → h₂.get? x = some o) → Fr h₀ L h₂ m ∧ h₂.Ns C m' ∧ News h₀ L h₂ ((D, lst ys) :: nx) := fun {h₂} hk => by
        have hk' : ∀ x o, x ≠ e → x ≠ it → h'.get? x = some o → h₂.get? x = some o := fun x o h1 h2 q => hk x o (by simp [h1, h2]) q
        refine ⟨⟨F'.ns.at' fun o q => hk' L o heL hiL q, fun x o q => hk' x o (fun z => by rw [z, he₀] at q; cases q) (fun z => by rw [z, hi₀] at q; cases q) (F'.keep x o q), F'.above⟩, hn'.at' fun o q => hk' C o (Ne.symm heC) (Ne.symm hiC) q, fun p hp => ?_⟩
        have z := N' p hp
        rcases List.mem_cons.mp hp with rfl | hq
        · exact ⟨hk' _ _ (Ne.symm heD) (Ne.symm hiD) z.1, z.2⟩
        · exact ⟨hk' _ _ (off' p hq).1 (off' p hq).2.1 z.1, z.2⟩
      by_cases hlt : i < its.length
      · refine W.item i _ _ _ hlt ⟨⟨oo, he'⟩, hit', hl'⟩ fun T vals h₂ tk₂ hP hT₀ hT hM hk₂ => ?_
        obtain ⟨t, x, hx, rfl⟩ := hP
        have hTw := W.apart i T _ hM
        refine W.go _ _ _ i T _ _ _ hM fun h₃ hst₃ hk₃ => ?_
        obtain ⟨F₃, hn₃, N₃⟩ := keep (h₂ := h₃) fun x o h1 q => hk₃ x o h1 (hk₂ x o h1 q)
        have hT₃ : h₃.IsTuple T #[.int (i : Int) t, x] := hT.at fun o q => hk₃ T o hTw q
        refine kcp_assign (env := compEnvC scope cl C env) hh hT₃ (lookup_relabel_local hxa) (lookup_relabel_local hxb) (by simp [compEnvC, relabel, hkind]) hn₃ fun h₄ tk₄ hn₄ hk₄ => ?_
        obtain ⟨⟨o₃, he₃⟩, hit₃, hl₃⟩ := hst₃
        obtain ⟨oi₃, hoi₃, hitr₃⟩ := hit₃
        obtain ⟨oC, heC₄, hoC⟩ := ns_obj hn₄
        have F₄ : Fr h₀ L h₄ m := ⟨F₃.ns.at' fun o q => hk₄ L o hLC q, fun x o q => hk₄ x o (fun z => by have z' : x = C := z; rw [z', hC₀] at q; cases q) (F₃.keep x o q), F₃.above⟩
        have N₄ : News h₀ L h₄ ([(e, _), (it, oi₃), (C, oC), (D, lst ys)] ++ nx) := fun p hp => by
          rcases List.mem_cons.mp hp with rfl | hp
          · exact ⟨hk₄ _ _ heC he₃, Ne.symm heL, he₀⟩
          · rcases List.mem_cons.mp hp with rfl | hp
            · exact ⟨hk₄ _ _ hiC hoi₃, Ne.symm hiL, hi₀⟩
            · rcases List.mem_cons.mp hp with rfl | hp
              · exact ⟨heC₄, Ne.symm hLC, hC₀⟩
              · have z := N₃ p hp
                refine ⟨hk₄ _ _ ?_ z.1, z.2⟩
                rcases List.mem_cons.mp hp with rfl | hq
                · exact hDC
                · exact (off' p hq).2.2.1
        have hx' : its[i]? = some x := by simpa using hx
        refine wpAny_mono (turn i x ys nx _ oi₃ C oC D _ h₄ _ t _ hx' hI' hoC (by simp [hab]) (by simp) F₄ N₄ off') (fun y s₅ h₅ => ?_) fun _ _ z => z
        obtain ⟨h₅, tk₅, nx₅, rfl, F₅, N₅, off₅, hI₅⟩ := h₅
        have ze := (N₅ _ (List.Mem.head _)).1
        have zi := (N₅ _ (.tail _ (List.Mem.head _))).1
        have zC := (N₅ _ (.tail _ (.tail _ (List.Mem.head _)))).1
        have zD := (N₅ _ (.tail _ (.tail _ (.tail _ (List.Mem.head _))))).1
        have N₅' : News h₀ L h₅ nx₅ := fun p hp => N₅ p (.tail _ (.tail _ (.tail _ (.tail _ hp))))
        refine append_at (hsz := by show ys.toArray.size ≤ sizeLine; rw [List.size_toArray, hyl]; exact Nat.le_trans hi hsz) zD fun h₆ hs₆ hD₆ => ?_
        refine ⟨its.length + 1 - (i + 1), by omega, h₆, tk₅, i + 1, ys ++ [y], _, nx₅, rfl, hlt, rfl, by rw [List.length_append, List.length_singleton, hyl], ⟨o₃, hs₆.extBut _ _ heD ze⟩, ⟨oi₃, hs₆.extBut _ _ hiD zi, hitr₃⟩, F₅.change hs₆ (Ne.symm hLD) hD₀,
          (hoC.ns zC).sameBut hs₆ (Ne.symm hDC), fun p hp => ?_, off₅, hI₅⟩
        rcases List.mem_cons.mp hp with rfl | hp
        · exact ⟨hD₆.trans (congrArg some (lst_snoc ys y)), Ne.symm hLD, hD₀⟩
        · exact ⟨hs₆.extBut _ _ (off₅ p hp).2.2.2 (N₅' p hp).1, (N₅' p hp).2⟩
      · obtain rfl : i = its.length := Nat.le_antisymm hi (Nat.not_lt.mp hlt)
        refine W.done _ _ _ ⟨⟨oo, he'⟩, hit', hl'⟩ fun h₂ tk₂ hk₂ => ?_
        obtain ⟨F₂, hn₂, N₂⟩ := keep (h₂ := h₂) hk₂
        exact hRR _ _ h₂ tk₂ _ ys nx F₂ N₂ (fun p hp => (off' p hp).2.2.2) hn₂ hC₀ hD₀ (Ne.symm hLC) (Ne.symm hLD) (Ne.symm hDC) (fun p hp => (off' p hp).2.2.1) hI'
    · rcases List.mem_cons.mp hp with rfl | hp
      · exact ⟨hacc, Ne.symm hLD, hD₀⟩
      · exact ⟨old _ _ (N p hp).1, (N p hp).2⟩
    · exact ⟨(off p hp).1, (off p hp).2, new _ _ (N p hp).1⟩
  have he₁ : IsEnum h₁ e it 0 .none := old _ _ he
  exact codeAny_compStart_list (loop _ rfl) (wpAny_pyIter_enum he₁ (loop _ rfl))

theorem enum_assign {elt iter : Expr} {a b y : Str} {pa pb py tp : Pos} {kk : Nat} {scope : Scope} {cl : List (Str × Addr)} {pos spos : Pos} {Q : Flow → Shared → Prop} {ax : Addr} {its : List Value} {nn : Nat} {news : List (Addr × Obj)} (F₀ : Fr h₀ L s.heap m) (N₀ : News h₀ L s.heap news) (Inv : Nat → List Value → List (Addr × Obj) → Prop)
    (hLe : env.locals = L) (hh : A.handled = none) (hsz : its.length ≤ sizeLine)
    (hsw : swapsWith (.ListComp elt [⟨.Tuple [.Name a pa, .Name b pb] kk tp, iter, [], 0⟩] scope pos) (some (.Name y py)) spos.line env = pure true)
    (hclos : closureFor scope env = pure cl) (hcell : ∀ z ∈ scope.names, z.2 ≠ .cell) (hkind : scope.kind = .function)
    (hnames : ∀ z ∈ scope.names, z.2 = .local → scope.names.lookup z.1 = some .local) (hxa : scope.names.lookup a = some .local) (hxb : scope.names.lookup b = some .local) (hab : ¬ a = b)
    (hy : env.kindOf y = some .local) (hp : (env.scope.kind == .class || (env.scope.kind == .module && env.locals != env.globals)) = false)
    (hax : ∀ i ys nx, Inv i ys nx → (ax, W.listOf its.toArray nn) ∈ nx) (hI : Inv 0 [] news)
    (src : wpAny (model prog w) A (eval iter env) (fun xv s₁ => ∃ e it h' tk, xv = .ref e ∧ s₁ = { s with heap := h', toks := tk } ∧ e ≠ it ∧ IsEnum h' e it 0 .none ∧ h'.IsListIter it ax 0 ∧ Fr h₀ L h' m ∧ News h₀ L h' news ∧ L ≠ e ∧ L ≠ it ∧ h₀.get? e = none ∧ h₀.get? it = none ∧ ∀ p ∈ news, p.1 ≠ e ∧ p.1 ≠ it) E s)
    (turn : ∀ e it i v ys nx oe oi C oC D m₂ h tk t (E' : Value → Shared → Prop), its[i]? = some v → Inv i ys nx → NsObj oC m₂ → m₂ a = some (.int (i : Int) t) → m₂ b = some v → Fr h₀ L h m → News h₀ L h ([(e, oe), (it, oi), (C, oC), (D, lst ys)] ++ nx) → Off4 e it C D nx →
      wpAny (model prog w) A (eval elt (compEnvC scope cl C env)) (EltEnd h₀ L m { s with heap := h, toks := tk } [(e, oe), (it, oi), (C, oC), (D, lst ys)] e it C D (fun y nx' => Inv (i + 1) (ys ++ [y]) nx')) E' { s with heap := h, toks := tk })
    (fin : ∀ D h tk ys nx, Fr h₀ L h (fun z => if z = y then some (.ref D) else m z) → News h₀ L h ((D, lst ys) :: nx) → (∀ p ∈ nx, p.1 ≠ D) → Inv its.length ys nx → Q .next { s with heap := h, toks := tk })
    (hs : ∀ x, foldedSetIterable iter env x = pure x := by intro _; rfl) :
    wpAny (model prog w) A (exec (.Assign [.Name y py] (.ListComp elt [⟨.Tuple [.Name a pa, .Name b pb] kk tp, iter, [], 0⟩] scope pos) spos) env) Q E s := by
  subst hLe
  rw [exec_Assign_Name_used _ _ _ _ hsw]
  refine wpAny_bind (wpAny_standAt (wpAny_bind ?_))
  show wpAny _ A (do let _ ← comprehension (.ListComp elt [⟨.Tuple [.Name a pa, .Name b pb] kk tp, iter, [], 0⟩] scope pos) scope env _ (newList []) false (eval iter env) (some (assign (.Name y py) env))) _ _ s
  refine wpAny_bind (wpAny_mono (wpAny_comprehension_free (use := some (assign (.Name y py) env)) (Q := fun _ s' => Q .next s') rfl hs hclos hkind hnames
    (wpAny_mono src (fun xv s₁ h₁ => ?_) fun _ _ z => z)) (fun _ s' hq => wpAny_pure (wpAny_pure hq)) fun _ _ z => z)
  obtain ⟨e, it, h', tk, rfl, rfl, hei, he, hit, F, N, heL, hiL, he₀, hi₀, off⟩ := h₁
  refine wpAny_pyIter_enum he ?_
  refine enum_block (s₂ := { s with heap := h', toks := tk }) hh hsz hei he hit hax hcell hkind hxa hxb hab F N heL hiL he₀ hi₀ off hI (fun i v ys nx oe oi C oC D m₂ h tk t E' => turn e it i v ys nx oe oi C oC D m₂ h tk t E') ?_
  intro D C h₂ tk₂ m' ys nx F' N' o1 hn hC₀ hD₀ hCL hDL hCD offC hI'
  show wpAny _ A (assign (.Name y py) env (.ref D)) _ _ _
  refine wpAny_assign_Name (wpAny_storeName_local hy F'.ns (fun h₃ hn₃ hs₃ => ?_) hp)
  have F₃ := F'.set hn₃ hs₃
  refine ⟨m', hn.sameBut hs₃ hCL, fun h₄ hs₄ => fin D h₄ _ ys nx (F₃.change hs₄ hCL hC₀) (fun p hp => ?_) o1 hI'⟩
  have z := (N'.set hs₃) p hp
  refine ⟨hs₄.extBut _ _ ?_ z.1, z.2⟩
  rcases List.mem_cons.mp hp with rfl | hp
  · exact Ne.symm hCD
  · exact offC p hp
theorem enum_src {ax : Addr} {its : List Value} {nn : Nat} {news : List (Addr × Obj)} (F : Fr h₀ L s.heap m) (N : News h₀ L s.heap news) (hm : (ax, W.listOf its.toArray nn) ∈ news) :
    wpAny (model prog w) A (call (.type "enumerate") [.ref ax]) (fun xv s₁ => ∃ e it h' tk, xv = .ref e ∧ s₁ = { s with heap := h', toks := tk } ∧ e ≠ it ∧ IsEnum h' e it 0 .none ∧ h'.IsListIter it ax 0 ∧ Fr h₀ L h' m ∧ News h₀ L h' news ∧ L ≠ e ∧ L ≠ it ∧ h₀.get? e = none ∧ h₀.get? it = none ∧ ∀ p ∈ news, p.1 ≠ e ∧ p.1 ≠ it) E s := by
  have hl : s.heap.IsList ax its.toArray := ⟨_, (N _ hm).1, rfl, nn, rfl⟩
  refine call_enumerate_list hl fun h' he hit hz hk => ⟨_, _, h', s.toks, rfl, rfl, Nat.succ_ne_self _, he, hit, F.keeps hk, fun p hp => ⟨hk _ _ (N p hp).1, (N p hp).2⟩, ?_, ?_, ?_, ?_, ?_⟩
  · exact Nat.ne_of_lt (Nat.lt_succ_of_lt F.ns.lt)
  · exact Nat.ne_of_lt F.ns.lt
  · exact Heap.get?_none_of_le (Nat.le_of_lt (Nat.lt_of_le_of_lt F.above (Nat.lt_succ_of_lt F.ns.lt)))
  · exact next_is_new F
  · intro p hp
    have hlt := Heap.lt_size (N p hp).1
    exact ⟨Nat.ne_of_lt (Nat.lt_succ_of_lt hlt), Nat.ne_of_lt hlt⟩
/-- the made row of things: one list a number, the number and its place's text -/
def Things (ws : List Value) (news₀ : List (Addr × Obj)) (i : Nat) (ys : List Value) (nx : List (Addr × Obj)) : Prop :=
  ∃ inner : List (Addr × Obj), nx = inner ++ news₀ ∧ inner.length = i ∧ ys = inner.map (fun p => Value.ref p.1) ∧
    ∀ (j : Nat) (q : Addr × Obj), inner[j]? = some q → ∃ v t k, ws[j]? = some v ∧ q.2 = W.listOf (List.toArray [v, .str (Str.ofString (toString (j : Int))) t]) k
theorem elt_close {its : List Value} {news₀ inner : List (Addr × Obj)} {h h' : Heap} {tk tk' i k : Nat} {T e it C D : Addr} {oe oi oC oD : Obj} {v : Value} {t : Tok}
    (F : Fr h₀ L h' m) (N : News h₀ L h' ((T, W.listOf (List.toArray [v, .str (Str.ofString (toString (i : Int))) t]) k) :: ([(e, oe), (it, oi), (C, oC), (D, oD)] ++ (inner ++ news₀)))) (l1 : ∀ p ∈ [(e, oe), (it, oi), (C, oC), (D, oD)] ++ (inner ++ news₀), p.1 < T)
    (off : Off4 e it C D (inner ++ news₀)) (hl : inner.length = i) (hin : ∀ (j : Nat) (q : Addr × Obj), inner[j]? = some q → ∃ v t k, its[j]? = some v ∧ q.2 = W.listOf (List.toArray [v, .str (Str.ofString (toString (j : Int))) t]) k) (hv : its[i]? = some v) :
    EltEnd h₀ L m { s with heap := h, toks := tk } [(e, oe), (it, oi), (C, oC), (D, oD)] e it C D (fun y nx' => Things its news₀ (i + 1) (inner.map (fun p => Value.ref p.1) ++ [y]) nx') (.ref T) { s with heap := h', toks := tk' } := by
  refine ⟨h', tk', (inner ++ [(T, W.listOf (List.toArray [v, .str (Str.ofString (toString (i : Int))) t]) k)]) ++ news₀, rfl, F, fun p hp => N p ?_, fun p hp => ?_, inner ++ [(T, W.listOf (List.toArray [v, .str (Str.ofString (toString (i : Int))) t]) k)], rfl, by rw [List.length_append, hl]; rfl, by rw [List.map_append]; rfl, fun j q hq => ?_⟩
  · simp only [List.mem_append, List.mem_cons, List.not_mem_nil, or_false] at hp ⊢
    rcases hp with h1 | (h1 | h1) | h1
    · exact .inr (.inl h1)
    · exact .inr (.inr (.inl h1))
    · exact .inl h1
    · exact .inr (.inr (.inr h1))
  · rcases List.mem_append.mp hp with hp | hp
    · rcases List.mem_append.mp hp with hp | hp
      · exact off p (List.mem_append.mpr (.inl hp))
      · rw [List.mem_singleton.mp hp]
        exact ⟨Nat.ne_of_gt (l1 (e, oe) (.head _)), Nat.ne_of_gt (l1 (it, oi) (.tail _ (.head _))), Nat.ne_of_gt (l1 (C, oC) (.tail _ (.tail _ (.head _)))), Nat.ne_of_gt (l1 (D, oD) (.tail _ (.tail _ (.tail _ (.head _)))))⟩
    · exact off p (List.mem_append.mpr (.inr hp))
  · by_cases e : j < inner.length
    · rw [List.getElem?_append_left e] at hq
      exact hin j q hq
    · by_cases e2 : j = i
      · rw [show j = inner.length by omega, List.getElem?_append_right (Nat.le_refl _), Nat.sub_self] at hq
        obtain rfl := Option.some.inj hq
        exact ⟨v, t, k, by rw [e2]; exact hv, by rw [e2]⟩
      · rw [List.getElem?_eq_none (by rw [List.length_append, List.length_singleton]; omega)] at hq
        cases hq
theorem things_assign {elt iter : Expr} {a b y : Str} {pa pb py tp : Pos} {kk : Nat} {scope : Scope} {cl : List (Str × Addr)} {pos spos : Pos} {Q : Flow → Shared → Prop} {ax : Addr} {its : List Value} {nn : Nat} {news : List (Addr × Obj)} (F₀ : Fr h₀ L s.heap m) (N₀ : News h₀ L s.heap news) (hm : (ax, W.listOf its.toArray nn) ∈ news)
    (hLe : env.locals = L) (hh : A.handled = none) (hsz : its.length ≤ sizeLine)
    (hsw : swapsWith (.ListComp elt [⟨.Tuple [.Name a pa, .Name b pb] kk tp, iter, [], 0⟩] scope pos) (some (.Name y py)) spos.line env = pure true)
    (hclos : closureFor scope env = pure cl) (hcell : ∀ z ∈ scope.names, z.2 ≠ .cell) (hkind : scope.kind = .function)
    (hnames : ∀ z ∈ scope.names, z.2 = .local → scope.names.lookup z.1 = some .local) (hxa : scope.names.lookup a = some .local) (hxb : scope.names.lookup b = some .local) (hab : ¬ a = b)
    (hy : env.kindOf y = some .local) (hp : (env.scope.kind == .class || (env.scope.kind == .module && env.locals != env.globals)) = false)
    (src : wpAny (model prog w) A (eval iter env) (fun xv s₁ => ∃ e it h' tk, xv = .ref e ∧ s₁ = { s with heap := h', toks := tk } ∧ e ≠ it ∧ IsEnum h' e it 0 .none ∧ h'.IsListIter it ax 0 ∧ Fr h₀ L h' m ∧ News h₀ L h' news ∧ L ≠ e ∧ L ≠ it ∧ h₀.get? e = none ∧ h₀.get? it = none ∧ ∀ p ∈ news, p.1 ≠ e ∧ p.1 ≠ it) E s)
    (turn : ∀ e it i v ys nx oe oi C oC D m₂ h tk t (E' : Value → Shared → Prop), its[i]? = some v → Things its news i ys nx → NsObj oC m₂ → m₂ a = some (.int (i : Int) t) → m₂ b = some v → Fr h₀ L h m → News h₀ L h ([(e, oe), (it, oi), (C, oC), (D, lst ys)] ++ nx) → Off4 e it C D nx →
      wpAny (model prog w) A (eval elt (compEnvC scope cl C env)) (EltEnd h₀ L m { s with heap := h, toks := tk } [(e, oe), (it, oi), (C, oC), (D, lst ys)] e it C D (fun y nx' => Things its news (i + 1) (ys ++ [y]) nx')) E' { s with heap := h, toks := tk })
    (fin : ∀ D h tk ys nx, Fr h₀ L h (fun z => if z = y then some (.ref D) else m z) → News h₀ L h ((D, lst ys) :: nx) → (∀ p ∈ nx, p.1 ≠ D) → Things its news its.length ys nx → Q .next { s with heap := h, toks := tk })
    (hs : ∀ x, foldedSetIterable iter env x = pure x := by intro _; rfl) :
    wpAny (model prog w) A (exec (.Assign [.Name y py] (.ListComp elt [⟨.Tuple [.Name a pa, .Name b pb] kk tp, iter, [], 0⟩] scope pos) spos) env) Q E s :=
  enum_assign F₀ N₀ (Things its news) hLe hh hsz hsw hclos hcell hkind hnames hxa hxb hab hy hp (fun _ _ _ ⟨_, e, _⟩ => e ▸ List.mem_append.mpr (.inr hm)) ⟨[], rfl, rfl, rfl, fun _ _ z => nomatch z⟩ src turn fin hs
end
end Mine
namespace Mine
open PySem PySem.Spec PySem.Calls PySem.W PyProof.Rows PyProof.Rows.LCg
set_option maxRecDepth 100000
section
variable {prog : Program} {w : World} {A : Around} {E : Value → Shared → Prop} {s : Shared} {h₀ : Heap} {L : Addr} {m : Str → Option Value} {env : Env}
theorem walk_rest {x : Str} {pe : Pos} {scope : Scope} {cl : List (Str × Addr)} {items : Array Value} {news : List (Addr × Obj)} {S : List (Addr × Obj) → Prop} {Fin : List Value → List (Addr × Obj) → Prop}
    (hS : S news) (hfin : Fin items.toList news) (hk : scope.kind = .function) (hl : (compEnvC scope cl 0 env).kindOf x = some .local) (hd : (x == ("__debug__" : Str)) = false) :
    ∀ (k i : Nat), k + i = items.size → CompRest prog w A h₀ L m env (.Name x pe) x scope cl s S (fun i v => items[i]? = some v) Fin k i (items.toList.take i) news
  | 0, i, e => by
    rw [List.take_of_length_le (by rw [Array.length_toList]; omega)]
    exact hfin
  | k + 1, i, e => by
    refine CompRest.succ fun v I oI C oC D m₂ h tk E' hv hC hx F N off ne => ?_
    refine LCgL.ld_own N (.tail _ (.head _)) hC hx ?_ hk hl hd
    refine ⟨h, tk, news, rfl, F, N, off, hS, ?_⟩
    have e1 : items.toList.take i ++ [v] = items.toList.take (i + 1) := by
      have hv' : items.toList[i]? = some v := by simpa using hv
      rw [List.take_add_one, hv']; rfl
    dsimp only
    rw [e1]
    exact walk_rest hS hfin hk hl hd k (i + 1) (by omega)

theorem walk_assign {iter : Expr} {x y : Str} {px pe py : Pos} {scope : Scope} {cl : List (Str × Addr)} {pos spos : Pos} {Q : Flow → Shared → Prop} {wk D : Addr} {items : List Value} {nn : Nat} {oI : Obj} {news : List (Addr × Obj)} (F : Fr h₀ L s.heap m) (N : News h₀ L s.heap ((wk, oI) :: news)) (hD : (D, W.listOf items.toArray nn) ∈ news)
    (hI : oI.cls = .type "list_iterator" ∧ oI.data = .fields #[.ref D, .int (0 : Nat) 0]) (off : ∀ p ∈ news, p.1 ≠ wk)
    (hLe : env.locals = L) (hh : A.handled = none) (hsz : items.length ≤ sizeLine)
    (hsw : swapsWith (.ListComp (.Name x pe) [⟨.Name x px, iter, [], 0⟩] scope pos) (some (.Name y py)) spos.line env = pure true)
    (hclos : closureFor scope env = pure cl) (hcell : ∀ z ∈ scope.names, z.2 ≠ .cell) (hkind : scope.kind = .function)
    (hnames : ∀ z ∈ scope.names, z.2 = .local → scope.names.lookup z.1 = some .local) (hx : scope.names.lookup x = some .local)
    (hkx : (compEnvC scope cl 0 env).kindOf x = some .local) (hdx : (x == ("__debug__" : Str)) = false)
    (hy : env.kindOf y = some .local) (hp : (env.scope.kind == .class || (env.scope.kind == .module && env.locals != env.globals)) = false)
    (src : wpAny (model prog w) A (eval iter env) (fun xv s₁ => xv = .ref wk ∧ s₁ = s) E s)
    (fin : ∀ a h tk, Fr h₀ L h (fun z => if z = y then some (.ref a) else m z) → News h₀ L h ((a, lst items) :: news) → Q .next { s with heap := h, toks := tk })
    (hs : ∀ x, foldedSetIterable iter env x = pure x := by intro _; rfl) :
    wpAny (model prog w) A (exec (.Assign [.Name y py] (.ListComp (.Name x pe) [⟨.Name x px, iter, [], 0⟩] scope pos) spos) env) Q E s := by
  subst hLe
  rw [exec_Assign_Name_used _ _ _ _ hsw]
  refine wpAny_bind (wpAny_standAt (wpAny_bind ?_))
  show wpAny _ A (do let _ ← comprehension (.ListComp (.Name x pe) [⟨.Name x px, iter, [], 0⟩] scope pos) scope env _ (newList []) false (eval iter env) (some (assign (.Name y py) env))) _ _ s
  refine wpAny_bind (wpAny_mono (wpAny_comprehension_free (use := some (assign (.Name y py) env)) (Q := fun _ s' => Q .next s') rfl hs hclos hkind hnames
    (wpAny_mono src (fun xv s₁ h₁ => ?_) fun _ _ z => z)) (fun _ s' hq => wpAny_pure (wpAny_pure hq)) fun _ _ z => z)
  obtain ⟨rfl, rfl⟩ := h₁
  have hw := N _ (.head _)
  have hDl := N _ (.tail _ hD)
  have hit : s₁.heap.IsListIter wk D 0 := ⟨oI, hw.1, hI.1, hI.2⟩
  have hlD : s₁.heap.IsList D items.toArray := ⟨_, hDl.1, rfl, nn, rfl⟩
  refine wpAny_pyIter_listiter hit ?_
  have hne : D ≠ wk := off _ hD
  have WW := Walks.list (prog := prog) (w := w) hh wk D hne items.toArray
  refine block_U (S := SrcAt h₀ D items.toArray) (news := news) (Fin := fun ys nx => ys = items ∧ nx = news) WW (by rw [List.size_toArray]; exact hsz) (fun i h st => by obtain ⟨o, e, _⟩ := st.1; exact ⟨o, e⟩) list_st hcell hkind hx ⟨hit, hlD⟩ (fun b hb => ?_)
    F (fun p hp => N p (.tail _ hp)) (Ne.symm hw.2.1) hw.2.2 off (.inr ⟨_, hD, rfl, nn, rfl⟩) ?_ ?_
  · rcases List.mem_cons.mp hb with rfl | hb
    · exact Heap.lt_size hw.1
    · rw [List.mem_singleton.mp hb]; exact Heap.lt_size hDl.1
  · have z := walk_rest (prog := prog) (w := w) (A := A) (s := s₁) (h₀ := h₀) (L := env.locals) (m := m) (pe := pe) (x := x) (scope := scope) (cl := cl) (env := env) (items := items.toArray) (news := news) (S := SrcAt h₀ D items.toArray) (Fin := fun ys nx => ys = items ∧ nx = news) (.inr ⟨_, hD, rfl, nn, rfl⟩) ⟨rfl, rfl⟩ hkind hkx hdx items.toArray.size 0 rfl
    simpa using z
  · intro a C h' tk m' ys news' F' N' o1 hn hC₀ hD₀ hCL hDL hCD offC hfin
    obtain ⟨rfl, rfl⟩ := hfin
    show wpAny _ A (assign (.Name y py) env (.ref a)) _ _ _
    refine wpAny_assign_Name (wpAny_storeName_local hy F'.ns (fun h₂ hn₂ hs₂ => ?_) hp)
    have F₂ := F'.set hn₂ hs₂
    refine ⟨m', hn.sameBut hs₂ hCL, fun h'' hs'' => fin a h'' _ (F₂.change hs'' hCL hC₀) fun p hp => ?_⟩
    have z := (N'.set hs₂) p hp
    refine ⟨hs''.extBut _ _ ?_ z.1, z.2⟩
    rcases List.mem_cons.mp hp with rfl | hp
    · exact Ne.symm hCD
    · exact offC p hp
end
end Mine
namespace Mine
open PySem PySem.Spec PySem.Calls PySem.W PyProof.Rows PyProof.Rows.LCg
set_option maxRecDepth 100000
section
variable {prog : Program} {w : World} {A : Around} {E : Value → Shared → Prop} {s : Shared} {h₀ : Heap} {L : Addr} {m : Str → Option Value} {env : Env}
theorem comp_rest {elt : Expr} {x : Str} {scope : Scope} {cl : List (Str × Addr)} {S : List (Addr × Obj) → Prop} {P : Nat → Value → Prop} {Fin : List Value → List (Addr × Obj) → Prop} {Inv : Nat → List Value → List (Addr × Obj) → Prop} {n : Nat} (hfin : ∀ ys nx, Inv n ys nx → Fin ys nx)
    (turn : ∀ i v I oI C oC D m₂ h tk (E' : Value → Shared → Prop) ys nx, i < n → P i v → Inv i ys nx → NsObj oC m₂ → m₂ x = some v → Fr h₀ L h m → News h₀ L h ((I, oI) :: (C, oC) :: (D, lst ys) :: nx) → Off3 I C D nx →
      wpAny (model prog w) A (eval elt (compEnvC scope cl C env)) (CompEnd h₀ L m { s with heap := h, toks := tk } I oI C oC D (lst ys) S (fun y nx' => Inv (i + 1) (ys ++ [y]) nx')) E' { s with heap := h, toks := tk }) :
    ∀ (k i : Nat) (ys : List Value) (nx : List (Addr × Obj)), k + i = n → Inv i ys nx → CompRest prog w A h₀ L m env elt x scope cl s S P Fin k i ys nx
  | 0, i, ys, nx, e, hI => hfin ys nx (by rw [← e, Nat.zero_add]; exact hI)
  | k + 1, i, ys, nx, e, hI => by
    refine CompRest.succ fun v I oI C oC D m₂ h tk E' hv hC hx F N off ne => ?_
    refine wpAny_mono (turn i v I oI C oC D m₂ h tk E' ys nx (by omega) hv hI hC hx F N off) (fun y s₂ h₂ => ?_) fun _ _ z => z
    obtain ⟨h', tk', nx', e', F', N', off', hS, hI'⟩ := h₂
    exact ⟨h', tk', nx', e', F', N', off', hS, comp_rest hfin turn k (i + 1) _ _ (by omega) hI'⟩

/-- the row of things made anew -/
def Again (ns : List Int) (news₀ : List (Addr × Obj)) (i : Nat) (ys : List Value) (nx : List (Addr × Obj)) : Prop :=
  ∃ inner : List (Addr × Obj), nx = inner ++ news₀ ∧ inner.length = i ∧ ys = inner.map (fun p => Value.ref p.1) ∧
    ∀ (j : Nat) (q : Addr × Obj), inner[j]? = some q → ∃ u t k, q.2 = W.listOf (List.toArray [.int (ns.getD j 0) u, .str (Str.ofString (toString (j : Int))) t]) k
theorem again_close {ns : List Int} {news₀ inner : List (Addr × Obj)} {h h' : Heap} {tk tk' i k : Nat} {T I C D : Addr} {oI oC oD : Obj} {u t : Tok} {x : Int} {c r : Addr × Obj}
    (F : Fr h₀ L h' m) (N : News h₀ L h' ((T, W.listOf (List.toArray [.int x u, .str (Str.ofString (toString (i : Int))) t]) k) :: ((I, oI) :: (C, oC) :: (D, oD) :: c :: r :: (inner ++ news₀)))) (hx : x = ns.getD i 0)
    (l1 : T ≠ I ∧ T ≠ C ∧ T ≠ D)
    (off : Off3 I C D (inner ++ news₀)) (hl : inner.length = i) (hin : ∀ (j : Nat) (q : Addr × Obj), inner[j]? = some q → ∃ u t k, q.2 = W.listOf (List.toArray [.int (ns.getD j 0) u, .str (Str.ofString (toString (j : Int))) t]) k) :
    CompEnd h₀ L m { s with heap := h, toks := tk } I oI C oC D oD (fun _ => True) (fun y nx' => Again ns news₀ (i + 1) (inner.map (fun p => Value.ref p.1) ++ [y]) nx') (.ref T) { s with heap := h', toks := tk' } := by
  refine ⟨h', tk', (inner ++ [(T, W.listOf (List.toArray [.int x u, .str (Str.ofString (toString (i : Int))) t]) k)]) ++ news₀, rfl, F, fun p hp => N p ?_, Off3.of fun p hp => ?_, trivial, inner ++ [(T, W.listOf (List.toArray [.int x u, .str (Str.ofString (toString (i : Int))) t]) k)], rfl, by rw [List.length_append, hl]; rfl, by rw [List.map_append]; rfl, fun j q hq => ?_⟩
  · simp only [List.mem_append, List.mem_cons, List.not_mem_nil, or_false] at hp ⊢
    rcases hp with h1 | h1 | h1 | (h1 | h1) | h1
    · exact .inr (.inl h1)
    · exact .inr (.inr (.inl h1))
    · exact .inr (.inr (.inr (.inl h1)))
    · exact .inr (.inr (.inr (.inr (.inr (.inr (.inl h1))))))
    · exact .inl h1
    · exact .inr (.inr (.inr (.inr (.inr (.inr (.inr h1))))))
  · rcases List.mem_append.mp hp with hp | hp
    · rcases List.mem_append.mp hp with hp | hp
      · exact off.mem p (List.mem_append.mpr (.inl hp))
      · rw [List.mem_singleton.mp hp]
        exact l1
    · exact off.mem p (List.mem_append.mpr (.inr hp))
  · by_cases e : j < inner.length
    · rw [List.getElem?_append_left e] at hq
      exact hin j q hq
    · by_cases e2 : j = i
      · rw [show j = inner.length by omega, List.getElem?_append_right (Nat.le_refl _), Nat.sub_self] at hq
        obtain rfl := Option.some.inj hq
        exact ⟨u, t, k, by rw [e2, hx]⟩
      · rw [List.getElem?_eq_none (by rw [List.length_append, List.length_singleton]; omega)] at hq
        cases hq
end
def datsFrom : Nat → List Int → List Dat
  | _, [] => []
  | i, x :: r => .list [.int x, .str (Str.ofString (toString (i : Int)))] :: datsFrom (i + 1) r
theorem dat_things {news : List (Addr × Obj)} : ∀ (inner : List (Addr × Obj)) (ns : List Int) (i : Nat), inner.length = ns.length → (∀ p ∈ inner, p ∈ news) →
    (∀ (j : Nat) (q : Addr × Obj), inner[j]? = some q → ∃ u t k, q.2 = W.listOf (List.toArray [.int (ns.getD j 0) u, .str (Str.ofString (toString ((i + j : Nat) : Int))) t]) k) → DatAll news (inner.map (fun p => Value.ref p.1)) (datsFrom i ns)
  | [], [], _, _, _, _ => .nil
  | [], _ :: _, _, hl, _, _ => nomatch hl
  | _ :: _, [], _, hl, _, _ => nomatch hl
  | q :: r, x :: ns, i, hl, hm, hin => by
    obtain ⟨u, t, k, e⟩ := hin 0 q rfl
    refine .cons (.list (n := k) (vs := [.int x u, .str (Str.ofString (toString (i : Int))) t]) ?_ (.cons (.int x u) (.cons (.str _ t) .nil))) ?_
    · have := hm q (.head _)
      have e' : q = (q.1, W.listOf (List.toArray [.int x u, .str (Str.ofString (toString (i : Int))) t]) k) := Prod.ext rfl e
      rw [e'] at this
      exact this
    · refine dat_things r ns (i + 1) (by simpa using hl) (fun p hp => hm p (.tail _ hp)) fun j q hq => ?_
      obtain ⟨u, t, k, e⟩ := hin (j + 1) q (by simpa using hq)
      refine ⟨u, t, k, ?_⟩
      rw [show i + 1 + j = i + (j + 1) by omega]
      simpa using e
theorem strOk_small : ∀ i : Nat, i < 12 → PyData.strOk (Str.ofString (toString (i : Int))) = true
  | 0, _ | 1, _ | 2, _ | 3, _ | 4, _ | 5, _ | 6, _ | 7, _ | 8, _ | 9, _ | 10, _ | 11, _ => by decide +kernel
  | i + 12, h => absurd h (by omega)
theorem dat_ok : ∀ (ns : List Int) (i : Nat), i + ns.length ≤ 12 → ∀ d ∈ datsFrom i ns, kqdOk 8 d = true
  | [], _, _, _, hd => nomatch hd
  | x :: r, i, h, d, hd => by
    rcases List.mem_cons.mp hd with rfl | hd
    · show (kqdOk 7 (.int x) && (kqdOk 7 (.str (Str.ofString (toString (i : Int)))) && true)) = true
      show (true && (PyData.strOk (Str.ofString (toString (i : Int))) && true)) = true
      rw [strOk_small i (by simp only [List.length_cons] at h; omega)]; rfl
    · exact dat_ok r (i + 1) (by simp only [List.length_cons] at h; omega) d hd
theorem things_again {ws : List Value} {ns : List Int} {inner : List (Addr × Obj)} (hi : IntsAre ws ns) (hin : ∀ (j : Nat) (q : Addr × Obj), inner[j]? = some q → ∃ v t k, ws[j]? = some v ∧ q.2 = W.listOf (List.toArray [v, .str (Str.ofString (toString (j : Int))) t]) k) :
    ∀ (j : Nat) (q : Addr × Obj), inner[j]? = some q → ∃ u t k, q.2 = W.listOf (List.toArray [.int (ns.getD j 0) u, .str (Str.ofString (toString ((0 + j : Nat) : Int))) t]) k := by
  intro j q hq
  obtain ⟨v, t, k, hv, e⟩ := hin j q hq
  have hlt : j < ns.length := hi.length ▸ (List.getElem?_eq_some_iff.mp hv).1
  obtain ⟨u, hu⟩ := hi.get j ns[j] (by simp [hlt])
  rw [hu] at hv
  obtain rfl := Option.some.inj hv
  refine ⟨u, t, k, ?_⟩
  rw [Nat.zero_add, e, List.getD_eq_getElem?_getD, List.getElem?_eq_getElem hlt]; rfl
end Mine
namespace Mine
open PySem PySem.Spec PySem.Calls PySem.W PyProof.Rows
theorem reorder {h₀ h : Heap} {L : Addr} {d f c l a b r : Addr × Obj} {ps : Array Value} {inner rest : List (Addr × Obj)} (N : News h₀ L h (d :: (inner ++ f :: c :: l :: a :: b :: (192, tabObj ps) :: rest))) (hr : r ∈ rest) :
    ∃ rest₂, (∃ ps, rest₂ = (192, tabObj ps) :: rest) ∧ News h₀ L h (d :: f :: l :: a :: b :: r :: (inner ++ rest₂)) := ⟨_, ⟨ps, rfl⟩, fun p hp => N p (by
  simp only [List.mem_cons, List.mem_append] at hp ⊢
  rcases hp with h | h | h | h | h | h | h | h | h
  · exact .inl h
  · exact .inr (.inr (.inl h))
  · exact .inr (.inr (.inr (.inr (.inl h))))
  · exact .inr (.inr (.inr (.inr (.inr (.inl h)))))
  · exact .inr (.inr (.inr (.inr (.inr (.inr (.inl h))))))
  · exact h ▸ .inr (.inr (.inr (.inr (.inr (.inr (.inr (.inr hr)))))))
  · exact .inr (.inl h)
  · exact .inr (.inr (.inr (.inr (.inr (.inr (.inr (.inl h)))))))
  · exact .inr (.inr (.inr (.inr (.inr (.inr (.inr (.inr h)))))))) ⟩
theorem iter_list {prog : Program} {w : World} {A : Around} {E : Value → Shared → Prop} {s : Shared} {h₀ : Heap} {L : Addr} {m : Str → Option Value} {news : List (Addr × Obj)} {l : Addr} {its : Array Value} {n : Nat} {Q : Value → Shared → Prop} (F : Fr h₀ L s.heap m) (N : News h₀ L s.heap news) (hp : (l, W.listOf its n) ∈ news)
    (h : ∀ I h', Fr h₀ L h' m → News h₀ L h' ((I, ({ cls := .type "list_iterator", data := .fields #[.ref l, .int 0 0] } : Obj)) :: news) → (∀ p ∈ news, p.1 < I) → Q (.ref I) { s with heap := h' }) :
    wpAny (model prog w) A (call (.builtin "iter") [.ref l]) Q E s := by
  refine call_function_entry (by decide +kernel) (by decide +kernel) kdk_entry_iter (kdk_args_iter _) ?_
  unfold Builtin.«iter»
  refine wpAny_bind (m := someArgs "iter" 1 2 _) (wpAny_of_eq (a := [Value.ref l]) (by first | rfl | kernel_rfl!) ?_)
  show wpAny _ _ (pyIter (.ref l) >>= _) _ _ _
  refine wpAny_bind (wpAny_pyIter_list (show s.heap.IsList l its from ⟨_, (N _ hp).1, rfl, n, rfl⟩) ?_)
  exact wpAny_pure ⟨_, rfl, h _ _ (F.push _) (News.push F N _ rfl) (fun q hq => Heap.lt_size (N q hq).1)⟩
theorem addT {h₀ h : Heap} {L : Addr} {I t wk D f l c1 c2 r T : Addr × Obj} {inner rest : List (Addr × Obj)} (N : News h₀ L h (I :: t :: wk :: D :: f :: l :: c1 :: c2 :: r :: (inner ++ rest))) (hT : T ∈ inner) : News h₀ L h (I :: t :: T :: wk :: D :: f :: l :: c1 :: c2 :: r :: (inner ++ rest)) := fun p hp => N p (by
  simp only [List.mem_cons, List.mem_append] at hp ⊢
  rcases hp with h | h | h | h
  · exact .inl h
  · exact .inr (.inl h)
  · exact h ▸ .inr (.inr (.inr (.inr (.inr (.inr (.inr (.inr (.inr (.inl hT)))))))))
  · exact .inr (.inr h))
theorem reorder3 {h₀ h : Heap} {L : Addr} {x1 x2 x3 t wk D f l c1 c2 r : Addr × Obj} {rest : List (Addr × Obj)} (N : News h₀ L h (x1 :: x2 :: x3 :: t :: wk :: D :: f :: l :: c1 :: c2 :: r :: rest)) : News h₀ L h (wk :: D :: c2 :: r :: rest) := fun p hp => N p (by
  simp only [List.mem_cons] at hp ⊢
  rcases hp with h | h | h
  · exact .inr (.inr (.inr (.inr (.inl h))))
  · exact .inr (.inr (.inr (.inr (.inr (.inl h)))))
  · exact .inr (.inr (.inr (.inr (.inr (.inr (.inr (.inr (.inr h)))))))))
theorem off3 {wk : Addr} {D f l c1 c2 r : Addr × Obj} {rest : List (Addr × Obj)} (H : ∀ p ∈ D :: f :: l :: c1 :: c2 :: r :: rest, p.1 < wk) : ∀ p ∈ D :: c2 :: r :: rest, p.1 ≠ wk := fun p hp => Nat.ne_of_lt (H p (by
  simp only [List.mem_cons] at hp ⊢
  rcases hp with h | h
  · exact .inl h
  · exact .inr (.inr (.inr (.inr h)))))
theorem turnNews {h₀ h : Heap} {L : Addr} {t2 x1 t1 x2 I t T : Addr × Obj} {rest : List (Addr × Obj)} (N : News h₀ L h (t2 :: x1 :: t1 :: x2 :: I :: t :: T :: rest)) : News h₀ L h (I :: t2 :: rest) := fun p hp => N p (by
  simp only [List.mem_cons] at hp ⊢
  rcases hp with h | h | h
  · exact .inr (.inr (.inr (.inr (.inl h))))
  · exact .inl h
  · exact .inr (.inr (.inr (.inr (.inr (.inr (.inr h)))))))
theorem rep_eq {α : Type} (a : α) (i : Nat) : (List.replicate (9 + 6 * i) a ++ [a, a, a]) ++ [a, a, a] = List.replicate (9 + 6 * (i + 1)) a := by
  show (List.replicate (9 + 6 * i) a ++ List.replicate 3 a) ++ List.replicate 3 a = _
  rw [List.replicate_append_replicate, List.replicate_append_replicate]
  congr 1
theorem rep_flat {α : Type} (a : α) : ∀ k : Nat, (List.replicate k [a]).flatten = List.replicate k a
  | 0 => rfl
  | k + 1 => by rw [List.replicate_succ, List.flatten_cons, rep_flat a k, List.replicate_succ]; rfl
theorem datAll_none (news : List (Addr × Obj)) : ∀ k : Nat, DatAll news (List.replicate k Value.none) (List.replicate k Dat.none)
  | 0 => .nil
  | k + 1 => by rw [List.replicate_succ, List.replicate_succ]; exact .cons .none (datAll_none news k)
theorem mem_lo {p d a b c e : Addr × Obj} {inner₂ inner rest : List (Addr × Obj)} (hp : p ∈ inner) : p ∈ d :: (inner₂ ++ a :: b :: c :: e :: (inner ++ rest)) :=
  List.mem_cons_of_mem _ (List.mem_append.mpr (.inr (.tail _ (.tail _ (.tail _ (.tail _ (List.mem_append.mpr (.inl hp))))))))
theorem mem_lo2 {p d : Addr × Obj} {inner₂ rest : List (Addr × Obj)} (hp : p ∈ inner₂) : p ∈ d :: (inner₂ ++ rest) := List.mem_cons_of_mem _ (List.mem_append.mpr (.inl hp))
theorem small_nat {n : Nat} (hn : n ≤ 12) : Builtin.Range.small 0 ((n : Nat) : Int) 1 = true := by
  have h1 : (0 : Int) ≤ ((n : Nat) : Int) := Int.natCast_nonneg n
  have h2 : ((n : Nat) : Int) ≤ 12 := Int.ofNat_le.mpr hn
  exact small_one (by decide) (by decide) (Int.le_trans (by decide) h1) (Int.lt_of_le_of_lt h2 (by decide))
theorem range_nat (n : Nat) : Builtin.Range.rangeSize 0 ((n : Nat) : Int) 1 = ((n : Nat) : Int) := by rw [rangeSize_nat]; omega
theorem reorder4 {h₀ h : Heap} {L : Addr} {a b c d : Addr × Obj} {rest : List (Addr × Obj)} (N : News h₀ L h (a :: b :: c :: d :: rest)) : News h₀ L h (c :: d :: b :: a :: rest) := fun p hp => N p (by
  simp only [List.mem_cons] at hp ⊢
  rcases hp with h | h | h | h | h
  · exact .inr (.inr (.inl h))
  · exact .inr (.inr (.inr (.inl h)))
  · exact .inr (.inl h)
  · exact .inl h
  · exact .inr (.inr (.inr (.inr h))))
theorem cellsUp {h₀ h : Heap} {L : Addr} {I C D c r : Addr × Obj} {inner rest : List (Addr × Obj)} (N : News h₀ L h (I :: C :: D :: (inner ++ c :: r :: rest))) : News h₀ L h (I :: C :: D :: c :: r :: (inner ++ c :: r :: rest)) := fun p hp => N p (by
  simp only [List.mem_cons, List.mem_append] at hp ⊢
  rcases hp with h | h | h | h | h | h
  · exact .inl h
  · exact .inr (.inl h)
  · exact .inr (.inr (.inl h))
  · exact .inr (.inr (.inr (.inr (.inl h))))
  · exact .inr (.inr (.inr (.inr (.inr (.inl h)))))
  · exact .inr (.inr (.inr h)))
section
variable {prog : Program} {w : World} {A : Around} {E : Value → Shared → Prop} {s : Shared} {h₀ : Heap} {L a b : Addr} {m : Str → Option Value} {news : List (Addr × Obj)} {xs ys : List Value} {ka kb : Nat} {ds : List Dat} {Q : Value → Shared → Prop}
theorem ne_same (N : News h₀ L s.heap news) (ma : (a, W.listOf xs.toArray ka) ∈ news) (mb : (b, W.listOf ys.toArray kb) ∈ news) (Da : DatAll news xs ds) (Db : DatAll news ys ds) (hd : ∀ d ∈ ds, kqdOk 8 d = true) (hu : A.units + 64 < cLine) (h : Q (.bool false) s) :
    wpAny (model prog w) A (compareOp .NotEq (.ref a) (.ref b)) Q E s := kqd_ne N ma rfl rfl Da (fun _ h => h) mb rfl rfl Db (fun _ h => h) hd hd hu (by simpa using h)
theorem eq_same (N : News h₀ L s.heap news) (ma : (a, W.listOf xs.toArray ka) ∈ news) (mb : (b, W.listOf ys.toArray kb) ∈ news) (Da : DatAll news xs ds) (Db : DatAll news ys ds) (hd : ∀ d ∈ ds, kqdOk 8 d = true) (hu : A.units + 64 < cLine) (h : Q (.bool true) s) :
    wpAny (model prog w) A (compareOp .Eq (.ref a) (.ref b)) Q E s := kqd_eq N ma rfl rfl Da (fun _ h => h) mb rfl rfl Db (fun _ h => h) hd hd hu (by simpa using h)
theorem mul_none {k n : Nat} {u : Tok} (F : Fr h₀ L s.heap m) (N : News h₀ L s.heap news) (hm : (a, W.listOf (List.toArray [Value.none]) k) ∈ news) (hn : n ≤ 12)
    (h : ∀ D h', Fr h₀ L h' m → News h₀ L h' ((D, W.listOf (List.replicate (9 + 6 * n) Value.none).toArray 0) :: news) → (∀ p ∈ news, p.1 < D) → Q (.ref D) { s with heap := h' }) :
    wpAny (model prog w) A (binaryOp .Mult (.ref a) (.int (9 + 6 * (n : Int)) u)) Q E s := by
  have e : (9 + 6 * (n : Int)).toNat = 9 + 6 * n := by omega
  refine KMa.mul (vs := [Value.none]) F N ⟨_, (N _ hm).1, rfl, k, rfl⟩ (by omega) (by omega) (by rw [e]; show 1 * (9 + 6 * n) ≤ 256; omega) (by rw [e]; exact rep_flat _ _) h
end
theorem add_my {prog : Program} {w : World} {A : Around} {E : Value → Shared → Prop} {s : Shared} {h₀ : Heap} {L a b : Addr} {m : Str → Option Value} {news : List (Addr × Obj)} {xs ys : List Value} {Q : Value → Shared → Prop} (F : Fr h₀ L s.heap m) (N : News h₀ L s.heap news) (ha : s.heap.IsList a xs.toArray) (hb : s.heap.IsList b ys.toArray)
    (h : ∀ D h', Fr h₀ L h' m → News h₀ L h' ((D, W.listOf (xs ++ ys).toArray 0) :: news) → (∀ p ∈ news, p.1 < D) → Q (.ref D) { s with heap := h' })
    (hz : xs.length + ys.length ≤ sizeLine) : wpAny (model prog w) A (binaryOp .Add (.ref a) (.ref b)) Q E s := kmk_add_lit F N ha hb rfl h hz
local macro_rules | `(tactic| walk_at "binaryOp Add ref ref") => `(tactic| (k_here; (with_reducible show wpAny _ _ (binaryOp _ (Value.ref _) (Value.ref _)) _ _ _); k_dflt (refine' add_my ?F ?N ?a ?b ?_ ?z; (case F => k_asm); (case N => k_asm); (case a => exact News.isList (by k_asm) (by k_mem)); (case b => exact News.isList (by k_asm) (by k_mem)); (case z => (simp only [List.length_append, List.length_replicate, List.length_cons, List.length_nil, sizeLine_eq]; omega))); intro D' h' F' N' l1; (try k_lt l1); (try k_sweep)))
theorem reorder2 {h₀ h : Heap} {L : Addr} {t x1 x2 x3 W D f l c1 c2 r : Addr × Obj} {rest : List (Addr × Obj)} (N : News h₀ L h (t :: x1 :: x2 :: x3 :: W :: D :: f :: l :: c1 :: c2 :: r :: rest)) : News h₀ L h (t :: W :: D :: f :: l :: c1 :: c2 :: r :: rest) := fun p hp => N p (by
  simp only [List.mem_cons] at hp ⊢
  rcases hp with h | h
  · exact .inl h
  · exact .inr (.inr (.inr (.inr h))))
local macro_rules | `(tactic| walk_at "call builtin:len") => `(tactic| (k_here; (with_reducible show wpAny _ _ (call (Value.builtin "len") [Value.ref _]) _ _ _); k_dflt (refine' kst_len ?k1 ?k2 ?k3 ?k4 ?_; (case k1 => k_asm); (case k2 => k_memK); (case k3 => assumption); (case k4 => omega); k_whole)))
local macro_rules | `(tactic| walk_at "mine none") => `(tactic| fail)
local macro_rules | `(tactic| walk_at "binaryOp Mult ref int") => `(tactic| (k_here; (with_reducible show wpAny _ _ (binaryOp _ (Value.ref _) (Value.int _ _)) _ _ _); k_dflt (refine' mul_none ?F ?N ?m ?n ?_; (case F => k_asm); (case N => k_asm); (case m => k_mem); (case n => assumption); k_whole); intro D' h' F' N' l1; (try k_lt l1); (try k_sweep)))
local macro_rules | `(tactic| walk_at "StarOf ref") => `(tactic| (k_here; k_dflt (refine' star_seq ?k1 ?k2 ?m ?c ?d ?T ?e ?z ?_; (case k1 => k_asm); (case k2 => k_asm); (case m => k_mem); (case c => exact rfl); (case d => exact rfl); (case T => exact .inl rfl); (case e => exact rfl); (case z => (rw [List.size_toArray, sizeLine_eq]; omega)); k_whole); intro h' F' N'; (try k_sweep); try dsimp only [List.nil_append, List.cons_append]))
local macro_rules | `(tactic| walk_at "call ref") => `(tactic| (k_here; k_dflt (refine' dbg_call ?k1 ?k2 ?k3 ?k4 ?k5 ?k6 ?k7 ?k8 ?k9 ?k10 ?_; (case k1 => k_asm); (case k2 => k_asm); (case k3 => k_asm); (case k4 => k_asm); (case k5 => k_asm); (case k6 => exact Around.frames_deeper (Below.stack (by k_asm))); (case k7 => exact rfl); (case k8 => exact rfl); (case k9 => (simp only [depth_deeper]; omega)); (case k10 => (simp only [List.length_append, List.length_cons, List.length_nil, sizeLine_eq]; omega))); intro h' tk' F' N'; (try k_sweep)))
set_option maxRecDepth 100000
set_option maxHeartbeats 8000000
theorem silent {w : World} {A A₀ : Around} {s : Shared} {base h₀ : Heap} {outer : List Env} {L : Addr} {m mg mb : Str → Option Value} {env : Env} {rest : List (Addr × Obj)} {loose : List Str} {mean : ExcName → Option Value} {p : Program} {R : Result → Shared → Prop} {r : Addr} {ws : List Value} {ns : List Int} {c : Nat}
    (B : Below A₀ base outer h₀) (F : Fr h₀ L s.heap m) (X₀ : (hd.heap_39 w.params).In h₀) (N : News h₀ L s.heap ((192, tabObj #[]) :: rest)) (T : Top p loose mean mg mb h₀) (C : CodeHd base 194 192) (hA : A.frames = some (env :: outer)) (hf : env.frame = some L) (hke : env.scope.kind = .function) (hroom : A.depth + 3 < recursionLimit)
    (hr : (r, W.listOf ws.toArray c) ∈ rest) (hi : IntsAre ws ns) (hn : ns.length ≤ 12) (hh : A.handled = none) (hun : A.units + 200 < cLine) (hoff : ∀ p ∈ rest, p.1 ≠ 192)
    (h : ∀ h' tk ps, Fr h₀ L h' m → News h₀ L h' ((192, tabObj ps) :: rest) → R (.ok (.ret (.bool true))) { s with heap := h', toks := tk }) :
    codeAny (model PySem.Challenge.rw_uq0001_01.row.prog w) A (.call (.ref 195) ⟨[.ref r], []⟩) R s := by
  revert X₀
  k_fill
  intro X₀
  refine code_defC B F X₀ N T hA hf hke (by k_is) (by k_is) (by omega) (BindsTo.of_eq rfl) (by exact rfl) (by decide +kernel) ?_ (by exact rfl) (by exact rfl) (by exact rfl)
  have hfin := h
  clear h
  intro g' L' h' tk' cells' FG' F' N' Y' B' X' T' l1
  clear B F X₀ N T
  k_cells Y'
  rename_i o0 o2 d0 d2
  replace d2 : o2.data = .cell (some (.ref r)) := d2
  simp only [List.cons_append, List.nil_append] at N'
  have l0 : @LT.lt Nat _ 192 L' := ltN (l1 _ (.head _))
  have hoff' : OwnOff rest [192, L' + 1, L' + 1 + 1] := by
    intro p hp b hb
    have hl := l1 p (.tail _ hp)
    have ho := hoff p hp
    simp only [List.mem_cons, List.not_mem_nil, or_false] at hb
    rcases hb with rfl | rfl | rfl
    · exact ho
    · exact Nat.ne_of_lt (Nat.lt_succ_of_lt hl)
    · exact Nat.ne_of_lt (Nat.lt_succ_of_lt (Nat.lt_succ_of_lt hl))
  iterate 5 (first | (k_unfold; (try dsimp only)) | (k_end; wrow_close) | walk1 | (dsimp only; walk1) | (leave1; (try dsimp only)) | fail "no step")
  iterate 6 (try (first | (k_unfold; (try dsimp only)) | (k_end; wrow_close) | walk1 | (dsimp only; walk1) | (leave1; (try dsimp only)) | fail "no step"))
  repeat ((fail_if_success (with_reducible show wpAny _ _ (PySem.exec _ _) _ _ _)); (first | (k_unfold; (try dsimp only)) | (k_end; wrow_close) | walk1 | (dsimp only; walk1) | (leave1; (try dsimp only)) | fail "no step"))
  with_reducible rename Fr _ _ _ _ => kF
  with_reducible rename News _ _ _ _ => kN
  refine things_assign kF kN (.tail _ (.tail _ (.tail _ (.tail _ (.tail _ (.tail _ hr)))))) (by exact rfl) (by exact hh) (by rw [hi.length, sizeLine_eq]; omega) (by with_unfolding_all rfl) (by with_unfolding_all rfl) (by decide) (by rfl) (by decide) (by rfl) (by rfl) (by decide) (by rfl) (by rfl) ?src ?turn ?fin
  case src =>
    repeat ((fail_if_success (with_reducible show wpAny _ _ (PySem.call (Value.type "enumerate") _) _ _ _)); (first | (k_unfold; (try dsimp only)) | (k_end; wrow_close) | walk1 | (dsimp only; walk1) | (leave1; (try dsimp only)) | fail "no step"))
    exact enum_src kF kN (.tail _ (.tail _ (.tail _ (.tail _ (.tail _ (.tail _ hr))))))
  case turn =>
    rintro e it i v ys nx oe oi C oC D m₂ h tk t E' hv ⟨inner, rfl, hl, rfl, hin⟩ hC ma mb F N off
    have hi12 : i < 12 := by
      have := (List.getElem?_eq_some_iff.mp hv).1
      rw [hi.length] at this; omega
    repeat ((fail_if_success (with_reducible show EltEnd _ _ _ _ _ _ _ _ _ _ _ _)); (first | (k_unfold; (try dsimp only)) | (k_end; wrow_close) | walk1 | (dsimp only; walk1) | (leave1; (try dsimp only)) | fail "no step"))
    with_reducible rename Fr _ _ _ _ => kF
    with_reducible rename News _ _ _ _ => kN
    with_reducible rename ∀ p ∈ _, _ < _ => kl
    exact elt_close kF kN kl off hl hin hv
  case fin =>
    clear kF kN
    rename_i l h5 l1a h6 o1 d1 f cc occ vss tt ctt h7 tk7 dd1 dd2 l1b l2b h8
    rintro D h tk ys nx F N hD ⟨inner, rfl, hl, rfl, hin⟩
    obtain ⟨rest₂, hrest₂, N₁⟩ := reorder N hr
    have hwl : ws.length = ns.length := hi.length
    have hyl : (inner.map (fun p => Value.ref p.1)).length = ns.length := by rw [List.length_map, hl, hwl]
    generalize hys : inner.map (fun p => Value.ref p.1) = ys at N N₁ hyl
    generalize hof : kla_obj _ _ _ _ _ _ _ cc ctt = of at N N₁
    clear N hD dd1 dd2 l1a l1b l2b d0 hoff hoff' l1 l0
    repeat ((fail_if_success (with_reducible show wpAny _ _ (PySem.call (Value.builtin "iter") _) _ _ _)); (first | (k_unfold; (try dsimp only)) | (k_end; wrow_close) | walk1 | (dsimp only; walk1) | (leave1; (try dsimp only)) | fail "no step"))
    with_reducible rename Fr _ _ _ _ => kF
    with_reducible rename News _ _ _ _ => kN
    refine iter_list kF kN (.head _) ?_
    intro wk hW FW NW lW
    clear kF kN
    repeat ((fail_if_success (with_reducible show wpAny _ _ (PySem.exec (PySem.Stmt.For _ _ _ _ _) _) _ _ _)); (first | (k_unfold; (try dsimp only)) | (k_end; wrow_close) | walk1 | (dsimp only; walk1) | (leave1; (try dsimp only)) | fail "no step"))
    with_reducible rename Fr _ _ _ _ => kF
    with_reducible rename News _ _ _ _ => kN
    have N₂ := reorder2 kN
    refine For_invVF kF (by exact rfl) (by exact rfl) ?_
    repeat ((fail_if_success (with_reducible show wpAny _ _ (PySem.pyIter _) _ _ _)); (first | (k_unfold; (try dsimp only)) | (k_end; wrow_close) | walk1 | (dsimp only; walk1) | (leave1; (try dsimp only)) | fail "no step"))
    refine iter_any (fun i m nx => ∃ told ct, told ≠ wk ∧ m (Str.ofString "things") = some (.ref D) ∧ m (Str.ofString "deed") = some (.ref f) ∧ m (Str.ofString "walk") = some (.ref wk) ∧ m (Str.ofString "told") = some (.ref told) ∧
      nx = (told, W.listOf (List.replicate (9 + 6 * i) Value.none).toArray ct) :: (wk, _) :: (D, _) :: (f, of) :: (l, _) :: (_, o1) :: (_, o2) :: (r, W.listOf ws.toArray c) :: (inner ++ rest₂)) (by exact hh) (.tail _ (.tail _ (.head _))) kF N₂ ⟨_, _, ?told, rfl, rfl, rfl, rfl, rfl⟩ ?turn ?done
    case told => k_ne
    case turn =>
      clear kF kN N₂ lW
      rintro i v m₁ nx h₃ tk₃ I oI hv _ hI ⟨told, ct, htold, m1, m2, m3, m4, rfl⟩ F₃ N₃
      obtain ⟨T, oT, hT, rfl⟩ : ∃ T oT, inner[i]? = some (T, oT) ∧ v = .ref T := by
        rw [← hys, List.getElem?_map] at hv
        cases hq : inner[i]? with
        | none => rw [hq] at hv; cases hv
        | some q => rw [hq] at hv; exact ⟨q.1, q.2, rfl, (Option.some.inj hv).symm⟩
      obtain ⟨v, t, k, hwv, hoT⟩ := hin i _ hT
      replace hoT : oT = _ := hoT
      subst hoT
      have hlt : i < ns.length := hwl ▸ (List.getElem?_eq_some_iff.mp hwv).1
      have hi12 : i < 12 := by omega
      obtain ⟨tn, hx⟩ := hi.get i ns[i] (by simp [hlt])
      generalize ns[i] = xv at hx
      rw [hx] at hwv
      obtain rfl := Option.some.inj hwv
      have F₄ := fr1 (fr1 (fr1 (fr1 F₃ (a := Str.ofString "things") ((if_neg (by decide)).trans m1)) (a := Str.ofString "deed") ((if_neg (by decide)).trans ((if_neg (by decide)).trans m2)))
        (a := Str.ofString "walk") ((if_neg (by decide)).trans ((if_neg (by decide)).trans ((if_neg (by decide)).trans m3)))) (a := Str.ofString "told") ((if_neg (by decide)).trans ((if_neg (by decide)).trans ((if_neg (by decide)).trans ((if_neg (by decide)).trans m4))))
      have N₄ := addT N₃ (List.mem_of_getElem? hT)
      clear F₃ N₃
      repeat ((fail_if_success (with_reducible show TurnPost _ _ _ _ _ _ _ _ _)); (first | (k_unfold; (try dsimp only)) | (k_end; wrow_close) | walk1 | (dsimp only; walk1) | (leave1; (try dsimp only)) | fail "no step"))
      with_reducible rename Fr _ _ _ _ => kF
      with_reducible rename News _ _ _ _ => kN
      rw [rep_eq] at kN
      refine ⟨_, _, _, _, rfl, kF, turnNews kN, fun p hp => ?_, .tail _ (.tail _ (.head _)), _, _, ?_, rfl, rfl, rfl, rfl, rfl⟩
      · rcases List.mem_cons.mp hp with rfl | hp
        · k_ne
        · exact hI p (.tail _ hp)
      · k_ne
    case done =>
      clear kF kN N₂
      rintro m₁ nx h₃ tk₃ _ ⟨told, ct, htold, m1, m2, m3, m4, rfl⟩ F₃ N₃
      rw [show 9 + 6 * ys.length = 9 + 6 * ns.length by rw [hyl]] at N₃
      have F₄ := fr1 (fr1 (fr1 F₃ m1) (a := Str.ofString "walk") ((if_neg (by decide)).trans m3)) (a := Str.ofString "told") ((if_neg (by decide)).trans ((if_neg (by decide)).trans m4))
      clear F₃
      generalize hn0 : ns.length = n at N₃ hwl hyl hn
      repeat ((fail_if_success (with_reducible show wpAny _ _ (PySem.compareOp _ _ _) _ _ _)); (first | (k_unfold; (try dsimp only)) | (k_end; wrow_close) | walk1 | (dsimp only; walk1) | (leave1; (try dsimp only)) | fail "no step"))
      with_reducible rename Fr _ _ _ _ => kF
      with_reducible rename News _ _ _ _ => kN
      refine ne_same kN (by k_mem) (by k_mem) (datAll_none _ _) (datAll_none _ _) (fun d hd => by rw [List.eq_of_mem_replicate hd]; rfl) (by simp only [units_deeper]; omega) ?_
      repeat ((fail_if_success (with_reducible show wpAny _ _ (PySem.compareOp _ _ _) _ _ _)); (first | (k_unfold; (try dsimp only)) | (k_end; wrow_close) | walk1 | (dsimp only; walk1) | (leave1; (try dsimp only)) | fail "no step"))
      with_reducible rename Fr _ _ _ _ => kF
      with_reducible rename News _ _ _ _ => kN
      refine ne_same kN (xs := []) (ys := []) (by k_mem) (by k_mem) .nil .nil (fun _ hd => nomatch hd) (by simp only [units_deeper]; omega) ?_
      repeat ((fail_if_success (with_reducible show wpAny _ _ (PySem.exec _ _) _ _ _)); (first | (k_unfold; (try dsimp only)) | (k_end; wrow_close) | walk1 | (dsimp only; walk1) | (leave1; (try dsimp only)) | fail "no step"))
      with_reducible rename Fr _ _ _ _ => kF
      with_reducible rename News _ _ _ _ => kN
      have N₅ := reorder3 kN
      refine walk_assign kF N₅ (.head _) ⟨rfl, rfl⟩ (off3 lW) (by exact rfl) (by exact hh) (by rw [hyl, sizeLine_eq]; omega) (by with_unfolding_all rfl) (by with_unfolding_all rfl) (by decide) (by rfl) (by decide) (by rfl) (by rfl) (by decide) (by rfl) (by rfl) ?src ?fin
      case src =>
        (first | (k_unfold; (try dsimp only)) | (k_end; wrow_close) | walk1 | (dsimp only; walk1) | (leave1; (try dsimp only)) | fail "no step")
        exact ⟨rfl, rfl⟩
      case fin =>
        clear kF kN N₅ lW
        intro lf h₆ tk₆ F₆ N₆
        repeat ((fail_if_success (with_reducible show wpAny _ _ (PySem.eval (PySem.Expr.ListComp _ _ _ _) _) _ _ _)); (first | (k_unfold; (try dsimp only)) | (k_end; wrow_close) | walk1 | (dsimp only; walk1) | (leave1; (try dsimp only)) | fail "no step"))
        rotate_left
        · exact absurd rfl ‹((n : Nat) : Int) ≠ (n : Int)›
        with_reducible rename Fr _ _ _ _ => kF
        with_reducible rename News _ _ _ _ => kN
        refine LCg.ListComp_U (F₀ := kF) (by with_unfolding_all rfl) (by decide) (by rfl) (by decide) (by rfl) ?_
        repeat ((fail_if_success (with_reducible show LCg.CompSrc _ _ _ _ _ _ _ _ _ _ _ _ _ _)); (first | (k_unfold; (try dsimp only)) | (k_end; wrow_close) | walk1 | (dsimp only; walk1) | (leave1; (try dsimp only)) | fail "no step"))
        with_reducible rename Fr _ _ _ _ => kF
        with_reducible rename News _ _ _ _ => kN
        with_reducible rename IsRange _ _ _ _ _ _ _ _ => kR
        have hsm : Builtin.Range.small 0 ((n : Nat) : Int) 1 = true := small_nat hn
        have N₇ := reorder4 kN
        refine LCg.CompSrc.range hh kF N₇ kR hsm (range_nat n) (by rw [sizeLine_eq]; omega) ?_
        intro g
        have hi' : ns.length = n := hn0
        refine comp_rest (Inv := Again ns _) ?fin2 ?turn2 n 0 [] _ rfl ⟨[], rfl, rfl, rfl, fun _ _ z => nomatch z⟩
        case turn2 =>
          clear kF kN kR N₇
          try clear F₆ N₆
          rintro i v I oI C oC D₂ m₂ h₈ tk₈ E' ys₂ nx₂ hlt ⟨tv, hv⟩ ⟨inner₂, rfl, hl₂, rfl, hin₂⟩ hC mx F₈ N₈ off₈
          rw [Int.zero_add] at hv
          subst hv
          have N₉ := cellsUp N₈
          clear N₈
          have hi12 : i < 12 := by omega
          repeat ((fail_if_success (with_reducible show wpAny _ _ (PySem.eval (PySem.Expr.Call _ _ _ _) _) _ _ _)); (first | (k_unfold; (try dsimp only)) | (k_end; wrow_close) | walk1 | (dsimp only; walk1) | (leave1; (try dsimp only)) | fail "no step"))
          (first | (k_unfold; (try dsimp only)) | (k_end; wrow_close) | walk1 | (dsimp only; walk1) | (leave1; (try dsimp only)) | fail "no step")
          refine LCgL.ld_built F₈ X' T' (by k_is) (by boot_by_name) (by decide) ?_
          repeat ((fail_if_success (with_reducible show LCg.CompEnd _ _ _ _ _ _ _ _ _ _ _ _ _ _)); (first | (k_unfold; (try dsimp only)) | (k_end; wrow_close) | walk1 | (dsimp only; walk1) | (leave1; (try dsimp only)) | fail "no step"))
          with_reducible rename Fr _ _ _ _ => kF
          with_reducible rename News _ _ _ _ => kN
          with_reducible rename _ ∧ _ ∧ _ ∧ _ => kl
          exact again_close kF kN (by first | rfl | simp | (simp only [Int.toNat_natCast])) ⟨Ne.symm (Nat.ne_of_lt kl.1), Ne.symm (Nat.ne_of_lt kl.2.1), Ne.symm (Nat.ne_of_lt kl.2.2.1)⟩ off₈ hl₂ hin₂
        case fin2 =>
          clear kF kN kR N₇
          try clear F₆ N₆
          with_reducible rename IntsAre _ _ => hi
          rintro ys₂ nx₂ ⟨inner₂, rfl, hl₂, rfl, hin₂⟩
          intro D₂ h₈ tk₈ F₈ N₈ _
          have hl' : inner.length = ns.length := by rw [hl, hwl, hn0]
          have hin₃ : ∀ (j : Nat) (q : Addr × Obj), inner₂[j]? = some q → ∃ u t k, q.2 = W.listOf (List.toArray [.int (ns.getD j 0) u, .str (Str.ofString (toString ((0 + j : Nat) : Int))) t]) k := fun j q hq => by
            rw [Nat.zero_add]; exact hin₂ j q hq
          refine eq_same (xs := ys) N₈ (List.mem_cons_of_mem _ (List.mem_append.mpr (.inr (.tail _ (.tail _ (.head _)))))) (.head _) ?Da ?Db (dat_ok ns 0 (by rw [hn0]; omega)) (by simp only [units_deeper]; omega) ?_
          case Da => rw [← hys]; exact dat_things inner ns 0 hl' (fun p hp => mem_lo hp) (things_again hi hin)
          case Db => exact dat_things inner₂ ns 0 (hl₂.trans hn0.symm) (fun p hp => mem_lo2 hp) hin₃
          repeat ((fail_if_success (with_reducible show LeaveK _ _ _ _ _ _ _)); (first | (k_unfold; (try dsimp only)) | (k_end; wrow_close) | walk1 | (dsimp only; walk1) | (leave1; (try dsimp only)) | fail "no step"))
          obtain ⟨ps, rfl⟩ := hrest₂
          exact leaveK_ F₈ N₈ fun kF kN => hfin _ _ ps kF fun p hp => kN p (List.mem_cons_of_mem _ (List.mem_append.mpr (.inr (.tail _ (.tail _ (.tail _ (.tail _ (List.mem_append.mpr (.inr hp)))))))))
end Mine
namespace Mine
open PySem PySem.Spec PySem.Calls PySem.W PyProof.Rows
local macro_rules | `(tactic| walk_at "subscriptTail Name Slice ref ref") => `(tactic| (k_here; (with_reducible show wpAny _ _ (subscriptTail _ (PySem.Expr.Slice (some _) none none _) (Value.ref _) (Value.ref _)) _ _ _); k_dflt (refine' kmk_slice_ints ?F ?N ?l ?p ?q ?i ?m ?c ?_ ?s ?t ?z; (case F => k_asm); (case N => k_asm); (case l => exact News.isList (by k_asm) (by k_mem)); (case p => exact IsPart.int _ _); (case q => exact IsPart.none); (case i => exact IntsAre.cons _ _ (IntsAre.cons _ _ (IntsAre.cons _ _ (IntsAre.cons _ _ (IntsAre.cons _ _ IntsAre.nil))))); (case m => exact kmk_from (IntsAre.cons _ _ (IntsAre.cons _ _ (IntsAre.cons _ _ (IntsAre.cons _ _ (IntsAre.cons _ _ IntsAre.nil))))) (by omega)); (case c => exact rfl); (case s => with_unfolding_all rfl); (case t => kmk_pure); (case z => kmk_size)); intro D' ws' h' F' N' l1 hI' hC' hL'; clear hC'; (try k_lt l1); (try k_sweep)))
theorem ins_perm (x : Int) : ∀ l : List Int, (ins x l).Perm (x :: l)
  | [] => List.Perm.refl _
  | y :: r => by
    unfold ins
    by_cases h : x < y
    · rw [if_pos h]
    · rw [if_neg h]
      exact ((ins_perm x r).cons y).trans (List.Perm.swap x y r)
theorem ins_sorted (x : Int) : ∀ l : List Int, l.Pairwise (fun a b => a ≤ b) → (ins x l).Pairwise (fun a b => a ≤ b)
  | [], _ => List.pairwise_singleton _ _
  | y :: r, h => by
    have h1 := List.pairwise_cons.mp h
    unfold ins
    by_cases c : x < y
    · rw [if_pos c]
      refine List.pairwise_cons.mpr ⟨fun z hz => ?_, h⟩
      rcases List.mem_cons.mp hz with rfl | hz
      · omega
      · have := h1.1 z hz; omega
    · rw [if_neg c]
      refine List.pairwise_cons.mpr ⟨fun z hz => ?_, ins_sorted x r h1.2⟩
      rcases List.mem_cons.mp ((ins_perm x r).mem_iff.mp hz) with rfl | hz
      · omega
      · exact h1.1 z hz
theorem foldl_ins : ∀ (l a : List Int), a.Pairwise (fun a b => a ≤ b) → (l.foldl (fun a x => ins x a) a).Perm (a ++ l) ∧ (l.foldl (fun a x => ins x a) a).Pairwise (fun a b => a ≤ b)
  | [], a, h => ⟨by rw [List.append_nil]; exact List.Perm.refl _, h⟩
  | x :: r, a, h => by
    obtain ⟨p, q⟩ := foldl_ins r (ins x a) (ins_sorted x a h)
    refine ⟨p.trans (((ins_perm x a).append_right r).trans ?_), q⟩
    exact (List.perm_middle (a := x) (l₁ := a) (l₂ := r)).symm
theorem insAll_sorted_eq {ns ms : List Int} (p : ms.Perm ns) (o : ms.Pairwise (fun a b => a ≤ b)) : insAll ns = ms := by
  obtain ⟨q, t⟩ := foldl_ins ns [] List.Pairwise.nil
  exact List.Perm.eq_of_pairwise (fun a b _ _ h1 h2 => Int.le_antisymm h1 h2) t o (q.trans p.symm)
set_option maxRecDepth 100000 in
set_option maxHeartbeats 8000000 in
theorem law_w : PySem.Challenge.rw_uq0001_01.Holds := Mine.hd (by
  k_go0
  (all_goals try k_fold)
  iterate 47 (first | (k_unfold; (try dsimp only)) | (k_end; wrow_close) | walk1 | (dsimp only; walk1) | (leave1; (try dsimp only)) | fail "no step")
  with_reducible rename IntsAre _ (_ ++ _) => kI
  generalize hns : (List.take 12 _ ++ List.drop _ _ : List Int) = ns at kI
  have hn : ns.length ≤ 12 := by
    rw [← hns]
    simp only [List.length_append, List.length_take, List.length_drop, List.length_cons, List.length_nil]
    omega
  repeat ((fail_if_success (with_reducible show wpAny _ _ (PySem.call (.ref 195) _) _ _ _)); (first | (k_unfold; (try dsimp only)) | (k_end; wrow_close) | walk1 | (dsimp only; walk1) | (leave1; (try dsimp only)) | fail "no step"))
  with_reducible rename Fr _ _ _ _ => kF
  with_reducible rename News _ _ _ _ => kN
  with_reducible rename IntsAre _ ns => kI
  with_reducible rename Below _ _ _ _ => kB
  with_reducible rename Top topProg _ _ _ _ _ => kT
  with_reducible rename Frag.In _ (ghostOf _ _) => kX
  with_reducible rename _ < _ ∧ _ < _ ∧ _ < _ ∧ 192 < _ => kl
  refine wpAny_call (silent (rest := [(_, W.listOf _ 0)]) kB kF kX (fun p hp => ?m1) kT codeHd (Around.frames_deeper (Below.stack kB)) rfl rfl ?room (.head _) kI hn rfl ?unit ?off ?go)
  case m1 =>
    rcases List.mem_cons.mp hp with rfl | hp
    · exact kN _ (.tail _ (.tail _ (.tail _ (.tail _ (.head _)))))
    · rw [List.mem_singleton.mp hp]; exact kN _ (.head _)
  case room => (simp only [depth_deeper, depth_caller]; decide)
  case unit => (simp only [units_deeper, units_caller]; decide)
  case off => intro p hp; rw [List.mem_singleton.mp hp]; exact Ne.symm (Nat.ne_of_lt kl.2.2.2)
  case go =>
    clear kF kN
    intro h₂ tk₂ ps kF₂ kN₂
    dsimp only
    repeat ((fail_if_success (with_reducible show wpAny _ _ (PySem.call (.ref 190) _) _ _ _)); (first | (k_unfold; (try dsimp only)) | (k_end; wrow_close) | walk1 | (dsimp only; walk1) | (leave1; (try dsimp only)) | fail "no step"))
    with_reducible rename Fr _ _ _ _ => kF
    with_reducible rename News _ _ _ _ => kN
    refine wpAny_call (order kB kF kX kN kT (Around.frames_deeper (Below.stack kB)) rfl rfl ?room (.tail _ (.head _)) kI hn rfl ?go)
    case room => (simp only [depth_deeper, depth_caller]; decide)
    case go =>
      clear kF kN
      intro h₃ tk₃ d us cd kF₃ kN₃ kI₃
      dsimp only
      iterate 20 (try (first | (k_unfold; (try dsimp only)) | (k_end; wrow_close) | walk1 | (dsimp only; walk1) | (leave1; (try dsimp only)) | fail "no step"))
      · with_reducible rename List.Perm _ ns => kP
        with_reducible rename List.Pairwise _ _ => kS
        rw [insAll_sorted_eq kP kS, decide_eq_true rfl]
        k_end
        wrow_close
      · iterate 3 (try (first | (k_unfold; (try dsimp only)) | (k_end; wrow_close) | walk1 | (dsimp only; walk1) | (leave1; (try dsimp only)) | fail "no step")))
end Mine
theorem PySem.Challenge.cw_uq0001_01_holds : PySem.Challenge.rw_uq0001_01.Holds :=
  Mine.law_w
