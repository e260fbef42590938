import PyProof.Rows.All
import Wide.All
import OpenK.AllK
import Wide.FinOn
import PySem.Challenge.RW_xh0004_01
open PySem PySem.W PyProof.Rows
set_option Elab.async false
set_option maxRecDepth 100000
set_option maxHeartbeats 8000000
set_option linter.all false

section
namespace Mine
open PySem PySem.W PyProof.Rows PySem.Calls

theorem ns_bound (l : List Int) : ∀ x ∈ List.map (fun k' => (if k' < 0 then -k' else k').fmod (1 * 2 ^ Int.toNat 60)) l, 0 ≤ x ∧ x < 1152921504606846976 := by
  intro x hx
  obtain ⟨y, _, rfl⟩ := List.mem_map.mp hx
  have e : ((1 : Int) * 2 ^ Int.toNat 60) = 1152921504606846976 := by decide
  rw [e]
  exact ⟨Int.fmod_nonneg_of_pos _ (by decide), Int.fmod_lt_of_pos _ (by decide)⟩

section
variable {prog : Program} {w : World} {A : Around} {E : Value → Shared → Prop} {s : Shared}
theorem item_any {value slice : Expr} {l : Addr} {vs : List Value} {ns : List Int} {k : Int} {u : Tok} {Q : Value → Shared → Prop} (hl : s.heap.IsList l vs.toArray) (hi : IntsAre vs ns)
    (hb : ∀ x ∈ ns, 0 ≤ x ∧ x < 1152921504606846976) (h0 : -(ns.length : Int) ≤ k) (h1 : k < (ns.length : Int)) (hn : ns.length ≤ 1048576)
    (h : ∀ x t, 0 ≤ x → x < 1152921504606846976 → Q (.int x t) s)
    (hs : subscripted slice false (.ref l) (.int k u) = operate [.ref l, .int k u] (getItem (.ref l) (.int k u)) := by with_unfolding_all rfl) :
    wpAny (model prog w) A (subscriptTail value slice (.ref l) (.int k u)) Q E s := by
  have hsz : vs.toArray.size = ns.length := by simp [hi.length]
  by_cases c : k < 0
  · have hlt : (k + ns.length).toNat < ns.length := by omega
    have e : ns[(k + ns.length).toNat]? = some (ns[(k + ns.length).toNat]) := by simp [hlt]
    obtain ⟨t, ht⟩ := hi.get _ _ e
    have hm := hb _ (List.mem_of_getElem? e)
    exact tail_any hl.typeIs slot_list_getitem.lookup (wpAny_getItem_list_neg hl c (by rw [hsz]; exact h0) (by omega) (by rw [hsz]; simpa using ht) (h _ t hm.1 hm.2)) hs
  · have hlt : k.toNat < ns.length := by omega
    have e : ns[k.toNat]? = some (ns[k.toNat]) := by simp [hlt]
    obtain ⟨t, ht⟩ := hi.get _ _ e
    have hm := hb _ (List.mem_of_getElem? e)
    exact tail_any hl.typeIs slot_list_getitem.lookup (wpAny_getItem_list hl (by omega) (by omega) (by simpa using ht) (h _ t hm.1 hm.2)) hs
end
end Mine
end

section
namespace Mine
open PySem PySem.W PyProof.Rows PySem.Calls PySem.Spec

abbrev rngObj (a b : Int) (t u v : Tok) : Obj := { cls := .type "range", dict := none, data := .fields #[.int a t, .int b u, .int 1 v], slots := #[] }
abbrev ritObj (a n : Int) : Obj := { cls := .type "range_iterator", dict := none, data := .fields #[rawInt a, rawInt n, rawInt 1], slots := #[] }

section
variable {prog : Program} {w : World} {A : Around} {E : Value → Shared → Prop} {s : Shared} {h₀ : Heap} {L r : Addr} {m : Str → Option Value} {news : List (Addr × Obj)} {Q : Value → Shared → Prop} {a b : Int} {t u v : Tok}

theorem range_new (F : Fr h₀ L s.heap m) (N : News h₀ L s.heap news)
    (h : ∀ (r : Addr) v' h' tk, Fr h₀ L h' m → News h₀ L h' ((r, rngObj a b t u v') :: news) → (∀ p ∈ news, p.1 < r) → Q (.ref r) { s with heap := h', toks := tk }) :
    wpAny (model prog w) A (call (.type "range") [.int a t, .int b u]) Q E s :=
  call_range_2 (h _ _ _ _ (F.push _) (News.push F N _ rfl) (fun q hq => Heap.lt_size (N q hq).1))

theorem range_iter {n : Nat} (F : Fr h₀ L s.heap m) (N : News h₀ L s.heap news) (hp : (r, rngObj a b t u v) ∈ news) (hsmall : Builtin.Range.small a b 1 = true) (hn : Builtin.Range.rangeSize a b 1 = (n : Int))
    (h : ∀ (I : Addr) h', Fr h₀ L h' m → News h₀ L h' ((I, ritObj a (n : Int)) :: news) → (∀ p ∈ news, p.1 < I) → (∀ p ∈ news, p.1 ≠ I) → Q (.ref I) { s with heap := h' }) :
    wpAny (model prog w) A (call (.builtin "iter") [.ref r]) Q E s := by
  refine call_function_entry (by decide +kernel) (by decide +kernel) kdk_entry_iter (kdk_args_iter _) ?_
  unfold Builtin.«iter»
  refine wpAny_bind (m := someArgs "iter" 1 2 _) (wpAny_of_eq (a := [Value.ref r]) (by first | rfl | kernel_rfl!) ?_)
  show wpAny _ _ (pyIter (.ref r) >>= _) _ _ _
  refine wpAny_bind (wpAny_pyIter_range (N _ hp).1 hsmall ?_)
  rw [hn]
  exact wpAny_pure ⟨_, rfl, h _ _ (F.push _) (News.push F N _ rfl) (fun q hq => Heap.lt_size (N q hq).1) (fun q hq => Nat.ne_of_lt (Heap.lt_size (N q hq).1))⟩
end

section
variable {prog : Program} {w : World} {A : Around} {E : Value → Shared → Prop} {s : Shared} {env : Env} {h₀ : Heap} {x : Str} {body : List Stmt} {Q : Flow → Shared → Prop}

def FoldJ (news : List (Addr × Obj)) (x y : Str) (m₀ : Str → Option Value) (v : Int) (m' : Str → Option Value) (nx : List (Addr × Obj)) : Prop :=
  nx = news ∧ (∃ t', m' y = some (.int v t')) ∧ ∀ z, z ≠ x → z ≠ y → m' z = m₀ z

theorem fold_end {L : Addr} {news own news' : List (Addr × Obj)} {y : Str} {m₀ m' : Str → Option Value} {v : Int} {t : Tok} {s₁ : Shared} {h' : Heap} {tk : Nat} (F : Fr h₀ L h' m') (N : News h₀ L h' news') (hn : ∀ p ∈ news, p ∈ news') (ho : ∀ p ∈ own, p ∈ news')
    (hy : m' y = some (.int v t)) (hr : ∀ z, z ≠ x → z ≠ y → m' z = m₀ z) : InvEndN h₀ L (FoldJ news x y m₀ v) own (news.map (·.1)) s₁ { s₁ with heap := h', toks := tk } :=
  InvEndN.intro F N ⟨rfl, ⟨t, hy⟩, hr⟩ rfl hn ho

theorem riter_fold {I : Addr} {a₀ : Int} {n : Nat} {news : List (Addr × Obj)} {y : Str} {c₀ : Int} {tc : Tok} {m₀ : Str → Option Value} (g : Int → Int → Int)
    (hh : A.handled = none) (F : Fr h₀ env.locals s.heap m₀) (N : News h₀ env.locals s.heap ((I, ritObj a₀ n) :: news)) (hI : ∀ p ∈ news, p.1 ≠ I) (hy : m₀ y = some (.int c₀ tc)) (hxy : y ≠ x)
    (turn : ∀ k t a ta h tk own, a₀ ≤ k → k < a₀ + (n : Int) → Fr h₀ env.locals h (fun z => if z = x then some (.int k t) else if z = y then some (.int a ta) else m₀ z) → News h₀ env.locals h (news ++ own) →
      wpAny (model prog w) A (execs body env) (InvPostN h₀ env.locals (FoldJ news x y m₀ (g a k)) own (news.map (·.1)) { s with heap := h, toks := tk } Q) E { s with heap := h, toks := tk })
    (done : ∀ (u : Str → Option Value) t h tk, Fr h₀ env.locals h (fun z => if z = x then u z else if z = y then some (.int ((rangeKs a₀ n).foldl g c₀) t) else m₀ z) → News h₀ env.locals h news → Q .next { s with heap := h, toks := tk }) :
    wpAny (model prog w) A (pyIter (.ref I)) (fun it s₂ => LoopAtV prog w A h₀ env x body Q E it s₂) E s := by
  have hd := N _ (.head _)
  have N' : News h₀ env.locals s.heap news := fun p hp => N p (.tail _ hp)
  refine wpAny_pyIter_rangeiter hd.1 ?_
  have W : Walks prog w A I [I] [I] n (fun i v => i < n ∧ ∃ t, v = .int (a₀ + i * 1) t)
      (fun i h => IsRangeIter h I (a₀ + (i : Nat) * 1) ((n : Int) - (i : Nat)) 1) := (Walks.range hh _ a₀ 1 n).bound
  refine loop_invN (fun i m nx => FoldJ news x y m₀ (((rangeKs a₀ n).take i).foldl g c₀) m nx) W ?_ ?_ ?_ ?_ (by show IsRangeIter _ _ _ _ _; simpa using hd.1) F N' ⟨rfl, ⟨tc, by simpa using hy⟩, fun _ _ _ => rfl⟩ ?_ ?_
  · intro hm
    exact absurd (List.mem_singleton.mp hm) (Ne.symm hd.2.1)
  · intro b hb
    rw [List.mem_singleton.mp hb]
    exact hd.2.2
  · intro p hp hq
    exact hI p hp (List.mem_singleton.mp hq)
  · intro p hp hq
    exact hI p hp (List.mem_singleton.mp hq)
  · rintro i v m₁ nx h tk own hi ⟨_, t, rfl⟩ _ hoff ⟨rfl, ⟨ta, ha⟩, hm⟩ F₁ N₁
    have e1 : a₀ + (i : Int) * 1 = a₀ + (i : Int) := by omega
    rw [e1] at F₁
    have hk' : (rangeKs a₀ n)[i]? = some (a₀ + (i : Int)) := by simp [rangeKs, hi]
    have hs : ((rangeKs a₀ n).take (i + 1)).foldl g c₀ = g (((rangeKs a₀ n).take i).foldl g c₀) (a₀ + (i : Int)) := by
      rw [List.take_add_one, hk']; simp
    rw [hs]
    have em : (fun z => if z = x then some (Value.int (a₀ + (i : Int)) t) else m₁ z) = fun z => if z = x then some (Value.int (a₀ + (i : Int)) t) else if z = y then some (Value.int (((rangeKs a₀ n).take i).foldl g c₀) ta) else m₀ z := by
      funext z
      by_cases h1 : z = x
      · simp [h1]
      · simp only [if_neg h1]
        by_cases h2 : z = y
        · subst h2; simp [ha]
        · simp only [if_neg h2]; exact hm z h1 h2
    rw [em] at F₁
    exact turn (a₀ + (i : Int)) t _ ta h tk own (by omega) (by omega) F₁ N₁
  · rintro m₁ nx h tk ⟨rfl, ⟨t, ha⟩, hm⟩ F₁ N₁
    have hl : (rangeKs a₀ n).take n = rangeKs a₀ n := List.take_of_length_le (Nat.le_of_eq (rangeKs_length _ _))
    rw [hl] at ha
    refine done m₁ t h tk ?_ N₁
    have e : (fun z => if z = x then m₁ z else if z = y then some (Value.int ((rangeKs a₀ n).foldl g c₀) t) else m₀ z) = m₁ := by
      funext z
      by_cases h1 : z = x
      · simp [h1]
      · simp only [if_neg h1]
        by_cases h2 : z = y
        · subst h2; simp [ha]
        · simp only [if_neg h2]; exact (hm z h1 h2).symm
    rw [e]; exact F₁
end
end Mine
end

section
namespace Mine
open PySem PySem.W PyProof.Rows PySem.Calls PySem.Spec

def rsh (a n : Int) : Int := a.fdiv (2 ^ n.toNat)
def code (n : Int) : Int := Builtin.bitXor n (rsh n 1)
def single (n : Int) : Bool := if n = 0 then false else Builtin.bitAnd n (n - 1) == 0
def unStep (c v k : Int) : Int := Builtin.bitXor v (rsh c k)
def number (c : Int) : Int := (rangeKs 1 60).foldl (unStep c) c

abbrev lamQual : Str := (Str.ofString "_law_number" ++ Str.ofString ".<locals>.") ++ Str.ofString "<lambda>"
def LT (O : List (Addr × Obj)) (T : Obj) (X : List (Addr × Obj)) : Prop :=
  (∀ p ∈ O, p ∈ X) ∧ (∀ p ∈ X, p.1 ≠ 81) ∧ (T = tabObj #[] ∨ ∃ c' oc vs t, T = tabObj #[rawInt 38, rawInt 18, .ref c'] ∧ (c', oc) ∈ X ∧ oc.data = .fields vs ∧ vs[1]? = some (.str lamQual t) ∧ (∀ p ∈ O, p.1 ≠ c'))
theorem LT_new {O X : List (Addr × Obj)} {c' a : Addr} {oc : Obj} {vs : Array Value} {t : Tok} (hsub : ∀ p ∈ O, p ∈ X) (hX81 : ∀ p ∈ X, p.1 ≠ 81) (d1 : oc.data = .fields vs) (d2 : vs[1]? = some (.str lamQual t)) (l : a < c' ∧ 81 < c' ∧ AllLt c' X) :
    LT O (tabObj #[rawInt 38, rawInt 18, .ref c']) ((c', oc) :: X) := by
  refine ⟨fun p hp => .tail _ (hsub p hp), ?_, .inr ⟨c', oc, vs, t, rfl, .head _, d1, d2, fun p hp => ?_⟩⟩
  · intro p hp
    rcases List.mem_cons.mp hp with rfl | hp
    · exact Nat.ne_of_gt l.2.1
    · exact hX81 p hp
  · exact Nat.ne_of_lt (kst_ltOf l.2.2 p (hsub p hp))
end Mine
end

section
namespace Mine
open PySem PySem.W PyProof.Rows PySem.Calls PySem.Spec

section
variable {prog : Program} {w : World} {A : Around} {E : Value → Shared → Prop} {s : Shared} {env : Env} {h₀ : Heap} {x : Str} {body : List Stmt} {Q : Flow → Shared → Prop}

def TurnEnd (h₀ : Heap) (L : Addr) (O : List (Addr × Obj)) (x : Str) (stored : List Str) (m₀ : Str → Option Value) (s₁ s₂ : Shared) : Prop :=
  ∃ h' tk m' T' X', s₂ = { s₁ with heap := h', toks := tk } ∧ Fr h₀ L h' m' ∧ News h₀ L h' ((81, T') :: X') ∧ LT O T' X' ∧ ∀ z, z ≠ x → stored.contains z = false → m' z = m₀ z
def TurnPost (h₀ : Heap) (L : Addr) (O : List (Addr × Obj)) (x : Str) (stored : List Str) (m₀ : Str → Option Value) (s₁ : Shared) (Q : Flow → Shared → Prop) (f : Flow) (s₂ : Shared) : Prop :=
  match f with
  | .ret v => Q (.ret v) s₂
  | .brk => Q .next s₂
  | _ => TurnEnd h₀ L O x stored m₀ s₁ s₂
theorem turn_end {L : Addr} {O X' news : List (Addr × Obj)} {T' : Obj} {stored : List Str} {m₀ m' : Str → Option Value} {s₁ : Shared} {h' : Heap} {tk : Nat} (F : Fr h₀ L h' m') (N : News h₀ L h' news) (hT : (81, T') ∈ news) (hX : ∀ p ∈ X', p ∈ news) (l : LT O T' X')
    (hr : ∀ z, z ≠ x → stored.contains z = false → m' z = m₀ z) : TurnEnd h₀ L O x stored m₀ s₁ { s₁ with heap := h', toks := tk } :=
  ⟨h', tk, m', T', X', rfl, F, fun p hp => (List.mem_cons.mp hp).elim (fun e => N p (e ▸ hT)) fun hq => N p (hX p hq), l, hr⟩

theorem outer_range {r : Addr} {b₀ : Int} {t₀ u₀ v₀ : Tok} {n : Nat} {stay : List (Addr × Obj)} {m₀ : Str → Option Value} (stored : List Str)
    (hh : A.handled = none) (hr : IsRange s.heap r 0 b₀ 1 t₀ u₀ v₀) (hsmall : Builtin.Range.small 0 b₀ 1 = true) (hn : Builtin.Range.rangeSize 0 b₀ 1 = (n : Int)) (F : Fr h₀ env.locals s.heap m₀) (N : News h₀ env.locals s.heap ((81, tabObj #[]) :: stay)) (hoff : ∀ p ∈ stay, p.1 ≠ 81)
    (turn : ∀ (k : Int) t (u : Str → Option Value) h tk O T X, 0 ≤ k → k < (n : Int) → (∀ p ∈ stay, p ∈ O) → LT O T X →
      Fr h₀ env.locals h (fun y => if y = x then some (.int k t) else if stored.contains y then u y else m₀ y) → News h₀ env.locals h (stay ++ (81, T) :: X) →
      wpAny (model prog w) A (execs body env) (TurnPost h₀ env.locals O x stored m₀ { s with heap := h, toks := tk } Q) E { s with heap := h, toks := tk })
    (done : ∀ (u : Str → Option Value) ps h tk, Fr h₀ env.locals h (fun y => if y = x then u y else if stored.contains y then u y else m₀ y) → News h₀ env.locals h ((81, tabObj ps) :: stay) → Q .next { s with heap := h, toks := tk }) :
    wpAny (model prog w) A (pyIter (.ref r)) (fun it s₂ => LoopAtV prog w A h₀ env x body Q E it s₂) E s := by
  refine wpAny_pyIter_range hr hsmall ?_
  have W : Walks prog w A s.heap.objs.size [s.heap.objs.size] [s.heap.objs.size] n (fun i v => i < n ∧ ∃ t, v = .int (0 + i * 1) t)
      (fun i h => IsRangeIter h s.heap.objs.size (0 + (i : Nat) * 1) ((n : Int) - (i : Nat)) 1) := (Walks.range hh _ 0 1 n).bound
  let J : Nat → (Str → Option Value) → List (Addr × Obj) → Prop := fun _ m nx => ∃ T X, nx = (81, T) :: X ∧ LT stay T X ∧ ∀ z, z ≠ x → stored.contains z = false → m z = m₀ z
  refine ⟨_, _, _, n, _, _, m₀, ((81, tabObj #[]) :: stay), J, rfl, W, ?_, ?_, ?_, (by show IsRangeIter _ _ _ _ _; rw [hn]; simpa using Heap.get?_push_size _ rfl), F.push _, (fun p hp => ⟨Heap.get?_push_of_some _ (N p hp).1, (N p hp).2⟩),
    ⟨_, _, rfl, ⟨fun p hp => hp, hoff, .inl rfl⟩, fun _ _ _ => rfl⟩, ?_, ?_⟩
  · intro hm
    exact absurd F.ns.lt ((List.mem_singleton.mp hm) ▸ Nat.lt_irrefl _)
  · intro b hb
    rw [List.mem_singleton.mp hb]
    exact next_is_new F
  · intro p hp hI
    exact absurd (Heap.lt_size (N p hp).1) ((List.mem_singleton.mp hI) ▸ Nat.lt_irrefl _)
  · rintro i v m₁ news₁ s₁ own ⟨hh', tk', rfl⟩ hin ⟨hi, t, rfl⟩ ⟨T, X, rfl, l, hm⟩ hoff1 hown _ hin1 hst F₁ N₁
    have h81 : (81 : Nat) < s.heap.objs.size := Heap.lt_size (N _ (.head _)).1
    have hI : ∀ p ∈ own, p.1 = s.heap.objs.size := fun p hp => List.mem_singleton.mp (hown p hp)
    obtain ⟨l1, l2, l3⟩ := l
    have lO : LT (own ++ stay) T (own ++ X) := by
      refine ⟨fun p hp => ?_, fun p hp => ?_, l3.imp id ?_⟩
      · exact (List.mem_append.mp hp).elim (fun h => List.mem_append_left _ h) fun h => List.mem_append_right _ (l1 p h)
      · refine (List.mem_append.mp hp).elim (fun h => ?_) fun h => l2 p h
        rw [hI p h]
        exact Nat.ne_of_gt h81
      · rintro ⟨c', oc, vs, t, a1, a2, a3, a4, a5⟩
        refine ⟨c', oc, vs, t, a1, List.mem_append_right _ a2, a3, a4, fun p hp => ?_⟩
        refine (List.mem_append.mp hp).elim (fun h e => ?_) fun h => a5 p h
        exact hoff1 (c', oc) (.tail _ a2) (List.mem_singleton.mpr (e ▸ hI p h))
    have e1 : (0 : Int) + (i : Int) * 1 = (i : Int) := by omega
    rw [e1] at F₁
    have F₂ := kst_fr (ps := []) (stored := stored) (m₀ := m₀) (fun _ h => nomatch h) (fun z a _ b => hm z a b) F₁
    have N₂ : News h₀ env.locals hh' (stay ++ (81, T) :: (own ++ X)) := fun p hp => by
      rcases List.mem_append.mp hp with h | h
      · exact N₁ p (List.mem_append_right _ (.tail _ (l1 p h)))
      · rcases List.mem_cons.mp h with rfl | h
        · exact N₁ _ (List.mem_append_right _ (.head _))
        · exact (List.mem_append.mp h).elim (fun h => N₁ p (List.mem_append_left _ h)) fun h => N₁ p (List.mem_append_right _ (.tail _ h))
    refine wpAny_mono (turn (i : Int) t m₁ hh' tk' (own ++ stay) T (own ++ X) (by omega) (by omega) (fun p hp => List.mem_append_right _ hp) lO F₂ N₂) (fun f s₂ p => ?_) fun _ _ e => e
    have fin : TurnEnd h₀ env.locals (own ++ stay) x stored m₀ { s with heap := hh', toks := tk' } s₂ → LoopStepU h₀ env.locals [s.heap.objs.size] own (J (i + 1)) { s with heap := hh', toks := tk' } .next s₂ := by
      rintro ⟨h', tk, m', T', X', e, F', N', ⟨b1, b2, b3⟩, hr'⟩
      have hNs : ∀ q ∈ stay, q.1 ≠ s.heap.objs.size := fun q hq => Nat.ne_of_lt (Heap.lt_size (N q (.tail _ hq)).1)
      obtain ⟨oI, hoI⟩ : ∃ o, (s.heap.objs.size, o) ∈ own := ⟨_, hin1 _ (List.mem_singleton.mpr rfl) (next_is_new F) _ hst⟩
      rcases b3 with b3 | ⟨c', oc, vs, t, a1, a2, a3, a4, a5⟩
      · refine ⟨rfl, h', tk, m', (81, T') :: stay, e, F', fun p hp => ?_, fun p hp hq => ?_, T', stay, rfl, ⟨fun p hp => hp, hoff, .inl b3⟩, hr'⟩
        · rcases List.mem_append.mp hp with h | h
          · exact N' p (.tail _ (b1 p (List.mem_append_left _ h)))
          · rcases List.mem_cons.mp h with rfl | h
            · exact N' _ (.head _)
            · exact N' p (.tail _ (b1 p (List.mem_append_right _ h)))
        · have hq := List.mem_singleton.mp hq
          rcases List.mem_cons.mp hp with rfl | h
          · exact absurd hq (Nat.ne_of_lt h81)
          · exact hNs p h hq
      · have hc' : c' ≠ s.heap.objs.size := fun e => a5 _ (List.mem_append_left _ hoI) e.symm
        refine ⟨rfl, h', tk, m', (81, T') :: (c', oc) :: stay, e, F', fun p hp => ?_, fun p hp hq => ?_, T', (c', oc) :: stay, rfl, ⟨fun p hp => .tail _ hp, fun p hp => ?_, .inr ⟨c', oc, vs, t, a1, .head _, a3, a4, fun p hp => a5 p (List.mem_append_right _ hp)⟩⟩, hr'⟩
        · rcases List.mem_append.mp hp with h | h
          · exact N' p (.tail _ (b1 p (List.mem_append_left _ h)))
          · rcases List.mem_cons.mp h with rfl | h
            · exact N' _ (.head _)
            · rcases List.mem_cons.mp h with rfl | h
              · exact N' _ (.tail _ a2)
              · exact N' p (.tail _ (b1 p (List.mem_append_right _ h)))
        · have hq := List.mem_singleton.mp hq
          rcases List.mem_cons.mp hp with rfl | h
          · exact absurd hq (Nat.ne_of_lt h81)
          · rcases List.mem_cons.mp h with rfl | h
            · exact hc' hq
            · exact hNs p h hq
        · rcases List.mem_cons.mp hp with rfl | h
          · exact b2 _ a2
          · exact hoff p h
    cases f with
    | ret v => exact .ret p
    | brk => exact .brk p
    | next => exact .next (fin p)
    | cont => exact .cont (fin p)
  · rintro h' tk m' news' F' N' _ ⟨T, X, rfl, ⟨l1, l2, l3⟩, hm⟩
    have F₂ := kst_frOut (x := x) (ps := []) (stored := stored) (m₀ := m₀) (fun _ h => nomatch h) (fun z a _ b => hm z a b) F'
    have hps : ∃ ps, T = tabObj ps := l3.elim (fun e => ⟨_, e⟩) fun ⟨_, _, _, _, e, _⟩ => ⟨_, e⟩
    obtain ⟨ps, rfl⟩ := hps
    exact done m' ps h' tk F₂ fun p hp => (List.mem_cons.mp hp).elim (fun e => N' p (e ▸ .head _)) fun h => N' p (.tail _ (l1 p h))

theorem outer2 {r : Addr} {b₀ : Int} {t₀ u₀ v₀ : Tok} {n : Nat} {p1 p2 : Addr × Obj} {m₀ : Str → Option Value} (stored : List Str)
    (hh : A.handled = none) (hr : IsRange s.heap r 0 b₀ 1 t₀ u₀ v₀) (hsmall : Builtin.Range.small 0 b₀ 1 = true) (hn : Builtin.Range.rangeSize 0 b₀ 1 = (n : Int)) (F : Fr h₀ env.locals s.heap m₀) (N : News h₀ env.locals s.heap [p1, p2, (81, tabObj #[])]) (h1 : p1.1 ≠ 81) (h2 : p2.1 ≠ 81)
    (turn : ∀ (k : Int) t (u : Str → Option Value) h tk O T X, 0 ≤ k → k < (n : Int) → LT O T X →
      Fr h₀ env.locals h (fun y => if y = x then some (.int k t) else if stored.contains y then u y else m₀ y) → News h₀ env.locals h (p1 :: p2 :: (81, T) :: X) →
      wpAny (model prog w) A (execs body env) (TurnPost h₀ env.locals O x stored m₀ { s with heap := h, toks := tk } Q) E { s with heap := h, toks := tk })
    (done : ∀ (u : Str → Option Value) ps h tk, Fr h₀ env.locals h (fun y => if y = x then u y else if stored.contains y then u y else m₀ y) → News h₀ env.locals h [(81, tabObj ps), p1, p2] → Q .next { s with heap := h, toks := tk }) :
    wpAny (model prog w) A (pyIter (.ref r)) (fun it s₂ => LoopAtV prog w A h₀ env x body Q E it s₂) E s :=
  outer_range (stay := [p1, p2]) stored hh hr hsmall hn F (fun p hp => by
    rcases List.mem_cons.mp hp with rfl | hp
    · exact N _ (.tail _ (.tail _ (.head _)))
    · rcases List.mem_cons.mp hp with rfl | hp
      · exact N _ (.head _)
      · rcases List.mem_cons.mp hp with rfl | hp
        · exact N _ (.tail _ (.head _))
        · cases hp) (fun p hp => by
    rcases List.mem_cons.mp hp with rfl | hp
    · exact h1
    · rcases List.mem_cons.mp hp with rfl | hp
      · exact h2
      · cases hp) (fun k t u h tk O T X a b _ l F N => turn k t u h tk O T X a b l F N) done
end
theorem ite_dec {p A B : Prop} [Decidable p] (h1 : p → A) (h2 : ¬ p → B) : if decide p = true then A else B := by
  by_cases h : p
  · rw [if_pos (decide_eq_true h)]; exact h1 h
  · rw [if_neg (by simpa using h)]; exact h2 h
theorem ite_no {c A B : Prop} [Decidable c] (h : ¬ c) (b : B) : if c then A else B := by rw [if_neg h]; exact b
theorem LT_grown {h₀ h : Heap} {L : Addr} {O X news : List (Addr × Obj)} {T : Obj} (l : LT O T X) (N : News h₀ L h news) (hm : (81, T) ∈ news) : GrownAll [(85, 81)] h := by
  obtain ⟨_, _, l3⟩ := l
  have hps : ∃ ps, T = tabObj ps := l3.elim (fun e => ⟨_, e⟩) fun ⟨_, _, _, _, e, _⟩ => ⟨_, e⟩
  obtain ⟨ps, rfl⟩ := hps
  exact ⟨GrownAt.of N hm, True.intro⟩
end Mine
end

section
namespace Mine

theorem xor_add : ∀ a b : Nat, (a ^^^ b) + 2 * (a &&& b) = a + b := by
  intro a
  induction a using Nat.strongRecOn with
  | ind a ih =>
    intro b
    by_cases h : a = 0
    · subst h; simp
    · have h1 := ih (a / 2) (by omega) (b / 2)
      have e1 : (a ^^^ b) / 2 = a / 2 ^^^ b / 2 := Nat.xor_div_two
      have e2 : (a &&& b) / 2 = a / 2 &&& b / 2 := Nat.and_div_two
      have e3 := @Nat.xor_mod_two_eq_one a b
      have e4 := @Nat.and_mod_two_eq_one a b
      rw [← e1, ← e2] at h1
      omega
theorem xor_nat (a b : Nat) : Builtin.bitXor (a : Int) (b : Int) = ((a ^^^ b : Nat) : Int) := by
  rw [bitXor_and, bitAnd_pp (by omega) (by omega)]
  have h := xor_add a b
  have e1 : ((a : Int)).toNat = a := by omega
  have e2 : ((b : Int)).toNat = b := by omega
  rw [e1, e2]
  omega

def gray (n : Nat) : Nat := n ^^^ (n >>> 1)
theorem rsh_nat (n k : Nat) : rsh (n : Int) (k : Int) = ((n >>> k : Nat) : Int) := by
  unfold rsh
  rw [Int.toNat_natCast, Int.fdiv_eq_ediv_of_nonneg _ (Int.le_of_lt (kbt_pos k)), Nat.shiftRight_eq_div_pow, Int.natCast_ediv, kbt_cast]
theorem code_nat (n : Nat) : code (n : Int) = ((gray n : Nat) : Int) := by
  unfold code gray
  rw [show (1 : Int) = ((1 : Nat) : Int) from rfl, rsh_nat, xor_nat]

/-- the sum, without carrying, of m and its first j halves -/
def part (m j : Nat) : Nat := (List.range j).foldl (fun v i => v ^^^ (m >>> (i + 1))) m
theorem part_succ (m j : Nat) : part m (j + 1) = part m j ^^^ (m >>> (j + 1)) := by
  unfold part
  rw [List.range_succ, List.foldl_append]
  rfl
theorem fold_part (m : Nat) : ∀ j : Nat, (rangeKs 1 j).foldl (unStep (m : Int)) (m : Int) = ((part m j : Nat) : Int) := by
  intro j
  induction j with
  | zero => rfl
  | succ j ih =>
    have e : rangeKs 1 (j + 1) = rangeKs 1 j ++ [1 + (j : Int)] := by
      simp [rangeKs, List.range_succ]
    rw [e, List.foldl_append, ih]
    show unStep (m : Int) _ _ = _
    unfold unStep
    rw [show (1 + (j : Int)) = ((j + 1 : Nat) : Int) by omega, rsh_nat, xor_nat, part_succ]
theorem number_nat (m : Nat) : number (m : Int) = ((part m 60 : Nat) : Int) := by
  unfold number
  exact fold_part m 60

theorem part_gray_code (n : Nat) : ∀ j, part (gray n) j = n ^^^ (n >>> (j + 1)) := by
  intro j
  induction j with
  | zero => rfl
  | succ j ih =>
    rw [part_succ, ih]
    unfold gray
    rw [Nat.shiftRight_xor_distrib, ← Nat.shiftRight_add, Nat.xor_assoc, ← Nat.xor_assoc (n >>> (j + 1)), Nat.xor_self, Nat.zero_xor]
    rw [show 1 + (j + 1) = j + 1 + 1 by omega]
theorem gray_part (m : Nat) : ∀ j, gray (part m j) = m ^^^ (m >>> (j + 1)) := by
  intro j
  induction j with
  | zero => rfl
  | succ j ih =>
    have e : gray (part m (j + 1)) = gray (part m j) ^^^ ((m >>> (j + 1)) ^^^ (m >>> (j + 1 + 1))) := by
      rw [part_succ]
      unfold gray
      rw [Nat.shiftRight_xor_distrib, ← Nat.shiftRight_add]
      ac_rfl
    rw [e, ih, Nat.xor_assoc, ← Nat.xor_assoc (m >>> (j + 1)), Nat.xor_self, Nat.zero_xor]
theorem shift_big {n : Nat} (h : n < 2 ^ 60) : n >>> 61 = 0 := by
  rw [Nat.shiftRight_eq_div_pow]
  exact Nat.div_eq_of_lt (Nat.lt_of_lt_of_le h (by decide))
theorem number_gray {n : Nat} (h : n < 2 ^ 60) : number ((gray n : Nat) : Int) = n := by
  rw [number_nat, part_gray_code, shift_big h, Nat.xor_zero]
theorem gray_number {m : Nat} (h : m < 2 ^ 60) : gray (part m 60) = m := by
  rw [gray_part, shift_big h, Nat.xor_zero]
theorem gray_xor (n m : Nat) : gray (n ^^^ m) = gray n ^^^ gray m := by
  unfold gray
  rw [Nat.shiftRight_xor_distrib]
  ac_rfl
theorem gray_lt {n k : Nat} (h : n < 2 ^ k) : gray n < 2 ^ k := by
  unfold gray
  refine Nat.xor_lt_two_pow h (Nat.lt_of_le_of_lt ?_ h)
  rw [Nat.shiftRight_eq_div_pow]
  exact Nat.div_le_self _ _
theorem gray_inj {n m : Nat} (hn : n < 2 ^ 60) (hm : m < 2 ^ 60) (e : gray n = gray m) : n = m := by
  have h1 := number_gray hn
  rw [e, number_gray hm] at h1
  omega
theorem gray_zero {n : Nat} (h : gray n = 0) : n = 0 := by
  unfold gray at h
  have e : n = n >>> 1 := by
    have h1 : n ^^^ (n ^^^ (n >>> 1)) = n := by rw [h, Nat.xor_zero]
    rw [← Nat.xor_assoc, Nat.xor_self, Nat.zero_xor] at h1
    exact h1.symm
  rw [Nat.shiftRight_eq_div_pow] at e
  omega
theorem gray_bits {n k : Nat} (h : gray n < 2 ^ k) : n < 2 ^ k := by
  have e : gray (n >>> k) = gray n >>> k := by
    unfold gray
    rw [Nat.shiftRight_xor_distrib, ← Nat.shiftRight_add, ← Nat.shiftRight_add, Nat.add_comm]
  have z : gray n >>> k = 0 := by rw [Nat.shiftRight_eq_div_pow]; exact Nat.div_eq_of_lt h
  have h1 := gray_zero (e.trans z)
  rw [Nat.shiftRight_eq_div_pow] at h1
  exact Nat.lt_of_div_eq_zero (Nat.two_pow_pos k) h1
theorem bits_gray (n : Nat) : Builtin.Int.intBits ((gray n : Nat) : Int) = Builtin.Int.intBits ((n : Nat) : Int) := by
  have key : ∀ m, Builtin.Int.intBits ((gray n : Nat) : Int) ≤ m ↔ Builtin.Int.intBits ((n : Nat) : Int) ≤ m := by
    intro m
    rw [intBits_le_iff, intBits_le_iff, Int.natAbs_natCast, Int.natAbs_natCast]
    exact ⟨gray_bits, gray_lt⟩
  exact Nat.le_antisymm ((key _).mpr (Nat.le_refl _)) ((key _).mp (Nat.le_refl _))

/-- ones alone -/
theorem gray_ones (j : Nat) : gray (2 ^ (j + 1) - 1) = 2 ^ j := by
  induction j with
  | zero => decide
  | succ j ih =>
    have p := Nat.two_pow_pos j
    have q : 2 ^ (j + 1) = 2 * 2 ^ j := by rw [Nat.pow_succ]; omega
    have q2 : 2 ^ (j + 1 + 1) = 2 * 2 ^ (j + 1) := by rw [Nat.pow_succ 2 (j + 1)]; omega
    have e1 : gray (2 ^ (j + 1 + 1) - 1) / 2 = 2 ^ j := by
      rw [← ih]
      unfold gray
      rw [Nat.xor_div_two, Nat.shiftRight_eq_div_pow, Nat.shiftRight_eq_div_pow]
      have a1 : (2 ^ (j + 1 + 1) - 1) / 2 = 2 ^ (j + 1) - 1 := by omega
      rw [Nat.pow_one, a1]
    have e2 : gray (2 ^ (j + 1 + 1) - 1) % 2 = 0 := by
      have h := @Nat.xor_mod_two_eq_one (2 ^ (j + 1 + 1) - 1) ((2 ^ (j + 1 + 1) - 1) >>> 1)
      have a2 : (2 ^ (j + 1 + 1) - 1) >>> 1 = 2 ^ (j + 1) - 1 := by rw [Nat.shiftRight_eq_div_pow]; omega
      rw [a2] at h
      have hh : gray (2 ^ (j + 1 + 1) - 1) % 2 = ((2 ^ (j + 1 + 1) - 1) ^^^ (2 ^ (j + 1) - 1)) % 2 := by unfold gray; rw [a2]
      rw [hh]
      omega
    omega

/-- every number above nought is an odd number times a power of two -/
theorem odd_part : ∀ m : Nat, 0 < m → ∃ t a : Nat, m = 2 ^ t * (2 * a + 1) := by
  intro m
  induction m using Nat.strongRecOn with
  | ind m ih =>
    intro h
    by_cases e : m % 2 = 1
    · exact ⟨0, m / 2, by rw [Nat.pow_zero]; omega⟩
    · obtain ⟨t, a, ha⟩ := ih (m / 2) (by omega) (by omega)
      refine ⟨t + 1, a, ?_⟩
      rw [Nat.pow_succ, Nat.mul_comm (2 ^ t) 2, Nat.mul_assoc, ← ha]
      omega
/-- the codes of neighbours differ in one place: by the number of the ones at the lower one's end -/
theorem gray_next (a : Nat) : ∀ t n : Nat, n + 1 = 2 ^ t * (2 * a + 1) → gray n ^^^ gray (n + 1) = 2 ^ t := by
  intro t
  induction t with
  | zero =>
    intro n h
    rw [Nat.pow_zero, Nat.one_mul] at h
    rw [← gray_xor]
    have e : n ^^^ (n + 1) = 1 := by
      have h1 : (n ^^^ (n + 1)) / 2 = n / 2 ^^^ (n + 1) / 2 := Nat.xor_div_two
      have h2 := @Nat.xor_mod_two_eq_one n (n + 1)
      rw [show (n + 1) / 2 = n / 2 by omega, Nat.xor_self] at h1
      omega
    rw [e]
    decide
  | succ t ih =>
    intro n h
    rw [Nat.pow_succ, Nat.mul_comm (2 ^ t) 2, Nat.mul_assoc] at h
    have hb := ih (n / 2) (by omega)
    have e1 : (gray n ^^^ gray (n + 1)) / 2 = gray (n / 2) ^^^ gray (n / 2 + 1) := by
      have g : ∀ k, gray k / 2 = gray (k / 2) := by
        intro k
        unfold gray
        rw [Nat.xor_div_two, Nat.shiftRight_eq_div_pow, Nat.shiftRight_eq_div_pow, Nat.pow_one]
      rw [Nat.xor_div_two, g, g, show (n + 1) / 2 = n / 2 + 1 by omega]
    have e2 : (gray n ^^^ gray (n + 1)) % 2 = 0 := by
      have h1 := @Nat.xor_mod_two_eq_one (gray n) (gray (n + 1))
      have h2 := @Nat.xor_mod_two_eq_one n (n >>> 1)
      have h3 := @Nat.xor_mod_two_eq_one (n + 1) ((n + 1) >>> 1)
      have g2 : gray n = n ^^^ (n >>> 1) := rfl
      have g3 : gray (n + 1) = (n + 1) ^^^ ((n + 1) >>> 1) := rfl
      rw [← g2] at h2
      rw [← g3] at h3
      rw [Nat.shiftRight_eq_div_pow, Nat.pow_one] at h2 h3
      omega
    rw [hb] at e1
    rw [Nat.pow_succ]
    omega

theorem single_pow (t : Nat) : single ((2 : Int) ^ t) = true := by
  have hp := kbt_pos t
  unfold single
  rw [if_neg (by omega), kbt_mask, Int.emod_self]
  rfl
theorem single_nat : ∀ n : Nat, single (n : Int) = true → ∃ t : Nat, n = 2 ^ t := by
  have key : ∀ n : Nat, 0 < n → Builtin.bitAnd (n : Int) ((n : Int) - 1) = 0 → ∃ t : Nat, n = 2 ^ t := by
    intro n
    induction n using Nat.strongRecOn with
    | ind n ih =>
      intro h0 h
      rw [kbt_halves] at h
      by_cases e : n % 2 = 1
      · have e1 : ((n : Int) - 1) / 2 = (n : Int) / 2 := by omega
        rw [e1, bitAnd_self, if_neg (by omega)] at h
        exact ⟨0, by rw [Nat.pow_zero]; omega⟩
      · have e1 : ((n : Int) - 1) / 2 = ((n / 2 : Nat) : Int) - 1 := by omega
        have e2 : (n : Int) / 2 = ((n / 2 : Nat) : Int) := by omega
        rw [e1, e2, if_neg (by omega)] at h
        obtain ⟨t, ht⟩ := ih (n / 2) (by omega) (by omega) (by omega)
        exact ⟨t + 1, by rw [Nat.pow_succ, ← ht]; omega⟩
  intro n h
  unfold single at h
  by_cases z : (n : Int) = 0
  · rw [if_pos z] at h; cases h
  · rw [if_neg z] at h
    exact key n (by omega) (by simpa using h)
end Mine
end

section
namespace Mine
open PySem PySem.W PyProof.Rows PySem.Calls PySem.Spec

def eqI (a b : Int) : Bool := a == b
def negI (a : Int) : Int := -a
def highI (a : Int) : Int := ((Builtin.Int.intBits a : Nat) : Int) - 1

structure Facts (x y : Int) : Prop where
  f1 : single (Builtin.bitXor (code x) (code (x + 1))) = true
  f2 : eqI (Builtin.bitXor (code x) (code (x + 1))) (Builtin.bitAnd (x + 1) (negI (x + 1))) = true
  f3 : number (code x) = x
  f4 : code (number y) = y
  f5 : highI (code x) = highI x
  f6 : number (1 * 2 ^ (Int.fmod x 60).toNat) = 2 ^ (Int.fmod x 60 + 1).toNat - 1
  f7 : single (2 ^ (Int.fmod x 60 + 1).toNat - 1 + 1) = true
  f8a : 0 < x → single (code x) = single (x + 1)
  f8b : ¬ 0 < x → single (code x) = decide (0 < x)
  f9 : code (Builtin.bitXor x y) = Builtin.bitXor (code x) (code y)
  f10 : eqI (code x) (code y) = eqI x y
theorem facts_nat {n m : Nat} (hn : n < 2 ^ 60) (hm : m < 2 ^ 60) : Facts (n : Int) (m : Int) := by
  obtain ⟨t, a, ha⟩ := odd_part (n + 1) (by omega)
  have hx : Builtin.bitXor (code (n : Int)) (code ((n : Int) + 1)) = 2 ^ t := by
    rw [show (n : Int) + 1 = ((n + 1 : Nat) : Int) from rfl, code_nat, code_nat, xor_nat, gray_next a t n ha, kbt_cast]
  have hc : (n : Int) + 1 = 2 ^ t * (2 * (a : Int) + 1) := by
    rw [show (n : Int) + 1 = ((n + 1 : Nat) : Int) from rfl, ha, Int.natCast_mul, kbt_cast]
    rfl
  -- the place that is asked: one of 0 .. 59
  have hj0 : 0 ≤ Int.fmod (n : Int) 60 := Int.fmod_nonneg_of_pos _ (by decide)
  have hj1 : Int.fmod (n : Int) 60 < 60 := Int.fmod_lt_of_pos _ (by decide)
  obtain ⟨j, hj⟩ : ∃ j : Nat, Int.fmod (n : Int) 60 = (j : Int) := ⟨_, (Int.toNat_of_nonneg hj0).symm⟩
  have hj2 : j + 1 ≤ 60 := by omega
  have ones : ∀ t : Nat, t + 1 ≤ 60 → number (((2 ^ t : Nat)) : Int) = 2 ^ (t + 1) - 1 := by
    intro t ht
    have hlt : 2 ^ (t + 1) - 1 < 2 ^ 60 := by
      have h1 : 2 ^ (t + 1) ≤ 2 ^ 60 := Nat.pow_le_pow_right (by decide) ht
      have h2 := Nat.two_pow_pos (t + 1)
      omega
    have h := number_gray hlt
    rw [gray_ones] at h
    rw [h]
    have h2 := Nat.two_pow_pos (t + 1)
    have h3 := kbt_cast (t + 1)
    omega
  constructor
  · rw [hx]
    exact single_pow t
  · unfold eqI negI
    rw [hx, hc, kbt_low]
    simp
  · rw [code_nat]
    exact number_gray hn
  · rw [number_nat, code_nat, gray_number hm]
  · unfold highI
    rw [code_nat, bits_gray]
  · rw [hj, Int.one_mul, Int.toNat_natCast, show ((j : Int) + 1).toNat = j + 1 by omega, ← kbt_cast]
    exact ones j hj2
  · rw [hj, show ((j : Int) + 1).toNat = j + 1 by omega, show (2 : Int) ^ (j + 1) - 1 + 1 = 2 ^ (j + 1) by omega]
    exact single_pow (j + 1)
  · intro h0
    -- a code of one place alone: ones alone, and the other way
    have e : single (code (n : Int)) = true ↔ single ((n : Int) + 1) = true := by
      rw [code_nat, show (n : Int) + 1 = ((n + 1 : Nat) : Int) from rfl]
      constructor
      · intro h
        obtain ⟨t, ht⟩ := single_nat _ h
        have hlt : (2 : Nat) ^ t < 2 ^ 60 := by rw [← ht]; exact gray_lt hn
        have ht' : t < 60 := (Nat.pow_lt_pow_iff_right (by decide)).mp hlt
        have h1 := number_gray hn
        rw [ht, ones t ht'] at h1
        have h2 : ((n + 1 : Nat) : Int) = 2 ^ (t + 1) := by omega
        rw [h2]
        exact single_pow (t + 1)
      · intro h
        obtain ⟨t, ht⟩ := single_nat _ h
        cases t with
        | zero => rw [Nat.pow_zero] at ht; omega
        | succ t =>
          have h2 : n = 2 ^ (t + 1) - 1 := by omega
          rw [h2, gray_ones, kbt_cast]
          exact single_pow t
    exact Bool.eq_iff_iff.mpr e
  · intro h0
    have z : n = 0 := by omega
    subst z
    rw [code_nat, show gray 0 = 0 by decide]
    unfold single
    simp
  · rw [xor_nat, code_nat, code_nat, code_nat, xor_nat, gray_xor]
  · unfold eqI
    rw [code_nat, code_nat]
    apply Bool.eq_iff_iff.mpr
    simp only [beq_iff_eq]
    constructor
    · intro e
      rw [gray_inj hn hm (by omega)]
    · intro e
      have e' : n = m := by omega
      rw [e']
theorem facts {x y : Int} (hx : 0 ≤ x) (hx' : x < 1152921504606846976) (hy : 0 ≤ y) (hy' : y < 1152921504606846976) : Facts x y := by
  have p : (2 : Nat) ^ 60 = 1152921504606846976 := by decide
  have h := facts_nat (n := x.toNat) (m := y.toNat) (by omega) (by omega)
  rw [Int.toNat_of_nonneg hx, Int.toNat_of_nonneg hy] at h
  exact h
end Mine
end

namespace Mine
open_top hd for PySem.Challenge.rw_xh0004_01
end Mine

section
namespace Mine
open PySem PySem.W PyProof.Rows PySem.Calls PySem.Spec
local macro_rules | `(tactic| k_room) => `(tactic| ktr_room)
theorem number_walk : ∀ (w : World) (mean : ExcName → Option Value) (mg mb : Str → Option Value)
   (dp un : Nat) (gd : Option (List Code)) (cn : Str) (cs : Scope) (a : Addr) (ccd : Value) (cl : List (Str × Addr)) (outer : List Env) (A₀ : Around) (base h₀ : Heap) (L : Addr) (m : Str → Option Value) (s : Shared) (Q E : Value → Shared → Prop)
   (T : Obj) (O X : List (Addr × Obj)) (v : Int) (tv : Tok) (hT : LT O T X)
   (B : Below A₀ base outer h₀) (F : Fr h₀ L s.heap m) (KX : (hd.heap_39 w.params).In h₀) (N : News h₀ L s.heap ((81,T)::X))
   (TT : Top topProg (looseW hd.view_39 [Str.ofString "_initial_missing", Str.ofString "reduce"] ++
            List.map (fun x => x.name) (recsOf hd.view_39) ++
          List.map (fun x => x.fst) (litsOf hd.view_39) ++
        List.map (fun x => x.name)
          (clssOf hd.view_39 (looseW hd.view_39 [Str.ofString "_initial_missing", Str.ofString "reduce"]))) mean mg mb h₀)
   (hk : cs.kind = .function) (C : CodeHd base 85 81) 
   (hdep : dp + 8 < recursionLimit) (hu : un + 64 < cLine)
   (ret : ∀ t h' tk' T' X', Fr h₀ L h' m → News h₀ L h' ((81,T')::X') → LT O T' X' → Q (.int (number v) t) {s with heap := h', toks := tk'}) ,
   wpAny (model Challenge.rw_xh0004_01.row.prog w) (ktrTop dp un gd cn cs L a ccd cl outer) (call (.ref 86) [.int v tv]) Q E s := by
  k_with_none
  k_fill
  intro w mean mg mb dp un gd cn cs a ccd cl outer A₀ base h₀ L m s Q E T O X v tv hT B F KX N TT hk C hdep hu ret
  have hLT := hT
  unfold number at ret
  obtain ⟨hsub, hX81, hT⟩ := hT
  have kM := kstMark
  have kO : OwnOff X [81] := fun p hp b hb => by rw [List.mem_singleton.mp hb]; exact hX81 p hp
  k_with "call type:range" => (k_here; (with_reducible show wpAny _ _ (call (Value.type "range") [Value.int _ _, Value.int _ _]) _ _ _); k_dflt (refine' range_new ?F ?N ?_; (case F => k_asm); (case N => k_asm)); intro r' v' h' tk' F' N' l1; (try dsimp only at N'); (try k_lt l1))
  k_with "call builtin:iter" => (k_here; (with_reducible show wpAny _ _ (call (Value.builtin "iter") [Value.ref _]) _ _ _); k_dflt (refine' range_iter (n := 60) ?F ?N ?mem ?sm ?sz ?_; (case F => k_asm); (case N => k_asm); (case mem => k_mem); (case sm => decide); (case sz => decide)); intro I' h' F' N' l1 hI'; (try dsimp only at N'); (try k_lt l1))
  k_with "compareOp Is int ref" => (refine wpAny_is_other (by rfl) (by intro x; cases x) ?_)
  k_with "pyIter ref" => ((with_reducible show wpAny _ _ (pyIter (Value.ref _)) (fun it s₂ => LoopAtV _ _ _ _ _ _ _ _ _ it s₂) _ _); k_here; (rename Fr _ _ _ _ => lF'); (rename News _ _ _ _ => lN'); (with_unfolding_all refine' riter_fold (y := Str.ofString "value") (unStep v) ?hh lF' lN' ?hI ?hy ?hxy ?_ ?_); (case hh => rfl); (case hI => exact hI'); (case hy => rfl); (case hxy => decide); (all_goals (try clear lF' lN')); rotate_left; intro uT tT hT tkT F' N'; rotate_left; intro kT tkT aT taT hT tkT own' hk1 hk2 F' N'; (all_goals (try simp only [List.cons_append] at N')); (all_goals (try k_fold)))
  k_with "exec For Name Name cons nil" => (k_here; (rename Fr _ _ _ _ => lF'); (with_unfolding_all refine' For_invVF lF' ?k1 ?k2 ?_; (case k1 => exact rfl); (case k2 => exact rfl); k_whole))
  k_with "InvEndN" => ((rename Fr _ _ _ _ => fE'); (rename News _ _ _ _ => nE'); (k_dflt (refine' fold_end fE' nE' ?n ?o ?y ?r)); (case n => (intro p hp; kst_mem)); (case o => (intro p hp; kst_mem)); (case y => (unfold unStep rsh; rfl)); (case r => (intro z h1 h2; simp [h1, h2])))
  rcases hT with hT | ⟨c', oc, vs, t, hT, hmem, hd1, hd2, hne⟩
  · subst hT
    refine wpAny_call ?_
    k_dflt (refine' code_defC ?k1 ?k2 ?k3 ?k4 ?k5 ?kA ?kF ?kK ?k6 ?k7 ?k8 ?k9 ?kB ?kD ?_ ?c2 ?c3 ?c4; (case kA => exact rfl); (case kF => exact rfl); (case kK => assumption); (case k1 => k_asm); (case k2 => k_asm); (case k3 => k_asm); (case k4 => k_asm); (case k5 => k_asm); (case k6 => k_is); (case k7 => k_is); (case k8 => ktr_room); (case k9 => exact BindsTo.of_eq rfl); (case kB => exact rfl); (case kD => decide +kernel); (case c2 => exact rfl); (case c3 => exact rfl); (case c4 => exact rfl); k_whole; intro g' L' h' tk' cells' FG' F' N' Y' B' X' T' l1; (try k_lt l1); k_cells Y'; (try simp only [List.cons_append, List.nil_append] at N'); (try dsimp only); (try k_lift B'); (try k_fold))
    k_steps
    all_goals (refine' ret _ _ _ _ _ ?F ?N (LT_new hsub hX81 ?d1 ?d2 ?l); (case d1 => assumption); (case d2 => assumption); (case l => assumption); (case F => k_asm); (case N => (refine' cb_drop ?cbN ?cbS; (case cbN => assumption); (case cbS => kcj_all))))
  · subst hT
    replace N : News h₀ L s.heap ((c', oc) :: (81, tabObj #[rawInt 38, rawInt 18, .ref c']) :: X) := fun p hp => (List.mem_cons.mp hp).elim (fun e => N p (e ▸ .tail _ hmem)) (N p)
    refine wpAny_call ?_
    k_dflt (refine' code_defC ?k1 ?k2 ?k3 ?k4 ?k5 ?kA ?kF ?kK ?k6 ?k7 ?k8 ?k9 ?kB ?kD ?_ ?c2 ?c3 ?c4; (case kA => exact rfl); (case kF => exact rfl); (case kK => assumption); (case k1 => k_asm); (case k2 => k_asm); (case k3 => k_asm); (case k4 => k_asm); (case k5 => k_asm); (case k6 => k_is); (case k7 => k_is); (case k8 => ktr_room); (case k9 => exact BindsTo.of_eq rfl); (case kB => exact rfl); (case kD => decide +kernel); (case c2 => exact rfl); (case c3 => exact rfl); (case c4 => exact rfl); k_whole; intro g' L' h' tk' cells' FG' F' N' Y' B' X' T' l1; (try k_lt l1); k_cells Y'; (try simp only [List.cons_append, List.nil_append] at N'); (try dsimp only); (try k_lift B'); (try k_fold))
    k_steps
    all_goals (refine' ret _ _ _ _ _ ?F ?N hLT; (case F => k_asm); (case N => (refine' cb_drop ?cbN ?cbS; (case cbN => assumption); (case cbS => kcj_all))))

theorem number_call {w : World} {mean : ExcName → Option Value} {mg mb : Str → Option Value}
   {dp un : Nat} {gd : Option (List Code)} {cn : Str} {cs : Scope} {a : Addr} {ccd : Value} {cl : List (Str × Addr)} {outer : List Env} {A₀ : Around} {base h₀ : Heap} {L : Addr} {m : Str → Option Value} {s : Shared} {Q E : Value → Shared → Prop}
   {T : Obj} {O X news : List (Addr × Obj)} {v : Int} {tv : Tok}
   (B : Below A₀ base outer h₀) (F : Fr h₀ L s.heap m) (KX : (hd.heap_39 w.params).In h₀) (N : News h₀ L s.heap news)
   (TT : Top topProg (looseW hd.view_39 [Str.ofString "_initial_missing", Str.ofString "reduce"] ++
            List.map (fun x => x.name) (recsOf hd.view_39) ++
          List.map (fun x => x.fst) (litsOf hd.view_39) ++
        List.map (fun x => x.name)
          (clssOf hd.view_39 (looseW hd.view_39 [Str.ofString "_initial_missing", Str.ofString "reduce"]))) mean mg mb h₀)
   (hk : cs.kind = .function) (C : CodeHd base 85 81) (hT : LT O T X) (h81 : (81, T) ∈ news) (hX : ∀ p ∈ X, p ∈ news)
   (hdp : dp + 8 < recursionLimit) (hun : un + 64 < cLine)
   (ret : ∀ z t h' tk' T' X', z = number v → Fr h₀ L h' m → News h₀ L h' ((81,T')::X') → LT O T' X' → Q (.int z t) {s with heap := h', toks := tk'}) :
   wpAny (model Challenge.rw_xh0004_01.row.prog w) (ktrTop dp un gd cn cs L a ccd cl outer) (call (.ref 86) [.int v tv]) Q E s :=
  number_walk w mean mg mb dp un gd cn cs a ccd cl outer A₀ base h₀ L m s Q E T O X v tv hT B F KX (fun p hp => (List.mem_cons.mp hp).elim (fun e => N p (e ▸ h81)) fun h => N p (hX p h)) TT hk C hdp hun (fun t h' tk' T' X' F' N' l => ret _ t h' tk' T' X' rfl F' N' l)
end Mine
end

section
namespace Mine
open PySem PySem.W PyProof.Rows PySem.Calls PySem.Spec
local macro_rules | `(tactic| k_room) => `(tactic| ktr_room)
local macro_rules | `(tactic| walk_at "call ref") => `(tactic| k_extra "call ref")

theorem c_xor : ∀ {w : World} {mean : ExcName → Option Value} {mg mb : Str → Option Value}
   {dp un : Nat} {gd : Option (List Code)} {cn : Str} {cs : Scope} {a : Addr} {ccd : Value} {cl : List (Str × Addr)} {outer : List Env} {A₀ : Around} {base h₀ : Heap} {L : Addr} {m : Str → Option Value} {s : Shared} {Q E : Value → Shared → Prop}
   {news : List (Addr × Obj)} {v0 v1 : Int} {t0 t1 : Tok},
   Below A₀ base outer h₀ → Fr h₀ L s.heap m → (hd.heap_39 w.params).In h₀ → News h₀ L s.heap news →
   Top topProg (looseW hd.view_39 [Str.ofString "_initial_missing", Str.ofString "reduce"] ++
            List.map (fun x => x.name) (recsOf hd.view_39) ++
          List.map (fun x => x.fst) (litsOf hd.view_39) ++
        List.map (fun x => x.name)
          (clssOf hd.view_39 (looseW hd.view_39 [Str.ofString "_initial_missing", Str.ofString "reduce"]))) mean mg mb h₀ →
   cs.kind = .function → dp + 1 < recursionLimit → un + 8 < cLine → 
   (∀ (t : Tok) h' tk', Fr h₀ L h' m → News h₀ L h' news → Q (.int (Builtin.bitXor v0 v1) t) {s with heap := h', toks := tk'}) →
   wpAny (model Challenge.rw_xh0004_01.row.prog w) (ktrTop dp un gd cn cs L a ccd cl outer) (call (.ref 72) [.int v0 t0, .int v1 t1]) Q E s := by
  k_with_none
  k_fill
  intro w mean mg mb dp un gd cn cs a ccd cl outer A₀ base h₀ L m s Q E news v0 v1 t0 t1 B F KX N TT hk hdep hu ret
  refine wpAny_call ?_
  k_dflt cell_enter
  k_steps
  all_goals (refine' ret _ _ _ ?F ?N; (case F => k_asm); (case N => k_asm))

theorem c_rsh : ∀ {w : World} {mean : ExcName → Option Value} {mg mb : Str → Option Value}
   {dp un : Nat} {gd : Option (List Code)} {cn : Str} {cs : Scope} {a : Addr} {ccd : Value} {cl : List (Str × Addr)} {outer : List Env} {A₀ : Around} {base h₀ : Heap} {L : Addr} {m : Str → Option Value} {s : Shared} {Q E : Value → Shared → Prop}
   {news : List (Addr × Obj)} {v0 v1 : Int} {t0 t1 : Tok},
   Below A₀ base outer h₀ → Fr h₀ L s.heap m → (hd.heap_39 w.params).In h₀ → News h₀ L s.heap news →
   Top topProg (looseW hd.view_39 [Str.ofString "_initial_missing", Str.ofString "reduce"] ++
            List.map (fun x => x.name) (recsOf hd.view_39) ++
          List.map (fun x => x.fst) (litsOf hd.view_39) ++
        List.map (fun x => x.name)
          (clssOf hd.view_39 (looseW hd.view_39 [Str.ofString "_initial_missing", Str.ofString "reduce"]))) mean mg mb h₀ →
   cs.kind = .function → dp + 1 < recursionLimit → un + 8 < cLine → (0 ≤ v1) → 
   (∀ (t : Tok) h' tk', Fr h₀ L h' m → News h₀ L h' news → Q (.int (rsh v0 v1) t) {s with heap := h', toks := tk'}) →
   wpAny (model Challenge.rw_xh0004_01.row.prog w) (ktrTop dp un gd cn cs L a ccd cl outer) (call (.ref 65) [.int v0 t0, .int v1 t1]) Q E s := by
  k_with_none
  k_fill
  intro w mean mg mb dp un gd cn cs a ccd cl outer A₀ base h₀ L m s Q E news v0 v1 t0 t1 B F KX N TT hk hdep hu hpre ret
  unfold rsh at ret
  refine wpAny_call ?_
  k_dflt cell_enter
  k_steps
  all_goals (refine' ret _ _ _ ?F ?N; (case F => k_asm); (case N => k_asm))

theorem c_and : ∀ {w : World} {mean : ExcName → Option Value} {mg mb : Str → Option Value}
   {dp un : Nat} {gd : Option (List Code)} {cn : Str} {cs : Scope} {a : Addr} {ccd : Value} {cl : List (Str × Addr)} {outer : List Env} {A₀ : Around} {base h₀ : Heap} {L : Addr} {m : Str → Option Value} {s : Shared} {Q E : Value → Shared → Prop}
   {news : List (Addr × Obj)} {v0 v1 : Int} {t0 t1 : Tok},
   Below A₀ base outer h₀ → Fr h₀ L s.heap m → (hd.heap_39 w.params).In h₀ → News h₀ L s.heap news →
   Top topProg (looseW hd.view_39 [Str.ofString "_initial_missing", Str.ofString "reduce"] ++
            List.map (fun x => x.name) (recsOf hd.view_39) ++
          List.map (fun x => x.fst) (litsOf hd.view_39) ++
        List.map (fun x => x.name)
          (clssOf hd.view_39 (looseW hd.view_39 [Str.ofString "_initial_missing", Str.ofString "reduce"]))) mean mg mb h₀ →
   cs.kind = .function → dp + 1 < recursionLimit → un + 8 < cLine → 
   (∀ (t : Tok) h' tk', Fr h₀ L h' m → News h₀ L h' news → Q (.int (Builtin.bitAnd v0 v1) t) {s with heap := h', toks := tk'}) →
   wpAny (model Challenge.rw_xh0004_01.row.prog w) (ktrTop dp un gd cn cs L a ccd cl outer) (call (.ref 51) [.int v0 t0, .int v1 t1]) Q E s := by
  k_with_none
  k_fill
  intro w mean mg mb dp un gd cn cs a ccd cl outer A₀ base h₀ L m s Q E news v0 v1 t0 t1 B F KX N TT hk hdep hu ret
  refine wpAny_call ?_
  k_dflt cell_enter
  k_steps
  all_goals (refine' ret _ _ _ ?F ?N; (case F => k_asm); (case N => k_asm))

theorem c_neg : ∀ {w : World} {mean : ExcName → Option Value} {mg mb : Str → Option Value}
   {dp un : Nat} {gd : Option (List Code)} {cn : Str} {cs : Scope} {a : Addr} {ccd : Value} {cl : List (Str × Addr)} {outer : List Env} {A₀ : Around} {base h₀ : Heap} {L : Addr} {m : Str → Option Value} {s : Shared} {Q E : Value → Shared → Prop}
   {news : List (Addr × Obj)} {v0 : Int} {t0 : Tok},
   Below A₀ base outer h₀ → Fr h₀ L s.heap m → (hd.heap_39 w.params).In h₀ → News h₀ L s.heap news →
   Top topProg (looseW hd.view_39 [Str.ofString "_initial_missing", Str.ofString "reduce"] ++
            List.map (fun x => x.name) (recsOf hd.view_39) ++
          List.map (fun x => x.fst) (litsOf hd.view_39) ++
        List.map (fun x => x.name)
          (clssOf hd.view_39 (looseW hd.view_39 [Str.ofString "_initial_missing", Str.ofString "reduce"]))) mean mg mb h₀ →
   cs.kind = .function → dp + 1 < recursionLimit → un + 8 < cLine → 
   (∀ (t : Tok) h' tk', Fr h₀ L h' m → News h₀ L h' news → Q (.int (negI v0) t) {s with heap := h', toks := tk'}) →
   wpAny (model Challenge.rw_xh0004_01.row.prog w) (ktrTop dp un gd cn cs L a ccd cl outer) (call (.ref 58) [.int v0 t0]) Q E s := by
  k_with_none
  k_fill
  intro w mean mg mb dp un gd cn cs a ccd cl outer A₀ base h₀ L m s Q E news v0 t0 B F KX N TT hk hdep hu ret
  unfold negI at ret
  refine wpAny_call ?_
  k_dflt cell_enter
  k_steps
  all_goals (refine' ret _ _ _ ?F ?N; (case F => k_asm); (case N => k_asm))

theorem c_eq : ∀ {w : World} {mean : ExcName → Option Value} {mg mb : Str → Option Value}
   {dp un : Nat} {gd : Option (List Code)} {cn : Str} {cs : Scope} {a : Addr} {ccd : Value} {cl : List (Str × Addr)} {outer : List Env} {A₀ : Around} {base h₀ : Heap} {L : Addr} {m : Str → Option Value} {s : Shared} {Q E : Value → Shared → Prop}
   {news : List (Addr × Obj)} {v0 v1 : Int} {t0 t1 : Tok},
   Below A₀ base outer h₀ → Fr h₀ L s.heap m → (hd.heap_39 w.params).In h₀ → News h₀ L s.heap news →
   Top topProg (looseW hd.view_39 [Str.ofString "_initial_missing", Str.ofString "reduce"] ++
            List.map (fun x => x.name) (recsOf hd.view_39) ++
          List.map (fun x => x.fst) (litsOf hd.view_39) ++
        List.map (fun x => x.name)
          (clssOf hd.view_39 (looseW hd.view_39 [Str.ofString "_initial_missing", Str.ofString "reduce"]))) mean mg mb h₀ →
   cs.kind = .function → dp + 1 < recursionLimit → un + 8 < cLine → 
   (∀ (t : Tok) h' tk', Fr h₀ L h' m → News h₀ L h' news → Q (.bool (eqI v0 v1)) {s with heap := h', toks := tk'}) →
   wpAny (model Challenge.rw_xh0004_01.row.prog w) (ktrTop dp un gd cn cs L a ccd cl outer) (call (.ref 44) [.int v0 t0, .int v1 t1]) Q E s := by
  k_with_none
  k_fill
  intro w mean mg mb dp un gd cn cs a ccd cl outer A₀ base h₀ L m s Q E news v0 v1 t0 t1 B F KX N TT hk hdep hu ret
  unfold eqI at ret
  refine wpAny_call ?_
  k_dflt cell_enter
  k_steps
  all_goals (refine' ret 0 _ _ ?F ?N; (case F => k_asm); (case N => k_asm))

theorem c_high : ∀ {w : World} {mean : ExcName → Option Value} {mg mb : Str → Option Value}
   {dp un : Nat} {gd : Option (List Code)} {cn : Str} {cs : Scope} {a : Addr} {ccd : Value} {cl : List (Str × Addr)} {outer : List Env} {A₀ : Around} {base h₀ : Heap} {L : Addr} {m : Str → Option Value} {s : Shared} {Q E : Value → Shared → Prop}
   {news : List (Addr × Obj)} {v0 : Int} {t0 : Tok},
   Below A₀ base outer h₀ → Fr h₀ L s.heap m → (hd.heap_39 w.params).In h₀ → News h₀ L s.heap news →
   Top topProg (looseW hd.view_39 [Str.ofString "_initial_missing", Str.ofString "reduce"] ++
            List.map (fun x => x.name) (recsOf hd.view_39) ++
          List.map (fun x => x.fst) (litsOf hd.view_39) ++
        List.map (fun x => x.name)
          (clssOf hd.view_39 (looseW hd.view_39 [Str.ofString "_initial_missing", Str.ofString "reduce"]))) mean mg mb h₀ →
   cs.kind = .function → dp + 1 < recursionLimit → un + 16 < cLine → 
   (∀ (t : Tok) h' tk', Fr h₀ L h' m → News h₀ L h' news → Q (.int (highI v0) t) {s with heap := h', toks := tk'}) →
   wpAny (model Challenge.rw_xh0004_01.row.prog w) (ktrTop dp un gd cn cs L a ccd cl outer) (call (.ref 28) [.int v0 t0]) Q E s := by
  k_with_none
  k_fill
  intro w mean mg mb dp un gd cn cs a ccd cl outer A₀ base h₀ L m s Q E news v0 t0 B F KX N TT hk hdep hu ret
  unfold highI at ret
  refine wpAny_call ?_
  k_dflt cell_enter
  k_steps
  all_goals (refine' ret _ _ _ ?F ?N; (case F => k_asm); (case N => k_asm))

theorem c_single : ∀ {w : World} {mean : ExcName → Option Value} {mg mb : Str → Option Value}
   {dp un : Nat} {gd : Option (List Code)} {cn : Str} {cs : Scope} {a : Addr} {ccd : Value} {cl : List (Str × Addr)} {outer : List Env} {A₀ : Around} {base h₀ : Heap} {L : Addr} {m : Str → Option Value} {s : Shared} {Q E : Value → Shared → Prop}
   {news : List (Addr × Obj)} {v0 : Int} {t0 : Tok},
   Below A₀ base outer h₀ → Fr h₀ L s.heap m → (hd.heap_39 w.params).In h₀ → News h₀ L s.heap news →
   Top topProg (looseW hd.view_39 [Str.ofString "_initial_missing", Str.ofString "reduce"] ++
            List.map (fun x => x.name) (recsOf hd.view_39) ++
          List.map (fun x => x.fst) (litsOf hd.view_39) ++
        List.map (fun x => x.name)
          (clssOf hd.view_39 (looseW hd.view_39 [Str.ofString "_initial_missing", Str.ofString "reduce"]))) mean mg mb h₀ →
   cs.kind = .function → dp + 1 < recursionLimit → un + 8 < cLine → 
   (∀ (t : Tok) h' tk', Fr h₀ L h' m → News h₀ L h' news → Q (.bool (single v0)) {s with heap := h', toks := tk'}) →
   wpAny (model Challenge.rw_xh0004_01.row.prog w) (ktrTop dp un gd cn cs L a ccd cl outer) (call (.ref 21) [.int v0 t0]) Q E s := by
  k_with_none
  k_fill
  intro w mean mg mb dp un gd cn cs a ccd cl outer A₀ base h₀ L m s Q E news v0 t0 B F KX N TT hk hdep hu ret
  unfold single at ret
  refine wpAny_call ?_
  k_dflt cell_enter
  k_steps
  all_goals ((first | rw [if_pos (by assumption)] at ret | rw [if_neg (by assumption)] at ret); (refine' ret 0 _ _ ?F ?N; (case F => k_asm); (case N => k_asm)))

theorem c_code : ∀ {w : World} {mean : ExcName → Option Value} {mg mb : Str → Option Value}
   {dp un : Nat} {gd : Option (List Code)} {cn : Str} {cs : Scope} {a : Addr} {ccd : Value} {cl : List (Str × Addr)} {outer : List Env} {A₀ : Around} {base h₀ : Heap} {L : Addr} {m : Str → Option Value} {s : Shared} {Q E : Value → Shared → Prop}
   {news : List (Addr × Obj)} {v0 : Int} {t0 : Tok},
   Below A₀ base outer h₀ → Fr h₀ L s.heap m → (hd.heap_39 w.params).In h₀ → News h₀ L s.heap news →
   Top topProg (looseW hd.view_39 [Str.ofString "_initial_missing", Str.ofString "reduce"] ++
            List.map (fun x => x.name) (recsOf hd.view_39) ++
          List.map (fun x => x.fst) (litsOf hd.view_39) ++
        List.map (fun x => x.name)
          (clssOf hd.view_39 (looseW hd.view_39 [Str.ofString "_initial_missing", Str.ofString "reduce"]))) mean mg mb h₀ →
   cs.kind = .function → dp + 3 < recursionLimit → un + 32 < cLine → 
   (∀ (t : Tok) h' tk', Fr h₀ L h' m → News h₀ L h' news → Q (.int (code v0) t) {s with heap := h', toks := tk'}) →
   wpAny (model Challenge.rw_xh0004_01.row.prog w) (ktrTop dp un gd cn cs L a ccd cl outer) (call (.ref 79) [.int v0 t0]) Q E s := by
  k_with_none
  k_fill
  intro w mean mg mb dp un gd cn cs a ccd cl outer A₀ base h₀ L m s Q E news v0 t0 B F KX N TT hk hdep hu ret
  unfold code at ret
  k_with "call ref" => ((with_reducible show wpAny _ _ (call (Value.ref 72) _ _) _ _ _); (rename Fr _ _ _ _ => oF9); (rename News _ _ _ _ => oN9); (k_dflt (refine' Mine.c_xor ?k1 ?k2 ?k3 ?k4 ?k5 ?kk ?k8 ?k9 ?_)); (case k1 => k_asm); (case k2 => k_asm); (case k3 => k_asm); (case k4 => k_asm); (case k5 => k_asm); (case kk => first | rfl | assumption); (case k8 => ktr_room); (case k9 => ktr_units); intro t9 h9 tk9 F9 N9; (try clear oF9 oN9); (try dsimp only); (try k_fold))
  k_with "call ref" => ((with_reducible show wpAny _ _ (call (Value.ref 65) _ _) _ _ _); (rename Fr _ _ _ _ => oF9); (rename News _ _ _ _ => oN9); (k_dflt (refine' Mine.c_rsh ?k1 ?k2 ?k3 ?k4 ?k5 ?kk ?k8 ?k9 ?kp ?_)); (case k1 => k_asm); (case k2 => k_asm); (case k3 => k_asm); (case k4 => k_asm); (case k5 => k_asm); (case kk => first | rfl | assumption); (case k8 => ktr_room); (case k9 => ktr_units); (case kp => first | assumption | omega | decide); intro t9 h9 tk9 F9 N9; (try clear oF9 oN9); (try dsimp only); (try k_fold))
  refine wpAny_call ?_
  k_dflt cell_enter
  k_steps
  all_goals (refine' ret _ _ _ ?F ?N; (case F => k_asm); (case N => k_asm))
end Mine
end

section
namespace Mine
local macro_rules | `(tactic| walk_at "KCj") => `(tactic| ((refine kcj_end (t := (0 : Nat)) ?kce (by with_unfolding_all rfl) rfl (by assumption) (by assumption) (by exact fun _ hp => hp)); (case kce => exact rfl)))
local macro_rules | `(tactic| walk_at "ite") => `(tactic| k_extra "ite")
local macro_rules | `(tactic| walk_at "call ref") => `(tactic| k_extra "call ref")
local macro_rules | `(tactic| walk_at "GrownAll") => `(tactic| k_extra "GrownAll")
theorem law_holds : PySem.Challenge.rw_xh0004_01.Holds := hd (by
  k_with_none
  k_with "pyIter ref" => (k_of "k" => ((with_reducible show wpAny _ _ (pyIter (Value.ref _)) (fun it s₂ => LoopAtV _ _ _ _ _ _ _ _ _ it s₂) _ _); k_here; (rename Fr _ _ _ _ => lF'); (rename News _ _ _ _ => lN'); (rename IsRange _ _ _ _ _ _ _ _ => rgX); (with_unfolding_all refine' Mine.outer2 [Str.ofString "one", Str.ofString "other", Str.ofString "apart", Str.ofString "full"] ?hh rgX ?hs (rangeSize_nat _ _) lF' lN' ?h1 ?h2 ?_ ?_); (case hh => rfl); (case hs => (exact small_one (by omega) (by omega) (by l_bnd) (by l_bnd))); (case h1 => k_ne); (case h2 => k_ne); (all_goals (try clear lF' lN')); rotate_left; intro uT psT hT tkT F' N'; rotate_left; intro kT tT uT hT tkT OT TT XT hk1 hk2 lT F' N'; (have kM := kstMark); (all_goals (try simp only [List.cons_append, List.nil_append] at N')); (all_goals (try k_fold))))
  k_with "subscriptTail Name Name ref int" => (k_here; (with_reducible show wpAny _ _ (subscriptTail _ _ (Value.ref _) (Value.int _ _)) _ _ _); (with_unfolding_all refine' Mine.item_any ?k1 ?k2 ?k3 ?k4 ?k5 ?k6 ?_ ?k7; (case k1 => is_list); (case k2 => l_ints); (case k3 => exact Mine.ns_bound _); (case k4 => l_idx); (case k5 => l_idx); (case k6 => l_idx); (case k7 => with_unfolding_all rfl); k_whole); intro x8 t8 hx8 hy8)
  k_with "subscriptTail Name BinOp ref int" => (k_here; (with_reducible show wpAny _ _ (subscriptTail _ _ (Value.ref _) (Value.int _ _)) _ _ _); (with_unfolding_all refine' Mine.item_any ?k1 ?k2 ?k3 ?k4 ?k5 ?k6 ?_ ?k7; (case k1 => is_list); (case k2 => l_ints); (case k3 => exact Mine.ns_bound _); (case k4 => l_idx); (case k5 => l_idx); (case k6 => l_idx); (case k7 => with_unfolding_all rfl); k_whole); intro x9 t9 hx9 hy9; (have hF := Mine.facts hx8 hy8 hx9 hy9); (have f1 := hF.f1); (have f2 := hF.f2); (have f5 := hF.f5); (have f7 := hF.f7); (have f9 := hF.f9); (have f10 := hF.f10))
  k_with "call ref" => ((with_reducible show wpAny _ _ (call (Value.ref 72) _ _) _ _ _); (rename Fr _ _ _ _ => oF9); (rename News _ _ _ _ => oN9); (k_dflt (refine' Mine.c_xor ?k1 ?k2 ?k3 ?k4 ?k5 ?kk ?k8 ?k9 ?_)); (case k1 => k_asm); (case k2 => k_asm); (case k3 => k_asm); (case k4 => k_asm); (case k5 => k_asm); (case kk => first | rfl | assumption); (case k8 => ktr_room); (case k9 => ktr_units); intro t9 h9 tk9 F9 N9; (try clear oF9 oN9); (try dsimp only); (try k_fold))
  k_with "call ref" => ((with_reducible show wpAny _ _ (call (Value.ref 65) _ _) _ _ _); (rename Fr _ _ _ _ => oF9); (rename News _ _ _ _ => oN9); (k_dflt (refine' Mine.c_rsh ?k1 ?k2 ?k3 ?k4 ?k5 ?kk ?k8 ?k9 ?kp ?_)); (case k1 => k_asm); (case k2 => k_asm); (case k3 => k_asm); (case k4 => k_asm); (case k5 => k_asm); (case kk => first | rfl | assumption); (case k8 => ktr_room); (case k9 => ktr_units); (case kp => first | assumption | omega | decide); intro t9 h9 tk9 F9 N9; (try clear oF9 oN9); (try dsimp only); (try k_fold))
  k_with "call ref" => ((with_reducible show wpAny _ _ (call (Value.ref 51) _ _) _ _ _); (rename Fr _ _ _ _ => oF9); (rename News _ _ _ _ => oN9); (k_dflt (refine' Mine.c_and ?k1 ?k2 ?k3 ?k4 ?k5 ?kk ?k8 ?k9 ?_)); (case k1 => k_asm); (case k2 => k_asm); (case k3 => k_asm); (case k4 => k_asm); (case k5 => k_asm); (case kk => first | rfl | assumption); (case k8 => ktr_room); (case k9 => ktr_units); intro t9 h9 tk9 F9 N9; (try clear oF9 oN9); (try dsimp only); (try k_fold))
  k_with "call ref" => ((with_reducible show wpAny _ _ (call (Value.ref 58) _ _) _ _ _); (rename Fr _ _ _ _ => oF9); (rename News _ _ _ _ => oN9); (k_dflt (refine' Mine.c_neg ?k1 ?k2 ?k3 ?k4 ?k5 ?kk ?k8 ?k9 ?_)); (case k1 => k_asm); (case k2 => k_asm); (case k3 => k_asm); (case k4 => k_asm); (case k5 => k_asm); (case kk => first | rfl | assumption); (case k8 => ktr_room); (case k9 => ktr_units); intro t9 h9 tk9 F9 N9; (try clear oF9 oN9); (try dsimp only); (try k_fold))
  k_with "call ref" => ((with_reducible show wpAny _ _ (call (Value.ref 44) _ _) _ _ _); (rename Fr _ _ _ _ => oF9); (rename News _ _ _ _ => oN9); (k_dflt (refine' Mine.c_eq ?k1 ?k2 ?k3 ?k4 ?k5 ?kk ?k8 ?k9 ?_)); (case k1 => k_asm); (case k2 => k_asm); (case k3 => k_asm); (case k4 => k_asm); (case k5 => k_asm); (case kk => first | rfl | assumption); (case k8 => ktr_room); (case k9 => ktr_units); intro t9 h9 tk9 F9 N9; (try clear oF9 oN9); (try dsimp only); (try k_fold))
  k_with "call ref" => ((with_reducible show wpAny _ _ (call (Value.ref 28) _ _) _ _ _); (rename Fr _ _ _ _ => oF9); (rename News _ _ _ _ => oN9); (k_dflt (refine' Mine.c_high ?k1 ?k2 ?k3 ?k4 ?k5 ?kk ?k8 ?k9 ?_)); (case k1 => k_asm); (case k2 => k_asm); (case k3 => k_asm); (case k4 => k_asm); (case k5 => k_asm); (case kk => first | rfl | assumption); (case k8 => ktr_room); (case k9 => ktr_units); intro t9 h9 tk9 F9 N9; (try clear oF9 oN9); (try dsimp only); (try k_fold))
  k_with "call ref" => ((with_reducible show wpAny _ _ (call (Value.ref 21) _ _) _ _ _); (rename Fr _ _ _ _ => oF9); (rename News _ _ _ _ => oN9); (k_dflt (refine' Mine.c_single ?k1 ?k2 ?k3 ?k4 ?k5 ?kk ?k8 ?k9 ?_)); (case k1 => k_asm); (case k2 => k_asm); (case k3 => k_asm); (case k4 => k_asm); (case k5 => k_asm); (case kk => first | rfl | assumption); (case k8 => ktr_room); (case k9 => ktr_units); intro t9 h9 tk9 F9 N9; (try clear oF9 oN9); (try dsimp only); (try k_fold); skip)
  k_with "call ref" => ((with_reducible show wpAny _ _ (call (Value.ref 79) _ _) _ _ _); (rename Fr _ _ _ _ => oF9); (rename News _ _ _ _ => oN9); (k_dflt (refine' Mine.c_code ?k1 ?k2 ?k3 ?k4 ?k5 ?kk ?k8 ?k9 ?_)); (case k1 => k_asm); (case k2 => k_asm); (case k3 => k_asm); (case k4 => k_asm); (case k5 => k_asm); (case kk => first | rfl | assumption); (case k8 => ktr_room); (case k9 => ktr_units); intro t9 h9 tk9 F9 N9; (try clear oF9 oN9); (try dsimp only); (try k_fold))
  k_with "call ref" => ((with_reducible show wpAny _ _ (call (Value.ref 86) _ _) _ _ _); (rename Mine.LT _ _ _ => lt0); (rename Fr _ _ _ _ => oF9); (rename News _ _ _ _ => oN9); (k_dflt (refine' Mine.number_call ?k1 ?k2 ?k3 ?k4 ?k5 ?kk ?kc lt0 ?k6 ?k7 ?k8 ?k9 ?_)); (case k1 => k_asm); (case k2 => k_asm); (case k3 => k_asm); (case k4 => k_asm); (case k5 => k_asm); (case kk => rfl); (case kc => assumption); (case k6 => k_dflt k_mem); (case k7 => (intro p hp; k_dflt kst_mem)); (case k8 => ktr_room); (case k9 => ktr_units); intro z9 t9 h9 tk9 T9 X9 hz9 F9 N9 lt9; clear lt0; (try clear oF9 oN9); (first | (rw [hF.f3] at hz9; subst z9) | (rw [hF.f6] at hz9; subst z9) | ((have f4 := hF.f4); rw [← hz9] at f4; clear hz9)); (try dsimp only); (try k_fold))
  k_with "ite" => (refine Mine.ite_no ?hc ?_; (case hc => (first | (simp only [f4, bne_self_eq_false, Bool.false_eq_true, not_false_eq_true]; done) | (simp only [f1, f2, f5, f7, f9, f10, bne_self_eq_false, Bool.not_true, Bool.not_false, Bool.false_eq_true, not_false_eq_true]; done) | (simp only [hF.f8a hpos, bne_self_eq_false, Bool.false_eq_true, not_false_eq_true]; done) | (simp only [hF.f8b hpos, bne_self_eq_false, Bool.false_eq_true, not_false_eq_true]; done))))
  k_with "ite" => ((with_reducible show (if decide (0 < x8) = true then _ else _)); refine Mine.ite_dec ?_ ?_ <;> intro hpos)
  k_with "GrownAll" => ((rename Mine.LT _ _ _ => lt0); (k_dflt (refine' Mine.LT_grown lt0 ?kN ?kM; (case kN => k_asm); (case kM => k_mem))))
  k_with "tree" => simp only [Mine.code, Mine.rsh, Mine.single, Mine.negI, Mine.eqI, Mine.highI]
  k_with "TurnPost" => (dsimp only [Mine.TurnPost])
  k_with "TurnEnd" => ((rename Mine.LT _ _ _ => lt0); (rename Fr _ _ _ _ => fE'); (rename News _ _ _ _ => nE'); (k_dflt (refine' Mine.turn_end fE' nE' ?hT ?hX lt0 ?hr)); (case hT => k_dflt k_mem); (case hX => (intro p hp; k_dflt kst_mem)); (case hr => (intro z h1 h3; (simp only [List.contains_cons, List.contains_nil, Bool.or_false, Bool.or_eq_false_iff, beq_eq_false_iff_ne, ne_eq] at h3); simp [h1, h3])))
  k_go)
end Mine
end

theorem PySem.Challenge.cw_xh0004_01_holds : PySem.Challenge.rw_xh0004_01.Holds :=
  Mine.law_holds
