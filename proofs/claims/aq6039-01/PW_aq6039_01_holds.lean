import PyProof.Rows.All
import Wide.All
import OpenK.AllK
import Wide.FinOn
import PySem.Challenge.RW_aq6039_01
set_option Elab.async false
namespace Mine
open PySem PySem.W PyProof.Rows
set_option maxRecDepth 100000 in
set_option maxHeartbeats 8000000 in
open_top hd for PySem.Challenge.rw_aq6039_01
end Mine
namespace Mine
open PySem PySem.W PyProof.Rows PySem.Calls
section
variable {prog : Program} {w : World} {A : Around} {E : Value → Shared → Prop} {s : Shared} {h₀ : Heap} {L D : Addr} {m : PySem.Str → Option Value} {news news' : List (Addr × Obj)} {n : Nat}
theorem pop0_ints {us : List Value} {l : List Int} {u : Tok} {Q : Value → Shared → Prop} (F : Fr h₀ L s.heap m) (N : News h₀ L s.heap news) (hi : IntsAre us l) (hne : decide (l = []) = false)
    (U : Upd D (W.listOf us.toArray n) (W.listOf us.tail.toArray (n + 1)) news news') (hz : l.length ≤ sizeLine)
    (h : ∀ h' t, Fr h₀ L h' m → News h₀ L h' news' → IntsAre us.tail l.tail → Q (.int (l.headD 0) t) { s with heap := h' }) :
    wpAny (model prog w) A (call (.builtin "list.pop") [.ref D, .int 0 u]) Q E s := by
  cases hi with
  | nil => simp at hne
  | cons k t r =>
    rename_i us' l'
    refine kl_popAt (its := (Value.int k t :: us').toArray) F N (p := []) (y := .int k t) (q := us') (by rfl) (k := 0) ?_ ?_ U ?_ (fun h' F' N' => h h' t F' N' r)
    · simp [seqIndex?]
    · simp [kl_cut]
    · have := r.length; simp at hz ⊢; omega
end

theorem allLt_to {d : Addr} {l : List (Addr × Obj)} : AllLt d l → ∀ p ∈ l, p.1 < d := by
  induction l with
  | nil => intro _ p hp; nomatch hp
  | cons q r ih =>
    intro h p hp
    rcases List.mem_cons.mp hp with e | hp
    · rw [e]; exact h.1
    · exact ih h.2 p hp
theorem news_cut3 {h₀ h : Heap} {L : Addr} {x y z : Addr × Obj} {r : List (Addr × Obj)} (N : News h₀ L h (x :: y :: z :: r)) : News h₀ L h (x :: y :: r) := fun p hp => N p (by
  rcases List.mem_cons.mp hp with rfl | hp
  · exact .head _
  · rcases List.mem_cons.mp hp with rfl | hp
    · exact .tail _ (.head _)
    · exact .tail _ (.tail _ (.tail _ hp)))
theorem fold_bound (f : Int → Int → Int) (M : Int) (hf : ∀ a n, 0 ≤ f a n ∧ f a n < M) (ns : List Int) : ∀ (x : Int), 0 ≤ x ∧ x < M →
    0 ≤ (List.foldl (fun (σ : Int × Unit) n => (f σ.fst n, ())) (x, ()) ns).fst ∧ (List.foldl (fun (σ : Int × Unit) n => (f σ.fst n, ())) (x, ()) ns).fst < M := by
  induction ns with
  | nil => intro x h; exact h
  | cons n r ih => intro x _; rw [List.foldl_cons]; exact ih _ (hf _ _)
def seedStep (a n : Int) : Int := (a * 48271 + (if n < 0 then -n else n).fmod 65521 + 1).fmod 2147483647
theorem seedStep_bound (a n : Int) : 0 ≤ seedStep a n ∧ seedStep a n < 2147483647 := ⟨Int.fmod_nonneg_of_pos _ (by decide), Int.fmod_lt_of_pos _ (by decide)⟩
theorem seed_fold (ns : List Int) : 0 ≤ (List.foldl (fun (σ : Int × Unit) n => (seedStep σ.fst n, ())) (7, ()) ns).fst ∧ (List.foldl (fun (σ : Int × Unit) n => (seedStep σ.fst n, ())) (7, ()) ns).fst < 2147483647 :=
  fold_bound seedStep _ seedStep_bound ns 7 ⟨by decide, by decide⟩
theorem abs_pos (ns : List Int) (k : Nat) : ∀ x ∈ (ns.map fun n => if n < 0 then -n else n).take k, 0 ≤ x := by
  intro x hx
  obtain ⟨n, _, rfl⟩ := List.mem_map.mp (List.mem_of_mem_take hx)
  split <;> omega
/-- the draw: a pair of a list of ints and a seed -/
structure DSt where
  vs : List Value
  ns : List Int
  seed : Int
  t : Tok
  n1 : Nat
  n2 : Nat
def dObj (b : Addr) (σ : DSt) : Obj := W.listOf #[.ref b, .int σ.seed σ.t] σ.n1
def bObj (σ : DSt) : Obj := W.listOf σ.vs.toArray σ.n2
structure DOk (σ : DSt) : Prop where
  areI : IntsAre σ.vs σ.ns
  len : σ.ns.length ≤ 60
  pos : ∀ x ∈ σ.ns, 0 ≤ x
  lo : 0 ≤ σ.seed
  hi : σ.seed < 2147483647
/-- the ledger holds the draw; what is left of it -/
inductive Rest (d b : Addr) (σ : DSt) : List (Addr × Obj) → List (Addr × Obj) → Prop
  | head {r : List (Addr × Obj)} : (∀ p ∈ r, p.1 ≠ d) → (∀ p ∈ r, p.1 ≠ b) → Rest d b σ ((d, dObj b σ) :: (b, bObj σ) :: r) r
  | tail {p : Addr × Obj} {l r : List (Addr × Obj)} : p.1 ≠ d → p.1 ≠ b → Rest d b σ l r → Rest d b σ (p :: l) (p :: r)
theorem Rest.off {d b : Addr} {σ : DSt} {l r : List (Addr × Obj)} (h : Rest d b σ l r) : OwnOff r [d, b] := by
  induction h with
  | head h1 h2 =>
    intro p hp x hx
    simp only [List.mem_cons, List.not_mem_nil, or_false] at hx
    rcases hx with rfl | rfl
    · exact h1 p hp
    · exact h2 p hp
  | tail h1 h2 _ ih =>
    intro p hp x hx
    rcases List.mem_cons.mp hp with rfl | hp
    · simp only [List.mem_cons, List.not_mem_nil, or_false] at hx
      rcases hx with rfl | rfl
      · exact h1
      · exact h2
    · exact ih p hp x hx
theorem Rest.sub {d b : Addr} {σ : DSt} {l r : List (Addr × Obj)} (h : Rest d b σ l r) : ∀ p ∈ (d, dObj b σ) :: (b, bObj σ) :: r, p ∈ l := by
  induction h with
  | head h1 h2 => exact fun p hp => hp
  | tail h1 h2 _ ih =>
    intro p hp
    rcases List.mem_cons.mp hp with rfl | hp
    · exact List.mem_cons_of_mem _ (ih _ (.head _))
    · rcases List.mem_cons.mp hp with rfl | hp
      · exact List.mem_cons_of_mem _ (ih _ (.tail _ (.head _)))
      · rcases List.mem_cons.mp hp with rfl | hp
        · exact .head _
        · exact List.mem_cons_of_mem _ (ih _ (.tail _ (.tail _ hp)))

section
open LCg
variable {prog : Program} {w : World} {A : Around} {E : Value → Shared → Prop} {s : Shared} {h₀ : Heap} {L : Addr} {m : PySem.Str → Option Value} {env : Env}
theorem CompEnd.mono {I C D : Addr} {oI oC oD : Obj} {s₁ : Shared} {S : List (Addr × Obj) → Prop} {r r' : Value → List (Addr × Obj) → Prop} (hr : ∀ y n, r y n → r' y n) {y : Value} {s₂ : Shared}
    (h : CompEnd h₀ L m s₁ I oI C oC D oD S r y s₂) : CompEnd h₀ L m s₁ I oI C oC D oD S r' y s₂ := by
  obtain ⟨h', tk, news', e, F, N, o, hS, hh⟩ := h
  exact ⟨h', tk, news', e, F, N, o, hS, hr _ _ hh⟩
theorem rest_ind {elt : PySem.Expr} {x : PySem.Str} {scope : Scope} {cl : List (PySem.Str × Addr)} {S : List (Addr × Obj) → Prop} {P : Nat → Value → Prop} {Fin : List Value → List (Addr × Obj) → Prop} {n : Nat} (Inv : Nat → List Value → List (Addr × Obj) → Prop)
    (hstep : ∀ i ys news, i < n → Inv i ys news → ∀ v I oI C oC D m₂ h tk (E' : Value → Shared → Prop), P i v → NsObj oC m₂ → m₂ x = some v → Fr h₀ L h m → News h₀ L h ((I, oI) :: (C, oC) :: (D, lst ys) :: news) → Off3 I C D news → ((@Ne Nat I C) ∧ (@Ne Nat I D) ∧ (@Ne Nat C D)) →
      wpAny (model prog w) A (eval elt (compEnvC scope cl C env)) (CompEnd h₀ L m { s with heap := h, toks := tk } I oI C oC D (lst ys) S (fun y news' => Inv (i + 1) (ys ++ [y]) news')) E' { s with heap := h, toks := tk })
    (hfin : ∀ ys news, Inv n ys news → Fin ys news) : ∀ k i ys news, i + k = n → Inv i ys news → CompRest prog w A h₀ L m env elt x scope cl s S P Fin k i ys news := by
  intro k
  induction k with
  | zero =>
    intro i ys news hi hI
    exact CompRest.zero (hfin _ _ (by rw [show n = i by omega]; exact hI))
  | succ k ih =>
    intro i ys news hi hI
    refine CompRest.succ fun v I oI C oC D m₂ h tk E' hP hoC hx F N o ne => ?_
    refine wpAny_mono (hstep i ys news (by omega) hI v I oI C oC D m₂ h tk E' hP hoC hx F N o ne) (fun y s' h' => ?_) fun _ _ e => e
    exact CompEnd.mono (fun y n hh => ih (i + 1) _ _ (by omega) hh) h'

/-- a comprehension over a list of ints whose element is a function of the int -/
theorem rest_mapI {elt : PySem.Expr} {x : PySem.Str} {scope : Scope} {cl : List (PySem.Str × Addr)} {S : List (Addr × Obj) → Prop} {Fin : List Value → List (Addr × Obj) → Prop} {vs : List Value} {ns : List Int} {news : List (Addr × Obj)} (g : Int → Int) (hi : IntsAre vs ns)
    (hstep : ∀ n t ys I oI C oC D m₂ h tk (E' : Value → Shared → Prop), NsObj oC m₂ → m₂ x = some (.int n t) → Fr h₀ L h m → News h₀ L h ((I, oI) :: (C, oC) :: (D, lst ys) :: news) → Off3 I C D news → ((@Ne Nat I C) ∧ (@Ne Nat I D) ∧ (@Ne Nat C D)) →
      wpAny (model prog w) A (eval elt (compEnvC scope cl C env)) (CompEnd h₀ L m { s with heap := h, toks := tk } I oI C oC D (lst ys) S (fun y news' => news' = news ∧ ∃ t', y = .int (g n) t')) E' { s with heap := h, toks := tk })
    (hfin : ∀ ys, IntsAre ys (ns.map g) → Fin ys news) :
    CompRest prog w A h₀ L m env elt x scope cl s S (fun i v => vs.toArray[i]? = some v) Fin vs.toArray.size 0 [] news := by
  refine rest_ind (n := vs.toArray.size) (fun i ys news' => news' = news ∧ IntsAre ys ((ns.take i).map g)) ?_ ?_ _ 0 [] news (Nat.zero_add _) ⟨rfl, by simpa using IntsAre.nil⟩
  · rintro i ys _ hlt ⟨rfl, hys⟩ v I oI C oC D m₂ h tk E' hP hoC hx F N o ne
    have hlen : vs.toArray.size = ns.length := by simp [hi.length]
    have hlt' : i < ns.length := by omega
    obtain ⟨t, hxv⟩ := hi.get i ns[i] (by simp [hlt'])
    have hv : v = .int ns[i] t := by
      have hP' : vs[i]? = some v := by simpa using hP
      rw [hxv] at hP'; exact (Option.some.inj hP').symm
    subst hv
    refine wpAny_mono (hstep ns[i] t ys I oI C oC D m₂ h tk E' hoC hx F N o ne) (fun y s' h' => ?_) fun _ _ e => e
    refine CompEnd.mono (fun y n hh => ?_) h'
    obtain ⟨rfl, t', rfl⟩ := hh
    refine ⟨rfl, ?_⟩
    rw [List.take_add_one, List.getElem?_eq_getElem hlt']
    simp only [Option.toList_some, List.map_append, List.map_cons, List.map_nil]
    exact IntsAre.append hys (IntsAre.cons _ _ IntsAre.nil)
  · rintro ys _ ⟨rfl, hys⟩
    have hlen : vs.toArray.size = ns.length := by simp [hi.length]
    rw [hlen, List.take_length] at hys
    exact hfin ys hys
end

/-- where the first hash stands -/
def hashAt (row : PySem.Str) : Int := Txt.find row (PySem.Str.ofString "#")
def cutCode (row : PySem.Str) : PySem.Str := Txt.slice row none (some (hashAt row))
def cutSaid (row : PySem.Str) : PySem.Str := Txt.strip (Txt.slice row (some (hashAt row + 1)) none)
theorem hash_free {row : PySem.Str} (h : (Builtin.Str.occurrences row (PySem.Str.ofString "#") 0 row.length 1).isEmpty = true) : hashAt row = -1 := by
  unfold hashAt Txt.find
  cases e : Builtin.Str.occurrences row (PySem.Str.ofString "#") 0 row.length 1 with
  | nil => rfl
  | cons a r => rw [e] at h; simp at h
theorem hash_has {row : PySem.Str} (h : (Builtin.Str.occurrences row (PySem.Str.ofString "#") 0 row.length 1).isEmpty = false) : hashAt row ≠ -1 := by
  unfold hashAt Txt.find
  cases e : Builtin.Str.occurrences row (PySem.Str.ofString "#") 0 row.length 1 with
  | nil => rw [e] at h; simp at h
  | cons a r => dsimp only; omega
abbrev tupOf (l : List Value) : Obj := { cls := .type "tuple", data := .seq l.toArray }
end Mine
namespace Mine
open PySem PySem.W PyProof.Rows PySem.Calls
theorem lookup_sub {l l' : Frag} (h : ∀ p ∈ l, l'.lookup p.1 = some p.2) : ∀ a o, l.lookup a = some o → l'.lookup a = some o := by
  induction l with
  | nil => intro a o e; cases e
  | cons p r ih =>
    intro a o e
    rw [List.lookup_cons] at e
    cases hb : (a == p.1) with
    | true =>
      rw [hb] at e
      cases e
      rw [eq_of_beq hb]
      exact h p (.head _)
    | false =>
      rw [hb] at e
      exact ih (fun q hq => h q (.tail _ hq)) a o e
/-- the entry of a def with cells, and what is known of the tokens -/
theorem call_cellsT {prog : Program} {w : World} {A : Around} {R : Result → Shared → Prop} {s : Shared} {name : PySem.Str} {params : Arguments} {body : List Stmt} {scope : Scope}
    {pm cd doc : Value} {a : Addr} {o : Obj} {args : List Value} {binds : List (PySem.Str × Value)} {n : Nat} (hn : n ≤ s.toks)
    (hroom : A.depth < recursionLimit) (ho : s.heap.get? a = some o) (hdata : o.data = .func (Calls.docDef name params body scope pm cd doc)) (hlim : s.heap.NoLimit) (hcd : s.heap.CodeRec cd name)
    (hbind : bindArgs (Calls.docDef name params body scope pm cd doc) ⟨args, []⟩ = pure binds)
    (hkind : ∀ x ∈ binds, scope.names.lookup x.1 = some .local ∨ (scope.names.lookup x.1 = some .cell ∧ ((cellsFrom (s.heap.objs.size + 1) scope.names []).lookup x.1).isSome = true))
    (hnd : ((cellsFrom 0 scope.names []).map (·.1)).Nodup)
    (h : ∀ h₁ tk cells, n ≤ tk → Fr s.heap s.heap.objs.size h₁ (bindL (envOfC name scope s.heap.objs.size a cd).kindOf binds fun _ => none) → News s.heap s.heap.objs.size h₁ cells →
      CellsAre (bindC (envOfC name scope s.heap.objs.size a cd).kindOf binds fun _ => none) (cellsFrom (s.heap.objs.size + 1) scope.names []) cells →
      wpAny (model prog w) (A.deeper (envOfC name scope s.heap.objs.size a cd)) (execs body (envOfC name scope s.heap.objs.size a cd))
        (fun f s' => R (.ok (.ret (match f with | .ret v => v | _ => .none))) s')
        (fun e s' => wpAny (model prog w) (A.deeper (envOfC name scope s.heap.objs.size a cd)) (leaving (envOfC name scope s.heap.objs.size a cd) e)
          (fun _ s'' => R (.error e) s'') (fun e' s'' => R (.error e') s'') s')
        { s with heap := h₁, toks := tk })
    (hco : scope.isCoroutine = false := by rfl) (hgen : scope.isGenerator = false := by rfl) (hk : scope.kind = .function := by rfl) :
    codeAny (model prog w) A (.call (.ref a) ⟨args, []⟩) R s := by
  refine codeAny_call_function hroom ho hdata hco hgen rfl hcd ?_
  rw [hbind]
  refine wpAny_pure (wpAny_with_toks hn (wpAny_newFunctionEnv_cells hk hkind fun env' he s' x hle => ?_))
  subst he
  refine ⟨hlim.keeps x.toInCall.keep, codeAny_func ?_⟩
  obtain ⟨h₁, tk, rfl, _⟩ := x.done
  obtain ⟨cells, N, Y⟩ := Cl.news (h₀ := s.heap) (Nat.le_refl _) fun n c hm => ⟨x.cell n c (lookup_of_mem_nodup (cellsFrom_names scope.names 0 (s.heap.objs.size + 1) [] [] rfl ▸ hnd) hm), x.above n c hm⟩
  exact h h₁ tk cells hle ⟨x.toInCall.ns, x.toInCall.keep, Nat.le_refl _⟩ N Y
end Mine
namespace Mine
open PySem PySem.W PyProof.Rows PySem.Calls
/-- one more, if it is not there -/
def dd (ys : List PySem.Str) (y : PySem.Str) : List PySem.Str := if ys.any (· == y) = true then ys else ys ++ [y]
def dedup (ws : List PySem.Str) : List PySem.Str := ws.foldl dd []
theorem dd_len (ys : List PySem.Str) (y : PySem.Str) : (dd ys y).length ≤ ys.length + 1 := by
  unfold dd; split <;> simp
theorem foldl_dd_len (ws : List PySem.Str) : ∀ ys : List PySem.Str, (ws.foldl dd ys).length ≤ ys.length + ws.length := by
  induction ws with
  | nil => intro ys; simp
  | cons w r ih => intro ys; have h1 := ih (dd ys w); have h2 := dd_len ys w; simp only [List.foldl_cons, List.length_cons]; omega
theorem foldl_dd_mem (ws : List PySem.Str) : ∀ (ys : List PySem.Str) (z : PySem.Str), z ∈ ws.foldl dd ys → z ∈ ys ∨ z ∈ ws := by
  induction ws with
  | nil => intro ys z h; exact .inl h
  | cons w r ih =>
    intro ys z h
    rcases ih _ z h with h | h
    · unfold dd at h
      split at h
      · exact .inl h
      · rcases List.mem_append.mp h with h | h
        · exact .inl h
        · exact .inr (by rw [List.mem_singleton.mp h]; exact .head _)
    · exact .inr (.tail _ h)
def DDJ (x : PySem.Str) (m₀ : PySem.Str → Option Value) (D : Addr) (R : List (Addr × Obj)) (zs : List PySem.Str) (m' : PySem.Str → Option Value) (nx : List (Addr × Obj)) : Prop :=
  (∃ us' n', nx = (D, W.listOf (List.toArray us') n') :: R ∧ StrsAre us' zs) ∧ ∀ z, z ≠ x → m' z = m₀ z
section
variable {prog : Program} {w : World} {A : Around} {E : Value → Shared → Prop} {s : Shared} {env : Env} {h₀ : Heap} {x : PySem.Str} {body : List Stmt} {Q : Flow → Shared → Prop}
theorem map_but {m₁ m₀ : PySem.Str → Option Value} {x : PySem.Str} (hm : ∀ z, z ≠ x → m₁ z = m₀ z) (u : Option Value) : (fun y => if y = x then u else m₁ y) = fun y => if y = x then u else m₀ y := by
  funext y
  by_cases h : y = x
  · simp [h]
  · simp only [if_neg h]; exact hm y h
theorem map_self {m₁ m₀ : PySem.Str → Option Value} {x : PySem.Str} (hm : ∀ z, z ≠ x → m₁ z = m₀ z) : m₁ = fun y => if y = x then m₁ x else m₀ y := by
  funext y
  by_cases h : y = x
  · simp [h]
  · simp only [if_neg h]; exact hm y h
theorem dd_end {L D : Addr} {R own : List (Addr × Obj)} {m₀ m' : PySem.Str → Option Value} {us' : List Value} {zs : List PySem.Str} {n' : Nat} {s₁ : Shared} {h' : Heap} {tk : Nat} (hown : OwnOff own (D :: R.map (·.1))) (F : Fr h₀ L h' m') (N : News h₀ L h' ((D, W.listOf us'.toArray n') :: (R ++ own)))
    (hs : StrsAre us' zs) (hm : ∀ z, z ≠ x → m' z = m₀ z) : InvEndG h₀ L (DDJ x m₀ D R zs) own s₁ { s₁ with heap := h', toks := tk } :=
  InvEndG.intro (nx := (D, W.listOf us'.toArray n') :: R) F N ⟨⟨us', n', rfl, hs⟩, hm⟩ hown (fun p hp => by
    rcases List.mem_cons.mp hp with rfl | hp
    · exact .head _
    · exact .tail _ (List.mem_append.mpr (.inl hp))) (fun p hp => .tail _ (List.mem_append.mpr (.inr hp)))
theorem dd_endS {L D : Addr} {R own : List (Addr × Obj)} {m₀ m' : PySem.Str → Option Value} {us : List Value} {ys : List PySem.Str} {y : PySem.Str} {n' : Nat} {s₁ : Shared} {h' : Heap} {tk : Nat} (hown : OwnOff own (D :: R.map (·.1))) (F : Fr h₀ L h' m') (N : News h₀ L h' ((D, W.listOf us.toArray n') :: (R ++ own)))
    (hs : StrsAre us ys) (ha : ys.any (· == y) = true) (hm : ∀ z, z ≠ x → m' z = m₀ z) : InvEndG h₀ L (DDJ x m₀ D R (dd ys y)) own s₁ { s₁ with heap := h', toks := tk } :=
  dd_end hown F N (by unfold dd; rw [if_pos ha]; exact hs) hm
theorem dd_endP {L D : Addr} {R own : List (Addr × Obj)} {m₀ m' : PySem.Str → Option Value} {us : List Value} {ys : List PySem.Str} {y : PySem.Str} {t : Tok} {n' : Nat} {s₁ : Shared} {h' : Heap} {tk : Nat} (hown : OwnOff own (D :: R.map (·.1))) (F : Fr h₀ L h' m') (N : News h₀ L h' ((D, W.listOf (us.toArray.push (.str y t)) n') :: (R ++ own)))
    (hs : StrsAre us ys) (ha : ys.any (· == y) = false) (hm : ∀ z, z ≠ x → m' z = m₀ z) : InvEndG h₀ L (DDJ x m₀ D R (dd ys y)) own s₁ { s₁ with heap := h', toks := tk } := by
  have N' : News h₀ L h' ((D, W.listOf (us ++ [Value.str y t]).toArray n') :: (R ++ own)) := by
    have e : (us ++ [Value.str y t]).toArray = us.toArray.push (.str y t) := by simp
    rw [e]; exact N
  exact dd_end hown F N' (by unfold dd; rw [if_neg (by rw [ha]; exact Bool.false_ne_true)]; exact kct_snoc hs) hm
theorem iter_dedup {l D : Addr} {vs : List Value} {ws : List PySem.Str} {nn n0 : Nat} {m₀ : PySem.Str → Option Value} {R : List (Addr × Obj)}
    (hh : A.handled = none) (hl : (l, W.listOf vs.toArray nn) ∈ R) (hi : StrsAre vs ws) (F : Fr h₀ env.locals s.heap m₀) (N : News h₀ env.locals s.heap ((D, W.listOf #[] n0) :: R)) (hD : ∀ p ∈ R, p.1 ≠ D)
    (turn : ∀ y t us ys n' h tk own, y ∈ ws → StrsAre us ys → ys.length ≤ ws.length → (∀ z ∈ ys, z ∈ ws) → OwnOff own (D :: R.map (·.1)) → (∀ p ∈ R ++ own, p.1 ≠ D) → Fr h₀ env.locals h (fun z => if z = x then some (.str y t) else m₀ z) → News h₀ env.locals h ((D, W.listOf us.toArray n') :: (R ++ own)) →
      wpAny (model prog w) A (execs body env) (InvPostG h₀ env.locals (DDJ x m₀ D R (dd ys y)) own { s with heap := h, toks := tk } Q) E { s with heap := h, toks := tk })
    (done : ∀ (u : Option Value) us n' h tk, StrsAre us (dedup ws) → (dedup ws).length ≤ ws.length → (∀ z ∈ dedup ws, z ∈ ws) → Fr h₀ env.locals h (fun z => if z = x then u else m₀ z) → News h₀ env.locals h ((D, W.listOf us.toArray n') :: R) → Q .next { s with heap := h, toks := tk }) :
    wpAny (model prog w) A (pyIter (.ref l)) (fun it s₂ => LoopAtV prog w A h₀ env x body Q E it s₂) E s := by
  have hlen : vs.length = ws.length := hi.len_eq
  have hb : ∀ i, ((ws.take i).foldl dd []).length ≤ ws.length := fun i => by
    have h1 := foldl_dd_len (ws.take i) []
    have h2 : (ws.take i).length ≤ ws.length := by rw [List.length_take]; exact Nat.min_le_right _ _
    simp only [List.length_nil] at h1
    omega
  have hm' : ∀ i, ∀ z ∈ (ws.take i).foldl dd [], z ∈ ws := fun i z hz => by
    rcases foldl_dd_mem _ _ _ hz with h | h
    · nomatch h
    · exact List.mem_of_mem_take h
  refine kdl_iter (fun i m nx => DDJ x m₀ D R ((ws.take i).foldl dd []) m nx) hh (.tail _ hl) F N ⟨⟨[], n0, rfl, by simpa using StrsAre.nil⟩, fun _ _ => rfl⟩ ?_ ?_
  · rintro i v m₁ nx h tk own hv hoff hl₁ ⟨⟨us, n', rfl, hu⟩, hm⟩ F₁ N₁
    obtain ⟨y, t, rfl, hy⟩ := hi.item i v hv
    rw [map_but hm] at F₁
    have hs : (ws.take (i + 1)).foldl dd [] = dd ((ws.take i).foldl dd []) y := by
      rw [List.take_add_one, hy]; simp
    have hoD : ∀ p ∈ R ++ own, p.1 ≠ D := fun p hp => by
      rcases List.mem_append.mp hp with h | h
      · exact hD p h
      · exact hoff p h D (.head _)
    rw [hs]
    refine wpAny_mono (turn y t us _ n' h tk own (List.mem_of_getElem? hy) hu (hb i) (hm' i) hoff hoD F₁ N₁) (fun f s₂ p => ?_) fun _ _ e => e
    have up : InvEndG h₀ env.locals (DDJ x m₀ D R (dd ((ws.take i).foldl dd []) y)) own { s with heap := h, toks := tk } s₂ →
        InvEndG h₀ env.locals (fun m' nx => (l, W.listOf vs.toArray nn) ∈ nx ∧ DDJ x m₀ D R (dd ((ws.take i).foldl dd []) y) m' nx) own { s with heap := h, toks := tk } s₂ := by
      rintro ⟨h', tk', m', news', nx', e', F', N', hn', ho', ha, hS⟩
      refine ⟨h', tk', m', news', nx', e', F', N', hn', ho', ha, ?_, hS⟩
      obtain ⟨⟨us', n'', rfl, _⟩, _⟩ := hS
      exact .tail _ hl
    cases f with
    | ret v => exact p
    | brk => exact p
    | next => exact up p
    | cont => exact up p
  · rintro m₁ nx h tk ⟨⟨us, n', rfl, hu⟩, hm⟩ F₁ N₁
    rw [hlen, List.take_length] at hu
    rw [map_self hm] at F₁
    refine done (m₁ x) us n' h tk hu ?_ ?_ F₁ N₁
    · have := hb ws.length; rwa [List.take_length] at this
    · have := hm' ws.length; rwa [List.take_length] at this
end
section
variable {prog : Program} {w : World} {A : Around} {E : Value → Shared → Prop} {s : Shared}
theorem truthy_strs {l : Addr} {vs : List Value} {ws : List PySem.Str} {Q : Bool → Shared → Prop} (hl : s.heap.IsList l vs.toArray) (hi : StrsAre vs ws) (hw : ws.length ≤ 4) (h : ∀ tk, Q (!decide (ws = [])) { s with toks := tk }) :
    wpAny (model prog w) A (truthy (.ref l)) Q E s := by
  have hlen := hi.len_eq
  refine wpAny_truthy_list hl (by rw [List.size_toArray]; omega) ?_
  cases hi with
  | nil => simpa using h _
  | cons _ _ _ => simpa using h _
theorem join_le (x : PySem.Str) (ys : List PySem.Str) (hx : x.length ≤ 2) (hn : ys.length ≤ 4) (hy : ∀ z ∈ ys, z.length ≤ 8) : (Txt.join x ys).length ≤ 40 := by
  have hb : (ys.map (·.length)).sum ≤ ys.length * 8 := StrLaws.sumLen_le _ hy
  show (Builtin.Str.glued x ys).length ≤ 40
  rw [StrLaws.glued_eq_join]
  cases ys with
  | nil => exact Nat.zero_le _
  | cons a r =>
    rw [len_join_cons]
    simp only [List.length_cons] at hn hb
    have h1 : r.length * x.length ≤ r.length * 2 := Nat.mul_le_mul_left _ hx
    omega
theorem join_dd {D : Addr} {us : List Value} {ws : List PySem.Str} {x : PySem.Str} {t : Tok} {Q : Value → Shared → Prop} (hl : s.heap.IsList D us.toArray) (hi : StrsAre us (dedup ws)) (hn : (dedup ws).length ≤ ws.length) (hm : ∀ z ∈ dedup ws, z ∈ ws) (hx : x.length ≤ 2) (hws : ws.length ≤ 4) (hwl : ∀ z ∈ ws, z.length ≤ 8)
    (h : ∀ t' k, (Txt.join x (dedup ws)).length ≤ 40 → Q (.str (Txt.join x (dedup ws)) t') { s with toks := k }) : wpAny (model prog w) A (call (.builtin "str.join") [.str x t, .ref D]) Q E s := by
  have hb : ((dedup ws).map (·.length)).sum ≤ (dedup ws).length * 8 := StrLaws.sumLen_le _ fun y hy => hwl y (hm y hy)
  exact join_listW hl (by simpa using hi) (by omega) (by omega) fun t' k => h t' k (join_le x _ hx (by omega) fun z hz => hwl z (hm z hz))
end
end Mine
namespace Mine
open PySem PySem.W PyProof.Rows PySem.Calls
section
variable {prog : Program} {w : World} {A : Around} {E : Value → Shared → Prop} {s : Shared} {x y z : PySem.Str} {t u v : Tok} {Q : Value → Shared → Prop}
theorem len_repl (x y z : PySem.Str) : (Txt.replace x y z).length ≤ x.length + (x.length + 1) * z.length := by
  unfold Txt.replace
  split
  · exact Nat.le_add_right _ _
  · have h1 := StrLaws.occ_length_le x y 0 x.length (x.length + 1)
    have hy : (Builtin.Str.glued y (Builtin.Str.partsBetween x (Builtin.Str.occurrences x y 0 x.length (x.length + 1)) y.length)).length = x.length := by rw [StrLaws.glued_between_self]
    rw [size_glued, length_partsBetween, Nat.add_sub_cancel] at hy
    rw [size_glued, length_partsBetween, Nat.add_sub_cancel]
    have h2 : (Builtin.Str.occurrences x y 0 x.length (x.length + 1)).length * z.length ≤ (x.length + 1) * z.length := Nat.mul_le_mul_right _ h1
    omega
theorem repl_t (hu : @Ne Nat u 0) (hv : @Ne Nat v 0) (huv : @Ne Nat u v) (hyz : (y == z) = false) (hx : x.length ≤ 4096) (hz : z.length ≤ 1)
    (h : ∀ t' k, s.toks ≤ k → (Txt.replace x y z).length ≤ x.length + (x.length + 1) * z.length → Q (.str (Txt.replace x y z) t') { s with toks := k }) :
    wpAny (model prog w) A (call (.builtin "str.replace") [.str x t, .str y u, .str z v]) Q E s := by
  refine wpAny_with_toks (Nat.le_refl s.toks) ?_
  exact SC.replaceW hu hv huv hyz (by omega) (by omega) fun t' k hk => h t' k hk (len_repl x y z)
theorem strip_t (hx : x.length ≤ 4096) (h : ∀ t' k, s.toks ≤ k → (Txt.strip x).length ≤ x.length → Q (.str (Txt.strip x) t') { s with toks := k }) :
    wpAny (model prog w) A (call (.builtin "str.strip") [.str x t]) Q E s := by
  refine wpAny_with_toks (Nat.le_refl s.toks) ?_
  exact SCL.strip (fun t' k hl hk => h t' k hk hl) (by rw [PySem.sizeLine_eq]; omega)
end
section
variable {prog : Program} {w : World} {A : Around} {E : Value → Shared → Prop} {s : Shared} {h₀ : Heap} {L D : Addr} {m : PySem.Str → Option Value} {news news' : List (Addr × Obj)} {n : Nat}
theorem cut_last : ∀ (p : List Value) (y : Value), kl_cut (p ++ [y]) p.length = some (p, y, [])
  | [], _ => rfl
  | x :: p, y => by
    show (match kl_cut (p ++ [y]) p.length with | some (q, z, r) => some (x :: q, z, r) | none => none) = _
    rw [cut_last p y]
theorem strs_last {us : List Value} {ys : List PySem.Str} (hi : StrsAre us ys) (hne : ys ≠ []) : ∃ t, us = us.dropLast ++ [.str (ys.getLastD PySem.Str.empty) t] ∧ StrsAre us.dropLast ys.dropLast := by
  induction hi with
  | nil => exact absurd rfl hne
  | cons y t r ih =>
    cases r with
    | nil => exact ⟨t, rfl, .nil⟩
    | cons y' t' r' =>
      obtain ⟨u, h1, h2⟩ := ih (by simp)
      refine ⟨u, ?_, ?_⟩
      · exact congrArg (List.cons (Value.str y t)) h1
      · exact .cons y t h2
theorem pop_last {us : List Value} {ys : List PySem.Str} {u : Tok} {Q : Value → Shared → Prop} (F : Fr h₀ L s.heap m) (N : News h₀ L s.heap news) (hi : StrsAre us ys) (hne : ys ≠ [])
    (U : Upd D (W.listOf us.toArray n) (W.listOf us.dropLast.toArray (n + 1)) news news') (hz : ys.length ≤ 4096)
    (h : ∀ h' t, Fr h₀ L h' m → News h₀ L h' news' → StrsAre us.dropLast ys.dropLast → Q (.str (ys.getLastD PySem.Str.empty) t) { s with heap := h' }) :
    wpAny (model prog w) A (call (.builtin "list.pop") [.ref D, .int (-1) u]) Q E s := by
  obtain ⟨t, h1, h2⟩ := strs_last hi hne
  have hlen := hi.len_eq
  have hpos : 0 < ys.length := List.length_pos_iff.mpr hne
  have hd : us.dropLast.length = us.length - 1 := List.length_dropLast ..
  refine kl_popAt (its := us.toArray) (k := us.dropLast.length) (p := us.dropLast) (q := []) (y := .str (ys.getLastD PySem.Str.empty) t) F N (by rfl) ?_ ?_ (by simpa using U) ?_ fun h' F' N' => h h' t F' N' h2
  · rw [List.size_toArray, seqIndex_neg (by decide) (by omega)]
    congr 1
    omega
  · have e := cut_last us.dropLast (.str (ys.getLastD PySem.Str.empty) t)
    rw [← h1] at e
    simpa using e
  · rw [PySem.sizeLine_eq]
    show us.length ≤ _
    omega
end
section
variable {prog : Program} {w : World} {A : Around} {E : Value → Shared → Prop} {s : Shared} {h₀ : Heap} {L D : Addr} {m : PySem.Str → Option Value} {news news' : List (Addr × Obj)} {n : Nat}
theorem split_t {x y : PySem.Str} {t u : Tok} {Q : Value → Shared → Prop} (F : Fr h₀ L s.heap m) (N : News h₀ L s.heap news) (hy : (y.length == 0) = false) (hx : x.length ≤ 4000)
    (h : ∀ D us h' k, StrsAre us (Txt.split x y) → (∀ p ∈ news, p.1 < D) → Fr h₀ L h' m → News h₀ L h' ((D, W.listOf us.toArray 0) :: news) → Q (.ref D) { s with heap := h', toks := k }) :
    wpAny (model prog w) A (call (.builtin "str.split") [.str x t, .str y u]) Q E s :=
  splitN1A F N hy (fun l h' k e hs _ _ F' N' => h _ _ h' k (e ▸ hs) (fun p hp => Heap.lt_size (N p hp).1) F' N') (by rw [PySem.sizeLine_eq]; omega)
theorem sum_dropLast (l : List PySem.Str) : (l.dropLast.map (·.length)).sum + l.dropLast.length ≤ (l.map (·.length)).sum + l.length := by
  induction l with
  | nil => simp
  | cons a r ih =>
    cases r with
    | nil => simp
    | cons b q => simp only [List.dropLast_cons_cons, List.map_cons, List.sum_cons, List.length_cons] at ih ⊢; omega
theorem join_dot {us : List Value} {x y : PySem.Str} {t : Tok} {Q : Value → Shared → Prop} (hl : s.heap.IsList D us.toArray) (hi : StrsAre us (Txt.split x y).dropLast) (hy : y.length = 1) (hx : x.length ≤ 4000)
    (h : ∀ t' k, (Txt.join y (Txt.split x y).dropLast).length ≤ 2 * x.length + 2 → Q (.str (Txt.join y (Txt.split x y).dropLast) t') { s with toks := k }) :
    wpAny (model prog w) A (call (.builtin "str.join") [.str y t, .ref D]) Q E s := by
  have h1 := split_weight x y (by omega)
  have h2 := sum_dropLast (Txt.split x y)
  refine join_listW hl (by simpa using hi) (by omega) (by omega) fun t' k => h t' k ?_
  show (Builtin.Str.glued y _).length ≤ _
  rw [StrLaws.glued_eq_join]
  have h3 := StrLaws.join_length_le y (Txt.split x y).dropLast
  rw [hy, Nat.mul_one] at h3
  omega
theorem split_ne (x y : PySem.Str) : Txt.split x y ≠ [] := by
  have := split_pos x y
  intro e; rw [e] at this; simp at this
end
theorem pop_split {prog : Program} {w : World} {A : Around} {E : Value → Shared → Prop} {s : Shared} {h₀ : Heap} {L D : Addr} {m : PySem.Str → Option Value} {news news' : List (Addr × Obj)} {n : Nat}
    {us : List Value} {x y : PySem.Str} {u : Tok} {Q : Value → Shared → Prop} (F : Fr h₀ L s.heap m) (N : News h₀ L s.heap news) (hi : StrsAre us (Txt.split x y))
    (U : Upd D (W.listOf us.toArray n) (W.listOf us.dropLast.toArray (n + 1)) news news') (hz : x.length ≤ 4000)
    (h : ∀ h' t, Fr h₀ L h' m → News h₀ L h' news' → StrsAre us.dropLast (Txt.split x y).dropLast → ((Txt.split x y).getLastD PySem.Str.empty).length ≤ x.length → Q (.str ((Txt.split x y).getLastD PySem.Str.empty) t) { s with heap := h' }) :
    wpAny (model prog w) A (call (.builtin "list.pop") [.ref D, .int (-1) u]) Q E s :=
  pop_last F N hi (split_ne _ _) U (by have := split_le x y; omega) fun h' t F' N' hI => h h' t F' N' hI (by
    have hne := split_ne x y
    rw [List.getLastD_eq_getLast?, List.getLast?_eq_some_getLast hne]
    exact part_short (List.getLast_mem hne))
def natText (row : PySem.Str) : PySem.Str :=
  if Txt.startswith (Txt.strip row) (PySem.Str.ofString "from ") = true then Txt.strip row
  else if Txt.startswith (Txt.strip row) (PySem.Str.ofString "\x69mport ") = true then Txt.strip row
  else if (Builtin.Str.occurrences (Txt.strip row) (PySem.Str.ofString ".") 0 (Txt.strip row).length 1).isEmpty = true then PySem.Str.empty ++ PySem.Str.ofString "\x69mport " ++ Txt.strip row
  else PySem.Str.empty ++ PySem.Str.ofString "from " ++ Txt.join (PySem.Str.ofString ".") (Txt.split (Txt.strip row) (PySem.Str.ofString ".")).dropLast ++ PySem.Str.ofString " \x69mport " ++ (Txt.split (Txt.strip row) (PySem.Str.ofString ".")).getLastD PySem.Str.empty
def simpText (row : PySem.Str) : PySem.Str :=
  if Txt.startswith (Txt.strip row) (PySem.Str.ofString "from ") = true then Txt.replace (Txt.replace (Txt.strip row) (PySem.Str.ofString "from ") (PySem.Str.ofString "")) (PySem.Str.ofString " \x69mport ") (PySem.Str.ofString ".")
  else if Txt.startswith (Txt.strip row) (PySem.Str.ofString "\x69mport ") = true then Txt.replace (Txt.strip row) (PySem.Str.ofString "\x69mport ") (PySem.Str.ofString "")
  else Txt.strip row
def remText (x y : PySem.Str) : PySem.Str :=
  Txt.replace (Txt.replace (Txt.replace (Txt.replace x y (PySem.Str.ofString "")) (PySem.Str.ofString " ") (PySem.Str.ofString "")) (PySem.Str.ofString "\t") (PySem.Str.ofString "")) (PySem.Str.ofString "\x0c") (PySem.Str.ofString "")
end Mine
namespace Mine
open PySem PySem.W PyProof.Rows PySem.Calls
section
variable {prog : Program} {w : World} {A : Around} {E : Value → Shared → Prop} {s : Shared} {h₀ : Heap} {L : Addr} {m : PySem.Str → Option Value} {news : List (Addr × Obj)}
/-- an item of a written menu of texts -/
theorem item_t {value slice : PySem.Expr} {l : Addr} {vs : List Value} {ws : List PySem.Str} {i : Int} {u : Tok} {B : Nat} {Q : Value → Shared → Prop} (hl : s.heap.IsList l vs.toArray) (hw : StrsAre vs ws) (h0 : 0 ≤ i) (h1 : i < (ws.length : Int)) (hn : ws.length ≤ 16) (hB : ws.all (fun y => decide (y.length ≤ B)) = true)
    (h : ∀ y t', y ∈ ws → y.length ≤ B → Q (.str y t') s)
    (hs : subscripted slice false (.ref l) (.int i u) = operate [.ref l, .int i u] (getItem (.ref l) (.int i u)) := by with_unfolding_all rfl) :
    wpAny (model prog w) A (subscriptTail value slice (.ref l) (.int i u)) Q E s :=
  KTb.item_list hl hw h0 h1 (by omega) (fun t' hlt => by
    have hm : ws.getD i.toNat PySem.Str.empty ∈ ws := by
      rw [List.getD_eq_getElem?_getD, List.getElem?_eq_getElem hlt]
      exact List.getElem_mem hlt
    exact h _ t' hm (of_decide_eq_true (List.all_eq_true.mp hB _ hm))) hs
theorem ne_same {x y : PySem.Str} {t u : Tok} {Q : Value → Shared → Prop} (e : x = y) (h : Q (.bool false) s) : wpAny (model prog w) A (compareOp .NotEq (.str x t) (.str y u)) Q E s := by
  subst e
  exact PyProof.Rows.ne_str (by simpa using h)
theorem ld_free {K : Frag} {scope : Scope} {cl : List (PySem.Str × Addr)} {env : Env} {C c : Addr} {o : Obj} {x : PySem.Str} {pos : Pos} {v : Value} {Q : Value → Shared → Prop} (N : News h₀ L s.heap news) (hc : cl.lookup x = some c) (hm : (c, o) ∈ news) (hd : o.data = .cell (some v)) (h : Q v s)
    (hk : (compEnvC scope cl C env).scope.kind = .function := by rfl) (hx : (compEnvC scope cl C env).kindOf x = some .free := by rfl) (hb : (x == ("__debug__" : Str)) = false := by decide) (hn : (x == ("__classdict__" : Str)) = false := by decide) :
    wpAny (model prog w) A (eval (.Name x pos) (compEnvC scope cl C env)) Q E s := wpAny_Name (wpAny_loadName_free hk hx hc ⟨o, N.get hm, hd⟩ h hn) hb
end
theorem range_size {b₀ : Int} (hb0 : 0 ≤ b₀) : Builtin.Range.rangeSize 0 b₀ 1 = ((b₀.toNat : Nat) : Int) := by
  unfold Builtin.Range.rangeSize
  rw [if_pos (by decide), Int.ediv_one]
  split <;> omega
def LJ (d b C : Addr) (oC : Obj) (rowN : PySem.Str) (i : Nat) (m : PySem.Str → Option Value) (nx : List (Addr × Obj)) : Prop :=
  ∃ σ row t, nx = [(d, dObj b σ), (b, bObj σ), (C, oC)] ∧ DOk σ ∧ row.length ≤ 64 + 80 * i ∧ m rowN = some (.str row t)
section
variable {prog : Program} {w : World} {A : Around} {E : Value → Shared → Prop} {s : Shared} {env : Env} {h₀ : Heap} {x : PySem.Str} {body : List Stmt} {Q : Flow → Shared → Prop}
theorem map_row {m₁ : PySem.Str → Option Value} {x rowN : PySem.Str} {v u : Value} (h : m₁ rowN = some u) :
    (fun y => if y = x then some v else m₁ y) = fun y => if y = x then some v else if y = rowN then some u else m₁ y := by
  funext y
  by_cases h1 : y = x
  · simp [h1]
  · simp only [if_neg h1]
    by_cases h2 : y = rowN
    · subst h2; simp [h]
    · simp [h2]
theorem map_row1 {m₁ : PySem.Str → Option Value} {rowN : PySem.Str} {u : Value} (h : m₁ rowN = some u) :
    m₁ = fun y => if y = rowN then some u else m₁ y := by
  funext y
  by_cases h2 : y = rowN
  · subst h2; simp [h]
  · simp [h2]
theorem law_loop {r d b C : Addr} {oC : Obj} {rowN : PySem.Str} {b₀ : Int} {t₀ u₀ v₀ : Tok} {m₀ : PySem.Str → Option Value} {σ₀ : DSt} {row₀ : PySem.Str} {tr₀ : Tok} {news : List (Addr × Obj)}
    (hh : A.handled = none) (hr : IsRange s.heap r 0 b₀ 1 t₀ u₀ v₀) (hb0 : 0 ≤ b₀) (hb1 : b₀ < 7) (F : Fr h₀ env.locals s.heap m₀) (N₀ : News h₀ env.locals s.heap news) (ok : DOk σ₀) (hd : (d, dObj b σ₀) ∈ news) (hb : (b, bObj σ₀) ∈ news) (hc : oC.data = .cell (some (.ref d))) (hC : (C, oC) ∈ news) (hl : row₀.length ≤ 64) (hm : m₀ rowN = some (.str row₀ tr₀))
    (turn : ∀ (i : Nat) k t σ row tr (u : PySem.Str → Option Value) h tk own, i < 7 → row.length ≤ 64 + 80 * i → DOk σ → OwnOff own [d, b, C] → Fr h₀ env.locals h (fun y => if y = x then some (.int k t) else if y = rowN then some (.str row tr) else u y) → News h₀ env.locals h ((d, dObj b σ) :: (b, bObj σ) :: (C, oC) :: own) →
      wpAny (model prog w) A (execs body env) (InvPostN h₀ env.locals (LJ d b C oC rowN (i + 1)) own [d, b, C] { s with heap := h, toks := tk } Q) E { s with heap := h, toks := tk })
    (done : ∀ σ row tr (u : PySem.Str → Option Value) h tk, DOk σ → Fr h₀ env.locals h (fun y => if y = rowN then some (.str row tr) else u y) → News h₀ env.locals h [(d, dObj b σ), (b, bObj σ), (C, oC)] → Q .next { s with heap := h, toks := tk }) :
    wpAny (model prog w) A (pyIter (.ref r)) (fun it s₂ => LoopAtV prog w A h₀ env x body Q E it s₂) E s := by
  have N : News h₀ env.locals s.heap [(d, dObj b σ₀), (b, bObj σ₀), (C, oC)] := fun p hp => N₀ p (by
    simp only [List.mem_cons, List.not_mem_nil, or_false] at hp
    rcases hp with rfl | rfl | rfl <;> assumption)
  have hsmall : Builtin.Range.small 0 b₀ 1 = true := small_one (by decide) (by decide) (by omega) (by omega)
  have hn : Builtin.Range.rangeSize 0 b₀ 1 = ((b₀.toNat : Nat) : Int) := range_size hb0
  refine wpAny_pyIter_range hr hsmall ?_
  have W : Walks prog w A s.heap.objs.size [s.heap.objs.size] [s.heap.objs.size] b₀.toNat (fun i v => i < b₀.toNat ∧ ∃ t, v = .int (0 + i * 1) t)
      (fun i h => IsRangeIter h s.heap.objs.size (0 + (i : Nat) * 1) ((b₀.toNat : Int) - (i : Nat)) 1) := (Walks.range hh _ 0 1 b₀.toNat).bound
  refine loop_invN (LJ d b C oC rowN) W ?_ ?_ ?_ ?_ (by show IsRangeIter _ _ _ _ _; rw [hn]; simpa using Heap.get?_push_size _ rfl) (F.push _) (fun p hp => ⟨Heap.get?_push_of_some _ (N p hp).1, (N p hp).2⟩) ⟨σ₀, row₀, tr₀, rfl, ok, by omega, hm⟩ ?_ ?_
  · intro hm
    exact absurd F.ns.lt ((List.mem_singleton.mp hm) ▸ Nat.lt_irrefl _)
  · intro b hb
    rw [List.mem_singleton.mp hb]
    exact next_is_new F
  · intro p hp hI
    exact absurd (Heap.lt_size (N p hp).1) ((List.mem_singleton.mp hI) ▸ Nat.lt_irrefl _)
  · intro p hp hI
    exact absurd (Heap.lt_size (N p hp).1) ((List.mem_singleton.mp hI) ▸ Nat.lt_irrefl _)
  · rintro i v m₁ nx h tk own hi ⟨_, t, rfl⟩ _ hoff ⟨σ, row, tr, rfl, ok', hl', hm'⟩ F₁ N₁
    rw [map_row hm'] at F₁
    exact turn i _ t σ row tr m₁ h tk own (by omega) hl' ok' hoff F₁ N₁
  · rintro m₁ nx h tk ⟨σ, row, tr, rfl, ok', hl', hm'⟩ F₁ N₁
    rw [map_row1 hm'] at F₁
    exact done σ row tr m₁ h tk ok' F₁ N₁
theorem turn_end {L d b C : Addr} {oC : Obj} {rowN : PySem.Str} {i : Nat} {σ' : DSt} {row' : PySem.Str} {t' : Tok} {own news' : List (Addr × Obj)} {m' : PySem.Str → Option Value} {s₁ : Shared} {h' : Heap} {tk : Nat} (F : Fr h₀ L h' m') (N : News h₀ L h' news')
    (hd : (d, dObj b σ') ∈ news') (hb : (b, bObj σ') ∈ news') (hC : (C, oC) ∈ news') (ho : ∀ p ∈ own, p ∈ news') (ok : DOk σ') (hm : m' rowN = some (.str row' t')) (hl : row'.length ≤ 64 + 80 * (i + 1)) :
    InvEndN h₀ L (LJ d b C oC rowN (i + 1)) own [d, b, C] s₁ { s₁ with heap := h', toks := tk } :=
  InvEndN.intro (nx := [(d, dObj b σ'), (b, bObj σ'), (C, oC)]) F N ⟨σ', row', t', rfl, ok, hl, hm⟩ rfl (fun p hp => by
    simp only [List.mem_cons, List.not_mem_nil, or_false] at hp
    rcases hp with rfl | rfl | rfl <;> assumption) ho
end
end Mine
namespace Mine
open PySem PySem.W PyProof.Rows PySem.Calls
section
open LCg
variable {prog : Program} {w : World} {A : Around} {E : Value → Shared → Prop} {s : Shared} {h₀ : Heap} {L : Addr} {m : PySem.Str → Option Value} {env : Env}
abbrev DrawEnd (d b : Addr) (R : List (Addr × Obj)) (menu : List PySem.Str) (y : Value) (news' : List (Addr × Obj)) : Prop :=
  ∃ σ' z t', y = .str z t' ∧ z ∈ menu ∧ DOk σ' ∧ news' = (d, dObj b σ') :: (b, bObj σ') :: R
theorem comp_end {d b I C D : Addr} {oI oC oD : Obj} {R : List (Addr × Obj)} {menu : List PySem.Str} {σ' : DSt} {z : PySem.Str} {t' : Tok} {p₁ : Addr × Obj} {s₁ : Shared} {h' : Heap} {tk : Nat} (F : Fr h₀ L h' m) (N : News h₀ L h' ((d, dObj b σ') :: (b, bObj σ') :: p₁ :: (I, oI) :: (C, oC) :: (D, oD) :: R))
    (hoff : ∀ σ', Off3 I C D ((d, dObj b σ') :: (b, bObj σ') :: R)) (hz : z ∈ menu) (ok : DOk σ') : CompEnd h₀ L m s₁ I oI C oC D oD (fun _ => True) (DrawEnd d b R menu) (.str z t') { s₁ with heap := h', toks := tk } :=
  CompEnd.intro F N ((d, dObj b σ') :: (b, bObj σ') :: R) (fun p hp => by
    simp only [List.mem_cons] at hp ⊢
    rcases hp with rfl | rfl | rfl | rfl | rfl | hp <;> simp_all) (hoff σ') trivial ⟨σ', z, t', rfl, hz, ok, rfl⟩
theorem off3_any {I C D d b : Addr} {σ : DSt} {R : List (Addr × Obj)} (h : Off3 I C D ((d, dObj b σ) :: (b, bObj σ) :: R)) (σ' : DSt) : Off3 I C D ((d, dObj b σ') :: (b, bObj σ') :: R) := ⟨h.1, h.2.1, h.2.2⟩
theorem rest_menu {elt : PySem.Expr} {x : PySem.Str} {scope : Scope} {cl : List (PySem.Str × Addr)} {Fin : List Value → List (Addr × Obj) → Prop} {d b : Addr} {σ₀ : DSt} {R : List (Addr × Obj)} {n : Nat} {a : Int} (menu : List PySem.Str) (hB : menu.all (fun y => decide (y.length ≤ 8)) = true)
    (ok : DOk σ₀) (hRd : ∀ p ∈ R, p.1 ≠ d) (hRb : ∀ p ∈ R, p.1 ≠ b)
    (hstep : ∀ σ k t ys I oI C oC D m₂ h tk (E' : Value → Shared → Prop), DOk σ → NsObj oC m₂ → m₂ x = some (.int k t) → Fr h₀ L h m → News h₀ L h ((I, oI) :: (C, oC) :: (D, lst ys) :: (d, dObj b σ) :: (b, bObj σ) :: R) → (∀ σ', Off3 I C D ((d, dObj b σ') :: (b, bObj σ') :: R)) →
      (∀ p ∈ R, p.1 ≠ d) → (∀ p ∈ R, p.1 ≠ b) → (@Ne Nat I d) → (@Ne Nat I b) → (@Ne Nat C d) → (@Ne Nat C b) → (@Ne Nat D d) → (@Ne Nat D b) →
      wpAny (model prog w) A (eval elt (compEnvC scope cl C env)) (CompEnd h₀ L m { s with heap := h, toks := tk } I oI C oC D (lst ys) (fun _ => True) (DrawEnd d b R menu)) E' { s with heap := h, toks := tk })
    (hfin : ∀ σ ys zs, DOk σ → StrsAre ys zs → zs.length = n → (∀ z ∈ zs, z ∈ menu) → (∀ z ∈ zs, z.length ≤ 8) → Fin ys ((d, dObj b σ) :: (b, bObj σ) :: R)) :
    CompRest prog w A h₀ L m env elt x scope cl s (fun _ => True) (fun i v => ∃ t, v = .int (a + (i : Int)) t) Fin n 0 [] ((d, dObj b σ₀) :: (b, bObj σ₀) :: R) := by
  refine rest_ind (n := n) (fun i ys news' => ∃ σ zs, DOk σ ∧ StrsAre ys zs ∧ zs.length = i ∧ (∀ z ∈ zs, z ∈ menu) ∧ news' = (d, dObj b σ) :: (b, bObj σ) :: R) ?_ ?_ _ 0 [] _ (Nat.zero_add _) ⟨σ₀, [], ok, .nil, rfl, (fun _ h => nomatch h), rfl⟩
  · rintro i ys _ hlt ⟨σ, zs, ok', hys, hlen, hz, rfl⟩ v I oI C oC D m₂ h tk E' ⟨t, rfl⟩ hoC hx F N o ne
    have o1 := o.1
    have o2 := o.2.1
    refine wpAny_mono (hstep σ _ t ys I oI C oC D m₂ h tk E' ok' hoC hx F N (off3_any o) hRd hRb (Ne.symm o1.1) (Ne.symm o2.1) (Ne.symm o1.2.1) (Ne.symm o2.2.1) (Ne.symm o1.2.2) (Ne.symm o2.2.2)) (fun y s' h' => ?_) fun _ _ e => e
    refine CompEnd.mono (fun y n hh => ?_) h'
    obtain ⟨σ', z, t', rfl, hz', ok'', rfl⟩ := hh
    refine ⟨σ', zs ++ [z], ok'', kct_snoc hys, by simp [hlen], ?_, rfl⟩
    intro y hy
    rcases List.mem_append.mp hy with hy | hy
    · exact hz y hy
    · rw [List.mem_singleton.mp hy]; exact hz'
  · rintro ys _ ⟨σ, zs, ok', hys, hlen, hz, rfl⟩
    exact hfin σ ys zs ok' hys hlen hz fun z h => of_decide_eq_true (List.all_eq_true.mp hB z (hz z h))
end
def menuOf : PySem.Expr → List PySem.Str
  | .Subscript (.List es _) _ _ => es.filterMap fun | .Constant (.str x) _ _ => some x | _ => none
  | _ => []
section
variable {prog : Program} {w : World} {A : Around} {E : Value → Shared → Prop} {s : Shared} {h₀ : Heap} {L : Addr} {m : PySem.Str → Option Value}
theorem join_ws {D : Addr} {us : List Value} {ws : List PySem.Str} {x : PySem.Str} {t : Tok} {Q : Value → Shared → Prop} (hl : s.heap.IsList D us.toArray) (hi : StrsAre us ws) (hx : x.length ≤ 2) (hws : ws.length ≤ 8) (hwl : ∀ z ∈ ws, z.length ≤ 8)
    (h : ∀ t' k, (Txt.join x ws).length ≤ 80 → Q (.str (Txt.join x ws) t') { s with toks := k }) : wpAny (model prog w) A (call (.builtin "str.join") [.str x t, .ref D]) Q E s := by
  have hb : (ws.map (·.length)).sum ≤ ws.length * 8 := StrLaws.sumLen_le _ hwl
  refine join_listW hl (by simpa using hi) (by omega) (by omega) fun t' k => h t' k ?_
  show (Builtin.Str.glued x ws).length ≤ 80
  rw [StrLaws.glued_eq_join]
  have h3 := StrLaws.join_length_le x ws
  have h4 : ws.length * x.length ≤ ws.length * 2 := Nat.mul_le_mul_left _ hx
  omega
end
section
open PySem.SeqAt
variable {prog : Program} {w : World} {A : Around} {E : Value → Shared → Prop} {s : Shared} {h₀ : Heap} {L : Addr} {m : PySem.Str → Option Value} {news : List (Addr × Obj)}
theorem ne_tup_of {p q : Addr} {us vs : List Value} {Q : Value → Shared → Prop} (N : News h₀ L s.heap news) (h1 : (p, tupOf us) ∈ news) (h2 : (q, tupOf vs) ∈ news) (hlen : us.length = vs.length) (hu : A.units < cLine)
    (he : ∀ j (h1 : j < us.length) (h2 : j < vs.length), EqAt A.in1 s us[j] vs[j] true) (h : Q (.bool false) s) : wpAny (model prog w) A (compareOp .NotEq (.ref p) (.ref q)) Q E s := by
  have i1 : s.heap.IsTuple p us.toArray := ⟨_, (N _ h1).1, rfl, _, rfl⟩
  have i2 : s.heap.IsTuple q vs.toArray := ⟨_, (N _ h2).1, rfl, _, rfl⟩
  have r := RcNeAt.tuples (A := A) (e := fun _ => true) i1 i2 hu (fun j h1 h2 => by
    have := he j (by simpa using h1) (by simpa using h2)
    simpa using this)
  refine r prog w E Q ?_
  have e : (!((List.range (min us.toArray.size vs.toArray.size)).all (fun _ => true) && us.toArray.size == vs.toArray.size)) = false := by
    simp [hlen]
  rw [e]; exact h
theorem ne_tup_SS {p q : Addr} {x y : PySem.Str} {t1 t2 t3 t4 : Tok} {Q : Value → Shared → Prop} (N : News h₀ L s.heap news) (h1 : (p, tupOf [.str x t1, .str y t2]) ∈ news) (h2 : (q, tupOf [.str x t3, .str y t4]) ∈ news) (hu : A.units < cLine)
    (h : Q (.bool false) s) : wpAny (model prog w) A (compareOp .NotEq (.ref p) (.ref q)) Q E s :=
  ne_tup_of N h1 h2 rfl hu (fun j h1 h2 => by
    have hj : j = 0 ∨ j = 1 := by simp at h1; omega
    rcases hj with rfl | rfl
    · have := EqAt.str_str (A := A.in1) (s := s) x t1 x t3
      simpa using this
    · have := EqAt.str_str (A := A.in1) (s := s) y t2 y t4
      simpa using this) h
theorem ne_tup_SN {p q : Addr} {x : PySem.Str} {t1 t3 : Tok} {Q : Value → Shared → Prop} (N : News h₀ L s.heap news) (h1 : (p, tupOf [.str x t1, .none]) ∈ news) (h2 : (q, tupOf [.str x t3, .none]) ∈ news) (hu : A.units < cLine)
    (h : Q (.bool false) s) : wpAny (model prog w) A (compareOp .NotEq (.ref p) (.ref q)) Q E s :=
  ne_tup_of N h1 h2 rfl hu (fun j h1 h2 => by
    have hj : j = 0 ∨ j = 1 := by simp at h1; omega
    rcases hj with rfl | rfl
    · have := EqAt.str_str (A := A.in1) (s := s) x t1 x t3
      simpa using this
    · have := EqAt.same (A := A.in1) (s := s) .none
      simpa using this) h
theorem ne_strs_nil {l k : Addr} {vs : List Value} {ws : List PySem.Str} {Q : Value → Shared → Prop} (hl : s.heap.IsList l vs.toArray) (hi : StrsAre vs ws) (hk : s.heap.IsList k #[]) (hu : A.units < cLine)
    (h : Q (.bool (!decide (ws = []))) s) : wpAny (model prog w) A (compareOp .NotEq (.ref l) (.ref k)) Q E s := by
  cases hi with
  | nil =>
    have r := RcNeAt.lists (A := A) (e := fun _ => true) hl hk rfl hu (fun j h1 h2 => absurd h2 (by simp))
    exact r prog w E Q (by simpa using h)
  | cons y t r0 =>
    have r := RcNeAt.lists_lengths (A := A) hl hk (by simp) hu
    exact r prog w E Q (by simpa using h)
end
section
open LCg
variable {prog : Program} {w : World} {A : Around} {E : Value → Shared → Prop} {s : Shared} {h₀ : Heap} {L : Addr} {m : PySem.Str → Option Value} {env : Env}
theorem rest_menuE {elt : PySem.Expr} {x : PySem.Str} {scope : Scope} {cl : List (PySem.Str × Addr)} {Fin : List Value → List (Addr × Obj) → Prop} {d b : Addr} {σ₀ : DSt} {R : List (Addr × Obj)} {n : Nat} {a : Int} (hB : (menuOf elt).all (fun y => decide (y.length ≤ 8)) = true)
    (ok : DOk σ₀) (hRd : ∀ p ∈ R, p.1 ≠ d) (hRb : ∀ p ∈ R, p.1 ≠ b)
    (hstep : ∀ σ k t ys I oI C oC D m₂ h tk (E' : Value → Shared → Prop), DOk σ → NsObj oC m₂ → m₂ x = some (.int k t) → Fr h₀ L h m → News h₀ L h ((I, oI) :: (C, oC) :: (D, lst ys) :: (d, dObj b σ) :: (b, bObj σ) :: R) → (∀ σ', Off3 I C D ((d, dObj b σ') :: (b, bObj σ') :: R)) →
      (∀ p ∈ R, p.1 ≠ d) → (∀ p ∈ R, p.1 ≠ b) → (@Ne Nat I d) → (@Ne Nat I b) → (@Ne Nat C d) → (@Ne Nat C b) → (@Ne Nat D d) → (@Ne Nat D b) →
      wpAny (model prog w) A (eval elt (compEnvC scope cl C env)) (CompEnd h₀ L m { s with heap := h, toks := tk } I oI C oC D (lst ys) (fun _ => True) (DrawEnd d b R (menuOf elt))) E' { s with heap := h, toks := tk })
    (hfin : ∀ σ ys zs, DOk σ → StrsAre ys zs → zs.length = n → (∀ z ∈ zs, z ∈ menuOf elt) → (∀ z ∈ zs, z.length ≤ 8) → Fin ys ((d, dObj b σ) :: (b, bObj σ) :: R)) :
    CompRest prog w A h₀ L m env elt x scope cl s (fun _ => True) (fun i v => ∃ t, v = .int (a + (i : Int)) t) Fin n 0 [] ((d, dObj b σ₀) :: (b, bObj σ₀) :: R) := rest_menu (menuOf elt) hB ok hRd hRb hstep hfin
end
end Mine
namespace Mine
open PySem PySem.W PyProof.Rows PySem.Calls
section
variable {prog : Program} {w : World} {A : Around} {E : Value → Shared → Prop} {s : Shared} {h₀ : Heap} {L l : Addr} {m : PySem.Str → Option Value} {news : List (Addr × Obj)} {value slice : PySem.Expr} {us : List Value} {zs : List PySem.Str} {vl vu : Value} {Q : Value → Shared → Prop}
theorem pick_init (us : List Value) (h : 1 ≤ us.length) : slicePick us.toArray none (some (-1)) none = us.dropLast.toArray := by
  have e : sliceBounds none (some (-1)) none us.toArray.size = (((0 : Nat) : Int), ((us.length - 1 : Nat) : Int), 1) := by
    simp only [sliceBounds, Option.getD_none, show (1 : Int) > 0 by decide, if_true, if_pos (show ((-1 : Int) < 0) by decide), List.size_toArray]
    congr 1
    congr 1
    omega
  rw [kmk_pick_nat _ e, List.drop_zero, Nat.sub_zero, List.dropLast_eq_take]
theorem slice_init (F : Fr h₀ L s.heap m) (N : News h₀ L s.heap news) (hl : s.heap.IsList l us.toArray) (pl : IsPart vl none) (pu : IsPart vu (some (-1))) (hi : StrsAre us zs) (hne : 1 ≤ zs.length)
    (h : ∀ D h', Fr h₀ L h' m → News h₀ L h' ((D, listOf us.dropLast.toArray 0) :: news) → (∀ p ∈ news, p.1 < D) → StrsAre us.dropLast zs.dropLast → Q (.ref D) { s with heap := h' })
    (hs : subscripted slice false (.ref l) (.ref s.heap.objs.size) = operate [.ref s.heap.objs.size, .ref l] (getItem (.ref l) (.ref s.heap.objs.size))) (ht : ∀ r, letTemporaryGo value (.ref l) r = pure ()) (hz : zs.length ≤ 16) :
    wpAny (model prog w) A (subscriptTail value slice (.ref l) (.ref s.heap.objs.size)) Q E { s with heap := s.heap.push { cls := .type "slice", data := .fields #[vl, vu, .none] } } := by
  have hlen := hi.len_eq
  have hne' : zs ≠ [] := by intro e; rw [e] at hne; exact absurd hne (by decide)
  obtain ⟨t, h1, h2⟩ := strs_last hi hne'
  refine kmk_slice F N hl pl pu (fun D h' F' N' l1 => h D h' F' ?_ l1 h2) hs ht (by rw [PySem.sizeLine_eq, List.size_toArray]; omega)
  rw [← pick_init us (by omega)]
  exact N'
theorem last_len (zs : List PySem.Str) (h : ∀ z ∈ zs, z.length ≤ 8) : (zs.getLastD PySem.Str.empty).length ≤ 8 := by
  rw [List.getLastD_eq_getLast?]
  cases e : zs.getLast? with
  | none => decide
  | some z => exact h z (List.mem_of_getLast? e)
theorem item_last {u : Tok} (hl : s.heap.IsList l us.toArray) (hi : StrsAre us zs) (hne : 1 ≤ zs.length) (hwl : ∀ z ∈ zs, z.length ≤ 8) (h : ∀ t, (zs.getLastD PySem.Str.empty).length ≤ 8 → Q (.str (zs.getLastD PySem.Str.empty) t) s)
    (hs : subscripted slice false (.ref l) (.int (-1) u) = operate [.ref l, .int (-1) u] (getItem (.ref l) (.int (-1) u)) := by with_unfolding_all rfl) :
    wpAny (model prog w) A (subscriptTail value slice (.ref l) (.int (-1) u)) Q E s := by
  refine item_strs_negR hl hi (by decide) (by omega) (by decide) (fun t => ?_) hs
  have e : zs.getD ((-1 : Int) + (zs.length : Int)).toNat PySem.Str.empty = zs.getLastD PySem.Str.empty := by
    rw [show ((-1 : Int) + (zs.length : Int)).toNat = zs.length - 1 by omega, List.getD_eq_getElem?_getD, List.getLastD_eq_getLast?, List.getLast?_eq_getElem?]
  rw [e]
  exact h t (last_len zs hwl)
theorem join_init {x : PySem.Str} {t : Tok} (hl : s.heap.IsList l us.dropLast.toArray) (hi : StrsAre us.dropLast zs.dropLast) (hx : x.length ≤ 2) (hws : zs.length ≤ 8) (hwl : ∀ z ∈ zs, z.length ≤ 8)
    (h : ∀ t' k, (Txt.join x zs.dropLast).length ≤ 80 → Q (.str (Txt.join x zs.dropLast) t') { s with toks := k }) : wpAny (model prog w) A (call (.builtin "str.join") [.str x t, .ref l]) Q E s :=
  join_ws hl hi hx (by rw [List.length_dropLast]; omega) (fun z hz => hwl z (List.dropLast_subset _ hz)) h
end
end Mine
namespace Mine
open PySem PySem.W PyProof.Rows PySem.Calls
section
open LCg LCt
variable {prog : Program} {w : World} {A : Around} {E : Value → Shared → Prop} {s : Shared} {h₀ : Heap} {L : Addr} {m : PySem.Str → Option Value} {env : Env}
def SrcTx (prog : Program) (w : World) (A : Around) (h₀ : Heap) (L : Addr) (m : PySem.Str → Option Value) (env : Env) (ct elt : PySem.Expr) (x : PySem.Str) (scope : Scope) (cl : List (PySem.Str × Addr)) (Fin : Shared → List Value → List (Addr × Obj) → Prop) (xv : Value) (s₁ : Shared) : Prop :=
  ∃ tx t news, xv = .str tx t ∧ A.handled = none ∧ Fr h₀ L s₁.heap m ∧ News h₀ L s₁.heap news ∧ tx.cps.size ≤ sizeLine ∧
    ∀ s₂ : Shared, (∃ h, s₂ = { s₁ with heap := h }) → CompRestT prog w A h₀ L m env ct elt x scope cl s₂ (fun _ => True) (SignAt tx) (Fin s₂) tx.cps.size 0 [] news
theorem SrcTx.intro {ct elt : PySem.Expr} {x : PySem.Str} {scope : Scope} {cl : List (PySem.Str × Addr)} {Fin : Shared → List Value → List (Addr × Obj) → Prop} {tx : PySem.Str} {t : Tok} {news : List (Addr × Obj)} {s₁ : Shared}
    (hh : A.handled = none) (F : Fr h₀ L s₁.heap m) (N : News h₀ L s₁.heap news) (hsz : tx.length ≤ 4096)
    (h : ∀ g, CompRestT prog w A h₀ L m env ct elt x scope cl { s₁ with heap := g } (fun _ => True) (SignAt tx) (Fin { s₁ with heap := g }) tx.cps.size 0 [] news) :
    SrcTx prog w A h₀ L m env ct elt x scope cl Fin (.str tx t) s₁ := ⟨tx, t, news, rfl, hh, F, N, by rw [PySem.sizeLine_eq]; show tx.length ≤ _; omega, fun _ ⟨g, e⟩ => e ▸ h g⟩
theorem ListComp_Tx {ct elt iter : PySem.Expr} {x : PySem.Str} {px : Pos} {scope : Scope} {cl : List (PySem.Str × Addr)} {pos : Pos} {Q : Value → Shared → Prop} (F₀ : Fr h₀ L s.heap m)
    (hclos : closureFor scope env = pure cl) (hcell : ∀ y ∈ scope.names, y.2 ≠ .cell) (hkind : scope.kind = .function)
    (hnames : ∀ y ∈ scope.names, y.2 = .local → scope.names.lookup y.1 = some .local) (hx : scope.names.lookup x = some .local)
    (h : wpAny (model prog w) A (eval iter env) (SrcTx prog w A h₀ L m env ct elt x scope cl (fun s₂ => FinE h₀ L m s₂ Q)) E s)
    (hs : ∀ x, foldedSetIterable iter env x = pure x := by intro _; rfl) :
    wpAny (model prog w) A (eval (.ListComp elt [⟨.Name x px, iter, [ct], 0⟩] scope pos) env) Q E s := by
  rw [eval_ListComp]
  refine wpAny_comprehension_free (use := none) rfl hs hclos hkind hnames (wpAny_mono h (fun xv s₁ h₁ => ?_) fun _ _ e => e)
  obtain ⟨tx, t, news, rfl, hh, F, N, hsz, R⟩ := h₁
  cases ha : tx.cps.all (· < 128)
  · refine wpAny_pyIter_wide ha ?_
    refine block_T (Walks.strWide hh _ tx t) hsz (fun i h st => by obtain ⟨o, e, _⟩ := st; exact ⟨o, e⟩) (fun i h h' o nw st e e' _ _ _ => by obtain ⟨o', q, r⟩ := st; rw [e] at q; cases q; exact ⟨o, e', r⟩) hcell hkind hx ⟨_, Heap.get?_push_size _ rfl, rfl, rfl⟩ (fun b hb => ?_)
      (F.keeps fun _ _ e => Heap.get?_push_of_some _ e) (N.grown fun _ _ e => Heap.get?_push_of_some _ e) (Nat.ne_of_lt F.ns.lt) (next_is_new F) (fun p hp => Nat.ne_of_lt (Heap.lt_size (N p hp).1)) trivial (R _ ⟨_, rfl⟩) ?_
    · rw [List.mem_singleton.mp hb]
      show s₁.heap.objs.size < (s₁.heap.push _).objs.size
      rw [Heap.size_push]; exact Nat.lt_succ_self _
    · intro D C h tk m' ys news' F' N' o1 hn hC₀ hD₀ hCL hDL hCD offC fin
      refine ⟨m', hn, fun h'' hs'' => fin D h'' tk (F'.change hs'' hCL hC₀) (fun p hp => ?_) o1⟩
      refine ⟨hs''.extBut _ _ ?_ (N' p hp).1, (N' p hp).2⟩
      rcases List.mem_cons.mp hp with rfl | hp
      · exact Ne.symm hCD
      · exact offC p hp
  · refine wpAny_pyIter_ascii ha ?_
    refine block_T (Walks.strAscii hh _ tx t) hsz (fun i h st => by obtain ⟨o, e, _⟩ := st; exact ⟨o, e⟩) (fun i h h' o nw st e e' _ _ _ => by obtain ⟨o', q, r⟩ := st; rw [e] at q; cases q; exact ⟨o, e', r⟩) hcell hkind hx ⟨_, Heap.get?_push_size _ rfl, rfl, rfl⟩ (fun b hb => ?_)
      (F.keeps fun _ _ e => Heap.get?_push_of_some _ e) (N.grown fun _ _ e => Heap.get?_push_of_some _ e) (Nat.ne_of_lt F.ns.lt) (next_is_new F) (fun p hp => Nat.ne_of_lt (Heap.lt_size (N p hp).1)) trivial (R _ ⟨_, rfl⟩) ?_
    · rw [List.mem_singleton.mp hb]
      show s₁.heap.objs.size < (s₁.heap.push _).objs.size
      rw [Heap.size_push]; exact Nat.lt_succ_self _
    · intro D C h tk m' ys news' F' N' o1 hn hC₀ hD₀ hCL hDL hCD offC fin
      refine ⟨m', hn, fun h'' hs'' => fin D h'' tk (F'.change hs'' hCL hC₀) (fun p hp => ?_) o1⟩
      refine ⟨hs''.extBut _ _ ?_ (N' p hp).1, (N' p hp).2⟩
      rcases List.mem_cons.mp hp with rfl | hp
      · exact Ne.symm hCD
      · exact offC p hp
abbrev one (c : Nat) : PySem.Str := ⟨#[c]⟩
/-- the turns of a comprehension over the letters of a text, with a test -/
theorem rest_letters {ct elt : PySem.Expr} {x : PySem.Str} {scope : Scope} {cl : List (PySem.Str × Addr)} {Fin : List Value → List (Addr × Obj) → Prop} {tx : PySem.Str} {news : List (Addr × Obj)} (f : Nat → Bool)
    (turn : ∀ c t ys I oI C oC D m₂ h tk (E' : Value → Shared → Prop), NsObj oC m₂ → m₂ x = some (.str (one c) t) → Fr h₀ L h m → News h₀ L h ((I, oI) :: (C, oC) :: (D, lst ys) :: news) → Off3 I C D news → ((@Ne Nat I C) ∧ (@Ne Nat I D) ∧ (@Ne Nat C D)) →
      wpAny (model prog w) A (isTrue ct (compEnvC scope cl C env) (eval ct (compEnvC scope cl C env))) (fun ok s' => if ok = true then
        wpAny (model prog w) A (eval elt (compEnvC scope cl C env)) (CompEnd h₀ L m { s with heap := h, toks := tk } I oI C oC D (lst ys) (fun _ => True) (fun y news' => news' = news ∧ f c = true ∧ ∃ t', y = .str (one c) t')) E' s'
        else CompEnd h₀ L m { s with heap := h, toks := tk } I oI C oC D (lst ys) (fun _ => True) (fun _ news' => news' = news ∧ f c = false) Value.none s') E' { s with heap := h, toks := tk })
    (fin : ∀ ys, StrsAre ys ((tx.cps.toList.filter f).map one) → Fin ys news) :
    CompRestT prog w A h₀ L m env ct elt x scope cl s (fun _ => True) (SignAt tx) Fin tx.cps.size 0 [] news := by
  have key : ∀ (j i : Nat) (ys : List Value), i + j = tx.cps.size → StrsAre ys (((tx.cps.toList.take i).filter f).map one) → CompRestT prog w A h₀ L m env ct elt x scope cl s (fun _ => True) (SignAt tx) Fin j i ys news := by
    intro j
    induction j with
    | zero =>
      intro i ys hi hy
      have e : i = tx.cps.toList.length := by rw [Array.length_toList]; omega
      subst e
      rw [List.take_length] at hy
      exact CompRestT.zero (fin ys hy)
    | succ j ih =>
      intro i ys hi hy
      refine CompRestT.succ ?_
      rintro v I oI C oC D m₂ h tk E' ⟨c, t, hc, rfl⟩ hC hx F N off ne
      have hs : (tx.cps.toList.take (i + 1)).filter f = (tx.cps.toList.take i).filter f ++ (if f c = true then [c] else []) := by
        have hc' : tx.cps.toList[i]? = some c := by simpa using hc
        rw [List.take_add_one, hc', List.filter_append]
        cases hf : f c <;> simp [hf]
      refine wpAny_mono (turn c t ys I oI C oC D m₂ h tk E' hC hx F N off ne) (fun b s₂ hq => ?_) fun _ _ e => e
      cases b with
      | true =>
        simp only [if_true] at hq ⊢
        refine wpAny_mono hq (fun y s₃ hr => ?_) fun _ _ e => e
        refine CompEnd.mono (fun y n hh => ?_) hr
        obtain ⟨rfl, hf, t', rfl⟩ := hh
        refine ih (i + 1) _ (by omega) ?_
        rw [hs, if_pos hf, List.map_append]
        exact kct_snoc hy
      | false =>
        simp only [Bool.false_eq_true, if_false] at hq ⊢
        refine CompEnd.mono (fun y n hh => ?_) hq
        obtain ⟨rfl, hf⟩ := hh
        refine ih (i + 1) _ (by omega) ?_
        rw [hs, hf, List.map_append]
        simpa using hy
  exact key _ 0 [] (by omega) (by simpa using StrsAre.nil)
end
end Mine
namespace Mine
open PySem PySem.W PyProof.Rows
theorem app_inj {c : Nat} : ∀ {a b r t : List Nat}, c ∉ a → c ∉ b → a ++ c :: r = b ++ c :: t → a = b ∧ r = t
  | [], [], _, _, _, _, h => ⟨rfl, (List.cons.inj h).2⟩
  | [], d :: b, _, _, _, hb, h => absurd (by rw [(List.cons.inj h).1]; exact List.mem_cons_self ..) hb
  | d :: a, [], _, _, ha, _, h => absurd (by rw [← (List.cons.inj h).1]; exact List.mem_cons_self ..) ha
  | d :: a, e :: b, r, t, ha, hb, h => by
    obtain ⟨h1, h2⟩ := List.cons.inj h
    obtain ⟨h3, h4⟩ := app_inj (fun m => ha (List.mem_cons_of_mem _ m)) (fun m => hb (List.mem_cons_of_mem _ m)) h2
    exact ⟨by rw [h1, h3], h4⟩
theorem join_cons_list (c : Nat) (x y : PySem.Str) (r : List PySem.Str) : (PySem.Str.join ⟨#[c]⟩ (x :: y :: r)).cps.toList = x.cps.toList ++ c :: (PySem.Str.join ⟨#[c]⟩ (y :: r)).cps.toList := by
  show (x ++ ⟨#[c]⟩ ++ PySem.Str.join ⟨#[c]⟩ (y :: r)).cps.toList = _
  simp [PySem.Str.cps_append]
theorem join_inj {c : Nat} : ∀ {as bs : List PySem.Str}, as ≠ [] → bs ≠ [] → (∀ p ∈ as, c ∉ p.cps.toList) → (∀ p ∈ bs, c ∉ p.cps.toList) → (PySem.Str.join ⟨#[c]⟩ as).cps.toList = (PySem.Str.join ⟨#[c]⟩ bs).cps.toList → as = bs
  | [], _, h, _, _, _, _ => absurd rfl h
  | _ :: _, [], _, h, _, _, _ => absurd rfl h
  | [x], [y], _, _, _, _, h => by rw [PySem.Str.ext' (Array.ext' h : x.cps = y.cps)]
  | [x], y :: z :: r, _, _, ha, _, h => by
    rw [join_cons_list] at h
    exact absurd (by show c ∈ x.cps.toList; rw [show x.cps.toList = _ from h]; simp) (ha x (List.mem_cons_self ..))
  | x :: z :: r, [y], _, _, _, hb, h => by
    rw [join_cons_list] at h
    exact absurd (by show c ∈ y.cps.toList; rw [show y.cps.toList = _ from h.symm]; simp) (hb y (List.mem_cons_self ..))
  | x :: z :: r, y :: z' :: r', _, _, ha, hb, h => by
    rw [join_cons_list, join_cons_list] at h
    obtain ⟨h1, h2⟩ := app_inj (ha x (List.mem_cons_self ..)) (hb y (List.mem_cons_self ..)) h
    rw [PySem.Str.ext' (Array.ext' h1 : x.cps = y.cps), join_inj (by simp) (by simp) (fun p m => ha p (List.mem_cons_of_mem _ m)) (fun p m => hb p (List.mem_cons_of_mem _ m)) h2]
theorem split_join {c : Nat} {zs : List PySem.Str} (hne : zs ≠ []) (h : ∀ p ∈ zs, c ∉ p.cps.toList) : Txt.split (PySem.Str.join ⟨#[c]⟩ zs) ⟨#[c]⟩ = zs :=
  join_inj (split_ne _ _) hne (StrLaws.split_free _ c) h (by rw [StrLaws.join_split])
section
open Builtin Builtin.Str PySem.StrLaws
theorem occ_once (x y : PySem.Str) (hw : 1 ≤ y.length) (k : Nat) (hk : At x y x.length k) (hu : ∀ i, At x y x.length i → i = k) : occurrences x y 0 x.length (x.length + 1) = [k] := by
  obtain ⟨f, hG, hn⟩ := occ_tight x y hw
  cases ho : occurrences x y 0 x.length (x.length + 1) with
  | nil =>
    rw [ho] at hG
    have e : f = 0 := hG
    exact absurd hk (hn k (by omega))
  | cons d r =>
    rw [ho] at hG
    have hd := hu d hG.2.1
    cases r with
    | nil => rw [hd]
    | cons e r' =>
      have h2 := hG.2.2.2
      have he := hu e h2.2.1
      have := h2.1
      omega
theorem replace_at (x y z : PySem.Str) (hw : 1 ≤ y.length) (k : Nat) (hk : At x y x.length k) (hu : ∀ i, At x y x.length i → i = k) : Txt.replace x y z = strSub x 0 k ++ z ++ strSub x (k + y.length) x.length := by
  unfold Txt.replace
  have h0 : (y.length == 0) = false := by simp; omega
  rw [occ_once x y hw k hk hu, h0, if_neg (by simp), glued_eq_join]
  rfl
theorem pos_once {c : Nat} {a p q b : List Nat} (ha : c ∉ a) (hp : c ∉ p) (hq : c ∉ q) (hb : c ∉ b) {n : Nat} (h : (a ++ (p ++ c :: q) ++ b)[n]? = some c) : n = a.length + p.length := by
  have e : a ++ (p ++ c :: q) ++ b = (a ++ p) ++ c :: (q ++ b) := by simp
  rw [e] at h
  have h1 : c ∉ a ++ p := by simp [ha, hp]
  have h2 : c ∉ q ++ b := by simp [hq, hb]
  by_cases hn : n < (a ++ p).length
  · rw [List.getElem?_append_left hn] at h
    exact absurd (List.mem_of_getElem? h) h1
  · rw [List.getElem?_append_right (by omega)] at h
    cases hm : n - (a ++ p).length with
    | zero => simp at hm hn; omega
    | succ j =>
      rw [hm] at h
      exact absurd (List.mem_of_getElem? (by simpa using h)) h2
theorem lapp (a b : PySem.Str) : (a ++ b).cps.toList = a.cps.toList ++ b.cps.toList := by simp [PySem.Str.cps_append]
theorem llen (a : PySem.Str) : a.length = a.cps.toList.length := by simp [PySem.Str.length]
theorem replace_mid {a y b z : PySem.Str} {c : Nat} {p q : List Nat} (hy : y.cps.toList = p ++ c :: q) (ha : c ∉ a.cps.toList) (hp : c ∉ p) (hq : c ∉ q) (hb : c ∉ b.cps.toList) : Txt.replace (a ++ y ++ b) y z = a ++ z ++ b := by
  have hl : (a ++ y ++ b).cps.toList = a.cps.toList ++ (p ++ c :: q) ++ b.cps.toList := by rw [lapp, lapp, hy]
  have hw : 1 ≤ y.length := by rw [llen, hy]; simp; omega
  have hx : (a ++ y ++ b).length = a.length + y.length + b.length := by simp only [llen, lapp, List.length_append]
  have hk : At (a ++ y ++ b) y (a ++ y ++ b).length a.length := by
    refine ⟨by omega, ?_⟩
    rw [subAt_eq, lapp, lapp, llen a, llen y, List.append_assoc, List.drop_left, List.take_left]
    exact beq_self_eq_true _
  rw [replace_at _ y z hw a.length hk ?_]
  · have e1 : strSub (a ++ y ++ b) 0 a.length = a := by
      refine PySem.Str.ext' (Array.ext' ?_)
      rw [strSub_toList, lapp, lapp, llen a, List.append_assoc, List.drop_zero, Nat.sub_zero, List.take_left]
    have e2 : strSub (a ++ y ++ b) (a.length + y.length) (a ++ y ++ b).length = b := by
      refine PySem.Str.ext' (Array.ext' ?_)
      rw [strSub_toList, hx, lapp, lapp, llen a, llen y, llen b, ← List.length_append, List.drop_left]
      refine List.take_of_length_le ?_
      simp
    rw [e1, e2]
  · intro i hi
    have h2 := hi.2
    rw [subAt_eq] at h2
    have h3 := eq_of_beq h2
    have h4 : (((a ++ y ++ b).cps.toList.drop i).take y.length)[p.length]? = some c := by rw [h3, hy]; simp
    have hlt : p.length < y.length := by rw [llen, hy]; simp
    rw [List.getElem?_take_of_lt hlt, List.getElem?_drop, hl] at h4
    have h5 := pos_once ha hp hq hb h4
    rw [llen a]
    omega
theorem starts_no {x y : PySem.Str} {c : Nat} (hy : c ∈ y.cps.toList) (hx : c ∉ x.cps.toList) : Txt.startswith x y = false := by
  cases h : Txt.startswith x y with
  | false => rfl
  | true =>
    unfold Txt.startswith at h
    have h2 := (Bool.and_eq_true_iff.mp h).2
    rw [subAt_eq, List.drop_zero] at h2
    have h3 := eq_of_beq h2
    exact absurd (List.mem_of_mem_take (by rw [h3]; exact hy)) hx
theorem starts_yes (y r : PySem.Str) : Txt.startswith (y ++ r) y = true := by
  unfold Txt.startswith
  refine Bool.and_eq_true_iff.mpr ⟨decide_eq_true (by rw [llen, llen, lapp, List.length_append]; omega), ?_⟩
  rw [subAt_eq, List.drop_zero, lapp, llen y, List.take_left]
  exact beq_self_eq_true _
theorem strip_pad {x y : PySem.Str} (hy : ∀ e ∈ y.cps.toList, Unicode.isSpace e = true) {c d : Nat} {r r' : List Nat} (hc : x.cps.toList = c :: r) (hcs : Unicode.isSpace c = false) (hd : x.cps.toList.reverse = d :: r') (hds : Unicode.isSpace d = false) : Txt.strip (y ++ x ++ y) = x := by
  have hl : (y ++ x ++ y).cps.toList = y.cps.toList ++ (x.cps.toList ++ y.cps.toList) := by rw [lapp, lapp, List.append_assoc]
  have lo : stripLo Unicode.isSpace true (y ++ x ++ y) = y.cps.toList.length := by
    simp only [stripLo, if_true]
    rw [hl, List.takeWhile_append_of_pos hy, hc]
    simp [List.takeWhile_cons, hcs]
  have hi : stripHi Unicode.isSpace true (y ++ x ++ y) y.cps.toList.length = y.cps.toList.length + x.cps.toList.length := by
    simp only [stripHi, if_true]
    rw [hl, List.drop_left, List.reverse_append, List.takeWhile_append_of_pos (fun e he => hy e (List.mem_reverse.mp he)), hd, llen, hl]
    simp [List.takeWhile_cons, hds]
    omega
  unfold Txt.strip
  rw [PyProof.Rows.stripBy_eq, lo, hi]
  refine PySem.Str.ext' (Array.ext' ?_)
  rw [strSub_toList, hl, List.drop_left, Nat.add_sub_cancel_left, List.take_left]
end
end Mine
namespace Mine
open PySem PySem.W PyProof.Rows
theorem join_mem {c : Nat} : ∀ {zs : List PySem.Str} {e : Nat}, e ∈ (PySem.Str.join ⟨#[c]⟩ zs).cps.toList → e = c ∨ ∃ z ∈ zs, e ∈ z.cps.toList
  | [], e, h => absurd h (by simp [PySem.Str.join, PySem.Str.empty])
  | [x], e, h => .inr ⟨x, List.mem_cons_self .., h⟩
  | x :: y :: r, e, h => by
    rw [join_cons_list] at h
    rcases List.mem_append.mp h with h | h
    · exact .inr ⟨x, List.mem_cons_self .., h⟩
    · rcases List.mem_cons.mp h with h | h
      · exact .inl h
      · rcases join_mem h with h | ⟨z, hz, h⟩
        · exact .inl h
        · exact .inr ⟨z, List.mem_cons_of_mem _ hz, h⟩
theorem join_last {c : Nat} : ∀ {zs : List PySem.Str}, 2 ≤ zs.length → PySem.Str.join ⟨#[c]⟩ zs = PySem.Str.join ⟨#[c]⟩ zs.dropLast ++ ⟨#[c]⟩ ++ zs.getLastD PySem.Str.empty
  | [], h => absurd h (by decide)
  | [_], h => absurd h (by simp)
  | [x, y], _ => rfl
  | x :: y :: z :: r, _ => by
    have ih := join_last (c := c) (zs := y :: z :: r) (by simp)
    show x ++ ⟨#[c]⟩ ++ PySem.Str.join ⟨#[c]⟩ (y :: z :: r) = x ++ ⟨#[c]⟩ ++ PySem.Str.join ⟨#[c]⟩ (y :: (z :: r).dropLast) ++ ⟨#[c]⟩ ++ (z :: r).getLastD PySem.Str.empty
    rw [ih]
    simp only [PySem.Str.append_assoc]
    rfl
end Mine
namespace Mine
open PySem PySem.W PyProof.Rows
def okC : List Nat := [97, 98, 49, 95, 99, 68, 100]
def partsM : List PySem.Str := [PySem.Str.ofString "a", PySem.Str.ofString "b1", PySem.Str.ofString "_c", PySem.Str.ofString "Dd"]
def blanksM : List PySem.Str := [PySem.Str.ofString "", PySem.Str.ofString " ", PySem.Str.ofString "\n"]
theorem part_ok : ∀ z ∈ partsM, z.cps.toList ≠ [] ∧ ∀ e ∈ z.cps.toList, e ∈ okC := by decide +kernel
theorem blank_ok : ∀ y ∈ blanksM, ∀ e ∈ y.cps.toList, Unicode.isSpace e = true := by decide +kernel
theorem ok_space : ∀ e ∈ 46 :: okC, Unicode.isSpace e = false := by decide +kernel
theorem J_mem {zs : List PySem.Str} (h : ∀ z ∈ zs, z ∈ partsM) : ∀ e ∈ (PySem.Str.join ⟨#[46]⟩ zs).cps.toList, e ∈ 46 :: okC := fun e he => by
  rcases join_mem he with h1 | ⟨z, hz, h1⟩
  · rw [h1]; exact List.mem_cons_self ..
  · exact List.mem_cons_of_mem _ ((part_ok z (h z hz)).2 e h1)
theorem J_ne {zs : List PySem.Str} (h : ∀ z ∈ zs, z ∈ partsM) (hne : zs ≠ []) : (PySem.Str.join ⟨#[46]⟩ zs).cps.toList ≠ [] := by
  cases zs with
  | nil => exact absurd rfl hne
  | cons x r =>
    cases r with
    | nil => exact (part_ok x (h x (List.mem_cons_self ..))).1
    | cons y r =>
      rw [join_cons_list]
      simp
theorem strip_of {y t pre : PySem.Str} (hy : y ∈ blanksM) (ht : t.cps.toList ≠ []) (hok : ∀ e ∈ t.cps.toList, e ∈ 46 :: okC) (hp : pre.cps.toList = [] ∨ ∃ c r, pre.cps.toList = c :: r ∧ Unicode.isSpace c = false) : Txt.strip (y ++ (pre ++ t) ++ y) = pre ++ t := by
  obtain ⟨c, r, hc⟩ := List.exists_cons_of_ne_nil ht
  obtain ⟨d, r', hd⟩ := List.exists_cons_of_ne_nil (fun e => ht (List.reverse_eq_nil_iff.mp e) : t.cps.toList.reverse ≠ [])
  have hds : Unicode.isSpace d = false := ok_space d (hok d (List.mem_reverse.mp (by rw [hd]; exact List.mem_cons_self ..)))
  have hrev : (pre ++ t).cps.toList.reverse = d :: (r' ++ pre.cps.toList.reverse) := by rw [lapp, List.reverse_append, hd]; rfl
  rcases hp with hp | ⟨c', r₂, hp, hs⟩
  · exact strip_pad (blank_ok y hy) (c := c) (r := r) (by rw [lapp, hp, hc]; rfl) (ok_space c (hok c (by rw [hc]; exact List.mem_cons_self ..))) hrev hds
  · exact strip_pad (blank_ok y hy) (c := c') (r := r₂ ++ t.cps.toList) (by rw [lapp, hp]; rfl) hs hrev hds
end Mine
namespace Mine
open PySem PySem.W PyProof.Rows
abbrev J (zs : List PySem.Str) : PySem.Str := Txt.join (PySem.Str.ofString ".") zs
theorem J_eq (zs : List PySem.Str) : J zs = PySem.Str.join ⟨#[46]⟩ zs := StrLaws.glued_eq_join _ zs
theorem sp_J {zs : List PySem.Str} (h : ∀ z ∈ zs, z ∈ partsM) {e : Nat} (he : e ∉ 46 :: okC) : e ∉ (J zs).cps.toList := by
  rw [J_eq]; exact fun hm => he (J_mem h e hm)
theorem strip_J {zs : List PySem.Str} {y : PySem.Str} (h : ∀ z ∈ zs, z ∈ partsM) (hne : zs ≠ []) (hy : y ∈ blanksM) : Txt.strip (y ++ J zs ++ y) = J zs := by
  have e := strip_of (t := J zs) (pre := PySem.Str.empty) hy (by rw [J_eq]; exact J_ne h hne) (by rw [J_eq]; exact J_mem h) (.inl rfl)
  rwa [PySem.Str.empty_append] at e
theorem simp_J {zs : List PySem.Str} {y : PySem.Str} (h : ∀ z ∈ zs, z ∈ partsM) (hne : zs ≠ []) (hy : y ∈ blanksM) : simpText (y ++ J zs ++ y) = J zs := by
  unfold simpText
  rw [strip_J h hne hy, starts_no (c := 32) (by decide +kernel) (sp_J h (by decide)), starts_no (c := 32) (by decide +kernel) (sp_J h (by decide))]
  rfl
theorem free46 {zs : List PySem.Str} (h : ∀ z ∈ zs, z ∈ partsM) : ∀ p ∈ zs, 46 ∉ p.cps.toList := fun p hp m => absurd ((part_ok p (h p hp)).2 46 m) (by decide)
theorem dot_J (zs : List PySem.Str) (h : ∀ z ∈ zs, z ∈ partsM) : (!(Builtin.Str.occurrences (J zs) (PySem.Str.ofString ".") 0 (J zs).length 1).isEmpty) = decide (46 ∈ (J zs).cps.toList) := StrLaws.found_one (J zs) 46
theorem nat_J {zs : List PySem.Str} {y : PySem.Str} (h : ∀ z ∈ zs, z ∈ partsM) (h2 : 2 ≤ zs.length) (hy : y ∈ blanksM) : natText (y ++ J zs ++ y) = PySem.Str.ofString "from " ++ J zs.dropLast ++ PySem.Str.ofString " \x69mport " ++ zs.getLastD PySem.Str.empty := by
  have hne : zs ≠ [] := by intro e; rw [e] at h2; exact absurd h2 (by decide)
  unfold natText
  rw [strip_J h hne hy, starts_no (c := 32) (by decide +kernel) (sp_J h (by decide)), starts_no (c := 32) (by decide +kernel) (sp_J h (by decide))]
  have hd : 46 ∈ (J zs).cps.toList := by
    rw [J_eq]
    match zs, h2 with
    | a :: b :: r, _ => rw [join_cons_list]; simp
  have hi : (Builtin.Str.occurrences (J zs) (PySem.Str.ofString ".") 0 (J zs).length 1).isEmpty = false := by
    have e := dot_J zs h
    rw [decide_eq_true hd] at e
    simpa using e
  rw [hi]
  have hs : Txt.split (J zs) (PySem.Str.ofString ".") = zs := by
    rw [J_eq]; exact split_join hne (free46 h)
  rw [hs, if_neg (by decide), if_neg (by decide), if_neg (by decide), PySem.Str.empty_append]
theorem nat_J1 {z : PySem.Str} {y : PySem.Str} (h : z ∈ partsM) (hy : y ∈ blanksM) : natText (y ++ J [z] ++ y) = PySem.Str.ofString "\x69mport " ++ J [z] := by
  have h' : ∀ a ∈ [z], a ∈ partsM := fun a ha => by rw [List.mem_singleton.mp ha]; exact h
  unfold natText
  rw [strip_J h' (by simp) hy, starts_no (c := 32) (by decide +kernel) (sp_J h' (by decide)), starts_no (c := 32) (by decide +kernel) (sp_J h' (by decide))]
  have hd : 46 ∉ (J [z]).cps.toList := by rw [J_eq]; exact free46 h' z (List.mem_singleton.mpr rfl)
  have hi : (Builtin.Str.occurrences (J [z]) (PySem.Str.ofString ".") 0 (J [z]).length 1).isEmpty = true := by
    have e := dot_J [z] h'
    rw [decide_eq_false hd] at e
    simpa using e
  rw [hi, if_neg (by decide), if_neg (by decide), if_pos rfl, PySem.Str.empty_append]
/-- the natural text of one part -/
theorem strip_N1 {z y : PySem.Str} (h : z ∈ partsM) (hy : y ∈ blanksM) : Txt.strip (y ++ (PySem.Str.ofString "\x69mport " ++ J [z]) ++ y) = PySem.Str.ofString "\x69mport " ++ J [z] := by
  have h' : ∀ a ∈ [z], a ∈ partsM := fun a ha => by rw [List.mem_singleton.mp ha]; exact h
  exact strip_of hy (by rw [J_eq]; exact J_ne h' (by simp)) (by rw [J_eq]; exact J_mem h') (.inr ⟨105, [109, 112, 111, 114, 116, 32], by decide +kernel, by decide +kernel⟩)
theorem not_from (x : PySem.Str) : Txt.startswith (PySem.Str.ofString "\x69mport " ++ x) (PySem.Str.ofString "from ") = false := by
  unfold Txt.startswith
  rw [StrLaws.subAt_eq, lapp, List.drop_zero]
  refine Bool.and_eq_false_iff.mpr (.inr ?_)
  rfl
theorem simp_imp {zs : List PySem.Str} (h : ∀ z ∈ zs, z ∈ partsM) : Txt.replace (PySem.Str.ofString "\x69mport " ++ J zs) (PySem.Str.ofString "\x69mport ") (PySem.Str.ofString "") = J zs := by
  have e := replace_mid (a := PySem.Str.empty) (y := PySem.Str.ofString "\x69mport ") (b := J zs) (z := PySem.Str.ofString "") (c := 105) (p := []) (q := [109, 112, 111, 114, 116, 32]) (by decide +kernel) (by simp [PySem.Str.empty]) (by simp) (by decide) (sp_J h (by decide))
  rw [PySem.Str.empty_append] at e
  rw [e]
  show PySem.Str.empty ++ PySem.Str.empty ++ J zs = J zs
  rw [PySem.Str.empty_append, PySem.Str.empty_append]
theorem nat_N1 {z y : PySem.Str} (h : z ∈ partsM) (hy : y ∈ blanksM) : natText (y ++ (PySem.Str.ofString "\x69mport " ++ J [z]) ++ y) = PySem.Str.ofString "\x69mport " ++ J [z] := by
  unfold natText
  rw [strip_N1 h hy, not_from, starts_yes, if_neg (by decide), if_pos rfl]
theorem simp_N1 {z y : PySem.Str} (h : z ∈ partsM) (hy : y ∈ blanksM) : simpText (y ++ (PySem.Str.ofString "\x69mport " ++ J [z]) ++ y) = J [z] := by
  unfold simpText
  rw [strip_N1 h hy, not_from, starts_yes, if_neg (by decide), if_pos rfl]
  exact simp_imp fun a ha => by rw [List.mem_singleton.mp ha]; exact h
theorem still_of {x : PySem.Str} {c d : Nat} {r r' : List Nat} (hc : x.cps.toList = c :: r) (hcs : Unicode.isSpace c = false) (hd : x.cps.toList.reverse = d :: r') (hds : Unicode.isSpace d = false) : Txt.strip x = x := by
  have e := strip_pad (x := x) (y := PySem.Str.empty) (by simp [PySem.Str.empty]) hc hcs hd hds
  rwa [PySem.Str.empty_append, PySem.Str.append_empty] at e
theorem simp_imp' {zs : List PySem.Str} (h : ∀ z ∈ zs, z ∈ partsM) (hne : zs ≠ []) : simpText (PySem.Str.ofString "\x69mport " ++ J zs) = J zs := by
  have e := strip_of (y := PySem.Str.ofString "") (t := J zs) (pre := PySem.Str.ofString "\x69mport ") (by decide +kernel) (by rw [J_eq]; exact J_ne h hne) (by rw [J_eq]; exact J_mem h) (.inr ⟨105, [109, 112, 111, 114, 116, 32], by decide +kernel, by decide +kernel⟩)
  have e2 : PySem.Str.ofString "" ++ (PySem.Str.ofString "\x69mport " ++ J zs) ++ PySem.Str.ofString "" = PySem.Str.ofString "\x69mport " ++ J zs := by
    show PySem.Str.empty ++ (PySem.Str.ofString "\x69mport " ++ J zs) ++ PySem.Str.empty = _
    rw [PySem.Str.empty_append, PySem.Str.append_empty]
  rw [e2] at e
  unfold simpText
  rw [e, not_from, starts_yes, if_neg (by decide), if_pos rfl]
  exact simp_imp h
end Mine
namespace Mine
open PySem PySem.W PyProof.Rows
/-- the natural text of several parts -/
abbrev natM (zs : List PySem.Str) : PySem.Str := PySem.Str.ofString "from " ++ J zs.dropLast ++ PySem.Str.ofString " \x69mport " ++ zs.getLastD PySem.Str.empty
theorem last_in {zs : List PySem.Str} (h : ∀ z ∈ zs, z ∈ partsM) (hne : zs ≠ []) : zs.getLastD PySem.Str.empty ∈ partsM := by
  rw [List.getLastD_eq_getLast?, List.getLast?_eq_some_getLast hne]
  exact h _ (List.getLast_mem hne)
theorem init_in {zs : List PySem.Str} (h : ∀ z ∈ zs, z ∈ partsM) : ∀ z ∈ zs.dropLast, z ∈ partsM := fun z hz => h z (List.dropLast_subset _ hz)
theorem part_no {z : PySem.Str} (h : z ∈ partsM) {e : Nat} (he : e ∉ okC) : e ∉ z.cps.toList := fun hm => he ((part_ok z h).2 e hm)
theorem strip_NM {zs : List PySem.Str} {y : PySem.Str} (h : ∀ z ∈ zs, z ∈ partsM) (hne : zs ≠ []) (hy : y ∈ blanksM) : Txt.strip (y ++ natM zs ++ y) = natM zs := by
  have hl := last_in h hne
  refine strip_of hy (part_ok _ hl).1 (fun e he => List.mem_cons_of_mem _ ((part_ok _ hl).2 e he)) (.inr ⟨102, [114, 111, 109, 32] ++ ((J zs.dropLast).cps.toList ++ (PySem.Str.ofString " \x69mport ").cps.toList), ?_, by decide +kernel⟩)
  rw [lapp, lapp, List.append_assoc]
  rfl
theorem natM_assoc (zs : List PySem.Str) : natM zs = PySem.Str.ofString "from " ++ (J zs.dropLast ++ PySem.Str.ofString " \x69mport " ++ zs.getLastD PySem.Str.empty) := by
  simp only [natM, PySem.Str.append_assoc]
theorem starts_NM (zs : List PySem.Str) : Txt.startswith (natM zs) (PySem.Str.ofString "from ") = true := by
  rw [natM_assoc]; exact starts_yes _ _
theorem nat_NM {zs : List PySem.Str} {y : PySem.Str} (h : ∀ z ∈ zs, z ∈ partsM) (hne : zs ≠ []) (hy : y ∈ blanksM) : natText (y ++ natM zs ++ y) = natM zs := by
  unfold natText
  rw [strip_NM h hne hy, starts_NM, if_pos rfl]
theorem simp_NM {zs : List PySem.Str} {y : PySem.Str} (h : ∀ z ∈ zs, z ∈ partsM) (h2 : 2 ≤ zs.length) (hy : y ∈ blanksM) : simpText (y ++ natM zs ++ y) = J zs := by
  have hne : zs ≠ [] := by intro e; rw [e] at h2; exact absurd h2 (by decide)
  have hl := last_in h hne
  unfold simpText
  rw [strip_NM h hne hy, starts_NM, if_pos rfl, natM_assoc]
  have e1 := replace_mid (a := PySem.Str.empty) (y := PySem.Str.ofString "from ") (b := J zs.dropLast ++ PySem.Str.ofString " \x69mport " ++ zs.getLastD PySem.Str.empty) (z := PySem.Str.ofString "") (c := 102) (p := []) (q := [114, 111, 109, 32]) (by decide +kernel) (by simp [PySem.Str.empty]) (by simp) (by decide) (by
    rw [lapp, lapp]
    intro hm
    rcases List.mem_append.mp hm with hm | hm
    · rcases List.mem_append.mp hm with hm | hm
      · exact sp_J (init_in h) (by decide) hm
      · exact absurd hm (by decide +kernel)
    · exact part_no hl (by decide) hm)
  rw [PySem.Str.empty_append] at e1
  rw [e1]
  have e2 : PySem.Str.empty ++ PySem.Str.ofString "" ++ (J zs.dropLast ++ PySem.Str.ofString " \x69mport " ++ zs.getLastD PySem.Str.empty) = J zs.dropLast ++ PySem.Str.ofString " \x69mport " ++ zs.getLastD PySem.Str.empty := by
    show PySem.Str.empty ++ PySem.Str.empty ++ (J zs.dropLast ++ PySem.Str.ofString " \x69mport " ++ zs.getLastD PySem.Str.empty) = _
    rw [PySem.Str.empty_append, PySem.Str.empty_append]
  rw [e2]
  rw [replace_mid (a := J zs.dropLast) (y := PySem.Str.ofString " \x69mport ") (b := zs.getLastD PySem.Str.empty) (z := PySem.Str.ofString ".") (c := 105) (p := [32]) (q := [109, 112, 111, 114, 116, 32]) (by decide +kernel) (sp_J (init_in h) (by decide)) (by decide) (by decide) (part_no hl (by decide))]
  rw [J_eq, J_eq]
  exact (join_last h2).symm
end Mine
namespace Mine
open PySem PySem.W PyProof.Rows
def signsM : List PySem.Str := [PySem.Str.ofString "a", PySem.Str.ofString " ", PySem.Str.ofString "\t", PySem.Str.ofString "\n", PySem.Str.ofString "\x0c", PySem.Str.ofString "b"]
def signC : List Nat := [97, 32, 9, 10, 12, 98]
theorem sign_ok : ∀ z ∈ signsM, ∀ e ∈ z.cps.toList, e ∈ signC := by decide +kernel
/-- a letter of «ab» -/
def inAB (c : Nat) : Bool := !(Builtin.Str.occurrences (PySem.Str.ofString "ab") ⟨#[c]⟩ 0 (PySem.Str.ofString "ab").length 1).isEmpty
theorem inAB_eq (c : Nat) : inAB c = decide (c ∈ [97, 98]) := StrLaws.found_one (PySem.Str.ofString "ab") c
theorem joinE_mem : ∀ {zs : List PySem.Str} {e : Nat}, e ∈ (PySem.Str.join ⟨#[]⟩ zs).cps.toList → ∃ z ∈ zs, e ∈ z.cps.toList
  | [], e, h => absurd h (by simp [PySem.Str.join, PySem.Str.empty])
  | x :: r, e, h => by
    rw [join_nil_cons, lapp] at h
    rcases List.mem_append.mp h with h | h
    · exact ⟨x, List.mem_cons_self .., h⟩
    · obtain ⟨z, hz, h⟩ := joinE_mem h
      exact ⟨z, List.mem_cons_of_mem _ hz, h⟩
theorem joinE_one : ∀ l : List Nat, (PySem.Str.join ⟨#[]⟩ (l.map fun c => (⟨#[c]⟩ : PySem.Str))).cps.toList = l
  | [] => rfl
  | c :: r => by
    rw [List.map_cons, join_nil_cons, lapp, joinE_one r]; rfl
theorem strikes (x : PySem.Str) (c : Nat) {y : PySem.Str} (hy : y = ⟨#[c]⟩) : (Txt.replace x y (PySem.Str.ofString "")).cps.toList = x.cps.toList.filter (· != c) := by
  subst hy; exact replace_strikes x c
theorem rem_text {x : PySem.Str} (h : ∀ e ∈ x.cps.toList, e ∈ signC) : remText x (PySem.Str.ofString "\n") = Txt.join (PySem.Str.ofString "") ((x.cps.toList.filter inAB).map fun c => (⟨#[c]⟩ : PySem.Str)) := by
  refine PySem.Str.ext' (Array.ext' ?_)
  have e1 : (Txt.join (PySem.Str.ofString "") ((x.cps.toList.filter inAB).map fun c => (⟨#[c]⟩ : PySem.Str))).cps.toList = x.cps.toList.filter inAB := by
    rw [show Txt.join (PySem.Str.ofString "") _ = PySem.Str.join (PySem.Str.ofString "") _ from StrLaws.glued_eq_join _ _]
    exact joinE_one _
  rw [e1]
  unfold remText
  rw [strikes _ 12 (by decide +kernel), strikes _ 9 (by decide +kernel), strikes _ 32 (by decide +kernel), strikes _ 10 (by decide +kernel), List.filter_filter, List.filter_filter, List.filter_filter]
  refine List.filter_congr fun c hc => ?_
  rw [inAB_eq]
  have key : ∀ c ∈ signC, (c != 12 && c != 9 && c != 32 && c != 10) = decide (c ∈ [97, 98]) := by decide
  have h2 := key c (h c hc)
  exact h2
theorem rem_joined {zs : List PySem.Str} (h : ∀ z ∈ zs, z ∈ signsM) : remText (Txt.join (PySem.Str.ofString "") zs) (PySem.Str.ofString "\n") = Txt.join (PySem.Str.ofString "") (((Txt.join (PySem.Str.ofString "") zs).cps.toList.filter inAB).map fun c => (⟨#[c]⟩ : PySem.Str)) :=
  rem_text fun e he => by
    rw [show Txt.join (PySem.Str.ofString "") zs = PySem.Str.join (PySem.Str.ofString "") zs from StrLaws.glued_eq_join _ _] at he
    obtain ⟨z, hz, h1⟩ := joinE_mem he
    exact sign_ok z (h z hz) e h1
theorem rem_bar : remText (PySem.Str.ofString "a|b |") (PySem.Str.ofString "|") = PySem.Str.ofString "ab" := by decide +kernel
end Mine
namespace Mine
open PySem PySem.W PyProof.Rows PySem.Calls
def InM (M zs : List PySem.Str) : Prop := ∀ z ∈ zs, z ∈ M
section
open LCg
variable {prog : Program} {w : World} {A : Around} {E : Value → Shared → Prop} {s : Shared} {h₀ : Heap} {L : Addr} {m : PySem.Str → Option Value} {env : Env}
theorem rest_menuI {elt : PySem.Expr} {x : PySem.Str} {scope : Scope} {cl : List (PySem.Str × Addr)} {Fin : List Value → List (Addr × Obj) → Prop} {d b : Addr} {σ₀ : DSt} {R : List (Addr × Obj)} {n : Nat} {a : Int} (hB : (menuOf elt).all (fun y => decide (y.length ≤ 8)) = true)
    (ok : DOk σ₀) (hRd : ∀ p ∈ R, p.1 ≠ d) (hRb : ∀ p ∈ R, p.1 ≠ b)
    (hstep : ∀ σ k t ys I oI C oC D m₂ h tk (E' : Value → Shared → Prop), DOk σ → NsObj oC m₂ → m₂ x = some (.int k t) → Fr h₀ L h m → News h₀ L h ((I, oI) :: (C, oC) :: (D, lst ys) :: (d, dObj b σ) :: (b, bObj σ) :: R) → (∀ σ', Off3 I C D ((d, dObj b σ') :: (b, bObj σ') :: R)) →
      (∀ p ∈ R, p.1 ≠ d) → (∀ p ∈ R, p.1 ≠ b) → (@Ne Nat I d) → (@Ne Nat I b) → (@Ne Nat C d) → (@Ne Nat C b) → (@Ne Nat D d) → (@Ne Nat D b) →
      wpAny (model prog w) A (eval elt (compEnvC scope cl C env)) (CompEnd h₀ L m { s with heap := h, toks := tk } I oI C oC D (lst ys) (fun _ => True) (DrawEnd d b R (menuOf elt))) E' { s with heap := h, toks := tk })
    (hfin : ∀ σ ys zs, DOk σ → StrsAre ys zs → zs.length = n → InM (menuOf elt) zs → (∀ z ∈ zs, z.length ≤ 8) → Fin ys ((d, dObj b σ) :: (b, bObj σ) :: R)) :
    CompRest prog w A h₀ L m env elt x scope cl s (fun _ => True) (fun i v => ∃ t, v = .int (a + (i : Int)) t) Fin n 0 [] ((d, dObj b σ₀) :: (b, bObj σ₀) :: R) := rest_menuE hB ok hRd hRb hstep hfin
theorem comp_endL {I C D : Addr} {oI oC oD : Obj} {news : List (Addr × Obj)} {rest : Value → List (Addr × Obj) → Prop} {y : Value} {s₁ : Shared} {h' : Heap} {tk : Nat} (F : Fr h₀ L h' m) (N : News h₀ L h' ((I, oI) :: (C, oC) :: (D, oD) :: news)) (off : Off3 I C D news) (r : rest y news) :
    CompEnd h₀ L m s₁ I oI C oC D oD (fun _ => True) rest y { s₁ with heap := h', toks := tk } := CompEnd.intro F N news (fun _ hp => hp) off True.intro r
theorem eq_same {x y : PySem.Str} {t u : Tok} {Q : Value → Shared → Prop} (e : x = y) (h : Q (.bool true) s) : wpAny (model prog w) A (compareOp .Eq (.str x t) (.str y u)) Q E s := by
  subst e
  exact PyProof.Rows.eq_str (by simpa using h)
theorem join_letters {D : Addr} {us : List Value} {l : List Nat} {f : Nat → Bool} {x : PySem.Str} {t : Tok} {Q : Value → Shared → Prop} (hl : s.heap.IsList D us.toArray) (hi : StrsAre us ((l.filter f).map one)) (hn : l.length ≤ 4000) (hx : x.length ≤ 2) (ht : 1 ≤ s.toks)
    (h : ∀ t' k, 1 ≤ k → Q (.str (Txt.join x ((l.filter f).map one)) t') { s with toks := k }) : wpAny (model prog w) A (call (.builtin "str.join") [.str x t, .ref D]) Q E s := by
  have hlen : ((l.filter f).map one).length ≤ l.length := by rw [List.length_map]; exact List.length_filter_le _ _
  have hb : (((l.filter f).map one).map (·.length)).sum ≤ ((l.filter f).map one).length * 8 := StrLaws.sumLen_le _ fun z hz => by
    obtain ⟨c, _, rfl⟩ := List.mem_map.mp hz
    show 1 ≤ 8
    decide
  exact wpAny_with_toks ht (join_listW hl (by simpa using hi) (by omega) (by omega) fun t' k hk => h t' k hk)
/-- what stands behind a comprehension, and that a token is spent -/
def FinT (h₀ : Heap) (L : Addr) (m : PySem.Str → Option Value) (s : Shared) (Q : Value → Shared → Prop) (ys : List Value) (news : List (Addr × Obj)) : Prop :=
  ∀ D h tk, Fr h₀ L h m → News h₀ L h ((D, lst ys) :: news) → Off1 D news → 1 ≤ tk → Q (.ref D) { s with heap := h, toks := tk }
theorem ListComp_TxT {ct elt iter : PySem.Expr} {x : PySem.Str} {px : Pos} {scope : Scope} {cl : List (PySem.Str × Addr)} {pos : Pos} {Q : Value → Shared → Prop} (F₀ : Fr h₀ L s.heap m) (ht : 1 ≤ s.toks)
    (hclos : closureFor scope env = pure cl) (hcell : ∀ y ∈ scope.names, y.2 ≠ .cell) (hkind : scope.kind = .function)
    (hnames : ∀ y ∈ scope.names, y.2 = .local → scope.names.lookup y.1 = some .local) (hx : scope.names.lookup x = some .local)
    (h : wpAny (model prog w) A (eval iter env) (SrcTx prog w A h₀ L m env ct elt x scope cl (fun s₂ => FinT h₀ L m s₂ Q)) E s)
    (hs : ∀ x, foldedSetIterable iter env x = pure x := by intro _; rfl) :
    wpAny (model prog w) A (eval (.ListComp elt [⟨.Name x px, iter, [ct], 0⟩] scope pos) env) Q E s :=
  wpAny_with_toks ht (ListComp_Tx (Q := fun v s' => 1 ≤ s'.toks → Q v s') F₀ hclos hcell hkind hnames hx (wpAny_mono h (fun _ _ x => x) fun _ _ e _ => e) hs)
end
section
variable {zs M : List PySem.Str} {y : PySem.Str}
theorem inM_parts (hM : InM M zs) (he : M = partsM) : ∀ z ∈ zs, z ∈ partsM := he ▸ hM
theorem ne_of_len (h : 1 ≤ zs.length) : zs ≠ [] := by intro e; rw [e] at h; exact absurd h (by decide)
theorem one_of {zs : List PySem.Str} (h : (zs.length : Int) = 1) : ∃ z, zs = [z] := List.length_eq_one_iff.mp (by omega)
abbrev Blank (y : PySem.Str) : Prop := y ∈ [PySem.Str.ofString "", PySem.Str.ofString " ", PySem.Str.ofString "\n"]
theorem q_A1 (hM : InM M zs) (he : M = partsM) (hy : Blank y) (h1 : (zs.length : Int) = 1) : natText (y ++ Txt.join (PySem.Str.ofString ".") zs ++ y) = PySem.Str.ofString "\x69mport " ++ Txt.join (PySem.Str.ofString ".") zs := by
  obtain ⟨z, rfl⟩ := one_of h1
  exact nat_J1 (inM_parts hM he z (List.mem_singleton.mpr rfl)) hy
theorem q_B1 (hM : InM M zs) (he : M = partsM) (hy : Blank y) (h1 : (zs.length : Int) = 1) : simpText (y ++ (PySem.Str.ofString "\x69mport " ++ Txt.join (PySem.Str.ofString ".") zs) ++ y) = Txt.join (PySem.Str.ofString ".") zs := by
  obtain ⟨z, rfl⟩ := one_of h1
  exact simp_N1 (inM_parts hM he z (List.mem_singleton.mpr rfl)) hy
theorem q_C1 (hM : InM M zs) (he : M = partsM) (hy : Blank y) (h1 : (zs.length : Int) = 1) : natText (y ++ (PySem.Str.ofString "\x69mport " ++ Txt.join (PySem.Str.ofString ".") zs) ++ y) = PySem.Str.ofString "\x69mport " ++ Txt.join (PySem.Str.ofString ".") zs := by
  obtain ⟨z, rfl⟩ := one_of h1
  exact nat_N1 (inM_parts hM he z (List.mem_singleton.mpr rfl)) hy
theorem q_AM (hM : InM M zs) (he : M = partsM) (hy : Blank y) (h2 : 2 ≤ zs.length) : natText (y ++ Txt.join (PySem.Str.ofString ".") zs ++ y) = PySem.Str.ofString "from " ++ Txt.join (PySem.Str.ofString ".") zs.dropLast ++ PySem.Str.ofString " \x69mport " ++ zs.getLastD PySem.Str.empty :=
  nat_J (inM_parts hM he) h2 hy
theorem q_BM (hM : InM M zs) (he : M = partsM) (hy : Blank y) (h2 : 2 ≤ zs.length) : simpText (y ++ (PySem.Str.ofString "from " ++ Txt.join (PySem.Str.ofString ".") zs.dropLast ++ PySem.Str.ofString " \x69mport " ++ zs.getLastD PySem.Str.empty) ++ y) = Txt.join (PySem.Str.ofString ".") zs :=
  simp_NM (inM_parts hM he) h2 hy
theorem q_CM (hM : InM M zs) (he : M = partsM) (hy : Blank y) (h2 : 2 ≤ zs.length) : natText (y ++ (PySem.Str.ofString "from " ++ Txt.join (PySem.Str.ofString ".") zs.dropLast ++ PySem.Str.ofString " \x69mport " ++ zs.getLastD PySem.Str.empty) ++ y) = PySem.Str.ofString "from " ++ Txt.join (PySem.Str.ofString ".") zs.dropLast ++ PySem.Str.ofString " \x69mport " ++ zs.getLastD PySem.Str.empty :=
  nat_NM (inM_parts hM he) (ne_of_len (by omega)) hy
theorem q_D (hM : InM M zs) (he : M = partsM) (hy : Blank y) (h1 : 1 ≤ zs.length) : simpText (y ++ Txt.join (PySem.Str.ofString ".") zs ++ y) = Txt.join (PySem.Str.ofString ".") zs :=
  simp_J (inM_parts hM he) (ne_of_len h1) hy
theorem q_E (hM : InM M zs) (he : M = partsM) (h1 : 1 ≤ zs.length) : simpText (PySem.Str.ofString "\x69mport " ++ Txt.join (PySem.Str.ofString ".") zs) = Txt.join (PySem.Str.ofString ".") zs :=
  simp_imp' (inM_parts hM he) (ne_of_len h1)
theorem q_T (hM : InM M zs) (he : M = signsM) : remText (Txt.join (PySem.Str.ofString "") zs) (PySem.Str.ofString "\n") = Txt.join (PySem.Str.ofString "") (((Txt.join (PySem.Str.ofString "") zs).cps.toList.filter fun c => !(Builtin.Str.occurrences (PySem.Str.ofString "ab") (one c) 0 (PySem.Str.ofString "ab").length 1).isEmpty).map one) :=
  rem_joined (he ▸ hM)
end
end Mine
namespace Mine
open PySem PySem.W PyProof.Rows PySem.Calls
local macro_rules | `(tactic| units_room) => `(tactic| (have hcL9 := cLine_is; (try dsimp only [ktrTop]); (simp only [units_under_make, units_in1, units_deeper, Around.mark_units, units_caller]); (try simp only [cLine] at *); omega))
local macro_rules | `(tactic| walk_at "call builtin:list.pop") => `(tactic| (k_here; (with_reducible show wpAny _ _ (call (Value.builtin _) [Value.ref _, Value.int 0 _]) _ _ _); k_dflt (refine' pop0_ints ?F ?N ?i ?e ?U ?z ?_; (case F => k_asm); (case N => k_asm); (case i => with_reducible assumption); (case e => assumption); (case U => k_upd); (case z => (rw [PySem.sizeLine_eq]; omega))); intro h' t' F' N' hI'; (try k_sweep)))
set_option maxRecDepth 100000 in
set_option maxHeartbeats 8000000 in
theorem take_core {w : World} {loose : List PySem.Str} {mean : ExcName → Option Value} {mg mb : PySem.Str → Option Value} {dp un : Nat} {gd : Option (List Code)} {cn : PySem.Str} {cs : Scope} {a : Addr} {ccd : Value} {cl : List (PySem.Str × Addr)} {outer : List Env} {A₀ : Around} {base h₀ : Heap} {L : Addr} {m : PySem.Str → Option Value} {s : Shared} {Q E : Value → Shared → Prop} {rest : List (Addr × Obj)} {d b : Addr} {vs : List Value} {ns : List Int} {seed many : Int} {t t2 : Tok} {n1 n2 : Nat}
  (B : Below A₀ base outer h₀) (F : Fr h₀ L s.heap m) (X : (hd.heap_39 w.params).In h₀) (N : News h₀ L s.heap ((d, W.listOf #[.ref b, .int seed t] n1) :: (b, W.listOf vs.toArray n2) :: rest)) (T : Top hd.view_39 loose mean mg mb h₀) (hk : cs.kind = .function) (hdp : dp + 8 < recursionLimit) (hun : un + 500 < cLine) (hne : @Ne Nat d b) (ho : OwnOff rest [d, b]) (hi : IntsAre vs ns) (hlen : ns.length ≤ 60) (hpos : ∀ x ∈ ns, 0 ≤ x) (hs0 : 0 ≤ seed) (hs1 : seed < 2147483647) (hm : 0 < many)
  (ret : ∀ r t' h' tk' σ', 0 ≤ r → r < many → DOk σ' → Fr h₀ L h' m → News h₀ L h' ((d, dObj b σ') :: (b, bObj σ') :: rest) → Q (.int r t') { s with heap := h', toks := tk' }) :
  wpAny (model PySem.Challenge.rw_aq6039_01.row.prog w) (ktrTop dp un gd cn cs L a ccd cl outer) (call (.ref 63) [.ref d, .int many t2]) Q E s := by
  w_top off
  revert X; k_fill; intro X
  refine wpAny_call ?_
  k_dflt cell_enter
  k_steps
  · rename Fr h₀ _ _ _ => kF; rename News h₀ _ _ _ => kN
    refine' ret _ _ _ _ ⟨vs, ns, (seed * 48271).fmod 2147483647, _, n1, n2⟩ ?_ ?_ ⟨hi, hlen, hpos, ?_, ?_⟩ kF (fun p hp => kN p (.tail _ hp))
    · exact Int.fmod_nonneg_of_pos _ hm
    · exact Int.fmod_lt_of_pos _ hm
    · exact Int.fmod_nonneg_of_pos _ (by decide)
    · exact Int.fmod_lt_of_pos _ (by decide)
  · rename Fr h₀ _ _ _ => kF; rename News h₀ _ _ _ => kN; rename IntsAre (List.tail _) _ => hI'
    refine' ret _ _ _ _ ⟨vs.tail, ns.tail, seed, t, n1, n2 + 1⟩ ?_ ?_ ⟨hI', ?_, ?_, hs0, hs1⟩ kF (fun p hp => kN p (.tail _ hp))
    · exact Int.fmod_nonneg_of_pos _ hm
    · exact Int.fmod_lt_of_pos _ hm
    · have := List.length_tail (l := ns); dsimp only; omega
    · intro x hx; exact hpos x (List.mem_of_mem_tail hx)
theorem take_ok {w : World} {loose : List PySem.Str} {mean : ExcName → Option Value} {mg mb : PySem.Str → Option Value} {dp un : Nat} {gd : Option (List Code)} {cn : PySem.Str} {cs : Scope} {a : Addr} {ccd : Value} {cl : List (PySem.Str × Addr)} {outer : List Env} {A₀ : Around} {base h₀ : Heap} {L : Addr} {m : PySem.Str → Option Value} {s : Shared} {Q E : Value → Shared → Prop} {news rest : List (Addr × Obj)} {d b : Addr} {σ : DSt} {many : Int} {t2 : Tok}
  (B : Below A₀ base outer h₀) (F : Fr h₀ L s.heap m) (X : (hd.heap_39 w.params).In h₀) (N : News h₀ L s.heap (news)) (T : Top hd.view_39 loose mean mg mb h₀) (hk : cs.kind = .function) (hdp : dp + 8 < recursionLimit) (hun : un + 500 < cLine) (hR : Rest d b σ news rest) (hne : @Ne Nat d b) (ok : DOk σ) (hm : 0 < many)
  (ret : ∀ r t' h' tk' σ', 0 ≤ r → r < many → DOk σ' → Fr h₀ L h' m → News h₀ L h' ((d, dObj b σ') :: (b, bObj σ') :: rest) → OwnOff rest [d, b] → Q (.int r t') { s with heap := h', toks := tk' }) :
  wpAny (model PySem.Challenge.rw_aq6039_01.row.prog w) (ktrTop dp un gd cn cs L a ccd cl outer) (call (.ref 63) [.ref d, .int many t2]) Q E s :=
  take_core B F X (cb_drop N hR.sub) T hk hdp hun hne hR.off ok.areI ok.len ok.pos ok.lo ok.hi hm fun r t' h' tk' σ' a1 a2 a3 a4 a5 => ret r t' h' tk' σ' a1 a2 a3 a4 a5 hR.off
end Mine
namespace Mine
open PySem PySem.W PyProof.Rows PySem.Calls
local macro_rules | `(tactic| units_room) => `(tactic| (have hcL9 := cLine_is; (try dsimp only [ktrTop]); (simp only [units_under_make, units_in1, units_deeper, Around.mark_units, units_caller]); (try simp only [cLine] at *); omega))
local macro_rules | `(tactic| walk_at "eval Name") => `(tactic| (k_here; (with_reducible rename Fr _ _ _ _ => kF); with_unfolding_all refine guard_global (by rfl) ?_; k_dflt (refine' name_B kF ?k1 ?k2 ?k3 ?k4 ?k5 ?_; (case k1 => k_asm); (case k2 => k_asm); (case k3 => k_is); (case k4 => boot_by_name); (case k5 => decide))))
local macro_rules | `(tactic| walk_at "eval ListComp") => `(tactic| (k_here; k_dflt (refine LCg.ListComp_U (F₀ := by k_asm) (by rfl) (by decide) (by rfl) (by decide) (by rfl) ?_)))
local macro_rules | `(tactic| walk_at "CompSrc") => `(tactic| (k_here; k_dflt (refine' LCg.CompSrc.base ?c1 ?c2 ?c3 ?c4 ?c5 ?c6; (case c1 => rfl); (case c2 => k_asm); (case c3 => k_asm); (case c4 => assumption); (case c5 => (rw [PySem.sizeLine_eq]; have hL9 := IntsAre.length (by assumption); simp only [List.size_toArray]; omega)); intro g'; refine' rest_mapI (fun n => if n < 0 then -n else n) (by assumption) ?c7 ?c8; all_goals intros)))
local macro_rules | `(tactic| walk_at "CompEnd") => `(tactic| (refine LCg.CompEnd.intro (by assumption) (by assumption) _ (fun p hp => hp) (by assumption) (Or.inl (by assumption)) ⟨rfl, _, rfl⟩))
set_option maxRecDepth 100000 in
set_option maxHeartbeats 8000000 in
theorem draw_ok {w : World} {loose : List PySem.Str} {mean : ExcName → Option Value} {mg mb : PySem.Str → Option Value} {dp un : Nat} {gd : Option (List Code)} {cn : PySem.Str} {cs : Scope} {a : Addr} {ccd : Value} {cl : List (PySem.Str × Addr)} {outer : List Env} {A₀ : Around} {base h₀ : Heap} {L : Addr} {m : PySem.Str → Option Value} {s : Shared} {Q E : Value → Shared → Prop} {news : List (Addr × Obj)} {l : Addr} {vs : List Value} {ns : List Int}
  (B : Below A₀ base outer h₀) (F : Fr h₀ L s.heap m) (X : (hd.heap_39 w.params).In h₀) (N : News h₀ L s.heap (news)) (T : Top hd.view_39 loose mean mg mb h₀) (hk : cs.kind = .function) (hdp : dp + 8 < recursionLimit) (hun : un + 500 < cLine) (hl : base.IsList l vs.toArray) (hi : IntsAre vs ns) (hlen : ns.length ≤ 63)
  (ret : ∀ d b h' tk' σ, DOk σ → @Ne Nat d b → AllLt d news → AllLt b news → Fr h₀ L h' m → News h₀ L h' ((d, dObj b σ) :: (b, bObj σ) :: news) → Q (.ref d) { s with heap := h', toks := tk' }) :
  wpAny (model PySem.Challenge.rw_aq6039_01.row.prog w) (ktrTop dp un gd cn cs L a ccd cl outer) (call (.ref 56) [.ref l]) Q E s := by
  w_top off
  revert X; k_fill; intro X
  refine wpAny_call ?_
  k_dflt cell_enter
  k_steps
  rename Fr h₀ _ _ _ => kF
  rename News h₀ _ _ (_ :: _ :: _ :: _) => kN
  rename IntsAre _ (List.take _ _) => hI
  rename _ ∧ _ ∧ AllLt _ _ => l1
  rename _ ∧ AllLt _ _ => l2
  refine' ret _ _ _ _ ⟨_, _, _, _, _, _⟩ ⟨hI, ?_, ?_, ?_, ?_⟩ ?_ ?_ ?_ kF (news_cut3 kN)
  · exact List.length_take_le _ _
  · exact abs_pos _ _
  · exact (seed_fold _).1
  · exact (seed_fold _).2
  · exact Nat.ne_of_gt l1.1
  · exact l1.2.2
  · exact l2.2
end Mine
namespace Mine
open PySem PySem.W PyProof.Rows PySem.Calls
local macro_rules | `(tactic| units_room) => `(tactic| (have hcL9 := cLine_is; (try dsimp only [ktrTop]); (simp only [units_under_make, units_in1, units_deeper, Around.mark_units, units_caller]); (try simp only [cLine] at *); omega))
set_option maxRecDepth 100000 in
set_option maxHeartbeats 8000000 in
theorem parse_ok {w : World} {loose : List PySem.Str} {mean : ExcName → Option Value} {mg mb : PySem.Str → Option Value} {dp un : Nat} {gd : Option (List Code)} {cn : PySem.Str} {cs : Scope} {a : Addr} {ccd : Value} {cl : List (PySem.Str × Addr)} {outer : List Env} {A₀ : Around} {base h₀ : Heap} {L : Addr} {m : PySem.Str → Option Value} {s : Shared} {Q E : Value → Shared → Prop} {news : List (Addr × Obj)} {row : PySem.Str} {t : Tok}
  (B : Below A₀ base outer h₀) (F : Fr h₀ L s.heap m) (X : (hd.heap_39 w.params).In h₀) (N : News h₀ L s.heap (news)) (T : Top hd.view_39 loose mean mg mb h₀) (hk : cs.kind = .function) (hdp : dp + 8 < recursionLimit) (hun : un + 500 < cLine) (hlen : row.length ≤ 4096)
  (retN : hashAt row = -1 → ∀ D t1 h' tk', (∀ p ∈ news, p.1 < D) → Fr h₀ L h' m → News h₀ L h' ((D, tupOf [.str row t1, .none]) :: news) → Q (.ref D) { s with heap := h', toks := tk' })
  (retS : hashAt row ≠ -1 → ∀ D t1 t2 h' tk', (∀ p ∈ news, p.1 < D) → Fr h₀ L h' m → News h₀ L h' ((D, tupOf [.str (cutCode row) t1, .str (cutSaid row) t2]) :: news) → (cutCode row).length ≤ row.length → (cutSaid row).length ≤ row.length → Q (.ref D) { s with heap := h', toks := tk' }) :
  wpAny (model PySem.Challenge.rw_aq6039_01.row.prog w) (ktrTop dp un gd cn cs L a ccd cl outer) (call (.ref 21) [.str row t]) Q E s := by
  w_top off
  revert X; k_fill; intro X
  refine wpAny_call ?_
  k_dflt cell_enter
  k_steps
  · with_reducible rename Fr h₀ _ _ _ => kF; with_reducible rename News h₀ _ _ (_ :: _) => kN; with_reducible rename Txt.find row _ ≠ -1 => hS
    with_reducible rename (Txt.slice row none _).length ≤ _ => l1; with_reducible rename (Txt.slice row (some _) none).length ≤ _ => l2; with_reducible rename (Txt.strip _).length ≤ _ => l3; with_reducible rename ∀ (p : Addr × Obj), p ∈ news → p.1 < _ => lD
    exact retS hS _ _ _ _ _ lD kF kN l1 (Nat.le_trans l3 l2)
  · with_reducible rename Fr h₀ _ _ _ => kF; with_reducible rename News h₀ _ _ (_ :: _) => kN; with_reducible rename ∀ (p : Addr × Obj), p ∈ news → p.1 < _ => lD
    refine retN ?_ _ _ _ _ lD kF kN
    simp_all [hashAt]
set_option maxRecDepth 100000 in
set_option maxHeartbeats 8000000 in
theorem split_ok {w : World} {loose : List PySem.Str} {mean : ExcName → Option Value} {mg mb : PySem.Str → Option Value} {dp un : Nat} {gd : Option (List Code)} {cn : PySem.Str} {cs : Scope} {a : Addr} {ccd : Value} {cl : List (PySem.Str × Addr)} {outer : List Env} {A₀ : Around} {base h₀ : Heap} {L : Addr} {m : PySem.Str → Option Value} {s : Shared} {Q E : Value → Shared → Prop} {news : List (Addr × Obj)} {row : PySem.Str} {t : Tok}
  (B : Below A₀ base outer h₀) (F : Fr h₀ L s.heap m) (X : (hd.heap_39 w.params).In h₀) (N : News h₀ L s.heap (news)) (T : Top hd.view_39 loose mean mg mb h₀) (hk : cs.kind = .function) (hdp : dp + 8 < recursionLimit) (hun : un + 500 < cLine) (hlen : row.length ≤ 4096)
  (retN : hashAt row = -1 → ∀ D t1 h' tk', (∀ p ∈ news, p.1 < D) → Fr h₀ L h' m → News h₀ L h' ((D, tupOf [.str row t1, .none]) :: news) → Q (.ref D) { s with heap := h', toks := tk' })
  (retS : hashAt row ≠ -1 → ∀ D t1 t2 h' tk', (∀ p ∈ news, p.1 < D) → Fr h₀ L h' m → News h₀ L h' ((D, tupOf [.str (cutCode row) t1, .str (cutSaid row) t2]) :: news) → (cutCode row).length ≤ row.length → (cutSaid row).length ≤ row.length → Q (.ref D) { s with heap := h', toks := tk' }) :
  wpAny (model PySem.Challenge.rw_aq6039_01.row.prog w) (ktrTop dp un gd cn cs L a ccd cl outer) (call (.ref 70) [.str row t]) Q E s := by
  w_top off
  revert X; k_fill; intro X
  refine wpAny_call ?_
  k_dflt cell_enter
  k_steps
  · with_reducible rename Fr h₀ _ _ _ => kF; with_reducible rename News h₀ _ _ (_ :: _) => kN; with_reducible rename ∀ (p : Addr × Obj), p ∈ news → p.1 < _ => lD; with_reducible rename (Builtin.Str.occurrences _ _ _ _ _).isEmpty = true => hN
    exact retN (hash_free hN) _ _ _ _ lD kF kN
  · with_reducible rename (Builtin.Str.occurrences _ _ _ _ _).isEmpty = false => hS; with_reducible rename Txt.find row _ = -1 => hN
    exact absurd hN (hash_has hS)
  · with_reducible rename Fr h₀ _ _ _ => kF; with_reducible rename News h₀ _ _ (_ :: _) => kN; with_reducible rename (Builtin.Str.occurrences _ _ _ _ _).isEmpty = false => hS
    with_reducible rename (Txt.slice row none _).length ≤ _ => l1; with_reducible rename (Txt.slice row (some _) none).length ≤ _ => l2; with_reducible rename (Txt.strip _).length ≤ _ => l3; with_reducible rename ∀ (p : Addr × Obj), p ∈ news → p.1 < _ => lD
    exact retS (hash_has hS) _ _ _ _ _ lD kF kN l1 (Nat.le_trans l3 l2)
theorem parse_ok_N {w : World} {loose : List PySem.Str} {mean : ExcName → Option Value} {mg mb : PySem.Str → Option Value} {dp un : Nat} {gd : Option (List Code)} {cn : PySem.Str} {cs : Scope} {a : Addr} {ccd : Value} {cl : List (PySem.Str × Addr)} {outer : List Env} {A₀ : Around} {base h₀ : Heap} {L : Addr} {m : PySem.Str → Option Value} {s : Shared} {Q E : Value → Shared → Prop} {news : List (Addr × Obj)} {row : PySem.Str} {t : Tok}
  (B : Below A₀ base outer h₀) (F : Fr h₀ L s.heap m) (X : (hd.heap_39 w.params).In h₀) (N : News h₀ L s.heap (news)) (T : Top hd.view_39 loose mean mg mb h₀) (hk : cs.kind = .function) (hdp : dp + 8 < recursionLimit) (hun : un + 500 < cLine) (hlen : row.length ≤ 4096) (hN : hashAt row = -1)
  (ret : ∀ D t1 h' tk', (∀ p ∈ news, p.1 < D) → Fr h₀ L h' m → News h₀ L h' ((D, tupOf [.str row t1, .none]) :: news) → Q (.ref D) { s with heap := h', toks := tk' }) :
  wpAny (model PySem.Challenge.rw_aq6039_01.row.prog w) (ktrTop dp un gd cn cs L a ccd cl outer) (call (.ref 21) [.str row t]) Q E s := parse_ok B F X N T hk hdp hun hlen (fun _ => ret) (fun h => absurd hN h)
theorem parse_ok_S {w : World} {loose : List PySem.Str} {mean : ExcName → Option Value} {mg mb : PySem.Str → Option Value} {dp un : Nat} {gd : Option (List Code)} {cn : PySem.Str} {cs : Scope} {a : Addr} {ccd : Value} {cl : List (PySem.Str × Addr)} {outer : List Env} {A₀ : Around} {base h₀ : Heap} {L : Addr} {m : PySem.Str → Option Value} {s : Shared} {Q E : Value → Shared → Prop} {news : List (Addr × Obj)} {row : PySem.Str} {t : Tok}
  (B : Below A₀ base outer h₀) (F : Fr h₀ L s.heap m) (X : (hd.heap_39 w.params).In h₀) (N : News h₀ L s.heap (news)) (T : Top hd.view_39 loose mean mg mb h₀) (hk : cs.kind = .function) (hdp : dp + 8 < recursionLimit) (hun : un + 500 < cLine) (hlen : row.length ≤ 4096) (hS : hashAt row ≠ -1)
  (ret : ∀ D t1 t2 h' tk', (∀ p ∈ news, p.1 < D) → Fr h₀ L h' m → News h₀ L h' ((D, tupOf [.str (cutCode row) t1, .str (cutSaid row) t2]) :: news) → (cutCode row).length ≤ row.length → (cutSaid row).length ≤ row.length → Q (.ref D) { s with heap := h', toks := tk' }) :
  wpAny (model PySem.Challenge.rw_aq6039_01.row.prog w) (ktrTop dp un gd cn cs L a ccd cl outer) (call (.ref 21) [.str row t]) Q E s := parse_ok B F X N T hk hdp hun hlen (fun h => absurd h hS) (fun _ => ret)
theorem split_ok_N {w : World} {loose : List PySem.Str} {mean : ExcName → Option Value} {mg mb : PySem.Str → Option Value} {dp un : Nat} {gd : Option (List Code)} {cn : PySem.Str} {cs : Scope} {a : Addr} {ccd : Value} {cl : List (PySem.Str × Addr)} {outer : List Env} {A₀ : Around} {base h₀ : Heap} {L : Addr} {m : PySem.Str → Option Value} {s : Shared} {Q E : Value → Shared → Prop} {news : List (Addr × Obj)} {row : PySem.Str} {t : Tok}
  (B : Below A₀ base outer h₀) (F : Fr h₀ L s.heap m) (X : (hd.heap_39 w.params).In h₀) (N : News h₀ L s.heap (news)) (T : Top hd.view_39 loose mean mg mb h₀) (hk : cs.kind = .function) (hdp : dp + 8 < recursionLimit) (hun : un + 500 < cLine) (hlen : row.length ≤ 4096) (hN : hashAt row = -1)
  (ret : ∀ D t1 h' tk', (∀ p ∈ news, p.1 < D) → Fr h₀ L h' m → News h₀ L h' ((D, tupOf [.str row t1, .none]) :: news) → Q (.ref D) { s with heap := h', toks := tk' }) :
  wpAny (model PySem.Challenge.rw_aq6039_01.row.prog w) (ktrTop dp un gd cn cs L a ccd cl outer) (call (.ref 70) [.str row t]) Q E s := split_ok B F X N T hk hdp hun hlen (fun _ => ret) (fun h => absurd hN h)
theorem split_ok_S {w : World} {loose : List PySem.Str} {mean : ExcName → Option Value} {mg mb : PySem.Str → Option Value} {dp un : Nat} {gd : Option (List Code)} {cn : PySem.Str} {cs : Scope} {a : Addr} {ccd : Value} {cl : List (PySem.Str × Addr)} {outer : List Env} {A₀ : Around} {base h₀ : Heap} {L : Addr} {m : PySem.Str → Option Value} {s : Shared} {Q E : Value → Shared → Prop} {news : List (Addr × Obj)} {row : PySem.Str} {t : Tok}
  (B : Below A₀ base outer h₀) (F : Fr h₀ L s.heap m) (X : (hd.heap_39 w.params).In h₀) (N : News h₀ L s.heap (news)) (T : Top hd.view_39 loose mean mg mb h₀) (hk : cs.kind = .function) (hdp : dp + 8 < recursionLimit) (hun : un + 500 < cLine) (hlen : row.length ≤ 4096) (hS : hashAt row ≠ -1)
  (ret : ∀ D t1 t2 h' tk', (∀ p ∈ news, p.1 < D) → Fr h₀ L h' m → News h₀ L h' ((D, tupOf [.str (cutCode row) t1, .str (cutSaid row) t2]) :: news) → (cutCode row).length ≤ row.length → (cutSaid row).length ≤ row.length → Q (.ref D) { s with heap := h', toks := tk' }) :
  wpAny (model PySem.Challenge.rw_aq6039_01.row.prog w) (ktrTop dp un gd cn cs L a ccd cl outer) (call (.ref 70) [.str row t]) Q E s := split_ok B F X N T hk hdp hun hlen (fun h => absurd h hS) (fun _ => ret)
end Mine
namespace Mine
open PySem PySem.W PyProof.Rows PySem.Calls
local macro_rules | `(tactic| units_room) => `(tactic| (have hcL9 := cLine_is; (try dsimp only [ktrTop]); (simp only [units_under_make, units_in1, units_deeper, Around.mark_units, units_caller]); (try simp only [cLine] at *); omega))
local macro_rules | `(tactic| cell_enter) => `(tactic| (refine' code_def ?k1 ?k2 ?k3 ?k4 ?k5 ?kA ?kF ?kK ?k6 ?k7 ?k8 ?k9 ?kB ?_ ?c2 ?c3 ?c4 ?c5; (case kA => exact rfl); (case kF => exact rfl); (case kK => assumption); (case k1 => k_asm); (case k2 => k_asm); (case k3 => k_asm); (case k4 => k_asm); (case k5 => k_asm); (case k6 => k_is); (case k7 => k_is); (case k8 => ktr_room); (case k9 => exact binds_K (by k_in) rfl (by k_is) rfl rfl rfl); (case c5 => decide); (case kB => exact locs rfl); (case c2 => exact rfl); (case c3 => exact rfl); (case c4 => exact rfl); k_whole; intro g' L' h' FG' F' N' B' X' T'; (try dsimp only); (try k_lift B'); (try k_fold)))
local macro_rules | `(tactic| k_mem) => `(tactic| assumption)
local macro_rules | `(tactic| walk_at "truthy ref") => `(tactic| (k_here; k_dflt (refine' truthy_strs ?l ?i ?w ?_; (case l => exact News.isList (by k_asm) (by k_mem)); (case i => with_reducible assumption); (case w => assumption)); intro tk'))
local macro_rules | `(tactic| walk_at "compareOp NotIn str ref") => `(tactic| (k_here; k_dflt (refine' notin_list_strs ?k1 ?k2 ?_; (case k1 => exact News.isList (by k_asm) (by k_mem)); (case k2 => with_reducible assumption))))
local macro_rules | `(tactic| walk_at "exec For Name Name cons nil") => `(tactic| (k_here; (rename Fr _ _ _ _ => lF'); (with_unfolding_all refine' For_invVF lF' ?k1 ?k2 ?_; (case k1 => exact rfl); (case k2 => exact rfl); k_whole)))
local macro_rules | `(tactic| walk_at "pyIter ref") => `(tactic| (k_here; (with_reducible show wpAny _ _ (pyIter (Value.ref _)) (fun it s₂ => LoopAtV _ _ _ _ _ _ _ _ _ it s₂) _ _); (rename Fr _ _ _ _ => lF'); (rename News _ _ _ _ => lN'); (with_unfolding_all refine' iter_dedup ?hh ?hl ?hi lF' lN' ?hD (fun y' t' us' ys' n' h' tk' own' hy' hu' hl' hm' hown' hoff' F' N' => ?_) (fun u' us' n' h' tk' hu' hl' hm' F' N' => ?_); (case hh => exact rfl); (case hl => k_mem); (case hi => with_reducible assumption); (case hD => first | (intro p hp; refine Nat.ne_of_lt ?_; revert p hp; assumption) | k_all)); (all_goals (try clear lF' lN')); (all_goals (try k_fold))))
local macro_rules | `(tactic| k_all) => `(tactic| assumption)
local macro_rules | `(tactic| walk_at "InvEndG") => `(tactic| first
  | exact dd_endS (by assumption) (by k_asm) (by k_asm) (by assumption) (by first | assumption | (simp_all; done)) (by intro z hz; exact if_neg hz)
  | exact dd_endP (by assumption) (by k_asm) (by k_asm) (by assumption) (by first | assumption | (simp_all; done)) (by intro z hz; exact if_neg hz))
local macro_rules | `(tactic| walk_at "call builtin:str.join") => `(tactic| (k_here; k_dflt (refine' join_dd ?l ?i ?n ?m ?x ?w ?z ?_; (case l => exact News.isList (by k_asm) (by k_mem)); (case i => with_reducible assumption); (case n => assumption); (case m => assumption); (case x => decide); (case w => assumption); (case z => assumption)); intro t' k' hj'))
local macro_rules | `(tactic| walk_at "call ref") => `(tactic| (k_here; (with_reducible show wpAny _ _ (call (Value.ref 21) _ _) _ _ _); k_dflt (first | (refine' parse_ok_N ?B ?F ?X ?N ?T ?hk ?hdp ?hun ?hlen ?hN ?_; (case B => k_asm); (case F => k_asm); (case X => k_asm); (case N => k_asm); (case T => k_asm); (case hk => first | exact rfl | assumption); (case hdp => (first | decide | ((try dsimp only [ktrTop]); (try simp only [depth_under_make, depth_under_kw, depth_in1, depth_deeper, depth_caller]); omega))); (case hun => (first | decide | ((try dsimp only [ktrTop]); (try simp only [units_under_make, units_in1, units_deeper, Around.mark_units, units_caller]); omega))); (case hlen => omega); (case hN => assumption); k_whole; intro D' t1' h' tk' l1' F' N') | (refine' parse_ok_S ?B ?F ?X ?N ?T ?hk ?hdp ?hun ?hlen ?hS ?_; (case B => k_asm); (case F => k_asm); (case X => k_asm); (case N => k_asm); (case T => k_asm); (case hk => first | exact rfl | assumption); (case hdp => (first | decide | ((try dsimp only [ktrTop]); (try simp only [depth_under_make, depth_under_kw, depth_in1, depth_deeper, depth_caller]); omega))); (case hun => (first | decide | ((try dsimp only [ktrTop]); (try simp only [units_under_make, units_in1, units_deeper, Around.mark_units, units_caller]); omega))); (case hlen => omega); (case hS => assumption); k_whole; intro D' t1' t2' h' tk' l1' F' N' hl1' hl2')); (try k_sweep)))
def addText (row pfx : PySem.Str) (ws : List PySem.Str) : PySem.Str :=
  if ws = [] then row
  else if ((Txt.join (PySem.Str.ofString "; ") (dedup ws)).length : Int) = 0 then PySem.Str.empty ++ (if hashAt row = -1 then row else Txt.rstrip (cutCode row)) ++ pfx
  else PySem.Str.empty ++ (if hashAt row = -1 then row else Txt.rstrip (cutCode row)) ++ pfx ++ PySem.Str.ofString " " ++ Txt.join (PySem.Str.ofString "; ") (dedup ws)
theorem addText_nil {row pfx : PySem.Str} {ws : List PySem.Str} (h : ws = []) : row = addText row pfx ws := by unfold addText; rw [if_pos h]
theorem addText_N1 {row pfx : PySem.Str} {ws : List PySem.Str} (h : ¬ ws = []) (hN : hashAt row = -1) (hj : ((Txt.join (PySem.Str.ofString "; ") (dedup ws)).length : Int) ≠ 0) :
    PySem.Str.empty ++ row ++ pfx ++ PySem.Str.ofString " " ++ Txt.join (PySem.Str.ofString "; ") (dedup ws) = addText row pfx ws := by unfold addText; rw [if_neg h, if_neg hj, if_pos hN]
theorem addText_N0 {row pfx : PySem.Str} {ws : List PySem.Str} (h : ¬ ws = []) (hN : hashAt row = -1) (hj : ((Txt.join (PySem.Str.ofString "; ") (dedup ws)).length : Int) = 0) :
    PySem.Str.empty ++ row ++ pfx = addText row pfx ws := by unfold addText; rw [if_neg h, if_pos hj, if_pos hN]
theorem addText_S1 {row pfx : PySem.Str} {ws : List PySem.Str} (h : ¬ ws = []) (hN : ¬ hashAt row = -1) (hj : ((Txt.join (PySem.Str.ofString "; ") (dedup ws)).length : Int) ≠ 0) :
    PySem.Str.empty ++ Txt.rstrip (cutCode row) ++ pfx ++ PySem.Str.ofString " " ++ Txt.join (PySem.Str.ofString "; ") (dedup ws) = addText row pfx ws := by unfold addText; rw [if_neg h, if_neg hj, if_neg hN]
theorem addText_S0 {row pfx : PySem.Str} {ws : List PySem.Str} (h : ¬ ws = []) (hN : ¬ hashAt row = -1) (hj : ((Txt.join (PySem.Str.ofString "; ") (dedup ws)).length : Int) = 0) :
    PySem.Str.empty ++ Txt.rstrip (cutCode row) ++ pfx = addText row pfx ws := by unfold addText; rw [if_neg h, if_pos hj, if_neg hN]
def codeOf (row : PySem.Str) : PySem.Str := if hashAt row = -1 then row else cutCode row
theorem codeOf_N {row : PySem.Str} (h : hashAt row = -1) : row = codeOf row := by unfold codeOf; rw [if_pos h]
theorem codeOf_S {row : PySem.Str} (h : ¬ hashAt row = -1) : cutCode row = codeOf row := by unfold codeOf; rw [if_neg h]
set_option maxRecDepth 100000 in
set_option maxHeartbeats 8000000 in
theorem add_ok {w : World} {loose : List PySem.Str} {mean : ExcName → Option Value} {mg mb : PySem.Str → Option Value} {dp un : Nat} {gd : Option (List Code)} {cn : PySem.Str} {cs : Scope} {a : Addr} {ccd : Value} {cl : List (PySem.Str × Addr)} {outer : List Env} {A₀ : Around} {base h₀ : Heap} {L : Addr} {m : PySem.Str → Option Value} {s : Shared} {Q E : Value → Shared → Prop} {news : List (Addr × Obj)} {q : Addr} {vs : List Value} {ws : List PySem.Str} {nn : Nat} {row pfx : PySem.Str} {t t3 : Tok}
  (B : Below A₀ base outer h₀) (F : Fr h₀ L s.heap m) (X : (hd.heap_39 w.params).In h₀) (N : News h₀ L s.heap (news)) (T : Top hd.view_39 loose mean mg mb h₀) (hk : cs.kind = .function) (hdp : dp + 20 < recursionLimit) (hun : un + 1000 < cLine) (hlen : row.length ≤ 2000) (hpl : pfx.length ≤ 24) (hq : (q, W.listOf vs.toArray nn) ∈ news) (hi : StrsAre vs ws) (hws : ws.length ≤ 4) (hwl : ∀ z ∈ ws, z.length ≤ 8)
  (ret : ∀ t' h' tk', Fr h₀ L h' m → News h₀ L h' news → Q (.str (addText row pfx ws) t') { s with heap := h', toks := tk' }) :
  wpAny (model PySem.Challenge.rw_aq6039_01.row.prog w) (ktrTop dp un gd cn cs L a ccd cl outer) (call (.ref 29) [.ref q, .str row t] [(PySem.Str.ofString "comment_prefix", .str pfx t3)]) Q E s := by
  w_top off
  revert X; k_fill; intro X
  refine wpAny_call ?_
  k_dflt cell_enter
  by_cases hS : hashAt row = -1
  all_goals k_steps
  all_goals (rename Fr h₀ _ _ _ => kF; rename News h₀ _ _ _ => kN)
  all_goals (refine cb_retS (news := news) ret ?_ kF (cb_drop kN (by first | exact fun p hp => hp | exact fun p hp => .tail _ hp | exact fun p hp => .tail _ (.tail _ hp) | exact fun p hp => .tail _ (.tail _ (.tail _ hp)) | exact fun p hp => .tail _ (.tail _ (.tail _ (.tail _ hp))))))
  all_goals first
    | with_reducible exact addText_nil (by assumption)
    | with_reducible exact addText_N1 (by assumption) (by assumption) (by assumption)
    | with_reducible exact addText_N0 (by assumption) (by assumption) (by assumption)
    | with_reducible exact addText_S1 (by assumption) (by assumption) (by assumption)
    | with_reducible exact addText_S0 (by assumption) (by assumption) (by assumption)
set_option maxRecDepth 100000 in
set_option maxHeartbeats 8000000 in
theorem add_rm {w : World} {loose : List PySem.Str} {mean : ExcName → Option Value} {mg mb : PySem.Str → Option Value} {dp un : Nat} {gd : Option (List Code)} {cn : PySem.Str} {cs : Scope} {a : Addr} {ccd : Value} {cl : List (PySem.Str × Addr)} {outer : List Env} {A₀ : Around} {base h₀ : Heap} {L : Addr} {m : PySem.Str → Option Value} {s : Shared} {Q E : Value → Shared → Prop} {news : List (Addr × Obj)} {q : Addr} {row pfx : PySem.Str} {t t3 : Tok}
  (B : Below A₀ base outer h₀) (F : Fr h₀ L s.heap m) (X : (hd.heap_39 w.params).In h₀) (N : News h₀ L s.heap (news)) (T : Top hd.view_39 loose mean mg mb h₀) (hk : cs.kind = .function) (hdp : dp + 20 < recursionLimit) (hun : un + 1000 < cLine) (hlen : row.length ≤ 2000)
  (ret : ∀ t' h' tk', Fr h₀ L h' m → News h₀ L h' news → Q (.str (codeOf row) t') { s with heap := h', toks := tk' }) :
  wpAny (model PySem.Challenge.rw_aq6039_01.row.prog w) (ktrTop dp un gd cn cs L a ccd cl outer) (call (.ref 29) [.ref q, .str row t] [(PySem.Str.ofString "removed", .bool true), (PySem.Str.ofString "comment_prefix", .str pfx t3)]) Q E s := by
  w_top off
  revert X; k_fill; intro X
  refine wpAny_call ?_
  k_dflt cell_enter
  by_cases hS : hashAt row = -1
  all_goals k_steps
  all_goals (rename Fr h₀ _ _ _ => kF; rename News h₀ _ _ _ => kN)
  all_goals (refine cb_retS (news := news) ret ?_ kF (cb_drop kN (by first | exact fun p hp => hp | exact fun p hp => .tail _ hp | exact fun p hp => .tail _ (.tail _ hp) | exact fun p hp => .tail _ (.tail _ (.tail _ hp)) | exact fun p hp => .tail _ (.tail _ (.tail _ (.tail _ hp))))))
  all_goals first
    | with_reducible exact codeOf_N (by assumption)
    | with_reducible exact codeOf_S (by assumption)
set_option maxRecDepth 100000 in
set_option maxHeartbeats 8000000 in
theorem add_none {w : World} {loose : List PySem.Str} {mean : ExcName → Option Value} {mg mb : PySem.Str → Option Value} {dp un : Nat} {gd : Option (List Code)} {cn : PySem.Str} {cs : Scope} {a : Addr} {ccd : Value} {cl : List (PySem.Str × Addr)} {outer : List Env} {A₀ : Around} {base h₀ : Heap} {L : Addr} {m : PySem.Str → Option Value} {s : Shared} {Q E : Value → Shared → Prop} {news : List (Addr × Obj)} {row : PySem.Str} {t : Tok}
  (B : Below A₀ base outer h₀) (F : Fr h₀ L s.heap m) (X : (hd.heap_39 w.params).In h₀) (N : News h₀ L s.heap (news)) (T : Top hd.view_39 loose mean mg mb h₀) (hk : cs.kind = .function) (hdp : dp + 20 < recursionLimit) (hun : un + 1000 < cLine) (hlen : row.length ≤ 2000)
  (ret : ∀ t' h' tk', Fr h₀ L h' m → News h₀ L h' news → Q (.str row t') { s with heap := h', toks := tk' }) :
  wpAny (model PySem.Challenge.rw_aq6039_01.row.prog w) (ktrTop dp un gd cn cs L a ccd cl outer) (call (.ref 29) [.none, .str row t] []) Q E s := by
  w_top off
  revert X; k_fill; intro X
  refine wpAny_call ?_
  k_dflt cell_enter
  k_steps
  all_goals (rename Fr h₀ _ _ _ => kF; rename News h₀ _ _ _ => kN)
  all_goals (refine cb_retS (news := news) ret ?_ kF (cb_drop kN (by first | exact fun p hp => hp | exact fun p hp => .tail _ hp | exact fun p hp => .tail _ (.tail _ hp) | exact fun p hp => .tail _ (.tail _ (.tail _ hp)) | exact fun p hp => .tail _ (.tail _ (.tail _ (.tail _ hp))))))
  all_goals rfl
end Mine
namespace Mine
open PySem PySem.W PyProof.Rows PySem.Calls
theorem cutCode_len (row : PySem.Str) : (cutCode row).length ≤ row.length := Txt.slice_le _ _ _
theorem codeOf_len (row : PySem.Str) : (codeOf row).length ≤ row.length := by
  unfold codeOf; split
  · exact Nat.le_refl _
  · exact cutCode_len row
theorem addText_len {row pfx : PySem.Str} {ws : List PySem.Str} (hp : pfx.length ≤ 24) (hws : ws.length ≤ 4) (hwl : ∀ z ∈ ws, z.length ≤ 8) : (addText row pfx ws).length ≤ row.length + 76 := by
  have h1 : (if hashAt row = -1 then row else Txt.rstrip (cutCode row)).length ≤ row.length := by
    split
    · exact Nat.le_refl _
    · exact Nat.le_trans (len_rstrip _) (cutCode_len row)
  have h2 : (Txt.join (PySem.Str.ofString "; ") (dedup ws)).length ≤ 40 := join_le _ _ (by decide) (by have := foldl_dd_len ws []; simp only [List.length_nil] at this; unfold dedup; omega) fun z hz => hwl z (by
    rcases foldl_dd_mem ws [] z hz with h | h
    · nomatch h
    · exact h)
  have h3 : PySem.Str.empty.length = 0 := rfl
  have h4 : (PySem.Str.ofString " ").length = 1 := by decide
  unfold addText
  split
  · omega
  · split
    · rw [PySem.Str.length_append, PySem.Str.length_append]; omega
    · rw [PySem.Str.length_append, PySem.Str.length_append, PySem.Str.length_append, PySem.Str.length_append]; omega
theorem add_ok2 {w : World} {loose : List PySem.Str} {mean : ExcName → Option Value} {mg mb : PySem.Str → Option Value} {dp un : Nat} {gd : Option (List Code)} {cn : PySem.Str} {cs : Scope} {a : Addr} {ccd : Value} {cl : List (PySem.Str × Addr)} {outer : List Env} {A₀ : Around} {base h₀ : Heap} {L : Addr} {m : PySem.Str → Option Value} {s : Shared} {Q E : Value → Shared → Prop} {news : List (Addr × Obj)} {q : Addr} {vs : List Value} {ws : List PySem.Str} {nn : Nat} {row pfx : PySem.Str} {t t3 : Tok}
  (B : Below A₀ base outer h₀) (F : Fr h₀ L s.heap m) (X : (hd.heap_39 w.params).In h₀) (N : News h₀ L s.heap (news)) (T : Top hd.view_39 loose mean mg mb h₀) (hk : cs.kind = .function) (hdp : dp + 20 < recursionLimit) (hun : un + 1000 < cLine) (hlen : row.length ≤ 2000) (hpl : pfx.length ≤ 24) (hq : (q, W.listOf vs.toArray nn) ∈ news) (hi : StrsAre vs ws) (hws : ws.length ≤ 4) (hwl : ∀ z ∈ ws, z.length ≤ 8)
  (ret : ∀ t' h' tk', Fr h₀ L h' m → News h₀ L h' news → (addText row pfx ws).length ≤ row.length + 76 → Q (.str (addText row pfx ws) t') { s with heap := h', toks := tk' }) :
  wpAny (model PySem.Challenge.rw_aq6039_01.row.prog w) (ktrTop dp un gd cn cs L a ccd cl outer) (call (.ref 29) [.ref q, .str row t] [(PySem.Str.ofString "comment_prefix", .str pfx t3)]) Q E s :=
  add_ok B F X N T hk hdp hun hlen hpl hq hi hws hwl fun t' h' tk' F' N' => ret t' h' tk' F' N' (addText_len hpl hws hwl)
theorem add_rm2 {w : World} {loose : List PySem.Str} {mean : ExcName → Option Value} {mg mb : PySem.Str → Option Value} {dp un : Nat} {gd : Option (List Code)} {cn : PySem.Str} {cs : Scope} {a : Addr} {ccd : Value} {cl : List (PySem.Str × Addr)} {outer : List Env} {A₀ : Around} {base h₀ : Heap} {L : Addr} {m : PySem.Str → Option Value} {s : Shared} {Q E : Value → Shared → Prop} {news : List (Addr × Obj)} {q : Addr} {row pfx : PySem.Str} {t t3 : Tok}
  (B : Below A₀ base outer h₀) (F : Fr h₀ L s.heap m) (X : (hd.heap_39 w.params).In h₀) (N : News h₀ L s.heap (news)) (T : Top hd.view_39 loose mean mg mb h₀) (hk : cs.kind = .function) (hdp : dp + 20 < recursionLimit) (hun : un + 1000 < cLine) (hlen : row.length ≤ 2000)
  (ret : ∀ t' h' tk', Fr h₀ L h' m → News h₀ L h' news → (codeOf row).length ≤ row.length → Q (.str (codeOf row) t') { s with heap := h', toks := tk' }) :
  wpAny (model PySem.Challenge.rw_aq6039_01.row.prog w) (ktrTop dp un gd cn cs L a ccd cl outer) (call (.ref 29) [.ref q, .str row t] [(PySem.Str.ofString "removed", .bool true), (PySem.Str.ofString "comment_prefix", .str pfx t3)]) Q E s :=
  add_rm B F X N T hk hdp hun hlen fun t' h' tk' F' N' => ret t' h' tk' F' N' (codeOf_len row)
theorem app_empty (x : PySem.Str) : x ++ PySem.Str.ofString "" = x := PySem.Str.append_empty x
theorem str_len0 {x : PySem.Str} (h : x = PySem.Str.ofString "") : ((x.length : Nat) : Int) = 0 := by subst h; decide
theorem str_len1 {x : PySem.Str} (h : x ≠ PySem.Str.ofString "") : ((x.length : Nat) : Int) ≠ 0 := by
  intro e
  apply h
  have h0 : x.cps.size = 0 := by
    have h1 : x.length = 0 := by omega
    exact h1
  exact PySem.Str.ext' (Array.eq_empty_of_size_eq_zero h0)
theorem bne_ne {x y : PySem.Str} (h : (x != y) = true) : x ≠ y := by simpa using h
theorem bne_eq {x y : PySem.Str} (h : (x != y) = false) : x = y := by simpa using h
theorem due_nil {row pfx : PySem.Str} {ws : List PySem.Str} (h : ws = []) : addText row pfx ws = row := (addText_nil h).symm
theorem due_N1 {row pfx : PySem.Str} {ws : List PySem.Str} (h : ¬ ws = []) (hN : hashAt row = -1) (ht : (Txt.join (PySem.Str.ofString "; ") (dedup ws) != PySem.Str.ofString "") = true) :
    addText row pfx ws = row ++ pfx ++ (PySem.Str.ofString " " ++ Txt.join (PySem.Str.ofString "; ") (dedup ws)) := by
  rw [← addText_N1 h hN (str_len1 (bne_ne ht)), PySem.Str.empty_append, PySem.Str.append_assoc (row ++ pfx)]
theorem due_N0 {row pfx : PySem.Str} {ws : List PySem.Str} (h : ¬ ws = []) (hN : hashAt row = -1) (ht : (Txt.join (PySem.Str.ofString "; ") (dedup ws) != PySem.Str.ofString "") = false) :
    addText row pfx ws = row ++ pfx ++ PySem.Str.ofString "" := by
  rw [← addText_N0 h hN (str_len0 (bne_eq ht)), PySem.Str.empty_append, app_empty]
theorem due_S1 {row pfx : PySem.Str} {ws : List PySem.Str} (h : ¬ ws = []) (hN : ¬ hashAt row = -1) (ht : (Txt.join (PySem.Str.ofString "; ") (dedup ws) != PySem.Str.ofString "") = true) :
    addText row pfx ws = Txt.rstrip (cutCode row) ++ pfx ++ (PySem.Str.ofString " " ++ Txt.join (PySem.Str.ofString "; ") (dedup ws)) := by
  rw [← addText_S1 h hN (str_len1 (bne_ne ht)), PySem.Str.empty_append, PySem.Str.append_assoc (Txt.rstrip (cutCode row) ++ pfx)]
theorem due_S0 {row pfx : PySem.Str} {ws : List PySem.Str} (h : ¬ ws = []) (hN : ¬ hashAt row = -1) (ht : (Txt.join (PySem.Str.ofString "; ") (dedup ws) != PySem.Str.ofString "") = false) :
    addText row pfx ws = Txt.rstrip (cutCode row) ++ pfx ++ PySem.Str.ofString "" := by
  rw [← addText_S0 h hN (str_len0 (bne_eq ht)), PySem.Str.empty_append, app_empty]
end Mine
namespace Mine
open PySem PySem.W PyProof.Rows PySem.Calls
theorem fmt_ret {h₀ h' : Heap} {L : Addr} {m : PySem.Str → Option Value} {news : List (Addr × Obj)} {s : Shared} {Q : Value → Shared → Prop} {t : Tok} {tk' : Nat} {x y : PySem.Str}
  (ret : ∀ t' h' tk', Fr h₀ L h' m → News h₀ L h' news → s.toks ≤ tk' → Q (.str x t') { s with heap := h', toks := tk' }) (e : y = x) (F : Fr h₀ L h' m) (N : News h₀ L h' news) (hk : s.toks ≤ tk') : Q (.str y t) { s with heap := h', toks := tk' } := by
  subst e; exact ret _ _ _ F N hk
local macro_rules | `(tactic| units_room) => `(tactic| (have hcL9 := cLine_is; (try dsimp only [ktrTop]); (simp only [units_under_make, units_in1, units_deeper, Around.mark_units, units_caller]); (try simp only [cLine] at *); omega))
local macro_rules | `(tactic| k_mem) => `(tactic| assumption)
local macro_rules | `(tactic| walk_at "call builtin:str.strip") => `(tactic| ((refine strip_t (by omega) ?_); intro t' k' hk' hl'; (try dsimp only at hk')))
local macro_rules | `(tactic| walk_at "call builtin:str.split") => `(tactic| (k_here; k_dflt (refine' split_t ?F ?N ?y ?x ?_; (case F => k_asm); (case N => k_asm); (case y => decide); (case x => omega)); intro D' us' h' k' hs' l1' F' N'; (try k_sweep)))
local macro_rules | `(tactic| walk_at "call builtin:list.pop") => `(tactic| (k_here; k_dflt (refine' pop_split ?F ?N ?i ?U ?z ?_; (case F => k_asm); (case N => k_asm); (case i => with_reducible assumption); (case U => k_upd); (case z => omega)); intro h' t' F' N' hI' hg'; (try k_sweep)))
local macro_rules | `(tactic| walk_at "call builtin:str.join") => `(tactic| (k_here; k_dflt (refine' join_dot ?l ?i ?y ?x ?_; (case l => exact News.isList (by k_asm) (by k_mem)); (case i => with_reducible assumption); (case y => decide); (case x => omega)); intro t' k' hj'))
set_option maxRecDepth 100000 in
set_option maxHeartbeats 8000000 in
theorem natural_ok {w : World} {loose : List PySem.Str} {mean : ExcName → Option Value} {mg mb : PySem.Str → Option Value} {dp un : Nat} {gd : Option (List Code)} {cn : PySem.Str} {cs : Scope} {a : Addr} {ccd : Value} {cl : List (PySem.Str × Addr)} {outer : List Env} {A₀ : Around} {base h₀ : Heap} {L : Addr} {m : PySem.Str → Option Value} {s : Shared} {Q E : Value → Shared → Prop} {news : List (Addr × Obj)} {row : PySem.Str} {t : Tok}
  (B : Below A₀ base outer h₀) (F : Fr h₀ L s.heap m) (X : (hd.heap_39 w.params).In h₀) (N : News h₀ L s.heap (news)) (T : Top hd.view_39 loose mean mg mb h₀) (hk : cs.kind = .function) (hdp : dp + 8 < recursionLimit) (hun : un + 500 < cLine) (hlen : row.length ≤ 400) 
  (ret : ∀ t' h' tk', Fr h₀ L h' m → News h₀ L h' news → s.toks ≤ tk' → Q (.str (natText row) t') { s with heap := h', toks := tk' }) :
  wpAny (model PySem.Challenge.rw_aq6039_01.row.prog w) (ktrTop dp un gd cn cs L a ccd cl outer) (call (.ref 43) [.str row t]) Q E s := by
  refine wpAny_with_toks (Nat.le_refl s.toks) ?_
  w_top off
  revert X; k_fill; intro X
  refine wpAny_call ?_
  k_dflt cell_enter
  k_steps
  all_goals (rename Fr h₀ _ _ _ => kF; rename News h₀ _ _ _ => kN)
  all_goals (try dsimp only)
  all_goals (refine fmt_ret ret ?_ kF (cb_drop kN (by first | exact fun p hp => hp | exact fun p hp => .tail _ hp | exact fun p hp => .tail _ (.tail _ hp))) (by assumption))
  all_goals (unfold natText)
  · rw [if_pos (by assumption)]
  · rw [if_neg (by simp only [*]; decide), if_pos (by assumption)]
  · rw [if_neg (by simp only [*]; decide), if_neg (by simp only [*]; decide), if_pos (by assumption)]
  · rw [if_neg (by simp only [*]; decide), if_neg (by simp only [*]; decide), if_neg (by simp only [*]; decide)]
end Mine
namespace Mine
open PySem PySem.W PyProof.Rows PySem.Calls
local macro_rules | `(tactic| walk_at "mine pad 0") => `(tactic| skip)
theorem fmt_ret2 {h₀ h' : Heap} {L : Addr} {m : PySem.Str → Option Value} {news : List (Addr × Obj)} {s : Shared} {Q : Value → Shared → Prop} {t : Tok} {tk' : Nat} {x y : PySem.Str}
  (ret : ∀ t' h' tk', Fr h₀ L h' m → News h₀ L h' news → s.toks ≤ tk' → Q (.str x t') { s with heap := h', toks := tk' }) (e : y = x) (F : Fr h₀ L h' m) (N : News h₀ L h' news) (hk : s.toks ≤ tk') : Q (.str y t) { s with heap := h', toks := tk' } := by
  subst e; exact ret _ _ _ F N hk
local macro_rules | `(tactic| units_room) => `(tactic| (have hcL9 := cLine_is; (try dsimp only [ktrTop]); (simp only [units_under_make, units_in1, units_deeper, Around.mark_units, units_caller]); (try simp only [cLine] at *); omega))
local macro_rules | `(tactic| k_mem) => `(tactic| assumption)
theorem rlen0 : (PySem.Str.ofString "").length = 0 := by decide
theorem rlen1 : (PySem.Str.ofString ".").length = 1 := by decide
local macro_rules | `(tactic| walk_at "execs cons") => `(tactic| ((with_reducible refine wpAny_execs_cons ?_); try dsimp only))
local macro_rules | `(tactic| walk_at "execs nil") => `(tactic| refine wpAny_execs_nil ?_)
local macro_rules | `(tactic| walk_at "call builtin:str.strip") => `(tactic| ((refine strip_t (by omega) ?_); intro t' k' hk' hl'; (try dsimp only at hk')))
local macro_rules | `(tactic| walk_at "call builtin:str.replace") => `(tactic| ((refine repl_t (by first | omega | (simp; done) | (simp; omega) | (dsimp only; omega)) (by first | omega | (simp; done) | (simp; omega) | (dsimp only; omega)) (by first | omega | (simp; done) | (simp; omega) | (dsimp only; omega)) (by first | assumption | decide) ?hx (by decide) ?_; (case hx => first | omega | (simp only [rlen0, rlen1, Nat.mul_zero, Nat.add_zero] at *; omega))); intro t' k' hk' hl'; (try dsimp only at hk')))
set_option maxRecDepth 100000 in
set_option maxHeartbeats 8000000 in
theorem simplified_ok {w : World} {loose : List PySem.Str} {mean : ExcName → Option Value} {mg mb : PySem.Str → Option Value} {dp un : Nat} {gd : Option (List Code)} {cn : PySem.Str} {cs : Scope} {a : Addr} {ccd : Value} {cl : List (PySem.Str × Addr)} {outer : List Env} {A₀ : Around} {base h₀ : Heap} {L : Addr} {m : PySem.Str → Option Value} {s : Shared} {Q E : Value → Shared → Prop} {news : List (Addr × Obj)} {row : PySem.Str} {t : Tok}
  (B : Below A₀ base outer h₀) (F : Fr h₀ L s.heap m) (X : (hd.heap_39 w.params).In h₀) (N : News h₀ L s.heap (news)) (T : Top hd.view_39 loose mean mg mb h₀) (hk : cs.kind = .function) (hdp : dp + 8 < recursionLimit) (hun : un + 500 < cLine) (hlen : row.length ≤ 400) 
  (ret : ∀ t' h' tk', Fr h₀ L h' m → News h₀ L h' news → s.toks ≤ tk' → Q (.str (simpText row) t') { s with heap := h', toks := tk' }) :
  wpAny (model PySem.Challenge.rw_aq6039_01.row.prog w) (ktrTop dp un gd cn cs L a ccd cl outer) (call (.ref 36) [.str row t]) Q E s := by
  refine wpAny_with_toks (Nat.le_refl s.toks) ?_
  w_top off
  revert X; k_fill; intro X
  refine wpAny_call ?_
  k_dflt cell_enter
  k_steps
  all_goals (rename Fr h₀ _ _ _ => kF; rename News h₀ _ _ _ => kN)
  all_goals (try dsimp only)
  all_goals (refine fmt_ret2 ret ?_ kF (cb_drop kN (by first | exact fun p hp => hp | exact fun p hp => .tail _ hp | exact fun p hp => .tail _ (.tail _ hp))) (by assumption))
  all_goals (unfold simpText)
  · rw [if_pos (by assumption)]
  · rw [if_neg (by simp only [*]; decide), if_pos (by assumption)]
  · rw [if_neg (by simp only [*]; decide), if_neg (by simp only [*]; decide)]
end Mine
namespace Mine
open PySem PySem.W PyProof.Rows PySem.Calls
theorem fmt_ret3 {h₀ h' : Heap} {L : Addr} {m : PySem.Str → Option Value} {news : List (Addr × Obj)} {s : Shared} {Q : Value → Shared → Prop} {t : Tok} {tk' : Nat} {x y : PySem.Str}
  (ret : ∀ t' h' tk', Fr h₀ L h' m → News h₀ L h' news → s.toks ≤ tk' → Q (.str x t') { s with heap := h', toks := tk' }) (e : y = x) (F : Fr h₀ L h' m) (N : News h₀ L h' news) (hk : s.toks ≤ tk') : Q (.str y t) { s with heap := h', toks := tk' } := by
  subst e; exact ret _ _ _ F N hk
local macro_rules | `(tactic| units_room) => `(tactic| (have hcL9 := cLine_is; (try dsimp only [ktrTop]); (simp only [units_under_make, units_in1, units_deeper, Around.mark_units, units_caller]); (try simp only [cLine] at *); omega))
local macro_rules | `(tactic| k_mem) => `(tactic| assumption)
theorem r3len0 : (PySem.Str.ofString "").length = 0 := by decide
theorem r3len1 : (PySem.Str.ofString ".").length = 1 := by decide
local macro_rules | `(tactic| walk_at "execs cons") => `(tactic| ((with_reducible refine wpAny_execs_cons ?_); try dsimp only))
local macro_rules | `(tactic| walk_at "execs nil") => `(tactic| refine wpAny_execs_nil ?_)
local macro_rules | `(tactic| cell_enter) => `(tactic| (refine' code_def ?k1 ?k2 ?k3 ?k4 ?k5 ?kA ?kF ?kK ?k6 ?k7 ?k8 ?k9 ?kB ?_ ?c2 ?c3 ?c4 ?c5; (case kA => exact rfl); (case kF => exact rfl); (case kK => assumption); (case k1 => k_asm); (case k2 => k_asm); (case k3 => k_asm); (case k4 => k_asm); (case k5 => k_asm); (case k6 => k_is); (case k7 => k_is); (case k8 => ktr_room); (case k9 => exact binds_K (by k_in) rfl (by k_is) rfl rfl rfl); (case c5 => decide); (case kB => exact locs rfl); (case c2 => exact rfl); (case c3 => exact rfl); (case c4 => exact rfl); k_whole; intro g' L' h' FG' F' N' B' X' T'; (try dsimp only); (try k_lift B'); (try k_fold)))
local macro_rules | `(tactic| walk_at "call builtin:str.replace") => `(tactic| ((refine repl_t (by first | omega | (simp; done) | (simp; omega) | (dsimp only; omega)) (by first | omega | (simp; done) | (simp; omega) | (dsimp only; omega)) (by first | omega | (simp; done) | (simp; omega) | (dsimp only; omega)) (by first | assumption | decide) ?hx (by decide) ?_; (case hx => first | omega | (simp only [r3len0, r3len1, Nat.mul_zero, Nat.add_zero] at *; omega))); intro t' k' hk' hl'; (try dsimp only at hk')))
set_option maxRecDepth 100000 in
set_option maxHeartbeats 8000000 in
theorem remove_ok {w : World} {loose : List PySem.Str} {mean : ExcName → Option Value} {mg mb : PySem.Str → Option Value} {dp un : Nat} {gd : Option (List Code)} {cn : PySem.Str} {cs : Scope} {a : Addr} {ccd : Value} {cl : List (PySem.Str × Addr)} {outer : List Env} {A₀ : Around} {base h₀ : Heap} {L : Addr} {m : PySem.Str → Option Value} {s : Shared} {Q E : Value → Shared → Prop} {news : List (Addr × Obj)} {row : PySem.Str} {t : Tok}
  (B : Below A₀ base outer h₀) (F : Fr h₀ L s.heap m) (X : (hd.heap_39 w.params).In h₀) (N : News h₀ L s.heap (news)) (T : Top hd.view_39 loose mean mg mb h₀) (hk : cs.kind = .function) (hdp : dp + 8 < recursionLimit) (hun : un + 500 < cLine) (hlen : row.length ≤ 400) (ht : 272 ≤ s.toks)
  (ret : ∀ t' h' tk', Fr h₀ L h' m → News h₀ L h' news → s.toks ≤ tk' → Q (.str (remText row (PySem.Str.ofString "\n")) t') { s with heap := h', toks := tk' }) :
  wpAny (model PySem.Challenge.rw_aq6039_01.row.prog w) (ktrTop dp un gd cn cs L a ccd cl outer) (call (.ref 51) [.str row t]) Q E s := by
  refine wpAny_with_toks (Nat.le_refl s.toks) ?_
  w_top off
  revert X; k_fill; intro X
  refine wpAny_call ?_
  k_dflt cell_enter
  k_steps
  all_goals (rename Fr h₀ _ _ _ => kF; rename News h₀ _ _ _ => kN)
  all_goals (try dsimp only)
  all_goals (refine fmt_ret3 ret ?_ kF (cb_drop kN (by first | exact fun p hp => hp | exact fun p hp => .tail _ hp | exact fun p hp => .tail _ (.tail _ hp))) (by assumption))
  all_goals rfl
end Mine
namespace Mine
open PySem PySem.W PyProof.Rows PySem.Calls
local macro_rules | `(tactic| walk_at "mine pad 0") => `(tactic| skip)
theorem fmt_ret4 {h₀ h' : Heap} {L : Addr} {m : PySem.Str → Option Value} {news : List (Addr × Obj)} {s : Shared} {Q : Value → Shared → Prop} {t : Tok} {tk' : Nat} {x y : PySem.Str}
  (ret : ∀ t' h' tk', Fr h₀ L h' m → News h₀ L h' news → s.toks ≤ tk' → Q (.str x t') { s with heap := h', toks := tk' }) (e : y = x) (F : Fr h₀ L h' m) (N : News h₀ L h' news) (hk : s.toks ≤ tk') : Q (.str y t) { s with heap := h', toks := tk' } := by
  subst e; exact ret _ _ _ F N hk
local macro_rules | `(tactic| units_room) => `(tactic| (have hcL9 := cLine_is; (try dsimp only [ktrTop]); (simp only [units_under_make, units_in1, units_deeper, Around.mark_units, units_caller]); (try simp only [cLine] at *); omega))
local macro_rules | `(tactic| k_mem) => `(tactic| assumption)
theorem r4len0 : (PySem.Str.ofString "").length = 0 := by decide
theorem r4len1 : (PySem.Str.ofString ".").length = 1 := by decide
local macro_rules | `(tactic| walk_at "execs cons") => `(tactic| ((with_reducible refine wpAny_execs_cons ?_); try dsimp only))
local macro_rules | `(tactic| walk_at "execs nil") => `(tactic| refine wpAny_execs_nil ?_)
local macro_rules | `(tactic| cell_enter) => `(tactic| (refine' code_def ?k1 ?k2 ?k3 ?k4 ?k5 ?kA ?kF ?kK ?k6 ?k7 ?k8 ?k9 ?kB ?_ ?c2 ?c3 ?c4 ?c5; (case kA => exact rfl); (case kF => exact rfl); (case kK => assumption); (case k1 => k_asm); (case k2 => k_asm); (case k3 => k_asm); (case k4 => k_asm); (case k5 => k_asm); (case k6 => k_is); (case k7 => k_is); (case k8 => ktr_room); (case k9 => exact binds_K (by k_in) rfl (by k_is) rfl rfl rfl); (case c5 => decide); (case kB => exact locs rfl); (case c2 => exact rfl); (case c3 => exact rfl); (case c4 => exact rfl); k_whole; intro g' L' h' FG' F' N' B' X' T'; (try dsimp only); (try k_lift B'); (try k_fold)))
local macro_rules | `(tactic| walk_at "call builtin:str.replace") => `(tactic| ((refine repl_t (by first | omega | (simp; done) | (simp; omega) | (dsimp only; omega)) (by first | omega | (simp; done) | (simp; omega) | (dsimp only; omega)) (by first | omega | (simp; done) | (simp; omega) | (dsimp only; omega)) (by first | assumption | decide) ?hx (by decide) ?_; (case hx => first | omega | (simp only [r4len0, r4len1, Nat.mul_zero, Nat.add_zero] at *; omega))); intro t' k' hk' hl'; (try dsimp only at hk')))
set_option maxRecDepth 100000 in
set_option maxHeartbeats 8000000 in
theorem remove2_ok {w : World} {loose : List PySem.Str} {mean : ExcName → Option Value} {mg mb : PySem.Str → Option Value} {dp un : Nat} {gd : Option (List Code)} {cn : PySem.Str} {cs : Scope} {a : Addr} {ccd : Value} {cl : List (PySem.Str × Addr)} {outer : List Env} {A₀ : Around} {base h₀ : Heap} {L : Addr} {m : PySem.Str → Option Value} {s : Shared} {Q E : Value → Shared → Prop} {news : List (Addr × Obj)} {row y : PySem.Str} {t u : Tok}
  (B : Below A₀ base outer h₀) (F : Fr h₀ L s.heap m) (X : (hd.heap_39 w.params).In h₀) (N : News h₀ L s.heap (news)) (T : Top hd.view_39 loose mean mg mb h₀) (hk : cs.kind = .function) (hdp : dp + 8 < recursionLimit) (hun : un + 500 < cLine) (hlen : row.length ≤ 400) (hu : @Ne Nat u 0) (hus : @LT.lt Nat _ u s.toks) (hye : (y == PySem.Str.ofString "") = false)
  (ret : ∀ t' h' tk', Fr h₀ L h' m → News h₀ L h' news → s.toks ≤ tk' → Q (.str (remText row y) t') { s with heap := h', toks := tk' }) :
  wpAny (model PySem.Challenge.rw_aq6039_01.row.prog w) (ktrTop dp un gd cn cs L a ccd cl outer) (call (.ref 51) [.str row t, .str y u]) Q E s := by
  refine wpAny_with_toks (Nat.le_refl s.toks) ?_
  w_top off
  revert X; k_fill; intro X
  refine wpAny_call ?_
  k_dflt cell_enter
  k_steps
  all_goals (rename Fr h₀ _ _ _ => kF; rename News h₀ _ _ _ => kN)
  all_goals (try dsimp only)
  all_goals (refine fmt_ret4 ret ?_ kF (cb_drop kN (by first | exact fun p hp => hp | exact fun p hp => .tail _ hp | exact fun p hp => .tail _ (.tail _ hp))) (by assumption))
  all_goals rfl
end Mine
namespace Mine
open PySem PySem.W PySem.W.X PySem.W.ZRun PyProof.Rows PySem.Calls
/-- what a statement leaves, and the tokens it leaves at least -/
def TokK (n : Nat) (Q : Flow → Shared → Prop) (f : Flow) (s : Shared) : Prop := n ≤ s.toks → Q f s
theorem execs_consT {prog : Program} {w : World} {A : Around} {E : Value → Shared → Prop} {s : Shared} {env : Env} {st : Stmt} {rest : List Stmt} {Q : Flow → Shared → Prop} (hn : 272 ≤ s.toks)
    (h : wpAny (model prog w) A (exec st env) (TokK 272 fun f s' => match f with | .next => wpAny (model prog w) A (execs rest env) Q E s' | f => Q f s') E s) : wpAny (model prog w) A (execs (st :: rest) env) Q E s :=
  wpAny_execs_cons (wpAny_mono (wpAny_with_toks hn (wpAny_mono h (fun _ _ x => x) fun _ _ e _ => e)) (fun _ _ x => x) fun _ _ e => e)
def Hold (P : Prop) : Prop := P
theorem hold {P : Prop} (h : Hold P) : P := h

end Mine
section
open PySem PySem.W PySem.W.X PySem.W.ZRun PyProof.Rows PySem.Calls Mine
local macro_rules | `(tactic| units_room) => `(tactic| (have hcL9 := cLine_is; (try dsimp only [ktrTop]); (simp only [units_under_make, units_in1, units_deeper, Around.mark_units, units_caller]); (try simp only [cLine] at *); omega))
local macro_rules | `(tactic| k_mem) => `(tactic| assumption)
local macro_rules | `(tactic| walk_at "storeName") => `(tactic| (k_here; k_dflt (refine' storeX_C ?F ?N ?c ?U ?d ?_ ?sa ?sb; (case sa => rfl); (case sb => rfl); (case F => k_asm); (case N => k_asm); (case c => rfl); (case U => k_updF); (case d => k_asm); k_whole; intro h' o' F' N' d'; (try simp only [List.cons_append, List.nil_append] at N'); (try k_sweep))))
local macro_rules | `(tactic| walk_at "call ref") => `(tactic| (k_here; (with_reducible show wpAny _ _ (call (Value.ref 63) _ _) _ _ _); k_dflt (first | (refine' take_ok ?B ?F ?X ?N ?T ?hk ?hdp ?hun ?R ?hne ?ok ?hm ?_; (case B => k_asm); (case F => k_asm); (case X => k_asm); (case N => k_asm); (case T => k_asm); (case hk => first | exact rfl | assumption); (case hdp => (first | decide | ((try dsimp only [ktrTop]); (try simp only [depth_under_make, depth_under_kw, depth_in1, depth_deeper, depth_caller]); omega))); (case hun => (first | decide | ((try dsimp only [ktrTop]); (try simp only [units_under_make, units_in1, units_deeper, Around.mark_units, units_caller]); omega))); (case hne => assumption); (case R => repeat' (first | (refine' Rest.head ?ra ?rb; (case ra => k_all); (case rb => k_all)) | (refine' Rest.tail ?ra ?rb ?_; (case ra => k_ne); (case rb => k_ne)))); (case ok => assumption); (case hm => decide); k_whole; intro r' t' h' tk' σ' hr0' hr1' ok' F' N' hoR')); (try k_sweep)))
local macro_rules | `(tactic| walk_at "call ref") => `(tactic| (k_here; (with_reducible show wpAny _ _ (call (Value.ref 56) _ _) _ _ _); k_dflt (first | (refine' draw_ok ?B ?F ?X ?N ?T ?hk ?hdp ?hun ?hl ?hi ?hlen ?_; (case B => k_asm); (case F => k_asm); (case X => k_asm); (case N => k_asm); (case T => k_asm); (case hk => first | exact rfl | assumption); (case hdp => (first | decide | ((try dsimp only [ktrTop]); (try simp only [depth_under_make, depth_under_kw, depth_in1, depth_deeper, depth_caller]); omega))); (case hun => (first | decide | ((try dsimp only [ktrTop]); (try simp only [units_under_make, units_in1, units_deeper, Around.mark_units, units_caller]); omega))); (case hl => assumption); (case hi => assumption); (case hlen => omega); k_whole; intro d' b' h' tk' σ' ok' hne' hld' hlb' F' N'; (try simp only [AllLt, and_true] at hld' hlb'))); (try k_sweep)))
local macro_rules | `(tactic| walk_at "subscriptTail") => `(tactic| (k_here; (with_reducible show wpAny _ _ (subscriptTail _ _ (Value.ref _) (Value.int _ _)) _ _ _); k_dflt (refine' item_t (B := 24) ?l ?w ?h0 ?h1 ?hn ?hB ?_ ?hs; (case l => exact News.isList (by k_asm) (by k_mem)); (case w => repeat' (first | exact StrsAre.nil | refine' StrsAre.cons _ _ ?_)); (case h0 => assumption); (case h1 => assumption); (case hn => decide); (case hB => decide +kernel); (case hs => with_unfolding_all rfl)); intro y' t' hy' hyl'))
local macro_rules | `(tactic| walk_at "exec For Name Call cons nil") => `(tactic| (k_here; (with_reducible rename Fr _ _ _ _ => lF'); (with_unfolding_all refine' For_invVF lF' ?k1 ?k2 ?_; (case k1 => exact rfl); (case k2 => exact rfl); k_whole)))
local macro_rules | `(tactic| walk_at "call type:range") => `(tactic| (k_here; (with_reducible rename Fr _ _ _ _ => rF'); (with_reducible rename News _ _ _ _ => rN'); with_unfolding_all refine range1_rows rF' rN' ?_; intro h' tk' t1' u1' v1' hR' F' N' hkp'; clear hkp'; (try k_sweep)))
local macro_rules | `(tactic| walk_at "pyIter ref") => `(tactic| (k_here; (with_reducible show wpAny _ _ (pyIter (Value.ref _)) (fun it s₂ => LoopAtV _ _ _ _ _ _ _ _ _ it s₂) _ _); (with_reducible rename IsRange _ _ _ _ _ _ _ _ => hR'); (with_reducible rename Fr _ _ _ _ => lF'); (with_reducible rename News _ _ _ _ => lN'); (with_unfolding_all refine' law_loop (rowN := PySem.Str.ofString "row") ?hh ?hr ?h0 ?h1 lF' lN' ?ok ?hd ?hb ?hc ?hC ?hl ?hm (fun i' k' t' σ' row' tr' u' h' tk' own' hi' hl' ok' ho' F' N' => ?_) (fun σ' row' tr' u' h' tk' ok' F' N' => ?_); (case hh => exact rfl); (case hr => exact hR'); (case h0 => assumption); (case h1 => omega); (case ok => assumption); (case hd => k_mem); (case hb => k_mem); (case hc => assumption); (case hC => k_mem); (case hm => with_unfolding_all rfl); (case hl => omega)); (by_cases hS' : hashAt row' = -1); (all_goals (try clear lF' lN')); (all_goals (try k_fold))))
local macro_rules | `(tactic| walk_at "call ref") => `(tactic| (k_here; (with_reducible show wpAny _ _ (call (Value.ref 70) _ _) _ _ _); k_dflt (first | (refine' split_ok_N ?B ?F ?X ?N ?T ?hk ?hdp ?hun ?hlen ?hN ?_; (case B => k_asm); (case F => k_asm); (case X => k_asm); (case N => k_asm); (case T => k_asm); (case hk => first | exact rfl | assumption); (case hdp => (first | decide | ((try dsimp only [ktrTop]); (try simp only [depth_under_make, depth_under_kw, depth_in1, depth_deeper, depth_caller]); omega))); (case hun => (first | decide | ((try dsimp only [ktrTop]); (try simp only [units_under_make, units_in1, units_deeper, Around.mark_units, units_caller]); omega))); (case hlen => omega); (case hN => assumption); k_whole; intro D' t1' h' tk' l1' F' N'; (try k_lt l1')) | (refine' split_ok_S ?B ?F ?X ?N ?T ?hk ?hdp ?hun ?hlen ?hS ?_; (case B => k_asm); (case F => k_asm); (case X => k_asm); (case N => k_asm); (case T => k_asm); (case hk => first | exact rfl | assumption); (case hdp => (first | decide | ((try dsimp only [ktrTop]); (try simp only [depth_under_make, depth_under_kw, depth_in1, depth_deeper, depth_caller]); omega))); (case hun => (first | decide | ((try dsimp only [ktrTop]); (try simp only [units_under_make, units_in1, units_deeper, Around.mark_units, units_caller]); omega))); (case hlen => omega); (case hS => assumption); k_whole; intro D' t1' t2' h' tk' l1' F' N' hl1' hl2'; (try k_lt l1'))); (try k_sweep)))
local macro_rules | `(tactic| walk_at "call ref") => `(tactic| (k_here; (with_reducible show wpAny _ _ (call (Value.ref 21) _ _) _ _ _); k_dflt (first | (refine' parse_ok_N ?B ?F ?X ?N ?T ?hk ?hdp ?hun ?hlen ?hN ?_; (case B => k_asm); (case F => k_asm); (case X => k_asm); (case N => k_asm); (case T => k_asm); (case hk => first | exact rfl | assumption); (case hdp => (first | decide | ((try dsimp only [ktrTop]); (try simp only [depth_under_make, depth_under_kw, depth_in1, depth_deeper, depth_caller]); omega))); (case hun => (first | decide | ((try dsimp only [ktrTop]); (try simp only [units_under_make, units_in1, units_deeper, Around.mark_units, units_caller]); omega))); (case hlen => omega); (case hN => assumption); k_whole; intro D' t1' h' tk' l1' F' N'; (try k_lt l1')) | (refine' parse_ok_S ?B ?F ?X ?N ?T ?hk ?hdp ?hun ?hlen ?hS ?_; (case B => k_asm); (case F => k_asm); (case X => k_asm); (case N => k_asm); (case T => k_asm); (case hk => first | exact rfl | assumption); (case hdp => (first | decide | ((try dsimp only [ktrTop]); (try simp only [depth_under_make, depth_under_kw, depth_in1, depth_deeper, depth_caller]); omega))); (case hun => (first | decide | ((try dsimp only [ktrTop]); (try simp only [units_under_make, units_in1, units_deeper, Around.mark_units, units_caller]); omega))); (case hlen => omega); (case hS => assumption); k_whole; intro D' t1' t2' h' tk' l1' F' N' hl1' hl2'; (try k_lt l1'))); (try k_sweep)))
local macro_rules | `(tactic| walk_at "compareOp NotEq ref ref") => `(tactic| (k_here; k_dflt (first | (refine' ne_tup_SS ?N ?h1 ?h2 ?hu ?_; (case N => k_asm); (case h1 => k_mem); (case h2 => k_mem); (case hu => exact Nat.le_of_ble_eq_true rfl)) | (refine' ne_tup_SN ?N ?h1 ?h2 ?hu ?_; (case N => k_asm); (case h1 => k_mem); (case h2 => k_mem); (case hu => exact Nat.le_of_ble_eq_true rfl)) | (refine' ne_strs_nil ?nsL ?nsI ?nsK ?nsU ?_; (case nsL => exact News.isList (by k_asm) (by k_mem)); (case nsI => with_reducible assumption); (case nsK => exact News.isList (by k_asm) (by k_mem)); (case nsU => exact Nat.le_of_ble_eq_true rfl)))))
local macro_rules | `(tactic| walk_at "compareOp NotEq str str") => `(tactic| (k_here; (refine ne_same (by first | with_reducible rfl | with_reducible exact (codeOf_N (by assumption)).symm | with_reducible exact (codeOf_S (by assumption)).symm | with_reducible exact due_nil rfl | with_reducible exact due_nil (by assumption) | with_reducible exact due_N1 (by assumption) (by assumption) (by assumption) | with_reducible exact due_N0 (by assumption) (by assumption) (by assumption) | with_reducible exact due_S1 (by assumption) (by assumption) (by assumption) | with_reducible exact due_S0 (by assumption) (by assumption) (by assumption)) ?_)))
local macro_rules | `(tactic| walk_at "call ref") => `(tactic| (k_here; (with_reducible show wpAny _ _ (call (Value.ref 29) _ _) _ _ _); k_dflt (first | (refine' add_none ?B ?F ?X ?N ?T ?hk ?hdp ?hun ?hlen ?_; (case B => k_asm); (case F => k_asm); (case X => k_asm); (case N => k_asm); (case T => k_asm); (case hk => first | exact rfl | assumption); (case hdp => (first | decide | ((try dsimp only [ktrTop]); (try simp only [depth_under_make, depth_under_kw, depth_in1, depth_deeper, depth_caller]); omega))); (case hun => (first | decide | ((try dsimp only [ktrTop]); (try simp only [units_under_make, units_in1, units_deeper, Around.mark_units, units_caller]); omega))); (case hlen => omega); k_whole; intro t' h' tk' F' N') | (refine' add_rm2 ?B ?F ?X ?N ?T ?hk ?hdp ?hun ?hlen ?_; (case B => k_asm); (case F => k_asm); (case X => k_asm); (case N => k_asm); (case T => k_asm); (case hk => first | exact rfl | assumption); (case hdp => (first | decide | ((try dsimp only [ktrTop]); (try simp only [depth_under_make, depth_under_kw, depth_in1, depth_deeper, depth_caller]); omega))); (case hun => (first | decide | ((try dsimp only [ktrTop]); (try simp only [units_under_make, units_in1, units_deeper, Around.mark_units, units_caller]); omega))); (case hlen => omega); k_whole; intro t' h' tk' F' N' hcl') | (refine' add_ok2 ?B ?F ?X ?N ?T ?hk ?hdp ?hun ?hlen ?hpl ?hq ?hi ?hws ?hwl ?_; (case B => k_asm); (case F => k_asm); (case X => k_asm); (case N => k_asm); (case T => k_asm); (case hk => first | exact rfl | assumption); (case hdp => (first | decide | ((try dsimp only [ktrTop]); (try simp only [depth_under_make, depth_under_kw, depth_in1, depth_deeper, depth_caller]); omega))); (case hun => (first | decide | ((try dsimp only [ktrTop]); (try simp only [units_under_make, units_in1, units_deeper, Around.mark_units, units_caller]); omega))); (case hlen => omega); (case hpl => first | omega | decide); (case hq => k_mem); (case hi => first | with_reducible assumption | exact StrsAre.nil); (case hws => first | omega | decide); (case hwl => first | assumption | (intro z hz; nomatch hz)); k_whole; intro t' h' tk' F' N' hal')); (try k_sweep)))
local macro_rules | `(tactic| walk_at "exec Assign cons ListComp") => `(tactic| (k_here; k_dflt (refine LCg.Assign_ListComp_U (F₀ := by k_asm) (by rfl) (by with_unfolding_all rfl) (by rfl) (by decide) (by rfl) (by decide) (by rfl) (by rfl) (by rfl) ?_)))
local macro_rules | `(tactic| walk_at "CompSrc") => `(tactic| (k_here; k_dflt (refine' LCg.CompSrc.range ?c1 ?c2 ?c3 ?c4 ?c5 ?c6 ?c7 ?_; (case c1 => rfl); (case c2 => k_asm); (case c3 => k_asm); (case c4 => assumption); (case c5 => exact small_one (by decide) (by decide) (by omega) (by omega)); (case c6 => exact range_size (by omega)); (case c7 => (rw [PySem.sizeLine_eq]; omega)); intro g')))
local macro_rules | `(tactic| walk_at "CompRest") => `(tactic| (k_here; k_dflt (refine' rest_menuE ?r0 ?r1 ?r2 ?r3 ?_ ?_; (case r0 => decide +kernel); (case r1 => assumption); (case r2 => exact OwnOff.ne (by assumption) (by k_memK)); (case r3 => exact OwnOff.ne (by assumption) (by k_memK)); all_goals intros)))
local macro_rules | `(tactic| walk_at "eval Name") => `(tactic| (k_here; (with_reducible show wpAny _ _ (eval (Expr.Name _ _) (compEnvC _ _ _ _)) _ _ _); k_dflt (refine' ld_free ?lfN ?lfC ?lfM ?lfD ?_; (case lfN => k_asm); (case lfC => rfl); (case lfM => k_mem); (case lfD => assumption))))
local macro_rules | `(tactic| walk_at "CompEnd") => `(tactic| (k_dflt (refine' comp_end ?ceF ?ceN ?ceO ?ceZ ?ceK; (case ceF => k_asm); (case ceN => k_asm); (case ceO => assumption); (case ceZ => assumption); (case ceK => assumption))))
local macro_rules | `(tactic| walk_at "binaryOp Add str str") => `(tactic| (k_here; (with_reducible show wpAny _ _ (binaryOp Operator.Add (Value.str _ _) (Value.str _ _)) _ _ _); (refine KOpn.add (by kopn_len) ?_); intro _ _ _))
local macro_rules | `(tactic| walk_at "call builtin:str.join") => `(tactic| (k_here; k_dflt (refine' join_dd ?l ?i ?n ?m ?x ?w ?z ?_; (case l => exact News.isList (by k_asm) (by k_mem)); (case i => with_reducible assumption); (case n => assumption); (case m => assumption); (case x => decide); (case w => omega); (case z => assumption)); intro t' k' hj'))
local macro_rules | `(tactic| walk_at "call builtin:str.join") => `(tactic| (k_here; k_dflt (refine' join_ws ?l ?i ?x ?w ?z ?_; (case l => exact News.isList (by k_asm) (by k_mem)); (case i => with_reducible assumption); (case x => decide); (case w => omega); (case z => assumption)); intro t' k' hj'))
local macro_rules | `(tactic| walk_at "InvEndN") => `(tactic| (k_dflt (refine' turn_end ?teF ?teN ?teD ?teB ?teC ?teO ?teK ?teM ?teL; (case teF => k_asm); (case teN => k_asm); (case teD => k_mem); (case teB => k_mem); (case teC => k_mem); (case teO => (intro p hp; k_ownIn)); (case teK => assumption); (case teM => with_unfolding_all rfl); (case teL => omega))))
local macro_rules | `(tactic| walk_at "compareOp NotIn str ref") => `(tactic| (k_here; k_dflt (refine' notin_list_strs ?k1 ?k2 ?_; (case k1 => exact News.isList (by k_asm) (by k_mem)); (case k2 => with_reducible assumption))))
local macro_rules | `(tactic| walk_at "exec For Name Name cons nil") => `(tactic| (k_here; (with_reducible rename Fr _ _ _ _ => lF'); (with_unfolding_all refine' For_invVF lF' ?k1 ?k2 ?_; (case k1 => exact rfl); (case k2 => exact rfl); k_whole)))
local macro_rules | `(tactic| walk_at "pyIter ref") => `(tactic| (k_here; (with_reducible show wpAny _ _ (pyIter (Value.ref _)) (fun it s₂ => LoopAtV _ _ _ _ _ _ _ _ _ it s₂) _ _); (with_reducible rename Fr _ _ _ _ => lF'); (with_reducible rename News _ _ _ _ => lN'); (with_unfolding_all refine' iter_dedup ?hh ?hl ?hi lF' lN' ?hD (fun y' t' us' ys' n' h' tk' own' hy' hu' hl' hm' hown' hoff' F' N' => ?_) (fun u' us' n' h' tk' hu' hl' hm' F' N' => ?_); (case hh => exact rfl); (case hl => k_mem); (case hi => with_reducible assumption); (case hD => first | (intro p hp; refine Nat.ne_of_lt ?_; revert p hp; assumption) | k_all)); (all_goals (try clear lF' lN')); (all_goals (try k_fold))))
local macro_rules | `(tactic| k_all) => `(tactic| assumption)
local macro_rules | `(tactic| walk_at "InvEndG") => `(tactic| first
  | exact dd_endS (by assumption) (by k_asm) (by k_asm) (by assumption) (by first | assumption | (simp_all; done)) (by intro z hz; exact if_neg hz)
  | exact dd_endP (by assumption) (by k_asm) (by k_asm) (by assumption) (by first | assumption | (simp_all; done)) (by intro z hz; exact if_neg hz))
local macro_rules | `(tactic| walk_at "call builtin:len") => `(tactic| (k_here; k_dflt (refine' len_strsA ?leL ?leI ?leF ?_; (case leL => exact News.isList (by k_asm) (by k_mem)); (case leI => with_reducible assumption); (case leF => omega))))
local macro_rules | `(tactic| walk_at "subscriptTail Name Slice ref ref") => `(tactic| (k_here; k_dflt (refine' slice_init ?siF ?siN ?siL ?siP ?siQ ?siI ?siE ?_ ?siS ?siT ?siZ; (case siF => k_asm); (case siN => k_asm); (case siL => kmk_list); (case siP => kmk_part); (case siQ => kmk_part); (case siI => with_reducible assumption); (case siE => omega); (case siS => with_unfolding_all rfl); (case siT => kmk_pure); (case siZ => omega)); intro D' h' F' N' l1 hI'; (try k_lt l1); (try k_sweep)))
local macro_rules | `(tactic| walk_at "subscriptTail") => `(tactic| (k_here; (with_reducible show wpAny _ _ (subscriptTail (PySem.Expr.Name _ _) (PySem.Expr.UnaryOp _ _ _) _ _) _ _ _); k_dflt (refine' item_last ?ilL ?ilI ?ilE ?ilZ ?_ ?ilS; (case ilZ => assumption); (case ilL => exact News.isList (by k_asm) (by k_mem)); (case ilI => with_reducible assumption); (case ilE => omega); (case ilS => with_unfolding_all rfl)); intro t' hlast'))
local macro_rules | `(tactic| walk_at "eval IfExp") => `(tactic| (with_reducible refine IfExp_ ?_))
local macro_rules | `(tactic| walk_at "exec Assign cons IfExp") => `(tactic| (with_reducible refine wpAny_Assign_Name ?_ ?aiS; (case aiS => with_unfolding_all rfl)))
local macro_rules | `(tactic| walk_at "call builtin:str.join") => `(tactic| (k_here; k_dflt (refine' join_init ?jiL ?jiI ?jiX ?jiW ?jiZ ?_; (case jiL => exact News.isList (by k_asm) (by k_mem)); (case jiI => with_reducible assumption); (case jiX => decide); (case jiW => omega); (case jiZ => assumption)); intro t' k' hj'))
local macro_rules | `(tactic| walk_at "call ref") => `(tactic| (k_here; (with_reducible show wpAny _ _ (call (Value.ref 43) _ _) _ _ _); k_dflt (first | (refine' natural_ok ?B ?F ?X ?N ?T ?hk ?hdp ?hun ?hlen ?_; (case B => k_asm); (case F => k_asm); (case X => k_asm); (case N => k_asm); (case T => k_asm); (case hk => first | exact rfl | assumption); (case hdp => (first | decide | ((try dsimp only [ktrTop]); (try simp only [depth_under_make, depth_under_kw, depth_in1, depth_deeper, depth_caller]); omega))); (case hun => (first | decide | ((try dsimp only [ktrTop]); (try simp only [units_under_make, units_in1, units_deeper, Around.mark_units, units_caller]); omega))); (case hlen => first | omega | kopn_len); k_whole; intro t' h' tk' F' N' htk')); (try k_sweep)))
local macro_rules | `(tactic| walk_at "call ref") => `(tactic| (k_here; (with_reducible show wpAny _ _ (call (Value.ref 36) _ _) _ _ _); k_dflt (first | (refine' simplified_ok ?B ?F ?X ?N ?T ?hk ?hdp ?hun ?hlen ?_; (case B => k_asm); (case F => k_asm); (case X => k_asm); (case N => k_asm); (case T => k_asm); (case hk => first | exact rfl | assumption); (case hdp => (first | decide | ((try dsimp only [ktrTop]); (try simp only [depth_under_make, depth_under_kw, depth_in1, depth_deeper, depth_caller]); omega))); (case hun => (first | decide | ((try dsimp only [ktrTop]); (try simp only [units_under_make, units_in1, units_deeper, Around.mark_units, units_caller]); omega))); (case hlen => first | omega | kopn_len); k_whole; intro t' h' tk' F' N' htk')); (try k_sweep)))
local macro_rules | `(tactic| walk_at "execs cons") => `(tactic| ((with_reducible refine execs_consT ?tkN ?_; (case tkN => (try dsimp only); with_reducible assumption)); try dsimp only))
local macro_rules | `(tactic| walk_at "TokK") => `(tactic| ((unfold TokK); intro (htk9 : _ ≤ _); (try dsimp only at htk9); (try dsimp only)))
local macro_rules | `(tactic| walk_at "CompSrc") => `(tactic| (k_here; k_dflt (refine' LCg.CompSrc.range ?c1 ?c2 ?c3 ?c4 ?c5 ?c6 ?c7 ?_; (case c1 => rfl); (case c2 => k_asm); (case c3 => k_asm); (case c4 => assumption); (case c5 => exact small_one (by decide) (by decide) (by omega) (by omega)); (case c6 => exact range_size (by omega)); (case c7 => (rw [PySem.sizeLine_eq]; omega)); intro g')))
local macro_rules | `(tactic| walk_at "CompRest") => `(tactic| (k_here; k_dflt (refine' rest_menuI ?r0 ?r1 ?r2 ?r3 ?_ ?_; (case r0 => decide +kernel); (case r1 => assumption); (case r2 => exact OwnOff.ne (by assumption) (by k_memK)); (case r3 => exact OwnOff.ne (by assumption) (by k_memK)); all_goals intros)))
local macro_rules | `(tactic| walk_at "eval ListComp") => `(tactic| (k_here; k_dflt (refine LCg.ListComp_U (F₀ := by k_asm) (by with_unfolding_all rfl) (by decide) (by rfl) (by decide) (by rfl) ?_)))
local macro_rules | `(tactic| walk_at "compareOp NotEq str str") => `(tactic| (k_here; (with_reducible show wpAny _ _ (compareOp _ (Value.str (natText _) _) _) _ _ _); (with_reducible rename InM _ _ => hM9); (refine ne_same (by first | (refine' q_A1 hM9 ?qhe ?qhy ?qh1; (case qhy => with_reducible assumption); (case qh1 => with_reducible assumption); (case qhe => decide +kernel)) | (refine' q_C1 hM9 ?qhe ?qhy ?qh1; (case qhy => with_reducible assumption); (case qh1 => with_reducible assumption); (case qhe => decide +kernel)) | (refine' q_AM hM9 ?qhe ?qhy ?qh1; (case qhy => with_reducible assumption); (case qh1 => omega); (case qhe => decide +kernel)) | (refine' q_CM hM9 ?qhe ?qhy ?qh1; (case qhy => with_reducible assumption); (case qh1 => omega); (case qhe => decide +kernel))) ?_)))
local macro_rules | `(tactic| walk_at "compareOp NotEq str str") => `(tactic| (k_here; (with_reducible show wpAny _ _ (compareOp _ (Value.str (simpText _) _) _) _ _ _); (with_reducible rename InM _ _ => hM9); (refine ne_same (by first | (refine' q_B1 hM9 ?qhe ?qhy ?qh1; (case qhy => with_reducible assumption); (case qh1 => with_reducible assumption); (case qhe => decide +kernel)) | (refine' q_BM hM9 ?qhe ?qhy ?qh1; (case qhy => with_reducible assumption); (case qh1 => omega); (case qhe => decide +kernel)) | (refine' q_D hM9 ?qhe ?qhy ?qh1; (case qhy => with_reducible assumption); (case qh1 => omega); (case qhe => decide +kernel)) | (refine' q_E hM9 ?qhe ?qh1; (case qh1 => omega); (case qhe => decide +kernel))) ?_)))
local macro_rules | `(tactic| walk_at "call ref") => `(tactic| (k_here; (with_reducible show wpAny _ _ (call (Value.ref 51) _ _) _ _ _); k_dflt (first | (refine' remove_ok ?B ?F ?X ?N ?T ?hk ?hdp ?hun ?hlen ?hrT ?_; (case B => k_asm); (case F => k_asm); (case X => k_asm); (case N => k_asm); (case T => k_asm); (case hk => first | exact rfl | assumption); (case hdp => (first | decide | ((try dsimp only [ktrTop]); (try simp only [depth_under_make, depth_under_kw, depth_in1, depth_deeper, depth_caller]); omega))); (case hun => (first | decide | ((try dsimp only [ktrTop]); (try simp only [units_under_make, units_in1, units_deeper, Around.mark_units, units_caller]); omega))); (case hlen => omega); (case hrT => first | assumption | omega); k_whole; intro t' h' tk' F' N' htk') | (refine' remove2_ok ?B ?F ?X ?N ?T ?hk ?hdp ?hun ?hlen ?hrU ?hrV ?hrW ?_; (case B => k_asm); (case F => k_asm); (case X => k_asm); (case N => k_asm); (case T => k_asm); (case hk => first | exact rfl | assumption); (case hdp => (first | decide | ((try dsimp only [ktrTop]); (try simp only [depth_under_make, depth_under_kw, depth_in1, depth_deeper, depth_caller]); omega))); (case hun => (first | decide | ((try dsimp only [ktrTop]); (try simp only [units_under_make, units_in1, units_deeper, Around.mark_units, units_caller]); omega))); (case hlen => first | decide | omega); (case hrU => first | omega | (simp; omega) | (dsimp only; omega)); (case hrV => first | omega | (dsimp only; omega) | (simp; omega)); (case hrW => decide +kernel); k_whole; intro t' h' tk' F' N' htk')); (try k_sweep)))
local macro_rules | `(tactic| walk_at "eval ListComp") => `(tactic| (k_here; (with_reducible show wpAny _ _ (eval (PySem.Expr.ListComp _ [⟨_, _, [_], _⟩] _ _) _) _ _ _); k_dflt (refine' ListComp_TxT ?lcF ?lcT ?lcA ?lcB ?lcC ?lcD ?lcE ?_; (case lcF => k_asm); (case lcT => first | omega | (dsimp only; omega)); (case lcA => with_unfolding_all rfl); (case lcB => decide); (case lcC => rfl); (case lcD => decide); (case lcE => rfl))))
local macro_rules | `(tactic| walk_at "SrcTx") => `(tactic| (k_here; k_dflt (refine' SrcTx.intro ?txH ?txF ?txN ?txZ ?_; (case txH => rfl); (case txF => k_asm); (case txN => k_asm); (case txZ => omega)); intro g'))
local macro_rules | `(tactic| walk_at "CompRestT") => `(tactic| (k_here; k_dflt (refine' rest_letters (fun c => !(Builtin.Str.occurrences (PySem.Str.ofString "ab") (one c) 0 (PySem.Str.ofString "ab").length 1).isEmpty) ?_ ?_; all_goals intros)))
local macro_rules | `(tactic| walk_at "FinT") => `(tactic| ((unfold FinT); intro D' h' tk' F' N' o1' ht9'; (try simp only [LCg.Off1, and_true] at o1'); (try simp only [List.nil_append, List.cons_append] at N'); (try dsimp only)))
local macro_rules | `(tactic| walk_at "CompEnd") => `(tactic| ((with_reducible show LCg.CompEnd _ _ _ _ _ _ _ _ _ _ _ (fun _ _ => _ ∧ _) _ _); k_dflt (refine' comp_endL ?ceF ?ceN ?ceO ?ceR; (case ceF => k_asm); (case ceN => k_asm); (case ceO => assumption); (case ceR => first | exact ⟨rfl, by assumption, _, rfl⟩ | exact ⟨rfl, by assumption⟩ | exact ⟨rfl, congrArg (fun b : Bool => !b) (by assumption), _, rfl⟩ | exact ⟨rfl, congrArg (fun b : Bool => !b) (by assumption)⟩))))
local macro_rules | `(tactic| walk_at "compareOp Eq str str") => `(tactic| (k_here; (with_reducible show wpAny _ _ (compareOp _ (Value.str (remText _ _) _) (Value.str _ _)) _ _ _); (refine eq_same (by first | (with_reducible rename InM _ _ => hM9; refine' q_T hM9 ?qhe; (case qhe => decide +kernel)) | exact rem_bar) ?_)))
local macro_rules | `(tactic| walk_at "call builtin:str.join") => `(tactic| (k_here; k_dflt (refine' join_letters ?l ?i ?w ?x ?t9 ?_; (case l => exact News.isList (by k_asm) (by k_mem)); (case i => with_reducible assumption); (case w => (rw [Array.length_toList]; (show PySem.Str.length _ ≤ 4000); omega)); (case x => decide); (case t9 => first | assumption | omega | (dsimp only; omega))); intro t' k' hk9'))
set_option maxRecDepth 100000 in
set_option maxHeartbeats 0 in
theorem PySem.Challenge.cw_aq6039_01_holds : PySem.Challenge.rw_aq6039_01.Holds := by
  w_on; o_law; z_head; (case hw => w_witness2)
  intro w s₀ s₁ mg mb G y fa o pm cd doc dV kV ho hd hcd hD hmg hg args vals as L hpre hlay hrd hwl hlo
  z_open y L KZ ZH ZN ZT
  clear ZH
  have KX : (Mine.hd.heap_39 w.params).In s₁.heap := fun a o e => KZ a o (Mine.lookup_sub (by
    (try unfold Mine.hd.heap_39)
    repeat' (first | exact List.forall_mem_nil _ | refine List.forall_mem_cons.mpr ⟨by rfl, ?_⟩)) a o e)
  clear KZ
  revert KX; k_fill; intro KX
  have X := (Ground.X G).1
  have V := (Ground.X G).2
  try w_nolog (first | (have GL := glob_more (Ground.glob G (by first | k_qdec | decide +kernel) (by first | k_qdec | decide +kernel)) V) | (have GL := glob_more (Ground.glob G (by decide +kernel)) V))
  refine Ground.open G ?_
  intro T B D TE TW
  try (refine guard_noD D (by decide +kernel) ?_; clear D)
  obtain ⟨_, _, M⟩ := bmod_of_top T
  wrow_args hpre hlay hrd hwl hlo
  have htk := script_toks L ZT
  refine enter_call ?_
  refine codeAny_mono ?_ (fun _ _ g => GoodW.toG g)
  replace T : Top Mine.hd.view_39 _ _ mg mb s₁.heap := T
  have K0 := below_caller (Top.heap T)
  have he := Dflts.none hD rfl; subst he; have he := Dflts.noKw hD; subst he
  refine Mine.call_cellsT htk (by decide) ho (fd_plain hd) (Top.nolimit T) hcd rfl (kinds_of (by kinds_ok)) (by decide) fun h₁ tk₁ cells htk₁ F N0 X0 => ?_
  cells_open X0
  clear hcd hD hd ho hmg
  w_top off
  (all_goals try k_fold)
  k_steps
end
