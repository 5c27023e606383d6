import PyProof.Rows.All
import Wide.All
import OpenK.AllK
import Wide.FinOn
import PySem.Challenge.RW_sn0025_01
set_option Elab.async false
set_option maxRecDepth 100000
set_option maxHeartbeats 8000000
set_option pp.deepTerms false
set_option pp.deepTerms.threshold 4
set_option pp.maxSteps 3000
set_option linter.all false
set_option compiler.extract_closed false
section
example : True := by (w_top off; trivial)
open PySem PySem.W PyProof.Rows
namespace Mine
noncomputable def isP (_ : Program) : Bool := true
noncomputable def hx.tw3264022701338817279 : Program := by
  refine' (?f : isP PySem.Challenge.pw_sn0025_01 = true → Program) ?h
  case h => delta PySem.Challenge.pw_sn0025_01; k_qdec
  case f =>
    refine' (?k : (p : Program) → isP p = true → (isP PySem.Challenge.pw_sn0025_01 = true → Program)) _ Mine.hx.tw3264022701338817279._proof_1
    case k => exact fun p _ _ => p
theorem hx.te3264022701338817279 : PySem.Challenge.pw_sn0025_01 = hx.tw3264022701338817279 := by kernel_rfl
set_option Elab.async true in
theorem hx : isP PySem.Challenge.pw_sn0025_01 = true := by k_qdec
theorem hy : True := trivial
open_top hd for PySem.Challenge.rw_sn0025_01
end Mine
end
local macro_rules | `(tactic| omega) => `(tactic| lia)
section
example : True := by (w_top off; trivial)
open PySem PySem.W PyProof.Rows PySem.Calls PySem.Spec
namespace Mine
section
variable {prog : Program} {w : World} {A : Around} {E : Value → Shared → Prop} {s : Shared} {h₀ : Heap} {L : Addr} {m : Str → Option Value} {news : List (Addr × Obj)}
noncomputable def min3 (a b c : Int) : Int := if b < a then (if c < b then c else b) else (if c < a then c else a)
noncomputable def max3 (a b c : Int) : Int := if b > a then (if c > b then c else b) else (if c > a then c else a)
theorem min3_N {a b c : Int} {t u x : Tok} {Q : Value → Shared → Prop} (hh : A.handled = none) (F : Fr h₀ L s.heap m) (N : News h₀ L s.heap news)
    (h : ∀ h' tk tok, Fr h₀ L h' m → News h₀ L h' news → Q (.int (min3 a b c) tok) { s with heap := h', toks := tk }) :
    wpAny (model prog w) A (call (.builtin "min") [.int a t, .int b u, .int c x]) Q E s :=
  min_three_ints hh fun h' tk hk => by
    have key := fun tok => h h' tk tok (F.grownK hk) (N.grown hk)
    unfold min3 at key
    by_cases hba : b < a <;> by_cases hc1 : c < b <;> by_cases hc2 : c < a <;> simp only [hba, hc1, hc2, if_true, if_false] at key ⊢ <;> exact key _
theorem max3_N {a b c : Int} {t u x : Tok} {Q : Value → Shared → Prop} (hh : A.handled = none) (F : Fr h₀ L s.heap m) (N : News h₀ L s.heap news)
    (h : ∀ h' tk tok, Fr h₀ L h' m → News h₀ L h' news → Q (.int (max3 a b c) tok) { s with heap := h', toks := tk }) :
    wpAny (model prog w) A (call (.builtin "max") [.int a t, .int b u, .int c x]) Q E s :=
  max_three_ints hh fun h' tk hk => by
    have key := fun tok => h h' tk tok (F.grownK hk) (N.grown hk)
    unfold max3 at key
    by_cases hba : b > a <;> by_cases hc1 : c > b <;> by_cases hc2 : c > a <;> simp only [hba, hc1, hc2, if_true, if_false] at key ⊢ <;> exact key _
end
end Mine
end
section
example : True := by (w_top off; trivial)
open PySem PySem.W PyProof.Rows PySem.Calls PySem.Spec
namespace Mine
noncomputable abbrev CSpec (w : World) (c : Nat) (f : Addr) (vs : List Value) (news : List (Addr × Obj)) (Ret : Heap → Addr → (Str → Option Value) → Shared → (Value → Shared → Prop) → Prop) : Prop :=
  ∀ (loose : List Str) (mean : ExcName → Option Value) (mg mb : Str → Option Value) (dp un : Nat) (gd : Option (List Code)) (cn : Str) (cs : Scope) (a : Addr) (ccd : Value) (cl : List (Str × Addr)) (outer : List Env) (A₀ : Around) (base h₀ : Heap) (L : Addr) (m : Str → Option Value) (s : Shared) (Q E : Value → Shared → Prop),
    Below A₀ base outer h₀ → Fr h₀ L s.heap m → (Mine.hd.heap_39 w.params).In h₀ → News h₀ L s.heap news → Top topProg loose mean mg mb h₀ → cs.kind = .function → dp + c < recursionLimit → un + 8 * c < cLine → Ret h₀ L m s Q →
    wpAny (model PySem.Challenge.pw_sn0025_01 w) (ktrTop dp un gd cn cs L a ccd cl outer) (call (.ref f) vs) Q E s
noncomputable abbrev RInt (v : Int) (news : List (Addr × Obj)) (h₀ : Heap) (L : Addr) (m : Str → Option Value) (s : Shared) (Q : Value → Shared → Prop) : Prop :=
  ∀ (t : Tok) (h' : Heap) (tk' : Nat), Fr h₀ L h' m → News h₀ L h' news → Q (.int v t) { s with heap := h', toks := tk' }
noncomputable abbrev RStr (v : Str) (news : List (Addr × Obj)) (h₀ : Heap) (L : Addr) (m : Str → Option Value) (s : Shared) (Q : Value → Shared → Prop) : Prop :=
  ∀ (t : Tok) (h' : Heap) (tk' : Nat), Fr h₀ L h' m → News h₀ L h' news → Q (.str v t) { s with heap := h', toks := tk' }
end Mine
namespace Mine
noncomputable def tdiv (n k : Int) : UInt64 := Float64.ofFrac (decide (n < 0) != decide (k < 0)) n.natAbs k.natAbs
theorem tdiv_fin : ∀ n : Fin 9, ∀ k : Fin 9, k.val ≠ 0 → Float64.isInf (tdiv n.val k.val) = false := by decide +kernel
theorem tdiv_fin' {n k : Int} (hn : 0 ≤ n ∧ n ≤ 8) (hk : 1 ≤ k ∧ k ≤ 8) : ¬ Float64.isInf (tdiv n k) = true := by
  have := tdiv_fin ⟨n.toNat, by omega⟩ ⟨k.toNat, by omega⟩ (by simp; omega)
  simp only at this
  rw [show ((n.toNat : Nat) : Int) = n by omega, show ((k.toNat : Nat) : Int) = k by omega] at this
  rw [this]; decide
section
variable {prog : Program} {w : World} {A : Around} {E : Value → Shared → Prop} {s : Shared}
theorem div_small {n k : Int} {t u : Tok} {Q : Value → Shared → Prop} (hn : 0 ≤ n ∧ n ≤ 8) (hk : 1 ≤ k ∧ k ≤ 8) (h : Q (.float (tdiv n k) s.toks) { s with toks := s.toks + 1 }) :
    wpAny (model prog w) A (binaryOp .Div (.int n t) (.int k u)) Q E s :=
  AutoIntOps.truediv_2 (by simp; omega) (tdiv_fin' hn hk) h
end
end Mine
namespace Mine
noncomputable abbrev RTupF (h : UInt64) (news : List (Addr × Obj)) (h₀ : Heap) (L : Addr) (m : Str → Option Value) (s : Shared) (Q : Value → Shared → Prop) : Prop :=
  ∀ (D : Addr) (t1 : Tok) (x2 x3 : Value) (n : Nat) (h' : Heap) (tk' : Nat), Fr h₀ L h' m → News h₀ L h' ((D, { cls := .type "tuple", data := .seq #[.float h t1, x2, x3] n }) :: news) → (∀ p ∈ news, p.1 < D) → Q (.ref D) { s with heap := h', toks := tk' }
noncomputable def hsvF (r g b : Int) : UInt64 :=
  let M := max3 r g b
  let R := max3 r g b - min3 r g b
  (Float64.divmod (Float64.div (if r = M then Float64.sub (tdiv (M - b) R) (tdiv (M - g) R) else if g = M then Float64.sub (Float64.add 4611686018427387904 (tdiv (M - r) R)) (tdiv (M - b) R) else Float64.sub (Float64.add 4616189618054758400 (tdiv (M - g) R)) (tdiv (M - r) R)) 4618441417868443648) 4607182418800017408).snd
end Mine
namespace Mine
theorem end_tupF {h g : UInt64} {news : List (Addr × Obj)} {h₀ : Heap} {L : Addr} {m : Str → Option Value} {s : Shared} {Q : Value → Shared → Prop} {D : Addr} {t1 : Tok} {x2 x3 : Value} {n : Nat} {h' : Heap} {tk' : Nat}
    (hret : RTupF h news h₀ L m s Q) (F : Fr h₀ L h' m) (N : News h₀ L h' ((D, { cls := .type "tuple", data := .seq #[.float g t1, x2, x3] n }) :: news)) (l : ∀ p ∈ news, p.1 < D) (e : h = g) : Q (.ref D) { s with heap := h', toks := tk' } := by
  subst e
  exact hret _ _ _ _ _ _ _ F N l
end Mine
namespace Mine
theorem news_back {h₀ h h' g : Heap} {L L' : Addr} {m' : Str → Option Value} {lw lw' news : List (Addr × Obj)} (N₀ : News h₀ L h news) (Nw : News h₀ L h lw) (hG : GSub h g (lw.map (·.1))) (F' : Fr g L' h' m')
    (kN : News h₀ L h' lw') (hsub : ∀ p ∈ lw, p ∈ lw') : News h₀ L h' news := by
  intro p hp
  have h1 := N₀ p hp
  refine ⟨?_, h1.2⟩
  by_cases hm : p.1 ∈ lw.map (·.1)
  · obtain ⟨q, hq, e⟩ := List.mem_map.mp hm
    have h2 := (Nw q hq).1
    rw [e, h1.1] at h2
    have : p = q := Prod.ext e.symm (Option.some.inj h2)
    subst this
    exact (kN p (hsub p hq)).1
  · exact F'.keep _ _ (hG _ _ h1.1 hm)
end Mine
end
section
example : True := by (w_top off; trivial)
open PySem PySem.W PyProof.Rows PySem.Calls PySem.Spec
namespace Mine
section
variable {prog : Program} {w : World} {A : Around} {E : Value → Shared → Prop} {s : Shared} {env : Env}
theorem and_eq_eq {e1 e2 e3 e4 : Expr} {p1 p2 p : Pos} {whole : Sem Value} {a b c d : Int} {t1 t2 t3 t4 : Tok} {Q : Bool → Shared → Prop}
    (h1 : ∀ Q : Value → Shared → Prop, Q (.int a t1) s → wpAny (model prog w) A (eval e1 env) Q E s) (h2 : ∀ Q : Value → Shared → Prop, Q (.int b t2) s → wpAny (model prog w) A (eval e2 env) Q E s)
    (h3 : ∀ Q : Value → Shared → Prop, Q (.int c t3) s → wpAny (model prog w) A (eval e3 env) Q E s) (h4 : ∀ Q : Value → Shared → Prop, Q (.int d t4) s → wpAny (model prog w) A (eval e4 env) Q E s)
    (hm1 : behindInMarks .Eq e2 = false) (hm2 : behindInMarks .Eq e4 = false)
    (h : Q (decide (a = b ∧ c = d)) s) : wpAny (model prog w) A (isTrue (.BoolOp .And [.Compare e1 [.Eq] [e2] p1, .Compare e3 [.Eq] [e4] p2] p) env whole) Q E s := by
  refine isTrue_and (wpAny_isTrue_Compare1 (h1 _ (h2 _ (eq_int (wpAny_pure ?_)))) hm1)
  by_cases q : a = b
  · simp only [q, beq_self_eq_true, if_true]
    refine isTrue_and (wpAny_isTrue_Compare1 (h3 _ (h4 _ (eq_int (wpAny_pure ?_)))) hm2)
    by_cases r : c = d
    · simp only [r, beq_self_eq_true, if_true]
      refine isTrue_and_nil ?_
      simpa [q, r] using h
    · have : (c == d) = false := by simpa using r
      simp only [this, Bool.false_eq_true, if_false]
      simpa [q, r] using h
  · have : (a == b) = false := by simpa using q
    simp only [this, Bool.false_eq_true, if_false]
    simpa [q] using h
theorem ifexp_lt {h₀ : Heap} {L fa : Addr} {m : Str → Option Value} {cn : Str} {cs : Scope} {ccd : Value} {x : Str} {q1 q2 q3 q4 q5 p1 p2 p : Pos} {i1 i2 : Nat} {v k j : Int} {t : Tok} {Q : Value → Shared → Prop}
    (F : Fr h₀ L s.heap m) (hv : m x = some (.int v t)) (hk : cs.kind = .function) (hl : (envOf cn cs L fa ccd).kindOf x = some .local) (hd : (x == ("__debug__" : Str)) = false)
    (h : ∀ tk tok, Q (.int (if v < k then v else v - j) tok) { s with toks := tk }) : wpAny (model prog w) A (eval (.IfExp (.Compare (.Name x q1) [.Lt] [.Constant (.int k) i1 q2] p1) (.Name x q3) (.BinOp (.Name x q4) .Sub (.Constant (.int j) i2 q5) p2) p) (envOf cn cs L fa ccd)) Q E s := by
  refine IfExp_ (wpAny_isTrue_Compare1 (ld F hv (wpAny_Constant_int (lt_int (wpAny_pure ?_))) hk hl hd) rfl)
  by_cases q : v < k
  · simp only [q, decide_true, if_true]
    refine ld (s := { s with toks := s.toks + 1 }) F hv ?_ hk hl hd
    have := h (s.toks + 1) t
    simpa only [q, if_true] using this
  · simp only [q, decide_false, Bool.false_eq_true, if_false]
    refine wpAny_BinOp ?_
    refine ld (s := { s with toks := s.toks + 1 }) F hv (wpAny_Constant_int (sub_int ?_)) hk hl hd
    have := h (s.toks + 1 + 1 + 1) (s.toks + 1 + 1)
    simpa only [q, if_false] using this
end
end Mine
namespace Mine
section
variable {prog : Program} {w : World} {A : Around} {E : Value → Shared → Prop} {s : Shared} {h₀ : Heap} {L : Addr} {m : Str → Option Value} {news : List (Addr × Obj)}
theorem tup_item {value slice : Expr} {t : Addr} {vs : List Value} {n : Nat} {k : Int} {u : Tok} {j : Nat} {x : Value} {Q : Value → Shared → Prop} (N : News h₀ L s.heap news) (hm : (t, ({ cls := .type "tuple", data := .seq vs.toArray n } : Obj)) ∈ news)
    (hlo : -(2 ^ 63) ≤ k) (hhi : k < 2 ^ 63) (hj : seqIndex? k vs.length = some j) (hx : vs[j]? = some x) (h : Q x s)
    (hs : subscripted slice false (.ref t) (.int k u) = operate [.ref t, .int k u] (getItem (.ref t) (.int k u)) := by with_unfolding_all rfl) :
    wpAny (model prog w) A (subscriptTail value slice (.ref t) (.int k u)) Q E s :=
  item_tupleT ⟨_, (N _ hm).1, rfl, n, rfl⟩ hlo hhi hj hx h hs
theorem lst_item {value slice : Expr} {t : Addr} {vs : List Value} {n : Nat} {k : Int} {u : Tok} {x : Value} {Q : Value → Shared → Prop} (N : News h₀ L s.heap news) (hm : (t, ({ cls := .type "list", data := .seq vs.toArray n } : Obj)) ∈ news)
    (hlo : 0 ≤ k) (hhi : k < 2 ^ 63) (hx : vs[k.toNat]? = some x) (h : Q x s)
    (hs : subscripted slice false (.ref t) (.int k u) = operate [.ref t, .int k u] (getItem (.ref t) (.int k u)) := by with_unfolding_all rfl) :
    wpAny (model prog w) A (subscriptTail value slice (.ref t) (.int k u)) Q E s :=
  tail_any (Heap.IsList.typeIs ⟨_, (N _ hm).1, rfl, n, rfl⟩) slot_list_getitem.lookup (wpAny_getItem_list ⟨_, (N _ hm).1, rfl, n, rfl⟩ hlo hhi (by simpa using hx) h) hs
theorem lst_itemN {value slice : Expr} {t : Addr} {vs : List Value} {n : Nat} {k : Int} {u : Tok} {x : Value} {Q : Value → Shared → Prop} (N : News h₀ L s.heap news) (hm : (t, ({ cls := .type "list", data := .seq vs.toArray n } : Obj)) ∈ news)
    (hlo : k < 0) (hhi : -(vs.length : Int) ≤ k) (h63 : -(2 ^ 63) ≤ k) (hx : vs[(k + vs.length).toNat]? = some x) (h : Q x s)
    (hs : subscripted slice false (.ref t) (.int k u) = operate [.ref t, .int k u] (getItem (.ref t) (.int k u)) := by with_unfolding_all rfl) :
    wpAny (model prog w) A (subscriptTail value slice (.ref t) (.int k u)) Q E s :=
  tail_any (Heap.IsList.typeIs ⟨_, (N _ hm).1, rfl, n, rfl⟩) slot_list_getitem.lookup (wpAny_getItem_list_neg ⟨_, (N _ hm).1, rfl, n, rfl⟩ hlo (by simpa using hhi) h63 (by simpa using hx) h) hs
end
end Mine
end
section
example : True := by (w_top off; trivial)
open PySem PySem.W PyProof.Rows PySem.Calls PySem.Spec PyProof.V
namespace Mine
noncomputable def Stop (P : Prop) : Prop := P
theorem Stop.mk {P : Prop} (h : Stop P) : P := h
noncomputable def Hold (P : Prop) : Prop := P
section
variable {prog : Program} {w : World} {A : Around} {E : Value → Shared → Prop} {s : Shared} {env : Env} {h₀ : Heap} {x : Str} {body : List Stmt} {Q : Flow → Shared → Prop}
theorem rangeRest_ind {I : Addr} {a : Int} {n : Nat} {P : Nat → (Str → Option Value) → List (Addr × Obj) → Prop}
    (hend : ∀ m news, P n m news → ∀ h tk, Fr h₀ env.locals h m → News h₀ env.locals h news → Q .next { s with heap := h, toks := tk })
    (hstep : ∀ i m news, i < n → P i m news → ∀ t h tk, Fr h₀ env.locals h (fun y => if y = x then some (.int (a + (i : Int)) t) else m y) →
      News h₀ env.locals h ((I, itR (a + ((i + 1 : Nat) : Int)) ((n : Int) - ((i + 1 : Nat) : Int))) :: news) →
      wpAny (model prog w) A (execs body env) (UnrPost h₀ env.locals { s with heap := h, toks := tk } I (itR (a + ((i + 1 : Nat) : Int)) ((n : Int) - ((i + 1 : Nat) : Int))) (P (i + 1)) Q) E { s with heap := h, toks := tk }) :
    ∀ k i m news, i + k = n → P i m news → RangeRest prog w A E h₀ env x body Q s I a n k i m news
  | 0, i, m, news, e, hp => by
    obtain rfl : i = n := by omega
    exact hend m news hp
  | k + 1, i, m, news, e, hp => fun t h tk F N => by
    have hUE : ∀ s₂, UnrEnd h₀ env.locals { s with heap := h, toks := tk } I (itR (a + ((i + 1 : Nat) : Int)) ((n : Int) - ((i + 1 : Nat) : Int))) (P (i + 1)) s₂ →
        UnrEnd h₀ env.locals { s with heap := h, toks := tk } I (itR (a + ((i + 1 : Nat) : Int)) ((n : Int) - ((i + 1 : Nat) : Int))) (RangeRest prog w A E h₀ env x body Q s I a n k (i + 1)) s₂ := by
      rintro s₂ ⟨h', tk', m', news', e1, e2, e3, e4, e5⟩
      exact ⟨h', tk', m', news', e1, e2, e3, e4, rangeRest_ind hend hstep k (i + 1) m' news' (by omega) e5⟩
    refine wpAny_mono (hstep i m news (by omega) hp t h tk F N) (fun f s₂ hu => ?_) fun _ _ e => e
    cases f with
    | ret v => exact hu
    | brk => exact hu
    | next => exact hUE _ hu
    | cont => exact hUE _ hu
theorem iter_range_ind {r : Addr} {a b : Int} {t₀ u₀ v₀ : Tok} {m₀ : Str → Option Value} {news : List (Addr × Obj)} {P : Nat → (Str → Option Value) → List (Addr × Obj) → Prop}
    (hh : A.handled = none) (hr : IsRange s.heap r a b 1 t₀ u₀ v₀) (hab : a ≤ b ∧ -1000 ≤ a ∧ b ≤ 1000) (F : Fr h₀ env.locals s.heap m₀) (N : News h₀ env.locals s.heap news)
    (h0 : P 0 m₀ news)
    (hend : ∀ m news, P (b - a).toNat m news → ∀ h tk, Fr h₀ env.locals h m → News h₀ env.locals h news → Q .next { s with heap := h, toks := tk })
    (hstep : ∀ I i m news', i < (b - a).toNat → P i m news' → (∀ p ∈ news, p.1 < I) → ∀ t h tk, Fr h₀ env.locals h (fun y => if y = x then some (.int (a + (i : Int)) t) else m y) →
      News h₀ env.locals h ((I, itR (a + ((i + 1 : Nat) : Int)) (((b - a).toNat : Int) - ((i + 1 : Nat) : Int))) :: news') →
      wpAny (model prog w) A (execs body env) (UnrPost h₀ env.locals { s with heap := h, toks := tk } I (itR (a + ((i + 1 : Nat) : Int)) (((b - a).toNat : Int) - ((i + 1 : Nat) : Int))) (P (i + 1)) Q) E { s with heap := h, toks := tk }) :
    wpAny (model prog w) A (pyIter (.ref r)) (fun it s₂ => LoopAtV prog w A h₀ env x body Q E it s₂) E s := by
  refine iter_rangeUnr (n := (b - a).toNat) hh hr ?_ ?_ F N fun I hI => rangeRest_ind hend (fun i m news' hi hp => hstep I i m news' hi hp hI) _ 0 _ _ (by omega) h0
  · exact small_one (by omega) (by omega) (by omega) (by omega)
  · rw [rangeSize_one]; split <;> omega
end
theorem min3_of {a b c M : Int} (h1 : M ∈ [a, b, c]) (h2 : ∀ x, x ∈ [a, b, c] → M ≤ x) : M = min3 a b c := by
  have e1 := h2 a (by simp); have e2 := h2 b (by simp); have e3 := h2 c (by simp)
  simp only [List.mem_cons, List.not_mem_nil, or_false] at h1
  unfold min3; (repeat' split) <;> omega
theorem max3_of {a b c M : Int} (h1 : M ∈ [a, b, c]) (h2 : ∀ x, x ∈ [a, b, c] → x ≤ M) : M = max3 a b c := by
  have e1 := h2 a (by simp); have e2 := h2 b (by simp); have e3 := h2 c (by simp)
  simp only [List.mem_cons, List.not_mem_nil, or_false] at h1
  unfold max3; (repeat' split) <;> omega
section
variable {prog : Program} {w : World} {A : Around} {E : Value → Shared → Prop} {s : Shared} {h₀ : Heap} {L : Addr} {m : Str → Option Value} {news : List (Addr × Obj)}
theorem ints3 (a b c : Int) (t1 t2 t3 : Tok) : IntsAre [.int a t1, .int b t2, .int c t3] [a, b, c] := .cons _ _ (.cons _ _ (.cons _ _ .nil))
theorem min_l3 {l : Addr} {a b c : Int} {t1 t2 t3 : Tok} {ep : Nat} {Q : Value → Shared → Prop} (hh : A.handled = none) (F : Fr h₀ L s.heap m) (N : News h₀ L s.heap news) (hm : (l, PySem.W.listOf [Value.int a t1, Value.int b t2, Value.int c t3].toArray ep) ∈ news)
    (h : ∀ h' tk tok, Fr h₀ L h' m → News h₀ L h' news → Q (.int (min3 a b c) tok) { s with heap := h', toks := tk }) : wpAny (model prog w) A (call (.builtin "min") [.ref l]) Q E s :=
  kso_min F N ⟨_, (N _ hm).1, rfl, ep, rfl⟩ (ints3 a b c t1 t2 t3) (by simp) hh fun h' M t tk F' N' h1 h2 => by
    rw [min3_of h1 h2]; exact h h' tk t F' N'
theorem max_l3 {l : Addr} {a b c : Int} {t1 t2 t3 : Tok} {ep : Nat} {Q : Value → Shared → Prop} (hh : A.handled = none) (F : Fr h₀ L s.heap m) (N : News h₀ L s.heap news) (hm : (l, PySem.W.listOf [Value.int a t1, Value.int b t2, Value.int c t3].toArray ep) ∈ news)
    (h : ∀ h' tk tok, Fr h₀ L h' m → News h₀ L h' news → Q (.int (max3 a b c) tok) { s with heap := h', toks := tk }) : wpAny (model prog w) A (call (.builtin "max") [.ref l]) Q E s :=
  kso_max F N ⟨_, (N _ hm).1, rfl, ep, rfl⟩ (ints3 a b c t1 t2 t3) (by simp) hh fun h' M t tk F' N' h1 h2 => by
    rw [max3_of h1 h2]; exact h h' tk t F' N'
end
end Mine
end
section
example : True := by (w_top off; trivial)
open PySem PySem.W PyProof.Rows PySem.Calls PySem.Spec PyProof.V
namespace Mine
section
variable {prog : Program} {w : World} {A : Around} {E : Value → Shared → Prop} {s : Shared} {h₀ : Heap} {L : Addr} {m : Str → Option Value} {env : Env}
theorem compRest_ind {elt : Expr} {x : Str} {scope : Scope} {cl : List (Str × Addr)} {S : List (Addr × Obj) → Prop} {Pv : Nat → Value → Prop} {Fin : List Value → List (Addr × Obj) → Prop} {n : Nat}
    {P : Nat → List Value → List (Addr × Obj) → Prop}
    (hend : ∀ ys news, P n ys news → Fin ys news)
    (hstep : ∀ i ys news v, i < n → P i ys news → Pv i v → ∀ I oI C oC D m₂ h tk (E' : Value → Shared → Prop), LCg.NsObj oC m₂ → m₂ x = some v → Fr h₀ L h m → News h₀ L h ((I, oI) :: (C, oC) :: (D, LCg.lst ys) :: news) → LCg.Off3 I C D news →
      ((@Ne Nat I C) ∧ (@Ne Nat I D) ∧ (@Ne Nat C D)) →
      wpAny (model prog w) A (eval elt (compEnvC scope cl C env)) (LCg.CompEnd h₀ L m { s with heap := h, toks := tk } I oI C oC D (LCg.lst ys) S (fun y news' => P (i + 1) (ys ++ [y]) news')) E' { s with heap := h, toks := tk }) :
    ∀ k i ys news, i + k = n → P i ys news → LCg.CompRest prog w A h₀ L m env elt x scope cl s S Pv Fin k i ys news
  | 0, i, ys, news, e, hp => by
    obtain rfl : i = n := by omega
    exact hend ys news hp
  | k + 1, i, ys, news, e, hp => fun v I oI C oC D m₂ h tk E' hv hC hx F N off ne => by
    refine wpAny_mono (hstep i ys news v (by omega) hp hv I oI C oC D m₂ h tk E' hC hx F N off ne) (fun y s₂ hu => ?_) fun _ _ e => e
    obtain ⟨h', tk', news', e1, e2, e3, e4, e5, e6⟩ := hu
    exact ⟨h', tk', news', e1, e2, e3, e4, e5, compRest_ind hend hstep k (i + 1) _ news' (by omega) e6⟩
theorem lc_pure {elt iter : Expr} {x : Str} {px : Pos} {scope : Scope} {cl : List (Str × Addr)} {pos : Pos} {Q : Value → Shared → Prop} {ax : Addr} {its : List Value} {ep : Nat} {news : List (Addr × Obj)} {R : Nat → Value → Prop}
    (hh : A.handled = none) (F : Fr h₀ L s.heap m) (N : News h₀ L s.heap news) (hm : (ax, PySem.W.listOf its.toArray ep) ∈ news) (hsz : its.length ≤ sizeLine)
    (hiter : ∀ Q : Value → Shared → Prop, Q (.ref ax) s → wpAny (model prog w) A (eval iter env) Q E s)
    (hclos : closureFor scope env = pure cl) (hcell : ∀ y ∈ scope.names, y.2 ≠ .cell) (hkind : scope.kind = .function)
    (hnames : ∀ y ∈ scope.names, y.2 = .local → scope.names.lookup y.1 = some .local) (hx : scope.names.lookup x = some .local)
    (hs : ∀ x, foldedSetIterable iter env x = pure x)
    (helt : ∀ i v, its[i]? = some v → ∀ C oC m₂ h tk (E' Qe : Value → Shared → Prop) news', LCg.NsObj oC m₂ → m₂ x = some v → Fr h₀ L h m → News h₀ L h ((C, oC) :: news') → (∀ p ∈ news, p ∈ news') → (∀ y tk', R i y → Qe y { s with heap := h, toks := tk' }) →
      wpAny (model prog w) A (eval elt (compEnvC scope cl C env)) Qe E' { s with heap := h, toks := tk })
    (hfin : ∀ D h tk ys, ys.length = its.length → (∀ i y, ys[i]? = some y → R i y) → Fr h₀ L h m → News h₀ L h ((D, LCg.lst ys) :: news) → (∀ p ∈ news, p.1 ≠ D) → Q (.ref D) { s with heap := h, toks := tk }) :
    wpAny (model prog w) A (eval (.ListComp elt [⟨.Name x px, iter, [], 0⟩] scope pos) env) Q E s := by
  refine LCg.ListComp_U F hclos hcell hkind hnames hx (hiter _ ?_) hs
  refine LCg.CompSrc.ledger hh F N hm (by simpa using hsz) fun g => ?_
  have hstep : ∀ i ys news₁ v, i < its.toArray.size → (ys.length = i ∧ news₁ = news ∧ ∀ j y, ys[j]? = some y → R j y) → its.toArray[i]? = some v →
      ∀ I oI C oC D m₂ h tk (E' : Value → Shared → Prop), LCg.NsObj oC m₂ → m₂ x = some v → Fr h₀ L h m → News h₀ L h ((I, oI) :: (C, oC) :: (D, LCg.lst ys) :: news₁) → LCg.Off3 I C D news₁ →
      ((@Ne Nat I C) ∧ (@Ne Nat I D) ∧ (@Ne Nat C D)) →
      wpAny (model prog w) A (eval elt (compEnvC scope cl C env)) (LCg.CompEnd h₀ L m { s with heap := h, toks := tk } I oI C oC D (LCg.lst ys) (LCg.SrcAt h₀ ax its.toArray) (fun y news' => (ys ++ [y]).length = i + 1 ∧ news' = news ∧ ∀ j z, (ys ++ [y])[j]? = some z → R j z)) E' { s with heap := h, toks := tk } := by
    rintro i ys news₁ v hi ⟨hl, rfl, hR⟩ hv I oI C oC D m₂ h tk E' hC hx2 F' N' off ne
    refine helt i v (by simpa using hv) C oC m₂ h tk E' _ ((I, oI) :: (D, LCg.lst ys) :: news₁) hC hx2 F' (fun p hp => N' p ?_) (fun p hp => .tail _ (.tail _ hp)) fun y tk' hy => ?_
    · simp only [List.mem_cons] at hp ⊢
      rcases hp with h | h | h | h
      · exact .inr (.inl h)
      · exact .inl h
      · exact .inr (.inr (.inl h))
      · exact .inr (.inr (.inr h))
    · refine ⟨h, tk', news₁, rfl, F', N', off, .inr ⟨_, hm, rfl, _, rfl⟩, by simp [hl], rfl, fun j z hz => ?_⟩
      rw [List.getElem?_append] at hz
      split at hz
      · exact hR j z hz
      · have : j = i := by
          have := List.getElem?_eq_some_iff.mp hz
          obtain ⟨h1, _⟩ := this
          simp at h1; omega
        subst this
        have : y = z := by simpa [hl] using hz
        subst this
        exact hy
  refine compRest_ind (s := { s with heap := g }) (n := its.toArray.size) (P := fun i ys news₁ => ys.length = i ∧ news₁ = news ∧ ∀ j y, ys[j]? = some y → R j y) ?_ hstep its.toArray.size 0 [] news (Nat.zero_add _) ⟨rfl, rfl, by simp⟩
  rintro ys news₁ ⟨hl, rfl, hR⟩ D h tk F' N' off
  exact hfin D h tk ys (by simpa using hl) hR F' N' (fun p hp e => by
    have : ∀ l : List (Addr × Obj), LCg.Off1 D l → ∀ p ∈ l, p.1 ≠ D := by
      intro l; induction l with
      | nil => intro _ p hp; cases hp
      | cons q r ih => intro ho p hp; rcases List.mem_cons.mp hp with rfl | hp; exact ho.1; exact ih ho.2 p hp
    exact this _ off p hp e)
end
end Mine
namespace Mine
section
variable {prog : Program} {w : World} {A : Around} {E : Value → Shared → Prop} {s : Shared} {h₀ : Heap} {L fa : Addr} {m : Str → Option Value} {cn : Str} {cs : Scope} {ccd : Value}
noncomputable abbrev oneScope : Scope := { kind := .function, names := [(Str.ofString ".0", .local), (Str.ofString "one", .local)], isGenerator := false, isCoroutine := false, more := [] }
theorem lc_item3 {j : Int} {jj : Nat} {p1 p2 p3 p4 p5 pos : Pos} {k1 : Nat} {Q : Value → Shared → Prop} {ax a1 a2 a3 : Addr} {ep n1 n2 n3 : Nat} {vs1 vs2 vs3 : List Value} {z1 z2 z3 : Value} {news : List (Addr × Obj)} {it : Str}
    (hh : A.handled = none) (F : Fr h₀ L s.heap m) (N : News h₀ L s.heap news) (hv : m it = some (.ref ax)) (hk : cs.kind = .function) (hl : (envOf cn cs L fa ccd).kindOf it = some .local) (hd : (it == ("__debug__" : Str)) = false)
    (hm : (ax, PySem.W.listOf [Value.ref a1, .ref a2, .ref a3].toArray ep) ∈ news)
    (h1 : (a1, ({ cls := .type "tuple", data := .seq vs1.toArray n1 } : Obj)) ∈ news) (h2 : (a2, ({ cls := .type "tuple", data := .seq vs2.toArray n2 } : Obj)) ∈ news) (h3 : (a3, ({ cls := .type "tuple", data := .seq vs3.toArray n3 } : Obj)) ∈ news)
    (hj1 : -(2 ^ 63) ≤ j) (hj2 : j < 2 ^ 63) (i1 : seqIndex? j vs1.length = some jj) (i2 : seqIndex? j vs2.length = some jj) (i3 : seqIndex? j vs3.length = some jj) (x1 : vs1[jj]? = some z1) (x2 : vs2[jj]? = some z2) (x3 : vs3[jj]? = some z3)
    (hclos : closureFor oneScope (envOf cn cs L fa ccd) = pure [])
    (hsub : ∀ k1 p2 p3 p5 t u, subscripted (.Constant (.int j) k1 p3) false (.ref t) (.int j u) = operate [.ref t, .int j u] (getItem (.ref t) (.int j u)) ∧ (∀ (x : Value), foldedSetIterable (.Name it p5) (envOf cn cs L fa ccd) x = pure x) ∧ p2 = (p2 : Pos))
    (h : ∀ D h tk, Fr h₀ L h m → News h₀ L h ((D, PySem.W.listOf [z1, z2, z3].toArray 3) :: news) → (∀ p ∈ news, p.1 ≠ D) → Q (.ref D) { s with heap := h, toks := tk }) :
    wpAny (model prog w) A (eval (.ListComp (.Subscript (.Name (Str.ofString "one") p1) (.Constant (.int j) k1 p2) p3) [⟨.Name (Str.ofString "one") p4, .Name it p5, [], 0⟩] oneScope pos) (envOf cn cs L fa ccd)) Q E s := by
  refine lc_pure (R := fun i y => [z1, z2, z3][i]? = some y) hh F N hm (Nat.le_of_ble_eq_true rfl) (fun _ hq => ld F hv hq hk hl hd) hclos (by decide) rfl (by decide) (by decide) (fun x => (hsub 0 p2 p2 p5 0 0).2.1 x) ?_ ?_
  · intro i v hi C oC m₂ h' tk E' Qe news' hC hx F' N' hs hq
    have key : ∃ a n vs z, v = .ref a ∧ (a, ({ cls := .type "tuple", data := .seq vs n } : Obj)) ∈ news ∧ ∃ l : List Value, vs = l.toArray ∧ seqIndex? j l.length = some jj ∧ l[jj]? = some z ∧ [z1, z2, z3][i]? = some z := by
      match i, hi with
      | 0, hi => cases hi; exact ⟨a1, n1, _, z1, rfl, h1, vs1, rfl, i1, x1, rfl⟩
      | 1, hi => cases hi; exact ⟨a2, n2, _, z2, rfl, h2, vs2, rfl, i2, x2, rfl⟩
      | 2, hi => cases hi; exact ⟨a3, n3, _, z3, rfl, h3, vs3, rfl, i3, x3, rfl⟩
      | _ + 3, hi => cases hi
    obtain ⟨a, n, vs, z, rfl, hmem, l, rfl, e1, e2, e3⟩ := key
    refine Subscript_ (LCgL.ld_own N' (.head _) hC hx (wpAny_Constant_int ?_))
    exact tup_item (s := { s with heap := h', toks := tk + 1 }) (fun p hp => N' p hp) (.tail _ (hs _ hmem)) hj1 hj2 e1 e2 (hq _ _ e3) (hsub _ p2 p2 p5 _ _).1
  · intro D h' tk ys hlen hR F' N' hne
    have : ys = [z1, z2, z3] := by
      apply List.ext_getElem?
      intro i
      by_cases hi : i < ys.length
      · rw [hR i _ (List.getElem?_eq_getElem hi)]; exact List.getElem?_eq_getElem hi
      · rw [List.getElem?_eq_none (by omega), List.getElem?_eq_none (by simp at hlen ⊢; omega)]
    subst this
    exact h D h' tk F' N' hne
end
end Mine
namespace Mine
theorem strs_snoc {vs : List Value} {ys : List Str} {y : Str} {t : Tok} (h : StrsAre vs ys) : StrsAre (vs ++ [.str y t]) (ys ++ [y]) := by
  induction h with
  | nil => exact .cons _ _ .nil
  | cons n t _ ih => exact .cons _ _ ih
theorem strs_len {vs : List Value} {ys : List Str} (h : StrsAre vs ys) : vs.length = ys.length := by
  induction h with
  | nil => rfl
  | cons _ _ _ ih => simp [ih]
section
variable {prog : Program} {w : World} {A : Around} {E : Value → Shared → Prop} {s : Shared} {env : Env} {h₀ : Heap} {x : Str} {body : List Stmt} {Q : Flow → Shared → Prop}
theorem iter_acc {r D : Addr} {a b : Int} {t₀ u₀ v₀ : Tok} {m₀ : Str → Option Value} {rest : List (Addr × Obj)} {vs : List Value} {ep : Nat} (Ys : Nat → List Str) (fy : Str)
    (hh : A.handled = none) (hr : IsRange s.heap r a b 1 t₀ u₀ v₀) (hab : a ≤ b ∧ -1000 ≤ a ∧ b ≤ 1000) (F : Fr h₀ env.locals s.heap m₀) (N : News h₀ env.locals s.heap ((D, PySem.W.listOf vs.toArray ep) :: rest))
    (h00 : StrsAre vs (Ys 0))
    (hend : ∀ ox oy vs' ep' h tk, StrsAre vs' (Ys (b - a).toNat) → Fr h₀ env.locals h (fun z => if z = x then ox else if z = fy then oy else m₀ z) → News h₀ env.locals h ((D, PySem.W.listOf vs'.toArray ep') :: rest) → Q .next { s with heap := h, toks := tk })
    (hstep : ∀ I i vs' ep' oy t h tk, i < (b - a).toNat → StrsAre vs' (Ys i) → (∀ p ∈ (D, PySem.W.listOf vs.toArray ep) :: rest, p.1 < I) → Fr h₀ env.locals h (fun z => if z = x then some (.int (a + (i : Int)) t) else if z = fy then oy else m₀ z) →
      News h₀ env.locals h ((I, itR (a + ((i + 1 : Nat) : Int)) (((b - a).toNat : Int) - ((i + 1 : Nat) : Int))) :: (D, PySem.W.listOf vs'.toArray ep') :: rest) →
      wpAny (model prog w) A (execs body env) (UnrPost h₀ env.locals { s with heap := h, toks := tk } I (itR (a + ((i + 1 : Nat) : Int)) (((b - a).toNat : Int) - ((i + 1 : Nat) : Int)))
        (fun m' n' => Hold (∃ ox oy vs'' ep'', (∀ z, m' z = if z = x then ox else if z = fy then oy else m₀ z) ∧ n' = (D, PySem.W.listOf vs''.toArray ep'') :: rest ∧ StrsAre vs'' (Ys (i + 1)))) Q) E { s with heap := h, toks := tk }) :
    wpAny (model prog w) A (pyIter (.ref r)) (fun it s₂ => LoopAtV prog w A h₀ env x body Q E it s₂) E s := by
  refine iter_range_ind (P := fun i m' n' => Hold (∃ ox oy vs'' ep'', (∀ z, m' z = if z = x then ox else if z = fy then oy else m₀ z) ∧ n' = (D, PySem.W.listOf vs''.toArray ep'') :: rest ∧ StrsAre vs'' (Ys i))) hh hr hab F N ?_ ?_ ?_
  · refine ⟨m₀ x, m₀ fy, vs, ep, fun z => ?_, rfl, h00⟩
    split
    · rename_i h; rw [h]
    · split
      · rename_i h; rw [h]
      · rfl
  · rintro m news ⟨ox, oy, vs', ep', hm, rfl, hs⟩ h tk F' N'
    obtain rfl : m = _ := funext hm
    exact hend ox oy vs' ep' h tk hs F' N'
  · rintro I i m news hi ⟨ox, oy, vs', ep', hm, rfl, hs⟩ hI t h tk F' N'
    obtain rfl : m = _ := funext hm
    refine hstep I i vs' ep' oy t h tk hi hs hI ?_ N'
    have : (fun y => if y = x then some (Value.int (a + (i : Int)) t) else (fun z => if z = x then ox else if z = fy then oy else m₀ z) y) = (fun z => if z = x then some (Value.int (a + (i : Int)) t) else if z = fy then oy else m₀ z) := by
      funext y; by_cases q : y = x <;> simp [q]
    rw [this] at F'
    exact F'
end
end Mine
namespace Mine
theorem news_drop2 {g h : Heap} {L : Addr} {a b : Addr × Obj} {rest : List (Addr × Obj)} (N : News g L h (a :: b :: rest)) : News g L h rest := fun p hp => N p (.tail _ (.tail _ hp))
theorem news_pick {g h : Heap} {L : Addr} {a b c d : Addr × Obj} {rest : List (Addr × Obj)} (N : News g L h (a :: b :: c :: d :: rest)) : News g L h (d :: c :: rest) := fun p hp => N p (by
  simp only [List.mem_cons] at hp ⊢
  rcases hp with h | h | h
  · exact .inr (.inr (.inr (.inl h)))
  · exact .inr (.inr (.inl h))
  · exact .inr (.inr (.inr (.inr h))))
end Mine
namespace Mine
theorem news_backD {h₀ h h' g : Heap} {L L' D : Addr} {m' : Str → Option Value} {o : Obj} {lw lw' lg news : List (Addr × Obj)} (N₀ : News h₀ L h news) (Nw : News h₀ L h lw) (hG : GSub h g (lw.map (·.1))) (F' : Fr g L' h' m')
    (kN : News h₀ L h' lw') (hsub : ∀ p ∈ lw, p ∈ lw') (NG : News g L' h' lg) (hD : (D, o) ∈ lw') (hD2 : (D, o) ∈ lg) (hoff : ∀ p ∈ lw, p.1 ≠ D) : News h₀ L h' ((D, o) :: news) ∧ ∀ p ∈ news, p.1 ≠ D := by
  refine ⟨fun p hp => ?_, fun p hp e => ?_⟩
  · rcases List.mem_cons.mp hp with rfl | hp
    · exact kN _ hD
    · exact news_back N₀ Nw hG F' kN hsub p hp
  · by_cases hm : p.1 ∈ lw.map (·.1)
    · obtain ⟨q, hq, e2⟩ := List.mem_map.mp hm
      exact hoff q hq (e2.trans e)
    · have h1 := hG _ _ (N₀ p hp).1 hm
      have h2 := (NG _ hD2).2.2
      rw [e] at h1
      rw [h1] at h2
      cases h2
end Mine
namespace Mine
theorem unr_second {h₀ : Heap} {L I : Addr} {it : Obj} {rest : (Str → Option Value) → List (Addr × Obj) → Prop} {s₁ : Shared} {h' : Heap} {tk : Nat} {m' : Str → Option Value} {d : Addr × Obj} {tl : List (Addr × Obj)} (F : Fr h₀ L h' m') (N : News h₀ L h' (d :: (I, it) :: tl))
    (off : ∀ p ∈ d :: tl, p.1 ≠ I) (r : rest m' (d :: tl)) : UnrEnd h₀ L s₁ I it rest { s₁ with heap := h', toks := tk } :=
  UnrEnd.intro F N (d :: tl) (fun p hp => by
    simp only [List.mem_cons] at hp ⊢
    rcases hp with h | h | h
    · exact .inr (.inl h)
    · exact .inl h
    · exact .inr (.inr h)) off r
theorem unr_first {h₀ : Heap} {L I : Addr} {it : Obj} {rest : (Str → Option Value) → List (Addr × Obj) → Prop} {s₁ : Shared} {h' : Heap} {tk : Nat} {m' : Str → Option Value} {tl : List (Addr × Obj)} (F : Fr h₀ L h' m') (N : News h₀ L h' ((I, it) :: tl))
    (off : ∀ p ∈ tl, p.1 ≠ I) (r : rest m' tl) : UnrEnd h₀ L s₁ I it rest { s₁ with heap := h', toks := tk } :=
  UnrEnd.intro F N tl (fun p hp => hp) off r
end Mine
end
section
example : True := by (w_top off; trivial)
open PySem PySem.W PyProof.Rows PySem.Calls PySem.Spec PyProof.V
namespace Mine
section
variable {prog : Program} {w : World} {A₀ A : Around} {s : Shared} {base h₀ : Heap} {outer : List Env} {L : Addr} {m mg mb : Str → Option Value} {env : Env} {news : List (Addr × Obj)} {K : Frag} {p : Program} {loose : List Str} {mean : ExcName → Option Value}
  {R : Result → Shared → Prop} {name qual : Str} {params : Arguments} {body : List Stmt} {scope : Scope} {dV kV doc pm cdv ct oc : Value} {an od : Option Addr} {osl : Array (Option Value)} {f : Addr} {args : Args} {binds : List (Str × Value)}
/-- a def with cells entered, and what stood beside the ledger stands in the callee's old heap -/
theorem enter_cellsG (B : Below A₀ base outer h₀) (F : Fr h₀ L s.heap m) (X₀ : K.In h₀) (N : News h₀ L s.heap news) (T : Top p loose mean mg mb h₀) (hA : A.frames = some (env :: outer)) (hf : env.frame = some L) (hke : env.scope.kind = .function)
    (ho : K.lookup f = some ⟨oc, od, .func (fnOf name qual params body scope dV kV doc pm an cdv ct), osl⟩) (hcd : codeIn K cdv qual = true) (hroom : A.depth < recursionLimit)
    (hbind : BindsTo s (fnOf name qual params body scope dV kV doc pm an cdv ct) args binds) (hkind : (binds.all fun y => scope.names.lookup y.1 == some .local || scope.names.lookup y.1 == some .cell) = true)
    (hnd : ((cellsFrom 0 scope.names []).map (·.1)).Nodup)
    (h : ∀ g L' h₁ tk cells, Fr h₀ L g m → Fr g L' h₁ (bindL (envOfC qual scope L' f cdv).kindOf binds fun _ => none) → News g L' h₁ (cells ++ news) →
      CellsAre (bindC (envOfC qual scope L' f cdv).kindOf binds fun _ => none) (cellsFrom (L' + 1) scope.names []) cells → Below A base (env :: outer) g → K.In g → Top p loose mean mg mb g → (∀ p ∈ news, p.1 < L') → GSub s.heap g (news.map (·.1)) →
      wpAny (model prog w) (A.deeper (envOfC qual scope L' f cdv)) (execs body (envOfC qual scope L' f cdv))
        (fun fl s' => LeaveK h₀ L m g R (match fl with | .ret v => v | _ => .none) s')
        (fun e s' => wpAny (model prog w) (A.deeper (envOfC qual scope L' f cdv)) (leaving (envOfC qual scope L' f cdv) e) (fun _ s'' => R (.error e) s'') (fun e' s'' => R (.error e') s'') s')
        { s with heap := h₁, toks := tk })
    (hco : scope.isCoroutine = false) (hgen : scope.isGenerator = false) (hk : scope.kind = .function) : codeAny (model prog w) A (.call (.ref f) args) R s := by
  obtain ⟨FG, BG, st, lv⟩ := groundX (R := R) B F N hA hf hke
  have Xs := X₀.keeps F.keep
  refine codeAny_call_function hroom (Xs _ _ ho) rfl hco hgen rfl (codeRec_of Xs hcd) (hbind _ _ _ _ ?_)
  refine wpAny_newFunctionEnv_cells hk (kindsX hkind _) fun env' he s' x => ?_
  subst he
  refine ⟨(T.nolimit.keeps F.keep).keeps x.toInCall.keep, codeAny_func ?_⟩
  obtain ⟨h₁, tk, rfl, _⟩ := x.done
  have hk₁ := x.toInCall.keep
  obtain ⟨cells, NC, Y⟩ := Cl.news (h₀ := s.heap) (Nat.le_refl _) fun n c hm => ⟨x.cell n c (lookup_of_mem_nodup (cellsFrom_names scope.names 0 (s.heap.objs.size + 1) [] [] rfl ▸ hnd) hm), x.above n c hm⟩
  have hlt : ∀ p ∈ news, p.1 < s.heap.objs.size := fun p hp => Heap.lt_size (N p hp).1
  have NN : News (hideAll s.heap (news.map (·.1))) s.heap.objs.size h₁ (cells ++ news) := fun p hp => by
    rcases List.mem_append.mp hp with hp | hp
    · refine ⟨(NC p hp).1, (NC p hp).2.1, ?_⟩
      cases q : (hideAll s.heap (news.map (·.1))).get? p.1 with
      | none => rfl
      | some o => exact absurd ((NC p hp).2.2.symm.trans (of_hideAll _ q)) (by simp)
    · exact ⟨hk₁ _ _ (N p hp).1, Nat.ne_of_lt (hlt p hp), hideAll_none _ (List.mem_map_of_mem hp)⟩
  have FF : Fr (hideAll s.heap (news.map (·.1))) s.heap.objs.size h₁ _ := ⟨x.toInCall.ns, fun b o e => hk₁ b o (of_hideAll _ e), Nat.le_of_eq (hideAll_size _ _)⟩
  exact wpAny_mono (h _ s.heap.objs.size h₁ tk cells FG FF NN Y BG (X₀.keeps st) (T.keeps st) hlt (fun b o e n => hideAll_get _ e n)) (fun fl s' hl => lv _ _ hl) fun _ _ y => y
end
end Mine
end
section
example : True := by (w_top off; trivial)
open PySem PySem.W PyProof.Rows PySem.Calls PySem.Spec PyProof.V
namespace Mine
/-- where a def with an inner def keeps the inner code: empty, or holding it once -/
noncomputable def TabP (P : Addr) (pl pc : Nat) (qual : Str) (ps : Array Value) (c : Addr) (o : Obj) : Prop :=
  (ps = #[] ∧ c = P ∧ o = tabObj #[]) ∨ (ps = #[rawInt pl, rawInt pc, .ref c] ∧ ∃ vs t, o.data = .fields vs ∧ vs[1]? = some (.str qual t))
noncomputable abbrev TL (ps1 : Array Value) (c1 : Addr) (o1 : Obj) (ps2 : Array Value) (c2 : Addr) (o2 : Obj) : List (Addr × Obj) := [(54, tabObj ps1), (c1, o1), (47, tabObj ps2), (c2, o2)]
inductive Spl (T : List (Addr × Obj)) : List (Addr × Obj) → List (Addr × Obj) → Prop
  | nil : Spl T T []
  | cons {e : Addr × Obj} {lw rest : List (Addr × Obj)} : Spl T lw rest → Spl T (e :: lw) (e :: rest)
theorem Spl.eq {T lw rest : List (Addr × Obj)} (h : Spl T lw rest) : lw = rest ++ T := by
  induction h with
  | nil => rfl
  | cons _ ih => rw [ih]; rfl
noncomputable def OffT (c1 c2 : Addr) : List (Addr × Obj) → Prop
  | [] => True
  | p :: r => ((@Ne Nat p.1 54) ∧ (@Ne Nat p.1 c1) ∧ (@Ne Nat p.1 47) ∧ (@Ne Nat p.1 c2)) ∧ OffT c1 c2 r
theorem OffT.mem {c1 c2 : Addr} : ∀ {l : List (Addr × Obj)}, OffT c1 c2 l → ∀ p ∈ l, p.1 ≠ 54 ∧ p.1 ≠ c1 ∧ p.1 ≠ 47 ∧ p.1 ≠ c2
  | [], _, _, h => nomatch h
  | _ :: _, x, p, h => by
    rcases List.mem_cons.mp h with rfl | h
    · exact x.1
    · exact OffT.mem x.2 p h
theorem OffT.of {c1 c2 : Addr} : ∀ {l : List (Addr × Obj)}, (∀ p ∈ l, p.1 ≠ 54 ∧ p.1 ≠ c1 ∧ p.1 ≠ 47 ∧ p.1 ≠ c2) → OffT c1 c2 l
  | [], _ => trivial
  | q :: _, h => ⟨h q (.head _), OffT.of fun p hp => h p (.tail _ hp)⟩
noncomputable abbrev q1 : Str := Str.ofString "_digits2int.<locals>.inner"
noncomputable abbrev q2 : Str := Str.ofString "_int2digits.<locals>.inner"
theorem codeHd58 (w : World) {h : Heap} (X : (Mine.hd.heap_39 w.params).In h) : CodeHd h 58 54 :=
  ⟨_, _, _, _, _, _, _, _, _, X 58 _ rfl, rfl, rfl, rfl, rfl, rfl, rfl, rfl, rfl, by decide⟩
theorem codeHd51 (w : World) {h : Heap} (X : (Mine.hd.heap_39 w.params).In h) : CodeHd h 51 47 :=
  ⟨_, _, _, _, _, _, _, _, _, X 51 _ rfl, rfl, rfl, rfl, rfl, rfl, rfl, rfl, rfl, by decide⟩
end Mine
end
section
example : True := by (w_top off; trivial)
open PySem PySem.W PyProof.Rows PySem.Calls PySem.Spec PyProof.V
namespace Mine
noncomputable def digV (z : Nat) : List Int → Int
  | [] => 0
  | d :: r => d + digV z r * 2 ^ z
noncomputable def digR (ds : List Int) (z A k : Nat) : Int := digV z ((ds.drop A).take k)
theorem digV_append (z : Nat) (a b : List Int) : digV z (a ++ b) = digV z a + digV z b * 2 ^ (z * a.length) := by
  induction a with
  | nil => simp [digV]
  | cons d r ih =>
    rw [List.cons_append, digV, ih, digV, List.length_cons, Nat.mul_succ, Int.pow_add, Int.add_mul, Int.mul_assoc]
    omega
theorem digR_split (ds : List Int) (z A j k : Nat) (hj : j ≤ k) (hk : A + k ≤ ds.length) : digR ds z A k = digR ds z (A + j) (k - j) * 2 ^ (z * j) + digR ds z A j := by
  unfold digR
  have e : (ds.drop A).take k = (ds.drop A).take j ++ (ds.drop (A + j)).take (k - j) := by
    rw [← List.drop_drop, ← List.take_add]; congr 1; omega
  rw [e, digV_append]
  have : ((ds.drop A).take j).length = j := by simp; omega
  rw [this, Int.add_comm]
theorem digR_one (ds : List Int) (z A : Nat) (h : A < ds.length) : digR ds z A 1 = ds.getD A 0 := by
  unfold digR
  have e : (ds.drop A).take 1 = [ds[A]] := by rw [List.drop_eq_getElem_cons h]; rfl
  rw [e]
  simp [digV, List.getD_eq_getElem?_getD, h]
theorem digV_bound (z : Nat) (l : List Int) (h : ∀ d ∈ l, 0 ≤ d ∧ d < 2 ^ z) : 0 ≤ digV z l ∧ digV z l < 2 ^ (z * l.length) := by
  induction l with
  | nil => simp [digV]
  | cons d r ih =>
    have h1 := h d (.head _)
    have h2 := ih fun x hx => h x (.tail _ hx)
    have hp : (0 : Int) < 2 ^ z := Int.pow_pos (by decide)
    refine ⟨?_, ?_⟩
    · have := Int.mul_nonneg h2.1 (Int.le_of_lt hp)
      rw [digV]; omega
    · rw [digV, List.length_cons, Nat.mul_succ, Int.pow_add]
      have h3 : digV z r + 1 ≤ 2 ^ (z * r.length) := by omega
      have h4 := Int.mul_le_mul_of_nonneg_right h3 (Int.le_of_lt hp)
      rw [Int.add_mul, Int.one_mul] at h4
      omega
theorem digR_bound (ds : List Int) (z A k : Nat) (h : ∀ d ∈ ds, 0 ≤ d ∧ d < 2 ^ z) : 0 ≤ digR ds z A k ∧ digR ds z A k < 2 ^ (z * k) := by
  unfold digR
  have h1 := digV_bound z ((ds.drop A).take k) fun d hd => h d (List.mem_of_mem_drop (List.mem_of_mem_take hd))
  refine ⟨h1.1, Int.lt_of_lt_of_le h1.2 ?_⟩
  have : ((ds.drop A).take k).length ≤ k := by simp; omega
  have h5 : (2 : Nat) ^ (z * ((ds.drop A).take k).length) ≤ 2 ^ (z * k) := Nat.pow_le_pow_right (by decide) (Nat.mul_le_mul_left z this)
  exact_mod_cast h5
theorem intBits_le {x : Int} {k : Nat} (h0 : 0 ≤ x) (h : x < 2 ^ k) : Builtin.Int.intBits x ≤ k := by
  unfold Builtin.Int.intBits
  split
  · omega
  · rename_i hx
    have hx' : x ≠ 0 := by simpa using hx
    have h1 : x.natAbs < 2 ^ k := by
      have : (x.natAbs : Int) = x := by omega
      have h2 : ((2 ^ k : Nat) : Int) = (2 : Int) ^ k := by simp
      omega
    have := (Nat.log2_lt (by omega)).mpr h1
    omega
end Mine
namespace Mine
theorem news_keep {h₀ h h' g : Heap} {L L' : Addr} {m' : Str → Option Value} {lw lwE keep : List (Addr × Obj)} (N₀ : News h₀ L h keep) (Nw : News h₀ L h lw) (hG : GSub h g (lw.map (·.1))) (F' : Fr g L' h' m')
    (kN : News h₀ L h' lwE) (hk : ∀ p ∈ keep, ∀ q ∈ lw, q.1 = p.1 → q ∈ lwE) : News h₀ L h' keep := by
  intro p hp
  have h1 := N₀ p hp
  refine ⟨?_, h1.2⟩
  by_cases hm : p.1 ∈ lw.map (·.1)
  · obtain ⟨q, hq, e⟩ := List.mem_map.mp hm
    have h2 := (Nw q hq).1
    rw [e, h1.1] at h2
    have : p = q := Prod.ext e.symm (Option.some.inj h2)
    subst this
    exact (kN p (hk p hp p hq rfl)).1
  · exact F'.keep _ _ (hG _ _ h1.1 hm)
/-- what the callee made is at no place of what stood beside its ledger -/
theorem news_fresh {h₀ h h' g : Heap} {L L' : Addr} {lw lg keep : List (Addr × Obj)} {D : Addr} {o : Obj} (N₀ : News h₀ L h keep) (hG : GSub h g (lw.map (·.1))) (NG : News g L' h' lg) (hD : (D, o) ∈ lg)
    (hoff : ∀ p ∈ keep, p.1 ∈ lw.map (·.1) → p.1 ≠ D) : ∀ p ∈ keep, p.1 ≠ D := by
  intro p hp e
  by_cases hm : p.1 ∈ lw.map (·.1)
  · exact hoff p hp hm e
  · have h1 := hG _ _ (N₀ p hp).1 hm
    have h2 := (NG _ hD).2.2
    rw [e] at h1
    rw [h1] at h2
    cases h2
theorem tab_fields {P : Addr} {pl pc : Nat} {q : Str} {ps : Array Value} {c : Addr} {o : Obj} (h : TabP P pl pc q ps c o) : ∀ x t, ps[1]? ≠ some (.str x t) := by
  intro x t e
  rcases h with ⟨rfl, _, _⟩ | ⟨rfl, _⟩
  · simp at e
  · simp [rawInt] at e
theorem tab_ne {h₀ h : Heap} {L : Addr} {P P' : Addr} {pl pc pl' pc' : Nat} {q q' : Str} {ps ps' : Array Value} {c c' : Addr} {o o' : Obj} {l : List (Addr × Obj)} (N : News h₀ L h l) (h1 : TabP P pl pc q ps c o) (h2 : TabP P' pl' pc' q' ps' c' o')
    (m1 : (P, tabObj ps) ∈ l) (m2 : (c', o') ∈ l) (hne : P ≠ P') : c' ≠ P := by
  intro e
  subst e
  rcases h2 with ⟨_, e, _⟩ | ⟨_, vs, t, e1, e2⟩
  · exact hne e
  · have z := (N _ m1).1
    rw [(N _ m2).1] at z
    have z2 : o' = tabObj ps := Option.some.inj z
    rw [z2] at e1
    have z3 : ps = vs := by simpa using e1
    rw [← z3] at e2
    exact tab_fields h1 _ _ e2
end Mine
namespace Mine
noncomputable def digs (z : Nat) : Nat → Nat → List Int
  | 0, _ => []
  | k + 1, x => ((x % 2 ^ z : Nat) : Int) :: digs z k (x / 2 ^ z)
theorem digs_len (z : Nat) : ∀ k x, (digs z k x).length = k
  | 0, _ => rfl
  | k + 1, x => by rw [digs, List.length_cons, digs_len z k]
theorem digs_split (z : Nat) (k : Nat) : ∀ j x, digs z (j + k) x = digs z j (x % 2 ^ (z * j)) ++ digs z k (x / 2 ^ (z * j))
  | 0, x => by simp [digs]
  | j + 1, x => by
    rw [show j + 1 + k = (j + k) + 1 by omega, digs, digs_split z k j, digs]
    have e : 2 ^ (z * (j + 1)) = 2 ^ z * 2 ^ (z * j) := by rw [Nat.mul_succ, Nat.add_comm, Nat.pow_add]
    rw [e, Nat.mod_mul_right_mod, Nat.div_div_eq_div_mul, Nat.mod_mul_right_div_self]
    rfl
theorem digs_one (z x : Nat) (h : x < 2 ^ z) : digs z 1 x = [(x : Int)] := by
  simp [digs, Nat.mod_eq_of_lt h]
theorem and_high (x s : Nat) : x &&& (x / 2 ^ s * 2 ^ s) = x / 2 ^ s * 2 ^ s := by
  apply Nat.eq_of_testBit_eq
  intro i
  rw [Nat.testBit_and, ← Nat.shiftLeft_eq, Nat.testBit_shiftLeft, ← Nat.shiftRight_eq_div_pow, Nat.testBit_shiftRight]
  by_cases h : i < s
  · have h1 : ¬ (i ≥ s) := by omega
    simp [h1]
  · have h1 : i ≥ s := by omega
    have h2 : s + (i - s) = i := by omega
    simp [h1, h2]
theorem fdiv_nat (x s : Nat) : (x : Int).fdiv (2 ^ s) = ((x / 2 ^ s : Nat) : Int) := by
  rw [Int.fdiv_eq_ediv_of_nonneg _ (by exact_mod_cast Nat.zero_le _)]
  simp
theorem bitXor_low (x : Nat) (s : Nat) : Builtin.bitXor (x : Int) (((x : Int).fdiv (2 ^ s)) * 2 ^ s) = ((x % 2 ^ s : Nat) : Int) := by
  have e : (x : Int).fdiv (2 ^ s) * 2 ^ s = ((x / 2 ^ s * 2 ^ s : Nat) : Int) := by
    rw [fdiv_nat]; simp
  have e2 : Builtin.bitAnd (x : Int) ((x / 2 ^ s * 2 ^ s : Nat) : Int) = ((x &&& (x / 2 ^ s * 2 ^ s) : Nat) : Int) := by
    unfold Builtin.bitAnd
    simp only [Int.natCast_nonneg, decide_true, Int.toNat_natCast]
  rw [e, bitXor_and, e2, and_high]
  have h := Nat.div_add_mod x (2 ^ s)
  rw [Nat.mul_comm] at h
  omega
noncomputable def setR (ds : List Int) (A : Nat) (ys : List Int) : List Int := ds.take A ++ ys ++ ds.drop (A + ys.length)
theorem setR_one (ds : List Int) (A : Nat) (y : Int) (h : A < ds.length) : setR ds A [y] = ds.set A y := by
  unfold setR
  rw [List.set_eq_take_append_cons_drop, if_pos h]
  simp
theorem setR_len (ds : List Int) (A : Nat) (ys : List Int) (h : A + ys.length ≤ ds.length) : (setR ds A ys).length = ds.length := by
  unfold setR
  simp; omega
theorem setR_two (ds : List Int) (A : Nat) (ys zs : List Int) (h : A + ys.length + zs.length ≤ ds.length) : setR (setR ds A ys) (A + ys.length) zs = setR ds A (ys ++ zs) := by
  have hA : (ds.take A).length = A := by simp; omega
  have h1 : (ds.take A ++ ys).length = A + ys.length := by rw [List.length_append, hA]
  have e1 : (setR ds A ys).take (A + ys.length) = ds.take A ++ ys := by
    unfold setR
    rw [List.take_append_of_le_length (by omega), List.take_of_length_le (by omega)]
  have e2 : (setR ds A ys).drop (A + ys.length + zs.length) = ds.drop (A + (ys ++ zs).length) := by
    unfold setR
    rw [List.drop_append, List.drop_eq_nil_of_le (by omega), List.nil_append, List.drop_drop, h1, List.length_append]
    congr 1
    omega
  show (setR ds A ys).take (A + ys.length) ++ zs ++ (setR ds A ys).drop (A + ys.length + zs.length) = _
  rw [e1, e2]
  unfold setR
  rw [List.append_assoc (ds.take A) ys zs]
end Mine
end
section
example : True := by (w_top off; trivial)
open PySem PySem.W PyProof.Rows PySem.Calls PySem.Spec
namespace Mine
section
variable {M : Model} {A : Around} {E : Value → Shared → Prop} {s : Shared} {h₀ : Heap} {L a c P : Addr} {m mg mb : Str → Option Value} {cn : Str} {cs : Scope} {ccd : Value} {cl : List (Str × Addr)} {news : List (Addr × Obj)} {g : Obj → List (Addr × Obj)}
  {p : Program} {loose : List Str} {mean : ExcName → Option Value} {name qual : Str} {params : Arguments} {body : List Stmt} {scope : Scope} {ps : Array Value} {pos : Pos} {firstLine : Nat} {clos : List (Str × Addr)}
theorem updF_app {ob : Obj} : ∀ {pre : List (Addr × Obj)}, (∀ q ∈ pre, q.1 ≠ P) → UpdF P ob (pre ++ [(P, ob)]) (fun o => pre ++ [(P, o)])
  | [], _ => UpdF.head (fun _ h => nomatch h)
  | q :: r, h => UpdF.tail (h q (.head _)) (updF_app fun x hx => h x (.tail _ hx))
theorem nest_any {Q : Value → Shared → Prop} {pre : List (Addr × Obj)} {c0 : Addr} {o0 : Obj} (F : Fr h₀ L s.heap m) (N : News h₀ L s.heap (pre ++ [(P, tabObj ps), (c0, o0)])) (T : Top p loose mean mg mb h₀) (C : CodeHd h₀ c P) (hcd : ccd = .ref c)
    (hp : TabP P pos.line pos.col qual ps c0 o0) (hpP : ∀ q ∈ pre, q.1 ≠ P) (hp0 : ∀ q ∈ pre, q.1 ≠ c0)
    (hcl : closureFor scope (envX cn cs L a ccd cl) = pure clos)
    (h : ∀ f c' oc vs t ctv doc h' tk, Fr h₀ L h' m →
      News h₀ L h' ((f, fnMade name qual params body scope clos doc ((mg "__name__").getD .none) c' ctv) :: (pre ++ [(P, tabObj #[rawInt pos.line, rawInt pos.col, .ref c']), (c', oc)])) →
      oc.data = .fields vs → vs[1]? = some (.str qual t) → Hold ((c' = c0 ∧ oc = o0 ∧ ps = #[rawInt pos.line, rawInt pos.col, .ref c']) ∨ (ps = #[] ∧ c0 = P ∧ P < c')) → (∀ q ∈ pre, @Ne Nat q.1 c') → @Ne Nat c' P → (∀ q ∈ pre, q.1 < f) → (@LT.lt Nat _ P f ∧ @LT.lt Nat _ c' f) → Q (.ref f) { s with heap := h', toks := tk }) :
    wpAny M A (makeFunction name qual params (.stmts body) scope (envX cn cs L a ccd cl) [] [] [] pos firstLine) Q E s := by
  rcases hp with ⟨rfl, rfl, rfl⟩ | ⟨rfl, vs, t, h1, h2⟩
  · refine nest_K (news := pre ++ [(c0, tabObj #[])]) F (fun q hq => N q ?_) T C hcd (updF_app hpP) True.intro rfl hcl ?_
    · rcases List.mem_append.mp hq with hq | hq
      · exact List.mem_append_left _ hq
      · rw [List.mem_singleton.mp hq]; exact List.mem_append_right _ (.head _)
    · intro f c' oc vs t ctv doc h' tk F' N' d1 d2 l1 l2
      refine h f c' oc vs t ctv doc h' tk F' (fun q hq => ?_) d1 d2 (.inr ⟨rfl, rfl, l1 _ (List.mem_append_right _ (.head _))⟩) (fun q hq => Nat.ne_of_lt (l1 q (List.mem_append_left _ hq))) (Nat.ne_of_gt (l1 _ (List.mem_append_right _ (.head _)))) (fun q hq => Nat.lt_trans (l1 q (List.mem_append_left _ hq)) l2) ⟨Nat.lt_trans (l1 _ (List.mem_append_right _ (.head _))) l2, l2⟩
      rcases List.mem_cons.mp hq with rfl | hq
      · exact N' _ (.head _)
      · rcases List.mem_append.mp hq with hq | hq
        · exact N' _ (.tail _ (.tail _ (List.mem_append_left _ hq)))
        · rcases List.mem_cons.mp hq with rfl | hq
          · exact N' _ (.tail _ (.tail _ (List.mem_append_right _ (.head _))))
          · rw [List.mem_singleton.mp hq]; exact N' _ (.tail _ (.head _))
  · have hm : (P, tabObj #[rawInt pos.line, rawInt pos.col, .ref c0]) ∈ pre ++ [(P, tabObj #[rawInt pos.line, rawInt pos.col, .ref c0]), (c0, o0)] := List.mem_append_right _ (.head _)
    have hm2 : (c0, o0) ∈ pre ++ [(P, tabObj #[rawInt pos.line, rawInt pos.col, .ref c0]), (c0, o0)] := List.mem_append_right _ (.tail _ (.head _))
    have hne : c0 ≠ P := by
      intro e
      have e1 := (N _ hm).1
      have e2 := (N _ hm2).1
      rw [show ((c0, o0) : Addr × Obj).1 = P from e] at e2
      have e3 := Option.some.inj (e1.symm.trans e2)
      rw [← show tabObj _ = o0 from e3] at h1
      have h3 : Data.fields #[rawInt pos.line, rawInt pos.col, .ref c0] = Data.fields vs := h1
      cases h3
      have h4 : some (rawInt pos.col) = some (Value.str qual t) := h2
      unfold rawInt at h4
      cases h4
    refine nestHit_K (c' := c0) F N T C hcd hm True.intro (by simp [codeAmong, rawInt]) hcl ?_
    intro f ctv doc h' tk F' N' l1
    exact h f c0 o0 vs t ctv doc h' tk F' N' h1 h2 (.inl ⟨rfl, rfl, rfl⟩) hp0 hne (fun q hq => l1 q (List.mem_append_left _ hq)) ⟨l1 _ hm, l1 _ hm2⟩
theorem nest_spl {Q : Value → Shared → Prop} {pre : List (Addr × Obj)} {c0 : Addr} {o0 : Obj} (F : Fr h₀ L s.heap m) (N : News h₀ L s.heap news) (hs : Spl [(P, tabObj ps), (c0, o0)] news pre) (T : Top p loose mean mg mb h₀) (C : CodeHd h₀ c P) (hcd : ccd = .ref c)
    (hp : TabP P pos.line pos.col qual ps c0 o0) (hpP : ∀ q ∈ pre, q.1 ≠ P) (hp0 : ∀ q ∈ pre, q.1 ≠ c0)
    (hcl : closureFor scope (envX cn cs L a ccd cl) = pure clos)
    (h : ∀ f c' oc vs t ctv doc h' tk, Fr h₀ L h' m →
      News h₀ L h' ((f, fnMade name qual params body scope clos doc ((mg "__name__").getD .none) c' ctv) :: (pre ++ [(P, tabObj #[rawInt pos.line, rawInt pos.col, .ref c']), (c', oc)])) →
      oc.data = .fields vs → vs[1]? = some (.str qual t) → Hold ((c' = c0 ∧ oc = o0 ∧ ps = #[rawInt pos.line, rawInt pos.col, .ref c']) ∨ (ps = #[] ∧ c0 = P ∧ P < c')) → (∀ q ∈ pre, @Ne Nat q.1 c') → @Ne Nat c' P → (∀ q ∈ pre, q.1 < f) → (@LT.lt Nat _ P f ∧ @LT.lt Nat _ c' f) → Q (.ref f) { s with heap := h', toks := tk }) :
    wpAny M A (makeFunction name qual params (.stmts body) scope (envX cn cs L a ccd cl) [] [] [] pos firstLine) Q E s := by
  have e := hs.eq
  subst e
  exact nest_any F N T C hcd hp hpP hp0 hcl h
end
end Mine
end
section
example : True := by (w_top off; trivial)
open PySem PySem.W PyProof.Rows PySem.Calls PySem.Spec PyProof.V
namespace Mine
theorem lt_intBits {y : Int} (hy : 1 ≤ y) : y < 2 ^ Builtin.Int.intBits y ∧ y.natAbs.log2 + 1 = Builtin.Int.intBits y := by
  have h1 : Builtin.Int.intBits y = y.natAbs.log2 + 1 := by
    unfold Builtin.Int.intBits
    rw [if_neg (by simp; omega)]
  refine ⟨?_, h1.symm⟩
  have h2 : y.natAbs < 2 ^ Builtin.Int.intBits y := by rw [h1]; exact Nat.lt_log2_self
  have h3 : ((2 ^ Builtin.Int.intBits y : Nat) : Int) = (2 : Int) ^ Builtin.Int.intBits y := by simp
  omega
theorem intBits_lt {x : Int} {k : Nat} (h0 : 0 ≤ x) (h : x < 2 ^ k) : Builtin.Int.intBits x ≤ k := intBits_le h0 h
theorem dm_fact {r d y : Int} {Z : Nat} (hr : 0 ≤ r ∧ r < y) (hy : y < 2 ^ Z) (hd : 0 ≤ d ∧ d < 2 ^ Z) (hZ : Z ≤ 40) :
    Builtin.Int.intBits (r * 2 ^ Z + d) ≤ 4000 ∧ (Builtin.Int.intBits r : Int) + (Z : Int) ≤ 2 ^ 27 ∧ (0 ≤ (r * 2 ^ Z + d).fmod y ∧ (r * 2 ^ Z + d).fmod y < y) ∧ (0 ≤ (r * 2 ^ Z + d).fdiv y ∧ (r * 2 ^ Z + d).fdiv y < 2 ^ Z) := by
  have hN : (0 : Int) < 2 ^ Z := Int.pow_pos (by decide)
  have h0 : 0 ≤ r * 2 ^ Z := Int.mul_nonneg hr.1 (Int.le_of_lt hN)
  have h1 : (r + 1) * 2 ^ Z ≤ y * 2 ^ Z := Int.mul_le_mul_of_nonneg_right (by omega) (Int.le_of_lt hN)
  have h2 : y * 2 ^ Z ≤ 2 ^ Z * 2 ^ Z := Int.mul_le_mul_of_nonneg_right (by omega) (Int.le_of_lt hN)
  rw [Int.add_mul, Int.one_mul] at h1
  have h3 : r * 2 ^ Z + d < y * 2 ^ Z := by omega
  have e : (2 : Int) ^ Z * 2 ^ Z = 2 ^ (Z + Z) := (Int.pow_add _ _ _).symm
  have b1 := intBits_le (x := r * 2 ^ Z + d) (k := Z + Z) (by omega) (by rw [← e]; omega)
  have b2 := intBits_le (x := r) (k := Z) hr.1 (by omega)
  have hy0 : 0 < y := by omega
  refine ⟨by omega, by omega, ⟨?_, ?_⟩, ⟨?_, ?_⟩⟩
  · rw [Int.fmod_eq_emod_of_nonneg _ (by omega)]; exact Int.emod_nonneg _ (by omega)
  · rw [Int.fmod_eq_emod_of_nonneg _ (by omega)]; exact Int.emod_lt_of_pos _ hy0
  · rw [Int.fdiv_eq_ediv_of_nonneg _ (by omega)]; exact Int.ediv_nonneg (by omega) (by omega)
  · rw [Int.fdiv_eq_ediv_of_nonneg _ (by omega)]; exact Int.ediv_lt_of_lt_mul hy0 (by rw [Int.mul_comm (2 ^ Z) y]; exact h3)
theorem horner {X y d : Int} {Z : Nat} (hy : 1 ≤ y) : (X * 2 ^ Z + d).fdiv y = X.fdiv y * 2 ^ Z + (X.fmod y * 2 ^ Z + d).fdiv y ∧ (X * 2 ^ Z + d).fmod y = (X.fmod y * 2 ^ Z + d).fmod y := by
  simp only [Int.fdiv_eq_ediv_of_nonneg _ (show 0 ≤ y by omega), Int.fmod_eq_emod_of_nonneg _ (show 0 ≤ y by omega)]
  have e : X * 2 ^ Z + d = (X % y * 2 ^ Z + d) + (X / y * 2 ^ Z) * y := by
    have h := Int.emod_add_mul_ediv X y
    have h2 : X * 2 ^ Z = (X % y + y * (X / y)) * 2 ^ Z := by rw [h]
    rw [h2, Int.add_mul]
    have h3 : y * (X / y) * 2 ^ Z = X / y * 2 ^ Z * y := by rw [Int.mul_comm y, Int.mul_right_comm]
    omega
  rw [e]
  refine ⟨?_, ?_⟩
  · rw [Int.add_mul_ediv_right _ _ (by omega)]; omega
  · rw [Int.add_mul_emod_self_right]
end Mine
namespace Mine
/-- what stood beside the tables stands at the end, off what the callee left -/
theorem end_TL {rest lg : List (Addr × Obj)} {ps1 : Array Value} {c1 : Addr} {o1 : Obj} {ps2 : Array Value} {c2 : Addr} {o2 : Obj} {h₀ g h h' : Heap} {L L' : Addr} {m' : Str → Option Value}
    (N₀ : News h₀ L h (rest ++ TL ps1 c1 o1 ps2 c2 o2)) (hoff : OffT c1 c2 rest) (hG : GSub h g ((TL ps1 c1 o1 ps2 c2 o2).map (·.1))) (F' : Fr g L' h' m') (NG : News g L' h' lg) :
    News h₀ L h' rest ∧ ∀ D o, (D, o) ∈ lg → ∀ p ∈ rest, p.1 ≠ D := by
  have hno : ∀ p ∈ rest, p.1 ∉ (TL ps1 c1 o1 ps2 c2 o2).map (·.1) := fun p hp hm => by
    have h1 := hoff.mem p hp
    simp only [List.map_cons, List.map_nil, List.mem_cons, List.not_mem_nil, or_false] at hm
    rcases hm with e | e | e | e
    · exact h1.1 e
    · exact h1.2.1 e
    · exact h1.2.2.1 e
    · exact h1.2.2.2 e
  refine ⟨fun p hp => ?_, fun D o hD => ?_⟩
  · have h1 := N₀ p (List.mem_append_left _ hp)
    exact ⟨F'.keep _ _ (hG _ _ h1.1 (hno p hp)), h1.2⟩
  · exact news_fresh (fun p hp => N₀ p (List.mem_append_left _ hp)) hG NG hD fun p hp hm => absurd hm (hno p hp)
theorem OffT.of2 {c1 c2 : Addr} {l : List (Addr × Obj)} (h1 : ∀ p ∈ l, p.1 ≠ 54) (h2 : ∀ p ∈ l, p.1 ≠ c1) (h3 : ∀ p ∈ l, p.1 ≠ 47) (h4 : ∀ p ∈ l, p.1 ≠ c2) : OffT c1 c2 l :=
  OffT.of fun p hp => ⟨h1 p hp, h2 p hp, h3 p hp, h4 p hp⟩
end Mine
namespace Mine
theorem nat_dm (x Z : Nat) : ((x / 2 ^ Z : Nat) : Int) * 2 ^ Z + ((x % 2 ^ Z : Nat) : Int) = (x : Int) := by
  have h := Nat.div_add_mod x (2 ^ Z)
  have e : ((x / 2 ^ Z : Nat) : Int) * 2 ^ Z = ((2 ^ Z * (x / 2 ^ Z) : Nat) : Int) := by simp [Int.mul_comm]
  omega
theorem dm_end1 {x Z : Nat} {y : Int} (hx : x < 2 ^ (Z * 1)) : digR [(0 * 2 ^ Z + ((x % 2 ^ Z : Nat) : Int)).fdiv y] Z 0 1 = (x : Int).fdiv y ∧ (0 * 2 ^ Z + ((x % 2 ^ Z : Nat) : Int)).fmod y = (x : Int).fmod y := by
  rw [Nat.mul_one] at hx
  rw [Nat.mod_eq_of_lt hx, Int.zero_mul, Int.zero_add]
  exact ⟨by simp [digR, digV], rfl⟩
theorem dm_end2 {x Z : Nat} {y : Int} (hy : 1 ≤ y) (hx : x < 2 ^ (Z * 2)) :
    digR [((0 * 2 ^ Z + ((x / 2 ^ Z % 2 ^ Z : Nat) : Int)).fmod y * 2 ^ Z + ((x % 2 ^ Z : Nat) : Int)).fdiv y, (0 * 2 ^ Z + ((x / 2 ^ Z % 2 ^ Z : Nat) : Int)).fdiv y] Z 0 2 = (x : Int).fdiv y ∧
    ((0 * 2 ^ Z + ((x / 2 ^ Z % 2 ^ Z : Nat) : Int)).fmod y * 2 ^ Z + ((x % 2 ^ Z : Nat) : Int)).fmod y = (x : Int).fmod y := by
  have h1 : x / 2 ^ Z < 2 ^ Z := Nat.div_lt_of_lt_mul (by rw [← Nat.pow_add, show Z + Z = Z * 2 by omega]; exact hx)
  rw [Nat.mod_eq_of_lt h1, Int.zero_mul, Int.zero_add]
  have hh := horner (X := ((x / 2 ^ Z : Nat) : Int)) (d := ((x % 2 ^ Z : Nat) : Int)) (Z := Z) hy
  rw [nat_dm] at hh
  refine ⟨?_, hh.2.symm⟩
  rw [hh.1]
  simp [digR, digV]
  omega
theorem dm_end3 {x Z : Nat} {y : Int} (hy : 1 ≤ y) (hx : x < 2 ^ (Z * 3)) :
    digR [(((0 * 2 ^ Z + ((x / 2 ^ Z / 2 ^ Z % 2 ^ Z : Nat) : Int)).fmod y * 2 ^ Z + ((x / 2 ^ Z % 2 ^ Z : Nat) : Int)).fmod y * 2 ^ Z + ((x % 2 ^ Z : Nat) : Int)).fdiv y, ((0 * 2 ^ Z + ((x / 2 ^ Z / 2 ^ Z % 2 ^ Z : Nat) : Int)).fmod y * 2 ^ Z + ((x / 2 ^ Z % 2 ^ Z : Nat) : Int)).fdiv y, (0 * 2 ^ Z + ((x / 2 ^ Z / 2 ^ Z % 2 ^ Z : Nat) : Int)).fdiv y] Z 0 3 = (x : Int).fdiv y ∧
    (((0 * 2 ^ Z + ((x / 2 ^ Z / 2 ^ Z % 2 ^ Z : Nat) : Int)).fmod y * 2 ^ Z + ((x / 2 ^ Z % 2 ^ Z : Nat) : Int)).fmod y * 2 ^ Z + ((x % 2 ^ Z : Nat) : Int)).fmod y = (x : Int).fmod y := by
  have h1 : x / 2 ^ Z < 2 ^ (Z * 2) := Nat.div_lt_of_lt_mul (by rw [← Nat.pow_add, show Z + Z * 2 = Z * 3 by omega]; exact hx)
  have h2 := dm_end2 (x := x / 2 ^ Z) (Z := Z) hy h1
  have hh := horner (X := ((x / 2 ^ Z : Nat) : Int)) (d := ((x % 2 ^ Z : Nat) : Int)) (Z := Z) hy
  rw [nat_dm] at hh
  rw [h2.2]
  refine ⟨?_, hh.2.symm⟩
  rw [hh.1, ← h2.1]
  simp [digR, digV]
  generalize (((0 * 2 ^ Z + ((x / 2 ^ Z / 2 ^ Z % 2 ^ Z : Nat) : Int)).fmod y * 2 ^ Z + ((x / 2 ^ Z % 2 ^ Z : Nat) : Int)).fdiv y) = A at *
  omega
end Mine
namespace Mine
theorem end_TLW {rest W lg lgK : List (Addr × Obj)} {ps1 : Array Value} {c1 : Addr} {o1 : Obj} {ps2 : Array Value} {c2 : Addr} {o2 : Obj} {h₀ g h h' : Heap} {L L' : Addr} {m' : Str → Option Value}
    (N₀ : News h₀ L h (rest ++ TL ps1 c1 o1 ps2 c2 o2)) (hoff : OffT c1 c2 rest) (hW : ∀ p ∈ W, p ∈ rest) (hG : GSub h g ((W ++ TL ps1 c1 o1 ps2 c2 o2).map (·.1))) (F' : Fr g L' h' m') (NG : News g L' h' lg) (kN : News h₀ L h' lgK) (hWl : ∀ p ∈ W, p ∈ lgK) :
    News h₀ L h' rest ∧ ∀ D o, (D, o) ∈ lg → (∀ p ∈ W, p.1 ≠ D) → ∀ p ∈ rest, p.1 ≠ D := by
  have hno : ∀ p ∈ rest, p.1 ∈ (W ++ TL ps1 c1 o1 ps2 c2 o2).map (·.1) → p ∈ W := fun p hp hm => by
    rw [List.map_append] at hm
    rcases List.mem_append.mp hm with hm | hm
    · obtain ⟨q, hq, e⟩ := List.mem_map.mp hm
      have h1 := (N₀ q (List.mem_append_left _ (hW q hq))).1
      have h2 := (N₀ p (List.mem_append_left _ hp)).1
      rw [e, h2] at h1
      have : q = p := Prod.ext e (Option.some.inj h1).symm
      exact this ▸ hq
    · have h1 := hoff.mem p hp
      simp only [List.map_cons, List.map_nil, List.mem_cons, List.not_mem_nil, or_false] at hm
      rcases hm with e | e | e | e
      · exact absurd e h1.1
      · exact absurd e h1.2.1
      · exact absurd e h1.2.2.1
      · exact absurd e h1.2.2.2
  refine ⟨fun p hp => ?_, fun D o hD hne => ?_⟩
  · by_cases hm : p.1 ∈ (W ++ TL ps1 c1 o1 ps2 c2 o2).map (·.1)
    · exact kN p (hWl p (hno p hp hm))
    · have h1 := N₀ p (List.mem_append_left _ hp)
      exact ⟨F'.keep _ _ (hG _ _ h1.1 hm), h1.2⟩
  · exact news_fresh (fun p hp => N₀ p (List.mem_append_left _ hp)) hG NG hD fun p hp hm => hne p (hno p hp hm)
end Mine
end
section
example : True := by (w_top off; trivial)
open PySem PySem.W PyProof.Rows PySem.Calls PySem.Spec PyProof.V
namespace Mine
section
variable {prog : Program} {w : World} {A : Around} {E : Value → Shared → Prop} {s : Shared} {env : Env} {h₀ : Heap} {target : Expr} {body : List Stmt} {Q : Flow → Shared → Prop}
theorem enumRest_ind {I : Addr} {keep : List (Addr × Obj)} (P : (Str → Option Value) → List (Addr × Obj) → Prop) (V : Nat → Value → Prop)
    (hend : ∀ m news, P m news → ∀ h tk, Fr h₀ env.locals h m → News h₀ env.locals h news → Q .next { s with heap := h, toks := tk })
    (hstep : ∀ i v m news, V i v → P m news → ∀ T t h tk o1 o2, IsTup h T #[.int (i : Int) t, v] → Fr h₀ env.locals h m → o1.cls = .type "enumerate" → o2.cls = .type "list_iterator" → News h₀ env.locals h ((I + 1, o1) :: (I, o2) :: news) →
      wpAny (model prog w) A (assign target env (.ref T)) (fun _ s₂ => wpAny (model prog w) A (execs body env) (UnrPostW h₀ env.locals { s with heap := h, toks := tk } [(I + 1, o1), (I, o2)] (fun m' n' => SubL keep n' ∧ P m' n') Q) E s₂) E { s with heap := h, toks := tk }) :
    ∀ (vs : List Value) (i : Nat) m news, (∀ j v, vs[j]? = some v → V (i + j) v) → P m news → ItemsRest prog w A E h₀ env target body Q s [(I + 1, "enumerate"), (I, "list_iterator")] keep (enumItems i vs) m news
  | [], i, m, news, _, hp => hend m news hp
  | v :: r, i, m, news, hv, hp => by
    refine ItemsRest.pair fun T t h tk hT F => ?_
    refine AllObj.cons fun o1 c1 => AllObj.cons fun o2 c2 => AllObj.nil fun N => ?_
    have hE : ∀ s₂, UnrEndW h₀ env.locals { s with heap := h, toks := tk } [(I + 1, o1), (I, o2)] (fun m' n' => SubL keep n' ∧ P m' n') s₂ →
        UnrEndW h₀ env.locals { s with heap := h, toks := tk } [(I + 1, o1), (I, o2)] (fun m' n' => SubL keep n' ∧ ItemsRest prog w A E h₀ env target body Q s [(I + 1, "enumerate"), (I, "list_iterator")] keep (enumItems (i + 1) r) m' n') s₂ := by
      rintro s₂ ⟨h', tk', m', news', e1, e2, e3, e4, e5, e6⟩
      exact ⟨h', tk', m', news', e1, e2, e3, e4, e5, enumRest_ind P V hend hstep r (i + 1) m' news' (fun j u hu => by
        have := hv (j + 1) u (by simpa using hu)
        rwa [show i + (j + 1) = i + 1 + j by omega] at this) e6⟩
    refine wpAny_mono (hstep i v m news (hv 0 v rfl) hp T t h tk o1 o2 hT F c1 c2 N) (fun _ s₂ hu => ?_) fun _ _ e => e
    refine wpAny_mono hu (fun f s₃ hf => ?_) fun _ _ e => e
    cases f with
    | ret v => exact hf
    | brk => exact hf
    | next => exact hE _ hf
    | cont => exact hE _ hf
end
end Mine
namespace Mine
theorem ints_val {vs : List Value} {xs : List Int} (hI : IntsAre vs xs) : ∀ (j : Nat) (v : Value), vs[j]? = some v → ∃ a ta, v = Value.int a ta := by
  induction hI with
  | nil => intro j v hv; simp at hv
  | cons n t _ ih =>
    intro j v hv
    cases j with
    | zero => simp at hv; exact ⟨_, _, hv.symm⟩
    | succ j => exact ih j v (by simpa using hv)
theorem mod_eq {prog : Program} {w : World} {A : Around} {E : Value → Shared → Prop} {s : Shared} {n k r : Int} {t u : Tok} {Q : Value → Shared → Prop} (hm : n.fmod k = r) (hk : k ≠ 0) (h : Q (Value.int r s.toks) { s with toks := s.toks + 1 }) :
    wpAny (model prog w) A (binaryOp .Mod (Value.int n t) (Value.int k u)) Q E s := by
  subst hm
  exact mod_int hk h
noncomputable abbrev list4 (a b c d : Value) (ep : Nat) : Obj := PySem.W.listOf [a, b, c, d].toArray ep
section
variable {prog : Program} {w : World} {A : Around} {E : Value → Shared → Prop} {s : Shared} {env : Env} {h₀ : Heap} {elts : List Expr} {kx : Nat} {pos : Pos} {body : List Stmt} {Q : Flow → Shared → Prop}
theorem heaps_loop {D l : Addr} {d lo : Obj} {restN : List (Addr × Obj)} {m₀ : Str → Option Value} {vs : List Value} {xs : List Int} {ep₀ : Nat} {z0 z1 z2 z3 : Int} {u0 u1 u2 u3 : Tok} {e₀ : Nat} (fx fp : Str)
    (hh : A.handled = none) (F : Fr h₀ env.locals s.heap m₀) (N : News h₀ env.locals s.heap ((D, d) :: (l, lo) :: restN)) (hd : d = PySem.W.listOf vs.toArray ep₀) (hlo : lo = list4 (.int z0 u0) (.int z1 u1) (.int z2 u2) (.int z3 u3) e₀) (hI : IntsAre vs xs)
    (hend : ∀ y0 y1 y2 y3 t0 t1 t2 t3 ep ox oy h tk, Fr h₀ env.locals h (fun z => if z = fx then ox else if z = fp then oy else m₀ z) → News h₀ env.locals h ((D, d) :: (l, list4 (.int y0 t0) (.int y1 t1) (.int y2 t2) (.int y3 t3) ep) :: restN) → Q .next { s with heap := h, toks := tk })
    (hstep : ∀ (I : Addr) (i : Nat) (a : Int) (ta : Tok) y0 y1 y2 y3 t0 t1 t2 t3 ep ox oy T t h tk o1 o2, (∀ p ∈ (D, d) :: (l, lo) :: restN, p.1 < I) → IsTup h T #[.int (i : Int) t, .int a ta] → Fr h₀ env.locals h (fun z => if z = fx then ox else if z = fp then oy else m₀ z) → o1.cls = .type "enumerate" → o2.cls = .type "list_iterator" →
      News h₀ env.locals h ((I + 1, o1) :: (I, o2) :: (D, d) :: (l, list4 (.int y0 t0) (.int y1 t1) (.int y2 t2) (.int y3 t3) ep) :: restN) →
      wpAny (model prog w) A (assign (.Tuple elts kx pos) env (.ref T)) (fun _ s₂ => wpAny (model prog w) A (execs body env) (UnrPostW h₀ env.locals { s with heap := h, toks := tk } [(I + 1, o1), (I, o2)] (fun m' n' => SubL [(D, d)] n' ∧
        Hold (∃ y0 y1 y2 y3 t0 t1 t2 t3 ep ox oy, (∀ z, m' z = if z = fx then ox else if z = fp then oy else m₀ z) ∧ n' = (D, d) :: (l, list4 (.int y0 t0) (.int y1 t1) (.int y2 t2) (.int y3 t3) ep) :: restN)) Q) E s₂) E { s with heap := h, toks := tk }) :
    wpAny (model prog w) A (call (.type "enumerate") [.ref D]) (fun xv s₁ => wpAny (model prog w) A (pyIter xv) (fun it s₂ => TurnsAt prog w A h₀ env (.Tuple elts kx pos) body Q E it s₂) E s₁) E s := by
  subst hd hlo
  refine ktu_enum hh F N (.head _) rfl rfl rfl fun I hI' => ?_
  refine enumRest_ind (fun m' n' => Hold (∃ y0 y1 y2 y3 t0 t1 t2 t3 ep ox oy, (∀ z, m' z = if z = fx then ox else if z = fp then oy else m₀ z) ∧ n' = (D, PySem.W.listOf vs.toArray ep₀) :: (l, list4 (.int y0 t0) (.int y1 t1) (.int y2 t2) (.int y3 t3) ep) :: restN)) (fun _ v => ∃ a ta, v = .int a ta) ?_ ?_ vs 0 _ _ ?_ ?_
  · rintro m news ⟨y0, y1, y2, y3, t0, t1, t2, t3, ep, ox, oy, hm, rfl⟩ h tk F' N'
    obtain rfl : m = _ := funext hm
    exact hend _ _ _ _ _ _ _ _ _ _ _ h tk F' N'
  · rintro i v m news ⟨a, ta, rfl⟩ ⟨y0, y1, y2, y3, t0, t1, t2, t3, ep, ox, oy, hm, rfl⟩ T t h tk o1 o2 hT F' c1 c2 N'
    obtain rfl : m = _ := funext hm
    exact hstep I i a ta _ _ _ _ _ _ _ _ _ _ _ T t h tk o1 o2 hI' hT F' c1 c2 N'
  · intro j v hv
    exact ints_val hI j v hv
  · exact ⟨z0, z1, z2, z3, u0, u1, u2, u3, e₀, m₀ fx, m₀ fp, fun z => by
      by_cases h1 : z = fx
      · simp [h1]
      · by_cases h2 : z = fp
        · subst h2; simp [h1]
        · simp [h1, h2], rfl⟩
end
theorem mod_eqH {prog : Program} {w : World} {A : Around} {E : Value → Shared → Prop} {s : Shared} {n k r : Int} {t u : Tok} {Q : Value → Shared → Prop} (hm : Hold (n.fmod k = r)) (hk : k ≠ 0) (h : Q (Value.int r s.toks) { s with toks := s.toks + 1 }) :
    wpAny (model prog w) A (binaryOp .Mod (Value.int n t) (Value.int k u)) Q E s := mod_eq hm hk h
theorem fdiv_eqH {prog : Program} {w : World} {A : Around} {E : Value → Shared → Prop} {s : Shared} {n k r : Int} {t u : Tok} {Q : Value → Shared → Prop} (hm : Hold (n.fdiv k = r)) (hk : k ≠ 0) (hl : k.natAbs < 100) (h : Q (Value.int r s.toks) { s with toks := s.toks + 1 }) :
    wpAny (model prog w) A (binaryOp .FloorDiv (Value.int n t) (Value.int k u)) Q E s := by
  have hm' : n.fdiv k = r := hm
  subst hm'
  have h9 : k.natAbs.log2 < 9000 := by
    have := (Nat.log2_lt (n := k.natAbs) (k := 9000) (by omega)).mpr (Nat.lt_of_lt_of_le hl (Nat.le_trans (by decide : 100 ≤ 2 ^ 7) (Nat.pow_le_pow_right (by decide) (by decide))))
    exact this
  exact floordiv_int hk h (Or.inl (PyProof.noPylong_of_log2 h9))
end Mine
end
section
example : True := by (w_top off; trivial)
open PySem PySem.Sre
namespace Mine
noncomputable def code1 : Array Nat := #[14, 4, 0, 1, 1, 6, 1, 16, 46, 1]
noncomputable def code2 : Array Nat := #[14, 9, 4, 1, 2, 16, 10, 16, 13, 0, 7, 7, 16, 13, 16, 10, 15, 18, 5, 16, 10, 15, 13, 11, 16, 13, 5, 5, 0, 16, 10, 1, 15, 2, 0, 1]
/-- the machine comes to an end within N steps, at P -/
noncomputable def Goes (N : Nat) (m : M) (P : M → Prop) : Prop := ∃ n, n ≤ N ∧ (M.runFor n m).outcome.isSome = true ∧ P (M.runFor n m)
theorem Goes.step {N : Nat} {m m' : M} {P : M → Prop} (h : m.outcome.isSome = false) (e : m.step = m') (g : Goes N m' P) : Goes (N + 1) m P := by
  obtain ⟨n, h1, h2, h3⟩ := g
  subst e
  refine ⟨n + 1, by omega, ?_, ?_⟩ <;> (unfold M.runFor; rw [if_neg (by simp [h])]; assumption)
theorem Goes.done {N : Nat} {m : M} {P : M → Prop} (h : m.outcome.isSome = true) (p : P m) : Goes N m P := ⟨0, by omega, h, p⟩
theorem Goes.le {N N' : Nat} {m : M} {P : M → Prop} (g : Goes N m P) (h : N ≤ N') : Goes N' m P := by
  obtain ⟨n, h1, h2⟩ := g; exact ⟨n, by omega, h2⟩
theorem runFor_end {m : M} (h : m.outcome.isSome = true) : ∀ n, M.runFor n m = m
  | 0 => rfl
  | n + 1 => by unfold M.runFor; rw [if_pos h]
theorem runFor_add (a : Nat) : ∀ (b : Nat) (m : M), M.runFor (b + a) m = M.runFor a (M.runFor b m)
  | 0, m => by rw [Nat.zero_add]; rfl
  | b + 1, m => by
    by_cases h : m.outcome.isSome = true
    · rw [runFor_end h, runFor_end h, runFor_end h]
    · rw [show b + 1 + a = (b + a) + 1 by omega]
      show (if m.outcome.isSome then m else M.runFor (b + a) m.step) = M.runFor a (if m.outcome.isSome then m else M.runFor b m.step)
      rw [if_neg h, if_neg h]
      exact runFor_add a b _

noncomputable abbrev fr (s : Nat) (pc : Nat) (o : Bool) : Sre.Frame := { wait := .nextStart, pc := pc, pos := s, outermost := o }
noncomputable abbrev mk (code text : Array Nat) (lim start pc pos handed : Nat) (o : Bool) (frames : List Sre.Frame) (weight : Nat) (answer : Option Bool) (seen : Seen) : M :=
  { code, text, lim, start, lastStart := lim, pc, pos, handed, outermost := o, marks := #[], frames, weight, answer, seen }
theorem s1_at (text : Array Nat) (lim s h : Nat) (o : Bool) (fs : List Sre.Frame) (wt : Nat) (seen : Seen) :
    (mk code1 text lim s 5 s h o fs wt none seen).step = if (s == 0 || text.getD (s - 1) 0 == 10) = true then mk code1 text lim s 7 s h o fs wt none ((seen.add 6).add 44) else mk code1 text lim s 5 s h o fs wt (some false) ((seen.add 6).add 44) := by
  rfl
theorem s1_lit (text : Array Nat) (lim s h : Nat) (o : Bool) (fs : List Sre.Frame) (wt : Nat) (seen : Seen) :
    (mk code1 text lim s 7 s h o fs wt none seen).step = if s ≥ lim then mk code1 text lim s 7 s h o fs wt (some false) (seen.add 16) else
      bif (text.getD s 0 == 46) then mk code1 text lim s 9 (s + 1) h o fs wt none (seen.add 16) else mk code1 text lim s 7 s h o fs wt (some false) (seen.add 16) := by
  kernel_rfl
theorem s1_ok (text : Array Nat) (lim s h wt : Nat) (o : Bool) (fs : List Sre.Frame) (seen : Seen) :
    (mk code1 text lim s 9 (s + 1) h o fs wt none seen).step = mk code1 text lim s 9 (s + 1) (s + 1) o fs wt (some true) (seen.add 1) := by
  cases o <;> kernel_rfl
theorem s1_yes (text : Array Nat) (lim s p q h : Nat) (o o' : Bool) (seen : Seen) :
    (mk code1 text lim s p q h o [fr s 5 o'] 1 (some true) seen).step = mk code1 text lim s 5 s h o' [] 0 (some true) seen := by
  kernel_rfl
theorem s1_no (text : Array Nat) (lim s p q h : Nat) (o o' : Bool) (seen : Seen) :
    (mk code1 text lim s p q h o [fr s 5 o'] 1 (some false) seen).step = if s < lim then mk code1 text lim (s + 1) 5 (s + 1) (s + 1) false [fr (s + 1) 5 false] 1 none seen else mk code1 text lim s 5 s h o' [] 0 (some false) seen := by
  kernel_rfl
theorem s_end (code text : Array Nat) (lim s p q h : Nat) (o b : Bool) (wt : Nat) (seen : Seen) :
    (mk code text lim s p q h o [] wt (some b) seen).step = { mk code text lim s p q h o [] wt (some b) seen with outcome := some (if b = true then Outcome.matched else Outcome.failed) } := by
  kernel_rfl
/-- what a search must tell -/
noncomputable def Tells (r : Option (Nat × Nat)) (m : M) : Prop := match r with
  | none => m.outcome = some Outcome.failed
  | some (b, e) => m.outcome = some Outcome.matched ∧ m.start = b ∧ m.handed = e
noncomputable def at1 (text : Array Nat) (s : Nat) : Bool := (s == 0 || text.getD (s - 1) 0 == 10) && text.getD s 0 == 46
noncomputable def fnd1 (text : Array Nat) : Nat → Nat → Option (Nat × Nat)
  | 0, _ => none
  | k + 1, s => if at1 text s = true then some (s, s + 1) else fnd1 text k (s + 1)
theorem go_no (code text : Array Nat) (lim s p q h : Nat) (o : Bool) (wt : Nat) (seen : Seen) : Goes 1 (mk code text lim s p q h o [] wt (some false) seen) (Tells none) :=
  Goes.step rfl (s_end ..) (Goes.done rfl rfl)
theorem go1 (text : Array Nat) (lim : Nat) : ∀ k s o seen, s + k = lim → Goes (6 * (k + 1)) (mk code1 text lim s 5 s s o [fr s 5 o] 1 none seen) (Tells (fnd1 text k s))
  | 0, s, o, seen, e => by
    have hs : s ≥ lim := by omega
    have hn : ¬ s < lim := by omega
    by_cases a : (s == 0 || text.getD (s - 1) 0 == 10) = true
    · refine (Goes.step rfl ((s1_at ..).trans (if_pos a)) (Goes.step rfl ((s1_lit ..).trans (if_pos hs)) (Goes.step rfl ((s1_no ..).trans (if_neg hn)) (go_no ..)))).le (by omega)
    · refine (Goes.step rfl ((s1_at ..).trans (if_neg a)) (Goes.step rfl ((s1_no ..).trans (if_neg hn)) (go_no ..))).le (by omega)
  | k + 1, s, o, seen, e => by
    have hs : ¬ s ≥ lim := by omega
    have hn : s < lim := by omega
    by_cases a : (s == 0 || text.getD (s - 1) 0 == 10) = true
    · cases b : (text.getD s 0 == 46)
      · have q : at1 text s = false := by unfold at1; rw [b, Bool.and_false]
        have ih := go1 text lim k (s + 1) false ((((seen.add 6).add 44).add 16)) (by omega)
        unfold fnd1
        rw [q, if_neg Bool.false_ne_true]
        exact (Goes.step rfl ((s1_at ..).trans (if_pos a)) (Goes.step rfl (((s1_lit ..).trans (if_neg hs)).trans (by rw [b]; rfl)) (Goes.step rfl ((s1_no ..).trans (if_pos hn)) ih))).le (by omega)
      · have q : at1 text s = true := by unfold at1; rw [b, a]; rfl
        unfold fnd1
        rw [q, if_pos rfl]
        exact (Goes.step rfl ((s1_at ..).trans (if_pos a)) (Goes.step rfl (((s1_lit ..).trans (if_neg hs)).trans (by rw [b]; rfl)) (Goes.step rfl (s1_ok ..) (Goes.step rfl (s1_yes ..) (Goes.step rfl (s_end ..) (Goes.done (N := 0) rfl ⟨rfl, rfl, rfl⟩)))))).le (by omega)
    · have q : at1 text s = false := by unfold at1; rw [Bool.eq_false_iff.mpr a]; rfl
      have ih := go1 text lim k (s + 1) false (((seen.add 6).add 44)) (by omega)
      unfold fnd1
      rw [q, if_neg Bool.false_ne_true]
      exact (Goes.step rfl ((s1_at ..).trans (if_neg a)) (Goes.step rfl ((s1_no ..).trans (if_pos hn)) ih)).le (by omega)
theorem search1_eq (text : Array Nat) (pos lim : Nat) : Sre.forSearch code1 text 0 pos lim false = if (decide (pos > lim) || decide (lim - pos < 1)) = true then { mk code1 text lim pos 5 pos pos true [] 0 (some false) (({} : Seen).add 14) with lastStart := 0 } else mk code1 text lim pos 5 pos pos true [fr pos 5 true] 1 none (({} : Seen).add 14) := by
  kernel_rfl
theorem search1 (text : Array Nat) (k pos lim : Nat) (e : pos + k = lim) : Goes (6 * (k + 1)) (Sre.forSearch code1 text 0 pos lim false) (Tells (fnd1 text k pos)) := by
  rw [search1_eq]
  by_cases h : lim - pos < 1
  · obtain rfl : k = 0 := by omega
    rw [if_pos (by simp [h])]
    exact ⟨1, by omega, by kernel_rfl, (by unfold Tells; show Option.some _ = _; kernel_rfl)⟩
  · rw [if_neg (by simp; omega)]
    exact go1 text lim k pos true _ e
theorem s2_lit12 (text : Array Nat) (lim s0 s h : Nat) (o : Bool) (fs : List Sre.Frame) (wt : Nat) (seen : Seen) :
    (mk code2 text lim s0 12 s h o fs wt none seen).step = if s ≥ lim then mk code2 text lim s0 12 s h o fs wt (some false) (seen.add 16) else
      bif (text.getD s 0 == 13) then mk code2 text lim s0 14 (s + 1) h o fs wt none (seen.add 16) else mk code2 text lim s0 12 s h o fs wt (some false) (seen.add 16) := by
  kernel_rfl
theorem s2_lit14 (text : Array Nat) (lim s0 s h : Nat) (o : Bool) (fs : List Sre.Frame) (wt : Nat) (seen : Seen) :
    (mk code2 text lim s0 14 s h o fs wt none seen).step = if s ≥ lim then mk code2 text lim s0 14 s h o fs wt (some false) (seen.add 16) else
      bif (text.getD s 0 == 10) then mk code2 text lim s0 16 (s + 1) h o fs wt none (seen.add 16) else mk code2 text lim s0 14 s h o fs wt (some false) (seen.add 16) := by
  kernel_rfl
theorem s2_lit19 (text : Array Nat) (lim s0 s h : Nat) (o : Bool) (fs : List Sre.Frame) (wt : Nat) (seen : Seen) :
    (mk code2 text lim s0 19 s h o fs wt none seen).step = if s ≥ lim then mk code2 text lim s0 19 s h o fs wt (some false) (seen.add 16) else
      bif (text.getD s 0 == 10) then mk code2 text lim s0 21 (s + 1) h o fs wt none (seen.add 16) else mk code2 text lim s0 19 s h o fs wt (some false) (seen.add 16) := by
  kernel_rfl
theorem s2_lit24 (text : Array Nat) (lim s0 s h : Nat) (o : Bool) (fs : List Sre.Frame) (wt : Nat) (seen : Seen) :
    (mk code2 text lim s0 24 s h o fs wt none seen).step = if s ≥ lim then mk code2 text lim s0 24 s h o fs wt (some false) (seen.add 16) else
      bif (text.getD s 0 == 13) then mk code2 text lim s0 26 (s + 1) h o fs wt none (seen.add 16) else mk code2 text lim s0 24 s h o fs wt (some false) (seen.add 16) := by
  kernel_rfl
theorem s2_lit29 (text : Array Nat) (lim s0 s h : Nat) (o : Bool) (fs : List Sre.Frame) (wt : Nat) (seen : Seen) :
    (mk code2 text lim s0 29 s h o fs wt none seen).step = if s ≥ lim then mk code2 text lim s0 29 s h o fs wt (some false) (seen.add 16) else
      bif (text.getD s 0 == 10) then mk code2 text lim s0 31 (s + 1) h o fs wt none (seen.add 16) else mk code2 text lim s0 29 s h o fs wt (some false) (seen.add 16) := by
  kernel_rfl
theorem s2_jmp16 (text : Array Nat) (lim s0 s h : Nat) (o : Bool) (fs : List Sre.Frame) (wt : Nat) (seen : Seen) :
    (mk code2 text lim s0 16 s h o fs wt none seen).step = mk code2 text lim s0 35 s h o fs wt none (seen.add 15) := by
  kernel_rfl
theorem s2_jmp21 (text : Array Nat) (lim s0 s h : Nat) (o : Bool) (fs : List Sre.Frame) (wt : Nat) (seen : Seen) :
    (mk code2 text lim s0 21 s h o fs wt none seen).step = mk code2 text lim s0 35 s h o fs wt none (seen.add 15) := by
  kernel_rfl
theorem s2_jmp32 (text : Array Nat) (lim s0 s h : Nat) (o : Bool) (fs : List Sre.Frame) (wt : Nat) (seen : Seen) :
    (mk code2 text lim s0 32 s h o fs wt none seen).step = mk code2 text lim s0 35 s h o fs wt none (seen.add 15) := by
  kernel_rfl
theorem s2_ok (text : Array Nat) (lim s0 s h wt : Nat) (o : Bool) (fs : List Sre.Frame) (seen : Seen) :
    (mk code2 text lim s0 35 s h o fs wt none seen).step = mk code2 text lim s0 35 s s o fs wt (some true) (seen.add 1) := by
  cases o <;> kernel_rfl
noncomputable abbrev fb (s : Nat) (pc : Nat) (o : Bool) : Sre.Frame := { wait := .nextBranch, pc := pc, pos := s, outermost := o }
noncomputable abbrev fl (s : Nat) (o : Bool) : Sre.Frame := { wait := .lookNot, pc := 26, pos := s, outermost := o }
theorem s2_branch (text : Array Nat) (lim s : Nat) (o : Bool) (seen : Seen) :
    (mk code2 text lim s 10 s s o [fr s 10 o] 1 none seen).step = mk code2 text lim s 12 s s o [fb s 11 o, fr s 10 o] 2 none (seen.add 7) := by
  kernel_rfl
theorem s2_next1 (text : Array Nat) (lim s p q h : Nat) (o o' : Bool) (seen : Seen) :
    (mk code2 text lim s p q h o [fb s 11 o', fr s 10 o'] 2 (some false) seen).step = mk code2 text lim s 19 s s o' [fb s 18 o', fr s 10 o'] 2 none seen := by
  kernel_rfl
theorem s2_next2 (text : Array Nat) (lim s p q h : Nat) (o o' : Bool) (seen : Seen) :
    (mk code2 text lim s p q h o [fb s 18 o', fr s 10 o'] 2 (some false) seen).step = mk code2 text lim s 24 s s o' [fb s 23 o', fr s 10 o'] 2 none seen := by
  kernel_rfl
theorem s2_assert (text : Array Nat) (lim s0 s h : Nat) (o : Bool) (f g : Sre.Frame) (seen : Seen) :
    (mk code2 text lim s0 26 s h o [f, g] 2 none seen).step = mk code2 text lim s0 29 s s false [fl s o, f, g] 3 none (seen.add 5) := by
  kernel_rfl
theorem s2_look (text : Array Nat) (lim s0 s p q h : Nat) (o o' : Bool) (f g : Sre.Frame) (seen : Seen) :
    (mk code2 text lim s0 p q h o [fl s o', f, g] 3 (some false) seen).step = mk code2 text lim s0 32 s h o' [f, g] 2 none seen := by
  kernel_rfl
theorem s2_yes (text : Array Nat) (lim s s0 p q h pc wt : Nat) (o o' : Bool) (fs : List Sre.Frame) (seen : Seen) :
    (mk code2 text lim s0 p q h o (fb s pc o' :: fs) wt (some true) seen).step = mk code2 text lim s0 pc s h o' fs (wt - 1) (some true) seen := by
  kernel_rfl
theorem s2_yes0 (text : Array Nat) (lim s p q h wt : Nat) (o o' : Bool) (seen : Seen) :
    (mk code2 text lim s p q h o [fr s 10 o'] wt (some true) seen).step = mk code2 text lim s 10 s h o' [] (wt - 1) (some true) seen := by
  kernel_rfl
noncomputable def at2 (text : Array Nat) (s : Nat) : Bool := text.getD s 0 == 10 || text.getD s 0 == 13
noncomputable def len2 (text : Array Nat) (lim s : Nat) : Nat := if text.getD s 0 == 13 && decide (s + 1 < lim) && text.getD (s + 1) 0 == 10 then 2 else 1
noncomputable def fnd2 (text : Array Nat) (lim : Nat) : Nat → Nat → Option (Nat × Nat)
  | 0, _ => none
  | k + 1, s => if at2 text s = true then some (s, s + len2 text lim s) else fnd2 text lim k (s + 1)
theorem end2 (text : Array Nat) (lim s e wt pc : Nat) (o o' o'' : Bool) (h : Nat) (seen : Seen) (he : e = s + len2 text lim s) :
    Goes 4 (mk code2 text lim s 35 e h o [fb s pc o', fr s 10 o''] wt none seen) (Tells (some (s, s + len2 text lim s))) :=
  Goes.step rfl (s2_ok ..) (Goes.step rfl (s2_yes ..) (Goes.step rfl (s2_yes0 ..) (Goes.step rfl (s_end ..) (Goes.done (N := 0) rfl ⟨rfl, rfl, he⟩))))
theorem go2 (text : Array Nat) (lim s : Nat) (o : Bool) (seen : Seen) (hs : s < lim) (ha : at2 text s = true) :
    Goes 20 (mk code2 text lim s 10 s s o [fr s 10 o] 1 none seen) (Tells (some (s, s + len2 text lim s))) := by
  have hn : ¬ s ≥ lim := by omega
  cases b : (text.getD s 0 == 13)
  · have c : (text.getD s 0 == 10) = true := by unfold at2 at ha; rwa [b, Bool.or_false] at ha
    exact (Goes.step rfl (s2_branch ..) (Goes.step rfl (((s2_lit12 ..).trans (if_neg hn)).trans (by rw [b]; rfl)) (Goes.step rfl (s2_next1 ..) (Goes.step rfl (((s2_lit19 ..).trans (if_neg hn)).trans (by rw [c]; rfl))
      (Goes.step rfl (s2_jmp21 ..) (end2 _ _ _ _ _ _ _ _ _ _ _ (by unfold len2; rw [b]; rfl))))))).le (by omega)
  · have c : (text.getD s 0 == 10) = false := by
      have : text.getD s 0 = 13 := by simpa using b
      rw [this]; rfl
    by_cases q : s + 1 ≥ lim
    · have l : len2 text lim s = 1 := by unfold len2; rw [if_neg]; simp; intros; omega
      exact (Goes.step rfl (s2_branch ..) (Goes.step rfl (((s2_lit12 ..).trans (if_neg hn)).trans (by rw [b]; rfl)) (Goes.step rfl ((s2_lit14 ..).trans (if_pos q)) (Goes.step rfl (s2_next1 ..)
        (Goes.step rfl (((s2_lit19 ..).trans (if_neg hn)).trans (by rw [c]; rfl)) (Goes.step rfl (s2_next2 ..) (Goes.step rfl (((s2_lit24 ..).trans (if_neg hn)).trans (by rw [b]; rfl))
        (Goes.step rfl (s2_assert ..) (Goes.step rfl ((s2_lit29 ..).trans (if_pos q)) (Goes.step rfl (s2_look ..) (Goes.step rfl (s2_jmp32 ..) (end2 _ _ _ _ _ _ _ _ _ _ _ (by rw [l]))))))))))))).le (by omega)
    · cases d : (text.getD (s + 1) 0 == 10)
      · have l : len2 text lim s = 1 := by unfold len2; rw [d, Bool.and_false]; rfl
        exact (Goes.step rfl (s2_branch ..) (Goes.step rfl (((s2_lit12 ..).trans (if_neg hn)).trans (by rw [b]; rfl)) (Goes.step rfl (((s2_lit14 ..).trans (if_neg q)).trans (by rw [d]; rfl)) (Goes.step rfl (s2_next1 ..)
          (Goes.step rfl (((s2_lit19 ..).trans (if_neg hn)).trans (by rw [c]; rfl)) (Goes.step rfl (s2_next2 ..) (Goes.step rfl (((s2_lit24 ..).trans (if_neg hn)).trans (by rw [b]; rfl))
          (Goes.step rfl (s2_assert ..) (Goes.step rfl (((s2_lit29 ..).trans (if_neg q)).trans (by rw [d]; rfl)) (Goes.step rfl (s2_look ..) (Goes.step rfl (s2_jmp32 ..) (end2 _ _ _ _ _ _ _ _ _ _ _ (by rw [l]))))))))))))).le (by omega)
      · have l : len2 text lim s = 2 := by unfold len2; rw [b, d]; simp; omega
        exact (Goes.step rfl (s2_branch ..) (Goes.step rfl (((s2_lit12 ..).trans (if_neg hn)).trans (by rw [b]; rfl)) (Goes.step rfl (((s2_lit14 ..).trans (if_neg q)).trans (by rw [d]; rfl)) (Goes.step rfl (s2_jmp16 ..)
          (end2 _ _ _ _ _ _ _ _ _ _ _ (by rw [l])))))).le (by omega)
theorem inset2 (c fuel : Nat) (seen : Seen) : Sre.inSet code2 c (fuel + 3) 5 true seen = if (c == 10) = true then .ok (true, seen.add 16) else if (c == 13) = true then .ok (true, (seen.add 16).add 16) else .ok (false, ((seen.add 16).add 16).add 0) := by
  kernel_rfl
theorem admitted2 (m : M) (text : Array Nat) (lim : Nat) (hc : m.code = code2) (ht : m.text = text) (hl : m.lim = lim) : ∀ k s seen, s + k = lim → ∃ seen', M.admitted m (k + 1) s seen = .ok ((fnd2 text lim k s).map (·.1), seen')
  | 0, s, seen, e => by
    unfold M.admitted
    rw [if_pos (by omega)]
    exact ⟨_, rfl⟩
  | k + 1, s, seen, e => by
    unfold M.admitted
    rw [if_neg (by omega), hc, ht]
    rw [show code2.size = 33 + 3 from rfl, inset2]
    unfold fnd2 at2
    by_cases a : (text.getD s 0 == 10) = true
    · rw [if_pos a, a]
      exact ⟨_, rfl⟩
    · rw [if_neg a, Bool.eq_false_iff.mpr a]
      by_cases b : (text.getD s 0 == 13) = true
      · rw [if_pos b, b]
        exact ⟨_, rfl⟩
      · rw [if_neg b, Bool.eq_false_iff.mpr b]
        obtain ⟨s', h⟩ := admitted2 m text lim hc ht hl k (s + 1) (((seen.add 16).add 16).add 0) (by omega)
        refine ⟨s', ?_⟩
        show M.admitted m (k + 1) (s + 1) _ = _
        rw [h]
        rfl
noncomputable abbrev m2 (text : Array Nat) (lim pos : Nat) : M := mk code2 text lim pos 10 pos pos true [] 0 none (({} : Seen).add 14)
theorem search2_eq (text : Array Nat) (pos lim : Nat) : Sre.forSearch code2 text 0 pos lim false = if (decide (pos > lim) || decide (lim - pos < 1)) = true then { mk code2 text lim pos 10 pos pos true [] 0 (some false) (({} : Seen).add 14) with lastStart := 0 } else
    (match M.admitted (m2 text lim pos) (lim + 1 - pos) pos (({} : Seen).add 14) with
      | .ok (some s, seen) => mk code2 text lim s 10 s s true [fr s 10 true] 1 none seen
      | .ok (none, seen) => mk code2 text lim pos 10 pos pos true [] 0 (some false) seen
      | .error why => M.stick (m2 text lim pos) why) := by
  kernel_rfl
theorem fnd2_some {text : Array Nat} {lim b e : Nat} : ∀ k s, s + k = lim → fnd2 text lim k s = some (b, e) → s ≤ b ∧ b < lim ∧ at2 text b = true ∧ e = b + len2 text lim b
  | 0, s, _, h => by cases h
  | k + 1, s, hk, h => by
    unfold fnd2 at h
    split at h
    · cases h; exact ⟨Nat.le_refl _, by omega, by assumption, rfl⟩
    · have h9 := fnd2_some k (s + 1) (by omega) h
      exact ⟨by omega, h9.2⟩
theorem search2 (text : Array Nat) (k pos lim : Nat) (e : pos + k = lim) : Goes 20 (Sre.forSearch code2 text 0 pos lim false) (Tells (fnd2 text lim k pos)) := by
  rw [search2_eq]
  by_cases h : lim - pos < 1
  · obtain rfl : k = 0 := by omega
    rw [if_pos (by simp [h])]
    exact ⟨1, by omega, by kernel_rfl, (by unfold Tells; show Option.some _ = _; kernel_rfl)⟩
  · rw [if_neg (by simp; omega)]
    obtain ⟨seen, hs⟩ := admitted2 (m2 text lim pos) text lim rfl rfl rfl k pos (({} : Seen).add 14) e
    rw [show lim + 1 - pos = k + 1 by omega, hs]
    cases hf : fnd2 text lim k pos with
    | none => exact (go_no ..).le (by omega)
    | some r =>
      obtain ⟨b, e2⟩ := r
      obtain ⟨h1, h2, h3, h4⟩ := fnd2_some k pos e hf
      subst h4
      exact go2 text lim b true _ h2 h3

end Mine
end
section
example : True := by (w_top off; trivial)
open PySem PySem.Sre PySem.Builtin PySem.Builtin.Re
namespace Mine
theorem plainAttrs_pat : PlainAttrs "re.Pattern" :=
  ⟨⟨"object.__getattribute__", by rw [typeLookup_type, builtinLookup_eq_fast]; kernel_rfl, by decide +kernel⟩, by rw [typeLookup_type, builtinLookup_eq_fast]; kernel_rfl⟩
theorem slot_sub : Slot "re.Pattern" "sub" "re.Pattern.sub" :=
  .of (owner := "re.Pattern") (n := "sub") (by rw [typeLookup_type, builtinLookup_eq_fast]; kernel_rfl) (by decide +kernel) (by decide +kernel) (by decide +kernel)
    (by first | exact .inl (by decide +kernel) | exact .inr (by decide +kernel)) (by rw [isSubtype_type]; kernel_rfl)
theorem type_sub : typeOf (.builtin "re.Pattern.sub") = pure (.type "method_descriptor") := by show builtinType _ = _; rw [builtinType_eq_fast]; kernel_rfl
theorem entry_sub : entryFor table "re.Pattern.sub" = some Builtin.«re.Pattern.sub» := entryFor_of_tree (by kernel_rfl)
theorem entry_loop : entryFor table "re.Pattern.sub.loop" = some Builtin.«re.Pattern.sub.loop» := entryFor_of_tree (by kernel_rfl)
theorem plain_loop : plainId "re.Pattern.sub.loop" = true := by decide +kernel
theorem str_call : typeLookup (.type "str") "__call__" = pure none := by rw [typeLookup_type, builtinLookup_eq_fast]; kernel_rfl
theorem named (a b : Value) : reNamed "re.Pattern.sub" "sub" ["repl", "string", "count"] 2 [a, b] [] = pure [some a, some b, none] := by kernel_rfl
theorem args_sub (a b c : Value) : argsOk "re.Pattern.sub" ⟨[a, b, c], []⟩ := by
  unfold argsOk
  kernel_rfl
end Mine
end
section
example : True := by (w_top off; trivial)
open PySem PySem.Sre PySem.Builtin PySem.Builtin.Re PySem.Builtin.Str
namespace Mine
section
variable {M : PySem.Model} {A : Around} {E : Value → Shared → Prop} {s : Shared}
theorem wp_drive {P : Sre.M → Prop} {Q : Sre.M → Shared → Prop} (h : ∀ m', m'.outcome.isSome = true → P m' → Q m' s) :
    ∀ (T n : Nat) (m : Sre.M), n ≤ 4 * (T + 1) → (Sre.M.runFor n m).outcome.isSome = true → P (Sre.M.runFor n m) → wpAny M A (reDrive (T + 1) m) Q E s := by
  intro T
  induction T with
  | zero =>
    intro n m hn h1 h2
    have e : Sre.M.runFor reTurnSteps m = Sre.M.runFor n m := by
      show Sre.M.runFor 4 m = _
      rw [show 4 = n + (4 - n) by omega, runFor_add, runFor_end h1]
    unfold reDrive
    simp only [e, h1, if_true]
    exact wpAny_pure (h _ h1 h2)
  | succ T ih =>
    intro n m hn h1 h2
    by_cases q : (Sre.M.runFor reTurnSteps m).outcome.isSome = true
    · have e : Sre.M.runFor n m = Sre.M.runFor reTurnSteps m := by
        by_cases hn4 : n ≤ 4
        · show _ = Sre.M.runFor 4 m
          rw [show 4 = n + (4 - n) by omega, runFor_add, runFor_end h1]
        · rw [show n = reTurnSteps + (n - 4) from by show n = 4 + (n - 4); omega, runFor_add, runFor_end q]
      unfold reDrive
      simp only [q, if_true]
      rw [e] at h2
      exact wpAny_pure (h _ q h2)
    · have hn4 : 4 < n := by
        refine Nat.lt_of_not_le fun hle => q ?_
        show (Sre.M.runFor 4 m).outcome.isSome = true
        rw [show 4 = n + (4 - n) by omega, runFor_add, runFor_end h1]
        exact h1
      unfold reDrive
      simp only [q, if_false]
      refine wpAny_bind (wpAny_rule ?_)
      refine ih (n - 4) _ (by omega) ?_ ?_
      · show (Sre.M.runFor (n - 4) (Sre.M.runFor 4 m)).outcome.isSome = true
        rw [← runFor_add, show 4 + (n - 4) = n by omega]; exact h1
      · show P (Sre.M.runFor (n - 4) (Sre.M.runFor 4 m))
        rw [← runFor_add, show 4 + (n - 4) = n by omega]; exact h2
theorem wp_toEnd {r : Option (Nat × Nat)} {N : Nat} {m : Sre.M} {Q : Option Sre.M → Shared → Prop} (g : Goes N m (Tells r)) (hN : N ≤ 2 ^ 64)
    (h : match r with | none => Q none s | some (b, e) => ∀ m', m'.start = b → m'.handed = e → Q (some m') s) : wpAny M A (reRunToEnd m) Q E s := by
  obtain ⟨n, h1, h2, h3⟩ := g
  unfold reRunToEnd
  refine wpAny_bind ?_
  rw [show (2 : Nat) ^ 64 = (2 ^ 64 - 1) + 1 from rfl]
  refine wp_drive (P := Tells r) (fun m' he ht => ?_) (2 ^ 64 - 1) n m (by omega) h2 h3
  refine wpAny_bind ?_
  refine wpAny_forIn_list _ (fun _ _ s' => s' = s) _ ?_ ?_ _ _ rfl
  · rintro x rest b s' rfl
    split
    · first | exact wpAny_bind (wpAny_rule (wpAny_pure rfl)) | exact wpAny_bind (wpAny_bind (wpAny_rule (wpAny_pure (wpAny_pure rfl))))
    · first | exact wpAny_pure rfl | exact wpAny_bind (M := M) (wpAny_pure (wpAny_pure rfl))
  · rintro b s' rfl
    cases r with
    | none =>
      unfold Tells at ht
      simp only at ht
      rw [ht]
      exact wpAny_pure h
    | some r =>
      obtain ⟨b, e⟩ := r
      unfold Tells at ht
      simp only at ht
      rw [ht.1]
      exact wpAny_pure (h m' ht.2.1 ht.2.2)
/-- what a pattern object is in the heap -/
structure PatAt (h : Heap) (P : Addr) (code : Array Nat) : Prop where
  pat : ∃ a b c T n vs, h.get? P = some { cls := .type "re.Pattern", data := .fields #[a, b, .int 0 c, .none, .none, .ref T, .int 0 n] } ∧ ∃ o k, h.get? T = some o ∧ o.data = .seq vs k ∧ (vs.map reRawOf).map (·.toNat) = code
noncomputable abbrev tgt (P : Addr) (x : Str) (u : Tok) (code : Array Nat) : ReTarget := { pattern := .ref P, string := .str x u, code, text := x.cps, kind := 0, groups := 0, pos := 0, lim := x.cps.size }
theorem wp_target {P : Addr} {x : Str} {u : Tok} {code : Array Nat} {Q : ReTarget → Shared → Prop} (hp : PatAt s.heap P code) (h : Q (tgt P x u code) s) : wpAny M A (reWholeTarget (.ref P) (.str x u)) Q E s := by
  obtain ⟨a, b, c, T, n, vs, h1, o, k, h2, h3, rfl⟩ := hp.pat
  unfold reWholeTarget
  refine wpAny_bind (wpAny_fieldsOf h1 rfl ?_)
  show wpAny M A (pure (x.cps, 0) >>= _) Q E s
  refine wpAny_bind (wpAny_pure ?_)
  show wpAny M A (pure () >>= _) Q E s
  refine wpAny_bind (wpAny_pure ?_)
  show wpAny M A (reRawItems (.ref T) >>= _) Q E s
  refine wpAny_bind ?_
  unfold reRawItems
  refine wpAny_bind (wpAny_seqItems h2 h3 (wpAny_pure (wpAny_pure h)))
end
noncomputable def cat : List Str → List Nat
  | [] => []
  | y :: r => y.cps.toList ++ cat r
theorem cat_append : ∀ a b : List Str, cat (a ++ b) = cat a ++ cat b
  | [], b => rfl
  | y :: r, b => by show y.cps.toList ++ cat (r ++ b) = y.cps.toList ++ cat r ++ cat b; rw [cat_append r b, List.append_assoc]
theorem join_empty : ∀ l : List Str, (Str.join ⟨#[]⟩ l).cps.toList = cat l
  | [] => rfl
  | [x] => by show x.cps.toList = x.cps.toList ++ []; rw [List.append_nil]
  | x :: y :: r => by
    show (x.cps ++ #[] ++ (Str.join ⟨#[]⟩ (y :: r)).cps).toList = x.cps.toList ++ cat (y :: r)
    rw [Array.toList_append, join_empty (y :: r), Array.append_empty]
theorem cat_len : ∀ l : List Str, (cat l).length = (l.map (·.length)).sum
  | [] => rfl
  | y :: r => by
    show (y.cps.toList ++ cat r).length = y.length + (r.map (·.length)).sum
    rw [List.length_append, cat_len r]
    rfl
/-- a step of the search from i, and what it makes of the text behind -/
structure Sub (code : Array Nat) (x repl : Str) (F : Nat → List Nat) : Prop where
  next : ∀ i, i ≤ x.cps.size → ∃ r, (∃ N, N ≤ 2 ^ 64 ∧ Goes N (Sre.forSearch code x.cps 0 i x.cps.size false) (Tells r)) ∧
    match r with
    | none => F i = (x.cps.extract i x.cps.size).toList
    | some (b, e) => i ≤ b ∧ b < e ∧ e ≤ x.cps.size ∧ F i = (x.cps.extract i b).toList ++ repl.cps.toList ++ F e
noncomputable def LAt (h : Heap) (S : Addr) (vs : Array Value) : Prop := ∃ n, h.get? S = some { cls := .type "list", dict := none, data := .seq vs n, slots := #[] }
section
variable {prog : Program} {w : World} {A : Around} {E : Value → Shared → Prop} {s : Shared} {R : Result → Shared → Prop}
theorem wp_push {S : Addr} {vs : Array Value} {v : Value} {Q : Unit → Shared → Prop} (hl : LAt s.heap S vs) (hsz : vs.size ≤ 1000000)
    (h : ∀ h', LAt h' S (vs.push v) → (∀ b o, b ≠ S → s.heap.get? b = some o → h'.get? b = some o) → Q () { s with heap := h' }) : wpAny (model prog w) A (updateSeq S (·.push v)) Q E s := by
  obtain ⟨n, hn⟩ := hl
  refine wpAny_updateSeq hn rfl (h _ ⟨_, PySem.IsL.update hn _⟩ fun b o hb e => (Heap.get?_update_other _ _ (Ne.symm hb)).trans e) ?_ ?_
  · show vs.size ≤ 2 ^ 24; omega
  · show (vs.push v).size ≤ 2 ^ 24 + 1; rw [Array.size_push]; omega
end
end Mine
end
section
example : True := by (w_top off; trivial)
open PySem PySem.Sre PySem.Builtin PySem.Builtin.Re PySem.Builtin.Str
namespace Mine
theorem PatAt.keep {h h' : Heap} {P : Addr} {code : Array Nat} (p : PatAt h P code) (k : ∀ b o, h.get? b = some o → h'.get? b = some o) : PatAt h' P code := by
  obtain ⟨a, b, c, T, n, vs, h1, o, k', h2, h3, h4⟩ := p.pat
  exact ⟨⟨a, b, c, T, n, vs, k _ _ h1, o, k', k _ _ h2, h3, h4⟩⟩
section
variable {prog : Program} {w : World} {A : Around} {s : Shared} {R : Result → Shared → Prop}
theorem sub_tail {A' : Around} {x : Str} {S : Addr} {n : Nat} {l : List (Str × Tok)} (hl : LAt s.heap S (strValues l).toArray) (htot : (cat (l.map (·.1))).length ≤ 100000)
    (hR : ∀ tk tok, R (.ok (.ret (.str ⟨(cat (l.map (·.1))).toArray⟩ tok))) { s with toks := tk }) :
    wpAny (model prog w) A (do
      let joiner ← reSlice x.cps 0 0 0
      let __do_lift ← seqItems? (Value.ref S)
      if (__do_lift.getD #[]).isEmpty = true then do
          let text ← pure joiner
          if false = true then do
              let __do_lift ←
                holding [text] do
                    let __do_lift ← mkInt ↑n
                    newTuple [text, __do_lift]
              ret __do_lift
            else ret text
        else do
          let text ← call (Value.builtin (if ((0 : Nat) == 0) = true then "str.join" else "bytes.join")) [joiner, Value.ref S]
          if false = true then do
              let __do_lift ←
                holding [text] do
                    let __do_lift ← mkInt ↑n
                    newTuple [text, __do_lift]
              ret __do_lift
            else ret text) (fun fin s' => match fin with | .done f => R (.ok f) s' | .again c' => c'.quiet = true ∧ codeAny (model prog w) A' c' R s') (fun e s' => R (.error e) s') s := by
  have e0 : x.cps.extract 0 0 = #[] := by simp
  refine wpAny_bind ?_
  show wpAny _ A (mkStr ⟨x.cps.extract 0 0⟩) _ _ s
  refine wpAny_mkStr ?_ (by rw [e0]; exact Nat.zero_le _)
  obtain ⟨k, hk⟩ := hl
  refine wpAny_bind (wpAny_seqItems (s := { s with toks := s.toks + 1 }) hk rfl ?_)
  rw [e0]
  cases l with
  | nil =>
    show wpAny _ A (pure _ >>= _) _ _ _
    refine wpAny_bind (wpAny_pure ?_)
    exact wpAny_pure (hR _ _)
  | cons p r =>
    show wpAny _ A (call (.builtin "str.join") [.str ⟨#[]⟩ s.toks, .ref S] >>= _) _ _ _
    refine wpAny_bind (SC.join (l := p :: r) ⟨_, hk, rfl, k, rfl⟩ rfl ?_ fun t' k' => ?_)
    · unfold JoinOk tooLong
      rw [StrLaws.joinTotal]
      rw [cat_len] at htot
      have : (Str.length ⟨#[]⟩) = 0 := rfl
      rw [this, Nat.mul_zero, Nat.add_zero]
      have h2 : ¬ ((List.map (fun x => x.1) (p :: r)).map (·.length)).sum > sizeLine := by
        unfold sizeLine; omega
      rw [decide_eq_false h2]
      rfl
    · have e1 : Txt.join ⟨#[]⟩ (List.map (fun x => x.1) (p :: r)) = ⟨(cat (List.map (fun x => x.1) (p :: r))).toArray⟩ := by
        show glued _ _ = _
        rw [StrLaws.glued_eq_join]
        have := join_empty (List.map (fun x => x.1) (p :: r))
        generalize Str.join ⟨#[]⟩ (List.map (fun x => x.1) (p :: r)) = y at this ⊢
        obtain ⟨y⟩ := y
        rw [← this, Array.toArray_toList]
      rw [e1]
      exact wpAny_pure (hR _ _)
theorem sub_loop {P S : Addr} {x repl : Str} {u t : Tok} {code : Array Nat} {F : Nat → List Nat} {h₀ : Heap} (hs : Sub code x repl F) (hp : PatAt h₀ P code) (hS : h₀.get? S = none) (hx : x.cps.size ≤ 100000) (hF : ∀ i, (F i).length ≤ 100000) :
    ∀ k i (l : List (Str × Tok)) (n : Nat) (s₁ : Shared), i + k = x.cps.size → LAt s₁.heap S (strValues l).toArray → (∀ b o, h₀.get? b = some o → s₁.heap.get? b = some o) → l.length ≤ 2 * i → (cat (l.map (·.1)) ++ F i).length ≤ 100000 →
      (∀ h' tk tok, (∀ b o, h₀.get? b = some o → h'.get? b = some o) → R (.ok (.ret (.str ⟨(cat (l.map (·.1)) ++ F i).toArray⟩ tok))) { s₁ with heap := h', toks := tk }) →
      codeAny (model prog w) A (.builtin "re.Pattern.sub.loop" ⟨[.ref P, .str x u, .str repl t, rawInt 0, rawInt 0, rawInt n, rawInt i, rawInt i, .bool false, .ref S, .bool false], []⟩) R s₁ := by
  intro k
  induction k using Nat.strongRecOn with
  | ind k ih =>
  intro i l n s₁ hk hl hkeep hlen htot hR
  refine codeAny_builtin entry_loop ?_
  rw [Around.under_plainId plain_loop _]
  show wpAny _ A.in1 (reWholeTarget (.ref P) (.str x u) >>= _) _ _ s₁
  refine wpAny_bind (wp_target (hp.keep hkeep) ?_)
  show wpAny _ A.in1 (pure () >>= _) _ _ s₁
  refine wpAny_bind (wpAny_pure ?_)
  show wpAny _ A.in1 (reRunToEnd (Sre.forSearch code x.cps 0 i x.cps.size false) >>= _) _ _ s₁
  refine wpAny_bind ?_
  obtain ⟨r, ⟨N, hN, hg⟩, hr⟩ := hs.next i (by omega)
  refine wp_toEnd hg hN ?_
  cases r with
  | none =>
    simp only at hr ⊢
    by_cases q : i < x.cps.size
    · rw [if_pos (show (i : Int).toNat < x.cps.size from q)]
      refine wpAny_bind ?_
      show wpAny _ A.in1 (mkStr ⟨x.cps.extract i x.cps.size⟩) _ _ s₁
      have hle : (x.cps.extract i x.cps.size).size ≤ 100000 := by rw [Array.size_extract]; omega
      refine wpAny_mkStr ?_ (Nat.le_trans hle (by decide))
      refine wpAny_bind (wp_push (s := { s₁ with toks := s₁.toks + 1 }) hl (by simp only [List.size_toArray, strValues, List.length_map]; omega) fun h' hl' hk' => ?_)
      have e : (strValues l).toArray.push (Value.str ⟨x.cps.extract i x.cps.size⟩ s₁.toks) = (strValues (l ++ [(⟨x.cps.extract i x.cps.size⟩, s₁.toks)])).toArray := by
        apply Array.toList_inj.mp
        simp [strValues]
      rw [e] at hl'
      have e2 : cat ((l ++ [((⟨x.cps.extract i x.cps.size⟩ : Str), s₁.toks)]).map (·.1)) = cat (l.map (·.1)) ++ F i := by
        rw [List.map_append, cat_append, hr]
        show cat _ ++ ((x.cps.extract i x.cps.size).toList ++ []) = _
        rw [List.append_nil]
      refine sub_tail hl' (by rw [e2]; exact htot) fun tk tok => ?_
      rw [e2]
      exact hR h' tk tok fun b o hb => hk' b o (fun e => by rw [e, hS] at hb; cases hb) (hkeep b o hb)
    · rw [if_neg (show ¬ (i : Int).toNat < x.cps.size from q)]
      have e2 : F i = [] := by rw [hr]; simp; omega
      rw [e2, List.append_nil] at htot
      refine sub_tail hl htot fun tk tok => ?_
      have := hR s₁.heap tk tok hkeep
      rwa [e2, List.append_nil] at this
  | some r =>
    obtain ⟨b, e⟩ := r
    simp only at hr ⊢
    rintro m' rfl rfl
    obtain ⟨hb1, hb2, hb3, hF2⟩ := hr
    have hbe : (m'.handed == m'.start) = false := by simpa using Nat.ne_of_gt hb2
    have fin : ∀ (l2 : List (Str × Tok)) (h2 : Heap) (tk2 : Nat), LAt h2 S (strValues l2).toArray → (∀ b o, h₀.get? b = some o → h2.get? b = some o) → l2.length ≤ 2 * i + 1 → cat (l2.map (·.1)) = cat (l.map (·.1)) ++ (x.cps.extract i m'.start).toList →
        wpAny (model prog w) A.in1 (do
          let item ← pure (Value.str repl t)
          if (item != Value.none) = true then do
              updateSeq S fun x => x.push item
              again (Code.builtin "re.Pattern.sub.loop" { pos := [Value.ref P, Value.str x u, Value.str repl t, rawInt 0, rawInt 0, rawInt (↑n + 1), rawInt ↑m'.handed, rawInt ↑m'.handed, Value.bool (m'.handed == m'.start), Value.ref S, Value.bool false] })
            else again (Code.builtin "re.Pattern.sub.loop" { pos := [Value.ref P, Value.str x u, Value.str repl t, rawInt 0, rawInt 0, rawInt (↑n + 1), rawInt ↑m'.handed, rawInt ↑m'.handed, Value.bool (m'.handed == m'.start), Value.ref S, Value.bool false] }))
          (fun fin s' => match fin with | .done f => R (.ok f) s' | .again c' => c'.quiet = true ∧ codeAny (model prog w) A c' R s') (fun e s' => R (.error e) s') { s₁ with heap := h2, toks := tk2 } := by
      intro l2 h2 tk2 hl2 hk2 hn2 hc2
      refine wpAny_bind (wpAny_pure ?_)
      show wpAny _ A.in1 (updateSeq S (fun x => x.push (Value.str repl t)) >>= _) _ _ _
      refine wpAny_bind (wp_push (s := { s₁ with heap := h2, toks := tk2 }) hl2 (by simp only [List.size_toArray, strValues, List.length_map]; omega) fun h' hl' hk' => ?_)
      refine wpAny_pure ⟨plainId_quiet plain_loop _, ?_⟩
      have e : (strValues l2).toArray.push (Value.str repl t) = (strValues (l2 ++ [(repl, t)])).toArray := by
        apply Array.toList_inj.mp
        simp [strValues]
      rw [e] at hl'
      rw [hbe]
      have e2 : cat ((l2 ++ [(repl, t)]).map (·.1)) ++ F m'.handed = cat (l.map (·.1)) ++ F i := by
        rw [List.map_append, cat_append, hc2, hF2]
        show cat _ ++ (x.cps.extract i m'.start).toList ++ (repl.cps.toList ++ []) ++ F _ = _
        simp only [List.append_nil, List.append_assoc]
      refine ih (x.cps.size - m'.handed) (by omega) m'.handed (l2 ++ [(repl, t)]) (n + 1) { s₁ with heap := h', toks := tk2 } (by omega) hl' (fun b o hb => hk' b o (fun e => by rw [e, hS] at hb; cases hb) (hk2 b o hb)) (by rw [List.length_append]; show l2.length + 1 ≤ _; omega) (by rw [e2]; exact htot) fun h3 tk3 tok3 hk3 => ?_
      rw [e2]
      exact hR h3 tk3 tok3 hk3
    by_cases q : i < m'.start
    · rw [if_pos (show (i : Int).toNat < m'.start from q)]
      refine wpAny_bind ?_
      show wpAny _ A.in1 (mkStr ⟨x.cps.extract i m'.start⟩) _ _ s₁
      have hle : (x.cps.extract i m'.start).size ≤ 100000 := by rw [Array.size_extract]; omega
      refine wpAny_mkStr ?_ (Nat.le_trans hle (by decide))
      refine wpAny_bind (wp_push (s := { s₁ with toks := s₁.toks + 1 }) hl (by simp only [List.size_toArray, strValues, List.length_map]; omega) fun h' hl' hk' => ?_)
      have e : (strValues l).toArray.push (Value.str ⟨x.cps.extract i m'.start⟩ s₁.toks) = (strValues (l ++ [(⟨x.cps.extract i m'.start⟩, s₁.toks)])).toArray := by
        apply Array.toList_inj.mp
        simp [strValues]
      rw [e] at hl'
      refine fin _ h' _ hl' (fun b o hb => hk' b o (fun e => by rw [e, hS] at hb; cases hb) (hkeep b o hb)) (by rw [List.length_append]; show l.length + 1 ≤ _; omega) ?_
      rw [List.map_append, cat_append]
      show cat _ ++ ((x.cps.extract i m'.start).toList ++ []) = _
      rw [List.append_nil]
    · rw [if_neg (show ¬ (i : Int).toNat < m'.start from q)]
      refine fin l s₁.heap s₁.toks hl hkeep (by omega) ?_
      have : (x.cps.extract i m'.start).toList = [] := by simp; omega
      rw [this, List.append_nil]
theorem sub_wp {E : Value → Shared → Prop} {P : Addr} {x repl : Str} {u t : Tok} {code : Array Nat} {F : Nat → List Nat} {Q : Value → Shared → Prop} (hs : Sub code x repl F) (hp : PatAt s.heap P code) (hx : x.cps.size ≤ 100000) (hF : ∀ i, (F i).length ≤ 100000)
    (hbs : repl.cps.contains 92 = false)
    (h : ∀ h' tk tok, (∀ b o, s.heap.get? b = some o → h'.get? b = some o) → Q (.str ⟨(F 0).toArray⟩ tok) { s with heap := h', toks := tk }) :
    wpAny (model prog w) A (call (.builtin "re.Pattern.sub") [.ref P, .str repl t, .str x u]) Q E s := by
  obtain ⟨a, b, c, T, n, vs, h1, o, k, h2, h3, h4⟩ := hp.pat
  refine wpAny_call (codeAny_call_builtin slot_sub.plain entry_sub (slot_sub.check _ _ _ _ _ _ _ _ ⟨_, h1, rfl⟩ (args_sub _ _ _) ?_))
  show wpAny _ A.in1 (reNamed "re.Pattern.sub" "sub" ["repl", "string", "count"] 2 [.str repl t, .str x u] [] >>= _) _ _ s
  rw [named]
  refine wpAny_bind (wpAny_pure ?_)
  show wpAny _ A.in1 (pure (0 : Int) >>= _) _ _ s
  refine wpAny_bind (wpAny_pure ?_)
  show wpAny _ A.in1 (specialOf (.str repl t) "__call__" >>= _) _ _ s
  refine wpAny_bind (wpAny_specialOf (T := "str") (typeIs_str _ _ _) str_call ?_)
  show wpAny _ A.in1 (pure (some repl) >>= _) _ _ s
  refine wpAny_bind (wpAny_pure ?_)
  show wpAny _ A.in1 (pure (!repl.cps.contains 92) >>= _) _ _ s
  refine wpAny_bind (wpAny_pure ?_)
  rw [hbs]
  show wpAny _ A.in1 (pure (Value.str repl t, (0 : Int)) >>= _) _ _ s
  refine wpAny_bind (wpAny_pure ?_)
  show wpAny _ A.in1 (holding [.str repl t] (reWholeTarget (.ref P) (.str x u)) >>= _) _ _ s
  refine wpAny_bind (wpAny_holding (wp_target hp ?_))
  show wpAny _ A.in1 (newList [] >>= _) _ _ s
  refine wpAny_bind (wpAny_newList ?_ (by decide))
  refine wpAny_pure ⟨plainId_quiet plain_loop _, ?_⟩
  have hS : s.heap.get? s.heap.objs.size = none := by
    cases q : s.heap.get? s.heap.objs.size with
    | none => rfl
    | some o => exact absurd (Heap.lt_size q) (Nat.lt_irrefl _)
  exact sub_loop (R := wants Q E) (h₀ := s.heap) (S := s.heap.objs.size) hs hp hS hx hF x.cps.size 0 [] 0 { s with heap := s.heap.push { cls := .type "list", data := .seq ([] : List Value).toArray } } (Nat.zero_add _) ⟨0, Heap.get?_push_size _ rfl⟩ (fun b o hb => Heap.get?_push_of_some _ hb) (Nat.le_refl _) (hF 0) fun h' tk tok hk => h h' tk tok hk
end
end Mine
end
section
example : True := by (w_top off; trivial)
open PySem PySem.Sre PySem.Builtin PySem.Builtin.Re PySem.Builtin.Str
namespace Mine
noncomputable def dotF : Bool → List Nat → List Nat
  | _, [] => []
  | b, c :: r => if (b && c == 46) = true then 46 :: 46 :: dotF (c == 10) r else c :: dotF (c == 10) r
noncomputable def crlfF : List Nat → List Nat
  | [] => []
  | c :: r => if (c == 10) = true then 13 :: 10 :: crlfF r else if (c == 13) = true then (match r with | [] => [13, 10] | d :: r' => if (d == 10) = true then 13 :: 10 :: crlfF r' else 13 :: 10 :: crlfF (d :: r')) else c :: crlfF r
theorem dotF_len : ∀ l b, (dotF b l).length ≤ 2 * l.length
  | [], _ => by simp [dotF]
  | c :: r, b => by
    have := dotF_len r (c == 10)
    unfold dotF
    split <;> simp only [List.length_cons] <;> omega
theorem crlfF_len : ∀ n (l : List Nat), l.length ≤ n → (crlfF l).length ≤ 2 * l.length
  | _, [], _ => by simp [crlfF]
  | 0, _ :: _, h => by simp at h
  | n + 1, c :: r, h => by
    simp only [List.length_cons] at h ⊢
    unfold crlfF
    split
    · have := crlfF_len n r (by omega)
      simp only [List.length_cons]; omega
    · split
      · cases r with
        | nil => simp
        | cons d r' =>
          simp only [List.length_cons] at h ⊢
          split
          · have := crlfF_len n r' (by omega)
            simp only [List.length_cons]; omega
          · have := crlfF_len n (d :: r') (by simp only [List.length_cons]; omega)
            simp only [List.length_cons] at this ⊢; omega
      · have := crlfF_len n r (by omega)
        simp only [List.length_cons]; omega
theorem drop_getD (x : Array Nat) (i : Nat) (h : i < x.size) : x.toList.drop i = x.getD i 0 :: x.toList.drop (i + 1) := by
  rw [List.drop_eq_getElem_cons (by simpa using h)]
  simp [Array.getD, h]
theorem ext_cons (x : Array Nat) (i n : Nat) (h : i < n) (hn : n ≤ x.size) : (x.extract i n).toList = x.getD i 0 :: (x.extract (i + 1) n).toList := by
  simp only [Array.toList_extract, List.extract]
  rw [drop_getD x i (by omega), show n - i = (n - (i + 1)) + 1 by omega, List.take_succ_cons]
theorem ext_all (x : Array Nat) (i : Nat) : (x.extract i x.size).toList = x.toList.drop i := by
  simp only [Array.toList_extract, List.extract]
  exact List.take_of_length_le (by simp)
theorem ext_nil (x : Array Nat) (i : Nat) : (x.extract i i).toList = [] := by simp
noncomputable def F1 (x : Array Nat) (i : Nat) : List Nat := dotF (i == 0 || x.getD (i - 1) 0 == 10) (x.toList.drop i)
noncomputable def F2 (x : Array Nat) (i : Nat) : List Nat := crlfF (x.toList.drop i)
theorem F1_cons (x : Array Nat) (i : Nat) (h : i < x.size) : F1 x i = if at1 x i = true then 46 :: 46 :: F1 x (i + 1) else x.getD i 0 :: F1 x (i + 1) := by
  unfold F1
  rw [drop_getD x i h]
  show (if _ then _ else _) = _
  unfold at1
  rw [show (i + 1 == 0) = false from rfl, Bool.false_or, Nat.add_sub_cancel]
theorem next1 (x : Array Nat) : ∀ k i, i + k = x.size → match fnd1 x k i with
    | none => F1 x i = (x.extract i x.size).toList
    | some (b, e) => i ≤ b ∧ b < e ∧ e ≤ x.size ∧ F1 x i = (x.extract i b).toList ++ [46, 46] ++ F1 x e
  | 0, i, h => by
    show F1 x i = _
    rw [ext_all, List.drop_eq_nil_of_le (by simp; omega)]
    unfold F1
    rw [List.drop_eq_nil_of_le (by simp; omega)]
    rfl
  | k + 1, i, h => by
    unfold fnd1
    rw [F1_cons x i (by omega)]
    by_cases a : at1 x i = true
    · rw [if_pos a, if_pos a]
      refine ⟨Nat.le_refl _, Nat.lt_succ_self _, by omega, ?_⟩
      rw [ext_nil]; rfl
    · rw [if_neg a, if_neg a]
      have ih := next1 x k (i + 1) (by omega)
      revert ih
      cases fnd1 x k (i + 1) with
      | none => intro ih; simp only at ih ⊢; rw [ih, ext_cons x i x.size (by omega) (Nat.le_refl _)]
      | some r =>
        obtain ⟨b, e⟩ := r
        intro ih
        simp only at ih ⊢
        refine ⟨by omega, ih.2.1, ih.2.2.1, ?_⟩
        rw [ih.2.2.2, ext_cons x i b (by omega) (by omega)]
        rfl
theorem F2_at (x : Array Nat) (i : Nat) (h : i < x.size) (a : at2 x i = true) : F2 x i = 13 :: 10 :: F2 x (i + len2 x x.size i) := by
  unfold F2
  rw [drop_getD x i h]
  conv => lhs; unfold crlfF
  by_cases c : (x.getD i 0 == 10) = true
  · rw [if_pos c]
    have : len2 x x.size i = 1 := by
      unfold len2
      have h10 : x.getD i 0 = 10 := by simpa using c
      rw [h10]; rfl
    rw [this]
  · rw [if_neg c]
    have d : (x.getD i 0 == 13) = true := by unfold at2 at a; rw [Bool.eq_false_iff.mpr c, Bool.false_or] at a; exact a
    rw [if_pos d]
    by_cases q : i + 1 < x.size
    · rw [drop_getD x (i + 1) q]
      simp only
      unfold len2
      rw [d, decide_eq_true q]
      by_cases e : (x.getD (i + 1) 0 == 10) = true
      · rw [if_pos e, e]; rfl
      · rw [if_neg e, Bool.eq_false_iff.mpr e, if_neg (by simp), ← drop_getD x (i + 1) q]
    · have hl : len2 x x.size i = 1 := by unfold len2; rw [if_neg]; simp; intros; omega
      rw [hl, List.drop_eq_nil_of_le (i := i + 1) (by simp; omega)]
      unfold crlfF
      rfl
theorem F2_not (x : Array Nat) (i : Nat) (h : i < x.size) (a : ¬ at2 x i = true) : F2 x i = x.getD i 0 :: F2 x (i + 1) := by
  unfold F2
  rw [drop_getD x i h]
  unfold at2 at a
  have a1 : ¬ (x.getD i 0 == 10) = true := fun e => a (by rw [e]; rfl)
  have a2 : ¬ (x.getD i 0 == 13) = true := fun e => a (by rw [e, Bool.or_true])
  conv => lhs; unfold crlfF
  rw [if_neg a1, if_neg a2]
theorem len2_or (x : Array Nat) (b : Nat) : len2 x x.size b = 1 ∨ (len2 x x.size b = 2 ∧ b + 1 < x.size) := by
  unfold len2
  split
  · rename_i q
    simp only [Bool.and_eq_true, decide_eq_true_eq] at q
    exact .inr ⟨rfl, q.1.2⟩
  · exact .inl rfl
theorem len2_le (x : Array Nat) (b : Nat) (h : b < x.size) : b < b + len2 x x.size b ∧ b + len2 x x.size b ≤ x.size := by
  rcases len2_or x b with h1 | h1 <;> omega
theorem next2 (x : Array Nat) : ∀ k i, i + k = x.size → match fnd2 x x.size k i with
    | none => F2 x i = (x.extract i x.size).toList
    | some (b, e) => i ≤ b ∧ b < e ∧ e ≤ x.size ∧ F2 x i = (x.extract i b).toList ++ [13, 10] ++ F2 x e
  | 0, i, h => by
    show F2 x i = _
    rw [ext_all, List.drop_eq_nil_of_le (by simp; omega)]
    unfold F2
    rw [List.drop_eq_nil_of_le (by simp; omega)]
    rfl
  | k + 1, i, h => by
    unfold fnd2
    by_cases a : at2 x i = true
    · rw [F2_at x i (by omega) a, if_pos a]
      have := len2_le x i (by omega)
      refine ⟨Nat.le_refl _, this.1, this.2, ?_⟩
      rw [ext_nil]; rfl
    · rw [F2_not x i (by omega) a, if_neg a]
      have ih := next2 x k (i + 1) (by omega)
      revert ih
      cases fnd2 x x.size k (i + 1) with
      | none => intro ih; simp only at ih ⊢; rw [ih, ext_cons x i x.size (by omega) (Nat.le_refl _)]
      | some r =>
        obtain ⟨b, e⟩ := r
        intro ih
        simp only at ih ⊢
        refine ⟨by omega, ih.2.1, ih.2.2.1, ?_⟩
        rw [ih.2.2.2, ext_cons x i b (by omega) (by omega)]
        rfl
theorem sub1 (x : Str) (hx : x.cps.size ≤ 50000) : Sub code1 x (Str.ofString "..") (F1 x.cps) where
  next := fun i hi => ⟨fnd1 x.cps (x.cps.size - i) i, ⟨_, by have : (2 : Nat) ^ 64 = 18446744073709551616 := rfl; rw [this]; omega, search1 x.cps (x.cps.size - i) i x.cps.size (by omega)⟩, by
    have := next1 x.cps (x.cps.size - i) i (by omega)
    revert this
    cases fnd1 x.cps (x.cps.size - i) i with
    | none => exact id
    | some r => exact id⟩
theorem sub2 (x : Str) (hx : x.cps.size ≤ 50000) : Sub code2 x (Str.ofString "\r\n") (F2 x.cps) where
  next := fun i hi => ⟨fnd2 x.cps x.cps.size (x.cps.size - i) i, ⟨_, by decide, search2 x.cps (x.cps.size - i) i x.cps.size (by omega)⟩, by
    have := next2 x.cps (x.cps.size - i) i (by omega)
    revert this
    cases fnd2 x.cps x.cps.size (x.cps.size - i) i with
    | none => exact id
    | some r => exact id⟩
section
variable {prog : Program} {w : World} {A : Around} {s : Shared} {E : Value → Shared → Prop} {Q : Value → Shared → Prop} {P : Addr} {t u : Tok}
theorem sub1_wp {x : List Nat} (hp : PatAt s.heap P code1) (hx : x.length ≤ 50000)
    (h : ∀ h' tk tok, (∀ b o, s.heap.get? b = some o → h'.get? b = some o) → Q (.str ⟨(dotF true x).toArray⟩ tok) { s with heap := h', toks := tk }) :
    wpAny (model prog w) A (call (.builtin "re.Pattern.sub") [.ref P, .str (Str.ofString "..") t, .str ⟨x.toArray⟩ u]) Q E s :=
  sub_wp (sub1 ⟨x.toArray⟩ hx) hp (Nat.le_trans hx (by decide)) (fun i => by
    have := dotF_len (x.drop i) (i == 0 || x.toArray.getD (i - 1) 0 == 10)
    rw [List.length_drop] at this
    exact Nat.le_trans this (by omega)) (by decide +kernel) h
theorem sub2_wp {x : List Nat} (hp : PatAt s.heap P code2) (hx : x.length ≤ 50000)
    (h : ∀ h' tk tok, (∀ b o, s.heap.get? b = some o → h'.get? b = some o) → Q (.str ⟨(crlfF x).toArray⟩ tok) { s with heap := h', toks := tk }) :
    wpAny (model prog w) A (call (.builtin "re.Pattern.sub") [.ref P, .str (Str.ofString "\r\n") t, .str ⟨x.toArray⟩ u]) Q E s :=
  sub_wp (sub2 ⟨x.toArray⟩ hx) hp (Nat.le_trans hx (by decide)) (fun i => by
    have := crlfF_len _ (x.drop i) (Nat.le_refl _)
    rw [List.length_drop] at this
    exact Nat.le_trans this (by omega)) (by decide +kernel) h
end
end Mine
end
section
example : True := by (w_top off; trivial)
open PySem PySem.Builtin PySem.Builtin.Str PySem.StrLaws
namespace Mine
theorem at_one (x : Str) (c hi i : Nat) : At x ⟨#[c]⟩ hi i ↔ (i + 1 ≤ hi ∧ x.cps.toList[i]? = some c) := by
  unfold At
  rw [subAt_eq]
  show (i + 1 ≤ hi ∧ ((x.cps.toList.drop i).take 1 == [c]) = true) ↔ _
  rw [take1_drop]
/-- c stands first at n, ahead of hi -/
noncomputable def FirstAt (l : List Nat) (c hi n : Nat) : Prop := n + 1 ≤ hi ∧ l[n]? = some c ∧ ∀ k, k < n → l[k]? ≠ some c
noncomputable def LastAt (l : List Nat) (c hi n : Nat) : Prop := n + 1 ≤ hi ∧ l[n]? = some c ∧ ∀ k, n < k → k + 1 ≤ hi → l[k]? ≠ some c
theorem occ_at (x y : Str) (hi limit n : Nat) (hl : 1 ≤ limit) (h : At x y hi n) (hb : ∀ k, k < n → ¬ At x y hi k) : ∃ r, occurrences x y 0 hi limit = n :: r := by
  rw [occ_eq]
  rcases occ_first x y hi limit hl (List.range' 0 (hi + 1 - 0)) 0 (fun _ _ => Nat.zero_le _) with ⟨h0, hn⟩ | ⟨pre, a, post, e, h0, ha, hn⟩
  · refine absurd h (hn n ?_)
    have := h.1
    simp [List.mem_range'] <;> omega
  · have hpre : ∀ k, k < a → ¬ At x y hi k := fun k hk => hn k (range'_split e k hk)
    have hna : n = a := by
      rcases Nat.lt_trichotomy n a with q | q | q
      · exact absurd h (hpre n q)
      · exact q
      · exact absurd ha (hb a q)
    subst hna
    refine ⟨((forIn (List.range' 0 (hi + 1 - 0)) ((#[] : Array Nat), 0) (occBody x y hi limit)).run.fst.toList).tail, ?_⟩
    generalize (forIn (List.range' 0 (hi + 1 - 0)) ((#[] : Array Nat), 0) (occBody x y hi limit)).run.fst = arr at h0
    have h1 : arr.toList[0]? = some n := by simpa using h0
    cases hL : arr.toList with
    | nil => rw [hL] at h1; cases h1
    | cons b t => rw [hL] at h1; simp at h1; rw [h1]; rfl
theorem occ_firstAt (x : Str) (c hi n : Nat) (h : FirstAt x.cps.toList c hi n) : ∃ r, occurrences x ⟨#[c]⟩ 0 hi 1 = n :: r :=
  occ_at x _ hi 1 n (Nat.le_refl _) ((at_one ..).mpr ⟨h.1, h.2.1⟩) fun k hk q => h.2.2 k hk ((at_one ..).mp q).2
theorem last_at (x y : Str) (hi n : Nat) (h : At x y hi n) (hb : ∀ k, n < k → ¬ At x y hi k) : lastOccurrence x y 0 hi = some n := by
  rw [last_eq]
  have key := last_run x y hi (List.range' 0 (hi + 1 - 0)) [] none (fun _ h => nomatch h) (fun _ h => nomatch h) (by simpa using List.pairwise_lt_range' (s := 0) (n := hi + 1 - 0))
  have mem : ∀ i, At x y hi i → i ∈ [] ++ List.range' 0 (hi + 1 - 0) := fun i hi' => by have := hi'.1; simp [List.mem_range'] <;> omega
  cases hr : (forIn (List.range' 0 (hi + 1 - 0)) none (lastBody x y hi)).run with
  | none => rw [hr] at key; exact absurd h (key n (mem n h))
  | some a =>
    rw [hr] at key
    have hna : n = a := by
      rcases Nat.lt_trichotomy n a with q | q | q
      · exact absurd key.1 (hb a q)
      · exact q
      · exact absurd h (key.2 n (mem n h) q)
    rw [hna]
theorem last_lastAt (x : Str) (c hi n : Nat) (h : LastAt x.cps.toList c hi n) : lastOccurrence x ⟨#[c]⟩ 0 hi = some n :=
  last_at x _ hi n ((at_one ..).mpr ⟨h.1, h.2.1⟩) fun k hk q => h.2.2 k hk ((at_one ..).mp q).1 ((at_one ..).mp q).2
theorem gives_find_rng (x y : Str) (i j : Int) (t u v z : Tok) : Gives («str.find» ⟨[.str x t, .str y u, .int i v, .int j z], []⟩) (.int (match occurrences x y (fromIndex x.length i) (min (fromIndex x.length j) x.length) 1 with | k :: _ => (k : Int) | [] => -1)) := by
  show Gives (match occurrences x y (fromIndex x.length i) (min (fromIndex x.length j) x.length) 1 with | k :: _ => retInt k | [] => (do rule "str.find.not-found"; retInt (-1))) _
  cases occurrences x y (fromIndex x.length i) (min (fromIndex x.length j) x.length) 1 with
  | nil => exact .rule (.of_eq rfl)
  | cons k _ => exact .of_eq rfl
theorem gives_rfind_rng (x y : Str) (i j : Int) (t u v z : Tok) : Gives («str.rfind» ⟨[.str x t, .str y u, .int i v, .int j z], []⟩) (.int (match lastOccurrence x y (fromIndex x.length i) (min (fromIndex x.length j) x.length) with | some k => (k : Int) | none => -1)) := by
  show Gives (match lastOccurrence x y (fromIndex x.length i) (min (fromIndex x.length j) x.length) with | some k => retInt k | none => (do rule "str.rfind.not-found"; retInt (-1))) _
  cases lastOccurrence x y (fromIndex x.length i) (min (fromIndex x.length j) x.length) with
  | none => exact .rule (.of_eq rfl)
  | some k => exact .of_eq rfl
theorem fromIndex_nat (len n : Nat) : fromIndex len (n : Int) = n := by
  unfold fromIndex; rw [if_neg (by omega)]; omega
section
variable {prog : Program} {w : World} {A : Around} {E : Value → Shared → Prop} {s : Shared} {x y : Str} {t u v z : Tok} {Q : Value → Shared → Prop} {c : Nat}
theorem find_1 {n : Int} (hy : y = ⟨#[c]⟩) (hn : 0 ≤ n) (h : FirstAt x.cps.toList c x.cps.size n.toNat) (hq : Q (.int n s.toks) { s with toks := s.toks + 1 }) : wpAny (model prog w) A (call (.builtin "str.find") [.str x t, .str y u]) Q E s := by
  subst hy
  refine SC.find ?_
  have e : Txt.find x ⟨#[c]⟩ = n := by
    show (match occurrences x ⟨#[c]⟩ 0 x.length 1 with | i :: _ => (i : Int) | [] => -1) = n
    obtain ⟨r, hr⟩ := occ_firstAt x c x.cps.size n.toNat h
    rw [show x.length = x.cps.size from rfl, hr]
    show (n.toNat : Int) = n
    omega
  rw [e]; exact hq
theorem find_3 {n j j0 : Int} (hy : y = ⟨#[c]⟩) (hn : 0 ≤ n) (hj : 0 ≤ j ∧ j ≤ x.cps.size) (h : FirstAt x.cps.toList c j0.toNat n.toNat) (hj0 : j = j0) (hq : Q (.int n s.toks) { s with toks := s.toks + 1 }) : wpAny (model prog w) A (call (.builtin "str.find") [.str x t, .str y u, .int 0 v, .int j z]) Q E s := by
  subst hy
  subst hj0
  refine call_gives F.slot_str_find (typeIs_str _ _ _) F.entry_str_find (F.args_str_find_4 _ _ _ _) (gives_find_rng x ⟨#[c]⟩ 0 j t u v z) ?_
  have e : (match occurrences x ⟨#[c]⟩ (fromIndex x.length 0) (min (fromIndex x.length j) x.length) 1 with | k :: _ => (k : Int) | [] => -1) = n := by
    obtain ⟨r, hr⟩ := occ_firstAt x c j.toNat n.toNat h
    rw [show fromIndex x.length 0 = 0 from fromIndex_nat _ 0, show fromIndex x.length j = j.toNat from by rw [← fromIndex_nat x.length j.toNat, Int.toNat_of_nonneg hj.1], Nat.min_eq_left (by show j.toNat ≤ x.cps.size; omega), hr]
    show (n.toNat : Int) = n
    omega
  rw [e]; exact hq
theorem rfind_3 {n j j0 : Int} (hy : y = ⟨#[c]⟩) (hn : 0 ≤ n) (hj : 0 ≤ j ∧ j ≤ x.cps.size) (h : LastAt x.cps.toList c j0.toNat n.toNat) (hj0 : j = j0) (hq : Q (.int n s.toks) { s with toks := s.toks + 1 }) : wpAny (model prog w) A (call (.builtin "str.rfind") [.str x t, .str y u, .int 0 v, .int j z]) Q E s := by
  subst hy
  subst hj0
  refine call_gives F.slot_str_rfind (typeIs_str _ _ _) F.entry_str_rfind (F.args_str_rfind_4 _ _ _ _) (gives_rfind_rng x ⟨#[c]⟩ 0 j t u v z) ?_
  have e : (match lastOccurrence x ⟨#[c]⟩ (fromIndex x.length 0) (min (fromIndex x.length j) x.length) with | some k => (k : Int) | none => -1) = n := by
    rw [show fromIndex x.length 0 = 0 from fromIndex_nat _ 0, show fromIndex x.length j = j.toNat from by rw [← fromIndex_nat x.length j.toNat, Int.toNat_of_nonneg hj.1], Nat.min_eq_left (by show j.toNat ≤ x.cps.size; omega), last_lastAt x c j.toNat n.toNat h]
    show (n.toNat : Int) = n
    omega
  rw [e]; exact hq
theorem len_1 {n : Int} (h : (x.cps.size : Int) = n) (hs : n ≤ 1000) (hq : Q (.int n (s.toks + 1)) { s with toks := s.toks + 1 + 1 }) : wpAny (model prog w) A (call (.builtin "len") [.str x t]) Q E s := by
  refine PySem.P.len_str (by show ¬ (x.cps.size : Int) ≥ 2 ^ 63; omega) ?_
  show Q (.int (x.cps.size : Int) _) _
  rw [h]; exact hq
end
end Mine
end
section
example : True := by (w_top off; trivial)
open PySem PySem.Builtin PySem.Builtin.Str PySem.StrLaws PyProof.Rows PySem.W
namespace Mine
noncomputable abbrev nl : Str := ⟨#[13, 10]⟩
noncomputable def rowsT : List (List Nat) → List Nat
  | [] => []
  | A :: r => A ++ 13 :: 10 :: rowsT r
theorem at_nl (l : List Nat) (k : Nat) : At ⟨l.toArray⟩ nl l.length k ↔ (k + 2 ≤ l.length ∧ (l.drop k).take 2 = [13, 10]) := by
  unfold At
  rw [subAt_eq]
  show (k + 2 ≤ l.length ∧ ((l.drop k).take 2 == [13, 10]) = true) ↔ _
  rw [beq_iff_eq]
theorem sub_mid (l A r : List Nat) (a : Nat) (h : l.drop a = A ++ r) : strSub ⟨l.toArray⟩ a (a + A.length) = ⟨A.toArray⟩ := by
  apply Str.ext'
  apply Array.toList_inj.mp
  rw [strSub_toList]
  show (l.drop a).take (a + A.length - a) = A
  rw [h, Nat.add_sub_cancel_left, List.take_left' rfl]
theorem chain_parts (l : List Nat) : ∀ (rs : List (List Nat)) (a : Nat) (cuts : List Nat) (f : Nat), l.drop a = rowsT rs → a ≤ l.length → (∀ A ∈ rs, 13 ∉ A) →
    ChainG ⟨l.toArray⟩ nl l.length a cuts f → (∀ k, f ≤ k → ¬ At ⟨l.toArray⟩ nl l.length k) → partsFrom ⟨l.toArray⟩ 2 a cuts = rs.map (fun A => (⟨A.toArray⟩ : Str)) ++ [⟨#[]⟩]
  | [], a, cuts, f, hd, ha, _, hc, hf => by
    have hlen : l.length ≤ a := by
      have := congrArg List.length hd
      rw [List.length_drop] at this
      show l.length ≤ a
      simp [rowsT] at this
      omega
    cases cuts with
    | nil =>
      show [strSub ⟨l.toArray⟩ a l.toArray.size] = _
      have h := sub_mid l [] [] a (by rw [hd]; rfl)
      rw [show l.toArray.size = a + ([] : List Nat).length by simp; omega, h]
      rfl
    | cons c r =>
      have h1 : a ≤ c := hc.1
      have h2 := ((at_nl l c).mp hc.2.1).1
      omega
  | A :: rs, a, cuts, f, hd, ha, h13, hc, hf => by
    have hl2 : l.length = a + A.length + 2 + (rowsT rs).length := by
      have := congrArg List.length hd
      rw [List.length_drop] at this
      simp [rowsT] at this
      omega
    have hp : At ⟨l.toArray⟩ nl l.length (a + A.length) := by
      rw [at_nl]
      refine ⟨by omega, ?_⟩
      rw [← List.drop_drop, hd]
      show ((A ++ 13 :: 10 :: rowsT rs).drop A.length).take 2 = _
      rw [List.drop_left' rfl]
      rfl
    have hn : ∀ k, a ≤ k → k < a + A.length → ¬ At ⟨l.toArray⟩ nl l.length k := by
      intro k h1 h2 h3
      rw [at_nl] at h3
      obtain ⟨j, rfl⟩ : ∃ j, k = a + j := ⟨k - a, by omega⟩
      have h4 := h3.2
      rw [← List.drop_drop, hd] at h4
      have hj : j < A.length := by omega
      have h5 : ((A ++ 13 :: 10 :: rowsT rs).drop j) = A[j] :: ((A ++ 13 :: 10 :: rowsT rs).drop (j + 1)) := by
        rw [List.drop_eq_getElem_cons (by simp; omega)]
        rw [List.getElem_append_left hj]
      have h4' : ((A ++ 13 :: 10 :: rowsT rs).drop j).take 2 = [13, 10] := h4
      rw [h5, List.take_succ_cons] at h4'
      have h6 : A[j] = 13 := by injection h4'
      exact h13 A (.head _) (h6 ▸ List.getElem_mem hj)
    cases cuts with
    | nil =>
      have e : f = a := hc
      exact absurd hp (hf _ (by omega))
    | cons c r =>
      have hca : c = a + A.length := by
        rcases Nat.lt_trichotomy c (a + A.length) with q | q | q
        · exact absurd hc.2.1 (hn c hc.1 q)
        · exact q
        · exact absurd hp (hc.2.2.1 _ (by omega) q)
      subst hca
      show strSub ⟨l.toArray⟩ a (a + A.length) :: partsFrom ⟨l.toArray⟩ 2 (a + A.length + 2) r = _
      rw [sub_mid l A (13 :: 10 :: rowsT rs) a hd]
      have ih := chain_parts l rs (a + A.length + 2) r f (by
        rw [show a + A.length + 2 = a + (A.length + 2) by omega, ← List.drop_drop, hd]
        show (A ++ 13 :: 10 :: rowsT rs).drop (A.length + 2) = _
        rw [← List.drop_drop, List.drop_left' rfl]
        rfl) (by omega) (fun B hB => h13 B (.tail _ hB)) hc.2.2.2 hf
      rw [ih]
      rfl
theorem split_rows (rs : List (List Nat)) (hne : rs ≠ []) (h13 : ∀ A ∈ rs, 13 ∉ A) : Txt.split ⟨(rowsT rs).toArray⟩ nl = rs.map (fun A => (⟨A.toArray⟩ : Str)) ++ [⟨#[]⟩] := by
  obtain ⟨f, hc, hf⟩ := occ_tight ⟨(rowsT rs).toArray⟩ nl (by decide)
  have hlen : (⟨(rowsT rs).toArray⟩ : Str).length = (rowsT rs).length := by show (rowsT rs).toArray.size = _; simp
  rw [hlen] at hc hf
  have key := chain_parts (rowsT rs) rs 0 _ f rfl (Nat.zero_le _) h13 hc hf
  have h2 : 2 ≤ (rowsT rs).length := by
    cases rs with
    | nil => exact absurd rfl hne
    | cons A r => simp [rowsT]; omega
  unfold Txt.split
  have k1 : (decide ((⟨(rowsT rs).toArray⟩ : Str).length < nl.length) || decide (strKind ⟨(rowsT rs).toArray⟩ < strKind nl)) = false := by
    rw [hlen, decide_eq_false (by show ¬ (rowsT rs).length < 2; omega), Bool.false_or, decide_eq_false]
    rw [show strKind nl = 1 by decide +kernel]
    unfold Builtin.Str.strKind
    split
    · omega
    · split <;> omega
  rw [if_neg (by rw [k1]; decide)]
  rw [hlen]
  cases hcut : occurrences ⟨(rowsT rs).toArray⟩ nl 0 (rowsT rs).length ((rowsT rs).length + 1) with
  | nil =>
    rw [hcut] at key
    have hl := congrArg List.length key
    simp [partsFrom] at hl
    exact absurd hl hne
  | cons c r =>
    rw [hcut] at key
    rw [if_neg (show ¬ (c :: r).isEmpty = true from Bool.false_ne_true), partsBetween_eq]
    exact key
section
variable {prog : Program} {w : World} {A : Around} {E : Value → Shared → Prop} {s : Shared} {h₀ : Heap} {L : Addr} {m : Str → Option Value} {news : List (Addr × Obj)}
theorem split4_N {x y r0 r1 r2 r3 : Str} {t u : Tok} {Q : Value → Shared → Prop} (F : Fr h₀ L s.heap m) (N : News h₀ L s.heap news) (hsp : Txt.split x nl = [r0, r1, r2, r3]) (hy : y = nl) (hx : x.cps.size ≤ 1000)
    (h : ∀ t0 t1 t2 t3 D h' tk, Fr h₀ L h' m → News h₀ L h' ((D, PySem.W.listOf [Value.str r0 t0, .str r1 t1, .str r2 t2, .str r3 t3].toArray 0) :: news) → (∀ p ∈ news, p.1 < D) → Q (.ref D) { s with heap := h', toks := tk }) :
    wpAny (model prog w) A (call (.builtin "str.split") [.str x t, .str y u]) Q E s := by
  subst hy
  unfold Txt.split at hsp
  by_cases h1 : (decide (x.length < nl.length) || decide (strKind x < strKind nl)) = true
  · rw [if_pos h1] at hsp; cases hsp
  · rw [if_neg h1] at hsp
    by_cases hf : (occurrences x nl 0 x.length (x.length + 1)).isEmpty = true
    · rw [if_pos hf] at hsp; cases hsp
    · rw [if_neg hf] at hsp
      refine call_meets PySem.F.slot_str_split (typeIs_str _ _ _) PySem.F.entry_str_split (PySem.F.args_str_split_2 _ _) (meets_str_split_sep x nl t u (Bool.eq_false_iff.mpr h1) (by decide) (Bool.eq_false_iff.mpr hf) (Nat.le_trans hx (by decide)) (by rw [hsp]; exact Nat.le_of_ble_eq_true rfl)) ?_
      show Q (.ref s.heap.objs.size) { s with toks := _, heap := s.heap.push { cls := .type "list", data := .seq (strsFrom s.toks (partsBetween x (occurrences x nl 0 x.length (x.length + 1)) nl.length)).toArray } }
      rw [hsp]
      exact h _ _ _ _ _ _ _ (Fr.push F _) (News.push F N _) (fun p hp => Heap.lt_size (N p hp).1)
end
end Mine
end
section
open Mine
open PySem PySem.W PyProof.Rows PySem.Calls PySem.Spec
local macro_rules | `(tactic| k_lt $h:ident) => `(tactic| (replace $h := allLt_of $h; dsimp only [AllLt] at $h:ident))
local macro_rules | `(tactic| ktr_room) => `(tactic| ((try simp only [depth_under_make, depth_under_kw, depth_in1, depth_deeper, depth_caller]); (try dsimp only [ktrTop]); omega))
local macro_rules | `(tactic| ktr_units) => `(tactic| ((have hcL9 := cLine_is); (try simp only [units_in1, units_deeper, Around.mark_units, units_caller]); (try dsimp only [ktrTop]); omega))
theorem Mine.sp0 {T : List (Addr × Obj)} : Mine.Spl T T [] := .nil
theorem Mine.sp1 {T : List (Addr × Obj)} {x0 : Addr × Obj} : Mine.Spl T (x0 :: T) [x0] := .cons (.nil)
theorem Mine.sp2 {T : List (Addr × Obj)} {x0 x1 : Addr × Obj} : Mine.Spl T (x0 :: (x1 :: T)) [x0, x1] := .cons (.cons (.nil))
theorem Mine.sp3 {T : List (Addr × Obj)} {x0 x1 x2 : Addr × Obj} : Mine.Spl T (x0 :: (x1 :: (x2 :: T))) [x0, x1, x2] := .cons (.cons (.cons (.nil)))
theorem Mine.sp4 {T : List (Addr × Obj)} {x0 x1 x2 x3 : Addr × Obj} : Mine.Spl T (x0 :: (x1 :: (x2 :: (x3 :: T)))) [x0, x1, x2, x3] := .cons (.cons (.cons (.cons (.nil))))
theorem Mine.sp5 {T : List (Addr × Obj)} {x0 x1 x2 x3 x4 : Addr × Obj} : Mine.Spl T (x0 :: (x1 :: (x2 :: (x3 :: (x4 :: T))))) [x0, x1, x2, x3, x4] := .cons (.cons (.cons (.cons (.cons (.nil)))))
theorem Mine.sp6 {T : List (Addr × Obj)} {x0 x1 x2 x3 x4 x5 : Addr × Obj} : Mine.Spl T (x0 :: (x1 :: (x2 :: (x3 :: (x4 :: (x5 :: T)))))) [x0, x1, x2, x3, x4, x5] := .cons (.cons (.cons (.cons (.cons (.cons (.nil))))))
theorem Mine.sp7 {T : List (Addr × Obj)} {x0 x1 x2 x3 x4 x5 x6 : Addr × Obj} : Mine.Spl T (x0 :: (x1 :: (x2 :: (x3 :: (x4 :: (x5 :: (x6 :: T))))))) [x0, x1, x2, x3, x4, x5, x6] := .cons (.cons (.cons (.cons (.cons (.cons (.cons (.nil)))))))
theorem Mine.sp8 {T : List (Addr × Obj)} {x0 x1 x2 x3 x4 x5 x6 x7 : Addr × Obj} : Mine.Spl T (x0 :: (x1 :: (x2 :: (x3 :: (x4 :: (x5 :: (x6 :: (x7 :: T)))))))) [x0, x1, x2, x3, x4, x5, x6, x7] := .cons (.cons (.cons (.cons (.cons (.cons (.cons (.cons (.nil))))))))
theorem Mine.sp9 {T : List (Addr × Obj)} {x0 x1 x2 x3 x4 x5 x6 x7 x8 : Addr × Obj} : Mine.Spl T (x0 :: (x1 :: (x2 :: (x3 :: (x4 :: (x5 :: (x6 :: (x7 :: (x8 :: T))))))))) [x0, x1, x2, x3, x4, x5, x6, x7, x8] := .cons (.cons (.cons (.cons (.cons (.cons (.cons (.cons (.cons (.nil)))))))))
theorem Mine.sp10 {T : List (Addr × Obj)} {x0 x1 x2 x3 x4 x5 x6 x7 x8 x9 : Addr × Obj} : Mine.Spl T (x0 :: (x1 :: (x2 :: (x3 :: (x4 :: (x5 :: (x6 :: (x7 :: (x8 :: (x9 :: T)))))))))) [x0, x1, x2, x3, x4, x5, x6, x7, x8, x9] := .cons (.cons (.cons (.cons (.cons (.cons (.cons (.cons (.cons (.cons (.nil))))))))))
theorem Mine.sp11 {T : List (Addr × Obj)} {x0 x1 x2 x3 x4 x5 x6 x7 x8 x9 x10 : Addr × Obj} : Mine.Spl T (x0 :: (x1 :: (x2 :: (x3 :: (x4 :: (x5 :: (x6 :: (x7 :: (x8 :: (x9 :: (x10 :: T))))))))))) [x0, x1, x2, x3, x4, x5, x6, x7, x8, x9, x10] := .cons (.cons (.cons (.cons (.cons (.cons (.cons (.cons (.cons (.cons (.cons (.nil)))))))))))
theorem Mine.sp12 {T : List (Addr × Obj)} {x0 x1 x2 x3 x4 x5 x6 x7 x8 x9 x10 x11 : Addr × Obj} : Mine.Spl T (x0 :: (x1 :: (x2 :: (x3 :: (x4 :: (x5 :: (x6 :: (x7 :: (x8 :: (x9 :: (x10 :: (x11 :: T)))))))))))) [x0, x1, x2, x3, x4, x5, x6, x7, x8, x9, x10, x11] := .cons (.cons (.cons (.cons (.cons (.cons (.cons (.cons (.cons (.cons (.cons (.cons (.nil))))))))))))
theorem Mine.sp13 {T : List (Addr × Obj)} {x0 x1 x2 x3 x4 x5 x6 x7 x8 x9 x10 x11 x12 : Addr × Obj} : Mine.Spl T (x0 :: (x1 :: (x2 :: (x3 :: (x4 :: (x5 :: (x6 :: (x7 :: (x8 :: (x9 :: (x10 :: (x11 :: (x12 :: T))))))))))))) [x0, x1, x2, x3, x4, x5, x6, x7, x8, x9, x10, x11, x12] := .cons (.cons (.cons (.cons (.cons (.cons (.cons (.cons (.cons (.cons (.cons (.cons (.cons (.nil)))))))))))))
theorem Mine.cspec_at {w : World} {c : Nat} {f : Addr} {vs : List Value} {news : List (Addr × Obj)} {R : Heap → Addr → (Str → Option Value) → Shared → (Value → Shared → Prop) → Prop} (h : CSpec w c f vs news R) {loose : List Str} {mean : ExcName → Option Value} {mg mb : Str → Option Value} {dp un : Nat} {gd : Option (List Code)} {cn : Str} {cs : Scope} {a : Addr} {ccd : Value} {cl : List (Str × Addr)} {outer : List Env} {A₀ : Around} {base h₀ : Heap} {L : Addr} {m : Str → Option Value} {s : Shared} {Q E : Value → Shared → Prop} (k1 : Below A₀ base outer h₀) (k2 : Fr h₀ L s.heap m) (k3 : (Mine.hd.heap_39 w.params).In h₀) (k4 : News h₀ L s.heap news) (k5 : Top topProg loose mean mg mb h₀) (kK : cs.kind = .function) (kd : dp + c < recursionLimit) (ku : un + 8 * c < cLine) (k9 : R h₀ L m s Q) : wpAny (model PySem.Challenge.pw_sn0025_01 w) (ktrTop dp un gd cn cs L a ccd cl outer) (call (.ref f) vs) Q E s := h loose mean mg mb dp un gd cn cs a ccd cl outer A₀ base h₀ L m s Q E k1 k2 k3 k4 k5 kK kd ku k9
theorem Mine.cspec_go {w : World} {c : Nat} {f : Addr} {vs : List Value} {news : List (Addr × Obj)} {R : Heap → Addr → (Str → Option Value) → Shared → (Value → Shared → Prop) → Prop} (h : CSpec w c f vs news R) {loose : List Str} {mean : ExcName → Option Value} {mg mb : Str → Option Value} {dp un : Nat} {gd : Option (List Code)} {cn : Str} {cs : Scope} {a : Addr} {ccd : Value} {cl : List (Str × Addr)} {outer : List Env} {A₀ : Around} {base h₀ : Heap} {L : Addr} {m : Str → Option Value} {s : Shared} {Q E : Value → Shared → Prop} (k9 : R h₀ L m s Q) (k1 : Below A₀ base outer h₀ := by k_asm) (k2 : Fr h₀ L s.heap m := by k_asm) (k3 : (Mine.hd.heap_39 w.params).In h₀ := by k_asm) (k4 : News h₀ L s.heap news := by k_asm) (k5 : Top topProg loose mean mg mb h₀ := by k_asm) (kK : cs.kind = .function := by first | exact rfl | with_reducible assumption | assumption) (kd : dp + c < recursionLimit := by ktr_room) (ku : un + 8 * c < cLine := by ktr_units) : wpAny (model PySem.Challenge.pw_sn0025_01 w) (ktrTop dp un gd cn cs L a ccd cl outer) (call (.ref f) vs) Q E s := h loose mean mg mb dp un gd cn cs a ccd cl outer A₀ base h₀ L m s Q E k1 k2 k3 k4 k5 kK kd ku k9
local macro_rules | `(tactic| walk_at $s:str) => `(tactic| k_extra $s)
section
example : True := by (w_top off; trivial)
example : True := by (k_with_none; trivial)
example : True := by
  k_with "call builtin:min" => (k_here; (with_reducible show wpAny _ _ (call (Value.builtin _) [Value.int _ _, Value.int _ _, Value.int _ _]) _ _ _); k_dflt (refine' min3_N ?k0K9 ?k1K9 ?k2K9 ?_; (case k0K9 => rfl); (case k1K9 => k_asm); (case k2K9 => k_asm)); intro h' tk tok F' N'; revert h' tk tok F' N'; intro _ _ _ _ _)
  k_with "call builtin:max" => (k_here; (with_reducible show wpAny _ _ (call (Value.builtin _) [Value.int _ _, Value.int _ _, Value.int _ _]) _ _ _); k_dflt (refine' max3_N ?k0K9 ?k1K9 ?k2K9 ?_; (case k0K9 => rfl); (case k1K9 => k_asm); (case k2K9 => k_asm)); intro h' tk tok F' N'; revert h' tk tok F' N'; intro _ _ _ _ _)
  k_with "binaryOp Div int int" => (k_here; refine div_small (by omega) (by omega) ?_)
  k_with "subscriptTail" => (k_here; (with_reducible show wpAny _ _ (subscriptTail _ _ (Value.ref _) (Value.int _ _)) _ _ _); k_dflt (first
      | (refine' tup_item ?NK9 ?mK9 ?aK9 ?bK9 ?cK9 ?dK9 ?_ ?eK9; (case NK9 => k_asm); (case mK9 => k_mem); (case aK9 => decide); (case bK9 => decide); (case cK9 => rfl); (case dK9 => rfl); (case eK9 => with_unfolding_all rfl); k_whole)
      | (refine' lst_item ?NK9 ?mK9 ?aK9 ?bK9 ?cK9 ?_ ?eK9; (case NK9 => k_asm); (case mK9 => k_mem); (case aK9 => decide); (case bK9 => decide); (case cK9 => rfl); (case eK9 => with_unfolding_all rfl); k_whole)
      | (refine' lst_itemN ?NK9 ?mK9 ?aK9 ?bK9 ?cK9 ?dK9 ?_ ?eK9; (case NK9 => k_asm); (case mK9 => k_mem); (case aK9 => decide); (case bK9 => decide); (case cK9 => decide); (case dK9 => rfl); (case eK9 => with_unfolding_all rfl); k_whole)))
  trivial
open PySem PySem.W PyProof.Rows PySem.Calls PySem.Spec
namespace Mine
theorem min3_facts (a b c : Int) : min3 a b c ≤ a ∧ min3 a b c ≤ b ∧ min3 a b c ≤ c ∧ (min3 a b c = a ∨ min3 a b c = b ∨ min3 a b c = c) := by
  unfold min3; (repeat' split) <;> omega
theorem max3_facts (a b c : Int) : a ≤ max3 a b c ∧ b ≤ max3 a b c ∧ c ≤ max3 a b c ∧ (max3 a b c = a ∨ max3 a b c = b ∨ max3 a b c = c) := by
  unfold max3; (repeat' split) <;> omega
theorem c_rgb (w : World) (news : List (Addr × Obj)) (r g b : Int) (tr tg tb : Tok) (hr : 0 ≤ r ∧ r ≤ 8) (hg : 0 ≤ g ∧ g ≤ 8) (hb : 0 ≤ b ∧ b ≤ 8) (h0 : r = 0 ∨ g = 0 ∨ b = 0) (h1 : 0 < r ∨ 0 < g ∨ 0 < b) :
   CSpec w 4 80 [.int r tr, .int g tg, .int b tb] news (RTupF (hsvF r g b) news) := by
  have hm := min3_facts r g b
  have hM := max3_facts r g b
  have hne : min3 r g b ≠ max3 r g b := by omega
  intro loose mean mg mb dp un gd cn cs a ccd cl outer A₀ base h₀ L m s Q E hB F X N T hk hd hu hret
  refine wpAny_call ?_
  k_dflt cell_enter
  k_steps
  all_goals first
    | (exfalso; omega)
    | (rename_i kF kN kT kX; refine end_tupF hret kF kN (by assumption) ?_; unfold hsvF; simp (disch := assumption) only [if_pos, if_neg]; done)

end Mine
end
section
example : True := by (w_top off; trivial)
example : True := by (k_with_none; trivial)
example : True := by
  k_with "call builtin:min" => (k_here; (with_reducible show wpAny _ _ (call (Value.builtin _) [Value.int _ _, Value.int _ _, Value.int _ _]) _ _ _); k_dflt (refine' min3_N ?k0K9 ?k1K9 ?k2K9 ?_; (case k0K9 => rfl); (case k1K9 => k_asm); (case k2K9 => k_asm)); intro h' tk tok F' N'; revert h' tk tok F' N'; intro _ _ _ _ _)
  k_with "call builtin:max" => (k_here; (with_reducible show wpAny _ _ (call (Value.builtin _) [Value.int _ _, Value.int _ _, Value.int _ _]) _ _ _); k_dflt (refine' max3_N ?k0K9 ?k1K9 ?k2K9 ?_; (case k0K9 => rfl); (case k1K9 => k_asm); (case k2K9 => k_asm)); intro h' tk tok F' N'; revert h' tk tok F' N'; intro _ _ _ _ _)
  k_with "binaryOp Div int int" => (k_here; refine div_small (by omega) (by omega) ?_)
  k_with "subscriptTail" => (k_here; (with_reducible show wpAny _ _ (subscriptTail _ _ (Value.ref _) (Value.int _ _)) _ _ _); k_dflt (first
      | (refine' tup_item ?NK9 ?mK9 ?aK9 ?bK9 ?cK9 ?dK9 ?_ ?eK9; (case NK9 => k_asm); (case mK9 => k_mem); (case aK9 => decide); (case bK9 => decide); (case cK9 => rfl); (case dK9 => rfl); (case eK9 => with_unfolding_all rfl); k_whole)
      | (refine' lst_item ?NK9 ?mK9 ?aK9 ?bK9 ?cK9 ?_ ?eK9; (case NK9 => k_asm); (case mK9 => k_mem); (case aK9 => decide); (case bK9 => decide); (case cK9 => rfl); (case eK9 => with_unfolding_all rfl); k_whole)
      | (refine' lst_itemN ?NK9 ?mK9 ?aK9 ?bK9 ?cK9 ?dK9 ?_ ?eK9; (case NK9 => k_asm); (case mK9 => k_mem); (case aK9 => decide); (case bK9 => decide); (case cK9 => decide); (case dK9 => rfl); (case eK9 => with_unfolding_all rfl); k_whole)))
  trivial
open PySem PySem.W PyProof.Rows PySem.Calls PySem.Spec
namespace Mine
example : True := by
  k_with "call ref" => (k_here; (with_reducible show wpAny _ _ (call (Value.ref 80) [Value.int _ _, Value.int _ _, Value.int _ _]) _ _ _); k_dflt (refine' cspec_go (c_rgb _ _ _ _ _ _ _ _ ?p1K9 ?p2K9 ?p3K9 ?p4K9 ?p5K9) ?_; (case p1K9 => omega); (case p2K9 => omega); (case p3K9 => omega); (case p4K9 => omega); (case p5K9 => omega)); intro D t1 x2 x3 n h' tk' F' N' l1; revert D t1 x2 x3 n h' tk' F' N' l1; intro _ _ _ _ _ _ _ _ _ _)
  trivial
noncomputable def hueP (x y : Int) : UInt64 := Float64.mul (hsvF (x - min3 x y 0) (y - min3 x y 0) (-(min3 x y 0))) (Float64.ofInt 5040)
noncomputable def hue (x y : Int) : Int := Flt.toInt Float64.nearestOf (hueP x y)
theorem hue_fin0 : ∀ x : Fin 9, ∀ y : Fin 9, (x.val == 4 && y.val == 4) = false → Float64.isNaN (hueP ((x.val : Int) - 4) ((y.val : Int) - 4)) = false ∧ Float64.isInf (hueP ((x.val : Int) - 4) ((y.val : Int) - 4)) = false := by decide +kernel
theorem hue_fin {x y : Int} (hx : -4 ≤ x ∧ x ≤ 4) (hy : -4 ≤ y ∧ y ≤ 4) (hne : ¬ (x = 0 ∧ y = 0)) : Float64.isNaN (hueP x y) = false ∧ Float64.isInf (hueP x y) = false := by
  have := hue_fin0 ⟨(x + 4).toNat, by omega⟩ ⟨(y + 4).toNat, by omega⟩ (by simp; omega)
  simp only at this
  rw [show (((x + 4).toNat : Nat) : Int) - 4 = x by omega, show (((y + 4).toNat : Nat) : Int) - 4 = y by omega] at this
  exact this
theorem c_hue (w : World) (news : List (Addr × Obj)) (x y : Int) (tx ty : Tok) (hx : -4 ≤ x ∧ x ≤ 4) (hy : -4 ≤ y ∧ y ≤ 4) (hne : ¬ (x = 0 ∧ y = 0)) :
   CSpec w 9 151 [.int x tx, .int y ty] news (RInt (hue x y) news) := by
  have hm := min3_facts x y 0
  have hf := hue_fin hx hy hne
  intro loose mean mg mb dp un gd cn cs a ccd cl outer A₀ base h₀ L m s Q E hB F X N T hk hd hu hret
  refine wpAny_call ?_
  k_dflt cell_enter
  k_steps
  all_goals first
    | (exfalso; exact absurd (hf.1.symm.trans (by assumption)) (by decide))
    | (exfalso; exact absurd (hf.2.symm.trans (by assumption)) (by decide))
    | (rename_i kF kN kT kX; exact hret _ _ _ kF (fun p hp => kN p (.tail _ hp)))

end Mine
end
section
example : True := by (w_top off; trivial)
example : True := by (k_with_none; trivial)
example : True := by
  k_with "call builtin:min" => (k_here; (with_reducible show wpAny _ _ (call (Value.builtin _) [Value.int _ _, Value.int _ _, Value.int _ _]) _ _ _); k_dflt (refine' min3_N ?k0K9 ?k1K9 ?k2K9 ?_; (case k0K9 => rfl); (case k1K9 => k_asm); (case k2K9 => k_asm)); intro h' tk tok F' N'; revert h' tk tok F' N'; intro _ _ _ _ _)
  k_with "call builtin:max" => (k_here; (with_reducible show wpAny _ _ (call (Value.builtin _) [Value.int _ _, Value.int _ _, Value.int _ _]) _ _ _); k_dflt (refine' max3_N ?k0K9 ?k1K9 ?k2K9 ?_; (case k0K9 => rfl); (case k1K9 => k_asm); (case k2K9 => k_asm)); intro h' tk tok F' N'; revert h' tk tok F' N'; intro _ _ _ _ _)
  k_with "binaryOp Div int int" => (k_here; refine div_small (by omega) (by omega) ?_)
  k_with "subscriptTail" => (k_here; (with_reducible show wpAny _ _ (subscriptTail _ _ (Value.ref _) (Value.int _ _)) _ _ _); k_dflt (first
      | (refine' tup_item ?NK9 ?mK9 ?aK9 ?bK9 ?cK9 ?dK9 ?_ ?eK9; (case NK9 => k_asm); (case mK9 => k_mem); (case aK9 => decide); (case bK9 => decide); (case cK9 => rfl); (case dK9 => rfl); (case eK9 => with_unfolding_all rfl); k_whole)
      | (refine' lst_item ?NK9 ?mK9 ?aK9 ?bK9 ?cK9 ?_ ?eK9; (case NK9 => k_asm); (case mK9 => k_mem); (case aK9 => decide); (case bK9 => decide); (case cK9 => rfl); (case eK9 => with_unfolding_all rfl); k_whole)
      | (refine' lst_itemN ?NK9 ?mK9 ?aK9 ?bK9 ?cK9 ?dK9 ?_ ?eK9; (case NK9 => k_asm); (case mK9 => k_mem); (case aK9 => decide); (case bK9 => decide); (case cK9 => decide); (case dK9 => rfl); (case eK9 => with_unfolding_all rfl); k_whole)))
  trivial
open PySem PySem.W PyProof.Rows PySem.Calls PySem.Spec
namespace Mine
example : True := by
  k_with "call ref" => (k_here; (with_reducible show wpAny _ _ (call (Value.ref 151) [Value.int _ _, Value.int _ _]) _ _ _); k_dflt (refine' cspec_go (c_hue _ _ _ _ _ _ ?p1K9 ?p2K9 ?p3K9) ?_; (case p1K9 => omega); (case p2K9 => omega); (case p3K9 => omega)); intro t h' tk' F' N'; revert t h' tk' F' N'; intro _ _ _ _ _)
  trivial
local macro_rules | `(tactic| walk_at "isTrue BoolOp") => `(tactic| (k_here; (with_reducible show wpAny _ _ (isTrue (.BoolOp .And [.Compare _ [.Eq] [.Name _ _] _, .Compare _ [.Eq] [.Name _ _] _] _) _ _) _ _ _); (rename Fr _ _ _ _ => zF); k_dflt (refine' and_eq_eq (fun _ hq => ld zF rfl hq) (fun _ hq => ld zF rfl hq) (fun _ hq => ld zF rfl hq) (fun _ hq => ld zF rfl hq) rfl rfl ?_)))
example : True := by
  k_with "eval IfExp" => (k_here; (with_reducible show wpAny _ _ (eval (.IfExp (.Compare (.Name _ _) [.Lt] _ _) _ _ _) _) _ _ _); k_dflt (refine' ifexp_lt ?fK9 ?aK9 ?bK9 ?cK9 ?dK9 ?_; (case fK9 => k_asm); (case aK9 => rfl); (case bK9 => rfl); (case cK9 => rfl); (case dK9 => decide)); intro tk tok; revert tk tok; intro _ _)
  trivial
noncomputable abbrev tup2 (a b : Value) (n : Nat) : Obj := { cls := .type "tuple", data := .seq #[a, b] n }
noncomputable abbrev list3 (a b c : Value) (n : Nat) : Obj := { cls := .type "list", data := .seq #[a, b, c] n }
noncomputable def sgn (s : Int) : Int := if s < 2520 then s else s - 5040
noncomputable def whereF (x y r1 u1 r2 u2 r3 u3 : Int) : Str :=
  if r1 = x ∧ u1 = y then Str.ofString "rim" else if r2 = x ∧ u2 = y then Str.ofString "rim" else if r3 = x ∧ u3 = y then Str.ofString "rim" else
  if (hue (r1 - x) (u1 - y) - hue (r3 - x) (u3 - y)).fmod 5040 = 2520 then Str.ofString "rim" else
  if (hue (r2 - x) (u2 - y) - hue (r1 - x) (u1 - y)).fmod 5040 = 2520 then Str.ofString "rim" else
  if (hue (r3 - x) (u3 - y) - hue (r2 - x) (u2 - y)).fmod 5040 = 2520 then Str.ofString "rim" else
  if sgn ((hue (r1 - x) (u1 - y) - hue (r3 - x) (u3 - y)).fmod 5040) + sgn ((hue (r2 - x) (u2 - y) - hue (r1 - x) (u1 - y)).fmod 5040) + sgn ((hue (r3 - x) (u3 - y) - hue (r2 - x) (u2 - y)).fmod 5040) = 0 then Str.ofString "outside" else Str.ofString "within"
theorem end_str {v u : Str} {news lw lw' : List (Addr × Obj)} {h₀ g : Heap} {L L' : Addr} {m m' : Str → Option Value} {s : Shared} {Q : Value → Shared → Prop} {t : Tok} {h' : Heap} {tk' : Nat}
    (hret : RStr v news h₀ L m s Q) (N₀ : News h₀ L s.heap news) (Nw : News h₀ L s.heap lw) (hG : GSub s.heap g (lw.map (·.1))) (F' : Fr g L' h' m') (F : Fr h₀ L h' m) (kN : News h₀ L h' lw') (hsub : ∀ p ∈ lw, p ∈ lw') (e : v = u) : Q (.str u t) { s with heap := h', toks := tk' } := by
  subst e
  exact hret _ _ _ F (news_back N₀ Nw hG F' kN hsub)
theorem where_facts1 {x y r1 u1 r2 u2 r3 u3 : Int} (h1 : ¬ (r1 = x ∧ u1 = y)) (h2 : ¬ (r2 = x ∧ u2 = y)) (h3 : ¬ (r3 = x ∧ u3 = y)) (h4 : (hue (r1 - x) (u1 - y) - hue (r3 - x) (u3 - y)).fmod 5040 ≠ 2520) (h5 : (hue (r2 - x) (u2 - y) - hue (r1 - x) (u1 - y)).fmod 5040 ≠ 2520) (h6 : (hue (r3 - x) (u3 - y) - hue (r2 - x) (u2 - y)).fmod 5040 ≠ 2520)
   (h7 : 0 + sgn ((hue (r1 - x) (u1 - y) - hue (r3 - x) (u3 - y)).fmod 5040) + sgn ((hue (r2 - x) (u2 - y) - hue (r1 - x) (u1 - y)).fmod 5040) + sgn ((hue (r3 - x) (u3 - y) - hue (r2 - x) (u2 - y)).fmod 5040) = 0) : whereF x y r1 u1 r2 u2 r3 u3 = Str.ofString "outside" := by
  unfold whereF
  rw [Int.zero_add] at h7
  rw [if_neg h1, if_neg h2, if_neg h3, if_neg h4, if_neg h5, if_neg h6, if_pos h7]
theorem where_facts2 {x y r1 u1 r2 u2 r3 u3 : Int} (h1 : ¬ (r1 = x ∧ u1 = y)) (h2 : ¬ (r2 = x ∧ u2 = y)) (h3 : ¬ (r3 = x ∧ u3 = y)) (h4 : (hue (r1 - x) (u1 - y) - hue (r3 - x) (u3 - y)).fmod 5040 ≠ 2520) (h5 : (hue (r2 - x) (u2 - y) - hue (r1 - x) (u1 - y)).fmod 5040 ≠ 2520) (h6 : (hue (r3 - x) (u3 - y) - hue (r2 - x) (u2 - y)).fmod 5040 ≠ 2520)
   (h7 : 0 + sgn ((hue (r1 - x) (u1 - y) - hue (r3 - x) (u3 - y)).fmod 5040) + sgn ((hue (r2 - x) (u2 - y) - hue (r1 - x) (u1 - y)).fmod 5040) + sgn ((hue (r3 - x) (u3 - y) - hue (r2 - x) (u2 - y)).fmod 5040) ≠ 0) : whereF x y r1 u1 r2 u2 r3 u3 = Str.ofString "within" := by
  unfold whereF
  rw [Int.zero_add] at h7
  rw [if_neg h1, if_neg h2, if_neg h3, if_neg h4, if_neg h5, if_neg h6, if_neg h7]
theorem where_r1 {x y r1 u1 r2 u2 r3 u3 : Int} (h1 : r1 = x ∧ u1 = y) : whereF x y r1 u1 r2 u2 r3 u3 = Str.ofString "rim" := by
  unfold whereF; rw [if_pos h1]
theorem where_r2 {x y r1 u1 r2 u2 r3 u3 : Int} (h1 : r2 = x ∧ u2 = y) : whereF x y r1 u1 r2 u2 r3 u3 = Str.ofString "rim" := by
  unfold whereF; rw [if_pos h1]; split <;> rfl
theorem where_r3 {x y r1 u1 r2 u2 r3 u3 : Int} (h1 : r3 = x ∧ u3 = y) : whereF x y r1 u1 r2 u2 r3 u3 = Str.ofString "rim" := by
  unfold whereF; rw [if_pos h1]; split <;> (try rfl); split <;> rfl
theorem where_r4 {x y r1 u1 r2 u2 r3 u3 : Int} (h1 : (hue (r1 - x) (u1 - y) - hue (r3 - x) (u3 - y)).fmod 5040 = 2520) : whereF x y r1 u1 r2 u2 r3 u3 = Str.ofString "rim" := by
  unfold whereF; rw [if_pos h1]; (repeat' split) <;> rfl
theorem where_r5 {x y r1 u1 r2 u2 r3 u3 : Int} (h1 : (hue (r2 - x) (u2 - y) - hue (r1 - x) (u1 - y)).fmod 5040 = 2520) : whereF x y r1 u1 r2 u2 r3 u3 = Str.ofString "rim" := by
  unfold whereF; rw [if_pos h1]; (repeat' split) <;> rfl
theorem where_r6 {x y r1 u1 r2 u2 r3 u3 : Int} (h1 : (hue (r3 - x) (u3 - y) - hue (r2 - x) (u2 - y)).fmod 5040 = 2520) : whereF x y r1 u1 r2 u2 r3 u3 = Str.ofString "rim" := by
  unfold whereF; rw [if_pos h1]; (repeat' split) <;> rfl
theorem c_where (w : World) (news : List (Addr × Obj)) (x y r1 u1 r2 u2 r3 u3 : Int) (tx ty s1 v1 s2 v2 s3 v3 : Tok) (l a1 a2 a3 : Addr) (n n1 n2 n3 : Nat)
   (hl : (l, list3 (.ref a1) (.ref a2) (.ref a3) n) ∈ news) (h1 : (a1, tup2 (.int r1 s1) (.int u1 v1) n1) ∈ news) (h2 : (a2, tup2 (.int r2 s2) (.int u2 v2) n2) ∈ news) (h3 : (a3, tup2 (.int r3 s3) (.int u3 v3) n3) ∈ news)
   (hx : 0 ≤ x ∧ x ≤ 4) (hy : 0 ≤ y ∧ y ≤ 4) (hr1 : 0 ≤ r1 ∧ r1 ≤ 4) (hu1 : 0 ≤ u1 ∧ u1 ≤ 4) (hr2 : 0 ≤ r2 ∧ r2 ≤ 4) (hu2 : 0 ≤ u2 ∧ u2 ≤ 4) (hr3 : 0 ≤ r3 ∧ r3 ≤ 4) (hu3 : 0 ≤ u3 ∧ u3 ≤ 4) :
   CSpec w 12 158 [.int x tx, .int y ty, .ref l] news (RStr (whereF x y r1 u1 r2 u2 r3 u3) news) := by
  intro loose mean mg mb dp un gd cn cs a ccd cl outer A₀ base h₀ L m s Q E hB F X N₀ T hk hd hu hret
  have N : News h₀ L s.heap [(l, list3 (.ref a1) (.ref a2) (.ref a3) n), (a1, tup2 (.int r1 s1) (.int u1 v1) n1), (a2, tup2 (.int r2 s2) (.int u2 v2) n2), (a3, tup2 (.int r3 s3) (.int u3 v3) n3)] := by
    intro p hp
    simp only [List.mem_cons, List.mem_nil_iff, or_false] at hp
    rcases hp with rfl | rfl | rfl | rfl
    · exact N₀ _ hl
    · exact N₀ _ h1
    · exact N₀ _ h2
    · exact N₀ _ h3
  refine wpAny_call ?_
  k_dflt (refine' code_defG ?k1 ?k2 ?k3 N ?k5 ?kA ?kF ?kK ?k6 ?k7 ?k8 ?k9 ?kB ?_ ?c2 ?c3 ?c4 ?c5; (case kA => exact rfl); (case kF => exact rfl); (case kK => assumption); (case k1 => k_asm); (case k2 => k_asm); (case k3 => k_asm); (case k5 => k_asm); (case k6 => k_is); (case k7 => k_is); (case k8 => ktr_room); (case k9 => exact BindsTo.of_eq rfl); (case c5 => decide); (case kB => exact locs rfl); (case c2 => exact rfl); (case c3 => exact rfl); (case c4 => exact rfl); k_whole; intro gG L' h' FG' F' N' B' X' T' hG; (try dsimp only); (try k_lift B'); (try k_fold))

  k_steps
  all_goals (rename_i kF kN kT kX; refine end_str hret N₀ N hG (by assumption) kF kN ?_ ?_)
  all_goals first
    | (refine List.forall_mem_cons.mpr ⟨by k_mem, ?_⟩; repeat (first | exact List.forall_mem_nil _ | refine List.forall_mem_cons.mpr ⟨by k_mem, ?_⟩))
    | (intro p hp; simp only [List.mem_cons, List.mem_nil_iff, or_false] at hp ⊢; rcases hp with h | h | h | h <;> simp only [h, true_or, or_true]; done)
    | exact where_r1 (by assumption)
    | exact where_r2 (by assumption)
    | exact where_r3 (by assumption)
    | exact where_r4 (by assumption)
    | exact where_r5 (by assumption)
    | exact where_r6 (by assumption)
    | exact where_facts1 (by assumption) (by assumption) (by assumption) (by assumption) (by assumption) (by assumption) (by assumption)
    | exact where_facts2 (by assumption) (by assumption) (by assumption) (by assumption) (by assumption) (by assumption) (by assumption)
    | trace_state

end Mine
end
section
example : True := by (w_top off; trivial)
example : True := by (k_with_none; trivial)
example : True := by
  k_with "call builtin:min" => (k_here; (with_reducible show wpAny _ _ (call (Value.builtin _) [Value.int _ _, Value.int _ _, Value.int _ _]) _ _ _); k_dflt (refine' min3_N ?k0K9 ?k1K9 ?k2K9 ?_; (case k0K9 => rfl); (case k1K9 => k_asm); (case k2K9 => k_asm)); intro h' tk tok F' N'; revert h' tk tok F' N'; intro _ _ _ _ _)
  k_with "call builtin:max" => (k_here; (with_reducible show wpAny _ _ (call (Value.builtin _) [Value.int _ _, Value.int _ _, Value.int _ _]) _ _ _); k_dflt (refine' max3_N ?k0K9 ?k1K9 ?k2K9 ?_; (case k0K9 => rfl); (case k1K9 => k_asm); (case k2K9 => k_asm)); intro h' tk tok F' N'; revert h' tk tok F' N'; intro _ _ _ _ _)
  k_with "binaryOp Div int int" => (k_here; refine div_small (by omega) (by omega) ?_)
  k_with "subscriptTail" => (k_here; (with_reducible show wpAny _ _ (subscriptTail _ _ (Value.ref _) (Value.int _ _)) _ _ _); k_dflt (first
      | (refine' tup_item ?NK9 ?mK9 ?aK9 ?bK9 ?cK9 ?dK9 ?_ ?eK9; (case NK9 => k_asm); (case mK9 => k_mem); (case aK9 => decide); (case bK9 => decide); (case cK9 => rfl); (case dK9 => rfl); (case eK9 => with_unfolding_all rfl); k_whole)
      | (refine' lst_item ?NK9 ?mK9 ?aK9 ?bK9 ?cK9 ?_ ?eK9; (case NK9 => k_asm); (case mK9 => k_mem); (case aK9 => decide); (case bK9 => decide); (case cK9 => rfl); (case eK9 => with_unfolding_all rfl); k_whole)
      | (refine' lst_itemN ?NK9 ?mK9 ?aK9 ?bK9 ?cK9 ?dK9 ?_ ?eK9; (case NK9 => k_asm); (case mK9 => k_mem); (case aK9 => decide); (case bK9 => decide); (case cK9 => decide); (case dK9 => rfl); (case eK9 => with_unfolding_all rfl); k_whole)))
  trivial
open PySem PySem.W PyProof.Rows PySem.Calls PySem.Spec
namespace Mine


example : True := by
  k_with "call ref" => (k_here; (with_reducible show wpAny _ _ (call (Value.ref 158) [Value.int _ _, Value.int _ _, Value.ref _]) _ _ _); k_dflt (refine' cspec_go (c_where _ _ _ _ _ _ _ _ _ _ _ _ _ _ _ _ _ _ _ _ _ _ _ _ _ _ ?p1K9 ?p2K9 ?p3K9 ?p4K9 ?q1K9 ?q2K9 ?q3K9 ?q4K9 ?q5K9 ?q6K9 ?q7K9 ?q8K9) ?_; (case p1K9 => k_mem); (case p2K9 => k_mem); (case p3K9 => k_mem); (case p4K9 => k_mem); (case q1K9 => omega); (case q2K9 => omega); (case q3K9 => omega); (case q4K9 => omega); (case q5K9 => omega); (case q6K9 => omega); (case q7K9 => omega); (case q8K9 => omega)); intro t h' tk' F' N'; revert t h' tk' F' N'; intro _ _ _ _ _)
  k_with "call type:range" => (k_here; (with_reducible show wpAny _ _ (call _ [Value.int _ _, Value.int _ _]) _ _ _); k_dflt (refine' range2_rows ?fK9 ?nK9 ?_; (case fK9 => k_asm); (case nK9 => k_asm)); intro h' tk t₁ u₁ v₁ zR F' N' zk; revert h' tk t₁ u₁ v₁ zR F' N' zk; intro _ _ _ _ _ _ _ _ _)
  k_with "eval ListComp" => (k_here; (with_reducible show wpAny _ _ (eval (.ListComp (.Subscript (.Name _ _) (.Constant _ _ _) _) _ _ _) _) _ _ _); k_dflt (refine' lc_item3 ?c0K9 ?fK9 ?nK9 ?c1K9 ?c2K9 ?c3K9 ?c4K9 ?mK9 ?h1K9 ?h2K9 ?h3K9 ?c5K9 ?c6K9 ?i1K9 ?i2K9 ?i3K9 ?x1K9 ?x2K9 ?x3K9 ?ccK9 ?hsK9 ?_; (case c0K9 => rfl); (case fK9 => k_asm); (case nK9 => k_asm); (case c1K9 => rfl); (case c2K9 => rfl); (case c3K9 => rfl); (case c4K9 => decide); (case mK9 => k_mem); (case h1K9 => k_mem); (case h2K9 => k_mem); (case h3K9 => k_mem); (case c5K9 => decide); (case c6K9 => decide); (case i1K9 => rfl); (case i2K9 => rfl); (case i3K9 => rfl); (case x1K9 => rfl); (case x2K9 => rfl); (case x3K9 => rfl); (case ccK9 => with_unfolding_all rfl); (case hsK9 => (intros; exact ⟨by with_unfolding_all rfl, fun _ => by with_unfolding_all rfl, rfl⟩))); intro D' h' tk' F' N' o1'; (try simp only [List.mem_cons, List.not_mem_nil, or_false, forall_eq_or_imp, forall_eq] at o1'); revert D' h' tk' F' N' o1'; intro _ _ _ _ _ _)
  k_with "call builtin:min" => (k_here; (with_reducible show wpAny _ _ (call (Value.builtin _) [Value.ref _]) _ _ _); k_dflt (refine' min_l3 ?k0K9 ?k1K9 ?k2K9 ?k3K9 ?_; (case k0K9 => rfl); (case k1K9 => k_asm); (case k2K9 => k_asm); (case k3K9 => k_mem)); intro h' tk tok F' N'; revert h' tk tok F' N'; intro _ _ _ _ _)
  k_with "call builtin:max" => (k_here; (with_reducible show wpAny _ _ (call (Value.builtin _) [Value.ref _]) _ _ _); k_dflt (refine' max_l3 ?k0K9 ?k1K9 ?k2K9 ?k3K9 ?_; (case k0K9 => rfl); (case k1K9 => k_asm); (case k2K9 => k_asm); (case k3K9 => k_mem)); intro h' tk tok F' N'; revert h' tk tok F' N'; intro _ _ _ _ _)
  k_with "pyIter ref" => ((with_reducible show wpAny _ _ (pyIter (Value.ref _)) (fun it s₂ => LoopAtV _ _ _ _ _ _ _ _ _ it s₂) _ _); k_here; (have zq9 := ‹IsRange _ _ _ _ _ _ _ _›; clear zq9); refine Stop.mk ?_)
  k_with "call builtin:list.append" => (k_here; (with_reducible show wpAny _ _ (call (Value.builtin _) [Value.ref _, _]) _ _ _); k_dflt (refine' append_K ?k1K9 ?k2K9 ?k3K9 ?_ ?zK9; (case k1K9 => k_asm); (case k2K9 => k_asm); (case k3K9 => k_upd); (case zK9 => first | assumption | size_fits); k_whole); intro h' F' N'; revert h' F' N'; intro _ _ _)
  k_with "UnrEnd" => (refine Stop.mk ?_)
  trivial
noncomputable abbrev RStrs (ss : List Str) (news : List (Addr × Obj)) (h₀ : Heap) (L : Addr) (m : Str → Option Value) (s : Shared) (Q : Value → Shared → Prop) : Prop :=
  ∀ (D : Addr) (vs : List Value) (ep : Nat) (h' : Heap) (tk' : Nat), StrsAre vs ss → Fr h₀ L h' m → News h₀ L h' ((D, PySem.W.listOf vs.toArray ep) :: news) → (∀ p ∈ news, p.1 ≠ D) → Q (.ref D) { s with heap := h', toks := tk' }
noncomputable def rowF (xx : Int) (r1 u1 r2 u2 r3 u3 : Int) (k : Nat) : List Str := (List.range k).map fun (j : Nat) => whereF xx (min3 u1 u2 u3 + (j : Int)) r1 u1 r2 u2 r3 u3
noncomputable def metY (r1 u1 r2 u2 r3 u3 : Int) (k : Nat) : List Str := (List.range k).flatMap fun (i : Nat) => rowF (min3 r1 r2 r3 + (i : Int)) r1 u1 r2 u2 r3 u3 (max3 u1 u2 u3 + 1 - min3 u1 u2 u3).toNat
noncomputable def metF (r1 u1 r2 u2 r3 u3 : Int) : List Str := metY r1 u1 r2 u2 r3 u3 (max3 r1 r2 r3 + 1 - min3 r1 r2 r3).toNat
theorem rowF_succ (xx r1 u1 r2 u2 r3 u3 : Int) (k : Nat) : rowF xx r1 u1 r2 u2 r3 u3 (k + 1) = rowF xx r1 u1 r2 u2 r3 u3 k ++ [whereF xx (min3 u1 u2 u3 + (k : Int)) r1 u1 r2 u2 r3 u3] := by
  unfold rowF; rw [List.range_succ, List.map_append]; rfl
theorem metY_succ (r1 u1 r2 u2 r3 u3 : Int) (k : Nat) : metY r1 u1 r2 u2 r3 u3 (k + 1) = metY r1 u1 r2 u2 r3 u3 k ++ rowF (min3 r1 r2 r3 + (k : Int)) r1 u1 r2 u2 r3 u3 (max3 u1 u2 u3 + 1 - min3 u1 u2 u3).toNat := by
  unfold metY; rw [List.range_succ, List.flatMap_append]; simp
theorem rowF_len (xx r1 u1 r2 u2 r3 u3 : Int) (k : Nat) : (rowF xx r1 u1 r2 u2 r3 u3 k).length = k := by simp [rowF]
theorem metY_len (r1 u1 r2 u2 r3 u3 : Int) (k : Nat) : (metY r1 u1 r2 u2 r3 u3 k).length = k * (max3 u1 u2 u3 + 1 - min3 u1 u2 u3).toNat := by
  induction k with
  | zero => simp [metY]
  | succ k ih => rw [metY_succ, List.length_append, ih, rowF_len, Nat.succ_mul]

theorem c_met (w : World) (news : List (Addr × Obj)) (r1 u1 r2 u2 r3 u3 : Int) (s1 v1 s2 v2 s3 v3 : Tok) (l a1 a2 a3 : Addr) (n n1 n2 n3 : Nat)
   (hl : (l, list3 (.ref a1) (.ref a2) (.ref a3) n) ∈ news) (h1 : (a1, tup2 (.int r1 s1) (.int u1 v1) n1) ∈ news) (h2 : (a2, tup2 (.int r2 s2) (.int u2 v2) n2) ∈ news) (h3 : (a3, tup2 (.int r3 s3) (.int u3 v3) n3) ∈ news)
   (hr1 : 0 ≤ r1 ∧ r1 ≤ 4) (hu1 : 0 ≤ u1 ∧ u1 ≤ 4) (hr2 : 0 ≤ r2 ∧ r2 ≤ 4) (hu2 : 0 ≤ u2 ∧ u2 ≤ 4) (hr3 : 0 ≤ r3 ∧ r3 ≤ 4) (hu3 : 0 ≤ u3 ∧ u3 ≤ 4) :
   CSpec w 20 163 [.ref l] news (RStrs (metF r1 u1 r2 u2 r3 u3) news) := by
  have hm1 := min3_facts r1 r2 r3
  have hM1 := max3_facts r1 r2 r3
  have hm2 := min3_facts u1 u2 u3
  have hM2 := max3_facts u1 u2 u3
  intro loose mean mg mb dp un gd cn cs a ccd cl outer A₀ base h₀ L m s Q E hB F X N₀ T hk hd hu hret
  have N : News h₀ L s.heap [(l, list3 (.ref a1) (.ref a2) (.ref a3) n), (a1, tup2 (.int r1 s1) (.int u1 v1) n1), (a2, tup2 (.int r2 s2) (.int u2 v2) n2), (a3, tup2 (.int r3 s3) (.int u3 v3) n3)] := by
    intro p hp
    simp only [List.mem_cons, List.mem_nil_iff, or_false] at hp
    rcases hp with rfl | rfl | rfl | rfl
    · exact N₀ _ hl
    · exact N₀ _ h1
    · exact N₀ _ h2
    · exact N₀ _ h3
  refine wpAny_call ?_
  k_dflt (refine' code_defG ?k1 ?k2 ?k3 N ?k5 ?kA ?kF ?kK ?k6 ?k7 ?k8 ?k9 ?kB ?_ ?c2 ?c3 ?c4 ?c5; (case kA => exact rfl); (case kF => exact rfl); (case kK => assumption); (case k1 => k_asm); (case k2 => k_asm); (case k3 => k_asm); (case k5 => k_asm); (case k6 => k_is); (case k7 => k_is); (case k8 => ktr_room); (case k9 => exact BindsTo.of_eq rfl); (case c5 => decide); (case kB => exact locs rfl); (case c2 => exact rfl); (case c3 => exact rfl); (case c4 => exact rfl); k_whole; intro gG L' h' FG' F' N' B' X' T' hG; (try dsimp only); (try k_lift B'); (try k_fold))
  k_steps
  unfold Stop
  rename IsRange _ _ _ _ _ _ _ _ => hR
  rename Fr _ _ _ _ => hF
  rename News _ _ _ _ => hN
  refine iter_acc (metY r1 u1 r2 u2 r3 u3) (Str.ofString "y") rfl hR ⟨by omega, by omega, by omega⟩ hF (news_drop2 hN) .nil ?_ ?_
  · intro ox oy vs' ep' h tk hs F1 N1
    (try dsimp only)
    k_steps
    rename_i kF kN kT kX
    have hb := news_backD N₀ N hG F1 kN (by intro p hp; simp only [List.mem_cons, List.not_mem_nil, or_false] at hp ⊢; rcases hp with h | h | h | h <;> simp only [h, true_or, or_true]) N1 (.head _) (.head _)
      (by intro p hp; simp only [List.mem_cons, List.not_mem_nil, or_false] at hp; rcases hp with rfl | rfl | rfl | rfl <;> (refine neN ?_; dsimp only; omega))
    exact hret _ _ _ _ _ hs kF hb.1 hb.2
  · intro I i vs' ep' oy t h tk hi hs hI F1 N1
    k_lt hI
    have hz : (metY r1 u1 r2 u2 r3 u3 i).length ≤ 20 := by
      rw [metY_len]
      have h1 : i ≤ 4 := by omega
      have h2 : (max3 u1 u2 u3 + 1 - min3 u1 u2 u3).toNat ≤ 5 := by omega
      have := Nat.mul_le_mul h1 h2
      omega
    k_steps
    unfold Stop
    rename IsRange _ _ _ _ _ _ _ _ => hR2
    rename Fr _ _ _ _ => hF2
    rename News _ _ _ _ => hN2
    refine iter_acc (fun j => metY r1 u1 r2 u2 r3 u3 i ++ rowF (min3 r1 r2 r3 + (i : Int)) r1 u1 r2 u2 r3 u3 j) (Str.ofString "y") rfl hR2 ⟨by omega, by omega, by omega⟩ hF2 (news_pick hN2) (by simpa [rowF] using hs) ?_ ?_
    · intro ox oy vs'' ep'' h tk hs F1 N1
      (try dsimp only)
      k_steps
      refine unr_second F1 N1 (fun p hp => by
        simp only [List.mem_cons, List.not_mem_nil, or_false] at hp
        rcases hp with rfl | rfl | rfl | rfl | rfl <;> (refine neN ?_; dsimp only; omega)) ?_
      refine ⟨some (.int (min3 r1 r2 r3 + (i : Int)) t), ox, vs'', ep'', fun z => ?_, rfl, by rw [metY_succ]; exact hs⟩
      by_cases q1 : z = Str.ofString "x"
      · subst q1; rfl
      · by_cases q2 : z = Str.ofString "y"
        · subst q2; rfl
        · simp only [q1, q2, if_false]
    · intro I2 j vs'' ep'' oy t h tk hj hs2 hI2 F2 N2
      k_lt hI2
      have hz2 : vs''.toArray.size ≤ sizeLine := by
        rw [List.size_toArray, strs_len hs2, List.length_append, rowF_len, sizeLine_eq]
        omega
      k_steps
      rename_i tt hh1 tk1 FF1 NN1 hh2 FF2 NN2
      refine unr_first FF2 NN2 (fun p hp => by
        simp only [List.mem_cons, List.not_mem_nil, or_false] at hp
        rcases hp with rfl | rfl | rfl | rfl | rfl | rfl <;> (refine neN ?_; dsimp only; omega)) ?_
      refine ⟨some (.int (min3 u1 u2 u3 + (j : Int)) t), oy, vs'' ++ [Value.str (whereF (min3 r1 r2 r3 + (i : Int)) (min3 u1 u2 u3 + (j : Int)) r1 u1 r2 u2 r3 u3) tt], ep'' + 1, fun z => rfl, ?_, ?_⟩
      · simp only [List.push_toArray]
      · rw [rowF_succ, ← List.append_assoc]
        exact strs_snoc hs2

end Mine
end
section
example : True := by (w_top off; trivial)
example : True := by (k_with_none; trivial)
example : True := by
  k_with "call builtin:min" => (k_here; (with_reducible show wpAny _ _ (call (Value.builtin _) [Value.int _ _, Value.int _ _, Value.int _ _]) _ _ _); k_dflt (refine' min3_N ?k0K9 ?k1K9 ?k2K9 ?_; (case k0K9 => rfl); (case k1K9 => k_asm); (case k2K9 => k_asm)); intro h' tk tok F' N'; revert h' tk tok F' N'; intro _ _ _ _ _)
  k_with "call builtin:max" => (k_here; (with_reducible show wpAny _ _ (call (Value.builtin _) [Value.int _ _, Value.int _ _, Value.int _ _]) _ _ _); k_dflt (refine' max3_N ?k0K9 ?k1K9 ?k2K9 ?_; (case k0K9 => rfl); (case k1K9 => k_asm); (case k2K9 => k_asm)); intro h' tk tok F' N'; revert h' tk tok F' N'; intro _ _ _ _ _)
  k_with "binaryOp Div int int" => (k_here; refine div_small (by omega) (by omega) ?_)
  k_with "subscriptTail" => (k_here; (with_reducible show wpAny _ _ (subscriptTail _ _ (Value.ref _) (Value.int _ _)) _ _ _); k_dflt (first
      | (refine' tup_item ?NK9 ?mK9 ?aK9 ?bK9 ?cK9 ?dK9 ?_ ?eK9; (case NK9 => k_asm); (case mK9 => k_mem); (case aK9 => decide); (case bK9 => decide); (case cK9 => rfl); (case dK9 => rfl); (case eK9 => with_unfolding_all rfl); k_whole)
      | (refine' lst_item ?NK9 ?mK9 ?aK9 ?bK9 ?cK9 ?_ ?eK9; (case NK9 => k_asm); (case mK9 => k_mem); (case aK9 => decide); (case bK9 => decide); (case cK9 => rfl); (case eK9 => with_unfolding_all rfl); k_whole)
      | (refine' lst_itemN ?NK9 ?mK9 ?aK9 ?bK9 ?cK9 ?dK9 ?_ ?eK9; (case NK9 => k_asm); (case mK9 => k_mem); (case aK9 => decide); (case bK9 => decide); (case cK9 => decide); (case dK9 => rfl); (case eK9 => with_unfolding_all rfl); k_whole)))
  trivial
open PySem PySem.W PyProof.Rows PySem.Calls PySem.Spec
namespace Mine
noncomputable def areaE (r1 u1 r2 u2 r3 u3 : Int) : Int := (r2 - r1) * (u3 - u1) - (r3 - r1) * (u2 - u1)
noncomputable def areaF (r1 u1 r2 u2 r3 u3 : Int) : Int := if areaE r1 u1 r2 u2 r3 u3 < 0 then -areaE r1 u1 r2 u2 r3 u3 else areaE r1 u1 r2 u2 r3 u3
theorem end_int {v u : Int} {news lw lw' : List (Addr × Obj)} {h₀ h h' g : Heap} {L L' : Addr} {m m' : Str → Option Value} {s : Shared} {Q : Value → Shared → Prop} {t : Tok} {tk' : Nat}
    (hret : RInt v news h₀ L m s Q) (N₀ : News h₀ L h news) (Nw : News h₀ L h lw) (hG : GSub h g (lw.map (·.1))) (F' : Fr g L' h' m') (kF : Fr h₀ L h' m) (kN : News h₀ L h' lw') (hsub : ∀ p ∈ lw, p ∈ lw') (e : v = u) : Q (.int u t) { s with heap := h', toks := tk' } := by
  subst e
  exact hret _ _ _ kF (news_back N₀ Nw hG F' kN hsub)
theorem c_area (w : World) (news : List (Addr × Obj)) (r1 u1 r2 u2 r3 u3 : Int) (s1 v1 s2 v2 s3 v3 : Tok) (l a1 a2 a3 : Addr) (n n1 n2 n3 : Nat)
   (hl : (l, list3 (.ref a1) (.ref a2) (.ref a3) n) ∈ news) (h1 : (a1, tup2 (.int r1 s1) (.int u1 v1) n1) ∈ news) (h2 : (a2, tup2 (.int r2 s2) (.int u2 v2) n2) ∈ news) (h3 : (a3, tup2 (.int r3 s3) (.int u3 v3) n3) ∈ news)
   (hr1 : 0 ≤ r1 ∧ r1 ≤ 4) (hu1 : 0 ≤ u1 ∧ u1 ≤ 4) (hr2 : 0 ≤ r2 ∧ r2 ≤ 4) (hu2 : 0 ≤ u2 ∧ u2 ≤ 4) (hr3 : 0 ≤ r3 ∧ r3 ≤ 4) (hu3 : 0 ≤ u3 ∧ u3 ≤ 4) :
   CSpec w 4 118 [.ref l] news (RInt (areaF r1 u1 r2 u2 r3 u3) news) := by
  intro loose mean mg mb dp un gd cn cs a ccd cl outer A₀ base h₀ L m s Q E hB F X N₀ T hk hd hu hret
  have N : News h₀ L s.heap [(l, list3 (.ref a1) (.ref a2) (.ref a3) n), (a1, tup2 (.int r1 s1) (.int u1 v1) n1), (a2, tup2 (.int r2 s2) (.int u2 v2) n2), (a3, tup2 (.int r3 s3) (.int u3 v3) n3)] := by
    intro p hp
    simp only [List.mem_cons, List.mem_nil_iff, or_false] at hp
    rcases hp with rfl | rfl | rfl | rfl
    · exact N₀ _ hl
    · exact N₀ _ h1
    · exact N₀ _ h2
    · exact N₀ _ h3
  refine wpAny_call ?_
  k_dflt (refine' code_defG ?k1 ?k2 ?k3 N ?k5 ?kA ?kF ?kK ?k6 ?k7 ?k8 ?k9 ?kB ?_ ?c2 ?c3 ?c4 ?c5; (case kA => exact rfl); (case kF => exact rfl); (case kK => assumption); (case k1 => k_asm); (case k2 => k_asm); (case k3 => k_asm); (case k5 => k_asm); (case k6 => k_is); (case k7 => k_is); (case k8 => ktr_room); (case k9 => exact BindsTo.of_eq rfl); (case c5 => decide); (case kB => exact locs rfl); (case c2 => exact rfl); (case c3 => exact rfl); (case c4 => exact rfl); k_whole; intro gG L' h' FG' F' N' B' X' T' hG; (try dsimp only); (try k_lift B'); (try k_fold))
  k_steps
  rename_i kF kN kT kX
  exact end_int hret N₀ N hG (by assumption) kF kN (fun p hp => hp) rfl

end Mine
end
section
example : True := by (w_top off; trivial)
example : True := by (k_with_none; trivial)
example : True := by
  k_with "call builtin:min" => (k_here; (with_reducible show wpAny _ _ (call (Value.builtin _) [Value.int _ _, Value.int _ _, Value.int _ _]) _ _ _); k_dflt (refine' min3_N ?k0K9 ?k1K9 ?k2K9 ?_; (case k0K9 => rfl); (case k1K9 => k_asm); (case k2K9 => k_asm)); intro h' tk tok F' N'; revert h' tk tok F' N'; intro _ _ _ _ _)
  k_with "call builtin:max" => (k_here; (with_reducible show wpAny _ _ (call (Value.builtin _) [Value.int _ _, Value.int _ _, Value.int _ _]) _ _ _); k_dflt (refine' max3_N ?k0K9 ?k1K9 ?k2K9 ?_; (case k0K9 => rfl); (case k1K9 => k_asm); (case k2K9 => k_asm)); intro h' tk tok F' N'; revert h' tk tok F' N'; intro _ _ _ _ _)
  k_with "binaryOp Div int int" => (k_here; refine div_small (by omega) (by omega) ?_)
  k_with "subscriptTail" => (k_here; (with_reducible show wpAny _ _ (subscriptTail _ _ (Value.ref _) (Value.int _ _)) _ _ _); k_dflt (first
      | (refine' tup_item ?NK9 ?mK9 ?aK9 ?bK9 ?cK9 ?dK9 ?_ ?eK9; (case NK9 => k_asm); (case mK9 => k_mem); (case aK9 => decide); (case bK9 => decide); (case cK9 => rfl); (case dK9 => rfl); (case eK9 => with_unfolding_all rfl); k_whole)
      | (refine' lst_item ?NK9 ?mK9 ?aK9 ?bK9 ?cK9 ?_ ?eK9; (case NK9 => k_asm); (case mK9 => k_mem); (case aK9 => decide); (case bK9 => decide); (case cK9 => rfl); (case eK9 => with_unfolding_all rfl); k_whole)
      | (refine' lst_itemN ?NK9 ?mK9 ?aK9 ?bK9 ?cK9 ?dK9 ?_ ?eK9; (case NK9 => k_asm); (case mK9 => k_mem); (case aK9 => decide); (case bK9 => decide); (case cK9 => decide); (case dK9 => rfl); (case eK9 => with_unfolding_all rfl); k_whole)))
  trivial
open PySem PySem.W PyProof.Rows PySem.Calls PySem.Spec
namespace Mine
noncomputable abbrev RPair (a b : Int) (news : List (Addr × Obj)) (h₀ : Heap) (L : Addr) (m : Str → Option Value) (s : Shared) (Q : Value → Shared → Prop) : Prop :=
  ∀ (D : Addr) (t1 t2 : Tok) (n : Nat) (h' : Heap) (tk' : Nat), Fr h₀ L h' m → News h₀ L h' ((D, tup2 (.int a t1) (.int b t2) n) :: news) → (∀ p ∈ news, p.1 < D) → Q (.ref D) { s with heap := h', toks := tk' }
theorem divmod_D {prog : Program} {w : World} {A : Around} {E : Value → Shared → Prop} {s : Shared} {h₀ : Heap} {L : Addr} {m : Str → Option Value} {news : List (Addr × Obj)} {a b : Int} {t u : Tok} {Q : Value → Shared → Prop}
    (F : Fr h₀ L s.heap m) (N : News h₀ L s.heap news) (hb : b ≠ 0) (hl : b.natAbs.log2 < 9000) (h : RPair (a.fdiv b) (a.fmod b) news h₀ L m s Q) : wpAny (model prog w) A (call (.builtin "divmod") [.int a t, .int b u]) Q E s :=
  divmod_N F N hb (fun h' F' N' => h _ _ _ _ _ _ F' N' fun p hp => Heap.lt_size (N p hp).1) (Or.inl (PyProof.noPylong_of_log2 hl))
example : True := by
  k_with "call builtin:divmod" => (k_here; (with_reducible show wpAny _ _ (call (Value.builtin _) [Value.int _ _, Value.int _ _]) _ _ _); k_dflt (refine' divmod_D ?k1K9 ?k2K9 ?k3K9 ?k4K9 ?_; (case k1K9 => k_asm); (case k2K9 => k_asm); (case k3K9 => assumption); (case k4K9 => assumption)); intro D t1 t2 n h' tk' F' N' l1; revert D t1 t2 n h' tk' F' N' l1; intro _ _ _ _ _ _ _ _ _)
  trivial
theorem c_div2n1n (w : World) (news : List (Addr × Obj)) (x y z : Int) (tx ty tz : Tok) (hx : Builtin.Int.intBits x ≤ 4000) (hy : y ≠ 0) (hl : y.natAbs.log2 < 9000) (hz : 0 ≤ z) :
  CSpec w 4 38 [.int x tx, .int y ty, .int z tz] news (RPair (x.fdiv y) (x.fmod y) news) := by
  intro loose mean mg mb dp un gd cn cs a ccd cl outer A₀ base h₀ L m s Q E hB F X N T hk hd hu hret
  refine wpAny_call ?_
  k_dflt cell_enter
  have hz2 : (Builtin.Int.intBits x : Int) - z ≤ 4000 := by omega
  k_steps
  rename_i kF kN kT kX
  exact hret _ _ _ _ _ _ kF kN (by assumption)

end Mine
end
section
example : True := by (w_top off; trivial)
example : True := by (k_with_none; trivial)
example : True := by
  k_with "call builtin:min" => (k_here; (with_reducible show wpAny _ _ (call (Value.builtin _) [Value.int _ _, Value.int _ _, Value.int _ _]) _ _ _); k_dflt (refine' min3_N ?k0K9 ?k1K9 ?k2K9 ?_; (case k0K9 => rfl); (case k1K9 => k_asm); (case k2K9 => k_asm)); intro h' tk tok F' N'; revert h' tk tok F' N'; intro _ _ _ _ _)
  k_with "call builtin:max" => (k_here; (with_reducible show wpAny _ _ (call (Value.builtin _) [Value.int _ _, Value.int _ _, Value.int _ _]) _ _ _); k_dflt (refine' max3_N ?k0K9 ?k1K9 ?k2K9 ?_; (case k0K9 => rfl); (case k1K9 => k_asm); (case k2K9 => k_asm)); intro h' tk tok F' N'; revert h' tk tok F' N'; intro _ _ _ _ _)
  k_with "binaryOp Div int int" => (k_here; refine div_small (by omega) (by omega) ?_)
  k_with "subscriptTail" => (k_here; (with_reducible show wpAny _ _ (subscriptTail _ _ (Value.ref _) (Value.int _ _)) _ _ _); k_dflt (first
      | (refine' tup_item ?NK9 ?mK9 ?aK9 ?bK9 ?cK9 ?dK9 ?_ ?eK9; (case NK9 => k_asm); (case mK9 => k_mem); (case aK9 => decide); (case bK9 => decide); (case cK9 => rfl); (case dK9 => rfl); (case eK9 => with_unfolding_all rfl); k_whole)
      | (refine' lst_item ?NK9 ?mK9 ?aK9 ?bK9 ?cK9 ?_ ?eK9; (case NK9 => k_asm); (case mK9 => k_mem); (case aK9 => decide); (case bK9 => decide); (case cK9 => rfl); (case eK9 => with_unfolding_all rfl); k_whole)
      | (refine' lst_itemN ?NK9 ?mK9 ?aK9 ?bK9 ?cK9 ?dK9 ?_ ?eK9; (case NK9 => k_asm); (case mK9 => k_mem); (case aK9 => decide); (case bK9 => decide); (case cK9 => decide); (case dK9 => rfl); (case eK9 => with_unfolding_all rfl); k_whole)))
  trivial
open PySem PySem.W PyProof.Rows PySem.Calls PySem.Spec
namespace Mine
example : True := by
  k_with "call ref" => (k_here; (with_reducible show wpAny _ _ (call (Value.ref _) [Value.int _ _, Value.int _ _]) _ _ _); refine Stop.mk ?_)
  k_with "binaryOp LShift int int" => (k_here; refine lshift_int (by assumption) (by assumption) ?_)
  trivial
noncomputable abbrev RTab (mk : Tok → Value) (rest : List (Addr × Obj)) (h₀ : Heap) (L : Addr) (m : Str → Option Value) (s : Shared) (Q : Value → Shared → Prop) : Prop :=
  ∀ (t : Tok) (ps1 : Array Value) (c1 : Addr) (o1 : Obj) (ps2 : Array Value) (c2 : Addr) (o2 : Obj) (h' : Heap) (tk' : Nat), TabP 54 48 4 q1 ps1 c1 o1 → TabP 47 33 4 q2 ps2 c2 o2 → OffT c1 c2 rest → Fr h₀ L h' m → News h₀ L h' (rest ++ TL ps1 c1 o1 ps2 c2 o2) → Q (mk t) { s with heap := h', toks := tk' }
theorem inner_use {lw : List (Addr × Obj)} {g h : Heap} {L : Addr} {G : Prop} (_N : News g L h lw) (P : List (Addr × Obj) → Prop) (hp : P lw) (hc : P lw → G) : G := hc hp
example : True := by
  k_with "exec FunctionDef" => (k_here; k_dflt (refine' nestDef_K ?d0K9 ?k0K9 ?a0K9 ?_; (case d0K9 => exact rfl); (case k0K9 => exact rfl); (case a0K9 => exact rfl)); refine Stop.mk ?_)
  trivial
theorem news_c3 {h₀ h : Heap} {L : Addr} {p q r : Addr × Obj} (a : h.get? p.1 = some p.2 ∧ p.1 ≠ L ∧ h₀.get? p.1 = none) (b : h.get? q.1 = some q.2 ∧ q.1 ≠ L ∧ h₀.get? q.1 = none) (c : h.get? r.1 = some r.2 ∧ r.1 ≠ L ∧ h₀.get? r.1 = none) : News h₀ L h [p, q, r] := fun x hx => by
  rcases List.mem_cons.mp hx with rfl | hx
  · exact a
  · rcases List.mem_cons.mp hx with rfl | hx
    · exact b
    · rw [List.mem_singleton.mp hx]; exact c
theorem c_d2i (w : World) (ps1 : Array Value) (c1 : Addr) (o1 : Obj) (ps2 : Array Value) (c2 : Addr) (o2 : Obj) (lw rest : List (Addr × Obj)) (hsp : Spl (TL ps1 c1 o1 ps2 c2 o2) lw rest) (hp1 : TabP 54 48 4 q1 ps1 c1 o1) (hp2 : TabP 47 33 4 q2 ps2 c2 o2) (hoff : OffT c1 c2 rest)
   (z : Int) (tz : Tok) (l : Addr) (vs : List Value) (ds : List Int) (ep : Nat) (hl : (l, PySem.W.listOf vs.toArray ep) ∈ rest) (hi : IntsAre vs ds) (hlen : 1 ≤ ds.length ∧ ds.length ≤ 8) (hz : 0 ≤ z ∧ z ≤ 40) (hdig : ∀ d ∈ ds, 0 ≤ d ∧ d < 2 ^ z.toNat) :
  CSpec w 40 59 [.ref l, .int z tz] lw (RTab (fun t => .int (digR ds z.toNat 0 ds.length) t) rest) := by
  have hlw := hsp.eq
  subst hlw
  have hol := hoff.mem _ hl
  have hne : l ≠ 54 ∧ l ≠ c1 ∧ l ≠ 47 ∧ l ≠ c2 := hol
  have hne' : (@Ne Nat l 54) ∧ (@Ne Nat l c1) ∧ (@Ne Nat l 47) ∧ (@Ne Nat l c2) := hne
  clear hol hne
  intro loose mean mg mb dp un gd cn cs a ccd cl outer A₀ base h₀ L m s Q E hB F X N₀ T hk hd hu hret
  have N : News h₀ L s.heap [(l, PySem.W.listOf vs.toArray ep), (54, tabObj ps1), (c1, o1)] := news_c3 (N₀ _ (List.mem_append_left _ hl)) (N₀ _ (List.mem_append_right _ (.head _))) (N₀ _ (List.mem_append_right _ (.tail _ (.head _))))
  have C58 := codeHd58 w X
  refine wpAny_call ?_
  k_dflt (refine' enter_cellsG ?k1 ?k2 ?k3 N ?k5 ?kA ?kF ?kK ?k6 ?k7 ?k8 ?k9 ?kB ?kD ?_ ?c2 ?c3 ?c4; (case kA => exact rfl); (case kF => exact rfl); (case kK => assumption); (case k1 => k_asm); (case k2 => k_asm); (case k3 => k_asm); (case k5 => k_asm); (case k6 => k_is); (case k7 => k_is); (case k8 => ktr_room); (case k9 => exact BindsTo.of_eq rfl); (case kB => exact rfl); (case kD => decide +kernel); (case c2 => exact rfl); (case c3 => exact rfl); (case c4 => exact rfl); k_whole; intro gG L' h' tk' cells' FG' F' N' Y' B' X' T' l1 hG; (try k_lt l1); k_cells Y'; (try simp only [List.cons_append, List.nil_append] at N'); (try dsimp only); (try k_lift B'); (try k_fold))

  have C58' := codeHd58 w X'
  clear C58
  k_steps
  unfold Stop
  refine' nest_spl (P := 54) (ps := ps1) (c0 := c1) (o0 := o1) ?F ?N ?S ?T ?C ?cd ?hp ?hpP ?hp0 ?cl ?_
  case F => k_asm
  case N => k_asm
  case S => (repeat (first | exact Spl.nil | apply Spl.cons))
  case T => k_asm
  case C => kn_code
  case cd => exact rfl
  case hp => exact hp1
  case hpP => repeat (first | exact List.forall_mem_nil _ | refine List.forall_mem_cons.mpr ⟨by k_ne, ?_⟩)
  case hp0 => repeat (first | exact List.forall_mem_nil _ | refine List.forall_mem_cons.mpr ⟨by k_ne, ?_⟩)
  case cl => exact rfl
  intro f2 cc oc vs2 t2 ct2 dc2 h2 tk2 F2 NN2 d1 d2 hZ hne hcP hlt hPf
  simp only [List.cons_append, List.nil_append] at NN2
  k_lt hlt
  have hnl : @Ne Nat l cc := hne (l, _) (by k_mem)
  simp only [List.forall_mem_cons, List.not_mem_nil, false_imp_iff, implies_true, and_true] at hne
  have hc2 : c2 ≠ 54 := tab_ne N₀ hp1 hp2 (List.mem_append_right _ (.head _)) (List.mem_append_right _ (.tail _ (.tail _ (.tail _ (.head _))))) (by decide)
  have hn54 : ∀ p ∈ rest ++ [(47, tabObj ps2), (c2, o2)], p.1 ≠ 54 := fun p hp => by
    rcases List.mem_append.mp hp with hp | hp
    · exact (hoff.mem p hp).1
    · rcases List.mem_cons.mp hp with rfl | hp
      · exact fun e => nomatch e
      · rw [List.mem_singleton.mp hp]; exact hc2
  have N₁ : News h₀ L s.heap (rest ++ [(47, tabObj ps2), (c2, o2)]) := fun p hp => N₀ p (by
    rcases List.mem_append.mp hp with hp | hp
    · exact List.mem_append_left _ hp
    · exact List.mem_append_right _ (.tail _ (.tail _ hp)))
  k_steps
  rename_i h3 o3 FF NN dd
  unfold Stop
  refine inner_use NN (fun lw => ∀ (k : Nat) (A0 B0 : Int) (tA tB : Tok), 0 ≤ A0 → B0 = A0 + (k : Int) → 1 ≤ k → B0 ≤ (ds.length : Int) → CSpec w (4 + 2 * k) f2 [.int A0 tA, .int B0 tB] lw (RInt (digR ds z.toNat A0.toNat k) lw)) ?_ ?_
  · intro k
    induction k using Nat.strongRecOn with
    | _ k ih =>
      intro A0 B0 tA tB hA0 hB0 hk1 hB1
      clear hret FF NN F X N₀ T hd hu hG FG' B' X' T' N
      intro loose mean mg mb dp un gd cn cs a ccd cl outer A₀ base h₀ L m s Q E hB F X N T hk hd hu hret
      refine wpAny_call ?_
      k_dflt (refine' code_nest ?k1 ?k2 ?k3 ?k4 ?k5 ?kA ?kF ?kK ?k6 ?k7 ?k8 ?k9 ?kB ?_ ?c2 ?c3 ?c4 ?c5; (case kA => exact rfl); (case kF => exact rfl); (case kK => assumption); (case k1 => exact hB); (case k2 => exact F); (case k3 => exact X); (case k4 => exact N); (case k5 => exact T); (case k6 => k_mem); (case k7 => exact codeRec_news N (by k_mem) d1 d2); (case k8 => ktr_room); (case k9 => exact BindsTo.of_eq rfl); (case c5 => decide); (case kB => exact locs rfl); (case c2 => exact rfl); (case c3 => exact rfl); (case c4 => exact rfl); k_whole; intro g' L' h' FG' F' N' B' X' T'; (try dsimp only); (try k_lift B'); (try k_fold))
      have hM : (A0 + B0).fdiv (2 ^ Int.toNat 1) = (A0 + B0) / 2 := by rw [show (2 : Int) ^ Int.toNat 1 = 2 from rfl, Int.fdiv_eq_ediv_of_nonneg _ (by decide)]
      have hpr : 2 ≤ k → 0 ≤ ((A0 + B0).fdiv (2 ^ Int.toNat 1) - A0) * z ∧ ((A0 + B0).fdiv (2 ^ Int.toNat 1) - A0) * z ≤ 1000 ∧ (((A0 + B0).fdiv (2 ^ Int.toNat 1) - A0) * z).toNat = z.toNat * ((A0 + B0) / 2 - A0).toNat := fun h2 => by
        rw [hM]
        have e1 : ((A0 + B0) / 2 - A0) = (((A0 + B0) / 2 - A0).toNat : Int) := by omega
        have e2 : z = (z.toNat : Int) := by omega
        have e3 : ((A0 + B0) / 2 - A0).toNat ≤ 8 := by omega
        have e4 : z.toNat ≤ 40 := by omega
        have e5 := Nat.mul_le_mul e3 e4
        have e6 : (((A0 + B0) / 2 - A0).toNat : Int) * (z.toNat : Int) = ((((A0 + B0) / 2 - A0).toNat * z.toNat : Nat) : Int) := by simp
        have e7 : ((A0 + B0) / 2 - A0) * z = ((((A0 + B0) / 2 - A0).toNat * z.toNat : Nat) : Int) := by rw [← e6, ← e1, ← e2]
        rw [e7]
        exact ⟨by omega, by omega, by rw [Int.toNat_natCast, Nat.mul_comm]⟩
      k_steps
      · rename_i kF kN kT kX
        obtain rfl : k = 1 := by omega
        rw [← digR_one ds z.toNat A0.toNat (by omega)] 
        exact hret _ _ _ kF kN
      · have h2 : 2 ≤ k := by omega
        have hs1 := hpr h2
        have hb := digR_bound ds z.toNat ((A0 + B0).fdiv (2 ^ Int.toNat 1)).toNat (B0 - (A0 + B0).fdiv (2 ^ Int.toNat 1)).toNat hdig
        have hsz : (Builtin.Int.intBits (digR ds z.toNat ((A0 + B0).fdiv (2 ^ Int.toNat 1)).toNat (B0 - (A0 + B0).fdiv (2 ^ Int.toNat 1)).toNat) : Int) + ((A0 + B0).fdiv (2 ^ Int.toNat 1) - A0) * z ≤ 2 ^ 27 := by
          have b1 := intBits_le hb.1 hb.2
          have b2 : z.toNat * (B0 - (A0 + B0).fdiv (2 ^ Int.toNat 1)).toNat ≤ 40 * 8 := Nat.mul_le_mul (by omega) (by rw [hM]; omega)
          omega
        have hs10 := hs1.1
        unfold Stop
        refine' cspec_at (ih (B0 - (A0 + B0).fdiv (2 ^ Int.toNat 1)).toNat (by rw [hM]; omega) _ _ _ _ (by rw [hM]; omega) (by rw [hM]; omega) (by rw [hM]; omega) (by omega)) ?k1 ?k2 ?k3 ?k4 ?k5 ?kK ?kd ?ku ?_
        (case k1 | k2 | k3 | k4 | k5 => k_asm); (case kK => first | exact rfl | assumption); (case kd => (rw [hM]; ktr_room)); (case ku => (rw [hM]; ktr_units))
        intro t h' tk' F' N'
        k_steps
        unfold Stop
        refine' cspec_at (ih ((A0 + B0).fdiv (2 ^ Int.toNat 1) - A0).toNat (by rw [hM]; omega) _ _ _ _ hA0 (by rw [hM]; omega) (by rw [hM]; omega) (by rw [hM]; omega)) ?k1 ?k2 ?k3 ?k4 ?k5 ?kK ?kd ?ku ?_
        (case k1 | k2 | k3 | k4 | k5 => k_asm); (case kK => first | exact rfl | assumption); (case kd => (rw [hM]; ktr_room)); (case ku => (rw [hM]; ktr_units))
        intro t h' tk' F' N'
        k_steps
        rename_i kF kN kT kX
        have hsp := digR_split ds z.toNat A0.toNat ((A0 + B0) / 2 - A0).toNat k (by omega) (by omega)
        rw [hs1.2.2]
        rw [hM]
        rw [show ((A0 + B0) / 2).toNat = A0.toNat + ((A0 + B0) / 2 - A0).toNat by omega, show (B0 - (A0 + B0) / 2).toNat = k - ((A0 + B0) / 2 - A0).toNat by omega, ← hsp]
        exact hret _ _ _ kF kN
  · intro hkey
    have hlen2 := IntsAre.length hi
    refine' cspec_at (hkey ds.length _ _ _ _ ?q0 ?q1 ?q2 ?q3) ?k1 ?k2 ?k3 ?k4 ?k5 ?kK ?kd ?ku ?_
    (case k1 | k2 | k3 | k4 | k5 => k_asm); (case kK => first | exact rfl | assumption)
    (case q0 => decide); (case q1 => (try simp only [List.size_toArray]); omega); (case q2 => omega); (case q3 => (try simp only [List.size_toArray]); omega)
    (case kd => ktr_room); (case ku => ktr_units)
    intro t h' tk' F' N'
    k_steps
    rename_i kF kN kT kX
    have hK := news_keep N₁ N hG F' kN (by
      intro p hp q hq e
      have h54 : p.1 ≠ 54 := hn54 p hp
      rcases List.mem_cons.mp hq with rfl | hq
      · k_mem
      · rcases List.mem_cons.mp hq with rfl | hq
        · exact absurd e.symm h54
        · rcases (show _ ∨ _ from hZ) with ⟨hc, ho, _⟩ | ⟨_, hc, _⟩
          · rw [List.mem_singleton.mp hq, show (c1, o1) = (cc, oc) from by rw [hc, ho]]; k_mem
          · rw [List.mem_singleton.mp hq] at e
            exact absurd (e.symm.trans hc) h54)
    have hfr : ∀ p ∈ rest, p.1 ≠ cc := by
      rcases (show _ ∨ _ from hZ) with ⟨hc, _, _⟩ | ⟨_, hc, hcl⟩
      · rw [hc]; exact fun p hp => (hoff.mem p hp).2.1
      · exact news_fresh (fun p hp => N₀ p (List.mem_append_left _ hp)) hG N' (o := oc) (by k_mem) (by
          intro p hp hm
          rcases List.mem_cons.mp hm with hm | hm
          · rw [hm]; exact hnl
          · rcases List.mem_cons.mp hm with hm | hm
            · rw [hm]; exact Nat.ne_of_lt hcl
            · rw [List.mem_singleton.mp hm]; exact hc ▸ Nat.ne_of_lt hcl)
    refine hret _ _ _ _ _ _ _ _ _ (.inr ⟨rfl, vs2, t2, d1, d2⟩) hp2 (OffT.of fun p hp => ⟨(hoff.mem p hp).1, hfr p hp, (hoff.mem p hp).2.2⟩) kF (fun p hp => ?_)
    rcases List.mem_append.mp hp with hp | hp
    · exact hK p (List.mem_append_left _ hp)
    · rcases List.mem_cons.mp hp with rfl | hp
      · exact kN _ (by k_mem)
      · rcases List.mem_cons.mp hp with rfl | hp
        · exact kN _ (by k_mem)
        · exact hK p (List.mem_append_right _ hp)

end Mine
end
section
example : True := by (w_top off; trivial)
example : True := by (k_with_none; trivial)
example : True := by
  k_with "call builtin:min" => (k_here; (with_reducible show wpAny _ _ (call (Value.builtin _) [Value.int _ _, Value.int _ _, Value.int _ _]) _ _ _); k_dflt (refine' min3_N ?k0K9 ?k1K9 ?k2K9 ?_; (case k0K9 => rfl); (case k1K9 => k_asm); (case k2K9 => k_asm)); intro h' tk tok F' N'; revert h' tk tok F' N'; intro _ _ _ _ _)
  k_with "call builtin:max" => (k_here; (with_reducible show wpAny _ _ (call (Value.builtin _) [Value.int _ _, Value.int _ _, Value.int _ _]) _ _ _); k_dflt (refine' max3_N ?k0K9 ?k1K9 ?k2K9 ?_; (case k0K9 => rfl); (case k1K9 => k_asm); (case k2K9 => k_asm)); intro h' tk tok F' N'; revert h' tk tok F' N'; intro _ _ _ _ _)
  k_with "binaryOp Div int int" => (k_here; refine div_small (by omega) (by omega) ?_)
  k_with "subscriptTail" => (k_here; (with_reducible show wpAny _ _ (subscriptTail _ _ (Value.ref _) (Value.int _ _)) _ _ _); k_dflt (first
      | (refine' tup_item ?NK9 ?mK9 ?aK9 ?bK9 ?cK9 ?dK9 ?_ ?eK9; (case NK9 => k_asm); (case mK9 => k_mem); (case aK9 => decide); (case bK9 => decide); (case cK9 => rfl); (case dK9 => rfl); (case eK9 => with_unfolding_all rfl); k_whole)
      | (refine' lst_item ?NK9 ?mK9 ?aK9 ?bK9 ?cK9 ?_ ?eK9; (case NK9 => k_asm); (case mK9 => k_mem); (case aK9 => decide); (case bK9 => decide); (case cK9 => rfl); (case eK9 => with_unfolding_all rfl); k_whole)
      | (refine' lst_itemN ?NK9 ?mK9 ?aK9 ?bK9 ?cK9 ?dK9 ?_ ?eK9; (case NK9 => k_asm); (case mK9 => k_mem); (case aK9 => decide); (case bK9 => decide); (case cK9 => decide); (case dK9 => rfl); (case eK9 => with_unfolding_all rfl); k_whole)))
  trivial
open PySem PySem.W PyProof.Rows PySem.Calls PySem.Spec
namespace Mine
example : True := by
  k_with "call ref" => (k_here; (with_reducible show wpAny _ _ (call (Value.ref _) [Value.int _ _, Value.int _ _, Value.int _ _]) _ _ _); refine Stop.mk ?_)
  k_with "binaryOp LShift int int" => (k_here; refine lshift_int (by assumption) (by assumption) ?_)
  k_with "binaryOp RShift int int" => (k_here; refine rshift_int (by first | assumption | decide) ?_)
  trivial
theorem inner_use2 {lw : List (Addr × Obj)} {h₁ h : Heap} {L D : Addr} {o : Obj} {g : Obj → List (Addr × Obj)} {G : Prop} (_N : News h₁ L h lw) (_U : UpdF D o lw g) (P : (Obj → List (Addr × Obj)) → Prop) (hp : P g) (hc : P g → G) : G := hc hp
noncomputable def cntD (x z : Nat) : Nat := (((Builtin.Int.intBits (x : Int) : Int) + z - 1).fdiv z).toNat
theorem cntD_facts {x z : Nat} (hz : 1 ≤ z) (hx : x < 2 ^ (z * 10)) : 0 ≤ ((Builtin.Int.intBits (x : Int) : Int) + z - 1).fdiv z ∧ cntD x z ≤ 10 ∧ x < 2 ^ (z * cntD x z) ∧ (x ≠ 0 → 1 ≤ cntD x z) ∧ (x = 0 → cntD x z = 0) := by
  have hb := intBits_le (x := (x : Int)) (k := z * 10) (Int.natCast_nonneg _) (by exact_mod_cast hx)
  have hz0 : (0 : Int) < z := by omega
  have e0 : ((Builtin.Int.intBits (x : Int) : Int) + z - 1).fdiv z = ((Builtin.Int.intBits (x : Int) + z - 1) / z : Nat) := by
    rw [Int.fdiv_eq_ediv_of_nonneg _ (by omega)]
    rw [show ((Builtin.Int.intBits (x : Int) : Int) + z - 1) = ((Builtin.Int.intBits (x : Int) + z - 1 : Nat) : Int) by omega]
    simp
  have ec : cntD x z = (Builtin.Int.intBits (x : Int) + z - 1) / z := by unfold cntD; rw [e0, Int.toNat_natCast]
  refine ⟨by rw [e0]; exact Int.natCast_nonneg _, ?_, ?_, ?_, ?_⟩
  · rw [ec]
    have : Builtin.Int.intBits (x : Int) + z - 1 < (10 + 1) * z := by rw [Nat.mul_comm] at hb; omega
    have := (Nat.div_lt_iff_lt_mul (by omega)).mpr this
    omega
  · rw [ec]
    by_cases h0 : x = 0
    · subst h0; exact Nat.two_pow_pos _
    · have h1 : Builtin.Int.intBits (x : Int) = x.log2 + 1 := by
        unfold Builtin.Int.intBits
        rw [if_neg (by simpa using h0)]; simp
      have h2 : x < 2 ^ Builtin.Int.intBits (x : Int) := by rw [h1]; exact Nat.lt_log2_self
      refine Nat.lt_of_lt_of_le h2 (Nat.pow_le_pow_right (by decide) ?_)
      have := Nat.div_add_mod (Builtin.Int.intBits (x : Int) + z - 1) z
      have := Nat.mod_lt (Builtin.Int.intBits (x : Int) + z - 1) (show z > 0 by omega)
      omega
  · intro h0
    rw [ec]
    have h1 : Builtin.Int.intBits (x : Int) = x.log2 + 1 := by
      unfold Builtin.Int.intBits
      rw [if_neg (by simpa using h0)]; simp
    exact (Nat.le_div_iff_mul_le (by omega)).mpr (by omega)
  · rintro rfl
    rw [ec]
    have : Builtin.Int.intBits ((0 : Nat) : Int) = 0 := by decide
    rw [this]
    exact Nat.div_eq_of_lt (by omega)
noncomputable def digL (x z : Nat) : List Int := digs z (cntD x z) x
noncomputable abbrev RTabL (ys : List Int) (rest : List (Addr × Obj)) (h₀ : Heap) (L : Addr) (m : Str → Option Value) (s : Shared) (Q : Value → Shared → Prop) : Prop :=
  ∀ (D : Addr) (vs : List Value) (ep : Nat) (ps1 : Array Value) (c1 : Addr) (o1 : Obj) (ps2 : Array Value) (c2 : Addr) (o2 : Obj) (h' : Heap) (tk' : Nat), TabP 54 48 4 q1 ps1 c1 o1 → TabP 47 33 4 q2 ps2 c2 o2 → OffT c1 c2 ((D, PySem.W.listOf vs.toArray ep) :: rest) → IntsAre vs ys → Fr h₀ L h' m →
    News h₀ L h' ((D, PySem.W.listOf vs.toArray ep) :: rest ++ TL ps1 c1 o1 ps2 c2 o2) → (∀ p ∈ rest, p.1 ≠ D) → Q (.ref D) { s with heap := h', toks := tk' }
theorem flat_rep (n : Nat) : (List.replicate n [(0 : Int)]).flatten = List.replicate n 0 := by
  induction n with
  | zero => rfl
  | succ n ih => rw [List.replicate_succ, List.flatten_cons, ih]; rfl
theorem setR_all (ds ys : List Int) (h : ys.length = ds.length) : setR ds 0 ys = ys := by
  unfold setR
  rw [List.take_zero, List.nil_append, Nat.zero_add, h, List.drop_length, List.append_nil]
example : True := by
  k_with "exec FunctionDef" => (k_here; k_dflt (refine' nestDef_K ?d0K9 ?k0K9 ?a0K9 ?_; (case d0K9 => exact rfl); (case k0K9 => exact rfl); (case a0K9 => exact rfl)); refine Stop.mk ?_)
  trivial
theorem news_c2 {h₀ h : Heap} {L : Addr} {p q : Addr × Obj} (a : h.get? p.1 = some p.2 ∧ p.1 ≠ L ∧ h₀.get? p.1 = none) (b : h.get? q.1 = some q.2 ∧ q.1 ≠ L ∧ h₀.get? q.1 = none) : News h₀ L h [p, q] := fun r hr => by
  rcases List.mem_cons.mp hr with rfl | hr
  · exact a
  · rw [List.mem_singleton.mp hr]; exact b
theorem c_i2d (w : World) (ps1 : Array Value) (c1 : Addr) (o1 : Obj) (ps2 : Array Value) (c2 : Addr) (o2 : Obj) (lw rest : List (Addr × Obj)) (hsp : Spl (TL ps1 c1 o1 ps2 c2 o2) lw rest) (hp1 : TabP 54 48 4 q1 ps1 c1 o1) (hp2 : TabP 47 33 4 q2 ps2 c2 o2) (hoff : OffT c1 c2 rest)
   (x : Nat) (z : Int) (tx tz : Tok) (hx : x < 2 ^ (z.toNat * 10)) (hz : 1 ≤ z ∧ z ≤ 40) :
  CSpec w 60 52 [.int (x : Int) tx, .int z tz] lw (RTabL (digL x z.toNat) rest) := by
  have hlw := hsp.eq
  subst hlw
  have hz2 : z ≠ 0 := by omega
  have hz3 : z.natAbs.log2 < 9000 := by
    have := (Nat.log2_lt (n := z.natAbs) (k := 6) (by omega)).mpr (by omega)
    omega
  have hcf := cntD_facts (x := x) (z := z.toNat) (by omega) hx
  rw [show ((z.toNat : Nat) : Int) = z by omega] at hcf
  obtain ⟨hq, hc10, hxc, hc1, hc0⟩ := hcf
  have hce : (((Builtin.Int.intBits (x : Int) : Int) + z - 1).fdiv z).toNat = cntD x z.toNat := by unfold cntD; rw [show ((z.toNat : Nat) : Int) = z by omega]
  have hq2 : ((Builtin.Int.intBits (x : Int) : Int) + z - 1).fdiv z ≤ 10 := by omega
  intro loose mean mg mb dp un gd cn cs a ccd cl outer A₀ base h₀ L m s Q E hB F X N₀ T hk hd hu hret
  have N : News h₀ L s.heap [(47, tabObj ps2), (c2, o2)] := news_c2 (N₀ _ (List.mem_append_right _ (.tail _ (.tail _ (.head _))))) (N₀ _ (List.mem_append_right _ (.tail _ (.tail _ (.tail _ (.head _))))))
  have C58 := codeHd51 w X
  refine wpAny_call ?_
  k_dflt (refine' enter_cellsG ?k1 ?k2 ?k3 N ?k5 ?kA ?kF ?kK ?k6 ?k7 ?k8 ?k9 ?kB ?kD ?_ ?c2 ?c3 ?c4; (case kA => exact rfl); (case kF => exact rfl); (case kK => assumption); (case k1 => k_asm); (case k2 => k_asm); (case k3 => k_asm); (case k5 => k_asm); (case k6 => k_is); (case k7 => k_is); (case k8 => ktr_room); (case k9 => exact BindsTo.of_eq rfl); (case kB => exact rfl); (case kD => decide +kernel); (case c2 => exact rfl); (case c3 => exact rfl); (case c4 => exact rfl); k_whole; intro gG L' h' tk' cells' FG' F' N' Y' B' X' T' l1 hG; (try k_lt l1); k_cells Y'; (try simp only [List.cons_append, List.nil_append] at N'); (try dsimp only); (try k_lift B'); (try k_fold))

  have C58' := codeHd51 w X'
  clear C58
  k_steps
  unfold Stop
  rename_i l9 h9a l1l D2 h5 i1 n1 s1 e1 e2 e3 l1b h4 o4 FM NM d4
  refine' nest_spl (P := 47) (ps := ps2) (c0 := c2) (o0 := o2) ?F ?N ?S ?T ?C ?cd ?hp ?hpP ?hp0 ?cl ?_
  case F => k_asm
  case N => k_asm
  case S => (repeat (first | exact Spl.nil | apply Spl.cons))
  case T => k_asm
  case C => kn_code
  case cd => exact rfl
  case hp => exact hp2
  case hpP => repeat (first | exact List.forall_mem_nil _ | refine List.forall_mem_cons.mpr ⟨by k_ne, ?_⟩)
  case hp0 => repeat (first | exact List.forall_mem_nil _ | refine List.forall_mem_cons.mpr ⟨by k_ne, ?_⟩)
  case cl => exact rfl
  intro f2 cc oc vs2 t2 ct2 dc2 h2 tk2 F2 NN2 d1 d2 hZ hne hcP hlt hPf
  simp only [List.cons_append, List.nil_append] at NN2
  k_lt hlt
  simp only [List.forall_mem_cons, List.not_mem_nil, false_imp_iff, implies_true, and_true] at hne
  have hc1n : c1 ≠ 47 := tab_ne (P := 47) N₀ hp2 hp1 (List.mem_append_right _ (.tail _ (.tail _ (.head _)))) (List.mem_append_right _ (.tail _ (.head _))) (by decide)
  have hn47 : ∀ p ∈ rest ++ [(54, tabObj ps1), (c1, o1)], p.1 ≠ 47 := fun p hp => by
    rcases List.mem_append.mp hp with hp | hp
    · exact (hoff.mem p hp).2.2.1
    · rcases List.mem_cons.mp hp with rfl | hp
      · exact fun e => nomatch e
      · rw [List.mem_singleton.mp hp]; exact hc1n
  have N₁ : News h₀ L s.heap (rest ++ [(54, tabObj ps1), (c1, o1)]) := fun p hp => N₀ p (by
    rcases List.mem_append.mp hp with hp | hp
    · exact List.mem_append_left _ hp
    · rcases List.mem_cons.mp hp with rfl | hp
      · exact List.mem_append_right _ (.head _)
      · rw [List.mem_singleton.mp hp]; exact List.mem_append_right _ (.tail _ (.head _)))
  clear FM NM
  k_steps
  rotate_left
  · rename_i h3 o3 FF NN dd hx0 kF kN kT kX
    have hx0' : x = 0 := by omega
    have hiE : IntsAre (List.replicate (((Builtin.Int.intBits (x : Int) : Int) + z - 1).fdiv z).toNat [Value.int 0 tk']).flatten (digL x z.toNat) := by
      have e : digL x z.toNat = (List.replicate (((Builtin.Int.intBits (x : Int) : Int) + z - 1).fdiv z).toNat [(0 : Int)]).flatten := by
        rw [hce, hc0 hx0']; unfold digL; rw [hc0 hx0']; rfl
      rw [e]; exact i1
    have hK := news_keep N₁ N hG FF kN (by
      intro p hp q hq e
      have h47 : p.1 ≠ 47 := hn47 p hp
      rcases List.mem_cons.mp hq with rfl | hq
      · exact absurd e.symm h47
      · rcases (show _ ∨ _ from hZ) with ⟨hc, ho, _⟩ | ⟨_, hc, _⟩
        · rw [List.mem_singleton.mp hq, show (c2, o2) = (cc, oc) from by rw [hc, ho]]; k_mem
        · rw [List.mem_singleton.mp hq] at e
          exact absurd (e.symm.trans hc) h47)
    have hfr : ∀ p ∈ rest, p.1 ≠ cc := by
      rcases (show _ ∨ _ from hZ) with ⟨hc, _, _⟩ | ⟨_, hc, hcl⟩
      · rw [hc]; exact fun p hp => (hoff.mem p hp).2.2.2
      · exact fun p hp => news_fresh N₁ hG NN (o := oc) (by k_mem) (by
          intro p hp hm
          rcases List.mem_cons.mp hm with hm | hm
          · rw [hm]; exact Nat.ne_of_lt hcl
          · rw [List.mem_singleton.mp hm]; exact hc ▸ Nat.ne_of_lt hcl) p (List.mem_append_left _ hp)
    have hfD : ∀ p ∈ rest ++ [(54, tabObj ps1), (c1, o1)], p.1 ≠ D2 := news_fresh N₁ hG NN (o := PySem.W.listOf ((List.replicate (((Builtin.Int.intBits (x : Int) : Int) + z - 1).fdiv z).toNat [Value.int 0 tk']).flatten).toArray 0) (by k_mem) (by
      intro p hp hm
      rcases List.mem_cons.mp hm with hm | hm
      · rw [hm]; k_ne
      · rw [List.mem_singleton.mp hm]; k_ne)
    have hD54 := hfD (54, tabObj ps1) (List.mem_append_right _ (.head _))
    have hDc1 := hfD (c1, o1) (List.mem_append_right _ (.tail _ (.head _)))
    refine hret D2 _ (0) _ _ _ _ _ _ _ _ hp1 (.inr ⟨rfl, vs2, t2, d1, d2⟩) ⟨⟨fun e => hD54 e.symm, fun e => hDc1 e.symm, by k_ne, by k_ne⟩, OffT.of fun p hp => ⟨(hoff.mem p hp).1, (hoff.mem p hp).2.1, (hoff.mem p hp).2.2.1, hfr p hp⟩⟩ hiE kF (fun p hp => ?_) (fun p hp => hfD p (List.mem_append_left _ hp))
    rcases List.mem_append.mp hp with hp | hp
    · rcases List.mem_cons.mp hp with rfl | hp
      · exact kN _ (by k_mem)
      · exact hK p (List.mem_append_left _ hp)
    · simp only [List.mem_cons, List.not_mem_nil, or_false] at hp
      rcases hp with rfl | rfl | rfl | rfl
      · exact hK _ (List.mem_append_right _ (.head _))
      · exact hK _ (List.mem_append_right _ (.tail _ (.head _)))
      · exact kN _ (by k_mem)
      · exact kN _ (by k_mem)
  rename_i h3 o3 FF NN dd hx0
  have hzn : z = (z.toNat : Int) := by omega
  unfold Stop
  refine' inner_use2 (D := D2) NN ?U (fun g => ∀ (k xn : Nat) (A0 B0 : Int) (tx tA tB : Tok) (vs : List Value) (ds : List Int) (ep : Nat), IntsAre vs ds → ds.length ≤ 500 → 0 ≤ A0 → B0 = A0 + (k : Int) → 1 ≤ k → k ≤ 10 → B0 ≤ (ds.length : Int) → xn < 2 ^ (z.toNat * k) →
    CSpec w (4 + 2 * k) f2 [.int (xn : Int) tx, .int A0 tA, .int B0 tB] (g (PySem.W.listOf vs.toArray ep)) (fun h₀ L m s Q => ∀ (vs' : List Value) (ep' : Nat) (h' : Heap) (tk' : Nat), IntsAre vs' (setR ds A0.toNat (digs z.toNat k xn)) → Fr h₀ L h' m → News h₀ L h' (g (PySem.W.listOf vs'.toArray ep')) → Q .none { s with heap := h', toks := tk' })) ?P1 ?P2
  (case U => k_updF)
  (case P1 =>
    intro k
    induction k using Nat.strongRecOn with
    | _ k ih =>
      intro xn A0 B0 tx tA tB vs ds ep hi hlen hA0 hB0 hk1 hk10 hB1 hxn
      clear hret FF NN F X N₀ T hd hu hG FG' B' X' T' N i1 s1 e1 e2 e3 hx hq hq2 hxc hc1 hc0 hce hc10 hx0
      intro loose mean mg mb dp un gd cn cs a ccd cl outer A₀ base h₀ L m s Q E hB F X N T hk hd hu hret
      (try dsimp only at N)
      refine wpAny_call ?_
      k_dflt (refine' code_nest ?k1 ?k2 ?k3 ?k4 ?k5 ?kA ?kF ?kK ?k6 ?k7 ?k8 ?k9 ?kB ?_ ?c2 ?c3 ?c4 ?c5; (case kA => exact rfl); (case kF => exact rfl); (case kK => assumption); (case k1 => exact hB); (case k2 => exact F); (case k3 => exact X); (case k4 => exact N); (case k5 => exact T); (case k6 => k_mem); (case k7 => exact codeRec_news N (by k_mem) d1 d2); (case k8 => ktr_room); (case k9 => exact BindsTo.of_eq rfl); (case c5 => decide); (case kB => exact locs rfl); (case c2 => exact rfl); (case c3 => exact rfl); (case c4 => exact rfl); k_whole; intro g' L' h' FG' F' N' B' X' T'; (try dsimp only); (try k_lift B'); (try k_fold))
      have hM : (A0 + B0).fdiv (2 ^ Int.toNat 1) = (A0 + B0) / 2 := by rw [show (2 : Int) ^ Int.toNat 1 = 2 from rfl, Int.fdiv_eq_ediv_of_nonneg _ (by decide)]
      by_cases hk2 : k = 1
      · subst hk2
        have hb1 : A0 + 1 = B0 := by omega
        k_steps
        (try (rotate_left; focus (exfalso; omega)))
        rename_i kF kN kT kX
        have hdone : IntsAre (vs.set A0.toNat (.int (xn : Int) tx)) (setR ds A0.toNat (digs z.toNat 1 xn)) := by
          rw [digs_one _ _ (by simpa using hxn), setR_one _ _ _ (by omega)]
          exact ints_set hi _
        exact hret _ _ _ _ hdone kF kN
      · have h2 : 2 ≤ k := by omega
        have hb1 : A0 + 1 ≠ B0 := by omega
        have hpr : 0 ≤ ((A0 + B0).fdiv (2 ^ Int.toNat 1) - A0) * z ∧ ((A0 + B0).fdiv (2 ^ Int.toNat 1) - A0) * z ≤ 1000 ∧ (((A0 + B0).fdiv (2 ^ Int.toNat 1) - A0) * z).toNat = z.toNat * ((A0 + B0) / 2 - A0).toNat := by
          rw [hM]
          have e1 : ((A0 + B0) / 2 - A0) = (((A0 + B0) / 2 - A0).toNat : Int) := by omega
          have e2 : z = (z.toNat : Int) := by omega
          have e3 : ((A0 + B0) / 2 - A0).toNat ≤ 10 := by omega
          have e4 : z.toNat ≤ 40 := by omega
          have e5 := Nat.mul_le_mul e3 e4
          have e6 : (((A0 + B0) / 2 - A0).toNat : Int) * (z.toNat : Int) = ((((A0 + B0) / 2 - A0).toNat * z.toNat : Nat) : Int) := by simp
          have e7 : ((A0 + B0) / 2 - A0) * z = ((((A0 + B0) / 2 - A0).toNat * z.toNat : Nat) : Int) := by rw [← e6, ← e1, ← e2]
          rw [e7]
          exact ⟨by omega, by omega, by rw [Int.toNat_natCast, Nat.mul_comm]⟩
        obtain ⟨hs10, hs11, hs12⟩ := hpr
        have hj1 : 1 ≤ ((A0 + B0) / 2 - A0).toNat ∧ ((A0 + B0) / 2 - A0).toNat < k := by omega
        have hsplit : z.toNat * k = z.toNat * ((A0 + B0) / 2 - A0).toNat + z.toNat * (k - ((A0 + B0) / 2 - A0).toNat) := by rw [← Nat.mul_add]; congr 1; omega
        have hup : (xn : Int).fdiv (2 ^ (((A0 + B0).fdiv (2 ^ Int.toNat 1) - A0) * z).toNat) = ((xn / 2 ^ (z.toNat * ((A0 + B0) / 2 - A0).toNat) : Nat) : Int) := by rw [hs12, fdiv_nat]
        have hlow : Builtin.bitXor (xn : Int) ((xn : Int).fdiv (2 ^ (((A0 + B0).fdiv (2 ^ Int.toNat 1) - A0) * z).toNat) * 2 ^ (((A0 + B0).fdiv (2 ^ Int.toNat 1) - A0) * z).toNat) = ((xn % 2 ^ (z.toNat * ((A0 + B0) / 2 - A0).toNat) : Nat) : Int) := by rw [hs12, bitXor_low]
        have hupl : xn / 2 ^ (z.toNat * ((A0 + B0) / 2 - A0).toNat) < 2 ^ (z.toNat * (k - ((A0 + B0) / 2 - A0).toNat)) := by
          rw [hsplit, Nat.pow_add] at hxn
          exact Nat.div_lt_of_lt_mul hxn
        have hsz : (Builtin.Int.intBits ((xn : Int).fdiv (2 ^ (((A0 + B0).fdiv (2 ^ Int.toNat 1) - A0) * z).toNat)) : Int) + ((A0 + B0).fdiv (2 ^ Int.toNat 1) - A0) * z ≤ 2 ^ 27 := by
          rw [hup]
          have b1 := intBits_le (x := ((xn / 2 ^ (z.toNat * ((A0 + B0) / 2 - A0).toNat) : Nat) : Int)) (k := z.toNat * (k - ((A0 + B0) / 2 - A0).toNat)) (Int.natCast_nonneg _) (by exact_mod_cast hupl)
          have b2 : z.toNat * (k - ((A0 + B0) / 2 - A0).toNat) ≤ 40 * 10 := Nat.mul_le_mul (by omega) (by omega)
          omega
        k_steps
        (try focus (exfalso; omega))
        unfold Stop
        rw [hlow]
        refine' cspec_at (ih ((A0 + B0) / 2 - A0).toNat (by omega) _ _ _ _ _ _ vs ds ep hi hlen hA0 (by rw [hM]; omega) (by omega) (by omega) (by rw [hM]; omega) (Nat.mod_lt _ (Nat.two_pow_pos _))) ?k1 ?k2 ?k3 ?k4 ?k5 ?kK ?kd ?ku ?_
        (case k1 | k2 | k3 | k4 | k5 => k_asm); (case kK => first | exact rfl | assumption); (case kd => ktr_room); (case ku => ktr_units)
        intro vs1 ep1 h' tk' hi1 F' N'
        (try dsimp only at N')
        have hl1 := setR_len ds A0.toNat (digs z.toNat ((A0 + B0) / 2 - A0).toNat (xn % 2 ^ (z.toNat * ((A0 + B0) / 2 - A0).toNat))) (by rw [digs_len]; omega)
        k_steps
        unfold Stop
        rw [hup]
        refine' cspec_at (ih (k - ((A0 + B0) / 2 - A0).toNat) (by omega) _ _ _ _ _ _ vs1 _ ep1 hi1 (by omega) (by rw [hM]; omega) (by rw [hM]; omega) (by omega) (by omega) (by rw [hl1]; exact hB1) hupl) ?k1 ?k2 ?k3 ?k4 ?k5 ?kK ?kd ?ku ?_
        (case k1 | k2 | k3 | k4 | k5 => k_asm); (case kK => first | exact rfl | assumption); (case kd => ktr_room); (case ku => ktr_units)
        intro vs2 ep2 h' tk' hi2 F' N'
        (try dsimp only at N')
        k_steps
        rename_i kF kN kT kX
        have hdone : IntsAre vs2 (setR ds A0.toNat (digs z.toNat k xn)) := by
          have e := digs_split z.toNat (k - ((A0 + B0) / 2 - A0).toNat) ((A0 + B0) / 2 - A0).toNat xn
          rw [show ((A0 + B0) / 2 - A0).toNat + (k - ((A0 + B0) / 2 - A0).toNat) = k by omega] at e
          have e2 := setR_two ds A0.toNat (digs z.toNat ((A0 + B0) / 2 - A0).toNat (xn % 2 ^ (z.toNat * ((A0 + B0) / 2 - A0).toNat))) (digs z.toNat (k - ((A0 + B0) / 2 - A0).toNat) (xn / 2 ^ (z.toNat * ((A0 + B0) / 2 - A0).toNat))) (by rw [digs_len, digs_len]; omega)
          rw [e, ← e2, digs_len, show A0.toNat + ((A0 + B0) / 2 - A0).toNat = ((A0 + B0).fdiv (2 ^ Int.toNat 1)).toNat by rw [hM]; omega]
          exact hi2
        exact hret _ _ _ _ hdone kF kN)
  intro hkey
  have hlen := IntsAre.length i1
  have hA : (List.replicate (((Builtin.Int.intBits (x : Int) : Int) + z - 1).fdiv z).toNat [(0 : Int)]).flatten.length = cntD x z.toNat := by rw [flat_rep, List.length_replicate, hce]
  have hx0' : x ≠ 0 := by omega
  have hc1' := hc1 hx0'
  refine' cspec_at (hkey (cntD x z.toNat) x 0 _ _ _ _ _ _ _ i1 ?l0 ?q0 ?q1 ?q2 ?q3 ?q4 ?q5) ?k1 ?k2 ?k3 ?k4 ?k5 ?kK ?kd ?ku ?_
  (case k1 | k2 | k3 | k4 | k5 => k_asm); (case kK => first | exact rfl | assumption)
  (case l0 => omega); (case q0 => decide); (case q1 => (try simp only [List.size_toArray]); omega); (case q2 => omega); (case q3 => omega); (case q4 => (try simp only [List.size_toArray]); omega); (case q5 => exact hxc)
  (case kd => ktr_room); (case ku => ktr_units)
  intro vs3 ep3 h' tk' hi3 FF NN
  (try dsimp only at NN)
  k_steps
  rename_i kF kN kT kX
  have hiE : IntsAre vs3 (digL x z.toNat) := by
    have hi4 : IntsAre vs3 (setR (List.replicate (((Builtin.Int.intBits (x : Int) : Int) + z - 1).fdiv z).toNat [(0 : Int)]).flatten 0 (digs z.toNat (cntD x z.toNat) x)) := hi3
    rw [setR_all _ _ (by rw [digs_len]; exact hA.symm)] at hi4
    exact hi4
  have hK := news_keep N₁ N hG FF kN (by
    intro p hp q hq e
    have h47 : p.1 ≠ 47 := hn47 p hp
    rcases List.mem_cons.mp hq with rfl | hq
    · exact absurd e.symm h47
    · rcases (show _ ∨ _ from hZ) with ⟨hc, ho, _⟩ | ⟨_, hc, _⟩
      · rw [List.mem_singleton.mp hq, show (c2, o2) = (cc, oc) from by rw [hc, ho]]; k_mem
      · rw [List.mem_singleton.mp hq] at e
        exact absurd (e.symm.trans hc) h47)
  have hfr : ∀ p ∈ rest, p.1 ≠ cc := by
    rcases (show _ ∨ _ from hZ) with ⟨hc, _, _⟩ | ⟨_, hc, hcl⟩
    · rw [hc]; exact fun p hp => (hoff.mem p hp).2.2.2
    · exact fun p hp => news_fresh N₁ hG NN (o := oc) (by k_mem) (by
        intro p hp hm
        rcases List.mem_cons.mp hm with hm | hm
        · rw [hm]; exact Nat.ne_of_lt hcl
        · rw [List.mem_singleton.mp hm]; exact hc ▸ Nat.ne_of_lt hcl) p (List.mem_append_left _ hp)
  have hfD : ∀ p ∈ rest ++ [(54, tabObj ps1), (c1, o1)], p.1 ≠ D2 := news_fresh N₁ hG NN (o := PySem.W.listOf (vs3).toArray ep3) (by k_mem) (by
    intro p hp hm
    rcases List.mem_cons.mp hm with hm | hm
    · rw [hm]; k_ne
    · rw [List.mem_singleton.mp hm]; k_ne)
  have hD54 := hfD (54, tabObj ps1) (List.mem_append_right _ (.head _))
  have hDc1 := hfD (c1, o1) (List.mem_append_right _ (.tail _ (.head _)))
  refine hret D2 _ (ep3) _ _ _ _ _ _ _ _ hp1 (.inr ⟨rfl, vs2, t2, d1, d2⟩) ⟨⟨fun e => hD54 e.symm, fun e => hDc1 e.symm, by k_ne, by k_ne⟩, OffT.of fun p hp => ⟨(hoff.mem p hp).1, (hoff.mem p hp).2.1, (hoff.mem p hp).2.2.1, hfr p hp⟩⟩ hiE kF (fun p hp => ?_) (fun p hp => hfD p (List.mem_append_left _ hp))
  rcases List.mem_append.mp hp with hp | hp
  · rcases List.mem_cons.mp hp with rfl | hp
    · exact kN _ (by k_mem)
    · exact hK p (List.mem_append_left _ hp)
  · simp only [List.mem_cons, List.not_mem_nil, or_false] at hp
    rcases hp with rfl | rfl | rfl | rfl
    · exact hK _ (List.mem_append_right _ (.head _))
    · exact hK _ (List.mem_append_right _ (.tail _ (.head _)))
    · exact kN _ (by k_mem)
    · exact kN _ (by k_mem)

end Mine
end
section
example : True := by (w_top off; trivial)
example : True := by (k_with_none; trivial)
example : True := by
  k_with "call builtin:min" => (k_here; (with_reducible show wpAny _ _ (call (Value.builtin _) [Value.int _ _, Value.int _ _, Value.int _ _]) _ _ _); k_dflt (refine' min3_N ?k0K9 ?k1K9 ?k2K9 ?_; (case k0K9 => rfl); (case k1K9 => k_asm); (case k2K9 => k_asm)); intro h' tk tok F' N'; revert h' tk tok F' N'; intro _ _ _ _ _)
  k_with "call builtin:max" => (k_here; (with_reducible show wpAny _ _ (call (Value.builtin _) [Value.int _ _, Value.int _ _, Value.int _ _]) _ _ _); k_dflt (refine' max3_N ?k0K9 ?k1K9 ?k2K9 ?_; (case k0K9 => rfl); (case k1K9 => k_asm); (case k2K9 => k_asm)); intro h' tk tok F' N'; revert h' tk tok F' N'; intro _ _ _ _ _)
  k_with "binaryOp Div int int" => (k_here; refine div_small (by omega) (by omega) ?_)
  k_with "subscriptTail" => (k_here; (with_reducible show wpAny _ _ (subscriptTail _ _ (Value.ref _) (Value.int _ _)) _ _ _); k_dflt (first
      | (refine' tup_item ?NK9 ?mK9 ?aK9 ?bK9 ?cK9 ?dK9 ?_ ?eK9; (case NK9 => k_asm); (case mK9 => k_mem); (case aK9 => decide); (case bK9 => decide); (case cK9 => rfl); (case dK9 => rfl); (case eK9 => with_unfolding_all rfl); k_whole)
      | (refine' lst_item ?NK9 ?mK9 ?aK9 ?bK9 ?cK9 ?_ ?eK9; (case NK9 => k_asm); (case mK9 => k_mem); (case aK9 => decide); (case bK9 => decide); (case cK9 => rfl); (case eK9 => with_unfolding_all rfl); k_whole)
      | (refine' lst_itemN ?NK9 ?mK9 ?aK9 ?bK9 ?cK9 ?dK9 ?_ ?eK9; (case NK9 => k_asm); (case mK9 => k_mem); (case aK9 => decide); (case bK9 => decide); (case cK9 => decide); (case dK9 => rfl); (case eK9 => with_unfolding_all rfl); k_whole)))
  trivial
open PySem PySem.W PyProof.Rows PySem.Calls PySem.Spec
namespace Mine
theorem c_d2i0 (w : World) (ps1 : Array Value) (c1 : Addr) (o1 : Obj) (ps2 : Array Value) (c2 : Addr) (o2 : Obj) (lw rest : List (Addr × Obj)) (hsp : Spl (TL ps1 c1 o1 ps2 c2 o2) lw rest) (hp1 : TabP 54 48 4 q1 ps1 c1 o1) (hp2 : TabP 47 33 4 q2 ps2 c2 o2) (hoff : OffT c1 c2 rest)
   (z : Int) (tz : Tok) (l : Addr) (ep : Nat) (hl : (l, PySem.W.listOf ([] : List Value).toArray ep) ∈ rest) :
  CSpec w 40 59 [.ref l, .int z tz] lw (RTab (fun t => .int 0 t) rest) := by
  have hlw := hsp.eq
  subst hlw
  have hol := hoff.mem _ hl
  have hne : l ≠ 54 ∧ l ≠ c1 ∧ l ≠ 47 ∧ l ≠ c2 := hol
  have hne' : (@Ne Nat l 54) ∧ (@Ne Nat l c1) ∧ (@Ne Nat l 47) ∧ (@Ne Nat l c2) := hne
  clear hol hne
  intro loose mean mg mb dp un gd cn cs a ccd cl outer A₀ base h₀ L m s Q E hB F X N₀ T hk hd hu hret
  rcases hp1 with ⟨rfl, rfl, rfl⟩ | ⟨rfl, ov, ot, ho1, ho2⟩
  · have N : News h₀ L s.heap [(l, PySem.W.listOf ([] : List Value).toArray ep), (54, tabObj #[])] := by
      intro p hp
      simp only [List.mem_cons, List.not_mem_nil, or_false] at hp
      rcases hp with rfl | rfl
      · exact N₀ _ (List.mem_append_left _ hl)
      · exact N₀ _ (List.mem_append_right _ (.head _))
    have C58 := codeHd58 w X
    refine wpAny_call ?_
    k_dflt (refine' enter_cellsG ?k1 ?k2 ?k3 N ?k5 ?kA ?kF ?kK ?k6 ?k7 ?k8 ?k9 ?kB ?kD ?_ ?c2 ?c3 ?c4; (case kA => exact rfl); (case kF => exact rfl); (case kK => assumption); (case k1 => k_asm); (case k2 => k_asm); (case k3 => k_asm); (case k5 => k_asm); (case k6 => k_is); (case k7 => k_is); (case k8 => ktr_room); (case k9 => exact BindsTo.of_eq rfl); (case kB => exact rfl); (case kD => decide +kernel); (case c2 => exact rfl); (case c3 => exact rfl); (case c4 => exact rfl); k_whole; intro gG L' h' tk' cells' FG' F' N' Y' B' X' T' l1 hG; (try k_lt l1); k_cells Y'; (try simp only [List.cons_append, List.nil_append] at N'); (try dsimp only); (try k_lift B'); (try k_fold))
  
    have C58' := codeHd58 w X'
    clear C58
    k_steps
    rename_i ff cc oc vs2 t2 ct2 dc2 h2 tk2 d1 d2 l1a l2a h3 o3 F' N' dd kF kN kT kX
    have hc2 : c2 ≠ 54 := tab_ne N₀ (.inl ⟨rfl, rfl, rfl⟩ : TabP 54 48 4 q1 #[] 54 (tabObj #[])) hp2 (List.mem_append_right _ (.head _)) (List.mem_append_right _ (.tail _ (.tail _ (.tail _ (.head _))))) (by decide)
    have N₁ : News h₀ L s.heap (rest ++ [(47, tabObj ps2), (c2, o2)]) := fun p hp => N₀ p (by
      rcases List.mem_append.mp hp with hp | hp
      · exact List.mem_append_left _ hp
      · exact List.mem_append_right _ (.tail _ (.tail _ hp)))
    have hK := news_keep N₁ N hG F' kN (by
      intro p hp q hq e
      simp only [List.mem_cons, List.not_mem_nil, or_false] at hq
      rcases hq with rfl | rfl
      · k_mem
      · exfalso
        rcases List.mem_append.mp hp with hp | hp
        · exact (hoff.mem p hp).1 e.symm
        · simp only [List.mem_cons, List.not_mem_nil, or_false] at hp
          rcases hp with rfl | rfl
          · cases e
          · exact hc2 e.symm)
    have hfr : ∀ p ∈ rest, p.1 ≠ cc := news_fresh (fun p hp => N₀ p (List.mem_append_left _ hp)) hG N' (o := oc) (by k_mem) (by
      intro p hp hm
      simp only [List.map_cons, List.map_nil, List.mem_cons, List.not_mem_nil, or_false] at hm
      rcases hm with hm | hm <;> (rw [hm]; k_ne))
    refine hret _ _ _ _ _ _ _ _ _ (.inr ⟨rfl, vs2, t2, d1, d2⟩) hp2 (OffT.of fun p hp => ⟨(hoff.mem p hp).1, hfr p hp, (hoff.mem p hp).2.2⟩) kF (fun p hp => ?_)
    rcases List.mem_append.mp hp with hp | hp
    · exact hK p (List.mem_append_left _ hp)
    · rcases List.mem_cons.mp hp with rfl | hp
      · exact kN _ (by k_mem)
      · rcases List.mem_cons.mp hp with rfl | hp
        · exact kN _ (by k_mem)
        · exact hK p (List.mem_append_right _ hp)
  · have N : News h₀ L s.heap [(l, PySem.W.listOf ([] : List Value).toArray ep), (54, tabObj #[rawInt 48, rawInt 4, .ref c1]), (c1, o1)] := by
      intro p hp
      simp only [List.mem_cons, List.not_mem_nil, or_false] at hp
      rcases hp with rfl | rfl | rfl
      · exact N₀ _ (List.mem_append_left _ hl)
      · exact N₀ _ (List.mem_append_right _ (.head _))
      · exact N₀ _ (List.mem_append_right _ (.tail _ (.head _)))
    have C58 := codeHd58 w X
    refine wpAny_call ?_
    k_dflt (refine' enter_cellsG ?k1 ?k2 ?k3 N ?k5 ?kA ?kF ?kK ?k6 ?k7 ?k8 ?k9 ?kB ?kD ?_ ?c2 ?c3 ?c4; (case kA => exact rfl); (case kF => exact rfl); (case kK => assumption); (case k1 => k_asm); (case k2 => k_asm); (case k3 => k_asm); (case k5 => k_asm); (case k6 => k_is); (case k7 => k_is); (case k8 => ktr_room); (case k9 => exact BindsTo.of_eq rfl); (case kB => exact rfl); (case kD => decide +kernel); (case c2 => exact rfl); (case c3 => exact rfl); (case c4 => exact rfl); k_whole; intro gG L' h' tk' cells' FG' F' N' Y' B' X' T' l1 hG; (try k_lt l1); k_cells Y'; (try simp only [List.cons_append, List.nil_append] at N'); (try dsimp only); (try k_lift B'); (try k_fold))
  
    have C58' := codeHd58 w X'
    clear C58
    k_steps
    rename_i F' N' dd kF kN kT kX
    have hK := news_keep N₀ N hG F' kN (by
      intro p hp q hq e
      simp only [List.mem_cons, List.not_mem_nil, or_false] at hq
      rcases hq with rfl | rfl | rfl <;> k_mem)
    exact hret _ _ _ _ _ _ _ _ _ (.inr ⟨rfl, ov, ot, ho1, ho2⟩) hp2 hoff kF hK


end Mine
end
section
example : True := by (w_top off; trivial)
example : True := by (k_with_none; trivial)
example : True := by
  k_with "call builtin:min" => (k_here; (with_reducible show wpAny _ _ (call (Value.builtin _) [Value.int _ _, Value.int _ _, Value.int _ _]) _ _ _); k_dflt (refine' min3_N ?k0K9 ?k1K9 ?k2K9 ?_; (case k0K9 => rfl); (case k1K9 => k_asm); (case k2K9 => k_asm)); intro h' tk tok F' N'; revert h' tk tok F' N'; intro _ _ _ _ _)
  k_with "call builtin:max" => (k_here; (with_reducible show wpAny _ _ (call (Value.builtin _) [Value.int _ _, Value.int _ _, Value.int _ _]) _ _ _); k_dflt (refine' max3_N ?k0K9 ?k1K9 ?k2K9 ?_; (case k0K9 => rfl); (case k1K9 => k_asm); (case k2K9 => k_asm)); intro h' tk tok F' N'; revert h' tk tok F' N'; intro _ _ _ _ _)
  k_with "binaryOp Div int int" => (k_here; refine div_small (by omega) (by omega) ?_)
  k_with "subscriptTail" => (k_here; (with_reducible show wpAny _ _ (subscriptTail _ _ (Value.ref _) (Value.int _ _)) _ _ _); k_dflt (first
      | (refine' tup_item ?NK9 ?mK9 ?aK9 ?bK9 ?cK9 ?dK9 ?_ ?eK9; (case NK9 => k_asm); (case mK9 => k_mem); (case aK9 => decide); (case bK9 => decide); (case cK9 => rfl); (case dK9 => rfl); (case eK9 => with_unfolding_all rfl); k_whole)
      | (refine' lst_item ?NK9 ?mK9 ?aK9 ?bK9 ?cK9 ?_ ?eK9; (case NK9 => k_asm); (case mK9 => k_mem); (case aK9 => decide); (case bK9 => decide); (case cK9 => rfl); (case eK9 => with_unfolding_all rfl); k_whole)
      | (refine' lst_itemN ?NK9 ?mK9 ?aK9 ?bK9 ?cK9 ?dK9 ?_ ?eK9; (case NK9 => k_asm); (case mK9 => k_mem); (case aK9 => decide); (case bK9 => decide); (case cK9 => decide); (case dK9 => rfl); (case eK9 => with_unfolding_all rfl); k_whole)))
  trivial
open PySem PySem.W PyProof.Rows PySem.Calls PySem.Spec
namespace Mine
noncomputable abbrev RTabPair (a b : Int) (rest : List (Addr × Obj)) (h₀ : Heap) (L : Addr) (m : Str → Option Value) (s : Shared) (Q : Value → Shared → Prop) : Prop :=
  ∀ (D : Addr) (t1 t2 : Tok) (n : Nat) (ps1 : Array Value) (c1 : Addr) (o1 : Obj) (ps2 : Array Value) (c2 : Addr) (o2 : Obj) (h' : Heap) (tk' : Nat), TabP 54 48 4 q1 ps1 c1 o1 → TabP 47 33 4 q2 ps2 c2 o2 → OffT c1 c2 ((D, tup2 (.int a t1) (.int b t2) n) :: rest) → Fr h₀ L h' m →
    News h₀ L h' ((D, tup2 (.int a t1) (.int b t2) n) :: rest ++ TL ps1 c1 o1 ps2 c2 o2) → (∀ p ∈ rest, p.1 ≠ D) → Q (.ref D) { s with heap := h', toks := tk' }
theorem end_pairT {a b a' b' : Int} {rest : List (Addr × Obj)} {h₀ : Heap} {L : Addr} {m : Str → Option Value} {s : Shared} {Q : Value → Shared → Prop} {DD : Addr} {t1 t2 : Tok} {n : Nat} {ps1 : Array Value} {c1 : Addr} {o1 : Obj} {ps2 : Array Value} {c2 : Addr} {o2 : Obj} {h' : Heap} {tk' : Nat}
    (hret : RTabPair a b rest h₀ L m s Q) (h1 : TabP 54 48 4 q1 ps1 c1 o1) (h2 : TabP 47 33 4 q2 ps2 c2 o2) (ho : (@Ne Nat DD 54) ∧ (@Ne Nat DD c1) ∧ (@Ne Nat DD 47) ∧ (@Ne Nat DD c2)) (hof : OffT c1 c2 rest) (kF : Fr h₀ L h' m)
    (kD : h'.get? DD = some (tup2 (.int a' t1) (.int b' t2) n) ∧ DD ≠ L ∧ h₀.get? DD = none) (e1 : a' = a) (e2 : b' = b) (hr : News h₀ L h' rest) (hT : News h₀ L h' (TL ps1 c1 o1 ps2 c2 o2)) (hne : ∀ p ∈ rest, p.1 ≠ DD) : Q (.ref DD) { s with heap := h', toks := tk' } := by
  subst e1 e2
  refine hret DD t1 t2 n _ _ _ _ _ _ _ _ h1 h2 ⟨ho, hof⟩ kF (fun p hp => ?_) hne
  rcases List.mem_append.mp hp with hp | hp
  · rcases List.mem_cons.mp hp with rfl | hp
    · exact kD
    · exact hr p hp
  · exact hT p hp


example : True := by
  k_with "call ref" => (k_here; (with_reducible show wpAny _ _ (call (Value.ref 52) [Value.int _ _, Value.int _ _]) _ _ _); k_dflt (refine' cspec_go (c_i2d _ _ _ _ _ _ _ _ _ ?p1K9 ?p2K9 ?p3K9 ?p4K9 _ _ _ _ ?p5K9 ?p6K9) ?_; (case p1K9 => (first | exact sp0 | exact sp1 | exact sp2 | exact sp3 | exact sp4 | exact sp5 | exact sp6 | exact sp7 | exact sp8 | exact sp9 | exact sp10 | exact sp11 | exact sp12 | exact sp13)); (case p2K9 => assumption); (case p3K9 => assumption); (case p4K9 => (repeat' (first | exact trivial | assumption | refine And.intro ?_ ?_ | (dsimp only; omega)))); (case p5K9 => assumption); (case p6K9 => omega)); intro D vs ep ps1 c1 o1 ps2 c2 o2 h' tk' hp1 hp2 hoff hi F' N' hne; (try simp only [List.cons_append, List.nil_append] at N'); revert D vs ep ps1 c1 o1 ps2 c2 o2 h' tk' hp1 hp2 hoff hi F' N' hne; intro _ _ _ _ _ _ _ _ _ _ _ _ _ _ _ _ _ _; refine Stop.mk ?_)
  k_with "call ref" => (k_here; (with_reducible show wpAny _ _ (call (Value.ref 38) [Value.int _ _, Value.int _ _, Value.int _ _]) _ _ _); k_dflt (refine' cspec_go (c_div2n1n _ _ _ _ _ _ _ _ ?p1K9 ?p2K9 ?p3K9 ?p4K9) ?_; (case p1K9 => assumption); (case p2K9 => omega); (case p3K9 => assumption); (case p4K9 => omega)); intro D t1 t2 n h' tk' F' N' l1; (try k_lt l1); revert D t1 t2 n h' tk' F' N' l1; intro _ _ _ _ _ _ _ _ _)
  k_with "call ref" => (k_here; (with_reducible show wpAny _ _ (call (Value.ref 59) [Value.ref _, Value.int _ _]) _ _ _); refine Stop.mk ?_)
  k_with "binaryOp LShift int int" => (k_here; refine lshift_int (by assumption) (by assumption) ?_)
  trivial
theorem cntD_le {x z k : Nat} (hz : 1 ≤ z) (hx : x < 2 ^ (z * k)) : cntD x z ≤ k := by
  have hb := intBits_le (x := (x : Int)) (k := z * k) (Int.natCast_nonneg _) (by exact_mod_cast hx)
  have e0 : ((Builtin.Int.intBits (x : Int) : Int) + z - 1).fdiv z = ((Builtin.Int.intBits (x : Int) + z - 1) / z : Nat) := by
    rw [Int.fdiv_eq_ediv_of_nonneg _ (by omega)]
    rw [show ((Builtin.Int.intBits (x : Int) : Int) + z - 1) = ((Builtin.Int.intBits (x : Int) + z - 1 : Nat) : Int) by omega]
    simp
  have ec : cntD x z = (Builtin.Int.intBits (x : Int) + z - 1) / z := by unfold cntD; rw [e0, Int.toNat_natCast]
  rw [ec]
  have h2 : Builtin.Int.intBits (x : Int) + z - 1 < (k + 1) * z := by rw [Nat.mul_comm] at hb; rw [Nat.add_mul]; omega
  have := (Nat.div_lt_iff_lt_mul (by omega)).mpr h2
  omega
theorem digV_digs (z : Nat) : ∀ (k x : Nat), x < 2 ^ (z * k) → digV z (digs z k x) = (x : Int)
  | 0, x, h => by
    rw [Nat.mul_zero, Nat.pow_zero] at h
    obtain rfl : x = 0 := by omega
    rfl
  | k + 1, x, h => by
    have h2 : x / 2 ^ z < 2 ^ (z * k) := Nat.div_lt_of_lt_mul (by rw [← Nat.pow_add]; rwa [Nat.mul_succ, Nat.add_comm] at h)
    rw [digs, digV, digV_digs z k _ h2]
    have h3 := Nat.mod_add_div x (2 ^ z)
    have h4 : ((x % 2 ^ z : Nat) : Int) + ((x / 2 ^ z : Nat) : Int) * ((2 ^ z : Nat) : Int) = (x : Int) := by
      rw [← Int.natCast_mul, ← Int.natCast_add, Nat.mul_comm]; exact congrArg _ h3
    rw [Int.natCast_pow] at h4
    exact h4
theorem digs_bd (z : Nat) : ∀ (k x : Nat), ∀ d ∈ digs z k x, 0 ≤ d ∧ d < (2 : Int) ^ z
  | 0, _, d, h => nomatch h
  | k + 1, x, d, h => by
    rcases List.mem_cons.mp h with rfl | h
    · exact ⟨Int.natCast_nonneg _, by exact_mod_cast Nat.mod_lt _ (Nat.two_pow_pos _)⟩
    · exact digs_bd z k _ d h
theorem IntsAre.rev {vs : List Value} {xs : List Int} (h : IntsAre vs xs) : IntsAre vs.reverse xs.reverse := by
  induction h with
  | nil => exact .nil
  | @cons n t vs ns _ ih =>
    rw [List.reverse_cons, List.reverse_cons]
    have : ∀ {a : List Value} {b : List Int}, IntsAre a b → IntsAre (a ++ [.int n t]) (b ++ [n]) := by
      intro a b h
      induction h with
      | nil => exact .cons _ _ .nil
      | cons _ _ _ ih => exact .cons _ _ ih
    exact this ih
theorem IntsAre.app1 {vs : List Value} {xs : List Int} {n : Int} {t : Tok} (h : IntsAre vs xs) : IntsAre (vs ++ [.int n t]) (xs ++ [n]) := by
  induction h with
  | nil => exact .cons _ _ .nil
  | cons _ _ _ ih => exact .cons _ _ ih
structure DInv (Z x : Nat) (y : Int) (k : Nat) (rs qs : List Value) (R : Int) (ds qd : List Int) (V : Int) : Prop where
  hr : IntsAre rs ds
  hq : IntsAre qs qd
  hd : ∀ d ∈ ds, 0 ≤ d ∧ d < (2 : Int) ^ Z
  hqb : ∀ d ∈ qd, 0 ≤ d ∧ d < (2 : Int) ^ Z
  hR : 0 ≤ R ∧ R < y
  hk : qd.length + ds.length = k
  hV : V = digV Z qd.reverse * y + R
  hx : V * 2 ^ (Z * ds.length) + digV Z ds.reverse = (x : Int)
theorem DInv.step {Z x : Nat} {y : Int} {k : Nat} {d : Int} {td t' : Tok} {rs qs : List Value} {R : Int} {ds qd : List Int} {V : Int} (h : DInv Z x y k (.int d td :: rs) qs R (d :: ds) qd V) (hy : y < 2 ^ Z) (hZ : Z ≤ 40) :
    DInv Z x y k rs (qs ++ [.int ((R * 2 ^ Z + d).fdiv y) t']) ((R * 2 ^ Z + d).fmod y) ds (qd ++ [(R * 2 ^ Z + d).fdiv y]) (V * 2 ^ Z + d) := by
  have f := dm_fact (r := R) (d := d) (y := y) (Z := Z) h.hR hy (h.hd d (.head _)) hZ
  have hr := h.hr
  cases hr with
  | cons _ _ hr' =>
  refine { hr := hr', hq := Mine.IntsAre.app1 h.hq, hd := fun e he => h.hd e (.tail _ he), hqb := fun e he => ?_, hR := f.2.2.1, hk := ?_, hV := ?_, hx := ?_ }
  · rcases List.mem_append.mp he with he | he
    · exact h.hqb e he
    · rw [List.mem_singleton.mp he]; exact f.2.2.2
  · have := h.hk
    simp only [List.length_append, List.length_cons, List.length_nil] at this ⊢
    omega
  · have e := Int.mul_fdiv_add_fmod (R * 2 ^ Z + d) y
    rw [h.hV, List.reverse_append, List.reverse_singleton, List.singleton_append, digV]
    generalize digV Z qd.reverse = Q at *
    generalize (R * 2 ^ Z + d).fdiv y = q at *
    generalize (R * 2 ^ Z + d).fmod y = r at *
    generalize hP : (2 : Int) ^ Z = P at *
    rw [Int.add_mul, Int.add_mul, Int.mul_right_comm, Int.mul_comm q y]
    omega
  · have e := h.hx
    rw [List.reverse_cons, digV_append, List.length_reverse, List.length_cons, Nat.mul_succ, Int.pow_add] at e
    simp only [digV, Int.zero_mul, Int.add_zero] at e
    rw [Int.add_mul, Int.mul_assoc, Int.mul_comm (2 ^ Z)]
    omega
theorem DInv.fin {Z x : Nat} {y : Int} {k : Nat} {qs : List Value} {R : Int} {ds qd : List Int} {V : Int} (h : DInv Z x y k [] qs R ds qd V) (hy : 1 ≤ y) : digV Z qd.reverse = (x : Int).fdiv y ∧ R = (x : Int).fmod y ∧ qd.length = k := by
  have hr := h.hr
  cases hr
  have e := h.hx
  simp only [List.length_nil, Nat.mul_zero, Int.pow_zero, Int.mul_one, List.reverse_nil, digV, Int.add_zero] at e
  have hV := h.hV
  rw [e] at hV
  have hk := h.hk
  simp only [List.length_nil, Nat.add_zero] at hk
  refine ⟨?_, ?_, hk⟩
  · rw [hV, Int.add_comm, Int.fdiv_eq_ediv_of_nonneg _ (by omega), Int.add_mul_ediv_right _ _ (by omega), Int.ediv_eq_zero_of_lt h.hR.1 h.hR.2, Int.zero_add]
  · rw [hV, Int.add_comm, Int.fmod_eq_emod_of_nonneg _ (by omega), Int.add_mul_emod_self_right, Int.emod_eq_of_lt h.hR.1 h.hR.2]
section
variable {prog : Program} {w : World} {A : Around} {E : Value → Shared → Prop} {s : Shared} {env : Env} {h₀ : Heap} {x : Str} {body : List Stmt} {Q : Flow → Shared → Prop}
theorem revRest_ind {I : Addr} {lp : Addr × Obj} {P : List Value → (Str → Option Value) → List (Addr × Obj) → Prop}
    (hend : ∀ m news, P [] m news → ∀ h tk, Fr h₀ env.locals h m → News h₀ env.locals h news → Q .next { s with heap := h, toks := tk })
    (hstep : ∀ v r m news, P (v :: r) m news → ∀ (it : Obj) h tk, it.cls = .type "list_reverseiterator" → Fr h₀ env.locals h (fun y => if y = x then some v else m y) → News h₀ env.locals h ((I, it) :: news) →
      wpAny (model prog w) A (execs body env) (UnrPost h₀ env.locals { s with heap := h, toks := tk } I it (fun m' n' => lp ∈ n' ∧ P r m' n') Q) E { s with heap := h, toks := tk }) :
    ∀ rs m news, P rs m news → RevRest prog w A E h₀ env x body Q s I lp rs m news
  | [], m, news, hp => hend m news hp
  | v :: r, m, news, hp => fun it h tk hc F N => by
    have hUE : ∀ s₂, UnrEnd h₀ env.locals { s with heap := h, toks := tk } I it (fun m' n' => lp ∈ n' ∧ P r m' n') s₂ →
        UnrEnd h₀ env.locals { s with heap := h, toks := tk } I it (fun m' n' => lp ∈ n' ∧ RevRest prog w A E h₀ env x body Q s I lp r m' n') s₂ := by
      rintro s₂ ⟨h', tk', m', news', e1, e2, e3, e4, e5⟩
      exact ⟨h', tk', m', news', e1, e2, e3, e4, e5.1, revRest_ind hend hstep r m' news' e5.2⟩
    refine wpAny_mono (hstep v r m news hp it h tk hc F N) (fun f s₂ hu => ?_) fun _ _ e => e
    cases f <;> first | exact hUE s₂ hu | exact hu
end
theorem mem_of {h₀ h : Heap} {L : Addr} {news : List (Addr × Obj)} {p : Addr × Obj} (_ : News h₀ L h news) (hm : p ∈ news) : p ∈ news := hm
theorem Fr.congrD {h₀ h : Heap} {L : Addr} {m m' : Str → Option Value} (F : Fr h₀ L h m) (e : ∀ z, m z = m' z) : Fr h₀ L h m' := by
  obtain rfl : m = m' := funext e
  exact F
noncomputable def LocD (z : Str) : Prop := z = Str.ofString "a_digit" ∨ z = Str.ofString "q_digit" ∨ z = Str.ofString "r"
theorem chainD {m' M0 : Str → Option Value} {vq vn vb vr : Option Value} (h : ∀ z, ¬ LocD z → m' z = M0 z) (hq : M0 (Str.ofString "q_digits") = vq) (hn : M0 (Str.ofString "n") = vn) (hb : M0 (Str.ofString "b") = vb) (hr : m' (Str.ofString "r") = vr) (z : Str) :
    m' z = if z = Str.ofString "q_digits" then vq else if z = Str.ofString "n" then vn else if z = Str.ofString "b" then vb else if z = Str.ofString "r" then vr else m' z := by
  by_cases q0 : z = Str.ofString "q_digits"
  · rw [if_pos q0, q0, h _ (by unfold LocD; decide), hq]
  · by_cases q1 : z = Str.ofString "n"
    · rw [if_neg q0, if_pos q1, q1, h _ (by unfold LocD; decide), hn]
    · by_cases q2 : z = Str.ofString "b"
      · rw [if_neg q0, if_neg q1, if_pos q2, q2, h _ (by unfold LocD; decide), hb]
      · by_cases q3 : z = Str.ofString "r"
        · rw [if_neg q0, if_neg q1, if_neg q2, if_pos q3, q3, hr]
        · rw [if_neg q0, if_neg q1, if_neg q2, if_neg q3]
theorem digR_all (ds : List Int) (z : Nat) : digR ds z 0 ds.length = digV z ds := by unfold digR; rw [List.drop_zero, List.take_length]
example : True := by
  k_with "UnrEnd" => (refine Stop.mk ?_)
  k_with "call builtin:list.append" => (k_here; (with_reducible show wpAny _ _ (call (Value.builtin _) [Value.ref _, _]) _ _ _); k_dflt (refine' append_K ?k1K9 ?k2K9 ?k3K9 ?_ ?zK9; (case k1K9 => k_asm); (case k2K9 => k_asm); (case k3K9 => k_upd); (case zK9 => first | ((show _ ≤ sizeLine); rw [sizeLine_eq]; simp only [List.size_toArray]; omega) | size_fits); k_whole); intro h' F' N'; revert h' F' N'; intro _ _ _)
  k_with "call builtin:list.reverse" => (k_here; (with_reducible show wpAny _ _ (call (Value.builtin _) [Value.ref _]) _ _ _); k_dflt (refine' kl_reverse ?FK9 ?NK9 ?eK9 ?UK9 ?zK9 ?_; (case FK9 => k_asm); (case NK9 => k_asm); (case eK9 => exact (rfl : _ = List.reverse _)); (case UK9 => k_upd); (case zK9 => ((show _ ≤ sizeLine); rw [sizeLine_eq]; (try simp only [List.toList_toArray]); omega))); intro h' F' N'; revert h' F' N'; intro _ _ _)
  trivial
theorem c_dmp (w : World) (ps1 : Array Value) (c1 : Addr) (o1 : Obj) (ps2 : Array Value) (c2 : Addr) (o2 : Obj) (lw rest : List (Addr × Obj)) (hsp : Spl (TL ps1 c1 o1 ps2 c2 o2) lw rest) (hp1 : TabP 54 48 4 q1 ps1 c1 o1) (hp2 : TabP 47 33 4 q2 ps2 c2 o2) (hoff : OffT c1 c2 rest)
   (x : Nat) (y : Int) (tx ty : Tok) (hy : 1 ≤ y) (hx : x < 2 ^ (Builtin.Int.intBits y * 3)) (hz : Builtin.Int.intBits y ≤ 40) :
  CSpec w 62 66 [.int (x : Int) tx, .int y ty] lw (RTabPair ((x : Int).fdiv y) ((x : Int).fmod y) rest) := by
  have hlw := hsp.eq
  subst hlw
  have hx10 : x < 2 ^ (((Builtin.Int.intBits y : Nat) : Int).toNat * 10) := Nat.lt_of_lt_of_le hx (by rw [Int.toNat_natCast]; exact Nat.pow_le_pow_right (by decide) (by omega))
  have hyb : 1 ≤ Builtin.Int.intBits y := by unfold Builtin.Int.intBits; rw [if_neg (by simp; omega)]; omega
  have hn0 : (0 : Int) ≤ ((Builtin.Int.intBits y : Nat) : Int) := Int.natCast_nonneg _
  have hyl := (lt_intBits hy).1
  have hy9 : y.natAbs.log2 < 9000 := by have := (lt_intBits hy).2; omega
  have hy0 : y ≠ 0 := by omega
  have hZ1 : 1 ≤ (((Builtin.Int.intBits y : Nat) : Int)).toNat ∧ (((Builtin.Int.intBits y : Nat) : Int)).toNat ≤ 40 := by rw [Int.toNat_natCast]; exact ⟨hyb, hz⟩
  have hc3 : cntD x (((Builtin.Int.intBits y : Nat) : Int)).toNat ≤ 3 := cntD_le hZ1.1 (by rw [Int.toNat_natCast]; exact hx)
  have hxc : x < 2 ^ ((((Builtin.Int.intBits y : Nat) : Int)).toNat * cntD x (((Builtin.Int.intBits y : Nat) : Int)).toNat) := (cntD_facts (x := x) (z := (((Builtin.Int.intBits y : Nat) : Int)).toNat) hZ1.1 hx10).2.2.1
  have hdg : ∀ u : Nat, 0 ≤ ((u % 2 ^ (((Builtin.Int.intBits y : Nat) : Int)).toNat : Nat) : Int) ∧ ((u % 2 ^ (((Builtin.Int.intBits y : Nat) : Int)).toNat : Nat) : Int) < (2 ^ (((Builtin.Int.intBits y : Nat) : Int)).toNat) := fun u => ⟨Int.natCast_nonneg _, by exact_mod_cast Nat.mod_lt _ (Nat.two_pow_pos _)⟩

  intro loose mean mg mb dp un gd cn cs a ccd cl outer A₀ base h₀ L m s Q E hB F X N₀ T hk hd hu hret
  have N : News h₀ L s.heap (TL ps1 c1 o1 ps2 c2 o2) := fun p hp => N₀ p (List.mem_append_right _ hp)
  refine wpAny_call ?_
  k_dflt (refine' code_defG ?k1 ?k2 ?k3 N ?k5 ?kA ?kF ?kK ?k6 ?k7 ?k8 ?k9 ?kB ?_ ?c2 ?c3 ?c4 ?c5; (case kA => exact rfl); (case kF => exact rfl); (case kK => assumption); (case k1 => k_asm); (case k2 => k_asm); (case k3 => k_asm); (case k5 => k_asm); (case k6 => k_is); (case k7 => k_is); (case k8 => ktr_room); (case k9 => exact BindsTo.of_eq rfl); (case c5 => decide); (case kB => exact locs rfl); (case c2 => exact rfl); (case c3 => exact rfl); (case c4 => exact rfl); k_whole; intro gG L' h' FG' F' N' B' X' T' hG; (try dsimp only); (try k_lift B'); (try k_fold))
  k_steps
  rename_i hE NE D vs ep ps1' c1' o1' ps2' c2' o2' h2 tk2 hp1' hp2' hoff' hi F2 N2 hne2
  have ho := hoff'.mem _ (.head _)
  have ho' : (@Ne Nat D 54) ∧ (@Ne Nat D c1') ∧ (@Ne Nat D 47) ∧ (@Ne Nat D c2') := ho
  clear ho
  unfold Stop
  k_steps
  rename_i g1 tkA g2 Qa g3 l1q g4 RI g5 F5 N5 l1i
  have hcl : (digL x (((Builtin.Int.intBits y : Nat) : Int)).toNat).length = cntD x (((Builtin.Int.intBits y : Nat) : Int)).toNat := digs_len _ _ _
  have hvl := IntsAre.length hi
  have qne : (@Ne Nat Qa 54) ∧ (@Ne Nat Qa c1') ∧ (@Ne Nat Qa 47) ∧ (@Ne Nat Qa c2') := ⟨by omega, by omega, by omega, by omega⟩
  obtain ⟨M0, t1, t2, F6, eq, er, en, eb⟩ : ∃ M0 t1 t2, Fr gG L' g5 M0 ∧ M0 (Str.ofString "q_digits") = some (.ref Qa) ∧ M0 (Str.ofString "r") = some (.int 0 t1) ∧ M0 (Str.ofString "n") = some (.int ((Builtin.Int.intBits y : Nat) : Int) t2) ∧ M0 (Str.ofString "b") = some (.int y ty) := ⟨_, _, _, F5, rfl, rfl, rfl, rfl⟩
  refine iter_revUnr (lo := PySem.W.listOf vs.toArray ep) (vs := vs) (n := ep) (by rfl) F6 N5 (by k_offL) (by k_mem) (by rfl) (by rfl) ?_
  clear F5
  refine revRest_ind (P := fun rs m' n' => Hold (∃ qs R tR eq ds qd V, n' = (Qa, PySem.W.listOf qs.toArray eq) :: (D, PySem.W.listOf vs.toArray ep) :: TL ps1' c1' o1' ps2' c2' o2' ∧ (∀ z, ¬ LocD z → m' z = M0 z) ∧ m' (Str.ofString "r") = some (.int R tR) ∧ DInv (((Builtin.Int.intBits y : Nat) : Int)).toNat x y (cntD x (((Builtin.Int.intBits y : Nat) : Int)).toNat) rs qs R ds qd V)) ?_ ?_ vs.reverse _ _ ?_
  · rintro m' nw ⟨qs, R, tR, eq1, ds, qd, V, rfl, hm, hmr, hI⟩ h tk9 F' N'
    have F2 := Fr.congrD F' (chainD hm eq en eb hmr)
    have hfin := hI.fin hy
    have hqb := hI.hqb
    have hz40 : ((Builtin.Int.intBits y : Nat) : Int) ≤ 40 := by omega
    have hqs := hI.hq
    have hql := IntsAre.length hqs
    have hqr := IntsAre.rev hqs
    have k_lt_ne := qne
    have hql3 : qs.length ≤ 3 := by omega
    clear F6 N5 F' hI hm hmr eq en eb er hcl hxc hi hdg
    by_cases hq0 : qd = []
    · subst hq0
      cases hqs
      have E1 : (0 : Int) = (x : Int).fdiv y := hfin.1
      k_steps
      unfold Stop
      refine' cspec_at (c_d2i0 _ ps1' c1' o1' ps2' c2' o2' _ _ ?p1 hp1' hp2' ?p4 _ _ _ _ ?h1) ?k1 ?k2 ?k3 ?k4 ?k5 ?kK ?kd ?ku ?_
      (case k1 | k2 | k3 | k4 | k5 => k_asm); (case kK => first | exact rfl | assumption); (case kd => ktr_room); (case ku => ktr_units); (case p1 => (first | exact Spl.cons (Spl.cons Spl.nil) | exact Spl.cons Spl.nil | exact Spl.cons (Spl.cons (Spl.cons Spl.nil)))); (case h1 => k_mem); (case p4 => exact ⟨⟨k_lt_ne.1, k_lt_ne.2.1, k_lt_ne.2.2.1, k_lt_ne.2.2.2⟩, ⟨ho', trivial⟩⟩)
      intro t ps1f c1f o1f ps2f c2f o2f h9 tk9 hp1f hp2f hoff9 F9 N9
      have ho9 := hoff9
      simp only [OffT] at ho9
      simp only [List.cons_append, List.nil_append] at N9
      k_steps
      rename_i DD hh kFF NN l1f kF kN kT kX
      have hE := end_TL N₀ hoff hG kFF NN
      have hof : OffT c1f c2f rest := .of2 (hE.2 54 (tabObj ps1f) (by k_mem)) (hE.2 c1f o1f (by k_mem)) (hE.2 47 (tabObj ps2f) (by k_mem)) (hE.2 c2f o2f (by k_mem))
      have kD := kN _ (.head _)
      exact end_pairT hret hp1f hp2f ⟨by omega, by omega, by omega, by omega⟩ hof kF kD E1 hfin.2.1 hE.1 (by repeat (first | exact List.forall_mem_nil _ | refine List.forall_mem_cons.mpr ⟨kN _ (by k_mem), ?_⟩)) (hE.2 DD _ (.head _))
    · have E1 : digR qd.reverse (((Builtin.Int.intBits y : Nat) : Int)).toNat 0 qd.reverse.length = (x : Int).fdiv y := by rw [digR_all]; exact hfin.1
      have hl1 : 1 ≤ qd.reverse.length ∧ qd.reverse.length ≤ 8 := by
        rw [List.length_reverse]
        have : qd.length ≠ 0 := fun e => hq0 (List.eq_nil_of_length_eq_zero e)
        omega
      have hdb : ∀ d ∈ qd.reverse, 0 ≤ d ∧ d < (2 : Int) ^ (((Builtin.Int.intBits y : Nat) : Int)).toNat := fun d hd => hqb d (List.mem_reverse.mp hd)
      k_steps
      unfold Stop
      refine' cspec_at (c_d2i _ ps1' c1' o1' ps2' c2' o2' _ _ ?p1 hp1' hp2' ?p4 _ _ _ _ qd.reverse _ ?h1 hqr hl1 ⟨hn0, hz40⟩ hdb) ?k1 ?k2 ?k3 ?k4 ?k5 ?kK ?kd ?ku ?_
      (case k1 | k2 | k3 | k4 | k5 => k_asm); (case kK => first | exact rfl | assumption); (case kd => ktr_room); (case ku => ktr_units); (case p1 => (first | exact Spl.cons (Spl.cons Spl.nil) | exact Spl.cons Spl.nil | exact Spl.cons (Spl.cons (Spl.cons Spl.nil)))); (case h1 => k_mem); (case p4 => exact ⟨⟨k_lt_ne.1, k_lt_ne.2.1, k_lt_ne.2.2.1, k_lt_ne.2.2.2⟩, ⟨ho', trivial⟩⟩)
      intro t ps1f c1f o1f ps2f c2f o2f h9 tk9 hp1f hp2f hoff9 F9 N9
      have ho9 := hoff9
      simp only [OffT] at ho9
      simp only [List.cons_append, List.nil_append] at N9
      k_steps
      rename_i DD hh kFF NN l1f kF kN kT kX
      have hE := end_TL N₀ hoff hG kFF NN
      have hof : OffT c1f c2f rest := .of2 (hE.2 54 (tabObj ps1f) (by k_mem)) (hE.2 c1f o1f (by k_mem)) (hE.2 47 (tabObj ps2f) (by k_mem)) (hE.2 c2f o2f (by k_mem))
      have kD := kN _ (.head _)
      exact end_pairT hret hp1f hp2f ⟨by omega, by omega, by omega, by omega⟩ hof kF kD E1 hfin.2.1 hE.1 (by repeat (first | exact List.forall_mem_nil _ | refine List.forall_mem_cons.mpr ⟨kN _ (by k_mem), ?_⟩)) (hE.2 DD _ (.head _))
  · rintro v r m' nw ⟨qs, R, tR, eq1, ds, qd, V, rfl, hm, hmr, hI⟩ it h tk9 hit F' N'
    have hr0 := hI.hr
    cases hr0
    rename_i d td ds' hr'
    have f0 := dm_fact (r := R) (d := d) (y := y) (Z := (((Builtin.Int.intBits y : Nat) : Int)).toNat) hI.hR (by rw [Int.toNat_natCast]; exact hyl) (hI.hd d (.head _)) hZ1.2
    have g0 : (Builtin.Int.intBits R : Int) + ((Builtin.Int.intBits y : Nat) : Int) ≤ 2 ^ 27 := by have := f0.2.1; rw [Int.toNat_natCast] at this; exact this
    have i0 := f0.1
    have hql : qs.length ≤ 3 := by
      have h1 := IntsAre.length hI.hq
      have h2 := hI.hk
      simp only [List.length_cons] at h2
      omega
    have F2 := Fr.congrD F' (m' := fun z => if z = Str.ofString "a_digit" then some (.int d td) else if z = Str.ofString "q_digits" then some (.ref Qa) else if z = Str.ofString "n" then some (.int ((Builtin.Int.intBits y : Nat) : Int) t2) else if z = Str.ofString "b" then some (.int y ty) else if z = Str.ofString "r" then some (.int R tR) else m' z) (fun z => by
      by_cases q : z = Str.ofString "a_digit"
      · rw [if_pos q, if_pos q]
      · rw [if_neg q, if_neg q]; exact chainD hm eq en eb hmr z)
    clear F6 N5 F'
    k_steps
    unfold Stop
    rename Fr _ _ _ _ => FZ
    rename News _ _ _ _ => NZ
    rw [show ∀ v : Value, qs.toArray.push v = (qs ++ [v]).toArray from fun v => by simp] at NZ
    obtain ⟨tq, hmq⟩ : ∃ tq, (Qa, PySem.W.listOf (qs ++ [Value.int ((R * 2 ^ (((Builtin.Int.intBits y : Nat) : Int)).toNat + d).fdiv y) tq]).toArray (eq1 + 1)) ∈ _ := ⟨_, mem_of NZ (by k_mem)⟩
    refine UnrEnd.intro FZ NZ ((Qa, PySem.W.listOf (qs ++ [Value.int ((R * 2 ^ (((Builtin.Int.intBits y : Nat) : Int)).toNat + d).fdiv y) tq]).toArray (eq1 + 1)) :: (D, PySem.W.listOf vs.toArray ep) :: TL ps1' c1' o1' ps2' c2' o2') ?_ ?_ ⟨.tail _ (.head _), qs ++ [Value.int ((R * 2 ^ (((Builtin.Int.intBits y : Nat) : Int)).toNat + d).fdiv y) tq], _, _, eq1 + 1, ds', _, _, rfl, fun z hz => ?_, rfl, hI.step (by rw [Int.toNat_natCast]; exact hyl) hZ1.2⟩
    · repeat (first | exact List.forall_mem_nil _ | refine List.forall_mem_cons.mpr ⟨by (first | exact hmq | k_mem), ?_⟩)
    · repeat (first | exact List.forall_mem_nil _ | refine List.forall_mem_cons.mpr ⟨by k_ne, ?_⟩)
    · have hz0 := hz
      unfold LocD at hz
      simp only [not_or] at hz
      have key := (chainD hm eq en eb hmr z).symm.trans (hm z hz0)
      simp only [hz.1, hz.2.1, hz.2.2, if_false]
      simp only [hz.2.2, if_false] at key
      exact key
  · exact ⟨[], 0, t1, 0, (digL x (((Builtin.Int.intBits y : Nat) : Int)).toNat).reverse, [], 0, rfl, fun _ _ => rfl, er, { hr := IntsAre.rev hi, hq := .nil, hd := fun d hd => digs_bd _ _ _ d (List.mem_reverse.mp hd), hqb := fun d hd => (nomatch hd), hR := ⟨Int.le_refl 0, by omega⟩, hk := (by rw [List.length_reverse, hcl]; exact Nat.zero_add _), hV := (by simp [digV]), hx := (by rw [Int.zero_mul, Int.zero_add, List.reverse_reverse]; exact digV_digs _ _ _ hxc) }⟩

end Mine
end
section
example : True := by (w_top off; trivial)
example : True := by (k_with_none; trivial)
example : True := by
  k_with "call builtin:min" => (k_here; (with_reducible show wpAny _ _ (call (Value.builtin _) [Value.int _ _, Value.int _ _, Value.int _ _]) _ _ _); k_dflt (refine' min3_N ?k0K9 ?k1K9 ?k2K9 ?_; (case k0K9 => rfl); (case k1K9 => k_asm); (case k2K9 => k_asm)); intro h' tk tok F' N'; revert h' tk tok F' N'; intro _ _ _ _ _)
  k_with "call builtin:max" => (k_here; (with_reducible show wpAny _ _ (call (Value.builtin _) [Value.int _ _, Value.int _ _, Value.int _ _]) _ _ _); k_dflt (refine' max3_N ?k0K9 ?k1K9 ?k2K9 ?_; (case k0K9 => rfl); (case k1K9 => k_asm); (case k2K9 => k_asm)); intro h' tk tok F' N'; revert h' tk tok F' N'; intro _ _ _ _ _)
  k_with "binaryOp Div int int" => (k_here; refine div_small (by omega) (by omega) ?_)
  k_with "subscriptTail" => (k_here; (with_reducible show wpAny _ _ (subscriptTail _ _ (Value.ref _) (Value.int _ _)) _ _ _); k_dflt (first
      | (refine' tup_item ?NK9 ?mK9 ?aK9 ?bK9 ?cK9 ?dK9 ?_ ?eK9; (case NK9 => k_asm); (case mK9 => k_mem); (case aK9 => decide); (case bK9 => decide); (case cK9 => rfl); (case dK9 => rfl); (case eK9 => with_unfolding_all rfl); k_whole)
      | (refine' lst_item ?NK9 ?mK9 ?aK9 ?bK9 ?cK9 ?_ ?eK9; (case NK9 => k_asm); (case mK9 => k_mem); (case aK9 => decide); (case bK9 => decide); (case cK9 => rfl); (case eK9 => with_unfolding_all rfl); k_whole)
      | (refine' lst_itemN ?NK9 ?mK9 ?aK9 ?bK9 ?cK9 ?dK9 ?_ ?eK9; (case NK9 => k_asm); (case mK9 => k_mem); (case aK9 => decide); (case bK9 => decide); (case cK9 => decide); (case dK9 => rfl); (case eK9 => with_unfolding_all rfl); k_whole)))
  trivial
open PySem PySem.W PyProof.Rows PySem.Calls PySem.Spec
namespace Mine
theorem CSpec.mono {w : World} {c c' : Nat} {f : Addr} {vs : List Value} {l : List (Addr × Obj)} {R : Heap → Addr → (Str → Option Value) → Shared → (Value → Shared → Prop) → Prop} (hc : c ≤ c') (h : CSpec w c f vs l R) : CSpec w c' f vs l R :=
  fun loose mean mg mb dp un gd cn cs a ccd cl outer A₀ base h₀ L m s Q E hB F X N T hk hd hu hret => h loose mean mg mb dp un gd cn cs a ccd cl outer A₀ base h₀ L m s Q E hB F X N T hk (by omega) (by omega) hret
theorem c_dmpI (w : World) (ps1 : Array Value) (c1 : Addr) (o1 : Obj) (ps2 : Array Value) (c2 : Addr) (o2 : Obj) (lw rest : List (Addr × Obj)) (hsp : Spl (TL ps1 c1 o1 ps2 c2 o2) lw rest) (hp1 : TabP 54 48 4 q1 ps1 c1 o1) (hp2 : TabP 47 33 4 q2 ps2 c2 o2) (hoff : OffT c1 c2 rest)
   (x y : Int) (tx ty : Tok) (hx0 : 0 ≤ x) (hy : 1 ≤ y) (hx : x.toNat < 2 ^ (Builtin.Int.intBits y * 3)) (hz : Builtin.Int.intBits y ≤ 40) :
  CSpec w 62 66 [.int x tx, .int y ty] lw (RTabPair (x.fdiv y) (x.fmod y) rest) := by
  obtain ⟨n, rfl⟩ := Int.eq_ofNat_of_zero_le hx0
  exact c_dmp w ps1 c1 o1 ps2 c2 o2 lw rest hsp hp1 hp2 hoff n y tx ty hy (by simpa using hx) hz

example : True := by
  k_with "call ref" => (k_here; (with_reducible show wpAny _ _ (call (Value.ref 66) [Value.int _ _, Value.int _ _]) _ _ _); k_dflt (refine' cspec_go (c_dmpI _ _ _ _ _ _ _ _ _ ?p1K9 ?p2K9 ?p3K9 ?p4K9 _ _ _ _ ?r0K9 ?r1K9 ?r2K9 ?r3K9) ?_; (case p1K9 => (first | exact sp0 | exact sp1 | exact sp2 | exact sp3 | exact sp4 | exact sp5 | exact sp6 | exact sp7 | exact sp8 | exact sp9 | exact sp10 | exact sp11 | exact sp12 | exact sp13)); (case p2K9 => assumption); (case p3K9 => assumption); (case p4K9 => (repeat' (first | exact trivial | assumption | refine And.intro ?_ ?_ | (dsimp only; omega)))); (case r0K9 => first | assumption | omega); (case r1K9 => first | assumption | omega); (case r2K9 => first | assumption | omega); (case r3K9 => first | assumption | omega)); intro D t1 t2 n ps1 c1 o1 ps2 c2 o2 h' tk' hp1 hp2 hoff F' N' hne; have ho9 := hoff; (simp only [OffT, List.cons_append, List.nil_append] at ho9); (try simp only [List.cons_append, List.nil_append] at N'); revert D t1 t2 n ps1 c1 o1 ps2 c2 o2 h' tk' hp1 hp2 hoff F' N' hne ho9; intro _ _ _ _ _ _ _ _ _ _ _ _ _ _ _ _ _ _ _)
  trivial
theorem c_idmP (w : World) (ps1 : Array Value) (c1 : Addr) (o1 : Obj) (ps2 : Array Value) (c2 : Addr) (o2 : Obj) (lw rest : List (Addr × Obj)) (hsp : Spl (TL ps1 c1 o1 ps2 c2 o2) lw rest) (hp1 : TabP 54 48 4 q1 ps1 c1 o1) (hp2 : TabP 47 33 4 q2 ps2 c2 o2) (hoff : OffT c1 c2 rest)
   (x y : Int) (tx ty : Tok) (hx0 : 0 ≤ x) (hy : 1 ≤ y) (hx : x.toNat < 2 ^ (Builtin.Int.intBits y * 3)) (hz : Builtin.Int.intBits y ≤ 40) :
  CSpec w 64 73 [.int x tx, .int y ty] lw (RTabPair (x.fdiv y) (x.fmod y) rest) := by
  have hlw := hsp.eq
  subst hlw
  intro loose mean mg mb dp un gd cn cs a ccd cl outer A₀ base h₀ L m s Q E hB F X N₀ T hk hd hu hret
  have N : News h₀ L s.heap (TL ps1 c1 o1 ps2 c2 o2) := fun p hp => N₀ p (List.mem_append_right _ hp)
  refine wpAny_call ?_
  k_dflt (refine' code_defG ?k1 ?k2 ?k3 N ?k5 ?kA ?kF ?kK ?k6 ?k7 ?k8 ?k9 ?kB ?_ ?c2 ?c3 ?c4 ?c5; (case kA => exact rfl); (case kF => exact rfl); (case kK => assumption); (case k1 => k_asm); (case k2 => k_asm); (case k3 => k_asm); (case k5 => k_asm); (case k6 => k_is); (case k7 => k_is); (case k8 => ktr_room); (case k9 => exact BindsTo.of_eq rfl); (case c5 => decide); (case kB => exact locs rfl); (case c2 => exact rfl); (case c3 => exact rfl); (case c4 => exact rfl); k_whole; intro gG L' h' FG' F' N' B' X' T' hG; (try dsimp only); (try k_lift B'); (try k_fold))
  k_steps
  (try focus (exfalso; omega))
  · rename_i DD t1 t2 n ps1' c1' o1' ps2' c2' o2' hh tkk hp1' hp2' hoff' kFF NN hne' ho9 kF kN kT kX
    have hE := end_TL N₀ hoff hG kFF NN
    have kD := kN _ (.head _)
    exact end_pairT hret (by assumption) (by assumption) ⟨by omega, by omega, by omega, by omega⟩ (.of2 (hE.2 54 _ (by k_mem)) (hE.2 _ _ (by k_mem)) (hE.2 47 _ (by k_mem)) (hE.2 _ _ (by k_mem))) kF kD rfl rfl hE.1 (by repeat (first | exact List.forall_mem_nil _ | refine List.forall_mem_cons.mpr ⟨kN _ (by k_mem), ?_⟩)) (hE.2 DD _ (.head _))
theorem dm_neg {x y : Int} (hy : 1 ≤ y) : -(-x - 1).fdiv y - 1 = x.fdiv y ∧ y + (-(-x - 1).fmod y - 1) = x.fmod y := by
  simp only [Int.fdiv_eq_ediv_of_nonneg _ (show 0 ≤ y by omega), Int.fmod_eq_emod_of_nonneg _ (show 0 ≤ y by omega)]
  have h := Int.emod_add_mul_ediv (-x - 1) y
  have h1 := Int.emod_nonneg (-x - 1) (show y ≠ 0 by omega)
  have h2 := Int.emod_lt_of_pos (-x - 1) (show 0 < y by omega)
  have e : x = (y - (-x - 1) % y - 1) + (-((-x - 1) / y) - 1) * y := by
    have : (-((-x - 1) / y) - 1) * y = - (y * ((-x - 1) / y)) - y := by rw [Int.sub_mul, Int.neg_mul, Int.one_mul, Int.mul_comm y]
    omega
  have d : x / y = -((-x - 1) / y) - 1 := by
    conv => lhs; rw [e]
    rw [Int.add_mul_ediv_right _ _ (by omega), Int.ediv_eq_zero_of_lt (by omega) (by omega)]; omega
  have r : x % y = y - (-x - 1) % y - 1 := by
    conv => lhs; rw [e]
    rw [Int.add_mul_emod_self_right, Int.emod_eq_of_lt (by omega) (by omega)]
  omega
theorem dm_neg2 {x y : Int} (hy : y ≠ 0) : (-x).fdiv (-y) = x.fdiv y ∧ -(-x).fmod (-y) = x.fmod y := by
  have h1 : (-x).fdiv (-y) = x.fdiv y := Int.neg_fdiv_neg _ _
  refine ⟨h1, ?_⟩
  have e1 := Int.fmod_def (-x) (-y)
  have e2 := Int.fmod_def x y
  rw [h1] at e1
  rw [e1, e2, Int.neg_mul]
  omega

example : True := by
  k_with "call ref" => (k_here; (with_reducible show wpAny _ _ (call (Value.ref 73) [Value.int _ _, Value.int _ _]) _ _ _); k_dflt (refine' cspec_go (c_idmP _ _ _ _ _ _ _ _ _ ?p1K9 ?p2K9 ?p3K9 ?p4K9 _ _ _ _ ?r0K9 ?r1K9 ?r2K9 ?r3K9) ?_; (case p1K9 => (first | exact sp0 | exact sp1 | exact sp2 | exact sp3 | exact sp4 | exact sp5 | exact sp6 | exact sp7 | exact sp8 | exact sp9 | exact sp10 | exact sp11 | exact sp12 | exact sp13)); (case p2K9 => assumption); (case p3K9 => assumption); (case p4K9 => (repeat' (first | exact trivial | assumption | refine And.intro ?_ ?_ | (dsimp only; omega)))); (case r0K9 => first | assumption | omega); (case r1K9 => first | assumption | omega); (case r2K9 => first | assumption | omega); (case r3K9 => first | assumption | omega)); intro D t1 t2 n ps1 c1 o1 ps2 c2 o2 h' tk' hp1 hp2 hoff F' N' hne; have ho9 := hoff; (simp only [OffT, List.cons_append, List.nil_append] at ho9); (try simp only [List.cons_append, List.nil_append] at N'); revert D t1 t2 n ps1 c1 o1 ps2 c2 o2 h' tk' hp1 hp2 hoff F' N' hne ho9; intro _ _ _ _ _ _ _ _ _ _ _ _ _ _ _ _ _ _ _)
  trivial
theorem c_idmN (w : World) (ps1 : Array Value) (c1 : Addr) (o1 : Obj) (ps2 : Array Value) (c2 : Addr) (o2 : Obj) (lw rest : List (Addr × Obj)) (hsp : Spl (TL ps1 c1 o1 ps2 c2 o2) lw rest) (hp1 : TabP 54 48 4 q1 ps1 c1 o1) (hp2 : TabP 47 33 4 q2 ps2 c2 o2) (hoff : OffT c1 c2 rest)
   (x y : Int) (tx ty : Tok) (hx0 : x < 0) (hy : 1 ≤ y) (hx : x.natAbs < 2 ^ (Builtin.Int.intBits y * 3)) (hz : Builtin.Int.intBits y ≤ 40) :
  CSpec w 66 73 [.int x tx, .int y ty] lw (RTabPair (x.fdiv y) (x.fmod y) rest) := by
  have hlw := hsp.eq
  subst hlw
  intro loose mean mg mb dp un gd cn cs a ccd cl outer A₀ base h₀ L m s Q E hB F X N₀ T hk hd hu hret
  have N : News h₀ L s.heap (TL ps1 c1 o1 ps2 c2 o2) := fun p hp => N₀ p (List.mem_append_right _ hp)
  refine wpAny_call ?_
  k_dflt (refine' code_defG ?k1 ?k2 ?k3 N ?k5 ?kA ?kF ?kK ?k6 ?k7 ?k8 ?k9 ?kB ?_ ?c2 ?c3 ?c4 ?c5; (case kA => exact rfl); (case kF => exact rfl); (case kK => assumption); (case k1 => k_asm); (case k2 => k_asm); (case k3 => k_asm); (case k5 => k_asm); (case k6 => k_is); (case k7 => k_is); (case k8 => ktr_room); (case k9 => exact BindsTo.of_eq rfl); (case c5 => decide); (case kB => exact locs rfl); (case c2 => exact rfl); (case c3 => exact rfl); (case c4 => exact rfl); k_whole; intro gG L' h' FG' F' N' B' X' T' hG; (try dsimp only); (try k_lift B'); (try k_fold))
  have hb : ∀ z, Builtin.bitNot z = -z - 1 := fun z => by unfold Builtin.bitNot; omega
  have hx1 : 0 ≤ Builtin.bitNot x := by rw [hb]; omega
  have hx2 : (Builtin.bitNot x).toNat < 2 ^ (Builtin.Int.intBits y * 3) := by rw [hb]; omega
  have hdm := dm_neg (x := x) hy
  rw [← hb x, ← hb, ← hb] at hdm
  k_steps
  (try focus (exfalso; omega))
  · rename_i DD hh kFF NN l1f kF kN kT kX
    have hE := end_TL N₀ hoff hG kFF NN
    have kD := kN _ (.head _)
    exact end_pairT hret (by assumption) (by assumption) ⟨by omega, by omega, by omega, by omega⟩ (.of2 (hE.2 54 _ (by k_mem)) (hE.2 _ _ (by k_mem)) (hE.2 47 _ (by k_mem)) (hE.2 _ _ (by k_mem))) kF kD hdm.1 hdm.2 hE.1 (by repeat (first | exact List.forall_mem_nil _ | refine List.forall_mem_cons.mpr ⟨kN _ (by k_mem), ?_⟩)) (hE.2 DD _ (.head _))

example : True := by
  k_with "call ref" => (k_here; (with_reducible show wpAny _ _ (call (Value.ref 73) [Value.int _ _, Value.int _ _]) _ _ _); k_dflt (refine' cspec_go (c_idmN _ _ _ _ _ _ _ _ _ ?p1K9 ?p2K9 ?p3K9 ?p4K9 _ _ _ _ ?r0K9 ?r1K9 ?r2K9 ?r3K9) ?_; (case p1K9 => (first | exact sp0 | exact sp1 | exact sp2 | exact sp3 | exact sp4 | exact sp5 | exact sp6 | exact sp7 | exact sp8 | exact sp9 | exact sp10 | exact sp11 | exact sp12 | exact sp13)); (case p2K9 => assumption); (case p3K9 => assumption); (case p4K9 => (repeat' (first | exact trivial | assumption | refine And.intro ?_ ?_ | (dsimp only; omega)))); (case r0K9 => first | assumption | omega); (case r1K9 => first | assumption | omega); (case r2K9 => first | assumption | omega); (case r3K9 => first | assumption | omega)); intro D t1 t2 n ps1 c1 o1 ps2 c2 o2 h' tk' hp1 hp2 hoff F' N' hne; have ho9 := hoff; (simp only [OffT, List.cons_append, List.nil_append] at ho9); (try simp only [List.cons_append, List.nil_append] at N'); revert D t1 t2 n ps1 c1 o1 ps2 c2 o2 h' tk' hp1 hp2 hoff F' N' hne ho9; intro _ _ _ _ _ _ _ _ _ _ _ _ _ _ _ _ _ _ _)
  trivial
theorem c_idm (w : World) (ps1 : Array Value) (c1 : Addr) (o1 : Obj) (ps2 : Array Value) (c2 : Addr) (o2 : Obj) (lw rest : List (Addr × Obj)) (hsp : Spl (TL ps1 c1 o1 ps2 c2 o2) lw rest) (hp1 : TabP 54 48 4 q1 ps1 c1 o1) (hp2 : TabP 47 33 4 q2 ps2 c2 o2) (hoff : OffT c1 c2 rest)
   (x y : Int) (tx ty : Tok) (hy : y ≠ 0) (hx : x.natAbs < 2 ^ (Builtin.Int.intBits y * 3)) (hz : Builtin.Int.intBits y ≤ 40) :
  CSpec w 68 73 [.int x tx, .int y ty] lw (RTabPair (x.fdiv y) (x.fmod y) rest) := by
  have hlw := hsp.eq
  subst hlw
  have hib : Builtin.Int.intBits (-y) = Builtin.Int.intBits y := by unfold Builtin.Int.intBits; simp
  rcases Int.lt_or_lt_of_ne hy with hy1 | hy1
  · intro loose mean mg mb dp un gd cn cs a ccd cl outer A₀ base h₀ L m s Q E hB F X N₀ T hk hd hu hret
    have N : News h₀ L s.heap (TL ps1 c1 o1 ps2 c2 o2) := fun p hp => N₀ p (List.mem_append_right _ hp)
    refine wpAny_call ?_
    k_dflt (refine' code_defG ?k1 ?k2 ?k3 N ?k5 ?kA ?kF ?kK ?k6 ?k7 ?k8 ?k9 ?kB ?_ ?c2 ?c3 ?c4 ?c5; (case kA => exact rfl); (case kF => exact rfl); (case kK => assumption); (case k1 => k_asm); (case k2 => k_asm); (case k3 => k_asm); (case k5 => k_asm); (case k6 => k_is); (case k7 => k_is); (case k8 => ktr_room); (case k9 => exact BindsTo.of_eq rfl); (case c5 => decide); (case kB => exact locs rfl); (case c2 => exact rfl); (case c3 => exact rfl); (case c4 => exact rfl); k_whole; intro gG L' h' FG' F' N' B' X' T' hG; (try dsimp only); (try k_lift B'); (try k_fold))
    have hdm := dm_neg2 (x := x) hy
    have hx2 : (-x).natAbs < 2 ^ (Builtin.Int.intBits (-y) * 3) := by rw [hib]; omega
    have hx3 : (-x).toNat < 2 ^ (Builtin.Int.intBits (-y) * 3) := by rw [hib]; omega
    have hx4 : Builtin.Int.intBits (-y) ≤ 40 := by rw [hib]; exact hz
    by_cases hx0 : -x < 0
    · k_steps
      (try focus (exfalso; omega))
      · rename_i DD hh kFF NN l1f kF kN kT kX
        have hE := end_TL N₀ hoff hG kFF NN
        have kD := kN _ (.head _)
        exact end_pairT hret (by assumption) (by assumption) ⟨by omega, by omega, by omega, by omega⟩ (.of2 (hE.2 54 _ (by k_mem)) (hE.2 _ _ (by k_mem)) (hE.2 47 _ (by k_mem)) (hE.2 _ _ (by k_mem))) kF kD hdm.1 hdm.2 hE.1 (by repeat (first | exact List.forall_mem_nil _ | refine List.forall_mem_cons.mpr ⟨kN _ (by k_mem), ?_⟩)) (hE.2 DD _ (.head _))
    · k_steps
      (try focus (exfalso; omega))
      · rename_i DD hh kFF NN l1f kF kN kT kX
        have hE := end_TL N₀ hoff hG kFF NN
        have kD := kN _ (.head _)
        exact end_pairT hret (by assumption) (by assumption) ⟨by omega, by omega, by omega, by omega⟩ (.of2 (hE.2 54 _ (by k_mem)) (hE.2 _ _ (by k_mem)) (hE.2 47 _ (by k_mem)) (hE.2 _ _ (by k_mem))) kF kD hdm.1 hdm.2 hE.1 (by repeat (first | exact List.forall_mem_nil _ | refine List.forall_mem_cons.mpr ⟨kN _ (by k_mem), ?_⟩)) (hE.2 DD _ (.head _))
  · by_cases hx0 : x < 0
    · exact CSpec.mono (by decide) (c_idmN w ps1 c1 o1 ps2 c2 o2 _ rest hsp hp1 hp2 hoff x y tx ty hx0 (by omega) hx hz)
    · exact CSpec.mono (by decide) (c_idmP w ps1 c1 o1 ps2 c2 o2 _ rest hsp hp1 hp2 hoff x y tx ty (by omega) (by omega) (by omega) hz)

end Mine
end
section
example : True := by (w_top off; trivial)
example : True := by (k_with_none; trivial)
example : True := by
  k_with "call builtin:min" => (k_here; (with_reducible show wpAny _ _ (call (Value.builtin _) [Value.int _ _, Value.int _ _, Value.int _ _]) _ _ _); k_dflt (refine' min3_N ?k0K9 ?k1K9 ?k2K9 ?_; (case k0K9 => rfl); (case k1K9 => k_asm); (case k2K9 => k_asm)); intro h' tk tok F' N'; revert h' tk tok F' N'; intro _ _ _ _ _)
  k_with "call builtin:max" => (k_here; (with_reducible show wpAny _ _ (call (Value.builtin _) [Value.int _ _, Value.int _ _, Value.int _ _]) _ _ _); k_dflt (refine' max3_N ?k0K9 ?k1K9 ?k2K9 ?_; (case k0K9 => rfl); (case k1K9 => k_asm); (case k2K9 => k_asm)); intro h' tk tok F' N'; revert h' tk tok F' N'; intro _ _ _ _ _)
  k_with "binaryOp Div int int" => (k_here; refine div_small (by omega) (by omega) ?_)
  k_with "subscriptTail" => (k_here; (with_reducible show wpAny _ _ (subscriptTail _ _ (Value.ref _) (Value.int _ _)) _ _ _); k_dflt (first
      | (refine' tup_item ?NK9 ?mK9 ?aK9 ?bK9 ?cK9 ?dK9 ?_ ?eK9; (case NK9 => k_asm); (case mK9 => k_mem); (case aK9 => decide); (case bK9 => decide); (case cK9 => rfl); (case dK9 => rfl); (case eK9 => with_unfolding_all rfl); k_whole)
      | (refine' lst_item ?NK9 ?mK9 ?aK9 ?bK9 ?cK9 ?_ ?eK9; (case NK9 => k_asm); (case mK9 => k_mem); (case aK9 => decide); (case bK9 => decide); (case cK9 => rfl); (case eK9 => with_unfolding_all rfl); k_whole)
      | (refine' lst_itemN ?NK9 ?mK9 ?aK9 ?bK9 ?cK9 ?dK9 ?_ ?eK9; (case NK9 => k_asm); (case mK9 => k_mem); (case aK9 => decide); (case bK9 => decide); (case cK9 => decide); (case dK9 => rfl); (case eK9 => with_unfolding_all rfl); k_whole)))
  trivial
open PySem PySem.W PyProof.Rows PySem.Calls PySem.Spec
namespace Mine

example : True := by
  k_with "exec While Compare" => (refine Stop.mk ?_)
  k_with "WhlIf" => first | (refine WhlIf.yes (by simp; omega) ?_) | (refine WhlIf.no (by simp) ?_)
  k_with "call ref" => (k_here; (with_reducible show wpAny _ _ (call (Value.ref 73) [Value.int _ _, Value.int _ _]) _ _ _); k_dflt (refine' cspec_go (c_idm _ _ _ _ _ _ _ _ _ ?p1K9 ?p2K9 ?p3K9 ?p4K9 _ _ _ _ ?r0K9 ?r1K9 ?r2K9) ?_; (case p1K9 => (first | exact sp0 | exact sp1 | exact sp2 | exact sp3 | exact sp4 | exact sp5 | exact sp6 | exact sp7 | exact sp8 | exact sp9 | exact sp10 | exact sp11 | exact sp12 | exact sp13)); (case p2K9 => assumption); (case p3K9 => assumption); (case p4K9 => (repeat' (first | exact trivial | assumption | refine And.intro ?_ ?_ | (dsimp only; omega)))); (case r0K9 => first | assumption | omega); (case r1K9 => first | assumption | omega); (case r2K9 => first | assumption | omega)); intro D t1 t2 n ps1 c1 o1 ps2 c2 o2 h' tk' hp1 hp2 hoff F' N' hne; have ho9 := hoff; (simp only [OffT, List.cons_append, List.nil_append] at ho9); (try simp only [List.cons_append, List.nil_append] at N'); revert D t1 t2 n ps1 c1 o1 ps2 c2 o2 h' tk' hp1 hp2 hoff F' N' hne ho9; intro _ _ _ _ _ _ _ _ _ _ _ _ _ _ _ _ _ _ _)
  trivial
noncomputable abbrev sA : Str := Str.ofString "a"
noncomputable abbrev sB : Str := Str.ofString "b"
theorem m_ab {m : Str → Option Value} {u v : Value} (h1 : m sA = some u) (h2 : m sB = some v) (h3 : ∀ z, z ≠ sA → z ≠ sB → m z = none) : m = fun z => if z = sA then some u else if z = sB then some v else none := by
  funext z
  by_cases a : z = sA
  · rw [a, h1]; simp
  · by_cases b : z = sB
    · rw [b, h2]; simp [show (sB = sA) = False from by decide]
    · rw [h3 z a b]; simp [a, b]
theorem common_fin : ∀ a b : Fin 9, b ≠ 4 → ((a.val : Int) - 4).natAbs < 2 ^ (Builtin.Int.intBits ((b.val : Int) - 4) * 3) ∧ Builtin.Int.intBits ((b.val : Int) - 4) ≤ 40 ∧ (-4 ≤ ((a.val : Int) - 4).fmod ((b.val : Int) - 4) ∧ ((a.val : Int) - 4).fmod ((b.val : Int) - 4) ≤ 4) ∧ (((a.val : Int) - 4).fmod ((b.val : Int) - 4)).natAbs < ((b.val : Int) - 4).natAbs ∧ Int.gcd ((b.val : Int) - 4) (((a.val : Int) - 4).fmod ((b.val : Int) - 4)) = Int.gcd ((a.val : Int) - 4) ((b.val : Int) - 4) := by decide +kernel
theorem common_fact {a b : Int} (ha : -4 ≤ a ∧ a ≤ 4) (hb : -4 ≤ b ∧ b ≤ 4) (h0 : b ≠ 0) : a.natAbs < 2 ^ (Builtin.Int.intBits b * 3) ∧ Builtin.Int.intBits b ≤ 40 ∧ (-4 ≤ a.fmod b ∧ a.fmod b ≤ 4) ∧ (a.fmod b).natAbs < b.natAbs ∧ Int.gcd b (a.fmod b) = Int.gcd a b := by
  have h := common_fin ⟨(a + 4).toNat, by omega⟩ ⟨(b + 4).toNat, by omega⟩ (by intro e; have := congrArg Fin.val e; simp at this; omega)
  simp only at h
  rw [show (((a + 4).toNat : Nat) : Int) - 4 = a by omega, show (((b + 4).toNat : Nat) : Int) - 4 = b by omega] at h
  exact h
theorem c_common (w : World) (ps1 : Array Value) (c1 : Addr) (o1 : Obj) (ps2 : Array Value) (c2 : Addr) (o2 : Obj) (lw rest : List (Addr × Obj)) (hsp : Spl (TL ps1 c1 o1 ps2 c2 o2) lw rest) (hp1 : TabP 54 48 4 q1 ps1 c1 o1) (hp2 : TabP 47 33 4 q2 ps2 c2 o2) (hoff : OffT c1 c2 rest)
   (x y : Int) (tx ty : Tok) (hx : -4 ≤ x ∧ x ≤ 4) (hy : -4 ≤ y ∧ y ≤ 4) :
  CSpec w 72 125 [.int x tx, .int y ty] lw (RTab (fun t => .int (Int.gcd x y : Int) t) rest) := by
  have hlw := hsp.eq
  subst hlw
  intro loose mean mg mb dp un gd cn cs a ccd cl outer A₀ base h₀ L m s Q E hB F X N₀ T hk hd hu hret
  have N : News h₀ L s.heap (TL ps1 c1 o1 ps2 c2 o2) := fun p hp => N₀ p (List.mem_append_right _ hp)
  refine wpAny_call ?_
  k_dflt (refine' code_defG ?k1 ?k2 ?k3 N ?k5 ?kA ?kF ?kK ?k6 ?k7 ?k8 ?k9 ?kB ?_ ?c2 ?c3 ?c4 ?c5; (case kA => exact rfl); (case kF => exact rfl); (case kK => assumption); (case k1 => k_asm); (case k2 => k_asm); (case k3 => k_asm); (case k5 => k_asm); (case k6 => k_is); (case k7 => k_is); (case k8 => ktr_room); (case k9 => exact BindsTo.of_eq rfl); (case c5 => decide); (case kB => exact locs rfl); (case c2 => exact rfl); (case c3 => exact rfl); (case c4 => exact rfl); k_whole; intro gG L' h' FG' F' N' B' X' T' hG; (try dsimp only); (try k_lift B'); (try k_fold))
  k_steps
  unfold Stop
  refine While_inv2 (fun n m' news' => ∃ (a b : Int) (ta tb : Tok) (ps1 : Array Value) (c1 : Addr) (o1 : Obj) (ps2 : Array Value) (c2 : Addr) (o2 : Obj), m' sA = some (.int a ta) ∧ m' sB = some (.int b tb) ∧ (∀ z, z ≠ sA → z ≠ sB → m' z = none) ∧ news' = TL ps1 c1 o1 ps2 c2 o2 ∧ TabP 54 48 4 q1 ps1 c1 o1 ∧ TabP 47 33 4 q2 ps2 c2 o2 ∧
    (-4 ≤ a ∧ a ≤ 4) ∧ (-4 ≤ b ∧ b ≤ 4) ∧ Int.gcd a b = Int.gcd x y ∧ n = b.natAbs) F' N' ⟨x, y, tx, ty, ps1, c1, o1, ps2, c2, o2, by with_unfolding_all rfl, by with_unfolding_all rfl, ?_, rfl, hp1, hp2, hx, hy, rfl, rfl⟩ ?_ (by first | passes_own | with_unfolding_all passes_own)
  · intro z h1 h2
    have h1' : z ≠ Str.ofString "a" := h1
    have h2' : z ≠ Str.ofString "b" := h2
    with_unfolding_all show List.lookup z [(Str.ofString "b", Value.int y ty), (Str.ofString "a", Value.int x tx)] = none
    rw [List.lookup, beq_eq_false_iff_ne.mpr h2']
    show List.lookup z [(Str.ofString "a", Value.int x tx)] = none
    rw [List.lookup, beq_eq_false_iff_ne.mpr h1']
    rfl
  · rintro n m₁ news₁ h₁ tk₁ F₁ N₁ ⟨a', b', ta, tb, ps1', c1', o1', ps2', c2', o2', hm1, hm2, hm3, rfl, hp1', hp2', ha, hb, hgcd, rfl⟩
    obtain rfl := m_ab hm1 hm2 hm3
    clear N' F' hm1 hm2 hm3
    show wpAny _ _ _ (fun b s₂ => WhlIf b _ _) _ _
    by_cases hb0 : b' = 0
    · subst hb0
      k_steps
      rename_i u tkk kF kN kT kX
      have hE := end_TL N₀ hoff hG F₁ N₁
      have e : (Int.gcd x y : Int) = if a' < 0 then -a' else a' := by
        rw [← hgcd, Int.gcd_zero_right]; split <;> omega
      rw [e] at hret
      exact hret _ _ _ _ _ _ _ _ _ hp1' hp2' (.of2 (hE.2 54 _ (by k_mem)) (hE.2 _ _ (by k_mem)) (hE.2 47 _ (by k_mem)) (hE.2 _ _ (by k_mem))) kF (fun p hp => by
        rcases List.mem_append.mp hp with hp | hp
        · exact hE.1 p hp
        · exact kN p hp)
    · have hcf := common_fact ha hb hb0
      have hcf1 := hcf.1
      have hcf2 := hcf.2.1
      k_steps
      rename_i tks D t1 t2 n ps1'' c1'' o1'' ps2'' c2'' o2'' hA tkA hp1'' hp2'' hoff'' hne'' ho9 DD hB l1x h2 h3 h4 FF NN
      refine ⟨_, _, _, TL ps1'' c1'' o1'' ps2'' c2'' o2'', _, rfl, FF, fun p hp => NN p (.tail _ (.tail _ hp)), hcf.2.2.2.1, b', a'.fmod b', tb, t2, ps1'', c1'', o1'', ps2'', c2'', o2'', by with_unfolding_all rfl, by with_unfolding_all rfl, ?_, rfl, hp1'', hp2'', hb, hcf.2.2.1, hcf.2.2.2.2.trans hgcd, rfl⟩
      intro z h1 h2
      have h1' : z ≠ Str.ofString "a" := h1
      have h2' : z ≠ Str.ofString "b" := h2
      simp [h1', h2']

end Mine
end
section
example : True := by (w_top off; trivial)
example : True := by (k_with_none; trivial)
example : True := by
  k_with "call builtin:min" => (k_here; (with_reducible show wpAny _ _ (call (Value.builtin _) [Value.int _ _, Value.int _ _, Value.int _ _]) _ _ _); k_dflt (refine' min3_N ?k0K9 ?k1K9 ?k2K9 ?_; (case k0K9 => rfl); (case k1K9 => k_asm); (case k2K9 => k_asm)); intro h' tk tok F' N'; revert h' tk tok F' N'; intro _ _ _ _ _)
  k_with "call builtin:max" => (k_here; (with_reducible show wpAny _ _ (call (Value.builtin _) [Value.int _ _, Value.int _ _, Value.int _ _]) _ _ _); k_dflt (refine' max3_N ?k0K9 ?k1K9 ?k2K9 ?_; (case k0K9 => rfl); (case k1K9 => k_asm); (case k2K9 => k_asm)); intro h' tk tok F' N'; revert h' tk tok F' N'; intro _ _ _ _ _)
  k_with "binaryOp Div int int" => (k_here; refine div_small (by omega) (by omega) ?_)
  k_with "subscriptTail" => (k_here; (with_reducible show wpAny _ _ (subscriptTail _ _ (Value.ref _) (Value.int _ _)) _ _ _); k_dflt (first
      | (refine' tup_item ?NK9 ?mK9 ?aK9 ?bK9 ?cK9 ?dK9 ?_ ?eK9; (case NK9 => k_asm); (case mK9 => k_mem); (case aK9 => decide); (case bK9 => decide); (case cK9 => rfl); (case dK9 => rfl); (case eK9 => with_unfolding_all rfl); k_whole)
      | (refine' lst_item ?NK9 ?mK9 ?aK9 ?bK9 ?cK9 ?_ ?eK9; (case NK9 => k_asm); (case mK9 => k_mem); (case aK9 => decide); (case bK9 => decide); (case cK9 => rfl); (case eK9 => with_unfolding_all rfl); k_whole)
      | (refine' lst_itemN ?NK9 ?mK9 ?aK9 ?bK9 ?cK9 ?dK9 ?_ ?eK9; (case NK9 => k_asm); (case mK9 => k_mem); (case aK9 => decide); (case bK9 => decide); (case cK9 => decide); (case dK9 => rfl); (case eK9 => with_unfolding_all rfl); k_whole)))
  trivial
open PySem PySem.W PyProof.Rows PySem.Calls PySem.Spec
namespace Mine

example : True := by
  k_with "call ref" => (k_here; (with_reducible show wpAny _ _ (call (Value.ref 125) [Value.int _ _, Value.int _ _]) _ _ _); k_dflt (refine' cspec_go (c_common _ _ _ _ _ _ _ _ _ ?p1K9 ?p2K9 ?p3K9 ?p4K9 _ _ _ _ ?r0K9 ?r1K9) ?_; (case p1K9 => (first | exact sp0 | exact sp1 | exact sp2 | exact sp3 | exact sp4 | exact sp5 | exact sp6 | exact sp7 | exact sp8 | exact sp9 | exact sp10 | exact sp11 | exact sp12 | exact sp13)); (case p2K9 => with_reducible assumption); (case p3K9 => with_reducible assumption); (case p4K9 => (rename OffT _ _ _ => hO9); (first | exact hO9 | exact ⟨⟨by (try dsimp only); omega, by (try dsimp only); omega, by (try dsimp only); omega, by (try dsimp only); omega⟩, hO9⟩)); (case r0K9 => omega); (case r1K9 => omega)); intro t ps1 c1 o1 ps2 c2 o2 h' tk' hp1 hp2 hoff F' N'; (simp only [List.cons_append, List.nil_append] at N'); (have ho9 := hoff.1); (dsimp only at ho9); revert t ps1 c1 o1 ps2 c2 o2 h' tk' hp1 hp2 hoff F' N' ho9; intro _ _ _ _ _ _ _ _ _ _ _ _ _ _ _)
  trivial
noncomputable def rimF (r1 u1 r2 u2 r3 u3 : Int) : Int := 0 + (Int.gcd (r1 - r3) (u1 - u3) : Int) + (Int.gcd (r2 - r1) (u2 - u1) : Int) + (Int.gcd (r3 - r2) (u3 - u2) : Int)
theorem end_intT {v u : Int} {rest : List (Addr × Obj)} {h₀ : Heap} {L : Addr} {m : Str → Option Value} {s : Shared} {Q : Value → Shared → Prop} {t : Tok} {ps1 : Array Value} {c1 : Addr} {o1 : Obj} {ps2 : Array Value} {c2 : Addr} {o2 : Obj} {h' : Heap} {tk' : Nat}
    (hret : RTab (fun t => .int v t) rest h₀ L m s Q) (h1 : TabP 54 48 4 q1 ps1 c1 o1) (h2 : TabP 47 33 4 q2 ps2 c2 o2) (hof : OffT c1 c2 rest) (kF : Fr h₀ L h' m) (hr : News h₀ L h' rest) (hT : News h₀ L h' (TL ps1 c1 o1 ps2 c2 o2)) (e : v = u) : Q (.int u t) { s with heap := h', toks := tk' } := by
  subst e
  exact hret t _ _ _ _ _ _ _ _ h1 h2 hof kF fun p hp => by
    rcases List.mem_append.mp hp with hp | hp
    · exact hr p hp
    · exact hT p hp
theorem c_rim (w : World) (ps1 : Array Value) (c1 : Addr) (o1 : Obj) (ps2 : Array Value) (c2 : Addr) (o2 : Obj) (lw rest : List (Addr × Obj)) (hsp : Spl (TL ps1 c1 o1 ps2 c2 o2) lw rest) (hp1 : TabP 54 48 4 q1 ps1 c1 o1) (hp2 : TabP 47 33 4 q2 ps2 c2 o2) (hoff : OffT c1 c2 rest)
   (r1 u1 r2 u2 r3 u3 : Int) (s1 v1 s2 v2 s3 v3 : Tok) (l a1 a2 a3 : Addr) (n n1 n2 n3 : Nat)
   (hl : (l, list3 (.ref a1) (.ref a2) (.ref a3) n) ∈ rest) (h1 : (a1, tup2 (.int r1 s1) (.int u1 v1) n1) ∈ rest) (h2 : (a2, tup2 (.int r2 s2) (.int u2 v2) n2) ∈ rest) (h3 : (a3, tup2 (.int r3 s3) (.int u3 v3) n3) ∈ rest)
   (hr1 : 0 ≤ r1 ∧ r1 ≤ 4) (hu1 : 0 ≤ u1 ∧ u1 ≤ 4) (hr2 : 0 ≤ r2 ∧ r2 ≤ 4) (hu2 : 0 ≤ u2 ∧ u2 ≤ 4) (hr3 : 0 ≤ r3 ∧ r3 ≤ 4) (hu3 : 0 ≤ u3 ∧ u3 ≤ 4) :
  CSpec w 76 132 [.ref l] lw (RTab (fun t => .int (rimF r1 u1 r2 u2 r3 u3) t) rest) := by
  have hlw := hsp.eq
  subst hlw
  intro loose mean mg mb dp un gd cn cs a ccd cl outer A₀ base h₀ L m s Q E hB F X N₀ T hk hd hu hret
  have N : News h₀ L s.heap [(l, list3 (.ref a1) (.ref a2) (.ref a3) n), (a1, tup2 (.int r1 s1) (.int u1 v1) n1), (a2, tup2 (.int r2 s2) (.int u2 v2) n2), (a3, tup2 (.int r3 s3) (.int u3 v3) n3), (54, tabObj ps1), (c1, o1), (47, tabObj ps2), (c2, o2)] := by
    intro p hp
    rcases List.mem_append.mp (show p ∈ [(l, list3 (.ref a1) (.ref a2) (.ref a3) n), (a1, tup2 (.int r1 s1) (.int u1 v1) n1), (a2, tup2 (.int r2 s2) (.int u2 v2) n2), (a3, tup2 (.int r3 s3) (.int u3 v3) n3)] ++ TL ps1 c1 o1 ps2 c2 o2 from hp) with hp | hp
    · simp only [List.mem_cons, List.mem_nil_iff, or_false] at hp
      rcases hp with rfl | rfl | rfl | rfl
      · exact N₀ _ (List.mem_append_left _ hl)
      · exact N₀ _ (List.mem_append_left _ h1)
      · exact N₀ _ (List.mem_append_left _ h2)
      · exact N₀ _ (List.mem_append_left _ h3)
    · exact N₀ _ (List.mem_append_right _ hp)
  have hoW9 : OffT c1 c2 [(l, list3 (.ref a1) (.ref a2) (.ref a3) n), (a1, tup2 (.int r1 s1) (.int u1 v1) n1), (a2, tup2 (.int r2 s2) (.int u2 v2) n2), (a3, tup2 (.int r3 s3) (.int u3 v3) n3)] := ⟨hoff.mem _ hl, hoff.mem _ h1, hoff.mem _ h2, hoff.mem _ h3, trivial⟩
  refine wpAny_call ?_
  k_dflt (refine' code_defG ?k1 ?k2 ?k3 N ?k5 ?kA ?kF ?kK ?k6 ?k7 ?k8 ?k9 ?kB ?_ ?c2 ?c3 ?c4 ?c5; (case kA => exact rfl); (case kF => exact rfl); (case kK => assumption); (case k1 => k_asm); (case k2 => k_asm); (case k3 => k_asm); (case k5 => k_asm); (case k6 => k_is); (case k7 => k_is); (case k8 => ktr_room); (case k9 => exact BindsTo.of_eq rfl); (case c5 => decide); (case kB => exact locs rfl); (case c2 => exact rfl); (case c3 => exact rfl); (case c4 => exact rfl); k_whole; intro gG L' h' FG' F' N' B' X' T' hG; (try dsimp only); (try k_lift B'); (try k_fold))
  k_steps
  rename_i t ps1' c1' o1' ps2' c2' o2' hA tkA hp1' hp2' hoff' ho8' hB FB NB hC tkC FC NC kF kN kT kX
  have ho9' := hoff'
  simp only [OffT] at ho9'
  have hE := end_TLW (W := [(l, list3 (.ref a1) (.ref a2) (.ref a3) n), (a1, tup2 (.int r1 s1) (.int u1 v1) n1), (a2, tup2 (.int r2 s2) (.int u2 v2) n2), (a3, tup2 (.int r3 s3) (.int u3 v3) n3)]) N₀ hoff (fun p hp => by
    simp only [List.mem_cons, List.mem_nil_iff, or_false] at hp
    rcases hp with rfl | rfl | rfl | rfl <;> assumption) hG FC NC kN (fun p hp => by
    simp only [List.mem_cons, List.mem_nil_iff, or_false] at hp
    rcases hp with rfl | rfl | rfl | rfl <;> k_mem)
  have hoW : ∀ p ∈ [(l, list3 (.ref a1) (.ref a2) (.ref a3) n), (a1, tup2 (.int r1 s1) (.int u1 v1) n1), (a2, tup2 (.int r2 s2) (.int u2 v2) n2), (a3, tup2 (.int r3 s3) (.int u3 v3) n3)], p.1 ≠ 54 ∧ p.1 ≠ c1' ∧ p.1 ≠ 47 ∧ p.1 ≠ c2' := OffT.mem (l := [(l, list3 (.ref a1) (.ref a2) (.ref a3) n), (a1, tup2 (.int r1 s1) (.int u1 v1) n1), (a2, tup2 (.int r2 s2) (.int u2 v2) n2), (a3, tup2 (.int r3 s3) (.int u3 v3) n3)]) (by
    refine ⟨?_, ?_, ?_, ?_, trivial⟩ <;> first | exact ho9'.2.1 | exact ho9'.2.2.1 | exact ho9'.2.2.2.1 | exact ho9'.2.2.2.2.1)
  exact end_intT hret hp1' hp2' (.of2 (hE.2 54 (tabObj ps1') (by k_mem) fun p hp => (hoW p hp).1) (hE.2 c1' o1' (by k_mem) fun p hp => (hoW p hp).2.1) (hE.2 47 (tabObj ps2') (by k_mem) fun p hp => (hoW p hp).2.2.1) (hE.2 c2' o2' (by k_mem) fun p hp => (hoW p hp).2.2.2)) kF hE.1 (by repeat (first | exact List.forall_mem_nil _ | refine List.forall_mem_cons.mpr ⟨kN _ (by k_mem), ?_⟩)) rfl

end Mine
end
section
example : True := by (w_top off; trivial)
example : True := by (k_with_none; trivial)
example : True := by
  k_with "call builtin:min" => (k_here; (with_reducible show wpAny _ _ (call (Value.builtin _) [Value.int _ _, Value.int _ _, Value.int _ _]) _ _ _); k_dflt (refine' min3_N ?k0K9 ?k1K9 ?k2K9 ?_; (case k0K9 => rfl); (case k1K9 => k_asm); (case k2K9 => k_asm)); intro h' tk tok F' N'; revert h' tk tok F' N'; intro _ _ _ _ _)
  k_with "call builtin:max" => (k_here; (with_reducible show wpAny _ _ (call (Value.builtin _) [Value.int _ _, Value.int _ _, Value.int _ _]) _ _ _); k_dflt (refine' max3_N ?k0K9 ?k1K9 ?k2K9 ?_; (case k0K9 => rfl); (case k1K9 => k_asm); (case k2K9 => k_asm)); intro h' tk tok F' N'; revert h' tk tok F' N'; intro _ _ _ _ _)
  k_with "binaryOp Div int int" => (k_here; refine div_small (by omega) (by omega) ?_)
  k_with "subscriptTail" => (k_here; (with_reducible show wpAny _ _ (subscriptTail _ _ (Value.ref _) (Value.int _ _)) _ _ _); k_dflt (first
      | (refine' tup_item ?NK9 ?mK9 ?aK9 ?bK9 ?cK9 ?dK9 ?_ ?eK9; (case NK9 => k_asm); (case mK9 => k_mem); (case aK9 => decide); (case bK9 => decide); (case cK9 => rfl); (case dK9 => rfl); (case eK9 => with_unfolding_all rfl); k_whole)
      | (refine' lst_item ?NK9 ?mK9 ?aK9 ?bK9 ?cK9 ?_ ?eK9; (case NK9 => k_asm); (case mK9 => k_mem); (case aK9 => decide); (case bK9 => decide); (case cK9 => rfl); (case eK9 => with_unfolding_all rfl); k_whole)
      | (refine' lst_itemN ?NK9 ?mK9 ?aK9 ?bK9 ?cK9 ?dK9 ?_ ?eK9; (case NK9 => k_asm); (case mK9 => k_mem); (case aK9 => decide); (case bK9 => decide); (case cK9 => decide); (case dK9 => rfl); (case eK9 => with_unfolding_all rfl); k_whole)))
  trivial
open PySem PySem.W PyProof.Rows PySem.Calls PySem.Spec
namespace Mine
theorem c_i2dI (w : World) (ps1 : Array Value) (c1 : Addr) (o1 : Obj) (ps2 : Array Value) (c2 : Addr) (o2 : Obj) (lw rest : List (Addr × Obj)) (hsp : Spl (TL ps1 c1 o1 ps2 c2 o2) lw rest) (hp1 : TabP 54 48 4 q1 ps1 c1 o1) (hp2 : TabP 47 33 4 q2 ps2 c2 o2) (hoff : OffT c1 c2 rest)
   (x z : Int) (tx tz : Tok) (hx0 : 0 ≤ x) (hx : x.toNat < 2 ^ (z.toNat * 10)) (hz : 1 ≤ z ∧ z ≤ 40) :
  CSpec w 60 52 [.int x tx, .int z tz] lw (RTabL (digL x.toNat z.toNat) rest) := by
  obtain ⟨n, rfl⟩ := Int.eq_ofNat_of_zero_le hx0
  exact c_i2d w ps1 c1 o1 ps2 c2 o2 lw rest hsp hp1 hp2 hoff n z tx tz (by simpa using hx) hz



example : True := by
  k_with "binaryOp LShift int int" => (k_here; refine lshift_int (by assumption) (by assumption) ?_)
  k_with "binaryOp Pow int int" => (k_here; (with_reducible refine pow_int_small ?_ ?_ ?_ ?_) <;> first | side_arith | assumption | skip)
  k_with "call ref" => (k_here; (with_reducible show wpAny _ _ (call (Value.ref 73) [Value.int _ _, Value.int _ _]) _ _ _); k_dflt (refine' cspec_go (c_idm _ _ _ _ _ _ _ _ _ ?p1K9 ?p2K9 ?p3K9 ?p4K9 _ _ _ _ ?r0K9 ?r1K9 ?r2K9) ?_; (case p1K9 => (first | exact sp0 | exact sp1 | exact sp2 | exact sp3 | exact sp4 | exact sp5 | exact sp6 | exact sp7 | exact sp8 | exact sp9 | exact sp10 | exact sp11 | exact sp12 | exact sp13)); (case p2K9 => assumption); (case p3K9 => assumption); (case p4K9 => (repeat' (first | exact trivial | assumption | refine And.intro ?_ ?_ | (dsimp only; omega)))); (case r0K9 => first | assumption | omega); (case r1K9 => first | assumption | omega); (case r2K9 => first | assumption | omega)); intro D t1 t2 n ps1 c1 o1 ps2 c2 o2 h' tk' hp1 hp2 hoff F' N' hne; have ho9 := hoff; (simp only [OffT, List.cons_append, List.nil_append] at ho9); (try simp only [List.cons_append, List.nil_append] at N'); revert D t1 t2 n ps1 c1 o1 ps2 c2 o2 h' tk' hp1 hp2 hoff F' N' hne ho9; intro _ _ _ _ _ _ _ _ _ _ _ _ _ _ _ _ _ _ _)
  k_with "call ref" => (k_here; (with_reducible show wpAny _ _ (call (Value.ref 59) [Value.ref _, Value.int _ _]) _ _ _); k_dflt (refine' cspec_go (c_d2i _ _ _ _ _ _ _ _ _ ?p1K9 ?p2K9 ?p3K9 ?p4K9 _ _ _ _ _ _ ?h1K9 ?h2K9 ?h3K9 ?h4K9 ?h5K9) ?_; (case p1K9 => (first | exact sp0 | exact sp1 | exact sp2 | exact sp3 | exact sp4 | exact sp5 | exact sp6 | exact sp7 | exact sp8 | exact sp9 | exact sp10 | exact sp11 | exact sp12 | exact sp13)); (case p2K9 => assumption); (case p3K9 => assumption); (case p4K9 => (repeat' (first | exact trivial | assumption | refine And.intro ?_ ?_ | (dsimp only; omega)))); (case h1K9 => k_mem); (case h2K9 => assumption); (case h3K9 => assumption); (case h4K9 => omega); (case h5K9 => assumption)); intro t ps1 c1 o1 ps2 c2 o2 h' tk' hp1 hp2 hoff F' N'; have ho9 := hoff; (simp only [OffT, List.cons_append, List.nil_append] at ho9); (try simp only [List.cons_append, List.nil_append] at N'); revert t ps1 c1 o1 ps2 c2 o2 h' tk' hp1 hp2 hoff F' N' ho9; intro _ _ _ _ _ _ _ _ _ _ _ _ _ _ _)
  k_with "call ref" => (k_here; (with_reducible show wpAny _ _ (call (Value.ref 52) [Value.int _ _, Value.int _ _]) _ _ _); k_dflt (refine' cspec_go (c_i2dI _ _ _ _ _ _ _ _ _ ?p1K9 ?p2K9 ?p3K9 ?p4K9 _ _ _ _ ?p5K9 ?p6K9 ?p7K9) ?_; (case p1K9 => (first | exact sp0 | exact sp1 | exact sp2 | exact sp3 | exact sp4 | exact sp5 | exact sp6 | exact sp7 | exact sp8 | exact sp9 | exact sp10 | exact sp11 | exact sp12 | exact sp13)); (case p2K9 => assumption); (case p3K9 => assumption); (case p4K9 => (repeat' (first | exact trivial | assumption | refine And.intro ?_ ?_ | (dsimp only; omega)))); (case p5K9 => assumption); (case p6K9 => assumption); (case p7K9 => omega)); intro D vs ep ps1 c1 o1 ps2 c2 o2 h' tk' hp1 hp2 hoff hi F' N' hne; have ho9 := hoff; (simp only [OffT, List.cons_append, List.nil_append] at ho9); (try simp only [List.cons_append, List.nil_append] at N'); revert D vs ep ps1 c1 o1 ps2 c2 o2 h' tk' hp1 hp2 hoff hi F' N' hne ho9; intro _ _ _ _ _ _ _ _ _ _ _ _ _ _ _ _ _ _ _; refine Stop.mk ?_)
  trivial
theorem end_listT {ys : List Int} {vs : List Value} {ep : Nat} {rest : List (Addr × Obj)} {h₀ : Heap} {L : Addr} {m : Str → Option Value} {s : Shared} {Q : Value → Shared → Prop} {DD : Addr} {ps1 : Array Value} {c1 : Addr} {o1 : Obj} {ps2 : Array Value} {c2 : Addr} {o2 : Obj} {h' : Heap} {tk' : Nat}
    (hret : RTabL ys rest h₀ L m s Q) (h1 : TabP 54 48 4 q1 ps1 c1 o1) (h2 : TabP 47 33 4 q2 ps2 c2 o2) (ho : (@Ne Nat DD 54) ∧ (@Ne Nat DD c1) ∧ (@Ne Nat DD 47) ∧ (@Ne Nat DD c2)) (hof : OffT c1 c2 rest) (kF : Fr h₀ L h' m)
    (kD : h'.get? DD = some (PySem.W.listOf vs.toArray ep) ∧ DD ≠ L ∧ h₀.get? DD = none) (hi : IntsAre vs ys) (hr : News h₀ L h' rest) (hT : News h₀ L h' (TL ps1 c1 o1 ps2 c2 o2)) (hne : ∀ p ∈ rest, p.1 ≠ DD) : Q (.ref DD) { s with heap := h', toks := tk' } := by
  refine hret DD vs ep _ _ _ _ _ _ _ _ h1 h2 ⟨ho, hof⟩ hi kF (fun p hp => ?_) hne
  rcases List.mem_append.mp hp with hp | hp
  · rcases List.mem_cons.mp hp with rfl | hp
    · exact kD
    · exact hr p hp
  · exact hT p hp
noncomputable def quoF (ds : List Int) (z : Nat) : Nat := ((digR ds z 0 ds.length).fdiv ((1 * 2 ^ z - 1) ^ Int.toNat 3)).toNat
noncomputable def toldF (ds : List Int) (z : Nat) : List Int := (digL (quoF ds z) z ++ List.replicate (5 - (digL (quoF ds z) z).length) 0).reverse
example : True := by
  k_with "call builtin:list.reverse" => (k_here; (with_reducible show wpAny _ _ (call (Value.builtin _) [Value.ref _]) _ _ _); k_dflt (refine' kl_reverse ?FK9 ?NK9 ?eK9 ?UK9 ?zK9 ?_; (case FK9 => k_asm); (case NK9 => k_asm); (case eK9 => exact (rfl : _ = List.reverse _)); (case UK9 => k_upd); (case zK9 => ((show _ ≤ sizeLine); rw [sizeLine_eq]; (have hq9 := IntsAre.length (by assumption : IntsAre _ (_ ++ _))); (simp only [List.length_append] at hq9); (try simp only [List.toList_toArray]); omega))); intro h' F' N'; revert h' F' N'; intro _ _ _)
  k_with "binaryOp Add ref ref" => (k_here; (with_reducible show wpAny _ _ (binaryOp _ (Value.ref _) (Value.ref _)) _ _ _); k_dflt (refine' kmk_add_ints ?FK9 ?NK9 ?aK9 ?bK9 ?iK9 ?jK9 ?_ ?zK9; (case FK9 => k_asm); (case NK9 => k_asm); (case aK9 => exact News.isList (by k_asm) (by k_mem)); (case bK9 => exact News.isList (by k_asm) (by k_mem)); (case iK9 => assumption); (case jK9 => assumption); (case zK9 => (rw [sizeLine_eq]; omega))); intro D' ws' h' F' N' l1 hI'; (try k_lt l1); revert D' ws' h' F' N' l1 hI'; intro _ _ _ _ _ _ _)
  trivial
theorem len_O {prog : Program} {w : World} {A : Around} {E : Value → Shared → Prop} {s : Shared} {h₀ : Heap} {L : Addr} {news : List (Addr × Obj)} {D : Addr} {vs : List Value} {c : Nat} {Q : Value → Shared → Prop} (N : News h₀ L s.heap news) (hm : (D, PySem.W.listOf vs.toArray c) ∈ news) (hf : vs.length < 2 ^ 62) (h : Q (.int (vs.length : Nat) (s.toks + 1)) { s with toks := s.toks + 1 + 1 }) :
    wpAny (model prog w) A (call (.builtin "len") [.ref D]) Q E s := by
  have hl : s.heap.IsList D vs.toArray := News.isList N hm
  refine Calls.call_len_list hl (by rw [List.size_toArray]; omega) ?_
  rw [List.size_toArray]
  exact h
example : True := by
  k_with "call builtin:len" => (k_here; (with_reducible show wpAny _ _ (call (Value.builtin "len") [Value.ref _]) _ _ _); k_dflt (refine' len_O ?NK9 ?mK9 ?fK9 ?_; (case NK9 => k_asm); (case mK9 => k_mem); (case fK9 => omega)))
  trivial
theorem c_told (w : World) (ps1 : Array Value) (c1 : Addr) (o1 : Obj) (ps2 : Array Value) (c2 : Addr) (o2 : Obj) (lw rest : List (Addr × Obj)) (hsp : Spl (TL ps1 c1 o1 ps2 c2 o2) lw rest) (hp1 : TabP 54 48 4 q1 ps1 c1 o1) (hp2 : TabP 47 33 4 q2 ps2 c2 o2) (hoff : OffT c1 c2 rest)
   (z : Int) (tz : Tok) (l : Addr) (vs : List Value) (ds : List Int) (ep : Nat) (hl : (l, PySem.W.listOf vs.toArray ep) ∈ rest) (hi : IntsAre vs ds) (hlen : 1 ≤ ds.length ∧ ds.length ≤ 8) (hz : 9 ≤ z ∧ z ≤ 12) (hdig : ∀ d ∈ ds, 0 ≤ d ∧ d < 2 ^ z.toNat) (hq : cntD (quoF ds z.toNat) z.toNat ≤ 5) :
  CSpec w 76 170 [.ref l, .int z tz] lw (RTabL (toldF ds z.toNat) rest) := by
  have hlw := hsp.eq
  subst hlw
  have hlen2 : 1 ≤ ds.length ∧ ds.length ≤ 8 := by omega
  have g1 : (0 : Int) ≤ z := by omega
  have g2 : (Builtin.Int.intBits 1 : Int) + z ≤ 2 ^ 27 := by rw [show Builtin.Int.intBits 1 = 1 from by decide]; omega
  have hz4 : z = 9 ∨ z = 10 ∨ z = 11 ∨ z = 12 := by omega
  have g3 : (1 * 2 ^ z.toNat - 1 : Int).natAbs < 2 ^ 64 := by rcases hz4 with rfl | rfl | rfl | rfl <;> decide
  have hxb := digR_bound ds z.toNat 0 ds.length hdig
  replace hxb := (⟨hxb.1, Int.lt_of_lt_of_le hxb.2 (by exact_mod_cast Nat.pow_le_pow_right (by decide) (Nat.mul_le_mul_left _ hlen.2))⟩ : 0 ≤ digR ds z.toNat 0 ds.length ∧ digR ds z.toNat 0 ds.length < 2 ^ (z.toNat * 8))
  have f1 : (1 * 2 ^ z.toNat - 1 : Int) ^ Int.toNat 3 ≠ 0 := by rcases hz4 with rfl | rfl | rfl | rfl <;> decide
  have f1' : 1 ≤ (1 * 2 ^ z.toNat - 1 : Int) ^ Int.toNat 3 := by rcases hz4 with rfl | rfl | rfl | rfl <;> decide
  have f3 : Builtin.Int.intBits ((1 * 2 ^ z.toNat - 1 : Int) ^ Int.toNat 3) ≤ 40 := by rcases hz4 with rfl | rfl | rfl | rfl <;> decide
  have f2' : (2 : Int) ^ (z.toNat * 8) ≤ ((2 ^ (Builtin.Int.intBits ((1 * 2 ^ z.toNat - 1 : Int) ^ Int.toNat 3) * 3) : Nat) : Int) := by rcases hz4 with rfl | rfl | rfl | rfl <;> decide
  have f2 : (digR ds z.toNat 0 ds.length).natAbs < 2 ^ (Builtin.Int.intBits ((1 * 2 ^ z.toNat - 1 : Int) ^ Int.toNat 3) * 3) := by omega
  have f4 : 0 ≤ (digR ds z.toNat 0 ds.length).fdiv ((1 * 2 ^ z.toNat - 1 : Int) ^ Int.toNat 3) := by
    rw [Int.fdiv_eq_ediv_of_nonneg _ (by omega)]; exact Int.ediv_nonneg (by omega) (by omega)
  have f5' : (2 : Int) ^ (z.toNat * 8) ≤ ((2 ^ (z.toNat * 10) : Nat) : Int) := by rcases hz4 with rfl | rfl | rfl | rfl <;> decide
  have f5 : ((digR ds z.toNat 0 ds.length).fdiv ((1 * 2 ^ z.toNat - 1 : Int) ^ Int.toNat 3)).toNat < 2 ^ (z.toNat * 10) := by
    have h1 : (digR ds z.toNat 0 ds.length).fdiv ((1 * 2 ^ z.toNat - 1 : Int) ^ Int.toNat 3) ≤ digR ds z.toNat 0 ds.length := by
      rw [Int.fdiv_eq_ediv_of_nonneg _ (by omega)]; exact Int.ediv_le_self _ (by omega)
    omega
  intro loose mean mg mb dp un gd cn cs a ccd cl outer A₀ base h₀ L m s Q E hB F X N₀ T hk hd hu hret
  have N : News h₀ L s.heap [(l, PySem.W.listOf vs.toArray ep), (54, tabObj ps1), (c1, o1), (47, tabObj ps2), (c2, o2)] := by
    intro p hp
    rcases List.mem_cons.mp hp with rfl | hp
    · exact N₀ _ (List.mem_append_left _ hl)
    · exact N₀ _ (List.mem_append_right _ hp)
  have hO0 : (@Ne Nat l 54) ∧ (@Ne Nat l c1) ∧ (@Ne Nat l 47) ∧ (@Ne Nat l c2) := hoff.mem _ hl
  refine wpAny_call ?_
  k_dflt (refine' code_defG ?k1 ?k2 ?k3 N ?k5 ?kA ?kF ?kK ?k6 ?k7 ?k8 ?k9 ?kB ?_ ?c2 ?c3 ?c4 ?c5; (case kA => exact rfl); (case kF => exact rfl); (case kK => assumption); (case k1 => k_asm); (case k2 => k_asm); (case k3 => k_asm); (case k5 => k_asm); (case k6 => k_is); (case k7 => k_is); (case k8 => ktr_room); (case k9 => exact BindsTo.of_eq rfl); (case c5 => decide); (case kB => exact locs rfl); (case c2 => exact rfl); (case c3 => exact rfl); (case c4 => exact rfl); k_whole; intro gG L' h' FG' F' N' B' X' T' hG; (try dsimp only); (try k_lift B'); (try k_fold))
  k_steps
  rename_i D vs2 ep2 ps1' c1' o1' ps2' c2' o2' hA tkA hp1' hp2' hoff' hi2 FA NA hne2 ho9
  unfold Stop
  change IntsAre vs2 (digL (quoF ds z.toNat) z.toNat) at hi2
  have hvl : vs2.length ≤ 5 := by
    have h1 := IntsAre.length hi2
    rw [h1]; unfold digL; rw [digs_len]; exact hq
  have hdl : (digL (quoF ds z.toNat) z.toNat).length ≤ 5 := by unfold digL; rw [digs_len]; exact hq
  k_steps
  rename_i DD us hB hIu l1f hC F1 N1 hD FD ND kF kN kT kX
  have hrev : IntsAre us.reverse (toldF ds z.toNat) := by
    have h := Mine.IntsAre.rev hIu
    have hln := IntsAre.length hi2
    rw [flat_rep, show (5 - (vs2.length : Int)).toNat = 5 - (digL (quoF ds z.toNat) z.toNat).length by omega] at h
    exact h
  have hE := end_TLW (W := [(l, PySem.W.listOf vs.toArray ep)]) N₀ hoff (fun p hp => by rw [List.mem_singleton.mp hp]; exact hl) hG FD ND kN (fun p hp => by rw [List.mem_singleton.mp hp]; k_mem)
  have hlW : ∀ X : Addr, (@Ne Nat l X) → ∀ p ∈ [(l, PySem.W.listOf vs.toArray ep)], p.1 ≠ X := fun X hX p hp => by rw [List.mem_singleton.mp hp]; exact hX
  exact end_listT hret hp1' hp2' ⟨by omega, by omega, by omega, by omega⟩ (.of2 (hE.2 54 (tabObj ps1') (by k_mem) (hlW _ (by omega))) (hE.2 c1' o1' (by k_mem) (hlW _ (by omega))) (hE.2 47 (tabObj ps2') (by k_mem) (hlW _ (by omega))) (hE.2 c2' o2' (by k_mem) (hlW _ (by omega)))) kF (kN _ (.head _)) hrev hE.1 (by repeat (first | exact List.forall_mem_nil _ | refine List.forall_mem_cons.mpr ⟨kN _ (by k_mem), ?_⟩)) (hE.2 DD _ (.head _) (hlW _ (by omega)))
end Mine
end
section
example : True := by (w_top off; trivial)
example : True := by (k_with_none; trivial)
example : True := by
  k_with "call builtin:min" => (k_here; (with_reducible show wpAny _ _ (call (Value.builtin _) [Value.int _ _, Value.int _ _, Value.int _ _]) _ _ _); k_dflt (refine' min3_N ?k0K9 ?k1K9 ?k2K9 ?_; (case k0K9 => rfl); (case k1K9 => k_asm); (case k2K9 => k_asm)); intro h' tk tok F' N'; revert h' tk tok F' N'; intro _ _ _ _ _)
  k_with "call builtin:max" => (k_here; (with_reducible show wpAny _ _ (call (Value.builtin _) [Value.int _ _, Value.int _ _, Value.int _ _]) _ _ _); k_dflt (refine' max3_N ?k0K9 ?k1K9 ?k2K9 ?_; (case k0K9 => rfl); (case k1K9 => k_asm); (case k2K9 => k_asm)); intro h' tk tok F' N'; revert h' tk tok F' N'; intro _ _ _ _ _)
  k_with "binaryOp Div int int" => (k_here; refine div_small (by omega) (by omega) ?_)
  k_with "subscriptTail" => (k_here; (with_reducible show wpAny _ _ (subscriptTail _ _ (Value.ref _) (Value.int _ _)) _ _ _); k_dflt (first
      | (refine' tup_item ?NK9 ?mK9 ?aK9 ?bK9 ?cK9 ?dK9 ?_ ?eK9; (case NK9 => k_asm); (case mK9 => k_mem); (case aK9 => decide); (case bK9 => decide); (case cK9 => rfl); (case dK9 => rfl); (case eK9 => with_unfolding_all rfl); k_whole)
      | (refine' lst_item ?NK9 ?mK9 ?aK9 ?bK9 ?cK9 ?_ ?eK9; (case NK9 => k_asm); (case mK9 => k_mem); (case aK9 => decide); (case bK9 => decide); (case cK9 => rfl); (case eK9 => with_unfolding_all rfl); k_whole)
      | (refine' lst_itemN ?NK9 ?mK9 ?aK9 ?bK9 ?cK9 ?dK9 ?_ ?eK9; (case NK9 => k_asm); (case mK9 => k_mem); (case aK9 => decide); (case bK9 => decide); (case cK9 => decide); (case dK9 => rfl); (case eK9 => with_unfolding_all rfl); k_whole)))
  trivial
open PySem PySem.W PyProof.Rows PySem.Calls PySem.Spec
namespace Mine
noncomputable def qdF (x : List Nat) : List Nat := dotF true (crlfF x)
theorem pat1 {w : World} {h : Heap} (X : (Mine.hd.heap_39 w.params).In h) : PatAt h 92 code1 := ⟨⟨_, _, _, 91, _, _, X 92 _ rfl, _, _, X 91 _ rfl, rfl, by kernel_rfl⟩⟩
theorem pat2 {w : World} {h : Heap} (X : (Mine.hd.heap_39 w.params).In h) : PatAt h 97 code2 := ⟨⟨_, _, _, 96, _, _, X 97 _ rfl, _, _, X 96 _ rfl, rfl, by kernel_rfl⟩⟩
section
variable {w : World} {prog : Program} {A : Around} {E : Value → Shared → Prop} {s : Shared} {h₀ : Heap} {L : Addr} {m : Str → Option Value} {news : List (Addr × Obj)}
theorem pat_method {P : Addr} {pl : Sem Bool} {Q : Value × List Value → Shared → Prop} (F : Fr h₀ L s.heap m) (X : (Mine.hd.heap_39 w.params).In h₀) (hP : P = 92 ∨ P = 97) (h : Q (.builtin "re.Pattern.sub", [.ref P]) s) :
    wpAny (model prog w) A (getMethod (.ref P) (Str.ofString "sub") pl) Q E s := by
  have key : ∃ o, s.heap.get? P = some o ∧ o.cls = .type "re.Pattern" ∧ o.dict = none := by
    rcases hP with rfl | rfl
    · exact ⟨_, F.keep _ _ (X 92 _ rfl), rfl, rfl⟩
    · exact ⟨_, F.keep _ _ (X 97 _ rfl), rfl, rfl⟩
  obtain ⟨o, ho, hc, hd⟩ := key
  exact getMethod_builtin (T := "re.Pattern") ⟨o, ho, hc⟩ plainAttrs_pat slot_sub type_sub (fun a e => by cases e; exact ⟨o, ho, hd⟩) h
theorem pat_sub1 {x : List Nat} {t u : Tok} {Q : Value → Shared → Prop} (F : Fr h₀ L s.heap m) (X : (Mine.hd.heap_39 w.params).In h₀) (N : News h₀ L s.heap news) (hx : x.length ≤ 50000)
    (h : ∀ h' tk tok, Fr h₀ L h' m → News h₀ L h' news → Q (.str ⟨(dotF true x).toArray⟩ tok) { s with heap := h', toks := tk }) :
    wpAny (model prog w) A (call (.builtin "re.Pattern.sub") [.ref 92, .str (Str.ofString "..") t, .str ⟨x.toArray⟩ u]) Q E s :=
  sub1_wp ((pat1 X).keep F.keep) hx fun h' tk tok hk => h h' tk tok (F.grownK hk) (N.grown hk)
theorem pat_sub2 {x : List Nat} {t u : Tok} {Q : Value → Shared → Prop} (F : Fr h₀ L s.heap m) (X : (Mine.hd.heap_39 w.params).In h₀) (N : News h₀ L s.heap news) (hx : x.length ≤ 50000)
    (h : ∀ h' tk tok, Fr h₀ L h' m → News h₀ L h' news → Q (.str ⟨(crlfF x).toArray⟩ tok) { s with heap := h', toks := tk }) :
    wpAny (model prog w) A (call (.builtin "re.Pattern.sub") [.ref 97, .str (Str.ofString "\r\n") t, .str ⟨x.toArray⟩ u]) Q E s :=
  sub2_wp ((pat2 X).keep F.keep) hx fun h' tk tok hk => h h' tk tok (F.grownK hk) (N.grown hk)
end

example : True := by
  k_with "getMethod ref" => (k_here; (with_reducible show wpAny _ _ (getMethod (Value.ref _) _ _) _ _ _); k_dflt (refine' pat_method ?FK9 ?XK9 ?hK9 ?_; (case FK9 => k_asm); (case XK9 => k_asm); (case hK9 => first | exact .inl rfl | exact .inr rfl)))
  k_with "call builtin:re.Pattern.sub" => (k_here; (with_reducible show wpAny _ _ (call (Value.builtin _) [Value.ref _, Value.str _ _, Value.str _ _]) _ _ _); k_dflt (first | (refine' pat_sub1 ?FK9 ?XK9 ?NK9 ?hK9 ?_; (case FK9 => k_asm); (case XK9 => k_asm); (case NK9 => k_asm); (case hK9 => assumption)) | (refine' pat_sub2 ?FK9 ?XK9 ?NK9 ?hK9 ?_; (case FK9 => k_asm); (case XK9 => k_asm); (case NK9 => k_asm); (case hK9 => assumption))); intro h' tk tok F' N'; revert h' tk tok F' N'; intro _ _ _ _ _)
  trivial
theorem c_quote (w : World) (news : List (Addr × Obj)) (x : List Nat) (t : Tok) (hx : x.length ≤ 1000) :
  CSpec w 20 104 [.str ⟨x.toArray⟩ t] news (RStr ⟨(qdF x).toArray⟩ news) := by
  have hx1 : x.length ≤ 50000 := by omega
  have hx2 : (crlfF x).length ≤ 50000 := by have := crlfF_len _ x (Nat.le_refl _); omega
  intro loose mean mg mb dp un gd cn cs a ccd cl outer A₀ base h₀ L m s Q E hB F X N₀ T hk hd hu hret
  have N : News h₀ L s.heap [] := fun _ h => nomatch h
  refine wpAny_call ?_
  k_dflt (refine' code_defG ?k1 ?k2 ?k3 N ?k5 ?kA ?kF ?kK ?k6 ?k7 ?k8 ?k9 ?kB ?_ ?c2 ?c3 ?c4 ?c5; (case kA => exact rfl); (case kF => exact rfl); (case kK => assumption); (case k1 => k_asm); (case k2 => k_asm); (case k3 => k_asm); (case k5 => k_asm); (case k6 => k_is); (case k7 => k_is); (case k8 => ktr_room); (case k9 => exact BindsTo.of_eq rfl); (case c5 => decide); (case kB => exact locs rfl); (case c2 => exact rfl); (case c3 => exact rfl); (case c4 => exact rfl); k_whole; intro gG L' h' FG' F' N' B' X' T' hG; (try dsimp only); (try k_lift B'); (try k_fold))
  k_steps
  rename_i hB tkB tokB FB NB kF kN kT kX
  exact hret _ _ _ kF (news_back N₀ N hG FB kN fun _ h => nomatch h)

end Mine
end
section
example : True := by (w_top off; trivial)
example : True := by (k_with_none; trivial)
example : True := by
  k_with "call builtin:min" => (k_here; (with_reducible show wpAny _ _ (call (Value.builtin _) [Value.int _ _, Value.int _ _, Value.int _ _]) _ _ _); k_dflt (refine' min3_N ?k0K9 ?k1K9 ?k2K9 ?_; (case k0K9 => rfl); (case k1K9 => k_asm); (case k2K9 => k_asm)); intro h' tk tok F' N'; revert h' tk tok F' N'; intro _ _ _ _ _)
  k_with "call builtin:max" => (k_here; (with_reducible show wpAny _ _ (call (Value.builtin _) [Value.int _ _, Value.int _ _, Value.int _ _]) _ _ _); k_dflt (refine' max3_N ?k0K9 ?k1K9 ?k2K9 ?_; (case k0K9 => rfl); (case k1K9 => k_asm); (case k2K9 => k_asm)); intro h' tk tok F' N'; revert h' tk tok F' N'; intro _ _ _ _ _)
  k_with "binaryOp Div int int" => (k_here; refine div_small (by omega) (by omega) ?_)
  k_with "subscriptTail" => (k_here; (with_reducible show wpAny _ _ (subscriptTail _ _ (Value.ref _) (Value.int _ _)) _ _ _); k_dflt (first
      | (refine' tup_item ?NK9 ?mK9 ?aK9 ?bK9 ?cK9 ?dK9 ?_ ?eK9; (case NK9 => k_asm); (case mK9 => k_mem); (case aK9 => decide); (case bK9 => decide); (case cK9 => rfl); (case dK9 => rfl); (case eK9 => with_unfolding_all rfl); k_whole)
      | (refine' lst_item ?NK9 ?mK9 ?aK9 ?bK9 ?cK9 ?_ ?eK9; (case NK9 => k_asm); (case mK9 => k_mem); (case aK9 => decide); (case bK9 => decide); (case cK9 => rfl); (case eK9 => with_unfolding_all rfl); k_whole)
      | (refine' lst_itemN ?NK9 ?mK9 ?aK9 ?bK9 ?cK9 ?dK9 ?_ ?eK9; (case NK9 => k_asm); (case mK9 => k_mem); (case aK9 => decide); (case bK9 => decide); (case cK9 => decide); (case dK9 => rfl); (case eK9 => with_unfolding_all rfl); k_whole)))
  trivial
open PySem PySem.W PyProof.Rows PySem.Calls PySem.Spec PyProof.V
namespace Mine
open PyProof.Rows.LCg
section
variable {prog : Program} {w : World} {A : Around} {E : Value → Shared → Prop} {s : Shared} {h₀ : Heap} {L : Addr} {m : Str → Option Value} {env : Env}
noncomputable def SrcS (prog : Program) (w : World) (A : Around) (h₀ : Heap) (L : Addr) (m : Str → Option Value) (env : Env) (elt : Expr) (x : Str) (scope : Scope) (cl : List (Str × Addr)) (Fin : Shared → List Value → List (Addr × Obj) → Prop) (xv : Value) (s₁ : Shared) : Prop :=
  ∃ tx t news, xv = .str tx t ∧ tx.cps.all (· < 128) = true ∧ A.handled = none ∧ tx.cps.size ≤ sizeLine ∧ Fr h₀ L s₁.heap m ∧ News h₀ L s₁.heap news ∧
    ∀ g, CompRest prog w A h₀ L m env elt x scope cl { s₁ with heap := g } (fun _ => True) (SignAt tx) (Fin { s₁ with heap := g }) tx.cps.size 0 [] news
theorem ListComp_S {elt iter : Expr} {x : Str} {px : Pos} {scope : Scope} {cl : List (Str × Addr)} {pos : Pos} {Q : Value → Shared → Prop} (_F₀ : Fr h₀ L s.heap m)
    (hclos : closureFor scope env = pure cl) (hcell : ∀ y ∈ scope.names, y.2 ≠ .cell) (hkind : scope.kind = .function)
    (hnames : ∀ y ∈ scope.names, y.2 = .local → scope.names.lookup y.1 = some .local) (hx : scope.names.lookup x = some .local)
    (hs : ∀ x, foldedSetIterable iter env x = pure x)
    (h : wpAny (model prog w) A (eval iter env) (SrcS prog w A h₀ L m env elt x scope cl (fun s₂ => FinE h₀ L m s₂ Q)) E s) :
    wpAny (model prog w) A (eval (.ListComp elt [⟨.Name x px, iter, [], 0⟩] scope pos) env) Q E s := by
  rw [eval_ListComp]
  refine wpAny_comprehension_free (use := none) rfl hs hclos hkind hnames (wpAny_mono h (fun xv s₁ h₁ => ?_) fun _ _ e => e)
  obtain ⟨tx, t, news, rfl, ha, hh, hsz, F, N, R⟩ := h₁
  refine wpAny_pyIter_ascii ha ?_
  have up : ∀ b o, s₁.heap.get? b = some o → (s₁.heap.push { cls := .type "str_ascii_iterator", data := .fields #[.str tx t, rawInt 0] }).get? b = some o := fun b o e => Heap.get?_push_of_some _ e
  refine block_U (Walks.strAscii hh s₁.heap.objs.size tx t) hsz (fun i h st => by obtain ⟨o, e, _⟩ := st; exact ⟨o, e⟩) (fun i h h' o nw st e e' _ _ _ => by
      obtain ⟨o', q, r⟩ := st
      rw [e] at q; cases q
      exact ⟨o, e', r⟩) hcell hkind hx ⟨_, Heap.get?_push_size _ rfl, rfl, rfl⟩ (fun b hb => ?_)
      (F.keeps fun _ _ e => Heap.get?_push_of_some _ e) (N.grown fun _ _ e => Heap.get?_push_of_some _ e) (Nat.ne_of_lt F.ns.lt) (next_is_new F) (fun p hp => Nat.ne_of_lt (Heap.lt_size (N p hp).1)) trivial (R _) ?_
  · rw [List.mem_singleton.mp hb]
    show s₁.heap.objs.size < (s₁.heap.push _).objs.size
    rw [Heap.size_push]; exact Nat.lt_succ_self _
  · intro D C h tk m' ys news' F' N' o1 hn hC₀ hD₀ hCL hDL hCD offC fin
    refine ⟨m', hn, fun h'' hs'' => fin D h'' tk (F'.change hs'' hCL hC₀) (fun p hp => ?_) o1⟩
    refine ⟨hs''.extBut _ _ ?_ (N' p hp).1, (N' p hp).2⟩
    rcases List.mem_cons.mp hp with rfl | hp
    · exact Ne.symm hCD
    · exact offC p hp
end
section
variable {prog : Program} {w : World} {A : Around} {E : Value → Shared → Prop} {s : Shared} {env : Env} {h₀ : Heap} {x : Str} {body : List Stmt} {Q : Flow → Shared → Prop}
theorem iter_txt {r : Addr} {a b : Int} {t₀ u₀ v₀ : Tok} {m₀ : Str → Option Value} {news : List (Addr × Obj)} {t0 : Tok} (Ts : Nat → Str) (fy : Str) (hxy : ∀ z, z = fy → z ≠ x)
    (hh : A.handled = none) (hr : IsRange s.heap r a b 1 t₀ u₀ v₀) (hab : a ≤ b ∧ -1000 ≤ a ∧ b ≤ 1000) (F : Fr h₀ env.locals s.heap (fun z => if z = fy then some (.str (Ts 0) t0) else m₀ z)) (N : News h₀ env.locals s.heap news)
    (hend : ∀ ox t h tk, Fr h₀ env.locals h (fun z => if z = x then ox else if z = fy then some (.str (Ts (b - a).toNat) t) else m₀ z) → News h₀ env.locals h news → Q .next { s with heap := h, toks := tk })
    (hstep : ∀ I i t u h tk, i < (b - a).toNat → (∀ p ∈ news, p.1 < I) → Fr h₀ env.locals h (fun z => if z = x then some (.int (a + (i : Int)) u) else if z = fy then some (.str (Ts i) t) else m₀ z) →
      News h₀ env.locals h ((I, itR (a + ((i + 1 : Nat) : Int)) (((b - a).toNat : Int) - ((i + 1 : Nat) : Int))) :: news) →
      wpAny (model prog w) A (execs body env) (UnrPost h₀ env.locals { s with heap := h, toks := tk } I (itR (a + ((i + 1 : Nat) : Int)) (((b - a).toNat : Int) - ((i + 1 : Nat) : Int)))
        (fun m' n' => Hold (∃ ox t, (∀ z, m' z = if z = x then ox else if z = fy then some (.str (Ts (i + 1)) t) else m₀ z) ∧ n' = news)) Q) E { s with heap := h, toks := tk }) :
    wpAny (model prog w) A (pyIter (.ref r)) (fun it s₂ => LoopAtV prog w A h₀ env x body Q E it s₂) E s := by
  refine iter_range_ind (P := fun i m' n' => Hold (∃ ox t, (∀ z, m' z = if z = x then ox else if z = fy then some (.str (Ts i) t) else m₀ z) ∧ n' = news)) hh hr hab F N ?_ ?_ ?_
  · refine ⟨m₀ x, t0, fun z => ?_, rfl⟩
    by_cases h1 : z = x
    · have h2 : ¬ z = fy := fun e => hxy z e h1
      rw [if_pos h1, if_neg h2, h1]
    · rw [if_neg h1]
  · rintro m nw ⟨ox, t, hm, rfl⟩ h tk F' N'
    obtain rfl : m = _ := funext hm
    exact hend ox t h tk F' N'
  · rintro I i m nw hi ⟨ox, t, hm, rfl⟩ hI u h tk F' N'
    obtain rfl : m = _ := funext hm
    refine hstep I i t u h tk hi hI ?_ N'
    have : (fun y => if y = x then some (Value.int (a + (i : Int)) u) else (fun z => if z = x then ox else if z = fy then some (.str (Ts i) t) else m₀ z) y) = (fun z => if z = x then some (Value.int (a + (i : Int)) u) else if z = fy then some (.str (Ts i) t) else m₀ z) := by
      funext y; by_cases q : y = x <;> simp [q]
    rw [this] at F'
    exact F'
end
end Mine
end
section
example : True := by (w_top off; trivial)
example : True := by (k_with_none; trivial)
example : True := by
  k_with "call builtin:min" => (k_here; (with_reducible show wpAny _ _ (call (Value.builtin _) [Value.int _ _, Value.int _ _, Value.int _ _]) _ _ _); k_dflt (refine' min3_N ?k0K9 ?k1K9 ?k2K9 ?_; (case k0K9 => rfl); (case k1K9 => k_asm); (case k2K9 => k_asm)); intro h' tk tok F' N'; revert h' tk tok F' N'; intro _ _ _ _ _)
  k_with "call builtin:max" => (k_here; (with_reducible show wpAny _ _ (call (Value.builtin _) [Value.int _ _, Value.int _ _, Value.int _ _]) _ _ _); k_dflt (refine' max3_N ?k0K9 ?k1K9 ?k2K9 ?_; (case k0K9 => rfl); (case k1K9 => k_asm); (case k2K9 => k_asm)); intro h' tk tok F' N'; revert h' tk tok F' N'; intro _ _ _ _ _)
  k_with "binaryOp Div int int" => (k_here; refine div_small (by omega) (by omega) ?_)
  k_with "subscriptTail" => (k_here; (with_reducible show wpAny _ _ (subscriptTail _ _ (Value.ref _) (Value.int _ _)) _ _ _); k_dflt (first
      | (refine' tup_item ?NK9 ?mK9 ?aK9 ?bK9 ?cK9 ?dK9 ?_ ?eK9; (case NK9 => k_asm); (case mK9 => k_mem); (case aK9 => decide); (case bK9 => decide); (case cK9 => rfl); (case dK9 => rfl); (case eK9 => with_unfolding_all rfl); k_whole)
      | (refine' lst_item ?NK9 ?mK9 ?aK9 ?bK9 ?cK9 ?_ ?eK9; (case NK9 => k_asm); (case mK9 => k_mem); (case aK9 => decide); (case bK9 => decide); (case cK9 => rfl); (case eK9 => with_unfolding_all rfl); k_whole)
      | (refine' lst_itemN ?NK9 ?mK9 ?aK9 ?bK9 ?cK9 ?dK9 ?_ ?eK9; (case NK9 => k_asm); (case mK9 => k_mem); (case aK9 => decide); (case bK9 => decide); (case cK9 => decide); (case dK9 => rfl); (case eK9 => with_unfolding_all rfl); k_whole)))
  trivial
open PySem PySem.W PyProof.Rows PySem.Calls PySem.Spec
set_option maxHeartbeats 800000
namespace Mine
theorem sgn3 {c0 c1 c2 i : Nat} {v : Value} (h : SignAt ⟨#[c0, c1, c2]⟩ i v) : (i = 0 → ∃ t, v = .str ⟨#[c0]⟩ t) ∧ (i = 1 → ∃ t, v = .str ⟨#[c1]⟩ t) ∧ (i = 2 → ∃ t, v = .str ⟨#[c2]⟩ t) := by
  obtain ⟨c, u, h1, rfl⟩ := h
  refine ⟨?_, ?_, ?_⟩
  · rintro rfl; obtain rfl : c0 = c := Option.some.inj h1; exact ⟨u, rfl⟩
  · rintro rfl; obtain rfl : c1 = c := Option.some.inj h1; exact ⟨u, rfl⟩
  · rintro rfl; obtain rfl : c2 = c := Option.some.inj h1; exact ⟨u, rfl⟩
noncomputable def lineF (n : Int) (c : Nat) (e : List Nat) : List Nat := List.replicate n.toNat 46 ++ [c, 58, 46] ++ e
noncomputable def mailF (n0 n1 n2 : Int) (c0 c1 c2 : Nat) (e : List Nat) : List Nat := lineF n0 c0 e ++ lineF n1 c1 e ++ lineF n2 c2 e
noncomputable def sentF : Nat → List Nat → List Nat
  | 0, M => M
  | k + 1, M => qdF (sentF k M)
theorem rep_fold : ∀ (k : Nat) (acc : Array Nat), ((List.replicate k (#[46] : Array Nat)).foldl (· ++ ·) acc).toList = acc.toList ++ List.replicate k 46
  | 0, acc => by simp
  | k + 1, acc => by
    rw [List.replicate_succ, List.foldl_cons, rep_fold k, List.replicate_succ]
    simp
theorem mul_dots (n : Int) : (Txt.mul (Str.ofString ".") n).cps.toList = List.replicate n.toNat 46 := by
  unfold Txt.mul
  by_cases h : n < 1
  · rw [if_pos h, show n.toNat = 0 by omega]; rfl
  · rw [if_neg h]
    by_cases h1 : n = 1
    · subst h1; rfl
    · rw [if_neg (by
        rw [show ((Str.ofString ".").length == 0) = false from rfl, Bool.or_false]
        simpa using h1)]
      have := rep_fold n.toNat #[]
      rw [show (#[] : Array Nat).toList = [] from rfl, List.nil_append] at this
      exact this
theorem row_eq (n : Int) (c : Nat) (e : List Nat) : (Txt.mul (Str.ofString ".") n ++ (⟨#[c]⟩ : Str) ++ Str.ofString ":." ++ (⟨e.toArray⟩ : Str)).cps.toList = lineF n c e := by
  show ((Txt.mul (Str.ofString ".") n).cps ++ #[c] ++ #[58, 46] ++ e.toArray).toList = _
  simp only [Array.toList_append, mul_dots]
  unfold lineF
  simp
theorem qdF_len (x : List Nat) : (qdF x).length ≤ 4 * x.length := by
  have h1 := crlfF_len _ x (Nat.le_refl _)
  have h2 := dotF_len (crlfF x) true
  unfold qdF; omega
section
variable {prog : Program} {w : World} {A : Around} {E : Value → Shared → Prop} {s : Shared} {h₀ : Heap} {L : Addr} {news : List (Addr × Obj)}
theorem join3 {D : Addr} {x1 x2 x3 : Str} {t t1 t2 t3 : Tok} {r1 r2 r3 : List Nat} {Q : Value → Shared → Prop} (N : News h₀ L s.heap news) (hm : (D, LCg.lst [.str x1 t1, .str x2 t2, .str x3 t3]) ∈ news)
    (e1 : x1.cps.toList = r1) (e2 : x2.cps.toList = r2) (e3 : x3.cps.toList = r3) (hl : (r1 ++ r2 ++ r3).length ≤ 1000) (h : ∀ t' k, Q (.str ⟨(r1 ++ r2 ++ r3).toArray⟩ t') { s with toks := k }) :
    wpAny (model prog w) A (call (.builtin "str.join") [.str (Str.ofString "") t, .ref D]) Q E s := by
  have hl' : s.heap.IsList D (strValues [(x1, t1), (x2, t2), (x3, t3)]).toArray := ⟨_, (N _ hm).1, rfl, _, rfl⟩
  have e : cat [x1, x2, x3] = r1 ++ r2 ++ r3 := by
    show x1.cps.toList ++ (x2.cps.toList ++ (x3.cps.toList ++ [])) = _
    rw [e1, e2, e3]; simp
  refine SC.join hl' rfl ?_ fun t' k => ?_
  · unfold JoinOk Builtin.Str.tooLong
    rw [StrLaws.joinTotal]
    have h1 := cat_len [x1, x2, x3]
    rw [e] at h1
    rw [show (Str.ofString "").length = 0 from rfl, Nat.mul_zero, Nat.add_zero]
    show (!decide (([x1, x2, x3].map (·.length)).sum > sizeLine)) = true
    rw [← h1, decide_eq_false (by unfold sizeLine; omega)]
    rfl
  · have h2 : Txt.join (Str.ofString "") [x1, x2, x3] = ⟨(r1 ++ r2 ++ r3).toArray⟩ := by
      show Builtin.Str.glued _ _ = _
      rw [StrLaws.glued_eq_join, show Str.ofString "" = (⟨#[]⟩ : Str) from rfl]
      have h3 := join_empty [x1, x2, x3]
      rw [e] at h3
      rw [← h3]
    show Q (.str (Txt.join (Str.ofString "") [x1, x2, x3]) t') _
    rw [h2]
    exact h t' k
end

example : True := by
  k_with "call ref" => (k_here; (with_reducible show wpAny _ _ (call (Value.ref 104) [Value.str _ _]) _ _ _); k_dflt (refine' cspec_go (c_quote _ _ _ _ ?p1K9) ?_; (case p1K9 => assumption)); intro t h' tk' F' N'; revert t h' tk' F' N'; intro _ _ _ _ _)
  k_with "eval ListComp" => (k_here; k_dflt (refine' ListComp_S ?k0K9 ?k1K9 ?k2K9 ?k3K9 ?k4K9 ?k5K9 ?k6K9 ?_; (case k0K9 => k_asm); (case k1K9 => with_unfolding_all rfl); (case k2K9 => decide); (case k3K9 => rfl); (case k4K9 => decide); (case k5K9 => rfl); (case k6K9 => intro _; rfl)))
  k_with "SrcS" => (k_here; k_dflt (refine' ⟨_, _, _, rfl, ?k1K9, ?k2K9, ?k3K9, ?k4K9, ?k5K9, fun g => ?_⟩; (case k1K9 => assumption); (case k2K9 => rfl); (case k3K9 => exact Nat.le_of_ble_eq_true rfl); (case k4K9 => k_asm); (case k5K9 => k_asm); lcg_lit))
  trivial
local macro_rules | `(tactic| walk_at "CompRest") => `(tactic| (with_unfolding_all first
  | (refine LCg.CompRest.succ ?_; intro v' I' oI' C' oC' D' m' h' tk' E' hv' hC' hx' F' N' off' ne'; (have hs9' := sgn3 hv'); (first | (obtain ⟨t9', hw9'⟩ := hs9'.1 rfl) | (obtain ⟨t9', hw9'⟩ := hs9'.2.1 rfl) | (obtain ⟨t9', hw9'⟩ := hs9'.2.2 rfl)); clear hs9'; subst hw9'; (try simp only [LCg.Off3, and_true] at off'))
  | refine LCg.CompRest.zero ?_))

example : True := by
  k_with "subscriptTail" => (k_here; k_dflt ((with_reducible show wpAny _ _ (subscriptTail _ _ (Value.ref _) (Value.str _ _)) _ _ _); refine kda_item (knd := PySem.strKind _ _) (by k_asm) (by k_mem) (by k_asm) (strKind_is _ _ _ _) (by with_reducible assumption) ?_))
  k_with "call builtin:str.join" => (k_here; k_dflt (refine' join3 ?NK9 ?mK9 ?e1K9 ?e2K9 ?e3K9 ?lK9 ?_; (case NK9 => k_asm); (case mK9 => k_mem); (case e1K9 => exact row_eq _ _ _); (case e2K9 => exact row_eq _ _ _); (case e3K9 => exact row_eq _ _ _); (case lK9 => with_reducible assumption)); intro t9' k9'; revert t9' k9'; intro _ _)
  k_with "pyIter ref" => ((with_reducible show wpAny _ _ (pyIter (Value.ref _)) (fun it s₂ => LoopAtV _ _ _ _ _ _ _ _ _ it s₂) _ _); k_here; (have zq9 := ‹IsRange _ _ _ _ _ _ _ _›; clear zq9); refine Stop.mk ?_)
  k_with "UnrEnd" => (refine Stop.mk ?_)
  trivial
theorem c_mail (w : World) (news : List (Addr × Obj)) (D : Addr) (od : Obj) (kvs : List (Str × Value)) (n0 n1 n2 kv : Int) (c0 c1 c2 : Nat) (ta tb tc tn te tk : Tok) (e : List Nat) (hD : (D, od) ∈ news) (hod : od.IsDictOf (PySem.strKind PySem.Challenge.pw_sn0025_01 w) kvs)
   (hv0 : PySem.valueAt kvs ⟨#[c0]⟩ = some (.int n0 ta)) (hv1 : PySem.valueAt kvs ⟨#[c1]⟩ = some (.int n1 tb)) (hv2 : PySem.valueAt kvs ⟨#[c2]⟩ = some (.int n2 tc))
   (hn0 : 0 ≤ n0 ∧ n0 ≤ 5) (hn1 : 0 ≤ n1 ∧ n1 ≤ 5) (hn2 : 0 ≤ n2 ∧ n2 ≤ 5) (hkv : 1 ≤ kv ∧ kv ≤ 3) (he : e.length ≤ 2) (hasc : (⟨#[c0, c1, c2]⟩ : Str).cps.all (· < 128) = true) :
  CSpec w 30 137 [.ref D, .str ⟨#[c0, c1, c2]⟩ tn, .str ⟨e.toArray⟩ te, .int kv tk] news (RStr ⟨(sentF kv.toNat (mailF n0 n1 n2 c0 c1 c2 e)).toArray⟩ news) := by
  have hml : (mailF n0 n1 n2 c0 c1 c2 e).length ≤ 30 := by
    unfold mailF lineF
    simp only [List.length_append, List.length_replicate, List.length_cons, List.length_nil]
    omega
  have hml2 : (lineF n0 c0 e ++ lineF n1 c1 e ++ lineF n2 c2 e).length ≤ 1000 := Nat.le_trans hml (by decide)
  intro loose mean mg mb dp un gd cn cs a ccd cl outer A₀ base h₀ L m s Q E hB F X N₀ T hk hd hu hret
  have N : News h₀ L s.heap [(D, od)] := fun p hp => by rw [List.mem_singleton.mp hp]; exact N₀ _ hD
  refine wpAny_call ?_
  k_dflt (refine' enter_cellsG ?k1 ?k2 ?k3 N ?k5 ?kA ?kF ?kK ?k6 ?k7 ?k8 ?k9 ?kB ?kD ?_ ?c2 ?c3 ?c4; (case kA => exact rfl); (case kF => exact rfl); (case kK => assumption); (case k1 => k_asm); (case k2 => k_asm); (case k3 => k_asm); (case k5 => k_asm); (case k6 => k_is); (case k7 => k_is); (case k8 => exact Nat.lt_of_le_of_lt (Nat.le_add_right _ _) hd); (case k9 => exact BindsTo.of_eq rfl); (case kB => exact rfl); (case kD => decide +kernel); (case c2 => exact rfl); (case c3 => exact rfl); (case c4 => exact rfl); k_whole; intro gG L' h' tk' cells' FG' F' N' Y' B' X' T' l1 hG; (try k_lt l1); k_cells Y'; (try simp only [List.cons_append, List.nil_append] at N'); (try dsimp only); (try k_lift B'); (try k_fold))
  k_steps
  unfold Stop
  rename IsRange _ _ _ _ _ _ _ _ => hR
  rename Fr _ _ _ _ => hF
  rename News _ _ _ _ => hN
  refine iter_txt (fun i => ⟨(sentF i (mailF n0 n1 n2 c0 c1 c2 e)).toArray⟩) (Str.ofString "mail") (by rintro z rfl; decide) rfl hR ⟨by omega, by omega, by omega⟩ hF hN ?_ ?_
  · intro ox t h tkx F1 N1
    rw [show (kv - 0).toNat = kv.toNat by rw [Int.sub_zero]] at F1
    k_steps
    rename_i kF kN kT kX
    refine hret t h tkx kF (news_back N₀ N hG F1 kN (by
      intro p hp
      simp only [List.mem_cons, List.not_mem_nil, or_false] at hp
      subst hp
      k_mem))
  · intro I i t u h tkx hi hI F1 N1
    k_lt hI
    have hxl : (sentF i (mailF n0 n1 n2 c0 c1 c2 e)).length ≤ 1000 := by
      have h0 : (sentF 0 (mailF n0 n1 n2 c0 c1 c2 e)).length ≤ 30 := hml
      have h1 := qdF_len (sentF 0 (mailF n0 n1 n2 c0 c1 c2 e))
      have h2 := qdF_len (sentF 1 (mailF n0 n1 n2 c0 c1 c2 e))
      rcases (by omega : i = 0 ∨ i = 1 ∨ i = 2) with rfl | rfl | rfl
      · omega
      · show (qdF (sentF 0 _)).length ≤ 1000; omega
      · show (qdF (sentF 1 _)).length ≤ 1000
        have h3 : (sentF 1 (mailF n0 n1 n2 c0 c1 c2 e)).length ≤ 120 := by show (qdF (sentF 0 _)).length ≤ 120; omega
        omega
    k_steps
    unfold Stop
    rename_i t2 h1 tk1 h2 FB NB
    refine unr_first FB NB (fun p hp => by
      simp only [List.mem_cons, List.not_mem_nil, or_false] at hp
      rcases hp with rfl | rfl | rfl | rfl <;> (refine neN ?_; dsimp only; omega)) ?_
    refine ⟨some (.int (0 + (i : Int)) u), t2, fun z => ?_, rfl⟩
    by_cases q1 : z = Str.ofString "go"
    · subst q1; rfl
    · by_cases q2 : z = Str.ofString "mail"
      · subst q2; rfl
      · simp only [q1, q2, if_false]

end Mine
end
section
example : True := by (w_top off; trivial)
example : True := by (k_with_none; trivial)
example : True := by
  k_with "call builtin:min" => (k_here; (with_reducible show wpAny _ _ (call (Value.builtin _) [Value.int _ _, Value.int _ _, Value.int _ _]) _ _ _); k_dflt (refine' min3_N ?k0K9 ?k1K9 ?k2K9 ?_; (case k0K9 => rfl); (case k1K9 => k_asm); (case k2K9 => k_asm)); intro h' tk tok F' N'; revert h' tk tok F' N'; intro _ _ _ _ _)
  k_with "call builtin:max" => (k_here; (with_reducible show wpAny _ _ (call (Value.builtin _) [Value.int _ _, Value.int _ _, Value.int _ _]) _ _ _); k_dflt (refine' max3_N ?k0K9 ?k1K9 ?k2K9 ?_; (case k0K9 => rfl); (case k1K9 => k_asm); (case k2K9 => k_asm)); intro h' tk tok F' N'; revert h' tk tok F' N'; intro _ _ _ _ _)
  k_with "binaryOp Div int int" => (k_here; refine div_small (by omega) (by omega) ?_)
  k_with "subscriptTail" => (k_here; (with_reducible show wpAny _ _ (subscriptTail _ _ (Value.ref _) (Value.int _ _)) _ _ _); k_dflt (first
      | (refine' tup_item ?NK9 ?mK9 ?aK9 ?bK9 ?cK9 ?dK9 ?_ ?eK9; (case NK9 => k_asm); (case mK9 => k_mem); (case aK9 => decide); (case bK9 => decide); (case cK9 => rfl); (case dK9 => rfl); (case eK9 => with_unfolding_all rfl); k_whole)
      | (refine' lst_item ?NK9 ?mK9 ?aK9 ?bK9 ?cK9 ?_ ?eK9; (case NK9 => k_asm); (case mK9 => k_mem); (case aK9 => decide); (case bK9 => decide); (case cK9 => rfl); (case eK9 => with_unfolding_all rfl); k_whole)
      | (refine' lst_itemN ?NK9 ?mK9 ?aK9 ?bK9 ?cK9 ?dK9 ?_ ?eK9; (case NK9 => k_asm); (case mK9 => k_mem); (case aK9 => decide); (case bK9 => decide); (case cK9 => decide); (case dK9 => rfl); (case eK9 => with_unfolding_all rfl); k_whole)))
  trivial
open PySem PySem.W PyProof.Rows PySem.Calls PySem.Spec
namespace Mine
theorem end_strS {v u : Str} {news : List (Addr × Obj)} {h₀ : Heap} {L : Addr} {m : Str → Option Value} {s : Shared} {Q : Value → Shared → Prop} {t : Tok} {h' : Heap} {tk' : Nat}
    (hret : RStr v news h₀ L m s Q) (kF : Fr h₀ L h' m) (kN : News h₀ L h' news) (e : u = v) : Q (.str u t) { s with heap := h', toks := tk' } := by
  subst e; exact hret _ _ _ kF kN
noncomputable def leftF (m c : Nat) (tl : List Nat) : List Nat := List.replicate m 46 ++ [c, 58, 46, 13, 10] ++ tl
theorem left_at (m c : Nat) (tl : List Nat) (k : Nat) : (k < m → (leftF m c tl)[k]? = some 46) ∧ (leftF m c tl)[m]? = some c ∧ (leftF m c tl)[m + 1]? = some 58 ∧ (leftF m c tl)[m + 2]? = some 46 ∧ (leftF m c tl)[m + 3]? = some 13 ∧ (leftF m c tl)[m + 4]? = some 10 := by
  unfold leftF
  refine ⟨fun h => ?_, ?_, ?_, ?_, ?_, ?_⟩
  · rw [List.append_assoc, List.getElem?_append_left (by simpa using h), List.getElem?_replicate, if_pos h]
  all_goals (rw [List.append_assoc, List.getElem?_append_right (by simp), List.length_replicate]; simp)
theorem slice_c (m c : Nat) (tl : List Nat) (a b : Int) (ha : a = (m : Int)) (hb : b = (m : Int) + 1) : Txt.slice ⟨(leftF m c tl).toArray⟩ (some a) (some b) = ⟨#[c]⟩ := by
  subst ha
  obtain rfl : b = ((m + 1 : Nat) : Int) := by omega
  have h1 := StrLaws.sliceText_nat (⟨(leftF m c tl).toArray⟩ : Str) (a := m) (b := m + 1) (by omega) (by show m + 1 ≤ (leftF m c tl).toArray.size; simp [leftF])
  refine Eq.trans ?_ (h1.trans ?_)
  · rfl
  · show (⟨(((leftF m c tl).drop m).take (m + 1 - m)).toArray⟩ : Str) = _
    rw [show m + 1 - m = 1 by omega]
    unfold leftF
    rw [List.append_assoc, List.drop_left' (by simp)]
    rfl

example : True := by
  k_with "call builtin:len" => (k_here; (with_reducible show wpAny _ _ (call (Value.builtin _) [Value.str _ _]) _ _ _); k_dflt (refine' len_1 ?k1K9 ?k2K9 ?_; (case k1K9 => with_reducible assumption); (case k2K9 => omega)))
  k_with "call builtin:str.find" => (k_here; first
      | ((with_reducible show wpAny _ _ (call (Value.builtin _) [Value.str _ _, Value.str _ _]) _ _ _); k_dflt (refine' find_1 ?k1K9 ?k2K9 ?k3K9 ?_; (case k3K9 => with_reducible assumption); (case k1K9 => first | rfl | decide +kernel); (case k2K9 => omega)))
      | ((with_reducible show wpAny _ _ (call (Value.builtin _) [Value.str _ _, Value.str _ _, Value.int _ _, Value.int _ _]) _ _ _); k_dflt (refine' find_3 ?k1K9 ?k2K9 ?k3K9 ?k4K9 ?k5K9 ?_; (case k4K9 => with_reducible assumption); (case k1K9 => first | rfl | decide +kernel); (case k5K9 => omega); (case k2K9 => omega); (case k3K9 => dsimp only; omega))))
  k_with "call builtin:str.rfind" => (k_here; ((with_reducible show wpAny _ _ (call (Value.builtin _) [Value.str _ _, Value.str _ _, Value.int _ _, Value.int _ _]) _ _ _); k_dflt (refine' rfind_3 ?k1K9 ?k2K9 ?k3K9 ?k4K9 ?k5K9 ?_; (case k4K9 => with_reducible assumption); (case k1K9 => first | rfl | decide +kernel); (case k5K9 => omega); (case k2K9 => omega); (case k3K9 => dsimp only; omega))))
  trivial
theorem c_strip (w : World) (news : List (Addr × Obj)) (mm c : Nat) (tl : List Nat) (tx : Tok) (hm : 1 ≤ mm ∧ mm ≤ 10) (hc : c ≠ 46 ∧ c ≠ 58 ∧ c ≠ 10) (htl : tl.length ≤ 100) :
  CSpec w 10 87 [.str ⟨(leftF mm c tl).toArray⟩ tx] news (RStr ⟨#[c]⟩ news) := by
  obtain ⟨n1, hn1⟩ : ∃ n : Int, n = (mm : Int) + 4 := ⟨_, rfl⟩
  obtain ⟨n2, hn2⟩ : ∃ n : Int, n = (mm : Int) + 1 := ⟨_, rfl⟩
  obtain ⟨n3, hn3⟩ : ∃ n : Int, n = (mm : Int) - 1 := ⟨_, rfl⟩
  obtain ⟨n0, hn0⟩ : ∃ n : Int, n = (mm : Int) + 5 + tl.length := ⟨_, rfl⟩
  have hsz : ((leftF mm c tl).toArray.size : Int) = n0 := by rw [hn0]; simp [leftF]; omega
  have hA := left_at mm c tl
  have e1 : n1.toNat = mm + 4 := by omega
  have e2 : n2.toNat = mm + 1 := by omega
  have e3 : n3.toNat = mm - 1 := by omega
  have h1 : FirstAt (leftF mm c tl).toArray.toList 10 (leftF mm c tl).toArray.size n1.toNat := by
    refine ⟨by omega, by rw [e1]; exact (hA 0).2.2.2.2.2, fun k hk => ?_⟩
    rcases (by omega : k < mm ∨ k = mm ∨ k = mm + 1 ∨ k = mm + 2 ∨ k = mm + 3) with q | rfl | rfl | rfl | rfl
    · rw [(hA k).1 q]; decide
    · rw [(hA 0).2.1]; intro e; exact hc.2.2 (Option.some.inj e)
    · rw [(hA 0).2.2.1]; decide
    · rw [(hA 0).2.2.2.1]; decide
    · rw [(hA 0).2.2.2.2.1]; decide
  have h2 : FirstAt (leftF mm c tl).toArray.toList 58 n1.toNat n2.toNat := by
    refine ⟨by omega, by rw [e2]; exact (hA 0).2.2.1, fun k hk => ?_⟩
    rcases (by omega : k < mm ∨ k = mm) with q | rfl
    · rw [(hA k).1 q]; decide
    · rw [(hA 0).2.1]; intro e; exact hc.2.1 (Option.some.inj e)
  have h3 : LastAt (leftF mm c tl).toArray.toList 46 n2.toNat n3.toNat := by
    refine ⟨by omega, by rw [e3]; exact (hA (mm - 1)).1 (by omega), fun k hk hk2 => ?_⟩
    obtain rfl : k = mm := by omega
    rw [(hA 0).2.1]; intro e; exact hc.1 (Option.some.inj e)
  intro loose mean mg mb dp un gd cn cs a ccd cl outer A₀ base h₀ L m s Q E hB F X N₀ T hk hd hu hret
  have N : News h₀ L s.heap [] := fun _ h => nomatch h
  refine wpAny_call ?_
  k_dflt (refine' code_defG ?k1 ?k2 ?k3 N ?k5 ?kA ?kF ?kK ?k6 ?k7 ?k8 ?k9 ?kB ?_ ?c2 ?c3 ?c4 ?c5; (case kA => exact rfl); (case kF => exact rfl); (case kK => assumption); (case k1 => k_asm); (case k2 => k_asm); (case k3 => k_asm); (case k5 => k_asm); (case k6 => k_is); (case k7 => k_is); (case k8 => ktr_room); (case k9 => exact BindsTo.of_eq rfl); (case c5 => decide); (case kB => exact locs rfl); (case c2 => exact rfl); (case c3 => exact rfl); (case c4 => exact rfl); k_whole; intro gG L' h' FG' F' N' B' X' T' hG; (try dsimp only); (try k_lift B'); (try k_fold))
  k_steps
  rename_i hB tB kB FB NB aB kF kN kT kX
  refine end_strS hret kF (news_back N₀ N hG FB kN fun _ h => nomatch h) (slice_c mm c tl _ _ (by omega) (by omega))

end Mine
end
section
example : True := by (w_top off; trivial)
example : True := by (k_with_none; trivial)
example : True := by
  k_with "call builtin:min" => (k_here; (with_reducible show wpAny _ _ (call (Value.builtin _) [Value.int _ _, Value.int _ _, Value.int _ _]) _ _ _); k_dflt (refine' min3_N ?k0K9 ?k1K9 ?k2K9 ?_; (case k0K9 => rfl); (case k1K9 => k_asm); (case k2K9 => k_asm)); intro h' tk tok F' N'; revert h' tk tok F' N'; intro _ _ _ _ _)
  k_with "call builtin:max" => (k_here; (with_reducible show wpAny _ _ (call (Value.builtin _) [Value.int _ _, Value.int _ _, Value.int _ _]) _ _ _); k_dflt (refine' max3_N ?k0K9 ?k1K9 ?k2K9 ?_; (case k0K9 => rfl); (case k1K9 => k_asm); (case k2K9 => k_asm)); intro h' tk tok F' N'; revert h' tk tok F' N'; intro _ _ _ _ _)
  k_with "binaryOp Div int int" => (k_here; refine div_small (by omega) (by omega) ?_)
  k_with "subscriptTail" => (k_here; (with_reducible show wpAny _ _ (subscriptTail _ _ (Value.ref _) (Value.int _ _)) _ _ _); k_dflt (first
      | (refine' tup_item ?NK9 ?mK9 ?aK9 ?bK9 ?cK9 ?dK9 ?_ ?eK9; (case NK9 => k_asm); (case mK9 => k_mem); (case aK9 => decide); (case bK9 => decide); (case cK9 => rfl); (case dK9 => rfl); (case eK9 => with_unfolding_all rfl); k_whole)
      | (refine' lst_item ?NK9 ?mK9 ?aK9 ?bK9 ?cK9 ?_ ?eK9; (case NK9 => k_asm); (case mK9 => k_mem); (case aK9 => decide); (case bK9 => decide); (case cK9 => rfl); (case eK9 => with_unfolding_all rfl); k_whole)
      | (refine' lst_itemN ?NK9 ?mK9 ?aK9 ?bK9 ?cK9 ?dK9 ?_ ?eK9; (case NK9 => k_asm); (case mK9 => k_mem); (case aK9 => decide); (case bK9 => decide); (case cK9 => decide); (case dK9 => rfl); (case eK9 => with_unfolding_all rfl); k_whole)))
  trivial
open PySem PySem.W PyProof.Rows PySem.Calls PySem.Spec
namespace Mine
section
variable {prog : Program} {w : World} {A : Around} {E : Value → Shared → Prop} {s : Shared} {h₀ : Heap} {L : Addr} {m : Str → Option Value} {news : List (Addr × Obj)}
theorem joinL {D : Addr} {sep : Str} {l : List (Str × Tok)} {t : Tok} {r : List Nat} {Q : Value → Shared → Prop} (hl : s.heap.IsList D (strValues l).toArray) (e : (Str.join sep (l.map (·.1))).cps.toList = r) (hb : r.length ≤ 1000)
    (h : ∀ t' k, Q (.str ⟨r.toArray⟩ t') { s with toks := k }) (hsz : ((l.map (·.1)).map (·.length)).sum + (l.map (·.1)).length * sep.length ≤ 16777216) : wpAny (model prog w) A (call (.builtin "str.join") [.str sep t, .ref D]) Q E s := by
  refine SC.join hl rfl ?_ fun t' k => ?_
  · unfold JoinOk Builtin.Str.tooLong
    rw [StrLaws.joinTotal]
    rw [decide_eq_false (by unfold sizeLine; omega)]
    rfl
  · have h2 : Txt.join sep (l.map (·.1)) = ⟨r.toArray⟩ := by
      show Builtin.Str.glued _ _ = _
      rw [StrLaws.glued_eq_join, ← e]
    rw [h2]
    exact h t' k
theorem joinn_4 {D : Addr} {ep : Nat} {m0 m1 m2 : Int} {c0 c1 c2 : Nat} {x : Str} {t t0 t1 t2 t3 : Tok} {Q : Value → Shared → Prop} (N : News h₀ L s.heap news) (hx : x = nl) (hm : (D, PySem.W.listOf [.str ⟨(lineF m0 c0 []).toArray⟩ t0, .str ⟨(lineF m1 c1 []).toArray⟩ t1, .str ⟨(lineF m2 c2 []).toArray⟩ t2, .str ⟨#[]⟩ t3].toArray ep) ∈ news) (hl : (leftF m0.toNat c0 (lineF m1 c1 [13, 10] ++ lineF m2 c2 [13, 10])).length ≤ 1000)
    (h : ∀ t' k, Q (.str ⟨(leftF m0.toNat c0 (lineF m1 c1 [13, 10] ++ lineF m2 c2 [13, 10])).toArray⟩ t') { s with toks := k }) : wpAny (model prog w) A (call (.builtin "str.join") [.str x t, .ref D]) Q E s := by
  subst hx
  exact joinL (l := [(⟨(lineF m0 c0 []).toArray⟩, t0), (⟨(lineF m1 c1 []).toArray⟩, t1), (⟨(lineF m2 c2 []).toArray⟩, t2), (⟨#[]⟩, t3)]) ⟨_, (N _ hm).1, rfl, _, rfl⟩ (by simp [Str.join, leftF, lineF, PySem.Str.cps_append]) hl h (by simp [leftF, lineF] at hl; simp [lineF, Str.length]; omega)
theorem joinn_3 {D : Addr} {ep : Nat} {m1 m2 : Int} {c1 c2 : Nat} {x : Str} {t t0 t1 t2 : Tok} {Q : Value → Shared → Prop} (N : News h₀ L s.heap news) (hx : x = nl) (hm : (D, PySem.W.listOf [.str ⟨(lineF m1 c1 []).toArray⟩ t0, .str ⟨(lineF m2 c2 []).toArray⟩ t1, .str ⟨#[]⟩ t2].toArray ep) ∈ news) (hl : (leftF m1.toNat c1 (lineF m2 c2 [13, 10])).length ≤ 1000)
    (h : ∀ t' k, Q (.str ⟨(leftF m1.toNat c1 (lineF m2 c2 [13, 10])).toArray⟩ t') { s with toks := k }) : wpAny (model prog w) A (call (.builtin "str.join") [.str x t, .ref D]) Q E s := by
  subst hx
  exact joinL (l := [(⟨(lineF m1 c1 []).toArray⟩, t0), (⟨(lineF m2 c2 []).toArray⟩, t1), (⟨#[]⟩, t2)]) ⟨_, (N _ hm).1, rfl, _, rfl⟩ (by simp [Str.join, leftF, lineF, PySem.Str.cps_append]) hl h (by simp [leftF, lineF] at hl; simp [lineF, Str.length]; omega)
theorem joinn_2 {D : Addr} {ep : Nat} {m2 : Int} {c2 : Nat} {x : Str} {t t0 t1 : Tok} {Q : Value → Shared → Prop} (N : News h₀ L s.heap news) (hx : x = nl) (hm : (D, PySem.W.listOf [.str ⟨(lineF m2 c2 []).toArray⟩ t0, .str ⟨#[]⟩ t1].toArray ep) ∈ news) (hl : (leftF m2.toNat c2 []).length ≤ 1000)
    (h : ∀ t' k, Q (.str ⟨(leftF m2.toNat c2 []).toArray⟩ t') { s with toks := k }) : wpAny (model prog w) A (call (.builtin "str.join") [.str x t, .ref D]) Q E s := by
  subst hx
  exact joinL (l := [(⟨(lineF m2 c2 []).toArray⟩, t0), (⟨#[]⟩, t1)]) ⟨_, (N _ hm).1, rfl, _, rfl⟩ (by simp [Str.join, leftF, lineF, PySem.Str.cps_append]) hl h (by simp [leftF, lineF] at hl; simp [lineF, Str.length]; omega)
end
theorem mail_rows (m0 m1 m2 : Int) (c0 c1 c2 : Nat) (h0 : c0 ≠ 13) (h1 : c1 ≠ 13) (h2 : c2 ≠ 13) : Txt.split ⟨(mailF m0 m1 m2 c0 c1 c2 [13, 10]).toArray⟩ nl = [⟨(lineF m0 c0 []).toArray⟩, ⟨(lineF m1 c1 []).toArray⟩, ⟨(lineF m2 c2 []).toArray⟩, ⟨#[]⟩] := by
  have e : mailF m0 m1 m2 c0 c1 c2 [13, 10] = rowsT [lineF m0 c0 [], lineF m1 c1 [], lineF m2 c2 []] := by simp [mailF, lineF, rowsT]
  rw [e, split_rows _ (by simp)]
  · rfl
  · have key : ∀ (n : Int) (c : Nat), c ≠ 13 → 13 ∉ lineF n c [] := by
      intro n c hc hm
      simp [lineF] at hm
      exact hc hm.symm
    intro A hA
    simp only [List.mem_cons, List.not_mem_nil, or_false] at hA
    rcases hA with rfl | rfl | rfl
    · exact key _ _ h0
    · exact key _ _ h1
    · exact key _ _ h2

example : True := by
  k_with "call builtin:str.find" => (k_here; ((with_reducible show wpAny _ _ (call (Value.builtin _) [Value.str _ _, Value.str _ _]) _ _ _); k_dflt (refine' find_1 ?k1K9 ?k2K9 ?k3K9 ?_; (case k3K9 => with_reducible assumption); (case k1K9 => first | rfl | decide +kernel); (case k2K9 => omega))))
  k_with "call builtin:str.split" => (k_here; k_dflt (refine' split4_N ?FK9 ?NK9 ?spK9 ?yK9 ?xK9 ?_; (case FK9 => k_asm); (case NK9 => k_asm); (case spK9 => with_reducible assumption); (case yK9 => first | rfl | decide +kernel); (case xK9 => with_reducible assumption)); intro t0' t1' t2' t3' D' h' tk' F' N' l1; (try k_lt l1); revert t0' t1' t2' t3' D' h' tk' F' N' l1; intro _ _ _ _ _ _ _ _ _ _)
  k_with "call builtin:str.join" => (k_here; k_dflt (first
      | (refine' joinn_4 ?NK9 ?xK9 ?mK9 ?lK9 ?_; (case NK9 => k_asm); (case mK9 => k_mem); (case xK9 => first | rfl | decide +kernel); (case lK9 => with_reducible assumption))
      | (refine' joinn_3 ?NK9 ?xK9 ?mK9 ?lK9 ?_; (case NK9 => k_asm); (case mK9 => k_mem); (case xK9 => first | rfl | decide +kernel); (case lK9 => with_reducible assumption))
      | (refine' joinn_2 ?NK9 ?xK9 ?mK9 ?lK9 ?_; (case NK9 => k_asm); (case mK9 => k_mem); (case xK9 => first | rfl | decide +kernel); (case lK9 => with_reducible assumption))); intro t9' k9'; revert t9' k9'; intro _ _)
  k_with "call ref" => (k_here; (with_reducible show wpAny _ _ (call (Value.ref 87) [Value.str _ _]) _ _ _); k_dflt (refine' cspec_go (c_strip _ _ _ _ _ _ ?p1K9 ?p2K9 ?p3K9) ?_; (case p1K9 => omega); (case p2K9 => with_reducible assumption); (case p3K9 => with_reducible assumption)); intro t h' tk' F' N'; revert t h' tk' F' N'; intro _ _ _ _ _)
  trivial
theorem first_left (m c : Nat) (tl : List Nat) (hc : c ≠ 46) : FirstAt (leftF m c tl).toArray.toList c (leftF m c tl).toArray.size m := by
  have hA := left_at m c tl
  refine ⟨by simp [leftF], (hA 0).2.1, fun k hk => ?_⟩
  rw [(hA k).1 hk]; intro e; exact hc (Option.some.inj e).symm
noncomputable abbrev kvs3 (m0 m1 m2 : Int) (c0 c1 c2 : Nat) (t0 t1 t2 : Tok) : List (Str × Value) := PySem.stored (PySem.stored (PySem.stored [] (⟨#[c0]⟩ : Str) (Value.int m0 t0)) ⟨#[c1]⟩ (.int m1 t1)) ⟨#[c2]⟩ (.int m2 t2)
noncomputable abbrev RDict3 (w : World) (m0 m1 m2 : Int) (c0 c1 c2 : Nat) (news : List (Addr × Obj)) (h₀ : Heap) (L : Addr) (m : Str → Option Value) (s : Shared) (Q : Value → Shared → Prop) : Prop :=
  ∀ (D : Addr) (o : Obj) (t0 t1 t2 : Tok) (h' : Heap) (tk' : Nat), o.IsDictOf (PySem.strKind PySem.Challenge.pw_sn0025_01 w) (kvs3 m0 m1 m2 c0 c1 c2 t0 t1 t2) → (D == sysModules) = false → Fr h₀ L h' m → News h₀ L h' ((D, o) :: news) → (∀ p ∈ news, p.1 ≠ D) → Q (.ref D) { s with heap := h', toks := tk' }
theorem c_read (w : World) (news : List (Addr × Obj)) (m0 m1 m2 : Int) (c0 c1 c2 : Nat) (tx : Tok) (hm0 : 1 ≤ m0 ∧ m0 ≤ 10) (hm1 : 1 ≤ m1 ∧ m1 ≤ 10) (hm2 : 1 ≤ m2 ∧ m2 ≤ 10)
   (hc0 : c0 ≠ 46 ∧ c0 ≠ 58 ∧ c0 ≠ 10) (hc1 : c1 ≠ 46 ∧ c1 ≠ 58 ∧ c1 ≠ 10) (hc2 : c2 ≠ 46 ∧ c2 ≠ 58 ∧ c2 ≠ 10) (h13 : c0 ≠ 13 ∧ c1 ≠ 13 ∧ c2 ≠ 13) :
  CSpec w 30 144 [.str ⟨(mailF m0 m1 m2 c0 c1 c2 [13, 10]).toArray⟩ tx] news (RDict3 w m0 m1 m2 c0 c1 c2 news) := by
  have hsp := mail_rows m0 m1 m2 c0 c1 c2 h13.1 h13.2.1 h13.2.2
  have hz : (mailF m0 m1 m2 c0 c1 c2 [13, 10]).toArray.size ≤ 1000 := by simp [mailF, lineF]; omega
  have hl0 : (leftF m0.toNat c0 (lineF m1 c1 [13, 10] ++ lineF m2 c2 [13, 10])).length ≤ 1000 := by simp [leftF, lineF]; omega
  have hl1 : (leftF m1.toNat c1 (lineF m2 c2 [13, 10])).length ≤ 1000 := by simp [leftF, lineF]; omega
  have hl2 : (leftF m2.toNat c2 []).length ≤ 1000 := by simp [leftF]; omega
  have hq0 : (lineF m1 c1 [13, 10] ++ lineF m2 c2 [13, 10]).length ≤ 100 := by simp [lineF]; omega
  have hq1 : (lineF m2 c2 [13, 10]).length ≤ 100 := by simp [lineF]; omega
  have hq2 : ([] : List Nat).length ≤ 100 := by simp
  have hf0 := first_left m0.toNat c0 (lineF m1 c1 [13, 10] ++ lineF m2 c2 [13, 10]) hc0.1
  have hf1 := first_left m1.toNat c1 (lineF m2 c2 [13, 10]) hc1.1
  have hf2 := first_left m2.toNat c2 [] hc2.1
  intro loose mean mg mb dp un gd cn cs a ccd cl outer A₀ base h₀ L m s Q E hB F X N₀ T hk hd hu hret
  have N : News h₀ L s.heap [] := fun _ h => nomatch h
  refine wpAny_call ?_
  k_dflt (refine' code_defG ?k1 ?k2 ?k3 N ?k5 ?kA ?kF ?kK ?k6 ?k7 ?k8 ?k9 ?kB ?_ ?c2 ?c3 ?c4 ?c5; (case kA => exact rfl); (case kF => exact rfl); (case kK => assumption); (case k1 => k_asm); (case k2 => k_asm); (case k3 => k_asm); (case k5 => k_asm); (case k6 => k_is); (case k7 => k_is); (case k8 => exact Nat.lt_of_le_of_lt (Nat.le_add_right _ _) hd); (case k9 => exact BindsTo.of_eq rfl); (case c5 => decide); (case kB => exact locs rfl); (case c2 => exact rfl); (case c3 => exact rfl); (case c4 => exact rfl); k_whole; intro gG L' h' FG' F' N' B' X' T' hG; (try dsimp only); (try k_lift B'); (try k_fold))
  k_steps
  rename_i o1 F1 N1 hd1 hf1 hB tkB FB NB kF kN kT kX
  refine hret _ _ _ _ _ hB tkB hd1 ?_ kF ?_ ?_
  · assumption
  · exact (news_backD N₀ N hG FB kN (fun _ h => nomatch h) NB (by k_mem) (by k_mem) (fun _ h => nomatch h)).1
  · exact (news_backD N₀ N hG FB kN (fun _ h => nomatch h) NB (o := o1) (by k_mem) (by k_mem) (fun _ h => nomatch h)).2

end Mine
end
section
example : True := by (w_top off; trivial)
example : True := by (k_with_none; trivial)
example : True := by
  k_with "call builtin:min" => (k_here; (with_reducible show wpAny _ _ (call (Value.builtin _) [Value.int _ _, Value.int _ _, Value.int _ _]) _ _ _); k_dflt (refine' min3_N ?k0K9 ?k1K9 ?k2K9 ?_; (case k0K9 => rfl); (case k1K9 => k_asm); (case k2K9 => k_asm)); intro h' tk tok F' N'; revert h' tk tok F' N'; intro _ _ _ _ _)
  k_with "call builtin:max" => (k_here; (with_reducible show wpAny _ _ (call (Value.builtin _) [Value.int _ _, Value.int _ _, Value.int _ _]) _ _ _); k_dflt (refine' max3_N ?k0K9 ?k1K9 ?k2K9 ?_; (case k0K9 => rfl); (case k1K9 => k_asm); (case k2K9 => k_asm)); intro h' tk tok F' N'; revert h' tk tok F' N'; intro _ _ _ _ _)
  k_with "binaryOp Div int int" => (k_here; refine div_small (by omega) (by omega) ?_)
  k_with "subscriptTail" => (k_here; (with_reducible show wpAny _ _ (subscriptTail _ _ (Value.ref _) (Value.int _ _)) _ _ _); k_dflt (first
      | (refine' tup_item ?NK9 ?mK9 ?aK9 ?bK9 ?cK9 ?dK9 ?_ ?eK9; (case NK9 => k_asm); (case mK9 => k_mem); (case aK9 => decide); (case bK9 => decide); (case cK9 => rfl); (case dK9 => rfl); (case eK9 => with_unfolding_all rfl); k_whole)
      | (refine' lst_item ?NK9 ?mK9 ?aK9 ?bK9 ?cK9 ?_ ?eK9; (case NK9 => k_asm); (case mK9 => k_mem); (case aK9 => decide); (case bK9 => decide); (case cK9 => rfl); (case eK9 => with_unfolding_all rfl); k_whole)
      | (refine' lst_itemN ?NK9 ?mK9 ?aK9 ?bK9 ?cK9 ?dK9 ?_ ?eK9; (case NK9 => k_asm); (case mK9 => k_mem); (case aK9 => decide); (case bK9 => decide); (case cK9 => decide); (case dK9 => rfl); (case eK9 => with_unfolding_all rfl); k_whole)))
  trivial
open PySem
namespace Mine
theorem crlf_free : ∀ (a l : List Nat), (∀ x ∈ a, x ≠ 10 ∧ x ≠ 13) → crlfF (a ++ l) = a ++ crlfF l
  | [], _, _ => rfl
  | x :: a, l, h => by
    have hx := h x (.head _)
    show crlfF (x :: (a ++ l)) = x :: (a ++ crlfF l)
    conv => lhs; unfold crlfF
    rw [if_neg (by simpa using hx.1), if_neg (by simpa using hx.2), crlf_free a l fun y hy => h y (.tail _ hy)]
theorem dot_free : ∀ (a l : List Nat), (∀ x ∈ a, x ≠ 10) → dotF false (a ++ l) = a ++ dotF false l
  | [], _, _ => rfl
  | x :: a, l, h => by
    have hx := h x (.head _)
    show dotF false (x :: (a ++ l)) = x :: (a ++ dotF false l)
    conv => lhs; unfold dotF
    rw [if_neg (by simp), show (x == 10) = false by simpa using hx, dot_free a l fun y hy => h y (.tail _ hy)]
noncomputable def EndOk (e : List Nat) : Prop := e = [10] ∨ e = [13] ∨ e = [13, 10]
theorem crlf_end {e l : List Nat} (he : EndOk e) (hl : l = [] ∨ ∃ r, l = 46 :: r) : crlfF (e ++ l) = 13 :: 10 :: crlfF l := by
  rcases he with rfl | rfl | rfl
  · show crlfF (10 :: l) = _
    conv => lhs; unfold crlfF
    rfl
  · rcases hl with rfl | ⟨r, rfl⟩
    · rfl
    · show crlfF (13 :: 46 :: r) = _
      conv => lhs; unfold crlfF
      rfl
  · rfl
theorem row_crlf {n : Int} {c : Nat} {e l : List Nat} (hc : c ≠ 10 ∧ c ≠ 13) (he : EndOk e) (hl : l = [] ∨ ∃ r, l = 46 :: r) : crlfF (lineF n c e ++ l) = lineF n c [13, 10] ++ crlfF l := by
  unfold lineF
  rw [List.append_assoc, crlf_free, crlf_end he hl]
  · simp
  · intro x hx
    simp only [List.mem_append, List.mem_replicate, List.mem_cons, List.not_mem_nil, or_false] at hx
    rcases hx with ⟨_, rfl⟩ | rfl | rfl | rfl
    · decide
    · exact hc
    · decide
    · decide
theorem row_dot {n : Int} {c : Nat} {l : List Nat} (hn : 1 ≤ n) (hc : c ≠ 10) : dotF true (lineF n c [13, 10] ++ l) = lineF (n + 1) c [13, 10] ++ dotF true l := by
  obtain ⟨k, hk⟩ : ∃ k, n.toNat = k + 1 := ⟨n.toNat - 1, by omega⟩
  have hk2 : (n + 1).toNat = k + 2 := by omega
  unfold lineF
  rw [hk, hk2]
  show dotF true (46 :: (List.replicate k 46 ++ [c, 58, 46] ++ [13, 10] ++ l)) = _
  conv => lhs; unfold dotF
  rw [if_pos (by decide)]
  have e : List.replicate k 46 ++ [c, 58, 46] ++ [13, 10] ++ l = (List.replicate k 46 ++ [c, 58, 46, 13]) ++ 10 :: l := by simp
  rw [e, show (46 == 10) = false from rfl, dot_free]
  · show 46 :: 46 :: ((List.replicate k 46 ++ [c, 58, 46, 13]) ++ dotF false (10 :: l)) = _
    have e2 : dotF false (10 :: l) = 10 :: dotF true l := rfl
    rw [e2]
    show _ = 46 :: 46 :: (List.replicate k 46 ++ [c, 58, 46] ++ [13, 10] ++ dotF true l)
    simp
  · intro x hx
    simp only [List.mem_append, List.mem_replicate, List.mem_cons, List.not_mem_nil, or_false] at hx
    rcases hx with ⟨_, rfl⟩ | rfl | rfl | rfl | rfl
    · decide
    · exact hc
    · decide
    · decide
    · decide
theorem row_head {n : Int} {c : Nat} {e l : List Nat} (hn : 1 ≤ n) : ∃ r, lineF n c e ++ l = 46 :: r := by
  obtain ⟨k, hk⟩ : ∃ k, n.toNat = k + 1 := ⟨n.toNat - 1, by omega⟩
  unfold lineF
  rw [hk, List.replicate_succ]
  exact ⟨_, rfl⟩
theorem qd_mail {n0 n1 n2 : Int} {c0 c1 c2 : Nat} {e : List Nat} (h0 : 1 ≤ n0) (h1 : 1 ≤ n1) (h2 : 1 ≤ n2) (hc0 : c0 ≠ 10 ∧ c0 ≠ 13) (hc1 : c1 ≠ 10 ∧ c1 ≠ 13) (hc2 : c2 ≠ 10 ∧ c2 ≠ 13) (he : EndOk e) :
    qdF (mailF n0 n1 n2 c0 c1 c2 e) = mailF (n0 + 1) (n1 + 1) (n2 + 1) c0 c1 c2 [13, 10] := by
  have e1 : mailF n0 n1 n2 c0 c1 c2 e = lineF n0 c0 e ++ (lineF n1 c1 e ++ (lineF n2 c2 e ++ [])) := by simp [mailF]
  unfold qdF
  rw [e1, row_crlf hc0 he (.inr (row_head h1)), row_crlf hc1 he (.inr (row_head h2)), row_crlf hc2 he (.inl rfl), row_dot h0 hc0.1, row_dot h1 hc1.1, row_dot h2 hc2.1]
  simp [mailF, crlfF, dotF]
theorem sent_mail {n0 n1 n2 : Int} {c0 c1 c2 : Nat} {e : List Nat} (h0 : 1 ≤ n0) (h1 : 1 ≤ n1) (h2 : 1 ≤ n2) (hc0 : c0 ≠ 10 ∧ c0 ≠ 13) (hc1 : c1 ≠ 10 ∧ c1 ≠ 13) (hc2 : c2 ≠ 10 ∧ c2 ≠ 13) (he : EndOk e) :
    ∀ k : Nat, sentF (k + 1) (mailF n0 n1 n2 c0 c1 c2 e) = mailF (n0 + (k + 1 : Nat)) (n1 + (k + 1 : Nat)) (n2 + (k + 1 : Nat)) c0 c1 c2 [13, 10]
  | 0 => qd_mail h0 h1 h2 hc0 hc1 hc2 he
  | k + 1 => by
    show qdF (sentF (k + 1) _) = _
    rw [sent_mail h0 h1 h2 hc0 hc1 hc2 he k, qd_mail (by omega) (by omega) (by omega) hc0 hc1 hc2 (.inr (.inr rfl))]
    simp only [Int.natCast_add, Int.add_assoc]
    rfl
end Mine
end
section
example : True := by (w_top off; trivial)
example : True := by (k_with_none; trivial)
example : True := by
  k_with "call builtin:min" => (k_here; (with_reducible show wpAny _ _ (call (Value.builtin _) [Value.int _ _, Value.int _ _, Value.int _ _]) _ _ _); k_dflt (refine' min3_N ?k0K9 ?k1K9 ?k2K9 ?_; (case k0K9 => rfl); (case k1K9 => k_asm); (case k2K9 => k_asm)); intro h' tk tok F' N'; revert h' tk tok F' N'; intro _ _ _ _ _)
  k_with "call builtin:max" => (k_here; (with_reducible show wpAny _ _ (call (Value.builtin _) [Value.int _ _, Value.int _ _, Value.int _ _]) _ _ _); k_dflt (refine' max3_N ?k0K9 ?k1K9 ?k2K9 ?_; (case k0K9 => rfl); (case k1K9 => k_asm); (case k2K9 => k_asm)); intro h' tk tok F' N'; revert h' tk tok F' N'; intro _ _ _ _ _)
  k_with "binaryOp Div int int" => (k_here; refine div_small (by omega) (by omega) ?_)
  k_with "subscriptTail" => (k_here; (with_reducible show wpAny _ _ (subscriptTail _ _ (Value.ref _) (Value.int _ _)) _ _ _); k_dflt (first
      | (refine' tup_item ?NK9 ?mK9 ?aK9 ?bK9 ?cK9 ?dK9 ?_ ?eK9; (case NK9 => k_asm); (case mK9 => k_mem); (case aK9 => decide); (case bK9 => decide); (case cK9 => rfl); (case dK9 => rfl); (case eK9 => with_unfolding_all rfl); k_whole)
      | (refine' lst_item ?NK9 ?mK9 ?aK9 ?bK9 ?cK9 ?_ ?eK9; (case NK9 => k_asm); (case mK9 => k_mem); (case aK9 => decide); (case bK9 => decide); (case cK9 => rfl); (case eK9 => with_unfolding_all rfl); k_whole)
      | (refine' lst_itemN ?NK9 ?mK9 ?aK9 ?bK9 ?cK9 ?dK9 ?_ ?eK9; (case NK9 => k_asm); (case mK9 => k_mem); (case aK9 => decide); (case bK9 => decide); (case cK9 => decide); (case dK9 => rfl); (case eK9 => with_unfolding_all rfl); k_whole)))
  trivial
open PySem PySem.W PyProof.Rows PySem.Calls PySem.Spec PyProof.V
namespace Mine
open PyProof.Rows.LCg
section
variable {prog : Program} {w : World} {A : Around} {E : Value → Shared → Prop} {s : Shared} {h₀ : Heap} {L : Addr} {m : Str → Option Value} {env : Env}
theorem tup_turn {S : List (Addr × Obj) → Prop} {rest : Value → List (Addr × Obj) → Prop} {I C D : Addr} {oI oC oD : Obj} {news : List (Addr × Obj)} {h : Heap} {tk tk' : Nat} {a b : Value} (F : Fr h₀ L h m) (N : News h₀ L h ((I, oI) :: (C, oC) :: (D, oD) :: news)) (off : Off3 I C D news)
    (hS : ∀ p, S (p :: news)) (hr : ∀ T, (∀ p ∈ news, p.1 < T) → rest (.ref T) ((T, tup2 a b 0) :: news)) :
    wpAny (model prog w) A (newTuple [a, b]) (CompEnd h₀ L m { s with heap := h, toks := tk } I oI C oC D oD S rest) E { s with heap := h, toks := tk' } := by
  refine wpAny_newTuple ?_ (by exact Nat.le_of_ble_eq_true rfl)
  have N2 := News.push F N (tup2 a b 0)
  have hlt : ∀ p ∈ (I, oI) :: (C, oC) :: (D, oD) :: news, p.1 < h.objs.size := fun p hp => Heap.lt_size (N p hp).1
  refine ⟨h.push (tup2 a b 0), tk', (h.objs.size, tup2 a b 0) :: news, rfl, F.push _, fun p hp => N2 p ?_, ?_, hS _, hr _ fun p hp => hlt p (.tail _ (.tail _ (.tail _ hp)))⟩
  · simp only [List.mem_cons] at hp ⊢
    rcases hp with h | h | h | h | h
    · exact .inr (.inl h)
    · exact .inr (.inr (.inl h))
    · exact .inr (.inr (.inr (.inl h)))
    · exact .inl h
    · exact .inr (.inr (.inr (.inr h)))
  · exact ⟨⟨Nat.ne_of_gt (hlt _ (.head _)), Nat.ne_of_gt (hlt _ (.tail _ (.head _))), Nat.ne_of_gt (hlt _ (.tail _ (.tail _ (.head _))))⟩, off⟩
theorem srcAt_cons {ax : Addr} {its : Array Value} {news : List (Addr × Obj)} (h : SrcAt h₀ ax its news) (p : Addr × Obj) : SrcAt h₀ ax its (p :: news) := by
  rcases h with h | ⟨o, hm, r⟩
  · exact .inl h
  · exact .inr ⟨o, .tail _ hm, r⟩
noncomputable abbrev EltN (prog : Program) (w : World) (A : Around) (h₀ : Heap) (L : Addr) (m : Str → Option Value) (env : Env) (elt : Expr) (x : Str) (scope : Scope) (cl : List (Str × Addr)) (s : Shared) (news : List (Addr × Obj)) (v : Value) (f g : Int) : Prop :=
  ∀ C oC m₂ h tk (Qe E' : Value → Shared → Prop), NsObj oC m₂ → m₂ x = some v → Fr h₀ L h m → News h₀ L h ((C, oC) :: news) → (∀ tk' t1 t2, wpAny (model prog w) A (newTuple [Value.int f t1, Value.int g t2]) Qe E' { s with heap := h, toks := tk' }) →
    wpAny (model prog w) A (eval elt (compEnvC scope cl C env)) Qe E' { s with heap := h, toks := tk }
theorem turns3 {elt : Expr} {x : Str} {scope : Scope} {cl : List (Str × Addr)} {ax : Addr} {v0 v1 v2 : Value} {f0 g0 f1 g1 f2 g2 : Int} {Fin : List Value → List (Addr × Obj) → Prop} {news : List (Addr × Obj)} {its : Array Value} (hits : its = #[v0, v1, v2])
    (hS : SrcAt h₀ ax its news)
    (h0 : EltN prog w A h₀ L m env elt x scope cl s news v0 f0 g0) (h1 : EltN prog w A h₀ L m env elt x scope cl s news v1 f1 g1) (h2 : EltN prog w A h₀ L m env elt x scope cl s news v2 f2 g2)
    (hfin : ∀ T0 T1 T2 a0 b0 a1 b1 a2 b2, (∀ p ∈ news, p.1 < T0) → (∀ p ∈ (T0, tup2 (.int f0 a0) (.int g0 b0) 0) :: news, p.1 < T1) → (∀ p ∈ (T1, tup2 (.int f1 a1) (.int g1 b1) 0) :: (T0, tup2 (.int f0 a0) (.int g0 b0) 0) :: news, p.1 < T2) →
      Fin [.ref T0, .ref T1, .ref T2] ((T2, tup2 (.int f2 a2) (.int g2 b2) 0) :: (T1, tup2 (.int f1 a1) (.int g1 b1) 0) :: (T0, tup2 (.int f0 a0) (.int g0 b0) 0) :: news)) :
    CompRest prog w A h₀ L m env elt x scope cl s (SrcAt h₀ ax its) (fun i v => its[i]? = some v) Fin 3 0 [] news := by
  subst hits
  refine CompRest.succ ?_
  intro v I oI C oC D m₂ h tk E' hv hC hx F N off ne
  cases hv
  refine h0 C oC m₂ h tk _ E' hC hx F (fun p hp => N p (by simp only [List.mem_cons] at hp ⊢; rcases hp with h | h <;> simp [h])) fun tk' a0 b0 => tup_turn F N off (srcAt_cons hS) fun T0 hT0 => ?_
  refine CompRest.succ ?_
  intro v I oI C oC D m₂ h tk E' hv hC hx F N off ne
  cases hv
  refine h1 C oC m₂ h tk _ E' hC hx F (fun p hp => N p (by simp only [List.mem_cons] at hp ⊢; rcases hp with h | h <;> simp [h])) fun tk' a1 b1 => tup_turn F N off (srcAt_cons (srcAt_cons hS _)) fun T1 hT1 => ?_
  refine CompRest.succ ?_
  intro v I oI C oC D m₂ h tk E' hv hC hx F N off ne
  cases hv
  refine h2 C oC m₂ h tk _ E' hC hx F (fun p hp => N p (by simp only [List.mem_cons] at hp ⊢; rcases hp with h | h <;> simp [h])) fun tk' a2 b2 => tup_turn F N off (srcAt_cons (srcAt_cons (srcAt_cons hS _) _)) fun T2 hT2 => ?_
  exact CompRest.zero (hfin T0 T1 T2 a0 b0 a1 b1 a2 b2 hT0 hT1 hT2)
noncomputable abbrev EltP (prog : Program) (w : World) (A : Around) (h₀ : Heap) (L : Addr) (m : Str → Option Value) (env : Env) (elt : Expr) (x x₂ : Str) (scope : Scope) (cl : List (Str × Addr)) (s : Shared) (news : List (Addr × Obj)) (v u : Value) (f g : Int) : Prop :=
  ∀ C oC m₂ h tk (Qe E' : Value → Shared → Prop), NsObj oC m₂ → m₂ x = some v → m₂ x₂ = some u → Fr h₀ L h m → News h₀ L h ((C, oC) :: news) → (∀ tk' t1 t2, wpAny (model prog w) A (newTuple [Value.int f t1, Value.int g t2]) Qe E' { s with heap := h, toks := tk' }) →
    wpAny (model prog w) A (eval elt (compEnvC scope cl C env)) Qe E' { s with heap := h, toks := tk }
theorem turnsP3 {elt : Expr} {x x₂ : Str} {scope : Scope} {cl : List (Str × Addr)} {ax r0 r1 r2 : Addr} {v0 u0 v1 u1 v2 u2 : Value} {n0 n1 n2 : Nat} {f0 g0 f1 g1 f2 g2 : Int} {Fin : List Value → List (Addr × Obj) → Prop} {news : List (Addr × Obj)} {its : Array Value} (hits : its = #[.ref r0, .ref r1, .ref r2])
    (hS : SrcAt h₀ ax its news) (m0 : (r0, tup2 v0 u0 n0) ∈ news) (m1 : (r1, tup2 v1 u1 n1) ∈ news) (m2 : (r2, tup2 v2 u2 n2) ∈ news)
    (h0 : EltP prog w A h₀ L m env elt x x₂ scope cl s news v0 u0 f0 g0) (h1 : EltP prog w A h₀ L m env elt x x₂ scope cl s news v1 u1 f1 g1) (h2 : EltP prog w A h₀ L m env elt x x₂ scope cl s news v2 u2 f2 g2)
    (hfin : ∀ T0 T1 T2 a0 b0 a1 b1 a2 b2, (∀ p ∈ news, p.1 < T0) → (∀ p ∈ (T0, tup2 (.int f0 a0) (.int g0 b0) 0) :: news, p.1 < T1) → (∀ p ∈ (T1, tup2 (.int f1 a1) (.int g1 b1) 0) :: (T0, tup2 (.int f0 a0) (.int g0 b0) 0) :: news, p.1 < T2) →
      Fin [.ref T0, .ref T1, .ref T2] ((T2, tup2 (.int f2 a2) (.int g2 b2) 0) :: (T1, tup2 (.int f1 a1) (.int g1 b1) 0) :: (T0, tup2 (.int f0 a0) (.int g0 b0) 0) :: news)) :
    LCp.CompRestP prog w A h₀ L m env elt x x₂ scope cl s (SrcAt h₀ ax its) (fun i v => its[i]? = some v) Fin 3 0 [] news := by
  subst hits
  refine LCp.CompRestP.succ ?_
  intro v hv
  cases hv
  refine ⟨_, _, _, _, _, rfl, m0, rfl, rfl, ?_⟩
  intro I oI C oC D m₂ h tk E' hC hx hy F N off ne
  refine h0 C oC m₂ h tk _ E' hC hx hy F (fun p hp => N p (by simp only [List.mem_cons] at hp ⊢; rcases hp with h | h <;> simp [h])) fun tk' a0 b0 => tup_turn F N off (srcAt_cons hS) fun T0 hT0 => ?_
  refine LCp.CompRestP.succ ?_
  intro v hv
  cases hv
  refine ⟨_, _, _, _, _, rfl, .tail _ m1, rfl, rfl, ?_⟩
  intro I oI C oC D m₂ h tk E' hC hx hy F N off ne
  refine h1 C oC m₂ h tk _ E' hC hx hy F (fun p hp => N p (by simp only [List.mem_cons] at hp ⊢; rcases hp with h | h <;> simp [h])) fun tk' a1 b1 => tup_turn F N off (srcAt_cons (srcAt_cons hS _)) fun T1 hT1 => ?_
  refine LCp.CompRestP.succ ?_
  intro v hv
  cases hv
  refine ⟨_, _, _, _, _, rfl, .tail _ (.tail _ m2), rfl, rfl, ?_⟩
  intro I oI C oC D m₂ h tk E' hC hx hy F N off ne
  refine h2 C oC m₂ h tk _ E' hC hx hy F (fun p hp => N p (by simp only [List.mem_cons] at hp ⊢; rcases hp with h | h <;> simp [h])) fun tk' a2 b2 => tup_turn F N off (srcAt_cons (srcAt_cons (srcAt_cons hS _) _)) fun T2 hT2 => ?_
  exact LCp.CompRestP.zero (hfin T0 T1 T2 a0 b0 a1 b1 a2 b2 hT0 hT1 hT2)
theorem turns3u {R : Value → Int → Int → Prop} {elt : Expr} {x : Str} {scope : Scope} {cl : List (Str × Addr)} {ax : Addr} {v0 v1 v2 : Value} {f0 g0 f1 g1 f2 g2 : Int} {Fin : List Value → List (Addr × Obj) → Prop} {news : List (Addr × Obj)} {its : Array Value} (hits : its = #[v0, v1, v2])
    (hS : SrcAt h₀ ax its news) (hE : ∀ v f g, R v f g → EltN prog w A h₀ L m env elt x scope cl s news v f g) (r0 : R v0 f0 g0) (r1 : R v1 f1 g1) (r2 : R v2 f2 g2)
    (hfin : ∀ T0 T1 T2 a0 b0 a1 b1 a2 b2, (∀ p ∈ news, p.1 < T0) → (∀ p ∈ (T0, tup2 (.int f0 a0) (.int g0 b0) 0) :: news, p.1 < T1) → (∀ p ∈ (T1, tup2 (.int f1 a1) (.int g1 b1) 0) :: (T0, tup2 (.int f0 a0) (.int g0 b0) 0) :: news, p.1 < T2) →
      Fin [.ref T0, .ref T1, .ref T2] ((T2, tup2 (.int f2 a2) (.int g2 b2) 0) :: (T1, tup2 (.int f1 a1) (.int g1 b1) 0) :: (T0, tup2 (.int f0 a0) (.int g0 b0) 0) :: news)) :
    CompRest prog w A h₀ L m env elt x scope cl s (SrcAt h₀ ax its) (fun i v => its[i]? = some v) Fin 3 0 [] news :=
  turns3 hits hS (hE _ _ _ r0) (hE _ _ _ r1) (hE _ _ _ r2) hfin
theorem turnsP3u {R : Value → Value → Int → Int → Prop} {elt : Expr} {x x₂ : Str} {scope : Scope} {cl : List (Str × Addr)} {ax r0 r1 r2 : Addr} {v0 u0 v1 u1 v2 u2 : Value} {n0 n1 n2 : Nat} {f0 g0 f1 g1 f2 g2 : Int} {Fin : List Value → List (Addr × Obj) → Prop} {news : List (Addr × Obj)} {its : Array Value} (hits : its = #[.ref r0, .ref r1, .ref r2])
    (hS : SrcAt h₀ ax its news) (m0 : (r0, tup2 v0 u0 n0) ∈ news) (m1 : (r1, tup2 v1 u1 n1) ∈ news) (m2 : (r2, tup2 v2 u2 n2) ∈ news)
    (hE : ∀ v u f g, R v u f g → EltP prog w A h₀ L m env elt x x₂ scope cl s news v u f g) (q0 : R v0 u0 f0 g0) (q1 : R v1 u1 f1 g1) (q2 : R v2 u2 f2 g2)
    (hfin : ∀ T0 T1 T2 a0 b0 a1 b1 a2 b2, (∀ p ∈ news, p.1 < T0) → (∀ p ∈ (T0, tup2 (.int f0 a0) (.int g0 b0) 0) :: news, p.1 < T1) → (∀ p ∈ (T1, tup2 (.int f1 a1) (.int g1 b1) 0) :: (T0, tup2 (.int f0 a0) (.int g0 b0) 0) :: news, p.1 < T2) →
      Fin [.ref T0, .ref T1, .ref T2] ((T2, tup2 (.int f2 a2) (.int g2 b2) 0) :: (T1, tup2 (.int f1 a1) (.int g1 b1) 0) :: (T0, tup2 (.int f0 a0) (.int g0 b0) 0) :: news)) :
    LCp.CompRestP prog w A h₀ L m env elt x x₂ scope cl s (SrcAt h₀ ax its) (fun i v => its[i]? = some v) Fin 3 0 [] news :=
  turnsP3 hits hS m0 m1 m2 (hE _ _ _ _ q0) (hE _ _ _ _ q1) (hE _ _ _ _ q2) hfin
end
end Mine
end
section
example : True := by (w_top off; trivial)
example : True := by (k_with_none; trivial)
example : True := by
  k_with "call builtin:min" => (k_here; (with_reducible show wpAny _ _ (call (Value.builtin _) [Value.int _ _, Value.int _ _, Value.int _ _]) _ _ _); k_dflt (refine' min3_N ?k0K9 ?k1K9 ?k2K9 ?_; (case k0K9 => rfl); (case k1K9 => k_asm); (case k2K9 => k_asm)); intro h' tk tok F' N'; revert h' tk tok F' N'; intro _ _ _ _ _)
  k_with "call builtin:max" => (k_here; (with_reducible show wpAny _ _ (call (Value.builtin _) [Value.int _ _, Value.int _ _, Value.int _ _]) _ _ _); k_dflt (refine' max3_N ?k0K9 ?k1K9 ?k2K9 ?_; (case k0K9 => rfl); (case k1K9 => k_asm); (case k2K9 => k_asm)); intro h' tk tok F' N'; revert h' tk tok F' N'; intro _ _ _ _ _)
  k_with "binaryOp Div int int" => (k_here; refine div_small (by omega) (by omega) ?_)
  k_with "subscriptTail" => (k_here; (with_reducible show wpAny _ _ (subscriptTail _ _ (Value.ref _) (Value.int _ _)) _ _ _); k_dflt (first
      | (refine' tup_item ?NK9 ?mK9 ?aK9 ?bK9 ?cK9 ?dK9 ?_ ?eK9; (case NK9 => k_asm); (case mK9 => k_mem); (case aK9 => decide); (case bK9 => decide); (case cK9 => rfl); (case dK9 => rfl); (case eK9 => with_unfolding_all rfl); k_whole)
      | (refine' lst_item ?NK9 ?mK9 ?aK9 ?bK9 ?cK9 ?_ ?eK9; (case NK9 => k_asm); (case mK9 => k_mem); (case aK9 => decide); (case bK9 => decide); (case cK9 => rfl); (case eK9 => with_unfolding_all rfl); k_whole)
      | (refine' lst_itemN ?NK9 ?mK9 ?aK9 ?bK9 ?cK9 ?dK9 ?_ ?eK9; (case NK9 => k_asm); (case mK9 => k_mem); (case aK9 => decide); (case bK9 => decide); (case cK9 => decide); (case dK9 => rfl); (case eK9 => with_unfolding_all rfl); k_whole)))
  trivial
open PySem PySem.W PyProof.Rows PySem.Calls PySem.Spec
namespace Mine
theorem strs3 {vs : List Value} {a b c : Str} (hl : vs.length = 3) (h : ∀ j v, vs[j]? = some v → ∃ t, v = Value.str ([a, b, c].getD j a) t) : StrsAre vs [a, b, c] := by
  match vs, hl with
  | [v0, v1, v2], _ =>
    obtain ⟨t0, e0⟩ := h 0 v0 rfl
    obtain ⟨t1, e1⟩ := h 1 v1 rfl
    obtain ⟨t2, e2⟩ := h 2 v2 rfl
    subst e0; subst e1; subst e2
    exact .cons _ _ (.cons _ _ (.cons _ _ .nil))
section
variable {prog : Program} {w : World} {A : Around} {E : Value → Shared → Prop} {s : Shared} {h₀ : Heap} {L : Addr} {m : Str → Option Value} {news : List (Addr × Obj)} {Q : Value → Shared → Prop}
theorem sorted3 {d : Addr} {o : Obj} {kvs : List (Str × Value)} {a b c p q r : Str} (hh : A.handled = none) (F : Fr h₀ L s.heap m) (N : News h₀ L s.heap news) (hp : (d, o) ∈ news) (hd : o.IsDictOf (PySem.strKind prog w) kvs)
    (lo : (d == sysModules) = false) (hk : kvs.map (·.1) = [a, b, c]) (hs : ∀ ss' : List Str, ss'.Perm [a, b, c] → sortedS ss' = true → ss' = [p, q, r])
    (h : ∀ D t0 t1 t2 n h' tk, Fr h₀ L h' m → News h₀ L h' ((D, PySem.W.listOf [Value.str p t0, .str q t1, .str r t2].toArray n) :: news) → (∀ x ∈ news, x.1 < D) → Q (.ref D) { s with heap := h', toks := tk }) :
    wpAny (model prog w) A (call (.builtin "sorted") [.ref d]) Q E s := by
  have hD := kda_dict N hp hd
  obtain ⟨ep, hat⟩ := hD.dictAt
  have hlen : kvs.length = 3 := by have := congrArg List.length hk; simpa using this
  refine kdu_sorted (kdl_dict (knd := PySem.strKind prog w) (kvs := kvs) (ep := ep) lo) hh F N hat (kdl_size (by omega)) fun B h' tk vs F' N' l1 hl hv => ?_
  have hS : StrsAre vs [a, b, c] := by
    refine strs3 (by rw [hl, hlen]) fun j v hj => ?_
    obtain ⟨k, x, hx, hi⟩ := hv j v hj
    obtain ⟨t, rfl⟩ := Value.isStrOf_shape hi
    refine ⟨t, ?_⟩
    have h2 : (kvs.map (·.1))[j]? = some k := by rw [List.getElem?_map, hx]; rfl
    rw [hk] at h2
    have : [a, b, c].getD j a = k := by rw [List.getD_eq_getElem?_getD, h2]; rfl
    rw [this]
  have hB := (N' _ (.head _)).1
  have hB' : h'.get? B = some (seqObj "list" vs.toArray 0) := hB
  refine wpAny_call_entry PyProof.Rows.slot_list_sort ⟨_, hB, rfl⟩ PyProof.Rows.entry_list_sort (list_sort_treeK strKind_oneLt (s := { s with heap := h', toks := tk }) hB' hS.keysOf (fun v₁ v₂ rest e => keyKind_strs (by rw [← e]; exact hS)) (by rw [hl, hlen]; decide) fun st' hp2 hs2 => ⟨_, rfl, ?_⟩) (PyProof.Rows.args_list_sort _)
  obtain ⟨ss', h1, h2, h3⟩ := sorted_out_str hS hp2 hs2
  have e := hs ss' h2 h3
  subst e
  generalize (arrOf st').map (fun x => x.snd) = out at h1 ⊢
  obtain ⟨lo', hlo⟩ : ∃ l, out = List.toArray l := ⟨out.toList, by simp⟩
  subst hlo
  have h1' : StrsAre lo' [p, q, r] := h1
  rcases h1' with _ | ⟨_, t0, h1'⟩
  rcases h1' with _ | ⟨_, t1, h1'⟩
  rcases h1' with _ | ⟨_, t2, h1'⟩
  cases h1'
  obtain ⟨n, hn⟩ := sortedHeap_at (out := List.toArray [Value.str p t0, .str q t1, .str r t2]) hB'
  have keep : ∀ b o, b ≠ B → h'.get? b = some o → (sortedHeap h' B vs (List.toArray [Value.str p t0, .str q t1, .str r t2])).get? b = some o := fun b o hb e => (sortedHeap_old hb (Heap.lt_size e)).trans e
  have hBL : B ≠ L := (N' _ (.head _)).2.1
  have hB0 := (N' _ (.head _)).2.2
  refine h B t0 t1 t2 n _ _ ⟨F'.ns.at' fun o e => keep _ _ (Ne.symm hBL) e, fun b o e => keep b o (fun q => by rw [q, hB0] at e; cases e) (F'.keep b o e), F'.above⟩ (fun x hx => ?_) l1
  rcases List.mem_cons.mp hx with rfl | hx
  · exact ⟨hn, hBL, hB0⟩
  · exact ⟨keep _ _ (Nat.ne_of_lt (l1 x hx)) (N' x (.tail _ hx)).1, (N' x (.tail _ hx)).2⟩
end
theorem perm3 {a b c p q r : Str} (hnd : [a, b, c].Nodup) (h : ∀ x y z : Str, x ∈ [a, b, c] → y ∈ [a, b, c] → z ∈ [a, b, c] → x ≠ y → x ≠ z → y ≠ z → sortedS [x, y, z] = true → [x, y, z] = [p, q, r]) :
    ∀ ss' : List Str, ss'.Perm [a, b, c] → sortedS ss' = true → ss' = [p, q, r] := by
  intro ss' hp hs
  have hl := hp.length_eq
  have hn := hp.nodup_iff.mpr hnd
  match ss', hl with
  | [x, y, z], _ =>
    have m := fun u hu => (hp.mem_iff (a := u)).mp hu
    simp only [List.nodup_cons, List.mem_cons, List.not_mem_nil, or_false, not_or] at hn
    exact h x y z (m x (by simp)) (m y (by simp)) (m z (by simp)) hn.1.1 hn.1.2 hn.2.1 hs
end Mine
end
section
section
example : True := by (w_top off; trivial)
example : True := by (k_with_none; trivial)
example : True := by
  k_with "call builtin:min" => (k_here; (with_reducible show wpAny _ _ (call (Value.builtin _) [Value.int _ _, Value.int _ _, Value.int _ _]) _ _ _); k_dflt (refine' min3_N ?k0K9 ?k1K9 ?k2K9 ?_; (case k0K9 => rfl); (case k1K9 => k_asm); (case k2K9 => k_asm)); intro h' tk tok F' N'; revert h' tk tok F' N'; intro _ _ _ _ _)
  k_with "call builtin:max" => (k_here; (with_reducible show wpAny _ _ (call (Value.builtin _) [Value.int _ _, Value.int _ _, Value.int _ _]) _ _ _); k_dflt (refine' max3_N ?k0K9 ?k1K9 ?k2K9 ?_; (case k0K9 => rfl); (case k1K9 => k_asm); (case k2K9 => k_asm)); intro h' tk tok F' N'; revert h' tk tok F' N'; intro _ _ _ _ _)
  k_with "binaryOp Div int int" => (k_here; refine div_small (by omega) (by omega) ?_)
  k_with "subscriptTail" => (k_here; (with_reducible show wpAny _ _ (subscriptTail _ _ (Value.ref _) (Value.int _ _)) _ _ _); k_dflt (first
      | (refine' tup_item ?NK9 ?mK9 ?aK9 ?bK9 ?cK9 ?dK9 ?_ ?eK9; (case NK9 => k_asm); (case mK9 => k_mem); (case aK9 => decide); (case bK9 => decide); (case cK9 => rfl); (case dK9 => rfl); (case eK9 => with_unfolding_all rfl); k_whole)
      | (refine' lst_item ?NK9 ?mK9 ?aK9 ?bK9 ?cK9 ?_ ?eK9; (case NK9 => k_asm); (case mK9 => k_mem); (case aK9 => decide); (case bK9 => decide); (case cK9 => rfl); (case eK9 => with_unfolding_all rfl); k_whole)
      | (refine' lst_itemN ?NK9 ?mK9 ?aK9 ?bK9 ?cK9 ?dK9 ?_ ?eK9; (case NK9 => k_asm); (case mK9 => k_mem); (case aK9 => decide); (case bK9 => decide); (case cK9 => decide); (case dK9 => rfl); (case eK9 => with_unfolding_all rfl); k_whole)))
  trivial
example : True := by
  k_with "subscriptTail Name Constant ref int" => (k_here; (with_reducible show wpAny _ _ (subscriptTail _ _ (Value.ref _) (Value.int _ _)) _ _ _); k_dflt (first
      | (refine' tup_item ?NK9 ?mK9 ?aK9 ?bK9 ?cK9 ?dK9 ?_ ?eK9; (case NK9 => k_asm); (case mK9 => k_mem); (case aK9 => decide); (case bK9 => decide); (case cK9 => rfl); (case dK9 => rfl); (case eK9 => with_unfolding_all rfl); k_whole)
      | (refine' lst_item ?NK9 ?mK9 ?aK9 ?bK9 ?cK9 ?_ ?eK9; (case NK9 => k_asm); (case mK9 => k_mem); (case aK9 => decide); (case bK9 => decide); (case cK9 => rfl); (case eK9 => with_unfolding_all rfl); k_whole)
      | (refine' lst_itemN ?NK9 ?mK9 ?aK9 ?bK9 ?cK9 ?dK9 ?_ ?eK9; (case NK9 => k_asm); (case mK9 => k_mem); (case aK9 => decide); (case bK9 => decide); (case cK9 => decide); (case dK9 => rfl); (case eK9 => with_unfolding_all rfl); k_whole)))
  k_with "binaryOp Mod int int" => (k_here; first | (with_reducible refine mod_eq (by with_reducible assumption) (by first | decide | assumption | omega) ?_) | (with_reducible refine mod_eqH (by with_reducible assumption) (by first | decide | assumption | omega) ?_))
  k_with "binaryOp FloorDiv int int" => (k_here; (with_reducible refine fdiv_eqH (by with_reducible assumption) (by first | decide | assumption | omega) (by omega) ?_))
  trivial
open PySem PySem.W PyProof.Rows PySem.Calls PySem.Spec
namespace Mine
noncomputable def fnBody (K : Frag) (f : Addr) : List Stmt := match K.lookup f with | some ⟨_, _, .func fd, _⟩ => (match fd.body with | .stmts b => b | _ => []) | _ => []
noncomputable def fnScope (K : Frag) (f : Addr) : Scope := match K.lookup f with | some ⟨_, _, .func fd, _⟩ => fd.scope | _ => { kind := .function, names := [], isGenerator := false, isCoroutine := false }
theorem with_fn {P : List Stmt → Scope → Prop} {K : Frag} {f : Addr} {name qual : Str} {params : Arguments} {body : List Stmt} {scope : Scope} {dV kV doc pm cdv ct oc : Value} {an od : Option Addr} {osl : Array (Option Value)}
    (h : K.lookup f = some ⟨oc, od, .func (fnOf name qual params body scope dV kV doc pm an cdv ct), osl⟩) (hp : P body scope) : P (fnBody K f) (fnScope K f) := by
  unfold fnBody fnScope; rw [h]; exact hp
theorem news_nil {h₀ h : Heap} {L : Addr} : News h₀ L h [] := fun _ hp => nomatch hp
theorem news_cons {h₀ h : Heap} {L : Addr} {p : Addr × Obj} {l : List (Addr × Obj)} (a : h.get? p.1 = some p.2 ∧ p.1 ≠ L ∧ h₀.get? p.1 = none) (b : News h₀ L h l) : News h₀ L h (p :: l) := fun q hq => by
  rcases List.mem_cons.mp hq with rfl | hq
  · exact a
  · exact b q hq
theorem area_def (sd : Int) (h : 1 ≤ sd) : areaF 0 0 sd 0 0 sd ≠ 0 := by
  unfold areaF areaE
  have h1 : 1 ≤ sd * sd := Int.mul_le_mul h h (by decide) (by omega)
  simp only [Int.sub_zero, Int.zero_sub, Int.mul_zero, Int.zero_mul, Int.neg_zero] at *
  split <;> omega
noncomputable def TupMark : Prop := True
noncomputable abbrev cellO (o : Obj) : Prop := o.data = .cell none
theorem Fr.congr {h₀ h : Heap} {L : Addr} {m m' : Str → Option Value} (F : Fr h₀ L h m) (e : ∀ z, m z = m' z) : Fr h₀ L h m' := by
  obtain rfl : m = m' := funext e
  exact F
noncomputable def SepB (L : Addr) (ads : List Addr) : Prop := ∀ a ∈ ads, (@Ne Nat a (L + 1)) ∧ (@Ne Nat a (L + 1 + 1)) ∧ (@Ne Nat a (L + 1 + 1 + 1)) ∧ (@Ne Nat a (L + 1 + 1 + 1 + 1)) ∧ (@Ne Nat a 54) ∧ (@Ne Nat a 47)
noncomputable def LawA (w : World) (l : Addr) (y0 y1 y2 y3 : Int) (t0 t1 t2 t3 : Tok) (ep : Nat) (o1 o2 o3 o4 : Obj) (b : List Stmt) (sc : Scope) : Prop := ∀ (loose : List Str) (mean : ExcName → Option Value) (mg mb : Str → Option Value) (dp un : Nat) (gd : Option (List Code)) (fa : Addr) (cd : Value) (outer : List Env) (A₀ : Around) (base h₀ : Heap) (L : Addr) (m : Str → Option Value) (s : Shared) (Q : Flow → Shared → Prop) (E : Value → Shared → Prop),
    Below A₀ base outer h₀ → (Mine.hd.heap_39 w.params).In h₀ → Top topProg loose mean mg mb h₀ → dp + 200 < recursionLimit → un + 2000 < cLine →
    PassesOwn (model PySem.Challenge.pw_sn0025_01 w) (ktrTop dp un gd (Str.ofString "law") sc L fa cd (cellsFrom (L + 1) sc.names []) outer) (envOfC (Str.ofString "law") sc L fa cd) E →
    cellO o1 → cellO o2 → cellO o3 → cellO o4 → (∀ p ∈ [(L + 1 + 1 + 1 + 1, o4), (L + 1 + 1 + 1, o3), (L + 1 + 1, o2), (L + 1, o1), (54, tabObj #[]), (47, tabObj #[])], p.1 < l) → (∀ p ∈ [((54 : Addr), tabObj #[]), (47, tabObj #[])], p.1 < L) → Fr h₀ L s.heap (fun y => if y = Str.ofString "heaps" then some (.ref l) else m y) → News h₀ L s.heap [(l, list4 (.int y0 t0) (.int y1 t1) (.int y2 t2) (.int y3 t3) ep), (L + 1 + 1 + 1 + 1, o4), (L + 1 + 1 + 1, o3), (L + 1 + 1, o2), (L + 1, o1), (54, tabObj #[]), (54, tabObj #[]), (47, tabObj #[]), (47, tabObj #[])] →
    (∀ h' tk' m', Fr h₀ L h' m' → GrownAt 54 h' → GrownAt 47 h' → Q (.ret (.bool true)) { s with heap := h', toks := tk' }) →
    wpAny (model PySem.Challenge.pw_sn0025_01 w) (ktrTop dp un gd (Str.ofString "law") sc L fa cd (cellsFrom (L + 1) sc.names []) outer) (execs (b.drop 1) (envOfC (Str.ofString "law") sc L fa cd)) Q E s
noncomputable def LawB (w : World) (l P a1 a2 a3 : Addr) (n n1 n2 n3 : Nat) (y0 y1 y2 y3 : Int) (t0 t1 t2 t3 : Tok) (ep : Nat) (f0 sd : Int) (x1 z1 x2 z2 x3 z3 : Int) (s1 v1 s2 v2 s3 v3 tf ts : Tok) (o1 o2 o3 o4 : Obj) (b : List Stmt) (sc : Scope) : Prop := ∀ (loose : List Str) (mean : ExcName → Option Value) (mg mb : Str → Option Value) (dp un : Nat) (gd : Option (List Code)) (fa : Addr) (cd : Value) (outer : List Env) (A₀ : Around) (base h₀ : Heap) (L : Addr) (m : Str → Option Value) (s : Shared) (Q : Flow → Shared → Prop) (E : Value → Shared → Prop),
    Below A₀ base outer h₀ → (Mine.hd.heap_39 w.params).In h₀ → Top topProg loose mean mg mb h₀ → dp + 200 < recursionLimit → un + 2000 < cLine →
    PassesOwn (model PySem.Challenge.pw_sn0025_01 w) (ktrTop dp un gd (Str.ofString "law") sc L fa cd (cellsFrom (L + 1) sc.names []) outer) (envOfC (Str.ofString "law") sc L fa cd) E →
    o1.data = .cell (some (.int (1 + f0) tf)) → o2.data = .cell (some (.int sd ts)) → cellO o3 → cellO o4 → SepB L [P, a1, a2, a3, l] → (∀ p ∈ [((54 : Addr), tabObj #[]), (47, tabObj #[])], p.1 < L) → Hold (y0.fmod 4 = f0) → (0 ≤ f0 ∧ f0 < 4) → (1 ≤ sd ∧ (1 + f0) * sd ≤ 4) → (0 ≤ x1 ∧ x1 ≤ sd) → (0 ≤ z1 ∧ z1 ≤ sd) → (0 ≤ x2 ∧ x2 ≤ sd) → (0 ≤ z2 ∧ z2 ≤ sd) → (0 ≤ x3 ∧ x3 ≤ sd) → (0 ≤ z3 ∧ z3 ≤ sd) → Hold (areaF x1 z1 x2 z2 x3 z3 ≠ 0) → Fr h₀ L s.heap (fun y => if y = Str.ofString "plain" then some (.ref P) else if y = Str.ofString "heaps" then some (.ref l) else m y) → News h₀ L s.heap [(P, list3 (.ref a1) (.ref a2) (.ref a3) n), (a1, tup2 (.int x1 s1) (.int z1 v1) n1), (a2, tup2 (.int x2 s2) (.int z2 v2) n2), (a3, tup2 (.int x3 s3) (.int z3 v3) n3), (l, list4 (.int y0 t0) (.int y1 t1) (.int y2 t2) (.int y3 t3) ep), (L + 1 + 1 + 1 + 1, o4), (L + 1 + 1 + 1, o3), (L + 1 + 1, o2), (L + 1, o1), (54, tabObj #[]), (54, tabObj #[]), (47, tabObj #[]), (47, tabObj #[])] →
    (∀ h' tk' m', Fr h₀ L h' m' → GrownAt 54 h' → GrownAt 47 h' → Q (.ret (.bool true)) { s with heap := h', toks := tk' }) →
    wpAny (model PySem.Challenge.pw_sn0025_01 w) (ktrTop dp un gd (Str.ofString "law") sc L fa cd (cellsFrom (L + 1) sc.names []) outer) (execs (b.drop 5) (envOfC (Str.ofString "law") sc L fa cd)) Q E s

example : True := by
  k_with "CompSrc" => (refine Stop.mk ?_)
  k_with "newTuple" => ((rename TupMark => hMk9); refine Stop.mk ?_)
  k_with "execs cons" => (k_here; (with_reducible show wpAny _ _ (execs (Stmt.Assign _ (Expr.Subscript (Expr.List _ _) _ _) _ :: _) _) _ _ _); refine Stop.mk ?_)
  k_with "call ref" => (k_here; (with_reducible show wpAny _ _ (call (Value.ref 118) [Value.ref _]) _ _ _); k_dflt (refine' cspec_go (c_area _ _ _ _ _ _ _ _ _ _ _ _ _ _ _ _ _ _ _ _ _ _ ?m0K9 ?m1K9 ?m2K9 ?m3K9 ?b0K9 ?b1K9 ?b2K9 ?b3K9 ?b4K9 ?b5K9) ?_; (case m0K9 => k_mem); (case m1K9 => k_mem); (case m2K9 => k_mem); (case m3K9 => k_mem); (case b0K9 => omega); (case b1K9 => omega); (case b2K9 => omega); (case b3K9 => omega); (case b4K9 => omega); (case b5K9 => omega)); intro t h' tk' F' N'; revert t h' tk' F' N'; intro _ _ _ _ _)
  trivial
theorem law_a (w : World) (l : Addr) (y0 y1 y2 y3 : Int) (t0 t1 t2 t3 : Tok) (ep : Nat) (o1 o2 o3 o4 : Obj) (law_b : ∀ (l P a1 a2 a3 : Addr) (n n1 n2 n3 : Nat) (y0 y1 y2 y3 : Int) (t0 t1 t2 t3 : Tok) (ep : Nat) (f0 sd : Int) (x1 z1 x2 z2 x3 z3 : Int) (s1 v1 s2 v2 s3 v3 tf ts : Tok) (o1 o2 o3 o4 : Obj), LawB w l P a1 a2 a3 n n1 n2 n3 y0 y1 y2 y3 t0 t1 t2 t3 ep f0 sd x1 z1 x2 z2 x3 z3 s1 v1 s2 v2 s3 v3 tf ts o1 o2 o3 o4  (fnBody (Mine.hd.heap_39 w.params) 175) (fnScope (Mine.hd.heap_39 w.params) 175)) :
   LawA w l y0 y1 y2 y3 t0 t1 t2 t3 ep o1 o2 o3 o4 (fnBody (Mine.hd.heap_39 w.params) 175) (fnScope (Mine.hd.heap_39 w.params) 175) := by
  revert law_b
  refine' with_fn (P := fun b sc => (∀ (l P a1 a2 a3 : Addr) (n n1 n2 n3 : Nat) (y0 y1 y2 y3 : Int) (t0 t1 t2 t3 : Tok) (ep : Nat) (f0 sd : Int) (x1 z1 x2 z2 x3 z3 : Int) (s1 v1 s2 v2 s3 v3 tf ts : Tok) (o1 o2 o3 o4 : Obj), LawB w l P a1 a2 a3 n n1 n2 n3 y0 y1 y2 y3 t0 t1 t2 t3 ep f0 sd x1 z1 x2 z2 x3 z3 s1 v1 s2 v2 s3 v3 tf ts o1 o2 o3 o4  b sc) → LawA w l y0 y1 y2 y3 t0 t1 t2 t3 ep o1 o2 o3 o4 b sc) ?hK ?_
  case hK => k_is
  intro law_b
  intro loose mean mg mb dp un gd fa cd outer A₀ base h₀ L m s Q E hB X T hd hu hPE hc1 hc2 hc3 hc4 hl hL F N hret
  have hL9 := hL
  k_lt hl
  k_lt hL
  obtain ⟨f0, hf0⟩ : ∃ f : Int, Hold (y0.fmod 4 = f) := ⟨_, rfl⟩
  have hf0b : 0 ≤ f0 ∧ f0 < 4 := by rw [← (show y0.fmod 4 = f0 from hf0), Int.fmod_eq_emod_of_nonneg _ (by decide)]; omega
  have hfn : 1 + f0 ≠ 0 := by omega
  obtain ⟨sd, hsd⟩ : ∃ f : Int, Hold (Int.fdiv 4 (1 + f0) = f) := ⟨_, rfl⟩
  have hsdb : 1 ≤ sd ∧ (1 + f0) * sd ≤ 4 := by
    rcases (by omega : f0 = 0 ∨ f0 = 1 ∨ f0 = 2 ∨ f0 = 3) with rfl | rfl | rfl | rfl <;> (rw [← (show Int.fdiv 4 _ = sd from hsd)]; decide)
  have hsd4 : sd ≤ 4 := by rcases (by omega : f0 = 0 ∨ f0 = 1 ∨ f0 = 2 ∨ f0 = 3) with rfl | rfl | rfl | rfl <;> omega
  have mk : ∀ (n k : Int), 0 < k → ∃ r : Int, Hold (n.fmod k = r) ∧ 0 ≤ r ∧ r < k := fun n k hk => ⟨_, rfl, by rw [Int.fmod_eq_emod_of_nonneg _ (by omega)]; exact Int.emod_nonneg _ (by omega), by rw [Int.fmod_eq_emod_of_nonneg _ (by omega)]; exact Int.emod_lt_of_pos _ hk⟩
  have hs1 : sd + 1 ≠ 0 := by omega
  obtain ⟨p1, hp1, hp1a, hp1b⟩ := mk y1 (sd + 1) (by omega)
  obtain ⟨p2, hp2, hp2a, hp2b⟩ := mk y2 (sd + 1) (by omega)
  obtain ⟨p3, hp3, hp3a, hp3b⟩ := mk y3 (sd + 1) (by omega)
  obtain ⟨z1, hz1⟩ : ∃ f : Int, Hold (y1.fdiv 5 = f) := ⟨_, rfl⟩
  obtain ⟨z2, hz2⟩ : ∃ f : Int, Hold (y2.fdiv 5 = f) := ⟨_, rfl⟩
  obtain ⟨z3, hz3⟩ : ∃ f : Int, Hold (y3.fdiv 5 = f) := ⟨_, rfl⟩
  obtain ⟨q1, hq1, hq1a, hq1b⟩ := mk z1 (sd + 1) (by omega)
  obtain ⟨q2, hq2, hq2a, hq2b⟩ := mk z2 (sd + 1) (by omega)
  obtain ⟨q3, hq3, hq3a, hq3b⟩ := mk z3 (sd + 1) (by omega)
  clear mk
  dsimp only [List.drop]
  k_steps
  unfold Stop
  rename Fr _ _ _ _ => hF
  rename News _ _ _ _ => hN
  refine LCg.CompSrc.ledger (by rfl) hF hN (by k_mem) (by exact Nat.le_of_ble_eq_true rfl) fun g => ?_
  lcg_lit
  refine turns3u (R := fun v f g => ∃ y ty z, v = .int y ty ∧ Hold (y.fmod (sd + 1) = f) ∧ Hold (y.fdiv 5 = z) ∧ Hold (z.fmod (sd + 1) = g)) (f0 := p1) (g0 := q1) (f1 := p2) (g1 := q2) (f2 := p3) (g2 := q3) rfl (.inr ⟨_, by k_mem, rfl, _, rfl⟩) ?_ ⟨y1, t1, z1, rfl, hp1, hz1, hq1⟩ ⟨y2, t2, z2, rfl, hp2, hz2, hq2⟩ ⟨y3, t3, z3, rfl, hp3, hz3, hq3⟩ ?_
  · rintro v f g9 ⟨yy, tyy, zz, rfl, hpy, hzy, hqy⟩ C oC m₂ h tk Qe E' hC hx F2 N2 hT
    have hMk : TupMark := trivial
    k_steps
    unfold Stop
    exact hT _ _ _
  intro T0 T1 T2 a0 b0 a1 b1 a2 b2 hT0 hT1 hT2
  k_lt hT0
  k_lt hT1
  k_lt hT2
  k_steps
  · unfold Stop
    rename Fr _ _ _ _ => hF9
    rename News _ _ _ _ => hN9
    refine' law_b _ _ _ _ _ _ _ _ _ _ _ _ _ _ _ _ _ _ f0 sd _ _ _ _ _ _ _ _ _ _ _ _ _ _ _ _ _ _ loose mean mg mb dp un gd fa cd outer A₀ base h₀ L m _ Q E hB X T hd hu hPE ?d1 ?d2 hc3 hc4 ?sep hL9 hf0 hf0b hsdb ?bx1 ?bz1 ?bx2 ?bz2 ?bx3 ?bz3 ?ar ?F ?N ?ret
    case F => exact Fr.congr hF9 (fun z => by
        by_cases q : z = Str.ofString "plain"
        · show (if z = _ then _ else _) = (if z = _ then _ else _); rw [if_pos q, if_pos q]
        · show (if z = _ then _ else _) = (if z = _ then _ else _); rw [if_neg q, if_neg q]; show (if z = _ then _ else _) = _; rw [if_neg q])
    case N =>
      repeat (first | exact news_nil | refine news_cons (hN9 _ (by k_mem)) ?_)
    case d1 => assumption
    case d2 => assumption
    case bx1 => first | omega | (dsimp only; omega)
    case bz1 => first | omega | (dsimp only; omega)
    case bx2 => first | omega | (dsimp only; omega)
    case bz2 => first | omega | (dsimp only; omega)
    case bx3 => first | omega | (dsimp only; omega)
    case bz3 => first | omega | (dsimp only; omega)
    case ar => exact area_def _ hsdb.1
    case sep =>
      intro a ha
      simp only [List.mem_cons, List.not_mem_nil, or_false] at ha
      rcases ha with ha | ha | ha | ha | ha <;> (subst ha; refine ⟨?_, ?_, ?_, ?_, ?_, ?_⟩ <;> first | omega | (refine neN ?_; first | omega | (dsimp only; omega)))
    case ret => exact hret
  · unfold Stop
    rename Fr _ _ _ _ => hF9
    rename News _ _ _ _ => hN9
    refine' law_b _ _ _ _ _ _ _ _ _ _ _ _ _ _ _ _ _ _ f0 sd _ _ _ _ _ _ _ _ _ _ _ _ _ _ _ _ _ _ loose mean mg mb dp un gd fa cd outer A₀ base h₀ L m _ Q E hB X T hd hu hPE ?d1 ?d2 hc3 hc4 ?sep hL9 hf0 hf0b hsdb ?bx1 ?bz1 ?bx2 ?bz2 ?bx3 ?bz3 ?ar ?F ?N ?ret
    case F => exact hF9
    case N =>
      repeat (first | exact news_nil | refine news_cons (hN9 _ (by k_mem)) ?_)
    case d1 => assumption
    case d2 => assumption
    case bx1 => first | omega | (dsimp only; omega)
    case bz1 => first | omega | (dsimp only; omega)
    case bx2 => first | omega | (dsimp only; omega)
    case bz2 => first | omega | (dsimp only; omega)
    case bx3 => first | omega | (dsimp only; omega)
    case bz3 => first | omega | (dsimp only; omega)
    case ar => assumption
    case sep =>
      intro a ha
      simp only [List.mem_cons, List.not_mem_nil, or_false] at ha
      rcases ha with ha | ha | ha | ha | ha <;> (subst ha; refine ⟨?_, ?_, ?_, ?_, ?_, ?_⟩ <;> first | omega | (refine neN ?_; first | omega | (dsimp only; omega)))
    case ret => exact hret


end Mine
end
section
example : True := by (w_top off; trivial)
example : True := by (k_with_none; trivial)
example : True := by
  k_with "call builtin:min" => (k_here; (with_reducible show wpAny _ _ (call (Value.builtin _) [Value.int _ _, Value.int _ _, Value.int _ _]) _ _ _); k_dflt (refine' min3_N ?k0K9 ?k1K9 ?k2K9 ?_; (case k0K9 => rfl); (case k1K9 => k_asm); (case k2K9 => k_asm)); intro h' tk tok F' N'; revert h' tk tok F' N'; intro _ _ _ _ _)
  k_with "call builtin:max" => (k_here; (with_reducible show wpAny _ _ (call (Value.builtin _) [Value.int _ _, Value.int _ _, Value.int _ _]) _ _ _); k_dflt (refine' max3_N ?k0K9 ?k1K9 ?k2K9 ?_; (case k0K9 => rfl); (case k1K9 => k_asm); (case k2K9 => k_asm)); intro h' tk tok F' N'; revert h' tk tok F' N'; intro _ _ _ _ _)
  k_with "binaryOp Div int int" => (k_here; refine div_small (by omega) (by omega) ?_)
  k_with "subscriptTail" => (k_here; (with_reducible show wpAny _ _ (subscriptTail _ _ (Value.ref _) (Value.int _ _)) _ _ _); k_dflt (first
      | (refine' tup_item ?NK9 ?mK9 ?aK9 ?bK9 ?cK9 ?dK9 ?_ ?eK9; (case NK9 => k_asm); (case mK9 => k_mem); (case aK9 => decide); (case bK9 => decide); (case cK9 => rfl); (case dK9 => rfl); (case eK9 => with_unfolding_all rfl); k_whole)
      | (refine' lst_item ?NK9 ?mK9 ?aK9 ?bK9 ?cK9 ?_ ?eK9; (case NK9 => k_asm); (case mK9 => k_mem); (case aK9 => decide); (case bK9 => decide); (case cK9 => rfl); (case eK9 => with_unfolding_all rfl); k_whole)
      | (refine' lst_itemN ?NK9 ?mK9 ?aK9 ?bK9 ?cK9 ?dK9 ?_ ?eK9; (case NK9 => k_asm); (case mK9 => k_mem); (case aK9 => decide); (case bK9 => decide); (case cK9 => decide); (case dK9 => rfl); (case eK9 => with_unfolding_all rfl); k_whole)))
  trivial
example : True := by
  k_with "subscriptTail Name Constant ref int" => (k_here; (with_reducible show wpAny _ _ (subscriptTail _ _ (Value.ref _) (Value.int _ _)) _ _ _); k_dflt (first
      | (refine' tup_item ?NK9 ?mK9 ?aK9 ?bK9 ?cK9 ?dK9 ?_ ?eK9; (case NK9 => k_asm); (case mK9 => k_mem); (case aK9 => decide); (case bK9 => decide); (case cK9 => rfl); (case dK9 => rfl); (case eK9 => with_unfolding_all rfl); k_whole)
      | (refine' lst_item ?NK9 ?mK9 ?aK9 ?bK9 ?cK9 ?_ ?eK9; (case NK9 => k_asm); (case mK9 => k_mem); (case aK9 => decide); (case bK9 => decide); (case cK9 => rfl); (case eK9 => with_unfolding_all rfl); k_whole)
      | (refine' lst_itemN ?NK9 ?mK9 ?aK9 ?bK9 ?cK9 ?dK9 ?_ ?eK9; (case NK9 => k_asm); (case mK9 => k_mem); (case aK9 => decide); (case bK9 => decide); (case cK9 => decide); (case dK9 => rfl); (case eK9 => with_unfolding_all rfl); k_whole)))
  k_with "binaryOp Mod int int" => (k_here; first | (with_reducible refine mod_eq (by with_reducible assumption) (by first | decide | assumption | omega) ?_) | (with_reducible refine mod_eqH (by with_reducible assumption) (by first | decide | assumption | omega) ?_))
  k_with "binaryOp FloorDiv int int" => (k_here; (with_reducible refine fdiv_eqH (by with_reducible assumption) (by first | decide | assumption | omega) (by omega) ?_))
  trivial
open PySem PySem.W PyProof.Rows PySem.Calls PySem.Spec
namespace Mine
noncomputable def NamesOk (c0 c1 c2 : Nat) : Prop := (c0 = 114 ∧ c1 = 103 ∧ c2 = 98) ∨ (c0 = 103 ∧ c1 = 98 ∧ c2 = 114) ∨ (c0 = 98 ∧ c1 = 114 ∧ c2 = 103)
noncomputable def LawC (w : World) (l P a1 a2 a3 : Addr) (n n1 n2 n3 : Nat) (y0 y1 y2 y3 : Int) (t0 t1 t2 t3 : Tok) (ep : Nat) (f0 sd : Int) (x1 z1 x2 z2 x3 z3 : Int) (s1 v1 s2 v2 s3 v3 tf ts : Tok) (o1 o2 o3 o4 : Obj) (C : Addr) (c0 c1 c2 : Nat) (e : List Nat) (ww : Int) (tn te tw : Tok) (b : List Stmt) (sc : Scope) : Prop := ∀ (loose : List Str) (mean : ExcName → Option Value) (mg mb : Str → Option Value) (dp un : Nat) (gd : Option (List Code)) (fa : Addr) (cd : Value) (outer : List Env) (A₀ : Around) (base h₀ : Heap) (L : Addr) (m : Str → Option Value) (s : Shared) (Q : Flow → Shared → Prop) (E : Value → Shared → Prop),
    Below A₀ base outer h₀ → (Mine.hd.heap_39 w.params).In h₀ → Top topProg loose mean mg mb h₀ → dp + 200 < recursionLimit → un + 2000 < cLine →
    PassesOwn (model PySem.Challenge.pw_sn0025_01 w) (ktrTop dp un gd (Str.ofString "law") sc L fa cd (cellsFrom (L + 1) sc.names []) outer) (envOfC (Str.ofString "law") sc L fa cd) E →
    o1.data = .cell (some (.int (1 + f0) tf)) → o2.data = .cell (some (.int sd ts)) → cellO o3 → cellO o4 → SepB L [P, a1, a2, a3, l] → (∀ p ∈ [((54 : Addr), tabObj #[]), (47, tabObj #[])], p.1 < L) → Hold (y0.fmod 4 = f0) → (0 ≤ f0 ∧ f0 < 4) → (1 ≤ sd ∧ (1 + f0) * sd ≤ 4) → (0 ≤ x1 ∧ x1 ≤ sd) → (0 ≤ z1 ∧ z1 ≤ sd) → (0 ≤ x2 ∧ x2 ≤ sd) → (0 ≤ z2 ∧ z2 ≤ sd) → (0 ≤ x3 ∧ x3 ≤ sd) → (0 ≤ z3 ∧ z3 ≤ sd) → Hold (areaF x1 z1 x2 z2 x3 z3 ≠ 0) → NamesOk c0 c1 c2 → EndOk e → (9 ≤ ww ∧ ww ≤ 12) → (∀ p ∈ [(P, list3 (.ref a1) (.ref a2) (.ref a3) n), (a1, tup2 (.int x1 s1) (.int z1 v1) n1), (a2, tup2 (.int x2 s2) (.int z2 v2) n2), (a3, tup2 (.int x3 s3) (.int z3 v3) n3), (l, list4 (.int y0 t0) (.int y1 t1) (.int y2 t2) (.int y3 t3) ep), (L + 1 + 1 + 1 + 1, o4), (L + 1 + 1 + 1, o3), (L + 1 + 1, o2), (L + 1, o1), (54, tabObj #[]), (47, tabObj #[])], p.1 < C) → Fr h₀ L s.heap (fun y => if y = Str.ofString "corners" then some (.ref C) else if y = Str.ofString "width" then some (.int ww tw) else if y = Str.ofString "names" then some (.str ⟨#[c0, c1, c2]⟩ tn) else if y = Str.ofString "end" then some (.str ⟨e.toArray⟩ te) else if y = Str.ofString "plain" then some (.ref P) else if y = Str.ofString "heaps" then some (.ref l) else m y) → News h₀ L s.heap ((C, PySem.W.listOf ([] : List Value).toArray 0) :: [(P, list3 (.ref a1) (.ref a2) (.ref a3) n), (a1, tup2 (.int x1 s1) (.int z1 v1) n1), (a2, tup2 (.int x2 s2) (.int z2 v2) n2), (a3, tup2 (.int x3 s3) (.int z3 v3) n3), (l, list4 (.int y0 t0) (.int y1 t1) (.int y2 t2) (.int y3 t3) ep), (L + 1 + 1 + 1 + 1, o4), (L + 1 + 1 + 1, o3), (L + 1 + 1, o2), (L + 1, o1), (54, tabObj #[]), (54, tabObj #[]), (47, tabObj #[]), (47, tabObj #[])]) →
    (∀ h' tk' m', Fr h₀ L h' m' → GrownAt 54 h' → GrownAt 47 h' → Q (.ret (.bool true)) { s with heap := h', toks := tk' }) →
    wpAny (model PySem.Challenge.pw_sn0025_01 w) (ktrTop dp un gd (Str.ofString "law") sc L fa cd (cellsFrom (L + 1) sc.names []) outer) (execs (b.drop 10) (envOfC (Str.ofString "law") sc L fa cd)) Q E s
section
variable {prog : Program} {w : World} {A : Around} {E : Value → Shared → Prop} {s : Shared} {h₀ : Heap} {L : Addr} {m : Str → Option Value} {news : List (Addr × Obj)}
theorem menu_end {value slice : Expr} {D : Addr} {x0 x1 x2 : Str} {t0 t1 t2 u : Tok} {n : Nat} {i : Int} {Q : Value → Shared → Prop} (N : News h₀ L s.heap news) (hm : (D, PySem.W.listOf [Value.str x0 t0, .str x1 t1, .str x2 t2].toArray n) ∈ news)
    (e0 : x0 = ⟨#[10]⟩) (e1 : x1 = ⟨#[13]⟩) (e2 : x2 = ⟨#[13, 10]⟩) (hi : 0 ≤ i ∧ i < 3) (h : ∀ e t, EndOk e → Q (.str ⟨e.toArray⟩ t) s)
    (hs : ∀ i u, subscripted slice false (.ref D) (.int i u) = operate [.ref D, .int i u] (getItem (.ref D) (.int i u))) :
    wpAny (model prog w) A (subscriptTail value slice (.ref D) (.int i u)) Q E s := by
  subst e0; subst e1; subst e2
  rcases (by omega : i = 0 ∨ i = 1 ∨ i = 2) with rfl | rfl | rfl
  · exact lst_item N hm (by decide) (by decide) rfl (h [10] _ (.inl rfl)) (hs _ _)
  · exact lst_item N hm (by decide) (by decide) rfl (h [13] _ (.inr (.inl rfl))) (hs _ _)
  · exact lst_item N hm (by decide) (by decide) rfl (h [13, 10] _ (.inr (.inr rfl))) (hs _ _)
end
theorem names_slice (ff : Int) (h : 0 ≤ ff ∧ ff < 3) : ∃ c0 c1 c2, NamesOk c0 c1 c2 ∧ Txt.slice (Str.ofString "rgbrg") (some ff) (some (ff + 3)) = ⟨#[c0, c1, c2]⟩ := by
  rcases (by omega : ff = 0 ∨ ff = 1 ∨ ff = 2) with rfl | rfl | rfl
  · exact ⟨114, 103, 98, .inl ⟨rfl, rfl, rfl⟩, by decide +kernel⟩
  · exact ⟨103, 98, 114, .inr (.inl ⟨rfl, rfl, rfl⟩), by decide +kernel⟩
  · exact ⟨98, 114, 103, .inr (.inr ⟨rfl, rfl, rfl⟩), by decide +kernel⟩

example : True := by
  k_with "subscriptTail" => (k_here; (with_reducible show wpAny _ _ (subscriptTail (Expr.List _ _) _ (Value.ref _) (Value.int _ _)) _ _ _); k_dflt (refine' menu_end ?NK9 ?mK9 ?e0K9 ?e1K9 ?e2K9 ?iK9 ?_ ?hsK9; (case NK9 => k_asm); (case mK9 => k_mem); (case e0K9 => first | rfl | decide +kernel); (case e1K9 => first | rfl | decide +kernel); (case e2K9 => first | rfl | decide +kernel); (case iK9 => omega); (case hsK9 => intro _ _; with_unfolding_all rfl)); intro e9' t9' he9'; revert e9' t9' he9'; intro _ _ _)
  k_with "execs cons" => (k_here; (with_reducible show wpAny _ _ (execs (Stmt.For _ _ _ _ _ :: _) _) _ _ _); refine Stop.mk ?_)
  trivial
theorem law_b (w : World) (l P a1 a2 a3 : Addr) (n n1 n2 n3 : Nat) (y0 y1 y2 y3 : Int) (t0 t1 t2 t3 : Tok) (ep : Nat) (f0 sd : Int) (x1 z1 x2 z2 x3 z3 : Int) (s1 v1 s2 v2 s3 v3 tf ts : Tok) (o1 o2 o3 o4 : Obj) (law_c : ∀ (l P a1 a2 a3 : Addr) (n n1 n2 n3 : Nat) (y0 y1 y2 y3 : Int) (t0 t1 t2 t3 : Tok) (ep : Nat) (f0 sd : Int) (x1 z1 x2 z2 x3 z3 : Int) (s1 v1 s2 v2 s3 v3 tf ts : Tok) (o1 o2 o3 o4 : Obj) (C : Addr) (c0 c1 c2 : Nat) (e : List Nat) (ww : Int) (tn te tw : Tok), LawC w l P a1 a2 a3 n n1 n2 n3 y0 y1 y2 y3 t0 t1 t2 t3 ep f0 sd x1 z1 x2 z2 x3 z3 s1 v1 s2 v2 s3 v3 tf ts o1 o2 o3 o4  C c0 c1 c2 e ww tn te tw (fnBody (Mine.hd.heap_39 w.params) 175) (fnScope (Mine.hd.heap_39 w.params) 175)) :
   LawB w l P a1 a2 a3 n n1 n2 n3 y0 y1 y2 y3 t0 t1 t2 t3 ep f0 sd x1 z1 x2 z2 x3 z3 s1 v1 s2 v2 s3 v3 tf ts o1 o2 o3 o4  (fnBody (Mine.hd.heap_39 w.params) 175) (fnScope (Mine.hd.heap_39 w.params) 175) := by
  revert law_c
  refine' with_fn (P := fun b sc => (∀ (l P a1 a2 a3 : Addr) (n n1 n2 n3 : Nat) (y0 y1 y2 y3 : Int) (t0 t1 t2 t3 : Tok) (ep : Nat) (f0 sd : Int) (x1 z1 x2 z2 x3 z3 : Int) (s1 v1 s2 v2 s3 v3 tf ts : Tok) (o1 o2 o3 o4 : Obj) (C : Addr) (c0 c1 c2 : Nat) (e : List Nat) (ww : Int) (tn te tw : Tok), LawC w l P a1 a2 a3 n n1 n2 n3 y0 y1 y2 y3 t0 t1 t2 t3 ep f0 sd x1 z1 x2 z2 x3 z3 s1 v1 s2 v2 s3 v3 tf ts o1 o2 o3 o4  C c0 c1 c2 e ww tn te tw b sc) → LawB w l P a1 a2 a3 n n1 n2 n3 y0 y1 y2 y3 t0 t1 t2 t3 ep f0 sd x1 z1 x2 z2 x3 z3 s1 v1 s2 v2 s3 v3 tf ts o1 o2 o3 o4  b sc) ?hK ?_
  case hK => k_is
  intro law_c
  intro loose mean mg mb dp un gd fa cd outer A₀ base h₀ L m s Q E hB X T hd hu hPE hd1 hd2 hc3 hc4 hsep hL hf0 hf0b hsdb bx1 bz1 bx2 bz2 bx3 bz3 har  F N hret
  have hL9 := hL
  k_lt hL
  obtain ⟨g1, hg1⟩ : ∃ f : Int, Hold (y0.fdiv 4 = f) := ⟨_, rfl⟩
  obtain ⟨g2, hg2⟩ : ∃ f : Int, Hold (y0.fdiv 12 = f) := ⟨_, rfl⟩
  obtain ⟨g3, hg3⟩ : ∃ f : Int, Hold (y0.fdiv 36 = f) := ⟨_, rfl⟩
  have mk : ∀ (n k : Int), 0 < k → ∃ r : Int, Hold (n.fmod k = r) ∧ 0 ≤ r ∧ r < k := fun n k hk => ⟨_, rfl, by rw [Int.fmod_eq_emod_of_nonneg _ (by omega)]; exact Int.emod_nonneg _ (by omega), by rw [Int.fmod_eq_emod_of_nonneg _ (by omega)]; exact Int.emod_lt_of_pos _ hk⟩
  obtain ⟨e0, he0, he0a, he0b⟩ := mk g1 3 (by omega)
  obtain ⟨ff, hff, hffa, hffb⟩ := mk g2 3 (by omega)
  obtain ⟨w3, hw3, hw3a, hw3b⟩ := mk g3 4 (by omega)
  clear mk
  dsimp only [List.drop]
  k_steps
  unfold Stop
  rename Fr _ _ _ _ => hF9
  rename News _ _ _ _ => hN9
  obtain ⟨c0, c1, c2, hnm, hsl⟩ := names_slice ff ⟨hffa, hffb⟩
  rw [hsl] at hF9
  refine' law_c l P a1 a2 a3 n n1 n2 n3 y0 y1 y2 y3 _ _ _ _ _ f0 sd x1 z1 x2 z2 x3 z3 _ _ _ _ _ _ _ _ _ _ _ _ _ _ _ _ _ (9 + w3) _ _ _ loose mean mg mb dp un gd fa cd outer A₀ base h₀ L (fun z => if z = Str.ofString "first" then some (.int ff ?tff) else m z) _ Q E hB X T hd hu hPE hd1 hd2 hc3 hc4 hsep hL9 hf0 hf0b hsdb bx1 bz1 bx2 bz2 bx3 bz3 har hnm ?he ⟨by omega, by omega⟩ ?hC ?F ?N ?ret
  case F =>
    refine Fr.congr hF9 (fun z => ?_)
    dsimp only
    by_cases q0 : z = Str.ofString "corners"
    · rw [if_pos q0, if_pos q0]
    · rw [if_neg q0, if_neg q0]
      by_cases q1 : z = Str.ofString "width"
      · rw [if_pos q1, if_pos q1]
      · rw [if_neg q1, if_neg q1]
        by_cases q2 : z = Str.ofString "names"
        · rw [if_pos q2, if_pos q2]
        · rw [if_neg q2, if_neg q2]
          by_cases q3 : z = Str.ofString "first"
          · rw [if_pos q3, if_neg (by rw [q3]; decide), if_neg (by rw [q3]; decide), if_neg (by rw [q3]; decide), if_pos q3]
          · rw [if_neg q3, if_neg q3]
  case N =>
    repeat (first | exact news_nil | refine news_cons (hN9 _ (by k_mem)) ?_)
  case he => assumption
  case hC =>
    intro p hp
    simp only [List.mem_cons, List.not_mem_nil, or_false] at hp
    rcases hp with hp | hp | hp | hp | hp | hp | hp | hp | hp | hp | hp <;> (subst hp; refine (show @LT.lt Nat instLTNat _ _ from ?_); dsimp only; omega)
  case ret => exact hret


end Mine
end
section
example : True := by (w_top off; trivial)
example : True := by (k_with_none; trivial)
example : True := by
  k_with "call builtin:min" => (k_here; (with_reducible show wpAny _ _ (call (Value.builtin _) [Value.int _ _, Value.int _ _, Value.int _ _]) _ _ _); k_dflt (refine' min3_N ?k0K9 ?k1K9 ?k2K9 ?_; (case k0K9 => rfl); (case k1K9 => k_asm); (case k2K9 => k_asm)); intro h' tk tok F' N'; revert h' tk tok F' N'; intro _ _ _ _ _)
  k_with "call builtin:max" => (k_here; (with_reducible show wpAny _ _ (call (Value.builtin _) [Value.int _ _, Value.int _ _, Value.int _ _]) _ _ _); k_dflt (refine' max3_N ?k0K9 ?k1K9 ?k2K9 ?_; (case k0K9 => rfl); (case k1K9 => k_asm); (case k2K9 => k_asm)); intro h' tk tok F' N'; revert h' tk tok F' N'; intro _ _ _ _ _)
  k_with "binaryOp Div int int" => (k_here; refine div_small (by omega) (by omega) ?_)
  k_with "subscriptTail" => (k_here; (with_reducible show wpAny _ _ (subscriptTail _ _ (Value.ref _) (Value.int _ _)) _ _ _); k_dflt (first
      | (refine' tup_item ?NK9 ?mK9 ?aK9 ?bK9 ?cK9 ?dK9 ?_ ?eK9; (case NK9 => k_asm); (case mK9 => k_mem); (case aK9 => decide); (case bK9 => decide); (case cK9 => rfl); (case dK9 => rfl); (case eK9 => with_unfolding_all rfl); k_whole)
      | (refine' lst_item ?NK9 ?mK9 ?aK9 ?bK9 ?cK9 ?_ ?eK9; (case NK9 => k_asm); (case mK9 => k_mem); (case aK9 => decide); (case bK9 => decide); (case cK9 => rfl); (case eK9 => with_unfolding_all rfl); k_whole)
      | (refine' lst_itemN ?NK9 ?mK9 ?aK9 ?bK9 ?cK9 ?dK9 ?_ ?eK9; (case NK9 => k_asm); (case mK9 => k_mem); (case aK9 => decide); (case bK9 => decide); (case cK9 => decide); (case dK9 => rfl); (case eK9 => with_unfolding_all rfl); k_whole)))
  trivial
example : True := by
  k_with "subscriptTail Name Constant ref int" => (k_here; (with_reducible show wpAny _ _ (subscriptTail _ _ (Value.ref _) (Value.int _ _)) _ _ _); k_dflt (first
      | (refine' tup_item ?NK9 ?mK9 ?aK9 ?bK9 ?cK9 ?dK9 ?_ ?eK9; (case NK9 => k_asm); (case mK9 => k_mem); (case aK9 => decide); (case bK9 => decide); (case cK9 => rfl); (case dK9 => rfl); (case eK9 => with_unfolding_all rfl); k_whole)
      | (refine' lst_item ?NK9 ?mK9 ?aK9 ?bK9 ?cK9 ?_ ?eK9; (case NK9 => k_asm); (case mK9 => k_mem); (case aK9 => decide); (case bK9 => decide); (case cK9 => rfl); (case eK9 => with_unfolding_all rfl); k_whole)
      | (refine' lst_itemN ?NK9 ?mK9 ?aK9 ?bK9 ?cK9 ?dK9 ?_ ?eK9; (case NK9 => k_asm); (case mK9 => k_mem); (case aK9 => decide); (case bK9 => decide); (case cK9 => decide); (case dK9 => rfl); (case eK9 => with_unfolding_all rfl); k_whole)))
  k_with "binaryOp Mod int int" => (k_here; first | (with_reducible refine mod_eq (by with_reducible assumption) (by first | decide | assumption | omega) ?_) | (with_reducible refine mod_eqH (by with_reducible assumption) (by first | decide | assumption | omega) ?_))
  k_with "binaryOp FloorDiv int int" => (k_here; (with_reducible refine fdiv_eqH (by with_reducible assumption) (by first | decide | assumption | omega) (by omega) ?_))
  trivial
open PySem PySem.W PyProof.Rows PySem.Calls PySem.Spec
namespace Mine
noncomputable def nOf (fr fg : Int) (c : Nat) : Int := if c = 114 then fr else if c = 103 then fg else 1
theorem NamesOk.each {c0 c1 c2 : Nat} (h : NamesOk c0 c1 c2) : ∀ c, c = c0 ∨ c = c1 ∨ c = c2 → c = 114 ∨ c = 103 ∨ c = 98 := by
  rcases h with ⟨rfl, rfl, rfl⟩ | ⟨rfl, rfl, rfl⟩ | ⟨rfl, rfl, rfl⟩ <;> omega
theorem dots_at {fr fg : Int} {ta tb tc : Tok} {c : Nat} (h : c = 114 ∨ c = 103 ∨ c = 98) :
    ∃ t, PySem.valueAt [(Str.ofString "r", Value.int fr ta), (Str.ofString "g", Value.int fg tb), (Str.ofString "b", Value.int 1 tc)] ⟨#[c]⟩ = some (.int (nOf fr fg c) t) := by
  rcases h with rfl | rfl | rfl
  · exact ⟨ta, rfl⟩
  · exact ⟨tb, rfl⟩
  · exact ⟨tc, rfl⟩
theorem c_mailN (w : World) (news : List (Addr × Obj)) (D : Addr) (od : Obj) (fr fg kv : Int) (c0 c1 c2 : Nat) (ta tb tc tn te tk : Tok) (e : List Nat) (hD : (D, od) ∈ news) (hod : od.IsDictOf (PySem.strKind PySem.Challenge.pw_sn0025_01 w) [(Str.ofString "r", .int fr ta), (Str.ofString "g", .int fg tb), (Str.ofString "b", .int 1 tc)])
   (hfr : 1 ≤ fr ∧ fr ≤ 5) (hfg : 1 ≤ fg ∧ fg ≤ 5) (hkv : 1 ≤ kv ∧ kv ≤ 3) (he : EndOk e) (hnm : NamesOk c0 c1 c2) :
  CSpec w 30 137 [.ref D, .str ⟨#[c0, c1, c2]⟩ tn, .str ⟨e.toArray⟩ te, .int kv tk] news (RStr ⟨(mailF (nOf fr fg c0 + kv) (nOf fr fg c1 + kv) (nOf fr fg c2 + kv) c0 c1 c2 [13, 10]).toArray⟩ news) := by
  obtain ⟨t0, h0⟩ := dots_at (fr := fr) (fg := fg) (ta := ta) (tb := tb) (tc := tc) (hnm.each c0 (.inl rfl))
  obtain ⟨t1, h1⟩ := dots_at (fr := fr) (fg := fg) (ta := ta) (tb := tb) (tc := tc) (hnm.each c1 (.inr (.inl rfl)))
  obtain ⟨t2, h2⟩ := dots_at (fr := fr) (fg := fg) (ta := ta) (tb := tb) (tc := tc) (hnm.each c2 (.inr (.inr rfl)))
  have hb : ∀ c, 1 ≤ nOf fr fg c ∧ nOf fr fg c ≤ 5 := fun c => by unfold nOf; split; · exact hfr
                                                                  · split; · exact hfg
                                                                    · omega
  have hel : e.length ≤ 2 := by rcases he with rfl | rfl | rfl <;> decide
  have hcc : ∀ c, c = c0 ∨ c = c1 ∨ c = c2 → c ≠ 10 ∧ c ≠ 13 := fun c hc => by rcases hnm.each c hc with rfl | rfl | rfl <;> decide
  have hasc : (⟨#[c0, c1, c2]⟩ : Str).cps.all (· < 128) = true := by rcases hnm with ⟨rfl, rfl, rfl⟩ | ⟨rfl, rfl, rfl⟩ | ⟨rfl, rfl, rfl⟩ <;> decide +kernel
  have key := c_mail w news D od _ (nOf fr fg c0) (nOf fr fg c1) (nOf fr fg c2) kv c0 c1 c2 t0 t1 t2 tn te tk e hD hod h0 h1 h2 ⟨by have := hb c0; omega, (hb c0).2⟩ ⟨by have := hb c1; omega, (hb c1).2⟩ ⟨by have := hb c2; omega, (hb c2).2⟩ hkv hel hasc
  obtain ⟨k, rfl⟩ : ∃ k : Nat, kv = ((k + 1 : Nat) : Int) := ⟨kv.toNat - 1, by omega⟩
  rw [show (((k + 1 : Nat) : Int)).toNat = k + 1 from rfl, sent_mail (hb c0).1 (hb c1).1 (hb c2).1 (hcc c0 (.inl rfl)) (hcc c1 (.inr (.inl rfl))) (hcc c2 (.inr (.inr rfl))) he k] at key
  exact key
noncomputable abbrev RLights (w : World) (vr vg vb : Int) (c0 c1 c2 : Nat) (news : List (Addr × Obj)) (h₀ : Heap) (L : Addr) (m : Str → Option Value) (s : Shared) (Q : Value → Shared → Prop) : Prop :=
  ∀ (D : Addr) (o : Obj) (kvs : List (Str × Value)) (tr tg tb : Tok) (h' : Heap) (tk' : Nat), o.IsDictOf (PySem.strKind PySem.Challenge.pw_sn0025_01 w) kvs → kvs.map (·.1) = [(⟨#[c0]⟩ : Str), ⟨#[c1]⟩, ⟨#[c2]⟩] →
    PySem.valueAt kvs (Str.ofString "r") = some (.int vr tr) → PySem.valueAt kvs (Str.ofString "g") = some (.int vg tg) → PySem.valueAt kvs (Str.ofString "b") = some (.int vb tb) →
    (D == sysModules) = false → Fr h₀ L h' m → News h₀ L h' ((D, o) :: news) → LCg.Off1 D news → Q (.ref D) { s with heap := h', toks := tk' }
theorem off1_of {D : Addr} : ∀ {l : List (Addr × Obj)}, (∀ p ∈ l, p.1 ≠ D) → LCg.Off1 D l
  | [], _ => trivial
  | _ :: _, h => ⟨h _ (.head _), off1_of fun p hp => h p (.tail _ hp)⟩
theorem c_readN (w : World) (news : List (Addr × Obj)) (fr fg kv : Int) (c0 c1 c2 : Nat) (tx : Tok) (hfr : 1 ≤ fr ∧ fr ≤ 5) (hfg : 1 ≤ fg ∧ fg ≤ 5) (hkv : 1 ≤ kv ∧ kv ≤ 3) (hnm : NamesOk c0 c1 c2) :
  CSpec w 30 144 [.str ⟨(mailF (nOf fr fg c0 + kv) (nOf fr fg c1 + kv) (nOf fr fg c2 + kv) c0 c1 c2 [13, 10]).toArray⟩ tx] news (RLights w (fr + kv) (fg + kv) (1 + kv) c0 c1 c2 news) := by
  have hb : ∀ c, 1 ≤ nOf fr fg c ∧ nOf fr fg c ≤ 5 := fun c => by unfold nOf; split; · exact hfr
                                                                  · split; · exact hfg
                                                                    · omega
  have hcc : ∀ c, c = c0 ∨ c = c1 ∨ c = c2 → (c ≠ 46 ∧ c ≠ 58 ∧ c ≠ 10) ∧ c ≠ 13 := fun c hc => by rcases hnm.each c hc with rfl | rfl | rfl <;> decide
  have key := c_read w news (nOf fr fg c0 + kv) (nOf fr fg c1 + kv) (nOf fr fg c2 + kv) c0 c1 c2 tx (by have := hb c0; omega) (by have := hb c1; omega) (by have := hb c2; omega)
    (hcc c0 (.inl rfl)).1 (hcc c1 (.inr (.inl rfl))).1 (hcc c2 (.inr (.inr rfl))).1 ⟨(hcc c0 (.inl rfl)).2, (hcc c1 (.inr (.inl rfl))).2, (hcc c2 (.inr (.inr rfl))).2⟩
  intro loose mean mg mb dp un gd cn cs a ccd cl outer A₀ base h₀ L m s Q E hB F X N T hk hd hu hret
  refine key loose mean mg mb dp un gd cn cs a ccd cl outer A₀ base h₀ L m s Q E hB F X N T hk hd hu ?_
  intro D o t0 t1 t2 h' tk' hod lo F' N' off
  rcases hnm with ⟨rfl, rfl, rfl⟩ | ⟨rfl, rfl, rfl⟩ | ⟨rfl, rfl, rfl⟩
  · exact hret D o _ t0 t1 t2 h' tk' hod rfl rfl rfl rfl lo F' N' (off1_of off)
  · exact hret D o _ t2 t0 t1 h' tk' hod rfl rfl rfl rfl lo F' N' (off1_of off)
  · exact hret D o _ t1 t2 t0 h' tk' hod rfl rfl rfl rfl lo F' N' (off1_of off)
theorem names_sorted {c0 c1 c2 : Nat} (hnm : NamesOk c0 c1 c2) : ∀ ss' : List Str, ss'.Perm [(⟨#[c0]⟩ : Str), ⟨#[c1]⟩, ⟨#[c2]⟩] → sortedS ss' = true → ss' = [⟨#[98]⟩, ⟨#[103]⟩, ⟨#[114]⟩] := by
  rcases hnm with ⟨rfl, rfl, rfl⟩ | ⟨rfl, rfl, rfl⟩ | ⟨rfl, rfl, rfl⟩ <;>
  · refine perm3 (by decide +kernel) ?_
    intro x y z hx hy hz n1 n2 n3 hs
    simp only [List.mem_cons, List.not_mem_nil, or_false] at hx hy hz
    rcases hx with rfl | rfl | rfl <;> rcases hy with rfl | rfl | rfl <;> rcases hz with rfl | rfl | rfl <;> first | exact absurd rfl n1 | exact absurd rfl n2 | exact absurd rfl n3 | rfl | (exact absurd hs (by decide +kernel))
end Mine
end
section
local macro_rules | `(tactic| passes_own) => `(tactic| assumption)
section
example : True := by (w_top off; trivial)
example : True := by (k_with_none; trivial)
example : True := by
  k_with "call builtin:min" => (k_here; (with_reducible show wpAny _ _ (call (Value.builtin _) [Value.int _ _, Value.int _ _, Value.int _ _]) _ _ _); k_dflt (refine' min3_N ?k0K9 ?k1K9 ?k2K9 ?_; (case k0K9 => rfl); (case k1K9 => k_asm); (case k2K9 => k_asm)); intro h' tk tok F' N'; revert h' tk tok F' N'; intro _ _ _ _ _)
  k_with "call builtin:max" => (k_here; (with_reducible show wpAny _ _ (call (Value.builtin _) [Value.int _ _, Value.int _ _, Value.int _ _]) _ _ _); k_dflt (refine' max3_N ?k0K9 ?k1K9 ?k2K9 ?_; (case k0K9 => rfl); (case k1K9 => k_asm); (case k2K9 => k_asm)); intro h' tk tok F' N'; revert h' tk tok F' N'; intro _ _ _ _ _)
  k_with "binaryOp Div int int" => (k_here; refine div_small (by omega) (by omega) ?_)
  k_with "subscriptTail" => (k_here; (with_reducible show wpAny _ _ (subscriptTail _ _ (Value.ref _) (Value.int _ _)) _ _ _); k_dflt (first
      | (refine' tup_item ?NK9 ?mK9 ?aK9 ?bK9 ?cK9 ?dK9 ?_ ?eK9; (case NK9 => k_asm); (case mK9 => k_mem); (case aK9 => decide); (case bK9 => decide); (case cK9 => rfl); (case dK9 => rfl); (case eK9 => with_unfolding_all rfl); k_whole)
      | (refine' lst_item ?NK9 ?mK9 ?aK9 ?bK9 ?cK9 ?_ ?eK9; (case NK9 => k_asm); (case mK9 => k_mem); (case aK9 => decide); (case bK9 => decide); (case cK9 => rfl); (case eK9 => with_unfolding_all rfl); k_whole)
      | (refine' lst_itemN ?NK9 ?mK9 ?aK9 ?bK9 ?cK9 ?dK9 ?_ ?eK9; (case NK9 => k_asm); (case mK9 => k_mem); (case aK9 => decide); (case bK9 => decide); (case cK9 => decide); (case dK9 => rfl); (case eK9 => with_unfolding_all rfl); k_whole)))
  trivial
example : True := by
  k_with "subscriptTail Name Constant ref int" => (k_here; (with_reducible show wpAny _ _ (subscriptTail _ _ (Value.ref _) (Value.int _ _)) _ _ _); k_dflt (first
      | (refine' tup_item ?NK9 ?mK9 ?aK9 ?bK9 ?cK9 ?dK9 ?_ ?eK9; (case NK9 => k_asm); (case mK9 => k_mem); (case aK9 => decide); (case bK9 => decide); (case cK9 => rfl); (case dK9 => rfl); (case eK9 => with_unfolding_all rfl); k_whole)
      | (refine' lst_item ?NK9 ?mK9 ?aK9 ?bK9 ?cK9 ?_ ?eK9; (case NK9 => k_asm); (case mK9 => k_mem); (case aK9 => decide); (case bK9 => decide); (case cK9 => rfl); (case eK9 => with_unfolding_all rfl); k_whole)
      | (refine' lst_itemN ?NK9 ?mK9 ?aK9 ?bK9 ?cK9 ?dK9 ?_ ?eK9; (case NK9 => k_asm); (case mK9 => k_mem); (case aK9 => decide); (case bK9 => decide); (case cK9 => decide); (case dK9 => rfl); (case eK9 => with_unfolding_all rfl); k_whole)))
  k_with "binaryOp Mod int int" => (k_here; first | (with_reducible refine mod_eq (by with_reducible assumption) (by first | decide | assumption | omega) ?_) | (with_reducible refine mod_eqH (by with_reducible assumption) (by first | decide | assumption | omega) ?_))
  k_with "binaryOp FloorDiv int int" => (k_here; (with_reducible refine fdiv_eqH (by with_reducible assumption) (by first | decide | assumption | omega) (by omega) ?_))
  trivial
open PySem PySem.W PyProof.Rows PySem.Calls PySem.Spec
namespace Mine
theorem cls_list {a b c : Value} {n : Nat} : (list3 a b c n).cls ≠ (itR 0 0).cls := by
  intro h; exact absurd (show (Value.type "list") = Value.type "range_iterator" from h) (by decide)
noncomputable abbrev ch (C P l : Addr) (c0 c1 c2 : Nat) (e : List Nat) (ww : Int) (tn te tw : Tok) (m : Str → Option Value) : Str → Option Value := fun y => if y = Str.ofString "corners" then some (.ref C) else if y = Str.ofString "width" then some (.int ww tw) else if y = Str.ofString "names" then some (.str ⟨#[c0, c1, c2]⟩ tn) else if y = Str.ofString "end" then some (.str ⟨e.toArray⟩ te) else if y = Str.ofString "plain" then some (.ref P) else if y = Str.ofString "heaps" then some (.ref l) else m y
noncomputable def Loc (z : Str) : Prop := z = Str.ofString "k" ∨ z = Str.ofString "x" ∨ z = Str.ofString "y" ∨ z = Str.ofString "dots" ∨ z = Str.ofString "lights"
theorem ch_key {C P l : Addr} {c0 c1 c2 : Nat} {e : List Nat} {ww : Int} {tn te tw : Tok} {m m' : Str → Option Value} (h : ∀ z, ¬ Loc z → m' z = ch C P l c0 c1 c2 e ww tn te tw m z) (z : Str) (hk : z ≠ Str.ofString "k") :
    m' z = ch C P l c0 c1 c2 e ww tn te tw m' z := by
  by_cases q : z = Str.ofString "corners" ∨ z = Str.ofString "width" ∨ z = Str.ofString "names" ∨ z = Str.ofString "end" ∨ z = Str.ofString "plain" ∨ z = Str.ofString "heaps"
  · have hl : ¬ Loc z := by
      unfold Loc
      rcases q with rfl | rfl | rfl | rfl | rfl | rfl <;> decide
    rw [h z hl]
    rcases q with rfl | rfl | rfl | rfl | rfl | rfl <;> rfl
  · simp only [not_or] at q
    show _ = (if z = _ then _ else if z = _ then _ else if z = _ then _ else if z = _ then _ else if z = _ then _ else if z = _ then _ else _)
    rw [if_neg q.1, if_neg q.2.1, if_neg q.2.2.1, if_neg q.2.2.2.1, if_neg q.2.2.2.2.1, if_neg q.2.2.2.2.2]
theorem cls_tup {a b : Value} {n : Nat} : (tup2 a b n).cls ≠ (itR 0 0).cls := by
  intro h; exact absurd (show (Value.type "tuple") = Value.type "range_iterator" from h) (by decide)
theorem slot_ne {h₀ h : Heap} {L b I : Addr} {ob : Obj} {x y : Int} {news : List (Addr × Obj)} (N : News h₀ L h news) (h1 : (b, ob) ∈ news) (h2 : (I, itR x y) ∈ news) (hk : ob.cls ≠ (itR 0 0).cls) : b ≠ I := by
  rintro rfl
  have a1 := (N _ h1).1
  have a2 := (N _ h2).1
  rw [a1] at a2
  have := Option.some.inj a2
  exact hk (by rw [show ob = itR x y from this]; rfl)
theorem sep3 {L a b c : Addr} (ha : (@Ne Nat a (L + 1)) ∧ (@Ne Nat a (L + 1 + 1)) ∧ (@Ne Nat a (L + 1 + 1 + 1)) ∧ (@Ne Nat a (L + 1 + 1 + 1 + 1)) ∧ (@Ne Nat a 54) ∧ (@Ne Nat a 47)) (hb : (@Ne Nat b (L + 1)) ∧ (@Ne Nat b (L + 1 + 1)) ∧ (@Ne Nat b (L + 1 + 1 + 1)) ∧ (@Ne Nat b (L + 1 + 1 + 1 + 1)) ∧ (@Ne Nat b 54) ∧ (@Ne Nat b 47)) (hc : (@Ne Nat c (L + 1)) ∧ (@Ne Nat c (L + 1 + 1)) ∧ (@Ne Nat c (L + 1 + 1 + 1)) ∧ (@Ne Nat c (L + 1 + 1 + 1 + 1)) ∧ (@Ne Nat c 54) ∧ (@Ne Nat c 47)) : SepB L [a, b, c] := by
  intro x hx
  simp only [List.mem_cons, List.not_mem_nil, or_false] at hx
  rcases hx with rfl | rfl | rfl
  · exact ha
  · exact hb
  · exact hc
theorem pc_elim {C : Addr} {bs nw : List (Addr × Obj)} {G R : Prop} {K : List Value → Addr → Addr → Addr → Obj → Obj → Obj → Prop} {I : Addr} {it : Obj} {h₀ h : Heap} {L : Addr}
    (hP : Hold (∃ ys ep' b0 b1 b2 ob0 ob1 ob2, nw = (C, PySem.W.listOf ys.toArray ep') :: (b0, ob0) :: (b1, ob1) :: (b2, ob2) :: bs ∧ R ∧ K ys b0 b1 b2 ob0 ob1 ob2)) (N : News h₀ L h ((I, it) :: nw))
    (k : ∀ ys ep' b0 b1 b2 ob0 ob1 ob2, R → K ys b0 b1 b2 ob0 ob1 ob2 → News h₀ L h ((I, it) :: (C, PySem.W.listOf ys.toArray ep') :: (b0, ob0) :: (b1, ob1) :: (b2, ob2) :: bs) → G) : G := by
  obtain ⟨ys, ep', b0, b1, b2, ob0, ob1, ob2, rfl, hr, hk⟩ := hP
  exact k ys ep' b0 b1 b2 ob0 ob1 ob2 hr hk N
theorem ex6 {a1 a2 a3 a4 a5 a6 : Type} {A B C D E : a1 → a2 → a3 → a4 → a5 → a6 → Prop} {G : Prop} (h : ∃ a b c d e f, A a b c d e f ∧ B a b c d e f ∧ C a b c d e f ∧ D a b c d e f ∧ E a b c d e f) (k : ∀ a b c d e f, A a b c d e f → B a b c d e f → C a b c d e f → D a b c d e f → E a b c d e f → G) : G := by
  obtain ⟨a, b, c, d, e, f, h1, h2, h3, h4, h5⟩ := h
  exact k a b c d e f h1 h2 h3 h4 h5
theorem ex2 {a1 a2 : Type} {A : a1 → a2 → Prop} {G : Prop} (h : ∃ a b, A a b) (k : ∀ a b, A a b → G) : G := by
  obtain ⟨a, b, h⟩ := h
  exact k a b h
theorem ex11 {a1 : Type} {A B : a1 → Prop} {G : Prop} (h : ∃ a, A a ∧ B a) (k : ∀ a, A a → B a → G) : G := by
  obtain ⟨a, h, h'⟩ := h
  exact k a h h'
noncomputable def Filled (f x z : Int) (ob : Obj) : Prop := ∃ t u n, ob = tup2 (.int (f * x) t) (.int (f * z) u) n
theorem get_ent {h₀ h : Heap} {L : Addr} {news : List (Addr × Obj)} {p : Addr × Obj} (_ : News h₀ L h news) (hm : p ∈ news) : p ∈ news := hm
theorem tup_vals {D : Addr} {v u a b : Int} {t t' : Tok} {n : Nat} {news : List (Addr × Obj)} (h : (D, tup2 (.int v t) (.int u t') n) ∈ news) (hv : v = a) (hu : u = b) : ∃ t t', (D, tup2 (.int a t) (.int b t') n) ∈ news := by
  subst hv; subst hu; exact ⟨_, _, h⟩
theorem filled_of {f x z v u : Int} {t t' : Tok} {n : Nat} (hv : v = f * x) (hu : u = f * z) : Filled f x z (tup2 (.int v t) (.int u t') n) := by
  subst hv; subst hu; exact ⟨_, _, _, rfl⟩
structure Cor (L C : Addr) (f x1 z1 x2 z2 x3 z3 : Int) (i : Nat) (ys : List Value) (b0 b1 b2 : Addr) (ob0 ob1 ob2 : Obj) : Prop where
  y0 : i = 0 → ys = []
  y1 : i = 1 → ys = [.ref b0]
  y2 : i = 2 → ys = [.ref b0, .ref b1]
  y3 : i = 3 → ys = [.ref b0, .ref b1, .ref b2]
  f0 : 0 < i → Filled f x1 z1 ob0
  f1 : 1 < i → Filled f x2 z2 ob1
  f2 : 2 < i → Filled f x3 z3 ob2
  sp : SepB L [b0, b1, b2]
  n0 : @Ne Nat b0 C
  n1 : @Ne Nat b1 C
  n2 : @Ne Nat b2 C
  k0 : ob0.cls ≠ (itR 0 0).cls
  k1 : ob1.cls ≠ (itR 0 0).cls
  k2 : ob2.cls ≠ (itR 0 0).cls
theorem Cor.len {L C : Addr} {f x1 z1 x2 z2 x3 z3 : Int} {i : Nat} {ys : List Value} {b0 b1 b2 : Addr} {ob0 ob1 ob2 : Obj} (h : Cor L C f x1 z1 x2 z2 x3 z3 i ys b0 b1 b2 ob0 ob1 ob2) (hi : i < 4) : ys.length = i := by
  rcases (by omega : i = 0 ∨ i = 1 ∨ i = 2 ∨ i = 3) with rfl | rfl | rfl | rfl
  · rw [h.y0 rfl]; rfl
  · rw [h.y1 rfl]; rfl
  · rw [h.y2 rfl]; rfl
  · rw [h.y3 rfl]; rfl
section
variable {prog : Program} {w : World} {A : Around} {E : Value → Shared → Prop} {s : Shared} {h₀ : Heap} {L : Addr} {m : Str → Option Value} {news : List (Addr × Obj)}
theorem lst_ref {value slice : Expr} {t : Addr} {vs : List Value} {n : Nat} {k : Int} {u : Tok} {r : Addr} {Q : Value → Shared → Prop} (N : News h₀ L s.heap news) (hm : (t, ({ cls := .type "list", data := .seq vs.toArray n } : Obj)) ∈ news)
    (hx : vs[k.toNat]? = some (.ref r)) (hlo : 0 ≤ k) (hhi : k < 2 ^ 63) (h : Q (.ref r) s)
    (hs : subscripted slice false (.ref t) (.int k u) = operate [.ref t, .int k u] (getItem (.ref t) (.int k u))) :
    wpAny (model prog w) A (subscriptTail value slice (.ref t) (.int k u)) Q E s := lst_item N hm hlo hhi hx h hs
theorem lst_int {value slice : Expr} {t : Addr} {vs : List Value} {n : Nat} {k : Int} {u : Tok} {r : Int} {tr : Tok} {Q : Value → Shared → Prop} (N : News h₀ L s.heap news) (hm : (t, ({ cls := .type "list", data := .seq vs.toArray n } : Obj)) ∈ news)
    (hx : vs[k.toNat]? = some (.int r tr)) (hlo : 0 ≤ k) (hhi : k < 2 ^ 63) (h : Q (.int r tr) s)
    (hs : subscripted slice false (.ref t) (.int k u) = operate [.ref t, .int k u] (getItem (.ref t) (.int k u))) :
    wpAny (model prog w) A (subscriptTail value slice (.ref t) (.int k u)) Q E s := lst_item N hm hlo hhi hx h hs
end
noncomputable def LawD (w : World) (l P a1 a2 a3 : Addr) (n n1 n2 n3 : Nat) (y0 y1 y2 y3 : Int) (t0 t1 t2 t3 : Tok) (ep : Nat) (f0 sd : Int) (x1 z1 x2 z2 x3 z3 : Int) (s1 v1 s2 v2 s3 v3 tf ts : Tok) (o1 o2 o3 o4 : Obj) (C : Addr) (c0 c1 c2 : Nat) (e : List Nat) (ww : Int) (tn te tw : Tok) (T0 T1 T2 : Addr) (nC j0 j1 j2 : Nat) (u0 w0 u1 w1 u2 w2 : Tok) (b : List Stmt) (sc : Scope) : Prop := ∀ (loose : List Str) (mean : ExcName → Option Value) (mg mb : Str → Option Value) (dp un : Nat) (gd : Option (List Code)) (fa : Addr) (cd : Value) (outer : List Env) (A₀ : Around) (base h₀ : Heap) (L : Addr) (m : Str → Option Value) (s : Shared) (Q : Flow → Shared → Prop) (E : Value → Shared → Prop),
    Below A₀ base outer h₀ → (Mine.hd.heap_39 w.params).In h₀ → Top topProg loose mean mg mb h₀ → dp + 200 < recursionLimit → un + 2000 < cLine →
    PassesOwn (model PySem.Challenge.pw_sn0025_01 w) (ktrTop dp un gd (Str.ofString "law") sc L fa cd (cellsFrom (L + 1) sc.names []) outer) (envOfC (Str.ofString "law") sc L fa cd) E →
    o1.data = .cell (some (.int (1 + f0) tf)) → o2.data = .cell (some (.int sd ts)) → cellO o3 → cellO o4 → SepB L [P, a1, a2, a3, l] → (∀ p ∈ [((54 : Addr), tabObj #[]), (47, tabObj #[])], p.1 < L) → Hold (y0.fmod 4 = f0) → (0 ≤ f0 ∧ f0 < 4) → (1 ≤ sd ∧ (1 + f0) * sd ≤ 4) → (0 ≤ x1 ∧ x1 ≤ sd) → (0 ≤ z1 ∧ z1 ≤ sd) → (0 ≤ x2 ∧ x2 ≤ sd) → (0 ≤ z2 ∧ z2 ≤ sd) → (0 ≤ x3 ∧ x3 ≤ sd) → (0 ≤ z3 ∧ z3 ≤ sd) → Hold (areaF x1 z1 x2 z2 x3 z3 ≠ 0) → NamesOk c0 c1 c2 → EndOk e → (9 ≤ ww ∧ ww ≤ 12) → (∀ p ∈ [(P, list3 (.ref a1) (.ref a2) (.ref a3) n), (a1, tup2 (.int x1 s1) (.int z1 v1) n1), (a2, tup2 (.int x2 s2) (.int z2 v2) n2), (a3, tup2 (.int x3 s3) (.int z3 v3) n3), (l, list4 (.int y0 t0) (.int y1 t1) (.int y2 t2) (.int y3 t3) ep), (L + 1 + 1 + 1 + 1, o4), (L + 1 + 1 + 1, o3), (L + 1 + 1, o2), (L + 1, o1), (54, tabObj #[]), (47, tabObj #[])], p.1 < C) → SepB L [T0, T1, T2] → Fr h₀ L s.heap (fun y => if y = Str.ofString "corners" then some (.ref C) else if y = Str.ofString "width" then some (.int ww tw) else if y = Str.ofString "names" then some (.str ⟨#[c0, c1, c2]⟩ tn) else if y = Str.ofString "end" then some (.str ⟨e.toArray⟩ te) else if y = Str.ofString "plain" then some (.ref P) else if y = Str.ofString "heaps" then some (.ref l) else m y) → News h₀ L s.heap ((C, PySem.W.listOf [Value.ref T0, .ref T1, .ref T2].toArray nC) :: (T0, tup2 (.int ((1 + f0) * x1) u0) (.int ((1 + f0) * z1) w0) j0) :: (T1, tup2 (.int ((1 + f0) * x2) u1) (.int ((1 + f0) * z2) w1) j1) :: (T2, tup2 (.int ((1 + f0) * x3) u2) (.int ((1 + f0) * z3) w2) j2) :: [(P, list3 (.ref a1) (.ref a2) (.ref a3) n), (a1, tup2 (.int x1 s1) (.int z1 v1) n1), (a2, tup2 (.int x2 s2) (.int z2 v2) n2), (a3, tup2 (.int x3 s3) (.int z3 v3) n3), (l, list4 (.int y0 t0) (.int y1 t1) (.int y2 t2) (.int y3 t3) ep), (L + 1 + 1 + 1 + 1, o4), (L + 1 + 1 + 1, o3), (L + 1 + 1, o2), (L + 1, o1), (54, tabObj #[]), (54, tabObj #[]), (47, tabObj #[]), (47, tabObj #[])]) →
    (∀ h' tk' m', Fr h₀ L h' m' → GrownAt 54 h' → GrownAt 47 h' → Q (.ret (.bool true)) { s with heap := h', toks := tk' }) →
    wpAny (model PySem.Challenge.pw_sn0025_01 w) (ktrTop dp un gd (Str.ofString "law") sc L fa cd (cellsFrom (L + 1) sc.names []) outer) (execs (b.drop 11) (envOfC (Str.ofString "law") sc L fa cd)) Q E s

example : True := by
  k_with "call builtin:list.append" => (k_here; (with_reducible show wpAny _ _ (call (Value.builtin _) [Value.ref _, _]) _ _ _); k_dflt (refine' append_K ?k1K9 ?k2K9 ?k3K9 ?_ ?zK9; (case k1K9 => k_asm); (case k2K9 => k_asm); (case k3K9 => k_upd); (case zK9 => first | ((show _ ≤ sizeLine); rw [sizeLine_eq]; simp only [List.size_toArray]; omega) | size_fits); k_whole); intro h' F' N'; revert h' F' N'; intro _ _ _)
  k_with "eval Dict" => (k_here; k_dflt (refine' kdn_str ?qK9 ?FK9 ?NK9 ?bK9 ?aK9 ?lK9 ?eK9 ?nK9 ?_; (case qK9 => rfl); (case FK9 => k_asm); (case NK9 => k_asm); (case bK9 => exact Top.nolimit (by k_asm)); (case aK9 => rfl); (case lK9 => rfl); (case eK9 => exact List.cons_ne_nil _ _); (case nK9 => exact Nat.le_of_ble_eq_true rfl)); intro d' h' o' F' N' l1 lo' hd'; (try k_lt l1); revert d' h' o' F' N' l1 lo' hd'; intro _ _ _ _ _ _ _ _)
  k_with "subscriptTail" => (k_here; (with_reducible show wpAny _ _ (subscriptTail (Expr.Name _ _) _ (Value.ref _) (Value.int _ _)) _ _ _); k_dflt (first
      | (refine' lst_ref ?NK9 ?mK9 ?xK9 ?aK9 ?bK9 ?_ ?eK9; (case NK9 => k_asm); (case mK9 => k_mem); (case xK9 => with_reducible assumption); (case aK9 => omega); (case bK9 => omega); (case eK9 => with_unfolding_all rfl))
      | (refine' lst_int ?NK9 ?mK9 ?xK9 ?aK9 ?bK9 ?_ ?eK9; (case NK9 => k_asm); (case mK9 => k_mem); (case xK9 => with_reducible assumption); (case aK9 => omega); (case bK9 => omega); (case eK9 => with_unfolding_all rfl))))
  k_with "subscriptTail Name BinOp ref int" => (k_here; (with_reducible show wpAny _ _ (subscriptTail (Expr.Name _ _) _ (Value.ref _) (Value.int _ _)) _ _ _); k_dflt (first
      | (refine' lst_ref ?NK9 ?mK9 ?xK9 ?aK9 ?bK9 ?_ ?eK9; (case NK9 => k_asm); (case mK9 => k_mem); (case xK9 => with_reducible assumption); (case aK9 => omega); (case bK9 => omega); (case eK9 => with_unfolding_all rfl))
      | (refine' lst_int ?NK9 ?mK9 ?xK9 ?aK9 ?bK9 ?_ ?eK9; (case NK9 => k_asm); (case mK9 => k_mem); (case xK9 => with_reducible assumption); (case aK9 => omega); (case bK9 => omega); (case eK9 => with_unfolding_all rfl))))
  k_with "subscriptTail" => (k_here; k_dflt ((with_reducible show wpAny _ _ (subscriptTail _ _ (Value.ref _) (Value.str _ _)) _ _ _); refine kda_item (knd := PySem.strKind _ _) (by k_asm) (by k_mem) (by k_asm) (strKind_is _ _ _ _) (by with_reducible assumption) ?_))
  k_with "pyIter ref" => ((with_reducible show wpAny _ _ (pyIter (Value.ref _)) (fun it s₂ => LoopAtV _ _ _ _ _ _ _ _ _ it s₂) _ _); k_here; (have zq9 := ‹IsRange _ _ _ _ _ _ _ _›; clear zq9); refine Stop.mk ?_)
  k_with "UnrEnd" => (refine Stop.mk ?_)
  k_with "call builtin:sorted" => (k_here; k_dflt (refine' sorted3 (d := _) ?hK9 ?FK9 ?NK9 ?mK9 ?dK9 ?loK9 ?kK9 ?sK9 ?_; (case hK9 => rfl); (case FK9 => k_asm); (case NK9 => k_asm); (case mK9 => k_mem); (case dK9 => k_asm); (case loK9 => with_reducible assumption); (case kK9 => with_reducible assumption); (case sK9 => exact names_sorted (by with_reducible assumption))); intro D' t0' t1' t2' n' h' tk' F' N' l1; (try k_lt l1); revert D' t0' t1' t2' n' h' tk' F' N' l1; intro _ _ _ _ _ _ _ _ _ _)
  k_with "call ref" => (k_here; (with_reducible show wpAny _ _ (call (Value.ref 137) [Value.ref _, Value.str _ _, Value.str _ _, Value.int _ _]) _ _ _); k_dflt (refine' cspec_go (c_mailN _ _ _ _ _ _ _ _ _ _ _ _ _ _ _ _ _ ?mK9 ?odK9 ?b1K9 ?b2K9 ?b3K9 ?eoK9 ?nmK9) ?_; (case mK9 => k_mem); (case odK9 => k_asm); (case b1K9 => omega); (case b2K9 => omega); (case b3K9 => omega); (case eoK9 => with_reducible assumption); (case nmK9 => with_reducible assumption)); intro t h' tk' F' N'; revert t h' tk' F' N'; intro _ _ _ _ _)
  k_with "call ref" => (k_here; (with_reducible show wpAny _ _ (call (Value.ref 144) [Value.str _ _]) _ _ _); k_dflt (refine' cspec_go (c_readN _ _ _ _ _ _ _ _ _ ?b1K9 ?b2K9 ?b3K9 ?nmK9) ?_; (case b1K9 => omega); (case b2K9 => omega); (case b3K9 => omega); (case nmK9 => with_reducible assumption)); intro D9' o9' kvs9' tr9' tg9' tb9' h' tk' hod9' hmap9' hr9' hg9' hb9' lo9' F' N' off9'; simp only [LCg.Off1, and_true] at off9'; revert D9' o9' kvs9' tr9' tg9' tb9' h' tk' hod9' hmap9' hr9' hg9' hb9' lo9' F' N' off9'; intro _ _ _ _ _ _ _ _ _ _ _ _ _ _ _ _ _)
  trivial
theorem law_c (w : World) (l P a1 a2 a3 : Addr) (n n1 n2 n3 : Nat) (y0 y1 y2 y3 : Int) (t0 t1 t2 t3 : Tok) (ep : Nat) (f0 sd : Int) (x1 z1 x2 z2 x3 z3 : Int) (s1 v1 s2 v2 s3 v3 tf ts : Tok) (o1 o2 o3 o4 : Obj) (C : Addr) (c0 c1 c2 : Nat) (e : List Nat) (ww : Int) (tn te tw : Tok) (law_d : ∀ (l P a1 a2 a3 : Addr) (n n1 n2 n3 : Nat) (y0 y1 y2 y3 : Int) (t0 t1 t2 t3 : Tok) (ep : Nat) (f0 sd : Int) (x1 z1 x2 z2 x3 z3 : Int) (s1 v1 s2 v2 s3 v3 tf ts : Tok) (o1 o2 o3 o4 : Obj) (C : Addr) (c0 c1 c2 : Nat) (e : List Nat) (ww : Int) (tn te tw : Tok) (T0 T1 T2 : Addr) (nC j0 j1 j2 : Nat) (u0 w0 u1 w1 u2 w2 : Tok), LawD w l P a1 a2 a3 n n1 n2 n3 y0 y1 y2 y3 t0 t1 t2 t3 ep f0 sd x1 z1 x2 z2 x3 z3 s1 v1 s2 v2 s3 v3 tf ts o1 o2 o3 o4  C c0 c1 c2 e ww tn te tw T0 T1 T2 nC j0 j1 j2 u0 w0 u1 w1 u2 w2 (fnBody (Mine.hd.heap_39 w.params) 175) (fnScope (Mine.hd.heap_39 w.params) 175)) :
   LawC w l P a1 a2 a3 n n1 n2 n3 y0 y1 y2 y3 t0 t1 t2 t3 ep f0 sd x1 z1 x2 z2 x3 z3 s1 v1 s2 v2 s3 v3 tf ts o1 o2 o3 o4  C c0 c1 c2 e ww tn te tw (fnBody (Mine.hd.heap_39 w.params) 175) (fnScope (Mine.hd.heap_39 w.params) 175) := by
  revert law_d
  refine' with_fn (P := fun b sc => (∀ (l P a1 a2 a3 : Addr) (n n1 n2 n3 : Nat) (y0 y1 y2 y3 : Int) (t0 t1 t2 t3 : Tok) (ep : Nat) (f0 sd : Int) (x1 z1 x2 z2 x3 z3 : Int) (s1 v1 s2 v2 s3 v3 tf ts : Tok) (o1 o2 o3 o4 : Obj) (C : Addr) (c0 c1 c2 : Nat) (e : List Nat) (ww : Int) (tn te tw : Tok) (T0 T1 T2 : Addr) (nC j0 j1 j2 : Nat) (u0 w0 u1 w1 u2 w2 : Tok), LawD w l P a1 a2 a3 n n1 n2 n3 y0 y1 y2 y3 t0 t1 t2 t3 ep f0 sd x1 z1 x2 z2 x3 z3 s1 v1 s2 v2 s3 v3 tf ts o1 o2 o3 o4  C c0 c1 c2 e ww tn te tw T0 T1 T2 nC j0 j1 j2 u0 w0 u1 w1 u2 w2 b sc) → LawC w l P a1 a2 a3 n n1 n2 n3 y0 y1 y2 y3 t0 t1 t2 t3 ep f0 sd x1 z1 x2 z2 x3 z3 s1 v1 s2 v2 s3 v3 tf ts o1 o2 o3 o4  C c0 c1 c2 e ww tn te tw b sc) ?hK ?_
  case hK => k_is
  intro law_d
  intro loose mean mg mb dp un gd fa cd outer A₀ base h₀ L m s Q E hB X T hd hu hPE hd1 hd2 hc3 hc4 hsep hL hf0 hf0b hsdb bx1 bz1 bx2 bz2 bx3 bz3 har  hnm he hww hC F N₀ hret
  dsimp only [List.drop]
  have N : News h₀ L s.heap ((C, PySem.W.listOf ([] : List Value).toArray 0) :: [(P, list3 (.ref a1) (.ref a2) (.ref a3) n), (a1, tup2 (.int x1 s1) (.int z1 v1) n1), (a2, tup2 (.int x2 s2) (.int z2 v2) n2), (a3, tup2 (.int x3 s3) (.int z3 v3) n3), (l, list4 (.int y0 t0) (.int y1 t1) (.int y2 t2) (.int y3 t3) ep), (L + 1 + 1 + 1 + 1, o4), (L + 1 + 1 + 1, o3), (L + 1 + 1, o2), (L + 1, o1), (54, tabObj #[]), (47, tabObj #[])]) := by
    repeat (first | exact news_nil | refine news_cons (N₀ _ (by k_mem)) ?_)
  clear N₀
  have hsd4 : sd ≤ 4 := by rcases (by omega : f0 = 0 ∨ f0 = 1 ∨ f0 = 2 ∨ f0 = 3) with rfl | rfl | rfl | rfl <;> omega
  k_steps
  unfold Stop
  rename IsRange _ _ _ _ _ _ _ _ => hR
  rename Fr _ _ _ _ => hF
  rename News _ _ _ _ => hN
  have hPC : @Ne Nat P C := Nat.ne_of_lt (hC _ (.head _))
  refine iter_range_ind (P := fun i m' n' => Hold (∃ ys ep' b0 b1 b2 ob0 ob1 ob2, n' = (C, PySem.W.listOf ys.toArray ep') :: (b0, ob0) :: (b1, ob1) :: (b2, ob2) :: [(P, list3 (.ref a1) (.ref a2) (.ref a3) n), (a1, tup2 (.int x1 s1) (.int z1 v1) n1), (a2, tup2 (.int x2 s2) (.int z2 v2) n2), (a3, tup2 (.int x3 s3) (.int z3 v3) n3), (l, list4 (.int y0 t0) (.int y1 t1) (.int y2 t2) (.int y3 t3) ep), (L + 1 + 1 + 1 + 1, o4), (L + 1 + 1 + 1, o3), (L + 1 + 1, o2), (L + 1, o1), (54, tabObj #[]), (47, tabObj #[])] ∧ (∀ z, ¬ Loc z → m' z = ch C P l c0 c1 c2 e ww tn te tw m z) ∧ Cor L C (1 + f0) x1 z1 x2 z2 x3 z3 i ys b0 b1 b2 ob0 ob1 ob2))
    (news := (C, PySem.W.listOf ([] : List Value).toArray 0) :: (P, list3 (.ref a1) (.ref a2) (.ref a3) n) :: (P, list3 (.ref a1) (.ref a2) (.ref a3) n) :: (P, list3 (.ref a1) (.ref a2) (.ref a3) n) :: [(P, list3 (.ref a1) (.ref a2) (.ref a3) n), (a1, tup2 (.int x1 s1) (.int z1 v1) n1), (a2, tup2 (.int x2 s2) (.int z2 v2) n2), (a3, tup2 (.int x3 s3) (.int z3 v3) n3), (l, list4 (.int y0 t0) (.int y1 t1) (.int y2 t2) (.int y3 t3) ep), (L + 1 + 1 + 1 + 1, o4), (L + 1 + 1 + 1, o3), (L + 1 + 1, o2), (L + 1, o1), (54, tabObj #[]), (47, tabObj #[])]) rfl hR ⟨by decide, by decide, by decide⟩ hF ?_ ?_ ?_ ?_
  · repeat (first | exact news_nil | refine news_cons (hN _ (by k_mem)) ?_)
  · exact ⟨[], 0, P, P, P, _, _, _, rfl, fun z _ => rfl, { y0 := fun _ => rfl, y1 := fun h => absurd h (by decide), y2 := fun h => absurd h (by decide), y3 := fun h => absurd h (by decide), f0 := fun h => absurd h (by decide), f1 := fun h => absurd h (by decide), f2 := fun h => absurd h (by decide), sp := fun a ha => hsep a (by simp only [List.mem_cons, List.not_mem_nil, or_false] at ha ⊢; rcases ha with h | h | h <;> simp only [h, true_or]), n0 := hPC, n1 := hPC, n2 := hPC, k0 := cls_list, k1 := cls_list, k2 := cls_list }⟩
  · rintro m' nw ⟨ys, ep', b0, b1, b2, ob0, ob1, ob2, rfl, hm, hcor⟩ h tk F' N'
    have e3 := hcor.y3 rfl
    subst e3
    obtain ⟨q0, r0, k0, rfl⟩ := hcor.f0 (by decide)
    obtain ⟨q1, r1, k1, rfl⟩ := hcor.f1 (by decide)
    obtain ⟨q2, r2, k2, rfl⟩ := hcor.f2 (by decide)
    have F2 := Fr.congr F' (m' := ch C P l c0 c1 c2 e ww tn te tw m') (fun z => by
      by_cases q : z = Str.ofString "k"
      · subst q; rfl
      · exact ch_key hm z q)
    refine' law_d l P a1 a2 a3 n n1 n2 n3 y0 y1 y2 y3 _ _ _ _ _ f0 sd x1 z1 x2 z2 x3 z3 _ _ _ _ _ _ _ _ _ _ _ _ C c0 c1 c2 e ww _ _ _ b0 b1 b2 _ _ _ _ _ _ _ _ _ _ loose mean mg mb dp un gd fa cd outer A₀ base h₀ L m' _ Q E hB X T hd hu hPE hd1 hd2 hc3 hc4 hsep hL hf0 hf0b hsdb bx1 bz1 bx2 bz2 bx3 bz3 har hnm he hww hC hcor.sp ?F ?N hret
    case F => exact F2
    case N => repeat (first | exact news_nil | refine news_cons (N' _ (by k_mem)) ?_)
  · intro I i m' nw hi hP9 hI t h tk F' N9
    refine pc_elim hP9 N9 ?_
    clear hP9 N9
    intro ys ep' b0 b1 b2 ob0 ob1 ob2 hm hcor N'
    have hi3 : i < 3 := hi
    have hlen := hcor.len (by omega)
    refine ex6 (show ∃ ak xk zk sk vk nk, [Value.ref a1, .ref a2, .ref a3][(0 + (i : Int)).toNat]? = some (.ref ak) ∧ (ak, tup2 (.int xk sk) (.int zk vk) nk) ∈ [(P, list3 (.ref a1) (.ref a2) (.ref a3) n), (a1, tup2 (.int x1 s1) (.int z1 v1) n1), (a2, tup2 (.int x2 s2) (.int z2 v2) n2), (a3, tup2 (.int x3 s3) (.int z3 v3) n3), (l, list4 (.int y0 t0) (.int y1 t1) (.int y2 t2) (.int y3 t3) ep), (L + 1 + 1 + 1 + 1, o4), (L + 1 + 1 + 1, o3), (L + 1 + 1, o2), (L + 1, o1), (54, tabObj #[]), (47, tabObj #[])] ∧ (0 ≤ xk ∧ xk ≤ sd) ∧ (0 ≤ zk ∧ zk ≤ sd) ∧ ((i = 0 → xk = x1 ∧ zk = z1) ∧ (i = 1 → xk = x2 ∧ zk = z2) ∧ (i = 2 → xk = x3 ∧ zk = z3))  from by
      rcases (by omega : i = 0 ∨ i = 1 ∨ i = 2) with rfl | rfl | rfl
      · exact ⟨_, _, _, _, _, _, rfl, .tail _ (.head _), bx1, bz1, fun _ => ⟨rfl, rfl⟩, fun h => absurd h (by decide), fun h => absurd h (by decide)⟩
      · exact ⟨_, _, _, _, _, _, rfl, .tail _ (.tail _ (.head _)), bx2, bz2, fun h => absurd h (by decide), fun _ => ⟨rfl, rfl⟩, fun h => absurd h (by decide)⟩
      · exact ⟨_, _, _, _, _, _, rfl, .tail _ (.tail _ (.tail _ (.head _))), bx3, bz3, fun h => absurd h (by decide), fun h => absurd h (by decide), fun _ => ⟨rfl, rfl⟩⟩) ?_
    intro ak xk zk sk vk nk hpl hmem hxk hzk hwh
    refine ex2 (show ∃ yk tyk, [Value.int y0 t0, .int y1 t1, .int y2 t2, .int y3 t3][(0 + (i : Int) + 1).toNat]? = some (.int yk tyk)  from by
      rcases (by omega : i = 0 ∨ i = 1 ∨ i = 2) with rfl | rfl | rfl
      · exact ⟨_, _, rfl⟩
      · exact ⟨_, _, rfl⟩
      · exact ⟨_, _, rfl⟩) ?_
    intro yk tyk hhp
    have hfx : 0 ≤ (1 + f0) * xk ∧ (1 + f0) * xk ≤ 4 := ⟨Int.mul_nonneg (by omega) hxk.1, Int.le_trans (Int.mul_le_mul_of_nonneg_left hxk.2 (by omega)) hsdb.2⟩
    have hfz : 0 ≤ (1 + f0) * zk ∧ (1 + f0) * zk ≤ 4 := ⟨Int.mul_nonneg (by omega) hzk.1, Int.le_trans (Int.mul_le_mul_of_nonneg_left hzk.2 (by omega)) hsdb.2⟩
    refine ex11 (show ∃ f : Int, Hold (yk.fdiv 25 = f) ∧ True from ⟨_, rfl, trivial⟩) ?_
    intro g5 hg5 _
    refine ex11 (show ∃ f : Int, Hold (g5.fmod 3 = f) ∧ (0 ≤ f ∧ f < 3) from ⟨_, rfl, by rw [Int.fmod_eq_emod_of_nonneg _ (by decide)]; omega⟩) ?_
    intro kk hkk hkk0
    have F2 := Fr.congr F' (m' := fun y => if y = Str.ofString "k" then some (.int (0 + (i : Int)) t) else ch C P l c0 c1 c2 e ww tn te tw m' y) (fun z => by
      by_cases q : z = Str.ofString "k"
      · show (if z = _ then _ else _) = (if z = _ then _ else _); rw [if_pos q, if_pos q]
      · show (if z = _ then _ else _) = (if z = _ then _ else _); rw [if_neg q, if_neg q]; exact ch_key hm z q)
    dsimp only [ch] at F2
    have N2 := news_cons (N' _ (.tail _ (.tail _ (.tail _ (.tail _ (.tail _ hmem)))))) N'
    have hn0 := hcor.n0
    have hn1 := hcor.n1
    have hn2 := hcor.n2
    have hakC : @LT.lt Nat _ ak C := hC _ hmem
    have hzs : ys.length ≤ 3 := by omega
    k_lt hC
    k_lt hI
    clear F' N'
    k_steps
    unfold Stop
    rename_i DT hT1 FT1 NT1 l1T hZ FZ NZ
    have hs0 : b0 ≠ I := slot_ne NZ (by k_mem) (by k_mem) hcor.k0
    have hs1 : b1 ≠ I := slot_ne NZ (by k_mem) (by k_mem) hcor.k1
    have hs2 : b2 ≠ I := slot_ne NZ (by k_mem) (by k_mem) hcor.k2
    have hDTC : @Ne Nat DT C := by omega
    have hsDT : (@Ne Nat DT (L + 1)) ∧ (@Ne Nat DT (L + 1 + 1)) ∧ (@Ne Nat DT (L + 1 + 1 + 1)) ∧ (@Ne Nat DT (L + 1 + 1 + 1 + 1)) ∧ (@Ne Nat DT 54) ∧ (@Ne Nat DT 47) := ⟨by omega, by omega, by omega, by omega, by omega, by omega⟩
    have epush : ys.toArray.push (Value.ref DT) = (ys ++ [Value.ref DT]).toArray := by simp
    rw [epush] at NZ
    have hmem8 := get_ent NZ (p := (DT, tup2 (Value.int _ _) (Value.int _ _) 0)) (by k_mem)
    obtain ⟨t9, t9', hmem9⟩ := tup_vals hmem8 (a := (1 + f0) * xk) (b := (1 + f0) * zk) (by omega) (by omega)
    rcases (by omega : i = 0 ∨ i = 1 ∨ i = 2) with rfl | rfl | rfl
    · obtain ⟨ex, ez⟩ := hwh.1 rfl
      have hsp9 : SepB L [DT, b1, b2] := sep3 hsDT (hcor.sp b1 (by simp)) (hcor.sp b2 (by simp))
      refine UnrEnd.intro FZ NZ ((C, PySem.W.listOf (ys ++ [Value.ref DT]).toArray (ep' + 1)) :: (DT, tup2 (.int ((1 + f0) * xk) t9) (.int ((1 + f0) * zk) t9') 0) :: (b1, ob1) :: (b2, ob2) :: [(P, list3 (.ref a1) (.ref a2) (.ref a3) n), (a1, tup2 (.int x1 s1) (.int z1 v1) n1), (a2, tup2 (.int x2 s2) (.int z2 v2) n2), (a3, tup2 (.int x3 s3) (.int z3 v3) n3), (l, list4 (.int y0 t0) (.int y1 t1) (.int y2 t2) (.int y3 t3) ep), (L + 1 + 1 + 1 + 1, o4), (L + 1 + 1 + 1, o3), (L + 1 + 1, o2), (L + 1, o1), (54, tabObj #[]), (47, tabObj #[])]) ?_ ?_ ⟨ys ++ [Value.ref DT], _, DT, b1, b2, _, _, _, rfl, ?_, { y0 := fun h => absurd h (by decide), y1 := fun _ => by rw [hcor.y0 rfl]; rfl, y2 := fun h => absurd h (by decide), y3 := fun h => absurd h (by decide), f0 := fun _ => (by rw [← ex, ← ez]; exact ⟨_, _, _, rfl⟩), sp := hsp9, n0 := hDTC, k0 := cls_tup, f1 := fun h => absurd h (by decide), n1 := hn1, k1 := hcor.k1, f2 := fun h => absurd h (by decide), n2 := hn2, k2 := hcor.k2 }⟩
      · repeat (first | exact List.forall_mem_nil _ | refine List.forall_mem_cons.mpr ⟨by (first | exact hmem9 | k_mem), ?_⟩)
      · repeat (first | exact List.forall_mem_nil _ | refine List.forall_mem_cons.mpr ⟨by (first | exact hs0 | exact hs1 | exact hs2 | k_ne), ?_⟩)
      · intro z hz
        have hz0 := hz
        unfold Loc at hz
        simp only [not_or] at hz
        have key := (ch_key hm z hz.1).symm.trans (hm z hz0)
        simp only [hz.1, hz.2.1, hz.2.2.1, hz.2.2.2.1, hz.2.2.2.2, if_false]
        exact key
    · obtain ⟨ex, ez⟩ := hwh.2.1 rfl
      have hsp9 : SepB L [b0, DT, b2] := sep3 (hcor.sp b0 (by simp)) hsDT (hcor.sp b2 (by simp))
      refine UnrEnd.intro FZ NZ ((C, PySem.W.listOf (ys ++ [Value.ref DT]).toArray (ep' + 1)) :: (b0, ob0) :: (DT, tup2 (.int ((1 + f0) * xk) t9) (.int ((1 + f0) * zk) t9') 0) :: (b2, ob2) :: [(P, list3 (.ref a1) (.ref a2) (.ref a3) n), (a1, tup2 (.int x1 s1) (.int z1 v1) n1), (a2, tup2 (.int x2 s2) (.int z2 v2) n2), (a3, tup2 (.int x3 s3) (.int z3 v3) n3), (l, list4 (.int y0 t0) (.int y1 t1) (.int y2 t2) (.int y3 t3) ep), (L + 1 + 1 + 1 + 1, o4), (L + 1 + 1 + 1, o3), (L + 1 + 1, o2), (L + 1, o1), (54, tabObj #[]), (47, tabObj #[])]) ?_ ?_ ⟨ys ++ [Value.ref DT], _, b0, DT, b2, _, _, _, rfl, ?_, { y0 := fun h => absurd h (by decide), y1 := fun h => absurd h (by decide), y2 := fun _ => by rw [hcor.y1 rfl]; rfl, y3 := fun h => absurd h (by decide), f0 := fun _ => hcor.f0 (by decide), sp := hsp9, n0 := hn0, k0 := hcor.k0, f1 := fun _ => (by rw [← ex, ← ez]; exact ⟨_, _, _, rfl⟩), n1 := hDTC, k1 := cls_tup, f2 := fun h => absurd h (by decide), n2 := hn2, k2 := hcor.k2 }⟩
      · repeat (first | exact List.forall_mem_nil _ | refine List.forall_mem_cons.mpr ⟨by (first | exact hmem9 | k_mem), ?_⟩)
      · repeat (first | exact List.forall_mem_nil _ | refine List.forall_mem_cons.mpr ⟨by (first | exact hs0 | exact hs1 | exact hs2 | k_ne), ?_⟩)
      · intro z hz
        have hz0 := hz
        unfold Loc at hz
        simp only [not_or] at hz
        have key := (ch_key hm z hz.1).symm.trans (hm z hz0)
        simp only [hz.1, hz.2.1, hz.2.2.1, hz.2.2.2.1, hz.2.2.2.2, if_false]
        exact key
    · obtain ⟨ex, ez⟩ := hwh.2.2 rfl
      have hsp9 : SepB L [b0, b1, DT] := sep3 (hcor.sp b0 (by simp)) (hcor.sp b1 (by simp)) hsDT
      refine UnrEnd.intro FZ NZ ((C, PySem.W.listOf (ys ++ [Value.ref DT]).toArray (ep' + 1)) :: (b0, ob0) :: (b1, ob1) :: (DT, tup2 (.int ((1 + f0) * xk) t9) (.int ((1 + f0) * zk) t9') 0) :: [(P, list3 (.ref a1) (.ref a2) (.ref a3) n), (a1, tup2 (.int x1 s1) (.int z1 v1) n1), (a2, tup2 (.int x2 s2) (.int z2 v2) n2), (a3, tup2 (.int x3 s3) (.int z3 v3) n3), (l, list4 (.int y0 t0) (.int y1 t1) (.int y2 t2) (.int y3 t3) ep), (L + 1 + 1 + 1 + 1, o4), (L + 1 + 1 + 1, o3), (L + 1 + 1, o2), (L + 1, o1), (54, tabObj #[]), (47, tabObj #[])]) ?_ ?_ ⟨ys ++ [Value.ref DT], _, b0, b1, DT, _, _, _, rfl, ?_, { y0 := fun h => absurd h (by decide), y1 := fun h => absurd h (by decide), y2 := fun h => absurd h (by decide), y3 := fun _ => by rw [hcor.y2 rfl]; rfl, f0 := fun _ => hcor.f0 (by decide), sp := hsp9, n0 := hn0, k0 := hcor.k0, f1 := fun _ => hcor.f1 (by decide), n1 := hn1, k1 := hcor.k1, f2 := fun _ => (by rw [← ex, ← ez]; exact ⟨_, _, _, rfl⟩), n2 := hDTC, k2 := cls_tup }⟩
      · repeat (first | exact List.forall_mem_nil _ | refine List.forall_mem_cons.mpr ⟨by (first | exact hmem9 | k_mem), ?_⟩)
      · repeat (first | exact List.forall_mem_nil _ | refine List.forall_mem_cons.mpr ⟨by (first | exact hs0 | exact hs1 | exact hs2 | k_ne), ?_⟩)
      · intro z hz
        have hz0 := hz
        unfold Loc at hz
        simp only [not_or] at hz
        have key := (ch_key hm z hz.1).symm.trans (hm z hz0)
        simp only [hz.1, hz.2.1, hz.2.2.1, hz.2.2.2.1, hz.2.2.2.2, if_false]
        exact key


end Mine
end
section
example : True := by (w_top off; trivial)
example : True := by (k_with_none; trivial)
example : True := by
  k_with "call builtin:min" => (k_here; (with_reducible show wpAny _ _ (call (Value.builtin _) [Value.int _ _, Value.int _ _, Value.int _ _]) _ _ _); k_dflt (refine' min3_N ?k0K9 ?k1K9 ?k2K9 ?_; (case k0K9 => rfl); (case k1K9 => k_asm); (case k2K9 => k_asm)); intro h' tk tok F' N'; revert h' tk tok F' N'; intro _ _ _ _ _)
  k_with "call builtin:max" => (k_here; (with_reducible show wpAny _ _ (call (Value.builtin _) [Value.int _ _, Value.int _ _, Value.int _ _]) _ _ _); k_dflt (refine' max3_N ?k0K9 ?k1K9 ?k2K9 ?_; (case k0K9 => rfl); (case k1K9 => k_asm); (case k2K9 => k_asm)); intro h' tk tok F' N'; revert h' tk tok F' N'; intro _ _ _ _ _)
  k_with "binaryOp Div int int" => (k_here; refine div_small (by omega) (by omega) ?_)
  k_with "subscriptTail" => (k_here; (with_reducible show wpAny _ _ (subscriptTail _ _ (Value.ref _) (Value.int _ _)) _ _ _); k_dflt (first
      | (refine' tup_item ?NK9 ?mK9 ?aK9 ?bK9 ?cK9 ?dK9 ?_ ?eK9; (case NK9 => k_asm); (case mK9 => k_mem); (case aK9 => decide); (case bK9 => decide); (case cK9 => rfl); (case dK9 => rfl); (case eK9 => with_unfolding_all rfl); k_whole)
      | (refine' lst_item ?NK9 ?mK9 ?aK9 ?bK9 ?cK9 ?_ ?eK9; (case NK9 => k_asm); (case mK9 => k_mem); (case aK9 => decide); (case bK9 => decide); (case cK9 => rfl); (case eK9 => with_unfolding_all rfl); k_whole)
      | (refine' lst_itemN ?NK9 ?mK9 ?aK9 ?bK9 ?cK9 ?dK9 ?_ ?eK9; (case NK9 => k_asm); (case mK9 => k_mem); (case aK9 => decide); (case bK9 => decide); (case cK9 => decide); (case dK9 => rfl); (case eK9 => with_unfolding_all rfl); k_whole)))
  trivial
example : True := by
  k_with "subscriptTail Name Constant ref int" => (k_here; (with_reducible show wpAny _ _ (subscriptTail _ _ (Value.ref _) (Value.int _ _)) _ _ _); k_dflt (first
      | (refine' tup_item ?NK9 ?mK9 ?aK9 ?bK9 ?cK9 ?dK9 ?_ ?eK9; (case NK9 => k_asm); (case mK9 => k_mem); (case aK9 => decide); (case bK9 => decide); (case cK9 => rfl); (case dK9 => rfl); (case eK9 => with_unfolding_all rfl); k_whole)
      | (refine' lst_item ?NK9 ?mK9 ?aK9 ?bK9 ?cK9 ?_ ?eK9; (case NK9 => k_asm); (case mK9 => k_mem); (case aK9 => decide); (case bK9 => decide); (case cK9 => rfl); (case eK9 => with_unfolding_all rfl); k_whole)
      | (refine' lst_itemN ?NK9 ?mK9 ?aK9 ?bK9 ?cK9 ?dK9 ?_ ?eK9; (case NK9 => k_asm); (case mK9 => k_mem); (case aK9 => decide); (case bK9 => decide); (case cK9 => decide); (case dK9 => rfl); (case eK9 => with_unfolding_all rfl); k_whole)))
  k_with "binaryOp Mod int int" => (k_here; first | (with_reducible refine mod_eq (by with_reducible assumption) (by first | decide | assumption | omega) ?_) | (with_reducible refine mod_eqH (by with_reducible assumption) (by first | decide | assumption | omega) ?_))
  k_with "binaryOp FloorDiv int int" => (k_here; (with_reducible refine fdiv_eqH (by with_reducible assumption) (by first | decide | assumption | omega) (by omega) ?_))
  trivial
open PySem PySem.W PyProof.Rows PySem.Calls PySem.Spec
namespace Mine
noncomputable abbrev Sx (L a : Addr) : Prop := (@Ne Nat a (L + 1)) ∧ (@Ne Nat a (L + 1 + 1)) ∧ (@Ne Nat a (L + 1 + 1 + 1)) ∧ (@Ne Nat a (L + 1 + 1 + 1 + 1)) ∧ (@Ne Nat a 54) ∧ (@Ne Nat a 47)
theorem offE {L a : Addr} (s : Sx L a) : (@Ne Nat a 54) ∧ (@Ne Nat a 54) ∧ (@Ne Nat a 47) ∧ (@Ne Nat a 47) := ⟨s.2.2.2.2.1, s.2.2.2.2.1, s.2.2.2.2.2, s.2.2.2.2.2⟩
theorem cellOff {L : Nat} (h1 : 54 < L) (h2 : 47 < L) : ((@Ne Nat (L + 1 + 1 + 1 + 1) 54) ∧ (@Ne Nat (L + 1 + 1 + 1 + 1) 54) ∧ (@Ne Nat (L + 1 + 1 + 1 + 1) 47) ∧ (@Ne Nat (L + 1 + 1 + 1 + 1) 47)) ∧ ((@Ne Nat (L + 1 + 1 + 1) 54) ∧ (@Ne Nat (L + 1 + 1 + 1) 54) ∧ (@Ne Nat (L + 1 + 1 + 1) 47) ∧ (@Ne Nat (L + 1 + 1 + 1) 47)) ∧ ((@Ne Nat (L + 1) 54) ∧ (@Ne Nat (L + 1) 54) ∧ (@Ne Nat (L + 1) 47) ∧ (@Ne Nat (L + 1) 47)) := by omega
noncomputable def LawE (w : World) (P a1 a2 a3 : Addr) (n n1 n2 n3 : Nat) (f0 sd : Int) (x1 z1 x2 z2 x3 z3 : Int) (s1 v1 s2 v2 s3 v3 tf : Tok) (o1 o3 o4 : Obj) (C T0 T1 T2 : Addr) (nC j0 j1 j2 : Nat) (u0 w0 u1 w1 u2 w2 : Tok) (ww : Int) (tw : Tok) (b : List Stmt) (sc : Scope) : Prop := ∀ (loose : List Str) (mean : ExcName → Option Value) (mg mb : Str → Option Value) (dp un : Nat) (gd : Option (List Code)) (fa : Addr) (cd : Value) (outer : List Env) (A₀ : Around) (base h₀ : Heap) (L : Addr) (m : Str → Option Value) (s : Shared) (Q : Flow → Shared → Prop) (E : Value → Shared → Prop),
    Below A₀ base outer h₀ → (Mine.hd.heap_39 w.params).In h₀ → Top topProg loose mean mg mb h₀ → dp + 200 < recursionLimit → un + 2000 < cLine →
    PassesOwn (model PySem.Challenge.pw_sn0025_01 w) (ktrTop dp un gd (Str.ofString "law") sc L fa cd (cellsFrom (L + 1) sc.names []) outer) (envOfC (Str.ofString "law") sc L fa cd) E →
    o1.data = .cell (some (.int (1 + f0) tf)) → cellO o3 → cellO o4 → OffT 54 47 [(C, PySem.W.listOf [Value.ref T0, .ref T1, .ref T2].toArray nC), (T0, tup2 (.int ((1 + f0) * x1) u0) (.int ((1 + f0) * z1) w0) j0), (T1, tup2 (.int ((1 + f0) * x2) u1) (.int ((1 + f0) * z2) w1) j1), (T2, tup2 (.int ((1 + f0) * x3) u2) (.int ((1 + f0) * z3) w2) j2), (P, list3 (.ref a1) (.ref a2) (.ref a3) n), (a1, tup2 (.int x1 s1) (.int z1 v1) n1), (a2, tup2 (.int x2 s2) (.int z2 v2) n2), (a3, tup2 (.int x3 s3) (.int z3 v3) n3), (L + 1 + 1 + 1 + 1, o4), (L + 1 + 1 + 1, o3), (L + 1, o1)] → (∀ a ∈ [C, T0, T1, T2, P, a1, a2, a3], (@Ne Nat a (L + 1 + 1 + 1)) ∧ (@Ne Nat a (L + 1 + 1 + 1 + 1))) → (0 ≤ f0 ∧ f0 < 4) → (1 ≤ sd ∧ (1 + f0) * sd ≤ 4) → (0 ≤ x1 ∧ x1 ≤ sd) → (0 ≤ z1 ∧ z1 ≤ sd) → (0 ≤ x2 ∧ x2 ≤ sd) → (0 ≤ z2 ∧ z2 ≤ sd) → (0 ≤ x3 ∧ x3 ≤ sd) → (0 ≤ z3 ∧ z3 ≤ sd) → Hold (areaF x1 z1 x2 z2 x3 z3 ≠ 0) → (9 ≤ ww ∧ ww ≤ 12) → Fr h₀ L s.heap (fun y => if y = Str.ofString "plain" then some (.ref P) else if y = Str.ofString "corners" then some (.ref C) else if y = Str.ofString "width" then some (.int ww tw) else m y) → News h₀ L s.heap ([(C, PySem.W.listOf [Value.ref T0, .ref T1, .ref T2].toArray nC), (T0, tup2 (.int ((1 + f0) * x1) u0) (.int ((1 + f0) * z1) w0) j0), (T1, tup2 (.int ((1 + f0) * x2) u1) (.int ((1 + f0) * z2) w1) j1), (T2, tup2 (.int ((1 + f0) * x3) u2) (.int ((1 + f0) * z3) w2) j2), (P, list3 (.ref a1) (.ref a2) (.ref a3) n), (a1, tup2 (.int x1 s1) (.int z1 v1) n1), (a2, tup2 (.int x2 s2) (.int z2 v2) n2), (a3, tup2 (.int x3 s3) (.int z3 v3) n3), (L + 1 + 1 + 1 + 1, o4), (L + 1 + 1 + 1, o3), (L + 1, o1)] ++ TL #[] 54 (tabObj #[]) #[] 47 (tabObj #[])) →
    (∀ h' tk' m', Fr h₀ L h' m' → GrownAt 54 h' → GrownAt 47 h' → Q (.ret (.bool true)) { s with heap := h', toks := tk' }) →
    wpAny (model PySem.Challenge.pw_sn0025_01 w) (ktrTop dp un gd (Str.ofString "law") sc L fa cd (cellsFrom (L + 1) sc.names []) outer) (execs (b.drop 12) (envOfC (Str.ofString "law") sc L fa cd)) Q E s

example : True := by
  k_with "execs cons" => (k_here; (with_reducible show wpAny _ _ (execs (Stmt.Assign _ (Expr.Call _ _ _ _) _ :: _) _) _ _ _); refine Stop.mk ?_)
  k_with "SrcLP" => (refine Stop.mk ?_)
  k_with "newTuple" => ((rename TupMark => hMk9); refine Stop.mk ?_)
  trivial
theorem law_d (w : World) (l P a1 a2 a3 : Addr) (n n1 n2 n3 : Nat) (y0 y1 y2 y3 : Int) (t0 t1 t2 t3 : Tok) (ep : Nat) (f0 sd : Int) (x1 z1 x2 z2 x3 z3 : Int) (s1 v1 s2 v2 s3 v3 tf ts : Tok) (o1 o2 o3 o4 : Obj) (C : Addr) (c0 c1 c2 : Nat) (e : List Nat) (ww : Int) (tn te tw : Tok) (T0 T1 T2 : Addr) (nC j0 j1 j2 : Nat) (u0 w0 u1 w1 u2 w2 : Tok) (law_e : ∀ (P a1 a2 a3 : Addr) (n n1 n2 n3 : Nat) (f0 sd : Int) (x1 z1 x2 z2 x3 z3 : Int) (s1 v1 s2 v2 s3 v3 tf : Tok) (o1 o3 o4 : Obj) (C T0 T1 T2 : Addr) (nC j0 j1 j2 : Nat) (u0 w0 u1 w1 u2 w2 : Tok) (ww : Int) (tw : Tok), LawE w P a1 a2 a3 n n1 n2 n3 f0 sd x1 z1 x2 z2 x3 z3 s1 v1 s2 v2 s3 v3 tf o1 o3 o4 C T0 T1 T2 nC j0 j1 j2 u0 w0 u1 w1 u2 w2 ww tw  (fnBody (Mine.hd.heap_39 w.params) 175) (fnScope (Mine.hd.heap_39 w.params) 175)) :
   LawD w l P a1 a2 a3 n n1 n2 n3 y0 y1 y2 y3 t0 t1 t2 t3 ep f0 sd x1 z1 x2 z2 x3 z3 s1 v1 s2 v2 s3 v3 tf ts o1 o2 o3 o4  C c0 c1 c2 e ww tn te tw T0 T1 T2 nC j0 j1 j2 u0 w0 u1 w1 u2 w2 (fnBody (Mine.hd.heap_39 w.params) 175) (fnScope (Mine.hd.heap_39 w.params) 175) := by
  revert law_e
  refine' with_fn (P := fun b sc => (∀ (P a1 a2 a3 : Addr) (n n1 n2 n3 : Nat) (f0 sd : Int) (x1 z1 x2 z2 x3 z3 : Int) (s1 v1 s2 v2 s3 v3 tf : Tok) (o1 o3 o4 : Obj) (C T0 T1 T2 : Addr) (nC j0 j1 j2 : Nat) (u0 w0 u1 w1 u2 w2 : Tok) (ww : Int) (tw : Tok), LawE w P a1 a2 a3 n n1 n2 n3 f0 sd x1 z1 x2 z2 x3 z3 s1 v1 s2 v2 s3 v3 tf o1 o3 o4 C T0 T1 T2 nC j0 j1 j2 u0 w0 u1 w1 u2 w2 ww tw  b sc) → LawD w l P a1 a2 a3 n n1 n2 n3 y0 y1 y2 y3 t0 t1 t2 t3 ep f0 sd x1 z1 x2 z2 x3 z3 s1 v1 s2 v2 s3 v3 tf ts o1 o2 o3 o4  C c0 c1 c2 e ww tn te tw T0 T1 T2 nC j0 j1 j2 u0 w0 u1 w1 u2 w2 b sc) ?hK ?_
  case hK => k_is
  intro law_e
  intro loose mean mg mb dp un gd fa cd outer A₀ base h₀ L m s Q E hB X T hd hu hPE hd1 hd2 hc3 hc4 hsep hL hf0 hf0b hsdb bx1 bz1 bx2 bz2 bx3 bz3 har hnm he hww hC hsT F N hret
  dsimp only [List.drop]
  k_steps
  unfold Stop
  rename Fr _ _ _ _ => hF
  rename News _ _ _ _ => hN
  refine LCp.SrcLP.ledger (by rfl) hF hN (by k_mem) (by exact Nat.le_of_ble_eq_true rfl) fun g => ?_
  lcp_lit
  refine turnsP3u (R := fun v u f g => ∃ x z t t', v = .int x t ∧ u = .int z t' ∧ f = (1 + f0) * x ∧ g = (1 + f0) * z) (r0 := a1) (r1 := a2) (r2 := a3) (f0 := (1 + f0) * x1) (g0 := (1 + f0) * z1) (f1 := (1 + f0) * x2) (g1 := (1 + f0) * z2) (f2 := (1 + f0) * x3) (g2 := (1 + f0) * z3) rfl (.inr ⟨_, by k_mem, rfl, _, rfl⟩) (by k_mem) (by k_mem) (by k_mem) ?_ ⟨_, _, _, _, rfl, rfl, rfl, rfl⟩ ⟨_, _, _, _, rfl, rfl, rfl, rfl⟩ ⟨_, _, _, _, rfl, rfl, rfl, rfl⟩ ?_
  · rintro v u f g9 ⟨xx, zz, txx, tzz, rfl, rfl, rfl, rfl⟩ C9 oC m₂ h tk Qe E' hC hx hy F2 N2 hT
    have hMk : TupMark := trivial
    k_steps
    unfold Stop
    exact hT _ _ _
  intro R0 R1 R2 a0 b0 a1' b1 a2' b2 hR0 hR1 hR2
  k_lt hR0
  k_lt hR1
  k_lt hR2
  k_steps
  unfold Stop
  rename Fr _ _ _ _ => hF9
  rename News _ _ _ _ => hN9
  have sP := hsep P (by simp)
  have sA1 := hsep a1 (by simp)
  have sA2 := hsep a2 (by simp)
  have sA3 := hsep a3 (by simp)
  have sT0 := hsT T0 (by simp)
  have sT1 := hsT T1 (by simp)
  have sT2 := hsT T2 (by simp)
  have g4 : @LT.lt Nat _ (L + 1 + 1 + 1 + 1) C := hC (L + 1 + 1 + 1 + 1, o4) (by simp)
  have g3 : @LT.lt Nat _ (L + 1 + 1 + 1) C := hC (L + 1 + 1 + 1, o3) (by simp)
  have g54 : @LT.lt Nat _ 54 C := hC (54, tabObj #[]) (by simp)
  have g47 : @LT.lt Nat _ 47 C := hC (47, tabObj #[]) (by simp)
  have l54 : @LT.lt Nat _ 54 L := hL (54, tabObj #[]) (by simp)
  have l47 : @LT.lt Nat _ 47 L := hL (47, tabObj #[]) (by simp)
  clear hR0 hR1 hR2 hsep hsT hC hL
  refine' law_e P a1 a2 a3 n n1 n2 n3 f0 sd x1 z1 x2 z2 x3 z3 _ _ _ _ _ _ tf o1 o3 o4 C T0 T1 T2 nC j0 j1 j2 _ _ _ _ _ _ ww _ loose mean mg mb dp un gd fa cd outer A₀ base h₀ L (fun y => if y = Str.ofString "names" then some (.str ⟨#[c0, c1, c2]⟩ tn) else if y = Str.ofString "end" then some (.str ⟨e.toArray⟩ te) else if y = Str.ofString "heaps" then some (.ref l) else m y) _ Q E hB X T hd hu hPE hd1 hc3 hc4 ?off ?sep hf0b hsdb bx1 bz1 bx2 bz2 bx3 bz3 har hww ?F ?N hret
  case off => exact ⟨⟨Nat.ne_of_gt g54, Nat.ne_of_gt g54, Nat.ne_of_gt g47, Nat.ne_of_gt g47⟩, offE sT0, offE sT1, offE sT2, offE sP, offE sA1, offE sA2, offE sA3, (cellOff l54 l47).1, (cellOff l54 l47).2.1, (cellOff l54 l47).2.2, trivial⟩
  case sep =>
    intro a ha
    simp only [List.mem_cons, List.not_mem_nil, or_false] at ha
    rcases ha with ha | ha | ha | ha | ha | ha | ha | ha
    · rw [ha]; exact ⟨Nat.ne_of_gt g3, Nat.ne_of_gt g4⟩
    · rw [ha]; exact ⟨sT0.2.2.1, sT0.2.2.2.1⟩
    · rw [ha]; exact ⟨sT1.2.2.1, sT1.2.2.2.1⟩
    · rw [ha]; exact ⟨sT2.2.2.1, sT2.2.2.2.1⟩
    · rw [ha]; exact ⟨sP.2.2.1, sP.2.2.2.1⟩
    · rw [ha]; exact ⟨sA1.2.2.1, sA1.2.2.2.1⟩
    · rw [ha]; exact ⟨sA2.2.2.1, sA2.2.2.2.1⟩
    · rw [ha]; exact ⟨sA3.2.2.1, sA3.2.2.2.1⟩
  case F =>
    refine Fr.congr hF9 (fun z => ?_)
    try dsimp only
    by_cases q0 : z = Str.ofString "corners"
    · rw [if_pos q0, if_neg (by rw [q0]; decide), if_pos q0]
    · by_cases q1 : z = Str.ofString "width"
      · rw [if_neg q0, if_pos q1, if_neg (by rw [q1]; decide), if_neg q0, if_pos q1]
      · by_cases q2 : z = Str.ofString "plain"
        · rw [if_neg q0, if_neg q1, if_neg (by rw [q2]; decide), if_neg (by rw [q2]; decide), if_pos q2, if_pos q2]
        · simp only [q0, q1, q2, if_false]
  case N => repeat (first | exact news_nil | refine news_cons (hN9 _ (by k_mem)) ?_)


end Mine
end
section
example : True := by (w_top off; trivial)
example : True := by (k_with_none; trivial)
example : True := by
  k_with "call builtin:min" => (k_here; (with_reducible show wpAny _ _ (call (Value.builtin _) [Value.int _ _, Value.int _ _, Value.int _ _]) _ _ _); k_dflt (refine' min3_N ?k0K9 ?k1K9 ?k2K9 ?_; (case k0K9 => rfl); (case k1K9 => k_asm); (case k2K9 => k_asm)); intro h' tk tok F' N'; revert h' tk tok F' N'; intro _ _ _ _ _)
  k_with "call builtin:max" => (k_here; (with_reducible show wpAny _ _ (call (Value.builtin _) [Value.int _ _, Value.int _ _, Value.int _ _]) _ _ _); k_dflt (refine' max3_N ?k0K9 ?k1K9 ?k2K9 ?_; (case k0K9 => rfl); (case k1K9 => k_asm); (case k2K9 => k_asm)); intro h' tk tok F' N'; revert h' tk tok F' N'; intro _ _ _ _ _)
  k_with "binaryOp Div int int" => (k_here; refine div_small (by omega) (by omega) ?_)
  k_with "subscriptTail" => (k_here; (with_reducible show wpAny _ _ (subscriptTail _ _ (Value.ref _) (Value.int _ _)) _ _ _); k_dflt (first
      | (refine' tup_item ?NK9 ?mK9 ?aK9 ?bK9 ?cK9 ?dK9 ?_ ?eK9; (case NK9 => k_asm); (case mK9 => k_mem); (case aK9 => decide); (case bK9 => decide); (case cK9 => rfl); (case dK9 => rfl); (case eK9 => with_unfolding_all rfl); k_whole)
      | (refine' lst_item ?NK9 ?mK9 ?aK9 ?bK9 ?cK9 ?_ ?eK9; (case NK9 => k_asm); (case mK9 => k_mem); (case aK9 => decide); (case bK9 => decide); (case cK9 => rfl); (case eK9 => with_unfolding_all rfl); k_whole)
      | (refine' lst_itemN ?NK9 ?mK9 ?aK9 ?bK9 ?cK9 ?dK9 ?_ ?eK9; (case NK9 => k_asm); (case mK9 => k_mem); (case aK9 => decide); (case bK9 => decide); (case cK9 => decide); (case dK9 => rfl); (case eK9 => with_unfolding_all rfl); k_whole)))
  trivial
example : True := by
  k_with "subscriptTail Name Constant ref int" => (k_here; (with_reducible show wpAny _ _ (subscriptTail _ _ (Value.ref _) (Value.int _ _)) _ _ _); k_dflt (first
      | (refine' tup_item ?NK9 ?mK9 ?aK9 ?bK9 ?cK9 ?dK9 ?_ ?eK9; (case NK9 => k_asm); (case mK9 => k_mem); (case aK9 => decide); (case bK9 => decide); (case cK9 => rfl); (case dK9 => rfl); (case eK9 => with_unfolding_all rfl); k_whole)
      | (refine' lst_item ?NK9 ?mK9 ?aK9 ?bK9 ?cK9 ?_ ?eK9; (case NK9 => k_asm); (case mK9 => k_mem); (case aK9 => decide); (case bK9 => decide); (case cK9 => rfl); (case eK9 => with_unfolding_all rfl); k_whole)
      | (refine' lst_itemN ?NK9 ?mK9 ?aK9 ?bK9 ?cK9 ?dK9 ?_ ?eK9; (case NK9 => k_asm); (case mK9 => k_mem); (case aK9 => decide); (case bK9 => decide); (case cK9 => decide); (case dK9 => rfl); (case eK9 => with_unfolding_all rfl); k_whole)))
  k_with "binaryOp Mod int int" => (k_here; first | (with_reducible refine mod_eq (by with_reducible assumption) (by first | decide | assumption | omega) ?_) | (with_reducible refine mod_eqH (by with_reducible assumption) (by first | decide | assumption | omega) ?_))
  k_with "binaryOp FloorDiv int int" => (k_here; (with_reducible refine fdiv_eqH (by with_reducible assumption) (by first | decide | assumption | omega) (by omega) ?_))
  trivial
open PySem PySem.W PyProof.Rows PySem.Calls PySem.Spec
namespace Mine
noncomputable def tot (A R t : Int) : Int := (A * t * t + R * t).fdiv 2 + 1
noncomputable def totw (A R t : Int) : Int := (A * t * t - R * t).fdiv 2 + 1
noncomputable def Pl (fo A R ww g1 e1 g2 e2 g3 e3 : Int) : Prop :=
  (1 ≤ fo ∧ fo ≤ 4) ∧ (0 ≤ (A + R).fdiv 2 - 2 ∧ (A + R).fdiv 2 - 2 < 512) ∧ (0 ≤ (A - R).fdiv 2 + 1 ∧ (A - R).fdiv 2 + 1 < 512) ∧
  cntD (quoF [0, 0, 0, 0, 0, (A - R).fdiv 2 + 1, (A + R).fdiv 2 - 2, 1] ww.toNat) ww.toNat ≤ 5 ∧
  cntD (quoF [0, 0, 0, 0, 1, (A + R).fdiv 2 - 2, (A - R).fdiv 2 + 1] ww.toNat) ww.toNat ≤ 5 ∧
  toldF [0, 0, 0, 0, 0, (A - R).fdiv 2 + 1, (A + R).fdiv 2 - 2, 1] ww.toNat = [tot A R 0, tot A R 1, tot A R 2, tot A R 3, tot A R 4] ∧
  toldF [0, 0, 0, 0, 1, (A + R).fdiv 2 - 2, (A - R).fdiv 2 + 1] ww.toNat = [0, totw A R 1, totw A R 2, totw A R 3, totw A R 4] ∧
  ((0 ≤ g1 ∧ g1 ≤ 4) ∧ (0 ≤ e1 ∧ e1 ≤ 4) ∧ (0 ≤ g2 ∧ g2 ≤ 4) ∧ (0 ≤ e2 ∧ e2 ≤ 4) ∧ (0 ≤ g3 ∧ g3 ≤ 4) ∧ (0 ≤ e3 ∧ e3 ≤ 4)) ∧
  (((metF g1 e1 g2 e2 g3 e3).count (Str.ofString "within") : Nat) : Int) = totw A R fo ∧
  (((metF g1 e1 g2 e2 g3 e3).count (Str.ofString "rim") : Nat) : Int) = tot A R fo - totw A R fo
theorem off3 {c1 c2 C T0 T1 T2 P a1 a2 a3 X Y Z : Addr} {o o0 o1 o2 o3 o4 o5 o6 o7 o8 o9 p1 p2 p3 p4 p5 p6 p7 : Obj} (h : OffT c1 c2 [(C, o), (T0, o0), (T1, o1), (T2, o2), (P, o3), (a1, o4), (a2, o5), (a3, o6), (X, o7), (Y, o8), (Z, o9)]) : OffT c1 c2 [(C, p1), (T0, p2), (T1, p3), (T2, p4), (X, p5), (Y, p6), (Z, p7)] :=
  ⟨h.1, h.2.1, h.2.2.1, h.2.2.2.1, h.2.2.2.2.2.2.2.2.1, h.2.2.2.2.2.2.2.2.2.1, h.2.2.2.2.2.2.2.2.2.2.1, trivial⟩
noncomputable def LawG (w : World) (fo A R g1 e1 g2 e2 g3 e3 : Int) (tf ta tr : Tok) (o1 o3 o4 : Obj) (C T0 T1 T2 : Addr) (nC j0 j1 j2 : Nat) (u0 w0 u1 w1 u2 w2 : Tok) (ww : Int) (tw : Tok) (ps1 : Array Value) (c1 : Addr) (b1 : Obj) (ps2 : Array Value) (c2 : Addr) (b2 : Obj) (b : List Stmt) (sc : Scope) : Prop := ∀ (loose : List Str) (mean : ExcName → Option Value) (mg mb : Str → Option Value) (dp un : Nat) (gd : Option (List Code)) (fa : Addr) (cd : Value) (outer : List Env) (A₀ : Around) (base h₀ : Heap) (L : Addr) (m : Str → Option Value) (s : Shared) (Q : Flow → Shared → Prop) (E : Value → Shared → Prop),
    Below A₀ base outer h₀ → (Mine.hd.heap_39 w.params).In h₀ → Top topProg loose mean mg mb h₀ → dp + 200 < recursionLimit → un + 2000 < cLine →
    PassesOwn (model PySem.Challenge.pw_sn0025_01 w) (ktrTop dp un gd (Str.ofString "law") sc L fa cd (cellsFrom (L + 1) sc.names []) outer) (envOfC (Str.ofString "law") sc L fa cd) E →
    o1.data = .cell (some (.int fo tf)) → o3.data = .cell (some (.int A ta)) → o4.data = .cell (some (.int R tr)) → TabP 54 48 4 q1 ps1 c1 b1 → TabP 47 33 4 q2 ps2 c2 b2 → OffT c1 c2 [(C, PySem.W.listOf [Value.ref T0, .ref T1, .ref T2].toArray nC), (T0, tup2 (.int g1 u0) (.int e1 w0) j0), (T1, tup2 (.int g2 u1) (.int e2 w1) j1), (T2, tup2 (.int g3 u2) (.int e3 w2) j2), (L + 1 + 1 + 1 + 1, o4), (L + 1 + 1 + 1, o3), (L + 1, o1)] → Hold (Pl fo A R ww g1 e1 g2 e2 g3 e3) → (9 ≤ ww ∧ ww ≤ 12) → Fr h₀ L s.heap (fun y => if y = Str.ofString "corners" then some (.ref C) else if y = Str.ofString "width" then some (.int ww tw) else m y) → News h₀ L s.heap ([(C, PySem.W.listOf [Value.ref T0, .ref T1, .ref T2].toArray nC), (T0, tup2 (.int g1 u0) (.int e1 w0) j0), (T1, tup2 (.int g2 u1) (.int e2 w1) j1), (T2, tup2 (.int g3 u2) (.int e3 w2) j2), (L + 1 + 1 + 1 + 1, o4), (L + 1 + 1 + 1, o3), (L + 1, o1)] ++ TL ps1 c1 b1 ps2 c2 b2) →
    (∀ h' tk' m', Fr h₀ L h' m' → GrownAt 54 h' → GrownAt 47 h' → Q (.ret (.bool true)) { s with heap := h', toks := tk' }) →
    wpAny (model PySem.Challenge.pw_sn0025_01 w) (ktrTop dp un gd (Str.ofString "law") sc L fa cd (cellsFrom (L + 1) sc.names []) outer) (execs (b.drop 14) (envOfC (Str.ofString "law") sc L fa cd)) Q E s
theorem Hold.out {p : Prop} (h : Hold p) : p := h
theorem Hold.mk {p : Prop} (h : p) : Hold p := h
local macro_rules | `(tactic| k_ne) => `(tactic| (refine neN ?_; (try dsimp only); first | (refine Hold.out ?_; with_reducible assumption) | (refine Ne.symm (Hold.out ?_); with_reducible assumption) | omega))

example : True := by
  k_with "execs cons" => (k_here; (with_reducible show wpAny _ _ (execs (Stmt.Assign _ (Expr.BinOp _ _ _ _) _ :: _) _) _ _ _); refine Stop.mk ?_)
  k_with "call ref" => ((rename TupMark => hMk9); refine Stop.mk ?_)
  trivial
theorem law_e (w : World) (P a1 a2 a3 : Addr) (n n1 n2 n3 : Nat) (f0 sd : Int) (x1 z1 x2 z2 x3 z3 : Int) (s1 v1 s2 v2 s3 v3 tf : Tok) (o1 o3 o4 : Obj) (C T0 T1 T2 : Addr) (nC j0 j1 j2 : Nat) (u0 w0 u1 w1 u2 w2 : Tok) (ww : Int) (tw : Tok) (plain : ∀ f0 sd x1 z1 x2 z2 x3 z3 ww : Int, (0 ≤ f0 ∧ f0 < 4) → (1 ≤ sd ∧ (1 + f0) * sd ≤ 4) → (0 ≤ x1 ∧ x1 ≤ sd) → (0 ≤ z1 ∧ z1 ≤ sd) → (0 ≤ x2 ∧ x2 ≤ sd) → (0 ≤ z2 ∧ z2 ≤ sd) → (0 ≤ x3 ∧ x3 ≤ sd) → (0 ≤ z3 ∧ z3 ≤ sd) → Hold (areaF x1 z1 x2 z2 x3 z3 ≠ 0) → (9 ≤ ww ∧ ww ≤ 12) → Hold (Pl (1 + f0) (areaF x1 z1 x2 z2 x3 z3) (rimF x1 z1 x2 z2 x3 z3) ww ((1 + f0) * x1) ((1 + f0) * z1) ((1 + f0) * x2) ((1 + f0) * z2) ((1 + f0) * x3) ((1 + f0) * z3)))
   (law_g : ∀ (fo A R g1 e1 g2 e2 g3 e3 : Int) (tf ta tr : Tok) (o1 o3 o4 : Obj) (C T0 T1 T2 : Addr) (nC j0 j1 j2 : Nat) (u0 w0 u1 w1 u2 w2 : Tok) (ww : Int) (tw : Tok) (ps1 : Array Value) (c1 : Addr) (b1 : Obj) (ps2 : Array Value) (c2 : Addr) (b2 : Obj), LawG w fo A R g1 e1 g2 e2 g3 e3 tf ta tr o1 o3 o4 C T0 T1 T2 nC j0 j1 j2 u0 w0 u1 w1 u2 w2 ww tw ps1 c1 b1 ps2 c2 b2  (fnBody (Mine.hd.heap_39 w.params) 175) (fnScope (Mine.hd.heap_39 w.params) 175)) :
   LawE w P a1 a2 a3 n n1 n2 n3 f0 sd x1 z1 x2 z2 x3 z3 s1 v1 s2 v2 s3 v3 tf o1 o3 o4 C T0 T1 T2 nC j0 j1 j2 u0 w0 u1 w1 u2 w2 ww tw  (fnBody (Mine.hd.heap_39 w.params) 175) (fnScope (Mine.hd.heap_39 w.params) 175) := by
  revert law_g
  refine' with_fn (P := fun b sc => (∀ (fo A R g1 e1 g2 e2 g3 e3 : Int) (tf ta tr : Tok) (o1 o3 o4 : Obj) (C T0 T1 T2 : Addr) (nC j0 j1 j2 : Nat) (u0 w0 u1 w1 u2 w2 : Tok) (ww : Int) (tw : Tok) (ps1 : Array Value) (c1 : Addr) (b1 : Obj) (ps2 : Array Value) (c2 : Addr) (b2 : Obj), LawG w fo A R g1 e1 g2 e2 g3 e3 tf ta tr o1 o3 o4 C T0 T1 T2 nC j0 j1 j2 u0 w0 u1 w1 u2 w2 ww tw ps1 c1 b1 ps2 c2 b2  b sc) → LawE w P a1 a2 a3 n n1 n2 n3 f0 sd x1 z1 x2 z2 x3 z3 s1 v1 s2 v2 s3 v3 tf o1 o3 o4 C T0 T1 T2 nC j0 j1 j2 u0 w0 u1 w1 u2 w2 ww tw  b sc) ?hK ?_
  case hK => k_is
  intro law_g
  intro loose mean mg mb dp un gd fa cd outer A₀ base h₀ L m s Q E hB X T hd hu hPE hd1 hc3 hc4 hoff hsep hf0b hsdb bx1 bz1 bx2 bz2 bx3 bz3 har hww F N hret
  dsimp only [List.drop]
  have hpl := plain f0 sd x1 z1 x2 z2 x3 z3 ww hf0b hsdb bx1 bz1 bx2 bz2 bx3 bz3 har hww
  have hsd4 : sd ≤ 4 := by rcases (by omega : f0 = 0 ∨ f0 = 1 ∨ f0 = 2 ∨ f0 = 3) with rfl | rfl | rfl | rfl <;> omega
  replace bx1 : 0 ≤ x1 ∧ x1 ≤ 4 := ⟨bx1.1, Int.le_trans bx1.2 hsd4⟩
  replace bz1 : 0 ≤ z1 ∧ z1 ≤ 4 := ⟨bz1.1, Int.le_trans bz1.2 hsd4⟩
  replace bx2 : 0 ≤ x2 ∧ x2 ≤ 4 := ⟨bx2.1, Int.le_trans bx2.2 hsd4⟩
  replace bz2 : 0 ≤ z2 ∧ z2 ≤ 4 := ⟨bz2.1, Int.le_trans bz2.2 hsd4⟩
  replace bx3 : 0 ≤ x3 ∧ x3 ≤ 4 := ⟨bx3.1, Int.le_trans bx3.2 hsd4⟩
  replace bz3 : 0 ≤ z3 ∧ z3 ≤ 4 := ⟨bz3.1, Int.le_trans bz3.2 hsd4⟩
  have sC := hsep C (by simp)
  have sT0 := hsep T0 (by simp)
  have sT1 := hsep T1 (by simp)
  have sT2 := hsep T2 (by simp)
  have sP := hsep P (by simp)
  have sA1 := hsep a1 (by simp)
  have sA2 := hsep a2 (by simp)
  have sA3 := hsep a3 (by simp)
  have s43 : @Ne Nat (L + 1 + 1 + 1 + 1) (L + 1 + 1 + 1) := by omega
  have s13 : @Ne Nat (L + 1) (L + 1 + 1 + 1) := by omega
  have s14 : @Ne Nat (L + 1) (L + 1 + 1 + 1 + 1) := by omega
  have hoC := hoff
  simp only [OffT] at hoC
  have h354 : Hold (@Ne Nat (L + 1 + 1 + 1) 54) := hoC.2.2.2.2.2.2.2.2.2.1.1
  have h347 : Hold (@Ne Nat (L + 1 + 1 + 1) 47) := hoC.2.2.2.2.2.2.2.2.2.1.2.2.1
  have sC3 : Hold (@Ne Nat C (L + 1 + 1 + 1)) := sC.1
  have sC4 : Hold (@Ne Nat C (L + 1 + 1 + 1 + 1)) := sC.2
  have sT03 : Hold (@Ne Nat T0 (L + 1 + 1 + 1)) := sT0.1
  have sT04 : Hold (@Ne Nat T0 (L + 1 + 1 + 1 + 1)) := sT0.2
  have sT13 : Hold (@Ne Nat T1 (L + 1 + 1 + 1)) := sT1.1
  have sT14 : Hold (@Ne Nat T1 (L + 1 + 1 + 1 + 1)) := sT1.2
  have sT23 : Hold (@Ne Nat T2 (L + 1 + 1 + 1)) := sT2.1
  have sT24 : Hold (@Ne Nat T2 (L + 1 + 1 + 1 + 1)) := sT2.2
  have sP3 : Hold (@Ne Nat P (L + 1 + 1 + 1)) := sP.1
  have sP4 : Hold (@Ne Nat P (L + 1 + 1 + 1 + 1)) := sP.2
  have sA13 : Hold (@Ne Nat a1 (L + 1 + 1 + 1)) := sA1.1
  have sA14 : Hold (@Ne Nat a1 (L + 1 + 1 + 1 + 1)) := sA1.2
  have sA23 : Hold (@Ne Nat a2 (L + 1 + 1 + 1)) := sA2.1
  have sA24 : Hold (@Ne Nat a2 (L + 1 + 1 + 1 + 1)) := sA2.2
  have sA33 : Hold (@Ne Nat a3 (L + 1 + 1 + 1)) := sA3.1
  have sA34 : Hold (@Ne Nat a3 (L + 1 + 1 + 1 + 1)) := sA3.2
  have q43 : Hold (@Ne Nat (L + 1 + 1 + 1 + 1) (L + 1 + 1 + 1)) := s43
  have q13 : Hold (@Ne Nat (L + 1) (L + 1 + 1 + 1)) := s13
  have q14 : Hold (@Ne Nat (L + 1) (L + 1 + 1 + 1 + 1)) := s14
  clear hoC sC sT0 sT1 sT2 sP sA1 sA2 sA3 s43 s13 s14 hsep hsdb hsd4 plain har hf0b
  have hMk : TupMark := trivial
  k_steps
  unfold Stop
  refine' cspec_at (c_area _ _ _ _ _ _ _ _ _ _ _ _ _ _ _ _ _ _ _ _ _ _ ?m0 ?m1 ?m2 ?m3 ?b0 ?b1 ?b2 ?b3 ?b4 ?b5) ?k1 ?k2 ?k3 ?k4 ?k5 ?kK ?kd ?ku ?_
  case k1 => k_asm
  case k2 => k_asm
  case k3 => k_asm
  case k4 => k_asm
  case k5 => k_asm
  case m0 => k_mem
  case m1 => k_mem
  case m2 => k_mem
  case m3 => k_mem
  case b0 => first | with_reducible assumption | omega
  case b1 => first | with_reducible assumption | omega
  case b2 => first | with_reducible assumption | omega
  case b3 => first | with_reducible assumption | omega
  case b4 => first | with_reducible assumption | omega
  case b5 => first | with_reducible assumption | omega
  case kK => first | exact rfl | with_reducible assumption
  case kd => ktr_room
  case ku => ktr_units
  intro t h9 tk9 F9 N9
  k_steps
  unfold Stop
  refine' cspec_at (c_rim _ _ _ _ _ _ _ _ _ ?p1 ?p2 ?p3 ?p4 _ _ _ _ _ _ _ _ _ _ _ _ _ _ _ _ _ _ _ _ ?m0 ?m1 ?m2 ?m3 ?b0 ?b1 ?b2 ?b3 ?b4 ?b5) ?k1 ?k2 ?k3 ?k4 ?k5 ?kK ?kd ?ku ?_
  case k1 => k_asm
  case k2 => k_asm
  case k3 => k_asm
  case k4 => k_asm
  case k5 => k_asm
  case p1 => (first | exact sp0 | exact sp1 | exact sp2 | exact sp3 | exact sp4 | exact sp5 | exact sp6 | exact sp7 | exact sp8 | exact sp9 | exact sp10 | exact sp11 | exact sp12 | exact sp13)
  case p2 => first | with_reducible assumption | exact .inl ⟨rfl, rfl, rfl⟩
  case p3 => first | with_reducible assumption | exact .inl ⟨rfl, rfl, rfl⟩
  case p4 => ((rename OffT _ _ _ => hO9); exact hO9)
  case m0 => k_mem
  case m1 => k_mem
  case m2 => k_mem
  case m3 => k_mem
  case b0 => first | with_reducible assumption | omega
  case b1 => first | with_reducible assumption | omega
  case b2 => first | with_reducible assumption | omega
  case b3 => first | with_reducible assumption | omega
  case b4 => first | with_reducible assumption | omega
  case b5 => first | with_reducible assumption | omega
  case kK => first | exact rfl | with_reducible assumption
  case kd => ktr_room
  case ku => ktr_units
  intro tQ qs1 d1 f1 qs2 d2 f2 hh tkh hp1 hp2 hoff2 F2 N2
  simp only [List.cons_append, List.nil_append] at N2
  rename TupMark => hMx
  clear hMx
  have hoC := hoff2
  simp only [OffT] at hoC
  have h454 : Hold (@Ne Nat (L + 1 + 1 + 1 + 1) 54) := hoC.2.2.2.2.2.2.2.2.1.1
  have h4c1 : Hold (@Ne Nat (L + 1 + 1 + 1 + 1) d1) := hoC.2.2.2.2.2.2.2.2.1.2.1
  have h447 : Hold (@Ne Nat (L + 1 + 1 + 1 + 1) 47) := hoC.2.2.2.2.2.2.2.2.1.2.2.1
  have h4c2 : Hold (@Ne Nat (L + 1 + 1 + 1 + 1) d2) := hoC.2.2.2.2.2.2.2.2.1.2.2.2
  clear hoC
  k_steps
  unfold Stop
  rename_i hZ oR FZ NZ hdR
  rename _ = Data.cell (some (Value.int (areaF x1 z1 x2 z2 x3 z3) _)) => hdA
  refine' law_g (1 + f0) (areaF x1 z1 x2 z2 x3 z3) (rimF x1 z1 x2 z2 x3 z3) ((1 + f0) * x1) ((1 + f0) * z1) ((1 + f0) * x2) ((1 + f0) * z2) ((1 + f0) * x3) ((1 + f0) * z3) tf _ _ o1 _ _ C T0 T1 T2 nC j0 j1 j2 u0 w0 u1 w1 u2 w2 ww tw _ _ _ _ _ _ loose mean mg mb dp un gd fa cd outer A₀ base h₀ L (fun y => if y = Str.ofString "plain" then some (.ref P) else m y) _ Q E hB X T hd hu hPE hd1 hdA hdR hp1 hp2 (off3 hoff2) hpl hww ?F ?N hret
  case F =>
    refine Fr.congr FZ (fun z => ?_)
    try dsimp only
    by_cases q0 : z = Str.ofString "plain"
    · rw [if_pos q0, if_neg (by rw [q0]; decide), if_neg (by rw [q0]; decide), if_pos q0]
    · simp only [q0, if_false]
  case N =>
    simp only [List.cons_append, List.nil_append, TL]
    repeat (first | exact news_nil | refine news_cons (NZ _ (by k_mem)) ?_)


end Mine
end
section
local macro_rules | `(tactic| k_ne) => `(tactic| (refine neN ?_; (try dsimp only); first | (refine Hold.out ?_; with_reducible assumption) | (refine Ne.symm (Hold.out ?_); with_reducible assumption) | omega))
section
example : True := by (w_top off; trivial)
example : True := by (k_with_none; trivial)
example : True := by
  k_with "call builtin:min" => (k_here; (with_reducible show wpAny _ _ (call (Value.builtin _) [Value.int _ _, Value.int _ _, Value.int _ _]) _ _ _); k_dflt (refine' min3_N ?k0K9 ?k1K9 ?k2K9 ?_; (case k0K9 => rfl); (case k1K9 => k_asm); (case k2K9 => k_asm)); intro h' tk tok F' N'; revert h' tk tok F' N'; intro _ _ _ _ _)
  k_with "call builtin:max" => (k_here; (with_reducible show wpAny _ _ (call (Value.builtin _) [Value.int _ _, Value.int _ _, Value.int _ _]) _ _ _); k_dflt (refine' max3_N ?k0K9 ?k1K9 ?k2K9 ?_; (case k0K9 => rfl); (case k1K9 => k_asm); (case k2K9 => k_asm)); intro h' tk tok F' N'; revert h' tk tok F' N'; intro _ _ _ _ _)
  k_with "binaryOp Div int int" => (k_here; refine div_small (by omega) (by omega) ?_)
  k_with "subscriptTail" => (k_here; (with_reducible show wpAny _ _ (subscriptTail _ _ (Value.ref _) (Value.int _ _)) _ _ _); k_dflt (first
      | (refine' tup_item ?NK9 ?mK9 ?aK9 ?bK9 ?cK9 ?dK9 ?_ ?eK9; (case NK9 => k_asm); (case mK9 => k_mem); (case aK9 => decide); (case bK9 => decide); (case cK9 => rfl); (case dK9 => rfl); (case eK9 => with_unfolding_all rfl); k_whole)
      | (refine' lst_item ?NK9 ?mK9 ?aK9 ?bK9 ?cK9 ?_ ?eK9; (case NK9 => k_asm); (case mK9 => k_mem); (case aK9 => decide); (case bK9 => decide); (case cK9 => rfl); (case eK9 => with_unfolding_all rfl); k_whole)
      | (refine' lst_itemN ?NK9 ?mK9 ?aK9 ?bK9 ?cK9 ?dK9 ?_ ?eK9; (case NK9 => k_asm); (case mK9 => k_mem); (case aK9 => decide); (case bK9 => decide); (case cK9 => decide); (case dK9 => rfl); (case eK9 => with_unfolding_all rfl); k_whole)))
  trivial
example : True := by
  k_with "subscriptTail Name Constant ref int" => (k_here; (with_reducible show wpAny _ _ (subscriptTail _ _ (Value.ref _) (Value.int _ _)) _ _ _); k_dflt (first
      | (refine' tup_item ?NK9 ?mK9 ?aK9 ?bK9 ?cK9 ?dK9 ?_ ?eK9; (case NK9 => k_asm); (case mK9 => k_mem); (case aK9 => decide); (case bK9 => decide); (case cK9 => rfl); (case dK9 => rfl); (case eK9 => with_unfolding_all rfl); k_whole)
      | (refine' lst_item ?NK9 ?mK9 ?aK9 ?bK9 ?cK9 ?_ ?eK9; (case NK9 => k_asm); (case mK9 => k_mem); (case aK9 => decide); (case bK9 => decide); (case cK9 => rfl); (case eK9 => with_unfolding_all rfl); k_whole)
      | (refine' lst_itemN ?NK9 ?mK9 ?aK9 ?bK9 ?cK9 ?dK9 ?_ ?eK9; (case NK9 => k_asm); (case mK9 => k_mem); (case aK9 => decide); (case bK9 => decide); (case cK9 => decide); (case dK9 => rfl); (case eK9 => with_unfolding_all rfl); k_whole)))
  k_with "binaryOp Mod int int" => (k_here; first | (with_reducible refine mod_eq (by with_reducible assumption) (by first | decide | assumption | omega) ?_) | (with_reducible refine mod_eqH (by with_reducible assumption) (by first | decide | assumption | omega) ?_))
  k_with "binaryOp FloorDiv int int" => (k_here; (with_reducible refine fdiv_eqH (by with_reducible assumption) (by first | decide | assumption | omega) (by omega) ?_))
  trivial
open PySem PySem.W PyProof.Rows PySem.Calls PySem.Spec
namespace Mine
noncomputable def LawH (w : World) (k0 k1 k2 k3 k4 r0 r1 r2 r3 r4 : Tok) (Hh Ww : Addr) (eh ew : Nat) (fo A R g1 e1 g2 e2 g3 e3 : Int) (tf ta tr : Tok) (o1 o3 o4 : Obj) (C T0 T1 T2 : Addr) (nC j0 j1 j2 : Nat) (u0 w0 u1 w1 u2 w2 : Tok) (ww : Int) (ps1 ps2 : Array Value) (b : List Stmt) (sc : Scope) : Prop := ∀ (loose : List Str) (mean : ExcName → Option Value) (mg mb : Str → Option Value) (dp un : Nat) (gd : Option (List Code)) (fa : Addr) (cd : Value) (outer : List Env) (A₀ : Around) (base h₀ : Heap) (L : Addr) (m : Str → Option Value) (s : Shared) (Q : Flow → Shared → Prop) (E : Value → Shared → Prop),
    Below A₀ base outer h₀ → (Mine.hd.heap_39 w.params).In h₀ → Top topProg loose mean mg mb h₀ → dp + 200 < recursionLimit → un + 2000 < cLine →
    PassesOwn (model PySem.Challenge.pw_sn0025_01 w) (ktrTop dp un gd (Str.ofString "law") sc L fa cd (cellsFrom (L + 1) sc.names []) outer) (envOfC (Str.ofString "law") sc L fa cd) E →
    o1.data = .cell (some (.int fo tf)) → o3.data = .cell (some (.int A ta)) → o4.data = .cell (some (.int R tr)) → Hold (Pl fo A R ww g1 e1 g2 e2 g3 e3) → Fr h₀ L s.heap (fun y => if y = Str.ofString "within" then some (.ref Ww) else if y = Str.ofString "held" then some (.ref Hh) else if y = Str.ofString "corners" then some (.ref C) else m y) → News h₀ L s.heap [(Ww, PySem.W.listOf [Value.int 0 r0, .int (totw A R 1) r1, .int (totw A R 2) r2, .int (totw A R 3) r3, .int (totw A R 4) r4].toArray ew), (Hh, PySem.W.listOf [Value.int (tot A R 0) k0, .int (tot A R 1) k1, .int (tot A R 2) k2, .int (tot A R 3) k3, .int (tot A R 4) k4].toArray eh), (C, PySem.W.listOf [Value.ref T0, .ref T1, .ref T2].toArray nC), (T0, tup2 (.int g1 u0) (.int e1 w0) j0), (T1, tup2 (.int g2 u1) (.int e2 w1) j1), (T2, tup2 (.int g3 u2) (.int e3 w2) j2), (L + 1 + 1 + 1 + 1, o4), (L + 1 + 1 + 1, o3), (L + 1, o1), (54, tabObj ps1), (47, tabObj ps2)] →
    (∀ h' tk' m', Fr h₀ L h' m' → GrownAt 54 h' → GrownAt 47 h' → Q (.ret (.bool true)) { s with heap := h', toks := tk' }) →
    wpAny (model PySem.Challenge.pw_sn0025_01 w) (ktrTop dp un gd (Str.ofString "law") sc L fa cd (cellsFrom (L + 1) sc.names []) outer) (execs (b.drop 18) (envOfC (Str.ofString "law") sc L fa cd)) Q E s
theorem news_t3 {h₀ h : Heap} {L : Addr} {x a b c : Addr × Obj} {l : List (Addr × Obj)} (N : News h₀ L h (x :: a :: b :: c :: l)) : News h₀ L h (x :: l) := news_cons (N _ (.head _)) fun p hp => N p (.tail _ (.tail _ (.tail _ (.tail _ hp))))
theorem news_d1 {h₀ h : Heap} {L : Addr} {x a b : Addr × Obj} {l : List (Addr × Obj)} (N : News h₀ L h (x :: a :: b :: l)) : News h₀ L h (x :: a :: l) := news_cons (N _ (.head _)) (news_cons (N _ (.tail _ (.head _))) fun p hp => N p (.tail _ (.tail _ (.tail _ hp))))
theorem news_t1 {h₀ h : Heap} {L : Addr} {x a : Addr × Obj} {l : List (Addr × Obj)} (N : News h₀ L h (x :: a :: l)) : News h₀ L h (x :: l) := news_cons (N _ (.head _)) fun p hp => N p (.tail _ (.tail _ hp))
theorem Fr.three {h₀ h : Heap} {L : Addr} {M : Str → Option Value} {a b c : Str} {va vb vc : Option Value} (F : Fr h₀ L h M) (ha : M a = va) (hb : M b = vb) (hc : M c = vc) : Fr h₀ L h (fun y => if y = a then va else if y = b then vb else if y = c then vc else M y) :=
  Mine.Fr.congr F fun z => by
    by_cases q0 : z = a
    · rw [if_pos q0, q0, ha]
    · by_cases q1 : z = b
      · rw [if_neg q0, if_pos q1, q1, hb]
      · by_cases q2 : z = c
        · rw [if_neg q0, if_neg q1, if_pos q2, q2, hc]
        · rw [if_neg q0, if_neg q1, if_neg q2]
theorem off_cons {c1 c2 a : Addr} {o : Obj} {l : List (Addr × Obj)} (h : (@Ne Nat a 54) ∧ (@Ne Nat a c1) ∧ (@Ne Nat a 47) ∧ (@Ne Nat a c2)) (r : OffT c1 c2 l) : OffT c1 c2 ((a, o) :: l) := ⟨h, r⟩
theorem off_any {c1 c2 a : Addr} {o o' : Obj} {l : List (Addr × Obj)} (r : OffT c1 c2 ((a, o) :: l)) : OffT c1 c2 ((a, o') :: l) := ⟨r.1, r.2⟩
theorem off_d1 {c1 c2 a b : Addr} {o o' o2 : Obj} {l : List (Addr × Obj)} (r : OffT c1 c2 ((a, o) :: (b, o2) :: l)) : OffT c1 c2 ((a, o') :: l) := ⟨r.1, r.2.2⟩
theorem ints8 {h₀ h : Heap} {L D : Addr} {a0 a1 a2 a3 a4 a5 a6 a7 : Int} {t0 t1 t2 t3 t4 t5 t6 t7 : Tok} {ep : Nat} {l : List (Addr × Obj)} (_ : News h₀ L h ((D, PySem.W.listOf #[.int a0 t0, .int a1 t1, .int a2 t2, .int a3 t3, .int a4 t4, .int a5 t5, .int a6 t6, .int a7 t7] ep) :: l)) : IntsAre [.int a0 t0, .int a1 t1, .int a2 t2, .int a3 t3, .int a4 t4, .int a5 t5, .int a6 t6, .int a7 t7] [a0, a1, a2, a3, a4, a5, a6, a7] := by
  repeat (first | exact .nil | refine .cons _ _ ?_)
theorem ints7 {h₀ h : Heap} {L D : Addr} {a1 a2 a3 a4 a5 a6 a7 : Int} {t1 t2 t3 t4 t5 t6 t7 : Tok} {ep : Nat} {l : List (Addr × Obj)} (_ : News h₀ L h ((D, PySem.W.listOf #[.int a1 t1, .int a2 t2, .int a3 t3, .int a4 t4, .int a5 t5, .int a6 t6, .int a7 t7] ep) :: l)) : IntsAre [.int a1 t1, .int a2 t2, .int a3 t3, .int a4 t4, .int a5 t5, .int a6 t6, .int a7 t7] [a1, a2, a3, a4, a5, a6, a7] := by
  repeat (first | exact .nil | refine .cons _ _ ?_)
theorem ints5 {vs : List Value} {a b c d e : Int} (h : IntsAre vs [a, b, c, d, e]) : ∃ t0 t1 t2 t3 t4, vs = [.int a t0, .int b t1, .int c t2, .int d t3, .int e t4] := by
  rcases h with _ | ⟨_, t0, h⟩
  rcases h with _ | ⟨_, t1, h⟩
  rcases h with _ | ⟨_, t2, h⟩
  rcases h with _ | ⟨_, t3, h⟩
  rcases h with _ | ⟨_, t4, h⟩
  cases h
  exact ⟨_, _, _, _, _, rfl⟩
theorem digs_ok {x y ww : Int} (hw : 9 ≤ ww ∧ ww ≤ 12) (hx : 0 ≤ x ∧ x < 512) (hy : 0 ≤ y ∧ y < 512) : (∀ d ∈ [0, 0, 0, 0, 0, x, y, 1], 0 ≤ d ∧ d < (2 : Int) ^ ww.toNat) ∧ (∀ d ∈ [0, 0, 0, 0, 1, y, x], 0 ≤ d ∧ d < (2 : Int) ^ ww.toNat) := by
  have h : (512 : Int) ≤ 2 ^ ww.toNat := by
    rcases (by omega : ww = 9 ∨ ww = 10 ∨ ww = 11 ∨ ww = 12) with rfl | rfl | rfl | rfl <;> decide
  constructor
  · intro d hd
    simp only [List.mem_cons, List.not_mem_nil, or_false] at hd
    rcases hd with h | h | h | h | h | h | h | h <;> omega
  · intro d hd
    simp only [List.mem_cons, List.not_mem_nil, or_false] at hd
    rcases hd with h | h | h | h | h | h | h <;> omega
theorem news_T {h₀ h : Heap} {L : Addr} {a b c d e f g i k x y z : Addr × Obj} {l : List (Addr × Obj)} (N : News h₀ L h (a :: b :: c :: d :: e :: f :: g :: i :: k :: x :: y :: z :: l)) : News h₀ L h [a, b, c, d, e, f, g, i, k, x, z] := by
  repeat (first | exact news_nil | refine news_cons (N _ (by k_mem)) ?_)

example : True := by
  k_with "execs cons" => (k_here; (with_reducible show wpAny _ _ (execs (Stmt.If _ _ _ _ :: _) _) _ _ _); refine Stop.mk ?_)
  k_with "call ref" => ((rename TupMark => hMk9); refine Stop.mk ?_)
  trivial
theorem law_g (w : World) (fo A R g1 e1 g2 e2 g3 e3 : Int) (tf ta tr : Tok) (o1 o3 o4 : Obj) (C T0 T1 T2 : Addr) (nC j0 j1 j2 : Nat) (u0 w0 u1 w1 u2 w2 : Tok) (ww : Int) (tw : Tok) (ps1 : Array Value) (c1 : Addr) (b1 : Obj) (ps2 : Array Value) (c2 : Addr) (b2 : Obj) (law_h : ∀ (k0 k1 k2 k3 k4 r0 r1 r2 r3 r4 : Tok) (Hh Ww : Addr) (eh ew : Nat) (fo A R g1 e1 g2 e2 g3 e3 : Int) (tf ta tr : Tok) (o1 o3 o4 : Obj) (C T0 T1 T2 : Addr) (nC j0 j1 j2 : Nat) (u0 w0 u1 w1 u2 w2 : Tok) (ww : Int) (ps1 ps2 : Array Value), LawH w k0 k1 k2 k3 k4 r0 r1 r2 r3 r4 Hh Ww eh ew fo A R g1 e1 g2 e2 g3 e3 tf ta tr o1 o3 o4 C T0 T1 T2 nC j0 j1 j2 u0 w0 u1 w1 u2 w2 ww ps1 ps2  (fnBody (Mine.hd.heap_39 w.params) 175) (fnScope (Mine.hd.heap_39 w.params) 175)) :
   LawG w fo A R g1 e1 g2 e2 g3 e3 tf ta tr o1 o3 o4 C T0 T1 T2 nC j0 j1 j2 u0 w0 u1 w1 u2 w2 ww tw ps1 c1 b1 ps2 c2 b2  (fnBody (Mine.hd.heap_39 w.params) 175) (fnScope (Mine.hd.heap_39 w.params) 175) := by
  revert law_h
  refine' with_fn (P := fun b sc => (∀ (k0 k1 k2 k3 k4 r0 r1 r2 r3 r4 : Tok) (Hh Ww : Addr) (eh ew : Nat) (fo A R g1 e1 g2 e2 g3 e3 : Int) (tf ta tr : Tok) (o1 o3 o4 : Obj) (C T0 T1 T2 : Addr) (nC j0 j1 j2 : Nat) (u0 w0 u1 w1 u2 w2 : Tok) (ww : Int) (ps1 ps2 : Array Value), LawH w k0 k1 k2 k3 k4 r0 r1 r2 r3 r4 Hh Ww eh ew fo A R g1 e1 g2 e2 g3 e3 tf ta tr o1 o3 o4 C T0 T1 T2 nC j0 j1 j2 u0 w0 u1 w1 u2 w2 ww ps1 ps2  b sc) → LawG w fo A R g1 e1 g2 e2 g3 e3 tf ta tr o1 o3 o4 C T0 T1 T2 nC j0 j1 j2 u0 w0 u1 w1 u2 w2 ww tw ps1 c1 b1 ps2 c2 b2  b sc) ?hK ?_
  case hK => k_is
  intro law_h
  intro loose mean mg mb dp un gd fa cd outer A₀ base h₀ L m s Q E hB X T hd hu hPE hd1 hd3 hd4 hp1 hp2 hoff hpl hww F N hret
  dsimp only [List.drop]
  have mo : Hold ((A + R).fdiv 2 = (A + R).fdiv 2) := rfl
  have mi : Hold ((A - R).fdiv 2 = (A - R).fdiv 2) := rfl
  obtain ⟨_, pm, pi, pq1, pq2, pt1, pt2, _⟩ := id hpl
  have hdg := digs_ok hww pi pm
  have hdg1 := hdg.1
  have hdg2 := hdg.2
  replace pt1 := Hold.mk pt1
  replace pt2 := Hold.mk pt2
  clear pm pi hdg
  simp only [TL, List.cons_append, List.nil_append] at N
  have hMk : TupMark := trivial
  k_steps
  unfold Stop
  rename_i y5 y4 l9 y3 z3 D9 y2 i1 n1 z4 z5 z6 z7 z2 l8 y1 z1 D1 h1 F1 N1 z0
  have hD : (@Ne Nat D1 54) ∧ (@Ne Nat D1 c1) ∧ (@Ne Nat D1 47) ∧ (@Ne Nat D1 c2) := ⟨by omega, by omega, by omega, by omega⟩
  rename TupMark => hMx
  clear z3 i1 z4 z5 z6 z7 z2 z1 z0 hMx
  have N2 := news_t3 N1
  have hi1 := ints8 N2
  have hoff1 := off_cons (o := tabObj #[]) hD hoff
  clear hD N1
  refine' cspec_at (c_told _ _ _ _ _ _ _ _ _ ?p1 ?p2 ?p3 ?p4 _ _ _ _ _ _ ?hl ?hi ?hlen ?hz ?hdig ?hq) ?k1 ?k2 ?k3 ?k4 ?k5 ?kK ?kd ?ku ?_
  case k1 => k_asm
  case k2 => k_asm
  case k3 => k_asm
  case k4 => k_asm
  case k5 => k_asm
  case p1 => (first | exact sp0 | exact sp1 | exact sp2 | exact sp3 | exact sp4 | exact sp5 | exact sp6 | exact sp7 | exact sp8 | exact sp9 | exact sp10 | exact sp11 | exact sp12 | exact sp13)
  case p2 => with_reducible assumption
  case p3 => with_reducible assumption
  case p4 => ((rename OffT _ _ _ => hO9); exact hO9)
  case hl => k_mem
  case hi => with_reducible assumption
  case hlen => exact ⟨Nat.le_of_ble_eq_true rfl, Nat.le_of_ble_eq_true rfl⟩
  case hz => with_reducible assumption
  case hdig => with_reducible assumption
  case hq => with_reducible assumption
  case kK => first | exact rfl | with_reducible assumption
  case kd => ktr_room
  case ku => ktr_units
  intro Hh vsH eh qs1 d1 f1 qs2 d2 f2 h2 tk2 hq1 hq2 hoff2 hiH F2 N9 z9
  simp only [List.cons_append, List.nil_append] at N9
  have N2h := N9
  clear N9
  replace N2h := news_t1 N2h
  replace hoff2 := off_d1 (o' := tabObj #[]) hoff2
  clear hp1 hp2 hoff hoff1 hi1 N2 F1 hdg1 pq1 z9
  have hMk : TupMark := trivial
  k_steps
  unfold Stop
  rename_i y5 y4 l9 y3 z3 D9 y2 i1 n1 z4 z5 z6 z7 z2 l8 y1 z1 D2 h3 F3 N3 z0
  have hD : (@Ne Nat D2 54) ∧ (@Ne Nat D2 d1) ∧ (@Ne Nat D2 47) ∧ (@Ne Nat D2 d2) := ⟨by omega, by omega, by omega, by omega⟩
  rename TupMark => hMx
  clear z3 i1 z4 z5 z6 z7 z2 z1 z0 hMx
  have N4 := news_t3 N3
  have hi2 := ints7 N4
  have hoff3 := off_cons (o := tabObj #[]) hD hoff2
  clear hD N3
  refine' cspec_at (c_told _ _ _ _ _ _ _ _ _ ?p1 ?p2 ?p3 ?p4 _ _ _ _ _ _ ?hl ?hi ?hlen ?hz ?hdig ?hq) ?k1 ?k2 ?k3 ?k4 ?k5 ?kK ?kd ?ku ?_
  case k1 => k_asm
  case k2 => k_asm
  case k3 => k_asm
  case k4 => k_asm
  case k5 => k_asm
  case p1 => (first | exact sp0 | exact sp1 | exact sp2 | exact sp3 | exact sp4 | exact sp5 | exact sp6 | exact sp7 | exact sp8 | exact sp9 | exact sp10 | exact sp11 | exact sp12 | exact sp13)
  case p2 => with_reducible assumption
  case p3 => with_reducible assumption
  case p4 => ((rename OffT _ _ _ => hO9); exact hO9)
  case hl => k_mem
  case hi => with_reducible assumption
  case hlen => exact ⟨Nat.le_of_ble_eq_true rfl, Nat.le_of_ble_eq_true rfl⟩
  case hz => with_reducible assumption
  case hdig => with_reducible assumption
  case hq => with_reducible assumption
  case kK => first | exact rfl | with_reducible assumption
  case kd => ktr_room
  case ku => ktr_units
  intro Ww vsW ew rs1 k1 m1 rs2 k2 m2 h5 tk5 hr1 hr2 hoff5 hiW F5 N9 z9
  simp only [List.cons_append, List.nil_append] at N9
  have N5 := N9
  clear N9
  replace N5 := news_t1 N5
  clear hoff3 hi2 N4 F3 hdg2 pq2 z9
  rw [Hold.out pt1] at hiH
  rw [Hold.out pt2] at hiW
  obtain ⟨a0, a1, a2, a3, a4, rfl⟩ := ints5 hiH
  obtain ⟨a5, a6, a7, a8, a9, rfl⟩ := ints5 hiW
  k_steps
  unfold Stop
  rename Fr _ _ _ _ => F6
  rename News _ _ _ _ => N6
  have F7 := Mine.Fr.three F6 (a := Str.ofString "within") (b := Str.ofString "held") (c := Str.ofString "corners") rfl rfl rfl
  refine' law_h _ _ _ _ _ _ _ _ _ _ Hh Ww _ _ fo A R g1 e1 g2 e2 g3 e3 tf ta tr o1 o3 o4 C T0 T1 T2 nC j0 j1 j2 u0 w0 u1 w1 u2 w2 ww _ _ loose mean mg mb dp un gd fa cd outer A₀ base h₀ L _ _ Q E hB X T hd hu hPE hd1 hd3 hd4 hpl F7 (news_T N6) hret


end Mine
end
section
example : True := by (w_top off; trivial)
example : True := by (k_with_none; trivial)
example : True := by
  k_with "call builtin:min" => (k_here; (with_reducible show wpAny _ _ (call (Value.builtin _) [Value.int _ _, Value.int _ _, Value.int _ _]) _ _ _); k_dflt (refine' min3_N ?k0K9 ?k1K9 ?k2K9 ?_; (case k0K9 => rfl); (case k1K9 => k_asm); (case k2K9 => k_asm)); intro h' tk tok F' N'; revert h' tk tok F' N'; intro _ _ _ _ _)
  k_with "call builtin:max" => (k_here; (with_reducible show wpAny _ _ (call (Value.builtin _) [Value.int _ _, Value.int _ _, Value.int _ _]) _ _ _); k_dflt (refine' max3_N ?k0K9 ?k1K9 ?k2K9 ?_; (case k0K9 => rfl); (case k1K9 => k_asm); (case k2K9 => k_asm)); intro h' tk tok F' N'; revert h' tk tok F' N'; intro _ _ _ _ _)
  k_with "binaryOp Div int int" => (k_here; refine div_small (by omega) (by omega) ?_)
  k_with "subscriptTail" => (k_here; (with_reducible show wpAny _ _ (subscriptTail _ _ (Value.ref _) (Value.int _ _)) _ _ _); k_dflt (first
      | (refine' tup_item ?NK9 ?mK9 ?aK9 ?bK9 ?cK9 ?dK9 ?_ ?eK9; (case NK9 => k_asm); (case mK9 => k_mem); (case aK9 => decide); (case bK9 => decide); (case cK9 => rfl); (case dK9 => rfl); (case eK9 => with_unfolding_all rfl); k_whole)
      | (refine' lst_item ?NK9 ?mK9 ?aK9 ?bK9 ?cK9 ?_ ?eK9; (case NK9 => k_asm); (case mK9 => k_mem); (case aK9 => decide); (case bK9 => decide); (case cK9 => rfl); (case eK9 => with_unfolding_all rfl); k_whole)
      | (refine' lst_itemN ?NK9 ?mK9 ?aK9 ?bK9 ?cK9 ?dK9 ?_ ?eK9; (case NK9 => k_asm); (case mK9 => k_mem); (case aK9 => decide); (case bK9 => decide); (case cK9 => decide); (case dK9 => rfl); (case eK9 => with_unfolding_all rfl); k_whole)))
  trivial
example : True := by
  k_with "subscriptTail Name Constant ref int" => (k_here; (with_reducible show wpAny _ _ (subscriptTail _ _ (Value.ref _) (Value.int _ _)) _ _ _); k_dflt (first
      | (refine' tup_item ?NK9 ?mK9 ?aK9 ?bK9 ?cK9 ?dK9 ?_ ?eK9; (case NK9 => k_asm); (case mK9 => k_mem); (case aK9 => decide); (case bK9 => decide); (case cK9 => rfl); (case dK9 => rfl); (case eK9 => with_unfolding_all rfl); k_whole)
      | (refine' lst_item ?NK9 ?mK9 ?aK9 ?bK9 ?cK9 ?_ ?eK9; (case NK9 => k_asm); (case mK9 => k_mem); (case aK9 => decide); (case bK9 => decide); (case cK9 => rfl); (case eK9 => with_unfolding_all rfl); k_whole)
      | (refine' lst_itemN ?NK9 ?mK9 ?aK9 ?bK9 ?cK9 ?dK9 ?_ ?eK9; (case NK9 => k_asm); (case mK9 => k_mem); (case aK9 => decide); (case bK9 => decide); (case cK9 => decide); (case dK9 => rfl); (case eK9 => with_unfolding_all rfl); k_whole)))
  k_with "binaryOp Mod int int" => (k_here; first | (with_reducible refine mod_eq (by with_reducible assumption) (by first | decide | assumption | omega) ?_) | (with_reducible refine mod_eqH (by with_reducible assumption) (by first | decide | assumption | omega) ?_))
  k_with "binaryOp FloorDiv int int" => (k_here; (with_reducible refine fdiv_eqH (by with_reducible assumption) (by first | decide | assumption | omega) (by omega) ?_))
  trivial
open PySem PySem.W PyProof.Rows PySem.Calls PySem.Spec
namespace Mine
noncomputable def LawI (w : World) (k0 k1 k2 k3 k4 r0 r1 r2 r3 r4 : Tok) (Hh Ww : Addr) (eh ew : Nat) (fo A R g1 e1 g2 e2 g3 e3 : Int) (tf ta tr : Tok) (o1 o3 o4 : Obj) (C T0 T1 T2 : Addr) (nC j0 j1 j2 : Nat) (u0 w0 u1 w1 u2 w2 : Tok) (ww : Int) (ps1 ps2 : Array Value) (b : List Stmt) (sc : Scope) : Prop := ∀ (loose : List Str) (mean : ExcName → Option Value) (mg mb : Str → Option Value) (dp un : Nat) (gd : Option (List Code)) (fa : Addr) (cd : Value) (outer : List Env) (A₀ : Around) (base h₀ : Heap) (L : Addr) (m : Str → Option Value) (s : Shared) (Q : Flow → Shared → Prop) (E : Value → Shared → Prop),
    Below A₀ base outer h₀ → (Mine.hd.heap_39 w.params).In h₀ → Top topProg loose mean mg mb h₀ → dp + 200 < recursionLimit → un + 2000 < cLine →
    PassesOwn (model PySem.Challenge.pw_sn0025_01 w) (ktrTop dp un gd (Str.ofString "law") sc L fa cd (cellsFrom (L + 1) sc.names []) outer) (envOfC (Str.ofString "law") sc L fa cd) E →
    o1.data = .cell (some (.int fo tf)) → Hold (Pl fo A R ww g1 e1 g2 e2 g3 e3) → Fr h₀ L s.heap (fun y => if y = Str.ofString "within" then some (.ref Ww) else if y = Str.ofString "held" then some (.ref Hh) else if y = Str.ofString "corners" then some (.ref C) else m y) → News h₀ L s.heap [(Ww, PySem.W.listOf [Value.int 0 r0, .int (totw A R 1) r1, .int (totw A R 2) r2, .int (totw A R 3) r3, .int (totw A R 4) r4].toArray ew), (Hh, PySem.W.listOf [Value.int (tot A R 0) k0, .int (tot A R 1) k1, .int (tot A R 2) k2, .int (tot A R 3) k3, .int (tot A R 4) k4].toArray eh), (C, PySem.W.listOf [Value.ref T0, .ref T1, .ref T2].toArray nC), (T0, tup2 (.int g1 u0) (.int e1 w0) j0), (T1, tup2 (.int g2 u1) (.int e2 w1) j1), (T2, tup2 (.int g3 u2) (.int e3 w2) j2), (L + 1 + 1 + 1 + 1, o4), (L + 1 + 1 + 1, o3), (L + 1, o1), (54, tabObj ps1), (47, tabObj ps2)] →
    (∀ h' tk' m', Fr h₀ L h' m' → GrownAt 54 h' → GrownAt 47 h' → Q (.ret (.bool true)) { s with heap := h', toks := tk' }) →
    wpAny (model PySem.Challenge.pw_sn0025_01 w) (ktrTop dp un gd (Str.ofString "law") sc L fa cd (cellsFrom (L + 1) sc.names []) outer) (execs (b.drop 20) (envOfC (Str.ofString "law") sc L fa cd)) Q E s
section
variable {prog : Program} {w : World} {A : Around} {E : Value → Shared → Prop} {s : Shared} {h₀ : Heap} {L : Addr} {m : Str → Option Value} {env : Env}
theorem IntsAre.snoc {vs : List Value} {xs : List Int} {x : Int} {t : Tok} (h : IntsAre vs xs) : IntsAre (vs ++ [.int x t]) (xs ++ [x]) := by
  induction h with
  | nil => exact .cons _ _ .nil
  | cons _ _ _ ih => exact .cons _ _ ih
theorem turnsR {elt : Expr} {x : Str} {scope : Scope} {cl : List (Str × Addr)} {a : Int} {n : Nat} {f : Nat → Int} {Fin : List Value → List (Addr × Obj) → Prop} {news : List (Addr × Obj)}
    (helt : ∀ (i : Nat) (t : Tok), i < n → ∀ C oC m₂ h tk (Qe E' : Value → Shared → Prop), LCg.NsObj oC m₂ → m₂ x = some (.int (a + (i : Int)) t) → Fr h₀ L h m → News h₀ L h ((C, oC) :: news) → (∀ tk' t', Qe (.int (f i) t') { s with heap := h, toks := tk' }) →
      wpAny (model prog w) A (eval elt (compEnvC scope cl C env)) Qe E' { s with heap := h, toks := tk })
    (hfin : ∀ ys, IntsAre ys ((List.range n).map f) → Fin ys news) :
    LCg.CompRest prog w A h₀ L m env elt x scope cl s (fun _ => True) (fun i v => ∃ t, v = .int (a + (i : Int)) t) Fin n 0 [] news := by
  refine compRest_ind (n := n) (P := fun i ys news' => news' = news ∧ IntsAre ys ((List.range i).map f)) ?_ ?_ n 0 [] news (Nat.zero_add _) ⟨rfl, .nil⟩
  · rintro ys news' ⟨rfl, h⟩
    exact hfin ys h
  · rintro i ys news' v hi ⟨rfl, hI⟩ ⟨t, rfl⟩ I oI C oC D m₂ h tk E' hC hx F N off ne
    refine helt i t hi C oC m₂ h tk _ E' hC hx F (fun p hp => N p (by simp only [List.mem_cons] at hp ⊢; rcases hp with h | h <;> simp [h])) fun tk' t' => ?_
    refine ⟨h, tk', news', rfl, F, N, off, trivial, rfl, ?_⟩
    rw [List.range_succ, List.map_append]
    exact IntsAre.snoc hI
end
theorem news_d4 {h₀ h : Heap} {L : Addr} {a b c d : Addr × Obj} {l : List (Addr × Obj)} (N : News h₀ L h (a :: b :: c :: d :: l)) : News h₀ L h l := fun p hp => N p (.tail _ (.tail _ (.tail _ (.tail _ hp))))
theorem ints4 {vs : List Value} {a b c d : Int} (h : IntsAre vs [a, b, c, d]) : ∃ t0 t1 t2 t3, vs = [.int a t0, .int b t1, .int c t2, .int d t3] := by
  rcases h with _ | ⟨_, t0, h⟩
  rcases h with _ | ⟨_, t1, h⟩
  rcases h with _ | ⟨_, t2, h⟩
  rcases h with _ | ⟨_, t3, h⟩
  cases h
  exact ⟨_, _, _, _, rfl⟩

example : True := by
  k_with "execs cons" => (k_here; (with_reducible show wpAny _ _ (execs (Stmt.Assign _ (Expr.Call _ _ _ _) _ :: _) _) _ _ _); refine Stop.mk ?_)
  k_with "eval ListComp" => (k_here; (with_reducible show wpAny _ _ (eval (Expr.ListComp (Expr.BinOp _ _ _ _) _ _ _) _) _ _ _); k_dflt (refine LCg.ListComp_U (F₀ := by k_asm) (by with_unfolding_all rfl) (by decide) (by rfl) (by decide) (by rfl) ?_))
  k_with "CompSrc" => (refine Stop.mk ?_)
  k_with "SrcLP" => (refine Stop.mk ?_)
  trivial
theorem law_h (w : World) (k0 k1 k2 k3 k4 r0 r1 r2 r3 r4 : Tok) (Hh Ww : Addr) (eh ew : Nat) (fo A R g1 e1 g2 e2 g3 e3 : Int) (tf ta tr : Tok) (o1 o3 o4 : Obj) (C T0 T1 T2 : Addr) (nC j0 j1 j2 : Nat) (u0 w0 u1 w1 u2 w2 : Tok) (ww : Int) (ps1 ps2 : Array Value) (law_i : ∀ (k0 k1 k2 k3 k4 r0 r1 r2 r3 r4 : Tok) (Hh Ww : Addr) (eh ew : Nat) (fo A R g1 e1 g2 e2 g3 e3 : Int) (tf ta tr : Tok) (o1 o3 o4 : Obj) (C T0 T1 T2 : Addr) (nC j0 j1 j2 : Nat) (u0 w0 u1 w1 u2 w2 : Tok) (ww : Int) (ps1 ps2 : Array Value), LawI w k0 k1 k2 k3 k4 r0 r1 r2 r3 r4 Hh Ww eh ew fo A R g1 e1 g2 e2 g3 e3 tf ta tr o1 o3 o4 C T0 T1 T2 nC j0 j1 j2 u0 w0 u1 w1 u2 w2 ww ps1 ps2  (fnBody (Mine.hd.heap_39 w.params) 175) (fnScope (Mine.hd.heap_39 w.params) 175)) :
   LawH w k0 k1 k2 k3 k4 r0 r1 r2 r3 r4 Hh Ww eh ew fo A R g1 e1 g2 e2 g3 e3 tf ta tr o1 o3 o4 C T0 T1 T2 nC j0 j1 j2 u0 w0 u1 w1 u2 w2 ww ps1 ps2  (fnBody (Mine.hd.heap_39 w.params) 175) (fnScope (Mine.hd.heap_39 w.params) 175) := by
  revert law_i
  refine' with_fn (P := fun b sc => (∀ (k0 k1 k2 k3 k4 r0 r1 r2 r3 r4 : Tok) (Hh Ww : Addr) (eh ew : Nat) (fo A R g1 e1 g2 e2 g3 e3 : Int) (tf ta tr : Tok) (o1 o3 o4 : Obj) (C T0 T1 T2 : Addr) (nC j0 j1 j2 : Nat) (u0 w0 u1 w1 u2 w2 : Tok) (ww : Int) (ps1 ps2 : Array Value), LawI w k0 k1 k2 k3 k4 r0 r1 r2 r3 r4 Hh Ww eh ew fo A R g1 e1 g2 e2 g3 e3 tf ta tr o1 o3 o4 C T0 T1 T2 nC j0 j1 j2 u0 w0 u1 w1 u2 w2 ww ps1 ps2  b sc) → LawH w k0 k1 k2 k3 k4 r0 r1 r2 r3 r4 Hh Ww eh ew fo A R g1 e1 g2 e2 g3 e3 tf ta tr o1 o3 o4 C T0 T1 T2 nC j0 j1 j2 u0 w0 u1 w1 u2 w2 ww ps1 ps2  b sc) ?hK ?_
  case hK => k_is
  intro law_i
  intro loose mean mg mb dp un gd fa cd outer A₀ base h₀ L m s Q E hB X T hd hu hPE hd1 hd3 hd4 hpl F N hret
  dsimp only [List.drop]
  k_steps
  unfold Stop
  rename IsRange _ _ _ _ _ _ _ _ => hR
  rename Fr _ _ _ _ => hF
  rename News _ _ _ _ => hN
  refine LCg.CompSrc.range (n := 5) (by rfl) hF hN hR (by decide) (by decide) (by exact Nat.le_of_ble_eq_true rfl) fun g => ?_
  refine turnsR (f := fun i => tot A R (0 + (i : Int))) ?_ ?_
  · intro i t hi C9 oC m₂ h tk Qe E' hC hx F2 N2 hT
    have mo : Hold ((A * (0 + (i : Int)) * (0 + (i : Int)) + R * (0 + (i : Int))).fdiv 2 = (A * (0 + (i : Int)) * (0 + (i : Int)) + R * (0 + (i : Int))).fdiv 2) := rfl
    k_steps
    exact hT _ _
  intro ys hys
  replace hys := (show IntsAre ys [tot A R 0, tot A R 1, tot A R 2, tot A R 3, tot A R 4] from hys)
  obtain ⟨q0, q1, q2, q3, q4, rfl⟩ := ints5 hys
  k_steps
  unfold Stop
  clear hR
  rename IsRange _ _ _ _ _ _ _ _ => hR
  rename Fr _ _ _ _ => hF
  rename News _ _ _ _ => hN
  refine LCg.CompSrc.range (n := 4) (by rfl) hF hN hR (by decide) (by decide) (by exact Nat.le_of_ble_eq_true rfl) fun g => ?_
  refine turnsR (f := fun i => totw A R (1 + (i : Int))) ?_ ?_
  · intro i t hi C9 oC m₂ h tk Qe E' hC hx F2 N2 hT
    have mo : Hold ((A * (1 + (i : Int)) * (1 + (i : Int)) - R * (1 + (i : Int))).fdiv 2 = (A * (1 + (i : Int)) * (1 + (i : Int)) - R * (1 + (i : Int))).fdiv 2) := rfl
    k_steps
    exact hT _ _
  intro ys hys
  replace hys := (show IntsAre ys [totw A R 1, totw A R 2, totw A R 3, totw A R 4] from hys)
  obtain ⟨q5, q6, q7, q8, rfl⟩ := ints4 hys
  k_steps
  unfold Stop
  rename Fr _ _ _ _ => F9
  rename News _ _ _ _ => N9
  exact law_i k0 k1 k2 k3 k4 r0 r1 r2 r3 r4 Hh Ww eh ew fo A R g1 e1 g2 e2 g3 e3 tf ta tr o1 o3 o4 C T0 T1 T2 nC j0 j1 j2 u0 w0 u1 w1 u2 w2 ww ps1 ps2  loose mean mg mb dp un gd fa cd outer A₀ base h₀ L _ _ Q E hB X T hd hu hPE hd1 hpl F9 (news_d4 N9) hret


end Mine
end
section
example : True := by (w_top off; trivial)
example : True := by (k_with_none; trivial)
example : True := by
  k_with "call builtin:min" => (k_here; (with_reducible show wpAny _ _ (call (Value.builtin _) [Value.int _ _, Value.int _ _, Value.int _ _]) _ _ _); k_dflt (refine' min3_N ?k0K9 ?k1K9 ?k2K9 ?_; (case k0K9 => rfl); (case k1K9 => k_asm); (case k2K9 => k_asm)); intro h' tk tok F' N'; revert h' tk tok F' N'; intro _ _ _ _ _)
  k_with "call builtin:max" => (k_here; (with_reducible show wpAny _ _ (call (Value.builtin _) [Value.int _ _, Value.int _ _, Value.int _ _]) _ _ _); k_dflt (refine' max3_N ?k0K9 ?k1K9 ?k2K9 ?_; (case k0K9 => rfl); (case k1K9 => k_asm); (case k2K9 => k_asm)); intro h' tk tok F' N'; revert h' tk tok F' N'; intro _ _ _ _ _)
  k_with "binaryOp Div int int" => (k_here; refine div_small (by omega) (by omega) ?_)
  k_with "subscriptTail" => (k_here; (with_reducible show wpAny _ _ (subscriptTail _ _ (Value.ref _) (Value.int _ _)) _ _ _); k_dflt (first
      | (refine' tup_item ?NK9 ?mK9 ?aK9 ?bK9 ?cK9 ?dK9 ?_ ?eK9; (case NK9 => k_asm); (case mK9 => k_mem); (case aK9 => decide); (case bK9 => decide); (case cK9 => rfl); (case dK9 => rfl); (case eK9 => with_unfolding_all rfl); k_whole)
      | (refine' lst_item ?NK9 ?mK9 ?aK9 ?bK9 ?cK9 ?_ ?eK9; (case NK9 => k_asm); (case mK9 => k_mem); (case aK9 => decide); (case bK9 => decide); (case cK9 => rfl); (case eK9 => with_unfolding_all rfl); k_whole)
      | (refine' lst_itemN ?NK9 ?mK9 ?aK9 ?bK9 ?cK9 ?dK9 ?_ ?eK9; (case NK9 => k_asm); (case mK9 => k_mem); (case aK9 => decide); (case bK9 => decide); (case cK9 => decide); (case dK9 => rfl); (case eK9 => with_unfolding_all rfl); k_whole)))
  trivial
example : True := by
  k_with "subscriptTail Name Constant ref int" => (k_here; (with_reducible show wpAny _ _ (subscriptTail _ _ (Value.ref _) (Value.int _ _)) _ _ _); k_dflt (first
      | (refine' tup_item ?NK9 ?mK9 ?aK9 ?bK9 ?cK9 ?dK9 ?_ ?eK9; (case NK9 => k_asm); (case mK9 => k_mem); (case aK9 => decide); (case bK9 => decide); (case cK9 => rfl); (case dK9 => rfl); (case eK9 => with_unfolding_all rfl); k_whole)
      | (refine' lst_item ?NK9 ?mK9 ?aK9 ?bK9 ?cK9 ?_ ?eK9; (case NK9 => k_asm); (case mK9 => k_mem); (case aK9 => decide); (case bK9 => decide); (case cK9 => rfl); (case eK9 => with_unfolding_all rfl); k_whole)
      | (refine' lst_itemN ?NK9 ?mK9 ?aK9 ?bK9 ?cK9 ?dK9 ?_ ?eK9; (case NK9 => k_asm); (case mK9 => k_mem); (case aK9 => decide); (case bK9 => decide); (case cK9 => decide); (case dK9 => rfl); (case eK9 => with_unfolding_all rfl); k_whole)))
  k_with "binaryOp Mod int int" => (k_here; first | (with_reducible refine mod_eq (by with_reducible assumption) (by first | decide | assumption | omega) ?_) | (with_reducible refine mod_eqH (by with_reducible assumption) (by first | decide | assumption | omega) ?_))
  k_with "binaryOp FloorDiv int int" => (k_here; (with_reducible refine fdiv_eqH (by with_reducible assumption) (by first | decide | assumption | omega) (by omega) ?_))
  trivial
open PySem PySem.W PyProof.Rows PySem.Calls PySem.Spec
namespace Mine
example : True := by
  k_with "subscriptTail" => (k_here; (with_reducible show wpAny _ _ (subscriptTail (Expr.Name _ _) _ (Value.ref _) (Value.int _ _)) _ _ _); k_dflt (first
      | (refine' lst_ref ?NK9 ?mK9 ?xK9 ?aK9 ?bK9 ?_ ?eK9; (case NK9 => k_asm); (case mK9 => k_mem); (case xK9 => with_reducible assumption); (case aK9 => omega); (case bK9 => omega); (case eK9 => with_unfolding_all rfl))
      | (refine' lst_int ?NK9 ?mK9 ?xK9 ?aK9 ?bK9 ?_ ?eK9; (case NK9 => k_asm); (case mK9 => k_mem); (case xK9 => with_reducible assumption); (case aK9 => omega); (case bK9 => omega); (case eK9 => with_unfolding_all rfl))))
  k_with "subscriptTail Name BinOp ref int" => (k_here; (with_reducible show wpAny _ _ (subscriptTail (Expr.Name _ _) _ (Value.ref _) (Value.int _ _)) _ _ _); k_dflt (first
      | (refine' lst_ref ?NK9 ?mK9 ?xK9 ?aK9 ?bK9 ?_ ?eK9; (case NK9 => k_asm); (case mK9 => k_mem); (case xK9 => with_reducible assumption); (case aK9 => omega); (case bK9 => omega); (case eK9 => with_unfolding_all rfl))
      | (refine' lst_int ?NK9 ?mK9 ?xK9 ?aK9 ?bK9 ?_ ?eK9; (case NK9 => k_asm); (case mK9 => k_mem); (case xK9 => with_reducible assumption); (case aK9 => omega); (case bK9 => omega); (case eK9 => with_unfolding_all rfl))))
  k_with "subscriptTail Name Name ref int" => (k_here; (with_reducible show wpAny _ _ (subscriptTail (Expr.Name _ _) _ (Value.ref _) (Value.int _ _)) _ _ _); k_dflt (first
      | (refine' lst_ref ?NK9 ?mK9 ?xK9 ?aK9 ?bK9 ?_ ?eK9; (case NK9 => k_asm); (case mK9 => k_mem); (case xK9 => with_reducible assumption); (case aK9 => omega); (case bK9 => omega); (case eK9 => with_unfolding_all rfl))
      | (refine' lst_int ?NK9 ?mK9 ?xK9 ?aK9 ?bK9 ?_ ?eK9; (case NK9 => k_asm); (case mK9 => k_mem); (case xK9 => with_reducible assumption); (case aK9 => omega); (case bK9 => omega); (case eK9 => with_unfolding_all rfl))))
  k_with "subscriptTail Name BinOp ref int" => (k_here; (with_reducible show wpAny _ _ (subscriptTail (Expr.Name _ _) _ (Value.ref _) (Value.int _ _)) _ _ _); k_dflt (first
      | (refine' lst_ref ?NK9 ?mK9 ?xK9 ?aK9 ?bK9 ?_ ?eK9; (case NK9 => k_asm); (case mK9 => k_mem); (case xK9 => with_reducible assumption); (case aK9 => omega); (case bK9 => omega); (case eK9 => with_unfolding_all rfl))
      | (refine' lst_int ?NK9 ?mK9 ?xK9 ?aK9 ?bK9 ?_ ?eK9; (case NK9 => k_asm); (case mK9 => k_mem); (case xK9 => with_reducible assumption); (case aK9 => omega); (case bK9 => omega); (case eK9 => with_unfolding_all rfl))))
  trivial
theorem countIn_count (k : Str) : ∀ ys : List Str, Spec.countIn (.str k) (ys.map PyData.str) = ((ys.count k : Nat) : Int)
  | [] => rfl
  | y :: ys => by
    rw [List.map_cons, Spec.countIn, countIn_count k ys, List.count_cons]
    simp only [Spec.same]
    rcases Bool.eq_false_or_eq_true (y == k) with hb | hb <;> simp only [hb, Bool.false_eq_true, if_true, if_false] <;> push_cast <;> omega

example : True := by
  k_with "call ref" => ((rename TupMark => hMk9); refine Stop.mk ?_)
  trivial
theorem law_i (w : World) (k0 k1 k2 k3 k4 r0 r1 r2 r3 r4 : Tok) (Hh Ww : Addr) (eh ew : Nat) (fo A R g1 e1 g2 e2 g3 e3 : Int) (tf ta tr : Tok) (o1 o3 o4 : Obj) (C T0 T1 T2 : Addr) (nC j0 j1 j2 : Nat) (u0 w0 u1 w1 u2 w2 : Tok) (ww : Int) (ps1 ps2 : Array Value) :
   LawI w k0 k1 k2 k3 k4 r0 r1 r2 r3 r4 Hh Ww eh ew fo A R g1 e1 g2 e2 g3 e3 tf ta tr o1 o3 o4 C T0 T1 T2 nC j0 j1 j2 u0 w0 u1 w1 u2 w2 ww ps1 ps2  (fnBody (Mine.hd.heap_39 w.params) 175) (fnScope (Mine.hd.heap_39 w.params) 175) := by
  refine' with_fn (P := fun b sc => LawI w k0 k1 k2 k3 k4 r0 r1 r2 r3 r4 Hh Ww eh ew fo A R g1 e1 g2 e2 g3 e3 tf ta tr o1 o3 o4 C T0 T1 T2 nC j0 j1 j2 u0 w0 u1 w1 u2 w2 ww ps1 ps2  b sc) ?hK ?_
  case hK => k_is
  intro loose mean mg mb dp un gd fa cd outer A₀ base h₀ L m s Q E hB X T hd hu hPE hd1 hpl F N hret
  dsimp only [List.drop]
  obtain ⟨hfo, _, _, _, _, _, _, ⟨hg1, he1, hg2, he2, hg3, he3⟩, hcw, hcr⟩ := id hpl
  rw [← countIn_count] at hcw hcr
  replace hcw := Hold.mk hcw
  replace hcr := Hold.mk hcr
  have hMk : TupMark := trivial
  k_steps
  unfold Stop
  refine' cspec_at (c_met _ _ _ _ _ _ _ _ _ _ _ _ _ _ _ _ _ _ _ _ _ _ ?m0 ?m1 ?m2 ?m3 ?b0 ?b1 ?b2 ?b3 ?b4 ?b5) ?k1 ?k2 ?k3 ?k4 ?k5 ?kK ?kd ?ku ?_
  case k1 => k_asm
  case k2 => k_asm
  case k3 => k_asm
  case k4 => k_asm
  case k5 => k_asm
  case m0 => k_mem
  case m1 => k_mem
  case m2 => k_mem
  case m3 => k_mem
  case b0 => with_reducible assumption
  case b1 => with_reducible assumption
  case b2 => with_reducible assumption
  case b3 => with_reducible assumption
  case b4 => with_reducible assumption
  case b5 => with_reducible assumption
  case kK => first | exact rfl | with_reducible assumption
  case kd => ktr_room
  case ku => ktr_units
  intro D9 vs9 ep9 h9 tk9 hM F9 N9 l19
  rename TupMark => hMx
  clear hMx
  have hr5 : 0 ≤ fo ∧ fo < 5 := by omega
  obtain ⟨yw, hyw⟩ : ∃ tk, [Value.int 0 r0, .int (totw A R 1) r1, .int (totw A R 2) r2, .int (totw A R 3) r3, .int (totw A R 4) r4][fo.toNat]? = some (.int (totw A R fo) tk) := by
    rcases (by omega : fo = 1 ∨ fo = 2 ∨ fo = 3 ∨ fo = 4) with rfl | rfl | rfl | rfl <;> exact ⟨_, rfl⟩
  obtain ⟨yh, hyh⟩ : ∃ tk, [Value.int (tot A R 0) k0, .int (tot A R 1) k1, .int (tot A R 2) k2, .int (tot A R 3) k3, .int (tot A R 4) k4][fo.toNat]? = some (.int (tot A R fo) tk) := by
    rcases (by omega : fo = 1 ∨ fo = 2 ∨ fo = 3 ∨ fo = 4) with rfl | rfl | rfl | rfl <;> exact ⟨_, rfl⟩
  clear hg1 he1 hg2 he2 hg3 he3 hfo
  k_steps
  · have h1 := Hold.out hcw
    have h2 := Hold.out hcr
    rename Fr _ _ _ _ => F99
    rename News _ _ _ _ => N99
    rw [show ∀ x y z : Int, x + y = z → (x + y == z) = true from fun x y z h => beq_iff_eq.mpr h]
    · exact hret _ _ _ F99 (GrownAt.of N99 (by k_mem)) (GrownAt.of N99 (by k_mem))
    · omega
  · exact absurd (Hold.out hcw) (by assumption)


end Mine
end
section
example : True := by (w_top off; trivial)
example : True := by (k_with_none; trivial)
example : True := by
  k_with "call builtin:min" => (k_here; (with_reducible show wpAny _ _ (call (Value.builtin _) [Value.int _ _, Value.int _ _, Value.int _ _]) _ _ _); k_dflt (refine' min3_N ?k0K9 ?k1K9 ?k2K9 ?_; (case k0K9 => rfl); (case k1K9 => k_asm); (case k2K9 => k_asm)); intro h' tk tok F' N'; revert h' tk tok F' N'; intro _ _ _ _ _)
  k_with "call builtin:max" => (k_here; (with_reducible show wpAny _ _ (call (Value.builtin _) [Value.int _ _, Value.int _ _, Value.int _ _]) _ _ _); k_dflt (refine' max3_N ?k0K9 ?k1K9 ?k2K9 ?_; (case k0K9 => rfl); (case k1K9 => k_asm); (case k2K9 => k_asm)); intro h' tk tok F' N'; revert h' tk tok F' N'; intro _ _ _ _ _)
  k_with "binaryOp Div int int" => (k_here; refine div_small (by omega) (by omega) ?_)
  k_with "subscriptTail" => (k_here; (with_reducible show wpAny _ _ (subscriptTail _ _ (Value.ref _) (Value.int _ _)) _ _ _); k_dflt (first
      | (refine' tup_item ?NK9 ?mK9 ?aK9 ?bK9 ?cK9 ?dK9 ?_ ?eK9; (case NK9 => k_asm); (case mK9 => k_mem); (case aK9 => decide); (case bK9 => decide); (case cK9 => rfl); (case dK9 => rfl); (case eK9 => with_unfolding_all rfl); k_whole)
      | (refine' lst_item ?NK9 ?mK9 ?aK9 ?bK9 ?cK9 ?_ ?eK9; (case NK9 => k_asm); (case mK9 => k_mem); (case aK9 => decide); (case bK9 => decide); (case cK9 => rfl); (case eK9 => with_unfolding_all rfl); k_whole)
      | (refine' lst_itemN ?NK9 ?mK9 ?aK9 ?bK9 ?cK9 ?dK9 ?_ ?eK9; (case NK9 => k_asm); (case mK9 => k_mem); (case aK9 => decide); (case bK9 => decide); (case cK9 => decide); (case dK9 => rfl); (case eK9 => with_unfolding_all rfl); k_whole)))
  trivial
example : True := by
  k_with "subscriptTail Name Constant ref int" => (k_here; (with_reducible show wpAny _ _ (subscriptTail _ _ (Value.ref _) (Value.int _ _)) _ _ _); k_dflt (first
      | (refine' tup_item ?NK9 ?mK9 ?aK9 ?bK9 ?cK9 ?dK9 ?_ ?eK9; (case NK9 => k_asm); (case mK9 => k_mem); (case aK9 => decide); (case bK9 => decide); (case cK9 => rfl); (case dK9 => rfl); (case eK9 => with_unfolding_all rfl); k_whole)
      | (refine' lst_item ?NK9 ?mK9 ?aK9 ?bK9 ?cK9 ?_ ?eK9; (case NK9 => k_asm); (case mK9 => k_mem); (case aK9 => decide); (case bK9 => decide); (case cK9 => rfl); (case eK9 => with_unfolding_all rfl); k_whole)
      | (refine' lst_itemN ?NK9 ?mK9 ?aK9 ?bK9 ?cK9 ?dK9 ?_ ?eK9; (case NK9 => k_asm); (case mK9 => k_mem); (case aK9 => decide); (case bK9 => decide); (case cK9 => decide); (case dK9 => rfl); (case eK9 => with_unfolding_all rfl); k_whole)))
  k_with "binaryOp Mod int int" => (k_here; first | (with_reducible refine mod_eq (by with_reducible assumption) (by first | decide | assumption | omega) ?_) | (with_reducible refine mod_eqH (by with_reducible assumption) (by first | decide | assumption | omega) ?_))
  k_with "binaryOp FloorDiv int int" => (k_here; (with_reducible refine fdiv_eqH (by with_reducible assumption) (by first | decide | assumption | omega) (by omega) ?_))
  trivial
open PySem PySem.W PyProof.Rows PySem.Calls PySem.Spec
namespace Mine
theorem of_fn {P : List Stmt → Scope → Prop} {G : Prop} {K : Frag} {f : Addr} {name qual : Str} {params : Arguments} {body : List Stmt} {scope : Scope} {dV kV doc pm cdv ct oc : Value} {an od : Option Addr} {osl : Array (Option Value)}
    (h : K.lookup f = some ⟨oc, od, .func (fnOf name qual params body scope dV kV doc pm an cdv ct), osl⟩) (hp : P (fnBody K f) (fnScope K f)) (g : P body scope → G) : G := by
  refine g ?_
  unfold fnBody fnScope at hp; rw [h] at hp; exact hp
theorem law_all (w : World) (plain : ∀ f0 sd x1 z1 x2 z2 x3 z3 ww : Int, (0 ≤ f0 ∧ f0 < 4) → (1 ≤ sd ∧ (1 + f0) * sd ≤ 4) → (0 ≤ x1 ∧ x1 ≤ sd) → (0 ≤ z1 ∧ z1 ≤ sd) → (0 ≤ x2 ∧ x2 ≤ sd) → (0 ≤ z2 ∧ z2 ≤ sd) → (0 ≤ x3 ∧ x3 ≤ sd) → (0 ≤ z3 ∧ z3 ≤ sd) → Hold (areaF x1 z1 x2 z2 x3 z3 ≠ 0) → (9 ≤ ww ∧ ww ≤ 12) → Hold (Pl (1 + f0) (areaF x1 z1 x2 z2 x3 z3) (rimF x1 z1 x2 z2 x3 z3) ww ((1 + f0) * x1) ((1 + f0) * z1) ((1 + f0) * x2) ((1 + f0) * z2) ((1 + f0) * x3) ((1 + f0) * z3))) : ∀ (l : Addr) (y0 y1 y2 y3 : Int) (t0 t1 t2 t3 : Tok) (ep : Nat) (o1 o2 o3 o4 : Obj), LawA w l y0 y1 y2 y3 t0 t1 t2 t3 ep o1 o2 o3 o4 (fnBody (Mine.hd.heap_39 w.params) 175) (fnScope (Mine.hd.heap_39 w.params) 175) :=
  fun l y0 y1 y2 y3 t0 t1 t2 t3 ep o1 o2 o3 o4 =>  law_a w l y0 y1 y2 y3 t0 t1 t2 t3 ep o1 o2 o3 o4 (fun l P a1 a2 a3 n n1 n2 n3 y0 y1 y2 y3 t0 t1 t2 t3 ep f0 sd x1 z1 x2 z2 x3 z3 s1 v1 s2 v2 s3 v3 tf ts o1 o2 o3 o4  =>  law_b w l P a1 a2 a3 n n1 n2 n3 y0 y1 y2 y3 t0 t1 t2 t3 ep f0 sd x1 z1 x2 z2 x3 z3 s1 v1 s2 v2 s3 v3 tf ts o1 o2 o3 o4  (fun l P a1 a2 a3 n n1 n2 n3 y0 y1 y2 y3 t0 t1 t2 t3 ep f0 sd x1 z1 x2 z2 x3 z3 s1 v1 s2 v2 s3 v3 tf ts o1 o2 o3 o4  C c0 c1 c2 e ww tn te tw =>  law_c w l P a1 a2 a3 n n1 n2 n3 y0 y1 y2 y3 t0 t1 t2 t3 ep f0 sd x1 z1 x2 z2 x3 z3 s1 v1 s2 v2 s3 v3 tf ts o1 o2 o3 o4  C c0 c1 c2 e ww tn te tw (fun l P a1 a2 a3 n n1 n2 n3 y0 y1 y2 y3 t0 t1 t2 t3 ep f0 sd x1 z1 x2 z2 x3 z3 s1 v1 s2 v2 s3 v3 tf ts o1 o2 o3 o4  C c0 c1 c2 e ww tn te tw T0 T1 T2 nC j0 j1 j2 u0 w0 u1 w1 u2 w2 =>  law_d w l P a1 a2 a3 n n1 n2 n3 y0 y1 y2 y3 t0 t1 t2 t3 ep f0 sd x1 z1 x2 z2 x3 z3 s1 v1 s2 v2 s3 v3 tf ts o1 o2 o3 o4  C c0 c1 c2 e ww tn te tw T0 T1 T2 nC j0 j1 j2 u0 w0 u1 w1 u2 w2 (fun P a1 a2 a3 n n1 n2 n3 f0 sd x1 z1 x2 z2 x3 z3 s1 v1 s2 v2 s3 v3 tf o1 o3 o4 C T0 T1 T2 nC j0 j1 j2 u0 w0 u1 w1 u2 w2 ww tw  =>  law_e w P a1 a2 a3 n n1 n2 n3 f0 sd x1 z1 x2 z2 x3 z3 s1 v1 s2 v2 s3 v3 tf o1 o3 o4 C T0 T1 T2 nC j0 j1 j2 u0 w0 u1 w1 u2 w2 ww tw  plain (fun fo A R g1 e1 g2 e2 g3 e3 tf ta tr o1 o3 o4 C T0 T1 T2 nC j0 j1 j2 u0 w0 u1 w1 u2 w2 ww tw ps1 c1 b1 ps2 c2 b2  =>  law_g w fo A R g1 e1 g2 e2 g3 e3 tf ta tr o1 o3 o4 C T0 T1 T2 nC j0 j1 j2 u0 w0 u1 w1 u2 w2 ww tw ps1 c1 b1 ps2 c2 b2  (fun k0 k1 k2 k3 k4 r0 r1 r2 r3 r4 Hh Ww eh ew fo A R g1 e1 g2 e2 g3 e3 tf ta tr o1 o3 o4 C T0 T1 T2 nC j0 j1 j2 u0 w0 u1 w1 u2 w2 ww ps1 ps2  =>  law_h w k0 k1 k2 k3 k4 r0 r1 r2 r3 r4 Hh Ww eh ew fo A R g1 e1 g2 e2 g3 e3 tf ta tr o1 o3 o4 C T0 T1 T2 nC j0 j1 j2 u0 w0 u1 w1 u2 w2 ww ps1 ps2  (fun k0 k1 k2 k3 k4 r0 r1 r2 r3 r4 Hh Ww eh ew fo A R g1 e1 g2 e2 g3 e3 tf ta tr o1 o3 o4 C T0 T1 T2 nC j0 j1 j2 u0 w0 u1 w1 u2 w2 ww ps1 ps2  =>  law_i w k0 k1 k2 k3 k4 r0 r1 r2 r3 r4 Hh Ww eh ew fo A R g1 e1 g2 e2 g3 e3 tf ta tr o1 o3 o4 C T0 T1 T2 nC j0 j1 j2 u0 w0 u1 w1 u2 w2 ww ps1 ps2 )))))))


end Mine
end
section
example : True := by (w_top off; trivial)
example : True := by (k_with_none; trivial)
example : True := by
  k_with "call builtin:min" => (k_here; (with_reducible show wpAny _ _ (call (Value.builtin _) [Value.int _ _, Value.int _ _, Value.int _ _]) _ _ _); k_dflt (refine' min3_N ?k0K9 ?k1K9 ?k2K9 ?_; (case k0K9 => rfl); (case k1K9 => k_asm); (case k2K9 => k_asm)); intro h' tk tok F' N'; revert h' tk tok F' N'; intro _ _ _ _ _)
  k_with "call builtin:max" => (k_here; (with_reducible show wpAny _ _ (call (Value.builtin _) [Value.int _ _, Value.int _ _, Value.int _ _]) _ _ _); k_dflt (refine' max3_N ?k0K9 ?k1K9 ?k2K9 ?_; (case k0K9 => rfl); (case k1K9 => k_asm); (case k2K9 => k_asm)); intro h' tk tok F' N'; revert h' tk tok F' N'; intro _ _ _ _ _)
  k_with "binaryOp Div int int" => (k_here; refine div_small (by omega) (by omega) ?_)
  k_with "subscriptTail" => (k_here; (with_reducible show wpAny _ _ (subscriptTail _ _ (Value.ref _) (Value.int _ _)) _ _ _); k_dflt (first
      | (refine' tup_item ?NK9 ?mK9 ?aK9 ?bK9 ?cK9 ?dK9 ?_ ?eK9; (case NK9 => k_asm); (case mK9 => k_mem); (case aK9 => decide); (case bK9 => decide); (case cK9 => rfl); (case dK9 => rfl); (case eK9 => with_unfolding_all rfl); k_whole)
      | (refine' lst_item ?NK9 ?mK9 ?aK9 ?bK9 ?cK9 ?_ ?eK9; (case NK9 => k_asm); (case mK9 => k_mem); (case aK9 => decide); (case bK9 => decide); (case cK9 => rfl); (case eK9 => with_unfolding_all rfl); k_whole)
      | (refine' lst_itemN ?NK9 ?mK9 ?aK9 ?bK9 ?cK9 ?dK9 ?_ ?eK9; (case NK9 => k_asm); (case mK9 => k_mem); (case aK9 => decide); (case bK9 => decide); (case cK9 => decide); (case dK9 => rfl); (case eK9 => with_unfolding_all rfl); k_whole)))
  trivial
example : True := by
  k_with "subscriptTail Name Constant ref int" => (k_here; (with_reducible show wpAny _ _ (subscriptTail _ _ (Value.ref _) (Value.int _ _)) _ _ _); k_dflt (first
      | (refine' tup_item ?NK9 ?mK9 ?aK9 ?bK9 ?cK9 ?dK9 ?_ ?eK9; (case NK9 => k_asm); (case mK9 => k_mem); (case aK9 => decide); (case bK9 => decide); (case cK9 => rfl); (case dK9 => rfl); (case eK9 => with_unfolding_all rfl); k_whole)
      | (refine' lst_item ?NK9 ?mK9 ?aK9 ?bK9 ?cK9 ?_ ?eK9; (case NK9 => k_asm); (case mK9 => k_mem); (case aK9 => decide); (case bK9 => decide); (case cK9 => rfl); (case eK9 => with_unfolding_all rfl); k_whole)
      | (refine' lst_itemN ?NK9 ?mK9 ?aK9 ?bK9 ?cK9 ?dK9 ?_ ?eK9; (case NK9 => k_asm); (case mK9 => k_mem); (case aK9 => decide); (case bK9 => decide); (case cK9 => decide); (case dK9 => rfl); (case eK9 => with_unfolding_all rfl); k_whole)))
  k_with "binaryOp Mod int int" => (k_here; first | (with_reducible refine mod_eq (by with_reducible assumption) (by first | decide | assumption | omega) ?_) | (with_reducible refine mod_eqH (by with_reducible assumption) (by first | decide | assumption | omega) ?_))
  k_with "binaryOp FloorDiv int int" => (k_here; (with_reducible refine fdiv_eqH (by with_reducible assumption) (by first | decide | assumption | omega) (by omega) ?_))
  trivial
open PySem PySem.W PyProof.Rows PySem.Calls PySem.Spec
namespace Mine
local macro_rules | `(tactic| walk_at "exec For Tuple Call cons nil") => `(tactic| (k_here; (rename Fr _ _ _ _ => lF'); (with_unfolding_all refine' For_turns lF' ?_; k_whole)))
example : True := by
  k_with "call type:enumerate" => (refine Stop.mk ?_)
  k_with "UnrEndW" => (refine Stop.mk ?_)
  k_with "execs cons" => (k_here; (with_reducible show wpAny _ _ (execs (Stmt.Assign _ (Expr.BinOp (Expr.Constant _ _ _) _ _ _) _ :: _) _) _ _ _); refine Stop.mk ?_)
  trivial
theorem t (plain : ∀ f0 sd x1 z1 x2 z2 x3 z3 ww : Int, (0 ≤ f0 ∧ f0 < 4) → (1 ≤ sd ∧ (1 + f0) * sd ≤ 4) → (0 ≤ x1 ∧ x1 ≤ sd) → (0 ≤ z1 ∧ z1 ≤ sd) → (0 ≤ x2 ∧ x2 ≤ sd) → (0 ≤ z2 ∧ z2 ≤ sd) → (0 ≤ x3 ∧ x3 ≤ sd) → (0 ≤ z3 ∧ z3 ≤ sd) → Hold (areaF x1 z1 x2 z2 x3 z3 ≠ 0) → (9 ≤ ww ∧ ww ≤ 12) → Hold (Pl (1 + f0) (areaF x1 z1 x2 z2 x3 z3) (rimF x1 z1 x2 z2 x3 z3) ww ((1 + f0) * x1) ((1 + f0) * z1) ((1 + f0) * x2) ((1 + f0) * z2) ((1 + f0) * x3) ((1 + f0) * z3))): PySem.Challenge.rw_sn0025_01.Holds := Mine.hd (by
 w_strict (
  k_go0
  (all_goals try k_fold)
  k_steps
  unfold Stop
  rename_i D ws hA FA NA hI hC hLe l1
  refine heaps_loop (Str.ofString "x") (Str.ofString "place") rfl FA NA rfl rfl hI ?_ ?_
  · clear FA NA hI hC hLe
    intro y0 y1 y2 y3 t0 t1 t2 t3 ep ox oy h' tk' F' N'
    k_steps
    unfold Stop
    rename Fr _ _ _ _ => F9
    rename News _ _ _ _ => N9
    rename World => w9
    refine' of_fn (P := fun b sc => ∀ (l : Addr) (y0 y1 y2 y3 : Int) (t0 t1 t2 t3 : Tok) (ep : Nat) (o1 o2 o3 o4 : Obj), LawA w9 l y0 y1 y2 y3 t0 t1 t2 t3 ep o1 o2 o3 o4 b sc) ?hK (law_all w9 plain) ?_
    case hK => k_is
    intro H
    refine' H _ y0 y1 y2 y3 t0 t1 t2 t3 _ _ _ _ _ _ _ _ _ _ _ _ _ _ _ _ _ _ _ _ _ _ _ ?bB ?bX ?bT ?bd ?bu ?bP ?c1 ?c2 ?c3 ?c4 ?lt1 ?lt2 F9 ?N ?ret
    case N => repeat (first | exact news_nil | refine news_cons (N9 _ (by k_mem)) ?_)
    case bB => k_asm
    case bX => k_asm
    case bT => k_asm
    case bd => ktr_room
    case bu => ktr_units
    case bP => passes_own
    case c1 => refine Eq.trans (by assumption) ?_; first | rfl | with_unfolding_all rfl
    case c2 => refine Eq.trans (by assumption) ?_; first | rfl | with_unfolding_all rfl
    case c3 => refine Eq.trans (by assumption) ?_; first | rfl | with_unfolding_all rfl
    case c4 => refine Eq.trans (by assumption) ?_; first | rfl | with_unfolding_all rfl
    case lt1 =>
      intro p hp
      simp only [List.mem_cons, List.not_mem_nil, or_false] at hp
      rcases hp with h | h | h | h | h | h <;> (rw [h]; refine (show @LT.lt Nat instLTNat _ _ from ?_); dsimp only; omega)
    case lt2 =>
      intro p hp
      simp only [List.mem_cons, List.not_mem_nil, or_false] at hp
      rcases hp with h | h <;> (rw [h]; refine (show @LT.lt Nat instLTNat _ _ from ?_); dsimp only; omega)
    case ret =>
      intro h9 tk9 m9 F99 G1 G2
      refine ⟨?_, G1, G2, trivial⟩
      clear plain H F9 N9 F' N'
      dsimp only
      k_end
      kc_close
  · intro I i a ta y0 y1 y2 y3 t0 t1 t2 t3 ep ox oy T t h' tk' o1 o2 hI2 hT' F' c1 c2 N'
    clear FA NA
    k_lt hI2
    have hm : (i : Int).fmod 4 = 0 ∨ (i : Int).fmod 4 = 1 ∨ (i : Int).fmod 4 = 2 ∨ (i : Int).fmod 4 = 3 := by
      rw [Int.fmod_eq_emod_of_nonneg _ (by decide)]; omega
    rcases hm with hm | hm | hm | hm
    all_goals
      k_steps
      unfold Stop
      ktu_end
      refine ⟨_, _, _, _, _, _, _, _, _, some (.int a ta), some (.int (i : Int) t), fun z => ?_, rfl⟩
      (try dsimp only)
      by_cases q0 : z = Str.ofString "x"
      · simp only [q0, if_true]
      · by_cases q1 : z = Str.ofString "place"
        · simp only [q0, q1, if_true, if_false]
        · simp only [q0, q1, if_false]
  ))

end Mine
end
end
end
end
section
example : True := by (w_top off; trivial)
example : True := by (k_with_none; trivial)
example : True := by
  k_with "call builtin:min" => (k_here; (with_reducible show wpAny _ _ (call (Value.builtin _) [Value.int _ _, Value.int _ _, Value.int _ _]) _ _ _); k_dflt (refine' min3_N ?k0K9 ?k1K9 ?k2K9 ?_; (case k0K9 => rfl); (case k1K9 => k_asm); (case k2K9 => k_asm)); intro h' tk tok F' N'; revert h' tk tok F' N'; intro _ _ _ _ _)
  k_with "call builtin:max" => (k_here; (with_reducible show wpAny _ _ (call (Value.builtin _) [Value.int _ _, Value.int _ _, Value.int _ _]) _ _ _); k_dflt (refine' max3_N ?k0K9 ?k1K9 ?k2K9 ?_; (case k0K9 => rfl); (case k1K9 => k_asm); (case k2K9 => k_asm)); intro h' tk tok F' N'; revert h' tk tok F' N'; intro _ _ _ _ _)
  k_with "binaryOp Div int int" => (k_here; refine div_small (by omega) (by omega) ?_)
  k_with "subscriptTail" => (k_here; (with_reducible show wpAny _ _ (subscriptTail _ _ (Value.ref _) (Value.int _ _)) _ _ _); k_dflt (first
      | (refine' tup_item ?NK9 ?mK9 ?aK9 ?bK9 ?cK9 ?dK9 ?_ ?eK9; (case NK9 => k_asm); (case mK9 => k_mem); (case aK9 => decide); (case bK9 => decide); (case cK9 => rfl); (case dK9 => rfl); (case eK9 => with_unfolding_all rfl); k_whole)
      | (refine' lst_item ?NK9 ?mK9 ?aK9 ?bK9 ?cK9 ?_ ?eK9; (case NK9 => k_asm); (case mK9 => k_mem); (case aK9 => decide); (case bK9 => decide); (case cK9 => rfl); (case eK9 => with_unfolding_all rfl); k_whole)
      | (refine' lst_itemN ?NK9 ?mK9 ?aK9 ?bK9 ?cK9 ?dK9 ?_ ?eK9; (case NK9 => k_asm); (case mK9 => k_mem); (case aK9 => decide); (case bK9 => decide); (case cK9 => decide); (case dK9 => rfl); (case eK9 => with_unfolding_all rfl); k_whole)))
  trivial
open PySem PySem.W PyProof.Rows PySem.Calls PySem.Spec
namespace Mine
noncomputable def tbl : Nat := 9897249963130264197142447385281615105002708936533919858182480439666528263344072902897166800890968409540766971795535755518651869754072509161686949402129575271758579617850640331356349026368033221009563569163291650793627265967390421075999465984833690717254821201476692106465920550665956100200587490452993358589869018400
noncomputable def hN (i j : Nat) : Nat := Nat.mod (Nat.shiftRight tbl (Nat.mul 13 (Nat.add (Nat.mul 9 i) j))) 8192
theorem hue_tab0 : ∀ i : Fin 9, ∀ j : Fin 9, hue ((i.val : Int) - 4) ((j.val : Int) - 4) = (hN i.val j.val : Int) ∧ hN i.val j.val < 5040 := by decide +kernel
theorem hue_tab {a p b q : Nat} (ha : a ≤ 4) (hp : p ≤ 4) (hb : b ≤ 4) (hq : q ≤ 4) : hue ((a : Int) - (p : Int)) ((b : Int) - (q : Int)) = (hN (a + 4 - p) (b + 4 - q) : Int) ∧ hN (a + 4 - p) (b + 4 - q) < 5040 := by
  have := hue_tab0 ⟨a + 4 - p, by omega⟩ ⟨b + 4 - q, by omega⟩
  simp only at this
  rw [show (((a + 4 - p : Nat) : Int) - 4) = (a : Int) - (p : Int) by omega, show (((b + 4 - q : Nat) : Int) - 4) = (b : Int) - (q : Int) by omega] at this
  exact this
noncomputable def stN (h g : Nat) : Nat := Nat.mod (Nat.sub (Nat.add h 5040) g) 5040
noncomputable def sgN (s : Nat) : Nat := cond (Nat.blt s 2520) (Nat.add s 5040) s
noncomputable def rimc (s1 s2 s3 : Nat) : Nat := cond (Nat.beq s1 2520) 100 (cond (Nat.beq s2 2520) 100 (cond (Nat.beq s3 2520) 100 (cond (Nat.beq (Nat.add (Nat.add (sgN s1) (sgN s2)) (sgN s3)) 15120) 0 1)))
noncomputable def whN (h1 h2 h3 : Nat) : Nat := rimc (stN h1 h3) (stN h2 h1) (stN h3 h2)
noncomputable def wN (p q a b c d e f : Nat) : Nat :=
  cond (and (Nat.beq a p) (Nat.beq b q)) 100 (cond (and (Nat.beq c p) (Nat.beq d q)) 100 (cond (and (Nat.beq e p) (Nat.beq f q)) 100
    (whN (hN (Nat.sub (Nat.add a 4) p) (Nat.sub (Nat.add b 4) q)) (hN (Nat.sub (Nat.add c 4) p) (Nat.sub (Nat.add d 4) q)) (hN (Nat.sub (Nat.add e 4) p) (Nat.sub (Nat.add f 4) q)))))
noncomputable def encS (s : Str) : Nat := if s = Str.ofString "within" then 1 else if s = Str.ofString "rim" then 100 else 0
theorem st_eq {h g : Nat} (hh : h < 5040) (hg : g < 5040) : ((h : Int) - (g : Int)).fmod 5040 = (stN h g : Int) := by
  rw [Int.fmod_eq_emod_of_nonneg _ (by decide)]
  show _ = (((h + 5040 - g) % 5040 : Nat) : Int)
  omega
theorem sg_eq (s : Nat) : sgn (s : Int) + 5040 = (sgN s : Int) := by
  unfold sgn sgN
  by_cases h : s < 2520
  · rw [if_pos (by omega), show Nat.blt s 2520 = true from (Nat.blt_eq).mpr h]; show _ = ((s + 5040 : Nat) : Int); omega
  · rw [if_neg (by omega), show Nat.blt s 2520 = false from by rw [← Bool.not_eq_true, Nat.blt_eq]; exact h]; show _ = (s : Int); omega
theorem cond_beq {α : Type} (n k : Nat) (x y : α) : cond (Nat.beq n k) x y = if n = k then x else y := by
  by_cases h : n = k
  · rw [if_pos h, show Nat.beq n k = true from Nat.beq_eq.mpr h]; rfl
  · rw [if_neg h, show Nat.beq n k = false from by rw [← Bool.not_eq_true, Nat.beq_eq]; exact h]; rfl
theorem cond_and {α : Type} (n k m l : Nat) (x y : α) : cond (and (Nat.beq n k) (Nat.beq m l)) x y = if n = k ∧ m = l then x else y := by
  by_cases h : n = k ∧ m = l
  · rw [if_pos h, show Nat.beq n k = true from Nat.beq_eq.mpr h.1, show Nat.beq m l = true from Nat.beq_eq.mpr h.2]; rfl
  · rw [if_neg h]
    by_cases h1 : n = k
    · rw [show Nat.beq m l = false from by rw [← Bool.not_eq_true, Nat.beq_eq]; exact fun h2 => h ⟨h1, h2⟩, Bool.and_false]; rfl
    · rw [show Nat.beq n k = false from by rw [← Bool.not_eq_true, Nat.beq_eq]; exact h1, Bool.false_and]; rfl
theorem enc_w : encS (Str.ofString "within") = 1 := by decide
theorem enc_r : encS (Str.ofString "rim") = 100 := by decide
theorem enc_o : encS (Str.ofString "outside") = 0 := by decide
theorem where_N {p q a b c d e f : Nat} (hp : p ≤ 4) (hq : q ≤ 4) (ha : a ≤ 4) (hb : b ≤ 4) (hc : c ≤ 4) (hd : d ≤ 4) (he : e ≤ 4) (hf : f ≤ 4) : encS (whereF p q a b c d e f) = wN p q a b c d e f := by
  obtain ⟨e1, l1⟩ := hue_tab ha hp hb hq
  obtain ⟨e2, l2⟩ := hue_tab hc hp hd hq
  obtain ⟨e3, l3⟩ := hue_tab he hp hf hq
  unfold whereF wN whN rimc
  rw [e1, e2, e3, st_eq l1 l3, st_eq l2 l1, st_eq l3 l2]
  simp only [cond_and, cond_beq]
  show encS _ = (if a = p ∧ b = q then 100 else if c = p ∧ d = q then 100 else if e = p ∧ f = q then 100 else
    if stN (hN (a + 4 - p) (b + 4 - q)) (hN (e + 4 - p) (f + 4 - q)) = 2520 then 100 else if stN (hN (c + 4 - p) (d + 4 - q)) (hN (a + 4 - p) (b + 4 - q)) = 2520 then 100 else if stN (hN (e + 4 - p) (f + 4 - q)) (hN (c + 4 - p) (d + 4 - q)) = 2520 then 100 else
    if sgN (stN (hN (a + 4 - p) (b + 4 - q)) (hN (e + 4 - p) (f + 4 - q))) + sgN (stN (hN (c + 4 - p) (d + 4 - q)) (hN (a + 4 - p) (b + 4 - q))) + sgN (stN (hN (e + 4 - p) (f + 4 - q)) (hN (c + 4 - p) (d + 4 - q))) = 15120 then 0 else 1)
  generalize stN (hN (a + 4 - p) (b + 4 - q)) (hN (e + 4 - p) (f + 4 - q)) = s1
  generalize stN (hN (c + 4 - p) (d + 4 - q)) (hN (a + 4 - p) (b + 4 - q)) = s2
  generalize stN (hN (e + 4 - p) (f + 4 - q)) (hN (c + 4 - p) (d + 4 - q)) = s3
  have g1 := sg_eq s1
  have g2 := sg_eq s2
  have g3 := sg_eq s3
  by_cases c1 : a = p ∧ b = q
  · rw [if_pos c1, if_pos (by omega)]; exact enc_r
  · rw [if_neg c1, if_neg (by omega)]
    by_cases c2 : c = p ∧ d = q
    · rw [if_pos c2, if_pos (by omega)]; exact enc_r
    · rw [if_neg c2, if_neg (by omega)]
      by_cases c3 : e = p ∧ f = q
      · rw [if_pos c3, if_pos (by omega)]; exact enc_r
      · rw [if_neg c3, if_neg (by omega)]
        by_cases k1 : s1 = 2520
        · rw [if_pos k1, if_pos (by omega)]; exact enc_r
        · rw [if_neg k1, if_neg (by omega)]
          by_cases k2 : s2 = 2520
          · rw [if_pos k2, if_pos (by omega)]; exact enc_r
          · rw [if_neg k2, if_neg (by omega)]
            by_cases k3 : s3 = 2520
            · rw [if_pos k3, if_pos (by omega)]; exact enc_r
            · rw [if_neg k3, if_neg (by omega)]
              by_cases k4 : sgN s1 + sgN s2 + sgN s3 = 15120
              · rw [if_pos k4, if_pos (by omega)]; exact enc_o
              · rw [if_neg k4, if_neg (by omega)]; exact enc_w

noncomputable def allB (f : Nat → Bool) (n : Nat) : Bool := Nat.rec true (fun j acc => cond (f j) acc false) n
theorem allB_of {f : Nat → Bool} : ∀ {n : Nat}, allB f n = true → ∀ i, i < n → f i = true
  | 0, _, i, h => absurd h (Nat.not_lt_zero i)
  | n + 1, h, i, hi => by
    have h' : cond (f n) (allB f n) false = true := h
    cases hf : f n with
    | true =>
      rw [hf] at h'
      rcases Nat.lt_or_ge i n with h1 | h1
      · exact allB_of h' i h1
      · obtain rfl : i = n := by omega
        exact hf
    | false => rw [hf] at h'; exact Bool.noConfusion h'
noncomputable def rowN (p my a b c d e f k : Nat) : Nat := Nat.rec 0 (fun j acc => Nat.add acc (wN p (Nat.add my j) a b c d e f)) k
noncomputable def totN (mx my kx ky a b c d e f : Nat) : Nat := Nat.rec 0 (fun i acc => Nat.add acc (rowN (Nat.add mx i) my a b c d e f ky)) kx
noncomputable def mnN (a b c : Nat) : Nat := cond (Nat.blt b a) (cond (Nat.blt c b) c b) (cond (Nat.blt c a) c a)
noncomputable def mxN (a b c : Nat) : Nat := cond (Nat.blt a b) (cond (Nat.blt b c) c b) (cond (Nat.blt a c) c a)
noncomputable def AN (a b c d e f : Nat) : Nat := Nat.add (Nat.sub (Nat.add (Nat.add (Nat.mul c f) (Nat.mul e b)) (Nat.mul a d)) (Nat.add (Nat.add (Nat.mul c b) (Nat.mul a f)) (Nat.mul e d))) (Nat.sub (Nat.add (Nat.add (Nat.mul c b) (Nat.mul a f)) (Nat.mul e d)) (Nat.add (Nat.add (Nat.mul c f) (Nat.mul e b)) (Nat.mul a d)))
noncomputable def dsN (a b : Nat) : Nat := Nat.add (Nat.sub a b) (Nat.sub b a)
noncomputable def RN (a b c d e f : Nat) : Nat := Nat.add (Nat.add (Nat.gcd (dsN a e) (dsN b f)) (Nat.gcd (dsN c a) (dsN d b))) (Nat.gcd (dsN e c) (dsN f d))
noncomputable def okN (a b c d e f : Nat) : Bool :=
  cond (Nat.beq (AN a b c d e f) 0) true (and (Nat.beq (Nat.add (Nat.mul 2 (totN (mnN a c e) (mnN b d f) (Nat.sub (Nat.add (mxN a c e) 1) (mnN a c e)) (Nat.sub (Nat.add (mxN b d f) 1) (mnN b d f)) a b c d e f)) (RN a b c d e f)) (Nat.add (Nat.add (AN a b c d e f) 2) (Nat.mul 200 (RN a b c d e f))))
    (and (Nat.ble (AN a b c d e f) 16) (and (Nat.ble 3 (RN a b c d e f)) (Nat.ble (RN a b c d e f) 12))))
noncomputable def chk (a b : Nat) : Bool := allB (fun c => allB (fun d => allB (fun e => allB (fun f => okN a b c d e f) 5) 5) 5) 5

theorem chk_00 : chk 0 0 = true := by decide +kernel
theorem chk_01 : chk 0 1 = true := by decide +kernel
theorem chk_02 : chk 0 2 = true := by decide +kernel
theorem chk_03 : chk 0 3 = true := by decide +kernel
theorem chk_04 : chk 0 4 = true := by decide +kernel
theorem chk_10 : chk 1 0 = true := by decide +kernel
theorem chk_11 : chk 1 1 = true := by decide +kernel
theorem chk_12 : chk 1 2 = true := by decide +kernel
theorem chk_13 : chk 1 3 = true := by decide +kernel
theorem chk_14 : chk 1 4 = true := by decide +kernel
theorem chk_20 : chk 2 0 = true := by decide +kernel
theorem chk_21 : chk 2 1 = true := by decide +kernel
theorem chk_22 : chk 2 2 = true := by decide +kernel
theorem chk_23 : chk 2 3 = true := by decide +kernel
theorem chk_24 : chk 2 4 = true := by decide +kernel
theorem chk_30 : chk 3 0 = true := by decide +kernel
theorem chk_31 : chk 3 1 = true := by decide +kernel
theorem chk_32 : chk 3 2 = true := by decide +kernel
theorem chk_33 : chk 3 3 = true := by decide +kernel
theorem chk_34 : chk 3 4 = true := by decide +kernel
theorem chk_40 : chk 4 0 = true := by decide +kernel
theorem chk_41 : chk 4 1 = true := by decide +kernel
theorem chk_42 : chk 4 2 = true := by decide +kernel
theorem chk_43 : chk 4 3 = true := by decide +kernel
theorem chk_44 : chk 4 4 = true := by decide +kernel
theorem chk_all {a b : Nat} (ha : a ≤ 4) (hb : b ≤ 4) : chk a b = true := by
  rcases (by omega : a = 0 ∨ a = 1 ∨ a = 2 ∨ a = 3 ∨ a = 4) with rfl | rfl | rfl | rfl | rfl <;> rcases (by omega : b = 0 ∨ b = 1 ∨ b = 2 ∨ b = 3 ∨ b = 4) with rfl | rfl | rfl | rfl | rfl
  · exact chk_00
  · exact chk_01
  · exact chk_02
  · exact chk_03
  · exact chk_04
  · exact chk_10
  · exact chk_11
  · exact chk_12
  · exact chk_13
  · exact chk_14
  · exact chk_20
  · exact chk_21
  · exact chk_22
  · exact chk_23
  · exact chk_24
  · exact chk_30
  · exact chk_31
  · exact chk_32
  · exact chk_33
  · exact chk_34
  · exact chk_40
  · exact chk_41
  · exact chk_42
  · exact chk_43
  · exact chk_44
theorem ok_all {a b c d e f : Nat} (ha : a ≤ 4) (hb : b ≤ 4) (hc : c ≤ 4) (hd : d ≤ 4) (he : e ≤ 4) (hf : f ≤ 4) : okN a b c d e f = true :=
  allB_of (allB_of (allB_of (allB_of (chk_all ha hb) c (by omega)) d (by omega)) e (by omega)) f (by omega)
noncomputable def encL : List Str → Nat
  | [] => 0
  | s :: r => encS s + encL r
theorem encL_append : ∀ l m : List Str, encL (l ++ m) = encL l + encL m
  | [], m => by rw [List.nil_append, encL, Nat.zero_add]
  | s :: l, m => by rw [List.cons_append, encL, encL, encL_append l m, Nat.add_assoc]
theorem encL_count : ∀ l : List Str, encL l = l.count (Str.ofString "within") + 100 * l.count (Str.ofString "rim")
  | [] => rfl
  | s :: l => by
    rw [encL, encL_count l, List.count_cons, List.count_cons]
    by_cases h : s = Str.ofString "within"
    · subst h
      rw [enc_w, show (Str.ofString "within" == Str.ofString "within") = true from beq_self_eq_true _, show (Str.ofString "within" == Str.ofString "rim") = false from by decide]
      simp only [if_true, Bool.false_eq_true, if_false]; omega
    · by_cases h2 : s = Str.ofString "rim"
      · subst h2
        rw [enc_r, show (Str.ofString "rim" == Str.ofString "rim") = true from beq_self_eq_true _, show (Str.ofString "rim" == Str.ofString "within") = false from by decide]
        simp only [if_true, Bool.false_eq_true, if_false]; omega
      · have e1 : (s == Str.ofString "within") = false := beq_eq_false_iff_ne.mpr h
        have e2 : (s == Str.ofString "rim") = false := beq_eq_false_iff_ne.mpr h2
        have e3 : encS s = 0 := by unfold encS; rw [if_neg h, if_neg h2]
        rw [e1, e2, e3]
        simp only [Bool.false_eq_true, if_false]; omega
theorem row_N {p my a b c d e f : Nat} (hp : p ≤ 4) (ha : a ≤ 4) (hb : b ≤ 4) (hc : c ≤ 4) (hd : d ≤ 4) (he : e ≤ 4) (hf : f ≤ 4) (hm : min3 (b : Int) d f = (my : Int)) : ∀ k, my + k ≤ 5 → encL (rowF (p : Int) a b c d e f k) = rowN p my a b c d e f k
  | 0, _ => rfl
  | k + 1, hk => by
    rw [rowF_succ, encL_append, row_N hp ha hb hc hd he hf hm k (by omega), hm, show (my : Int) + (k : Int) = ((my + k : Nat) : Int) by omega]
    show _ + (encS _ + 0) = _
    rw [where_N hp (by omega) ha hb hc hd he hf, Nat.add_zero]
    rfl
theorem tot_N {mx my ky a b c d e f : Nat} (ha : a ≤ 4) (hb : b ≤ 4) (hc : c ≤ 4) (hd : d ≤ 4) (he : e ≤ 4) (hf : f ≤ 4) (hx : min3 (a : Int) c e = (mx : Int)) (hm : min3 (b : Int) d f = (my : Int)) (hky : (max3 (b : Int) d f + 1 - min3 (b : Int) d f).toNat = ky) (hk5 : my + ky ≤ 5) : ∀ k, mx + k ≤ 5 → encL (metY (a : Int) b c d e f k) = totN mx my k ky a b c d e f
  | 0, _ => rfl
  | k + 1, hk => by
    rw [metY_succ, encL_append, tot_N ha hb hc hd he hf hx hm hky hk5 k (by omega), hx, hky, show (mx : Int) + (k : Int) = ((mx + k : Nat) : Int) by omega, row_N (by omega) ha hb hc hd he hf hm ky hk5]
    rfl
theorem cond_blt {α : Type} (n k : Nat) (x y : α) : cond (Nat.blt n k) x y = if n < k then x else y := by
  by_cases h : n < k
  · rw [if_pos h, show Nat.blt n k = true from Nat.blt_eq.mpr h]; rfl
  · rw [if_neg h, show Nat.blt n k = false from by rw [← Bool.not_eq_true, Nat.blt_eq]; exact h]; rfl
theorem mn_N (a b c : Nat) : min3 (a : Int) b c = (mnN a b c : Int) ∧ mnN a b c ≤ a ∧ mnN a b c ≤ b ∧ mnN a b c ≤ c := by
  unfold min3 mnN
  simp only [cond_blt, show ∀ x y : Nat, ((x : Int) < (y : Int)) = (x < y) from fun x y => propext Int.ofNat_lt]
  by_cases h1 : b < a <;> by_cases h2 : c < b <;> by_cases h3 : c < a <;> simp only [h1, h2, h3, if_true, if_false, true_and, and_true, true_or, or_true, Nat.le_refl] <;> omega
theorem mx_N (a b c : Nat) : max3 (a : Int) b c = (mxN a b c : Int) ∧ a ≤ mxN a b c ∧ (mxN a b c = a ∨ mxN a b c = b ∨ mxN a b c = c) := by
  unfold max3 mxN
  simp only [cond_blt, gt_iff_lt, show ∀ x y : Nat, ((x : Int) < (y : Int)) = (x < y) from fun x y => propext Int.ofNat_lt]
  by_cases h1 : a < b <;> by_cases h2 : b < c <;> by_cases h3 : a < c <;> simp only [h1, h2, h3, if_true, if_false, true_and, and_true, true_or, or_true, Nat.le_refl] <;> omega
theorem area_N (a b c d e f : Nat) : areaF (a : Int) b c d e f = (AN a b c d e f : Int) := by
  have h : areaE (a : Int) b c d e f = ((c * f + e * b + a * d : Nat) : Int) - ((c * b + a * f + e * d : Nat) : Int) := by
    unfold areaE
    push_cast
    simp only [Int.sub_mul, Int.mul_sub, Int.mul_comm]
    omega
  unfold areaF
  rw [h]
  show _ = (((c * f + e * b + a * d) - (c * b + a * f + e * d) + ((c * b + a * f + e * d) - (c * f + e * b + a * d)) : Nat) : Int)
  generalize c * f + e * b + a * d = P
  generalize c * b + a * f + e * d = M
  split <;> omega
theorem gcd_N (a e b f : Nat) : Int.gcd ((a : Int) - e) ((b : Int) - f) = Nat.gcd (dsN a e) (dsN b f) := by
  have h : ∀ x y : Nat, ((x : Int) - y).natAbs = dsN x y := fun x y => by show _ = (x - y) + (y - x); omega
  show Nat.gcd _ _ = _
  rw [h, h]
theorem rim_N (a b c d e f : Nat) : rimF (a : Int) b c d e f = (RN a b c d e f : Int) := by
  unfold rimF
  rw [gcd_N, gcd_N, gcd_N, Int.zero_add]
  show _ = ((_ + _ + _ : Nat) : Int)
  push_cast
  rfl
theorem tri0 {a b c d e f : Nat} (ha : a ≤ 4) (hb : b ≤ 4) (hc : c ≤ 4) (hd : d ≤ 4) (he : e ≤ 4) (hf : f ≤ 4) (hA : areaF (a : Int) b c d e f ≠ 0) :
    (1 ≤ areaF (a : Int) b c d e f ∧ areaF (a : Int) b c d e f ≤ 16) ∧ (3 ≤ rimF (a : Int) b c d e f ∧ rimF (a : Int) b c d e f ≤ 12) ∧ 2 * (((metF (a : Int) b c d e f).count (Str.ofString "within") : Nat) : Int) = areaF (a : Int) b c d e f + 2 - rimF (a : Int) b c d e f ∧ (((metF (a : Int) b c d e f).count (Str.ofString "rim") : Nat) : Int) = rimF (a : Int) b c d e f := by
  have hok := ok_all ha hb hc hd he hf
  obtain ⟨m1, m1a, m1b, m1c⟩ := mn_N a c e
  obtain ⟨m2, m2a, m2b, m2c⟩ := mn_N b d f
  obtain ⟨x1, x1a, x1b⟩ := mx_N a c e
  obtain ⟨x2, x2a, x2b⟩ := mx_N b d f
  have hlen : (metF (a : Int) b c d e f).length ≤ 25 := by
    unfold metF
    rw [metY_len, x1, m1, x2, m2]
    exact Nat.le_trans (Nat.mul_le_mul (by omega : _ ≤ 5) (by omega : _ ≤ 5)) (by decide)
  have htot : encL (metF (a : Int) b c d e f) = totN (mnN a c e) (mnN b d f) (mxN a c e + 1 - mnN a c e) (mxN b d f + 1 - mnN b d f) a b c d e f := by
    unfold metF
    rw [show (max3 (a : Int) c e + 1 - min3 (a : Int) c e).toNat = mxN a c e + 1 - mnN a c e by rw [x1, m1]; omega]
    exact tot_N ha hb hc hd he hf m1 m2 (by rw [x2, m2]; omega) (by omega) _ (by omega)
  rw [encL_count] at htot
  have c1 := List.count_le_length (a := Str.ofString "within") (l := metF (a : Int) b c d e f)
  have c2 := List.count_le_length (a := Str.ofString "rim") (l := metF (a : Int) b c d e f)
  rw [area_N] at hA ⊢
  rw [rim_N]
  unfold okN at hok
  rw [cond_beq, if_neg (by omega)] at hok
  simp only [Bool.and_eq_true, Nat.beq_eq, Nat.ble_eq] at hok
  obtain ⟨h1, h2, h3, h4⟩ := hok
  change 2 * totN (mnN a c e) (mnN b d f) (mxN a c e + 1 - mnN a c e) (mxN b d f + 1 - mnN b d f) a b c d e f + RN a b c d e f = AN a b c d e f + 2 + 200 * RN a b c d e f at h1
  rw [← htot] at h1
  generalize List.count (Str.ofString "within") (metF (a : Int) b c d e f) = cw at *
  generalize List.count (Str.ofString "rim") (metF (a : Int) b c d e f) = cr at *
  generalize AN a b c d e f = A at *
  generalize RN a b c d e f = R at *
  omega
theorem tri {r1 u1 r2 u2 r3 u3 : Int} (hr1 : 0 ≤ r1 ∧ r1 ≤ 4) (hu1 : 0 ≤ u1 ∧ u1 ≤ 4) (hr2 : 0 ≤ r2 ∧ r2 ≤ 4) (hu2 : 0 ≤ u2 ∧ u2 ≤ 4) (hr3 : 0 ≤ r3 ∧ r3 ≤ 4) (hu3 : 0 ≤ u3 ∧ u3 ≤ 4) (hA : areaF r1 u1 r2 u2 r3 u3 ≠ 0) :
    (1 ≤ areaF r1 u1 r2 u2 r3 u3 ∧ areaF r1 u1 r2 u2 r3 u3 ≤ 16) ∧ (3 ≤ rimF r1 u1 r2 u2 r3 u3 ∧ rimF r1 u1 r2 u2 r3 u3 ≤ 12) ∧ 2 * (((metF r1 u1 r2 u2 r3 u3).count (Str.ofString "within") : Nat) : Int) = areaF r1 u1 r2 u2 r3 u3 + 2 - rimF r1 u1 r2 u2 r3 u3 ∧ (((metF r1 u1 r2 u2 r3 u3).count (Str.ofString "rim") : Nat) : Int) = rimF r1 u1 r2 u2 r3 u3 := by
  obtain ⟨a, rfl⟩ := Int.eq_ofNat_of_zero_le hr1.1
  obtain ⟨b, rfl⟩ := Int.eq_ofNat_of_zero_le hu1.1
  obtain ⟨c, rfl⟩ := Int.eq_ofNat_of_zero_le hr2.1
  obtain ⟨d, rfl⟩ := Int.eq_ofNat_of_zero_le hu2.1
  obtain ⟨e, rfl⟩ := Int.eq_ofNat_of_zero_le hr3.1
  obtain ⟨f, rfl⟩ := Int.eq_ofNat_of_zero_le hu3.1
  exact tri0 (by omega) (by omega) (by omega) (by omega) (by omega) (by omega) hA


end Mine
end
section
example : True := by (w_top off; trivial)
example : True := by (k_with_none; trivial)
example : True := by
  k_with "call builtin:min" => (k_here; (with_reducible show wpAny _ _ (call (Value.builtin _) [Value.int _ _, Value.int _ _, Value.int _ _]) _ _ _); k_dflt (refine' min3_N ?k0K9 ?k1K9 ?k2K9 ?_; (case k0K9 => rfl); (case k1K9 => k_asm); (case k2K9 => k_asm)); intro h' tk tok F' N'; revert h' tk tok F' N'; intro _ _ _ _ _)
  k_with "call builtin:max" => (k_here; (with_reducible show wpAny _ _ (call (Value.builtin _) [Value.int _ _, Value.int _ _, Value.int _ _]) _ _ _); k_dflt (refine' max3_N ?k0K9 ?k1K9 ?k2K9 ?_; (case k0K9 => rfl); (case k1K9 => k_asm); (case k2K9 => k_asm)); intro h' tk tok F' N'; revert h' tk tok F' N'; intro _ _ _ _ _)
  k_with "binaryOp Div int int" => (k_here; refine div_small (by omega) (by omega) ?_)
  k_with "subscriptTail" => (k_here; (with_reducible show wpAny _ _ (subscriptTail _ _ (Value.ref _) (Value.int _ _)) _ _ _); k_dflt (first
      | (refine' tup_item ?NK9 ?mK9 ?aK9 ?bK9 ?cK9 ?dK9 ?_ ?eK9; (case NK9 => k_asm); (case mK9 => k_mem); (case aK9 => decide); (case bK9 => decide); (case cK9 => rfl); (case dK9 => rfl); (case eK9 => with_unfolding_all rfl); k_whole)
      | (refine' lst_item ?NK9 ?mK9 ?aK9 ?bK9 ?cK9 ?_ ?eK9; (case NK9 => k_asm); (case mK9 => k_mem); (case aK9 => decide); (case bK9 => decide); (case cK9 => rfl); (case eK9 => with_unfolding_all rfl); k_whole)
      | (refine' lst_itemN ?NK9 ?mK9 ?aK9 ?bK9 ?cK9 ?dK9 ?_ ?eK9; (case NK9 => k_asm); (case mK9 => k_mem); (case aK9 => decide); (case bK9 => decide); (case cK9 => decide); (case dK9 => rfl); (case eK9 => with_unfolding_all rfl); k_whole)))
  trivial
open PySem PySem.W PyProof.Rows PySem.Calls PySem.Spec
namespace Mine
noncomputable abbrev tOk (z : Nat) (A R : Int) : Prop :=
  cntD (quoF [0, 0, 0, 0, 0, (A - R).fdiv 2 + 1, (A + R).fdiv 2 - 2, 1] z) z ≤ 5 ∧
  cntD (quoF [0, 0, 0, 0, 1, (A + R).fdiv 2 - 2, (A - R).fdiv 2 + 1] z) z ≤ 5 ∧
  toldF [0, 0, 0, 0, 0, (A - R).fdiv 2 + 1, (A + R).fdiv 2 - 2, 1] z = [tot A R 0, tot A R 1, tot A R 2, tot A R 3, tot A R 4] ∧
  toldF [0, 0, 0, 0, 1, (A + R).fdiv 2 - 2, (A - R).fdiv 2 + 1] z = [0, totw A R 1, totw A R 2, totw A R 3, totw A R 4]

theorem told_9 : ∀ A : Fin 17, ∀ R : Fin 13, ((1 ≤ A.val ∧ 3 ≤ R.val) ∧ R.val ≤ A.val + 2 ∧ (A.val + R.val) % 2 = 0) → tOk 9 (A.val : Int) (R.val : Int) := by decide +kernel
theorem told_10 : ∀ A : Fin 17, ∀ R : Fin 13, ((1 ≤ A.val ∧ 3 ≤ R.val) ∧ R.val ≤ A.val + 2 ∧ (A.val + R.val) % 2 = 0) → tOk 10 (A.val : Int) (R.val : Int) := by decide +kernel
theorem told_11 : ∀ A : Fin 17, ∀ R : Fin 13, ((1 ≤ A.val ∧ 3 ≤ R.val) ∧ R.val ≤ A.val + 2 ∧ (A.val + R.val) % 2 = 0) → tOk 11 (A.val : Int) (R.val : Int) := by decide +kernel
theorem told_12 : ∀ A : Fin 17, ∀ R : Fin 13, ((1 ≤ A.val ∧ 3 ≤ R.val) ∧ R.val ≤ A.val + 2 ∧ (A.val + R.val) % 2 = 0) → tOk 12 (A.val : Int) (R.val : Int) := by decide +kernel
theorem told_ok {A R ww : Int} (hA : 1 ≤ A ∧ A ≤ 16) (hR : 3 ≤ R ∧ R ≤ 12) (h2 : R ≤ A + 2) (hp : (A + R) % 2 = 0) (hw : 9 ≤ ww ∧ ww ≤ 12) : tOk ww.toNat A R := by
  obtain ⟨a, rfl⟩ := Int.eq_ofNat_of_zero_le (show 0 ≤ A by omega)
  obtain ⟨r, rfl⟩ := Int.eq_ofNat_of_zero_le (show 0 ≤ R by omega)
  rcases (by omega : ww = 9 ∨ ww = 10 ∨ ww = 11 ∨ ww = 12) with rfl | rfl | rfl | rfl
  · exact told_9 ⟨a, by omega⟩ ⟨r, by omega⟩ (by simp only; omega)
  · exact told_10 ⟨a, by omega⟩ ⟨r, by omega⟩ (by simp only; omega)
  · exact told_11 ⟨a, by omega⟩ ⟨r, by omega⟩ (by simp only; omega)
  · exact told_12 ⟨a, by omega⟩ ⟨r, by omega⟩ (by simp only; omega)
theorem area_scale (k r1 u1 r2 u2 r3 u3 : Int) (hk : 1 ≤ k ∧ k ≤ 4) : areaF (k * r1) (k * u1) (k * r2) (k * u2) (k * r3) (k * u3) = k * k * areaF r1 u1 r2 u2 r3 u3 := by
  have h : areaE (k * r1) (k * u1) (k * r2) (k * u2) (k * r3) (k * u3) = k * k * areaE r1 u1 r2 u2 r3 u3 := by
    unfold areaE
    rw [← Int.mul_sub, ← Int.mul_sub, ← Int.mul_sub, ← Int.mul_sub, Int.mul_sub (k * k)]
    congr 1 <;> simp only [Int.mul_assoc, Int.mul_left_comm]
  unfold areaF
  rw [h]
  generalize areaE r1 u1 r2 u2 r3 u3 = E
  rcases (by omega : k = 1 ∨ k = 2 ∨ k = 3 ∨ k = 4) with rfl | rfl | rfl | rfl <;> split <;> split <;> omega
theorem rim_scale (k r1 u1 r2 u2 r3 u3 : Int) (hk : 1 ≤ k ∧ k ≤ 4) : rimF (k * r1) (k * u1) (k * r2) (k * u2) (k * r3) (k * u3) = k * rimF r1 u1 r2 u2 r3 u3 := by
  unfold rimF
  simp only [← Int.mul_sub, Int.gcd_mul_left]
  rcases (by omega : k = 1 ∨ k = 2 ∨ k = 3 ∨ k = 4) with rfl | rfl | rfl | rfl <;> (simp only [Int.natAbs]; push_cast; omega)
theorem plain_law : ∀ f0 sd x1 z1 x2 z2 x3 z3 ww : Int, (0 ≤ f0 ∧ f0 < 4) → (1 ≤ sd ∧ (1 + f0) * sd ≤ 4) → (0 ≤ x1 ∧ x1 ≤ sd) → (0 ≤ z1 ∧ z1 ≤ sd) → (0 ≤ x2 ∧ x2 ≤ sd) → (0 ≤ z2 ∧ z2 ≤ sd) → (0 ≤ x3 ∧ x3 ≤ sd) → (0 ≤ z3 ∧ z3 ≤ sd) → Hold (areaF x1 z1 x2 z2 x3 z3 ≠ 0) → (9 ≤ ww ∧ ww ≤ 12) → Hold (Pl (1 + f0) (areaF x1 z1 x2 z2 x3 z3) (rimF x1 z1 x2 z2 x3 z3) ww ((1 + f0) * x1) ((1 + f0) * z1) ((1 + f0) * x2) ((1 + f0) * z2) ((1 + f0) * x3) ((1 + f0) * z3)) := by
  intro f0 sd x1 z1 x2 z2 x3 z3 ww hf0 hsd hx1 hz1 hx2 hz2 hx3 hz3 har hww
  have hk : 1 ≤ 1 + f0 ∧ 1 + f0 ≤ 4 := by omega
  have hsd4 : sd ≤ 4 := by rcases (by omega : f0 = 0 ∨ f0 = 1 ∨ f0 = 2 ∨ f0 = 3) with rfl | rfl | rfl | rfl <;> omega
  have bd : ∀ x : Int, 0 ≤ x ∧ x ≤ sd → (0 ≤ x ∧ x ≤ 4) ∧ (0 ≤ (1 + f0) * x ∧ (1 + f0) * x ≤ 4) := fun x hx => by
    refine ⟨by omega, Int.mul_nonneg (by omega) hx.1, ?_⟩
    exact Int.le_trans (Int.mul_le_mul_of_nonneg_left hx.2 (by omega)) hsd.2
  have t1 := tri (bd x1 hx1).1 (bd z1 hz1).1 (bd x2 hx2).1 (bd z2 hz2).1 (bd x3 hx3).1 (bd z3 hz3).1 har
  have hsc := area_scale (1 + f0) x1 z1 x2 z2 x3 z3 hk
  have hrc := rim_scale (1 + f0) x1 z1 x2 z2 x3 z3 hk
  have har' : areaF ((1 + f0) * x1) ((1 + f0) * z1) ((1 + f0) * x2) ((1 + f0) * z2) ((1 + f0) * x3) ((1 + f0) * z3) ≠ 0 := by
    rw [hsc]
    exact Int.mul_ne_zero (Int.mul_ne_zero (by omega) (by omega)) har
  have t2 := tri (bd x1 hx1).2 (bd z1 hz1).2 (bd x2 hx2).2 (bd z2 hz2).2 (bd x3 hx3).2 (bd z3 hz3).2 har'
  rw [hsc, hrc] at t2
  obtain ⟨hA, hR, hcw, _⟩ := t1
  obtain ⟨_, _, hcw2, hcr2⟩ := t2
  have hpar : rimF x1 z1 x2 z2 x3 z3 ≤ areaF x1 z1 x2 z2 x3 z3 + 2 ∧ (areaF x1 z1 x2 z2 x3 z3 + rimF x1 z1 x2 z2 x3 z3) % 2 = 0 := by omega
  obtain ⟨q1, q2, q3, q4⟩ := told_ok hA hR hpar.1 hpar.2 hww
  have e1 : totw (areaF x1 z1 x2 z2 x3 z3) (rimF x1 z1 x2 z2 x3 z3) (1 + f0) = ((1 + f0) * (1 + f0) * areaF x1 z1 x2 z2 x3 z3 - (1 + f0) * rimF x1 z1 x2 z2 x3 z3).fdiv 2 + 1 := by
    unfold totw
    rw [Int.mul_assoc, Int.mul_comm (areaF _ _ _ _ _ _), Int.mul_comm (rimF _ _ _ _ _ _)]
  have e2 : tot (areaF x1 z1 x2 z2 x3 z3) (rimF x1 z1 x2 z2 x3 z3) (1 + f0) = ((1 + f0) * (1 + f0) * areaF x1 z1 x2 z2 x3 z3 + (1 + f0) * rimF x1 z1 x2 z2 x3 z3).fdiv 2 + 1 := by
    unfold tot
    rw [Int.mul_assoc, Int.mul_comm (areaF _ _ _ _ _ _), Int.mul_comm (rimF _ _ _ _ _ _)]
  refine Hold.mk ⟨hk, ?_, ?_, q1, q2, q3, q4, ⟨(bd x1 hx1).2, (bd z1 hz1).2, (bd x2 hx2).2, (bd z2 hz2).2, (bd x3 hx3).2, (bd z3 hz3).2⟩, ?_, ?_⟩
  · rw [Int.fdiv_eq_ediv_of_nonneg _ (by decide)]; omega
  · rw [Int.fdiv_eq_ediv_of_nonneg _ (by decide)]; omega
  · rw [e1, Int.fdiv_eq_ediv_of_nonneg _ (by decide)]; omega
  · rw [e1, e2, Int.fdiv_eq_ediv_of_nonneg _ (by decide), Int.fdiv_eq_ediv_of_nonneg _ (by decide)]; omega


end Mine
end
end
theorem PySem.Challenge.cw_sn0025_01_holds : PySem.Challenge.rw_sn0025_01.Holds :=
  Mine.t Mine.plain_law
