import PyProof.Rows.All
import Wide.All
import OpenK.AllK
import Wide.FinOn
import Lean
import PySem.Challenge.RW_mq0198_01
set_option compiler.extract_closed false
open PySem PySem.W PyProof.Rows
set_option Elab.async false
set_option maxRecDepth 100000
set_option maxHeartbeats 8000000
namespace Mine
section
open_top hd for PySem.Challenge.rw_mq0198_01
end
end Mine

open PySem.Calls
namespace Mine
section
noncomputable abbrev tupO (vs : List Value) (n : Nat) : Obj := { cls := .type "tuple", data := .seq vs.toArray n }
noncomputable abbrev lstO (vs : List Value) (n : Nat) : Obj := { cls := .type "list", data := .seq vs.toArray n }
/-- what a call of one of the text's defs is said to do: nothing that stood changes; the new objects `tl` stand above the ledger -/
noncomputable def Ctr (dp un : Nat) (w : World) (f : Addr) (vs : List Value) (news : List (Addr × Obj)) (Post : List (Addr × Obj) → Value → Prop) : Prop :=
  ∀ (mean : ExcName → Option Value) (mg mb : Str → Option Value) (gd : Option (List Code)) (cn : Str) (cs : Scope) (a : Addr) (ccd : Value) (cl : List (Str × Addr)) (outer : List Env) (A₀ : Around) (base h₀ : Heap) (L : Addr) (m : Str → Option Value) (s : Shared)
    (Q E : Value → Shared → Prop),
    Below A₀ base outer h₀ → Fr h₀ L s.heap m → (Mine.hd.heap_39 w.params).In h₀ → News h₀ L s.heap news → Top Mine.hd.view_39 (looseW Mine.hd.view_39 []) mean mg mb h₀ → cs.kind = .function →
    (∀ r tl h' tk', Fr h₀ L h' m → News h₀ L h' (tl ++ news) → (∀ q ∈ news, ∀ p ∈ tl, q.1 < p.1) → Post tl r → Q r { s with heap := h', toks := tk' }) →
    wpAny (model PySem.Challenge.rw_mq0198_01.row.prog w) (ktrTop dp un gd cn cs L a ccd cl outer) (call (.ref f) vs) Q E s
theorem Ctr.use {dp un dp' un' : Nat} {w : World} {f : Addr} {vs : List Value} {news : List (Addr × Obj)} {Post : List (Addr × Obj) → Value → Prop} {mean : ExcName → Option Value} {mg mb : Str → Option Value} {gd : Option (List Code)} {cn : Str} {cs : Scope} {a : Addr} {ccd : Value} {cl : List (Str × Addr)} {outer : List Env} {A₀ : Around} {base h₀ : Heap} {L : Addr} {m : Str → Option Value} {s : Shared}
    {Q E : Value → Shared → Prop} (C : Ctr dp' un' w f vs news Post) (hd : dp ≤ dp') (hu : un ≤ un') (B : Below A₀ base outer h₀) (F : Fr h₀ L s.heap m) (X : (Mine.hd.heap_39 w.params).In h₀) (N : News h₀ L s.heap news) (T : Top Mine.hd.view_39 (looseW Mine.hd.view_39 []) mean mg mb h₀) (hk : cs.kind = .function)
    (ret : ∀ r tl h' tk', Fr h₀ L h' m → News h₀ L h' (tl ++ news) → (∀ q ∈ news, ∀ p ∈ tl, q.1 < p.1) → Post tl r → Q r { s with heap := h', toks := tk' }) :
    wpAny (model PySem.Challenge.rw_mq0198_01.row.prog w) (ktrTop dp un gd cn cs L a ccd cl outer) (call (.ref f) vs) Q E s := fun Γ p hΓ =>
  C mean mg mb gd cn cs a ccd cl outer A₀ base h₀ L m s Q E B F X N T hk ret Γ p ⟨hΓ.1, Nat.le_trans hΓ.2.1 hd, hΓ.2.2.1, hΓ.2.2.2.1, Nat.le_trans hΓ.2.2.2.2 hu⟩
end
end Mine

open PySem.Flt
namespace Mine
section
noncomputable def fmax3 (x y z : UInt64) : UInt64 := if (Float64.cmp x y == some .lt) = true then (if (Float64.cmp y z == some .lt) = true then z else y) else (if (Float64.cmp x z == some .lt) = true then z else x)
noncomputable def fmin3 (x y z : UInt64) : UInt64 := if (Float64.cmp y x == some .lt) = true then (if (Float64.cmp z y == some .lt) = true then z else y) else (if (Float64.cmp z x == some .lt) = true then z else x)
section
variable {prog : Program} {w : World} {A : Around} {E : Value → Shared → Prop} {s : Shared} {Q : Value → Shared → Prop} {x y z : UInt64} {t u v : Tok} {h₀ : Heap} {L : Addr} {m : Str → Option Value} {news : List (Addr × Obj)}
theorem max3f (hh : A.handled = none) (F : Fr h₀ L s.heap m) (N : News h₀ L s.heap news)
    (h : ∀ h' tk q, Fr h₀ L h' m → News h₀ L h' news → Q (.float (fmax3 x y z) q) { s with heap := h', toks := tk }) :
    wpAny (model prog w) A (call (.builtin "max") [.float x t, .float y u, .float z v]) Q E s := by
  have hT : (s.heap.push { cls := .type "tuple", data := .seq #[.float x t, .float y u, .float z v] }).IsTuple s.heap.objs.size #[.float x t, .float y u, .float z v] := ⟨_, Heap.get?_push_size _ rfl, rfl, 0, rfl⟩
  refine call_max_three (wpAny_pyIter_tuple hT ?_)
  have hsz : (s.heap.push { cls := .type "tuple", data := .seq #[.float x t, .float y u, .float z v] }).objs.size = s.heap.objs.size + 1 := Heap.size_push ..
  refine ⟨_, [_, s.heap.objs.size], [_], _, _, _, _, rfl, Walks.tuple (A := A.in1) hh _ s.heap.objs.size (by rw [hsz]; exact Nat.ne_of_lt (Nat.lt_succ_self _)) #[.float x t, .float y u, .float z v],
    ⟨⟨_, Heap.get?_push_size _ rfl, rfl, rfl⟩, hT.push _⟩, fun d hd => ?_, by simp, cmpOf_gt #[.float x t, .float y u, .float z v] (by intro q hq; simp at hq; rcases hq with rfl | rfl | rfl <;> exact .float _ _), fun q h' tk hP hk => ?_⟩
  · show d < ((s.heap.push _).push _).objs.size
    rw [Heap.size_push, hsz]
    rcases List.mem_cons.mp hd with rfl | hd
    · rw [hsz]; exact Nat.lt_succ_self _
    · rcases List.mem_cons.mp hd with rfl | hd
      · exact Nat.lt_succ_of_lt (Nat.lt_succ_self _)
      · cases hd
  · have hold : ∀ d o, s.heap.get? d = some o → h'.get? d = some o := fun d o e => by
      refine hk d o (fun hm => ?_) (Heap.get?_push_of_some _ (Heap.get?_push_of_some _ e))
      rcases List.mem_cons.mp hm with e1 | hm
      · have := Heap.lt_size e; rw [e1, hsz] at this; exact Nat.lt_irrefl _ (Nat.lt_of_succ_lt this)
      · cases hm
    have key := fun q => h h' tk q (F.grownK hold) (N.grown hold)
    have hv : ∃ q', q = .float (fmax3 x y z) q' := by
      have e1 : ltV (.float x t) (.float y u) = (Float64.cmp x y == some .lt) := rfl
      have e2 : ltV (.float y u) (.float z v) = (Float64.cmp y z == some .lt) := rfl
      have e3 : ltV (.float x t) (.float z v) = (Float64.cmp x z == some .lt) := rfl
      unfold fmax3
      cases c1 : (Float64.cmp x y == some .lt) <;> cases c2 : (Float64.cmp y z == some .lt) <;> cases c3 : (Float64.cmp x z == some .lt) <;>
        simp [argBest, e1, e2, e3, c1, c2, c3] at hP <;> (subst hP; simp [c1, c2, c3])
    obtain ⟨q', rfl⟩ := hv
    exact key q'
theorem min3f (hh : A.handled = none) (F : Fr h₀ L s.heap m) (N : News h₀ L s.heap news)
    (h : ∀ h' tk q, Fr h₀ L h' m → News h₀ L h' news → Q (.float (fmin3 x y z) q) { s with heap := h', toks := tk }) :
    wpAny (model prog w) A (call (.builtin "min") [.float x t, .float y u, .float z v]) Q E s := by
  have hT : (s.heap.push { cls := .type "tuple", data := .seq #[.float x t, .float y u, .float z v] }).IsTuple s.heap.objs.size #[.float x t, .float y u, .float z v] := ⟨_, Heap.get?_push_size _ rfl, rfl, 0, rfl⟩
  refine call_min_three (wpAny_pyIter_tuple hT ?_)
  have hsz : (s.heap.push { cls := .type "tuple", data := .seq #[.float x t, .float y u, .float z v] }).objs.size = s.heap.objs.size + 1 := Heap.size_push ..
  refine ⟨_, [_, s.heap.objs.size], [_], _, _, _, _, rfl, Walks.tuple (A := A.in1) hh _ s.heap.objs.size (by rw [hsz]; exact Nat.ne_of_lt (Nat.lt_succ_self _)) #[.float x t, .float y u, .float z v],
    ⟨⟨_, Heap.get?_push_size _ rfl, rfl, rfl⟩, hT.push _⟩, fun d hd => ?_, by simp, cmpOf_lt #[.float x t, .float y u, .float z v] (by intro q hq; simp at hq; rcases hq with rfl | rfl | rfl <;> exact .float _ _), fun q h' tk hP hk => ?_⟩
  · show d < ((s.heap.push _).push _).objs.size
    rw [Heap.size_push, hsz]
    rcases List.mem_cons.mp hd with rfl | hd
    · rw [hsz]; exact Nat.lt_succ_self _
    · rcases List.mem_cons.mp hd with rfl | hd
      · exact Nat.lt_succ_of_lt (Nat.lt_succ_self _)
      · cases hd
  · have hold : ∀ d o, s.heap.get? d = some o → h'.get? d = some o := fun d o e => by
      refine hk d o (fun hm => ?_) (Heap.get?_push_of_some _ (Heap.get?_push_of_some _ e))
      rcases List.mem_cons.mp hm with e1 | hm
      · have := Heap.lt_size e; rw [e1, hsz] at this; exact Nat.lt_irrefl _ (Nat.lt_of_succ_lt this)
      · cases hm
    have key := fun q => h h' tk q (F.grownK hold) (N.grown hold)
    have hv : ∃ q', q = .float (fmin3 x y z) q' := by
      have e1 : ltV (.float y u) (.float x t) = (Float64.cmp y x == some .lt) := rfl
      have e2 : ltV (.float z v) (.float y u) = (Float64.cmp z y == some .lt) := rfl
      have e3 : ltV (.float z v) (.float x t) = (Float64.cmp z x == some .lt) := rfl
      unfold fmin3
      cases c1 : (Float64.cmp y x == some .lt) <;> cases c2 : (Float64.cmp z y == some .lt) <;> cases c3 : (Float64.cmp z x == some .lt) <;>
        simp [argBest, e1, e2, e3, c1, c2, c3] at hP <;> (subst hP; simp [c1, c2, c3])
    obtain ⟨q', rfl⟩ := hv
    exact key q'
end
/-- a fact that the walk's closers don't look into -/
structure Kept (P : Prop) : Prop where
  out : P
/-- round(x), where it is an int -/
noncomputable def fround (x : UInt64) : Option Int := if Float64.isFinite x = true then some (toInt Float64.nearestOf x) else none
section
variable {prog : Program} {w : World} {A : Around} {E : Value → Shared → Prop} {s : Shared} {Q : Value → Shared → Prop} {x : UInt64} {t u : Tok} {n a b c : Int}
theorem round_is (hA : A.handled = none) (hx : Kept (fround x = some n)) (h : Q (.int n s.toks) { s with toks := s.toks + 1 }) : wpAny (model prog w) A (call (.builtin "round") [.float x t]) Q E s := by
  replace hx := hx.out
  unfold fround at hx
  by_cases hf : Float64.isFinite x = true
  · rw [if_pos hf] at hx
    cases hx
    exact call_round_float hA (fun hn => by rw [not_nan_of_finite hf] at hn; cases hn) (fun hn => by rw [not_inf_of_finite hf] at hn; cases hn) (fun _ => h)
  · rw [if_neg hf] at hx; cases hx
/-- int(x), where it is an int -/
theorem int_is (hA : A.handled = none) (hx : Kept ((if Float64.isFinite x = true then some (toInt Float64.truncOf x) else none) = some n)) (h : Q (.int n s.toks) { s with toks := s.toks + 1 }) : wpAny (model prog w) A (call (.type "int") [.float x t]) Q E s := by
  replace hx := hx.out
  by_cases hf : Float64.isFinite x = true
  · rw [if_pos hf] at hx
    cases hx
    exact call_int_float3 hA (fun hn => by rw [not_nan_of_finite hf] at hn; cases hn) (fun hn => by rw [not_inf_of_finite hf] at hn; cases hn) (fun _ => h)
  · rw [if_neg hf] at hx; cases hx
theorem gt_is {x y : UInt64} {l : Bool} (hc : Kept ((Float64.cmp x y == some .gt) = l)) (h : Q (.bool l) s) : wpAny (model prog w) A (compareOp .Gt (.float x t) (.float y u)) Q E s := by
  obtain ⟨rfl⟩ := hc
  exact AutoFloatOps.gt_0 h
theorem fdiv_is (hb : b ≠ 0) (hb2 : b.natAbs ≤ 1000) (hc : Kept (a.fdiv b = c)) (h : Q (.int c s.toks) { s with toks := s.toks + 1 }) : wpAny (model prog w) A (binaryOp .FloorDiv (.int a t) (.int b u)) Q E s := by
  obtain ⟨rfl⟩ := hc
  exact floordiv_int hb h (Or.inl (PyProof.noPylong_small (by omega)))
end
section
variable {prog : Program} {w : World} {A : Around} {E : Value → Shared → Prop} {s : Shared} {h₀ : Heap} {L : Addr} {m : Str → Option Value} {news : List (Addr × Obj)} {x y x0 x1 x2 x3 : Str} {t u : Tok} {Q : Value → Shared → Prop}
theorem split2 (hF : Fr h₀ L s.heap m) (hN : News h₀ L s.heap news) (hs : Kept (Txt.split x y = [x0, x1])) (hl : x.length ≤ 1000) (hy : (y.length == 0) = false)
    (h : ∀ D h' k t0 t1, Fr h₀ L h' m → News h₀ L h' ((D, lstO [.str x0 t0, .str x1 t1] 0) :: news) → (∀ p ∈ news, p.1 < D) → Q (.ref D) { s with heap := h', toks := k }) :
    wpAny (model prog w) A (call (.builtin "str.split") [.str x t, .str y u]) Q E s := by
  refine KSpl.split1 hF hN hy (fun D l h' k e _ F N lt => ?_) (Nat.le_trans (Nat.add_le_add_right hl 2) (by decide))
  rw [hs.out] at e
  kspl_open e
  exact h _ _ _ _ _ F N lt
theorem split3 (hF : Fr h₀ L s.heap m) (hN : News h₀ L s.heap news) (hs : Kept (Txt.split x y = [x0, x1, x2])) (hl : x.length ≤ 1000) (hy : (y.length == 0) = false)
    (h : ∀ D h' k t0 t1 t2, Fr h₀ L h' m → News h₀ L h' ((D, lstO [.str x0 t0, .str x1 t1, .str x2 t2] 0) :: news) → (∀ p ∈ news, p.1 < D) → Q (.ref D) { s with heap := h', toks := k }) :
    wpAny (model prog w) A (call (.builtin "str.split") [.str x t, .str y u]) Q E s := by
  refine KSpl.split1 hF hN hy (fun D l h' k e _ F N lt => ?_) (Nat.le_trans (Nat.add_le_add_right hl 2) (by decide))
  rw [hs.out] at e
  kspl_open e
  exact h _ _ _ _ _ _ F N lt
theorem split4 (hF : Fr h₀ L s.heap m) (hN : News h₀ L s.heap news) (hs : Kept (Txt.split x y = [x0, x1, x2, x3])) (hl : x.length ≤ 1000) (hy : (y.length == 0) = false)
    (h : ∀ D h' k t0 t1 t2 t3, Fr h₀ L h' m → News h₀ L h' ((D, lstO [.str x0 t0, .str x1 t1, .str x2 t2, .str x3 t3] 0) :: news) → (∀ p ∈ news, p.1 < D) → Q (.ref D) { s with heap := h', toks := k }) :
    wpAny (model prog w) A (call (.builtin "str.split") [.str x t, .str y u]) Q E s := by
  refine KSpl.split1 hF hN hy (fun D l h' k e _ F N lt => ?_) (Nat.le_trans (Nat.add_le_add_right hl 2) (by decide))
  rw [hs.out] at e
  kspl_open e
  exact h _ _ _ _ _ _ _ F N lt
end
section
variable {h₀ h' : Heap} {L D : Addr} {m : Str → Option Value} {news all : List (Addr × Obj)} {s : Shared} {Q : Value → Shared → Prop} {Post : List (Addr × Obj) → Value → Prop} {o : Obj} {tk' : Nat} {v : Value}
/-- the end of a def that hands back one new object -/
theorem ret1 (hret : ∀ r tl h' tk', Fr h₀ L h' m → News h₀ L h' (tl ++ news) → (∀ q ∈ news, ∀ p ∈ tl, q.1 < p.1) → Post tl r → Q r { s with heap := h', toks := tk' })
    (F : Fr h₀ L h' m) (N : News h₀ L h' all) (hD : (D, o) ∈ all) (hs : ∀ p ∈ news, p ∈ all) (hl : ∀ p ∈ news, p.1 < D) (hp : Post [(D, o)] (.ref D)) : Q (.ref D) { s with heap := h', toks := tk' } :=
  hret _ [(D, o)] _ _ F (fun p hp => by
    rcases List.mem_cons.mp hp with rfl | hp
    · exact N _ hD
    · exact N _ (hs p hp)) (fun q hq p hp => by rw [List.mem_singleton.mp hp]; exact hl q hq) hp
/-- the end of a def that hands back no new object -/
theorem ret0 (hret : ∀ r tl h' tk', Fr h₀ L h' m → News h₀ L h' (tl ++ news) → (∀ q ∈ news, ∀ p ∈ tl, q.1 < p.1) → Post tl r → Q r { s with heap := h', toks := tk' })
    (F : Fr h₀ L h' m) (N : News h₀ L h' all) (hs : ∀ p ∈ news, p ∈ all) (hp : Post [] v) : Q v { s with heap := h', toks := tk' } :=
  hret _ [] _ _ F (fun p hp => N _ (hs p hp)) (fun _ _ _ hp => nomatch hp) hp
end
section
variable {prog : Program} {w : World} {A : Around} {E : Value → Shared → Prop} {s : Shared} {h₀ : Heap} {L D : Addr} {news : List (Addr × Obj)} {x x0 x1 x2 r : Str} {t t0 t1 t2 : Tok} {n : Nat} {Q : Value → Shared → Prop}
theorem join2 (hN : News h₀ L s.heap news) (hm : (D, lstO [.str x0 t0, .str x1 t1] n) ∈ news) (hj : Kept (Txt.join x [x0, x1] = r)) (hl : Kept (x0.length + x1.length ≤ 1000)) (hx : x.length ≤ 64) (h : ∀ t' k, Q (.str r t') { s with toks := k }) :
    wpAny (model prog w) A (call (.builtin "str.join") [.str x t, .ref D]) Q E s := by
  obtain ⟨rfl⟩ := hj
  refine join_listC (News.isList hN hm) (.cons _ _ (.cons _ _ .nil)) hx ?_ h
  have := hl.out
  simp only [List.map_cons, List.map_nil, List.sum_cons, List.sum_nil, List.length_cons, List.length_nil]
  omega
theorem join3 (hN : News h₀ L s.heap news) (hm : (D, lstO [.str x0 t0, .str x1 t1, .str x2 t2] n) ∈ news) (hj : Kept (Txt.join x [x0, x1, x2] = r)) (hl : Kept (x0.length + x1.length + x2.length ≤ 1000)) (hx : x.length ≤ 64) (h : ∀ t' k, Q (.str r t') { s with toks := k }) :
    wpAny (model prog w) A (call (.builtin "str.join") [.str x t, .ref D]) Q E s := by
  obtain ⟨rfl⟩ := hj
  refine join_listC (News.isList hN hm) (.cons _ _ (.cons _ _ (.cons _ _ .nil))) hx ?_ h
  have := hl.out
  simp only [List.map_cons, List.map_nil, List.sum_cons, List.sum_nil, List.length_cons, List.length_nil]
  omega
end
/-- the ledger without the loop's own iterator -/
inductive Drop (I : Addr) (o : Obj) : List (Addr × Obj) → List (Addr × Obj) → Prop
  | here {l : List (Addr × Obj)} : (∀ p ∈ l, p.1 ≠ I) → Drop I o ((I, o) :: l) l
  | tail {q : Addr × Obj} {l l' : List (Addr × Obj)} : q.1 ≠ I → Drop I o l l' → Drop I o (q :: l) (q :: l')
theorem Drop.mem {I : Addr} {o : Obj} {l l' : List (Addr × Obj)} (d : Drop I o l l') : (I, o) ∈ l ∧ (∀ p ∈ l', p ∈ l) ∧ ∀ p ∈ l', p.1 ≠ I := by
  induction d with
  | here h => exact ⟨.head _, fun p hp => .tail _ hp, h⟩
  | tail h _ ih => exact ⟨.tail _ ih.1, fun p hp => by
      rcases List.mem_cons.mp hp with rfl | hp
      · exact .head _
      · exact .tail _ (ih.2.1 p hp), fun p hp => by
      rcases List.mem_cons.mp hp with rfl | hp
      · exact h
      · exact ih.2.2 p hp⟩
theorem off_of_allLt {I : Addr} {l : List (Addr × Obj)} (h : AllLt I l) : ∀ p ∈ l, p.1 ≠ I := fun p hp => Nat.ne_of_lt (ktn_ltOf h p hp)
theorem off_of_lt0 {I : Addr} {l : List (Addr × Obj)} (h : ∀ p ∈ l, p.1 < I) : ∀ p ∈ l, p.1 ≠ I := fun p hp => Nat.ne_of_lt (h p hp)
theorem off_of_lt1 {I : Addr} {l : List (Addr × Obj)} (h : ∀ p ∈ l, p.1 < I) : ∀ p ∈ l, p.1 ≠ I + 1 := fun p hp => Nat.ne_of_lt (Nat.lt_succ_of_lt (h p hp))
theorem off_of_lt2 {I : Addr} {l : List (Addr × Obj)} (h : ∀ p ∈ l, p.1 < I) : ∀ p ∈ l, p.1 ≠ I + 1 + 1 := fun p hp => Nat.ne_of_lt (Nat.lt_succ_of_lt (Nat.lt_succ_of_lt (h p hp)))
theorem off_of_lt3 {I : Addr} {l : List (Addr × Obj)} (h : ∀ p ∈ l, p.1 < I) : ∀ p ∈ l, p.1 ≠ I + 1 + 1 + 1 := fun p hp => Nat.ne_of_lt (Nat.lt_succ_of_lt (Nat.lt_succ_of_lt (Nat.lt_succ_of_lt (h p hp))))
theorem off_of_allLt1 {I : Addr} {l : List (Addr × Obj)} (h : AllLt I l) : ∀ p ∈ l, p.1 ≠ I + 1 := fun p hp => Nat.ne_of_lt (Nat.lt_succ_of_lt (ktn_ltOf h p hp))
theorem off_of_allLt2 {I : Addr} {l : List (Addr × Obj)} (h : AllLt I l) : ∀ p ∈ l, p.1 ≠ I + 1 + 1 := fun p hp => Nat.ne_of_lt (Nat.lt_succ_of_lt (Nat.lt_succ_of_lt (ktn_ltOf h p hp)))
theorem off_of_allLt3 {I : Addr} {l : List (Addr × Obj)} (h : AllLt I l) : ∀ p ∈ l, p.1 ≠ I + 1 + 1 + 1 := fun p hp => Nat.ne_of_lt (Nat.lt_succ_of_lt (Nat.lt_succ_of_lt (Nat.lt_succ_of_lt (ktn_ltOf h p hp))))
section
variable {prog : Program} {w : World} {A : Around} {E : Value → Shared → Prop} {s : Shared} {env : Env} {h₀ : Heap} {target : Expr} {body : List Stmt} {Q : Flow → Shared → Prop}
theorem iter_lst {ax : Addr} {vs : List Value} {n : Nat} {m₀ : Str → Option Value} {news : List (Addr × Obj)}
    (hh : A.handled = none) (F : Fr h₀ env.locals s.heap m₀) (N : News h₀ env.locals s.heap news) (hm : (ax, lstO vs n) ∈ news)
    (rest₀ : ∀ I : Addr, (∀ p ∈ news, p.1 < I) → ItemsRest prog w A E h₀ env target body Q s [(I, "list_iterator")] [(ax, lstO vs n)] (vs.map .val) m₀ news) :
    wpAny (model prog w) A (pyIter (.ref ax)) (fun it s₂ => TurnsAt prog w A h₀ env target body Q E it s₂) E s := iter_listTurns hh F N hm rfl rfl rest₀
theorem iter_tup {ax : Addr} {vs : List Value} {n : Nat} {m₀ : Str → Option Value} {news : List (Addr × Obj)}
    (hh : A.handled = none) (F : Fr h₀ env.locals s.heap m₀) (N : News h₀ env.locals s.heap news) (hm : (ax, tupO vs n) ∈ news)
    (rest₀ : ∀ I : Addr, (∀ p ∈ news, p.1 < I) → ItemsRest prog w A E h₀ env target body Q s [(I, "tuple_iterator")] [(ax, tupO vs n)] (vs.map .val) m₀ news) :
    wpAny (model prog w) A (pyIter (.ref ax)) (fun it s₂ => TurnsAt prog w A h₀ env target body Q E it s₂) E s := iter_tupTurns hh F N hm rfl rfl rest₀
theorem unrEnd1 {L I : Addr} {o : Obj} {rest : (Str → Option Value) → List (Addr × Obj) → Prop} {s₁ : Shared} {h' : Heap} {tk : Nat} {m' : Str → Option Value} {all news' : List (Addr × Obj)} (F : Fr h₀ L h' m') (N : News h₀ L h' all) (d : Drop I o all news') (r : rest m' news') :
    UnrEndW h₀ L s₁ [(I, o)] rest { s₁ with heap := h', toks := tk } :=
  ⟨h', tk, m', news', rfl, F, fun p hp => by
    rcases List.mem_append.mp hp with hp | hp
    · rw [List.mem_singleton.mp hp]; exact N _ d.mem.1
    · exact N p (d.mem.2.1 p hp), fun p hp q hq => by rw [List.mem_singleton.mp hq]; exact d.mem.2.2 p hp, r⟩
end
/-- what stands ahead of the old ledger -/
inductive Pre (news : List (Addr × Obj)) : List (Addr × Obj) → List (Addr × Obj) → Prop
  | nil : Pre news news []
  | cons {q : Addr × Obj} {all tl : List (Addr × Obj)} : Pre news all tl → Pre news (q :: all) (q :: tl)
theorem Pre.eq {news all tl : List (Addr × Obj)} (h : Pre news all tl) : all = tl ++ news := by
  induction h with
  | nil => rfl
  | cons _ ih => rw [ih]; rfl
theorem retPre {h₀ h' : Heap} {L : Addr} {m : Str → Option Value} {news all tl : List (Addr × Obj)} {s : Shared} {Q : Value → Shared → Prop} {Post : List (Addr × Obj) → Value → Prop} {tk' : Nat} {v : Value}
    (hret : ∀ r tl h' tk', Fr h₀ L h' m → News h₀ L h' (tl ++ news) → (∀ q ∈ news, ∀ p ∈ tl, q.1 < p.1) → Post tl r → Q r { s with heap := h', toks := tk' })
    (F : Fr h₀ L h' m) (N : News h₀ L h' all) (hp : Pre news all tl) (ho : ∀ p ∈ tl, ∀ q ∈ news, q.1 < p.1) (hP : Post tl v) : Q v { s with heap := h', toks := tk' } :=
  hret v tl h' tk' F (hp.eq ▸ N) (fun q hq p hp => ho p hp q hq) hP
section
variable {h₀ h' : Heap} {L I C D : Addr} {m : Str → Option Value} {s₁ : Shared} {oI oC oD : Obj} {S : List (Addr × Obj) → Prop} {rest : Value → List (Addr × Obj) → Prop} {y : Value} {tk : Nat} {all l1 l2 news' : List (Addr × Obj)}
theorem compEnd3 (F : Fr h₀ L h' m) (N : News h₀ L h' all) (d1 : Drop I oI all l1) (d2 : Drop C oC l1 l2) (d3 : Drop D oD l2 news') (hS : S news') (r : rest y news') :
    LCg.CompEnd h₀ L m s₁ I oI C oC D oD S rest y { s₁ with heap := h', toks := tk } := by
  refine LCg.CompEnd.intro F N news' (fun p hp => ?_) (LCg.Off3.of fun p hp => ⟨?_, ?_, ?_⟩) hS r
  · rcases List.mem_cons.mp hp with rfl | hp
    · exact d1.mem.1
    · rcases List.mem_cons.mp hp with rfl | hp
      · exact d1.mem.2.1 _ d2.mem.1
      · rcases List.mem_cons.mp hp with rfl | hp
        · exact d1.mem.2.1 _ (d2.mem.2.1 _ d3.mem.1)
        · exact d1.mem.2.1 _ (d2.mem.2.1 _ (d3.mem.2.1 _ hp))
  · exact d1.mem.2.2 _ (d2.mem.2.1 _ (d3.mem.2.1 _ hp))
  · exact d2.mem.2.2 _ (d3.mem.2.1 _ hp)
  · exact d3.mem.2.2 _ hp
theorem off3I {l : List (Addr × Obj)} (h : LCg.Off3 I C D l) : ∀ p ∈ l, p.1 ≠ I := fun p hp => (h.mem p hp).1
theorem off3C {l : List (Addr × Obj)} (h : LCg.Off3 I C D l) : ∀ p ∈ l, p.1 ≠ C := fun p hp => (h.mem p hp).2.1
theorem off3D {l : List (Addr × Obj)} (h : LCg.Off3 I C D l) : ∀ p ∈ l, p.1 ≠ D := fun p hp => (h.mem p hp).2.2
theorem off1D {l : List (Addr × Obj)} : LCg.Off1 D l → ∀ p ∈ l, p.1 ≠ D := by
  induction l with
  | nil => intro _ _ hp; exact nomatch hp
  | cons q r ih => intro h p hp; rcases List.mem_cons.mp hp with rfl | hp
                   · exact h.1
                   · exact ih h.2 p hp
end
theorem num_pos {n : Int} (h0 : 0 ≤ n) (h1 : n < 1000) : (Str.ofString (toString n)).length ≠ 0 := by
  intro e
  have r := KIN.num_reads h0 (by omega)
  have e2 : Str.ofString (toString n) = ⟨#[]⟩ := by
    generalize Str.ofString (toString n) = x at e
    obtain ⟨c⟩ := x
    have : c.size = 0 := e
    rw [Array.eq_empty_of_size_eq_zero this]
  rw [e2] at r
  revert r
  rw [show PySem.intText? ⟨#[]⟩ = none by decide +kernel]
  intro r; cases r
theorem truthy_num {prog : Program} {w : World} {A : Around} {E : Value → Shared → Prop} {s : Shared} {Q : Bool → Shared → Prop} {n : Int} {t : Tok} (h0 : 0 ≤ n) (h1 : n < 1000) (h : Q true { s with toks := s.toks + 1 + 1 }) :
    wpAny (model prog w) A (truthy (.str (Str.ofString (toString n)) t)) Q E s := by
  have hp := num_pos h0 h1
  have hl := KT.len_num h0 (by omega)
  refine PySem.P.truthy_str (by omega) ?_
  have : (((Str.ofString (toString n)).length : Int) != 0) = true := by simp; exact hp
  rw [this]; exact h
end
end Mine

namespace Mine
section
local macro_rules | `(tactic| walk_at "mine sub") => `(tactic| first | exact (fun _ h => h) | exact (fun _ h => List.mem_cons_of_mem _ h) | exact (fun _ h => List.mem_cons_of_mem _ (List.mem_cons_of_mem _ h)) | exact (fun _ h => List.mem_cons_of_mem _ (List.mem_cons_of_mem _ (List.mem_cons_of_mem _ h))))
local macro_rules | `(tactic| walk_at "mine lt") => `(tactic| first | assumption | exact (fun p hp => ktn_ltOf (And.right (by assumption)) p hp) | exact (fun p hp => ktn_ltOf (And.right (And.right (by assumption))) p hp))
section
/-- _law_point of a tuple -/
theorem point_t {w : World} {t : Addr} {a b c : Int} {ta tb tc : Tok} {news : List (Addr × Obj)} (ht : (t, tupO [.int a ta, .int b tb, .int c tc] 0) ∈ news) :
    Ctr 600 400 w 111 [.ref t] news (fun tl r => ∃ q t1 t2, r = .ref q ∧ tl = [(q, tupO [.int (2 * a - b - c) t1, .int (b - c) t2] 0)]) := by
  unfold Ctr
  k_fill
  intro mean mg mb gd cn cs a ccd cl outer A₀ base h₀ L m s Q E B F X N T hk hret
  refine wpAny_call ?_
  k_dflt ktr_enter
  k_steps
  refine ret1 hret (by assumption) (by assumption) (List.mem_cons_self ..) (by walk_at "mine sub") (by assumption) ⟨_, _, _, rfl, rfl⟩
local macro_rules | `(tactic| walk_at "subscriptTail") => `(tactic| (k_here; (with_reducible show wpAny _ _ (subscriptTail _ _ (Value.ref _) (Value.int _ _)) _ _ _); (with_unfolding_all refine' item_litK ?k1 ?k2 ?k3 ?k4 ?_ ?k6; (case k1 => exact News.isList (by assumption) (by k_mem)); (case k2 => decide); (case k3 => decide); (case k4 => rfl); (case k6 => with_unfolding_all rfl); k_whole)))
/-- _law_point of a list -/
theorem point_l {w : World} {t : Addr} {a b c : Int} {ta tb tc : Tok} {n : Nat} {news : List (Addr × Obj)} (ht : (t, lstO [.int a ta, .int b tb, .int c tc] n) ∈ news) :
    Ctr 600 400 w 111 [.ref t] news (fun tl r => ∃ q t1 t2, r = .ref q ∧ tl = [(q, tupO [.int (2 * a - b - c) t1, .int (b - c) t2] 0)]) := by
  unfold Ctr
  k_fill
  intro mean mg mb gd cn cs a ccd cl outer A₀ base h₀ L m s Q E B F X N T hk hret
  refine wpAny_call ?_
  k_dflt ktr_enter
  k_steps
  refine ret1 hret (by assumption) (by assumption) (List.mem_cons_self ..) (by walk_at "mine sub") (by assumption) ⟨_, _, _, rfl, rfl⟩
end
section
local macro_rules | `(tactic| walk_at "call type:int") => `(tactic| (k_here; (with_reducible show wpAny _ _ (call _ [Value.float _ _]) _ _ _); k_dflt (refine' int_is ?k0 ?k1 ?_; (case k0 => exact rfl); (case k1 => with_reducible assumption))))
noncomputable abbrev f1 : UInt64 := 4607182418800017408
/-- what hsv_to_rgb hands back of a full colour: k the sixth, f the place in it -/
noncomputable def hsvK (k : Int) (f : UInt64) : UInt64 × UInt64 × UInt64 :=
  if k = 0 then (f1, Float64.mul f1 (Float64.sub f1 (Float64.mul f1 (Float64.sub f1 f))), Float64.mul f1 (Float64.sub f1 f1))
  else if k = 1 then (Float64.mul f1 (Float64.sub f1 (Float64.mul f1 f)), f1, Float64.mul f1 (Float64.sub f1 f1))
  else if k = 2 then (Float64.mul f1 (Float64.sub f1 f1), f1, Float64.mul f1 (Float64.sub f1 (Float64.mul f1 (Float64.sub f1 f))))
  else if k = 3 then (Float64.mul f1 (Float64.sub f1 f1), Float64.mul f1 (Float64.sub f1 (Float64.mul f1 f)), f1)
  else if k = 4 then (Float64.mul f1 (Float64.sub f1 (Float64.mul f1 (Float64.sub f1 f))), Float64.mul f1 (Float64.sub f1 f1), f1)
  else (f1, Float64.mul f1 (Float64.sub f1 f1), Float64.mul f1 (Float64.sub f1 (Float64.mul f1 f)))
theorem hsv {w : World} {h : UInt64} {i : Int} {t0 t1 t2 : Tok} {news : List (Addr × Obj)}
    (hi : Kept ((if Float64.isFinite (Float64.mul h 4618441417868443648) = true then some (toInt Float64.truncOf (Float64.mul h 4618441417868443648)) else none) = some i)) (hi0 : 0 ≤ i) (hi1 : i ≤ 6) :
    Ctr 600 400 w 85 [.float h t0, .float 4607182418800017408 t1, .float 4607182418800017408 t2] news
      (fun tl v => ∃ q x y z a1 a2 a3, hsvK (i.fmod 6) (Float64.sub (Float64.mul h 4618441417868443648) (Float64.ofInt i)) = (x, y, z) ∧ v = .ref q ∧ tl = [(q, tupO [.float x a1, .float y a2, .float z a3] 0)]) := by
  have hz : (Float64.cmp 4607182418800017408 0 == some Ordering.eq) = false := by decide +kernel
  have hmod : 0 ≤ i.fmod 6 ∧ i.fmod 6 < 6 := ⟨Int.fmod_nonneg_of_pos _ (by decide), Int.fmod_lt_of_pos _ (by decide)⟩
  unfold Ctr
  k_fill
  intro mean mg mb gd cn cs a ccd cl outer A₀ base h₀ L m s Q E B F X N T hk hret
  refine wpAny_call ?_
  k_dflt ktr_enter
  k_steps
  all_goals first
    | (exfalso; omega)
    | (exfalso; have hzz := hz.symm.trans (by assumption : (Float64.cmp 4607182418800017408 0 == some Ordering.eq) = true); cases hzz)
    | (refine ret1 hret (by assumption) (by assumption) (List.mem_cons_self ..) (by walk_at "mine sub") (by walk_at "mine lt") ⟨_, _, _, _, _, _, _, ?_, rfl, rfl⟩; unfold hsvK; simp [*]; done)
    | trace_state
end
section
local macro_rules | `(tactic| walk_at "call builtin:max") => `(tactic| (k_here; (with_reducible show wpAny _ _ (call _ [Value.float _ _, Value.float _ _, Value.float _ _]) _ _ _); k_dflt (refine' max3f ?k0 ?k1 ?k2 ?_; (case k0 => exact rfl); (case k1 => k_asm); (case k2 => k_asm)); intro h' tk' q' F' N'; (try k_sweep)))
local macro_rules | `(tactic| walk_at "call builtin:min") => `(tactic| (k_here; (with_reducible show wpAny _ _ (call _ [Value.float _ _, Value.float _ _, Value.float _ _]) _ _ _); k_dflt (refine' min3f ?k0 ?k1 ?k2 ?_; (case k0 => exact rfl); (case k1 => k_asm); (case k2 => k_asm)); intro h' tk' q' F' N'; (try k_sweep)))
noncomputable def feq (x y : UInt64) : Bool := Float64.cmp x y == some .eq
noncomputable def rgbHue (r g b : UInt64) : UInt64 :=
  if feq (fmin3 r g b) (fmax3 r g b) then 0
  else if feq r (fmax3 r g b) then (Float64.divmod (Float64.div (Float64.sub (Float64.div (Float64.sub (fmax3 r g b) b) (Float64.sub (fmax3 r g b) (fmin3 r g b))) (Float64.div (Float64.sub (fmax3 r g b) g) (Float64.sub (fmax3 r g b) (fmin3 r g b)))) 4618441417868443648) 4607182418800017408).snd
  else if feq g (fmax3 r g b) then (Float64.divmod (Float64.div (Float64.sub (Float64.add 4611686018427387904 (Float64.div (Float64.sub (fmax3 r g b) r) (Float64.sub (fmax3 r g b) (fmin3 r g b)))) (Float64.div (Float64.sub (fmax3 r g b) b) (Float64.sub (fmax3 r g b) (fmin3 r g b)))) 4618441417868443648) 4607182418800017408).snd
  else (Float64.divmod (Float64.div (Float64.sub (Float64.add 4616189618054758400 (Float64.div (Float64.sub (fmax3 r g b) g) (Float64.sub (fmax3 r g b) (fmin3 r g b)))) (Float64.div (Float64.sub (fmax3 r g b) r) (Float64.sub (fmax3 r g b) (fmin3 r g b)))) 4618441417868443648) 4607182418800017408).snd
noncomputable def rgbSat (r g b : UInt64) : UInt64 := if feq (fmin3 r g b) (fmax3 r g b) then 0 else Float64.div (Float64.sub (fmax3 r g b) (fmin3 r g b)) (fmax3 r g b)
theorem rgb {w : World} {r g b : UInt64} {tr tg tb : Tok} {news : List (Addr × Obj)}
    (h0 : Kept (feq (fmin3 r g b) (fmax3 r g b) = false → Float64.isZero (fmax3 r g b) = false ∧ Float64.isZero (Float64.sub (fmax3 r g b) (fmin3 r g b)) = false)) :
    Ctr 600 400 w 78 [.float r tr, .float g tg, .float b tb] news (fun tl v => ∃ q H S t1 t2 t3, H = rgbHue r g b ∧ S = rgbSat r g b ∧ v = .ref q ∧ tl = [(q, tupO [.float H t1, .float S t2, .float (fmax3 r g b) t3] 0)]) := by
  unfold Ctr
  k_fill
  intro mean mg mb gd cn cs a ccd cl outer A₀ base h₀ L m s Q E B F X N T hk hret
  refine wpAny_call ?_
  k_dflt ktr_enter
  cases he : feq (fmin3 r g b) (fmax3 r g b)
  · obtain ⟨hM, hR⟩ := h0.out he
    unfold feq at he
    clear h0
    k_steps
    all_goals (refine ret1 hret (by assumption) (by assumption) (List.mem_cons_self ..) (by walk_at "mine sub") (by assumption) ⟨_, _, _, _, _, _, ?_, ?_, rfl, rfl⟩)
    all_goals ((first | unfold rgbHue | unfold rgbSat); unfold feq; simp [*]; done)
  · clear h0
    unfold feq at he
    k_steps
    all_goals (refine ret1 hret (by assumption) (by assumption) (List.mem_cons_self ..) (by walk_at "mine sub") (by assumption) ⟨_, _, _, _, _, _, ?_, ?_, rfl, rfl⟩)
    all_goals ((first | unfold rgbHue | unfold rgbSat); unfold feq; simp [*]; done)
end
section
local macro_rules | `(tactic| walk_at "call ref") => `(tactic| (k_here; (with_reducible show wpAny _ _ (call (Value.ref 78) [Value.float _ _, Value.float _ _, Value.float _ _]) _ _ _); k_dflt (refine' Ctr.use (rgb ?r0) ?kd ?ku ?k1 ?k2 ?k3 ?k4 ?k5 ?k6 ?_; (case kd => exact Nat.le_of_ble_eq_true rfl); (case ku => exact Nat.le_of_ble_eq_true rfl); (case k1 => k_asm); (case k2 => k_asm); (case k3 => k_asm); (case k4 => k_asm); (case k5 => k_asm); (case k6 => first | exact rfl | assumption); (case r0 => with_reducible assumption)); (rintro r9 tl9 h9 tk9 F9 N9 hl9 ⟨q9, H9, S9, t1, t2, t3, eH, eS, eR, eT⟩); subst eR; subst eT; subst eH; subst eS; (try dsimp only [List.cons_append, List.nil_append] at N9); (try k_sweep)))
noncomputable abbrev fq (a : Int) : UInt64 := Float64.ofFrac (decide (a < 0) != decide ((16 : Int) < 0)) a.natAbs (Int.natAbs 16)
local macro_rules | `(tactic| walk_at "call builtin:round") => `(tactic| (k_here; (with_reducible show wpAny _ _ (call _ [Value.float _ _]) _ _ _); k_dflt (refine' round_is ?k0 ?k1 ?_; (case k0 => exact rfl); (case k1 => with_reducible assumption))))
local macro_rules | `(tactic| walk_at "binaryOp FloorDiv int int") => `(tactic| (k_here; k_dflt (refine' fdiv_is ?k0 ?k2 ?k1 ?_; (case k1 => with_reducible assumption); (case k0 => omega); (case k2 => omega))))
local macro_rules | `(tactic| walk_at "compareOp Gt float float") => `(tactic| (k_here; k_dflt (refine' gt_is ?k0 ?_; (case k0 => with_reducible assumption))))
noncomputable def sideS (l : Bool) : Str := if l then "light" else "dark"
noncomputable def pathS (p : Int) : Str := "/" ++ Str.ofString (toString (p.fdiv 144)) ++ "/" ++ Str.ofString (toString ((p.fdiv 12).fmod 12)) ++ "/" ++ Str.ofString (toString (p.fmod 12))
section
variable {w : World} {t : Addr} {a b c : Int} {ta tb tc : Tok} {news : List (Addr × Obj)} {l : Bool} {sz pr pl : Int}
/-- _law_address of a colour -/
theorem addr_m (ht : (t, tupO [.int a ta, .int b tb, .int c tc] 0) ∈ news)
    (ha : 0 ≤ a ∧ a ≤ 16) (hb : 0 ≤ b ∧ b ≤ 16) (hc : 0 ≤ c ∧ c ≤ 16)
    (h0 : Kept (feq (fmin3 (fq a) (fq b) (fq c)) (fmax3 (fq a) (fq b) (fq c)) = false → Float64.isZero (fmax3 (fq a) (fq b) (fq c)) = false ∧ Float64.isZero (Float64.sub (fmax3 (fq a) (fq b) (fq c)) (fmin3 (fq a) (fq b) (fq c))) = false))
    (hl : Kept ((Float64.cmp (fmax3 (fq a) (fq b) (fq c)) 4602678819172646912 == some .gt) = l))
    (hsz : Kept (fround (Float64.mul (Float64.mul (Float64.ofInt 16) (rgbSat (fq a) (fq b) (fq c))) (fmax3 (fq a) (fq b) (fq c))) = some sz)) (hs0 : 0 ≤ sz) (hs1 : sz ≤ 16)
    (hpr : Kept (fround (Float64.mul (Float64.ofInt (864 * sz)) (rgbHue (fq a) (fq b) (fq c))) = some pr)) (hpl : Kept (pr.fdiv sz = pl)) (hp0 : 0 ≤ pl) (hp1 : pl < 864) :
    Ctr 500 300 w 97 [.ref t] news (fun tl r => ∃ q t1 t2, r = .ref q ∧ tl = [(q, tupO [.str (sideS l) t1, .str (if sz = 0 then ("/" : Str) else pathS pl) t2] 0)]) := by
  unfold Ctr
  k_fill
  intro mean mg mb gd cn cs a ccd cl outer A₀ base h₀ L m s Q E B F X N T hk hret
  refine wpAny_call ?_
  k_dflt ktr_enter
  k_steps
  all_goals first
    | (rw [if_pos (by assumption)] at hret; subst_vars; refine ret1 hret (by assumption) (by assumption) (List.mem_cons_self ..) (by walk_at "mine sub") (by walk_at "mine lt") ⟨_, _, _, rfl, rfl⟩)
    | (rw [if_neg (by assumption)] at hret; subst_vars; refine ret1 hret (by assumption) (by assumption) (List.mem_cons_self ..) (by walk_at "mine sub") (by walk_at "mine lt") ⟨_, _, _, rfl, rfl⟩)
    | trace_state
end
end
end
end Mine

namespace Mine
section
theorem above1 {news : List (Addr × Obj)} {q : Addr} {o : Obj} (h : ∀ p ∈ news, ∀ r ∈ [(q, o)], p.1 < r.1) : ∀ p ∈ news, p.1 < q := fun p hp => h p hp _ (List.mem_singleton.mpr rfl)
/-- a comprehension's source that is a tuple of the ledger's -/
noncomputable def SrcTup (prog : Program) (w : World) (A : Around) (h₀ : Heap) (L : Addr) (m : Str → Option Value) (env : Env) (elt : Expr) (x : Str) (scope : Scope) (cl : List (Str × Addr)) (Q : Value → Shared → Prop) (xv : Value) (s₁ : Shared) : Prop :=
  ∃ ax vs n news, xv = .ref ax ∧ A.handled = none ∧ Fr h₀ L s₁.heap m ∧ News h₀ L s₁.heap news ∧ (ax, tupO vs n) ∈ news ∧ vs.length ≤ sizeLine ∧
    ∀ s₂ : Shared, (∃ h, s₂ = { s₁ with heap := h }) → LCg.CompRest prog w A h₀ L m env elt x scope cl s₂ (fun nw => (ax, tupO vs n) ∈ nw) (fun i v => vs.toArray[i]? = some v) (LCg.FinE h₀ L m s₂ Q) vs.length 0 [] news
section
variable {prog : Program} {w : World} {A : Around} {E : Value → Shared → Prop} {s : Shared} {h₀ : Heap} {L : Addr} {m : Str → Option Value} {env : Env}
theorem SrcTup.intro {elt : Expr} {x : Str} {scope : Scope} {cl : List (Str × Addr)} {Q : Value → Shared → Prop} {ax : Addr} {vs : List Value} {n : Nat} {news : List (Addr × Obj)} {s₁ : Shared}
    (hh : A.handled = none) (F : Fr h₀ L s₁.heap m) (N : News h₀ L s₁.heap news) (hm : (ax, tupO vs n) ∈ news) (hsz : vs.length ≤ sizeLine)
    (h : ∀ g, LCg.CompRest prog w A h₀ L m env elt x scope cl { s₁ with heap := g } (fun nw => (ax, tupO vs n) ∈ nw) (fun i v => vs.toArray[i]? = some v) (LCg.FinE h₀ L m { s₁ with heap := g } Q) vs.length 0 [] news) :
    SrcTup prog w A h₀ L m env elt x scope cl Q (.ref ax) s₁ := ⟨ax, vs, n, news, rfl, hh, F, N, hm, hsz, fun _ ⟨g, e⟩ => e ▸ h g⟩
theorem tup_st {ax I : Addr} {vs : List Value} {n : Nat} : ∀ i (h h' : Heap) (o : Obj) (nw : List (Addr × Obj)), (h.IsTupleIter I ax i ∧ h.IsTuple ax vs.toArray) → h.get? I = some o → h'.get? I = some o → (∀ b o, h₀.get? b = some o → h'.get? b = some o) → News h₀ L h' nw → (ax, tupO vs n) ∈ nw → (h'.IsTupleIter I ax i ∧ h'.IsTuple ax vs.toArray) :=
  fun i h h' o nw st e e' _ N S => ⟨by obtain ⟨o', q, r⟩ := st.1; rw [e] at q; cases q; exact ⟨o, e', r⟩, ⟨_, N.get S, rfl, n, rfl⟩⟩
theorem ListComp_tup {elt iter : Expr} {x : Str} {px : Pos} {scope : Scope} {cl : List (Str × Addr)} {pos : Pos} {Q : Value → Shared → Prop} (_F₀ : Fr h₀ L s.heap m)
    (hclos : closureFor scope env = pure cl) (hcell : ∀ y ∈ scope.names, y.2 ≠ .cell) (hkind : scope.kind = .function)
    (hnames : ∀ y ∈ scope.names, y.2 = .local → scope.names.lookup y.1 = some .local) (hx : scope.names.lookup x = some .local)
    (h : wpAny (model prog w) A (eval iter env) (SrcTup prog w A h₀ L m env elt x scope cl Q) E s)
    (hs : ∀ x, foldedSetIterable iter env x = pure x := by intro _; rfl) :
    wpAny (model prog w) A (eval (.ListComp elt [⟨.Name x px, iter, [], 0⟩] scope pos) env) Q E s := by
  rw [eval_ListComp]
  refine wpAny_comprehension_free (use := none) rfl hs hclos hkind hnames (wpAny_mono h (fun xv s₁ h₁ => ?_) fun _ _ e => e)
  obtain ⟨ax, vs, n, news, rfl, hh, F, N, hm, hsz, R⟩ := h₁
  have hl : s₁.heap.IsTuple ax vs.toArray := ⟨_, N.get hm, rfl, n, rfl⟩
  have hlt : ax < s₁.heap.objs.size := Heap.lt_size (N.get hm)
  refine wpAny_pyIter_tuple hl ?_
  have up : ∀ b o, s₁.heap.get? b = some o → (s₁.heap.push { cls := .type "tuple_iterator", data := .fields #[.ref ax, .int 0 0] }).get? b = some o := fun b o e => Heap.get?_push_of_some _ e
  have W := Walks.tuple (prog := prog) (w := w) hh s₁.heap.objs.size ax (Nat.ne_of_lt hlt) vs.toArray
  rw [List.size_toArray] at W
  refine LCg.block_U (S := fun nw => (ax, tupO vs n) ∈ nw) W hsz (fun i h st => by obtain ⟨o, e, _⟩ := st.1; exact ⟨o, e⟩) tup_st hcell hkind hx ⟨⟨_, Heap.get?_push_size _ rfl, rfl, rfl⟩, hl.push _⟩ (fun b hb => ?_)
    (F.keeps up) (N.grown up) (Nat.ne_of_lt F.ns.lt) (next_is_new F) (fun p hp => Nat.ne_of_lt (Heap.lt_size (N p hp).1)) hm (R _ ⟨_, rfl⟩) ?_
  · show b < (s₁.heap.push _).objs.size
    rw [Heap.size_push]
    rcases List.mem_cons.mp hb with rfl | hb
    · exact Nat.lt_succ_self _
    · rw [List.mem_singleton.mp hb]; exact Nat.lt_succ_of_lt hlt
  · intro D C h tk m' ys news' F' N' o1 hn hC₀ hD₀ hCL hDL hCD offC fin
    refine ⟨m', hn, fun h'' hs'' => fin D h'' tk (F'.change hs'' hCL hC₀) (fun p hp => ?_) o1⟩
    refine ⟨hs''.extBut _ _ ?_ (N' p hp).1, (N' p hp).2⟩
    rcases List.mem_cons.mp hp with rfl | hp
    · exact Ne.symm hCD
    · exact offC p hp
theorem ld_free {M : Model} {C c : Addr} {news : List (Addr × Obj)} {scope : Scope} {cl : List (Str × Addr)} {x : Str} {pos : Pos} {v : Value} {o : Obj} {Q : Value → Shared → Prop}
    (N : News h₀ L s.heap news) (hc : cl.lookup x = some c) (hm : (c, o) ∈ news) (hd : o.data = .cell (some v)) (h : Q v s)
    (hk : (compEnvC scope cl C env).scope.kind = .function := by rfl) (hx : (compEnvC scope cl C env).kindOf x = some .free := by rfl) (hb : (x == ("__debug__" : Str)) = false := by decide) (hn : (x == ("__classdict__" : Str)) = false := by decide) :
    wpAny M A (eval (.Name x pos) (compEnvC scope cl C env)) Q E s := wpAny_Name (wpAny_loadName_free hk hx hc ⟨o, N.get hm, hd⟩ h hn) hb
end
section
variable {h₀ h' : Heap} {L I C D a : Addr} {m : Str → Option Value} {s₁ : Shared} {oI oC oD o : Obj} {S : List (Addr × Obj) → Prop} {rest : Value → List (Addr × Obj) → Prop} {y : Value} {tk : Nat} {news : List (Addr × Obj)}
/-- the end of an element that made nothing -/
theorem compEnd0 (F : Fr h₀ L h' m) (off : LCg.Off3 I C D news) (N : News h₀ L h' ((I, oI) :: (C, oC) :: (D, oD) :: news)) (hS : S news) (r : rest y news) :
    LCg.CompEnd h₀ L m s₁ I oI C oC D oD S rest y { s₁ with heap := h', toks := tk } := LCg.CompEnd.intro F N news (fun _ hp => hp) off hS r
theorem off1a (h : LCg.Off1 D news) (hm : (a, o) ∈ news) : (a : Nat) ≠ D := off1D h _ hm
theorem off1b (h : LCg.Off1 D news) (hm : (a, o) ∈ news) : (D : Nat) ≠ a := Ne.symm (off1D h _ hm)
end
/-- of what stands ahead of the old ledger, that which is known to lie above it -/
inductive Sel (news : List (Addr × Obj)) : List (Addr × Obj) → List (Addr × Obj) → Prop
  | nil : Sel news news []
  | cons {q : Addr × Obj} {all tl : List (Addr × Obj)} : (∀ p ∈ news, p.1 < q.1) → Sel news all tl → Sel news (q :: all) (q :: tl)
  | skip {q : Addr × Obj} {all tl : List (Addr × Obj)} : Sel news all tl → Sel news (q :: all) tl
theorem Sel.mem {news all tl : List (Addr × Obj)} (h : Sel news all tl) : (∀ p ∈ tl, p ∈ all ∧ ∀ q ∈ news, q.1 < p.1) ∧ ∀ p ∈ news, p ∈ all := by
  induction h with
  | nil => exact ⟨fun _ hp => (nomatch hp), fun _ hp => hp⟩
  | cons h _ ih => exact ⟨fun p hp => by
      rcases List.mem_cons.mp hp with rfl | hp
      · exact ⟨.head _, h⟩
      · exact ⟨.tail _ (ih.1 p hp).1, (ih.1 p hp).2⟩, fun p hp => .tail _ (ih.2 p hp)⟩
  | skip _ ih => exact ⟨fun p hp => ⟨.tail _ (ih.1 p hp).1, (ih.1 p hp).2⟩, fun p hp => .tail _ (ih.2 p hp)⟩
theorem retSel {h₀ h' : Heap} {L : Addr} {m : Str → Option Value} {news news₁ all tl : List (Addr × Obj)} {s : Shared} {Q : Value → Shared → Prop} {Post : List (Addr × Obj) → Value → Prop} {tk' : Nat} {v : Value}
    (hret : ∀ r tl h' tk', Fr h₀ L h' m → News h₀ L h' (tl ++ news) → (∀ q ∈ news, ∀ p ∈ tl, q.1 < p.1) → Post tl r → Q r { s with heap := h', toks := tk' })
    (F : Fr h₀ L h' m) (N : News h₀ L h' all) (hp : Sel news₁ all tl) (hs : ∀ p ∈ news, p ∈ news₁) (hP : Post tl v) : Q v { s with heap := h', toks := tk' } :=
  hret v tl h' tk' F (fun p hq => by
    rcases List.mem_append.mp hq with hq | hq
    · exact N p (hp.mem.1 p hq).1
    · exact N p (hp.mem.2 p (hs p hq))) (fun q hq p hp' => (hp.mem.1 p hp').2 q (hs q hq)) hP
theorem sub_cons {news l : List (Addr × Obj)} {q : Addr × Obj} (h : ∀ p ∈ news, p ∈ l) : ∀ p ∈ news, p ∈ q :: l := fun p hp => .tail _ (h p hp)
/-- hsv_to_rgb of a full colour, its three parts told -/
theorem hsv' {w : World} {h x y z : UInt64} {i : Int} {t0 t1 t2 : Tok} {news : List (Addr × Obj)}
    (hi : Kept ((if Float64.isFinite (Float64.mul h 4618441417868443648) = true then some (toInt Float64.truncOf (Float64.mul h 4618441417868443648)) else none) = some i)) (hi0 : 0 ≤ i) (hi1 : i ≤ 6)
    (hv : Kept (hsvK (i.fmod 6) (Float64.sub (Float64.mul h 4618441417868443648) (Float64.ofInt i)) = (x, y, z))) :
    Ctr 600 400 w 85 [.float h t0, .float 4607182418800017408 t1, .float 4607182418800017408 t2] news
      (fun tl v => ∃ q a1 a2 a3, v = .ref q ∧ tl = [(q, tupO [.float x a1, .float y a2, .float z a3] 0)]) := by
  intro mean mg mb gd cn cs a ccd cl outer A₀ base h₀ L m s Q E B F X N T hk hret
  refine hsv hi hi0 hi1 mean mg mb gd cn cs a ccd cl outer A₀ base h₀ L m s Q E B F X N T hk ?_
  rintro r tl h' tk' F' N' hl ⟨q, x', y', z', a1, a2, a3, e, rfl, rfl⟩
  rw [hv.out] at e
  cases e
  exact hret _ _ _ _ F' N' hl ⟨q, a1, a2, a3, rfl, rfl⟩
def Stop (P : Prop) : Prop := P
theorem stopHere {P : Prop} (h : Stop P) : P := h
end
end Mine

set_option maxHeartbeats 2000000
namespace Mine
section
theorem eq_pair {prog : Program} {w : World} {A : Around} {E : Value → Shared → Prop} {s : Shared} {Q : Value → Shared → Prop} {h₀ : Heap} {L b o : Addr} {s1 p1 s2 p2 : Str} {a1 a2 a3 a4 : Tok} {news : List (Addr × Obj)}
    (N : News h₀ L s.heap news) (hb : (b, tupO [.str s1 a1, .str p1 a2] 0) ∈ news) (ho : (o, tupO [.str s2 a3, .str p2 a4] 0) ∈ news) (k1 : Kept (PyData.strOk s1 = true ∧ PyData.strOk p1 = true)) (k2 : Kept (PyData.strOk s2 = true ∧ PyData.strOk p2 = true)) (hu : A.units + 64 < cLine) (h : Q (.bool (s1 == s2 && p1 == p2)) s) :
    wpAny (model prog w) A (compareOp .Eq (.ref b) (.ref o)) Q E s := by
  refine eq_dataH (da := .tuple [.str s1, .str p1]) (db := .tuple [.str s2, .str p2]) (reads_tuple_at (N.get hb) rfl rfl (ReadsAll.cons (Reads.str _ _) (ReadsAll.cons (Reads.str _ _) ReadsAll.nil))) (reads_tuple_at (N.get ho) rfl rfl (ReadsAll.cons (Reads.str _ _) (ReadsAll.cons (Reads.str _ _) ReadsAll.nil))) (by simp [SeqAt.shaped, PyData.canLay0, PyData.canLayAll0, PyData.depth, PyData.depthAll, k1.out]) (by simp [SeqAt.shaped, PyData.canLay0, PyData.canLayAll0, PyData.depth, PyData.depthAll, k2.out]) hu ?_
  have e : PyData.eqv (.tuple [.str s1, .str p1]) (.tuple [.str s2, .str p2]) = (s1 == s2 && p1 == p2) := by
    simp [PyData.eqv, PyData.eqvAll]
  rw [e]; exact h
local macro_rules | `(tactic| walk_at "compareOp Eq ref ref") => `(tactic| (k_here; k_dflt (refine' eq_pair ?k0 ?k1 ?k2 ?k4 ?k5 ?k3 ?_; (case k0 => k_asm); (case k1 => k_mem); (case k2 => k_mem); (case k4 => with_reducible assumption); (case k5 => with_reducible assumption); (case k3 => exact Nat.le_of_ble_eq_true rfl))))
/-- what is_suburi answers -/
noncomputable def subB (s1 p1 s2 p2 : Str) : Bool :=
  if (s1 == s2 && p1 == p2) = true then true else if (s1 != s2) = true then false
  else if (Txt.slice p1 (some (-1)) none != Str.ofString "/") = true then Txt.startswith p2 (p1 ++ Str.ofString "/") else Txt.startswith p2 p1
theorem suburi {w : World} {g b o : Addr} {s1 p1 s2 p2 : Str} {a1 a2 a3 a4 : Tok} {news : List (Addr × Obj)} (hb : (b, tupO [.str s1 a1, .str p1 a2] 0) ∈ news) (ho : (o, tupO [.str s2 a3, .str p2 a4] 0) ∈ news)
    (hl1 : p1.length ≤ 1000) (hl2 : p2.length ≤ 1000) (k1 : Kept (PyData.strOk s1 = true ∧ PyData.strOk p1 = true)) (k2 : Kept (PyData.strOk s2 = true ∧ PyData.strOk p2 = true)) :
    Ctr 600 400 w 64 [.ref g, .ref b, .ref o] news (fun tl v => tl = [] ∧ v = .bool (subB s1 p1 s2 p2)) := by
  unfold Ctr
  k_fill
  intro mean mg mb gd cn cs a ccd cl outer A₀ base h₀ L m s Q E B F X N T hk hret
  refine wpAny_call ?_
  k_dflt ktr_enter
  k_steps
  all_goals (refine ret0 hret (by assumption) (by assumption) (fun _ h => h) ⟨rfl, ?_⟩; unfold subB)
  · rw [if_pos (by assumption)]
  · rw [if_neg (by simp [*]), if_pos (by assumption)]
  · rw [if_neg (by simp [*]), if_neg (by simp [*]), if_pos (by assumption)]
  · rw [if_neg (by simp [*]), if_neg (by simp [*]), if_neg (by simp [*])]
end
end Mine

set_option maxHeartbeats 4000000
namespace Mine
section
noncomputable abbrev Row3 := Addr × Value × Value × Value
/-- an element's end: nothing that is in the ledger has changed, and the value is v -/
noncomputable def End3 (h₀ : Heap) (L : Addr) (m : Str → Option Value) (s₁ : Shared) (led : List (Addr × Obj)) (v y : Value) (s' : Shared) : Prop :=
  ∃ h' tk', s' = { s₁ with heap := h', toks := tk' } ∧ Fr h₀ L h' m ∧ News h₀ L h' led ∧ y = v
/-- the source of a comprehension «for x1, x2, x3 in rows» whose element makes nothing: the ledger's rows, each turn, the end -/
noncomputable def Src3 (prog : Program) (w : World) (A : Around) (h₀ : Heap) (L : Addr) (m : Str → Option Value) (env : Env) (elt : Expr) (x1 x2 x3 : Str) (scope : Scope) (cl : List (Str × Addr)) (Q : Value → Shared → Prop) (xv : Value) (s₁ : Shared) : Prop :=
  ∃ (ax : Addr) (rows : List Row3) (f : Row3 → Value) (n : Nat) (news : List (Addr × Obj)), xv = .ref ax ∧ A.handled = none ∧ Fr h₀ L s₁.heap m ∧ News h₀ L s₁.heap news ∧
    (ax, lstO (rows.map fun r => Value.ref r.1) n) ∈ news ∧ (∀ r ∈ rows, (r.1, tupO [r.2.1, r.2.2.1, r.2.2.2] 0) ∈ news) ∧ rows.length ≤ sizeLine ∧
    (∀ r ∈ rows, ∀ I oI C oC D ys m₂ h tk (E' : Value → Shared → Prop), LCg.NsObj oC m₂ → m₂ x1 = some r.2.1 → m₂ x2 = some r.2.2.1 → m₂ x3 = some r.2.2.2 → Fr h₀ L h m → News h₀ L h ((I, oI) :: (C, oC) :: (D, LCg.lst ys) :: news) → LCg.Off3 I C D news →
      wpAny (model prog w) A (eval elt (compEnvC scope cl C env)) (End3 h₀ L m s₁ ((I, oI) :: (C, oC) :: (D, LCg.lst ys) :: news) (f r)) E' { s₁ with heap := h, toks := tk }) ∧
    ∀ D h tk, Fr h₀ L h m → News h₀ L h ((D, LCg.lst (rows.map f)) :: news) → (∀ p ∈ news, p.1 < D) → Q (.ref D) { s₁ with heap := h, toks := tk }
section
variable {prog : Program} {w : World} {A : Around} {E : Value → Shared → Prop} {s : Shared} {h₀ : Heap} {L : Addr} {m : Str → Option Value} {env : Env}
theorem ListComp3 {elt iter : Expr} {x1 x2 x3 : Str} {p1 p2 p3 tp : Pos} {tk} {scope : Scope} {cl : List (Str × Addr)} {pos : Pos} {Q : Value → Shared → Prop} (_F₀ : Fr h₀ L s.heap m)
    (hclos : closureFor scope env = pure cl) (hcell : ∀ y ∈ scope.names, y.2 ≠ .cell) (hkind : scope.kind = .function)
    (hnames : ∀ y ∈ scope.names, y.2 = .local → scope.names.lookup y.1 = some .local) (hx1 : scope.names.lookup x1 = some .local) (hx2 : scope.names.lookup x2 = some .local) (hx3 : scope.names.lookup x3 = some .local)
    (h12 : x1 ≠ x2) (h13 : x1 ≠ x3) (h23 : x2 ≠ x3)
    (h : wpAny (model prog w) A (eval iter env) (Src3 prog w A h₀ L m env elt x1 x2 x3 scope cl Q) E s)
    (hs : ∀ x, foldedSetIterable iter env x = pure x := by intro _; rfl) :
    wpAny (model prog w) A (eval (.ListComp elt [⟨.Tuple [.Name x1 p1, .Name x2 p2, .Name x3 p3] tk tp, iter, [], 0⟩] scope pos) env) Q E s := by
  rw [eval_ListComp]
  refine wpAny_comprehension_free (use := none) rfl hs hclos hkind hnames (wpAny_mono h (fun xv s₁ h₁ => ?_) fun _ _ e => e)
  obtain ⟨ax, rows, f, nn, news, rfl, hh, F, N, hm, hrow, hsz, turn, fin⟩ := h₁
  have hl : s₁.heap.IsList ax (rows.map fun r => Value.ref r.1).toArray := News.isList N hm
  have hlt : ax < s₁.heap.objs.size := Heap.lt_size (N.get hm)
  refine wpAny_pyIter_list hl ?_
  generalize hH1 : s₁.heap.push { cls := .type "list_iterator", data := .fields #[.ref ax, .int 0 0] } = H1
  have up1 : ∀ b o, s₁.heap.get? b = some o → H1.get? b = some o := fun b o e => hH1 ▸ Heap.get?_push_of_some _ e
  have sz1 : H1.objs.size = s₁.heap.objs.size + 1 := by rw [← hH1, Heap.size_push]
  have hit1 : H1.IsListIter s₁.heap.objs.size ax 0 := hH1 ▸ ⟨_, Heap.get?_push_size _ rfl, rfl, rfl⟩
  refine wpAny_newObj_type (wpAny_newFunctionEnv hcell (by intro y hy; simp at hy) (fun h₁ hns₁ hsb₁ => ?_) hkind)
  dsimp only at hns₁ hsb₁ ⊢
  generalize hH2 : H1.push { cls := .type "list", dict := none, data := .seq ([] : List Value).toArray } = H2 at hns₁ hsb₁ ⊢
  have sz2 : H2.objs.size = s₁.heap.objs.size + 1 + 1 := by rw [← hH2, Heap.size_push, sz1]
  have up2 : ∀ b o, H1.get? b = some o → H2.get? b = some o := fun b o e => hH2 ▸ Heap.get?_push_of_some _ e
  rw [sz2] at hns₁ hsb₁ ⊢
  rw [sz1]
  generalize hI : s₁.heap.objs.size = I at *
  have ltI : ∀ b o, s₁.heap.get? b = some o → b < I := fun b o e => hI ▸ Heap.lt_size e
  have old : ∀ b o, s₁.heap.get? b = some o → h₁.get? b = some o := fun b o e => hsb₁.extBut b o (Nat.ne_of_lt (Nat.lt_succ_of_lt (Nat.lt_succ_of_lt (ltI b o e)))) (Heap.get?_push_of_some _ (up2 b o (up1 b o e)))
  have hacc : h₁.get? (I + 1) = some (LCg.lst []) := hsb₁.extBut _ _ (Nat.ne_of_lt (Nat.lt_succ_self _)) (Heap.get?_push_of_some _ (by rw [← hH2, ← sz1]; exact Heap.get?_push_size _ rfl))
  have hit₁ : h₁.IsListIter I ax 0 := by
    obtain ⟨o, e, r⟩ := hit1
    exact ⟨o, hsb₁.extBut _ _ (Nat.ne_of_lt (Nat.lt_succ_of_lt (Nat.lt_succ_self _))) (Heap.get?_push_of_some _ (up2 _ _ e)), r⟩
  have fresh₀ : ∀ a, I ≤ a → h₀.get? a = none := fun a ha => by
    cases e : h₀.get? a with
    | none => rfl
    | some o' => exact absurd (ltI _ _ (F.keep a o' e)) (Nat.not_lt.mpr ha)
  have hLI : L < I := hI ▸ F.ns.lt
  have newsLt : ∀ p ∈ news, p.1 < I := fun p hp => ltI _ _ (N p hp).1
  have off : LCg.Off3 I (I + 1 + 1) (I + 1) news := LCg.Off3.of fun p hp => ⟨Nat.ne_of_lt (newsLt p hp), Nat.ne_of_lt (Nat.lt_succ_of_lt (Nat.lt_succ_of_lt (newsLt p hp))), Nat.ne_of_lt (Nat.lt_succ_of_lt (newsLt p hp))⟩
  have W := Walks.list (prog := prog) (w := w) hh I ax (Nat.ne_of_lt hlt) (rows.map fun r => Value.ref r.1).toArray
  have hWn : (rows.map fun r => Value.ref r.1).toArray.size = rows.length := by simp
  rw [hWn] at W
  have loop : ∀ s₃ : Shared, s₃ = { s₁ with heap := h₁, toks := s₁.toks + ([] : List (Str × Value)).length } →
      codeAny (model prog w) A (.compLoop (.ListComp elt [⟨.Tuple [.Name x1 p1, .Name x2 p2, .Name x3 p3] tk tp, iter, [], 0⟩] scope pos) 0 (.ref I) (.ref (I + 1)) (compEnvC scope cl (I + 1 + 1) env))
        (compPost (model prog w) A E none Q (.ref (I + 1)) (I + 1 + 1)) s₃ := by
    rintro s₃ rfl
    refine LCp.codeAny_compLoop_pair
      (fun k s' => ∃ h' tk' i m', s' = { s₁ with heap := h', toks := tk' } ∧ i ≤ rows.length ∧ k = rows.length + 1 - i ∧ (h'.IsListIter I ax i ∧ h'.IsList ax (rows.map fun r => Value.ref r.1).toArray) ∧ Fr h₀ L h' m ∧ h'.Ns (I + 1 + 1) m' ∧ News h₀ L h' ((I + 1, LCg.lst ((rows.take i).map f)) :: news)) ?_ (rows.length + 1)
      ⟨h₁, _, 0, _, rfl, Nat.zero_le _, rfl, ⟨hit₁, hl.at fun o e => old _ o e⟩, F.keeps old, hns₁, fun p hp => ?_⟩
    · rintro k s' ⟨h', tk', i, m', rfl, hi, rfl, hst', F', hn', N'⟩
      by_cases hlti : i < rows.length
      · refine W.item i _ _ _ hlti hst' fun v h₂ tk₂ hPv hst₂ hk₂ => ?_
        obtain ⟨r, hr⟩ : ∃ r, rows[i]? = some r := ⟨_, List.getElem?_eq_getElem hlti⟩
        have hv : v = .ref r.1 := by
          have : (rows.map fun r => Value.ref r.1)[i]? = some v := by simpa using hPv
          rw [List.getElem?_map, hr] at this
          exact (Option.some.inj this).symm
        subst hv
        have hrm : r ∈ rows := List.mem_of_getElem? hr
        have N₂ : News h₀ L h₂ ((I + 1, LCg.lst ((rows.take i).map f)) :: news) := LCg.news_but N' hk₂ fun p hp => by
          rcases List.mem_cons.mp hp with rfl | hp
          · exact Nat.ne_of_gt (Nat.lt_succ_self I)
          · exact Nat.ne_of_lt (newsLt p hp)
        have ht : IsTup h₂ r.1 #[r.2.1, r.2.2.1, r.2.2.2] := ⟨_, (N₂ _ (List.mem_cons_of_mem _ (hrow r hrm))).1, rfl, 0, rfl⟩
        refine wpAny_letOwnedTupleGo_listiter hst₂.1 ?_
        refine assign_Tuple_tuple hh ht rfl rfl fun h₅ he => ?_
        have he' : ∀ b o, h₂.get? b = some o → h₅.get? b = some o := fun b o e => he b o (Nat.ne_of_lt (Heap.lt_size e)) e
        refine assignInOrder_cons (wpAny_assign_Name (wpAny_storeName_local (lookup_relabel_local hx1) ((hn'.at' fun o e => hk₂ _ o (by rw [List.mem_singleton]; exact Nat.ne_of_gt (Nat.lt_succ_of_lt (Nat.lt_succ_self I))) e).at' fun o e => he' _ o e) (fun h₆ hn₆ hs₆ => ?_) (by simp [compEnvC, relabel, hkind])))
        refine assignInOrder_cons (wpAny_assign_Name (wpAny_storeName_local (lookup_relabel_local hx2) hn₆ (fun h₇ hn₇ hs₇ => ?_) (by simp [compEnvC, relabel, hkind])))
        refine assignInOrder_cons (wpAny_assign_Name (wpAny_storeName_local (lookup_relabel_local hx3) hn₇ (fun h₃ hn₃ hs₃ => ?_) (by simp [compEnvC, relabel, hkind])))
        refine assignInOrder_nil ?_
        have old3 : ∀ b o, b ≠ I + 1 + 1 → h₂.get? b = some o → h₃.get? b = some o := fun b o hb e => hs₃.extBut b o hb (hs₇.extBut b o hb (hs₆.extBut b o hb (he' b o e)))
        obtain ⟨oI, heI, hcI⟩ := hst₂.1
        have heI₃ := old3 _ _ (Nat.ne_of_lt (Nat.lt_succ_of_lt (Nat.lt_succ_self I))) heI
        obtain ⟨oC, heC, hoC⟩ := LCg.ns_obj hn₃
        have hC₀ : h₀.get? (I + 1 + 1) = none := fresh₀ _ (Nat.le_succ_of_le (Nat.le_succ _))
        have hCL : I + 1 + 1 ≠ L := Nat.ne_of_gt (Nat.lt_succ_of_lt (Nat.lt_succ_of_lt hLI))
        have F₃ : Fr h₀ L h₃ m := ((((LCg.fr_but F' hk₂ (Nat.ne_of_lt hLI) (fresh₀ _ (Nat.le_refl _))).keeps he').change hs₆ hCL hC₀).change hs₇ hCL hC₀).change hs₃ hCL hC₀
        have N₃ : News h₀ L h₃ ((I, oI) :: (I + 1 + 1, oC) :: (I + 1, LCg.lst ((rows.take i).map f)) :: news) := fun p hp => by
          rcases List.mem_cons.mp hp with rfl | hp
          · exact ⟨heI₃, Nat.ne_of_gt hLI, fresh₀ _ (Nat.le_refl _)⟩
          · rcases List.mem_cons.mp hp with rfl | hp
            · exact ⟨heC, hCL, hC₀⟩
            · have z := N₂ p hp
              refine ⟨old3 _ _ ?_ z.1, z.2⟩
              rcases List.mem_cons.mp hp with rfl | hp
              · exact Nat.ne_of_lt (Nat.lt_succ_self _)
              · exact Nat.ne_of_lt (Nat.lt_succ_of_lt (Nat.lt_succ_of_lt (newsLt p hp)))
        refine wpAny_mono (turn r hrm I oI (I + 1 + 1) oC (I + 1) _ _ h₃ _ _ hoC (by simp [h12, h13]) (by simp [h23]) (by simp) F₃ N₃ off) (fun y s₄ h₄ => ?_) fun _ _ e => e
        obtain ⟨h₄, tk₄, rfl, F₄, N₄, rfl⟩ := h₄
        have zI := (N₄ (I, oI) List.mem_cons_self).1
        have zC := (N₄ (I + 1 + 1, oC) (List.mem_cons_of_mem _ List.mem_cons_self)).1
        have zD := (N₄ (I + 1, LCg.lst ((rows.take i).map f)) (List.mem_cons_of_mem _ (List.mem_cons_of_mem _ List.mem_cons_self))).1
        have N₄' : News h₀ L h₄ news := fun p hp => N₄ p (List.mem_cons_of_mem _ (List.mem_cons_of_mem _ (List.mem_cons_of_mem _ hp)))
        have hD₀ : h₀.get? (I + 1) = none := fresh₀ _ (Nat.le_succ _)
        have hDL : I + 1 ≠ L := Nat.ne_of_gt (Nat.lt_succ_of_lt hLI)
        have hlen : ((rows.take i).map f).length = i := by simp; omega
        refine append_at (hsz := by show ((rows.take i).map f).toArray.size ≤ sizeLine; rw [List.size_toArray, hlen]; exact Nat.le_trans hi hsz) zD fun h₈ hs₈ hD₈ => ?_
        have htake : (rows.take (i + 1)).map f = (rows.take i).map f ++ [f r] := by rw [List.take_add_one, hr]; simp
        refine ⟨rows.length + 1 - (i + 1), by omega, h₈, tk₄, i + 1, _, rfl, hlti, rfl, ⟨⟨oI, hs₈.extBut _ _ (Nat.ne_of_lt (Nat.lt_succ_self _)) zI, hcI⟩, ?_⟩, F₄.change hs₈ hDL hD₀, (hoC.ns zC).sameBut hs₈ (Nat.ne_of_gt (Nat.lt_succ_self _)), fun p hp => ?_⟩
        · exact (News.isList N₄' hm).at fun o e => hs₈.extBut _ _ (Nat.ne_of_lt (Nat.lt_succ_of_lt (newsLt _ hm))) e
        · rcases List.mem_cons.mp hp with rfl | hp
          · refine ⟨?_, hDL, hD₀⟩
            rw [htake]
            exact hD₈.trans (congrArg some (LCg.lst_snoc _ _))
          · exact ⟨hs₈.extBut _ _ (Nat.ne_of_lt (Nat.lt_succ_of_lt (newsLt p hp))) (N₄' p hp).1, (N₄' p hp).2⟩
      · obtain rfl : i = rows.length := Nat.le_antisymm hi (Nat.not_lt.mp hlti)
        refine W.done _ _ _ hst' fun h₂ tk₂ hk₂ => ?_
        have F₂ := LCg.fr_but F' hk₂ (Nat.ne_of_lt hLI) (fresh₀ _ (Nat.le_refl _))
        have N₂ : News h₀ L h₂ ((I + 1, LCg.lst ((rows.take rows.length).map f)) :: news) := LCg.news_but N' hk₂ fun p hp => by
          rcases List.mem_cons.mp hp with rfl | hp
          · exact Nat.ne_of_gt (Nat.lt_succ_self I)
          · exact Nat.ne_of_lt (newsLt p hp)
        rw [List.take_length] at N₂
        have hC₀ : h₀.get? (I + 1 + 1) = none := fresh₀ _ (Nat.le_succ_of_le (Nat.le_succ _))
        have hCL : I + 1 + 1 ≠ L := Nat.ne_of_gt (Nat.lt_succ_of_lt (Nat.lt_succ_of_lt hLI))
        refine ⟨m', hn'.at' fun o e => hk₂ _ o (by rw [List.mem_singleton]; exact Nat.ne_of_gt (Nat.lt_succ_of_lt (Nat.lt_succ_self I))) e, fun h'' hs'' => fin (I + 1) h'' tk₂ (F₂.change hs'' hCL hC₀) (fun p hp => ?_) fun p hp => Nat.lt_succ_of_lt (newsLt p hp)⟩
        refine ⟨hs''.extBut _ _ ?_ (N₂ p hp).1, (N₂ p hp).2⟩
        rcases List.mem_cons.mp hp with rfl | hp
        · exact Nat.ne_of_lt (Nat.lt_succ_self _)
        · exact Nat.ne_of_lt (Nat.lt_succ_of_lt (Nat.lt_succ_of_lt (newsLt p hp)))
    · rcases List.mem_cons.mp hp with rfl | hp
      · exact ⟨hacc, Nat.ne_of_gt (Nat.lt_succ_of_lt hLI), fresh₀ _ (Nat.le_succ _)⟩
      · exact ⟨old _ _ (N p hp).1, (N p hp).2⟩
  exact codeAny_compStart_list (loop _ rfl) (W.self 0 _ _ _ ⟨hit₁, hl.at fun o e => old _ o e⟩ (loop _ rfl))
end
end
end Mine

namespace Mine
section
noncomputable def imax3 (a b c : Int) : Int := if b > a then (if c > b then c else b) else (if c > a then c else a)
/-- max of a tuple of three ints -/
theorem max_tup {prog : Program} {w : World} {A : Around} {E : Value → Shared → Prop} {s : Shared} {Q : Value → Shared → Prop} {l : Addr} {a b c : Int} {t u x : Tok} {n : Nat} {h₀ : Heap} {L : Addr} {m : Str → Option Value} {news : List (Addr × Obj)}
    (hh : A.handled = none) (F : Fr h₀ L s.heap m) (N : News h₀ L s.heap news) (hm : (l, tupO [.int a t, .int b u, .int c x] n) ∈ news)
    (h : ∀ h' tk q, Fr h₀ L h' m → News h₀ L h' news → Q (.int (imax3 a b c) q) { s with heap := h', toks := tk }) :
    wpAny (model prog w) A (call (.builtin "max") [.ref l]) Q E s := by
  have hT : s.heap.IsTuple l (intItems #[(a, t), (b, u), (c, x)]) := ⟨_, N.get hm, rfl, n, by simp [intItems]⟩
  have hlt : l < s.heap.objs.size := Heap.lt_size (N.get hm)
  refine call_max_walk (wpAny_pyIter_tuple hT ?_)
  refine ⟨_, [_, l], [_], _, _, _, _, rfl, Walks.tuple (A := A.in1) hh _ l (Nat.ne_of_lt hlt) (intItems #[(a, t), (b, u), (c, x)]),
    ⟨⟨_, Heap.get?_push_size _ rfl, rfl, rfl⟩, hT.push _⟩, fun d hd => ?_, by simp [intItems], CmpOf.ints_gt (numAt #[(a, t), (b, u), (c, x)]) (fun _ _ => intItems_at), fun v h' tk hP hk => ?_⟩
  · show d < (s.heap.push _).objs.size
    rw [Heap.size_push]
    rcases List.mem_cons.mp hd with rfl | hd
    · exact Nat.lt_succ_self _
    · rw [List.mem_singleton.mp hd]; exact Nat.lt_succ_of_lt hlt
  · have hold : ∀ d o, s.heap.get? d = some o → h'.get? d = some o := fun d o e => by
      refine hk d o (fun hm => ?_) (Heap.get?_push_of_some _ e)
      have := Heap.lt_size e; rw [List.mem_singleton.mp hm] at this; exact Nat.lt_irrefl _ this
    have key := fun q => h h' tk q (F.grownK hold) (N.grown hold)
    have hP' : (intItems #[(a, t), (b, u), (c, x)])[argBest (fun i j => decide (numAt #[(a, t), (b, u), (c, x)] i > numAt #[(a, t), (b, u), (c, x)] j)) 2]? = some v := by
      have hsz2 : (intItems #[(a, t), (b, u), (c, x)]).size - 1 = 2 := by simp [intItems]
      rw [← hsz2]; exact hP
    have hv : ∃ q, v = .int (imax3 a b c) q := by
      unfold imax3
      by_cases hba : b > a <;> by_cases hc : c > b <;> by_cases hca : c > a <;>
        simp [argBest, numAt, intItems, hba, hc, hca] at hP' <;> (subst hP'; simp [hba, hc, hca])
    obtain ⟨q, rfl⟩ := hv
    exact key q
section
variable {prog : Program} {w : World} {A : Around} {E : Value → Shared → Prop} {s : Shared} {h₀ : Heap} {L : Addr} {m : Str → Option Value} {env : Env}
theorem compEnd_mono {s₁ : Shared} {I C D : Addr} {oI oC oD : Obj} {S : List (Addr × Obj) → Prop} {r r' : Value → List (Addr × Obj) → Prop} {y : Value} {s₂ : Shared} (h : LCg.CompEnd h₀ L m s₁ I oI C oC D oD S r y s₂) (hr : ∀ y n, r y n → r' y n) :
    LCg.CompEnd h₀ L m s₁ I oI C oC D oD S r' y s₂ := by
  obtain ⟨h', tk, n', e, F, N, o, hS, hh⟩ := h
  exact ⟨h', tk, n', e, F, N, o, hS, hr _ _ hh⟩
/-- a comprehension of any length by what holds between its turns -/
theorem compRest_inv {elt : Expr} {x : Str} {scope : Scope} {cl : List (Str × Addr)} {S : List (Addr × Obj) → Prop} {P : Nat → Value → Prop} {Fin : List Value → List (Addr × Obj) → Prop} (J : Nat → List Value → List (Addr × Obj) → Prop) (n : Nat)
    (turn : ∀ k ys news v I oI C oC D m₂ h tk (E' : Value → Shared → Prop), k < n → J k ys news → P k v → LCg.NsObj oC m₂ → m₂ x = some v → Fr h₀ L h m → News h₀ L h ((I, oI) :: (C, oC) :: (D, LCg.lst ys) :: news) → LCg.Off3 I C D news →
      wpAny (model prog w) A (eval elt (compEnvC scope cl C env)) (LCg.CompEnd h₀ L m { s with heap := h, toks := tk } I oI C oC D (LCg.lst ys) S (fun y news' => J (k + 1) (ys ++ [y]) news')) E' { s with heap := h, toks := tk })
    (fin : ∀ ys news, J n ys news → Fin ys news) :
    ∀ (k i : Nat) (ys : List Value) (news : List (Addr × Obj)), i + k = n → J i ys news → LCg.CompRest prog w A h₀ L m env elt x scope cl s S P Fin k i ys news := by
  intro k
  induction k with
  | zero => intro i ys news e hJ; exact fin ys news (by rw [← e]; exact hJ)
  | succ k ih =>
    intro i ys news e hJ
    refine LCg.CompRest.succ ?_
    intro v I oI C oC D m₂ h tk E' hP hC hx F N off ne
    exact wpAny_mono (turn i ys news v I oI C oC D m₂ h tk E' (by omega) hJ hP hC hx F N off) (fun y s₂ hy => compEnd_mono hy fun y n' hn => ih (i + 1) _ _ (by omega) hn) fun _ _ e => e
end
section
variable {prog : Program} {w : World} {A : Around} {E : Value → Shared → Prop} {s : Shared} {env : Env} {h₀ : Heap} {target : Expr} {body : List Stmt} {Q : Flow → Shared → Prop}
theorem unrPost_mono {L : Addr} {s₁ : Shared} {its : List (Addr × Obj)} {r r' : (Str → Option Value) → List (Addr × Obj) → Prop} {f : Flow} {s₂ : Shared} (h : UnrPostW h₀ L s₁ its r Q f s₂) (hr : ∀ m n, r m n → r' m n) : UnrPostW h₀ L s₁ its r' Q f s₂ := by
  have go : UnrEndW h₀ L s₁ its r s₂ → UnrEndW h₀ L s₁ its r' s₂ := by
    rintro ⟨h', tk, m', n', e, F, N, o, hh⟩
    exact ⟨h', tk, m', n', e, F, N, o, hr _ _ hh⟩
  cases f with
  | ret v => exact h
  | brk => exact h
  | next => exact go h
  | cont => exact go h
theorem allObj_of {ws : List (Addr × String)} {k : List (Addr × Obj) → Prop} (h : ∀ its, Objs ws its → k its) : AllObj ws k := by
  induction ws generalizing k with
  | nil => exact h [] trivial
  | cons w r ih => intro o ho; exact ih fun its hits => h _ ⟨⟨rfl, ho⟩, hits⟩
/-- a loop of any length by what holds between its turns -/
theorem items_inv {ws : List (Addr × String)} {keep : List (Addr × Obj)} (J : (Str → Option Value) → List (Addr × Obj) → Prop) :
    ∀ (xs : List Itm) (m : Str → Option Value) (news : List (Addr × Obj)),
    (∀ a ∈ xs, ∀ m₁ news₁ v h tk its, J m₁ news₁ → a.Is v h → Fr h₀ env.locals h m₁ → Objs ws its → News h₀ env.locals h (its ++ news₁) →
      wpAny (model prog w) A (assign target env v) (fun _ s₂ => wpAny (model prog w) A (execs body env) (UnrPostW h₀ env.locals { s with heap := h, toks := tk } its (fun m' n' => SubL keep n' ∧ J m' n') Q) E s₂) E { s with heap := h, toks := tk }) →
    (∀ m₁ news₁ h tk, J m₁ news₁ → Fr h₀ env.locals h m₁ → News h₀ env.locals h news₁ → Q .next { s with heap := h, toks := tk }) → J m news →
    ItemsRest prog w A E h₀ env target body Q s ws keep xs m news := by
  intro xs
  induction xs with
  | nil => intro m news _ fin hJ h tk F N; exact fin m news h tk hJ F N
  | cons a r ih =>
    intro m news turn fin hJ v h tk ha F
    refine allObj_of fun its hits N => ?_
    refine wpAny_mono (turn a List.mem_cons_self m news v h tk its hJ ha F hits N) (fun _ s₂ h₂ => wpAny_mono h₂ (fun f s₃ h₃ => unrPost_mono h₃ fun m' n' hh => ⟨hh.1, ih m' n' (fun b hb => turn b (List.mem_cons_of_mem _ hb)) fin hh.2⟩) fun _ _ e => e) fun _ _ e => e
end
inductive All2 {α β : Type} (R : α → β → Prop) : List α → List β → Prop
  | nil : All2 R [] []
  | cons {a : α} {b : β} {as : List α} {bs : List β} : R a b → All2 R as bs → All2 R (a :: as) (b :: bs)
section
variable {α β γ : Type} {R R' : α → β → Prop}
theorem All2.snoc {as : List α} {bs : List β} {a : α} {b : β} (h : All2 R as bs) (hab : R a b) : All2 R (as ++ [a]) (bs ++ [b]) := by
  induction h with
  | nil => exact .cons hab .nil
  | cons x _ ih => exact .cons x ih
theorem All2.mono {as : List α} {bs : List β} (h : All2 R as bs) (hr : ∀ a b, R a b → R' a b) : All2 R' as bs := by
  induction h with
  | nil => exact .nil
  | cons x _ ih => exact .cons (hr _ _ x) ih
theorem All2.length {as : List α} {bs : List β} (h : All2 R as bs) : as.length = bs.length := by
  induction h with
  | nil => rfl
  | cons _ _ ih => simp [ih]
end
theorem take_snoc {α : Type} {l : List α} {i : Nat} {a : α} (h : l[i]? = some a) : l.take (i + 1) = l.take i ++ [a] := by
  rw [List.take_add_one, h]; rfl
end
end Mine

namespace Mine
section
noncomputable abbrev Rng (a b c : Int) : Prop := (0 ≤ a ∧ a ≤ 16) ∧ (0 ≤ b ∧ b ≤ 16) ∧ (0 ≤ c ∧ c ≤ 16)
noncomputable def imin3 (a b c : Int) : Int := if b < a then (if c < b then c else b) else (if c < a then c else a)
noncomputable def lightC (a b c : Int) : Bool := decide (imax3 a b c > 8)
noncomputable def sideC (a b c : Int) : Str := sideS (lightC a b c)
noncomputable def rngC (a b c : Int) : Int := imax3 a b c - imin3 a b c
/-- six times the hue, in R-ths -/
noncomputable def numC (a b c : Int) : Int :=
  if a = imax3 a b c then (if b - c < 0 then 6 * rngC a b c + (b - c) else b - c)
  else if b = imax3 a b c then 2 * rngC a b c + (c - a)
  else 4 * rngC a b c + (a - b)
noncomputable def placeC (a b c : Int) : Int := (144 * numC a b c).fdiv (rngC a b c)
noncomputable abbrev greyC (a b c : Int) : Prop := imin3 a b c = imax3 a b c
noncomputable def pathC (a b c : Int) : Str := if greyC a b c then "/" else pathS (placeC a b c)
noncomputable def base2 (p : Int) : Str := "/" ++ Str.ofString (toString (p.fdiv 144))
noncomputable def base3 (p : Int) : Str := base2 p ++ "/" ++ Str.ofString (toString ((p.fdiv 12).fmod 12))
end
end Mine

namespace Mine
section
/-- a colour: a tuple of three ints -/
structure Col where
  q : Addr
  a : Int
  b : Int
  c : Int
  ta : Tok
  tb : Tok
  tc : Tok
noncomputable abbrev Col.obj (c : Col) : Obj := tupO [.int c.a c.ta, .int c.b c.tb, .int c.c c.tc] 0
structure Col.In (c : Col) (l : List (Addr × Obj)) : Prop where
  mem : (c.q, c.obj) ∈ l
  rng : Rng c.a c.b c.c
noncomputable abbrev colRefs (cs : List Col) : List Value := cs.map fun c => Value.ref c.q
noncomputable def ColsPost (tl : List (Addr × Obj)) (v : Value) : Prop := ∃ l k cs, v = .ref l ∧ (l, lstO (colRefs cs) k) ∈ tl ∧ cs.length ≤ 100 ∧ ∀ c ∈ cs, Col.In c tl
inductive IsBase (a b c : Int) : Str → Prop
  | self : IsBase a b c (pathC a b c)
  | two : ¬ greyC a b c → IsBase a b c (base2 (placeC a b c))
  | two' : ¬ greyC a b c → IsBase a b c (base2 (placeC a b c) ++ "/")
  | three : ¬ greyC a b c → IsBase a b c (base3 (placeC a b c))
  | three' : ¬ greyC a b c → IsBase a b c (base3 (placeC a b c) ++ "/")
/-- what stands at one place of addresses and of rows -/
structure Ent where
  a : Int
  b : Int
  c : Int
  adr : Addr
  t1 : Tok
  t2 : Tok
  row : Addr
  u1 : Tok
  u2 : Tok
noncomputable abbrev Ent.adrO (e : Ent) : Obj := tupO [.str (sideC e.a e.b e.c) e.t1, .str (pathC e.a e.b e.c) e.t2] 0
noncomputable abbrev Ent.rowO (e : Ent) : Obj := tupO [.bool (lightC e.a e.b e.c), .int (2 * e.a - e.b - e.c) e.u1, .int (e.b - e.c) e.u2] 0
structure Ent.In (e : Ent) (l : List (Addr × Obj)) : Prop where
  adrM : (e.adr, e.adrO) ∈ l
  rowM : (e.row, e.rowO) ∈ l
  rng : Rng e.a e.b e.c
theorem Ent.In.mono {e : Ent} {l l' : List (Addr × Obj)} (h : e.In l) (hs : ∀ p ∈ l, p ∈ l') : e.In l' := ⟨hs _ h.adrM, hs _ h.rowM, h.rng⟩
theorem Col.In.mono {e : Col} {l l' : List (Addr × Obj)} (h : e.In l) (hs : ∀ p ∈ l, p ∈ l') : e.In l' := ⟨hs _ h.mem, h.rng⟩
/-- a base: address, path, tokens -/
noncomputable abbrev Bas := Addr × Str × Tok × Tok
noncomputable abbrev basO (a b c : Int) (x : Bas) : Obj := tupO [.str (sideC a b c) x.2.2.1, .str x.2.1 x.2.2.2] 0
noncomputable def BasesP (news : List (Addr × Obj)) (a b c : Int) (tl : List (Addr × Obj)) (v : Value) : Prop :=
  ∃ l n, ∃ bs : List Bas, v = .ref l ∧ (l, lstO (bs.map fun x => Value.ref x.1) n) ∈ tl ∧ ∀ x ∈ bs, IsBase a b c x.2.1 ∧ (x.1, basO a b c x) ∈ tl ++ news
/-- what is_suburi says of a base's path and all addresses -/
noncomputable abbrev toldOf (a b c : Int) (p : Str) (es : List Ent) : List Value := es.map fun e => Value.bool (subB (sideC a b c) p (sideC e.a e.b e.c) (pathC e.a e.b e.c))
/-- as Ctr, with a premise on the ground (the script's list lies there) -/
noncomputable def CtrG (G : Heap → Prop) (dp un : Nat) (w : World) (f : Addr) (vs : List Value) (news : List (Addr × Obj)) (Post : List (Addr × Obj) → Value → Prop) : Prop :=
  ∀ (mean : ExcName → Option Value) (mg mb : Str → Option Value) (gd : Option (List Code)) (cn : Str) (cs : Scope) (a : Addr) (ccd : Value) (cl : List (Str × Addr)) (outer : List Env) (A₀ : Around) (base h₀ : Heap) (L : Addr) (m : Str → Option Value) (s : Shared)
    (Q E : Value → Shared → Prop),
    G h₀ → Below A₀ base outer h₀ → Fr h₀ L s.heap m → (Mine.hd.heap_39 w.params).In h₀ → News h₀ L s.heap news → Top Mine.hd.view_39 (looseW Mine.hd.view_39 []) mean mg mb h₀ → cs.kind = .function →
    (∀ r tl h' tk', Fr h₀ L h' m → News h₀ L h' (tl ++ news) → (∀ q ∈ news, ∀ p ∈ tl, q.1 < p.1) → Post tl r → Q r { s with heap := h', toks := tk' }) →
    wpAny (model PySem.Challenge.rw_mq0198_01.row.prog w) (ktrTop dp un gd cn cs L a ccd cl outer) (call (.ref f) vs) Q E s
theorem CtrG.use {G : Heap → Prop} {dp un dp' un' : Nat} {w : World} {f : Addr} {vs : List Value} {news : List (Addr × Obj)} {Post : List (Addr × Obj) → Value → Prop} {mean : ExcName → Option Value} {mg mb : Str → Option Value} {gd : Option (List Code)} {cn : Str} {cs : Scope} {a : Addr} {ccd : Value} {cl : List (Str × Addr)} {outer : List Env} {A₀ : Around} {base h₀ : Heap} {L : Addr} {m : Str → Option Value} {s : Shared}
    {Q E : Value → Shared → Prop} (C : CtrG G dp' un' w f vs news Post) (g : G h₀) (hd : dp ≤ dp') (hu : un ≤ un') (B : Below A₀ base outer h₀) (F : Fr h₀ L s.heap m) (X : (Mine.hd.heap_39 w.params).In h₀) (N : News h₀ L s.heap news) (T : Top Mine.hd.view_39 (looseW Mine.hd.view_39 []) mean mg mb h₀) (hk : cs.kind = .function)
    (ret : ∀ r tl h' tk', Fr h₀ L h' m → News h₀ L h' (tl ++ news) → (∀ q ∈ news, ∀ p ∈ tl, q.1 < p.1) → Post tl r → Q r { s with heap := h', toks := tk' }) :
    wpAny (model PySem.Challenge.rw_mq0198_01.row.prog w) (ktrTop dp un gd cn cs L a ccd cl outer) (call (.ref f) vs) Q E s := fun Γ p hΓ =>
  C mean mg mb gd cn cs a ccd cl outer A₀ base h₀ L m s Q E g B F X N T hk ret Γ p ⟨hΓ.1, Nat.le_trans hΓ.2.1 hd, hΓ.2.2.1, hΓ.2.2.2.1, Nat.le_trans hΓ.2.2.2.2 hu⟩
/-- what the law needs of the defs that it calls -/
structure Has (w : World) : Prop where
  drawn : ∀ {sl : Addr} {vs : List Value} {ns : List Int} {news : List (Addr × Obj)}, IntsAre vs ns → ns.length ≤ 63 → CtrG (fun h₀ => h₀.IsList sl vs.toArray) 400 200 w 90 [.ref sl] news ColsPost
  addr : ∀ {c : Col} {news : List (Addr × Obj)}, c.In news → Ctr 400 200 w 97 [.ref c.q] news (fun tl r => ∃ q t1 t2, r = .ref q ∧ tl = [(q, tupO [.str (sideC c.a c.b c.c) t1, .str (pathC c.a c.b c.c) t2] 0)])
  point : ∀ {c : Col} {news : List (Addr × Obj)}, c.In news → Ctr 400 200 w 111 [.ref c.q] news (fun tl r => ∃ q t1 t2, r = .ref q ∧ tl = [(q, tupO [.int (2 * c.a - c.b - c.c) t1, .int (c.b - c.c) t2] 0)])
  bases : ∀ {e : Ent} {news : List (Addr × Obj)}, e.In news → Ctr 400 200 w 104 [.ref e.adr] news (BasesP news e.a e.b e.c)
  sub : ∀ {g : Addr} {e o : Ent} {x : Bas} {news : List (Addr × Obj)}, Rng e.a e.b e.c → (x.1, basO e.a e.b e.c x) ∈ news → IsBase e.a e.b e.c x.2.1 → o.In news → Ctr 400 200 w 64 [.ref g, .ref x.1, .ref o.adr] news (fun tl v => tl = [] ∧ v = .bool (subB (sideC e.a e.b e.c) x.2.1 (sideC o.a o.b o.c) (pathC o.a o.b o.c)))
  cov : ∀ {e : Ent} {x : Bas} {es : List Ent} {rl : Addr} {n : Nat} {t0 : Tok} {news : List (Addr × Obj)}, Rng e.a e.b e.c → IsBase e.a e.b e.c x.2.1 → (rl, lstO (es.map fun e => Value.ref e.row) n) ∈ news → (∀ e ∈ es, e.In news) → es.length ≤ 100 →
    Ctr 400 200 w 121 [.bool (lightC e.a e.b e.c), .str x.2.1 t0, .ref rl] news (fun tl v => ∃ l k, v = .ref l ∧ (l, lstO (toldOf e.a e.b e.c x.2.1 es) k) ∈ tl)
end
end Mine

namespace Mine
section
theorem shaped_bools (bs : List Bool) : SeqAt.shaped (.list (bs.map PyData.bool)) = true := by
  have h1 : ∀ bs : List Bool, PyData.canLayAll0 (bs.map PyData.bool) = true := by
    intro bs; induction bs with
    | nil => rfl
    | cons _ _ ih => simp [PyData.canLayAll0, PyData.canLay0, ih]
  have h2 : ∀ bs : List Bool, PyData.depthAll (bs.map PyData.bool) = 0 := by
    intro bs; induction bs with
    | nil => rfl
    | cons _ _ ih => simp [PyData.depthAll, PyData.depth, ih]
  simp [SeqAt.shaped, PyData.canLay0, PyData.depth, h1, h2]
theorem eqv_bools (bs : List Bool) : PyData.eqv (.list (bs.map PyData.bool)) (.list (bs.map PyData.bool)) = true := by
  simp only [PyData.eqv]
  induction bs with
  | nil => rfl
  | cons _ _ ih => simp [PyData.eqvAll, PyData.eqv, ih]
theorem reads_bools (h : Heap) (bs : List Bool) : ReadsAll h (bs.map Value.bool) (bs.map PyData.bool) [] := by
  induction bs with
  | nil => exact .nil
  | cons b _ ih => exact ReadsAll.cons (Reads.bool b) ih
theorem ne_bools {prog : Program} {w : World} {A : Around} {E : Value → Shared → Prop} {s : Shared} {Q : Value → Shared → Prop} {h₀ : Heap} {L a b : Addr} {n n' : Nat} {news : List (Addr × Obj)} {bs : List Bool}
    (N : News h₀ L s.heap news) (ha : (a, lstO (bs.map Value.bool) n) ∈ news) (hb : (b, lstO (bs.map Value.bool) n') ∈ news) (hu : A.units + 64 < cLine) (h : Q (.bool false) s) :
    wpAny (model prog w) A (compareOp .NotEq (.ref a) (.ref b)) Q E s := by
  refine ne_dataH (da := .list (bs.map .bool)) (db := .list (bs.map .bool)) (reads_list_at (N.get ha) rfl rfl (by simpa using reads_bools _ bs)) (reads_list_at (N.get hb) rfl rfl (by simpa using reads_bools _ bs)) (shaped_bools bs) (shaped_bools bs) hu ?_
  rw [eqv_bools]; exact h
theorem zip_mem {es : List Ent} {a : Itm} (h : a ∈ zipItems (es.map fun e => Value.ref e.row) (es.map fun e => Value.ref e.adr)) : ∃ e ∈ es, a = .pair (fun _ => .ref e.row) (.ref e.adr) := by
  induction es with
  | nil => cases h
  | cons e r ih =>
    rcases List.mem_cons.mp h with h | h
    · exact ⟨e, .head _, h⟩
    · obtain ⟨e', h1, h2⟩ := ih h
      exact ⟨e', .tail _ h1, h2⟩
theorem news_perm {h₀ h : Heap} {L : Addr} {l l' : List (Addr × Obj)} (N : News h₀ L h l) (hs : ∀ p ∈ l', p ∈ l) : News h₀ L h l' := fun p hp => N p (hs p hp)
/-- the state between the law's turns: the map knows rows and addresses; the ledger is the base's cell and KK -/
noncomputable def JL (lR lA bA : Addr) (KK : List (Addr × Obj)) (m : Str → Option Value) (nw : List (Addr × Obj)) : Prop :=
  m (Str.ofString "rows") = some (.ref lR) ∧ m (Str.ofString "addresses") = some (.ref lA) ∧ ∃ ob, nw = (bA, ob) :: KK ∧ ∃ c, ob.data = .cell c
theorem subL_of {news : List (Addr × Obj)} : ∀ {keep : List (Addr × Obj)}, (∀ p ∈ keep, p ∈ news) → SubL keep news
  | [], _ => trivial
  | _ :: _, h => ⟨h _ (.head _), subL_of fun p hp => h p (.tail _ hp)⟩
/-- a turn's ledger: the base's cell first, all else behind -/
theorem turn_led {h₀ h : Heap} {L bA I : Addr} {ob : Obj} {its KK : List (Addr × Obj)} (N : News h₀ L h (its ++ (bA, ob) :: KK)) (hlt : bA < I) (hits : ∀ p ∈ its, I ≤ p.1) (hb : ∀ p ∈ KK, p.1 ≠ bA) :
    ∃ KT, (∀ p ∈ its, p ∈ KT) ∧ (∀ p ∈ KK, p ∈ KT) ∧ (∀ p ∈ KT, p.1 ≠ bA) ∧ News h₀ L h ((bA, ob) :: KT) := by
  refine ⟨its ++ KK, fun p hp => List.mem_append_left _ hp, fun p hp => List.mem_append_right _ hp, fun p hp => ?_, fun p hp => N p ?_⟩
  · rcases List.mem_append.mp hp with hp | hp
    · exact Nat.ne_of_gt (Nat.lt_of_lt_of_le hlt (hits p hp))
    · exact hb p hp
  · rcases List.mem_cons.mp hp with rfl | hp
    · exact List.mem_append_right _ (.head _)
    · rcases List.mem_append.mp hp with hp | hp
      · exact List.mem_append_left _ hp
      · exact List.mem_append_right _ (.tail _ hp)
/-- a turn's end: all that it made is dropped -/
theorem turn_end {h₀ h' : Heap} {L bA I : Addr} {ob' : Obj} {its KK all : List (Addr × Obj)} {rest : (Str → Option Value) → List (Addr × Obj) → Prop} {s₁ : Shared} {tk : Nat} {m' : Str → Option Value}
    (F : Fr h₀ L h' m') (N : News h₀ L h' all) (hlt : bA < I) (hltK : ∀ p ∈ KK, p.1 < I) (hits : ∀ p ∈ its, I ≤ p.1) (h1 : ∀ p ∈ its, p ∈ all) (h2 : ∀ p ∈ KK, p ∈ all) (h3 : (bA, ob') ∈ all) (r : rest m' ((bA, ob') :: KK)) :
    UnrEndW h₀ L s₁ its rest { s₁ with heap := h', toks := tk } := by
  refine ⟨h', tk, m', (bA, ob') :: KK, rfl, F, fun p hp => N p ?_, fun p hp q hq => ?_, r⟩
  · rcases List.mem_append.mp hp with hp | hp
    · exact h1 p hp
    rcases List.mem_cons.mp hp with rfl | hp
    · exact h3
    · exact h2 p hp
  · have hp' : p.1 < I := by
      rcases List.mem_cons.mp hp with rfl | hp
      · exact hlt
      · exact hltK p hp
    exact Nat.ne_of_lt (Nat.lt_of_lt_of_le hp' (hits q hq))
theorem objs_ge {I : Addr} : ∀ {ws : List (Addr × String)} {its : List (Addr × Obj)}, Objs ws its → (∀ q ∈ ws, I ≤ q.1) → ∀ p ∈ its, I ≤ p.1
  | [], [], _, _ => fun _ h => (nomatch h)
  | [], _ :: _, h, _ => (show False from h).elim
  | _ :: _, [], h, _ => (show False from h).elim
  | w :: ws, p :: ps, h, hw => fun q hq => by
    rcases List.mem_cons.mp hq with rfl | hq
    · rw [h.1.1]; exact hw _ (.head _)
    · exact objs_ge h.2 (fun q hq => hw q (.tail _ hq)) q hq
theorem mgr_led {h₀ h : Heap} {L b mA d9 x9 d8 : Addr} {o9 ox od ob om : Obj} {K : List (Addr × Obj)} (N : News h₀ L h ((d9, o9) :: (x9, ox) :: (d8, od) :: (b, ob) :: (mA, om) :: K)) (h1 : b < d8) (h2 : d8 < x9) (h3 : x9 < d9) (h4 : mA ≠ b) (nb : ∀ p ∈ K, p.1 ≠ b) :
    ∃ KK, (x9, ox) ∈ KK ∧ (d8, od) ∈ KK ∧ (mA, om) ∈ KK ∧ (∀ p ∈ K, p ∈ KK) ∧ (∀ p ∈ KK, p.1 ≠ b) ∧ News h₀ L h ((b, ob) :: KK) := by
  refine ⟨(d9, o9) :: (x9, ox) :: (d8, od) :: (mA, om) :: K, .tail _ (.head _), .tail _ (.tail _ (.head _)), .tail _ (.tail _ (.tail _ (.head _))), fun p hp => .tail _ (.tail _ (.tail _ (.tail _ hp))), fun p hp => ?_, fun p hp => N p ?_⟩
  · rcases List.mem_cons.mp hp with rfl | hp
    · exact Nat.ne_of_gt (Nat.lt_trans h1 (Nat.lt_trans h2 h3))
    rcases List.mem_cons.mp hp with rfl | hp
    · exact Nat.ne_of_gt (Nat.lt_trans h1 h2)
    rcases List.mem_cons.mp hp with rfl | hp
    · exact Nat.ne_of_gt h1
    rcases List.mem_cons.mp hp with rfl | hp
    · exact h4
    · exact nb p hp
  · rcases List.mem_cons.mp hp with rfl | hp
    · exact .tail _ (.tail _ (.tail _ (.head _)))
    rcases List.mem_cons.mp hp with rfl | hp
    · exact .head _
    rcases List.mem_cons.mp hp with rfl | hp
    · exact .tail _ (.head _)
    rcases List.mem_cons.mp hp with rfl | hp
    · exact .tail _ (.tail _ (.head _))
    · exact .tail _ (.tail _ (.tail _ (.tail _ hp)))
theorem zip_ge {I : Addr} {its : List (Addr × Obj)} (h : Objs [(I + 4, "zip"), (I + 2, "tuple"), (I + 3, "tuple"), (I, "list_iterator"), (I + 1, "list_iterator")] its) : ∀ p ∈ its, I ≤ p.1 :=
  objs_ge h (by intro q hq; simp only [List.mem_cons, List.mem_nil_iff, or_false] at hq; rcases hq with rfl | rfl | rfl | rfl | rfl <;> simp)
theorem list_ge {I : Addr} {its : List (Addr × Obj)} (h : Objs [(I, "list_iterator")] its) : ∀ p ∈ its, I ≤ p.1 :=
  objs_ge h (by intro q hq; simp only [List.mem_cons, List.mem_nil_iff, or_false] at hq; rcases hq with rfl; simp)
theorem val_mem {bs : List Bas} {a : Itm} (h : a ∈ (bs.map fun x => Value.ref x.1).map Itm.val) : ∃ x ∈ bs, a = .val (.ref x.1) := by
  simp only [List.map_map, List.mem_map, Function.comp] at h
  obtain ⟨x, hx, rfl⟩ := h
  exact ⟨x, hx, rfl⟩
theorem bas_in {a b c : Int} {x : Bas} {tl KT KT2 : List (Addr × Obj)} {bA : Addr} {ob : Obj} {v : Option Value} (h : (x.1, basO a b c x) ∈ tl ++ (bA, ob) :: KT) (hob : ob.data = .cell v) (h1 : ∀ p ∈ tl, p ∈ KT2) (h2 : ∀ p ∈ KT, p ∈ KT2) : (x.1, basO a b c x) ∈ KT2 := by
  rcases List.mem_append.mp h with h | h
  · exact h1 _ h
  rcases List.mem_cons.mp h with h | h
  · have e : ob = basO a b c x := (Prod.mk.inj h).2.symm
    rw [e] at hob
    cases hob
  · exact h2 _ h
theorem ents_get {es : List Ent} {k : Nat} {v : Value} (h : (es.map fun e => Value.ref e.adr).toArray[k]? = some v) : ∃ o, es[k]? = some o ∧ v = .ref o.adr := by
  have h' : (es.map fun e => Value.ref e.adr)[k]? = some v := by simpa using h
  rw [List.getElem?_map] at h'
  cases e : es[k]? with
  | none => rw [e] at h'; cases h'
  | some c => rw [e] at h'; exact ⟨c, rfl, (Option.some.inj h').symm⟩
/-- the answers of is_suburi, as bools -/
noncomputable abbrev boolsOf (a b c : Int) (p : Str) (es : List Ent) : List Bool := es.map fun e => subB (sideC a b c) p (sideC e.a e.b e.c) (pathC e.a e.b e.c)
theorem bools_snoc {a b c : Int} {p : Str} {es : List Ent} {k : Nat} {o : Ent} (h : es[k]? = some o) : ((boolsOf a b c p es).take (k + 1)).map Value.bool = ((boolsOf a b c p es).take k).map Value.bool ++ [Value.bool (subB (sideC a b c) p (sideC o.a o.b o.c) (pathC o.a o.b o.c))] := by
  rw [take_snoc (a := subB (sideC a b c) p (sideC o.a o.b o.c) (pathC o.a o.b o.c)) (by unfold boolsOf; rw [List.getElem?_map, h]; rfl), List.map_append]
  rfl
theorem told_eq (a b c : Int) (p : Str) (es : List Ent) : toldOf a b c p es = (es.map fun e => subB (sideC a b c) p (sideC e.a e.b e.c) (pathC e.a e.b e.c)).map Value.bool := by
  simp [toldOf, List.map_map]
noncomputable def BordPost (a b c a' b' c' : Int) (tl : List (Addr × Obj)) (v : Value) : Prop :=
  ∃ l n q q' t1 t2 t3 t4, v = .ref l ∧ (l, lstO [.ref q, .ref q'] n) ∈ tl ∧ (q, tupO [.int (2 * a - b - c) t1, .int (b - c) t2] 0) ∈ tl ∧ (q', tupO [.int (2 * a' - b' - c') t3, .int (b' - c') t4] 0) ∈ tl
end
end Mine

set_option maxHeartbeats 8000000
namespace Mine
section
local macro_rules | `(tactic| walk_at "mine sub") => `(tactic| first | exact (fun _ h => h) | exact (fun _ h => List.mem_cons_of_mem _ h) | exact (fun _ h => List.mem_cons_of_mem _ (List.mem_cons_of_mem _ h)) | exact (fun _ h => List.mem_cons_of_mem _ (List.mem_cons_of_mem _ (List.mem_cons_of_mem _ h))))
local macro_rules | `(tactic| walk_at "mine lt") => `(tactic| first | assumption | exact (fun p hp => ktn_ltOf (And.right (by assumption)) p hp) | exact (fun p hp => ktn_ltOf (And.right (And.right (by assumption))) p hp))
local macro_rules | `(tactic| walk_at "mine and") => `(tactic| first | with_reducible assumption | (apply And.right; first | with_reducible assumption | (apply And.right; first | with_reducible assumption | (apply And.right; first | with_reducible assumption | (apply And.right; first | with_reducible assumption | (apply And.right; first | with_reducible assumption | (apply And.right; first | with_reducible assumption | (apply And.right; first | with_reducible assumption | (apply And.right; first | with_reducible assumption | (apply And.right; first | with_reducible assumption | (apply And.right; first | with_reducible assumption | (apply And.right; first | with_reducible assumption | (apply And.right; with_reducible assumption)))))))))))))
local macro_rules | `(tactic| walk_at "mine off") => `(tactic| first
  | exact List.forall_mem_nil _
  | (refine List.forall_mem_cons.mpr ⟨by k_ne, ?_⟩; walk_at "mine off")
  | exact off_of_lt0 (by with_reducible assumption)
  | exact off_of_lt1 (by with_reducible assumption)
  | exact off_of_lt2 (by with_reducible assumption)
  | exact off_of_lt3 (by with_reducible assumption)
  | (refine off_of_allLt ?_; walk_at "mine and")
  | (refine off_of_allLt1 ?_; walk_at "mine and")
  | (refine off_of_allLt2 ?_; walk_at "mine and")
  | (refine off_of_allLt3 ?_; walk_at "mine and")
  | (apply off3I; walk_at "mine and")
  | (apply off3C; walk_at "mine and")
  | (apply off3D; walk_at "mine and")
  | (apply off1D; walk_at "mine and"))
local macro_rules | `(tactic| k_all) => `(tactic| walk_at "mine off")
local macro_rules | `(tactic| walk_at "mine drop") => `(tactic| first
  | (refine' Drop.here ?dH; (case dH => walk_at "mine off"))
  | (refine' Drop.tail ?dA ?dB; (case dA => k_ne); (case dB => walk_at "mine drop")))
local macro_rules | `(tactic| walk_at "pyIter ref") => `(tactic| (k_here; (with_reducible show wpAny _ _ (pyIter (Value.ref _)) (fun it s₂ => TurnsAt _ _ _ _ _ _ _ _ _ it s₂) _ _); k_dflt (first
  | (refine' iter_tup ?k0 ?k1 ?k2 ?k3 ?_; (case k0 => exact rfl); (case k1 => k_asm); (case k2 => k_asm); (case k3 => k_mem))
  | (refine' iter_lst ?k0 ?k1 ?k2 ?k3 ?_; (case k0 => exact rfl); (case k1 => k_asm); (case k2 => k_asm); (case k3 => k_mem))); intro i' l1; (try k_lt l1)))
local macro_rules | `(tactic| walk_at "UnrEndW") => `(tactic| (k_here; k_dflt (refine' unrEnd1 ?k0 ?k1 ?k2 ⟨⟨?k3, trivial⟩, ?_⟩; (case k0 => k_asm); (case k1 => k_asm); (case k2 => walk_at "mine drop"); (case k3 => k_mem))))
local macro_rules | `(tactic| walk_at "mine pre") => `(tactic| first | exact Pre.nil | (refine' Pre.cons ?pP; (case pP => walk_at "mine pre")))
local macro_rules | `(tactic| walk_at "mine low") => `(tactic| first
  | assumption
  | (refine ktn_ltOf ?_; walk_at "mine and"))
local macro_rules | `(tactic| walk_at "mine lows") => `(tactic| first
  | exact List.forall_mem_nil _
  | (refine List.forall_mem_cons.mpr ⟨?lA, ?lB⟩; (case lA => walk_at "mine low"); (case lB => walk_at "mine lows")))
local macro_rules | `(tactic| walk_at "CompEnd") => `(tactic| (k_here; k_dflt (refine' compEnd3 ?k0 ?k1 ?k2 ?k3 ?k4 ?k5 ?_; (case k0 => k_asm); (case k1 => k_asm); (case k2 => walk_at "mine drop"); (case k3 => walk_at "mine drop"); (case k4 => walk_at "mine drop"); (case k5 => exact Or.inr ⟨_, by k_mem, rfl, _, rfl⟩))))
local macro_rules | `(tactic| walk_at "subscriptTail Name Constant ref int") => `(tactic| (k_here; (with_reducible show wpAny _ _ (subscriptTail _ _ (Value.ref _) (Value.int _ _)) _ _ _); (with_unfolding_all refine' item_litK ?k1 ?k2 ?k3 ?k4 ?_ ?k6; (case k1 => exact News.isList (by assumption) (by k_mem)); (case k2 => decide); (case k3 => decide); (case k4 => rfl); (case k6 => with_unfolding_all rfl); k_whole)))
local macro_rules | `(tactic| walk_at "CompEnd") => `(tactic| (k_here; k_dflt (refine' compEnd3 ?k0 ?k1 ?k2 ?k3 ?k4 ?k5 ?_; (case k0 => k_asm); (case k1 => k_asm); (case k2 => walk_at "mine drop"); (case k3 => walk_at "mine drop"); (case k4 => walk_at "mine drop"); (case k5 => first | exact Or.inr ⟨_, by k_mem, rfl, _, rfl⟩ | k_mem))))
local macro_rules | `(tactic| k_ne) => `(tactic| (refine neN ?_; (try dsimp only); first | exact off1a (by with_reducible assumption) (by k_mem) | exact off1b (by with_reducible assumption) (by k_mem)))
local macro_rules | `(tactic| walk_at "mine steps") => `(tactic| repeat' (first | (k_unfold; (try dsimp only)) | walk1 | (dsimp only; walk1) | (leave1; walk_say "STEP leave1"; try dsimp only) | fail "no step"))
local macro_rules | `(tactic| walk_at "mine sel") => `(tactic| first
  | exact Sel.nil
  | (refine' Sel.cons ?sL ?sR; (case sL => walk_at "mine low"); (case sR => walk_at "mine sel"))
  | (refine' Sel.skip ?sR; (case sR => walk_at "mine sel")))
local macro_rules | `(tactic| walk_at "mine subs") => `(tactic| first | exact (fun _ h => h) | with_reducible assumption | (refine sub_cons ?_; walk_at "mine subs"))
local macro_rules | `(tactic| k_mem) => `(tactic| ((with_reducible show List.Mem _ _); assumption))
local macro_rules | `(tactic| walk_at "mine look") => `(tactic| first | with_reducible assumption | exact if_pos rfl | (refine (if_neg (by decide)).trans ?_; walk_at "mine look"))
local macro_rules | `(tactic| walk_at "eval Name") => `(tactic| (k_here; k_dflt (refine' nameX_L ?F ?v ?_ ?a ?b; (case F => k_asm); (case a => rfl); (case b => rfl); (case v => walk_at "mine look"); k_whole)))

section
set_option pp.deepTerms false
set_option pp.deepTerms.threshold 3
set_option pp.proofs false
section
variable {h₀ h h' : Heap} {L b mA I C D : Addr} {ob om oI oC oD : Obj} {tl tlx made led K : List (Addr × Obj)} {m : Str → Option Value} {s₁ : Shared} {S : List (Addr × Obj) → Prop} {rest : Value → List (Addr × Obj) → Prop} {y : Value} {tk : Nat}
theorem led2 (N : News h₀ L h (tl ++ [(b, ob), (mA, om)])) (hl : ∀ q ∈ [(b, ob), (mA, om)], ∀ p ∈ tl, q.1 < p.1) : News h₀ L h ((b, ob) :: (mA, om) :: tl) ∧ (∀ p ∈ tl, p.1 ≠ b) ∧ (∀ p ∈ tl, p.1 ≠ mA) :=
  ⟨fun p hp => N p (by
    rcases List.mem_cons.mp hp with rfl | hp
    · exact List.mem_append_right _ (.head _)
    · rcases List.mem_cons.mp hp with rfl | hp
      · exact List.mem_append_right _ (.tail _ (.head _))
      · exact List.mem_append_left _ hp), fun p hp => Nat.ne_of_gt (hl _ (.head _) p hp), fun p hp => Nat.ne_of_gt (hl _ (.tail _ (.head _)) p hp)⟩
theorem flip2 {l l' : List (Addr × Obj)} (h : ∀ p ∈ l', ∀ q ∈ l, q.1 < p.1) : ∀ q ∈ l, ∀ p ∈ l', q.1 < p.1 := fun q hq p hp => h p hp q hq
theorem compEnd_more (F : Fr h₀ L h' m) (N : News h₀ L h' (tlx ++ ((I, oI) :: (C, oC) :: (D, oD) :: (made ++ led)))) (hl : ∀ q ∈ (I, oI) :: (C, oC) :: (D, oD) :: (made ++ led), ∀ p ∈ tlx, q.1 < p.1) (off : LCg.Off3 I C D (made ++ led))
    (hS : S ((tlx ++ made) ++ led)) (r : rest y ((tlx ++ made) ++ led)) : LCg.CompEnd h₀ L m s₁ I oI C oC D oD S rest y { s₁ with heap := h', toks := tk } := by
  refine LCg.CompEnd.intro F N ((tlx ++ made) ++ led) (fun p hp => ?_) (LCg.Off3.of fun p hp => ?_) hS r
  · rcases List.mem_cons.mp hp with rfl | hp
    · exact List.mem_append_right _ (.head _)
    rcases List.mem_cons.mp hp with rfl | hp
    · exact List.mem_append_right _ (.tail _ (.head _))
    rcases List.mem_cons.mp hp with rfl | hp
    · exact List.mem_append_right _ (.tail _ (.tail _ (.head _)))
    rw [List.append_assoc] at hp
    rcases List.mem_append.mp hp with hp | hp
    · exact List.mem_append_left _ hp
    · exact List.mem_append_right _ (.tail _ (.tail _ (.tail _ hp)))
  · rw [List.append_assoc] at hp
    rcases List.mem_append.mp hp with hp | hp
    · exact ⟨Nat.ne_of_gt (hl _ (.head _) p hp), Nat.ne_of_gt (hl _ (.tail _ (.head _)) p hp), Nat.ne_of_gt (hl _ (.tail _ (.tail _ (.head _))) p hp)⟩
    · exact off.mem p hp
theorem compEnd_more2 (F : Fr h₀ L h' m) (N : News h₀ L h' (tlx ++ ((I, oI) :: (C, oC) :: (D, oD) :: (made ++ led)))) (hl : ∀ p ∈ tlx, ∀ q ∈ (I, oI) :: (C, oC) :: (D, oD) :: (made ++ led), q.1 < p.1) (off : LCg.Off3 I C D (made ++ led))
    (hS : S ((tlx ++ made) ++ led)) (r : (∀ q ∈ (I, oI) :: (C, oC) :: (D, oD) :: (made ++ led), ∀ p ∈ tlx, q.1 < p.1) → rest y ((tlx ++ made) ++ led)) : LCg.CompEnd h₀ L m s₁ I oI C oC D oD S rest y { s₁ with heap := h', toks := tk } :=
  compEnd_more F N (flip2 hl) off hS (r (flip2 hl))
end
noncomputable def Rel1 (made : List (Addr × Obj)) (c : Col) (y : Value) : Prop := ∃ q t1 t2, y = .ref q ∧ (q, tupO [.str (sideC c.a c.b c.c) t1, .str (pathC c.a c.b c.c) t2] 0) ∈ made
noncomputable def Rel2 (made : List (Addr × Obj)) (c : Col) (y : Value) : Prop := ∃ q t1 t2, y = .ref q ∧ (q, tupO [.bool (lightC c.a c.b c.c), .int (2 * c.a - c.b - c.c) t1, .int (c.b - c.c) t2] 0) ∈ made
theorem Rel1.mono {l l' : List (Addr × Obj)} (hs : ∀ p ∈ l, p ∈ l') (c : Col) (y : Value) (h : Rel1 l c y) : Rel1 l' c y := by
  obtain ⟨q, t1, t2, e, hm⟩ := h
  exact ⟨q, t1, t2, e, hs _ hm⟩
theorem Rel2.mono {l l' : List (Addr × Obj)} (hs : ∀ p ∈ l, p ∈ l') (c : Col) (y : Value) (h : Rel2 l c y) : Rel2 l' c y := by
  obtain ⟨q, t1, t2, e, hm⟩ := h
  exact ⟨q, t1, t2, e, hs _ hm⟩
noncomputable def J2 (led : List (Addr × Obj)) (cs : List Col) (k : Nat) (ys : List Value) (nw : List (Addr × Obj)) : Prop := ∃ made, nw = made ++ led ∧ (∀ p ∈ led, ∀ q ∈ made, p.1 < q.1) ∧ All2 (Rel2 made) (cs.take k) ys
theorem J2.start {led : List (Addr × Obj)} {cs : List Col} : J2 led cs 0 [] led := ⟨[], rfl, fun _ _ _ h => (nomatch h), .nil⟩
theorem low_more {led made tlx pre : List (Addr × Obj)} (h1 : ∀ p ∈ led, ∀ q ∈ made, p.1 < q.1) (h2 : ∀ q ∈ pre ++ (made ++ led), ∀ p ∈ tlx, q.1 < p.1) : ∀ p ∈ led, ∀ q ∈ tlx ++ made, p.1 < q.1 := fun p hp q hq => by
  rcases List.mem_append.mp hq with hq | hq
  · exact h2 p (List.mem_append_right _ (List.mem_append_right _ hp)) q hq
  · exact h1 p hp q hq
theorem led_comp {h₀ h : Heap} {L b mA D : Addr} {ob om o : Obj} {made K : List (Addr × Obj)} (N : News h₀ L h ((D, o) :: (made ++ ((b, ob) :: (mA, om) :: K)))) (hlm : ∀ p ∈ (b, ob) :: (mA, om) :: K, ∀ q ∈ made, p.1 < q.1) (o1 : LCg.Off1 D (made ++ ((b, ob) :: (mA, om) :: K)))
    (nb : ∀ p ∈ K, p.1 ≠ b) (nm : ∀ p ∈ K, p.1 ≠ mA) :
    ∃ K', (D, o) ∈ K' ∧ (∀ p ∈ made, p ∈ K') ∧ (∀ p ∈ K, p ∈ K') ∧ News h₀ L h ((b, ob) :: (mA, om) :: K') ∧ (∀ p ∈ K', p.1 ≠ b) ∧ (∀ p ∈ K', p.1 ≠ mA) := by
  have ob1 := off1D o1 (b, ob) (List.mem_append_right _ (.head _))
  have om1 := off1D o1 (mA, om) (List.mem_append_right _ (.tail _ (.head _)))
  refine ⟨(D, o) :: (made ++ K), .head _, fun p hp => .tail _ (List.mem_append_left _ hp), fun p hp => .tail _ (List.mem_append_right _ hp), fun p hp => N p ?_, fun p hp => ?_, fun p hp => ?_⟩
  · rcases List.mem_cons.mp hp with rfl | hp
    · exact .tail _ (List.mem_append_right _ (.head _))
    rcases List.mem_cons.mp hp with rfl | hp
    · exact .tail _ (List.mem_append_right _ (.tail _ (.head _)))
    rcases List.mem_cons.mp hp with rfl | hp
    · exact .head _
    rcases List.mem_append.mp hp with hp | hp
    · exact .tail _ (List.mem_append_left _ hp)
    · exact .tail _ (List.mem_append_right _ (.tail _ (.tail _ hp)))
  · rcases List.mem_cons.mp hp with rfl | hp
    · exact Ne.symm ob1
    rcases List.mem_append.mp hp with hp | hp
    · exact Nat.ne_of_gt (hlm _ (.head _) p hp)
    · exact nb p hp
  · rcases List.mem_cons.mp hp with rfl | hp
    · exact Ne.symm om1
    rcases List.mem_append.mp hp with hp | hp
    · exact Nat.ne_of_gt (hlm _ (.tail _ (.head _)) p hp)
    · exact nm p hp
theorem ents {K : List (Addr × Obj)} {cs : List Col} {ys zs : List Value} (h1 : All2 (Rel1 K) cs ys) (h2 : All2 (Rel2 K) cs zs) (hc : ∀ c ∈ cs, c.In K) :
    ∃ es : List Ent, ys = (es.map fun e => Value.ref e.adr) ∧ zs = (es.map fun e => Value.ref e.row) ∧ (∀ e ∈ es, e.In K) ∧ cs.length = es.length := by
  induction h1 generalizing zs with
  | nil => cases h2; exact ⟨[], rfl, rfl, fun _ h => (nomatch h), rfl⟩
  | @cons c y0 cs0 ys0 x _ ih =>
    cases h2 with
    | cons y h2 =>
      obtain ⟨es, rfl, rfl, he, hl⟩ := ih h2 fun c h => hc c (.tail _ h)
      obtain ⟨q, t1, t2, rfl, hm⟩ := x
      obtain ⟨q', u1, u2, rfl, hm'⟩ := y
      refine ⟨⟨c.a, c.b, c.c, q, t1, t2, q', u1, u2⟩ :: es, rfl, rfl, ?_, by simp [hl]⟩
      intro e h
      rcases List.mem_cons.mp h with rfl | h
      · exact ⟨hm, hm', (hc _ (.head _)).rng⟩
      · exact he e h
noncomputable def J1 (led : List (Addr × Obj)) (cs : List Col) (k : Nat) (ys : List Value) (nw : List (Addr × Obj)) : Prop := ∃ made, nw = made ++ led ∧ (∀ p ∈ led, ∀ q ∈ made, p.1 < q.1) ∧ All2 (Rel1 made) (cs.take k) ys
theorem J1.start {led : List (Addr × Obj)} {cs : List Col} : J1 led cs 0 [] led := ⟨[], rfl, fun _ _ _ h => (nomatch h), .nil⟩
theorem cols_get {cs : List Col} {k : Nat} {v : Value} (h : (colRefs cs).toArray[k]? = some v) : ∃ c, cs[k]? = some c ∧ v = .ref c.q := by
  have h' : (colRefs cs)[k]? = some v := by simpa using h
  unfold colRefs at h'
  rw [List.getElem?_map] at h'
  cases e : cs[k]? with
  | none => rw [e] at h'; cases h'
  | some c => rw [e] at h'; exact ⟨c, rfl, (Option.some.inj h').symm⟩
local macro_rules | `(tactic| walk_at "mine off") => `(tactic| with_reducible assumption)
local macro_rules | `(tactic| walk_at "call ref") => `(tactic| (k_here; (first | (with_reducible show wpAny _ _ (call (Value.ref 90) _) _ _ _) | (with_reducible show wpAny _ _ (call (Value.ref 97) _) _ _ _) | (with_reducible show wpAny _ _ (call (Value.ref 111) _) _ _ _) | (with_reducible show wpAny _ _ (call (Value.ref 104) _) _ _ _) | (with_reducible show wpAny _ _ (call (Value.ref 64) _) _ _ _) | (with_reducible show wpAny _ _ (call (Value.ref 121) _) _ _ _)); refine stopHere ?_))
local macro_rules | `(tactic| walk_at "call builtin:max") => `(tactic| (k_here; (with_reducible show wpAny _ _ (call _ [Value.ref _]) _ _ _); k_dflt (refine' max_tup ?k0 ?k1 ?k2 ?k3 ?_; (case k0 => exact rfl); (case k1 => k_asm); (case k2 => k_asm); (case k3 => first | k_mem | (refine List.mem_cons_of_mem _ (List.mem_cons_of_mem _ (List.mem_cons_of_mem _ (List.mem_append_right _ (List.mem_cons_of_mem _ (List.mem_cons_of_mem _ ?_))))); with_reducible assumption))); intro h' tk' q' F' N'; (try k_sweep)))
local macro_rules | `(tactic| walk_at "exec Assign cons ListComp") => `(tactic| (k_here; refine stopHere ?_))
local macro_rules | `(tactic| walk_at "CompSrc") => `(tactic| (k_here; refine stopHere ?_))
local macro_rules | `(tactic| walk_at "CompEnd") => `(tactic| (k_here; refine stopHere ?_))
local macro_rules | `(tactic| walk_at "exec For Tuple Call cons nil") => `(tactic| (k_here; (rename Fr _ _ _ _ => lF'); (with_unfolding_all refine' For_turns lF' ?_; k_whole)))
local macro_rules | `(tactic| walk_at "exec For Name Call cons nil") => `(tactic| (k_here; (rename Fr _ _ _ _ => lF'); (with_unfolding_all refine' For_turns lF' ?_; k_whole)))
local macro_rules | `(tactic| walk_at "call type:zip") => `(tactic| (k_here; refine stopHere ?_))
local macro_rules | `(tactic| walk_at "pyIter ref") => `(tactic| (k_here; (with_reducible show wpAny _ _ (pyIter (Value.ref _)) (fun it s₂ => TurnsAt _ _ _ _ _ _ _ _ _ it s₂) _ _); refine stopHere ?_))
local macro_rules | `(tactic| walk_at "UnrEndW") => `(tactic| (k_here; refine stopHere ?_))
local macro_rules | `(tactic| walk_at "eval Name") => `(tactic| (k_here; (with_reducible show wpAny _ _ (eval (Expr.Name _ _) (compEnvC _ _ _ _)) _ _ _); k_dflt (refine ld_free (by k_asm) (by rfl) (by k_mem) (by k_asm) ?_)))
local macro_rules | `(tactic| walk_at "compareOp NotEq ref ref") => `(tactic| (k_here; refine stopHere ?_))
theorem law0 (H : ∀ w, Has w) : PySem.Challenge.rw_mq0198_01.Holds := by
  refine hd ?_
  w_strict (k_go0; (all_goals try k_fold))
  rename_i w s₀ s₁ mg mb G Y fa o pm doc ho hg KX X V GL T B TE TW x1 x2 M x3 x4 hcd ns hs hlay0 hL1 hr1 hl2 y1 y2 sl vs y3 hL ra w1 r0 hI hr hlen htr K0 hD h₁ tk₁ F ob om hob hom N0 X0
  have K0' : Below callerA s₁.heap [] s₁.heap := K0
  clear K0
  clear G Y ho V GL B TE TW M hcd hs hlay0 hL1 hr1 hl2 ra w1 r0 hr htr hD X0
  walk_at "mine steps"
  unfold Stop
  k_dflt (refine' CtrG.use ((H w).drawn hI (by omega)) hL ?kd ?ku K0' F KX N0 T ?hk ?_; (case kd => decide); (case ku => decide); (case hk => exact rfl))
  rintro r tl h₂ tk₂ F₂ N₂ hl₂ ⟨lD, kD, cs, rfl, hlD, hcs, hcol⟩
  obtain ⟨N₃, nb, nm⟩ := led2 N₂ hl₂
  clear N₂ hl₂ N0 F
  walk_at "mine steps"
  unfold Stop
  rename_i h₃ F₃ N₄

  k_dflt (refine LCg.Assign_ListComp_U (F₀ := F₃) (by rfl) (by with_unfolding_all rfl) (by with_unfolding_all rfl) (by decide) (by rfl) (by decide) (by rfl) (by rfl) (by rfl) ?_)
  walk_at "mine steps"
  unfold Stop
  k_dflt (refine' LCg.CompSrc.ledger ?k0 F₃ N₄ (List.mem_cons_of_mem _ (List.mem_cons_of_mem _ hlD)) ?k4 ?_; (case k0 => exact rfl); (case k4 => (simp only [List.size_toArray, List.length_map]; exact Nat.le_trans hcs (by decide))))
  intro g₁
  refine compRest_inv (J1 _ cs) _ ?turn ?fin _ 0 [] _ (Nat.zero_add _) J1.start
  case turn =>
    rintro k ys nw v I oI C oC D m₂ h tk E' hk ⟨made, rfl, hlm, hall⟩ hP hC hx F N off
    obtain ⟨c, hc, rfl⟩ := cols_get hP
    have hci := hcol c (List.mem_of_getElem? hc)
    walk_at "mine steps"
    unfold Stop
    k_dflt (refine' Ctr.use ((H w).addr (hci.mono ?hm)) ?kd ?ku K0' F KX N T ?hk ?_; (case hm => exact fun p hp => .tail _ (.tail _ (.tail _ (List.mem_append_right _ (.tail _ (.tail _ hp)))))); (case kd => decide); (case ku => decide); (case hk => exact rfl))
    rintro r tl9 h9 tk9 F9 N9 hl9 ⟨q, t1, t2, rfl, rfl⟩
    refine compEnd_more F9 N9 hl9 off (.inr ⟨_, List.mem_append_right _ (.tail _ (.tail _ hlD)), rfl, _, rfl⟩) ⟨_, rfl, low_more (pre := [(I, oI), (C, oC), (D, LCg.lst ys)]) hlm hl9, ?_⟩
    rw [take_snoc hc]
    exact (hall.mono (Rel1.mono fun p hp => List.mem_append_right _ hp)).snoc ⟨q, t1, t2, rfl, .head _⟩
  case fin =>
    rintro ys nw ⟨made, rfl, hlm, hall⟩
    intro lA h₄ tk₄ F₄ N₅ o1
    have hall' : All2 (Rel1 made) cs ys := by
      rw [List.take_of_length_le (by simp)] at hall
      exact hall
    obtain ⟨K₁, hlA, hmade, hold, N₆, nb₁, nm₁⟩ := led_comp N₅ hlm o1 nb nm
    replace hall := hall'.mono (Rel1.mono hmade)
    replace hlD := hold _ hlD
    replace hcol : ∀ c ∈ cs, c.In K₁ := fun c hc => (hcol c hc).mono hold
    clear hall' N₅ hlm o1 hmade hold nb nm N₄ F₃
    dsimp only
    walk_at "mine steps"
    unfold Stop
    k_dflt (refine LCg.Assign_ListComp_U (F₀ := F₄) (by rfl) (by with_unfolding_all rfl) (by with_unfolding_all rfl) (by decide) (by rfl) (by decide) (by rfl) (by rfl) (by rfl) ?_)
    walk_at "mine steps"
    unfold Stop
    k_dflt (refine' LCg.CompSrc.ledger ?k0 F₄ N₆ (List.mem_cons_of_mem _ (List.mem_cons_of_mem _ hlD)) ?k4 ?_; (case k0 => exact rfl); (case k4 => (simp only [List.size_toArray, List.length_map]; exact Nat.le_trans hcs (by decide))))
    intro g₂
    refine compRest_inv (J2 _ cs) _ ?turn ?fin _ 0 [] _ (Nat.zero_add _) J2.start
    case turn =>
      rintro k zs nw v I oI C oC D m₂ h tk E' hk ⟨made, rfl, hlm, hall2⟩ hP hC hx F N off
      obtain ⟨c, hc, rfl⟩ := cols_get hP
      have hci := hcol c (List.mem_of_getElem? hc)
      have hcm := hci.mem
      walk_at "mine steps"
      unfold Stop
      rename_i D1 h8 F8 N8 l8 cE8
      k_dflt (refine' Ctr.use ((H w).point (hci.mono ?hm)) ?kd ?ku K0' F8 KX N8 T ?hk ?_; (case hm => exact fun p hp => .tail _ (.tail _ (.tail _ (.tail _ (List.mem_append_right _ (.tail _ (.tail _ hp))))))); (case kd => decide); (case ku => decide); (case hk => exact rfl))
      rintro r tl9 h9 tk9 F9 N9 hl9 ⟨q, t1, t2, rfl, rfl⟩
      dsimp only [List.cons_append, List.nil_append] at N9
      have l9 := above1 hl9
      k_lt l9
      clear F8 N8 hl9
      change qk _ _
      walk_at "mine steps"
      unfold Stop
      rename_i D2 h7 F7 N7 l7
      refine compEnd_more2 (tlx := [(D2, _), (q, _), (D1, _)]) F7 N7 (List.forall_mem_cons.mpr ⟨ktn_ltOf l7.2.2, List.forall_mem_cons.mpr ⟨ktn_ltOf l9.2, List.forall_mem_cons.mpr ⟨ktn_ltOf l8, List.forall_mem_nil _⟩⟩⟩) off (.inr ⟨_, List.mem_append_right _ (.tail _ (.tail _ hlD)), rfl, _, rfl⟩) fun hlow => ⟨_, rfl, low_more (pre := [(I, oI), (C, oC), (D, LCg.lst zs)]) hlm hlow, ?_⟩
      rw [take_snoc hc]
      exact (hall2.mono (Rel2.mono fun p hp => List.mem_append_right _ hp)).snoc ⟨D2, _, _, rfl, .head _⟩
    case fin =>
      rintro zs nw ⟨made, rfl, hlm, hall2⟩
      intro lR h₅ tk₅ F₅ N₇ o1
      have hall' : All2 (Rel2 made) cs zs := by
        rw [List.take_of_length_le (by simp)] at hall2
        exact hall2
      obtain ⟨K₂, hlR, hmade, hold, N₈, nb₂, nm₂⟩ := led_comp N₇ hlm o1 nb₁ nm₁
      obtain ⟨es, rfl, rfl, hes, hel⟩ := ents (hall.mono (Rel1.mono hold)) (hall'.mono (Rel2.mono hmade)) fun c hc => (hcol c hc).mono hold
      replace hlA := hold _ hlA
      have hen : es.length ≤ 100 := hel ▸ hcs
      clear hall' N₇ hlm o1 hmade hold nb₁ nm₁ N₆ F₄ hall hall2 hlD hcol hcs hel
      dsimp only
      walk_at "mine steps"
      unfold Stop
      rename_i x9 d8 h11 l11 l12 g11 L11 h12 B11 X11 T11 tk11 d9 h13 o9 lo9 hs9 fs9 hi9 fi9 l13 h14 F14 N14 Tc14 kX14 h₆ om₆ F₆ N₆ d₆
      clear F14 N14 hs9 fs9 hi9 fi9 lo9 B11 X11 T11 Tc14 kX14 lifted qk ek
      obtain ⟨KK, hx9, hd8, hmA, hK, hoff, N₇⟩ := mgr_led N₆ l11.1 l12 l13.1 (neN (by omega)) nb₂
      replace hlR := hK _ hlR
      replace hlA := hK _ hlA
      replace hes : ∀ e ∈ es, e.In KK := fun e h => (hes e h).mono hK
      clear l11 l12 l13 hK N₆ nb₂ nm₂ hom
      with_unfolding_all (refine' ktu_zip (xs := es.map fun e => Value.ref e.row) (ys := es.map fun e => Value.ref e.adr) ?k0 ?kF ?kN ?m1 ?c1 ?d1 ?m2 ?c2 ?d2 ?_; (case kF => exact F₆); (case kN => exact N₇); (case m1 => exact List.mem_cons_of_mem _ hlR); (case m2 => exact List.mem_cons_of_mem _ hlA); (case k0 => exact rfl); (case c1 => exact rfl); (case d1 => exact rfl); (case c2 => exact rfl); (case d2 => exact rfl))
      intro I₁ hI₁
      refine items_inv (JL lR lA (s₁.heap.objs.size + 1 + 1) KK) _ _ _ ?turn ?fin ⟨rfl, rfl, ob, rfl, _, hob⟩
      case fin =>
        rintro m₃ nw h₁₂ tk₁₂ ⟨hR3, hA3, ob₃, rfl, c₃, hob₃⟩ F₁₂ N₁₂
        dsimp only
        walk_at "mine steps"
        k_steps
      case turn =>
        intro it hit m₁ nw v h₇ tk₇ its hJ hv F₇ hits N₈
        obtain ⟨e, he, rfl⟩ := zip_mem hit
        obtain ⟨Tt, t9, rfl, hT⟩ := hv
        obtain ⟨hmR, hmA', ob₁, rfl, c₁, hob₁⟩ := hJ
        have hI₁b : s₁.heap.objs.size + 1 + 1 < I₁ := hI₁ _ (List.mem_cons_self ..)
        have hI₁K : ∀ p ∈ KK, p.1 < I₁ := fun p hp => hI₁ p (.tail _ hp)
        have hge := zip_ge hits
        obtain ⟨KT, hits', hKT, hoffT, N₉⟩ := turn_led N₈ hI₁b hge hoff
        change Fr s₁.heap s₁.heap.objs.size h₇ m₁ at F₇
        change News s₁.heap s₁.heap.objs.size h₇ _ at N₉
        clear N₈ hits hI₁ N₇ F₆ hit hob
        have heT := (hes e he).mono hKT
        have hx9T := hKT _ hx9
        have hmAT := hKT _ hmA
        dsimp only at hT ⊢
        walk_at "mine steps"
        unfold Stop
        rename_i h₈a h₈b h₈ F₈ N₈
        k_dflt (refine' Ctr.use ((H w).bases (heT.mono fun p hp => .tail _ hp)) ?kd ?ku K0' F₈ KX N₈ T ?hk ?_; (case kd => decide); (case ku => decide); (case hk => exact rfl))
        rintro r tl2 h₉ tk₉ F₉ N₁₀ hl₉ ⟨lB, nB, bs, rfl, hlB, hbs⟩
        obtain ⟨KT2, htl2, hKT2, hoffT2, N₁₁⟩ := turn_led (I := s₁.heap.objs.size + 1 + 1 + 1) N₁₀ (Nat.lt_succ_self _) (fun p hp => hl₉ _ (List.mem_cons_self ..) p hp) hoffT
        replace hbs : ∀ x ∈ bs, IsBase e.a e.b e.c x.2.1 ∧ (x.1, basO e.a e.b e.c x) ∈ KT2 := fun x hx => ⟨(hbs x hx).1, bas_in (hbs x hx).2 hob₁ htl2 hKT2⟩
        replace hlB := htl2 _ hlB
        have hits2 : ∀ p ∈ its, p ∈ KT2 := fun p hp => hKT2 _ (hits' p hp)
        have hKK2 : ∀ p ∈ KK, p ∈ KT2 := fun p hp => hKT2 _ (hKT p hp)
        clear N₈ F₈ N₁₀ hl₉ htl2 heT hx9T hmAT hits' hKT hKT2 hoffT
        walk_at "mine steps"
        unfold Stop
        with_unfolding_all (refine' iter_listTurns (vs := bs.map fun x => Value.ref x.1) ?k0 ?kF ?kN ?m1 ?c1 ?d1 ?_; (case kF => exact F₉); (case kN => exact N₁₁); (case m1 => exact List.mem_cons_of_mem _ hlB); (case k0 => exact rfl); (case c1 => exact rfl); (case d1 => exact rfl))
        intro I₂ hI₂
        refine items_inv (fun m nw => m (Str.ofString "row") = some (.ref e.row) ∧ JL lR lA (s₁.heap.objs.size + 1 + 1) KT2 m nw) _ _ _ ?turn2 ?fin2 ⟨by walk_at "mine look", by walk_at "mine look", by walk_at "mine look", ob₁, rfl, _, hob₁⟩
        case fin2 =>
          rintro m₃ nw h₁₂ tk₁₂ ⟨-, hR3, hA3, ob₃, rfl, c₃, hob₃⟩ F₁₂ N₁₂
          walk_at "mine steps"
          unfold Stop
          exact turn_end F₁₂ N₁₂ hI₁b hI₁K hge (fun p hp => .tail _ (hits2 p hp)) (fun p hp => .tail _ (hKK2 p hp)) (.head _) ⟨And.intro (List.mem_cons_of_mem _ hlR) (And.intro (List.mem_cons_of_mem _ hlA) trivial), hR3, hA3, ob₃, rfl, _, hob₃⟩
        case turn2 =>
          rintro it2 hit2 m₃ nw v h₁₂ tk₁₂ its2 ⟨hr3, hR3, hA3, ob₃, rfl, c₃, hob₃⟩ hv F₁₂ hits3 N₁₂
          obtain ⟨x, hx, rfl⟩ := val_mem hit2
          subst hv
          have hI₂b : s₁.heap.objs.size + 1 + 1 < I₂ := hI₂ _ (List.mem_cons_self ..)
          have hI₂K : ∀ p ∈ KT2, p.1 < I₂ := fun p hp => hI₂ p (.tail _ hp)
          have hge2 := list_ge hits3
          obtain ⟨KT3, hits4, hKT3, hoffT3, N₁₃⟩ := turn_led N₁₂ hI₂b hge2 hoffT2
          change Fr s₁.heap s₁.heap.objs.size h₁₂ m₃ at F₁₂
          change News s₁.heap s₁.heap.objs.size h₁₂ _ at N₁₃
          obtain ⟨hib, hxm⟩ := hbs x hx
          have hxm3 := hKT3 _ hxm
          have hrow3 := hKT3 _ (hKK2 _ (hes e he).rowM)
          have hx93 := hKT3 _ (hKK2 _ hx9)
          have hd83 := hKT3 _ (hKK2 _ hd8)
          have hmA3 := hKT3 _ (hKK2 _ hmA)
          have hlA3 := hKT3 _ (hKK2 _ hlA)
          clear N₁₂ hits3 hI₂ N₁₁ F₉ hit2
          dsimp only
          walk_at "mine steps"
          unfold Stop
          rename_i h₁₃ ob₄ F₁₃ N₁₄ d₄
          skip
          k_dflt (refine LCg.Assign_ListComp_U (F₀ := F₁₃) (by rfl) (by with_unfolding_all rfl) (by with_unfolding_all rfl) (by decide) (by rfl) (by decide) (by rfl) (by rfl) (by rfl) ?_)
          walk_at "mine steps"
          unfold Stop
          k_dflt (refine' LCg.CompSrc.ledger ?k0 F₁₃ N₁₄ (List.mem_cons_of_mem _ hlA3) ?k4 ?_; (case k0 => exact rfl); (case k4 => (simp only [List.size_toArray, List.length_map]; exact Nat.le_trans hen (by decide))))
          intro g₃
          refine compRest_inv (fun k ys nw => nw = (s₁.heap.objs.size + 1 + 1, ob₄) :: KT3 ∧ ys = ((boolsOf e.a e.b e.c x.2.1 es).take k).map Value.bool) _ ?turn3 ?fin3 _ 0 [] _ (Nat.zero_add _) ⟨rfl, rfl⟩
          case turn3 =>
            rintro k ys nw v I oI C oC D m₂ h tk E' hk ⟨rfl, rfl⟩ hP hC hxo F N off
            obtain ⟨o, ho, rfl⟩ := ents_get hP
            have hoi := (hes o (List.mem_of_getElem? ho)).mono fun p hp => hKT3 p (hKK2 p hp)
            walk_at "mine steps"
            unfold Stop
            k_dflt (refine' Ctr.use ((H w).sub (e := e) (o := o) (x := x) (hes e he).rng ?hx hib ?ho) ?kd ?ku K0' F KX N T ?hk ?_; (case hx => exact List.mem_cons_of_mem _ (List.mem_cons_of_mem _ (List.mem_cons_of_mem _ (List.mem_cons_of_mem _ hxm3)))); (case ho => exact hoi.mono fun p hp => .tail _ (.tail _ (.tail _ (.tail _ hp)))); (case kd => decide); (case ku => decide); (case hk => exact rfl))
            rintro r tl9 h9 tk9 F9 N9 hl9 ⟨rfl, rfl⟩
            refine compEnd_more (tlx := []) (made := []) (led := (s₁.heap.objs.size + 1 + 1, ob₄) :: KT3) F9 N9 (fun _ _ _ h => nomatch h) off (.inr ⟨_, List.mem_cons_of_mem _ hlA3, rfl, _, rfl⟩) ⟨rfl, ?_⟩
            exact (bools_snoc ho).symm
          case fin3 =>
            rintro ys nw ⟨rfl, rfl⟩
            intro lT h₁₄ tk₁₄ F₁₄ N₁₅ o1
            rw [List.take_of_length_le (by simp [boolsOf])] at N₁₅
            dsimp only
            walk_at "mine steps"
            unfold Stop
            k_dflt (refine' Ctr.use ((H w).cov (e := e) (x := x) (es := es) (n := (es.map fun e => Value.ref e.row).length) (hes e he).rng hib ?hm ?he ?hn) ?kd ?ku K0' F₁₄ KX N₁₅ T ?hk ?_; (case hm => exact List.mem_cons_of_mem _ (List.mem_cons_of_mem _ (hKT3 _ (hKK2 _ hlR)))); (case he => exact fun o ho => (hes o ho).mono fun p hp => .tail _ (.tail _ (hKT3 p (hKK2 p hp)))); (case hn => exact hen); (case kd => decide); (case ku => decide); (case hk => exact rfl))
            rintro r tl9 h9 tk9 F9 N9 hl9 ⟨lC, kC, rfl, hlC⟩
            rw [told_eq] at hlC
            dsimp only
            walk_at "mine steps"
            unfold Stop
            k_dflt (refine' ne_bools (bs := boolsOf e.a e.b e.c x.2.1 es) ?kN ?ka ?kb ?ku ?_; (case kN => exact N9); (case ka => exact List.mem_append_right _ (List.mem_cons_self ..)); (case kb => exact List.mem_append_left _ hlC); (case ku => exact Nat.le_of_ble_eq_true rfl))
            walk_at "mine steps"
            unfold Stop
            refine turn_end F9 N9 hI₂b hI₂K hge2 (fun p hp => List.mem_append_right _ (.tail _ (.tail _ (hits4 p hp)))) (fun p hp => List.mem_append_right _ (.tail _ (.tail _ (hKT3 p hp)))) (List.mem_append_right _ (.tail _ (.head _))) ⟨And.intro (List.mem_cons_of_mem _ hlB) trivial, ?e1, ?e2, ?e3, ob₄, rfl, _, d₄⟩
            case e1 => walk_at "mine look"
            case e2 => walk_at "mine look"
            case e3 => walk_at "mine look"
end
section
local macro_rules | `(tactic| walk_at "exec For") => `(tactic| (k_here; (rename Fr _ _ _ _ => lF'); (with_unfolding_all refine' For_turns lF' ?_; k_whole)))
local macro_rules | `(tactic| walk_at "eval ListComp") => `(tactic| (k_here; k_dflt (refine' ListComp_tup ?k0 ?k1 ?k2 ?k3 ?k4 ?k5 ?_; (case k0 => k_asm); (case k1 => with_unfolding_all rfl); (case k2 => decide); (case k3 => rfl); (case k4 => decide); (case k5 => rfl))))
local macro_rules | `(tactic| walk_at "SrcTup") => `(tactic| (k_here; k_dflt (refine' SrcTup.intro ?k0 ?k1 ?k2 ?k3 ?k4 ?_; (case k0 => exact rfl); (case k1 => k_asm); (case k2 => k_asm); (case k3 => k_mem); (case k4 => exact Nat.le_of_ble_eq_true rfl)); intro g'))
local macro_rules | `(tactic| walk_at "CompRest") => `(tactic| (with_unfolding_all first
  | (refine LCg.CompRest.succ ?_; intro v' I' oI' C' oC' D' m' h' tk' E' hv' hC' hx' F' N' off' ne'; clear ne'; lcg_open hv')
  | refine LCg.CompRest.zero ?_))
local macro_rules | `(tactic| walk_at "CompEnd") => `(tactic| (k_here; k_dflt (refine' compEnd0 ?k0 ?k1 ?k2 ?k3 ?_; (case k0 => k_asm); (case k1 => with_reducible assumption); (case k2 => k_asm); (case k3 => first | exact Or.inr ⟨_, by k_mem, rfl, _, rfl⟩ | k_mem))))
local macro_rules | `(tactic| walk_at "FinE") => `(tactic| ((unfold LCg.FinE); intro D' h' tk' F' N' o1'; (try simp only [List.nil_append, List.cons_append] at N'); (try dsimp only); (try k_sweep)))
local macro_rules | `(tactic| walk_at "eval Name") => `(tactic| (k_here; (with_reducible show wpAny _ _ (eval (Expr.Name _ _) (compEnvC _ _ _ _)) _ _ _); k_dflt (refine ld_free (by k_asm) (by rfl) (by k_mem) (by k_asm) ?_)))
local macro_rules | `(tactic| walk_at "mine off") => `(tactic| with_reducible assumption)
section
theorem append_lst {prog : Program} {w : World} {A : Around} {E : Value → Shared → Prop} {s : Shared} {h₀ : Heap} {L D : Addr} {m : Str → Option Value} {ys : List Value} {n : Nat} {x : Value} {Q : Value → Shared → Prop} {news : List (Addr × Obj)}
    (F : Fr h₀ L s.heap m) (N : News h₀ L s.heap news) (hm : (D, lstO ys n) ∈ news) (hsz : ys.length ≤ sizeLine)
    (h : ∀ h', Fr h₀ L h' m → (∀ rest : List (Addr × Obj), (∀ p ∈ rest, p ∈ news) → (∀ p ∈ rest, p.1 ≠ D) → News h₀ L h' ((D, lstO (ys ++ [x]) (n + 1)) :: rest)) → Q .none { s with heap := h' }) :
    wpAny (model prog w) A (call (.builtin "list.append") [.ref D, x]) Q E s := by
  refine append_at (hsz := by rw [List.size_toArray]; exact hsz) (N.get hm) fun h' hs ho' => h h' (F.change hs (N _ hm).2.1 (N _ hm).2.2) fun rest hr hne => ?_
  intro p hp
  rcases List.mem_cons.mp hp with rfl | hp
  · refine ⟨?_, (N _ hm).2⟩
    have e : (ys ++ [x]).toArray = ys.toArray.push x := by simp
    show h'.get? D = some { cls := .type "list", data := .seq (ys ++ [x]).toArray (n + 1) }
    rw [e]; exact ho'
  · exact ⟨(hs.2 p.1 (hne p hp)).trans (N p (hr p hp)).1, (N p (hr p hp)).2⟩
local macro_rules | `(tactic| walk_at "subscriptTail Name Slice ref ref") => `(tactic| (k_here; (with_reducible show wpAny _ _ (subscriptTail _ (PySem.Expr.Slice _ _ none _) (Value.ref _) (Value.ref _)) _ _ _); k_dflt (refine' kmk_slice_lit ?F ?N ?l ?p ?q ?e ?_ ?s ?t ?z; (case F => k_asm); (case N => k_asm); (case l => exact Fr.lst (by k_asm) (by k_asm)); (case p => kmk_part); (case q => kmk_part); (case e => exact Kept.out (by with_reducible assumption)); (case s => with_unfolding_all rfl); (case t => kmk_pure); (case z => exact Kept.out (by with_reducible assumption))); intro D' h' F' N' l1; (try k_lt l1); (try k_sweep)))
local macro_rules | `(tactic| walk_at "pyIter ref") => `(tactic| (k_here; (with_reducible show wpAny _ _ (pyIter (Value.ref _)) (fun it s₂ => TurnsAt _ _ _ _ _ _ _ _ _ it s₂) _ _); refine stopHere ?_))
local macro_rules | `(tactic| walk_at "UnrEndW") => `(tactic| (k_here; refine stopHere ?_))
local macro_rules | `(tactic| walk_at "call builtin:list.append") => `(tactic| (k_here; refine stopHere ?_))
theorem m17 (x : Int) : 0 ≤ x.fmod 17 ∧ x.fmod 17 ≤ 16 := ⟨Int.fmod_nonneg_of_pos _ (by decide), Int.le_of_lt_add_one (Int.fmod_lt_of_pos _ (by decide))⟩
theorem pick_le (i : Nat) : 0 ≤ [(16 : Int), 0].getD i 0 ∧ [(16 : Int), 0].getD i 0 ≤ 16 := by
  match i with
  | 0 => decide
  | 1 => decide
  | n + 2 => simp
theorem half_le {x y : Int} (h : 0 ≤ x ∧ x ≤ 16) (k : 0 ≤ y ∧ y ≤ 16) : 0 ≤ (x + y).fdiv 2 ∧ (x + y).fdiv 2 ≤ 16 := by
  rw [Int.fdiv_eq_ediv_of_nonneg _ (by decide)]
  omega
/-- a loop by what holds between its turns, by the turn's number -/
theorem items_invN {prog : Program} {w : World} {A : Around} {E : Value → Shared → Prop} {s : Shared} {env : Env} {h₀ : Heap} {target : Expr} {body : List Stmt} {Q : Flow → Shared → Prop} {ws : List (Addr × String)} {keep : List (Addr × Obj)} (J : Nat → (Str → Option Value) → List (Addr × Obj) → Prop) :
    ∀ (xs : List Itm) (k : Nat) (m : Str → Option Value) (news : List (Addr × Obj)),
    (∀ a ∈ xs, ∀ i m₁ news₁ v h tk its, k ≤ i → i < k + xs.length → J i m₁ news₁ → a.Is v h → Fr h₀ env.locals h m₁ → Objs ws its → News h₀ env.locals h (its ++ news₁) →
      wpAny (model prog w) A (assign target env v) (fun _ s₂ => wpAny (model prog w) A (execs body env) (UnrPostW h₀ env.locals { s with heap := h, toks := tk } its (fun m' n' => SubL keep n' ∧ J (i + 1) m' n') Q) E s₂) E { s with heap := h, toks := tk }) →
    (∀ m₁ news₁ h tk, J (k + xs.length) m₁ news₁ → Fr h₀ env.locals h m₁ → News h₀ env.locals h news₁ → Q .next { s with heap := h, toks := tk }) → J k m news →
    ItemsRest prog w A E h₀ env target body Q s ws keep xs m news := by
  intro xs
  induction xs with
  | nil => intro k m news _ fin hJ h tk F N; exact fin m news h tk hJ F N
  | cons a r ih =>
    intro k m news turn fin hJ v h tk ha F
    refine allObj_of fun its hits N => ?_
    refine wpAny_mono (turn a List.mem_cons_self k m news v h tk its (Nat.le_refl _) (by simp) hJ ha F hits N) (fun _ s₂ h₂ => wpAny_mono h₂ (fun f s₃ h₃ => unrPost_mono h₃ fun m' n' hh => ⟨hh.1, ih (k + 1) m' n' (fun b hb i m₁ n₁ v h tk its h1 h2 => turn b (List.mem_cons_of_mem _ hb) i m₁ n₁ v h tk its (by omega) (by simp only [List.length_cons]; omega)) (fun m₁ n₁ h tk hJ => fin m₁ n₁ h tk (by rw [List.length_cons, show k + (r.length + 1) = k + 1 + r.length by omega]; exact hJ)) hh.2⟩) fun _ _ e => e) fun _ _ e => e
noncomputable def JD (lD cA lS I : Addr) (xs : List Value) (nS : Nat) (news : List (Addr × Obj)) (k : Nat) (m : Str → Option Value) (nw : List (Addr × Obj)) : Prop :=
  m (Str.ofString "drawn") = some (.ref lD) ∧ ∃ oc c cs n KT, nw = (cA, oc) :: (lD, lstO (colRefs cs) n) :: KT ∧ oc.data = .cell c ∧ cs.length = 6 + 2 * k ∧ (∀ x ∈ cs, Col.In x KT ∧ ∀ q ∈ news, q.1 < x.q) ∧ (∀ p ∈ news, p ∈ KT) ∧ (∀ p ∈ KT, p.1 ≠ cA) ∧ (∀ p ∈ KT, p.1 ≠ lD) ∧ (lS, lstO xs nS) ∈ KT ∧ ∀ p ∈ KT, p.1 ≠ I
theorem drawn_start {h₀ h : Heap} {L lS lD cA : Addr} {xs : List Value} {nS n : Nat} {oc : Obj} {news : List (Addr × Obj)} {cs : List Col}
    (N : News h₀ L h ((lS, lstO xs nS) :: (lD, lstO (colRefs cs) n) :: ((cs.reverse.map fun c => (c.q, c.obj)) ++ (cA, oc) :: news)))
    (hcs : ∀ c ∈ cs, Rng c.a c.b c.c ∧ cA < c.q ∧ c.q < lD ∧ ∀ q ∈ news, q.1 < c.q) (hDS : lD < lS) (hcD : cA < lD) (hn : ∀ q ∈ news, q.1 < cA) :
    ∃ KT, News h₀ L h ((cA, oc) :: (lD, lstO (colRefs cs) n) :: KT) ∧ (∀ x ∈ cs, Col.In x KT ∧ ∀ q ∈ news, q.1 < x.q) ∧ (∀ p ∈ news, p ∈ KT) ∧ (∀ p ∈ KT, p.1 ≠ cA) ∧ (∀ p ∈ KT, p.1 ≠ lD) ∧ (lS, lstO xs nS) ∈ KT := by
  refine ⟨(lS, lstO xs nS) :: ((cs.reverse.map fun c => (c.q, c.obj)) ++ news), fun p hp => N p ?_, fun x hx => ⟨⟨.tail _ (List.mem_append_left _ (List.mem_map.mpr ⟨x, by simpa using hx, rfl⟩)), (hcs x hx).1⟩, (hcs x hx).2.2.2⟩, fun p hp => .tail _ (List.mem_append_right _ hp), fun p hp => ?_, fun p hp => ?_, .head _⟩
  · simp only [List.mem_cons, List.mem_append] at hp ⊢
    rcases hp with h | h | h | h | h
    · exact .inr (.inr (.inr (.inl h)))
    · exact .inr (.inl h)
    · exact .inl h
    · exact .inr (.inr (.inl h))
    · exact .inr (.inr (.inr (.inr h)))
  · rcases List.mem_cons.mp hp with rfl | hp
    · exact Nat.ne_of_gt (Nat.lt_trans hcD hDS)
    rcases List.mem_append.mp hp with hp | hp
    · obtain ⟨c, hc, rfl⟩ := List.mem_map.mp hp
      exact Nat.ne_of_gt (hcs c (by simpa using hc)).2.1
    · exact Nat.ne_of_lt (hn p hp)
  · rcases List.mem_cons.mp hp with rfl | hp
    · exact Nat.ne_of_gt hDS
    rcases List.mem_append.mp hp with hp | hp
    · obtain ⟨c, hc, rfl⟩ := List.mem_map.mp hp
      exact Nat.ne_of_lt (hcs c (by simpa using hc)).2.2.1
    · exact Nat.ne_of_lt (Nat.lt_trans (hn p hp) hcD)
theorem turn_led2 {h₀ h : Heap} {L cA lD I : Addr} {oc ol : Obj} {its KT : List (Addr × Obj)} (N : News h₀ L h (its ++ (cA, oc) :: (lD, ol) :: KT)) (h1 : cA < I) (h2 : lD < I) (hits : ∀ p ∈ its, I ≤ p.1) (hb : ∀ p ∈ KT, p.1 ≠ cA) (hd : ∀ p ∈ KT, p.1 ≠ lD) :
    ∃ KI, KI = its ++ KT ∧ (∀ p ∈ KI, p.1 ≠ cA) ∧ (∀ p ∈ KI, p.1 ≠ lD) ∧ News h₀ L h ((cA, oc) :: (lD, ol) :: KI) := by
  refine ⟨_, rfl, fun p hp => ?_, fun p hp => ?_, fun p hp => N p ?_⟩
  · rcases List.mem_append.mp hp with hp | hp
    · exact Nat.ne_of_gt (Nat.lt_of_lt_of_le h1 (hits p hp))
    · exact hb p hp
  · rcases List.mem_append.mp hp with hp | hp
    · exact Nat.ne_of_gt (Nat.lt_of_lt_of_le h2 (hits p hp))
    · exact hd p hp
  · simp only [List.mem_cons, List.mem_append] at hp ⊢
    rcases hp with h | h | h | h
    · exact .inr (.inl h)
    · exact .inr (.inr (.inl h))
    · exact .inl h
    · exact .inr (.inr (.inr h))
theorem ints_mem {vs : List Value} {ns : List Int} {v : Value} (h : IntsAre vs ns) (hv : v ∈ vs) : ∃ c t, v = .int c t := by
  induction h with
  | nil => cases hv
  | cons i t r ih =>
    rcases List.mem_cons.mp hv with rfl | hv
    · exact ⟨_, _, rfl⟩
    · exact ih hv
theorem drawn_end {g h' : Heap} {L lD cA lS I q1 q9 : Addr} {xs : List Value} {nS n k : Nat} {oc : Obj} {c : Option Value} {cs : List Col} {news its KT KI : List (Addr × Obj)} {s₁ : Shared} {tk : Nat} {m' : Str → Option Value} {a1 b1 c1 a9 b9 c9 : Int} {t1 u1 v1 t9 u9 v9 : Tok}
    (F : Fr g L h' m') (N : News g L h' ((lD, lstO ((colRefs cs ++ [.ref q1]) ++ [.ref q9]) n) :: (cA, oc) :: (q1, tupO [.int a1 t1, .int b1 u1, .int c1 v1] 0) :: (q9, tupO [.int a9 t9, .int b9 u9, .int c9 v9] 0) :: KI))
    (r1 : Rng a1 b1 c1) (r9 : Rng a9 b9 c9) (e : KI = its ++ KT) (hits : ∃ o, its = [(I, o)]) (hA : cA < I) (hD : lD < I) (hK : ∀ p ∈ KT, p.1 ≠ I)
    (l1 : ∀ p ∈ KI, p.1 < q1) (l9 : ∀ p ∈ KI, p.1 < q9) (hA1 : cA < q1) (hD1 : lD < q1) (hA9 : cA < q9) (hD9 : lD < q9)
    (hm : m' (Str.ofString "drawn") = some (.ref lD)) (hoc : oc.data = .cell c) (hlen : cs.length = 6 + 2 * k) (hcs : ∀ x ∈ cs, Col.In x KT ∧ ∀ q ∈ news, q.1 < x.q) (hnews : ∀ p ∈ news, p ∈ KT) (hoA : ∀ p ∈ KT, p.1 ≠ cA) (hoD : ∀ p ∈ KT, p.1 ≠ lD) (hS : (lS, lstO xs nS) ∈ KT) :
    UnrEndW g L s₁ its (fun m' n' => SubL [(lS, lstO xs nS)] n' ∧ JD lD cA lS I xs nS news (k + 1) m' n') { s₁ with heap := h', toks := tk } := by
  subst e
  obtain ⟨oI, rfl⟩ := hits
  have hI1 : I < q1 := l1 _ (.head _)
  have hI9 : I < q9 := l9 _ (.head _)
  refine ⟨h', tk, m', (cA, oc) :: (lD, lstO (colRefs (cs ++ [⟨q1, a1, b1, c1, t1, u1, v1⟩, ⟨q9, a9, b9, c9, t9, u9, v9⟩])) n) :: (q1, tupO [.int a1 t1, .int b1 u1, .int c1 v1] 0) :: (q9, tupO [.int a9 t9, .int b9 u9, .int c9 v9] 0) :: KT, rfl, F, fun p hp => N p ?_, fun p hp q hq => ?_, And.intro (.tail _ (.tail _ (.tail _ (.tail _ hS)))) trivial, hm, oc, c, _, n, _, rfl, hoc, ?_, fun x hx => ?_, fun p hp => .tail _ (.tail _ (hnews p hp)), fun p hp => ?_, fun p hp => ?_, .tail _ (.tail _ hS), fun p hp => ?_⟩
  · have e1 : colRefs (cs ++ [⟨q1, a1, b1, c1, t1, u1, v1⟩, ⟨q9, a9, b9, c9, t9, u9, v9⟩]) = (colRefs cs ++ [.ref q1]) ++ [.ref q9] := by simp [colRefs]
    rw [e1] at hp
    simp only [List.mem_cons, List.mem_append] at hp ⊢
    rcases hp with h | h | h | h | h | h
    · exact .inr (.inr (.inr (.inr (.inl h))))
    · exact .inr (.inl h)
    · exact .inl h
    · exact .inr (.inr (.inl h))
    · exact .inr (.inr (.inr (.inl h)))
    · exact .inr (.inr (.inr (.inr (.inr h))))
  · rw [List.mem_singleton.mp hq]
    rcases List.mem_cons.mp hp with rfl | hp
    · exact Nat.ne_of_lt hA
    rcases List.mem_cons.mp hp with rfl | hp
    · exact Nat.ne_of_lt hD
    rcases List.mem_cons.mp hp with rfl | hp
    · exact Nat.ne_of_gt hI1
    rcases List.mem_cons.mp hp with rfl | hp
    · exact Nat.ne_of_gt hI9
    · exact hK p hp
  · rw [List.length_append, hlen]; show 6 + 2 * k + 2 = _; omega
  · rcases List.mem_append.mp hx with hx | hx
    · exact ⟨(hcs x hx).1.mono fun p hp => .tail _ (.tail _ hp), (hcs x hx).2⟩
    · rcases List.mem_cons.mp hx with rfl | hx
      · exact ⟨⟨.head _, r1⟩, fun q hq => l1 q (List.mem_append_right _ (hnews q hq))⟩
      · rw [List.mem_singleton.mp hx]
        exact ⟨⟨.tail _ (.head _), r9⟩, fun q hq => l9 q (List.mem_append_right _ (hnews q hq))⟩
  · rcases List.mem_cons.mp hp with rfl | hp
    · exact Nat.ne_of_gt hA1
    rcases List.mem_cons.mp hp with rfl | hp
    · exact Nat.ne_of_gt hA9
    · exact hoA p hp
  · rcases List.mem_cons.mp hp with rfl | hp
    · exact Nat.ne_of_gt hD1
    rcases List.mem_cons.mp hp with rfl | hp
    · exact Nat.ne_of_gt hD9
    · exact hoD p hp
  · rcases List.mem_cons.mp hp with rfl | hp
    · exact Nat.ne_of_gt hI1
    rcases List.mem_cons.mp hp with rfl | hp
    · exact Nat.ne_of_gt hI9
    · exact hK p hp
theorem list_one {I : Addr} : ∀ {its : List (Addr × Obj)}, Objs [(I, "list_iterator")] its → ∃ o, its = [(I, o)]
  | [], h => (show False from h).elim
  | [p], h => ⟨p.2, congrArg (fun x => [x]) (Prod.ext (show p.1 = I from h.1.1) rfl)⟩
  | _ :: _ :: _, h => (show False from h.2).elim

section
variable {w : World} {sl : Addr} {its : Array Value} {xs : List Value} {ms : List Int} {news : List (Addr × Obj)}
theorem drawnI (hz : Kept (its.size ≤ sizeLine)) (he : Kept ((slicePick its none (some 2) none).toList = xs)) (hx : IntsAre xs ms) (hl : ms.length ≤ 2) :
    CtrG (fun h₀ => h₀.IsList sl its) 500 300 w 90 [.ref sl] news ColsPost := by
  unfold CtrG
  k_fill
  intro mean mg mb gd cn cs a ccd cl outer A₀ base h₀ L m s Q E hG B F X N T hk hret
  refine wpAny_call ?_
  k_dflt (refine' code_defC ?k1 ?k2 ?k3 ?k4 ?k5 ?kA ?kF ?kK ?k6 ?k7 ?k8 ?k9 ?kB ?kD ?_ ?c2 ?c3 ?c4; (case kA => exact rfl); (case kF => exact rfl); (case kK => assumption); (case k1 => k_asm); (case k2 => k_asm); (case k3 => k_asm); (case k4 => k_asm); (case k5 => k_asm); (case k6 => k_is); (case k7 => k_is); (case k8 => ktr_room); (case k9 => exact BindsTo.of_eq rfl); (case kB => exact rfl); (case kD => decide +kernel); (case c2 => exact rfl); (case c3 => exact rfl); (case c4 => exact rfl); k_whole; intro g' L' h' tk' cells' FG' F' N' Y' B' X' T' l1; (try k_lt l1); k_cells Y'; (try simp only [List.cons_append, List.nil_append] at N'); (try dsimp only); (try k_lift B'); (try k_fold))
  have hG' : g'.IsList sl its := hG.at fun o e => FG'.keep _ _ e
  clear hG
  walk_at "mine steps"
  unfold Stop
  rename_i oc dcell T1 g1 k1 T2 g2 k2 T3 g3 k3 T4 g4 k4 T5 g5 k5 T6 g6 k6 lD g7 k7 g8 lS h9 F9 N9 k9
  obtain ⟨KT, N8, hcs, hnews, hoA, hoD, hS⟩ := drawn_start (cs := [⟨T1, 16, 2, 0, _, _, _⟩, ⟨T2, 16, 14, 0, _, _, _⟩, ⟨T3, 8, 1, 0, _, _, _⟩, ⟨T4, 16, 9, 8, _, _, _⟩, ⟨T5, 4, 4, 4, _, _, _⟩, ⟨T6, 5, 6, 16, _, _, _⟩]) N9 (by
    simp only [List.forall_mem_cons]
    refine ⟨⟨by decide, k1.1, k7.2.2.2.2.2.1, ktn_ltOf k1.2⟩, ⟨by decide, k2.2.1, k7.2.2.2.2.1, ktn_ltOf k2.2.2⟩, ⟨by decide, k3.2.2.1, k7.2.2.2.1, ktn_ltOf k3.2.2.2⟩, ⟨by decide, k4.2.2.2.1, k7.2.2.1, ktn_ltOf k4.2.2.2.2⟩, ⟨by decide, k5.2.2.2.2.1, k7.2.1, ktn_ltOf k5.2.2.2.2.2⟩, ⟨by decide, k6.2.2.2.2.2.1, k7.1, ktn_ltOf k6.2.2.2.2.2.2⟩, fun _ h => (nomatch h)⟩) k9.1 k7.2.2.2.2.2.2.1 (fun q hq => Nat.lt_succ_of_lt (l1 q hq))
  have hlDA := k7.2.2.2.2.2.2.1
  clear k1 k2 k3 k4 k5 k6 k7 k9 N9
  with_unfolding_all (refine' iter_listTurns (vs := xs) ?k0 ?kF ?kN ?m1 ?c1 ?d1 ?_; (case kF => exact F9); (case kN => exact N8); (case m1 => exact List.mem_cons_of_mem _ (List.mem_cons_of_mem _ hS)); (case k0 => exact rfl); (case c1 => exact rfl); (case d1 => exact rfl))
  intro I₁ hI₁
  refine items_invN (JD lD (L' + 1) lS I₁ xs 0 news) _ 0 _ _ ?turn ?fin ⟨by walk_at "mine look", oc, _, _, _, KT, rfl, dcell, rfl, hcs, hnews, hoA, hoD, hS, fun p hp => Nat.ne_of_lt (hI₁ p (.tail _ (.tail _ hp)))⟩
  case fin =>
    rintro m₁ nw h₁ tk₁ ⟨hm, oc, c, cs, n, KT, rfl, hoc, hlen, hcs, hnews, hoA, hoD, hS, hoI⟩ F₁ N₁
    dsimp only
    walk_at "mine steps"
    rename_i kF kN kT kX
    have hxl := hx.length
    refine hret (.ref lD) ((lD, lstO (colRefs cs) n) :: cs.map fun c => (c.q, c.obj)) _ _ kF ?news ?lt ⟨lD, n, cs, rfl, .head _, by simp only [List.length_map] at hlen; omega, fun c hc => ⟨.tail _ (List.mem_map.mpr ⟨c, hc, rfl⟩), (hcs c hc).1.rng⟩⟩
    case news =>
      intro p hp
      refine kN p ?_
      simp only [List.cons_append, List.mem_cons, List.mem_append, List.mem_map] at hp ⊢
      rcases hp with h | ⟨c, hc, rfl⟩ | h
      · exact .inr (.inl h)
      · exact .inr (.inr (hcs c hc).1.mem)
      · exact .inr (.inr (hnews p h))
    case lt =>
      intro q hq p hp
      rcases List.mem_cons.mp hp with rfl | hp
      · exact Nat.lt_trans (Nat.lt_succ_of_lt (l1 q hq)) hlDA
      · obtain ⟨c, hc, rfl⟩ := List.mem_map.mp hp
        exact (hcs c hc).2 q hq
  case turn =>
    rintro it hit k m₁ nw v h₁ tk₁ its - hk ⟨hm, oc, c, cs, n, KT, rfl, hoc, hlen, hcs, hnews, hoA, hoD, hS, hoI⟩ hv F₁ hits N₁
    obtain ⟨v', hv', rfl⟩ := List.mem_map.mp hit
    subst hv
    obtain ⟨c0, t0, rfl⟩ := ints_mem hx hv'
    have hge := list_ge hits
    obtain ⟨KI, eKI, hiA, hiD, N₂⟩ := turn_led2 N₁ (hI₁ _ (.head _)) (hI₁ _ (.tail _ (.head _))) hge hoA hoD
    change Fr g' L' h₁ m₁ at F₁
    change News g' L' h₁ _ at N₂
    clear N₁ N8 F9
    dsimp only
    walk_at "mine steps"
    unfold Stop
    rename_i i1 i2 i3 i4 q1 i5 lq1 i6 i7 q2 i8 lq2 hlo hhi i9 i10 oc2 F5 N5 d5
    have hcl : cs.length ≤ 100 := by
      have hxl := hx.length
      simp only [List.length_map] at hk
      omega
    have hsz : (colRefs cs).length ≤ sizeLine := by
      simp only [List.length_map]
      exact Nat.le_trans hcl (by decide)
    have hsz2 : (colRefs cs ++ [Value.ref q1]).length ≤ sizeLine := by
      simp only [List.length_map, List.length_append, List.length_singleton]
      exact Nat.le_trans (Nat.succ_le_succ hcl) (by decide)
    have hq1D := Nat.ne_of_gt lq1.2.1
    k_dflt (refine' append_lst (ys := colRefs cs) (n := n) ?kF ?kN ?km ?ks ?_; (case kF => exact F5); (case kN => exact N5); (case km => exact .tail _ (.tail _ (.tail _ (.head _)))); (case ks => exact hsz))
    intro h6 F6 N6'
    have N6 := N6' ((L' + 1, oc2) :: (q1, _) :: KI) (fun p hp => by
      rcases List.mem_cons.mp hp with rfl | hp
      · exact .tail _ (.tail _ (.head _))
      rcases List.mem_cons.mp hp with rfl | hp
      · exact .tail _ (.head _)
      · exact .tail _ (.tail _ (.tail _ (.tail _ hp)))) (fun p hp => by
      rcases List.mem_cons.mp hp with rfl | hp
      · exact Nat.ne_of_lt hlDA
      rcases List.mem_cons.mp hp with rfl | hp
      · exact hq1D
      · exact hiD p hp)
    clear N6' N5 F5 lq2
    dsimp only
    walk_at "mine steps"
    unfold Stop
    rename_i qD i21 i22 o19 q9 i23 F7 N7 lq9
    have hq9D := Nat.ne_of_gt lq9.2.1
    k_dflt (refine' append_lst (ys := colRefs cs ++ [.ref q1]) (n := n + 1) ?kF ?kN ?km ?ks ?_; (case kF => exact F7); (case kN => exact N7); (case km => exact .tail _ (.tail _ (.head _))); (case ks => exact hsz2))
    intro h8 F8 N8'
    have N8x := N8' ((L' + 1, oc2) :: (q1, _) :: (q9, _) :: KI) (fun p hp => by
      rcases List.mem_cons.mp hp with rfl | hp
      · exact .tail _ (.tail _ (.tail _ (.head _)))
      rcases List.mem_cons.mp hp with rfl | hp
      · exact .tail _ (.tail _ (.tail _ (.tail _ (.head _))))
      rcases List.mem_cons.mp hp with rfl | hp
      · exact .head _
      · exact .tail _ (.tail _ (.tail _ (.tail _ (.tail _ hp))))) (fun p hp => by
      rcases List.mem_cons.mp hp with rfl | hp
      · exact Nat.ne_of_lt hlDA
      rcases List.mem_cons.mp hp with rfl | hp
      · exact hq1D
      rcases List.mem_cons.mp hp with rfl | hp
      · exact hq9D
      · exact hiD p hp)
    clear N8' N7 F7
    dsimp only
    walk_at "mine steps"
    unfold Stop
    exact drawn_end F8 N8x ⟨m17 _, m17 _, m17 _⟩ ⟨half_le (m17 _) (pick_le _), half_le (m17 _) (pick_le _), half_le (m17 _) (pick_le _)⟩ eKI (list_one hits) (hI₁ _ (.head _)) (hI₁ _ (.tail _ (.head _))) hoI (ktn_ltOf lq1.2.2) (ktn_ltOf lq9.2.2.2.2) lq1.1 lq1.2.1 lq9.2.2.1 lq9.2.1 (by walk_at "mine look") d5 hlen hcs hnews hoA hoD hS
end
theorem CtrG.mono {G : Heap → Prop} {dp un dp' un' : Nat} {w : World} {f : Addr} {vs : List Value} {news : List (Addr × Obj)} {Post Post' : List (Addr × Obj) → Value → Prop} (C : CtrG G dp' un' w f vs news Post) (hd : dp ≤ dp') (hu : un ≤ un') (hp : ∀ tl r, Post tl r → Post' tl r) : CtrG G dp un w f vs news Post' := by
  intro mean mg mb gd cn cs a ccd cl outer A₀ base h₀ L m s Q E g B F X N T hk ret
  exact C.use g hd hu B F X N T hk fun r tl h' tk' F' N' l p => ret r tl h' tk' F' N' l (hp _ _ p)
/-- _law_drawn of the script -/
theorem has_drawn {w : World} {sl : Addr} {vs : List Value} {ns : List Int} {news : List (Addr × Obj)} (hI : IntsAre vs ns) (hn : ns.length ≤ 63) : CtrG (fun h₀ => h₀.IsList sl vs.toArray) 400 200 w 90 [.ref sl] news ColsPost :=
  (drawnI ⟨by rw [List.size_toArray, hI.length]; exact Nat.le_trans hn (by decide)⟩ ⟨rfl⟩ (kmk_upto hI (show (0 : Int) ≤ 2 by decide)) (List.length_take_le _ _)).mono (by decide) (by decide) fun _ _ h => h
end
section
local macro_rules | `(tactic| walk_at "exec Assign cons ListComp") => `(tactic| (k_here; lct_look; k_dflt (refine LCt.Assign_ListComp_T (F₀ := by k_asm) (by rfl) (by with_unfolding_all rfl) (by with_unfolding_all rfl) (by decide) (by rfl) (by decide) (by rfl) (by rfl) (by rfl) ?_)))
local macro_rules | `(tactic| walk_at "truthy str") => `(tactic| (k_here; (with_reducible show wpAny _ _ (PySem.truthy (Value.str (Str.ofString (toString _)) _)) _ _ _); k_dflt (refine' truthy_num ?k0 ?k1 ?_; (case k0 => omega); (case k1 => omega))))
local macro_rules | `(tactic| walk_at "call builtin:round") => `(tactic| (k_here; (with_reducible show wpAny _ _ (call _ [Value.float _ _]) _ _ _); k_dflt (refine' round_is ?k0 ?k1 ?_; (case k0 => exact rfl); (case k1 => with_reducible assumption))))
local macro_rules | `(tactic| walk_at "call ref") => `(tactic| (k_here; (with_reducible show wpAny _ _ (call (Value.ref 85) [Value.float _ _, Value.float _ _, Value.float _ _]) _ _ _); k_dflt (refine' Ctr.use (hsv' ?r0 ?r1 ?r2 ?r3) ?kd ?ku ?k1 ?k2 ?k3 ?k4 ?k5 ?k6 ?_; (case kd => exact Nat.le_of_ble_eq_true rfl); (case ku => exact Nat.le_of_ble_eq_true rfl); (case k1 => k_asm); (case k2 => k_asm); (case k3 => k_asm); (case k4 => k_asm); (case k5 => k_asm); (case k6 => first | exact rfl | assumption); (case r0 => with_reducible assumption); (case r1 => assumption); (case r2 => assumption); (case r3 => with_reducible assumption)); (rintro r9 tl9 h9 tk9 F9 N9 hl9 ⟨q9, t1, t2, t3, eR, eT⟩); subst eR; subst eT; (try dsimp only [List.cons_append, List.nil_append] at N9); (have l1 := above1 hl9); (try k_lt l1); clear hl9; (try k_sweep)))
local macro_rules | `(tactic| walk_at "call ref") => `(tactic| (k_here; (with_reducible show wpAny _ _ (call (Value.ref 111) [Value.ref _]) _ _ _); k_dflt (refine' Ctr.use (point_l ?r0) ?kd ?ku ?k1 ?k2 ?k3 ?k4 ?k5 ?k6 ?_; (case kd => exact Nat.le_of_ble_eq_true rfl); (case ku => exact Nat.le_of_ble_eq_true rfl); (case k1 => k_asm); (case k2 => k_asm); (case k3 => k_asm); (case k4 => k_asm); (case k5 => k_asm); (case k6 => first | exact rfl | assumption); (case r0 => k_mem)); (rintro r9 tl9 h9 tk9 F9 N9 hl9 ⟨q9, t1, t2, eR, eT⟩); subst eR; subst eT; (try dsimp only [List.cons_append, List.nil_append] at N9); (have l1 := above1 hl9); (try k_lt l1); clear hl9; (try k_sweep)))
/-- the float facts of one border: turn T of 6 * S -/
structure TurnF (T S : Int) (i a b c : Int) (x y z : UInt64) : Prop where
  hi : Kept ((if Float64.isFinite (Float64.mul (Float64.ofFrac (decide (T < 0) != decide (6 * S < 0)) T.natAbs (6 * S).natAbs) 4618441417868443648) = true then some (toInt Float64.truncOf (Float64.mul (Float64.ofFrac (decide (T < 0) != decide (6 * S < 0)) T.natAbs (6 * S).natAbs) 4618441417868443648)) else none) = some i)
  hi0 : 0 ≤ i
  hi1 : i ≤ 6
  hv : Kept (hsvK (i.fmod 6) (Float64.sub (Float64.mul (Float64.ofFrac (decide (T < 0) != decide (6 * S < 0)) T.natAbs (6 * S).natAbs) 4618441417868443648) (Float64.ofInt i)) = (x, y, z))
  ha : Kept (fround (Float64.mul (Float64.ofInt S) x) = some a)
  hb : Kept (fround (Float64.mul (Float64.ofInt S) y) = some b)
  hc : Kept (fround (Float64.mul (Float64.ofInt S) z) = some c)
/-- how a base's path is read: P the place, S the size -/
inductive Shape (p : Str) : Int → Int → Prop
  | s1 {n1 : Int} : 0 ≤ n1 → n1 < 6 → Kept (Txt.split p "/" = [("" : Str), Str.ofString (toString n1)]) → Shape p n1 1
  | s1' {n1 : Int} : 0 ≤ n1 → n1 < 6 → Kept (Txt.split p "/" = [("" : Str), Str.ofString (toString n1), ("" : Str)]) → Shape p n1 1
  | s2 {n1 n2 : Int} : 0 ≤ n1 → n1 < 6 → 0 ≤ n2 → n2 < 12 → Kept (Txt.split p "/" = [("" : Str), Str.ofString (toString n1), Str.ofString (toString n2)]) → Shape p (12 * n1 + n2) (12 * 1)
  | s2' {n1 n2 : Int} : 0 ≤ n1 → n1 < 6 → 0 ≤ n2 → n2 < 12 → Kept (Txt.split p "/" = [("" : Str), Str.ofString (toString n1), Str.ofString (toString n2), ("" : Str)]) → Shape p (12 * n1 + n2) (12 * 1)
  | s3 {n1 n2 n3 : Int} : 0 ≤ n1 → n1 < 6 → 0 ≤ n2 → n2 < 12 → 0 ≤ n3 → n3 < 12 → Kept (Txt.split p "/" = [("" : Str), Str.ofString (toString n1), Str.ofString (toString n2), Str.ofString (toString n3)]) → Shape p (12 * (12 * n1 + n2) + n3) (12 * (12 * 1))
/-- what the rest of _law_borders' body does, once the place and the size are read -/
noncomputable def TailB (M : Model) (A : Around) (env : Env) (g : Heap) (L c : Addr) (news0 : List (Addr × Obj)) (P S : Int) (Q : Flow → Shared → Prop) (E : Value → Shared → Prop) (s : Shared) (rest : List Stmt) : Prop :=
  ∀ (tP tS : Tok) (m : Str → Option Value) (news : List (Addr × Obj)) (oc : Obj) (h : Heap) (tk : Nat), m (Str.ofString "place") = some (.int P tP) → Fr g L h m → News g L h news → (c, oc) ∈ news → oc.data = .cell (some (.int S tS)) → (∀ p ∈ news0, p ∈ news) →
    wpAny M A (execs rest env) Q E { s with heap := h, toks := tk }
theorem tailB_use {M : Model} {A : Around} {env : Env} {g : Heap} {L c : Addr} {news0 : List (Addr × Obj)} {P S : Int} {Q : Flow → Shared → Prop} {E : Value → Shared → Prop} {s : Shared} {rest : List Stmt} (H : TailB M A env g L c news0 P S Q E s rest)
    {tP tS : Tok} {m : Str → Option Value} {news : List (Addr × Obj)} {oc : Obj} {h : Heap} {tk : Nat} (hm : m (Str.ofString "place") = some (.int P tP)) (F : Fr g L h m) (N : News g L h news) (hc : (c, oc) ∈ news) (hd : oc.data = .cell (some (.int S tS))) (hs : ∀ p ∈ news0, p ∈ news) :
    wpAny M A (execs rest env) Q E { s with heap := h, toks := tk } := H tP tS m news oc h tk hm F N hc hd hs
theorem tailB_split {M : Model} {A : Around} {env : Env} {g : Heap} {L c : Addr} {news0 : List (Addr × Obj)} {P S : Int} {Q : Flow → Shared → Prop} {E : Value → Shared → Prop} {s : Shared} {body : List Stmt}
    (tail : TailB M A env g L c news0 P S Q E s (body.drop 3)) (main : TailB M A env g L c news0 P S Q E s (body.drop 3) → wpAny M A (execs body env) Q E s) : wpAny M A (execs body env) Q E s := main tail
structure MineMark : Prop where
  out : True
/-- a text of a path's part -/
noncomputable def ptxt (o : Option Int) : Str := match o with
  | none => ""
  | some n => Str.ofString (toString n)
noncomputable def foldP (p : Int) : List Int → Int
  | [] => p
  | n :: r => foldP (12 * p + n) r
noncomputable def foldS (s : Int) : List Int → Int
  | [] => s
  | _ :: r => foldS (12 * s) r
theorem foldP_ge : ∀ {r : List Int} {p : Int}, 0 ≤ p → (∀ n ∈ r, 0 ≤ n) → p ≤ foldP p r
  | [], _, _, _ => Int.le_refl _
  | n :: r, p, h, hr => by
    have h1 := hr n (.head _)
    have := foldP_ge (r := r) (p := 12 * p + n) (by omega) fun m hm => hr m (.tail _ hm)
    show p ≤ foldP (12 * p + n) r
    omega
theorem foldS_ge : ∀ {r : List Int} {s : Int}, 0 ≤ s → s ≤ foldS s r
  | [], _, _ => Int.le_refl _
  | n :: r, s, h => by
    have := foldS_ge (r := r) (s := 12 * s) (by omega)
    show s ≤ foldS (12 * s) r
    omega
theorem okN : ∀ n, (none : Option Int) = some n → 0 ≤ n ∧ n < 12 := fun _ h => by cases h
theorem okS {k : Int} (h0 : 0 ≤ k) (h1 : k < 12) : ∀ n, some k = some n → 0 ≤ n ∧ n < 12 := fun _ h => by cases h; exact ⟨h0, h1⟩
/-- how a path is read: its parts, the numbers, place and size -/
theorem shape_parts {p : Str} {P S : Int} (h : Shape p P S) : ∃ (os : List (Option Int)) (n1 : Int) (rest : List Int), Kept (Txt.split p "/" = os.map ptxt) ∧ (∀ o ∈ os, ∀ n, o = some n → 0 ≤ n ∧ n < 12) ∧ os.filterMap id = n1 :: rest ∧ foldP n1 rest = P ∧ foldS 1 rest = S ∧ os.length ≤ 100 := by
  cases h with
  | s1 h0 h1 hs => exact ⟨[none, some _], _, [], ⟨hs.out⟩, List.forall_mem_cons.mpr ⟨okN, List.forall_mem_cons.mpr ⟨okS h0 (by omega), List.forall_mem_nil _⟩⟩, rfl, rfl, rfl, Nat.le_of_ble_eq_true rfl⟩
  | s1' h0 h1 hs => exact ⟨[none, some _, none], _, [], ⟨hs.out⟩, List.forall_mem_cons.mpr ⟨okN, List.forall_mem_cons.mpr ⟨okS h0 (by omega), List.forall_mem_cons.mpr ⟨okN, List.forall_mem_nil _⟩⟩⟩, rfl, rfl, rfl, Nat.le_of_ble_eq_true rfl⟩
  | s2 h0 h1 h2 h3 hs => exact ⟨[none, some _, some _], _, [_], ⟨hs.out⟩, List.forall_mem_cons.mpr ⟨okN, List.forall_mem_cons.mpr ⟨okS h0 (by omega), List.forall_mem_cons.mpr ⟨okS h2 h3, List.forall_mem_nil _⟩⟩⟩, rfl, rfl, rfl, Nat.le_of_ble_eq_true rfl⟩
  | s2' h0 h1 h2 h3 hs => exact ⟨[none, some _, some _, none], _, [_], ⟨hs.out⟩, List.forall_mem_cons.mpr ⟨okN, List.forall_mem_cons.mpr ⟨okS h0 (by omega), List.forall_mem_cons.mpr ⟨okS h2 h3, List.forall_mem_cons.mpr ⟨okN, List.forall_mem_nil _⟩⟩⟩⟩, rfl, rfl, rfl, Nat.le_of_ble_eq_true rfl⟩
  | s3 h0 h1 h2 h3 h4 h5 hs => exact ⟨[none, some _, some _, some _], _, [_, _], ⟨hs.out⟩, List.forall_mem_cons.mpr ⟨okN, List.forall_mem_cons.mpr ⟨okS h0 (by omega), List.forall_mem_cons.mpr ⟨okS h2 h3, List.forall_mem_cons.mpr ⟨okS h4 h5, List.forall_mem_nil _⟩⟩⟩⟩, rfl, rfl, rfl, Nat.le_of_ble_eq_true rfl⟩
theorem compRestT_inv {prog : Program} {w : World} {A : Around} {s : Shared} {h₀ : Heap} {L : Addr} {m : Str → Option Value} {env : Env} {ct elt : Expr} {x : Str} {scope : Scope} {cl : List (Str × Addr)} {S : List (Addr × Obj) → Prop} {P : Nat → Value → Prop} {Fin : List Value → List (Addr × Obj) → Prop} (J : Nat → List Value → List (Addr × Obj) → Prop) (n : Nat)
    (turn : ∀ k ys news v I oI C oC D m₂ h tk (E' : Value → Shared → Prop) (R : List Value → List (Addr × Obj) → Prop), k < n → J k ys news → P k v → (∀ ys' n', J (k + 1) ys' n' → R ys' n') → LCg.NsObj oC m₂ → m₂ x = some v → Fr h₀ L h m → News h₀ L h ((I, oI) :: (C, oC) :: (D, LCg.lst ys) :: news) → LCg.Off3 I C D news →
      wpAny (model prog w) A (isTrue ct (compEnvC scope cl C env) (eval ct (compEnvC scope cl C env))) (fun ok s' => if ok = true then
        wpAny (model prog w) A (eval elt (compEnvC scope cl C env)) (LCg.CompEnd h₀ L m { s with heap := h, toks := tk } I oI C oC D (LCg.lst ys) S (fun y news' => R (ys ++ [y]) news')) E' s'
        else LCg.CompEnd h₀ L m { s with heap := h, toks := tk } I oI C oC D (LCg.lst ys) S (fun _ news' => R ys news') Value.none s') E' { s with heap := h, toks := tk })
    (fin : ∀ ys news, J n ys news → Fin ys news) :
    ∀ (k i : Nat) (ys : List Value) (news : List (Addr × Obj)), i + k = n → J i ys news → LCt.CompRestT prog w A h₀ L m env ct elt x scope cl s S P Fin k i ys news := by
  intro k
  induction k with
  | zero => intro i ys news e hJ; exact fin ys news (by rw [← e]; exact hJ)
  | succ k ih =>
    intro i ys news e hJ
    refine LCt.CompRestT.succ ?_
    intro v I oI C oC D m₂ h tk E' hP hC hx F N off ne
    exact turn i ys news v I oI C oC D m₂ h tk E' _ (by omega) hJ hP (fun ys' n' hn => ih (i + 1) ys' n' (by omega) hn) hC hx F N off
/-- a loop by what holds ahead of the items that are left -/
theorem items_invL {prog : Program} {w : World} {A : Around} {E : Value → Shared → Prop} {s : Shared} {env : Env} {h₀ : Heap} {target : Expr} {body : List Stmt} {Q : Flow → Shared → Prop} {ws : List (Addr × String)} {keep : List (Addr × Obj)} (J : List Itm → (Str → Option Value) → List (Addr × Obj) → Prop)
    (turn : ∀ a r m₁ news₁ v h tk its, J (a :: r) m₁ news₁ → a.Is v h → Fr h₀ env.locals h m₁ → Objs ws its → News h₀ env.locals h (its ++ news₁) →
      wpAny (model prog w) A (assign target env v) (fun _ s₂ => wpAny (model prog w) A (execs body env) (UnrPostW h₀ env.locals { s with heap := h, toks := tk } its (fun m' n' => SubL keep n' ∧ J r m' n') Q) E s₂) E { s with heap := h, toks := tk })
    (fin : ∀ m₁ news₁ h tk, J [] m₁ news₁ → Fr h₀ env.locals h m₁ → News h₀ env.locals h news₁ → Q .next { s with heap := h, toks := tk }) :
    ∀ (xs : List Itm) (m : Str → Option Value) (news : List (Addr × Obj)), J xs m news → ItemsRest prog w A E h₀ env target body Q s ws keep xs m news := by
  intro xs
  induction xs with
  | nil => intro m news hJ h tk F N; exact fin m news h tk hJ F N
  | cons a r ih =>
    intro m news hJ v h tk ha F
    refine allObj_of fun its hits N => ?_
    refine wpAny_mono (turn a r m news v h tk its hJ ha F hits N) (fun _ s₂ h₂ => wpAny_mono h₂ (fun f s₃ h₃ => unrPost_mono h₃ fun m' n' hh => ⟨hh.1, ih m' n' hh.2⟩) fun _ _ e => e) fun _ _ e => e
theorem splitV {prog : Program} {w : World} {A : Around} {E : Value → Shared → Prop} {s : Shared} {h₀ : Heap} {L : Addr} {m : Str → Option Value} {news : List (Addr × Obj)} {x y : Str} {xs : List Str} {t u : Tok} {Q : Value → Shared → Prop} (hF : Fr h₀ L s.heap m) (hN : News h₀ L s.heap news) (hs : Kept (Txt.split x y = xs)) (hl : x.length ≤ 1000) (hy : (y.length == 0) = false)
    (h : ∀ D h' k (l : List (Str × Tok)), l.map (·.1) = xs → Fr h₀ L h' m → News h₀ L h' ((D, lstO (strValues l) 0) :: news) → (∀ p ∈ news, p.1 < D) → Q (.ref D) { s with heap := h', toks := k }) :
    wpAny (model prog w) A (call (.builtin "str.split") [.str x t, .str y u]) Q E s :=
  KSpl.split1 hF hN hy (fun D l h' k e _ F N lt => h D h' k l (e.trans hs.out) F N lt) (Nat.le_trans (Nat.add_le_add_right hl 2) (by decide))
theorem vals_get {l : List (Str × Tok)} {os : List (Option Int)} {k : Nat} {v : Value} (e : l.map (·.1) = os.map ptxt) (h : (strValues l).toArray[k]? = some v) : ∃ o t, os[k]? = some o ∧ v = .str (ptxt o) t := by
  have h' : (strValues l)[k]? = some v := by simpa using h
  unfold strValues at h'
  rw [List.getElem?_map] at h'
  have e' := congrArg (fun q : List Str => q[k]?) e
  simp only [List.getElem?_map] at e'
  cases el : l[k]? with
  | none => rw [el] at h'; cases h'
  | some q =>
    rw [el] at h' e'
    cases eo : os[k]? with
    | none => rw [eo] at e'; cases e'
    | some o =>
      rw [eo] at e'
      refine ⟨o, q.2, rfl, ?_⟩
      have e1 : q.1 = ptxt o := Option.some.inj e'
      rw [← e1]
      exact (Option.some.inj h').symm
theorem ints_snoc {ys : List Value} {ns : List Int} {n : Int} {t : Tok} (h : IntsAre ys ns) : IntsAre (ys ++ [.int n t]) (ns ++ [n]) := by
  induction h with
  | nil => exact .cons _ _ .nil
  | cons i t r ih => exact .cons _ _ ih
theorem pick_tail (v : Value) (ys : List Value) : (slicePick (v :: ys).toArray (some 1) none none).toList = ys := by
  rw [kms_pick_eq]
  simp [kms_pick, kms_lo, kms_hi]
theorem drop_led {h₀ h : Heap} {L I : Addr} {o : Obj} {all l' : List (Addr × Obj)} (N : News h₀ L h all) (d : Drop I o all l') : News h₀ L h ((I, o) :: l') ∧ ∀ p ∈ l', p.1 ≠ I :=
  ⟨fun p hp => by
    rcases List.mem_cons.mp hp with rfl | hp
    · exact N _ d.mem.1
    · exact N p (d.mem.2.1 p hp), d.mem.2.2⟩
theorem pull4 {h₀ h : Heap} {L I : Addr} {o : Obj} {e1 e2 e3 e4 : Addr × Obj} {l : List (Addr × Obj)} (N : News h₀ L h (e1 :: e2 :: e3 :: e4 :: (I, o) :: l)) (h1 : e1.1 ≠ I) (h2 : e2.1 ≠ I) (h3 : e3.1 ≠ I) (h4 : e4.1 ≠ I) (hl : ∀ p ∈ l, p.1 ≠ I) :
    ∃ KT, News h₀ L h ((I, o) :: KT) ∧ (∀ p ∈ KT, p.1 ≠ I) ∧ (∀ p ∈ l, p ∈ KT) ∧ e1 ∈ KT := by
  refine ⟨e1 :: e2 :: e3 :: e4 :: l, fun p hp => N p ?_, fun p hp => ?_, fun p hp => .tail _ (.tail _ (.tail _ (.tail _ hp))), .head _⟩
  · simp only [List.mem_cons] at hp ⊢
    rcases hp with h | h | h | h | h | h
    · exact .inr (.inr (.inr (.inr (.inl h))))
    · exact .inl h
    · exact .inr (.inl h)
    · exact .inr (.inr (.inl h))
    · exact .inr (.inr (.inr (.inl h)))
    · exact .inr (.inr (.inr (.inr (.inr h))))
  · simp only [List.mem_cons] at hp
    rcases hp with rfl | rfl | rfl | rfl | h
    · exact h1
    · exact h2
    · exact h3
    · exact h4
    · exact hl p h
local macro_rules | `(tactic| walk_at "execs cons") => `(tactic| (k_here; (with_reducible show wpAny _ _ (execs (Stmt.Assign [Expr.Name (Str.ofString "borders") _] _ _ :: _) _) _ _ _); refine stopHere ?_))
local macro_rules | `(tactic| walk_at "call builtin:str.split") => `(tactic| (k_here; refine stopHere ?_))
local macro_rules | `(tactic| walk_at "CompSrcT") => `(tactic| (k_here; refine stopHere ?_))
local macro_rules | `(tactic| walk_at "subscriptTail Name Slice ref ref") => `(tactic| (k_here; k_dflt (refine' kmk_slice_lit ?F ?N ?l ?p ?q ?e ?_ ?s ?t ?z; (case F => k_asm); (case N => k_asm); (case l => exact News.isList (by k_asm) (by k_mem)); (case p => kmk_part); (case q => kmk_part); (case e => exact Kept.out (by with_reducible assumption)); (case s => with_unfolding_all rfl); (case t => kmk_pure); (case z => exact Kept.out (by with_reducible assumption))); intro D' h' F' N' l1; (try k_lt l1); (try k_sweep)))
local macro_rules | `(tactic| walk_at "pyIter ref") => `(tactic| (k_here; (with_reducible show wpAny _ _ (pyIter (Value.ref _)) (fun it s₂ => TurnsAt _ _ _ _ _ _ _ _ _ it s₂) _ _); (rename MineMark => mk8); refine stopHere ?_))
local macro_rules | `(tactic| walk_at "UnrEndW") => `(tactic| (k_here; (rename MineMark => mk8); refine stopHere ?_))
section
variable {w : World} {p : Str} {P S : Int} {t0 t1 : Tok} {news : List (Addr × Obj)} {i a b c i' a' b' c' : Int} {x y z x' y' z' : UInt64}
theorem borders (hsh : Shape p P S) (hP0 : 0 ≤ P) (hP1 : P < 1000) (hS0 : 1 ≤ S) (hS1 : S ≤ 144)
    (hl : p.length ≤ 1000) (H : TurnF P S i a b c x y z) (H' : TurnF (P + 1) S i' a' b' c' x' y' z') :
    Ctr 500 300 w 116 [.str p t0] news (BordPost a b c a' b' c') := by
  obtain ⟨hi, hi0, hi1, hv, ha, hb, hc⟩ := H
  obtain ⟨hi', hi0', hi1', hv', ha', hb', hc'⟩ := H'
  unfold Ctr
  k_fill
  intro mean mg mb gd cn cs a ccd cl outer A₀ base h₀ L m s Q E B F X N T hk hret
  refine wpAny_call ?_
  k_dflt (refine' code_defC ?k1 ?k2 ?k3 ?k4 ?k5 ?kA ?kF ?kK ?k6 ?k7 ?k8 ?k9 ?kB ?kD ?_ ?c2 ?c3 ?c4; (case kA => exact rfl); (case kF => exact rfl); (case kK => assumption); (case k1 => k_asm); (case k2 => k_asm); (case k3 => k_asm); (case k4 => k_asm); (case k5 => k_asm); (case k6 => k_is); (case k7 => k_is); (case k8 => ktr_room); (case k9 => exact BindsTo.of_eq rfl); (case kB => exact rfl); (case kD => decide +kernel); (case c2 => exact rfl); (case c3 => exact rfl); (case c4 => exact rfl); k_whole; intro g' L' h' tk' cells' FG' F' N' Y' B' X' T' l1; (try k_lt l1); k_cells Y'; (try simp only [List.cons_append, List.nil_append] at N'); (try dsimp only); (try k_lift B'); (try k_fold))
  refine tailB_split (g := g') (L := L') (c := L' + 1) (news0 := news) (P := P) (S := S) ?tail ?main
  case tail =>
    clear hsh hl
    dsimp only [List.drop]
    unfold TailB
    clear N' F'
    intro tP tS m₁ news₁ oc h₁ tk₁ hm₁ F₁ N₁ hc₁ hd₁ hs₁
    refine wpAny_execs_cons ?_
    walk_at "mine steps"
    refine retSel hret (by assumption) (by assumption) (by walk_at "mine sel") hs₁ ⟨_, _, _, _, _, _, _, _, rfl, by k_mem, by k_mem, by k_mem⟩
  case main =>
    intro tailH
    dsimp only [List.drop] at tailH
    clear hi hv ha hb hc hi' hv' ha' hb' hc' hret
    obtain ⟨os, n1, rest, hsp, hos, hfm, hfP, hfS, hol⟩ := shape_parts hsh
    clear hsh
    have mk9 : MineMark := ⟨trivial⟩
    walk_at "mine steps"
    unfold Stop
    k_dflt (refine' splitV ?k0 ?k1 hsp ?k3 ?k4 ?_; (case k0 => k_asm); (case k1 => k_asm); (case k3 => exact hl); (case k4 => decide))
    intro lS h₂ k₂ ls els F₂ N₂ l2
    (try k_lt l2)
    have hlen : ls.length = os.length := by simpa using congrArg List.length els
    walk_at "mine steps"
    unfold Stop
    k_dflt (refine' LCt.CompSrcT.ledger ?k0 F₂ N₂ (List.mem_cons_self ..) ?k4 ?_; (case k0 => exact rfl); (case k4 => (simp only [List.size_toArray, strValues, List.length_map]; rw [hlen]; exact Nat.le_trans hol (by decide))))
    intro g₁
    refine compRestT_inv (fun k ys nw => nw = _ ∧ IntsAre ys ((os.take k).filterMap id)) _ ?turn ?fin _ 0 [] _ (Nat.zero_add _) ⟨rfl, .nil⟩
    case turn =>
      rintro k ys nw v I oI C oC D m₂ h tk E' R hk ⟨rfl, hI⟩ hP hJ hC hx F N off
      obtain ⟨o, t, ho, rfl⟩ := vals_get els hP
      have hoi := hos o (List.mem_of_getElem? ho)
      clear hP hk
      cases o with
      | none =>
        change m₂ _ = some (Value.str (Str.ofString "") t) at hx
        walk_at "mine steps"
        refine hJ _ _ ⟨rfl, ?_⟩
        rw [take_snoc ho, List.filterMap_append]
        simpa using hI
      | some n =>
        obtain ⟨hn0, hn1⟩ := hoi n rfl
        change m₂ _ = some (Value.str (Str.ofString (toString n)) t) at hx
        walk_at "mine steps"
        refine hJ _ _ ⟨rfl, ?_⟩
        rw [take_snoc ho, List.filterMap_append]
        exact ints_snoc hI
    case fin =>
      rintro ys nw ⟨rfl, hI⟩
      rw [List.take_of_length_le (by simp only [List.size_toArray, strValues, List.length_map]; omega), hfm] at hI
      obtain ⟨tn, ys', rfl, hI'⟩ : ∃ tn ys', ys = .int n1 tn :: ys' ∧ IntsAre ys' rest := by
        cases hI with
        | cons _ tn r => exact ⟨tn, _, rfl, r⟩
      intro lN h₃ tk₃ F₃ N₃ o1
      dsimp only
      have he2 : Kept ((slicePick (Value.int n1 tn :: ys').toArray (some 1) none none).toList = ys') := ⟨pick_tail _ _⟩
      have hz2 : Kept ((Value.int n1 tn :: ys').toArray.size ≤ sizeLine) := ⟨by
        have h1 := hI'.length
        have h2 := congrArg List.length hfm
        have h3 := List.length_filterMap_le id os
        simp only [List.size_toArray, List.length_cons] at h2 ⊢
        exact Nat.le_trans (by omega : ys'.length + 1 ≤ 100) (by decide)⟩
      walk_at "mine steps"
      unfold Stop
      rename_i qT i1 lqT i2 i3 i4 oc dc lV i5 F₄ N₄ lV1
      obtain ⟨KT, N₅, hoffK, hsub, (hV : (lV, lstO ys' 0) ∈ KT)⟩ := pull4 N₄ (Nat.ne_of_gt lV1.2.2.2.1) (Nat.ne_of_gt lqT.2.2.1) (Ne.symm (off1a o1 (List.mem_cons_of_mem _ (List.mem_cons_self ..)))) (Nat.ne_of_gt l2.1) (off_of_lt1 l1)
      have hall : ∀ n ∈ n1 :: rest, 0 ≤ n ∧ n < 12 := by
        intro n hn
        rw [← hfm] at hn
        obtain ⟨o, ho, e⟩ := List.mem_filterMap.mp hn
        exact hos o ho n e
      clear N₄ o1 lqT lV1 he2 hz2 l2 hI hos hfm hsp els hlen
      with_unfolding_all (refine' iter_listTurns (vs := ys') ?k0 ?kF ?kN ?m1 ?c1 ?d1 ?_; (case kF => exact F₄); (case kN => exact N₅); (case m1 => exact List.mem_cons_of_mem _ hV); (case k0 => exact rfl); (case c1 => exact rfl); (case d1 => exact rfl))
      intro I₁ hI₁
      refine items_invL (fun l m nw => ∃ (rs : List Value) (ns : List Int) (p s : Int) (tp ts : Tok) (oc : Obj), l = List.map Itm.val rs ∧ IntsAre rs ns ∧ (∀ n ∈ ns, 0 ≤ n ∧ n < 12) ∧ m (Str.ofString "place") = some (.int p tp) ∧ nw = (L' + 1, oc) :: KT ∧ oc.data = .cell (some (.int s ts)) ∧ 0 ≤ p ∧ 1 ≤ s ∧ foldP p ns = P ∧ foldS s ns = S) ?turn2 ?fin2 _ _ _ ⟨ys', rest, n1, 1, _, _, oc, rfl, hI', fun n hn => hall n (.tail _ hn), by walk_at "mine look", rfl, dc, (hall n1 (.head _)).1, by decide, hfP, hfS⟩
      case fin2 =>
        rintro m₁ nw h tk ⟨rs, ns, p1, s1, tp, ts, oc1, el, hI1, hns, hm, rfl, hd1, hp0, hs0, hP1', hS1'⟩ F N
        cases rs with
        | cons _ _ => cases el
        | nil =>
          cases hI1
          change p1 = P at hP1'
          change s1 = S at hS1'
          subst hP1' hS1'
          dsimp only
          walk_at "mine steps"
          unfold Stop
          k_dflt (refine' tailH _ _ _ _ _ _ _ ?km ?kF ?kN ?kc ?kd ?ks; (case kF => exact F); (case kN => exact N); (case km => exact hm); (case kc => exact List.mem_cons_self ..); (case kd => exact hd1); (case ks => exact fun p hp => .tail _ (hsub p hp)))
      case turn2 =>
        rintro a r m₁ nw v h tk its ⟨rs, ns, p1, s1, tp, ts, oc1, el, hI1, hns, hm, rfl, hd1, hp0, hs0, hP1', hS1'⟩ hv F N0 N
        cases rs with
        | nil => cases el
        | cons r0 rs =>
          obtain ⟨rfl, rfl⟩ := List.cons.inj el
          obtain ⟨n, t, ns', rfl, rfl, hI2⟩ : ∃ n t ns', r0 = .int n t ∧ ns = n :: ns' ∧ IntsAre rs ns' := by
            cases hI1 with
            | cons _ t r => exact ⟨_, t, _, rfl, rfl, r⟩
          change v = Value.int n t at hv
          subst hv
          obtain ⟨hn0, hn1⟩ := hns n (.head _)
          change foldP (12 * p1 + n) ns' = P at hP1'
          change foldS (12 * s1) ns' = S at hS1'
          have hpb := foldP_ge (r := ns') (p := 12 * p1 + n) (by omega) fun m hm => (hns m (.tail _ hm)).1
          have hsb := foldS_ge (r := ns') (s := 12 * s1) (by omega)
          rw [hP1'] at hpb
          rw [hS1'] at hsb
          have hI₁b : L' + 1 < I₁ := hI₁ _ (List.mem_cons_self ..)
          have hI₁K : ∀ p ∈ KT, p.1 < I₁ := fun p hp => hI₁ p (.tail _ hp)
          have hge := list_ge N0
          obtain ⟨KI, hits', hKI, hoffI, N₆⟩ := turn_led N hI₁b hge hoffK
          change Fr g' L' h m₁ at F
          change News g' L' h _ at N₆
          clear N hI₁ N₅ F₄ el hI1
          dsimp only
          walk_at "mine steps"
          unfold Stop
          rename_i F₇ N₇ d₇
          refine turn_end F₇ N₇ hI₁b hI₁K hge (fun p hp => .tail _ (.tail _ (hits' p hp))) (fun p hp => .tail _ (.tail _ (hKI p hp))) (.tail _ (.head _)) ⟨And.intro (List.mem_cons_of_mem _ hV) trivial, rs, ns', 12 * p1 + n, 12 * s1, _, _, _, rfl, hI2, fun m hm => hns m (.tail _ hm), by walk_at "mine look", rfl, d₇, by omega, by omega, hP1', hS1'⟩
end
end
end
section
local macro_rules | `(tactic| walk_at "eval Name") => `(tactic| (k_here; (with_reducible show wpAny _ _ (eval (Expr.Name _ _) (compEnvC _ _ _ _)) _ _ _); k_dflt (refine ld_free (by k_asm) (by rfl) (by k_mem) (by k_asm) ?_)))
local macro_rules | `(tactic| walk_at "eval ListComp") => `(tactic| (k_here; k_dflt (refine' ListComp3 ?k0 ?k1 ?k2 ?k3 ?k4 ?k5 ?k6 ?k7 ?k8 ?k9 ?k10 ?_; (case k0 => k_asm); (case k1 => with_unfolding_all rfl); (case k2 => decide); (case k3 => rfl); (case k4 => decide); (case k5 => rfl); (case k6 => rfl); (case k7 => rfl); (case k8 => decide); (case k9 => decide); (case k10 => decide))))
noncomputable def covG (light : Bool) (r : Row3) : Value := match r.2 with
  | (.bool b, .int _ _, .int _ _) => .bool (b == light)
  | _ => .none
section
variable {w : World} {rl : Addr} {light : Bool} {rows : List Row3} {n : Nat} {t0 : Tok} {news : List (Addr × Obj)}
theorem covered_g (hm : (rl, lstO (rows.map fun r => Value.ref r.1) n) ∈ news) (hrow : ∀ r ∈ rows, (r.1, tupO [r.2.1, r.2.2.1, r.2.2.2] 0) ∈ news) (hsz : rows.length ≤ 1000)
    (hrk : ∀ r ∈ rows, ∃ b o u t t', r.2 = (.bool b, .int o t, .int u t')) :
    Ctr 400 200 w 121 [.bool light, .str "/" t0, .ref rl] news (fun tl v => ∃ l k, v = .ref l ∧ (l, lstO (rows.map (covG light)) k) ∈ tl) := by
  unfold Ctr
  k_fill
  intro mean mg mb gd cn cs a ccd cl outer A₀ base h₀ L m s Q E B F X N T hk hret
  refine wpAny_call ?_
  k_dflt (refine' code_defC ?k1 ?k2 ?k3 ?k4 ?k5 ?kA ?kF ?kK ?k6 ?k7 ?k8 ?k9 ?kB ?kD ?_ ?c2 ?c3 ?c4; (case kA => exact rfl); (case kF => exact rfl); (case kK => assumption); (case k1 => k_asm); (case k2 => k_asm); (case k3 => k_asm); (case k4 => k_asm); (case k5 => k_asm); (case k6 => k_is); (case k7 => k_is); (case k8 => ktr_room); (case k9 => exact BindsTo.of_eq rfl); (case kB => exact rfl); (case kD => decide +kernel); (case c2 => exact rfl); (case c3 => exact rfl); (case c4 => exact rfl); k_whole; intro g' L' h' tk' cells' FG' F' N' Y' B' X' T' l1; (try k_lt l1); k_cells Y'; (try simp only [List.cons_append, List.nil_append] at N'); (try dsimp only); (try k_lift B'); (try k_fold))
  walk_at "mine steps"
  refine ⟨_, rows, covG light, n, _, rfl, rfl, by k_asm, by k_asm, by k_mem, fun r hr => by (have hr9 := hrow r hr); k_mem, Nat.le_trans hsz (by decide), ?turn, ?fin⟩
  case turn =>
    intro r hr I oI C oC D ys m₂ h tk E' hC h1 h2 h3 F₁ N₁ off
    obtain ⟨b, o, u, t, t', e⟩ := hrk r hr
    obtain ⟨ra, rv⟩ := r
    dsimp only at e
    subst e
    dsimp only at h1 h2 h3
    walk_at "mine steps"
    exact ⟨_, _, rfl, by assumption, by assumption, rfl⟩
  case fin =>
    intro D h tk F₁ N₁ l1
    (try k_lt l1)
    dsimp only
    walk_at "mine steps"
    refine retSel (news₁ := news) hret (by assumption) (by assumption) (by walk_at "mine sel") (fun _ h => h) ⟨_, _, rfl, by k_mem⟩
end
/-- that _law_borders of the path p gives these two points -/
structure HB (w : World) (p : Str) (a b c a' b' c' : Int) : Prop where
  out : ∀ t0 news, Ctr 500 300 w 116 [.str p t0] news (BordPost a b c a' b' c')
theorem bord_open {h₀ h : Heap} {L : Addr} {tl led : List (Addr × Obj)} {v : Value} {a b c a' b' c' : Int} (N : News h₀ L h (tl ++ led)) (hl : ∀ q ∈ led, ∀ p ∈ tl, q.1 < p.1) (P : BordPost a b c a' b' c' tl v) :
    ∃ l n q q' t1 t2 t3 t4, v = .ref l ∧ News h₀ L h ((l, lstO [.ref q, .ref q'] n) :: (q, tupO [.int (2 * a - b - c) t1, .int (b - c) t2] 0) :: (q', tupO [.int (2 * a' - b' - c') t3, .int (b' - c') t4] 0) :: led) ∧ (∀ p ∈ led, p.1 < l) ∧ (∀ p ∈ led, p.1 < q) ∧ (∀ p ∈ led, p.1 < q') := by
  obtain ⟨l, n, q, q', t1, t2, t3, t4, e, m1, m2, m3⟩ := P
  refine ⟨l, n, q, q', t1, t2, t3, t4, e, fun p hp => ?_, fun p hp => hl p hp _ m1, fun p hp => hl p hp _ m2, fun p hp => hl p hp _ m3⟩
  rcases List.mem_cons.mp hp with rfl | hp
  · exact N _ (List.mem_append_left _ m1)
  · rcases List.mem_cons.mp hp with rfl | hp
    · exact N _ (List.mem_append_left _ m2)
    · rcases List.mem_cons.mp hp with rfl | hp
      · exact N _ (List.mem_append_left _ m3)
      · exact N _ (List.mem_append_right _ hp)
local macro_rules | `(tactic| walk_at "call ref") => `(tactic| (k_here; (with_reducible show wpAny _ _ (call (Value.ref 116) [Value.str _ _]) _ _ _); k_dflt (refine' Ctr.use (HB.out ?r0 _ _) ?kd ?ku ?k1 ?k2 ?k3 ?k4 ?k5 ?k6 ?_; (case kd => exact Nat.le_of_ble_eq_true rfl); (case ku => exact Nat.le_of_ble_eq_true rfl); (case k1 => k_asm); (case k2 => k_asm); (case k3 => k_asm); (case k4 => k_asm); (case k5 => k_asm); (case k6 => first | exact rfl | assumption); (case r0 => with_reducible assumption)); (intro r9 tl9 h9 tk9 F9 N9 hl9 P9); (obtain ⟨l9, n9, q9, q9', t1, t2, t3, t4, eR, N8, l1, l2, l3⟩ := bord_open N9 hl9 P9); subst eR; clear N9 hl9 P9; (try k_lt l1); (try k_lt l2); (try k_lt l3); (try k_sweep)))
noncomputable def covC (light : Bool) (x y x' y' : Int) (r : Row3) : Value := match r.2 with
  | (.bool b, .int o _, .int u _) => .bool (b == light && decide (x * u ≥ y * o) && decide (o * y' > u * x'))
  | _ => .none
section
variable {w : World} {rl : Addr} {light : Bool} {rows : List Row3} {n : Nat} {t0 : Tok} {p : Str} {xa xb xc ya yb yc : Int} {news : List (Addr × Obj)}
theorem covered_c (hm : (rl, lstO (rows.map fun r => Value.ref r.1) n) ∈ news) (hrow : ∀ r ∈ rows, (r.1, tupO [r.2.1, r.2.2.1, r.2.2.2] 0) ∈ news) (hsz : rows.length ≤ 1000)
    (hrk : ∀ r ∈ rows, ∃ b o u t t', r.2 = (.bool b, .int o t, .int u t') ∧ -1000 ≤ o ∧ o ≤ 1000 ∧ -1000 ≤ u ∧ u ≤ 1000) (hp : p ≠ "/") (hB : HB w p xa xb xc ya yb yc) :
    Ctr 400 200 w 121 [.bool light, .str p t0, .ref rl] news (fun tl v => ∃ l k, v = .ref l ∧ (l, lstO (rows.map (covC light (2 * xa - xb - xc) (xb - xc) (2 * ya - yb - yc) (yb - yc))) k) ∈ tl) := by
  unfold Ctr
  k_fill
  intro mean mg mb gd cn cs a ccd cl outer A₀ base h₀ L m s Q E B F X N T hk hret
  refine wpAny_call ?_
  k_dflt (refine' code_defC ?k1 ?k2 ?k3 ?k4 ?k5 ?kA ?kF ?kK ?k6 ?k7 ?k8 ?k9 ?kB ?kD ?_ ?c2 ?c3 ?c4; (case kA => exact rfl); (case kF => exact rfl); (case kK => assumption); (case k1 => k_asm); (case k2 => k_asm); (case k3 => k_asm); (case k4 => k_asm); (case k5 => k_asm); (case k6 => k_is); (case k7 => k_is); (case k8 => ktr_room); (case k9 => exact BindsTo.of_eq rfl); (case kB => exact rfl); (case kD => decide +kernel); (case c2 => exact rfl); (case c3 => exact rfl); (case c4 => exact rfl); k_whole; intro g' L' h' tk' cells' FG' F' N' Y' B' X' T' l1; (try k_lt l1); k_cells Y'; (try simp only [List.cons_append, List.nil_append] at N'); (try dsimp only); (try k_lift B'); (try k_fold))
  walk_at "mine steps"
  · exfalso; exact absurd (by assumption : (p == Str.ofString "/") = true) (by simpa using hp)
  · refine ⟨_, rows, covC light (2 * xa - xb - xc) (xb - xc) (2 * ya - yb - yc) (yb - yc), n, _, rfl, rfl, by k_asm, by k_asm, by k_mem, fun r hr => by (have hr9 := hrow r hr); k_mem, Nat.le_trans hsz (by decide), ?turn, ?fin⟩
    case turn =>
      intro r hr I oI C oC D ys m₂ h tk E' hC h1 h2 h3 F₁ N₁ off
      obtain ⟨b, o, u, t, t', e, ho0, ho1, hu0, hu1⟩ := hrk r hr
      obtain ⟨ra, rv⟩ := r
      dsimp only at e
      subst e
      dsimp only at h1 h2 h3
      walk_at "mine steps"
      · refine ⟨_, _, rfl, by assumption, by assumption, ?_⟩
        show Value.bool _ = Value.bool (b == light && decide ((2 * xa - xb - xc) * u ≥ (xb - xc) * o) && decide (o * (yb - yc) > u * (2 * ya - yb - yc)))
        rw [(by assumption : (b == light) = true), decide_eq_true (by assumption : (2 * xa - xb - xc) * u ≥ (xb - xc) * o)]
        rfl
      · refine ⟨_, _, rfl, by assumption, by assumption, ?_⟩
        show Value.bool (decide ((2 * xa - xb - xc) * u ≥ (xb - xc) * o)) = Value.bool (b == light && decide ((2 * xa - xb - xc) * u ≥ (xb - xc) * o) && decide (o * (yb - yc) > u * (2 * ya - yb - yc)))
        rw [(by assumption : (b == light) = true), decide_eq_false (by assumption : ¬ (2 * xa - xb - xc) * u ≥ (xb - xc) * o)]
        rfl
      · refine ⟨_, _, rfl, by assumption, by assumption, ?_⟩
        show Value.bool (b == light) = Value.bool (b == light && decide ((2 * xa - xb - xc) * u ≥ (xb - xc) * o) && decide (o * (yb - yc) > u * (2 * ya - yb - yc)))
        rw [(by assumption : (b == light) = false)]
        rfl
    case fin =>
      intro D h tk F₁ N₁ l1
      (try k_lt l1)
      dsimp only
      walk_at "mine steps"
      refine retSel (news₁ := news) hret (by assumption) (by assumption) (by walk_at "mine sel") (fun _ h => h) ⟨_, _, rfl, by k_mem⟩
end
end
section
local macro_rules | `(tactic| walk_at "call builtin:str.split") => `(tactic| (k_here; k_dflt (refine' split4 ?k0 ?k1 ?k2 ?k3 ?k4 ?_; (case k0 => k_asm); (case k1 => k_asm); (case k2 => with_reducible assumption); (case k3 => with_reducible assumption); (case k4 => decide)); intro D' h' k' t0' t1' t2' t3' F' N' l1; (try k_lt l1); (try k_sweep)))
local macro_rules | `(tactic| walk_at "call builtin:str.join") => `(tactic| (k_here; k_dflt (first
  | (refine' join2 ?k0 ?k1 ?k2 ?k3 ?k4 ?_; (case k0 => k_asm); (case k1 => k_mem); (case k2 => with_reducible assumption); (case k3 => with_reducible assumption); (case k4 => decide))
  | (refine' join3 ?k0 ?k1 ?k2 ?k3 ?k4 ?_; (case k0 => k_asm); (case k1 => k_mem); (case k2 => with_reducible assumption); (case k3 => with_reducible assumption); (case k4 => decide))); intro t' k'))
theorem bases {w : World} {t : Addr} {sd p x0 x1 x2 x3 r2 r3 : Str} {t0 t1 : Tok} {news : List (Addr × Obj)} (ht : (t, tupO [.str sd t0, .str p t1] 0) ∈ news) (hp : p ≠ "/")
    (hl : p.length ≤ 1000) (hs : Kept (Txt.split p "/" = [x0, x1, x2, x3]))
    (h2 : Kept (Txt.join "/" [x0, x1] = r2)) (h3 : Kept (Txt.join "/" [x0, x1, x2] = r3)) (l2 : Kept (x0.length + x1.length ≤ 1000)) (l3 : Kept (x0.length + x1.length + x2.length ≤ 1000)) (hr2 : r2.length ≤ 1000) (hr3 : r3.length ≤ 1000) :
    Ctr 500 300 w 104 [.ref t] news (fun tl v => ∃ l n D1 D2 D3 D4 a1 a2 a3 a4, v = .ref l ∧ (l, lstO [.ref t, .ref D1, .ref D2, .ref D3, .ref D4] n) ∈ tl ∧ (D1, tupO [.str sd t0, .str r2 a1] 0) ∈ tl ∧ (D2, tupO [.str sd t0, .str (r2 ++ "/") a2] 0) ∈ tl ∧ (D3, tupO [.str sd t0, .str r3 a3] 0) ∈ tl ∧ (D4, tupO [.str sd t0, .str (r3 ++ "/") a4] 0) ∈ tl) := by
  unfold Ctr
  k_fill
  intro mean mg mb gd cn cs a ccd cl outer A₀ base h₀ L m s Q E B F X N T hk hret
  refine wpAny_call ?_
  k_dflt ktr_enter
  k_steps
  · refine retPre hret (by assumption) (by assumption) (by walk_at "mine pre") (by walk_at "mine lows") ⟨_, _, _, _, _, _, _, _, _, _, rfl, by k_mem, by k_mem, by k_mem, by k_mem, by k_mem⟩
  · exfalso; exact absurd (by assumption : (p != Str.ofString "/") = false) (by simpa using hp)
/-- _law_bases of a grey's address -/
theorem bases_g {w : World} {t : Addr} {sd : Str} {t0 t1 : Tok} {news : List (Addr × Obj)} (ht : (t, tupO [.str sd t0, .str "/" t1] 0) ∈ news) :
    Ctr 500 300 w 104 [.ref t] news (fun tl v => ∃ l n, v = .ref l ∧ (l, lstO [.ref t] n) ∈ tl) := by
  unfold Ctr
  k_fill
  intro mean mg mb gd cn cs a ccd cl outer A₀ base h₀ L m s Q E B F X N T hk hret
  refine wpAny_call ?_
  k_dflt ktr_enter
  k_steps
  refine retPre hret (by assumption) (by assumption) (by walk_at "mine pre") (by walk_at "mine lows") ⟨_, _, rfl, by k_mem⟩
end
end
end Mine

namespace Mine
section
noncomputable def vx (k : Int) : Int := if k = 0 then 2 else if k = 1 then 1 else if k = 2 then -1 else if k = 3 then -2 else if k = 4 then -1 else if k = 5 then 1 else 2
noncomputable def vy (k : Int) : Int := if k = 0 then 0 else if k = 1 then 1 else if k = 2 then 1 else if k = 3 then 0 else if k = 4 then -1 else if k = 5 then -1 else 0
noncomputable abbrev cr (k j : Int) : Int := vx k * vy j - vy k * vx j
/-- the corners' cross products, by their distance -/
noncomputable abbrev Patt (k j c0 c1 cm : Int) : Prop :=
  (j = k ∧ c0 = 0 ∧ c1 = 2 ∧ cm = -2) ∨ (j ≠ k ∧ ((c0 = 2 ∧ c1 = 2 ∧ cm = 0) ∨ (c0 = 2 ∧ c1 = 0 ∧ cm = 2) ∨ (c0 = 0 ∧ c1 = -2 ∧ cm = 2) ∨ (c0 = -2 ∧ c1 = -2 ∧ cm = 0) ∨ (c0 = -2 ∧ c1 = 0 ∧ cm = -2)))
theorem patt_all : ∀ k j : Fin 6, cr (Int.ofNat k.val + 1) (Int.ofNat j.val + 1) = cr (Int.ofNat k.val) (Int.ofNat j.val) ∧ Patt (Int.ofNat k.val) (Int.ofNat j.val) (cr (Int.ofNat k.val) (Int.ofNat j.val)) (cr (Int.ofNat k.val) (Int.ofNat j.val + 1)) (cr (Int.ofNat k.val + 1) (Int.ofNat j.val)) := by decide +kernel
theorem patt_at {k j : Int} (hk0 : 0 ≤ k) (hk1 : k < 6) (hj0 : 0 ≤ j) (hj1 : j < 6) : cr (k + 1) (j + 1) = cr k j ∧ Patt k j (cr k j) (cr k (j + 1)) (cr (k + 1) j) := by
  have h := patt_all ⟨k.toNat, (Int.toNat_lt hk0).mpr hk1⟩ ⟨j.toNat, (Int.toNat_lt hj0).mpr hj1⟩
  rw [show Int.ofNat k.toNat = k from Int.toNat_of_nonneg hk0, show Int.ofNat j.toNat = j from Int.toNat_of_nonneg hj0] at h
  exact h
theorem near {a b c d q x Y1 Y2 Y3 SR A B : Int} (i1 : A = (a + q) * 0 + (b + x) * 2 + c * (-2) + d * 0) (i2 : B = a * 0 + b * 2 + (c + q) * (-2) + (d + x) * 0)
    (t1 : Y1 - Y2 = 0 * SR + (b + x) - c) (t2 : Y3 - Y1 = 0 * SR + (c + q) - b) : (0 ≤ A ∧ B < 0) ↔ (Y2 ≤ Y1 ∧ Y1 < Y3) := by
  rw [Int.zero_mul, Int.zero_add] at t1 t2
  rw [Int.mul_zero, Int.mul_zero, Int.zero_add, Int.add_zero] at i1 i2
  subst i1 i2
  exact and_congr (by lia) (by lia)
theorem far1 {c0 c1 cm a b c d q x A B : Int} (h1 : 0 ≤ a) (h2 : 0 ≤ b) (h3 : 0 ≤ c) (h4 : 0 ≤ d) (hq : 0 < q) (hx : 0 ≤ x)
    (hp : (c0 = 2 ∧ c1 = 2 ∧ cm = 0) ∨ (c0 = 2 ∧ c1 = 0 ∧ cm = 2) ∨ (c0 = 0 ∧ c1 = -2 ∧ cm = 2) ∨ (c0 = -2 ∧ c1 = -2 ∧ cm = 0) ∨ (c0 = -2 ∧ c1 = 0 ∧ cm = -2))
    (i1 : A = (a + q) * c0 + (b + x) * c1 + c * cm + d * c0) (i2 : B = a * c0 + b * c1 + (c + q) * cm + (d + x) * c0) : ¬ (0 ≤ A ∧ B < 0) := by
  rcases hp with ⟨rfl, rfl, rfl⟩ | ⟨rfl, rfl, rfl⟩ | ⟨rfl, rfl, rfl⟩ | ⟨rfl, rfl, rfl⟩ | ⟨rfl, rfl, rfl⟩ <;> subst i1 i2 <;> lia
theorem far2 {a b c d q x n Y1 Y2 Y3 : Int} (h1 : 0 ≤ a) (h2 : 0 ≤ b) (h3 : 0 ≤ c) (h4 : 0 ≤ d) (hq : 0 < q) (hx : 0 ≤ x) (hn : n ≠ 0)
    (t1 : Y1 - Y2 = n * (a + q + (b + x) + c + d) + (b + x) - c) (t2 : Y3 - Y1 = -n * (a + q + (b + x) + c + d) + (c + q) - b) : ¬ (Y2 ≤ Y1 ∧ Y1 < Y3) := by
  intro h
  have hS : 0 ≤ a + q + (b + x) + c + d := by lia
  rcases Int.lt_or_gt_of_ne hn with hn | hn
  · have := Int.mul_le_mul_of_nonneg_right (show n ≤ (-1 : Int) from Int.le_sub_one_of_lt hn) hS
    lia
  · have := Int.mul_le_mul_of_nonneg_right (show -n ≤ (-1 : Int) from Int.neg_le_neg hn) hS
    lia
/-- the borders' place: sixth k, g of S in it; the colour's place: sixth j, x of R in it -/
theorem geo {j k g x S R : Int} (hj0 : 0 ≤ j) (hj1 : j < 6) (hk0 : 0 ≤ k) (hk1 : k < 6) (hg0 : 0 ≤ g) (hg1 : g < S) (hx0 : 0 ≤ x) (hx1 : x < R) :
    (((S - g) * vx k + g * vx (k + 1)) * ((R - x) * vy j + x * vy (j + 1)) ≥ ((S - g) * vy k + g * vy (k + 1)) * ((R - x) * vx j + x * vx (j + 1)) ∧
     ((R - x) * vx j + x * vx (j + 1)) * ((S - g - 1) * vy k + (g + 1) * vy (k + 1)) > ((R - x) * vy j + x * vy (j + 1)) * ((S - g - 1) * vx k + (g + 1) * vx (k + 1))) ↔
    ((k * S + g) * R ≤ (j * R + x) * S ∧ (j * R + x) * S < (k * S + g + 1) * R) := by
  obtain ⟨e, hp⟩ := patt_at hk0 hk1 hj0 hj1
  have h1 : 0 ≤ (S - g - 1) * (R - x) := Int.mul_nonneg (by lia) (by lia)
  have h2 : 0 ≤ (S - g - 1) * x := Int.mul_nonneg (by lia) hx0
  have h3 : 0 ≤ g * (R - x) := Int.mul_nonneg hg0 (by lia)
  have h4 : 0 ≤ g * x := Int.mul_nonneg hg0 hx0
  have i1 : ((S - g) * vx k + g * vx (k + 1)) * ((R - x) * vy j + x * vy (j + 1)) - ((S - g) * vy k + g * vy (k + 1)) * ((R - x) * vx j + x * vx (j + 1)) = ((S - g - 1) * (R - x) + (R - x)) * cr k j + ((S - g - 1) * x + x) * cr k (j + 1) + (g * (R - x)) * cr (k + 1) j + (g * x) * cr (k + 1) (j + 1) := by unfold cr; grind
  have i2 : ((R - x) * vy j + x * vy (j + 1)) * ((S - g - 1) * vx k + (g + 1) * vx (k + 1)) - ((R - x) * vx j + x * vx (j + 1)) * ((S - g - 1) * vy k + (g + 1) * vy (k + 1)) = ((S - g - 1) * (R - x)) * cr k j + ((S - g - 1) * x) * cr k (j + 1) + (g * (R - x) + (R - x)) * cr (k + 1) j + (g * x + x) * cr (k + 1) (j + 1) := by unfold cr; grind
  have t1 : (j * R + x) * S - (k * S + g) * R = (j - k) * ((S - g - 1) * (R - x) + (R - x) + ((S - g - 1) * x + x) + g * (R - x) + g * x) + ((S - g - 1) * x + x) - g * (R - x) := by grind
  have t2 : (k * S + g + 1) * R - (j * R + x) * S = -(j - k) * ((S - g - 1) * (R - x) + (R - x) + ((S - g - 1) * x + x) + g * (R - x) + g * x) + (g * (R - x) + (R - x)) - (S - g - 1) * x := by grind
  rw [e] at i1 i2
  refine (and_congr Int.sub_nonneg.symm (show _ < _ ↔ _ from ⟨Int.sub_neg_of_lt, Int.lt_of_sub_neg⟩)).trans ?_
  rcases hp with ⟨rfl, h0, ha, hb⟩ | ⟨hn, hp⟩
  · rw [h0, ha, hb] at i1 i2
    rw [Int.sub_self] at t1 t2
    exact near i1 i2 t1 t2
  · exact iff_of_false (far1 h1 h2 h3 h4 (by lia) hx0 hp i1 i2) (far2 h1 h2 h3 h4 (by lia) hx0 (by lia) t1 t2)
end
end Mine

set_option maxHeartbeats 4000000
namespace Mine
section
theorem allI {n : Nat} {p : Int → Bool} (h : ((List.range n).all fun i => p (Int.ofNat i)) = true) {a : Int} (h0 : 0 ≤ a) (h1 : a < n) : p a = true := by
  have e : a = Int.ofNat a.toNat := (Int.toNat_of_nonneg h0).symm
  rw [e]
  exact List.all_eq_true.mp h a.toNat (List.mem_range.mpr (by omega))
noncomputable abbrev fd (x R : Int) : UInt64 := Float64.div (fq x) (fq R)
theorem q_lt0 : ((List.range 17).all fun y => (List.range 17).all fun x => (Float64.cmp (fq (Int.ofNat y)) (fq (Int.ofNat x)) == some .lt) == decide (Int.ofNat y < Int.ofNat x)) = true := by decide +kernel
theorem q_eq0 : ((List.range 17).all fun y => (List.range 17).all fun x => (Float64.cmp (fq (Int.ofNat y)) (fq (Int.ofNat x)) == some .eq) == decide (Int.ofNat y = Int.ofNat x)) = true := by decide +kernel
theorem q_sub0 : ((List.range 17).all fun y => (List.range 17).all fun x => decide (Int.ofNat y < Int.ofNat x) || (Float64.sub (fq (Int.ofNat y)) (fq (Int.ofNat x)) == fq (Int.ofNat y - Int.ofNat x))) = true := by decide +kernel
theorem q_z0 : ((List.range 17).all fun y => Float64.isZero (fq (Int.ofNat y)) == decide (Int.ofNat y = 0)) = true := by decide +kernel
theorem q_h0 : ((List.range 17).all fun y => (Float64.cmp (fq (Int.ofNat y)) 4602678819172646912 == some .gt) == decide (Int.ofNat y > 8)) = true := by decide +kernel
theorem q_s0 : ((List.range 17).all fun y => (List.range 17).all fun x => decide (Int.ofNat x < Int.ofNat y ∨ Int.ofNat y = 0) || (fround (Float64.mul (Float64.mul (Float64.ofInt 16) (fd (Int.ofNat y) (Int.ofNat x))) (fq (Int.ofNat x))) == some (Int.ofNat y))) = true := by decide +kernel
theorem q_g0 : ((List.range 17).all fun y => (fround (Float64.mul (Float64.mul (Float64.ofInt 16) 0) (fq (Int.ofNat y))) == some 0)) = true := by decide +kernel
section
variable {a b c M m R u v n : Int}
theorem q_lt (ha : 0 ≤ a ∧ a ≤ 16) (hb : 0 ≤ b ∧ b ≤ 16) : (Float64.cmp (fq a) (fq b) == some .lt) = decide (a < b) := by
  have h := allI (p := fun y => (List.range 17).all fun x => (Float64.cmp (fq y) (fq (Int.ofNat x)) == some .lt) == decide (y < Int.ofNat x)) q_lt0 ha.1 (Int.lt_of_le_of_lt ha.2 (by decide))
  exact beq_iff_eq.mp (allI (p := fun x => (Float64.cmp (fq a) (fq x) == some .lt) == decide (a < x)) h hb.1 (Int.lt_of_le_of_lt hb.2 (by decide)))
theorem q_eq (ha : 0 ≤ a ∧ a ≤ 16) (hb : 0 ≤ b ∧ b ≤ 16) : feq (fq a) (fq b) = decide (a = b) := by
  have h := allI (p := fun y => (List.range 17).all fun x => (Float64.cmp (fq y) (fq (Int.ofNat x)) == some .eq) == decide (y = Int.ofNat x)) q_eq0 ha.1 (Int.lt_of_le_of_lt ha.2 (by decide))
  exact beq_iff_eq.mp (allI (p := fun x => (Float64.cmp (fq a) (fq x) == some .eq) == decide (a = x)) h hb.1 (Int.lt_of_le_of_lt hb.2 (by decide)))
theorem q_sub (ha : 0 ≤ a ∧ a ≤ 16) (hb : 0 ≤ b) (hab : b ≤ a) : Float64.sub (fq a) (fq b) = fq (a - b) := by
  have h := allI (p := fun y => (List.range 17).all fun x => decide (y < Int.ofNat x) || (Float64.sub (fq y) (fq (Int.ofNat x)) == fq (y - Int.ofNat x))) q_sub0 ha.1 (Int.lt_of_le_of_lt ha.2 (by decide))
  have h2 := allI (p := fun x => decide (a < x) || (Float64.sub (fq a) (fq x) == fq (a - x))) h hb (Int.lt_of_le_of_lt (Int.le_trans hab ha.2) (by decide))
  rw [decide_eq_false (by omega), Bool.false_or] at h2
  exact beq_iff_eq.mp h2
theorem q_z (ha : 0 ≤ a ∧ a ≤ 16) : Float64.isZero (fq a) = decide (a = 0) :=
  beq_iff_eq.mp (allI (p := fun y => Float64.isZero (fq y) == decide (y = 0)) q_z0 ha.1 (Int.lt_of_le_of_lt ha.2 (by decide)))
theorem q_h (ha : 0 ≤ a ∧ a ≤ 16) : (Float64.cmp (fq a) 4602678819172646912 == some .gt) = decide (a > 8) :=
  beq_iff_eq.mp (allI (p := fun y => (Float64.cmp (fq y) 4602678819172646912 == some .gt) == decide (y > 8)) q_h0 ha.1 (Int.lt_of_le_of_lt ha.2 (by decide)))
theorem q_g (ha : 0 ≤ a ∧ a ≤ 16) : fround (Float64.mul (Float64.mul (Float64.ofInt 16) 0) (fq a)) = some 0 :=
  beq_iff_eq.mp (allI (p := fun y => fround (Float64.mul (Float64.mul (Float64.ofInt 16) 0) (fq y)) == some 0) q_g0 ha.1 (Int.lt_of_le_of_lt ha.2 (by decide)))
theorem q_s (hR : 1 ≤ R) (hRM : R ≤ M) (hM : M ≤ 16) : fround (Float64.mul (Float64.mul (Float64.ofInt 16) (fd R M)) (fq M)) = some R := by
  have h := allI (p := fun y => (List.range 17).all fun x => decide (Int.ofNat x < y ∨ y = 0) || (fround (Float64.mul (Float64.mul (Float64.ofInt 16) (fd y (Int.ofNat x))) (fq (Int.ofNat x))) == some y)) q_s0 (a := R) (by omega) (Int.lt_of_le_of_lt (Int.le_trans hRM hM) (by decide))
  have h2 := allI (p := fun x => decide (x < R ∨ R = 0) || (fround (Float64.mul (Float64.mul (Float64.ofInt 16) (fd R x)) (fq x)) == some R)) h (a := M) (by omega) (Int.lt_of_le_of_lt hM (by decide))
  rw [decide_eq_false (by omega), Bool.false_or] at h2
  exact beq_iff_eq.mp h2
theorem max_q (h : Rng a b c) : fmax3 (fq a) (fq b) (fq c) = fq (imax3 a b c) := by
  unfold fmax3 imax3
  rw [q_lt h.1 h.2.1, q_lt h.2.1 h.2.2, q_lt h.1 h.2.2]
  simp only [decide_eq_true_eq, gt_iff_lt]
  split <;> split <;> rfl
theorem min_q (h : Rng a b c) : fmin3 (fq a) (fq b) (fq c) = fq (imin3 a b c) := by
  unfold fmin3 imin3
  rw [q_lt h.2.1 h.1, q_lt h.2.2 h.2.1, q_lt h.2.2 h.1]
  simp only [decide_eq_true_eq]
  split <;> split <;> rfl
end
end
end Mine

namespace Mine
section
/-- the rounded product of the hue, from its sixfold -/
noncomputable def rhue (R : Int) (h6 : UInt64) : Option Int := fround (Float64.mul (Float64.ofInt (864 * R)) (Float64.divmod (Float64.div h6 4618441417868443648) 4607182418800017408).snd)
noncomputable def okP (R n : Int) (h6 : UInt64) : Bool := match rhue R h6 with
  | some pr => pr.fdiv R == (144 * n).fdiv R
  | none => false
noncomputable abbrev nA (R u v : Int) : Int := if v - u < 0 then 6 * R + (v - u) else v - u
noncomputable abbrev hA (R u v : Int) : UInt64 := Float64.sub (fd v R) (fd u R)
noncomputable abbrev hB (R u v : Int) : UInt64 := Float64.sub (Float64.add 4611686018427387904 (fd u R)) (fd v R)
noncomputable abbrev hC (R u v : Int) : UInt64 := Float64.sub (Float64.add 4616189618054758400 (fd v R)) (fd u R)
noncomputable def okY (R y : Int) : Bool := okP R (nA R y R) (hA R y R) && (okP R (nA R R y) (hA R R y) && (okP R (2 * R + (y - R)) (hB R y R) && (okP R (2 * R + (R - y)) (hB R R y) && (okP R (4 * R + (R - y)) (hC R y R) && okP R (4 * R + (y - R)) (hC R R y)))))
noncomputable def okR (R : Nat) : Bool := (List.range (R + 1)).all fun y => okY (Int.ofNat R) (Int.ofNat y)
theorem okR_all : ∀ R : Nat, 1 ≤ R → R ≤ 16 → okR R = true
  | 1, _, _ => by decide +kernel
  | 2, _, _ => by decide +kernel
  | 3, _, _ => by decide +kernel
  | 4, _, _ => by decide +kernel
  | 5, _, _ => by decide +kernel
  | 6, _, _ => by decide +kernel
  | 7, _, _ => by decide +kernel
  | 8, _, _ => by decide +kernel
  | 9, _, _ => by decide +kernel
  | 10, _, _ => by decide +kernel
  | 11, _, _ => by decide +kernel
  | 12, _, _ => by decide +kernel
  | 13, _, _ => by decide +kernel
  | 14, _, _ => by decide +kernel
  | 15, _, _ => by decide +kernel
  | 16, _, _ => by decide +kernel
  | 0, h, _ => absurd h (by decide)
  | n + 17, _, h => absurd h (Nat.not_le.mpr (Nat.le_add_left ..))
theorem okY_all {R y : Int} (h1 : 1 ≤ R) (h2 : R ≤ 16) (hy0 : 0 ≤ y) (hy1 : y ≤ R) : okY R y = true := by
  have e : R = Int.ofNat R.toNat := (Int.toNat_of_nonneg (by omega)).symm
  have h := okR_all R.toNat (by omega) (by omega)
  unfold okR at h
  rw [← e] at h
  exact allI (p := fun y => okY R y) h hy0 (by omega)
end
end Mine

namespace Mine
section
section
variable {a b c M m R u v n y : Int}
theorem max_spec (a b c : Int) : a ≤ imax3 a b c ∧ b ≤ imax3 a b c ∧ c ≤ imax3 a b c ∧ (a = imax3 a b c ∨ b = imax3 a b c ∨ c = imax3 a b c) := by
  unfold imax3; split <;> split <;> lia
theorem min_spec (a b c : Int) : imin3 a b c ≤ a ∧ imin3 a b c ≤ b ∧ imin3 a b c ≤ c ∧ (a = imin3 a b c ∨ b = imin3 a b c ∨ c = imin3 a b c) := by
  unfold imin3; split <;> split <;> lia
theorem okY_parts (h : okY R y = true) : okP R (nA R y R) (hA R y R) = true ∧ okP R (nA R R y) (hA R R y) = true ∧ okP R (2 * R + (y - R)) (hB R y R) = true ∧ okP R (2 * R + (R - y)) (hB R R y) = true ∧ okP R (4 * R + (R - y)) (hC R y R) = true ∧ okP R (4 * R + (y - R)) (hC R R y) = true := by
  unfold okY at h
  simpa only [Bool.and_eq_true] using h
theorem okA_all (h1 : 1 ≤ R) (h2 : R ≤ 16) (hu : 0 ≤ u ∧ u ≤ R) (hv : 0 ≤ v ∧ v ≤ R) (h : u = R ∨ v = R) : okP R (nA R u v) (hA R u v) = true := by
  rcases h with rfl | rfl
  · exact (okY_parts (okY_all h1 h2 hv.1 hv.2)).2.1
  · exact (okY_parts (okY_all h1 h2 hu.1 hu.2)).1
theorem okB_all (h1 : 1 ≤ R) (h2 : R ≤ 16) (hu : 0 ≤ u ∧ u ≤ R) (hv : 0 ≤ v ∧ v ≤ R) (h : u = R ∨ v = R) : okP R (2 * R + (u - v)) (hB R u v) = true := by
  rcases h with rfl | rfl
  · exact (okY_parts (okY_all h1 h2 hv.1 hv.2)).2.2.2.1
  · exact (okY_parts (okY_all h1 h2 hu.1 hu.2)).2.2.1
theorem okC_all (h1 : 1 ≤ R) (h2 : R ≤ 16) (hu : 0 ≤ u ∧ u ≤ R) (hv : 0 ≤ v ∧ v ≤ R) (h : u = R ∨ v = R) : okP R (4 * R + (v - u)) (hC R u v) = true := by
  rcases h with rfl | rfl
  · exact (okY_parts (okY_all h1 h2 hv.1 hv.2)).2.2.2.2.2
  · exact (okY_parts (okY_all h1 h2 hu.1 hu.2)).2.2.2.2.1
/-- the hue's product, of a colour that is no grey -/
theorem hue_ok (h : Rng a b c) (hg : ¬ greyC a b c) : ∃ H6, rgbHue (fq a) (fq b) (fq c) = (Float64.divmod (Float64.div H6 4618441417868443648) 4607182418800017408).snd ∧ okP (rngC a b c) (numC a b c) H6 = true := by
  have hM := max_spec a b c
  have hm := min_spec a b c
  unfold rgbHue numC rngC
  rw [max_q h, min_q h]
  unfold greyC at hg
  generalize imax3 a b c = M at *
  generalize imin3 a b c = m at *
  have rM : 0 ≤ M ∧ M ≤ 16 := by unfold Rng at h; lia
  have rm : 0 ≤ m ∧ m ≤ 16 := by unfold Rng at h; lia
  obtain ⟨ha, hb, hc⟩ := h
  rw [q_eq rm rM, q_eq ha rM, q_eq hb rM, q_sub rM hb.1 hM.2.1, q_sub rM hc.1 hM.2.2.1, q_sub rM ha.1 hM.1, q_sub rM rm.1 (by lia), decide_eq_false hg]
  simp only [Bool.false_eq_true, if_false, decide_eq_true_eq]
  by_cases e1 : a = M
  · rw [if_pos e1, if_pos e1]
    refine ⟨_, rfl, ?_⟩
    have := okA_all (R := M - m) (u := M - b) (v := M - c) (by lia) (by lia) (by lia) (by lia) (by lia)
    unfold nA at this
    rw [show M - c - (M - b) = b - c by lia] at this
    exact this
  · rw [if_neg e1, if_neg e1]
    by_cases e2 : b = M
    · rw [if_pos e2, if_pos e2]
      refine ⟨_, rfl, ?_⟩
      have := okB_all (R := M - m) (u := M - a) (v := M - c) (by lia) (by lia) (by lia) (by lia) (by lia)
      rw [show M - a - (M - c) = c - a by lia] at this
      exact this
    · rw [if_neg e2, if_neg e2]
      refine ⟨_, rfl, ?_⟩
      have := okC_all (R := M - m) (u := M - a) (v := M - b) (by lia) (by lia) (by lia) (by lia) (by lia)
      rw [show M - b - (M - a) = a - b by lia] at this
      exact this
theorem num_rng (h : Rng a b c) (hg : ¬ greyC a b c) : 0 ≤ numC a b c ∧ numC a b c < 6 * rngC a b c := by
  have hM := max_spec a b c
  have hm := min_spec a b c
  unfold numC rngC
  unfold greyC at hg
  generalize imax3 a b c = M at *
  generalize imin3 a b c = m at *
  split
  · split <;> lia
  · split <;> lia
theorem rng_pos (h : Rng a b c) (hg : ¬ greyC a b c) : 1 ≤ rngC a b c ∧ rngC a b c ≤ 16 ∧ rngC a b c ≤ imax3 a b c := by
  have hM := max_spec a b c
  have hm := min_spec a b c
  unfold rngC
  unfold greyC at hg
  unfold Rng at h
  lia
theorem place_rng (h : Rng a b c) (hg : ¬ greyC a b c) : 0 ≤ placeC a b c ∧ placeC a b c < 864 := by
  obtain ⟨h1, h2⟩ := num_rng h hg
  obtain ⟨h3, -, -⟩ := rng_pos h hg
  unfold placeC
  generalize numC a b c = N at *
  generalize rngC a b c = R at *
  rw [Int.fdiv_eq_ediv_of_nonneg _ (by lia)]
  refine ⟨Int.ediv_nonneg (by lia) (by lia), Int.ediv_lt_of_lt_mul (by lia) (by lia)⟩
end
theorem Ctr.mono {dp un dp' un' : Nat} {w : World} {f : Addr} {vs : List Value} {news : List (Addr × Obj)} {Post Post' : List (Addr × Obj) → Value → Prop} (C : Ctr dp' un' w f vs news Post) (hd : dp ≤ dp') (hu : un ≤ un') (hp : ∀ tl r, Post tl r → Post' tl r) : Ctr dp un w f vs news Post' := by
  intro mean mg mb gd cn cs a ccd cl outer A₀ base h₀ L m s Q E B F X N T hk ret
  exact C.use hd hu B F X N T hk fun r tl h' tk' F' N' l p => ret r tl h' tk' F' N' l (hp _ _ p)
/-- _law_address of a colour -/
theorem has_addr {w : World} {c : Col} {news : List (Addr × Obj)} (hc : c.In news) : Ctr 400 200 w 97 [.ref c.q] news (fun tl r => ∃ q t1 t2, r = .ref q ∧ tl = [(q, tupO [.str (sideC c.a c.b c.c) t1, .str (pathC c.a c.b c.c) t2] 0)]) := by
  obtain ⟨hm, h⟩ := hc
  obtain ⟨cq, a, b, c, ta, tb, tc⟩ := c
  dsimp only at h hm ⊢
  have rM : 0 ≤ imax3 a b c ∧ imax3 a b c ≤ 16 := by have := max_spec a b c; unfold Rng at h; lia
  have rm : 0 ≤ imin3 a b c ∧ imin3 a b c ≤ 16 := by have := min_spec a b c; unfold Rng at h; lia
  have hmM : imin3 a b c ≤ imax3 a b c := by have := max_spec a b c; have := min_spec a b c; lia
  have h0 : Kept (feq (fmin3 (fq a) (fq b) (fq c)) (fmax3 (fq a) (fq b) (fq c)) = false → Float64.isZero (fmax3 (fq a) (fq b) (fq c)) = false ∧ Float64.isZero (Float64.sub (fmax3 (fq a) (fq b) (fq c)) (fmin3 (fq a) (fq b) (fq c))) = false) := by
    constructor
    rw [max_q h, min_q h, q_eq rm rM, q_sub rM rm.1 hmM, q_z rM, q_z (by lia)]
    simp only [decide_eq_false_iff_not]
    lia
  have hl : Kept ((Float64.cmp (fmax3 (fq a) (fq b) (fq c)) 4602678819172646912 == some .gt) = lightC a b c) := ⟨by rw [max_q h, q_h rM]; rfl⟩
  by_cases hg : greyC a b c
  · refine Ctr.mono (addr_m (sz := 0) (pr := 0) (pl := 0) hm h.1 h.2.1 h.2.2 h0 hl ⟨?_⟩ (by decide) (by decide) ⟨?_⟩ ⟨by decide⟩ (by decide) (by decide)) (by decide) (by decide) fun tl r hp => ?_
    · unfold rgbSat
      rw [max_q h, min_q h, q_eq rm rM, decide_eq_true hg, if_pos rfl]
      exact q_g rM
    · unfold rgbHue
      rw [max_q h, min_q h, q_eq rm rM, decide_eq_true hg, if_pos rfl]
      decide +kernel
    · rw [if_pos rfl] at hp
      unfold pathC
      rw [if_pos hg]
      exact hp
  · obtain ⟨H6, e6, ok6⟩ := hue_ok h hg
    have hR := rng_pos h hg
    have hP := place_rng h hg
    unfold okP at ok6
    unfold placeC at hP
    cases hr : rhue (rngC a b c) H6 with
    | none => rw [hr] at ok6; cases ok6
    | some pr =>
      rw [hr] at ok6
      have ok7 := beq_iff_eq.mp ok6
      refine Ctr.mono (addr_m (sz := rngC a b c) (pr := pr) (pl := placeC a b c) hm h.1 h.2.1 h.2.2 h0 hl ⟨?_⟩ (by lia) hR.2.1 ⟨?_⟩ ⟨ok7⟩ hP.1 hP.2) (by decide) (by decide) fun tl r hp => ?_
      · unfold rgbSat
        rw [max_q h, min_q h, q_eq rm rM, decide_eq_false hg, if_neg (by decide), q_sub rM rm.1 hmM]
        exact q_s hR.1 hR.2.2 rM.2
      · rw [e6]; exact hr
      · rw [if_neg (by lia)] at hp
        unfold pathC
        rw [if_neg hg]
        exact hp
end
end Mine

namespace Mine
section
/-- a border's turn, times six -/
noncomputable abbrev tH (T S : Int) : UInt64 := Float64.mul (Float64.ofFrac (decide (T < 0) != decide (6 * S < 0)) T.natAbs (6 * S).natAbs) 4618441417868443648
noncomputable abbrev tI (T S : Int) : Int := toInt Float64.truncOf (tH T S)
noncomputable abbrev tV (T S : Int) : UInt64 × UInt64 × UInt64 := hsvK ((tI T S).fmod 6) (Float64.sub (tH T S) (Float64.ofInt (tI T S)))
noncomputable def tA (S g k : Int) : Int := if k.fmod 6 = 0 then S else if k.fmod 6 = 1 then S - g else if k.fmod 6 = 2 then 0 else if k.fmod 6 = 3 then 0 else if k.fmod 6 = 4 then g else S
noncomputable def bA (T S : Int) : Int := tA S (T.fmod S) (T.fdiv S)
noncomputable def tB (S g k : Int) : Int := if k.fmod 6 = 0 then g else if k.fmod 6 = 1 then S else if k.fmod 6 = 2 then S else if k.fmod 6 = 3 then S - g else if k.fmod 6 = 4 then 0 else 0
noncomputable def bB (T S : Int) : Int := tB S (T.fmod S) (T.fdiv S)
noncomputable def tC (S g k : Int) : Int := if k.fmod 6 = 0 then 0 else if k.fmod 6 = 1 then 0 else if k.fmod 6 = 2 then g else if k.fmod 6 = 3 then S else if k.fmod 6 = 4 then S else S - g
noncomputable def bC (T S : Int) : Int := tC S (T.fmod S) (T.fdiv S)
noncomputable abbrev tF (T S : Int) : UInt64 := Float64.sub (tH T S) (Float64.ofInt (T.fdiv S))
noncomputable abbrev upF (f : UInt64) : UInt64 := Float64.mul f1 (Float64.sub f1 (Float64.mul f1 (Float64.sub f1 f)))
noncomputable abbrev dnF (f : UInt64) : UInt64 := Float64.mul f1 (Float64.sub f1 (Float64.mul f1 f))
noncomputable def okT (S T : Int) : Bool := Float64.isFinite (tH T S) && (tI T S == T.fdiv S && (if (T.fdiv S).fmod 2 = 0 then fround (Float64.mul (Float64.ofInt S) (upF (tF T S))) == some (T.fmod S) else fround (Float64.mul (Float64.ofInt S) (dnF (tF T S))) == some (S - T.fmod S)))
theorem okT1 : ((List.range 7).all fun T => okT 1 (Int.ofNat T)) = true := by decide +kernel
theorem okT12 : ((List.range 73).all fun T => okT 12 (Int.ofNat T)) = true := by decide +kernel
/-- one stretch of 36 turns -/
noncomputable def okH (k : Nat) : Bool := (List.range 36).all fun T => okT 144 (Int.ofNat (36 * k + T))
theorem okH_all : ∀ k : Nat, k < 24 → okH k = true
  | 0, _ => by decide +kernel
  | 1, _ => by decide +kernel
  | 2, _ => by decide +kernel
  | 3, _ => by decide +kernel
  | 4, _ => by decide +kernel
  | 5, _ => by decide +kernel
  | 6, _ => by decide +kernel
  | 7, _ => by decide +kernel
  | 8, _ => by decide +kernel
  | 9, _ => by decide +kernel
  | 10, _ => by decide +kernel
  | 11, _ => by decide +kernel
  | 12, _ => by decide +kernel
  | 13, _ => by decide +kernel
  | 14, _ => by decide +kernel
  | 15, _ => by decide +kernel
  | 16, _ => by decide +kernel
  | 17, _ => by decide +kernel
  | 18, _ => by decide +kernel
  | 19, _ => by decide +kernel
  | 20, _ => by decide +kernel
  | 21, _ => by decide +kernel
  | 22, _ => by decide +kernel
  | 23, _ => by decide +kernel
  | n + 24, h => absurd h (Nat.not_lt.mpr (Nat.le_add_left ..))
theorem okT864 : okT 144 864 = true := by decide +kernel
theorem okT_all {S T : Int} (hS : S = 1 ∨ S = 12 ∨ S = 144) (h0 : 0 ≤ T) (h1 : T ≤ 6 * S) : okT S T = true := by
  rcases hS with rfl | rfl | rfl
  · exact allI (p := fun T => okT 1 T) okT1 h0 (Int.lt_of_le_of_lt h1 (by decide))
  · exact allI (p := fun T => okT 12 T) okT12 h0 (Int.lt_of_le_of_lt h1 (by decide))
  · obtain ⟨n, rfl⟩ := Int.eq_ofNat_of_zero_le h0
    by_cases e : n = 864
    · rw [e]; exact okT864
    · have h2 : n < 24 * 36 := by lia
      have h3 := List.all_eq_true.mp (okH_all (n / 36) (Nat.div_lt_of_lt_mul h2)) (n % 36) (List.mem_range.mpr (Nat.mod_lt _ (by decide)))
      rw [Nat.div_add_mod] at h3
      exact h3
theorem one_S {S : Int} (hS : S = 1 ∨ S = 12 ∨ S = 144) : fround (Float64.mul (Float64.ofInt S) f1) = some S ∧ fround (Float64.mul (Float64.ofInt S) (Float64.mul f1 (Float64.sub f1 f1))) = some 0 := by
  rcases hS with rfl | rfl | rfl <;> exact ⟨by decide +kernel, by decide +kernel⟩
theorem turn_k {S g : Int} {f : UInt64} (c1 : fround (Float64.mul (Float64.ofInt S) f1) = some S) (c0 : fround (Float64.mul (Float64.ofInt S) (Float64.mul f1 (Float64.sub f1 f1))) = some 0) : ∀ k : Nat, k ≤ 6 → (k = 6 → g = 0) →
    (if (Int.ofNat k).fmod 2 = 0 then fround (Float64.mul (Float64.ofInt S) (upF f)) == some g else fround (Float64.mul (Float64.ofInt S) (dnF f)) == some (S - g)) = true →
    fround (Float64.mul (Float64.ofInt S) (hsvK ((Int.ofNat k).fmod 6) f).1) = some (tA S g (Int.ofNat k)) ∧ fround (Float64.mul (Float64.ofInt S) (hsvK ((Int.ofNat k).fmod 6) f).2.1) = some (tB S g (Int.ofNat k)) ∧ fround (Float64.mul (Float64.ofInt S) (hsvK ((Int.ofNat k).fmod 6) f).2.2) = some (tC S g (Int.ofNat k))
  | 0, _, _, h => ⟨c1, beq_iff_eq.mp h, c0⟩
  | 1, _, _, h => ⟨beq_iff_eq.mp h, c1, c0⟩
  | 2, _, _, h => ⟨c0, c1, beq_iff_eq.mp h⟩
  | 3, _, _, h => ⟨c0, beq_iff_eq.mp h, c1⟩
  | 4, _, _, h => ⟨beq_iff_eq.mp h, c0, c1⟩
  | 5, _, _, h => ⟨c1, c0, beq_iff_eq.mp h⟩
  | 6, _, h6, h => by
    rw [h6 rfl] at h ⊢
    exact ⟨c1, beq_iff_eq.mp h, c0⟩
  | k + 7, h, _, _ => absurd h (Nat.not_le.mpr (Nat.le_add_left ..))
theorem turn_all {S T : Int} (hS : S = 1 ∨ S = 12 ∨ S = 144) (h0 : 0 ≤ T) (h1 : T ≤ 6 * S) :
    Float64.isFinite (tH T S) = true ∧ 0 ≤ tI T S ∧ tI T S ≤ 6 ∧ fround (Float64.mul (Float64.ofInt S) (tV T S).1) = some (bA T S) ∧ fround (Float64.mul (Float64.ofInt S) (tV T S).2.1) = some (bB T S) ∧ fround (Float64.mul (Float64.ofInt S) (tV T S).2.2) = some (bC T S) := by
  have h := okT_all hS h0 h1
  obtain ⟨c1, c0⟩ := one_S hS
  have hSp : 0 < S := by rcases hS with rfl | rfl | rfl <;> decide
  have hk0 : 0 ≤ T.fdiv S := by rw [Int.fdiv_eq_ediv_of_nonneg _ (Int.le_of_lt hSp)]; exact Int.ediv_nonneg h0 (Int.le_of_lt hSp)
  have hk1 : T.fdiv S ≤ 6 := by
    rw [Int.fdiv_eq_ediv_of_nonneg _ (Int.le_of_lt hSp)]
    exact Int.ediv_le_of_le_mul hSp h1
  have h6 : T.fdiv S = 6 → T.fmod S = 0 := by
    intro e
    have h2 := Int.mul_fdiv_add_fmod T S
    rw [Int.fmod_eq_emod_of_nonneg _ (Int.le_of_lt hSp)] at h2 ⊢
    have h3 := Int.emod_nonneg T (Int.ne_of_gt hSp)
    rw [e] at h2
    lia
  unfold okT at h
  rw [Bool.and_eq_true, Bool.and_eq_true, beq_iff_eq] at h
  obtain ⟨f1', f2, f3⟩ := h
  rw [f2]
  refine ⟨f1', hk0, hk1, ?_⟩
  unfold tV
  rw [f2]
  unfold bA bB bC
  unfold tF at f3
  obtain ⟨n, e⟩ := Int.eq_ofNat_of_zero_le hk0
  rw [e] at hk1 h6 f3 ⊢
  exact turn_k c1 c0 n (Int.ofNat_le.mp hk1) (fun e => h6 (congrArg Int.ofNat e)) f3
end
end Mine

namespace Mine
section
/-- the codes of texts joined by a slash -/
noncomputable def jl : List (List Nat) → List Nat
  | [] => []
  | [p] => p
  | p :: q :: r => p ++ 47 :: jl (q :: r)
theorem sep_uniq : ∀ {p q X Y : List Nat}, 47 ∉ p → 47 ∉ q → p ++ 47 :: X = q ++ 47 :: Y → p = q ∧ X = Y
  | [], [], _, _, _, _, h => ⟨rfl, (List.cons.inj h).2⟩
  | [], c :: q, _, _, _, hq, h => absurd (List.mem_cons.mpr (.inl (List.cons.inj h).1)) hq
  | c :: p, [], _, _, hp, _, h => absurd (List.mem_cons.mpr (.inl (List.cons.inj h).1.symm)) hp
  | c :: p, d :: q, _, _, hp, hq, h => by
    obtain ⟨h1, h2⟩ := List.cons.inj h
    obtain ⟨h3, h4⟩ := sep_uniq (fun h => hp (.tail _ h)) (fun h => hq (.tail _ h)) h2
    exact ⟨by rw [h1, h3], h4⟩
theorem jl_inj : ∀ {ps qs : List (List Nat)}, ps ≠ [] → qs ≠ [] → (∀ p ∈ ps, 47 ∉ p) → (∀ p ∈ qs, 47 ∉ p) → jl ps = jl qs → ps = qs
  | [], _, h, _, _, _, _ => absurd rfl h
  | _, [], _, h, _, _, _ => absurd rfl h
  | [p], [q], _, _, _, _, h => by rw [show p = q from h]
  | [p], q :: r :: t, _, _, hp, _, h => absurd (show 47 ∈ p by rw [show p = q ++ 47 :: jl (r :: t) from h]; simp) (hp p (.head _))
  | q :: r :: t, [p], _, _, _, hp, h => absurd (show 47 ∈ p by rw [show p = q ++ 47 :: jl (r :: t) from h.symm]; simp) (hp p (.head _))
  | p :: p' :: ps, q :: q' :: qs, _, _, hp, hq, h => by
    obtain ⟨h1, h2⟩ := sep_uniq (hp p (.head _)) (hq q (.head _)) (show p ++ 47 :: jl (p' :: ps) = q ++ 47 :: jl (q' :: qs) from h)
    have h3 := jl_inj (ps := p' :: ps) (qs := q' :: qs) (by simp) (by simp) (fun x hx => hp x (.tail _ hx)) (fun x hx => hq x (.tail _ hx)) h2
    rw [h1, h3]
noncomputable abbrev sl : Str := ⟨#[47]⟩
theorem slash : ("/" : Str) = sl := by decide +kernel
theorem slash' : Str.ofString "/" = sl := by decide +kernel
theorem join_codes : ∀ ps : List Str, (Str.join sl ps).cps.toList = jl (ps.map fun p => p.cps.toList)
  | [] => rfl
  | [p] => rfl
  | p :: q :: r => by
    show (p ++ sl ++ Str.join sl (q :: r)).cps.toList = p.cps.toList ++ 47 :: jl ((q :: r).map fun p => p.cps.toList)
    rw [← join_codes (q :: r)]
    simp [Str.cps_append]
theorem str_ext {a b : Str} (h : a.cps.toList = b.cps.toList) : a = b := by
  cases a; cases b
  simp only [Str.mk.injEq]
  exact Array.toList_inj.mp h
theorem map_codes_inj {ps qs : List Str} (h : (ps.map fun p => p.cps.toList) = qs.map fun p => p.cps.toList) : ps = qs := by
  induction ps generalizing qs with
  | nil => cases qs with
    | nil => rfl
    | cons q qs => cases h
  | cons p ps ih => cases qs with
    | nil => cases h
    | cons q qs =>
      obtain ⟨h1, h2⟩ := List.cons.inj h
      rw [str_ext h1, ih h2]
theorem split_ne (x y : Str) : Txt.split x y ≠ [] := by
  unfold Txt.split
  split
  · simp
  · split
    · simp
    · intro h
      have := congrArg List.length h
      simp [Builtin.Str.partsBetween] at this
theorem split_parts {ps : List Str} (h : ps ≠ []) (hf : ∀ p ∈ ps, 47 ∉ p.cps.toList) : Txt.split (Str.join sl ps) sl = ps := by
  have h1 := StrLaws.join_split (Str.join sl ps) sl
  have h2 := congrArg (fun s : Str => s.cps.toList) h1
  simp only [join_codes] at h2
  refine map_codes_inj (jl_inj ?_ ?_ ?_ ?_ h2)
  · simpa using split_ne _ _
  · simpa using h
  · intro p hp
    obtain ⟨s, hs, rfl⟩ := List.mem_map.mp hp
    exact StrLaws.split_free _ 47 s hs
  · intro p hp
    obtain ⟨s, hs, rfl⟩ := List.mem_map.mp hp
    exact hf s hs
theorem starts_iff (x y : Str) : Txt.startswith x y = true ↔ y.cps.toList <+: x.cps.toList := by
  unfold Txt.startswith
  rw [Bool.and_eq_true, decide_eq_true_eq, StrLaws.subAt_eq, beq_iff_eq, List.drop_zero]
  constructor
  · rintro ⟨-, h⟩
    rw [← h]; exact List.take_prefix _ _
  · intro h
    have hl := h.length_le
    refine ⟨by simpa [Str.length] using hl, ?_⟩
    rw [List.prefix_iff_eq_take] at h
    exact h.symm
theorem slice_last {x : Str} {l : List Nat} {c : Nat} (h : x.cps.toList = l ++ [c]) : Txt.slice x (some (-1)) none = ⟨#[c]⟩ := by
  have hl : x.length = l.length + 1 := by
    show x.cps.size = _
    rw [← Array.length_toList, h]; simp
  have e := StrLaws.sliceText_from_neg (x := x) (i := -1) (by decide) (by omega)
  show StrLaws.sliceText x (some (-1)) none = _
  rw [e]
  refine str_ext ?_
  simp only [h, hl, List.length_append, List.length_cons, List.length_nil]
  rw [show ((-1 : Int) + ((l.length + 1 : Nat) : Int)).toNat = l.length by omega, show (((l.length + (0 + 1) : Nat) : Int) - (-1 + ((l.length + 1 : Nat) : Int))).toNat = 1 by omega]
  simp
end
end Mine

namespace Mine
section
noncomputable abbrev dg (n : Int) : Str := Str.ofString (toString n)
noncomputable abbrev dc (n : Int) : List Nat := (dg n).cps.toList
noncomputable def okD (n : Int) : Bool := !((dc n).contains 47) && (!((dc n).isEmpty) && (decide ((dg n).length ≤ 2) && (PyData.strOk (dg n) && ((dc n).getLast? != some 47))))
theorem okD0 : ((List.range 12).all fun n => okD (Int.ofNat n)) = true := by decide +kernel
theorem dInj0 : ((List.range 12).all fun n => (List.range 12).all fun m => (dc (Int.ofNat n) == dc (Int.ofNat m)) == decide (Int.ofNat n = Int.ofNat m)) = true := by decide +kernel
section
variable {n m p q : Int}
theorem dg_ok (h0 : 0 ≤ n) (h1 : n < 12) : 47 ∉ dc n ∧ dc n ≠ [] ∧ (dg n).length ≤ 2 ∧ PyData.strOk (dg n) = true ∧ (dc n).getLast? ≠ some 47 := by
  have h := allI (p := okD) okD0 h0 h1
  simpa [okD] using h
theorem dg_inj (h0 : 0 ≤ n) (h1 : n < 12) (h2 : 0 ≤ m) (h3 : m < 12) : (dc n = dc m) ↔ n = m := by
  have h := allI (p := fun n => (List.range 12).all fun m => (dc n == dc (Int.ofNat m)) == decide (n = Int.ofNat m)) dInj0 h0 h1
  have h' := beq_iff_eq.mp (allI (p := fun m => (dc n == dc m) == decide (n = m)) h h2 h3)
  constructor
  · intro e
    rw [e, beq_self_eq_true] at h'
    exact of_decide_eq_true h'.symm
  · intro e; rw [e]
noncomputable abbrev pa (p : Int) : Int := p.fdiv 144
noncomputable abbrev pb (p : Int) : Int := (p.fdiv 12).fmod 12
noncomputable abbrev pc (p : Int) : Int := p.fmod 12
theorem abc_rng (h0 : 0 ≤ p) (h1 : p < 864) : (0 ≤ pa p ∧ pa p < 6) ∧ (0 ≤ pb p ∧ pb p < 12) ∧ (0 ≤ pc p ∧ pc p < 12) ∧ p = 144 * pa p + 12 * pb p + pc p := by
  unfold pa pb pc
  rw [Int.fdiv_eq_ediv_of_nonneg _ (by decide), Int.fdiv_eq_ediv_of_nonneg _ (by decide), Int.fmod_eq_emod_of_nonneg _ (by decide), Int.fmod_eq_emod_of_nonneg _ (by decide)]
  omega
theorem path_join (p : Int) : pathS p = Str.join sl [("" : Str), dg (pa p), dg (pb p), dg (pc p)] := by
  unfold pathS
  rw [slash]
  refine str_ext ?_
  show _ = ((("" : Str) ++ sl ++ (dg (pa p) ++ sl ++ (dg (pb p) ++ sl ++ dg (pc p)))) : Str).cps.toList
  simp [Str.cps_append, show ("" : Str).cps = #[] by decide +kernel]
  try rfl
theorem base2_join (p : Int) : base2 p = Str.join sl [("" : Str), dg (pa p)] := by
  unfold base2
  rw [slash]
  refine str_ext ?_
  show _ = ((("" : Str) ++ sl ++ dg (pa p)) : Str).cps.toList
  simp [Str.cps_append, show ("" : Str).cps = #[] by decide +kernel]
  try rfl
theorem base2_join' (p : Int) : base2 p ++ sl = Str.join sl [("" : Str), dg (pa p), ("" : Str)] := by
  unfold base2
  rw [slash]
  refine str_ext ?_
  show _ = ((("" : Str) ++ sl ++ (dg (pa p) ++ sl ++ ("" : Str))) : Str).cps.toList
  simp [Str.cps_append, show ("" : Str).cps = #[] by decide +kernel]
  try rfl
theorem base3_join (p : Int) : base3 p = Str.join sl [("" : Str), dg (pa p), dg (pb p)] := by
  unfold base3 base2
  rw [slash]
  refine str_ext ?_
  show _ = ((("" : Str) ++ sl ++ (dg (pa p) ++ sl ++ dg (pb p))) : Str).cps.toList
  simp [Str.cps_append, show ("" : Str).cps = #[] by decide +kernel]
  try rfl
theorem base3_join' (p : Int) : base3 p ++ sl = Str.join sl [("" : Str), dg (pa p), dg (pb p), ("" : Str)] := by
  unfold base3 base2
  rw [slash]
  refine str_ext ?_
  show _ = ((("" : Str) ++ sl ++ (dg (pa p) ++ sl ++ (dg (pb p) ++ sl ++ ("" : Str)))) : Str).cps.toList
  simp [Str.cps_append, show ("" : Str).cps = #[] by decide +kernel]
  try rfl
end
end
end Mine

namespace Mine
section
noncomputable abbrev cc (s : Str) : List Nat := s.cps.toList
theorem cc_app (a b : Str) : cc (a ++ b) = cc a ++ cc b := by simp [cc, Str.cps_append]
theorem cc_sl : cc sl = [47] := rfl
theorem cc_nil : cc ("" : Str) = [] := by decide +kernel
section
variable {n m p q : Int}
theorem cP (p : Int) : cc (pathS p) = 47 :: (dc (pa p) ++ 47 :: (dc (pb p) ++ 47 :: dc (pc p))) := by
  rw [path_join, cc, join_codes]
  show cc ("" : Str) ++ 47 :: _ = _
  rw [cc_nil]; rfl
theorem c2 (p : Int) : cc (base2 p) = 47 :: dc (pa p) := by
  rw [base2_join, cc, join_codes]
  show cc ("" : Str) ++ 47 :: _ = _
  rw [cc_nil]; rfl
theorem c3 (p : Int) : cc (base3 p) = 47 :: (dc (pa p) ++ 47 :: dc (pb p)) := by
  rw [base3_join, cc, join_codes]
  show cc ("" : Str) ++ 47 :: _ = _
  rw [cc_nil]; rfl
theorem pre_sep : ∀ {p q X Y : List Nat}, 47 ∉ p → 47 ∉ q → ((p ++ 47 :: X) <+: (q ++ 47 :: Y) ↔ p = q ∧ X <+: Y) := by
  intro p q X Y hp hq
  constructor
  · rintro ⟨t, ht⟩
    rw [List.append_assoc] at ht
    obtain ⟨h1, h2⟩ := sep_uniq hp hq (X := X ++ t) ht
    exact ⟨h1, t, h2⟩
  · rintro ⟨rfl, t, rfl⟩
    exact ⟨t, by simp⟩
theorem pre_none {p q X : List Nat} (hq : 47 ∉ q) : ¬ (p ++ 47 :: X) <+: q := by
  intro h
  exact hq (h.subset (by simp))
/-- what is_suburi asks of the two paths -/
noncomputable def inn (p1 p2 : Str) : Bool := p1 == p2 || (if (Txt.slice p1 (some (-1)) none != Str.ofString "/") = true then Txt.startswith p2 (p1 ++ Str.ofString "/") else Txt.startswith p2 p1)
theorem subB_inn (s1 p1 s2 p2 : Str) : subB s1 p1 s2 p2 = ((s1 == s2) && inn p1 p2) := by
  unfold subB inn
  cases h1 : (s1 == s2) <;> cases h2 : (p1 == p2) <;> simp [bne, h1]
theorem beq_cc (a b : Str) : (a == b) = decide (cc a = cc b) := by
  by_cases h : a = b
  · subst h; simp
  · rw [beq_false_of_ne h, decide_eq_false]; exact fun e => h (str_ext e)
theorem starts_cc (x y : Str) : Txt.startswith x y = decide (cc y <+: cc x) := by
  by_cases h : cc y <+: cc x
  · rw [decide_eq_true h]; exact (starts_iff x y).mpr h
  · rw [decide_eq_false h]
    cases e : Txt.startswith x y with
    | false => rfl
    | true => exact absurd ((starts_iff x y).mp e) h
/-- a base that ends in no slash -/
theorem inn_a {p1 p2 : Str} (h : cc p1 ≠ []) (hl : (cc p1).getLast? ≠ some 47) : inn p1 p2 = decide (cc p1 = cc p2 ∨ cc p1 ++ [47] <+: cc p2) := by
  have e : (Txt.slice p1 (some (-1)) none != Str.ofString "/") = true := by
    have h1 := List.dropLast_concat_getLast h
    rw [slice_last (l := (cc p1).dropLast) (c := (cc p1).getLast h) h1.symm, slash']
    rw [bne_iff_ne]
    intro e
    have e' : (cc p1).getLast h = 47 := by simpa using e
    exact hl (by rw [List.getLast?_eq_some_getLast h, e'])
  unfold inn
  rw [if_pos e, beq_cc, starts_cc, cc_app, slash', cc_sl, Bool.decide_or]
/-- a base that ends in a slash -/
theorem inn_b {p1 p2 : Str} {l : List Nat} (h : cc p1 = l ++ [47]) : inn p1 p2 = decide (cc p1 <+: cc p2) := by
  have e : (Txt.slice p1 (some (-1)) none != Str.ofString "/") = false := by
    rw [slice_last h, slash']; simp
  unfold inn
  rw [e, if_neg (by decide), beq_cc, starts_cc]
  by_cases hp : cc p1 <+: cc p2
  · rw [decide_eq_true hp, Bool.or_true]
  · rw [decide_eq_false hp, decide_eq_false (fun e : cc p1 = cc p2 => hp (e ▸ List.prefix_refl _))]; rfl
theorem cc_root : cc ("/" : Str) = [47] := by decide +kernel
theorem inn_root (p2 : Str) {t : List Nat} (h : cc p2 = 47 :: t) : inn "/" p2 = true := by
  rw [inn_b (l := []) cc_root, cc_root, h]
  exact decide_eq_true ⟨t, rfl⟩
theorem last_app {l d : List Nat} (h : d ≠ []) : (l ++ d).getLast? = d.getLast? := by
  rw [List.getLast?_append]
  cases e : d.getLast? with
  | none => exact absurd (List.getLast?_eq_none_iff.mp e) h
  | some c => rfl
variable (hp0 : 0 ≤ p) (hp1 : p < 864) (hq0 : 0 ≤ q) (hq1 : q < 864)
include hp0 hp1
theorem dA : 47 ∉ dc (pa p) ∧ dc (pa p) ≠ [] ∧ (dg (pa p)).length ≤ 2 ∧ PyData.strOk (dg (pa p)) = true ∧ (dc (pa p)).getLast? ≠ some 47 := by
  have h := (abc_rng hp0 hp1).1
  exact dg_ok h.1 (by omega)
theorem dB : 47 ∉ dc (pb p) ∧ dc (pb p) ≠ [] ∧ (dg (pb p)).length ≤ 2 ∧ PyData.strOk (dg (pb p)) = true ∧ (dc (pb p)).getLast? ≠ some 47 := by
  have h := (abc_rng hp0 hp1).2.1
  exact dg_ok h.1 h.2
theorem dC : 47 ∉ dc (pc p) ∧ dc (pc p) ≠ [] ∧ (dg (pc p)).length ≤ 2 ∧ PyData.strOk (dg (pc p)) = true ∧ (dc (pc p)).getLast? ≠ some 47 := by
  have h := (abc_rng hp0 hp1).2.2.1
  exact dg_ok h.1 h.2
theorem last_P : (cc (pathS p)).getLast? ≠ some 47 := by
  have e : cc (pathS p) = (47 :: (dc (pa p) ++ 47 :: (dc (pb p) ++ [47]))) ++ dc (pc p) := by rw [cP]; simp
  rw [e, last_app (dC hp0 hp1).2.1]; exact (dC hp0 hp1).2.2.2.2
theorem last_2 : (cc (base2 p)).getLast? ≠ some 47 := by
  have e : cc (base2 p) = [47] ++ dc (pa p) := by rw [c2]; simp
  rw [e, last_app (dA hp0 hp1).2.1]; exact (dA hp0 hp1).2.2.2.2
theorem last_3 : (cc (base3 p)).getLast? ≠ some 47 := by
  have e : cc (base3 p) = (47 :: (dc (pa p) ++ [47])) ++ dc (pb p) := by rw [c3]; simp
  rw [e, last_app (dB hp0 hp1).2.1]; exact (dB hp0 hp1).2.2.2.2
theorem ne_root : pathS p ≠ "/" ∧ base2 p ≠ "/" ∧ base2 p ++ "/" ≠ "/" ∧ base3 p ≠ "/" ∧ base3 p ++ "/" ≠ "/" := by
  have hA := (dA hp0 hp1).2.1
  have key : ∀ s : Str, ∀ t, cc s = 47 :: (dc (pa p) ++ t) → s ≠ "/" := by
    intro s t h e
    rw [e, cc_root] at h
    exact hA (List.append_eq_nil_iff.mp (List.cons.inj h).2.symm).1
  refine ⟨key _ _ (cP p), key _ [] (by rw [c2]; simp), key _ [47] (by rw [cc_app, c2, cc_root]; simp), key _ (47 :: dc (pb p)) (c3 p), key _ (47 :: (dc (pb p) ++ [47])) (by rw [cc_app, c3, cc_root]; simp)⟩
theorem inn_none : inn (pathS p) "/" = false ∧ inn (base2 p) "/" = false ∧ inn (base2 p ++ "/") "/" = false ∧ inn (base3 p) "/" = false ∧ inn (base3 p ++ "/") "/" = false := by
  obtain ⟨n1, n2, n3, n4, n5⟩ := ne_root hp0 hp1
  have key : ∀ s : Str, ∀ t, cc s = 47 :: t → s ≠ "/" → inn s "/" = false := by
    intro s t h hs
    unfold inn
    rw [beq_false_of_ne hs, starts_cc, starts_cc, cc_app, cc_root, h]
    have e1 : ¬ (47 :: t ++ [47] <+: [47]) := fun h => by have := h.length_le; simp at this
    have e2 : ¬ (47 :: t <+: [47]) := fun h' => by
      have h2 := h'.length_le
      have h3 : t = [] := by cases t with
        | nil => rfl
        | cons a b => simp at h2
      rw [h3, ← cc_root] at h
      exact hs (str_ext h)
    rw [decide_eq_false e1, decide_eq_false e2]
    simp
  exact ⟨key _ _ (cP p) n1, key _ _ (c2 p) n2, key _ (dc (pa p) ++ [47]) (by rw [cc_app, c2, cc_root]; simp) n3, key _ _ (c3 p) n4, key _ (dc (pa p) ++ 47 :: (dc (pb p) ++ [47])) (by rw [cc_app, c3, cc_root]; simp) n5⟩
include hq0 hq1
theorem eqA : dc (pa p) = dc (pa q) ↔ pa p = pa q := by
  have h := (abc_rng hp0 hp1).1
  have h' := (abc_rng hq0 hq1).1
  exact dg_inj h.1 (by omega) h'.1 (by omega)
theorem eqB : dc (pb p) = dc (pb q) ↔ pb p = pb q := by
  have h := (abc_rng hp0 hp1).2.1
  have h' := (abc_rng hq0 hq1).2.1
  exact dg_inj h.1 h.2 h'.1 h'.2
theorem eqC : dc (pc p) = dc (pc q) ↔ pc p = pc q := by
  have h := (abc_rng hp0 hp1).2.2.1
  have h' := (abc_rng hq0 hq1).2.2.1
  exact dg_inj h.1 h.2 h'.1 h'.2
theorem inn_self : inn (pathS p) (pathS q) = decide (p = q) := by
  rw [inn_a (by rw [cP]; simp) (last_P hp0 hp1), cP, cP]
  have e : ¬ (47 :: (dc (pa p) ++ 47 :: (dc (pb p) ++ 47 :: dc (pc p))) ++ [47] <+: 47 :: (dc (pa q) ++ 47 :: (dc (pb q) ++ 47 :: dc (pc q)))) := by
    rw [show 47 :: (dc (pa p) ++ 47 :: (dc (pb p) ++ 47 :: dc (pc p))) ++ [47] = 47 :: (dc (pa p) ++ 47 :: (dc (pb p) ++ 47 :: (dc (pc p) ++ 47 :: []))) by simp, List.cons_prefix_cons, pre_sep (dA hp0 hp1).1 (dA hq0 hq1).1, pre_sep (dB hp0 hp1).1 (dB hq0 hq1).1]
    rintro ⟨-, -, -, h⟩
    exact pre_none (dC hq0 hq1).1 h
  refine decide_eq_decide.mpr ⟨fun h => ?_, fun h => .inl (by rw [h])⟩
  rcases h with h | h
  · obtain ⟨h1, h2⟩ := sep_uniq (dA hp0 hp1).1 (dA hq0 hq1).1 (List.cons.inj h).2
    obtain ⟨h3, h4⟩ := sep_uniq (dB hp0 hp1).1 (dB hq0 hq1).1 h2
    rw [eqA hp0 hp1 hq0 hq1] at h1
    rw [eqB hp0 hp1 hq0 hq1] at h3
    rw [eqC hp0 hp1 hq0 hq1] at h4
    rw [(abc_rng hp0 hp1).2.2.2, (abc_rng hq0 hq1).2.2.2, h1, h3, h4]
  · exact absurd h e
theorem inn_2' : inn (base2 p ++ "/") (pathS q) = decide (pa p = pa q) := by
  have e : cc (base2 p ++ "/") = 47 :: dc (pa p) ++ [47] := by rw [cc_app, c2, cc_root]
  rw [inn_b e, e, cP]
  refine decide_eq_decide.mpr ?_
  rw [show 47 :: dc (pa p) ++ [47] = 47 :: (dc (pa p) ++ 47 :: []) by simp, List.cons_prefix_cons, pre_sep (dA hp0 hp1).1 (dA hq0 hq1).1, eqA hp0 hp1 hq0 hq1]
  simp
theorem inn_2 : inn (base2 p) (pathS q) = decide (pa p = pa q) := by
  rw [inn_a (by rw [c2]; simp) (last_2 hp0 hp1), c2, cP]
  refine decide_eq_decide.mpr ?_
  rw [show 47 :: dc (pa p) ++ [47] = 47 :: (dc (pa p) ++ 47 :: []) by simp, List.cons_prefix_cons, pre_sep (dA hp0 hp1).1 (dA hq0 hq1).1, eqA hp0 hp1 hq0 hq1]
  constructor
  · rintro (h | h)
    · exact absurd (by rw [(List.cons.inj h).2]; simp) (dA hp0 hp1).1
    · exact h.2.1
  · intro h; exact .inr ⟨rfl, h, List.nil_prefix⟩
theorem inn_3' : inn (base3 p ++ "/") (pathS q) = decide (pa p = pa q ∧ pb p = pb q) := by
  have e : cc (base3 p ++ "/") = 47 :: (dc (pa p) ++ 47 :: dc (pb p)) ++ [47] := by rw [cc_app, c3, cc_root]
  rw [inn_b e, e, cP]
  refine decide_eq_decide.mpr ?_
  rw [show 47 :: (dc (pa p) ++ 47 :: dc (pb p)) ++ [47] = 47 :: (dc (pa p) ++ 47 :: (dc (pb p) ++ 47 :: [])) by simp, List.cons_prefix_cons, pre_sep (dA hp0 hp1).1 (dA hq0 hq1).1, pre_sep (dB hp0 hp1).1 (dB hq0 hq1).1, eqA hp0 hp1 hq0 hq1, eqB hp0 hp1 hq0 hq1]
  simp
theorem inn_3 : inn (base3 p) (pathS q) = decide (pa p = pa q ∧ pb p = pb q) := by
  rw [inn_a (by rw [c3]; simp) (last_3 hp0 hp1), c3, cP]
  refine decide_eq_decide.mpr ?_
  rw [show 47 :: (dc (pa p) ++ 47 :: dc (pb p)) ++ [47] = 47 :: (dc (pa p) ++ 47 :: (dc (pb p) ++ 47 :: [])) by simp, List.cons_prefix_cons, pre_sep (dA hp0 hp1).1 (dA hq0 hq1).1, pre_sep (dB hp0 hp1).1 (dB hq0 hq1).1, eqA hp0 hp1 hq0 hq1, eqB hp0 hp1 hq0 hq1]
  constructor
  · rintro (h | h)
    · have h2 := (sep_uniq (dA hp0 hp1).1 (dA hq0 hq1).1 (List.cons.inj h).2).2
      exact absurd (by rw [h2]; simp) (dB hp0 hp1).1
    · exact ⟨h.2.1, h.2.2.1⟩
  · intro h; exact .inr ⟨rfl, h.1, h.2, List.nil_prefix⟩
end
end
end Mine

namespace Mine
section
theorem ok_app (a b : Str) : PyData.strOk (a ++ b) = (PyData.strOk a && PyData.strOk b) := by
  simp [PyData.strOk, Str.cps_append]
theorem len_root : ("/" : Str).length = 1 := by decide +kernel
theorem ok_root : PyData.strOk ("/" : Str) = true := by decide +kernel
theorem side_ok (l : Bool) : PyData.strOk (sideS l) = true := by cases l <;> decide +kernel
section
variable {p : Int} (hp0 : 0 ≤ p) (hp1 : p < 864)
include hp0 hp1
theorem len_parts : (pathS p).length ≤ 9 ∧ (base2 p).length ≤ 3 ∧ (base2 p ++ "/").length ≤ 4 ∧ (base3 p).length ≤ 6 ∧ (base3 p ++ "/").length ≤ 7 := by
  have hA := (dA hp0 hp1).2.2.1
  have hB := (dB hp0 hp1).2.2.1
  have hC := (dC hp0 hp1).2.2.1
  unfold dg at hA hB hC
  unfold pathS base3 base2
  unfold pa pb pc at *
  simp only [Str.length_append, len_root]
  omega
theorem ok_parts : PyData.strOk (pathS p) = true ∧ PyData.strOk (base2 p) = true ∧ PyData.strOk (base2 p ++ "/") = true ∧ PyData.strOk (base3 p) = true ∧ PyData.strOk (base3 p ++ "/") = true := by
  have hA := (dA hp0 hp1).2.2.2.1
  have hB := (dB hp0 hp1).2.2.2.1
  have hC := (dC hp0 hp1).2.2.2.1
  unfold dg at hA hB hC
  unfold pathS base3 base2
  unfold pa pb pc at *
  simp only [ok_app, ok_root, hA, hB, hC, Bool.and_true, and_self]
theorem splits : Txt.split (pathS p) "/" = [("" : Str), dg (pa p), dg (pb p), dg (pc p)] ∧ Txt.split (base2 p) "/" = [("" : Str), dg (pa p)] ∧ Txt.split (base2 p ++ "/") "/" = [("" : Str), dg (pa p), ("" : Str)] ∧
    Txt.split (base3 p) "/" = [("" : Str), dg (pa p), dg (pb p)] ∧ Txt.split (base3 p ++ "/") "/" = [("" : Str), dg (pa p), dg (pb p), ("" : Str)] := by
  have hA := (dA hp0 hp1).1
  have hB := (dB hp0 hp1).1
  have hC := (dC hp0 hp1).1
  have h0 : 47 ∉ ("" : Str).cps.toList := by decide +kernel
  rw [slash, path_join, base2_join', base2_join, base3_join', base3_join]
  refine ⟨split_parts (by simp) ?_, split_parts (by simp) ?_, split_parts (by simp) ?_, split_parts (by simp) ?_, split_parts (by simp) ?_⟩ <;> simp only [List.forall_mem_cons] <;> simp_all
end
theorem join_is (ps : List Str) : Txt.join "/" ps = Str.join sl ps := by
  rw [slash]; exact StrLaws.glued_eq_join sl ps
/-- _law_bases of an address -/
theorem has_bases {w : World} {e : Ent} {news : List (Addr × Obj)} (he : e.In news) : Ctr 400 200 w 104 [.ref e.adr] news (BasesP news e.a e.b e.c) := by
  obtain ⟨hm, -, h⟩ := he
  by_cases hg : greyC e.a e.b e.c
  · have hm' : (e.adr, tupO [.str (sideC e.a e.b e.c) e.t1, .str "/" e.t2] 0) ∈ news := by
      have := hm
      unfold Ent.adrO pathC at this
      rwa [if_pos hg] at this
    refine Ctr.mono (bases_g hm') (by decide) (by decide) ?_
    rintro tl v ⟨l, n, rfl, hl⟩
    refine ⟨l, n, [(e.adr, pathC e.a e.b e.c, e.t1, e.t2)], rfl, hl, ?_⟩
    intro x hx
    rw [List.mem_singleton.mp hx]
    exact ⟨.self, List.mem_append_right _ hm⟩
  · obtain ⟨hp0, hp1⟩ := place_rng h hg
    have hm' : (e.adr, tupO [.str (sideC e.a e.b e.c) e.t1, .str (pathS (placeC e.a e.b e.c)) e.t2] 0) ∈ news := by
      have := hm
      unfold Ent.adrO pathC at this
      rwa [if_neg hg] at this
    have hL := len_parts hp0 hp1
    have hA := (dA hp0 hp1).2.2.1
    have hB := (dB hp0 hp1).2.2.1
    have h0 : ("" : Str).length = 0 := by decide +kernel
    refine Ctr.mono (bases hm' (ne_root hp0 hp1).1 (by omega) ⟨(splits hp0 hp1).1⟩ ⟨by rw [join_is, ← base2_join]⟩ ⟨by rw [join_is, ← base3_join]⟩ ⟨by omega⟩ ⟨by omega⟩ (by omega) (by omega)) (by decide) (by decide) ?_
    rintro tl v ⟨l, n, D1, D2, D3, D4, a1, a2, a3, a4, rfl, hl, h1, h2, h3, h4⟩
    refine ⟨l, n, [(e.adr, pathC e.a e.b e.c, e.t1, e.t2), (D1, base2 (placeC e.a e.b e.c), e.t1, a1), (D2, base2 (placeC e.a e.b e.c) ++ "/", e.t1, a2), (D3, base3 (placeC e.a e.b e.c), e.t1, a3), (D4, base3 (placeC e.a e.b e.c) ++ "/", e.t1, a4)], rfl, hl, ?_⟩
    simp only [List.forall_mem_cons]
    exact ⟨⟨.self, List.mem_append_right _ hm⟩, ⟨.two hg, List.mem_append_left _ h1⟩, ⟨.two' hg, List.mem_append_left _ h2⟩, ⟨.three hg, List.mem_append_left _ h3⟩, ⟨.three' hg, List.mem_append_left _ h4⟩, fun _ h => (nomatch h)⟩
theorem path_ok {a b c : Int} (h : Rng a b c) : (pathC a b c).length ≤ 1000 ∧ PyData.strOk (pathC a b c) = true := by
  unfold pathC
  by_cases hg : greyC a b c
  · rw [if_pos hg]; exact ⟨by rw [len_root]; decide, ok_root⟩
  · rw [if_neg hg]
    obtain ⟨hp0, hp1⟩ := place_rng h hg
    exact ⟨by have := len_parts hp0 hp1; omega, (ok_parts hp0 hp1).1⟩
theorem base_ok {a b c : Int} {p : Str} (h : Rng a b c) (hb : IsBase a b c p) : p.length ≤ 1000 ∧ PyData.strOk p = true := by
  cases hb with
  | self => exact path_ok h
  | two hg => obtain ⟨hp0, hp1⟩ := place_rng h hg; exact ⟨by have := len_parts hp0 hp1; omega, (ok_parts hp0 hp1).2.1⟩
  | two' hg => obtain ⟨hp0, hp1⟩ := place_rng h hg; exact ⟨by have := len_parts hp0 hp1; omega, (ok_parts hp0 hp1).2.2.1⟩
  | three hg => obtain ⟨hp0, hp1⟩ := place_rng h hg; exact ⟨by have := len_parts hp0 hp1; omega, (ok_parts hp0 hp1).2.2.2.1⟩
  | three' hg => obtain ⟨hp0, hp1⟩ := place_rng h hg; exact ⟨by have := len_parts hp0 hp1; omega, (ok_parts hp0 hp1).2.2.2.2⟩
theorem has_sub {w : World} {g : Addr} {e o : Ent} {x : Bas} {news : List (Addr × Obj)} (h : Rng e.a e.b e.c) (hx : (x.1, basO e.a e.b e.c x) ∈ news) (hb : IsBase e.a e.b e.c x.2.1) (ho : o.In news) :
    Ctr 400 200 w 64 [.ref g, .ref x.1, .ref o.adr] news (fun tl v => tl = [] ∧ v = .bool (subB (sideC e.a e.b e.c) x.2.1 (sideC o.a o.b o.c) (pathC o.a o.b o.c))) :=
  Ctr.mono (suburi hx ho.adrM (base_ok h hb).1 (path_ok ho.rng).1 ⟨⟨side_ok _, (base_ok h hb).2⟩⟩ ⟨⟨side_ok _, (path_ok ho.rng).2⟩⟩) (by decide) (by decide) fun _ _ h => h
theorem has_point {w : World} {c : Col} {news : List (Addr × Obj)} (hc : c.In news) : Ctr 400 200 w 111 [.ref c.q] news (fun tl r => ∃ q t1 t2, r = .ref q ∧ tl = [(q, tupO [.int (2 * c.a - c.b - c.c) t1, .int (c.b - c.c) t2] 0)]) :=
  Ctr.mono (point_t hc.mem) (by decide) (by decide) fun _ _ h => h
end
end Mine

namespace Mine
section
/-- a colour in the plane, by its sixth and its place there: the look at one colour -/
noncomputable def planeB (a b c : Int) : Bool :=
  decide (greyC a b c) || (2 * a - b - c == (rngC a b c - (numC a b c).fmod (rngC a b c)) * vx ((numC a b c).fdiv (rngC a b c)) + (numC a b c).fmod (rngC a b c) * vx ((numC a b c).fdiv (rngC a b c) + 1) &&
    b - c == (rngC a b c - (numC a b c).fmod (rngC a b c)) * vy ((numC a b c).fdiv (rngC a b c)) + (numC a b c).fmod (rngC a b c) * vy ((numC a b c).fdiv (rngC a b c) + 1))
theorem planeA : ((List.range 17).all fun x => (List.range 17).all fun y => planeB 0 (Int.ofNat x) (Int.ofNat y)) = true := by decide +kernel
theorem planeM : ((List.range 17).all fun x => (List.range 17).all fun y => planeB (Int.ofNat x) 0 (Int.ofNat y)) = true := by decide +kernel
theorem planeZ : ((List.range 17).all fun x => (List.range 17).all fun y => planeB (Int.ofNat x) (Int.ofNat y) 0) = true := by decide +kernel
section
variable {a b c t : Int}
theorem plane_two {p : Int → Int → Bool} (h : ((List.range 17).all fun x => (List.range 17).all fun y => p (Int.ofNat x) (Int.ofNat y)) = true) (ha : 0 ≤ a ∧ a < 17) (hb : 0 ≤ b ∧ b < 17) : p a b = true :=
  allI (p := fun y => p a y) (allI (p := fun x => (List.range 17).all fun y => p x (Int.ofNat y)) h ha.1 ha.2) hb.1 hb.2
theorem imax_sh (a b c t : Int) : imax3 (a - t) (b - t) (c - t) = imax3 a b c - t := by
  unfold imax3
  simp only [gt_iff_lt, Int.sub_lt_sub_right_iff]
  split <;> split <;> rfl
theorem imin_sh (a b c t : Int) : imin3 (a - t) (b - t) (c - t) = imin3 a b c - t := by
  unfold imin3
  simp only [Int.sub_lt_sub_right_iff]
  split <;> split <;> rfl
theorem sub_sh (a b t : Int) : a - t - (b - t) = a - b := by rw [Int.sub_sub, Int.add_comm, Int.sub_add_cancel]
theorem rng_sh : rngC (a - t) (b - t) (c - t) = rngC a b c := by
  unfold rngC
  rw [imax_sh, imin_sh, sub_sh]
theorem num_sh : numC (a - t) (b - t) (c - t) = numC a b c := by
  unfold numC
  rw [imax_sh, rng_sh, sub_sh, sub_sh, sub_sh]
  simp only [Int.sub_left_inj]
theorem grey_sh : greyC (a - t) (b - t) (c - t) = greyC a b c := by
  unfold greyC
  rw [imax_sh, imin_sh, Int.sub_left_inj]
/-- a colour in the plane, by its sixth and its place there -/
theorem col_plane (h : Rng a b c) (hg : ¬ greyC a b c) :
    2 * a - b - c = (rngC a b c - (numC a b c).fmod (rngC a b c)) * vx ((numC a b c).fdiv (rngC a b c)) + (numC a b c).fmod (rngC a b c) * vx ((numC a b c).fdiv (rngC a b c) + 1) ∧
    b - c = (rngC a b c - (numC a b c).fmod (rngC a b c)) * vy ((numC a b c).fdiv (rngC a b c)) + (numC a b c).fmod (rngC a b c) * vy ((numC a b c).fdiv (rngC a b c) + 1) := by
  have hm := min_spec a b c
  generalize imin3 a b c = t at hm
  have h1 : ∀ v : Int, 0 ≤ v ∧ v ≤ 16 → t ≤ v → 0 ≤ v - t ∧ v - t < 17 := fun v hv ht => ⟨Int.sub_nonneg_of_le ht, by unfold Rng at h; lia⟩
  have h2 : planeB (a - t) (b - t) (c - t) = true := by
    have ha := h1 a h.1 hm.1
    have hb := h1 b h.2.1 hm.2.1
    have hc := h1 c h.2.2 hm.2.2.1
    rcases hm.2.2.2 with e | e | e
    · rw [show a - t = 0 by rw [e, Int.sub_self]]
      exact plane_two (p := fun x y => planeB 0 x y) planeA hb hc
    · rw [show b - t = 0 by rw [e, Int.sub_self]]
      exact plane_two (p := fun x y => planeB x 0 y) planeM ha hc
    · rw [show c - t = 0 by rw [e, Int.sub_self]]
      exact plane_two (p := fun x y => planeB x y 0) planeZ ha hb
  unfold planeB at h2
  rw [rng_sh, num_sh, sub_sh, show decide (greyC (a - t) (b - t) (c - t)) = false by simp only [grey_sh]; exact decide_eq_false hg, Bool.false_or, Bool.and_eq_true, beq_iff_eq, beq_iff_eq,
    show 2 * (a - t) - (b - t) - (c - t) = 2 * a - b - c by lia] at h2
  exact h2
end
end
end Mine

namespace Mine
section
section
variable {a b c N R P S T g k x j q : Int}
theorem fdm (hS : 0 < S) (h0 : 0 ≤ T) : T = T.fdiv S * S + T.fmod S ∧ 0 ≤ T.fmod S ∧ T.fmod S < S ∧ 0 ≤ T.fdiv S := by
  rw [Int.fdiv_eq_ediv_of_nonneg _ (by omega), Int.fmod_eq_emod_of_nonneg _ (by omega)]
  have h1 := Int.emod_nonneg T (b := S) (by omega)
  have h2 := Int.emod_lt_of_pos T hS
  have h3 := Int.mul_ediv_add_emod T S
  have h4 := Int.ediv_nonneg h0 (by omega : 0 ≤ S)
  refine ⟨?_, h1, h2, h4⟩
  rw [Int.mul_comm]; omega
/-- the two borders of a place, in the plane: the look at one -/
noncomputable def bordB (S P : Int) : Bool :=
  2 * bA P S - bB P S - bC P S == (S - P.fmod S) * vx (P.fdiv S) + P.fmod S * vx (P.fdiv S + 1) && (bB P S - bC P S == (S - P.fmod S) * vy (P.fdiv S) + P.fmod S * vy (P.fdiv S + 1) &&
  (2 * bA (P + 1) S - bB (P + 1) S - bC (P + 1) S == (S - P.fmod S - 1) * vx (P.fdiv S) + (P.fmod S + 1) * vx (P.fdiv S + 1) &&
    bB (P + 1) S - bC (P + 1) S == (S - P.fmod S - 1) * vy (P.fdiv S) + (P.fmod S + 1) * vy (P.fdiv S + 1)))
theorem bord1 : ((List.range 6).all fun P => bordB 1 (Int.ofNat P)) = true := by decide +kernel
theorem bord12 : ((List.range 72).all fun P => bordB 12 (Int.ofNat P)) = true := by decide +kernel
theorem bord144 : ((List.range 864).all fun P => bordB 144 (Int.ofNat P)) = true := by decide +kernel
theorem bord_all (hS : S = 1 ∨ S = 12 ∨ S = 144) (h0 : 0 ≤ P) (h1 : P < 6 * S) :
    (2 * bA P S - bB P S - bC P S = (S - P.fmod S) * vx (P.fdiv S) + P.fmod S * vx (P.fdiv S + 1) ∧ bB P S - bC P S = (S - P.fmod S) * vy (P.fdiv S) + P.fmod S * vy (P.fdiv S + 1)) ∧
    2 * bA (P + 1) S - bB (P + 1) S - bC (P + 1) S = (S - P.fmod S - 1) * vx (P.fdiv S) + (P.fmod S + 1) * vx (P.fdiv S + 1) ∧
    bB (P + 1) S - bC (P + 1) S = (S - P.fmod S - 1) * vy (P.fdiv S) + (P.fmod S + 1) * vy (P.fdiv S + 1) := by
  have h : bordB S P = true := by
    rcases hS with rfl | rfl | rfl
    · exact allI (p := fun P => bordB 1 P) bord1 h0 (by omega)
    · exact allI (p := fun P => bordB 12 P) bord12 h0 (by omega)
    · exact allI (p := fun P => bordB 144 P) bord144 h0 (by omega)
  unfold bordB at h
  rw [Bool.and_eq_true, Bool.and_eq_true, Bool.and_eq_true, beq_iff_eq, beq_iff_eq, beq_iff_eq, beq_iff_eq] at h
  exact ⟨⟨h.1, h.2.1⟩, h.2.2⟩
/-- the two borders tell the place -/
theorem cov_iff (hS : S = 1 ∨ S = 12 ∨ S = 144) (h0 : 0 ≤ P) (h1 : P < 6 * S) (h : Rng a b c) (hg : ¬ greyC a b c) {d : Int} (hd : S * d = 144) :
    ((2 * bA P S - bB P S - bC P S) * (b - c) ≥ (bB P S - bC P S) * (2 * a - b - c) ∧ (2 * a - b - c) * (bB (P + 1) S - bC (P + 1) S) > (b - c) * (2 * bA (P + 1) S - bB (P + 1) S - bC (P + 1) S)) ↔ (placeC a b c).fdiv d = P := by
  have hSp : 0 < S := by omega
  have hdp : 0 < d := by rcases hS with rfl | rfl | rfl <;> omega
  obtain ⟨hN0, hN1⟩ := num_rng h hg
  obtain ⟨hR0, -, -⟩ := rng_pos h hg
  obtain ⟨⟨f1, f2⟩, s1, s2⟩ := bord_all hS h0 h1
  obtain ⟨c1, c2⟩ := col_plane h hg
  rw [f1, f2, s1, s2, c1, c2]
  unfold placeC
  generalize numC a b c = N at *
  generalize rngC a b c = R at *
  obtain ⟨e, hg0, hg1, hk⟩ := fdm hSp h0
  obtain ⟨e', hx0, hx1, hj⟩ := fdm (by omega : 0 < R) hN0
  have hk6 : P.fdiv S < 6 := by
    rw [Int.fdiv_eq_ediv_of_nonneg _ (by omega)]
    exact Int.ediv_lt_of_lt_mul hSp (by omega)
  have hj6 : N.fdiv R < 6 := by
    rw [Int.fdiv_eq_ediv_of_nonneg _ (by omega)]
    exact Int.ediv_lt_of_lt_mul (by omega) (by omega)
  rw [geo hj hj6 hk hk6 hg0 hg1 hx0 hx1, ← e, ← e']
  have hq : (144 * N).fdiv R = 144 * N / R := Int.fdiv_eq_ediv_of_nonneg _ (by omega)
  rw [hq, Int.fdiv_eq_ediv_of_nonneg _ (by omega)]
  have key : 144 * N / R / d = P ↔ P ≤ 144 * N / R / d ∧ 144 * N / R / d < P + 1 := by omega
  rw [key, Int.le_ediv_iff_mul_le hdp, Int.ediv_lt_iff_lt_mul hdp, Int.le_ediv_iff_mul_le (by omega), Int.ediv_lt_iff_lt_mul (by omega)]
  rcases hS with rfl | rfl | rfl
  · have : d = 144 := by omega
    subst this
    grind
  · have : d = 12 := by omega
    subst this
    grind
  · have : d = 1 := by omega
    subst this
    grind
end
end
end Mine

namespace Mine
section
theorem turnF {T S : Int} (hS : S = 1 ∨ S = 12 ∨ S = 144) (h0 : 0 ≤ T) (h1 : T ≤ 6 * S) : TurnF T S (tI T S) (bA T S) (bB T S) (bC T S) (tV T S).1 (tV T S).2.1 (tV T S).2.2 := by
  obtain ⟨h1, h2, h3, h4, h5, h6⟩ := turn_all hS h0 h1
  exact ⟨⟨if_pos h1⟩, h2, h3, ⟨rfl⟩, ⟨h4⟩, ⟨h5⟩, ⟨h6⟩⟩
/-- a base of a colour that is no grey, read as a place -/
structure PlaceOf (a b c : Int) (p : Str) (P S d : Int) : Prop where
  sd : S * d = 144
  hS : S = 1 ∨ S = 12 ∨ S = 144
  h0 : 0 ≤ P
  h1 : P < 6 * S
  sh : Shape p P S
  ne : p ≠ "/"
  no : inn p "/" = false
  yes : ∀ q, 0 ≤ q → q < 864 → inn p (pathS q) = decide (q.fdiv d = P)
theorem place_of {a b c : Int} {p : Str} (h : Rng a b c) (hg : ¬ greyC a b c) (hb : IsBase a b c p) : ∃ P S d, PlaceOf a b c p P S d := by
  obtain ⟨hp0, hp1⟩ := place_rng h hg
  obtain ⟨hA, hB, hC, he⟩ := abc_rng hp0 hp1
  obtain ⟨n1, n2, n3, n4, n5⟩ := ne_root hp0 hp1
  obtain ⟨i1, i2, i3, i4, i5⟩ := inn_none hp0 hp1
  obtain ⟨s1, s2, s3, s4, s5⟩ := splits hp0 hp1
  have f12 : ∀ q : Int, 0 ≤ q → q < 864 → q.fdiv 12 = 12 * pa q + pb q := fun q h0 h1 => by
    obtain ⟨hA, hB, hC, he⟩ := abc_rng h0 h1
    rw [Int.fdiv_eq_ediv_of_nonneg _ (by decide)]
    omega
  cases hb with
  | self =>
    unfold pathC
    rw [if_neg hg]
    refine ⟨_, _, 1, ⟨by decide, .inr (.inr (by decide)), ?_, ?_, .s3 hA.1 hA.2 hB.1 hB.2 hC.1 hC.2 ⟨s1⟩, n1, i1, fun q h0 h1 => ?_⟩⟩
    · omega
    · omega
    · rw [inn_self hp0 hp1 h0 h1]
      refine decide_eq_decide.mpr ?_
      rw [Int.fdiv_eq_ediv_of_nonneg _ (by decide), Int.ediv_one]
      omega
  | two _ =>
    refine ⟨_, _, 144, ⟨by decide, .inl rfl, ?_, ?_, .s1 hA.1 hA.2 ⟨s2⟩, n2, i2, fun q h0 h1 => ?_⟩⟩
    · omega
    · omega
    · rw [inn_2 hp0 hp1 h0 h1]
      refine decide_eq_decide.mpr ⟨fun h => h.symm, fun h => h.symm⟩
  | two' _ =>
    refine ⟨_, _, 144, ⟨by decide, .inl rfl, ?_, ?_, .s1' hA.1 hA.2 ⟨s3⟩, n3, i3, fun q h0 h1 => ?_⟩⟩
    · omega
    · omega
    · rw [inn_2' hp0 hp1 h0 h1]
      refine decide_eq_decide.mpr ⟨fun h => h.symm, fun h => h.symm⟩
  | three _ =>
    refine ⟨_, _, 12, ⟨by decide, .inr (.inl (by decide)), ?_, ?_, .s2 hA.1 hA.2 hB.1 hB.2 ⟨s4⟩, n4, i4, fun q h0 h1 => ?_⟩⟩
    · omega
    · omega
    · rw [inn_3 hp0 hp1 h0 h1]
      refine decide_eq_decide.mpr ?_
      obtain ⟨hA', hB', -, -⟩ := abc_rng h0 h1
      rw [f12 q h0 h1]
      omega
  | three' _ =>
    refine ⟨_, _, 12, ⟨by decide, .inr (.inl (by decide)), ?_, ?_, .s2' hA.1 hA.2 hB.1 hB.2 ⟨s5⟩, n5, i5, fun q h0 h1 => ?_⟩⟩
    · omega
    · omega
    · rw [inn_3' hp0 hp1 h0 h1]
      refine decide_eq_decide.mpr ?_
      obtain ⟨hA', hB', -, -⟩ := abc_rng h0 h1
      rw [f12 q h0 h1]
      omega
theorem side_eq (a b c a' b' c' : Int) : (sideC a b c == sideC a' b' c') = (lightC a' b' c' == lightC a b c) := by
  unfold sideC
  cases lightC a b c <;> cases lightC a' b' c' <;> decide +kernel
noncomputable abbrev rowOf (e : Ent) : Row3 := (e.row, .bool (lightC e.a e.b e.c), .int (2 * e.a - e.b - e.c) e.u1, .int (e.b - e.c) e.u2)
theorem cov_row {a b c P S d : Int} {p : Str} (hP : PlaceOf a b c p P S d) {o : Ent} (ho : Rng o.a o.b o.c) :
    covC (lightC a b c) (2 * bA P S - bB P S - bC P S) (bB P S - bC P S) (2 * bA (P + 1) S - bB (P + 1) S - bC (P + 1) S) (bB (P + 1) S - bC (P + 1) S) (rowOf o) = .bool (subB (sideC a b c) p (sideC o.a o.b o.c) (pathC o.a o.b o.c)) := by
  show Value.bool _ = Value.bool _
  rw [subB_inn, side_eq, Bool.and_assoc, ← Bool.decide_and]
  congr 2
  unfold pathC
  by_cases hg : greyC o.a o.b o.c
  · rw [if_pos hg, hP.no]
    refine decide_eq_false ?_
    have hM := max_spec o.a o.b o.c
    have hm := min_spec o.a o.b o.c
    unfold greyC at hg
    have e1 : 2 * o.a - o.b - o.c = 0 := by omega
    have e2 : o.b - o.c = 0 := by omega
    rw [e1, e2]
    simp
  · rw [if_neg hg]
    obtain ⟨h0, h1⟩ := place_rng ho hg
    rw [hP.yes _ h0 h1]
    exact decide_eq_decide.mpr (cov_iff hP.hS hP.h0 hP.h1 ho hg hP.sd)
theorem cov_row_g {a b c : Int} (hg : greyC a b c) {o : Ent} (ho : Rng o.a o.b o.c) : covG (lightC a b c) (rowOf o) = .bool (subB (sideC a b c) "/" (sideC o.a o.b o.c) (pathC o.a o.b o.c)) := by
  show Value.bool _ = Value.bool _
  rw [subB_inn, side_eq]
  have e : inn "/" (pathC o.a o.b o.c) = true := by
    unfold pathC
    split
    · exact inn_root _ (t := []) cc_root
    · exact inn_root _ (cP _)
  rw [e, Bool.and_true]
theorem base_grey {a b c : Int} {p : Str} (hg : greyC a b c) (hb : IsBase a b c p) : p = "/" := by
  cases hb with
  | self => unfold pathC; rw [if_pos hg]
  | two h => exact absurd hg h
  | two' h => exact absurd hg h
  | three h => exact absurd hg h
  | three' h => exact absurd hg h
theorem has_cov {w : World} {e : Ent} {x : Bas} {es : List Ent} {rl : Addr} {n : Nat} {t0 : Tok} {news : List (Addr × Obj)} (h : Rng e.a e.b e.c) (hb : IsBase e.a e.b e.c x.2.1) (hm : (rl, lstO (es.map fun e => Value.ref e.row) n) ∈ news) (hes : ∀ e ∈ es, e.In news) (hlen : es.length ≤ 100) :
    Ctr 400 200 w 121 [.bool (lightC e.a e.b e.c), .str x.2.1 t0, .ref rl] news (fun tl v => ∃ l k, v = .ref l ∧ (l, lstO (toldOf e.a e.b e.c x.2.1 es) k) ∈ tl) := by
  have hm' : (rl, lstO ((es.map rowOf).map fun r => Value.ref r.1) n) ∈ news := by
    rw [List.map_map]; exact hm
  have hrow : ∀ r ∈ es.map rowOf, (r.1, tupO [r.2.1, r.2.2.1, r.2.2.2] 0) ∈ news := by
    intro r hr
    obtain ⟨o, ho, rfl⟩ := List.mem_map.mp hr
    exact (hes o ho).rowM
  have hsz : (es.map rowOf).length ≤ 1000 := by rw [List.length_map]; omega
  by_cases hg : greyC e.a e.b e.c
  · have hx : x.2.1 = "/" := base_grey hg hb
    rw [hx]
    refine Ctr.mono (covered_g hm' hrow hsz ?_) (by decide) (by decide) ?_
    · intro r hr
      obtain ⟨o, ho, rfl⟩ := List.mem_map.mp hr
      exact ⟨_, _, _, _, _, rfl⟩
    · rintro tl v ⟨l, k, rfl, hl⟩
      refine ⟨l, k, rfl, ?_⟩
      have e1 : (es.map rowOf).map (covG (lightC e.a e.b e.c)) = toldOf e.a e.b e.c "/" es := by
        rw [List.map_map]
        exact List.map_congr_left fun o ho => cov_row_g hg (hes o ho).rng
      rw [← e1]; exact hl
  · obtain ⟨P, S, d, hP⟩ := place_of h hg hb
    have hS := hP.hS
    have hB : HB w x.2.1 (bA P S) (bB P S) (bC P S) (bA (P + 1) S) (bB (P + 1) S) (bC (P + 1) S) :=
      ⟨fun t0 news => borders hP.sh hP.h0 (by have := hP.h1; omega) (by omega) (by omega) (base_ok h hb).1 (turnF hS hP.h0 (by have := hP.h1; omega)) (turnF hS (by have := hP.h0; omega) (by have := hP.h1; omega))⟩
    refine Ctr.mono (covered_c hm' hrow hsz ?_ hP.ne hB) (by decide) (by decide) ?_
    · intro r hr
      obtain ⟨o, ho, rfl⟩ := List.mem_map.mp hr
      have hr := (hes o ho).rng
      unfold Rng at hr
      exact ⟨_, _, _, _, _, rfl, by omega, by omega, by omega, by omega⟩
    · rintro tl v ⟨l, k, rfl, hl⟩
      refine ⟨l, k, rfl, ?_⟩
      have e1 : (es.map rowOf).map (covC (lightC e.a e.b e.c) (2 * bA P S - bB P S - bC P S) (bB P S - bC P S) (2 * bA (P + 1) S - bB (P + 1) S - bC (P + 1) S) (bB (P + 1) S - bC (P + 1) S)) = toldOf e.a e.b e.c x.2.1 es := by
        rw [List.map_map]
        exact List.map_congr_left fun o ho => cov_row hP (hes o ho).rng
      rw [← e1]; exact hl
end
end Mine

theorem Mine.has (w : World) : Mine.Has w := ⟨Mine.has_drawn, Mine.has_addr, Mine.has_point, Mine.has_bases, Mine.has_sub, Mine.has_cov⟩
theorem PySem.Challenge.cw_mq0198_01_holds : PySem.Challenge.rw_mq0198_01.Holds :=
  Mine.law0 Mine.has

