import PyProof.Rows.All
import Wide.All
import OpenK.AllK
import Wide.FinOn
import PySem.Challenge.RW_tx0016_01
set_option Elab.async false
set_option compiler.extract_closed false
section
open PySem PySem.W PyProof.Rows
namespace Mine
set_option maxRecDepth 100000 in
set_option maxHeartbeats 8000000 in
open_top hd for PySem.Challenge.rw_tx0016_01
end Mine
end
section
namespace Mine
theorem sec_Base : True := by
  w_top off
  trivial
end Mine
open PySem PySem.W PyProof.Rows
namespace Mine

/-- One call of a def of the text: what stands before it, what it hands back. -/
def CallOk (prog : Program) (w : World) (K : Frag) (p : Program) (loose : List Str) (mean : ExcName → Option Value)
    (mg mb : Str → Option Value) (f : Addr) (dd uu : Nat) (news : List (Addr × Obj)) (vs : List Value)
    (post : Value → List (Addr × Obj) → Prop) : Prop :=
  ∀ (dp un : Nat) (gd : Option (List Code)) (cn : Str) (cs : Scope) (a : Addr) (ccd : Value) (cl : List (Str × Addr))
    (outer : List Env) (A₀ : Around) (base h₀ : Heap) (L : Addr) (m : Str → Option Value) (s : Shared)
    (Q E : Value → Shared → Prop),
    Below A₀ base outer h₀ → Fr h₀ L s.heap m → K.In h₀ → News h₀ L s.heap news → Top p loose mean mg mb h₀ →
    cs.kind = .function → dp + dd < recursionLimit → un + uu < cLine →
    (∀ r tl h' tk', post r tl → Fr h₀ L h' m → News h₀ L h' (tl ++ news) → Q r { s with heap := h', toks := tk' }) →
    wpAny (model prog w) (ktrTop dp un gd cn cs L a ccd cl outer) (call (.ref f) vs) Q E s

theorem fill : PySem.Challenge.rw_tx0016_01 = PySem.Challenge.rw_tx0016_01 ∧ Mine.hd.heap_39 = Mine.hd.heap_39 := ⟨rfl, rfl⟩
end Mine
end
section
namespace Mine
theorem sec_Cnt : True := by
  w_top off
  trivial
end Mine
open PySem PySem.W PySem.Calls PyProof.Rows PySem.Spec
namespace Mine

def upd (m : Str → Option Value) (x : Str) (v : Value) : Str → Option Value := fun y => if y = x then some v else m y

theorem fr_same {h₀ h : Heap} {L : Addr} {m m' : Str → Option Value} (F : Fr h₀ L h m) (e : ∀ y, m y = m' y) : Fr h₀ L h m' := by
  have : m = m' := funext e
  subst this
  exact F
theorem fr_back {h₀ h : Heap} {L : Addr} {m : Str → Option Value} {x : Str} {v : Value} (F : Fr h₀ L h m) (hm : m x = some v) :
    Fr h₀ L h (fun y => if y = x then some v else m y) := fr_same F fun y => by
  by_cases e : y = x
  · simp [e, hm]
  · simp [e]
theorem fr_idem {h₀ h : Heap} {L : Addr} {m : Str → Option Value} {x : Str} {u v : Option Value}
    (F : Fr h₀ L h (fun y => if y = x then v else if y = x then u else m y)) : Fr h₀ L h (fun y => if y = x then v else m y) :=
  fr_same F fun y => by by_cases e : y = x <;> simp [e]

/-- the end of a turn of a loop that turns one int -/
def CntPost (h₀ : Heap) (L : Addr) (s : Shared) (x : Str) (m : Str → Option Value) (news : List (Addr × Obj)) (P : Int → Prop) (μ : Int → Nat) (k : Int) (f : Flow) (s₂ : Shared) : Prop :=
  f = .next ∧ ∃ (k' : Int) (t : Tok) (h : Heap) (tk : Nat), s₂ = { s with heap := h, toks := tk } ∧ Fr h₀ L h (fun y => if y = x then some (.int k' t) else m y) ∧ News h₀ L h news ∧ P k' ∧ μ k' < μ k
def CntExit (h₀ : Heap) (L : Addr) (s : Shared) (x : Str) (m : Str → Option Value) (news : List (Addr × Obj)) (k : Int) (s₂ : Shared) : Prop :=
  ∃ (t : Tok) (h : Heap) (tk : Nat), s₂ = { s with heap := h, toks := tk } ∧ Fr h₀ L h (fun y => if y = x then some (.int k t) else m y) ∧ News h₀ L h news

theorem while_cnt {prog : Program} {w : World} {A : Around} {E : Value → Shared → Prop} {Q : Flow → Shared → Prop} {s : Shared} {env : Env} {h₀ : Heap} {L : Addr}
    {test : Expr} {body : List Stmt} {pos : Pos} {m : Str → Option Value} {news : List (Addr × Obj)} (x : Str) (P : Int → Prop) (μ : Int → Nat) {k₀ : Int} {t₀ : Tok}
    (F : Fr h₀ L s.heap m) (N : News h₀ L s.heap news) (hm : m x = some (.int k₀ t₀)) (hp : P k₀)
    (turn : ∀ k t h tk, P k → Fr h₀ L h (fun y => if y = x then some (.int k t) else m y) → News h₀ L h news →
      wpAny (model prog w) A (isTrue test env (eval test env)) (fun b s₂ =>
        if b = true then wpAny (model prog w) A (execs body env) (CntPost h₀ L s x m news P μ k) E s₂ else CntExit h₀ L s x m news k s₂) E { s with heap := h, toks := tk })
    (done : ∀ k t h tk, P k → Fr h₀ L h (fun y => if y = x then some (.int k t) else m y) → News h₀ L h news → Q .next { s with heap := h, toks := tk })
    (hE : PassesOwn (model prog w) A env E := by passes_own) :
    wpAny (model prog w) A (exec (.While test body [] pos) env) Q E s := by
  refine While_inv2 (fun n m' nx => ∃ k t, nx = news ∧ m' = (fun y => if y = x then some (.int k t) else m y) ∧ P k ∧ μ k = n) (fr_back F hm) N ⟨k₀, t₀, rfl, rfl, hp, rfl⟩ ?_ hE
  rintro n m₁ nx h tk F₁ N₁ ⟨k, t, rfl, rfl, hk, rfl⟩
  refine wpAny_mono (turn k t h tk hk F₁ N₁) (fun b s₂ p => ?_) fun _ _ x => x
  cases b with
  | false =>
    simp only [Bool.false_eq_true, if_false] at p ⊢
    obtain ⟨t', h', tk', rfl, F', N'⟩ := p
    exact done k t' h' tk' hk F' N'
  | true =>
    simp only [if_true] at p ⊢
    refine wpAny_mono p (fun f s₃ q => ?_) fun _ _ x => x
    obtain ⟨rfl, k', t', h', tk', rfl, F', N', hk', hlt⟩ := q
    exact ⟨h', tk', _, _, μ k', rfl, F', N', hlt, k', t', rfl, rfl, hk', rfl⟩
end Mine
namespace Mine
section
variable {prog : Program} {w : World} {A : Around} {E : Value → Shared → Prop} {s : Shared} {env : Env} {h₀ : Heap} {x : Str} {body : List Stmt} {Q : Flow → Shared → Prop}
/-- a loop over range(n): what holds of the frame's map and the ledger before turn i -/
theorem for_rangeJ {r : Addr} {b₀ : Int} {t₀ u₀ v₀ : Tok} {n : Nat} {m₀ : Str → Option Value} {news : List (Addr × Obj)} (J : Nat → (Str → Option Value) → List (Addr × Obj) → Prop)
    (hh : A.handled = none) (hr : IsRange s.heap r 0 b₀ 1 t₀ u₀ v₀) (hb : b₀ = (n : Int)) (hn : n < 1000) (F : Fr h₀ env.locals s.heap m₀) (N : News h₀ env.locals s.heap news) (hj : J 0 m₀ news)
    (turn : ∀ (i : Nat) t m₁ nx h tk own, i < n → nx.map (·.1) = news.map (·.1) → OwnOff own (news.map (·.1)) → J i m₁ nx → Fr h₀ env.locals h (fun y => if y = x then some (.int (i : Int) t) else m₁ y) → News h₀ env.locals h (nx ++ own) →
      wpAny (model prog w) A (execs body env) (InvPostN h₀ env.locals (J (i + 1)) own (news.map (·.1)) { s with heap := h, toks := tk } Q) E { s with heap := h, toks := tk })
    (done : ∀ m₁ nx h tk, J n m₁ nx → nx.map (·.1) = news.map (·.1) → Fr h₀ env.locals h m₁ → News h₀ env.locals h nx → Q .next { s with heap := h, toks := tk }) :
    wpAny (model prog w) A (pyIter (.ref r)) (fun it s₂ => LoopAtV prog w A h₀ env x body Q E it s₂) E s := by
  subst hb
  have hsmall : Builtin.Range.small 0 (n : Int) 1 = true := small_one (by omega) (by omega) (by omega) (by omega)
  have hn' : Builtin.Range.rangeSize 0 (n : Int) 1 = (n : Int) := by rw [rangeSize_nat]; omega
  refine wpAny_pyIter_range hr hsmall ?_
  have W : Walks prog w A s.heap.objs.size [s.heap.objs.size] [s.heap.objs.size] n (fun i v => i < n ∧ ∃ t, v = .int (0 + i * 1) t)
      (fun i h => IsRangeIter h s.heap.objs.size (0 + (i : Nat) * 1) ((n : Int) - (i : Nat)) 1) := (Walks.range hh _ 0 1 n).bound
  refine loop_invN (fun i m nx => nx.map (·.1) = news.map (·.1) ∧ J i m nx) W ?_ ?_ ?_ ?_ (by show IsRangeIter _ _ _ _ _; rw [hn']; simpa using Heap.get?_push_size _ rfl) (F.push _) (fun p hp => ⟨Heap.get?_push_of_some _ (N p hp).1, (N p hp).2⟩) ⟨rfl, hj⟩ ?_ ?_
  · intro hm
    exact absurd F.ns.lt ((List.mem_singleton.mp hm) ▸ Nat.lt_irrefl _)
  · intro b hb
    rw [List.mem_singleton.mp hb]
    exact next_is_new F
  · intro p hp hI
    exact absurd (Heap.lt_size (N p hp).1) ((List.mem_singleton.mp hI) ▸ Nat.lt_irrefl _)
  · intro p hp hI
    exact absurd (Heap.lt_size (N p hp).1) ((List.mem_singleton.mp hI) ▸ Nat.lt_irrefl _)
  · rintro i v m₁ nx h tk own hi ⟨_, t, rfl⟩ hadr hoff ⟨_, hJ⟩ F₁ N₁
    have e1 : (0 : Int) + (i : Int) * 1 = (i : Int) := by omega
    rw [e1] at F₁
    refine wpAny_mono (turn i t m₁ nx h tk own hi hadr hoff hJ F₁ N₁) (fun f s₂ p => ?_) fun _ _ x => x
    have up : InvEndN h₀ env.locals (J (i + 1)) own (news.map (·.1)) { s with heap := h, toks := tk } s₂ →
        InvEndN h₀ env.locals (fun m nx => nx.map (·.1) = news.map (·.1) ∧ J (i + 1) m nx) own (news.map (·.1)) { s with heap := h, toks := tk } s₂ := by
      rintro ⟨h', tk', m', news', nx, e', F', N', hn, ho, ha, hS⟩
      exact ⟨h', tk', m', news', nx, e', F', N', hn, ho, ha, ha, hS⟩
    cases f with
    | ret v => exact p
    | brk => exact p
    | next => exact up p
    | cont => exact up p
  · rintro m₁ nx h tk ⟨hadr, hJ⟩ F₁ N₁
    exact done m₁ nx h tk hJ hadr F₁ N₁

/-- the row that the distance begins with -/
def evens (n : Nat) : List Int := (List.range n).map fun (i : Nat) => 2 + (i : Int) * 2
theorem range_two (n : Nat) : Builtin.Range.rangeSize 2 (2 * ((n : Int) + 1)) 2 = (n : Int) := by
  unfold Builtin.Range.rangeSize
  simp only [show (2 : Int) > 0 by decide, if_true]
  split <;> omega
theorem fits_long {i : Int} (h1 : 0 ≤ i) (h2 : i < 100000) : Builtin.Range.rangeFitsLong i = true := by
  unfold Builtin.Range.rangeFitsLong
  rw [decide_eq_true (by omega), decide_eq_true (by omega)]
  rfl
theorem small_two {n : Nat} (hn : n < 1000) : Builtin.Range.small 2 (2 * ((n : Int) + 1)) 2 = true := by
  unfold Builtin.Range.small
  rw [range_two, fits_long (by decide) (by decide), fits_long (i := 2 * ((n : Int) + 1)) (by omega) (by omega), fits_long (i := (n : Int)) (by omega) (by omega), if_pos (by decide), fits_long (i := 2 * ((n : Int) + 1) + (2 - 1)) (by omega) (by omega)]
  simp
theorem ints_of {a c : Int} : ∀ (vs : List Value) (k n : Nat), vs.length = n → (∀ j v, vs[j]? = some v → ∃ t, v = Value.int (a + ((k + j : Nat) : Int) * c) t) → IntsAre vs ((List.range' k n).map fun (i : Nat) => a + (i : Int) * c)
  | [], k, n, hn, _ => by
    subst hn
    exact .nil
  | v :: r, k, n, hn, h => by
    subst hn
    obtain ⟨t, ht⟩ := h 0 v rfl
    rw [ht]
    simp only [List.length_cons, List.range'_succ, List.map_cons, Nat.add_zero]
    refine .cons _ _ (ints_of r (k + 1) r.length rfl fun j v hj => ?_)
    obtain ⟨t', ht'⟩ := h (j + 1) v hj
    refine ⟨t', ht'.trans ?_⟩
    have : k + (j + 1) = k + 1 + j := by omega
    rw [this]
theorem row_list {h₀ : Heap} {L r : Addr} {m : Str → Option Value} {news : List (Addr × Obj)} {n : Nat} {b : Int} {t₀ u₀ v₀ : Tok} {Q : Value → Shared → Prop}
    (hh : A.handled = none) (F : Fr h₀ L s.heap m) (N : News h₀ L s.heap news) (hr : IsRange s.heap r 2 b 2 t₀ u₀ v₀) (hb : b = 2 * ((n : Int) + 1)) (hn : n < 1000)
    (h : ∀ D us c h' tk, Fr h₀ L h' m → News h₀ L h' ((D, listOf (List.toArray us) c) :: news) → (∀ p ∈ news, p.1 < D) → IntsAre us (evens n) → Q (.ref D) { s with heap := h', toks := tk }) :
    wpAny (model prog w) A (call (.type "list") [.ref r]) Q E s := by
  subst hb
  refine call_list_range hh hr (small_two hn) (range_two n) (by omega) fun h' tk acc c hk hD hI => ?_
  have hD' : h'.get? s.heap.objs.size = some (listOf (List.toArray acc.toList) c) := by
    rw [Array.toArray_toList]
    exact hD
  refine h _ acc.toList c h' tk (F.keeps hk) (news_pushed F N hk hD' rfl) (fun p hp => Heap.lt_size (N p hp).1) ?_
  have := ints_of (a := 2) (c := 2) acc.toList 0 n (by rw [Array.length_toList]; exact hI.1) fun j v hj => ?_
  · unfold evens
    rw [List.range_eq_range']
    exact this
  · obtain ⟨t, ht⟩ := hI.2 j v (by rw [← hj, Array.getElem?_toList])
    exact ⟨t, by rw [ht]; simp⟩
end
end Mine
end
section
namespace Mine
theorem sec_Strs : True := by
  w_top off
  trivial
end Mine
open PySem PySem.W PySem.Calls PyProof.Rows PySem.Spec PySem.Builtin PySem.Builtin.Str
namespace Mine

theorem len_cps (x : Str) : x.length = x.cps.toList.length := by
  unfold Str.length
  simp
theorem str_ext {x y : Str} (h : x.cps.toList = y.cps.toList) : x = y := by
  obtain ⟨x⟩ := x
  obtain ⟨y⟩ := y
  have : x = y := Array.toList_inj.mp h
  rw [this]
theorem slice_from {x : Str} {k : Int} (h0 : 0 ≤ k) (h1 : k ≤ (x.length : Int)) :
    (Txt.slice x (some k) none).cps.toList = x.cps.toList.drop k.toNat := by
  rw [slice_from_eq h0 h1 rfl]
  simp only
  have := len_cps x
  refine List.take_of_length_le ?_
  rw [List.length_drop]
  omega
theorem slice_all (x : Str) : Txt.slice x none none = x := by
  have h : (strSliceIndices none none 1 x.length).length = x.length := by
    simp [strSliceIndices, sliceRange]
    split <;> simp <;> omega
  unfold Txt.slice
  rw [h]
  simp
theorem slice_neg {x : Str} {j : Int} (h0 : j < 0) (h1 : 0 ≤ (x.length : Int) + j) :
    (Txt.slice x none (some j)).cps.toList = x.cps.toList.take ((x.length : Int) + j).toNat := by
  have e : Txt.slice x none (some j) = Txt.slice x none (some ((x.length : Int) + j)) := by
    unfold Txt.slice
    have : strSliceIndices none (some j) 1 x.length = strSliceIndices none (some ((x.length : Int) + j)) 1 x.length := by
      have n1 : ¬ ((x.length : Int) + j < 0) := by omega
      simp only [strSliceIndices, h0, n1, if_true, if_false]
      rw [Int.add_comm]
    rw [this]
  rw [e]
  have := slice_closes_toL (x := x) (j := (x.length : Int) + j) h1 (by omega)
  rw [beq_iff_eq.mp this]
  simp
theorem item_at {x : Str} {k : Int} (h0 : 0 ≤ k) (h1 : k < (x.length : Int)) : Txt.item x k = ⟨#[x.cps.toList.getD k.toNat 0]⟩ := by
  have n1 : ¬ k < 0 := by omega
  unfold Txt.item Txt.charAt seqIndex?
  simp only [n1, if_false, h0, h1, decide_true, Bool.and_self, if_true, Option.bind_some]
  simp
theorem item_neg {x : Str} {k : Int} (h0 : k < 0) (h1 : 0 ≤ k + (x.length : Int)) : Txt.item x k = ⟨#[x.cps.toList.getD (k + (x.length : Int)).toNat 0]⟩ := by
  have n1 : k + (x.length : Int) < (x.length : Int) := by omega
  unfold Txt.item Txt.charAt seqIndex?
  simp only [h0, if_true, h1, n1, decide_true, Bool.and_self, Option.bind_some]
  simp
theorem one_eq {a b : Nat} (h : ((⟨#[a]⟩ : Str) == ⟨#[b]⟩) = true) : a = b := by
  have := beq_iff_eq.mp h
  simpa using this

structure Strip1 (x y : Str) (k : Int) : Prop where
  lo : 0 ≤ k
  hx : k ≤ (x.length : Int)
  hy : k ≤ (y.length : Int)
  eq : ∃ p a b : List Nat, x.cps.toList = p ++ a ∧ y.cps.toList = p ++ b ∧ (p.length : Int) = k

theorem Strip1.zero (x y : Str) : Strip1 x y 0 := ⟨by omega, by omega, by omega, [], x.cps.toList, y.cps.toList, rfl, rfl, rfl⟩
theorem nonempty_len {n : Nat} (h : (n : Int) ≠ 0) : 0 < n := by
  omega
theorem Strip1.succ {x y : Str} {k : Int} (S : Strip1 x y k) (hx : ((Txt.slice x (some k) none).length : Int) ≠ 0) (hy : ((Txt.slice y (some k) none).length : Int) ≠ 0)
    (e : (Txt.item x k == Txt.item y k) = true) : Strip1 x y (k + 1) := by
  obtain ⟨lo, h1, h2, p, a, b, ea, eb, hp⟩ := S
  have lx := nonempty_len hx
  have ly := nonempty_len hy
  rw [len_cps, slice_from lo h1, List.length_drop, ← len_cps] at lx
  rw [len_cps, slice_from lo h2, List.length_drop, ← len_cps] at ly
  have kx : k < (x.length : Int) := by omega
  have ky : k < (y.length : Int) := by omega
  rw [item_at lo kx, item_at lo ky] at e
  have e := one_eq e
  have hk : k.toNat = p.length := by omega
  rw [hk, ea, eb] at e
  have la : x.length = p.length + a.length := by rw [len_cps, ea, List.length_append]
  have lb : y.length = p.length + b.length := by rw [len_cps, eb, List.length_append]
  cases a with
  | nil => simp at la; omega
  | cons c a =>
    cases b with
    | nil => simp at lb; omega
    | cons d b =>
      simp at e
      subst e
      refine ⟨by omega, by omega, by omega, p ++ [c], a, b, by rw [ea]; simp, by rw [eb]; simp, by simp; omega⟩

/-- after the common head: the rests -/
theorem Strip1.rest {x y : Str} {k : Int} (S : Strip1 x y k) : ∃ p : List Nat, x.cps.toList = p ++ (Txt.slice x (some k) none).cps.toList ∧ y.cps.toList = p ++ (Txt.slice y (some k) none).cps.toList := by
  obtain ⟨lo, h1, h2, p, a, b, ea, eb, hp⟩ := S
  refine ⟨p, ?_, ?_⟩
  · rw [slice_from lo h1, ea]
    have : k.toNat = p.length := by omega
    rw [this]
    simp
  · rw [slice_from lo h2, eb]
    have : k.toNat = p.length := by omega
    rw [this]
    simp

structure Strip2 (x y : Str) (k : Int) : Prop where
  hi : k ≤ 0
  hx : 0 ≤ (x.length : Int) + k
  hy : 0 ≤ (y.length : Int) + k
  eq : ∃ p a b : List Nat, x.cps.toList = a ++ p ∧ y.cps.toList = b ++ p ∧ (p.length : Int) = -k

theorem Strip2.zero (x y : Str) : Strip2 x y 0 := ⟨by omega, by omega, by omega, [], x.cps.toList, y.cps.toList, by simp, by simp, rfl⟩

theorem Strip2.next {x y : Str} {k : Int} (S : Strip2 x y k) (hx : 0 < (x.length : Int) + k) (hy : 0 < (y.length : Int) + k)
    (e : (Txt.item x (k - 1) == Txt.item y (k - 1)) = true) : Strip2 x y (k - 1) := by
  obtain ⟨hi, h1, h2, p, a, b, ea, eb, hp⟩ := S
  rw [item_neg (by omega) (by omega), item_neg (by omega) (by omega)] at e
  have e := one_eq e
  have la : x.length = a.length + p.length := by rw [len_cps, ea, List.length_append]
  have lb : y.length = b.length + p.length := by rw [len_cps, eb, List.length_append]
  have i1 : (k - 1 + (x.length : Int)).toNat = a.length - 1 := by omega
  have i2 : (k - 1 + (y.length : Int)).toNat = b.length - 1 := by omega
  rw [i1, i2, ea, eb] at e
  have na : a ≠ [] := by intro q; subst q; simp at la; omega
  have nb : b ≠ [] := by intro q; subst q; simp at lb; omega
  obtain ⟨a', c, rfl⟩ := (⟨a.dropLast, a.getLast na, (List.dropLast_concat_getLast na).symm⟩ : ∃ a' c, a = a' ++ [c])
  obtain ⟨b', d, rfl⟩ := (⟨b.dropLast, b.getLast nb, (List.dropLast_concat_getLast nb).symm⟩ : ∃ b' d, b = b' ++ [d])
  simp at e
  subst e
  refine ⟨by omega, by omega, by omega, c :: p, a', b', by rw [ea]; simp, by rw [eb]; simp, by simp; omega⟩
theorem slice_neg_len {x : Str} {k : Int} (hi : k < 0) (h1 : 0 ≤ (x.length : Int) + k) : ((Txt.slice x none (some k)).length : Int) = x.length + k := by
  rw [len_cps, slice_neg hi h1, List.length_take, ← len_cps]
  omega
/-- after the common tail: the rests; nought means the whole -/
theorem Strip2.rest {x y : Str} {k : Int} (S : Strip2 x y k) (hk : k ≠ 0) : ∃ p : List Nat, x.cps.toList = (Txt.slice x none (some k)).cps.toList ++ p ∧ y.cps.toList = (Txt.slice y none (some k)).cps.toList ++ p := by
  obtain ⟨hi, h1, h2, p, a, b, ea, eb, hp⟩ := S
  have la : x.length = a.length + p.length := by rw [len_cps, ea, List.length_append]
  have lb : y.length = b.length + p.length := by rw [len_cps, eb, List.length_append]
  refine ⟨p, ?_, ?_⟩
  · rw [slice_neg (by omega) h1, ea]
    have : ((x.length : Int) + k).toNat = a.length := by omega
    rw [this]
    simp
  · rw [slice_neg (by omega) h2, eb]
    have : ((y.length : Int) + k).toNat = b.length := by omega
    rw [this]
    simp
end Mine
namespace Mine
/-- what `x[:k or None]` is for a k that is nought or less -/
def upto (x : Str) (k : Int) : Str := if k = 0 then x else Txt.slice x none (some k)
theorem upto_ne {x : Str} {k : Int} (h : k ≠ 0) : Txt.slice x none (some k) = upto x k := by unfold upto; rw [if_neg h]
theorem upto_zero {x : Str} {k : Int} (h : k = 0) : x = upto x k := by unfold upto; rw [if_pos h]
theorem upto_len {x : Str} {k : Int} (hi : k ≤ 0) (h1 : 0 ≤ (x.length : Int) + k) : ((upto x k).length : Int) = x.length + k := by
  unfold upto
  by_cases hz : k = 0
  · rw [if_pos hz, hz]; omega
  · rw [if_neg hz, slice_neg_len (by omega) h1]
theorem Strip2.rests {x y : Str} {k : Int} (S : Strip2 x y k) : ∃ p : List Nat, x.cps.toList = (upto x k).cps.toList ++ p ∧ y.cps.toList = (upto y k).cps.toList ++ p := by
  unfold upto
  by_cases hz : k = 0
  · simp only [if_pos hz]
    exact ⟨[], by simp, by simp⟩
  · simp only [if_neg hz]
    exact S.rest hz

def UptoR (h₀ : Heap) (L : Addr) (m : Str → Option Value) (news : List (Addr × Obj)) (s : Shared) (x : Str) (k : Int) (v : Value) (s' : Shared) : Prop :=
  ∃ (t' : Tok) (h' : Heap) (tk' : Nat), v = .str (upto x k) t' ∧ s' = { s with heap := h', toks := tk' } ∧ Fr h₀ L h' m ∧ News h₀ L h' news
theorem UptoR.of_ne {h₀ : Heap} {L : Addr} {m : Str → Option Value} {news : List (Addr × Obj)} {s : Shared} {x : Str} {k : Int} {t' : Tok} {h' : Heap} {tk' : Nat} (hk : k ≠ 0) (F : Fr h₀ L h' m) (N : News h₀ L h' news) :
    UptoR h₀ L m news s x k (.str (Txt.slice x none (some k)) t') { s with heap := h', toks := tk' } := ⟨t', h', tk', by rw [upto_ne hk], rfl, F, N⟩
theorem UptoR.of_zero {h₀ : Heap} {L : Addr} {m : Str → Option Value} {news : List (Addr × Obj)} {s : Shared} {x : Str} {k : Int} {t' : Tok} {h' : Heap} {tk' : Nat} (hk : k = 0) (F : Fr h₀ L h' m) (N : News h₀ L h' news) :
    UptoR h₀ L m news s x k (.str x t') { s with heap := h', toks := tk' } := ⟨t', h', tk', by rw [← upto_zero hk], rfl, F, N⟩
theorem cut_upto {M : Model} {A : Around} {E : Value → Shared → Prop} {Q : Value → Shared → Prop} {s : Shared} {h₀ : Heap} {L : Addr} {m : Str → Option Value} {news : List (Addr × Obj)} {t : Sem Value} (x : Str) (k : Int)
    (_F : Fr h₀ L s.heap m) (_N : News h₀ L s.heap news) (inn : wpAny M A t (UptoR h₀ L m news s x k) E s)
    (cont : ∀ t' h' tk', Fr h₀ L h' m → News h₀ L h' news → Q (.str (upto x k) t') { s with heap := h', toks := tk' }) : wpAny M A t Q E s :=
  wpAny_mono inn (fun v s' ⟨t', h', tk', e, es, F', N'⟩ => by subst e; subst es; exact cont t' h' tk' F' N') fun _ _ x => x
theorem slice_same {prog : Program} {w : World} {A : Around} {E : Value → Shared → Prop} {s : Shared} {value slice : Expr} {x : Str} {t : Tok} {h₀ : Heap} {L : Addr} {m : Str → Option Value} {news : List (Addr × Obj)} {Q : Value → Shared → Prop}
    (hF : Fr h₀ L s.heap m) (hN : News h₀ L s.heap news) (h : ∀ h' t' k, Fr h₀ L h' m → News h₀ L h' news → Q (.str x t') { s with heap := h', toks := k })
    (hs : subscripted slice false (.str x t) (.ref s.heap.objs.size) = operate [.ref s.heap.objs.size, .str x t] (getItem (.str x t) (.ref s.heap.objs.size)) := by with_unfolding_all rfl)
    (ht : ∀ r, letTemporaryGo value (.str x t) r = pure () := by intro _; with_unfolding_all rfl) (hsz : x.length ≤ sizeLine := by size_fits) :
    wpAny (model prog w) A (subscriptTail value slice (.str x t) (.ref s.heap.objs.size)) Q E { s with heap := s.heap.push { cls := .type "slice", data := .fields #[.none, .none, .none] } } :=
  slice_strN_nn hF hN (fun h' t' k F' N' => by have := h h' t' k F' N'; rwa [slice_all]) hs ht hsz
end Mine
namespace Mine
theorem cut_upto2 {M : Model} {A : Around} {E : Value → Shared → Prop} {Q : Value → Shared → Prop} {s : Shared} {h₀ : Heap} {L : Addr} {m : Str → Option Value} {news : List (Addr × Obj)} {env : Env} {an post : Str} {p1 p2 p4 p5 p6 : Pos} {o : BoolOp} {e3 : Expr}
    {x : Str} {k : Int} {t0 u : Tok}
    (_F : Fr h₀ L s.heap m) (_N : News h₀ L s.heap news) (_hx : m an = some (.str x t0)) (_hk : m post = some (.int k u))
    (inn : wpAny M A (eval (.Subscript (.Name an p1) (.Slice none (some (.BoolOp o [.Name post p2, e3] p4)) none p5) p6) env) (UptoR h₀ L m news s x k) E s)
    (cont : ∀ t' h' tk', Fr h₀ L h' m → News h₀ L h' news → Q (.str (upto x k) t') { s with heap := h', toks := tk' }) :
    wpAny M A (eval (.Subscript (.Name an p1) (.Slice none (some (.BoolOp o [.Name post p2, e3] p4)) none p5) p6) env) Q E s := cut_upto x k _F _N inn cont
end Mine
end
section
namespace Mine
theorem sec_Ast : True := by
  w_top off
  trivial
end Mine
open PySem PySem.W PyProof.Rows
namespace Mine
def bodyOf (k : Nat) : List Stmt := match PySem.Challenge.pw_tx0016_01.main.body[k]? with
  | some (.FunctionDef _ _ b _ _ _ _ _ _ _) => b
  | _ => []
def scopeOf (k : Nat) : Scope := match PySem.Challenge.pw_tx0016_01.main.body[k]? with
  | some (.FunctionDef _ _ _ _ _ _ sc _ _ _) => sc
  | _ => default
end Mine
end
section
namespace Mine
theorem sec_S1 : True := by
  w_top off
  trivial
end Mine
open PySem PySem.W PyProof.Rows
namespace Mine

theorem CallOk.use {prog : Program} {w : World} {K : Frag} {p : Program} {loose : List Str} {mean : ExcName → Option Value} {mg mb : Str → Option Value} {f : Addr} {dd uu : Nat} {news : List (Addr × Obj)} {vs : List Value} {post : Value → List (Addr × Obj) → Prop}
    {dp un : Nat} {gd : Option (List Code)} {cn : Str} {cs : Scope} {a : Addr} {ccd : Value} {cl : List (Str × Addr)} {outer : List Env} {A₀ : Around} {base h₀ : Heap} {L : Addr} {m : Str → Option Value} {s : Shared} {Q E : Value → Shared → Prop}
    (C : CallOk prog w K p loose mean mg mb f dd uu news vs post) (B : Below A₀ base outer h₀) (F : Fr h₀ L s.heap m) (X : K.In h₀) (N : News h₀ L s.heap news) (T : Top p loose mean mg mb h₀) (hk : cs.kind = .function)
    (hd : dp + dd < recursionLimit) (hu : un + uu < cLine)
    (ret : ∀ r tl h' tk', post r tl → Fr h₀ L h' m → News h₀ L h' (tl ++ news) → Q r { s with heap := h', toks := tk' }) :
    wpAny (model prog w) (ktrTop dp un gd cn cs L a ccd cl outer) (call (.ref f) vs) Q E s := C _ _ _ _ _ _ _ _ _ _ _ _ _ _ _ _ _ B F X N T hk hd hu ret

/-- three_way_cmp's answer -/
def cmp3 (x y : Int) : Int := if y < x then 1 else if x < y then -1 else 0
/-- _substitution_cost's answer -/
def sub (x y : Str) : Int := if (x == y) = true then 0 else if (Txt.lower x == Txt.lower y) = true then 1 else 2
theorem sub_nonneg (x y : Str) : 0 ≤ sub x y := by
  unfold sub
  split
  · omega
  · split <;> omega
theorem sub_le (x y : Str) : sub x y ≤ 2 := by
  unfold sub
  split
  · omega
  · split <;> omega
theorem cmp3_b2i (x y : Int) : b2i (decide (y < x)) - b2i (decide (x < y)) = cmp3 x y := by
  unfold cmp3
  by_cases h1 : y < x
  · have h2 : ¬ x < y := by omega
    simp [h1, h2, b2i]
  · by_cases h2 : x < y
    · simp [h1, h2, b2i]
    · simp [h1, h2, b2i]

set_option maxRecDepth 100000 in
set_option maxHeartbeats 8000000 in
theorem cmp_ok {prog w p loose mean mg mb} (news : List (Addr × Obj)) (x y : Int) (t u : Tok) :
    CallOk prog w (Mine.hd.heap_39 w.params) p loose mean mg mb 28 2 16 news [.int x t, .int y u]
      (fun r tl => tl = [] ∧ ∃ t, r = .int (cmp3 x y) t) := by
  have hfill : PySem.Challenge.rw_tx0016_01 = PySem.Challenge.rw_tx0016_01 ∧ Mine.hd.heap_39 = Mine.hd.heap_39 := by
    k_fill
    exact ⟨rfl, rfl⟩
  clear hfill
  unfold CallOk
  intro dp un gd cn cs a ccd cl outer A₀ base h₀ L m s Q E B F X N T hk hd hu hret
  refine wpAny_call ?_
  k_dflt ktr_enter
  repeat' ((fail_if_success (with_reducible show wpAny _ _ (exec (Stmt.While _ _ _ _) _) _ _ _)); (fail_if_success (with_reducible show wpAny _ _ (exec (Stmt.For _ _ _ _ _) _) _ _ _)); first | (k_unfold; (try dsimp only)) | (k_end; wrow_close) | walk1 | (dsimp only; walk1) | (leave1; walk_say "STEP leave1"; try dsimp only) | fail "no step")
  exact hret _ [] _ _ ⟨rfl, ktn_int (cmp3_b2i x y)⟩ (by assumption) (by assumption)
set_option maxRecDepth 100000 in
set_option maxHeartbeats 8000000 in
theorem subst_ok {prog w p loose mean mg mb} (news : List (Addr × Obj)) (x y : Str) (t u : Tok) (hx : x.length ≤ 1) (hy : y.length ≤ 1) :
    CallOk prog w (Mine.hd.heap_39 w.params) p loose mean mg mb 35 2 16 news [.str x t, .str y u]
      (fun r tl => tl = [] ∧ ∃ t, r = .int (sub x y) t) := by
  have hfill : PySem.Challenge.rw_tx0016_01 = PySem.Challenge.rw_tx0016_01 ∧ Mine.hd.heap_39 = Mine.hd.heap_39 := by
    k_fill
    exact ⟨rfl, rfl⟩
  clear hfill
  unfold CallOk
  intro dp un gd cn cs a ccd cl outer A₀ base h₀ L m s Q E B F X N T hk hd hu hret
  refine wpAny_call ?_
  k_dflt ktr_enter
  repeat' ((fail_if_success (with_reducible show wpAny _ _ (exec (Stmt.While _ _ _ _) _) _ _ _)); (fail_if_success (with_reducible show wpAny _ _ (exec (Stmt.For _ _ _ _ _) _) _ _ _)); first | (k_unfold; (try dsimp only)) | (k_end; wrow_close) | walk1 | (dsimp only; walk1) | (leave1; walk_say "STEP leave1"; try dsimp only) | fail "no step")
  · rename (x == y) = true => h1
    exact hret _ [] _ _ ⟨rfl, ktn_int (by unfold sub; rw [if_pos h1])⟩ (by assumption) (by assumption)
  · rename (x == y) = false => h1
    rename (Txt.lower x == Txt.lower y) = true => h2
    exact hret _ [] _ _ ⟨rfl, ktn_int (by unfold sub; rw [h1, h2]; rfl)⟩ (by assumption) (by assumption)
  · rename (x == y) = false => h1
    rename (Txt.lower x == Txt.lower y) = false => h2
    exact hret _ [] _ _ ⟨rfl, ktn_int (by unfold sub; rw [h1, h2]; rfl)⟩ (by assumption) (by assumption)
end Mine
end
section
namespace Mine
theorem sec_S3 : True := by
  w_top off
  trivial
end Mine
open PySem PySem.W PyProof.Rows
namespace Mine

structure DpOk (A B : Str) (c : Int) (D : Nat → Nat → Int) : Prop where
  na : 0 < A.length
  nb : 0 < B.length
  la : A.length ≤ 40
  lb : B.length ≤ 41
  z : ∀ j, D 0 j = 2 * (j : Int)
  i0 : ∀ i, D i 0 = 2 * (i : Int)
  lo : ∀ i j, 0 ≤ D i j
  hi : ∀ i j, i ≤ B.length → j ≤ A.length → D i j ≤ 1000
  s : ∀ i j, i < B.length → j < A.length → D (i + 1) (j + 1) = min (min (if j = 0 then 2 * (i : Int) else D (i + 1) j) (D i (j + 1)) + 2) (D i j + sub (Txt.item B (i : Int)) (Txt.item A (j : Int)))
  cap : ∀ i, i < B.length → ∃ j, j < A.length ∧ D (i + 1) (j + 1) ≤ c

/-- the row in the middle of turn i, before its place j -/
def rowAt (D : Nat → Nat → Int) (n i j : Nat) : List Int := (List.range n).map fun (q : Nat) => if q < j then D (i + 1) (q + 1) else D i (q + 1)
theorem rowAt_len (D : Nat → Nat → Int) (n i j : Nat) : (rowAt D n i j).length = n := by unfold rowAt; simp
theorem rowAt_get {D : Nat → Nat → Int} {n i j : Nat} (h : j < n) : (rowAt D n i j).getD j 0 = D i (j + 1) := by
  unfold rowAt
  rw [List.getD_eq_getElem?_getD, List.getElem?_map, List.getElem?_range h]
  simp
theorem rowAt_set {D : Nat → Nat → Int} {n i j : Nat} (_h : j < n) : (rowAt D n i j).set j (D (i + 1) (j + 1)) = rowAt D n i (j + 1) := by
  refine List.ext_getElem (by simp [rowAt_len]) fun q h1 h2 => ?_
  rw [List.getElem_set]
  have e1 : ∀ (h : q < (rowAt D n i (j + 1)).length), (rowAt D n i (j + 1))[q] = if q < j + 1 then D (i + 1) (q + 1) else D i (q + 1) := by
    intro h; simp only [rowAt, List.getElem_map, List.getElem_range]
  have e0 : ∀ (h : q < (rowAt D n i j).length), (rowAt D n i j)[q] = if q < j then D (i + 1) (q + 1) else D i (q + 1) := by
    intro h; simp only [rowAt, List.getElem_map, List.getElem_range]
  rw [e1, e0]
  by_cases e : j = q
  · subst e; simp
  · rw [if_neg e]
    by_cases e2 : q < j
    · rw [if_pos e2, if_pos (by omega)]
    · rw [if_neg e2, if_neg (by omega)]
theorem rowAt_end (D : Nat → Nat → Int) (n i : Nat) : rowAt D n i n = rowAt D n (i + 1) 0 := by
  unfold rowAt
  refine List.map_congr_left fun q hq => ?_
  rw [if_pos (List.mem_range.mp hq), if_neg (by omega)]
theorem rowAt_start {A B : Str} {c : Int} {D : Nat → Nat → Int} (H : DpOk A B c D) (n : Nat) : evens n = rowAt D n 0 0 := by
  unfold rowAt evens
  refine List.map_congr_left fun q _ => ?_
  rw [if_neg (by omega), H.z]
  omega

theorem min_if (a b : Int) : (if b < a then b else a) = min a b := by
  by_cases h : b < a
  · rw [if_pos h]; omega
  · rw [if_neg h]; omega
theorem step_val {A B : Str} {c : Int} {D : Nat → Nat → Int} (H : DpOk A B c D) {i j : Nat} (hi : i < B.length) (hj : j < A.length) :
    (if D i j + sub (Txt.item B (i : Int)) (Txt.item A (j : Int)) < (if (rowAt D A.length i j).getD ((j : Nat) : Int).toNat 0 < (if j = 0 then 2 * (i : Int) else D (i + 1) j) then (rowAt D A.length i j).getD ((j : Nat) : Int).toNat 0 else (if j = 0 then 2 * (i : Int) else D (i + 1) j)) + 2
      then D i j + sub (Txt.item B (i : Int)) (Txt.item A (j : Int)) else (if (rowAt D A.length i j).getD ((j : Nat) : Int).toNat 0 < (if j = 0 then 2 * (i : Int) else D (i + 1) j) then (rowAt D A.length i j).getD ((j : Nat) : Int).toNat 0 else (if j = 0 then 2 * (i : Int) else D (i + 1) j)) + 2) = D (i + 1) (j + 1) := by
  rw [H.s i j hi hj, Int.toNat_natCast, rowAt_get hj, min_if, min_if]
theorem mem_cons_app {α : Type} {x : α} {a b : List α} : ∀ p ∈ x :: a, p ∈ x :: (a ++ b) := fun p hp => by
  rcases List.mem_cons.mp hp with h | h
  · rw [h]; exact .head _
  · exact .tail _ (List.mem_append.mpr (.inl h))
theorem mem_own_app {α : Type} {x : α} {a b : List α} : ∀ p ∈ b, p ∈ x :: (a ++ b) := fun _ hp => .tail _ (List.mem_append.mpr (.inr hp))
theorem min_lt {D : Nat → Nat → Int} {i j : Nat} {mn : Int} (hmn : ∀ q, q < j → mn ≤ D (i + 1) (q + 1)) (h : D (i + 1) (j + 1) < mn) : ∀ q, q < j + 1 → D (i + 1) (j + 1) ≤ D (i + 1) (q + 1) := fun q hq => by
  by_cases e : q = j
  · subst e; exact Int.le_refl _
  · have := hmn q (by omega); omega
theorem min_ge {D : Nat → Nat → Int} {i j : Nat} {mn : Int} (hmn : ∀ q, q < j → mn ≤ D (i + 1) (q + 1)) (h : ¬ D (i + 1) (j + 1) < mn) : ∀ q, q < j + 1 → mn ≤ D (i + 1) (q + 1) := fun q hq => by
  by_cases e : q = j
  · subst e; omega
  · exact hmn q (by omega)

/-- the names that stay in the two loops -/
structure LevF (A B : Str) (tA tB tc : Tok) (c : Int) (D0 : Addr) (m : Str → Option Value) : Prop where
  a : m (Str.ofString "a") = some (.str A tA)
  b : m (Str.ofString "b") = some (.str B tB)
  mc : m (Str.ofString "max_cost") = some (.int c tc)
  row : m (Str.ofString "row") = some (.ref D0)
def OutJ (A B : Str) (tA tB tc : Tok) (c : Int) (D : Nat → Nat → Int) (D0 : Addr) (news : List (Addr × Obj)) (i : Nat) (m : Str → Option Value) (nx : List (Addr × Obj)) : Prop :=
  LevF A B tA tB tc c D0 m ∧ (∃ us cnt, nx = (D0, listOf (List.toArray us) cnt) :: news ∧ IntsAre us (rowAt D A.length i 0)) ∧
  ∃ t, m (Str.ofString "result") = some (.int (if i = 0 then 0 else D i A.length) t)
def InJ (A B : Str) (tA tB tc : Tok) (c : Int) (D : Nat → Nat → Int) (D0 : Addr) (rest : List (Addr × Obj)) (i : Nat) (ch : Str) (tch : Tok) (j : Nat) (m : Str → Option Value) (nx : List (Addr × Obj)) : Prop :=
  LevF A B tA tB tc c D0 m ∧ (∃ us cnt, nx = (D0, listOf (List.toArray us) cnt) :: rest ∧ IntsAre us (rowAt D A.length i j)) ∧
  m (Str.ofString "bchar") = some (.str ch tch) ∧
  (∃ t, m (Str.ofString "distance") = some (.int (D i j) t)) ∧
  (∃ t, m (Str.ofString "result") = some (.int (if j = 0 then 2 * (i : Int) else D (i + 1) j) t)) ∧
  (∃ mn t, m (Str.ofString "minimum") = some (.int mn t) ∧ ∀ q, q < j → mn ≤ D (i + 1) (q + 1))

local macro_rules | `(tactic| k_all) => `(tactic| assumption)
set_option maxRecDepth 100000 in
set_option maxHeartbeats 8000000 in
theorem lev_tail {prog : Program} {w : World} {p loose mean mg mb} {dp un gd outer A₀ base h₀ L m news s} {Q : Flow → Shared → Prop} (A B : Str) {tA tB tc : Tok} (c : Int) (D : Nat → Nat → Int)
    {s13 s14 s15 s16 : Stmt} (hst : (bodyOf 8).drop 13 = [s13, s14, s15, s16])
    {k : ScopeKind} {ns : List (Str × NameKind)} {ig ic : Bool} {mo : List (Str × Const)} (hsc : scopeOf 8 = ⟨k, ns, ig, ic, mo⟩)
    (hB : Below A₀ base outer h₀) (F : Fr h₀ L s.heap m) (X : (Mine.hd.heap_39 w.params).In h₀) (N : News h₀ L s.heap news) (T : Top p loose mean mg mb h₀)
    (ha : m (Str.ofString "a") = some (.str A tA)) (hb : m (Str.ofString "b") = some (.str B tB)) (hc : m (Str.ofString "max_cost") = some (.int c tc))
    (hd : dp + 3 < recursionLimit) (hu : un + 24 < cLine) (H : DpOk A B c D)
    (hret : ∀ t h' tk' m', Fr h₀ L h' m' → News h₀ L h' news → Q (.ret (.int (D B.length A.length) t)) { s with heap := h', toks := tk' }) :
    wpAny (model prog w) (ktrTop dp un gd (Str.ofString "_levenshtein_distance") ⟨k, ns, ig, ic, mo⟩ L 42 (.ref 41) [] outer)
      (execs [s13, s14, s15, s16] (envX (Str.ofString "_levenshtein_distance") ⟨k, ns, ig, ic, mo⟩ L 42 (.ref 41) [])) Q (fun _ _ => False) s := by
  have hfill : PySem.Challenge.rw_tx0016_01 = PySem.Challenge.rw_tx0016_01 ∧ Mine.hd.heap_39 = Mine.hd.heap_39 := by
    k_fill
    exact ⟨rfl, rfl⟩
  clear hfill
  cases hst
  cases hsc
  replace F := fr_back F ha
  replace F := fr_back (x := Str.ofString "b") (v := .str B tB) F (by with_unfolding_all exact hb)
  replace F := fr_back (x := Str.ofString "max_cost") (v := .int c tc) F (by with_unfolding_all exact hc)
  have hna := H.na
  have hla := H.la
  have hlb := H.lb
  repeat' ((fail_if_success (with_reducible show wpAny _ _ (exec (Stmt.While _ _ _ _) _) _ _ _)); (fail_if_success (with_reducible show wpAny _ _ (exec (Stmt.For _ _ _ _ _) _) _ _ _)); (fail_if_success (with_reducible show wpAny _ _ (pyIter _) _ _ _)); first | (k_here; (with_reducible show wpAny _ _ (call (Value.ref 35) [Value.str _ _, Value.str _ _]) _ _ _); (k_dflt ((refine' CallOk.use (subst_ok _ _ _ _ _ ?hx ?hy) ?k1 ?k2 ?k3 ?k4 ?k5 ?kK ?kd ?ku ?_); (case hx => omega); (case hy => omega); (case k1 => k_asm); (case k2 => k_asm); (case k3 => k_asm); (case k4 => k_asm); (case k5 => k_asm); (case kK => exact rfl); (case kd => omega); (case ku => omega))); intro r9 tl9 h9 tk9 p9 F9 N9; (obtain ⟨e9, t9, e9'⟩ := p9); (subst e9); (subst e9'); (simp only [List.nil_append] at N9); (try dsimp only); (try k_fold)) | (k_unfold; (try dsimp only)) | (k_end; wrow_close) | walk1 | (dsimp only; walk1) | (leave1; walk_say "STEP leave1"; try dsimp only) | fail "no step")
  (rename IsRange _ _ _ _ _ _ _ _ => rgX)
  (with_unfolding_all refine' row_list (n := A.length) rfl ?f1 ?n1 rgX rfl (by omega) ?_)
  (case f1 => assumption)
  (case n1 => assumption)
  intro D0 us cnt h' tk' F' N' hlt' hI'
  clear rgX
  have hne : ∀ p ∈ news, p.1 ≠ D0 := fun p hp => Nat.ne_of_lt (hlt' p hp)
  repeat' ((fail_if_success (with_reducible show wpAny _ _ (exec (Stmt.While _ _ _ _) _) _ _ _)); (fail_if_success (with_reducible show wpAny _ _ (exec (Stmt.For _ _ _ _ _) _) _ _ _)); (fail_if_success (with_reducible show wpAny _ _ (pyIter _) _ _ _)); first | (k_here; (with_reducible show wpAny _ _ (call (Value.ref 35) [Value.str _ _, Value.str _ _]) _ _ _); (k_dflt ((refine' CallOk.use (subst_ok _ _ _ _ _ ?hx ?hy) ?k1 ?k2 ?k3 ?k4 ?k5 ?kK ?kd ?ku ?_); (case hx => omega); (case hy => omega); (case k1 => k_asm); (case k2 => k_asm); (case k3 => k_asm); (case k4 => k_asm); (case k5 => k_asm); (case kK => exact rfl); (case kd => omega); (case ku => omega))); intro r9 tl9 h9 tk9 p9 F9 N9; (obtain ⟨e9, t9, e9'⟩ := p9); (subst e9); (subst e9'); (simp only [List.nil_append] at N9); (try dsimp only); (try k_fold)) | (k_unfold; (try dsimp only)) | (k_end; wrow_close) | walk1 | (dsimp only; walk1) | (leave1; walk_say "STEP leave1"; try dsimp only) | fail "no step")
  (rename Fr _ _ _ _ => lF'); (with_unfolding_all refine' For_invVF lF' ?k1 ?k2 ?_; (case k1 => exact rfl); (case k2 => exact rfl))
  repeat' ((fail_if_success (with_reducible show wpAny _ _ (exec (Stmt.While _ _ _ _) _) _ _ _)); (fail_if_success (with_reducible show wpAny _ _ (exec (Stmt.For _ _ _ _ _) _) _ _ _)); (fail_if_success (with_reducible show wpAny _ _ (pyIter _) _ _ _)); first | (k_here; (with_reducible show wpAny _ _ (call (Value.ref 35) [Value.str _ _, Value.str _ _]) _ _ _); (k_dflt ((refine' CallOk.use (subst_ok _ _ _ _ _ ?hx ?hy) ?k1 ?k2 ?k3 ?k4 ?k5 ?kK ?kd ?ku ?_); (case hx => omega); (case hy => omega); (case k1 => k_asm); (case k2 => k_asm); (case k3 => k_asm); (case k4 => k_asm); (case k5 => k_asm); (case kK => exact rfl); (case kd => omega); (case ku => omega))); intro r9 tl9 h9 tk9 p9 F9 N9; (obtain ⟨e9, t9, e9'⟩ := p9); (subst e9); (subst e9'); (simp only [List.nil_append] at N9); (try dsimp only); (try k_fold)) | (k_unfold; (try dsimp only)) | (k_end; wrow_close) | walk1 | (dsimp only; walk1) | (leave1; walk_say "STEP leave1"; try dsimp only) | fail "no step")
  (rename IsRange _ _ _ _ _ _ _ _ => rgX)
  (rename Fr _ _ _ _ => lF')
  (rename News _ _ _ _ => lN')
  (with_unfolding_all refine' for_rangeJ (OutJ A B tA tB tc c D D0 news) rfl rgX rfl (by omega) lF' lN' ?start ?turn ?done)
  case start =>
    refine ⟨⟨by rfl, by rfl, by rfl, by rfl⟩, ⟨us, cnt, rfl, ?_⟩, ⟨_, by rfl⟩⟩
    rw [← rowAt_start H]
    exact hI'
  case done =>
    clear rgX lF' lN'
    intro m1 nx h1 tk1 hj hadr F1 N1
    obtain ⟨⟨fa, fb, fc, fr⟩, ⟨us1, cnt1, rfl, hI1⟩, ⟨t1, f1⟩⟩ := hj
    rw [if_neg (Nat.ne_of_gt H.nb)] at f1
    replace F1 := fr_back (x := Str.ofString "result") F1 (by with_unfolding_all exact f1)
    repeat' ((fail_if_success (with_reducible show wpAny _ _ (exec (Stmt.While _ _ _ _) _) _ _ _)); (fail_if_success (with_reducible show wpAny _ _ (exec (Stmt.For _ _ _ _ _) _) _ _ _)); (fail_if_success (with_reducible show wpAny _ _ (pyIter _) _ _ _)); first | (k_here; (with_reducible show wpAny _ _ (call (Value.ref 35) [Value.str _ _, Value.str _ _]) _ _ _); (k_dflt ((refine' CallOk.use (subst_ok _ _ _ _ _ ?hx ?hy) ?k1 ?k2 ?k3 ?k4 ?k5 ?kK ?kd ?ku ?_); (case hx => omega); (case hy => omega); (case k1 => k_asm); (case k2 => k_asm); (case k3 => k_asm); (case k4 => k_asm); (case k5 => k_asm); (case kK => exact rfl); (case kd => omega); (case ku => omega))); intro r9 tl9 h9 tk9 p9 F9 N9; (obtain ⟨e9, t9, e9'⟩ := p9); (subst e9); (subst e9'); (simp only [List.nil_append] at N9); (try dsimp only); (try k_fold)) | (k_unfold; (try dsimp only)) | (k_end; wrow_close) | walk1 | (dsimp only; walk1) | (leave1; walk_say "STEP leave1"; try dsimp only) | fail "no step")
    exact hret _ _ _ _ (by assumption) fun p hp => (show News _ _ _ _ by assumption) p (.tail _ hp)
  case turn =>
    clear rgX lF' lN' hI'
    intro i ti m1 nx h1 tk1 own hi hadr hoff hj F1 N1
    obtain ⟨⟨fa, fb, fc, fr⟩, ⟨us1, cnt1, rfl, hI1⟩, ⟨t1, f1⟩⟩ := hj
    have hne1 : ∀ p ∈ news ++ own, p.1 ≠ D0 := fun p hp => (List.mem_append.mp hp).elim (hne p) (OwnOff.ne hoff (.head _) p)
    simp only [List.cons_append] at N1
    generalize hrest : news ++ own = rest at N1 hne1
    replace F1 := fr_back (x := Str.ofString "a") F1 (by with_unfolding_all exact fa)
    replace F1 := fr_back (x := Str.ofString "b") F1 (by with_unfolding_all exact fb)
    replace F1 := fr_back (x := Str.ofString "max_cost") F1 (by with_unfolding_all exact fc)
    replace F1 := fr_back (x := Str.ofString "row") F1 (by with_unfolding_all exact fr)
    replace F1 := fr_back (x := Str.ofString "bindex") F1 (by with_unfolding_all rfl)
    k_unmd
    k_fold
    repeat' ((fail_if_success (with_reducible show wpAny _ _ (exec (Stmt.While _ _ _ _) _) _ _ _)); (fail_if_success (with_reducible show wpAny _ _ (exec (Stmt.For _ _ _ _ _) _) _ _ _)); (fail_if_success (with_reducible show wpAny _ _ (pyIter _) _ _ _)); first | (k_here; (with_reducible show wpAny _ _ (call (Value.ref 35) [Value.str _ _, Value.str _ _]) _ _ _); (k_dflt ((refine' CallOk.use (subst_ok _ _ _ _ _ ?hx ?hy) ?k1 ?k2 ?k3 ?k4 ?k5 ?kK ?kd ?ku ?_); (case hx => omega); (case hy => omega); (case k1 => k_asm); (case k2 => k_asm); (case k3 => k_asm); (case k4 => k_asm); (case k5 => k_asm); (case kK => exact rfl); (case kd => omega); (case ku => omega))); intro r9 tl9 h9 tk9 p9 F9 N9; (obtain ⟨e9, t9, e9'⟩ := p9); (subst e9); (subst e9'); (simp only [List.nil_append] at N9); (try dsimp only); (try k_fold)) | (k_unfold; (try dsimp only)) | (k_end; wrow_close) | walk1 | (dsimp only; walk1) | (leave1; walk_say "STEP leave1"; try dsimp only) | fail "no step")
    (rename Fr _ _ _ _ => lF'); (with_unfolding_all refine' For_invVF lF' ?k1 ?k2 ?_; (case k1 => exact rfl); (case k2 => exact rfl))
    repeat' ((fail_if_success (with_reducible show wpAny _ _ (exec (Stmt.While _ _ _ _) _) _ _ _)); (fail_if_success (with_reducible show wpAny _ _ (exec (Stmt.For _ _ _ _ _) _) _ _ _)); (fail_if_success (with_reducible show wpAny _ _ (pyIter _) _ _ _)); first | (k_here; (with_reducible show wpAny _ _ (call (Value.ref 35) [Value.str _ _, Value.str _ _]) _ _ _); (k_dflt ((refine' CallOk.use (subst_ok _ _ _ _ _ ?hx ?hy) ?k1 ?k2 ?k3 ?k4 ?k5 ?kK ?kd ?ku ?_); (case hx => omega); (case hy => omega); (case k1 => k_asm); (case k2 => k_asm); (case k3 => k_asm); (case k4 => k_asm); (case k5 => k_asm); (case kK => exact rfl); (case kd => omega); (case ku => omega))); intro r9 tl9 h9 tk9 p9 F9 N9; (obtain ⟨e9, t9, e9'⟩ := p9); (subst e9); (subst e9'); (simp only [List.nil_append] at N9); (try dsimp only); (try k_fold)) | (k_unfold; (try dsimp only)) | (k_end; wrow_close) | walk1 | (dsimp only; walk1) | (leave1; walk_say "STEP leave1"; try dsimp only) | fail "no step")
    (rename IsRange _ _ _ _ _ _ _ _ => rgX)
    (rename Fr _ _ _ _ => lF')
    (rename News _ _ _ _ => lN')
    (with_unfolding_all refine' for_rangeJ (InJ A B tA tB tc c D D0 rest i (Txt.item B (i : Int)) _) rfl rgX rfl (by omega) lF' lN' ?start2 ?turn2 ?done2)
    case start2 =>
      refine ⟨⟨by rfl, by rfl, by rfl, by rfl⟩, ⟨us1, cnt1, rfl, hI1⟩, by rfl, ?_, ?_, ⟨_, _, by rfl, fun q hq => absurd hq (Nat.not_lt_zero _)⟩⟩
      · rw [H.i0, Int.mul_comm]; exact ⟨_, by rfl⟩
      · rw [if_pos rfl, Int.mul_comm]; exact ⟨_, by rfl⟩
    case done2 =>
      clear rgX lF' lN'
      intro m2 nx2 h2 tk2 hj2 hadr2 F2 N2
      obtain ⟨⟨ga, gb, gc, gr⟩, ⟨us2, cnt2, rfl, hI2⟩, gch, ⟨td, gd2⟩, ⟨tr, gre⟩, ⟨mn, tm, gmn, hmn⟩⟩ := hj2
      have hmc : mn ≤ c := by
        obtain ⟨q, hq, hle⟩ := H.cap i hi
        have := hmn q hq
        omega
      rw [if_neg (by omega)] at gre
      rw [rowAt_end] at hI2
      replace F2 := fr_back (x := Str.ofString "a") F2 (by with_unfolding_all exact ga)
      replace F2 := fr_back (x := Str.ofString "b") F2 (by with_unfolding_all exact gb)
      replace F2 := fr_back (x := Str.ofString "max_cost") F2 (by with_unfolding_all exact gc)
      replace F2 := fr_back (x := Str.ofString "row") F2 (by with_unfolding_all exact gr)
      replace F2 := fr_back (x := Str.ofString "result") F2 (by with_unfolding_all exact gre)
      replace F2 := fr_back (x := Str.ofString "minimum") F2 (by with_unfolding_all exact gmn)
      repeat' ((fail_if_success (with_reducible show wpAny _ _ (exec (Stmt.While _ _ _ _) _) _ _ _)); (fail_if_success (with_reducible show wpAny _ _ (exec (Stmt.For _ _ _ _ _) _) _ _ _)); (fail_if_success (with_reducible show wpAny _ _ (pyIter _) _ _ _)); first | (k_here; (with_reducible show wpAny _ _ (call (Value.ref 35) [Value.str _ _, Value.str _ _]) _ _ _); (k_dflt ((refine' CallOk.use (subst_ok _ _ _ _ _ ?hx ?hy) ?k1 ?k2 ?k3 ?k4 ?k5 ?kK ?kd ?ku ?_); (case hx => omega); (case hy => omega); (case k1 => k_asm); (case k2 => k_asm); (case k3 => k_asm); (case k4 => k_asm); (case k5 => k_asm); (case kK => exact rfl); (case kd => omega); (case ku => omega))); intro r9 tl9 h9 tk9 p9 F9 N9; (obtain ⟨e9, t9, e9'⟩ := p9); (subst e9); (subst e9'); (simp only [List.nil_append] at N9); (try dsimp only); (try k_fold)) | (k_unfold; (try dsimp only)) | (k_end; wrow_close) | walk1 | (dsimp only; walk1) | (leave1; walk_say "STEP leave1"; try dsimp only) | fail "no step")
      rename Fr _ _ _ _ => F3
      rename News _ _ _ _ => N3
      subst hrest
      refine InvEndN.intro F3 N3 ⟨⟨by rfl, by rfl, by rfl, by rfl⟩, ⟨_, _, rfl, hI2⟩, ?_⟩ (by rfl) mem_cons_app mem_own_app
      rw [if_neg (Nat.succ_ne_zero i)]
      exact ⟨_, by rfl⟩
    case turn2 =>
      clear rgX lF' lN' hI1
      intro j tj m2 nx2 h2 tk2 own2 hj hadr2 hoff2 hJ2 F2 N2
      obtain ⟨⟨ga, gb, gc, gr⟩, ⟨us2, cnt2, rfl, hI2⟩, gch, ⟨td, gd2⟩, ⟨tr, gre⟩, ⟨mn, tm, gmn, hmn⟩⟩ := hJ2
      have hne2 : ∀ p ∈ rest ++ own2, p.1 ≠ D0 := fun p hp => (List.mem_append.mp hp).elim (hne1 p) (OwnOff.ne hoff2 (.head _) p)
      simp only [List.cons_append] at N2
      generalize hrest2 : rest ++ own2 = rest2 at N2 hne2
      replace F2 := fr_back (x := Str.ofString "a") F2 (by with_unfolding_all exact ga)
      replace F2 := fr_back (x := Str.ofString "b") F2 (by with_unfolding_all exact gb)
      replace F2 := fr_back (x := Str.ofString "max_cost") F2 (by with_unfolding_all exact gc)
      replace F2 := fr_back (x := Str.ofString "row") F2 (by with_unfolding_all exact gr)
      replace F2 := fr_back (x := Str.ofString "bchar") F2 (by with_unfolding_all exact gch)
      replace F2 := fr_back (x := Str.ofString "distance") F2 (by with_unfolding_all exact gd2)
      replace F2 := fr_back (x := Str.ofString "result") F2 (by with_unfolding_all exact gre)
      replace F2 := fr_back (x := Str.ofString "minimum") F2 (by with_unfolding_all exact gmn)
      replace F2 := fr_back (x := Str.ofString "index") F2 (by with_unfolding_all rfl)
      have hlen2 := rowAt_len D A.length i j
      k_unmd
      k_fold
      have hv := step_val H hi hj
      have hget : (rowAt D A.length i j).getD ((j : Nat) : Int).toNat 0 = D i (j + 1) := by rw [Int.toNat_natCast, rowAt_get hj]
      repeat' ((fail_if_success (with_reducible show wpAny _ _ (exec (Stmt.While _ _ _ _) _) _ _ _)); (fail_if_success (with_reducible show wpAny _ _ (exec (Stmt.For _ _ _ _ _) _) _ _ _)); (fail_if_success (with_reducible show wpAny _ _ (pyIter _) _ _ _)); first | (k_here; (with_reducible show wpAny _ _ (call (Value.ref 35) [Value.str _ _, Value.str _ _]) _ _ _); (k_dflt ((refine' CallOk.use (subst_ok _ _ _ _ _ ?hx ?hy) ?k1 ?k2 ?k3 ?k4 ?k5 ?kK ?kd ?ku ?_); (case hx => omega); (case hy => omega); (case k1 => k_asm); (case k2 => k_asm); (case k3 => k_asm); (case k4 => k_asm); (case k5 => k_asm); (case kK => exact rfl); (case kd => omega); (case ku => omega))); intro r9 tl9 h9 tk9 p9 F9 N9; (obtain ⟨e9, t9, e9'⟩ := p9); (subst e9); (subst e9'); (simp only [List.nil_append] at N9); (try dsimp only); (try k_fold)) | (k_unfold; (try dsimp only)) | (k_end; wrow_close) | walk1 | (dsimp only; walk1) | (leave1; walk_say "STEP leave1"; try dsimp only) | fail "no step")
      · rename IntsAre _ _ => hI3
        rename Fr _ _ _ _ => F3
        rename News _ _ _ _ => N3
        rename (_ : Int) < _ => hcond
        rw [hv] at F3 N3 hI3 hcond
        rw [hget] at F3
        simp only [Int.toNat_natCast] at N3 hI3
        rw [rowAt_set hj] at hI3
        subst hrest2
        refine InvEndN.intro F3 N3 ⟨⟨by rfl, by rfl, by rfl, by rfl⟩, ⟨_, _, rfl, hI3⟩, by rfl, ⟨_, by rfl⟩, ?_, ⟨_, _, by rfl, min_lt hmn hcond⟩⟩ (by rfl) mem_cons_app mem_own_app
        rw [if_neg (Nat.succ_ne_zero j)]
        exact ⟨_, by rfl⟩
      · rename IntsAre _ _ => hI3
        rename Fr _ _ _ _ => F3
        rename News _ _ _ _ => N3
        rename ¬ ((_ : Int) < _) => hcond
        rw [hv] at F3 N3 hI3 hcond
        rw [hget] at F3
        simp only [Int.toNat_natCast] at N3 hI3
        rw [rowAt_set hj] at hI3
        subst hrest2
        refine InvEndN.intro F3 N3 ⟨⟨by rfl, by rfl, by rfl, by rfl⟩, ⟨_, _, rfl, hI3⟩, by rfl, ⟨_, by rfl⟩, ?_, ⟨_, _, by rfl, min_ge hmn hcond⟩⟩ (by rfl) mem_cons_app mem_own_app
        rw [if_neg (Nat.succ_ne_zero j)]
        exact ⟨_, by rfl⟩
end Mine
end
section
namespace Mine
theorem sec_S2 : True := by
  w_top off
  trivial
end Mine
open PySem PySem.W PyProof.Rows
namespace Mine

theorem strip1_less {x y : Str} {k : Int} (S : Strip1 x y k) (hx : ((Txt.slice x (some k) none).length : Int) ≠ 0) : x.length - (k + 1).toNat < x.length - k.toNat := by
  have lx := nonempty_len hx
  have := S.lo
  have := S.hx
  rw [len_cps, slice_from S.lo S.hx, List.length_drop, ← len_cps] at lx
  omega
local macro_rules | `(tactic| walk_at "subscriptTail Name Slice str ref") => `(tactic| ((with_reducible show wpAny _ _ (subscriptTail _ (Expr.Slice none (some _) none _) _ _) _ _ _); (with_reducible rename Fr _ _ _ _ => F'); (with_reducible rename News _ _ _ _ => N'); (refine slice_same (hsz := ?hsz) (s := ⟨_, _, _, _, _⟩) F' N' ?_); (case hsz => size_fits); intro _ _ _ _ _))
local macro_rules | `(tactic| walk_at "eval Subscript") => `(tactic| (
  (with_reducible show wpAny _ _ (eval (Expr.Subscript (Expr.Name _ _) (Expr.Slice none (some (Expr.BoolOp _ _ _)) none _) _) _) _ _ _);
  (fail_if_success (with_reducible show wpAny _ _ _ (UptoR _ _ _ _ _ _ _) _ _));
  (rename Fr _ _ _ _ => lF'); (rename News _ _ _ _ => lN');
  k_dflt ((refine' cut_upto2 lF' lN' ?hx ?hk ?inn ?_); (case hx => rfl); (case hk => rfl));
  (case inn => k_dflt ((repeat' (first | walk1 | (dsimp only; walk1))); all_goals first | exact UptoR.of_ne (by assumption) (by assumption) (by assumption) | exact UptoR.of_zero (by assumption) (by assumption) (by assumption)));
  intro t' h' tk' F' N'; clear lF' lN'))
/-- what the head and the tail that are struck leave, and what the rest is to answer -/
def LevFin (A B : Str) (c r : Int) : Prop := ((B.length : Int) - (A.length : Int)) * 2 ≤ c ∧ ∃ D, DpOk A B c D ∧ D B.length A.length = r
structure LevIn (x y : Str) (c r : Int) : Prop where
  lx : x.length ≤ 40
  ly : y.length ≤ 40
  eq : (x == y) = true → r = 0
  rest : ∀ (p q : List Nat) (x2 y2 : Str), x.cps.toList = p ++ (x2.cps.toList ++ q) → y.cps.toList = p ++ (y2.cps.toList ++ q) →
    (x2.length = 0 ∨ y2.length = 0 → r = 2 * ((x2.length : Int) + (y2.length : Int))) ∧
    (0 < x2.length → 0 < y2.length → (x2.length ≤ y2.length → LevFin x2 y2 c r) ∧ (y2.length < x2.length → LevFin y2 x2 c r))
set_option maxRecDepth 100000 in
set_option maxHeartbeats 8000000 in
theorem lev_ok {prog w p loose mean mg mb} (news : List (Addr × Obj)) (x y : Str) (t u : Tok) (c r : Int) (v : Tok) (H : LevIn x y c r) :
    CallOk prog w (Mine.hd.heap_39 w.params) p loose mean mg mb 42 5 48 news [.str x t, .str y u, .int c v]
      (fun res tl => tl = [] ∧ ∃ t, res = .int r t) := by
  have hfill : PySem.Challenge.rw_tx0016_01 = PySem.Challenge.rw_tx0016_01 ∧ Mine.hd.heap_39 = Mine.hd.heap_39 := by
    k_fill
    exact ⟨rfl, rfl⟩
  clear hfill
  unfold CallOk
  intro dp un gd cn cs a ccd cl outer A₀ base h₀ L m s Q E B F X N T hk hd hu hret
  have hx := H.lx
  have hy := H.ly
  refine wpAny_call ?_
  k_dflt ktr_enter
  repeat' ((fail_if_success (with_reducible show wpAny _ _ (exec (Stmt.While _ _ _ _) _) _ _ _)); (fail_if_success (with_reducible show wpAny _ _ (exec (Stmt.For _ _ _ _ _) _) _ _ _)); first | (k_unfold; (try dsimp only)) | (k_end; wrow_close) | walk1 | (dsimp only; walk1) | (leave1; walk_say "STEP leave1"; try dsimp only) | fail "no step")
  · rename (x == y) = true => h1
    exact hret _ [] _ _ ⟨rfl, ktn_int (H.eq h1).symm⟩ (by assumption) (by assumption)
  rename Fr _ _ _ _ => lF'
  rename News _ _ _ _ => lN'
  with_unfolding_all refine' while_cnt (Str.ofString "pre") (Strip1 x y) (fun k => x.length - k.toNat) lF' lN' (by rfl) (Strip1.zero x y) ?turn ?done
  case done =>
      intro k t h tk S F' N'
      have hlo := S.lo
      have hxk := S.hx
      have hyk := S.hy
      repeat' ((fail_if_success (with_reducible show wpAny _ _ (exec (Stmt.While _ _ _ _) _) _ _ _)); (fail_if_success (with_reducible show wpAny _ _ (exec (Stmt.For _ _ _ _ _) _) _ _ _)); first | (k_unfold; (try dsimp only)) | (k_end; wrow_close) | walk1 | (dsimp only; walk1) | (leave1; walk_say "STEP leave1"; try dsimp only) | fail "no step")
      obtain ⟨p0, ex, ey⟩ := S.rest
      generalize Txt.slice x (some k) none = x1 at *
      generalize Txt.slice y (some k) none = y1 at *
      rename Fr _ _ _ _ => lF'
      rename News _ _ _ _ => lN'
      with_unfolding_all refine' while_cnt (Str.ofString "post") (Strip2 x1 y1) (fun k => ((x1.length : Int) + k).toNat) lF' lN' (by rfl) (Strip2.zero x1 y1) ?turn2 ?done2
      case done2 =>
        intro k2 t2 h2 tk2 S2 F2 N2
        have hhi := S2.hi
        have hxk2 := S2.hx
        have hyk2 := S2.hy
        have e1 := upto_len hhi hxk2
        have e2 := upto_len hhi hyk2
        obtain ⟨q0, fx, fy⟩ := S2.rests
        clear S lF' lN'
        rw [fx] at ex
        rw [fy] at ey
        clear fx fy
        repeat' ((fail_if_success (with_reducible show wpAny _ _ (exec (Stmt.While _ _ _ _) _) _ _ _)); (fail_if_success (with_reducible show wpAny _ _ (exec (Stmt.For _ _ _ _ _) _) _ _ _)); (fail_if_success (with_reducible show wpAny _ _ (execs (Stmt.If (Expr.BoolOp _ _ _) _ _ _ :: _) _) _ _ _)); first | (k_unfold; (try dsimp only)) | (k_end; wrow_close) | walk1 | (dsimp only; walk1) | (leave1; walk_say "STEP leave1"; try dsimp only) | fail "no step")
        generalize upto x1 k2 = x2 at *
        generalize upto y1 k2 = y2 at *
        have hR := H.rest p0 q0 x2 y2 ex ey
        repeat' ((fail_if_success (with_reducible show wpAny _ _ (exec (Stmt.While _ _ _ _) _) _ _ _)); (fail_if_success (with_reducible show wpAny _ _ (exec (Stmt.For _ _ _ _ _) _) _ _ _)); (fail_if_success (with_reducible show wpAny _ _ (execs [_, _, Stmt.For _ _ _ _ _, _] _) _ _ _)); first | (k_unfold; (try dsimp only)) | (k_end; wrow_close) | walk1 | (dsimp only; walk1) | (leave1; walk_say "STEP leave1"; try dsimp only) | fail "no step")
        · exfalso
          have hF := ((hR.2 (by omega) (by omega)).2 (by omega)).1
          omega
        · obtain ⟨hc1, D, hD, hDr⟩ := (hR.2 (by omega) (by omega)).2 (by omega)
          dsimp only
          refine wpAny_noRaise ?_
          refine lev_tail (dp := dp + 1) (un := un + 3) (gd := gd) (outer := envX cn cs L a ccd cl :: outer) y2 x2 c D rfl rfl (by assumption) (by assumption) (by assumption) (by assumption) (by assumption) (by rfl) (by rfl) (by rfl) (by omega) (by omega) hD ?_
          intro t9 h9 tk9 m9 F9 N9
          clear S2
          repeat' ((fail_if_success (with_reducible show wpAny _ _ (exec (Stmt.While _ _ _ _) _) _ _ _)); (fail_if_success (with_reducible show wpAny _ _ (exec (Stmt.For _ _ _ _ _) _) _ _ _)); first | (k_unfold; (try dsimp only)) | (k_end; wrow_close) | walk1 | (dsimp only; walk1) | (leave1; walk_say "STEP leave1"; try dsimp only) | fail "no step")
          rename News _ _ _ _ => kN9
          exact hret _ [] _ _ ⟨rfl, ktn_int hDr⟩ (by assumption) (fun p hp => kN9 p (.tail _ hp))
        · exfalso
          have hF := ((hR.2 (by omega) (by omega)).1 (by omega)).1
          omega
        · obtain ⟨hc1, D, hD, hDr⟩ := (hR.2 (by omega) (by omega)).1 (by omega)
          dsimp only
          refine wpAny_noRaise ?_
          refine lev_tail (dp := dp + 1) (un := un + 3) (gd := gd) (outer := envX cn cs L a ccd cl :: outer) x2 y2 c D rfl rfl (by assumption) (by assumption) (by assumption) (by assumption) (by assumption) (by rfl) (by rfl) (by rfl) (by omega) (by omega) hD ?_
          intro t9 h9 tk9 m9 F9 N9
          clear S2
          repeat' ((fail_if_success (with_reducible show wpAny _ _ (exec (Stmt.While _ _ _ _) _) _ _ _)); (fail_if_success (with_reducible show wpAny _ _ (exec (Stmt.For _ _ _ _ _) _) _ _ _)); first | (k_unfold; (try dsimp only)) | (k_end; wrow_close) | walk1 | (dsimp only; walk1) | (leave1; walk_say "STEP leave1"; try dsimp only) | fail "no step")
          exact hret _ [] _ _ ⟨rfl, ktn_int hDr⟩ (by assumption) (by assumption)
        · exact hret _ [] _ _ ⟨rfl, ktn_int (hR.1 (.inr (by omega))).symm⟩ (by assumption) (by assumption)
        · exact hret _ [] _ _ ⟨rfl, ktn_int (hR.1 (.inl (by omega))).symm⟩ (by assumption) (by assumption)
      case turn2 =>
        intro k2 t2 h2 tk2 S2 F2 N2
        have hhi := S2.hi
        have hxk2 := S2.hx
        have hyk2 := S2.hy
        have e1 := upto_len hhi hxk2
        have e2 := upto_len hhi hyk2
        clear S lF' lN'
        k_unmd
        k_fold
        repeat' ((fail_if_success (with_reducible show wpAny _ _ (exec (Stmt.While _ _ _ _) _) _ _ _)); (fail_if_success (with_reducible show wpAny _ _ (exec (Stmt.For _ _ _ _ _) _) _ _ _)); first | (k_unfold; (try dsimp only)) | (k_end; wrow_close) | walk1 | (dsimp only; walk1) | (leave1; walk_say "STEP leave1"; try dsimp only) | fail "no step")
        · exact ⟨rfl, _, _, _, _, rfl, fr_idem (by assumption), by assumption, S2.next (by omega) (by omega) (by assumption), by dsimp only; omega⟩
        · exact ⟨_, _, _, rfl, by assumption, by assumption⟩
        · exact ⟨_, _, _, rfl, by assumption, by assumption⟩
        · exact ⟨_, _, _, rfl, by assumption, by assumption⟩
  case turn =>
      intro k t h tk S F' N'
      have hlo := S.lo
      have hxk := S.hx
      have hyk := S.hy
      k_unmd
      k_fold
      repeat' ((fail_if_success (with_reducible show wpAny _ _ (exec (Stmt.While _ _ _ _) _) _ _ _)); (fail_if_success (with_reducible show wpAny _ _ (exec (Stmt.For _ _ _ _ _) _) _ _ _)); first | (k_unfold; (try dsimp only)) | (k_end; wrow_close) | walk1 | (dsimp only; walk1) | (leave1; walk_say "STEP leave1"; try dsimp only) | fail "no step")
      · exact ⟨rfl, _, _, _, _, rfl, fr_idem (by assumption), by assumption, S.succ (by assumption) (by assumption) (by assumption), strip1_less (by assumption) (by assumption)⟩
      · exact ⟨_, _, _, rfl, by assumption, by assumption⟩
      · exact ⟨_, _, _, rfl, by assumption, by assumption⟩
      · exact ⟨_, _, _, rfl, by assumption, by assumption⟩
end Mine
end
section
namespace Mine
theorem sec_Sld : True := by
  w_top off
  trivial
end Mine
open PySem PySem.W PyProof.Rows
namespace Mine
structure Sld (xs ys : List Int) (i j : Nat) (ms us : List Int) : Prop where
  hi : i ≤ xs.length
  hj : j ≤ ys.length
  em : ms = (xs.take i).filter fun x => !ys.contains x
  eu : us = (ys.take j).filter fun y => !xs.contains y
  h1 : ∀ x ∈ xs.take i, ∀ y ∈ ys.drop j, x < y
  h2 : ∀ y ∈ ys.take j, ∀ x ∈ xs.drop i, y < x
theorem Sld.zero (xs ys : List Int) : Sld xs ys 0 0 [] [] := ⟨Nat.zero_le _, Nat.zero_le _, by simp, by simp, by simp, by simp⟩

section
variable {xs ys : List Int} {i j : Nat} {ms us : List Int}
theorem drop_cons {xs : List Int} {i : Nat} (h : i < xs.length) : xs.drop i = xs.getD i 0 :: xs.drop (i + 1) := by
  rw [List.drop_eq_getElem_cons h, List.getD_eq_getElem?_getD, List.getElem?_eq_getElem h]
  rfl
theorem take_snoc {xs : List Int} {i : Nat} (h : i < xs.length) : xs.take (i + 1) = xs.take i ++ [xs.getD i 0] := by
  rw [List.take_add_one, List.getElem?_eq_getElem h, List.getD_eq_getElem?_getD, List.getElem?_eq_getElem h]
  rfl
theorem ge_of_drop {xs : List Int} (sx : xs.Pairwise (· < ·)) {i : Nat} (h : i < xs.length) {x : Int} (hx : x ∈ xs.drop i) : xs.getD i 0 ≤ x := by
  have hs : (xs.drop i).Pairwise (· < ·) := sx.sublist (List.drop_sublist i xs)
  rw [drop_cons h] at hs hx
  rcases List.mem_cons.mp hx with e | hx
  · rw [e]; exact Int.le_refl _
  · exact Int.le_of_lt (List.rel_of_pairwise_cons hs hx)
theorem gt_of_drop {xs : List Int} (sx : xs.Pairwise (· < ·)) {i : Nat} (h : i < xs.length) {x : Int} (hx : x ∈ xs.drop (i + 1)) : xs.getD i 0 < x := by
  have hs : (xs.drop i).Pairwise (· < ·) := sx.sublist (List.drop_sublist i xs)
  rw [drop_cons h] at hs
  exact List.rel_of_pairwise_cons hs hx
theorem mem_split {xs : List Int} {x : Int} (i : Nat) (h : x ∈ xs) : x ∈ xs.take i ∨ x ∈ xs.drop i := by
  rw [← List.take_append_drop i xs] at h
  exact List.mem_append.mp h
theorem next_ne {xs : List Int} (sx : xs.Pairwise (· < ·)) {i : Nat} (h : i + 1 < xs.length) : xs.getD (i + 1) 0 ≠ xs.getD i 0 := by
  have : xs.getD i 0 < xs.getD (i + 1) 0 := gt_of_drop sx (by omega) (by rw [drop_cons h]; exact .head _)
  omega
theorem Sld.lt (S : Sld xs ys i j ms us) (sx : xs.Pairwise (· < ·)) (sy : ys.Pairwise (· < ·)) (hi : i < xs.length) (hj : j < ys.length) (hl : xs.getD i 0 < ys.getD j 0) :
    Sld xs ys (i + 1) j (ms ++ [xs.getD i 0]) us := by
  have hmem : xs.getD i 0 ∈ xs.drop i := by rw [drop_cons hi]; exact .head _
  have hnot : ys.contains (xs.getD i 0) = false := by
    rw [Bool.eq_false_iff]
    intro hc
    rcases mem_split j (List.contains_iff_mem.mp hc) with h | h
    · exact absurd (S.h2 _ h _ hmem) (Int.lt_irrefl _)
    · have := ge_of_drop sy hj h; omega
  refine ⟨hi, S.hj, ?_, S.eu, ?_, ?_⟩
  · rw [take_snoc hi, List.filter_append, ← S.em]
    have : [xs.getD i 0].filter (fun x => !ys.contains x) = [xs.getD i 0] := by rw [List.filter_cons, hnot]; rfl
    rw [this]
  · intro x hx y hy
    rw [take_snoc hi] at hx
    rcases List.mem_append.mp hx with hx | hx
    · exact S.h1 x hx y hy
    · rw [List.mem_singleton.mp hx]
      have := ge_of_drop sy hj hy
      omega
  · intro y hy x hx
    exact S.h2 y hy x (by rw [drop_cons hi]; exact .tail _ hx)
theorem Sld.swap (S : Sld xs ys i j ms us) : Sld ys xs j i us ms := ⟨S.hj, S.hi, S.eu, S.em, S.h2, S.h1⟩
theorem Sld.gt (S : Sld xs ys i j ms us) (sx : xs.Pairwise (· < ·)) (sy : ys.Pairwise (· < ·)) (hi : i < xs.length) (hj : j < ys.length) (hl : ys.getD j 0 < xs.getD i 0) :
    Sld xs ys i (j + 1) ms (us ++ [ys.getD j 0]) := (S.swap.lt sy sx hj hi hl).swap
theorem Sld.same (S : Sld xs ys i j ms us) (sx : xs.Pairwise (· < ·)) (sy : ys.Pairwise (· < ·)) (hi : i < xs.length) (hj : j < ys.length) (hl : xs.getD i 0 = ys.getD j 0) :
    Sld xs ys (i + 1) (j + 1) ms us := by
  have hx1 : xs.getD i 0 ∈ xs := List.mem_of_mem_drop (i := i) (by rw [drop_cons hi]; exact .head _)
  have hy1 : ys.getD j 0 ∈ ys := List.mem_of_mem_drop (i := j) (by rw [drop_cons hj]; exact .head _)
  have c1 : ys.contains (xs.getD i 0) = true := by rw [hl]; exact List.contains_iff_mem.mpr hy1
  have c2 : xs.contains (ys.getD j 0) = true := by rw [← hl]; exact List.contains_iff_mem.mpr hx1
  refine ⟨hi, hj, ?_, ?_, ?_, ?_⟩
  · rw [take_snoc hi, List.filter_append, ← S.em]
    have : [xs.getD i 0].filter (fun x => !ys.contains x) = [] := by rw [List.filter_cons, c1]; rfl
    rw [this, List.append_nil]
  · rw [take_snoc hj, List.filter_append, ← S.eu]
    have : [ys.getD j 0].filter (fun x => !xs.contains x) = [] := by rw [List.filter_cons, c2]; rfl
    rw [this, List.append_nil]
  · intro x hx y hy
    rw [take_snoc hi] at hx
    rcases List.mem_append.mp hx with hx | hx
    · exact S.h1 x hx y (by rw [drop_cons hj]; exact .tail _ hy)
    · rw [List.mem_singleton.mp hx, hl]
      exact gt_of_drop sy hj hy
  · intro y hy x hx
    rw [take_snoc hj] at hy
    rcases List.mem_append.mp hy with hy | hy
    · exact S.h2 y hy x (by rw [drop_cons hi]; exact .tail _ hx)
    · rw [List.mem_singleton.mp hy, ← hl]
      exact gt_of_drop sx hi hx
theorem Sld.finX (S : Sld xs ys i j ms us) (he : i = xs.length ∨ j = ys.length) : ms ++ xs.drop i = xs.filter fun x => !ys.contains x := by
  rw [S.em]
  have e : (xs.drop i) = (xs.drop i).filter fun x => !ys.contains x := by
    rcases he with e | e
    · rw [e]; simp
    · refine (List.filter_eq_self.mpr fun x hx => ?_).symm
      rw [Bool.not_eq_true', Bool.eq_false_iff]
      intro hc
      have := S.h2 x (by rw [e, List.take_length]; exact List.contains_iff_mem.mp hc) x hx
      omega
  rw [e, ← List.filter_append, List.take_append_drop]
theorem Sld.finY (S : Sld xs ys i j ms us) (he : i = xs.length ∨ j = ys.length) : us ++ ys.drop j = ys.filter fun y => !xs.contains y := S.swap.finX he.symm
end
end Mine
end
section
namespace Mine
theorem sec_Exc : True := by
  w_top off
  trivial
end Mine
open PySem PySem.W PySem.Calls PyProof.Rows PySem.Spec
namespace Mine

/-- One call from the frame that stands alone on the stack, of a def that may catch what it raises. -/
def CallTop (prog : Program) (w : World) (K : Frag) (p : Program) (loose : List Str) (mean : ExcName → Option Value)
    (mg mb : Str → Option Value) (f : Addr) (dd uu : Nat) (news : List (Addr × Obj)) (vs : List Value)
    (post : Value → List (Addr × Obj) → Prop) : Prop :=
  ∀ (dp un : Nat) (gd : Option (List Code)) (cn : Str) (cs : Scope) (a : Addr) (ccd : Value) (cl : List (Str × Addr))
    (h₀ : Heap) (L : Addr) (m : Str → Option Value) (s : Shared) (Q E : Value → Shared → Prop),
    Fr h₀ L s.heap m → K.In h₀ → News h₀ L s.heap news → Top p loose mean mg mb h₀ →
    cs.kind = .function → dp + dd < recursionLimit → un + uu < cLine →
    (∀ r tl h' tk', post r tl → Fr h₀ L h' m → News h₀ L h' (tl ++ news) → Q r { s with heap := h', toks := tk' }) →
    wpAny (model prog w) (ktrTop dp un gd cn cs L a ccd cl []) (call (.ref f) vs) Q E s
theorem CallTop.use {prog : Program} {w : World} {K : Frag} {p : Program} {loose : List Str} {mean : ExcName → Option Value} {mg mb : Str → Option Value} {f : Addr} {dd uu : Nat} {news : List (Addr × Obj)} {vs : List Value} {post : Value → List (Addr × Obj) → Prop}
    {dp un : Nat} {gd : Option (List Code)} {cn : Str} {cs : Scope} {a : Addr} {ccd : Value} {cl : List (Str × Addr)} {h₀ : Heap} {L : Addr} {m : Str → Option Value} {s : Shared} {Q E : Value → Shared → Prop}
    (C : CallTop prog w K p loose mean mg mb f dd uu news vs post) (F : Fr h₀ L s.heap m) (X : K.In h₀) (N : News h₀ L s.heap news) (T : Top p loose mean mg mb h₀) (hk : cs.kind = .function)
    (hd : dp + dd < recursionLimit) (hu : un + uu < cLine)
    (ret : ∀ r tl h' tk', post r tl → Fr h₀ L h' m → News h₀ L h' (tl ++ news) → Q r { s with heap := h', toks := tk' }) :
    wpAny (model prog w) (ktrTop dp un gd cn cs L a ccd cl []) (call (.ref f) vs) Q E s := C _ _ _ _ _ _ _ _ _ _ _ _ _ _ F X N T hk hd hu ret

/-- Entering such a def: the caller's frame goes onto the ledger. -/
theorem enterTop {prog : Program} {w : World} {A : Around} {s : Shared} {h₀ : Heap} {L : Addr} {m : Str → Option Value} {env : Env} {news : List (Addr × Obj)} {K : Frag} {p : Program} {loose : List Str} {mean : ExcName → Option Value} {mg mb : Str → Option Value}
    {R : Result → Shared → Prop} {name qual : Str} {params : Arguments} {body : List Stmt} {scope : Scope} {dV kV doc pm cdv ct oc : Value} {an od : Option Addr} {osl : Array (Option Value)} {f : Addr} {args : Args} {binds : List (Str × Value)}
    (F : Fr h₀ L s.heap m) (X₀ : K.In h₀) (N : News h₀ L s.heap news) (T : Top p loose mean mg mb h₀) (hf : env.frame = some L) (hke : env.scope.kind = .function)
    (ho : K.lookup f = some ⟨oc, od, .func (fnOf name qual params body scope dV kV doc pm an cdv ct), osl⟩) (hcd : codeIn K cdv qual = true) (hroom : A.depth < recursionLimit)
    (hbind : BindsTo s (fnOf name qual params body scope dV kV doc pm an cdv ct) args binds) (hloc : ∀ y ∈ binds, scope.names.lookup y.1 = some .local)
    (h : ∀ oL h₁, TI.Caller h₀ L m oL → TI.Frs [env] [(L, oL)] → (∀ p ∈ news, p.1 ≠ L) → L < s.heap.objs.size → (∀ p ∈ news, p.1 < s.heap.objs.size) → Fr h₀ s.heap.objs.size h₁ (fun y => binds.reverse.lookup y) → News h₀ s.heap.objs.size h₁ (news ++ [(L, oL)]) →
      wpAny (model prog w) (A.deeper (envOf qual scope s.heap.objs.size f cdv)) (execs body (envOf qual scope s.heap.objs.size f cdv))
        (fun fl s' => TI.LeaveI s' (R (.ok (.ret (match fl with | .ret v => v | _ => .none))) s'))
        (fun e s' => wpAny (model prog w) (A.deeper (envOf qual scope s.heap.objs.size f cdv)) (leaving (envOf qual scope s.heap.objs.size f cdv) e) (fun _ s'' => TI.LeaveX (R (.error e) s'')) (fun e' s'' => TI.LeaveX (R (.error e') s'')) s')
        { s with heap := h₁, toks := s.toks + binds.length })
    (hco : scope.isCoroutine = false) (hgen : scope.isGenerator = false) (hk : scope.kind = .function)
    (hcell : ∀ x ∈ scope.names, x.2 ≠ .cell) : codeAny (model prog w) A (.call (.ref f) args) R s := by
  have X := X₀.keeps F.keep
  obtain ⟨oL, es, ep, hL, hLd, hLk, hLf⟩ := F.ns
  have hLt := Heap.lt_size hL
  refine codeAny_call_def (fd := fnOf name qual params body scope dV kV doc pm an cdv ct) (body := body) (binds := binds) hroom (X _ _ ho) rfl (T.nolimit.keeps F.keep) (codeRec_of X hcd) rfl hbind hcell hloc (fun h₁ hns up => ?_) hco hgen hk
  have C : TI.Caller h₀ L m oL := ⟨fun h' sl e => ⟨_, es, ep, e, hLd, hLk, hLf⟩, ⟨es, ep, hLd⟩, F.above⟩
  have D : TI.Frs [env] [(L, oL)] := ⟨by rw [hke]; decide, hf, ⟨es, ep, hLd⟩, trivial⟩
  refine wpAny_mono (h oL h₁ C D (fun p hp => (N p hp).2.1) hLt (fun p hp => Heap.lt_size (N p hp).1) ⟨hns, fun b o e => up b o (F.keep b o e), Nat.le_trans F.above (Nat.le_of_lt hLt)⟩ (fun p hp => ?_)) (fun _ _ x => x) fun _ _ x => x
  rcases List.mem_append.mp hp with hp | hp
  · exact ⟨up _ _ (N p hp).1, Nat.ne_of_lt (Heap.lt_size (N p hp).1), (N p hp).2.2⟩
  · rw [List.mem_singleton.mp hp]
    exact ⟨up _ _ hL, Nat.ne_of_lt hLt, Heap.get?_none_of_le F.above⟩
end Mine
namespace Mine
section
variable {prog : Program} {w : World} {A A₀ : Around} {E : Value → Shared → Prop} {s : Shared}
theorem item_out {value slice : Expr} {l : Addr} {vs : List Value} {ns : List Int} {k : Int} {u : Tok} {Q : Value → Shared → Prop} (hA : A.handled = none) (hl : s.heap.IsList l vs.toArray) (hi : IntsAre vs ns)
    (hk : (ns.length : Int) ≤ k) (hb : k < 1000)
    (h0 : ∀ h' tk e, Heap.NewExc s.heap h' e "IndexError" → E (.ref e) { s with heap := h', toks := tk })
    (hs : subscripted slice false (.ref l) (.int k u) = operate [.ref l, .int k u] (getItem (.ref l) (.int k u)) := by with_unfolding_all rfl) (hg : ∀ r, letTemporaryGo value (.ref l) r = pure () := by intro _; with_unfolding_all rfl) :
    wpAny (model prog w) A (subscriptTail value slice (.ref l) (.int k u)) Q E s := by
  have hsz : vs.toArray.size = ns.length := by simp [hi.length]
  exact subscriptTail_builtin hl.typeIs slot_list_getitem.lookup (wpAny_getItem_list_out hA hl (by rw [hsz]; exact .inr hk) (by omega) (by omega) h0) hs hg

theorem allNe {L : Addr} {a b : Addr × Obj} {news : List (Addr × Obj)} (ha : a.1 ≠ L) (hb : b.1 ≠ L) (h : ∀ p ∈ news, p.1 ≠ L) : TLg.AllNe L (a :: b :: news) :=
  ⟨ha, hb, TLgL.allNe_of h⟩
/-- the first look at a new exception, two lists and the caller's frame upon the ledger -/
theorem note_new {ce : Env} {L L' a e : Addr} {oL : Obj} {h₀ h : Heap} {m : Str → Option Value} {name : Str} {scope : Scope} {cd : Value} {Q : Unit → Shared → Prop} {X : String} {u v : Addr × Obj} {news : List (Addr × Obj)}
    (hfr : A₀.frames = some [ce]) (Fs : TI.Frs [ce] [(L, oL)]) (hx : Heap.NewExc h s.heap e X) (F : Fr h₀ L' h m) (N : News h₀ L' h (u :: v :: (news ++ [(L, oL)]))) (hu : u.1 ≠ L) (hv : v.1 ≠ L) (hne : ∀ p ∈ news, p.1 ≠ L)
    (k : ∀ h' sl, TI.Frs [ce] [(L, { oL with slots := sl })] → TT.HeldN h₀ L' h' m e X (u :: v :: (news ++ [(L, { oL with slots := sl })])) → Q () { s with heap := h' }) (hk : scope.kind = .function := by rfl) :
    wpAny (model prog w) (A₀.deeper (envOf name scope L' a cd)) (noteFrame (.ref e) (envOf name scope L' a cd)) Q E s :=
  TLg.noted_new1 (new := u :: v :: news) hfr Fs hx F N (allNe hu hv hne) k hk
end
end Mine
namespace Mine
section
variable {prog : Program} {w : World} {A A₀ : Around} {E : Value → Shared → Prop} {s : Shared}
theorem slice_rest {value slice : Expr} {h₀ : Heap} {L l : Addr} {m : Str → Option Value} {news : List (Addr × Obj)} {vs : List Value} {ns : List Int} {c i : Nat} {u : Tok} {Q : Value → Shared → Prop} (F : Fr h₀ L s.heap m) (N : News h₀ L s.heap news)
    (hl : (l, listOf (List.toArray vs) c) ∈ news) (hi : IntsAre vs ns) (hn : ns.length ≤ 100)
    (h : ∀ D ws h', Fr h₀ L h' m → News h₀ L h' ((D, listOf (List.toArray ws) 0) :: news) → (∀ p ∈ news, p.1 < D) → IntsAre ws (ns.drop i) → Q (.ref D) { s with heap := h' })
    (hs : subscripted slice false (.ref l) (.ref s.heap.objs.size) = operate [.ref s.heap.objs.size, .ref l] (getItem (.ref l) (.ref s.heap.objs.size)) := by with_unfolding_all rfl) (ht : ∀ r, letTemporaryGo value (.ref l) r = pure () := by intro _; with_unfolding_all rfl) :
    wpAny (model prog w) A (subscriptTail value slice (.ref l) (.ref s.heap.objs.size)) Q E { s with heap := s.heap.push { cls := .type "slice", data := .fields #[.int (i : Int) u, .none, .none] } } := by
  have hz : vs.toArray.size ≤ sizeLine := by
    rw [List.size_toArray, hi.length, sizeLine_eq]
    omega
  have hm := kmk_from (x := (i : Int)) hi (by omega)
  rw [Int.toNat_natCast] at hm
  exact kmk_slice_ints F N (News.isList N hl) (.int _ _) .none hi hm rfl (fun D ws h' F' N' l1 hI _ _ => h D ws h' F' N' l1 hI) hs ht hz
theorem ints_append : ∀ {vs ws : List Value} {ns ms : List Int}, IntsAre vs ns → IntsAre ws ms → IntsAre (vs ++ ws) (ns ++ ms)
  | _, _, _, _, .nil, h => h
  | _, _, _, _, .cons i t h, h' => .cons i t (ints_append h h')
theorem extend_ints {h₀ : Heap} {L D b : Addr} {m : Str → Option Value} {news : List (Addr × Obj)} {news' : Nat → List (Addr × Obj)} {vs ws : List Value} {ns ms : List Int} {n n2 : Nat} {Q : Value → Shared → Prop} (F : Fr h₀ L s.heap m) (N : News h₀ L s.heap news) (hb : (b, listOf (List.toArray ws) n2) ∈ news)
    (hi : IntsAre vs ns) (hj : IntsAre ws ms) (hn : ns.length ≤ 200) (hm : ms.length ≤ 200)
    (U : ∀ k, Upd D (listOf (List.toArray vs) n) (listOf (List.toArray (vs ++ ws)) k) news (news' k))
    (h : ∀ h' k, Fr h₀ L h' m → News h₀ L h' (news' k) → Q .none { s with heap := h' }) : wpAny (model prog w) A (call (.builtin "list.extend") [.ref D, .ref b]) Q E s := by
  have hsl : sizeLine = 16777216 := sizeLine_eq
  have l1 : vs.length = ns.length := hi.length
  have l2 : ws.length = ms.length := hj.length
  have hd : ¬(!(List.toArray vs).isEmpty && Builtin.List.listTooLong ((List.toArray vs).size + (List.toArray ws).size)) = true := by
    rw [Bool.and_eq_true]
    rintro ⟨_, hh⟩
    rw [List.size_toArray, List.size_toArray] at hh
    unfold Builtin.List.listTooLong at hh
    have := of_decide_eq_true hh
    omega
  have hz : (List.toArray vs).toList.length ≤ sizeLine := by
    show vs.length ≤ sizeLine
    omega
  have hz2 : (List.toArray vs).size + (List.toArray ws).size ≤ sizeLine + 1 := by
    rw [List.size_toArray, List.size_toArray]
    omega
  cases ws with
  | nil =>
    refine kxn_extend F N hb rfl (by have := U n; rw [List.append_nil] at this; exact this) hd hz hz2 fun h' F' N' => h h' n F' N'
  | cons w0 ws =>
    exact kl_extend F N hb rfl (by simp) (by simpa using U (n + 1)) hd hz hz2 fun h' F' N' => h h' (n + 1) F' N'
end
end Mine
namespace Mine
section
variable {prog : Program} {w : World} {A A₀ : Around} {E : Value → Shared → Prop} {s : Shared}
theorem extend_third {h₀ : Heap} {L D b : Addr} {m : Str → Option Value} {p q : Addr × Obj} {rest : List (Addr × Obj)} {vs ws : List Value} {ns ms : List Int} {n n2 : Nat} {Q : Value → Shared → Prop} (F : Fr h₀ L s.heap m) (N : News h₀ L s.heap (p :: q :: (D, listOf (List.toArray vs) n) :: rest))
    (hb : (b, listOf (List.toArray ws) n2) ∈ p :: q :: (D, listOf (List.toArray vs) n) :: rest)
    (hi : IntsAre vs ns) (hj : IntsAre ws ms) (hn : ns.length ≤ 200) (hm : ms.length ≤ 200) (hp : p.1 ≠ D) (hq : q.1 ≠ D) (hr : ∀ x ∈ rest, x.1 ≠ D)
    (h : ∀ h' k, Fr h₀ L h' m → News h₀ L h' (p :: q :: (D, listOf (List.toArray (vs ++ ws)) k) :: rest) → IntsAre (vs ++ ws) (ns ++ ms) → Q .none { s with heap := h' }) : wpAny (model prog w) A (call (.builtin "list.extend") [.ref D, .ref b]) Q E s :=
  extend_ints F N hb hi hj hn hm (fun _ => Upd.tail hp (Upd.tail hq (Upd.head hr))) fun h' k F' N' => h h' k F' N' (ints_append hi hj)
end
end Mine
namespace Mine
section
variable {prog : Program} {w : World} {A : Around} {E : Value → Shared → Prop} {Q : Flow → Shared → Prop} {s : Shared} {env : Env}
/-- a while whose test is looked at once: it is false, or the look raises -/
theorem while_once {test : Expr} {body : List Stmt} {pos : Pos}
    (h : wpAny (model prog w) A (isTrue test env (eval test env)) (fun b s₂ => b = false ∧ Q .next s₂) E s)
    (hE : PassesOwn (model prog w) A env E := by passes_own) :
    wpAny (model prog w) A (exec (.While test body [] pos) env) Q E s := by
  refine wpAny_While (codeAny_whileLoop (fun n s' => n = 0 ∧ s' = s) ?_ 0 ⟨rfl, rfl⟩)
  rintro n s' ⟨rfl, rfl⟩
  refine wpAny_mono h (fun b s₂ hb => ?_) hE
  obtain ⟨rfl, hq⟩ := hb
  simp only [Bool.false_eq_true, if_false]
  exact wpAny_execs_nil hq
end
end Mine
namespace Mine
section
variable {prog : Program} {w : World} {A A₀ : Around} {E : Value → Shared → Prop} {s : Shared} {h₀ : Heap} {L D : Addr} {m : Str → Option Value} {p : Addr × Obj} {news news' rest : List (Addr × Obj)} {vs : List Value} {ns : List Int} {n : Nat} {x : Int} {t : Tok} {Q : Value → Shared → Prop}
theorem append_ints (F : Fr h₀ L s.heap m) (N : News h₀ L s.heap news) (hi : IntsAre vs ns) (hn : ns.length ≤ 200)
    (U : Upd D (listOf (List.toArray vs) n) (listOf (List.toArray (vs ++ [.int x t])) (n + 1)) news news')
    (h : ∀ h', Fr h₀ L h' m → News h₀ L h' news' → IntsAre (vs ++ [.int x t]) (ns ++ [x]) → Q .none { s with heap := h' }) :
    wpAny (model prog w) A (call (.builtin "list.append") [.ref D, .int x t]) Q E s := by
  have hsl : sizeLine = 16777216 := sizeLine_eq
  have l1 : vs.length = ns.length := hi.length
  have e : (List.toArray vs).push (.int x t) = List.toArray (vs ++ [.int x t]) := by simp
  refine append_K (its := List.toArray vs) F N (by rw [e]; exact U) (fun h' F' N' => h h' F' N' (ints_append hi (.cons _ _ .nil))) ?_
  rw [List.size_toArray]
  omega
theorem append_first (F : Fr h₀ L s.heap m) (N : News h₀ L s.heap ((D, listOf (List.toArray vs) n) :: rest)) (hi : IntsAre vs ns) (hn : ns.length ≤ 200) (hr : ∀ q ∈ rest, q.1 ≠ D)
    (h : ∀ h', Fr h₀ L h' m → News h₀ L h' ((D, listOf (List.toArray (vs ++ [.int x t])) (n + 1)) :: rest) → IntsAre (vs ++ [.int x t]) (ns ++ [x]) → Q .none { s with heap := h' }) :
    wpAny (model prog w) A (call (.builtin "list.append") [.ref D, .int x t]) Q E s := append_ints F N hi hn (Upd.head hr) h
theorem append_second (F : Fr h₀ L s.heap m) (N : News h₀ L s.heap (p :: (D, listOf (List.toArray vs) n) :: rest)) (hi : IntsAre vs ns) (hn : ns.length ≤ 200) (hp : p.1 ≠ D) (hr : ∀ q ∈ rest, q.1 ≠ D)
    (h : ∀ h', Fr h₀ L h' m → News h₀ L h' (p :: (D, listOf (List.toArray (vs ++ [.int x t])) (n + 1)) :: rest) → IntsAre (vs ++ [.int x t]) (ns ++ [x]) → Q .none { s with heap := h' }) :
    wpAny (model prog w) A (call (.builtin "list.append") [.ref D, .int x t]) Q E s := append_ints F N hi hn (Upd.tail hp (Upd.head hr)) h
end
end Mine
end
section
namespace Mine
theorem sec_Exc2 : True := by
  w_top off
  trivial
end Mine
open PySem PySem.W PySem.Calls PyProof.Rows PySem.Spec
namespace Mine
section
variable {M : Model} {A : Around} {E : Value → Shared → Prop} {s : Shared}
/-- The look at an exception that has none yet: what is known of the whole exception after it. -/
theorem entry_full {base : Heap} {env : Env} {outer : List Env} {L e : Addr} {oe : Obj} {vs : Array Value} {head a0 : Value} {hadNext : Bool} {Q : Unit → Shared → Prop}
    (hfr : A.frames = some (env :: outer)) (hl : s.heap.FunFrames base (env :: outer)) (hf : env.frame = some L)
    (he : s.heap.get? e = some oe) (hkb : base.StaysIn s.heap) (hen : base.get? e = none) (hd : oe.data = .fields vs) (hsz : 1 < vs.size) (h0 : vs[0]? = some a0)
    (h : ∀ h' T, Heap.NotedW base (env :: outer) e oe.cls a0 (rawInt L) s.heap h' → h'.get? e = some (Obj.mapFields (·.setIfInBounds 1 (Value.ref T)) oe) → Q () { s with heap := h' }) :
    wpAny M A (do let a ← frameOf env; let pl ← entryPlaceOf L hadNext; let b ← EntryCells.newEntry head a .none (rawInt L) .none pl; setField (.ref e) 1 b) Q E s := by
  have apart : ∀ b o, s.heap.get? b = some o → (∀ ws, o.data ≠ .fields ws) → b ≠ e := by
    rintro b o hb hn rfl
    rw [he] at hb
    cases hb
    exact hn vs hd
  have off : e ∉ (env :: outer).filterMap (·.frame) := by
    intro hm
    obtain ⟨_, o, ho, hn⟩ := hl.mem hm
    exact apart e o ho hn rfl
  refine wpAny_bind (wpAny_frameOf_fun hfr hl hf fun g hg => ?_)
  refine wpAny_bind (wpAny_entryPlaceOf fun pl hpl => ?_)
  unfold EntryCells.newEntry newFields
  refine wpAny_bind (wpAny_newObj_type ?_ (hpl.sizeOk5 _ _ _ _ _))
  have g1 : g.get? e = some oe := (hg.2.1 e off).trans he
  have g2 : base.StaysIn g := fun b o hb => (hg.2.1 b fun hm => by rw [(hl.mem hm).1] at hb; cases hb).trans (hkb b o hb)
  let tb : Obj := { cls := .type "traceback", dict := none, data := .fields ([head, .ref L, .none, rawInt L, .none] ++ (if pl.isEmpty then List.replicate 6 Value.none else pl)).toArray }
  have p1 : (g.push tb).get? e = some oe := Heap.get?_push_of_some tb g1
  refine wpAny_setField p1 hd hsz (h _ g.objs.size ?_ (Heap.get?_update_self _ p1 (Obj.isFreed_of_fields (Obj.data_mapFields hd _))))
  have ne : g.objs.size ≠ e := Nat.ne_of_gt (Heap.lt_size g1)
  have up : ∀ b o, b ≠ e → g.get? b = some o → ((g.push tb).update e (Obj.mapFields (·.setIfInBounds 1 (Value.ref g.objs.size)))).get? b = some o := fun b o hb ho =>
    (Heap.get?_update_other _ _ (Ne.symm hb)).trans (Heap.get?_push_of_some _ ho)
  refine ⟨fun b o hb => up b o (fun q => by rw [q, hen] at hb; cases hb) (g2 b o hb), hl.of_keeps fun b o hb hn => ?_, ?_, fun b o hb hn => ?_⟩
  · obtain ⟨sl, hs⟩ := hg.2.2 b o hb
    exact ⟨_, up b _ (apart b o hb hn) hs, rfl⟩
  · refine ⟨_, _, g.objs.size, tb, _, Heap.get?_update_self _ p1 (Obj.isFreed_of_fields (Obj.data_mapFields hd _)), ⟨Obj.cls_mapFields _ _, ?_⟩, Obj.data_mapFields hd _, by simp [hsz], g2.fresh, ne,
      (Heap.get?_update_other _ _ (Ne.symm ne)).trans (Heap.get?_push_size g rfl), rfl, by simp⟩
    rw [Array.getElem?_setIfInBounds_ne (by decide)]
    exact h0
  · obtain ⟨sl, hs⟩ := hg.2.2 b o hb
    exact ⟨sl, up b _ (apart b o hb hn) hs⟩
end
section
variable {prog : Program} {w : World} {A₀ : Around} {E : Value → Shared → Prop} {s : Shared}
/-- The first look at a new exception, all that is known of it put upon the ledger. -/
theorem note_full {ce : Env} {L L' a e : Addr} {oL oe : Obj} {h₀ h : Heap} {m : Str → Option Value} {name : Str} {scope : Scope} {cd : Value} {Q : Unit → Shared → Prop} {X : String} {new : List (Addr × Obj)} {vs : Array Value} {a0 : Value}
    (hfr : A₀.frames = some [ce]) (Fs : TI.Frs [ce] [(L, oL)]) (keeps : ∀ b o, h.get? b = some o → s.heap.get? b = some o) (hnew : h.get? e = none) (he : s.heap.get? e = some oe) (hc : oe.cls = .type X) (hd : oe.data = .fields vs)
    (h0 : vs[0]? = some a0) (h1 : vs[1]? = some .none)
    (F : Fr h₀ L' h m) (N : News h₀ L' h (new ++ [(L, oL)])) (hne : ∀ p ∈ new, p.1 ≠ L)
    (k : ∀ h' sl tb ob otb ts, TI.Frs [ce] [(L, { oL with slots := sl })] → Fr h₀ L' h' m → News h₀ L' h' ((e, ob) :: (tb, otb) :: (new ++ [(L, { oL with slots := sl })])) →
      ob.cls = .type X → ob.data = .fields (vs.setIfInBounds 1 (.ref tb)) → otb.data = .fields ts → ts[3]? = some (rawInt L') → (∀ p ∈ new ++ [(L, { oL with slots := sl })], p.1 ≠ e ∧ p.1 ≠ tb) → e ≠ tb → Q () { s with heap := h' })
    (hk : scope.kind = .function := by rfl) :
    wpAny (model prog w) (A₀.deeper (envOf name scope L' a cd)) (noteFrame (.ref e) (envOf name scope L' a cd)) Q E s := by
  have hap : ∀ p ∈ new, p.1 ∉ L' :: ([(L, oL)] : List (Addr × Obj)).map (·.1) := fun p hp hm => by
    rcases List.mem_cons.mp hm with q | hm
    · exact (N p (List.mem_append_left _ hp)).2.1 q
    · exact hne p hp (List.mem_singleton.mp hm)
  obtain ⟨hff, hNs, frs₁, SU, ht⟩ := TI.frames_at (name := name) (a := a) (cd := cd) (h' := s.heap) (base := TI.gone h (L' :: ([(L, oL)] : List (Addr × Obj)).map (·.1))) hk Fs F N TI.tail_sub (fun b o hb' => ⟨o.slots, keeps b o hb'⟩) fun b hm => TI.gone_none hm
  unfold noteFrame
  simp only [show (envOf name scope L' a cd).frame = some L' from rfl]
  refine wpAny_bind (wpAny_field he hd h1 ?_)
  rw [if_neg (by decide)]
  have hsz : 1 < vs.size := (Array.getElem?_eq_some_iff.mp h1).1
  have hen : (TI.gone h (L' :: ([(L, oL)] : List (Addr × Obj)).map (·.1))).get? e = none := by
    cases hq : (TI.gone h (L' :: ([(L, oL)] : List (Addr × Obj)).map (·.1))).get? e with
    | none => rfl
    | some o => rw [(TI.gone_some hq).2] at hnew; cases hnew
  refine entry_full (a0 := a0) (Around.frames_deeper hfr) hff rfl he (fun b o eb => keeps b o (TI.gone_some eb).2) hen hd hsz h0 fun h' T hN he' => ?_
  obtain ⟨frs₂, SU₂, Fs₂, H⟩ := TLg.held_of_notedA (X := X) Fs F N hap hNs SU ht hnew (by rw [← hc]; exact hN)
  obtain ⟨sl, rfl⟩ := TLg.one_up SU₂
  obtain ⟨⟨F', ⟨ob, ws, tb, otb, ts, b1, b2, b3, b4, b5, b6, b7, b8, b9, b10⟩, b11⟩, N', ap⟩ := H
  rw [he'] at b1
  obtain rfl := Option.some.inj b1
  have b3' := Obj.data_mapFields hd (·.setIfInBounds 1 (Value.ref T))
  have ews : ws = vs.setIfInBounds 1 (Value.ref T) := by
    rw [b3'] at b3
    injection b3 with b3
    exact b3.symm
  subst ews
  have eT : T = tb := by
    rw [Array.getElem?_setIfInBounds_self_of_lt hsz] at b4
    injection b4 with b4
    injection b4
  subst eT
  have heL : e ≠ L' := by
    rintro rfl
    obtain ⟨o, es, ep, ho, hdo, _⟩ := F'.ns
    rw [he'] at ho
    cases ho
    rw [b3'] at hdo
    cases hdo
  have hN'e : ∀ p ∈ new ++ [(L, { oL with slots := sl })], p.1 ≠ e := fun p hp q => by
    rcases List.mem_append.mp hp with hp' | hp'
    · have := (N p (List.mem_append_left _ hp')).1
      rw [q, hnew] at this
      cases this
    · have := (N (L, oL) (List.mem_append_right _ (.head _))).1
      rw [List.mem_singleton.mp hp'] at q
      rw [show (L : Addr) = e from q] at this
      rw [hnew] at this
      cases this
  refine k h' sl T _ otb ts Fs₂ F' ?_ (by rw [Obj.cls_mapFields]; exact hc) b3' b6 b7 (fun p hp => ⟨hN'e p hp, ap _ _ _ he' b3' b4 p hp⟩) (fun q => b9 q.symm)
  intro p hp
  rcases List.mem_cons.mp hp with rfl | hp
  · exact ⟨he', heL, b11⟩
  · rcases List.mem_cons.mp hp with rfl | hp
    · exact ⟨b5, b8, b10⟩
    · exact N' p hp
end
end Mine
namespace Mine
section
variable {h₀ h : Heap} {L e tb : Addr} {m : Str → Option Value} {news : List (Addr × Obj)} {ob otb : Obj} {vs ts : Array Value} {X : String} {fl : Value}
theorem news_two {a b : Addr × Obj} (N : News h₀ L h (a :: b :: news)) : News h₀ L h news := fun p hp => N p (.tail _ (.tail _ hp))
theorem held_of (F : Fr h₀ L h m) (N : News h₀ L h ((e, ob) :: (tb, otb) :: news)) (hc : ob.cls = .type X) (hd : ob.data = .fields vs) (h1 : vs[1]? = some (.ref tb)) (htd : otb.data = .fields ts) (h3 : ts[3]? = some fl)
    (hap : ∀ p ∈ news, p.1 ≠ tb) (hne : e ≠ tb) : TT.HeldNA h₀ L h m e X news fl := by
  have n1 := N (e, ob) (.head _)
  have n2 := N (tb, otb) (.tail _ (.head _))
  refine ⟨⟨F, ⟨ob, vs, tb, otb, ts, n1.1, hc, hd, h1, n2.1, htd, h3, n2.2.1, Ne.symm hne, n2.2.2⟩, n1.2.2⟩, news_two N, ?_⟩
  intro ob' vs' tb' q1 q2 q3 p hp
  rw [n1.1] at q1
  cases q1
  rw [hd] at q2
  injection q2 with q2
  subst q2
  rw [h1] at q3
  injection q3 with q3
  injection q3 with q3
  rw [← q3]
  exact hap p hp
variable {M : Model} {A : Around} {E : Value → Shared → Prop} {s : Shared} {env : Env}
theorem note_again (N : News h₀ L s.heap ((e, ob) :: (tb, otb) :: news)) (hd : ob.data = .fields vs) (h1 : vs[1]? = some (.ref tb)) (htd : otb.data = .fields ts) (h3 : ts[3]? = some (rawInt L)) (hf : env.frame = some L) {Q : Unit → Shared → Prop} (k : Q () s) :
    wpAny M A (noteFrame (.ref e) env) Q E s := by
  unfold noteFrame
  simp only [hf]
  refine wpAny_bind (wpAny_field (N (e, ob) (.head _)).1 hd h1 ?_)
  rw [if_pos (show (Value.ref tb != Value.none) = true from by simp)]
  refine wpAny_bind (wpAny_field (N (tb, otb) (.tail _ (.head _))).1 htd h3 ?_)
  rw [if_pos (show (rawInt L == rawInt L) = true from by simp)]
  exact wpAny_pure k
/-- the exception lands, or flies on: its record's fourth field -/
theorem set_flight {fo : Option Addr} (F : Fr h₀ L s.heap m) (N : News h₀ L s.heap ((e, ob) :: (tb, otb) :: news)) (hd : ob.data = .fields vs) (h1 : vs[1]? = some (.ref tb)) (htd : otb.data = .fields ts) (h3 : ts[3]? = some fl)
    (hap : ∀ p ∈ news, p.1 ≠ tb) (hne : e ≠ tb) {Q : Unit → Shared → Prop}
    (k : ∀ h' otb' ts', Fr h₀ L h' m → News h₀ L h' ((e, ob) :: (tb, otb') :: news) → otb'.data = .fields ts' → ts'[3]? = some (fo.elim .none fun f => rawInt f) → Q () { s with heap := h' }) :
    wpAny M A (setFlight (.ref e) fo) Q E s := by
  have n2 := N (tb, otb) (.tail _ (.head _))
  have hsz : 3 < ts.size := (Array.getElem?_eq_some_iff.mp h3).1
  unfold setFlight
  refine wpAny_bind (wpAny_field (N (e, ob) (.head _)).1 hd h1 ?_)
  rw [if_pos (show (Value.ref tb != Value.none) = true from by simp)]
  refine wpAny_setField n2.1 htd hsz ?_
  have hdd := Obj.data_mapFields htd (·.setIfInBounds 3 (fo.elim Value.none fun f => rawInt f))
  have P := news_upd (pre := [(e, ob)]) (post := news) (o' := Obj.mapFields (·.setIfInBounds 3 (fo.elim Value.none fun f => rawInt f)) otb) F N (fun p hp => by rw [List.mem_singleton.mp hp]; exact hne) hap rfl (Obj.isFreed_of_fields hdd)
  exact k _ _ _ P.1 P.2 hdd (by simp [hsz])
/-- after a finally: on it goes -/
theorem pass_on {what : String} (F : Fr h₀ L s.heap m) (N : News h₀ L s.heap ((e, ob) :: (tb, otb) :: news)) (hc : ob.cls = .type X) (hd : ob.data = .fields vs) (h1 : vs[1]? = some (.ref tb)) (htd : otb.data = .fields ts) (h3 : ts[3]? = some fl)
    (hap : ∀ p ∈ news, p.1 ≠ tb) (hne : e ≠ tb) (hf : env.frame = some L) {α : Type} {Q : α → Shared → Prop} (k : ∀ h', TT.HeldNA h₀ L h' m e X news (rawInt L) → E (.ref e) { s with heap := h' }) :
    wpAny M A (PySem.passOn what (.ref e) env) Q E s := by
  unfold PySem.passOn
  refine wpAny_bind (wpAny_field (N (e, ob) (.head _)).1 hd h1 ?_)
  rw [if_neg (show ¬ (Value.ref tb == Value.none) = true from by simp)]
  show wpAny M A (do setFlight (Value.ref e) env.frame; throw (Value.ref e)) Q E s
  rw [hf]
  refine wpAny_bind (set_flight F N hd h1 htd h3 hap hne fun h' otb' ts' F' N' d' t' => wpAny_throw (k h' (held_of F' N' hc hd h1 d' t' hap hne)))
end
section
variable {prog : Program} {w : World} {A : Around} {E : Value → Shared → Prop} {s : Shared}
theorem entry_unchain : entryFor table "proto.unchain" = some Builtin.«proto.unchain» := entryFor_of_fast (by kernel_rfl)
/-- a new IndexError while another is handled that has no context of its own -/
theorem raise_held {α : Type} {e1 : Addr} {ob1 : Obj} {vs1 : Array Value} {msg : String} {Q : α → Shared → Prop} (hh : A.handled = some (.ref e1)) (g1 : s.heap.get? e1 = some ob1) (hd1 : ob1.data = .fields vs1) (hc1 : vs1[2]? = some .none)
    (h : ∀ h' tk e ob t, (∀ b o, s.heap.get? b = some o → h'.get? b = some o) → s.heap.get? e = none → h'.get? e = some ob → ob.cls = .type "IndexError" → ob.data = .fields #[t, .none, .ref e1, .none, .bool false, .none] → E (.ref e) { s with heap := h', toks := tk }) :
    wpAny (model prog w) A (raiseErrorWords "IndexError" msg : Sem α) Q E s := by
  have hp := plainExc_IndexError
  unfold raiseErrorWords
  refine wpAny_bind (wpAny_mkText (wpAny_bind ?_))
  unfold newExc newTuple
  refine wpAny_bind (wpAny_newObj_type ?_)
  refine wpAny_bind (m := firstArgMember _ _) (wpAny_of_eq (a := Value.none) (by simp only [firstArgMember, hp.first]; rfl) ?_)
  rw [hp.own]
  refine wpAny_newObj_type ?_
  unfold raiseNew
  refine wpAny_bind (wpAny_handled ?_)
  rw [hh]
  have l1 : e1 < s.heap.objs.size := Heap.lt_size g1
  let h1 := s.heap.push { cls := Value.type "tuple", data := Data.seq #[Value.str (Str.ofString msg) s.toks] }
  have z1 : h1.objs.size = s.heap.objs.size + 1 := Array.size_push _
  have ne1 : e1 ≠ h1.objs.size := Nat.ne_of_lt (by rw [z1]; exact Nat.lt_succ_of_lt l1)
  have ne2 : (Value.ref e1 != Value.ref h1.objs.size) = true := by
    rw [bne_iff_ne]
    intro q
    exact ne1 (Value.ref.inj q)
  dsimp only
  rw [if_pos ne2]
  refine wpAny_bind (wpAny_holding (wpAny_runValue (codeAny_builtin entry_unchain ?_)))
  unfold Builtin.«proto.unchain»
  dsimp only
  refine wpAny_bind (wpAny_field (Heap.get?_push_of_some _ (Heap.get?_push_of_some _ g1)) hd1 hc1 ?_)
  rw [if_pos (show (Value.none == Value.none) = true from rfl)]
  unfold ret
  refine wpAny_pure ?_
  dsimp only
  let o2 : Obj := { cls := Value.type "IndexError", data := Data.fields #[Value.ref s.heap.objs.size, .none, .none, .none, .bool false, .none] }
  have p2 : (h1.push o2).get? h1.objs.size = some o2 := Heap.get?_push_size _ rfl
  have S := @wpAny_setField (model prog w) A E { s with heap := h1.push o2, toks := s.toks + 1 } h1.objs.size o2 _ 2 (.ref e1) (fun _ s' => wpAny (model prog w) A (throw (Value.ref h1.objs.size) : Sem α) Q E s') p2 rfl (by show 2 < 6; decide)
  refine wpAny_bind (S (wpAny_throw ?_))
  have keep : ∀ b o, s.heap.get? b = some o → ((h1.push o2).update h1.objs.size (Obj.mapFields (·.setIfInBounds 2 (Value.ref e1)))).get? b = some o := fun b o hb => by
    have lb := Heap.lt_size hb
    rw [Heap.get?_update_other _ _ (Nat.ne_of_gt (by rw [z1]; exact Nat.lt_succ_of_lt lb))]
    exact Heap.get?_push_of_some _ (Heap.get?_push_of_some _ hb)
  exact h _ _ _ (Obj.mapFields (·.setIfInBounds 2 (Value.ref e1)) o2) (.ref s.heap.objs.size) keep (Heap.get?_none_of_le (by rw [z1]; exact Nat.le_succ _)) (Heap.get?_update_self _ p2 rfl) rfl rfl
set_option maxRecDepth 100000 in
theorem item_out_held {value slice : Expr} {l e1 : Addr} {ob1 : Obj} {vs1 : Array Value} {vs : List Value} {ns : List Int} {i : Nat} {k : Int} {u : Tok} {Q : Value → Shared → Prop} (hh : A.handled = some (.ref e1)) (g1 : s.heap.get? e1 = some ob1) (hd1 : ob1.data = .fields vs1) (hc1 : vs1[2]? = some .none)
    (hl : s.heap.IsList l vs.toArray) (hi : IntsAre vs ns) (hk : k = (i : Int)) (hn : ns.length ≤ i) (hb : i < 1000)
    (h : ∀ h' tk e ob t, (∀ b o, s.heap.get? b = some o → h'.get? b = some o) → s.heap.get? e = none → h'.get? e = some ob → ob.cls = .type "IndexError" → ob.data = .fields #[t, .none, .ref e1, .none, .bool false, .none] → E (.ref e) { s with heap := h', toks := tk })
    (hs : subscripted slice false (.ref l) (.int k u) = operate [.ref l, .int k u] (getItem (.ref l) (.int k u)) := by with_unfolding_all rfl) (hg : ∀ r, letTemporaryGo value (.ref l) r = pure () := by intro _; with_unfolding_all rfl) :
    wpAny (model prog w) A (subscriptTail value slice (.ref l) (.int k u)) Q E s := by
  refine subscriptTail_builtin hl.typeIs slot_list_getitem.lookup ?_ hs hg
  obtain ⟨o, ho, hc, ne, hd⟩ := id hl
  have hx : (vs.toArray)[i]? = none := Array.getElem?_eq_none (by rw [List.size_toArray, hi.length]; exact hn)
  unfold getItem
  refine wpAny_holding ?_
  refine wpAny_bind (wpAny_sequenceKey hl.typeIs (by decide) ?_)
  refine wpAny_bind ?_
  refine wpAny_callSpecial?_slot (name := Str.ofString "__getitem__") hl.typeIs slot_list_getitem ?_
  refine wpAny_call_entry slot_list_getitem hl.typeIs entry_list_getitem ?_ (args_list_getitem _ _)
  show wpAny _ _ (Builtin.List.listSubscript? (.int k u) >>= _) _ _ s
  refine wpAny_bind (wpAny_listSubscript_int (fitsIndex_both (by omega) (by omega)) ?_)
  subst hk
  show wpAny _ _ ((seqItemAt l i >>= fun r => pure (r.map (i, ·))) >>= _) _ _ s
  refine wpAny_bind (wpAny_bind (wpAny_seqItemAt ho hd (wpAny_pure ?_)))
  rw [hx]
  refine wpAny_bind (wpAny_rule ?_)
  exact wpAny_bind (raise_held (A := A.in1) hh g1 hd1 hc1 h)
end
end Mine
namespace Mine
section
variable {M : Model} {A A' : Around} {E : Value → Shared → Prop} {s : Shared} {env : Env} {e : Value}
theorem passes_use (hp : PassesOwn M A env E) (h : E e s) : notedBy M A env (cameBackBy M A env E) e s := hp e s h
theorem passesAt_use (hp : PassesOwnAt M A' A env E) (h : E e s) : notedBy M A' env (cameBackBy M A env E) e s := hp e s h
end
end Mine
end
section
namespace Mine
theorem sec_S4a : True := by
  w_top off
  trivial
end Mine
open PySem PySem.W PySem.Calls PyProof.Rows PySem.Spec
namespace Mine

abbrev tup2 (a b : Value) : Obj := { cls := .type "tuple", data := .seq [a, b].toArray }
structure SldF (lx ly M U : Addr) (i j : Nat) (m : Str → Option Value) : Prop where
  e : m (Str.ofString "expected") = some (.ref lx)
  a : m (Str.ofString "actual") = some (.ref ly)
  mi : m (Str.ofString "missing") = some (.ref M)
  un : m (Str.ofString "unexpected") = some (.ref U)
  i : ∃ t, m (Str.ofString "i") = some (.int (i : Int) t)
  j : ∃ t, m (Str.ofString "j") = some (.int (j : Int) t)
theorem SldF.fr {lx ly M U : Addr} {i j : Nat} {m : Str → Option Value} {h₀ h : Heap} {L : Addr} (H : SldF lx ly M U i j m) (F : Fr h₀ L h m) : ∃ ti tj, Fr h₀ L h (fun y => if y = Str.ofString "j" then some (.int (j : Int) tj) else if y = Str.ofString "i" then some (.int (i : Int) ti) else if y = Str.ofString "unexpected" then some (.ref U) else if y = Str.ofString "missing" then some (.ref M) else if y = Str.ofString "actual" then some (.ref ly) else if y = Str.ofString "expected" then some (.ref lx) else m y) := by
  obtain ⟨fe, fa, fm, fu, ⟨ti, fi⟩, ⟨tj, fj⟩⟩ := H
  refine ⟨ti, tj, ?_⟩
  replace F := fr_back (x := Str.ofString "expected") F (by with_unfolding_all exact fe)
  replace F := fr_back (x := Str.ofString "actual") F (by with_unfolding_all exact fa)
  replace F := fr_back (x := Str.ofString "missing") F (by with_unfolding_all exact fm)
  replace F := fr_back (x := Str.ofString "unexpected") F (by with_unfolding_all exact fu)
  replace F := fr_back (x := Str.ofString "i") F (by with_unfolding_all exact fi)
  exact fr_back (x := Str.ofString "j") F (by with_unfolding_all exact fj)

set_option maxRecDepth 100000 in
set_option maxHeartbeats 8000000 in
theorem sld_handler {prog : Program} {w : World} {p : Program} {loose mean mg mb} {A : Around} {h₀ : Heap} {L : Addr} {m : Str → Option Value} {rest : List (Addr × Obj)} {s : Shared} {Q : Flow → Shared → Prop} {E : Value → Shared → Prop}
    {lx ly M U : Addr} {i j : Nat} {ms us xs ys : List Int} {vm vu vx vy : List Value} {cm cu cx cy : Nat}
    {t : Expr} {tb oe fb oe2 hb : List Stmt} {ty : Option Expr} {nm : Option Str} {hp tp wp : Pos} {r : Stmt} (hst : (bodyOf 1).drop 3 = [.While t [.Try tb [.ExceptHandler ty nm hb hp] oe fb tp] oe2 wp, r])
    {k : ScopeKind} {ns : List (Str × NameKind)} {ig ic : Bool} {mo : List (Str × Const)} (hsc : scopeOf 1 = ⟨k, ns, ig, ic, mo⟩)
    (F : Fr h₀ L s.heap m) (X : (Mine.hd.heap_39 w.params).In h₀) (N : News h₀ L s.heap ((U, listOf (List.toArray vu) cu) :: (M, listOf (List.toArray vm) cm) :: rest)) (T : Top p loose mean mg mb h₀)
    (H : SldF lx ly M U i j m) (hlx : (lx, listOf (List.toArray vx) cx) ∈ rest) (hly : (ly, listOf (List.toArray vy) cy) ∈ rest) (hix : IntsAre vx xs) (hiy : IntsAre vy ys) (nx : xs.length ≤ 100) (ny : ys.length ≤ 100)
    (him : IntsAre vm ms) (hiu : IntsAre vu us) (hlm : ms.length ≤ 200) (hlu : us.length ≤ 200) (hMU : M < U) (hr1 : ∀ x ∈ rest, x.1 ≠ M) (hr2 : ∀ x ∈ rest, x.1 ≠ U)
    (hQ : ∀ h' tk' m' vm' vu' cm' cu', Fr h₀ L h' m' → SldF lx ly M U i j m' → News h₀ L h' ((U, listOf (List.toArray vu') cu') :: (M, listOf (List.toArray vm') cm') :: rest) → IntsAre vm' (ms ++ xs.drop i) → IntsAre vu' (us ++ ys.drop j) → Q .brk { s with heap := h', toks := tk' }) :
    wpAny (model prog w) A (execs hb (envX (Str.ofString "sorted_list_difference") ⟨k, ns, ig, ic, mo⟩ L 21 (.ref 20) [])) Q E s := by
  have hfill : PySem.Challenge.rw_tx0016_01 = PySem.Challenge.rw_tx0016_01 ∧ Mine.hd.heap_39 = Mine.hd.heap_39 := by
    k_fill
    exact ⟨rfl, rfl⟩
  clear hfill
  cases hst
  cases hsc
  obtain ⟨ti, tj, F⟩ := H.fr F
  repeat' ((fail_if_success (with_reducible show wpAny _ _ (exec (Stmt.While _ _ _ _) _) _ _ _)); (fail_if_success (with_reducible show wpAny _ _ (exec (Stmt.For _ _ _ _ _) _) _ _ _)); (fail_if_success (with_reducible show wpAny _ _ (subscriptTail (Expr.Name _ _) (Expr.Slice _ _ _ _) _ _) _ _ _)); first | (k_unfold; (try dsimp only)) | (k_end; wrow_close) | walk1 | (dsimp only; walk1) | (leave1; walk_say "STEP leave1"; try dsimp only) | fail "no step")
  refine slice_rest (s := ⟨_, _, _, _, _⟩) (by assumption) (by assumption) (.tail _ (.tail _ hlx)) hix nx ?_
  intro D1 ws1 k1 F1 N1 l1 i1
  k_unmd
  repeat' ((fail_if_success (with_reducible show wpAny _ _ (exec (Stmt.While _ _ _ _) _) _ _ _)); (fail_if_success (with_reducible show wpAny _ _ (exec (Stmt.For _ _ _ _ _) _) _ _ _)); (fail_if_success (with_reducible show wpAny _ _ (call (Value.builtin "list.extend") _) _ _ _)); first | (k_unfold; (try dsimp only)) | (k_end; wrow_close) | walk1 | (dsimp only; walk1) | (leave1; walk_say "STEP leave1"; try dsimp only) | fail "no step")
  refine extend_third (by assumption) (by assumption) (.head _) him i1 (by omega) (by rw [List.length_drop]; omega) (Nat.ne_of_gt (l1 _ (.tail _ (.head _)))) (Nat.ne_of_gt hMU) hr1 ?_
  intro k2 n2 F2 N2 i2
  repeat' ((fail_if_success (with_reducible show wpAny _ _ (exec (Stmt.While _ _ _ _) _) _ _ _)); (fail_if_success (with_reducible show wpAny _ _ (exec (Stmt.For _ _ _ _ _) _) _ _ _)); (fail_if_success (with_reducible show wpAny _ _ (subscriptTail (Expr.Name _ _) (Expr.Slice _ _ _ _) _ _) _ _ _)); first | (k_unfold; (try dsimp only)) | (k_end; wrow_close) | walk1 | (dsimp only; walk1) | (leave1; walk_say "STEP leave1"; try dsimp only) | fail "no step")
  refine slice_rest (s := ⟨_, _, _, _, _⟩) (by assumption) (by assumption) (.tail _ (.tail _ (.tail _ hly))) hiy ny ?_
  intro D2 ws2 k3 F3 N3 l2 i3
  k_unmd
  repeat' ((fail_if_success (with_reducible show wpAny _ _ (exec (Stmt.While _ _ _ _) _) _ _ _)); (fail_if_success (with_reducible show wpAny _ _ (exec (Stmt.For _ _ _ _ _) _) _ _ _)); (fail_if_success (with_reducible show wpAny _ _ (call (Value.builtin "list.extend") _) _ _ _)); first | (k_unfold; (try dsimp only)) | (k_end; wrow_close) | walk1 | (dsimp only; walk1) | (leave1; walk_say "STEP leave1"; try dsimp only) | fail "no step")
  refine extend_third (by assumption) (by assumption) (.head _) hiu i3 (by omega) (by rw [List.length_drop]; omega) (Nat.ne_of_gt (l2 _ (.tail _ (.head _)))) (Nat.ne_of_gt (l1 _ (.head _))) (fun x hx => ?_) ?_
  · rcases List.mem_cons.mp hx with q | hx
    · rw [q]; exact Nat.ne_of_lt hMU
    · exact hr2 x hx
  intro k4 n4 F4 N4 i4
  repeat' ((fail_if_success (with_reducible show wpAny _ _ (exec (Stmt.While _ _ _ _) _) _ _ _)); (fail_if_success (with_reducible show wpAny _ _ (exec (Stmt.For _ _ _ _ _) _) _ _ _)); first | (k_unfold; (try dsimp only)) | (k_end; wrow_close) | walk1 | (dsimp only; walk1) | (leave1; walk_say "STEP leave1"; try dsimp only) | fail "no step")
  dsimp only
  exact hQ _ _ _ _ _ _ _ (by assumption) ⟨by rfl, by rfl, by rfl, by rfl, ⟨_, by rfl⟩, ⟨_, by rfl⟩⟩ (fun p hp => (show News _ _ _ _ by assumption) p (.tail _ (.tail _ hp))) i2 i4
end Mine
end
section
namespace Mine
theorem sec_S4b : True := by
  w_top off
  trivial
end Mine
open PySem PySem.W PySem.Calls PyProof.Rows PySem.Spec
namespace Mine


local macro_rules | `(tactic| k_all) => `(tactic| assumption)
local macro_rules | `(tactic| k_mem) => `(tactic| (refine List.Mem.tail _ (List.Mem.tail _ (List.mem_append.mpr (Or.inl ?_))); assumption))
local macro_rules | `(tactic| k_mem) => `(tactic| (refine List.Mem.tail _ (List.Mem.tail _ (List.Mem.tail _ (List.Mem.tail _ (List.mem_append.mpr (Or.inl ?_))))); assumption))
local macro_rules | `(tactic| walk_at "subscriptTail Name Name ref int") => `(tactic| (k_here; k_dflt (refine' item_out ?hA ?hl ?hi ?hk ?hb ?_; (case hA => rfl); (case hl => exact News.isList (by k_asm) (by k_mem)); (case hi => assumption); (case hk => omega); (case hb => omega)); intro h9 tk9 e9 x9))
local macro_rules | `(tactic| walk_at "noteFrame ref") => `(tactic| (k_here; (rename Heap.NewExc _ _ _ _ => x9); k_dflt (refine' note_new rfl ?Fs x9 ?F ?N ?hu ?hv ?hne ?_; (case Fs => assumption); (case F => assumption); (case N => assumption); (case hu => assumption); (case hv => assumption); (case hne => assumption)); clear x9; intro h' sl' tiF' tiH'; have tiHH' := TT.HeldNA.held tiH'))

local macro_rules | `(tactic| walk_at "call builtin:list.append") => `(tactic| (k_here; (with_reducible show wpAny _ _ (call (Value.builtin _) [Value.ref _, Value.int _ _]) _ _ _); k_dflt (first
  | (refine' append_second ?F ?N ?hi ?hn ?hp ?hr ?_; (case F => k_asm); (case N => k_asm); (case hi => assumption); (case hn => omega); (case hp => (apply Nat.ne_of_gt; assumption)); (case hr => assumption))
  | (refine' append_first ?F ?N ?hi ?hn ?hr ?_; (case F => k_asm); (case N => k_asm); (case hi => assumption); (case hn => omega); (case hr => assumption))); intro h' F' N' hi'; (try k_sweep)))

def SldEnd (lx ly M U : Addr) (h₀ : Heap) (L Lc : Addr) (oL : Obj) (news : List (Addr × Obj)) (xs ys : List Int) (s : Shared) (Q : Flow → Shared → Prop) : Prop :=
  ∀ h' tk' m' vm' vu' cm' cu' sl (i j : Nat), Fr h₀ L h' m' → SldF lx ly M U i j m' → News h₀ L h' ((U, listOf (List.toArray vu') cu') :: (M, listOf (List.toArray vm') cm') :: (news ++ [(Lc, { oL with slots := sl })])) →
    IntsAre vm' (xs.filter fun x => !ys.contains x) → IntsAre vu' (ys.filter fun y => !xs.contains y) → Q .brk { s with heap := h', toks := tk' }
def SldNext (lx ly M U : Addr) (h₀ : Heap) (L : Addr) (rest : List (Addr × Obj)) (xs ys : List Int) (n : Nat) (s : Shared) (Q : Flow → Shared → Prop) : Prop :=
  ∀ h' tk' m' vm' vu' cm' cu' (i j : Nat) ms us, Fr h₀ L h' m' → SldF lx ly M U i j m' → News h₀ L h' ((U, listOf (List.toArray vu') cu') :: (M, listOf (List.toArray vm') cm') :: rest) →
    IntsAre vm' ms → IntsAre vu' us → Sld xs ys i j ms us → (xs.length - i) + (ys.length - j) < n → Q .next { s with heap := h', toks := tk' }

set_option maxRecDepth 100000 in
set_option maxHeartbeats 8000000 in
theorem sld_try {prog : Program} {w : World} {mean mg mb} {dp un gd cn cs a ccd cl} {h₀ : Heap} {L Lc : Addr} {oL : Obj} {m : Str → Option Value} {news : List (Addr × Obj)} {s : Shared} {Q : Flow → Shared → Prop}
    {lx ly M U : Addr} {i j : Nat} {ms us xs ys : List Int} {vm vu vx vy : List Value} {cm cu cx cy : Nat}
    {t : Expr} {tr r : Stmt} {oe2 : List Stmt} {wp : Pos} (hst : (bodyOf 1).drop 3 = [.While t [tr] oe2 wp, r])
    {k : ScopeKind} {ns : List (Str × NameKind)} {ig ic : Bool} {mo : List (Str × Const)} (hsc : scopeOf 1 = ⟨k, ns, ig, ic, mo⟩)
    (F : Fr h₀ L s.heap m) (X : (Mine.hd.heap_39 w.params).In h₀) (N : News h₀ L s.heap ((U, listOf (List.toArray vu) cu) :: (M, listOf (List.toArray vm) cm) :: (news ++ [(Lc, oL)]))) (T : Top Mine.hd.view_39 (looseW Mine.hd.view_39 []) mean mg mb h₀)
    (tiF : TI.Frs [envX cn cs Lc a ccd cl] [(Lc, oL)]) (hneL : ∀ p ∈ news, p.1 ≠ Lc)
    (H : SldF lx ly M U i j m) (hlx : (lx, listOf (List.toArray vx) cx) ∈ news) (hly : (ly, listOf (List.toArray vy) cy) ∈ news) (hix : IntsAre vx xs) (hiy : IntsAre vy ys) (nx : xs.length ≤ 100) (ny : ys.length ≤ 100)
    (sx : xs.Pairwise (· < ·)) (sy : ys.Pairwise (· < ·)) (S : Sld xs ys i j ms us)
    (him : IntsAre vm ms) (hiu : IntsAre vu us) (hMU : M < U) (hML : M ≠ Lc) (hUL : U ≠ Lc) (hr1 : ∀ x ∈ news ++ [(Lc, oL)], x.1 ≠ M) (hr2 : ∀ x ∈ news ++ [(Lc, oL)], x.1 ≠ U)
    (hQb : SldEnd lx ly M U h₀ L Lc oL news xs ys s Q) (hQn : SldNext lx ly M U h₀ L (news ++ [(Lc, oL)]) xs ys ((xs.length - i) + (ys.length - j)) s Q) :
    wpAny (model prog w) ((ktrTop dp un gd cn cs Lc a ccd cl []).deeper (envOf (Str.ofString "sorted_list_difference") ⟨k, ns, ig, ic, mo⟩ L 21 (.ref 20)))
      (exec tr (envOf (Str.ofString "sorted_list_difference") ⟨k, ns, ig, ic, mo⟩ L 21 (.ref 20))) Q (fun _ _ => False) s := by
  have hfill : PySem.Challenge.rw_tx0016_01 = PySem.Challenge.rw_tx0016_01 ∧ Mine.hd.heap_39 = Mine.hd.heap_39 := by
    k_fill
    exact ⟨rfl, rfl⟩
  clear hfill
  cases hst
  cases hsc
  obtain ⟨ti, tj, F⟩ := H.fr F
  have shi := S.hi
  have shj := S.hj
  have hlm : ms.length ≤ 100 := by rw [S.em]; exact Nat.le_trans (List.length_filter_le _ _) (by rw [List.length_take]; omega)
  have hlu : us.length ≤ 100 := by rw [S.eu]; exact Nat.le_trans (List.length_filter_le _ _) (by rw [List.length_take]; omega)
  have hs1 : ∀ (sl : Array (Option Value)), ∀ x ∈ news ++ [(Lc, { oL with slots := sl })], x.1 ≠ M := fun sl x hx => (List.mem_append.mp hx).elim (fun q => hr1 x (List.mem_append.mpr (.inl q))) fun q => by rw [List.mem_singleton.mp q]; exact hML.symm
  have hs2 : ∀ (sl : Array (Option Value)), ∀ x ∈ news ++ [(Lc, { oL with slots := sl })], x.1 ≠ U := fun sl x hx => (List.mem_append.mp hx).elim (fun q => hr2 x (List.mem_append.mpr (.inl q))) fun q => by rw [List.mem_singleton.mp q]; exact hUL.symm
  have hx9 : ∀ (sl : Array (Option Value)), (lx, listOf (List.toArray vx) cx) ∈ news ++ [(Lc, { oL with slots := sl })] := fun sl => List.mem_append.mpr (.inl hlx)
  have hy9 : ∀ (sl : Array (Option Value)), (ly, listOf (List.toArray vy) cy) ∈ news ++ [(Lc, { oL with slots := sl })] := fun sl => List.mem_append.mpr (.inl hly)
  clear H
  by_cases ci : i = xs.length
  · repeat' ((fail_if_success (with_reducible show wpAny _ _ (exec (Stmt.While _ _ _ _) _) _ _ _)); (fail_if_success (with_reducible show wpAny _ _ (exec (Stmt.For _ _ _ _ _) _) _ _ _)); (fail_if_success (with_reducible show wpAny _ _ (execs [Stmt.Expr _ _, Stmt.Expr _ _, Stmt.Break _] _) _ _ _)); first | (k_unfold; (try dsimp only)) | (k_end; wrow_close) | walk1 | (dsimp only; walk1) | (leave1; walk_say "STEP leave1"; try dsimp only) | fail "no step")
    refine sld_handler (i := i) (j := j) rfl rfl (by assumption) (by assumption) (by assumption) (by assumption) ⟨by rfl, by rfl, by rfl, by rfl, ⟨_, by rfl⟩, ⟨_, by rfl⟩⟩ (hx9 _) (hy9 _) hix hiy nx ny him hiu (by omega) (by omega) hMU (hs1 _) (hs2 _) ?_
    intro h' tk' m' vm' vu' cm' cu' F' H' N' im iu
    rw [S.finX (.inl ci)] at im
    rw [S.finY (.inl ci)] at iu
    dsimp only
    exact hQb _ _ _ _ _ _ _ _ _ _ F' H' N' im iu
  by_cases cj : j = ys.length
  · repeat' ((fail_if_success (with_reducible show wpAny _ _ (exec (Stmt.While _ _ _ _) _) _ _ _)); (fail_if_success (with_reducible show wpAny _ _ (exec (Stmt.For _ _ _ _ _) _) _ _ _)); (fail_if_success (with_reducible show wpAny _ _ (execs [Stmt.Expr _ _, Stmt.Expr _ _, Stmt.Break _] _) _ _ _)); first | (k_unfold; (try dsimp only)) | (k_end; wrow_close) | walk1 | (dsimp only; walk1) | (leave1; walk_say "STEP leave1"; try dsimp only) | fail "no step")
    refine sld_handler (i := i) (j := j) rfl rfl (by assumption) (by assumption) (by assumption) (by assumption) ⟨by rfl, by rfl, by rfl, by rfl, ⟨_, by rfl⟩, ⟨_, by rfl⟩⟩ (hx9 _) (hy9 _) hix hiy nx ny him hiu (by omega) (by omega) hMU (hs1 _) (hs2 _) ?_
    intro h' tk' m' vm' vu' cm' cu' F' H' N' im iu
    rw [S.finX (.inr cj)] at im
    rw [S.finY (.inr cj)] at iu
    dsimp only
    exact hQb _ _ _ _ _ _ _ _ _ _ F' H' N' im iu
  have hi1 : i < xs.length := by omega
  have hj1 : j < ys.length := by omega
  have hr2' : ∀ x ∈ (M, listOf (List.toArray vm) cm) :: (news ++ [(Lc, oL)]), x.1 ≠ U := fun x hx => (List.mem_cons.mp hx).elim (fun q => by rw [q]; exact Nat.ne_of_lt hMU) (hr2 x)
  have ex0 : xs.getD ((i : Nat) : Int).toNat 0 = xs.getD i 0 := by rw [Int.toNat_natCast]
  have ey0 : ys.getD ((j : Nat) : Int).toNat 0 = ys.getD j 0 := by rw [Int.toNat_natCast]
  have ex1 : xs.getD (((i : Nat) : Int) + 1).toNat 0 = xs.getD (i + 1) 0 := by congr 1
  have ey1 : ys.getD (((j : Nat) : Int) + 1).toNat 0 = ys.getD (j + 1) 0 := by congr 1
  by_cases clt : xs.getD i 0 < ys.getD j 0
  · have S' := S.lt sx sy hi1 hj1 clt
    rw [← ex0] at S'
    by_cases cn1 : i + 1 = xs.length
    · repeat' ((fail_if_success (with_reducible show wpAny _ _ (exec (Stmt.While _ _ _ _) _) _ _ _)); (fail_if_success (with_reducible show wpAny _ _ (exec (Stmt.For _ _ _ _ _) _) _ _ _)); (fail_if_success (with_reducible show wpAny _ _ (execs [Stmt.Expr _ _, Stmt.Expr _ _, Stmt.Break _] _) _ _ _)); first | (k_unfold; (try dsimp only)) | (k_end; wrow_close) | walk1 | (dsimp only; walk1) | (leave1; walk_say "STEP leave1"; try dsimp only) | fail "no step")
      refine while_once ?_ (by passes_own)
      rename IntsAre _ _ => hi9
      repeat' ((fail_if_success (with_reducible show wpAny _ _ (exec (Stmt.While _ _ _ _) _) _ _ _)); (fail_if_success (with_reducible show wpAny _ _ (exec (Stmt.For _ _ _ _ _) _) _ _ _)); (fail_if_success (with_reducible show wpAny _ _ (execs [Stmt.Expr _ _, Stmt.Expr _ _, Stmt.Break _] _) _ _ _)); first | (k_unfold; (try dsimp only)) | (k_end; wrow_close) | walk1 | (dsimp only; walk1) | (leave1; walk_say "STEP leave1"; try dsimp only) | fail "no step")
      refine sld_handler (i := i + 1) (j := j) rfl rfl (by assumption) (by assumption) (by assumption) (by assumption) ⟨by rfl, by rfl, by rfl, by rfl, ⟨_, by rfl⟩, ⟨_, by rfl⟩⟩ (hx9 _) (hy9 _) hix hiy nx ny hi9 hiu (by simp only [List.length_append, List.length_cons, List.length_nil]; omega) (by omega) hMU (hs1 _) (hs2 _) ?_
      intro h' tk' m' vm' vu' cm' cu' F' H' N' im iu
      rw [S'.finX (.inl cn1)] at im
      rw [S'.finY (.inl cn1)] at iu
      dsimp only
      exact hQb _ _ _ _ _ _ _ _ _ _ F' H' N' im iu
    · have hne := next_ne sx (i := i) (by omega)
      repeat' ((fail_if_success (with_reducible show wpAny _ _ (exec (Stmt.While _ _ _ _) _) _ _ _)); (fail_if_success (with_reducible show wpAny _ _ (exec (Stmt.For _ _ _ _ _) _) _ _ _)); (fail_if_success (with_reducible show wpAny _ _ (execs [Stmt.Expr _ _, Stmt.Expr _ _, Stmt.Break _] _) _ _ _)); first | (k_unfold; (try dsimp only)) | (k_end; wrow_close) | walk1 | (dsimp only; walk1) | (leave1; walk_say "STEP leave1"; try dsimp only) | fail "no step")
      refine while_once ?_ (by passes_own)
      rename IntsAre _ _ => hi9
      repeat' ((fail_if_success (with_reducible show wpAny _ _ (exec (Stmt.While _ _ _ _) _) _ _ _)); (fail_if_success (with_reducible show wpAny _ _ (exec (Stmt.For _ _ _ _ _) _) _ _ _)); (fail_if_success (with_reducible show wpAny _ _ (execs [Stmt.Expr _ _, Stmt.Expr _ _, Stmt.Break _] _) _ _ _)); first | (k_unfold; (try dsimp only)) | (k_end; wrow_close) | walk1 | (dsimp only; walk1) | (leave1; walk_say "STEP leave1"; try dsimp only) | fail "no step")
      · rw [ex1, ex0]
        exact beq_false_of_ne hne
      · exact hQn _ _ _ _ _ _ _ (i + 1) (j) _ _ (by assumption) ⟨by rfl, by rfl, by rfl, by rfl, ⟨_, by rfl⟩, ⟨_, by rfl⟩⟩ (by assumption) hi9 hiu S' (by omega)
  by_cases cgt : ys.getD j 0 < xs.getD i 0
  · have S' := S.gt sx sy hi1 hj1 cgt
    rw [← ey0] at S'
    by_cases cn1 : j + 1 = ys.length
    · repeat' ((fail_if_success (with_reducible show wpAny _ _ (exec (Stmt.While _ _ _ _) _) _ _ _)); (fail_if_success (with_reducible show wpAny _ _ (exec (Stmt.For _ _ _ _ _) _) _ _ _)); (fail_if_success (with_reducible show wpAny _ _ (execs [Stmt.Expr _ _, Stmt.Expr _ _, Stmt.Break _] _) _ _ _)); first | (k_unfold; (try dsimp only)) | (k_end; wrow_close) | walk1 | (dsimp only; walk1) | (leave1; walk_say "STEP leave1"; try dsimp only) | fail "no step")
      refine while_once ?_ (by passes_own)
      rename IntsAre _ _ => hi9
      repeat' ((fail_if_success (with_reducible show wpAny _ _ (exec (Stmt.While _ _ _ _) _) _ _ _)); (fail_if_success (with_reducible show wpAny _ _ (exec (Stmt.For _ _ _ _ _) _) _ _ _)); (fail_if_success (with_reducible show wpAny _ _ (execs [Stmt.Expr _ _, Stmt.Expr _ _, Stmt.Break _] _) _ _ _)); first | (k_unfold; (try dsimp only)) | (k_end; wrow_close) | walk1 | (dsimp only; walk1) | (leave1; walk_say "STEP leave1"; try dsimp only) | fail "no step")
      refine sld_handler (i := i) (j := j + 1) rfl rfl (by assumption) (by assumption) (by assumption) (by assumption) ⟨by rfl, by rfl, by rfl, by rfl, ⟨_, by rfl⟩, ⟨_, by rfl⟩⟩ (hx9 _) (hy9 _) hix hiy nx ny him hi9 (by omega) (by simp only [List.length_append, List.length_cons, List.length_nil]; omega) hMU (hs1 _) (hs2 _) ?_
      intro h' tk' m' vm' vu' cm' cu' F' H' N' im iu
      rw [S'.finX (.inr cn1)] at im
      rw [S'.finY (.inr cn1)] at iu
      dsimp only
      exact hQb _ _ _ _ _ _ _ _ _ _ F' H' N' im iu
    · have hne := next_ne sy (i := j) (by omega)
      repeat' ((fail_if_success (with_reducible show wpAny _ _ (exec (Stmt.While _ _ _ _) _) _ _ _)); (fail_if_success (with_reducible show wpAny _ _ (exec (Stmt.For _ _ _ _ _) _) _ _ _)); (fail_if_success (with_reducible show wpAny _ _ (execs [Stmt.Expr _ _, Stmt.Expr _ _, Stmt.Break _] _) _ _ _)); first | (k_unfold; (try dsimp only)) | (k_end; wrow_close) | walk1 | (dsimp only; walk1) | (leave1; walk_say "STEP leave1"; try dsimp only) | fail "no step")
      refine while_once ?_ (by passes_own)
      rename IntsAre _ _ => hi9
      repeat' ((fail_if_success (with_reducible show wpAny _ _ (exec (Stmt.While _ _ _ _) _) _ _ _)); (fail_if_success (with_reducible show wpAny _ _ (exec (Stmt.For _ _ _ _ _) _) _ _ _)); (fail_if_success (with_reducible show wpAny _ _ (execs [Stmt.Expr _ _, Stmt.Expr _ _, Stmt.Break _] _) _ _ _)); first | (k_unfold; (try dsimp only)) | (k_end; wrow_close) | walk1 | (dsimp only; walk1) | (leave1; walk_say "STEP leave1"; try dsimp only) | fail "no step")
      · rw [ey1, ey0]
        exact beq_false_of_ne hne
      · exact hQn _ _ _ _ _ _ _ (i) (j + 1) _ _ (by assumption) ⟨by rfl, by rfl, by rfl, by rfl, ⟨_, by rfl⟩, ⟨_, by rfl⟩⟩ (by assumption) him hi9 S' (by omega)
  have ceq : xs.getD i 0 = ys.getD j 0 := by omega
  have S' := S.same sx sy hi1 hj1 ceq
  have hneUM : ∀ p ∈ (U, listOf (List.toArray vu) cu) :: (M, listOf (List.toArray vm) cm) :: news, p.1 ≠ Lc := fun p hp => by
    rcases List.mem_cons.mp hp with q | hp
    · rw [q]; exact hUL
    · rcases List.mem_cons.mp hp with q | hp
      · rw [q]; exact hML
      · exact hneL p hp
  by_cases cn1 : i + 1 = xs.length
  · repeat' ((fail_if_success (with_reducible show wpAny _ _ (exec (Stmt.While _ _ _ _) _) _ _ _)); (fail_if_success (with_reducible show wpAny _ _ (exec (Stmt.For _ _ _ _ _) _) _ _ _)); (fail_if_success (with_reducible show wpAny _ _ (execs [Stmt.Expr _ _, Stmt.Expr _ _, Stmt.Break _] _) _ _ _)); first | (k_unfold; (try dsimp only)) | (k_end; wrow_close) | walk1 | (dsimp only; walk1) | (leave1; walk_say "STEP leave1"; try dsimp only) | fail "no step")
    refine while_once ?_ (by passes_own)
    repeat' ((fail_if_success (with_reducible show wpAny _ _ (exec (Stmt.While _ _ _ _) _) _ _ _)); (fail_if_success (with_reducible show wpAny _ _ (exec (Stmt.For _ _ _ _ _) _) _ _ _)); (fail_if_success (with_reducible show wpAny _ _ (noteFrame _ _) _ _ _)); first | (k_unfold; (try dsimp only)) | (k_end; wrow_close) | walk1 | (dsimp only; walk1) | (leave1; walk_say "STEP leave1"; try dsimp only) | fail "no step")
    rename Heap.NewExc _ _ _ _ => x9
    obtain ⟨oe, t9, g9, c9, d9⟩ := x9.there
    refine note_full (new := (U, listOf (List.toArray vu) cu) :: (M, listOf (List.toArray vm) cm) :: news) rfl tiF x9.keeps x9.new g9 c9 d9 rfl rfl (by assumption) (by assumption) hneUM ?_
    intro h2 sl tb ob otb ts tiF' F2 N2 oc od otd ot3 oap one
    clear x9
    refine ⟨ref_ne_byPass _, ?_⟩
    refine note_again N2 od rfl otd ot3 rfl ?_
    refine set_flight (fo := none) F2 N2 od rfl otd ot3 (fun p hp => (oap p hp).2) one ?_
    intro h3 otb2 ts2 F3 N3 otd2 ot32
    clear F2 N2
    k_unmd
    by_cases cn2 : j + 1 = ys.length
    · repeat' ((fail_if_success (with_reducible show wpAny _ _ (exec (Stmt.While _ _ _ _) _) _ _ _)); (fail_if_success (with_reducible show wpAny _ _ (exec (Stmt.For _ _ _ _ _) _) _ _ _)); (fail_if_success (with_reducible show wpAny _ _ (execs [Stmt.Expr _ _, Stmt.Expr _ _, Stmt.Break _] _) _ _ _)); first | (k_unfold; (try dsimp only)) | (k_end; wrow_close) | walk1 | (dsimp only; walk1) | (leave1; walk_say "STEP leave1"; try dsimp only) | fail "no step")
      refine while_once ?_ (by passes_own)
      repeat' ((fail_if_success (with_reducible show wpAny _ _ (exec (Stmt.While _ _ _ _) _) _ _ _)); (fail_if_success (with_reducible show wpAny _ _ (exec (Stmt.For _ _ _ _ _) _) _ _ _)); (fail_if_success (with_reducible show wpAny _ _ (subscriptTail (Expr.Name (Str.ofString "actual") _) _ _ _) _ _ _)); first | (k_unfold; (try dsimp only)) | (k_end; wrow_close) | walk1 | (dsimp only; walk1) | (leave1; walk_say "STEP leave1"; try dsimp only) | fail "no step")
      rename News _ _ _ _ => N4
      refine item_out_held (i := j + 1) rfl (N4 _ (.head _)).1 od rfl (News.isList (by assumption) (by k_mem)) hiy rfl (by omega) (by omega) ?_
      intro h5 tk5 e2 oe2 t2 keeps5 new5 g5 c5 d5
      refine passesAt_use (by passes_own) ?_
      dsimp only
      have hne4 : ∀ p ∈ (_, ob) :: (tb, otb2) :: (U, listOf (List.toArray vu) cu) :: (M, listOf (List.toArray vm) cm) :: news, p.1 ≠ Lc := fun p hp => by
        have hLc := oap (Lc, { oL with slots := sl }) (.tail _ (.tail _ (List.mem_append.mpr (.inr (.head _)))))
        rcases List.mem_cons.mp hp with q | hp
        · rw [q]; exact Ne.symm hLc.1
        · rcases List.mem_cons.mp hp with q | hp
          · rw [q]; exact Ne.symm hLc.2
          · exact hneUM p hp
      refine note_full (new := (_, ob) :: (tb, otb2) :: (U, listOf (List.toArray vu) cu) :: (M, listOf (List.toArray vm) cm) :: news) rfl tiF' keeps5 new5 g5 c5 d5 rfl rfl (by assumption) N4 hne4 ?_
      intro h6 sl6 tb6 ob6 otb6 ts6 tiF6 F6 N6 oc6 od6 otd6 ot36 oap6 one6
      have H6 := held_of F6 N6 oc6 od6 rfl otd6 ot36 (fun p hp => (oap6 p hp).2) one6
      have HH6 := TT.HeldNA.held H6
      clear N4 N6
      repeat' ((fail_if_success (with_reducible show wpAny _ _ (exec (Stmt.While _ _ _ _) _) _ _ _)); (fail_if_success (with_reducible show wpAny _ _ (exec (Stmt.For _ _ _ _ _) _) _ _ _)); (fail_if_success (with_reducible show wpAny _ _ (execs [Stmt.Expr _ _, Stmt.Expr _ _, Stmt.Break _] _) _ _ _)); first | (k_unfold; (try dsimp only)) | (k_end; wrow_close) | walk1 | (dsimp only; walk1) | (leave1; walk_say "STEP leave1"; try dsimp only) | fail "no step")
      rename News _ _ _ _ => N7
      refine sld_handler (i := i + 1) (j := j + 1) rfl rfl (by assumption) (by assumption) (fun p hp => N7 p (.tail _ (.tail _ hp))) (by assumption) ⟨by rfl, by rfl, by rfl, by rfl, ⟨_, by rfl⟩, ⟨_, by rfl⟩⟩ (hx9 _) (hy9 _) hix hiy nx ny him hiu (by omega) (by omega) hMU (hs1 _) (hs2 _) ?_
      intro h' tk' m' vm' vu' cm' cu' F' H' N' im iu
      rw [S'.finX (.inl cn1)] at im
      rw [S'.finY (.inl cn1)] at iu
      dsimp only
      exact hQb _ _ _ _ _ _ _ _ _ _ F' H' N' im iu
    · have hne2 := next_ne sy (i := j) (by omega)
      repeat' ((fail_if_success (with_reducible show wpAny _ _ (exec (Stmt.While _ _ _ _) _) _ _ _)); (fail_if_success (with_reducible show wpAny _ _ (exec (Stmt.For _ _ _ _ _) _) _ _ _)); (fail_if_success (with_reducible show wpAny _ _ (execs [Stmt.Expr _ _, Stmt.Expr _ _, Stmt.Break _] _) _ _ _)); first | (k_unfold; (try dsimp only)) | (k_end; wrow_close) | walk1 | (dsimp only; walk1) | (leave1; walk_say "STEP leave1"; try dsimp only) | fail "no step")
      refine while_once ?_ (by passes_own)
      repeat' ((fail_if_success (with_reducible show wpAny _ _ (exec (Stmt.While _ _ _ _) _) _ _ _)); (fail_if_success (with_reducible show wpAny _ _ (exec (Stmt.For _ _ _ _ _) _) _ _ _)); (fail_if_success (with_reducible show wpAny _ _ (execs [Stmt.Expr _ _, Stmt.Expr _ _, Stmt.Break _] _) _ _ _)); first | (k_unfold; (try dsimp only)) | (k_end; wrow_close) | walk1 | (dsimp only; walk1) | (leave1; walk_say "STEP leave1"; try dsimp only) | fail "no step")
      · rw [ey1, ey0]
        exact beq_false_of_ne hne2
      · dsimp only
        rename News _ _ _ _ => N4
        refine pass_on (by assumption) N4 oc od rfl otd2 ot32 (fun p hp => (oap p hp).2) one rfl ?_
        intro h6 H6
        have HH6 := TT.HeldNA.held H6
        dsimp only
        refine noted_again HH6 ?_
        intro F6 HH7
        clear HH7 F6 N4
        repeat' ((fail_if_success (with_reducible show wpAny _ _ (exec (Stmt.While _ _ _ _) _) _ _ _)); (fail_if_success (with_reducible show wpAny _ _ (exec (Stmt.For _ _ _ _ _) _) _ _ _)); (fail_if_success (with_reducible show wpAny _ _ (execs [Stmt.Expr _ _, Stmt.Expr _ _, Stmt.Break _] _) _ _ _)); first | (k_unfold; (try dsimp only)) | (k_end; wrow_close) | walk1 | (dsimp only; walk1) | (leave1; walk_say "STEP leave1"; try dsimp only) | fail "no step")
        refine sld_handler (i := i + 1) (j := j + 1) rfl rfl (by assumption) (by assumption) (by assumption) (by assumption) ⟨by rfl, by rfl, by rfl, by rfl, ⟨_, by rfl⟩, ⟨_, by rfl⟩⟩ (hx9 _) (hy9 _) hix hiy nx ny him hiu (by omega) (by omega) hMU (hs1 _) (hs2 _) ?_
        intro h' tk' m' vm' vu' cm' cu' F' H' N' im iu
        rw [S'.finX (.inl cn1)] at im
        rw [S'.finY (.inl cn1)] at iu
        dsimp only
        exact hQb _ _ _ _ _ _ _ _ _ _ F' H' N' im iu
  have hne := next_ne sx (i := i) (by omega)
  by_cases cn2 : j + 1 = ys.length
  · repeat' ((fail_if_success (with_reducible show wpAny _ _ (exec (Stmt.While _ _ _ _) _) _ _ _)); (fail_if_success (with_reducible show wpAny _ _ (exec (Stmt.For _ _ _ _ _) _) _ _ _)); (fail_if_success (with_reducible show wpAny _ _ (execs [Stmt.Expr _ _, Stmt.Expr _ _, Stmt.Break _] _) _ _ _)); first | (k_unfold; (try dsimp only)) | (k_end; wrow_close) | walk1 | (dsimp only; walk1) | (leave1; walk_say "STEP leave1"; try dsimp only) | fail "no step")
    refine while_once ?_ (by passes_own)
    repeat' ((fail_if_success (with_reducible show wpAny _ _ (exec (Stmt.While _ _ _ _) _) _ _ _)); (fail_if_success (with_reducible show wpAny _ _ (exec (Stmt.For _ _ _ _ _) _) _ _ _)); (fail_if_success (with_reducible show wpAny _ _ (execs [Stmt.Expr _ _, Stmt.Expr _ _, Stmt.Break _] _) _ _ _)); first | (k_unfold; (try dsimp only)) | (k_end; wrow_close) | walk1 | (dsimp only; walk1) | (leave1; walk_say "STEP leave1"; try dsimp only) | fail "no step")
    · rw [ex1, ex0]
      exact beq_false_of_ne hne
    · refine while_once ?_ (by passes_own)
      repeat' ((fail_if_success (with_reducible show wpAny _ _ (exec (Stmt.While _ _ _ _) _) _ _ _)); (fail_if_success (with_reducible show wpAny _ _ (exec (Stmt.For _ _ _ _ _) _) _ _ _)); (fail_if_success (with_reducible show wpAny _ _ (execs [Stmt.Expr _ _, Stmt.Expr _ _, Stmt.Break _] _) _ _ _)); first | (k_unfold; (try dsimp only)) | (k_end; wrow_close) | walk1 | (dsimp only; walk1) | (leave1; walk_say "STEP leave1"; try dsimp only) | fail "no step")
      refine passes_use (by passes_own) ?_
      dsimp only
      repeat' ((fail_if_success (with_reducible show wpAny _ _ (exec (Stmt.While _ _ _ _) _) _ _ _)); (fail_if_success (with_reducible show wpAny _ _ (exec (Stmt.For _ _ _ _ _) _) _ _ _)); (fail_if_success (with_reducible show wpAny _ _ (execs [Stmt.Expr _ _, Stmt.Expr _ _, Stmt.Break _] _) _ _ _)); first | (k_unfold; (try dsimp only)) | (k_end; wrow_close) | walk1 | (dsimp only; walk1) | (leave1; walk_say "STEP leave1"; try dsimp only) | fail "no step")
      refine sld_handler (i := i + 1) (j := j + 1) rfl rfl (by assumption) (by assumption) (by assumption) (by assumption) ⟨by rfl, by rfl, by rfl, by rfl, ⟨_, by rfl⟩, ⟨_, by rfl⟩⟩ (hx9 _) (hy9 _) hix hiy nx ny him hiu (by omega) (by omega) hMU (hs1 _) (hs2 _) ?_
      intro h' tk' m' vm' vu' cm' cu' F' H' N' im iu
      rw [S'.finX (.inr cn2)] at im
      rw [S'.finY (.inr cn2)] at iu
      dsimp only
      exact hQb _ _ _ _ _ _ _ _ _ _ F' H' N' im iu
  have hne2 := next_ne sy (i := j) (by omega)
  repeat' ((fail_if_success (with_reducible show wpAny _ _ (exec (Stmt.While _ _ _ _) _) _ _ _)); (fail_if_success (with_reducible show wpAny _ _ (exec (Stmt.For _ _ _ _ _) _) _ _ _)); (fail_if_success (with_reducible show wpAny _ _ (execs [Stmt.Expr _ _, Stmt.Expr _ _, Stmt.Break _] _) _ _ _)); first | (k_unfold; (try dsimp only)) | (k_end; wrow_close) | walk1 | (dsimp only; walk1) | (leave1; walk_say "STEP leave1"; try dsimp only) | fail "no step")
  refine while_once ?_ (by passes_own)
  repeat' ((fail_if_success (with_reducible show wpAny _ _ (exec (Stmt.While _ _ _ _) _) _ _ _)); (fail_if_success (with_reducible show wpAny _ _ (exec (Stmt.For _ _ _ _ _) _) _ _ _)); (fail_if_success (with_reducible show wpAny _ _ (execs [Stmt.Expr _ _, Stmt.Expr _ _, Stmt.Break _] _) _ _ _)); first | (k_unfold; (try dsimp only)) | (k_end; wrow_close) | walk1 | (dsimp only; walk1) | (leave1; walk_say "STEP leave1"; try dsimp only) | fail "no step")
  · rw [ex1, ex0]
    exact beq_false_of_ne hne
  · refine while_once ?_ (by passes_own)
    repeat' ((fail_if_success (with_reducible show wpAny _ _ (exec (Stmt.While _ _ _ _) _) _ _ _)); (fail_if_success (with_reducible show wpAny _ _ (exec (Stmt.For _ _ _ _ _) _) _ _ _)); (fail_if_success (with_reducible show wpAny _ _ (execs [Stmt.Expr _ _, Stmt.Expr _ _, Stmt.Break _] _) _ _ _)); first | (k_unfold; (try dsimp only)) | (k_end; wrow_close) | walk1 | (dsimp only; walk1) | (leave1; walk_say "STEP leave1"; try dsimp only) | fail "no step")
    · rw [ey1, ey0]
      exact beq_false_of_ne hne2
    · exact hQn _ _ _ _ _ _ _ (i + 1) (j + 1) _ _ (by assumption) ⟨by rfl, by rfl, by rfl, by rfl, ⟨_, by rfl⟩, ⟨_, by rfl⟩⟩ (by assumption) him hiu S' (by omega)
end Mine
end
section
namespace Mine
theorem sec_S4c : True := by
  w_top off
  trivial
end Mine
open PySem PySem.W PySem.Calls PyProof.Rows PySem.Spec
namespace Mine



def SldJ (lx ly M U : Addr) (rest : List (Addr × Obj)) (xs ys : List Int) (n : Nat) (m : Str → Option Value) (nx : List (Addr × Obj)) : Prop :=
  ∃ i j ms us vm vu cm cu, SldF lx ly M U i j m ∧ nx = (U, listOf (List.toArray vu) cu) :: (M, listOf (List.toArray vm) cm) :: rest ∧ IntsAre vm ms ∧ IntsAre vu us ∧ Sld xs ys i j ms us ∧ n = (xs.length - i) + (ys.length - j)
def SldPost (xs ys : List Int) (r : Value) (tl : List (Addr × Obj)) : Prop :=
  ∃ T M U vm cm vu cu, r = .ref T ∧ tl = [(T, tup2 (.ref M) (.ref U)), (U, listOf (List.toArray vu) cu), (M, listOf (List.toArray vm) cm)] ∧ IntsAre vm xs ∧ IntsAre vu ys

set_option maxRecDepth 100000 in
set_option maxHeartbeats 8000000 in
theorem sld_ok {prog w mean mg mb} (news : List (Addr × Obj)) (lx ly : Addr) (vx vy : List Value) (cx cy : Nat) (xs ys : List Int) (hlx : (lx, listOf (List.toArray vx) cx) ∈ news) (hly : (ly, listOf (List.toArray vy) cy) ∈ news)
    (hix : IntsAre vx xs) (hiy : IntsAre vy ys) (sx : xs.Pairwise (· < ·)) (sy : ys.Pairwise (· < ·)) (nx : xs.length ≤ 100) (ny : ys.length ≤ 100) :
    CallTop prog w (Mine.hd.heap_39 w.params) Mine.hd.view_39 (looseW Mine.hd.view_39 []) mean mg mb 21 5 48 news [.ref lx, .ref ly]
      (SldPost (xs.filter fun x => !ys.contains x) (ys.filter fun y => !xs.contains y)) := by
  have hfill : PySem.Challenge.rw_tx0016_01 = PySem.Challenge.rw_tx0016_01 ∧ Mine.hd.heap_39 = Mine.hd.heap_39 := by
    k_fill
    exact ⟨rfl, rfl⟩
  clear hfill
  unfold CallTop
  intro dp un gd cn cs a ccd cl h₀ L m s Q E F X N T hk hd hu hret
  refine wpAny_call ?_
  k_dflt (refine' enterTop (env := envX cn cs L a ccd cl) F X N T rfl hk ?ho ?hcd ?hroom ?hbind ?hloc ?_ ?g1 ?g2 ?g3 ?g4)
  case ho => k_is
  case hcd => k_is
  case hroom => ktr_room
  case hbind => exact BindsTo.of_eq rfl
  case hloc => exact locs rfl
  case g1 => rfl
  case g2 => rfl
  case g3 => rfl
  case g4 => decide
  intro oL h1 tiC tiF hneL hLt hltn F' N'
  (try dsimp only)
  clear F N
  have hltn' : ∀ p ∈ news ++ [(L, oL)], p.1 < s.heap.objs.size := fun p hp => (List.mem_append.mp hp).elim (hltn p) fun q => by rw [List.mem_singleton.mp q]; exact hLt
  generalize hrest : news ++ [(L, oL)] = rest at *
  k_unmd
  k_fold
  repeat' ((fail_if_success (with_reducible show wpAny _ _ (exec (Stmt.While _ _ _ _) _) _ _ _)); (fail_if_success (with_reducible show wpAny _ _ (exec (Stmt.For _ _ _ _ _) _) _ _ _)); first | (k_unfold; (try dsimp only)) | (k_end; wrow_close) | walk1 | (dsimp only; walk1) | (leave1; walk_say "STEP leave1"; try dsimp only) | fail "no step")
  rename_i M h3' hM h2' tk2' U h1' hU h0' F0' N0'
  obtain ⟨hMU, hUn⟩ := hU
  have hLM : L < M := hM (L, oL) (by rw [← hrest]; exact List.mem_append.mpr (.inr (.head _)))
  have hML : M ≠ L := by
    have := hM (L, oL) (by rw [← hrest]; exact List.mem_append.mpr (.inr (.head _)))
    exact Nat.ne_of_gt this
  have hUL : U ≠ L := by
    have := hM (L, oL) (by rw [← hrest]; exact List.mem_append.mpr (.inr (.head _)))
    exact Nat.ne_of_gt (Nat.lt_trans this hMU)
  have hnM : ∀ p ∈ rest, p.1 ≠ M := fun p hp => Nat.ne_of_lt (hM p hp)
  have hnU : ∀ p ∈ rest, p.1 ≠ U := fun p hp => Nat.ne_of_lt (Nat.lt_trans (hM p hp) hMU)
  (rename Fr _ _ _ _ => lF')
  (rename News _ _ _ _ => lN')
  (with_unfolding_all refine' While_inv2 (SldJ lx ly M U rest xs ys) (n₀ := xs.length + ys.length) lF' lN' ?start ?turn ?hE)
  case hE => walk1
  case start => exact ⟨0, 0, [], [], [], [], 0, 0, ⟨by rfl, by rfl, by rfl, by rfl, ⟨_, by rfl⟩, ⟨_, by rfl⟩⟩, rfl, .nil, .nil, Sld.zero xs ys, by omega⟩
  case turn =>
    clear lF' lN'
    rintro n m1 nx1 h1 tk1 F1 N1 ⟨i, j, ms, us, vm, vu, cm, cu, H, rfl, him, hiu, S, rfl⟩
    k_unmd
    k_fold
    repeat' ((fail_if_success (with_reducible show wpAny _ _ (exec (Stmt.While _ _ _ _) _) _ _ _)); (fail_if_success (with_reducible show wpAny _ _ (exec (Stmt.For _ _ _ _ _) _) _ _ _)); (fail_if_success (with_reducible show wpAny _ _ (exec (Stmt.Try _ _ _ _ _) _) _ _ _)); first | (k_unfold; (try dsimp only)) | (k_end; wrow_close) | walk1 | (dsimp only; walk1) | (leave1; walk_say "STEP leave1"; try dsimp only) | fail "no step")
    refine wpAny_noRaise ?_
    subst hrest
    refine sld_try (cn := cn) (cs := cs) (a := a) (ccd := ccd) (cl := cl) rfl rfl F1 X N1 T tiF hneL H hlx hly hix hiy nx ny sx sy S him hiu hMU hML hUL hnM hnU ?_ ?_
    · intro h' tk' m' vm' vu' cm' cu' sl i' j' F' H' N' im iu
      obtain ⟨ti, tj, F'⟩ := H'.fr F'
      clear hltn' hM hUn hnM hnU
      dsimp only [WhileStep2]
      repeat' ((fail_if_success (with_reducible show TI.LeaveI _ _)); (fail_if_success (with_reducible show WhileStep2 _ _ _ _ _ _ _ _)); (fail_if_success (with_reducible show wpAny _ _ (exec (Stmt.While _ _ _ _) _) _ _ _)); (fail_if_success (with_reducible show wpAny _ _ (exec (Stmt.For _ _ _ _ _) _) _ _ _)); first | (k_unfold; (try dsimp only)) | (k_end; wrow_close) | walk1 | (dsimp only; walk1) | (leave1; walk_say "STEP leave1"; try dsimp only) | fail "no step")
      rename (U < _ ∧ M < _ ∧ _) => hDn
      rename News _ _ _ _ => hN'
      (show TI.LeaveI _ _)
      refine TLg.leave_back (new := (_, tup2 (.ref M) (.ref U)) :: (U, listOf (List.toArray vu') cu') :: (M, listOf (List.toArray vm') cm') :: news) (sl := sl) tiC (by assumption) hN' (TLgL.allNe_of fun p hp => ?_) ?_
      · rcases List.mem_cons.mp hp with q | hp
        · rw [q]; exact Nat.ne_of_gt (Nat.lt_trans hLM (Nat.lt_trans hMU hDn.1))
        · rcases List.mem_cons.mp hp with q | hp
          · rw [q]; exact hUL
          · rcases List.mem_cons.mp hp with q | hp
            · rw [q]; exact hML
            · exact hneL p hp
      · intro F9 N9
        dsimp only
        exact hret _ _ _ _ ⟨_, M, U, vm', cm', vu', cu', rfl, rfl, im, iu⟩ F9 N9
    · intro h' tk' m' vm' vu' cm' cu' i' j' ms' us' F' H' N' im iu S' hlt
      dsimp only
      repeat' ((fail_if_success (with_reducible show TI.LeaveI _ _)); (fail_if_success (with_reducible show WhileStep2 _ _ _ _ _ _ _ _)); (fail_if_success (with_reducible show wpAny _ _ (exec (Stmt.While _ _ _ _) _) _ _ _)); (fail_if_success (with_reducible show wpAny _ _ (exec (Stmt.For _ _ _ _ _) _) _ _ _)); first | (k_unfold; (try dsimp only)) | (k_end; wrow_close) | walk1 | (dsimp only; walk1) | (leave1; walk_say "STEP leave1"; try dsimp only) | fail "no step")
      dsimp only [WhileStep2]
      exact ⟨h', tk', m', _, _, rfl, F', N', hlt, i', j', ms', us', vm', vu', cm', cu', H', rfl, im, iu, S', rfl⟩
end Mine
end
section
namespace Mine
theorem sec_Mvd : True := by
  w_top off
  trivial
end Mine
open PySem PySem.W PyProof.Rows
namespace Mine
/-- the numbers below q that have p -/
def upTo (p : Nat → Bool) (q : Nat) : List Int := ((List.range q).filter p).map fun (k : Nat) => (k : Int)
theorem upTo_zero (p : Nat → Bool) : upTo p 0 = [] := rfl
theorem upTo_yes {p : Nat → Bool} {q : Nat} (h : p q = true) : upTo p (q + 1) = upTo p q ++ [(q : Int)] := by
  unfold upTo
  rw [List.range_succ, List.filter_append, List.map_append, List.filter_cons, if_pos h]
  rfl
theorem upTo_no {p : Nat → Bool} {q : Nat} (h : p q = false) : upTo p (q + 1) = upTo p q := by
  unfold upTo
  rw [List.range_succ, List.filter_append, List.map_append, List.filter_cons, if_neg (by rw [h]; exact Bool.false_ne_true)]
  simp
theorem upTo_len (p : Nat → Bool) (q : Nat) : (upTo p q).length ≤ q := by
  unfold upTo
  rw [List.length_map]
  exact Nat.le_trans (List.length_filter_le _ _) (by rw [List.length_range]; exact Nat.le_refl _)
/-- the gap of two numbers, without sign -/
def gap (d : Int) : Int := if d < 0 then -d else d
abbrev lostP (xs ys : List Int) (span early late : Int) (i j : Nat) : Prop :=
  0 < xs.getD i 0 - xs.getD j 0 ∧ ys.getD i 0 - ys.getD j 0 ≤ 0 ∧
  early * (gap (xs.getD i 0 - xs.getD j 0) + gap (ys.getD i 0 - ys.getD j 0)) < span * gap (xs.getD i 0 - xs.getD j 0) ∧
  span * gap (xs.getD i 0 - xs.getD j 0) ≤ late * (gap (xs.getD i 0 - xs.getD j 0) + gap (ys.getD i 0 - ys.getD j 0))
abbrev gainP (xs ys : List Int) (span early late : Int) (i j : Nat) : Prop :=
  xs.getD i 0 - xs.getD j 0 ≤ 0 ∧ 0 < ys.getD i 0 - ys.getD j 0 ∧
  early * (gap (xs.getD i 0 - xs.getD j 0) + gap (ys.getD i 0 - ys.getD j 0)) ≤ span * gap (xs.getD i 0 - xs.getD j 0) ∧
  span * gap (xs.getD i 0 - xs.getD j 0) < late * (gap (xs.getD i 0 - xs.getD j 0) + gap (ys.getD i 0 - ys.getD j 0))
/-- a word about two places, said of the one number that stands for both -/
def atBoth (n : Nat) (P : Nat → Nat → Prop) [∀ i j, Decidable (P i j)] (k : Nat) : Bool := decide (P (k / n) (k % n))
theorem atBoth_at {n : Nat} {P : Nat → Nat → Prop} [∀ i j, Decidable (P i j)] {i j : Nat} (hj : j < n) : atBoth n P (i * n + j) = decide (P i j) := by
  unfold atBoth
  have e1 : (i * n + j) / n = i := by
    rw [Nat.add_comm, Nat.add_mul_div_right _ _ (by omega), Nat.div_eq_of_lt hj, Nat.zero_add]
  have e2 : (i * n + j) % n = j := by
    rw [Nat.add_comm, Nat.add_mul_mod_self_right, Nat.mod_eq_of_lt hj]
  rw [e1, e2]
theorem both_yes {n : Nat} {P : Nat → Nat → Prop} [∀ i j, Decidable (P i j)] {i j : Nat} (hj : j < n) (h : P i j) : upTo (atBoth n P) (i * n + (j + 1)) = upTo (atBoth n P) (i * n + j) ++ [((i * n + j : Nat) : Int)] :=
  upTo_yes (q := i * n + j) (by rw [atBoth_at hj]; exact decide_eq_true h)
theorem both_no {n : Nat} {P : Nat → Nat → Prop} [∀ i j, Decidable (P i j)] {i j : Nat} (hj : j < n) (h : ¬ P i j) : upTo (atBoth n P) (i * n + (j + 1)) = upTo (atBoth n P) (i * n + j) :=
  upTo_no (q := i * n + j) (by rw [atBoth_at hj]; exact decide_eq_false h)
end Mine
end
section
namespace Mine
theorem sec_S5 : True := by
  w_top off
  trivial
end Mine
open PySem PySem.W PySem.Calls PyProof.Rows PySem.Spec
namespace Mine

structure MovF (lx ly A B : Addr) (span early late : Int) (ts te tl : Tok) (m : Str → Option Value) : Prop where
  x : m (Str.ofString "x") = some (.ref lx)
  y : m (Str.ofString "y") = some (.ref ly)
  span : m (Str.ofString "span") = some (.int span ts)
  early : m (Str.ofString "early") = some (.int early te)
  late : m (Str.ofString "late") = some (.int late tl)
  lost : m (Str.ofString "lost") = some (.ref A)
  gained : m (Str.ofString "gained") = some (.ref B)
def MovN (A B : Addr) (rest : List (Addr × Obj)) (n : Nat) (xs ys : List Int) (span early late : Int) (k : Nat) (nx : List (Addr × Obj)) : Prop :=
  ∃ va vb ca cb, nx = (B, listOf (List.toArray vb) cb) :: (A, listOf (List.toArray va) ca) :: rest ∧ IntsAre va (upTo (atBoth n (lostP xs ys span early late)) k) ∧ IntsAre vb (upTo (atBoth n (gainP xs ys span early late)) k)
def MovO (lx ly A B : Addr) (rest : List (Addr × Obj)) (n : Nat) (xs ys : List Int) (span early late : Int) (ts te tl : Tok) (i : Nat) (m : Str → Option Value) (nx : List (Addr × Obj)) : Prop :=
  MovF lx ly A B span early late ts te tl m ∧ MovN A B rest n xs ys span early late (i * n) nx
def MovI (lx ly A B : Addr) (rest : List (Addr × Obj)) (n : Nat) (xs ys : List Int) (span early late : Int) (ts te tl : Tok) (i : Nat) (ti : Tok) (j : Nat) (m : Str → Option Value) (nx : List (Addr × Obj)) : Prop :=
  MovF lx ly A B span early late ts te tl m ∧ m (Str.ofString "i") = some (.int (i : Int) ti) ∧ MovN A B rest n xs ys span early late (i * n + j) nx
def MovPost (xs ys : List Int) (r : Value) (tl : List (Addr × Obj)) : Prop :=
  ∃ T M U vm cm vu cu, r = .ref T ∧ tl = [(T, tup2 (.ref M) (.ref U)), (U, listOf (List.toArray vu) cu), (M, listOf (List.toArray vm) cm)] ∧ IntsAre vm xs ∧ IntsAre vu ys

local macro_rules | `(tactic| k_all) => `(tactic| assumption)
local macro_rules | `(tactic| k_mem) => `(tactic| (refine List.Mem.tail _ (List.Mem.tail _ (List.mem_append.mpr (Or.inl ?_))); assumption))
local macro_rules | `(tactic| k_mem) => `(tactic| (refine List.Mem.tail _ (List.Mem.tail _ ?_); assumption))

theorem mem2_app {α : Type} {x y : α} {a b : List α} : ∀ p ∈ x :: y :: a, p ∈ x :: y :: (a ++ b) := fun p hp => by
  rcases List.mem_cons.mp hp with h | h
  · rw [h]; exact .head _
  · exact .tail _ (mem_cons_app p h)
theorem mem2_own {α : Type} {x y : α} {a b : List α} : ∀ p ∈ b, p ∈ x :: y :: (a ++ b) := fun p hp => .tail _ (mem_own_app p hp)
theorem abs_bound {a b : Int} (h1 : 0 ≤ a ∧ a < 1000000) (h2 : 0 ≤ b ∧ b < 1000000) : 0 ≤ ((a - b).natAbs : Int) ∧ ((a - b).natAbs : Int) < 1000000 := by omega
theorem mul_bound {a b : Int} (h1 : 0 ≤ a ∧ a ≤ 8) (h2 : 0 ≤ b ∧ b < 2000000) : 0 ≤ a * b ∧ a * b ≤ 16000000 := by
  refine ⟨Int.mul_nonneg h1.1 h2.1, ?_⟩
  have := Int.mul_le_mul h1.2 (Int.le_of_lt h2.2) h2.1 (by decide)
  omega
theorem len_ints {prog : Program} {w : World} {A : Around} {E : Value → Shared → Prop} {s : Shared} {l : Addr} {vs : List Value} {ns : List Int} {n : Nat} {Q : Value → Shared → Prop} (hl : s.heap.IsList l vs.toArray) (hi : IntsAre vs ns) (hn : ns.length = n) (hb : n ≤ 100)
    (h : Q (.int (n : Int) (s.toks + 1)) { s with toks := s.toks + 1 + 1 }) : wpAny (model prog w) A (call (.builtin "len") [.ref l]) Q E s := by
  have hsz : vs.toArray.size = ns.length := by simp [hi.length]
  exact kun_lenL hl (by rw [hsz, hn]) (by omega) h

set_option maxRecDepth 100000 in
set_option maxHeartbeats 8000000 in
theorem moved_ok {prog w p loose mean mg mb} (news : List (Addr × Obj)) (lx ly : Addr) (vx vy : List Value) (cx cy : Nat) (xs ys : List Int) (span early late : Int) (ts te tl : Tok) (n : Nat)
    (hlx : (lx, listOf (List.toArray vx) cx) ∈ news) (hly : (ly, listOf (List.toArray vy) cy) ∈ news)
    (hix : IntsAre vx xs) (hiy : IntsAre vy ys) (nx : xs.length = n) (ny : ys.length = n) (hn : n ≤ 10)
    (bx : ∀ i : Nat, 0 ≤ xs.getD i 0 ∧ xs.getD i 0 < 1000000) (bye : ∀ i : Nat, 0 ≤ ys.getD i 0 ∧ ys.getD i 0 < 1000000) (b1 : 0 ≤ span ∧ span ≤ 8) (b2 : 0 ≤ early ∧ early ≤ 8) (b3 : 0 ≤ late ∧ late ≤ 8) :
    CallOk prog w (Mine.hd.heap_39 w.params) p loose mean mg mb 66 5 48 news [.ref lx, .ref ly, .int span ts, .int early te, .int late tl]
      (MovPost (upTo (atBoth n (lostP xs ys span early late)) (n * n)) (upTo (atBoth n (gainP xs ys span early late)) (n * n))) := by
  have hfill : PySem.Challenge.rw_tx0016_01 = PySem.Challenge.rw_tx0016_01 ∧ Mine.hd.heap_39 = Mine.hd.heap_39 := by
    k_fill
    exact ⟨rfl, rfl⟩
  clear hfill
  unfold CallOk
  intro dp un gd cn cs a ccd cl outer A₀ base h₀ L m s Q E B F X N T hk hd hu hret
  refine wpAny_call ?_
  k_dflt ktr_enter
  repeat' ((fail_if_success (with_reducible show wpAny _ _ (exec (Stmt.While _ _ _ _) _) _ _ _)); (fail_if_success (with_reducible show wpAny _ _ (exec (Stmt.For _ _ _ _ _) _) _ _ _)); (fail_if_success (with_reducible show wpAny _ _ (pyIter _) _ _ _)); first | (k_here; (with_reducible show wpAny _ _ (call (Value.builtin _) [Value.ref _, Value.int _ _]) _ _ _); k_dflt (first | (refine' append_second ?F ?N ?hi ?hn ?hp ?hr ?_; (case F => k_asm); (case N => k_asm); (case hi => assumption); (case hn => omega); (case hp => (apply Nat.ne_of_gt; assumption)); (case hr => assumption)) | (refine' append_first ?F ?N ?hi ?hn ?hr ?_; (case F => k_asm); (case N => k_asm); (case hi => assumption); (case hn => omega); (case hr => assumption))); intro h' F' N' hi'; (try k_sweep)) | (k_here; (with_reducible show wpAny _ _ (call (Value.builtin "len") [Value.ref _]) _ _ _); k_dflt (refine' len_ints ?hl ?hi ?hn ?hb ?_; (case hl => exact News.isList (by k_asm) (by k_mem)); (case hi => assumption); (case hn => assumption); (case hb => omega))) | (k_unfold; (try dsimp only)) | (k_end; wrow_close) | walk1 | (dsimp only; walk1) | (leave1; walk_say "STEP leave1"; try dsimp only) | fail "no step")
  rename_i M h3' hM h2' tk2' U h1' hU h0' F0' N0'
  obtain ⟨hMU, hUn⟩ := hU
  have hnM : ∀ p ∈ news, p.1 ≠ M := fun p hp => Nat.ne_of_lt (hM p hp)
  have hnU : ∀ p ∈ news, p.1 ≠ U := fun p hp => Nat.ne_of_lt (Nat.lt_trans (hM p hp) hMU)
  (rename Fr _ _ _ _ => lF'); (with_unfolding_all refine' For_invVF lF' ?k1 ?k2 ?_; (case k1 => exact rfl); (case k2 => exact rfl))
  repeat' ((fail_if_success (with_reducible show wpAny _ _ (exec (Stmt.While _ _ _ _) _) _ _ _)); (fail_if_success (with_reducible show wpAny _ _ (exec (Stmt.For _ _ _ _ _) _) _ _ _)); (fail_if_success (with_reducible show wpAny _ _ (pyIter _) _ _ _)); first | (k_here; (with_reducible show wpAny _ _ (call (Value.builtin _) [Value.ref _, Value.int _ _]) _ _ _); k_dflt (first | (refine' append_second ?F ?N ?hi ?hn ?hp ?hr ?_; (case F => k_asm); (case N => k_asm); (case hi => assumption); (case hn => omega); (case hp => (apply Nat.ne_of_gt; assumption)); (case hr => assumption)) | (refine' append_first ?F ?N ?hi ?hn ?hr ?_; (case F => k_asm); (case N => k_asm); (case hi => assumption); (case hn => omega); (case hr => assumption))); intro h' F' N' hi'; (try k_sweep)) | (k_here; (with_reducible show wpAny _ _ (call (Value.builtin "len") [Value.ref _]) _ _ _); k_dflt (refine' len_ints ?hl ?hi ?hn ?hb ?_; (case hl => exact News.isList (by k_asm) (by k_mem)); (case hi => assumption); (case hn => assumption); (case hb => omega))) | (k_unfold; (try dsimp only)) | (k_end; wrow_close) | walk1 | (dsimp only; walk1) | (leave1; walk_say "STEP leave1"; try dsimp only) | fail "no step")
  (rename IsRange _ _ _ _ _ _ _ _ => rgX)
  (rename Fr _ _ _ _ => lF')
  (rename News _ _ _ _ => lN')
  (with_unfolding_all refine' for_rangeJ (MovO lx ly M U news n xs ys span early late ts te tl) rfl rgX rfl (by omega) lF' lN' ?start ?turn ?done)
  case start =>
    refine ⟨⟨by rfl, by rfl, by rfl, by rfl, by rfl, by rfl, by rfl⟩, [], [], 0, 0, rfl, ?_, ?_⟩
    · rw [Nat.zero_mul]; exact .nil
    · rw [Nat.zero_mul]; exact .nil
  case done =>
    clear rgX lF' lN'
    intro m1 nx1 h1 tk1 hj hadr F1 N1
    obtain ⟨⟨fx, fy, f1, f2, f3, f4, f5⟩, ⟨va, vb, ca, cb, rfl, ia, ib⟩⟩ := hj
    replace F1 := fr_back (x := Str.ofString "lost") F1 (by with_unfolding_all exact f4)
    replace F1 := fr_back (x := Str.ofString "gained") F1 (by with_unfolding_all exact f5)
    repeat' ((fail_if_success (with_reducible show wpAny _ _ (exec (Stmt.While _ _ _ _) _) _ _ _)); (fail_if_success (with_reducible show wpAny _ _ (exec (Stmt.For _ _ _ _ _) _) _ _ _)); (fail_if_success (with_reducible show wpAny _ _ (pyIter _) _ _ _)); first | (k_here; (with_reducible show wpAny _ _ (call (Value.builtin _) [Value.ref _, Value.int _ _]) _ _ _); k_dflt (first | (refine' append_second ?F ?N ?hi ?hn ?hp ?hr ?_; (case F => k_asm); (case N => k_asm); (case hi => assumption); (case hn => omega); (case hp => (apply Nat.ne_of_gt; assumption)); (case hr => assumption)) | (refine' append_first ?F ?N ?hi ?hn ?hr ?_; (case F => k_asm); (case N => k_asm); (case hi => assumption); (case hn => omega); (case hr => assumption))); intro h' F' N' hi'; (try k_sweep)) | (k_here; (with_reducible show wpAny _ _ (call (Value.builtin "len") [Value.ref _]) _ _ _); k_dflt (refine' len_ints ?hl ?hi ?hn ?hb ?_; (case hl => exact News.isList (by k_asm) (by k_mem)); (case hi => assumption); (case hn => assumption); (case hb => omega))) | (k_unfold; (try dsimp only)) | (k_end; wrow_close) | walk1 | (dsimp only; walk1) | (leave1; walk_say "STEP leave1"; try dsimp only) | fail "no step")
    exact hret _ [(_, tup2 (.ref M) (.ref U)), (U, listOf (List.toArray vb) cb), (M, listOf (List.toArray va) ca)] _ _ ⟨_, M, U, va, ca, vb, cb, rfl, rfl, ia, ib⟩ (by assumption) (by assumption)
  case turn =>
    clear rgX lF' lN'
    intro i ti m1 nx1 h1 tk1 own hi hadr hoff hj F1 N1
    obtain ⟨⟨fx, fy, f1, f2, f3, f4, f5⟩, ⟨va, vb, ca, cb, rfl, ia, ib⟩⟩ := hj
    have hne1 : ∀ p ∈ news ++ own, p.1 ≠ M := fun p hp => (List.mem_append.mp hp).elim (hnM p) (OwnOff.ne hoff (.tail _ (.head _)) p)
    have hne2 : ∀ p ∈ news ++ own, p.1 ≠ U := fun p hp => (List.mem_append.mp hp).elim (hnU p) (OwnOff.ne hoff (.head _) p)
    have hlx1 : (lx, listOf (List.toArray vx) cx) ∈ news ++ own := List.mem_append.mpr (.inl hlx)
    have hly1 : (ly, listOf (List.toArray vy) cy) ∈ news ++ own := List.mem_append.mpr (.inl hly)
    simp only [List.cons_append] at N1
    generalize hrest : news ++ own = rest at N1 hne1 hne2 hlx1 hly1
    replace F1 := fr_back (x := Str.ofString "x") F1 (by with_unfolding_all exact fx)
    replace F1 := fr_back (x := Str.ofString "y") F1 (by with_unfolding_all exact fy)
    replace F1 := fr_back (x := Str.ofString "span") F1 (by with_unfolding_all exact f1)
    replace F1 := fr_back (x := Str.ofString "early") F1 (by with_unfolding_all exact f2)
    replace F1 := fr_back (x := Str.ofString "late") F1 (by with_unfolding_all exact f3)
    replace F1 := fr_back (x := Str.ofString "lost") F1 (by with_unfolding_all exact f4)
    replace F1 := fr_back (x := Str.ofString "gained") F1 (by with_unfolding_all exact f5)
    repeat' ((fail_if_success (with_reducible show wpAny _ _ (exec (Stmt.While _ _ _ _) _) _ _ _)); (fail_if_success (with_reducible show wpAny _ _ (exec (Stmt.For _ _ _ _ _) _) _ _ _)); (fail_if_success (with_reducible show wpAny _ _ (pyIter _) _ _ _)); first | (k_here; (with_reducible show wpAny _ _ (call (Value.builtin _) [Value.ref _, Value.int _ _]) _ _ _); k_dflt (first | (refine' append_second ?F ?N ?hi ?hn ?hp ?hr ?_; (case F => k_asm); (case N => k_asm); (case hi => assumption); (case hn => omega); (case hp => (apply Nat.ne_of_gt; assumption)); (case hr => assumption)) | (refine' append_first ?F ?N ?hi ?hn ?hr ?_; (case F => k_asm); (case N => k_asm); (case hi => assumption); (case hn => omega); (case hr => assumption))); intro h' F' N' hi'; (try k_sweep)) | (k_here; (with_reducible show wpAny _ _ (call (Value.builtin "len") [Value.ref _]) _ _ _); k_dflt (refine' len_ints ?hl ?hi ?hn ?hb ?_; (case hl => exact News.isList (by k_asm) (by k_mem)); (case hi => assumption); (case hn => assumption); (case hb => omega))) | (k_unfold; (try dsimp only)) | (k_end; wrow_close) | walk1 | (dsimp only; walk1) | (leave1; walk_say "STEP leave1"; try dsimp only) | fail "no step")
    (rename Fr _ _ _ _ => lF'); (with_unfolding_all refine' For_invVF lF' ?k1 ?k2 ?_; (case k1 => exact rfl); (case k2 => exact rfl))
    repeat' ((fail_if_success (with_reducible show wpAny _ _ (exec (Stmt.While _ _ _ _) _) _ _ _)); (fail_if_success (with_reducible show wpAny _ _ (exec (Stmt.For _ _ _ _ _) _) _ _ _)); (fail_if_success (with_reducible show wpAny _ _ (pyIter _) _ _ _)); first | (k_here; (with_reducible show wpAny _ _ (call (Value.builtin _) [Value.ref _, Value.int _ _]) _ _ _); k_dflt (first | (refine' append_second ?F ?N ?hi ?hn ?hp ?hr ?_; (case F => k_asm); (case N => k_asm); (case hi => assumption); (case hn => omega); (case hp => (apply Nat.ne_of_gt; assumption)); (case hr => assumption)) | (refine' append_first ?F ?N ?hi ?hn ?hr ?_; (case F => k_asm); (case N => k_asm); (case hi => assumption); (case hn => omega); (case hr => assumption))); intro h' F' N' hi'; (try k_sweep)) | (k_here; (with_reducible show wpAny _ _ (call (Value.builtin "len") [Value.ref _]) _ _ _); k_dflt (refine' len_ints ?hl ?hi ?hn ?hb ?_; (case hl => exact News.isList (by k_asm) (by k_mem)); (case hi => assumption); (case hn => assumption); (case hb => omega))) | (k_unfold; (try dsimp only)) | (k_end; wrow_close) | walk1 | (dsimp only; walk1) | (leave1; walk_say "STEP leave1"; try dsimp only) | fail "no step")
    (rename IsRange _ _ _ _ _ _ _ _ => rgX)
    (rename Fr _ _ _ _ => lF')
    (rename News _ _ _ _ => lN')
    (with_unfolding_all refine' for_rangeJ (MovI lx ly M U rest n xs ys span early late ts te tl i ti) rfl rgX rfl (by omega) lF' lN' ?start2 ?turn2 ?done2)
    case start2 =>
      refine ⟨⟨by rfl, by rfl, by rfl, by rfl, by rfl, by rfl, by rfl⟩, by rfl, va, vb, ca, cb, rfl, ?_, ?_⟩
      · rw [Nat.add_zero]; exact ia
      · rw [Nat.add_zero]; exact ib
    case done2 =>
      clear rgX lF' lN'
      intro m2 nx2 h2 tk2 hj2 hadr2 F2 N2
      obtain ⟨⟨gx, gy, g1, g2, g3, g4, g5⟩, gi, ⟨va2, vb2, ca2, cb2, rfl, ia2, ib2⟩⟩ := hj2
      have en : i * n + n = (i + 1) * n := (Nat.succ_mul i n).symm
      rw [en] at ia2 ib2
      repeat' ((fail_if_success (with_reducible show wpAny _ _ (exec (Stmt.While _ _ _ _) _) _ _ _)); (fail_if_success (with_reducible show wpAny _ _ (exec (Stmt.For _ _ _ _ _) _) _ _ _)); (fail_if_success (with_reducible show wpAny _ _ (pyIter _) _ _ _)); first | (k_here; (with_reducible show wpAny _ _ (call (Value.builtin _) [Value.ref _, Value.int _ _]) _ _ _); k_dflt (first | (refine' append_second ?F ?N ?hi ?hn ?hp ?hr ?_; (case F => k_asm); (case N => k_asm); (case hi => assumption); (case hn => omega); (case hp => (apply Nat.ne_of_gt; assumption)); (case hr => assumption)) | (refine' append_first ?F ?N ?hi ?hn ?hr ?_; (case F => k_asm); (case N => k_asm); (case hi => assumption); (case hn => omega); (case hr => assumption))); intro h' F' N' hi'; (try k_sweep)) | (k_here; (with_reducible show wpAny _ _ (call (Value.builtin "len") [Value.ref _]) _ _ _); k_dflt (refine' len_ints ?hl ?hi ?hn ?hb ?_; (case hl => exact News.isList (by k_asm) (by k_mem)); (case hi => assumption); (case hn => assumption); (case hb => omega))) | (k_unfold; (try dsimp only)) | (k_end; wrow_close) | walk1 | (dsimp only; walk1) | (leave1; walk_say "STEP leave1"; try dsimp only) | fail "no step")
      rename Fr _ _ _ _ => F3
      rename News _ _ _ _ => N3
      subst hrest
      exact InvEndN.intro F3 N3 ⟨⟨gx, gy, g1, g2, g3, g4, g5⟩, va2, vb2, ca2, cb2, rfl, ia2, ib2⟩ (by rfl) mem2_app mem2_own
    case turn2 =>
      clear rgX lF' lN' ia ib
      intro j tj m2 nx2 h2 tk2 own2 hj hadr2 hoff2 hJ2 F2 N2
      obtain ⟨⟨gx, gy, g1, g2, g3, g4, g5⟩, gi, ⟨va2, vb2, ca2, cb2, rfl, ia2, ib2⟩⟩ := hJ2
      have hne3 : ∀ p ∈ rest ++ own2, p.1 ≠ M := fun p hp => (List.mem_append.mp hp).elim (hne1 p) (OwnOff.ne hoff2 (.tail _ (.head _)) p)
      have hne4 : ∀ p ∈ rest ++ own2, p.1 ≠ U := fun p hp => (List.mem_append.mp hp).elim (hne2 p) (OwnOff.ne hoff2 (.head _) p)
      have hlx2 : (lx, listOf (List.toArray vx) cx) ∈ rest ++ own2 := List.mem_append.mpr (.inl hlx1)
      have hly2 : (ly, listOf (List.toArray vy) cy) ∈ rest ++ own2 := List.mem_append.mpr (.inl hly1)
      simp only [List.cons_append] at N2
      generalize hrest2 : rest ++ own2 = rest2 at N2 hne3 hne4 hlx2 hly2
      replace F2 := fr_back (x := Str.ofString "x") F2 (by with_unfolding_all exact gx)
      replace F2 := fr_back (x := Str.ofString "y") F2 (by with_unfolding_all exact gy)
      replace F2 := fr_back (x := Str.ofString "span") F2 (by with_unfolding_all exact g1)
      replace F2 := fr_back (x := Str.ofString "early") F2 (by with_unfolding_all exact g2)
      replace F2 := fr_back (x := Str.ofString "late") F2 (by with_unfolding_all exact g3)
      replace F2 := fr_back (x := Str.ofString "lost") F2 (by with_unfolding_all exact g4)
      replace F2 := fr_back (x := Str.ofString "gained") F2 (by with_unfolding_all exact g5)
      replace F2 := fr_back (x := Str.ofString "i") F2 (by with_unfolding_all exact gi)
      replace F2 := fr_back (x := Str.ofString "j") F2 (by with_unfolding_all rfl)
      have hne5 : ∀ p ∈ (M, listOf (List.toArray va2) ca2) :: rest2, p.1 ≠ U := fun p hp => (List.mem_cons.mp hp).elim (fun q => by rw [q]; exact Nat.ne_of_lt hMU) (hne4 p)
      have ez1 : xs.getD ((i : Nat) : Int).toNat 0 = xs.getD i 0 := by rw [Int.toNat_natCast]
      have ez2 : xs.getD ((j : Nat) : Int).toNat 0 = xs.getD j 0 := by rw [Int.toNat_natCast]
      have ez3 : ys.getD ((i : Nat) : Int).toNat 0 = ys.getD i 0 := by rw [Int.toNat_natCast]
      have ez4 : ys.getD ((j : Nat) : Int).toNat 0 = ys.getD j 0 := by rw [Int.toNat_natCast]
      have q1 := bx i
      have q2 := bx j
      have q3 := bye i
      have q4 := bye j
      have l1 := upTo_len (atBoth n (lostP xs ys span early late)) (i * n + j)
      have l2 := upTo_len (atBoth n (gainP xs ys span early late)) (i * n + j)
      have hij : i * n + j < 100 := by
        have := Nat.mul_le_mul (show i ≤ 9 by omega) hn
        omega
      k_unmd
      k_fold
      repeat' ((fail_if_success (with_reducible show wpAny _ _ (exec (Stmt.While _ _ _ _) _) _ _ _)); (fail_if_success (with_reducible show wpAny _ _ (exec (Stmt.For _ _ _ _ _) _) _ _ _)); (fail_if_success (with_reducible show wpAny _ _ (pyIter _) _ _ _)); first | (k_here; (with_reducible show wpAny _ _ (call (Value.builtin _) [Value.ref _, Value.int _ _]) _ _ _); k_dflt (first | (refine' append_second ?F ?N ?hi ?hn ?hp ?hr ?_; (case F => k_asm); (case N => k_asm); (case hi => assumption); (case hn => omega); (case hp => (apply Nat.ne_of_gt; assumption)); (case hr => assumption)) | (refine' append_first ?F ?N ?hi ?hn ?hr ?_; (case F => k_asm); (case N => k_asm); (case hi => assumption); (case hn => omega); (case hr => assumption))); intro h' F' N' hi'; (try k_sweep)) | (k_here; (with_reducible show wpAny _ _ (call (Value.builtin "len") [Value.ref _]) _ _ _); k_dflt (refine' len_ints ?hl ?hi ?hn ?hb ?_; (case hl => exact News.isList (by k_asm) (by k_mem)); (case hi => assumption); (case hn => assumption); (case hb => omega))) | (k_unfold; (try dsimp only)) | (k_end; wrow_close) | walk1 | (dsimp only; walk1) | (leave1; walk_say "STEP leave1"; try dsimp only) | fail "no step")
      all_goals (
        rename Fr _ _ _ _ => F3
        rename News _ _ _ _ => N3
        clear hne5
        subst hrest2
        refine InvEndN.intro F3 N3 ⟨⟨by rfl, by rfl, by rfl, by rfl, by rfl, by rfl, by rfl⟩, by rfl, _, _, _, _, rfl, ?LL, ?GG⟩ (by rfl) mem2_app mem2_own
        case LL =>
          first
            | (rw [both_no hj (by rintro ⟨p1, p2, p3, p4⟩; first | exact absurd p1 (by assumption) | exact absurd p2 (by assumption) | exact absurd p3 (by assumption) | exact absurd p4 (by assumption) | omega)]; exact ia2)
            | (rw [both_yes hj ⟨by assumption, by assumption, by assumption, by assumption⟩, Int.natCast_add, Int.natCast_mul]; assumption)
        case GG =>
          first
            | (rw [both_no hj (by rintro ⟨p1, p2, p3, p4⟩; first | exact absurd p1 (by assumption) | exact absurd p2 (by assumption) | exact absurd p3 (by assumption) | exact absurd p4 (by assumption) | omega)]; exact ib2)
            | (rw [both_yes hj ⟨by first | assumption | omega, by assumption, by assumption, by assumption⟩, Int.natCast_add, Int.natCast_mul]; assumption))
end Mine
end
section
namespace Mine
theorem sec_Wd : True := by
  w_top off
  trivial
end Mine
open PySem PySem.W PySem.Calls PyProof.Rows PySem.Spec
namespace Mine
section
variable {prog : Program} {w : World} {A : Around} {E : Value → Shared → Prop} {s : Shared} {env : Env} {h₀ : Heap} {x : Str} {body : List Stmt} {Q : Flow → Shared → Prop}
/-- a loop over range(a, a + n): what holds of the frame's map and the ledger before turn i -/
theorem for_rangeA {r : Addr} {a₀ b₀ : Int} {a : Nat} {t₀ u₀ v₀ : Tok} {n : Nat} {m₀ : Str → Option Value} {news : List (Addr × Obj)} (J : Nat → (Str → Option Value) → List (Addr × Obj) → Prop)
    (hh : A.handled = none) (hr : IsRange s.heap r a₀ b₀ 1 t₀ u₀ v₀) (ha : a₀ = (a : Int)) (hb : b₀ = ((a + n : Nat) : Int)) (hn : a + n < 1000) (F : Fr h₀ env.locals s.heap m₀) (N : News h₀ env.locals s.heap news) (hj : J 0 m₀ news)
    (turn : ∀ (i : Nat) t m₁ nx h tk own, i < n → nx.map (·.1) = news.map (·.1) → OwnOff own (news.map (·.1)) → J i m₁ nx → Fr h₀ env.locals h (fun y => if y = x then some (.int ((a + i : Nat) : Int) t) else m₁ y) → News h₀ env.locals h (nx ++ own) →
      wpAny (model prog w) A (execs body env) (InvPostN h₀ env.locals (J (i + 1)) own (news.map (·.1)) { s with heap := h, toks := tk } Q) E { s with heap := h, toks := tk })
    (done : ∀ m₁ nx h tk, J n m₁ nx → nx.map (·.1) = news.map (·.1) → Fr h₀ env.locals h m₁ → News h₀ env.locals h nx → Q .next { s with heap := h, toks := tk }) :
    wpAny (model prog w) A (pyIter (.ref r)) (fun it s₂ => LoopAtV prog w A h₀ env x body Q E it s₂) E s := by
  subst hb
  subst ha
  have hsmall : Builtin.Range.small (a : Int) ((a + n : Nat) : Int) 1 = true := small_one (by omega) (by omega) (by omega) (by omega)
  have hn' : Builtin.Range.rangeSize (a : Int) ((a + n : Nat) : Int) 1 = (n : Int) := by rw [rangeSize_nat]; omega
  refine wpAny_pyIter_range hr hsmall ?_
  have W : Walks prog w A s.heap.objs.size [s.heap.objs.size] [s.heap.objs.size] n (fun i v => i < n ∧ ∃ t, v = .int ((a : Int) + i * 1) t)
      (fun i h => IsRangeIter h s.heap.objs.size ((a : Int) + (i : Nat) * 1) ((n : Int) - (i : Nat)) 1) := (Walks.range hh _ (a : Int) 1 n).bound
  refine loop_invN (fun i m nx => nx.map (·.1) = news.map (·.1) ∧ J i m nx) W ?_ ?_ ?_ ?_ (by show IsRangeIter _ _ _ _ _; rw [hn']; simpa using Heap.get?_push_size _ rfl) (F.push _) (fun p hp => ⟨Heap.get?_push_of_some _ (N p hp).1, (N p hp).2⟩) ⟨rfl, hj⟩ ?_ ?_
  · intro hm
    exact absurd F.ns.lt ((List.mem_singleton.mp hm) ▸ Nat.lt_irrefl _)
  · intro b hb
    rw [List.mem_singleton.mp hb]
    exact next_is_new F
  · intro p hp hI
    exact absurd (Heap.lt_size (N p hp).1) ((List.mem_singleton.mp hI) ▸ Nat.lt_irrefl _)
  · intro p hp hI
    exact absurd (Heap.lt_size (N p hp).1) ((List.mem_singleton.mp hI) ▸ Nat.lt_irrefl _)
  · rintro i v m₁ nx h tk own hi ⟨_, t, rfl⟩ hadr hoff ⟨_, hJ⟩ F₁ N₁
    have e1 : (a : Int) + (i : Int) * 1 = ((a + i : Nat) : Int) := by omega
    rw [e1] at F₁
    refine wpAny_mono (turn i t m₁ nx h tk own hi hadr hoff hJ F₁ N₁) (fun f s₂ p => ?_) fun _ _ x => x
    have up : InvEndN h₀ env.locals (J (i + 1)) own (news.map (·.1)) { s with heap := h, toks := tk } s₂ →
        InvEndN h₀ env.locals (fun m nx => nx.map (·.1) = news.map (·.1) ∧ J (i + 1) m nx) own (news.map (·.1)) { s with heap := h, toks := tk } s₂ := by
      rintro ⟨h', tk', m', news', nx, e', F', N', hn, ho, ha, hS⟩
      exact ⟨h', tk', m', news', nx, e', F', N', hn, ho, ha, ha, hS⟩
    cases f with
    | ret v => exact p
    | brk => exact p
    | next => exact up p
    | cont => exact up p
  · rintro m₁ nx h tk ⟨hadr, hJ⟩ F₁ N₁
    exact done m₁ nx h tk hJ hadr F₁ N₁

end
/-- one piece of a word: the letters q and q + 1 of the pairs of places i, j -/
def pieceAt (row : List Int) (q i j : Nat) : Str :=
  if cmp3 (row.getD i 0) (row.getD j 0) = -1 then ⟨#[97 + 2 * q, 97 + 2 * q + 1]⟩
  else if cmp3 (row.getD i 0) (row.getD j 0) = 0 then ⟨#[97 + 2 * q - 32, 97 + 2 * q + 1]⟩
  else ⟨#[97 + 2 * q - 32, 97 + 2 * q - 31]⟩
noncomputable def wordI (row : List Int) (i : Nat) (ps : List Str) : Nat → List Str
  | 0 => ps
  | k + 1 => wordI row i ps k ++ [pieceAt row (wordI row i ps k).length i (i + 1 + k)]
noncomputable def wordO (row : List Int) (n : Nat) : Nat → List Str
  | 0 => []
  | i + 1 => wordI row i (wordO row n i) (n - (i + 1))
theorem wordI_len (row : List Int) (i : Nat) (ps : List Str) : ∀ k, (wordI row i ps k).length = ps.length + k
  | 0 => rfl
  | k + 1 => by
    show (wordI row i ps k ++ [_]).length = _
    rw [List.length_append, wordI_len row i ps k]
    rfl
theorem wordO_len (row : List Int) (n : Nat) : ∀ i, (wordO row n i).length ≤ i * n
  | 0 => by show 0 ≤ _; omega
  | i + 1 => by
    show (wordI row i (wordO row n i) (n - (i + 1))).length ≤ _
    rw [wordI_len, Nat.succ_mul]
    have := wordO_len row n i
    omega
theorem pieceAt_len (row : List Int) (q i j : Nat) : (pieceAt row q i j).length = 2 := by
  unfold pieceAt
  split
  · rfl
  · split <;> rfl
theorem word_sumI (row : List Int) (i : Nat) (ps : List Str) : ∀ k, ((wordI row i ps k).map (fun (x : Str) => x.length)).sum = (ps.map (fun (x : Str) => x.length)).sum + 2 * k
  | 0 => rfl
  | k + 1 => by
    show ((wordI row i ps k ++ [_]).map (fun (x : Str) => x.length)).sum = _
    rw [List.map_append, List.sum_append, word_sumI row i ps k]
    simp only [List.map_cons, List.map_nil, pieceAt_len, List.sum_cons, List.sum_nil]
    omega
theorem word_sumO (row : List Int) (n : Nat) : ∀ i, ((wordO row n i).map (fun (x : Str) => x.length)).sum = 2 * (wordO row n i).length
  | 0 => rfl
  | i + 1 => by
    show ((wordI row i (wordO row n i) (n - (i + 1))).map (fun (x : Str) => x.length)).sum = 2 * (wordI row i (wordO row n i) (n - (i + 1))).length
    rw [word_sumI, wordI_len, word_sumO row n i]
    omega
theorem word_sum (row : List Int) (n : Nat) : ((wordO row n n).map (fun (x : Str) => x.length)).sum = 2 * (wordO row n n).length := word_sumO row n n
theorem cmp3_cases (x y : Int) : (x < y ∧ cmp3 x y = -1) ∨ (x = y ∧ cmp3 x y = 0) ∨ (y < x ∧ cmp3 x y = 1) := by
  unfold cmp3
  rcases Int.lt_trichotomy x y with h | h | h
  · exact .inl ⟨h, by rw [if_neg (by omega), if_pos h]⟩
  · exact .inr (.inl ⟨h, by rw [if_neg (by omega), if_neg (by omega)]⟩)
  · exact .inr (.inr ⟨h, by rw [if_pos h]⟩)
end Mine
end
section
namespace Mine
theorem sec_S6 : True := by
  w_top off
  trivial
end Mine
open PySem PySem.W PySem.Calls PyProof.Rows PySem.Spec
namespace Mine

theorem top_depth {dp un : Nat} {gd : Option (List Code)} {cn : Str} {cs : Scope} {L a : Addr} {ccd : Value} {cl : List (Str × Addr)} {outer : List Env} : (ktrTop dp un gd cn cs L a ccd cl outer).depth = dp := rfl
theorem top_units {dp un : Nat} {gd : Option (List Code)} {cn : Str} {cs : Scope} {L a : Addr} {ccd : Value} {cl : List (Str × Addr)} {outer : List Env} : (ktrTop dp un gd cn cs L a ccd cl outer).units = un := rfl
theorem news_tail {h₀ h : Heap} {L : Addr} {p : Addr × Obj} {r : List (Addr × Obj)} (N : News h₀ L h (p :: r)) : News h₀ L h r := fun q hq => N q (.tail _ hq)
theorem push_list (vs : List Value) (v : Value) : (List.toArray vs).push v = List.toArray (vs ++ [v]) := by simp
theorem piece_at {row : List Int} {q i j : Nat} {c : Int} (hc : cmp3 (row.getD ((i : Nat) : Int).toNat 0) (row.getD ((j : Nat) : Int).toNat 0) = c) :
    (if c = -1 then (⟨#[(97 + 2 * (q : Int)).toNat]⟩ ++ ⟨#[(97 + 2 * (q : Int) + 1).toNat]⟩ : Str) else if c = 0 then (⟨#[(97 + 2 * (q : Int) - 32).toNat]⟩ ++ ⟨#[(97 + 2 * (q : Int) + 1).toNat]⟩ : Str)
      else (⟨#[(97 + 2 * (q : Int) - 32).toNat]⟩ ++ ⟨#[(97 + 2 * (q : Int) - 31).toNat]⟩ : Str)) = pieceAt row q i j := by
  have e1 : (97 + 2 * (q : Int)).toNat = 97 + 2 * q := by omega
  have e2 : (97 + 2 * (q : Int) + 1).toNat = 97 + 2 * q + 1 := by omega
  have e3 : (97 + 2 * (q : Int) - 32).toNat = 97 + 2 * q - 32 := by omega
  have e4 : (97 + 2 * (q : Int) - 31).toNat = 97 + 2 * q - 31 := by omega
  rw [Int.toNat_natCast, Int.toNat_natCast] at hc
  unfold pieceAt
  rw [hc, e1, e2, e3, e4]
  rfl
def WdN (D : Addr) (rest : List (Addr × Obj)) (ps : List Str) (nx : List (Addr × Obj)) : Prop :=
  ∃ vs c, nx = (D, listOf (List.toArray vs) c) :: rest ∧ StrsAre vs ps
def WdO (lr D : Addr) (rest : List (Addr × Obj)) (n : Nat) (row : List Int) (i : Nat) (m : Str → Option Value) (nx : List (Addr × Obj)) : Prop :=
  m (Str.ofString "row") = some (.ref lr) ∧ m (Str.ofString "pieces") = some (.ref D) ∧ (∃ t, m (Str.ofString "code") = some (.int (97 + 2 * ((wordO row n i).length : Int)) t)) ∧ WdN D rest (wordO row n i) nx
def WdI (lr D : Addr) (rest : List (Addr × Obj)) (row : List Int) (i : Nat) (ti : Tok) (ps : List Str) (k : Nat) (m : Str → Option Value) (nx : List (Addr × Obj)) : Prop :=
  m (Str.ofString "row") = some (.ref lr) ∧ m (Str.ofString "pieces") = some (.ref D) ∧ m (Str.ofString "i") = some (.int (i : Int) ti) ∧ (∃ t, m (Str.ofString "code") = some (.int (97 + 2 * ((wordI row i ps k).length : Int)) t)) ∧ WdN D rest (wordI row i ps k) nx

local macro_rules | `(tactic| k_all) => `(tactic| assumption)
local macro_rules | `(tactic| k_mem) => `(tactic| (refine List.Mem.tail _ ?_; assumption))

set_option maxRecDepth 100000 in
set_option maxHeartbeats 8000000 in
theorem word_ok {prog w p loose mean mg mb} (news : List (Addr × Obj)) (lr : Addr) (vr : List Value) (cr : Nat) (row : List Int) (n : Nat)
    (hlr : (lr, listOf (List.toArray vr) cr) ∈ news) (hir : IntsAre vr row) (nr : row.length = n) (hn : n ≤ 10) (bx : ∀ i : Nat, -100000000 ≤ row.getD i 0 ∧ row.getD i 0 ≤ 100000000) :
    CallOk prog w (Mine.hd.heap_39 w.params) p loose mean mg mb 54 5 48 news [.ref lr]
      (fun r tl => tl = [] ∧ ∃ t, r = .str (Txt.join (Str.ofString "") (wordO row n n)) t) := by
  have hfill : PySem.Challenge.rw_tx0016_01 = PySem.Challenge.rw_tx0016_01 ∧ Mine.hd.heap_39 = Mine.hd.heap_39 := by
    k_fill
    exact ⟨rfl, rfl⟩
  clear hfill
  unfold CallOk
  intro dp un gd cn cs a ccd cl outer A₀ base h₀ L m s Q E B F X N T hk hd hu hret
  refine wpAny_call ?_
  k_dflt ktr_enter
  repeat' ((fail_if_success (with_reducible show wpAny _ _ (exec (Stmt.While _ _ _ _) _) _ _ _)); (fail_if_success (with_reducible show wpAny _ _ (exec (Stmt.For _ _ _ _ _) _) _ _ _)); (fail_if_success (with_reducible show wpAny _ _ (pyIter _) _ _ _)); first | (k_here; (with_reducible show wpAny _ _ (call (Value.builtin "len") [Value.ref _]) _ _ _); k_dflt (refine' len_ints ?hl ?hi ?hn ?hb ?_; (case hl => exact News.isList (by k_asm) (by k_mem)); (case hi => assumption); (case hn => assumption); (case hb => omega))) | (k_here; (with_reducible show wpAny _ _ (call (Value.ref 28) [Value.int _ _, Value.int _ _]) _ _ _); (k_dflt ((refine' CallOk.use (cmp_ok _ _ _ _ _) ?k1 ?k2 ?k3 ?k4 ?k5 ?kK ?kd ?ku ?_); (case k1 => k_asm); (case k2 => k_asm); (case k3 => k_asm); (case k4 => k_asm); (case k5 => k_asm); (case kK => exact rfl); (case kd => first | omega | (rw [top_depth]; omega)); (case ku => first | omega | (rw [top_units]; omega)))); intro r9 tl9 h9 tk9 p9 F9 N9; (obtain ⟨e9, t9, e9'⟩ := p9); (subst e9); (subst e9'); (simp only [List.nil_append] at N9); (try dsimp only); (with_reducible rename (cmp3 _ _ = _) => hc9); (rw [hc9]); (try k_fold)) | (k_unfold; (try dsimp only)) | (k_end; wrow_close) | walk1 | (dsimp only; walk1) | (leave1; walk_say "STEP leave1"; try dsimp only) | fail "no step")
  rename_i M h3' hM h2' h1' F0' N0'
  have hnM : ∀ p ∈ news, p.1 ≠ M := fun p hp => Nat.ne_of_lt (hM p hp)
  (rename Fr _ _ _ _ => lF'); (with_unfolding_all refine' For_invVF lF' ?k1 ?k2 ?_; (case k1 => exact rfl); (case k2 => exact rfl))
  repeat' ((fail_if_success (with_reducible show wpAny _ _ (exec (Stmt.While _ _ _ _) _) _ _ _)); (fail_if_success (with_reducible show wpAny _ _ (exec (Stmt.For _ _ _ _ _) _) _ _ _)); (fail_if_success (with_reducible show wpAny _ _ (pyIter _) _ _ _)); first | (k_here; (with_reducible show wpAny _ _ (call (Value.builtin "len") [Value.ref _]) _ _ _); k_dflt (refine' len_ints ?hl ?hi ?hn ?hb ?_; (case hl => exact News.isList (by k_asm) (by k_mem)); (case hi => assumption); (case hn => assumption); (case hb => omega))) | (k_here; (with_reducible show wpAny _ _ (call (Value.ref 28) [Value.int _ _, Value.int _ _]) _ _ _); (k_dflt ((refine' CallOk.use (cmp_ok _ _ _ _ _) ?k1 ?k2 ?k3 ?k4 ?k5 ?kK ?kd ?ku ?_); (case k1 => k_asm); (case k2 => k_asm); (case k3 => k_asm); (case k4 => k_asm); (case k5 => k_asm); (case kK => exact rfl); (case kd => first | omega | (rw [top_depth]; omega)); (case ku => first | omega | (rw [top_units]; omega)))); intro r9 tl9 h9 tk9 p9 F9 N9; (obtain ⟨e9, t9, e9'⟩ := p9); (subst e9); (subst e9'); (simp only [List.nil_append] at N9); (try dsimp only); (with_reducible rename (cmp3 _ _ = _) => hc9); (rw [hc9]); (try k_fold)) | (k_unfold; (try dsimp only)) | (k_end; wrow_close) | walk1 | (dsimp only; walk1) | (leave1; walk_say "STEP leave1"; try dsimp only) | fail "no step")
  (rename IsRange _ _ _ _ _ _ _ _ => rgX)
  (rename Fr _ _ _ _ => lF')
  (rename News _ _ _ _ => lN')
  (with_unfolding_all refine' for_rangeJ (WdO lr M news n row) rfl rgX rfl (by omega) lF' lN' ?start ?turn ?done)
  case start => exact ⟨by rfl, by rfl, ⟨_, by rfl⟩, [], 0, rfl, .nil⟩
  case done =>
    clear rgX lF' lN'
    intro m1 nx1 h1 tk1 hj hadr F1 N1
    obtain ⟨fx, fp, ⟨tc, fc⟩, ⟨vs, c, rfl, is⟩⟩ := hj
    replace F1 := fr_back (x := Str.ofString "pieces") F1 (by with_unfolding_all exact fp)
    repeat' ((fail_if_success (with_reducible show wpAny _ _ (exec (Stmt.While _ _ _ _) _) _ _ _)); (fail_if_success (with_reducible show wpAny _ _ (exec (Stmt.For _ _ _ _ _) _) _ _ _)); (fail_if_success (with_reducible show wpAny _ _ (pyIter _) _ _ _)); first | (k_here; (with_reducible show wpAny _ _ (call (Value.builtin "len") [Value.ref _]) _ _ _); k_dflt (refine' len_ints ?hl ?hi ?hn ?hb ?_; (case hl => exact News.isList (by k_asm) (by k_mem)); (case hi => assumption); (case hn => assumption); (case hb => omega))) | (k_here; (with_reducible show wpAny _ _ (call (Value.ref 28) [Value.int _ _, Value.int _ _]) _ _ _); (k_dflt ((refine' CallOk.use (cmp_ok _ _ _ _ _) ?k1 ?k2 ?k3 ?k4 ?k5 ?kK ?kd ?ku ?_); (case k1 => k_asm); (case k2 => k_asm); (case k3 => k_asm); (case k4 => k_asm); (case k5 => k_asm); (case kK => exact rfl); (case kd => first | omega | (rw [top_depth]; omega)); (case ku => first | omega | (rw [top_units]; omega)))); intro r9 tl9 h9 tk9 p9 F9 N9; (obtain ⟨e9, t9, e9'⟩ := p9); (subst e9); (subst e9'); (simp only [List.nil_append] at N9); (try dsimp only); (with_reducible rename (cmp3 _ _ = _) => hc9); (rw [hc9]); (try k_fold)) | (k_unfold; (try dsimp only)) | (k_end; wrow_close) | walk1 | (dsimp only; walk1) | (leave1; walk_say "STEP leave1"; try dsimp only) | fail "no step")
    refine join_list (ys := wordO row n n) (News.isList (show News _ _ _ _ by assumption) (.head _)) is ?_ ?_
    · have := word_sum row n
      have := wordO_len row n n
      have : n * n ≤ 10 * 10 := Nat.mul_le_mul hn hn
      have e0 : (Str.ofString "").length = 0 := rfl
      rw [e0]
      omega
    intro t9 k9
    repeat' ((fail_if_success (with_reducible show wpAny _ _ (exec (Stmt.While _ _ _ _) _) _ _ _)); (fail_if_success (with_reducible show wpAny _ _ (exec (Stmt.For _ _ _ _ _) _) _ _ _)); (fail_if_success (with_reducible show wpAny _ _ (pyIter _) _ _ _)); first | (k_here; (with_reducible show wpAny _ _ (call (Value.builtin "len") [Value.ref _]) _ _ _); k_dflt (refine' len_ints ?hl ?hi ?hn ?hb ?_; (case hl => exact News.isList (by k_asm) (by k_mem)); (case hi => assumption); (case hn => assumption); (case hb => omega))) | (k_here; (with_reducible show wpAny _ _ (call (Value.ref 28) [Value.int _ _, Value.int _ _]) _ _ _); (k_dflt ((refine' CallOk.use (cmp_ok _ _ _ _ _) ?k1 ?k2 ?k3 ?k4 ?k5 ?kK ?kd ?ku ?_); (case k1 => k_asm); (case k2 => k_asm); (case k3 => k_asm); (case k4 => k_asm); (case k5 => k_asm); (case kK => exact rfl); (case kd => first | omega | (rw [top_depth]; omega)); (case ku => first | omega | (rw [top_units]; omega)))); intro r9 tl9 h9 tk9 p9 F9 N9; (obtain ⟨e9, t9, e9'⟩ := p9); (subst e9); (subst e9'); (simp only [List.nil_append] at N9); (try dsimp only); (with_reducible rename (cmp3 _ _ = _) => hc9); (rw [hc9]); (try k_fold)) | (k_unfold; (try dsimp only)) | (k_end; wrow_close) | walk1 | (dsimp only; walk1) | (leave1; walk_say "STEP leave1"; try dsimp only) | fail "no step")
    rename News _ _ _ _ => N9
    exact hret _ [] _ _ ⟨rfl, _, rfl⟩ (by assumption) (fun p hp => N9 p (.tail _ hp))
  case turn =>
    clear rgX lF' lN'
    intro i ti m1 nx1 h1 tk1 own hi hadr hoff hj F1 N1
    obtain ⟨fx, fp, ⟨tc, fc⟩, ⟨vs, c, rfl, is⟩⟩ := hj
    have hne1 : ∀ p ∈ news ++ own, p.1 ≠ M := fun p hp => (List.mem_append.mp hp).elim (hnM p) (OwnOff.ne hoff (.head _) p)
    have hlr1 : (lr, listOf (List.toArray vr) cr) ∈ news ++ own := List.mem_append.mpr (.inl hlr)
    simp only [List.cons_append] at N1
    generalize hrest : news ++ own = rest at N1 hne1 hlr1
    replace F1 := fr_back (x := Str.ofString "row") F1 (by with_unfolding_all exact fx)
    replace F1 := fr_back (x := Str.ofString "pieces") F1 (by with_unfolding_all exact fp)
    replace F1 := fr_back (x := Str.ofString "code") F1 (by with_unfolding_all exact fc)
    replace F1 := fr_back (x := Str.ofString "i") F1 (by with_unfolding_all rfl)
    k_unmd
    k_fold
    repeat' ((fail_if_success (with_reducible show wpAny _ _ (exec (Stmt.While _ _ _ _) _) _ _ _)); (fail_if_success (with_reducible show wpAny _ _ (exec (Stmt.For _ _ _ _ _) _) _ _ _)); (fail_if_success (with_reducible show wpAny _ _ (pyIter _) _ _ _)); first | (k_here; (with_reducible show wpAny _ _ (call (Value.builtin "len") [Value.ref _]) _ _ _); k_dflt (refine' len_ints ?hl ?hi ?hn ?hb ?_; (case hl => exact News.isList (by k_asm) (by k_mem)); (case hi => assumption); (case hn => assumption); (case hb => omega))) | (k_here; (with_reducible show wpAny _ _ (call (Value.ref 28) [Value.int _ _, Value.int _ _]) _ _ _); (k_dflt ((refine' CallOk.use (cmp_ok _ _ _ _ _) ?k1 ?k2 ?k3 ?k4 ?k5 ?kK ?kd ?ku ?_); (case k1 => k_asm); (case k2 => k_asm); (case k3 => k_asm); (case k4 => k_asm); (case k5 => k_asm); (case kK => exact rfl); (case kd => first | omega | (rw [top_depth]; omega)); (case ku => first | omega | (rw [top_units]; omega)))); intro r9 tl9 h9 tk9 p9 F9 N9; (obtain ⟨e9, t9, e9'⟩ := p9); (subst e9); (subst e9'); (simp only [List.nil_append] at N9); (try dsimp only); (with_reducible rename (cmp3 _ _ = _) => hc9); (rw [hc9]); (try k_fold)) | (k_unfold; (try dsimp only)) | (k_end; wrow_close) | walk1 | (dsimp only; walk1) | (leave1; walk_say "STEP leave1"; try dsimp only) | fail "no step")
    (rename Fr _ _ _ _ => lF'); (with_unfolding_all refine' For_invVF lF' ?k1 ?k2 ?_; (case k1 => exact rfl); (case k2 => exact rfl))
    repeat' ((fail_if_success (with_reducible show wpAny _ _ (exec (Stmt.While _ _ _ _) _) _ _ _)); (fail_if_success (with_reducible show wpAny _ _ (exec (Stmt.For _ _ _ _ _) _) _ _ _)); (fail_if_success (with_reducible show wpAny _ _ (pyIter _) _ _ _)); first | (k_here; (with_reducible show wpAny _ _ (call (Value.builtin "len") [Value.ref _]) _ _ _); k_dflt (refine' len_ints ?hl ?hi ?hn ?hb ?_; (case hl => exact News.isList (by k_asm) (by k_mem)); (case hi => assumption); (case hn => assumption); (case hb => omega))) | (k_here; (with_reducible show wpAny _ _ (call (Value.ref 28) [Value.int _ _, Value.int _ _]) _ _ _); (k_dflt ((refine' CallOk.use (cmp_ok _ _ _ _ _) ?k1 ?k2 ?k3 ?k4 ?k5 ?kK ?kd ?ku ?_); (case k1 => k_asm); (case k2 => k_asm); (case k3 => k_asm); (case k4 => k_asm); (case k5 => k_asm); (case kK => exact rfl); (case kd => first | omega | (rw [top_depth]; omega)); (case ku => first | omega | (rw [top_units]; omega)))); intro r9 tl9 h9 tk9 p9 F9 N9; (obtain ⟨e9, t9, e9'⟩ := p9); (subst e9); (subst e9'); (simp only [List.nil_append] at N9); (try dsimp only); (with_reducible rename (cmp3 _ _ = _) => hc9); (rw [hc9]); (try k_fold)) | (k_unfold; (try dsimp only)) | (k_end; wrow_close) | walk1 | (dsimp only; walk1) | (leave1; walk_say "STEP leave1"; try dsimp only) | fail "no step")
    (rename IsRange _ _ _ _ _ _ _ _ => rgX)
    (rename Fr _ _ _ _ => lF')
    (rename News _ _ _ _ => lN')
    (with_unfolding_all refine' for_rangeA (a := i + 1) (n := n - (i + 1)) (WdI lr M rest row i ti (wordO row n i)) rfl rgX (by omega) (by omega) (by omega) lF' lN' ?start2 ?turn2 ?done2)
    case start2 => exact ⟨by rfl, by rfl, by rfl, ⟨_, by rfl⟩, vs, c, rfl, is⟩
    case done2 =>
      clear rgX lF' lN'
      intro m2 nx2 h2 tk2 hj2 hadr2 F2 N2
      obtain ⟨gx, gp, gi, ⟨tc2, gc⟩, ⟨vs2, c2, rfl, is2⟩⟩ := hj2
      repeat' ((fail_if_success (with_reducible show wpAny _ _ (exec (Stmt.While _ _ _ _) _) _ _ _)); (fail_if_success (with_reducible show wpAny _ _ (exec (Stmt.For _ _ _ _ _) _) _ _ _)); (fail_if_success (with_reducible show wpAny _ _ (pyIter _) _ _ _)); first | (k_here; (with_reducible show wpAny _ _ (call (Value.builtin "len") [Value.ref _]) _ _ _); k_dflt (refine' len_ints ?hl ?hi ?hn ?hb ?_; (case hl => exact News.isList (by k_asm) (by k_mem)); (case hi => assumption); (case hn => assumption); (case hb => omega))) | (k_here; (with_reducible show wpAny _ _ (call (Value.ref 28) [Value.int _ _, Value.int _ _]) _ _ _); (k_dflt ((refine' CallOk.use (cmp_ok _ _ _ _ _) ?k1 ?k2 ?k3 ?k4 ?k5 ?kK ?kd ?ku ?_); (case k1 => k_asm); (case k2 => k_asm); (case k3 => k_asm); (case k4 => k_asm); (case k5 => k_asm); (case kK => exact rfl); (case kd => first | omega | (rw [top_depth]; omega)); (case ku => first | omega | (rw [top_units]; omega)))); intro r9 tl9 h9 tk9 p9 F9 N9; (obtain ⟨e9, t9, e9'⟩ := p9); (subst e9); (subst e9'); (simp only [List.nil_append] at N9); (try dsimp only); (with_reducible rename (cmp3 _ _ = _) => hc9); (rw [hc9]); (try k_fold)) | (k_unfold; (try dsimp only)) | (k_end; wrow_close) | walk1 | (dsimp only; walk1) | (leave1; walk_say "STEP leave1"; try dsimp only) | fail "no step")
      rename Fr _ _ _ _ => F3
      rename News _ _ _ _ => N3
      subst hrest
      exact InvEndN.intro F3 N3 ⟨gx, gp, ⟨_, gc⟩, vs2, c2, rfl, is2⟩ (by rfl) mem_cons_app mem_own_app
    case turn2 =>
      clear rgX lF' lN' is
      intro k tj m2 nx2 h2 tk2 own2 hk2 hadr2 hoff2 hJ2 F2 N2
      obtain ⟨gx, gp, gi, ⟨tc2, gc⟩, ⟨vs2, c2, rfl, is2⟩⟩ := hJ2
      have hne2 : ∀ p ∈ rest ++ own2, p.1 ≠ M := fun p hp => (List.mem_append.mp hp).elim (hne1 p) (OwnOff.ne hoff2 (.head _) p)
      have hlr2 : (lr, listOf (List.toArray vr) cr) ∈ rest ++ own2 := List.mem_append.mpr (.inl hlr1)
      simp only [List.cons_append] at N2
      generalize hrest2 : rest ++ own2 = rest2 at N2 hne2 hlr2
      have l1 := wordI_len row i (wordO row n i) k
      have l2 := wordO_len row n i
      have l3 : i * n ≤ 9 * 10 := Nat.mul_le_mul (show i ≤ 9 by omega) hn
      have hq0 : (wordI row i (wordO row n i) k).length ≤ 100 := by omega
      generalize hq : (wordI row i (wordO row n i) k).length = q at gc hq0
      generalize hj0 : i + 1 + k = j at F2
      have hjn : j < n := by omega
      replace F2 := fr_back (x := Str.ofString "row") F2 (by with_unfolding_all exact gx)
      replace F2 := fr_back (x := Str.ofString "pieces") F2 (by with_unfolding_all exact gp)
      replace F2 := fr_back (x := Str.ofString "code") F2 (by with_unfolding_all exact gc)
      replace F2 := fr_back (x := Str.ofString "i") F2 (by with_unfolding_all exact gi)
      replace F2 := fr_back (x := Str.ofString "j") F2 (by with_unfolding_all rfl)
      have q1 := bx i
      have q2 := bx j
      have ez1 : row.getD ((i : Nat) : Int).toNat 0 = row.getD i 0 := by rw [Int.toNat_natCast]
      have ez2 : row.getD ((j : Nat) : Int).toNat 0 = row.getD j 0 := by rw [Int.toNat_natCast]
      rcases cmp3_cases (row.getD ((i : Nat) : Int).toNat 0) (row.getD ((j : Nat) : Int).toNat 0) with ⟨-, hc⟩ | ⟨-, hc⟩ | ⟨-, hc⟩
      all_goals (
        k_unmd
        k_fold
        repeat' ((fail_if_success (with_reducible show wpAny _ _ (exec (Stmt.While _ _ _ _) _) _ _ _)); (fail_if_success (with_reducible show wpAny _ _ (exec (Stmt.For _ _ _ _ _) _) _ _ _)); (fail_if_success (with_reducible show wpAny _ _ (pyIter _) _ _ _)); first | (k_here; (with_reducible show wpAny _ _ (call (Value.builtin "len") [Value.ref _]) _ _ _); k_dflt (refine' len_ints ?hl ?hi ?hn ?hb ?_; (case hl => exact News.isList (by k_asm) (by k_mem)); (case hi => assumption); (case hn => assumption); (case hb => omega))) | (k_here; (with_reducible show wpAny _ _ (call (Value.ref 28) [Value.int _ _, Value.int _ _]) _ _ _); (k_dflt ((refine' CallOk.use (cmp_ok _ _ _ _ _) ?k1 ?k2 ?k3 ?k4 ?k5 ?kK ?kd ?ku ?_); (case k1 => k_asm); (case k2 => k_asm); (case k3 => k_asm); (case k4 => k_asm); (case k5 => k_asm); (case kK => exact rfl); (case kd => first | omega | (rw [top_depth]; omega)); (case ku => first | omega | (rw [top_units]; omega)))); intro r9 tl9 h9 tk9 p9 F9 N9; (obtain ⟨e9, t9, e9'⟩ := p9); (subst e9); (subst e9'); (simp only [List.nil_append] at N9); (try dsimp only); (with_reducible rename (cmp3 _ _ = _) => hc9); (rw [hc9]); (try k_fold)) | (k_unfold; (try dsimp only)) | (k_end; wrow_close) | walk1 | (dsimp only; walk1) | (leave1; walk_say "STEP leave1"; try dsimp only) | fail "no step")
        rename Fr _ _ _ _ => F3
        rename News _ _ _ _ => N3
        replace N3 := news_tail N3
        rw [push_list] at N3
        have hp9 := piece_at (row := row) (q := q) (i := i) (j := j) (by assumption)
        simp only [if_true, if_false, show ¬ ((0 : Int) = -1) by decide, show ¬ ((1 : Int) = -1) by decide, show ¬ ((1 : Int) = 0) by decide] at hp9
        clear F2
        subst hrest2
        subst hj0
        have e9 : (97 : Int) + 2 * ((wordI row i (wordO row n i) (k + 1)).length : Int) = 97 + 2 * (q : Int) + 2 := by
          rw [wordI_len]
          omega
        refine InvEndN.intro F3 N3 ⟨by rfl, by rfl, by rfl, by rw [e9]; exact ⟨_, by rfl⟩, _, _, rfl, ?_⟩ (by rfl) mem_cons_app mem_own_app
        show StrsAre _ (wordI row i (wordO row n i) k ++ [pieceAt row (wordI row i (wordO row n i) k).length i (i + 1 + k)])
        rw [hq, ← hp9]
        exact StrsAre.append' is2 (.cons _ _ .nil))
end Mine
end
section
namespace Mine
theorem sec_Cm2 : True := by
  w_top off
  trivial
end Mine
open PySem PySem.W PySem.Calls PyProof.Rows PySem.Spec
namespace Mine
/-! a list display of two clauses: the outer one without a test, the inner one with one test -/
abbrev none1 : Value → Shared → Prop := fun _ _ => False
theorem turn_outer (elt it0 it1 c : Expr) (t0 t1 : Expr) (scope : Scope) (pos : Pos) (it acc : Value) (env : Env) :
    compTurn (.ListComp elt [⟨t0, it0, [], 0⟩, ⟨t1, it1, [c], 0⟩] scope pos) 0 it acc env = (standAt it0.pos >>= fun _ => pyNext it >>= fun r => match r with
      | none => pure (.done .next)
      | some v => letOwnedTupleGo t0 it v >>= fun _ => assign t0 env v >>= fun _ =>
        eval it1 env >>= fun x => standAt it1.pos >>= fun _ => foldedSetIterable it1 env x >>= fun x => (holding [x] (pyIter x)) >>= fun it' =>
          runOwn (.compStart (.ListComp elt [⟨t0, it0, [], 0⟩, ⟨t1, it1, [c], 0⟩] scope pos) 1 it' acc env) env >>= fun _ =>
          again (.compLoop (.ListComp elt [⟨t0, it0, [], 0⟩, ⟨t1, it1, [c], 0⟩] scope pos) 0 it acc env)) := by rfl
theorem turn_inner (elt it0 it1 c : Expr) (t0 t1 : Expr) (scope : Scope) (pos : Pos) (it acc : Value) (env : Env) :
    compTurn (.ListComp elt [⟨t0, it0, [], 0⟩, ⟨t1, it1, [c], 0⟩] scope pos) 1 it acc env = (standAt it1.pos >>= fun _ => pyNext it >>= fun r => match r with
      | none => pure (.done .next)
      | some v => letOwnedTupleGo t1 it v >>= fun _ => assign t1 env v >>= fun _ =>
        (forIn [c] true fun c r => if r = true then do let ok ← isTrue c env (eval c env); pure (ForInStep.yield ok) else pure (ForInStep.yield r)) >>= fun ok =>
          if ok = true then (eval elt env >>= fun x => call (.builtin "list.append") [acc, x] >>= fun _ => pure ()) >>= fun _ => again (.compLoop (.ListComp elt [⟨t0, it0, [], 0⟩, ⟨t1, it1, [c], 0⟩] scope pos) 1 it acc env)
          else pure () >>= fun _ => again (.compLoop (.ListComp elt [⟨t0, it0, [], 0⟩, ⟨t1, it1, [c], 0⟩] scope pos) 1 it acc env)) := by rfl
section
variable {prog : Program} {w : World} {A : Around} {R : Result → Shared → Prop} {s : Shared}
theorem loop_outer {elt it0 it1 c t0 t1 : Expr} {scope : Scope} {pos : Pos} {it acc : Value} {env : Env} (I : Nat → Shared → Prop)
    (turn : ∀ n s, I n s → wpAny (model prog w) A (pyNext it) (fun r s₁ => match r with
      | none => R (.ok .next) s₁
      | some v => wpAny (model prog w) A (assign t0 env v) (fun _ s₂ => wpAny (model prog w) A (eval it1 env) (fun x s₃ => wpAny (model prog w) A (pyIter x) (fun it' s₄ =>
          codeAny (model prog w) (A.mark none) (.compStart (.ListComp elt [⟨t0, it0, [], 0⟩, ⟨t1, it1, [c], 0⟩] scope pos) 1 it' acc env) (fun r s₅ => match r with | .ok _ => ∃ m, m < n ∧ I m s₅ | .error _ => False) s₄) none1 s₃) none1 s₂) none1 s₁) none1 s)
    (n : Nat) (h : I n s) (ht : ∀ v, letOwnedTupleGo t0 it v = pure () := by intro _; rfl) (hs : ∀ x, foldedSetIterable it1 env x = pure x := by intro _; rfl) :
    codeAny (model prog w) A (.compLoop (.ListComp elt [⟨t0, it0, [], 0⟩, ⟨t1, it1, [c], 0⟩] scope pos) 0 it acc env) R s := by
  refine codeAny_loop rfl I (fun n s hI => ?_) n h
  show wpAny _ A ((compTurn (.ListComp elt [⟨t0, it0, [], 0⟩, ⟨t1, it1, [c], 0⟩] scope pos) 0 it acc env).onRaise (fun x => do noteFrame x env; theTreesLotGoes x)) _ _ s
  refine wpAny_noted ?_
  rw [turn_outer]
  refine wpAny_bind (wpAny_standAt (wpAny_bind (wpAny_mono (turn n s hI) (fun r s₁ h₁ => ?_) fun _ _ h' => h'.elim)))
  cases r with
  | none => exact wpAny_pure h₁
  | some v =>
    refine wpAny_bind (wpAny_of_eq (ht v) ?_)
    refine wpAny_bind (wpAny_mono h₁ (fun _ s₂ h₂ => wpAny_bind (wpAny_mono h₂ (fun x s₃ h₃ => ?_) fun _ _ h' => h'.elim)) fun _ _ h' => h'.elim)
    refine wpAny_bind (wpAny_standAt (wpAny_bind (wpAny_of_eq (hs x) ?_)))
    refine wpAny_bind (wpAny_holding (wpAny_mono h₃ (fun it' s₄ h₄ => ?_) fun _ _ h' => h'.elim))
    refine wpAny_bind (wpAny_runOwn (codeAny_mono h₄ fun r s₅ h₅ => ?_))
    cases r with
    | ok f => exact wpAny_pure ⟨rfl, h₅⟩
    | error e => exact h₅.elim
theorem loop_inner {elt it0 it1 c t0 t1 : Expr} {scope : Scope} {pos : Pos} {it acc : Value} {env : Env} (I : Nat → Shared → Prop)
    (turn : ∀ n s, I n s → wpAny (model prog w) A (pyNext it) (fun r s₁ => match r with
      | none => R (.ok .next) s₁
      | some v => wpAny (model prog w) A (assign t1 env v) (fun _ s₂ => wpAny (model prog w) A (isTrue c env (eval c env)) (fun ok s₃ =>
          if ok = true then wpAny (model prog w) A (eval elt env) (fun x s₄ => wpAny (model prog w) A (call (.builtin "list.append") [acc, x]) (fun _ s₅ => ∃ m, m < n ∧ I m s₅) none1 s₄) none1 s₃
          else ∃ m, m < n ∧ I m s₃) none1 s₂) none1 s₁) none1 s)
    (n : Nat) (h : I n s) (ht : ∀ v, letOwnedTupleGo t1 it v = pure () := by intro _; rfl) :
    codeAny (model prog w) A (.compLoop (.ListComp elt [⟨t0, it0, [], 0⟩, ⟨t1, it1, [c], 0⟩] scope pos) 1 it acc env) R s := by
  refine codeAny_loop rfl I (fun n s hI => ?_) n h
  show wpAny _ A ((compTurn (.ListComp elt [⟨t0, it0, [], 0⟩, ⟨t1, it1, [c], 0⟩] scope pos) 1 it acc env).onRaise (fun x => do noteFrame x env; theTreesLotGoes x)) _ _ s
  refine wpAny_noted ?_
  rw [turn_inner]
  refine wpAny_bind (wpAny_standAt (wpAny_bind (wpAny_mono (turn n s hI) (fun r s₁ h₁ => ?_) fun _ _ h' => h'.elim)))
  cases r with
  | none => exact wpAny_pure h₁
  | some v =>
    refine wpAny_bind (wpAny_of_eq (ht v) ?_)
    refine wpAny_bind (wpAny_mono h₁ (fun _ s₂ h₂ => wpAny_bind (wpAny_tests_one (wpAny_mono h₂ (fun ok s₃ h₃ => ?_) fun _ _ h' => h'.elim))) fun _ _ h' => h'.elim)
    cases ok with
    | false => exact wpAny_bind (wpAny_pure (wpAny_pure ⟨rfl, h₃⟩))
    | true =>
      exact wpAny_bind (wpAny_bind (wpAny_mono h₃ (fun x s₄ h₄ => wpAny_bind (wpAny_mono h₄ (fun _ s₅ h₅ => wpAny_pure (wpAny_pure ⟨rfl, h₅⟩)) fun _ _ h' => h'.elim)) fun _ _ h' => h'.elim))
theorem start_inner {elt it0 it1 c t0 t1 : Expr} {scope : Scope} {pos : Pos} {it acc : Value} {env : Env}
    (h0 : codeAny (model prog w) A (.compLoop (.ListComp elt [⟨t0, it0, [], 0⟩, ⟨t1, it1, [c], 0⟩] scope pos) 1 it acc env) R s)
    (h : wpAny (model prog w) A (pyIter it) (fun it' s' => codeAny (model prog w) A (.compLoop (.ListComp elt [⟨t0, it0, [], 0⟩, ⟨t1, it1, [c], 0⟩] scope pos) 1 it' acc env) R s')
      (notedBy (model prog w) A env fun x s' => R (.error x) s') s) :
    codeAny (model prog w) A (.compStart (.ListComp elt [⟨t0, it0, [], 0⟩, ⟨t1, it1, [c], 0⟩] scope pos) 1 it acc env) R s := by
  refine codeAny_of_tree ?_
  show wpAny _ _ ((compStart (.ListComp elt [⟨t0, it0, [], 0⟩, ⟨t1, it1, [c], 0⟩] scope pos) 1 it acc env).onRaise (fun x => do noteFrame x env; standAt theWindowsPlace)) _ _ s
  refine wpAny_notedAt ?_
  unfold compStart
  show wpAny _ _ (ask >>= _) _ _ s
  refine wpAny_bind (wpAny_askSetting (wpAny_ite ?_))
  split
  · first
      | exact wpAny_bind (wpAny_pure (wpAny_pure (And.intro rfl h0)))
      | exact wpAny_pure (And.intro rfl h0)
  · first
      | exact wpAny_bind (wpAny_rule (wpAny_bind (wpAny_standAt (wpAny_bind (wpAny_mono h (fun it' s' h' => wpAny_pure (And.intro rfl h')) fun _ _ x => x)))))
      | (refine wpAny_bind (wpAny_rule ?_); show wpAny _ _ (standAt it1.pos >>= _) _ _ s; exact wpAny_bind (wpAny_standAt (wpAny_bind (wpAny_mono h (fun it' s' h' => wpAny_pure (And.intro rfl h')) fun _ _ x => x))))
end
end Mine
end
section
namespace Mine
theorem sec_Cm3 : True := by
  w_top off
  trivial
end Mine
open PySem PySem.W PySem.Calls PyProof.Rows PySem.Spec PyProof.Rows.LCg
namespace Mine
abbrev rit (a l : Int) : Obj := { cls := .type "range_iterator", data := .fields #[rawInt a, rawInt l, rawInt 1] }
/-- one object of the ledger made anew -/
theorem news_chg {h₀ h h' : Heap} {L a : Addr} {news news' : List (Addr × Obj)} {o o' : Obj} (N : News h₀ L h news) (hk : ∀ b x, b ≠ a → h.get? b = some x → h'.get? b = some x) (ho : (a, o) ∈ news) (ho' : h'.get? a = some o')
    (sub : ∀ p ∈ news', p = (a, o') ∨ (p ∈ news ∧ p.1 ≠ a)) : News h₀ L h' news' := fun p hp => by
  rcases sub p hp with rfl | ⟨h1, h2⟩
  · exact ⟨ho', (N _ ho).2⟩
  · exact ⟨hk _ _ h2 (N p h1).1, (N p h1).2⟩
structure Apart (J I C D : Addr) (news : List (Addr × Obj)) : Prop where
  ji : J ≠ I
  jc : J ≠ C
  jd : J ≠ D
  ic : I ≠ C
  id : I ≠ D
  cd : C ≠ D
  off : ∀ p ∈ news, p.1 ≠ J ∧ p.1 ≠ I ∧ p.1 ≠ C ∧ p.1 ≠ D
theorem Apart.setJ {J I C D : Addr} {news : List (Addr × Obj)} (X : Apart J I C D news) {oJ oJ' oI oC oD : Obj} :
    ∀ p ∈ (J, oJ') :: (I, oI) :: (C, oC) :: (D, oD) :: news, p = (J, oJ') ∨ (p ∈ (J, oJ) :: (I, oI) :: (C, oC) :: (D, oD) :: news ∧ p.1 ≠ J) := fun p hp => by
  rcases List.mem_cons.mp hp with rfl | hp
  · exact .inl rfl
  · refine .inr ⟨.tail _ hp, ?_⟩
    rcases List.mem_cons.mp hp with rfl | hp
    · exact X.ji.symm
    rcases List.mem_cons.mp hp with rfl | hp
    · exact X.jc.symm
    rcases List.mem_cons.mp hp with rfl | hp
    · exact X.jd.symm
    · exact (X.off p hp).1
theorem Apart.notJ {J I C D : Addr} {news : List (Addr × Obj)} (X : Apart J I C D news) {oI oC oD : Obj} : ∀ p ∈ (I, oI) :: (C, oC) :: (D, oD) :: news, p.1 ≠ J := fun p hp => by
  rcases List.mem_cons.mp hp with rfl | hp
  · exact X.ji.symm
  rcases List.mem_cons.mp hp with rfl | hp
  · exact X.jc.symm
  rcases List.mem_cons.mp hp with rfl | hp
  · exact X.jd.symm
  · exact (X.off p hp).1
theorem Apart.setC {J I C D : Addr} {news : List (Addr × Obj)} (X : Apart J I C D news) {oJ oC' oI oC oD : Obj} :
    ∀ p ∈ (J, oJ) :: (I, oI) :: (C, oC') :: (D, oD) :: news, p = (C, oC') ∨ (p ∈ (J, oJ) :: (I, oI) :: (C, oC) :: (D, oD) :: news ∧ p.1 ≠ C) := fun p hp => by
  rcases List.mem_cons.mp hp with rfl | hp
  · exact .inr ⟨.head _, X.jc⟩
  rcases List.mem_cons.mp hp with rfl | hp
  · exact .inr ⟨.tail _ (.head _), X.ic⟩
  rcases List.mem_cons.mp hp with rfl | hp
  · exact .inl rfl
  rcases List.mem_cons.mp hp with rfl | hp
  · exact .inr ⟨.tail _ (.tail _ (.tail _ (.head _))), X.cd.symm⟩
  · exact .inr ⟨.tail _ (.tail _ (.tail _ (.tail _ hp))), (X.off p hp).2.2.1⟩
theorem Apart.setD {J I C D : Addr} {news : List (Addr × Obj)} (X : Apart J I C D news) {oJ oD' oI oC oD : Obj} :
    ∀ p ∈ (J, oJ) :: (I, oI) :: (C, oC) :: (D, oD') :: news, p = (D, oD') ∨ (p ∈ (J, oJ) :: (I, oI) :: (C, oC) :: (D, oD) :: news ∧ p.1 ≠ D) := fun p hp => by
  rcases List.mem_cons.mp hp with rfl | hp
  · exact .inr ⟨.head _, X.jd⟩
  rcases List.mem_cons.mp hp with rfl | hp
  · exact .inr ⟨.tail _ (.head _), X.id⟩
  rcases List.mem_cons.mp hp with rfl | hp
  · exact .inr ⟨.tail _ (.tail _ (.head _)), X.cd⟩
  rcases List.mem_cons.mp hp with rfl | hp
  · exact .inl rfl
  · exact .inr ⟨.tail _ (.tail _ (.tail _ (.tail _ hp))), (X.off p hp).2.2.2⟩
section
variable {prog : Program} {w : World} {A : Around} {R : Result → Shared → Prop} {s : Shared} {h₀ : Heap} {L : Addr} {m : Str → Option Value} {env : Env}
theorem inner_walk {elt it0 it1 c t0 : Expr} {x y : Str} {py : Pos} {scope : Scope} {pos : Pos} {cl : List (Str × Addr)} {n i : Nat} {J I C D : Addr} {news : List (Addr × Obj)} {oI : Obj} {h : Heap} {tk : Nat} {oC : Obj} {m₂ : Str → Option Value} {ys : List Value} {ti : Tok}
    (q : Nat → Bool) (hh : A.handled = none) (hn : n ≤ 10) (hi : i < n) (X : Apart J I C D news) (hkind : scope.kind = .function) (hy : scope.names.lookup y = some .local) (hxy : x ≠ y)
    (test : ∀ (j : Nat) oC oJ ys m₂ h tk tj, j < n → NsObj oC m₂ → (∃ t, m₂ x = some (.int (i : Int) t)) → m₂ y = some (.int (j : Int) tj) → Fr h₀ L h m → News h₀ L h ((J, oJ) :: (I, oI) :: (C, oC) :: (D, lst ys) :: news) →
      wpAny (model prog w) A (isTrue c (compEnvC scope cl C env) (eval c (compEnvC scope cl C env))) (fun ok s' => ok = q (i * n + j) ∧ ∃ h' tk', s' = { s with heap := h', toks := tk' } ∧ Fr h₀ L h' m ∧ News h₀ L h' ((J, oJ) :: (I, oI) :: (C, oC) :: (D, lst ys) :: news)) none1 { s with heap := h, toks := tk })
    (put : ∀ (j : Nat) oC oJ ys m₂ h tk tj, j < n → NsObj oC m₂ → (∃ t, m₂ x = some (.int (i : Int) t)) → m₂ y = some (.int (j : Int) tj) → Fr h₀ L h m → News h₀ L h ((J, oJ) :: (I, oI) :: (C, oC) :: (D, lst ys) :: news) →
      wpAny (model prog w) A (eval elt (compEnvC scope cl C env)) (fun v s' => (∃ t, v = .int ((i * n + j : Nat) : Int) t) ∧ ∃ h' tk', s' = { s with heap := h', toks := tk' } ∧ Fr h₀ L h' m ∧ News h₀ L h' ((J, oJ) :: (I, oI) :: (C, oC) :: (D, lst ys) :: news)) none1 { s with heap := h, toks := tk })
    (F : Fr h₀ L h m) (N : News h₀ L h ((J, rit (0 + ((0 : Nat) : Int) * 1) ((n : Int) - ((0 : Nat) : Int))) :: (I, oI) :: (C, oC) :: (D, lst ys) :: news)) (hC : NsObj oC m₂) (hx : m₂ x = some (.int (i : Int) ti)) (hI : IntsAre ys (upTo q (i * n)))
    (hR : ∀ h tk oC m₂ ys, Fr h₀ L h m → News h₀ L h ((I, oI) :: (C, oC) :: (D, lst ys) :: news) → NsObj oC m₂ → IntsAre ys (upTo q (i * n + n)) → R (.ok .next) { s with heap := h, toks := tk }) :
    codeAny (model prog w) A (.compLoop (.ListComp elt [⟨t0, it0, [], 0⟩, ⟨.Name y py, it1, [c], 0⟩] scope pos) 1 (.ref J) (.ref D) (compEnvC scope cl C env)) R { s with heap := h, toks := tk } := by
  have W := range_walks (prog := prog) (w := w) (A := A) (I := J) hh 0 n
  refine loop_inner (fun k s' => ∃ j h tk m₂ ys oC, s' = { s with heap := h, toks := tk } ∧ j ≤ n ∧ k = n - j ∧ Fr h₀ L h m ∧ News h₀ L h ((J, rit (0 + (j : Int) * 1) ((n : Int) - (j : Int))) :: (I, oI) :: (C, oC) :: (D, lst ys) :: news) ∧ NsObj oC m₂ ∧ (∃ t, m₂ x = some (.int (i : Int) t)) ∧ IntsAre ys (upTo q (i * n + j)))
    ?_ n ⟨0, h, tk, m₂, ys, oC, rfl, Nat.zero_le _, rfl, F, N, hC, ⟨_, hx⟩, by rw [Nat.add_zero]; exact hI⟩
  rintro k s' ⟨j, h, tk, m₂, ys, oC, rfl, hj, rfl, F, N, hC, hx, hI⟩
  have nJ := N _ (.head _)
  have nC := N (C, oC) (.tail _ (.tail _ (.head _)))
  have nD := N (D, lst ys) (.tail _ (.tail _ (.tail _ (.head _))))
  by_cases hlt : j < n
  · refine W.item j _ _ _ hlt nJ.1 fun v h₂ tk₂ hv hst₂ hk₂ => ?_
    obtain ⟨t, rfl⟩ := hv
    rw [Int.zero_add]
    have N₂ := news_chg N (fun b o hb e => hk₂ b o (by simpa using hb) e) (.head _) hst₂ X.setJ
    have F₂ : Fr h₀ L h₂ m := fr_but F hk₂ nJ.2.1.symm nJ.2.2
    have nC₂ := N₂ (C, oC) (.tail _ (.tail _ (.head _)))
    refine wpAny_assign_Name (wpAny_storeName_local (lookup_relabel_local hy) (hC.ns nC₂.1) (fun h₃ hn₃ hs₃ => ?_) (by simp [compEnvC, relabel, hkind]))
    obtain ⟨oC₃, heC, hC₃⟩ := ns_obj hn₃
    have N₃ := news_chg N₂ (fun b o hb e => hs₃.extBut b o hb e) (.tail _ (.tail _ (.head _))) heC X.setC
    have F₃ : Fr h₀ L h₃ m := F₂.change hs₃ nC.2.1 nC.2.2
    have hx₃ : ∃ t', (fun z => if z = y then some (Value.int (j : Int) t) else m₂ z) x = some (Value.int (i : Int) t') := by
      obtain ⟨tx, ex⟩ := hx
      exact ⟨tx, by simp [hxy, ex]⟩
    refine wpAny_mono (test j oC₃ _ ys _ h₃ _ t hlt hC₃ hx₃ (by simp) F₃ N₃) (fun ok s₄ h₄ => ?_) fun _ _ e => e
    obtain ⟨rfl, h₄, tk₄, rfl, F₄, N₄⟩ := h₄
    have hlen := hI.length
    have hup := upTo_len q (i * n + j)
    have hin : i * n ≤ 9 * 10 := Nat.mul_le_mul (show i ≤ 9 by omega) hn
    have hsl : sizeLine = 16777216 := sizeLine_eq
    cases hq : q (i * n + j) with
    | true =>
      simp only [if_true]
      refine wpAny_mono (put j oC₃ _ ys _ h₄ _ t hlt hC₃ hx₃ (by simp) F₄ N₄) (fun v s₅ h₅ => ?_) fun _ _ e => e
      obtain ⟨⟨tv, rfl⟩, h₅, tk₅, rfl, F₅, N₅⟩ := h₅
      refine append_at (hsz := by rw [List.size_toArray]; omega) (N₅ (D, lst ys) (.tail _ (.tail _ (.tail _ (.head _))))).1 fun h₆ hs₆ hD₆ => ?_
      rw [lst_snoc] at hD₆
      refine ⟨n - (j + 1), by omega, j + 1, h₆, tk₅, _, ys ++ [_], oC₃, rfl, hlt, rfl, F₅.change hs₆ nD.2.1 nD.2.2, news_chg N₅ (fun b o hb e => hs₆.extBut b o hb e) (.tail _ (.tail _ (.tail _ (.head _)))) hD₆ X.setD, hC₃, hx₃, ?_⟩
      rw [show i * n + (j + 1) = (i * n + j) + 1 from rfl, upTo_yes hq]
      exact ints_append hI (.cons _ _ .nil)
    | false =>
      simp only [Bool.false_eq_true, if_false]
      refine ⟨n - (j + 1), by omega, j + 1, h₄, tk₄, _, ys, oC₃, rfl, hlt, rfl, F₄, N₄, hC₃, hx₃, ?_⟩
      rw [show i * n + (j + 1) = (i * n + j) + 1 from rfl, upTo_no hq]
      exact hI
  · obtain rfl : j = n := by omega
    refine W.done _ _ _ nJ.1 fun h₂ tk₂ hk₂ => ?_
    have F₂ : Fr h₀ L h₂ m := fr_but F hk₂ nJ.2.1.symm nJ.2.2
    refine hR _ _ oC m₂ ys F₂ (fun p hp => ?_) hC hI
    refine ⟨hk₂ _ _ ?_ (N p (.tail _ hp)).1, (N p (.tail _ hp)).2⟩
    simpa using X.notJ p hp
end
end Mine
end
section
namespace Mine
theorem sec_Cm4 : True := by
  w_top off
  trivial
end Mine
open PySem PySem.W PySem.Calls PyProof.Rows PySem.Spec PyProof.Rows.LCg
namespace Mine
section
variable {prog : Program} {w : World} {A : Around} {R : Result → Shared → Prop} {s : Shared} {h₀ : Heap} {L : Addr} {m : Str → Option Value} {env : Env}
structure Apart3 (I C D : Addr) (news : List (Addr × Obj)) : Prop where
  ic : I ≠ C
  id : I ≠ D
  cd : C ≠ D
  off : ∀ p ∈ news, p.1 ≠ I ∧ p.1 ≠ C ∧ p.1 ≠ D
theorem Apart3.setI {I C D : Addr} {news : List (Addr × Obj)} (X : Apart3 I C D news) {oI oI' oC oD : Obj} :
    ∀ p ∈ (I, oI') :: (C, oC) :: (D, oD) :: news, p = (I, oI') ∨ (p ∈ (I, oI) :: (C, oC) :: (D, oD) :: news ∧ p.1 ≠ I) := fun p hp => by
  rcases List.mem_cons.mp hp with rfl | hp
  · exact .inl rfl
  · refine .inr ⟨.tail _ hp, ?_⟩
    rcases List.mem_cons.mp hp with rfl | hp
    · exact X.ic.symm
    rcases List.mem_cons.mp hp with rfl | hp
    · exact X.id.symm
    · exact (X.off p hp).1
theorem Apart3.notI {I C D : Addr} {news : List (Addr × Obj)} (X : Apart3 I C D news) {oC oD : Obj} : ∀ p ∈ (C, oC) :: (D, oD) :: news, p.1 ≠ I := fun p hp => by
  rcases List.mem_cons.mp hp with rfl | hp
  · exact X.ic.symm
  rcases List.mem_cons.mp hp with rfl | hp
  · exact X.id.symm
  · exact (X.off p hp).1
theorem Apart3.setC {I C D : Addr} {news : List (Addr × Obj)} (X : Apart3 I C D news) {oC oC' oI oD : Obj} :
    ∀ p ∈ (I, oI) :: (C, oC') :: (D, oD) :: news, p = (C, oC') ∨ (p ∈ (I, oI) :: (C, oC) :: (D, oD) :: news ∧ p.1 ≠ C) := fun p hp => by
  rcases List.mem_cons.mp hp with rfl | hp
  · exact .inr ⟨.head _, X.ic⟩
  rcases List.mem_cons.mp hp with rfl | hp
  · exact .inl rfl
  rcases List.mem_cons.mp hp with rfl | hp
  · exact .inr ⟨.tail _ (.tail _ (.head _)), X.cd.symm⟩
  · exact .inr ⟨.tail _ (.tail _ (.tail _ hp)), (X.off p hp).2.1⟩
theorem Apart3.under {I C D J : Addr} {news : List (Addr × Obj)} (X : Apart3 I C D news) (hJ : I < J ∧ C < J ∧ D < J) (hn : ∀ p ∈ news, p.1 < J) : Apart J I C D news :=
  ⟨Nat.ne_of_gt hJ.1, Nat.ne_of_gt hJ.2.1, Nat.ne_of_gt hJ.2.2, X.ic, X.id, X.cd, fun p hp => ⟨Nat.ne_of_lt (hn p hp), X.off p hp⟩⟩
/-- what is asked of the inner clause's iterable, its test and the element -/
structure Two (prog : Program) (w : World) (A : Around) (h₀ : Heap) (L : Addr) (m : Str → Option Value) (s : Shared) (cenv : Env) (it1 c elt : Expr) (x y : Str) (n : Nat) (q : Nat → Bool) (C : Addr) (news : List (Addr × Obj)) : Prop where
  iter : ∀ (i : Nat) oC I oI D oD m₂ h tk ti, i < n → NsObj oC m₂ → m₂ x = some (.int (i : Int) ti) → Fr h₀ L h m → News h₀ L h ((I, oI) :: (C, oC) :: (D, oD) :: news) →
    wpAny (model prog w) A (eval it1 cenv) (fun xv s' => ∃ r t u v h' tk', xv = .ref r ∧ s' = { s with heap := h', toks := tk' } ∧ IsRange h' r 0 (n : Int) 1 t u v ∧ Fr h₀ L h' m ∧ News h₀ L h' ((I, oI) :: (C, oC) :: (D, oD) :: news)) none1 { s with heap := h, toks := tk }
  test : ∀ (i j : Nat) oC J oJ I oI D oD m₂ h tk tj, i < n → j < n → NsObj oC m₂ → (∃ t, m₂ x = some (.int (i : Int) t)) → m₂ y = some (.int (j : Int) tj) → Fr h₀ L h m → News h₀ L h ((J, oJ) :: (I, oI) :: (C, oC) :: (D, oD) :: news) →
    wpAny (model prog w) A (isTrue c cenv (eval c cenv)) (fun ok s' => ok = q (i * n + j) ∧ ∃ h' tk', s' = { s with heap := h', toks := tk' } ∧ Fr h₀ L h' m ∧ News h₀ L h' ((J, oJ) :: (I, oI) :: (C, oC) :: (D, oD) :: news)) none1 { s with heap := h, toks := tk }
  put : ∀ (i j : Nat) oC J oJ I oI D oD m₂ h tk tj, i < n → j < n → NsObj oC m₂ → (∃ t, m₂ x = some (.int (i : Int) t)) → m₂ y = some (.int (j : Int) tj) → Fr h₀ L h m → News h₀ L h ((J, oJ) :: (I, oI) :: (C, oC) :: (D, oD) :: news) →
    wpAny (model prog w) A (eval elt cenv) (fun v s' => (∃ t, v = .int ((i * n + j : Nat) : Int) t) ∧ ∃ h' tk', s' = { s with heap := h', toks := tk' } ∧ Fr h₀ L h' m ∧ News h₀ L h' ((J, oJ) :: (I, oI) :: (C, oC) :: (D, oD) :: news)) none1 { s with heap := h, toks := tk }
theorem outer_walk {elt it0 it1 c : Expr} {x y : Str} {px py : Pos} {scope : Scope} {pos : Pos} {cl : List (Str × Addr)} {n : Nat} {I C D : Addr} {news : List (Addr × Obj)} {h : Heap} {tk : Nat} {oC : Obj} {m₂ : Str → Option Value}
    (q : Nat → Bool) (hh : A.handled = none) (hn : n ≤ 10) (X : Apart3 I C D news) (hkind : scope.kind = .function) (hx : scope.names.lookup x = some .local) (hy : scope.names.lookup y = some .local) (hxy : x ≠ y)
    (T : Two prog w A h₀ L m s (compEnvC scope cl C env) it1 c elt x y n q C news)
    (F : Fr h₀ L h m) (N : News h₀ L h ((I, rit (0 + ((0 : Nat) : Int) * 1) ((n : Int) - ((0 : Nat) : Int))) :: (C, oC) :: (D, lst []) :: news)) (hC : NsObj oC m₂)
    (hR : ∀ h tk oC m₂ ys, Fr h₀ L h m → News h₀ L h ((C, oC) :: (D, lst ys) :: news) → NsObj oC m₂ → IntsAre ys (upTo q (n * n)) → R (.ok .next) { s with heap := h, toks := tk })
    (hs : ∀ x, foldedSetIterable it1 (compEnvC scope cl C env) x = pure x) :
    codeAny (model prog w) A (.compLoop (.ListComp elt [⟨.Name x px, it0, [], 0⟩, ⟨.Name y py, it1, [c], 0⟩] scope pos) 0 (.ref I) (.ref D) (compEnvC scope cl C env)) R { s with heap := h, toks := tk } := by
  have W := range_walks (prog := prog) (w := w) (A := A) (I := I) hh 0 n
  refine loop_outer (fun k s' => ∃ i h tk m₂ ys oC, s' = { s with heap := h, toks := tk } ∧ i ≤ n ∧ k = n - i ∧ Fr h₀ L h m ∧ News h₀ L h ((I, rit (0 + (i : Int) * 1) ((n : Int) - (i : Int))) :: (C, oC) :: (D, lst ys) :: news) ∧ NsObj oC m₂ ∧ IntsAre ys (upTo q (i * n)))
    ?_ n ⟨0, h, tk, m₂, [], oC, rfl, Nat.zero_le _, rfl, F, N, hC, by rw [Nat.zero_mul]; exact .nil⟩ (hs := hs)
  rintro k s' ⟨i, h, tk, m₂, ys, oC, rfl, hi, rfl, F, N, hC, hI⟩
  have nI := N _ (.head _)
  have nC := N (C, oC) (.tail _ (.head _))
  by_cases hlt : i < n
  · refine W.item i _ _ _ hlt nI.1 fun v h₂ tk₂ hv hst₂ hk₂ => ?_
    obtain ⟨t, rfl⟩ := hv
    rw [Int.zero_add]
    have N₂ := news_chg N (fun b o hb e => hk₂ b o (by simpa using hb) e) (.head _) hst₂ X.setI
    have F₂ : Fr h₀ L h₂ m := fr_but F hk₂ nI.2.1.symm nI.2.2
    have nC₂ := N₂ (C, oC) (.tail _ (.head _))
    refine wpAny_assign_Name (wpAny_storeName_local (lookup_relabel_local hx) (hC.ns nC₂.1) (fun h₃ hn₃ hs₃ => ?_) (by simp [compEnvC, relabel, hkind]))
    obtain ⟨oC₃, heC, hC₃⟩ := ns_obj hn₃
    have N₃ := news_chg N₂ (fun b o hb e => hs₃.extBut b o hb e) (.tail _ (.head _)) heC X.setC
    have F₃ : Fr h₀ L h₃ m := F₂.change hs₃ nC.2.1 nC.2.2
    refine wpAny_mono (T.iter i oC₃ I _ D _ _ h₃ _ t hlt hC₃ (by simp) F₃ N₃) (fun xv s₄ h₄ => ?_) fun _ _ e => e
    obtain ⟨r, t1, u1, v1, h₄, tk₄, rfl, rfl, hr, F₄, N₄⟩ := h₄
    have hsmall : Builtin.Range.small 0 (n : Int) 1 = true := small_one (by omega) (by omega) (by omega) (by omega)
    have hn' : Builtin.Range.rangeSize 0 (n : Int) 1 = (n : Int) := by rw [rangeSize_nat]; omega
    refine wpAny_pyIter_range hr hsmall ?_
    rw [hn']
    have up : ∀ b o, h₄.get? b = some o → (h₄.push (rit 0 (n : Int))).get? b = some o := fun b o e => Heap.get?_push_of_some _ e
    have XJ : Apart h₄.objs.size I C D news := X.under ⟨Heap.lt_size (N₄ _ (.head _)).1, Heap.lt_size (N₄ (C, oC₃) (.tail _ (.head _))).1, Heap.lt_size (N₄ (D, lst ys) (.tail _ (.tail _ (.head _)))).1⟩
      fun p hp => Heap.lt_size (N₄ p (.tail _ (.tail _ (.tail _ hp)))).1
    have nJ : News h₀ L (h₄.push (rit 0 (n : Int))) ((h₄.objs.size, rit (0 + ((0 : Nat) : Int) * 1) ((n : Int) - ((0 : Nat) : Int))) :: (I, rit (0 + ((i + 1 : Nat) : Int) * 1) ((n : Int) - ((i + 1 : Nat) : Int))) :: (C, oC₃) :: (D, lst ys) :: news) := fun p hp => by
      rcases List.mem_cons.mp hp with rfl | hp
      · refine ⟨by simpa using Heap.get?_push_size _ rfl, Nat.ne_of_gt F₄.ns.lt, ?_⟩
        cases e : h₀.get? h₄.objs.size with
        | none => rfl
        | some o' => exact absurd (Heap.lt_size (F₄.keep _ o' e)) (Nat.lt_irrefl _)
      · exact ⟨up _ _ (N₄ p hp).1, (N₄ p hp).2⟩
    have go : codeAny (model prog w) (A.mark none) (.compLoop (.ListComp elt [⟨.Name x px, it0, [], 0⟩, ⟨.Name y py, it1, [c], 0⟩] scope pos) 1 (.ref h₄.objs.size) (.ref D) (compEnvC scope cl C env))
        (fun r s₅ => match r with | .ok _ => ∃ m', m' < n - i ∧ ∃ i h tk m₂ ys oC, s₅ = { s with heap := h, toks := tk } ∧ i ≤ n ∧ m' = n - i ∧ Fr h₀ L h m ∧ News h₀ L h ((I, rit (0 + (i : Int) * 1) ((n : Int) - (i : Int))) :: (C, oC) :: (D, lst ys) :: news) ∧ NsObj oC m₂ ∧ IntsAre ys (upTo q (i * n)) | .error _ => False)
        { s with heap := h₄.push (rit 0 (n : Int)), toks := tk₄ } := by
      refine inner_walk (A := A.mark none) (ti := t) q hh hn hlt XJ hkind hy hxy (fun j oC oJ ys m₂ h tk tj hj a1 a2 a3 a4 a5 => T.test i j oC _ oJ _ _ _ _ m₂ h tk tj hlt hj a1 a2 a3 a4 a5)
        (fun j oC oJ ys m₂ h tk tj hj a1 a2 a3 a4 a5 => T.put i j oC _ oJ _ _ _ _ m₂ h tk tj hlt hj a1 a2 a3 a4 a5) (F₄.keeps up) nJ hC₃ (by simp) hI ?_
      intro h₅ tk₅ oC₅ m₅ ys₅ F₅ N₅ hC₅ hI₅
      refine ⟨n - (i + 1), by omega, i + 1, h₅, tk₅, m₅, ys₅, oC₅, rfl, hlt, rfl, F₅, N₅, hC₅, ?_⟩
      rw [Nat.succ_mul]
      exact hI₅
    exact start_inner go (wpAny_pyIter_rangeiter (nJ _ (.head _)).1 go)
  · obtain rfl : i = n := by omega
    refine W.done _ _ _ nI.1 fun h₂ tk₂ hk₂ => ?_
    have F₂ : Fr h₀ L h₂ m := fr_but F hk₂ nI.2.1.symm nI.2.2
    refine hR _ _ oC m₂ ys F₂ (fun p hp => ?_) hC hI
    refine ⟨hk₂ _ _ ?_ (N p (.tail _ hp)).1, (N p (.tail _ hp)).2⟩
    simpa using X.notI p hp
end
end Mine
end
section
namespace Mine
theorem sec_Cm5 : True := by
  w_top off
  trivial
end Mine
open PySem PySem.W PySem.Calls PyProof.Rows PySem.Spec PyProof.Rows.LCg
namespace Mine
section
variable {prog : Program} {w : World} {A : Around} {E : Value → Shared → Prop} {s : Shared} {h₀ : Heap} {L : Addr} {m : Str → Option Value} {env : Env}
theorem list_two {elt it0 it1 c : Expr} {x y : Str} {px py : Pos} {scope : Scope} {pos : Pos} {cl : List (Str × Addr)} {n : Nat} {news : List (Addr × Obj)} {Q : Value → Shared → Prop} (q : Nat → Bool)
    (_F₀ : Fr h₀ L s.heap m) (_N₀ : News h₀ L s.heap news) (hh : A.handled = none) (hn : n ≤ 10) (hclos : closureFor scope env = pure cl) (hcell : ∀ y ∈ scope.names, y.2 ≠ .cell) (hkind : scope.kind = .function)
    (hnames : ∀ y ∈ scope.names, y.2 = .local → scope.names.lookup y.1 = some .local) (hx : scope.names.lookup x = some .local) (hy : scope.names.lookup y = some .local) (hxy : x ≠ y)
    (hs0 : ∀ x, foldedSetIterable it0 env x = pure x) (hs1 : ∀ C x, foldedSetIterable it1 (compEnvC scope cl C env) x = pure x)
    (first : wpAny (model prog w) A (eval it0 env) (fun xv s₁ => ∃ r t u v h' tk', xv = .ref r ∧ s₁ = { s with heap := h', toks := tk' } ∧ IsRange h' r 0 (n : Int) 1 t u v ∧ Fr h₀ L h' m ∧ News h₀ L h' news) E s)
    (T : ∀ C, Two prog w A h₀ L m s (compEnvC scope cl C env) it1 c elt x y n q C news)
    (hQ : ∀ D ys h tk, Fr h₀ L h m → News h₀ L h ((D, lst ys) :: news) → (∀ p ∈ news, p.1 ≠ D) → IntsAre ys (upTo q (n * n)) → Q (.ref D) { s with heap := h, toks := tk }) :
    wpAny (model prog w) A (eval (.ListComp elt [⟨.Name x px, it0, [], 0⟩, ⟨.Name y py, it1, [c], 0⟩] scope pos) env) Q E s := by
  rw [eval_ListComp]
  refine wpAny_comprehension_free (use := none) rfl hs0 hclos hkind hnames (wpAny_mono first (fun xv s₁ h₁ => ?_) fun _ _ e => e)
  obtain ⟨r, t, u, v, h', tk', rfl, rfl, hr, F, N⟩ := h₁
  have hsmall : Builtin.Range.small 0 (n : Int) 1 = true := small_one (by omega) (by omega) (by omega) (by omega)
  have hn' : Builtin.Range.rangeSize 0 (n : Int) 1 = (n : Int) := by rw [rangeSize_nat]; omega
  refine wpAny_pyIter_range hr hsmall ?_
  rw [hn']
  refine wpAny_newObj_type (wpAny_newFunctionEnv hcell (by intro y hy; simp at hy) (fun h₁ hns₁ hsb₁ => ?_) hkind)
  dsimp only at hns₁ hsb₁ ⊢
  generalize hH1 : h'.push (rit 0 (n : Int)) = H1 at hns₁ hsb₁ ⊢
  generalize hH2 : H1.push { cls := .type "list", dict := none, data := .seq ([] : List Value).toArray } = H2 at hns₁ hsb₁ ⊢
  have hD : H1.objs.size = h'.objs.size + 1 := by rw [← hH1, Heap.size_push]
  have hC : H2.objs.size = H1.objs.size + 1 := by rw [← hH2, Heap.size_push]
  have hDC : H1.objs.size ≠ H2.objs.size := by rw [hC]; exact Nat.ne_of_lt (Nat.lt_succ_self _)
  have old : ∀ b o, h'.get? b = some o → h₁.get? b = some o := fun b o e => hsb₁.extBut b o (Nat.ne_of_lt (by rw [hC, hD]; exact Nat.lt_succ_of_lt (Nat.lt_succ_of_lt (Heap.lt_size e))))
    (Heap.get?_push_of_some _ (hH2 ▸ Heap.get?_push_of_some _ (hH1 ▸ Heap.get?_push_of_some _ e)))
  have hacc : h₁.get? H1.objs.size = some (lst []) := hsb₁.extBut _ _ hDC (Heap.get?_push_of_some _ (hH2 ▸ Heap.get?_push_size _ rfl))
  have hit : h₁.get? h'.objs.size = some (rit 0 (n : Int)) := hsb₁.extBut _ _ (Nat.ne_of_lt (by rw [hC, hD]; exact Nat.lt_succ_of_lt (Nat.lt_succ_self _))) (Heap.get?_push_of_some _ (hH2 ▸ Heap.get?_push_of_some _ (hH1 ▸ Heap.get?_push_size _ rfl)))
  obtain ⟨oC, heC, hoC⟩ := ns_obj hns₁
  have fresh₀ : ∀ a, h'.objs.size ≤ a → h₀.get? a = none := fun a ha => by
    cases e : h₀.get? a with
    | none => rfl
    | some o' => exact absurd (Heap.lt_size (F.keep a o' e)) (Nat.not_lt.mpr ha)
  have hL := F.ns.lt
  have X : Apart3 h'.objs.size H2.objs.size H1.objs.size news := by
    refine ⟨?_, ?_, Ne.symm hDC, fun p hp => ?_⟩
    · rw [hC, hD]; exact Nat.ne_of_lt (Nat.lt_succ_of_lt (Nat.lt_succ_self _))
    · rw [hD]; exact Nat.ne_of_lt (Nat.lt_succ_self _)
    · have := Heap.lt_size (N p hp).1
      rw [hC, hD]
      exact ⟨Nat.ne_of_lt this, Nat.ne_of_lt (Nat.lt_succ_of_lt (Nat.lt_succ_of_lt this)), Nat.ne_of_lt (Nat.lt_succ_of_lt this)⟩
  have N₁ : News h₀ L h₁ ((h'.objs.size, rit (0 + ((0 : Nat) : Int) * 1) ((n : Int) - ((0 : Nat) : Int))) :: (H2.objs.size, oC) :: (H1.objs.size, lst []) :: news) := fun p hp => by
    rcases List.mem_cons.mp hp with rfl | hp
    · exact ⟨by simpa using hit, Nat.ne_of_gt hL, fresh₀ _ (Nat.le_refl _)⟩
    rcases List.mem_cons.mp hp with rfl | hp
    · exact ⟨heC, Nat.ne_of_gt (by rw [hC, hD]; exact Nat.lt_succ_of_lt (Nat.lt_succ_of_lt hL)), fresh₀ _ (by rw [hC, hD]; exact Nat.le_succ_of_le (Nat.le_succ _))⟩
    rcases List.mem_cons.mp hp with rfl | hp
    · exact ⟨hacc, Nat.ne_of_gt (by rw [hD]; exact Nat.lt_succ_of_lt hL), fresh₀ _ (by rw [hD]; exact Nat.le_succ _)⟩
    · exact ⟨old _ _ (N p hp).1, (N p hp).2⟩
  have loop : ∀ s₃ : Shared, s₃ = { s with heap := h₁, toks := tk' + ([] : List (Str × Value)).length } →
      codeAny (model prog w) A (.compLoop (.ListComp elt [⟨.Name x px, it0, [], 0⟩, ⟨.Name y py, it1, [c], 0⟩] scope pos) 0 (.ref h'.objs.size) (.ref H1.objs.size) (compEnvC scope cl H2.objs.size env))
        (compPost (model prog w) A E none Q (.ref H1.objs.size) H2.objs.size) s₃ := by
    rintro s₃ rfl
    refine outer_walk q hh hn X hkind hx hy hxy (T H2.objs.size) (F.keeps old) N₁ hoC ?_ (hs1 _)
    intro h tk oC₂ m₂ ys F₂ N₂ hC₂ hI₂
    have nC := N₂ _ (.head _)
    refine ⟨m₂, hC₂.ns nC.1, fun h'' hs'' => hQ _ ys h'' tk (F₂.change hs'' nC.2.1 nC.2.2) (fun p hp => ?_) (fun p hp => (X.off p hp).2.2) hI₂⟩
    refine ⟨hs''.extBut _ _ ?_ (N₂ p (.tail _ hp)).1, (N₂ p (.tail _ hp)).2⟩
    rcases List.mem_cons.mp hp with rfl | hp
    · exact hDC
    · exact (X.off p hp).2.1
  exact codeAny_compStart_list (loop _ rfl) (wpAny_pyIter_rangeiter hit (loop _ rfl))
end
end Mine
end
section
namespace Mine
theorem sec_S7 : True := by
  w_top off
  trivial
end Mine
open PySem PySem.W PySem.Calls PyProof.Rows PySem.Spec
namespace Mine
local macro_rules | `(tactic| k_all) => `(tactic| assumption)
local macro_rules | `(tactic| k_mem) => `(tactic| ((repeat refine List.Mem.tail _ ?_); assumption))
set_option maxRecDepth 100000 in
set_option maxHeartbeats 8000000 in
theorem leads_ok {prog w p loose mean mg mb} (news : List (Addr × Obj)) (lr : Addr) (vr : List Value) (cr : Nat) (row : List Int) (n : Nat)
    (hlr : (lr, listOf (List.toArray vr) cr) ∈ news) (hir : IntsAre vr row) (nr : row.length = n) (hn : n ≤ 10) (bx : ∀ i : Nat, -100000000 ≤ row.getD i 0 ∧ row.getD i 0 ≤ 100000000) :
    CallOk prog w (Mine.hd.heap_39 w.params) p loose mean mg mb 59 5 48 news [.ref lr]
      (fun r tl => ∃ D ys c, r = .ref D ∧ tl = [(D, listOf (List.toArray ys) c)] ∧ IntsAre ys (upTo (atBoth n (fun i j => row.getD j 0 < row.getD i 0)) (n * n)) ∧ ∀ p ∈ news, p.1 ≠ D) := by
  have hfill : PySem.Challenge.rw_tx0016_01 = PySem.Challenge.rw_tx0016_01 ∧ Mine.hd.heap_39 = Mine.hd.heap_39 := by
    k_fill
    exact ⟨rfl, rfl⟩
  clear hfill
  unfold CallOk
  intro dp un gd cn cs a ccd cl outer A₀ base h₀ L m s Q E B F X N T hk hd hu hret
  refine wpAny_call ?_
  k_dflt (refine' code_defC ?k1 ?k2 ?k3 ?k4 ?k5 ?kA ?kF ?kK ?k6 ?k7 ?k8 ?k9 ?kB ?kD ?_ ?c2 ?c3 ?c4; (case kA => exact rfl); (case kF => exact rfl); (case kK => assumption); (case k1 => k_asm); (case k2 => k_asm); (case k3 => k_asm); (case k4 => k_asm); (case k5 => k_asm); (case k6 => k_is); (case k7 => k_is); (case k8 => ktr_room); (case k9 => exact BindsTo.of_eq rfl); (case kB => exact rfl); (case kD => decide +kernel); (case c2 => exact rfl); (case c3 => exact rfl); (case c4 => exact rfl); k_whole; intro g' L' h' tk' cells' FG' F' N' Y' B' X' T' l1; (try k_lt l1); k_cells Y'; (try simp only [List.cons_append, List.nil_append] at N'); (try dsimp only); (try k_fold))
  rename (∀ p ∈ news, p.1 < _) => hl1
  have hnA := fun p hp => Nat.ne_of_lt (Nat.lt_succ_of_lt (hl1 p hp))
  have hnB := fun p hp => Nat.ne_of_lt (Nat.lt_succ_of_lt (Nat.lt_succ_of_lt (hl1 p hp)))
  repeat' ((fail_if_success (with_reducible show wpAny _ _ (exec (Stmt.While _ _ _ _) _) _ _ _)); (fail_if_success (with_reducible show wpAny _ _ (exec (Stmt.For _ _ _ _ _) _) _ _ _)); (fail_if_success (with_reducible show wpAny _ _ (pyIter _) _ _ _)); (fail_if_success (with_reducible show wpAny _ _ (eval (Expr.ListComp _ _ _ _) _) _ _ _)); first | (k_here; (with_reducible show wpAny _ _ (call (Value.ref 28) [Value.int _ _, Value.int _ _]) _ _ _); (k_dflt ((refine' CallOk.use (cmp_ok _ _ _ _ _) ?k1 ?k2 ?k3 ?k4 ?k5 ?kK ?kd ?ku ?_); (case k1 => k_asm); (case k2 => k_asm); (case k3 => k_asm); (case k4 => k_asm); (case k5 => k_asm); (case kK => exact rfl); (case kd => first | omega | (rw [top_depth]; omega)); (case ku => first | omega | (rw [top_units]; omega)))); intro r9 tl9 h9 tk9 p9 F9 N9; (obtain ⟨e9, t9, e9'⟩ := p9); (subst e9); (subst e9'); (simp only [List.nil_append] at N9); (try dsimp only); (with_reducible rename (cmp3 _ _ = _) => hc9); (rw [hc9]); (try k_fold)) | (k_here; (with_reducible show wpAny _ _ (call (Value.builtin "len") [Value.ref _]) _ _ _); k_dflt (refine' len_ints ?hl ?hi ?hn ?hb ?_; (case hl => exact News.isList (by k_asm) (by k_mem)); (case hi => assumption); (case hn => assumption); (case hb => omega))) | (k_unfold; (try dsimp only)) | (k_end; wrow_close) | walk1 | (dsimp only; walk1) | (leave1; walk_say "STEP leave1"; try dsimp only) | fail "no step")
  rename Fr _ _ _ _ => F1
  rename News _ _ _ _ => N1
  (with_unfolding_all refine' list_two (n := n) (atBoth n (fun i j => row.getD j 0 < row.getD i 0)) F1 N1 rfl hn ?clos ?cell rfl ?names rfl rfl ?hxy ?hs0 ?hs1 ?first ?T ?hQ)
  case clos => with_unfolding_all rfl
  case cell => decide
  case names => decide
  case hxy => decide
  case hs0 => exact fun _ => rfl
  case hs1 => exact fun _ _ => rfl
  case first =>
    repeat' ((fail_if_success (with_reducible show wpAny _ _ (exec (Stmt.While _ _ _ _) _) _ _ _)); (fail_if_success (with_reducible show wpAny _ _ (exec (Stmt.For _ _ _ _ _) _) _ _ _)); first | (k_here; (with_reducible show wpAny _ _ (call (Value.ref 28) [Value.int _ _, Value.int _ _]) _ _ _); (k_dflt ((refine' CallOk.use (cmp_ok _ _ _ _ _) ?k1 ?k2 ?k3 ?k4 ?k5 ?kK ?kd ?ku ?_); (case k1 => k_asm); (case k2 => k_asm); (case k3 => k_asm); (case k4 => k_asm); (case k5 => k_asm); (case kK => exact rfl); (case kd => first | omega | (rw [top_depth]; omega)); (case ku => first | omega | (rw [top_units]; omega)))); intro r9 tl9 h9 tk9 p9 F9 N9; (obtain ⟨e9, t9, e9'⟩ := p9); (subst e9); (subst e9'); (simp only [List.nil_append] at N9); (try dsimp only); (with_reducible rename (cmp3 _ _ = _) => hc9); (rw [hc9]); (try k_fold)) | (k_here; (with_reducible show wpAny _ _ (call (Value.builtin "len") [Value.ref _]) _ _ _); k_dflt (refine' len_ints ?hl ?hi ?hn ?hb ?_; (case hl => exact News.isList (by k_asm) (by k_mem)); (case hi => assumption); (case hn => assumption); (case hb => omega))) | (k_unfold; (try dsimp only)) | (k_end; wrow_close) | walk1 | (dsimp only; walk1) | (leave1; walk_say "STEP leave1"; try dsimp only) | fail "no step")
    all_goals assumption
  case T =>
    intro C
    refine ⟨?iter, ?test, ?put⟩
    case iter =>
      intro i oC I oI D oD m₂ h tk ti hi hC hx F2 N2
      clear F1 N1
      repeat' ((fail_if_success (with_reducible show wpAny _ _ (exec (Stmt.While _ _ _ _) _) _ _ _)); (fail_if_success (with_reducible show wpAny _ _ (exec (Stmt.For _ _ _ _ _) _) _ _ _)); first | (k_here; (with_reducible show wpAny _ _ (call (Value.ref 28) [Value.int _ _, Value.int _ _]) _ _ _); (k_dflt ((refine' CallOk.use (cmp_ok _ _ _ _ _) ?k1 ?k2 ?k3 ?k4 ?k5 ?kK ?kd ?ku ?_); (case k1 => k_asm); (case k2 => k_asm); (case k3 => k_asm); (case k4 => k_asm); (case k5 => k_asm); (case kK => exact rfl); (case kd => first | omega | (rw [top_depth]; omega)); (case ku => first | omega | (rw [top_units]; omega)))); intro r9 tl9 h9 tk9 p9 F9 N9; (obtain ⟨e9, t9, e9'⟩ := p9); (subst e9); (subst e9'); (simp only [List.nil_append] at N9); (try dsimp only); (with_reducible rename (cmp3 _ _ = _) => hc9); (rw [hc9]); (try k_fold)) | (k_here; (with_reducible show wpAny _ _ (call (Value.builtin "len") [Value.ref _]) _ _ _); k_dflt (refine' len_ints ?hl ?hi ?hn ?hb ?_; (case hl => exact News.isList (by k_asm) (by k_mem)); (case hi => assumption); (case hn => assumption); (case hb => omega))) | (k_unfold; (try dsimp only)) | (k_end; wrow_close) | walk1 | (dsimp only; walk1) | (leave1; walk_say "STEP leave1"; try dsimp only) | fail "no step")
      all_goals assumption
    case test =>
      intro i j oC J oJ I oI D oD m₂ h tk tj hi hj hC hx hy F2 N2
      clear F1 N1
      obtain ⟨ti, hx⟩ := hx
      have ez1 : row.getD ((i : Nat) : Int).toNat 0 = row.getD i 0 := by rw [Int.toNat_natCast]
      have ez2 : row.getD ((j : Nat) : Int).toNat 0 = row.getD j 0 := by rw [Int.toNat_natCast]
      rcases cmp3_cases (row.getD ((i : Nat) : Int).toNat 0) (row.getD ((j : Nat) : Int).toNat 0) with ⟨hc1, hc⟩ | ⟨hc1, hc⟩ | ⟨hc1, hc⟩
      all_goals (
        repeat' ((fail_if_success (with_reducible show wpAny _ _ (exec (Stmt.While _ _ _ _) _) _ _ _)); (fail_if_success (with_reducible show wpAny _ _ (exec (Stmt.For _ _ _ _ _) _) _ _ _)); first | (k_here; (with_reducible show wpAny _ _ (call (Value.ref 28) [Value.int _ _, Value.int _ _]) _ _ _); (k_dflt ((refine' CallOk.use (cmp_ok _ _ _ _ _) ?k1 ?k2 ?k3 ?k4 ?k5 ?kK ?kd ?ku ?_); (case k1 => k_asm); (case k2 => k_asm); (case k3 => k_asm); (case k4 => k_asm); (case k5 => k_asm); (case kK => exact rfl); (case kd => first | omega | (rw [top_depth]; omega)); (case ku => first | omega | (rw [top_units]; omega)))); intro r9 tl9 h9 tk9 p9 F9 N9; (obtain ⟨e9, t9, e9'⟩ := p9); (subst e9); (subst e9'); (simp only [List.nil_append] at N9); (try dsimp only); (with_reducible rename (cmp3 _ _ = _) => hc9); (rw [hc9]); (try k_fold)) | (k_here; (with_reducible show wpAny _ _ (call (Value.builtin "len") [Value.ref _]) _ _ _); k_dflt (refine' len_ints ?hl ?hi ?hn ?hb ?_; (case hl => exact News.isList (by k_asm) (by k_mem)); (case hi => assumption); (case hn => assumption); (case hb => omega))) | (k_unfold; (try dsimp only)) | (k_end; wrow_close) | walk1 | (dsimp only; walk1) | (leave1; walk_say "STEP leave1"; try dsimp only) | fail "no step")
        all_goals first | assumption | (rw [atBoth_at hj]; refine (decide_eq_false ?_).symm; omega) | (rw [atBoth_at hj]; refine (decide_eq_true ?_).symm; omega) | skip)
    case put =>
      intro i j oC J oJ I oI D oD m₂ h tk tj hi hj hC hx hy F2 N2
      clear F1 N1
      obtain ⟨ti, hx⟩ := hx
      have l3 : i * n ≤ 9 * 10 := Nat.mul_le_mul (show i ≤ 9 by omega) hn
      repeat' ((fail_if_success (with_reducible show wpAny _ _ (exec (Stmt.While _ _ _ _) _) _ _ _)); (fail_if_success (with_reducible show wpAny _ _ (exec (Stmt.For _ _ _ _ _) _) _ _ _)); first | (k_here; (with_reducible show wpAny _ _ (call (Value.ref 28) [Value.int _ _, Value.int _ _]) _ _ _); (k_dflt ((refine' CallOk.use (cmp_ok _ _ _ _ _) ?k1 ?k2 ?k3 ?k4 ?k5 ?kK ?kd ?ku ?_); (case k1 => k_asm); (case k2 => k_asm); (case k3 => k_asm); (case k4 => k_asm); (case k5 => k_asm); (case kK => exact rfl); (case kd => first | omega | (rw [top_depth]; omega)); (case ku => first | omega | (rw [top_units]; omega)))); intro r9 tl9 h9 tk9 p9 F9 N9; (obtain ⟨e9, t9, e9'⟩ := p9); (subst e9); (subst e9'); (simp only [List.nil_append] at N9); (try dsimp only); (with_reducible rename (cmp3 _ _ = _) => hc9); (rw [hc9]); (try k_fold)) | (k_here; (with_reducible show wpAny _ _ (call (Value.builtin "len") [Value.ref _]) _ _ _); k_dflt (refine' len_ints ?hl ?hi ?hn ?hb ?_; (case hl => exact News.isList (by k_asm) (by k_mem)); (case hi => assumption); (case hn => assumption); (case hb => omega))) | (k_unfold; (try dsimp only)) | (k_end; wrow_close) | walk1 | (dsimp only; walk1) | (leave1; walk_say "STEP leave1"; try dsimp only) | fail "no step")
      all_goals first | assumption | skip
  case hQ =>
    intro D ys h tk F2 N2 hne hI
    dsimp only
    repeat' ((fail_if_success (with_reducible show wpAny _ _ (exec (Stmt.While _ _ _ _) _) _ _ _)); (fail_if_success (with_reducible show wpAny _ _ (exec (Stmt.For _ _ _ _ _) _) _ _ _)); first | (k_here; (with_reducible show wpAny _ _ (call (Value.ref 28) [Value.int _ _, Value.int _ _]) _ _ _); (k_dflt ((refine' CallOk.use (cmp_ok _ _ _ _ _) ?k1 ?k2 ?k3 ?k4 ?k5 ?kK ?kd ?ku ?_); (case k1 => k_asm); (case k2 => k_asm); (case k3 => k_asm); (case k4 => k_asm); (case k5 => k_asm); (case kK => exact rfl); (case kd => first | omega | (rw [top_depth]; omega)); (case ku => first | omega | (rw [top_units]; omega)))); intro r9 tl9 h9 tk9 p9 F9 N9; (obtain ⟨e9, t9, e9'⟩ := p9); (subst e9); (subst e9'); (simp only [List.nil_append] at N9); (try dsimp only); (with_reducible rename (cmp3 _ _ = _) => hc9); (rw [hc9]); (try k_fold)) | (k_here; (with_reducible show wpAny _ _ (call (Value.builtin "len") [Value.ref _]) _ _ _); k_dflt (refine' len_ints ?hl ?hi ?hn ?hb ?_; (case hl => exact News.isList (by k_asm) (by k_mem)); (case hi => assumption); (case hn => assumption); (case hb => omega))) | (k_unfold; (try dsimp only)) | (k_end; wrow_close) | walk1 | (dsimp only; walk1) | (leave1; walk_say "STEP leave1"; try dsimp only) | fail "no step")
    rename News _ _ _ _ => N9
    exact hret _ [(D, listOf (List.toArray ys) ys.length)] _ _ ⟨D, ys, _, rfl, rfl, hI, fun p hp => hne p (.tail _ (.tail _ hp))⟩ (by assumption) (fun p hp => N9 p (by
      rcases List.mem_cons.mp hp with rfl | hp
      · exact .head _
      · exact .tail _ (by first | exact hp | exact .tail _ (.tail _ hp))))
end Mine
end
section
namespace Mine
theorem sec_Lv : True := by
  w_top off
  trivial
end Mine
open PySem PySem.W PyProof.Rows
namespace Mine
/-- the sum of the first costs -/
noncomputable def Sd (d : Nat → Int) : Nat → Int
  | 0 => 0
  | k + 1 => Sd d k + d k
theorem Sd_bounds {d : Nat → Int} (hd : ∀ k, 0 ≤ d k ∧ d k ≤ 1) : ∀ k, 0 ≤ Sd d k ∧ Sd d k ≤ k
  | 0 => by show 0 ≤ (0 : Int) ∧ (0 : Int) ≤ 0; omega
  | k + 1 => by
    have := Sd_bounds hd k
    have := hd k
    show 0 ≤ Sd d k + d k ∧ Sd d k + d k ≤ ((k + 1 : Nat) : Int)
    omega
theorem Sd_mono {d : Nat → Int} (hd : ∀ k, 0 ≤ d k ∧ d k ≤ 1) {a : Nat} : ∀ {b : Nat}, a ≤ b → Sd d a ≤ Sd d b
  | 0, h => by rw [Nat.le_zero.mp h]; omega
  | b + 1, h => by
    by_cases e : a = b + 1
    · rw [e]; omega
    · have := Sd_mono hd (a := a) (b := b) (by omega)
      have := hd b
      show Sd d a ≤ Sd d b + d b
      omega
/-- the table of two words of one length -/
noncomputable def D1 (d : Nat → Int) (i j : Nat) : Int := if i ≤ j then 2 * ((j : Int) - i) + Sd d i else 2 * ((i : Int) - j) + Sd d j
theorem D1_le {d : Nat → Int} {i j : Nat} (h : i ≤ j) : D1 d i j = 2 * ((j : Int) - i) + Sd d i := if_pos h
theorem D1_ge {d : Nat → Int} {i j : Nat} (h : j ≤ i) : D1 d i j = 2 * ((i : Int) - j) + Sd d j := by
  unfold D1
  by_cases e : i = j
  · subst e; rw [if_pos (Nat.le_refl _)]
  · rw [if_neg (by omega)]
theorem dp_even {A B : Str} {c : Int} {M : Nat} {d : Nat → Int} (hd : ∀ k, 0 ≤ d k ∧ d k ≤ 1) (hA : A.length = M) (hB : B.length = M) (h0 : 0 < M) (h1 : M ≤ 12)
    (hs : ∀ i j, i < M → j < M → sub (Txt.item B (i : Int)) (Txt.item A (j : Int)) = if i = j then d i else 2) (hc : Sd d M ≤ c) : DpOk A B c (D1 d) := by
  refine ⟨by omega, by omega, by omega, by omega, fun j => ?_, fun i => ?_, fun i j => ?_, fun i j hi hj => ?_, fun i j hi hj => ?_, fun i hi => ⟨i, by omega, ?_⟩⟩
  · rw [D1_le (Nat.zero_le _)]; show 2 * ((j : Int) - (0 : Nat)) + 0 = _; omega
  · rw [D1_ge (Nat.zero_le _)]; show 2 * ((i : Int) - (0 : Nat)) + 0 = _; omega
  · rcases Nat.le_total i j with h | h
    · rw [D1_le h]; have := Sd_bounds hd i; omega
    · rw [D1_ge h]; have := Sd_bounds hd j; omega
  · rcases Nat.le_total i j with h | h
    · rw [D1_le h]; have := Sd_bounds hd i; omega
    · rw [D1_ge h]; have := Sd_bounds hd j; omega
  · rw [hs i j (by omega) (by omega)]
    have bi := Sd_bounds hd i
    have bj := Sd_bounds hd j
    have di := hd i
    have dj := hd j
    have ei : Sd d (i + 1) = Sd d i + d i := rfl
    have ej : Sd d (j + 1) = Sd d j + d j := rfl
    clear hs hc hA hB h0 h1 hi hj
    rcases Nat.lt_trichotomy i j with h | h | h
    · rw [if_neg (by omega), if_neg (by omega), D1_le (i := i + 1) (j := j + 1) (by omega), D1_le (i := i + 1) (j := j) (by omega), D1_le (i := i) (j := j + 1) (by omega), D1_le (i := i) (j := j) (by omega), ei]
      clear hd ei ej dj bj bi
      omega
    · subst h
      rw [if_pos rfl, D1_le (i := i + 1) (j := i + 1) (by omega), D1_ge (i := i + 1) (j := i) (by omega), D1_le (i := i) (j := i + 1) (by omega), D1_le (i := i) (j := i) (by omega), ei]
      split <;> omega
    · rw [if_neg (show ¬ i = j by omega), D1_ge (i := i + 1) (j := j + 1) (by omega), D1_ge (i := i + 1) (j := j) (by omega), D1_ge (i := i) (j := j + 1) (by omega), D1_ge (i := i) (j := j) (by omega), ej]
      split
      · rename_i hj0
        subst hj0
        have e0 : Sd d 0 = 0 := rfl
        omega
      · omega
  · rw [D1_le (Nat.le_refl _)]
    have := Sd_mono hd (a := i + 1) (b := M) (by omega)
    omega
/-- the table of a word with a figure in front, and a word -/
noncomputable def D2 (d : Nat → Int) (i j : Nat) : Int :=
  if j < i then 2 * ((i : Int) - j) + Sd d j else if i = 0 then 2 * (j : Int) else min (2 * (j : Int)) (2 * ((j : Int) - i) + 4 + Sd d (i - 1))
theorem D2_gt {d : Nat → Int} {i j : Nat} (h : j < i) : D2 d i j = 2 * ((i : Int) - j) + Sd d j := if_pos h
theorem D2_zero {d : Nat → Int} {j : Nat} : D2 d 0 j = 2 * (j : Int) := by
  unfold D2
  rw [if_neg (by omega), if_pos rfl]
theorem D2_le {d : Nat → Int} {i j : Nat} (h : i + 1 ≤ j) : D2 d (i + 1) j = min (2 * (j : Int)) (2 * ((j : Int) - ((i + 1 : Nat) : Int)) + 4 + Sd d i) := by
  unfold D2
  rw [if_neg (by omega), if_neg (by omega)]
  rfl
theorem minc {a b x y : Int} (h : a = x) (k : b = y) : min a b = min x y := by rw [h, k]
theorem min_step {p q u e : Int} (h1 : e ≤ 1) : min (p + 2) (q + 2 + u + e) = min (min (min p (q + u + e)) (min (p + 2) (q + 4 + u)) + 2) (min p (q + 2 + u) + 2) := by
  have a : min p (q + u + e) ≤ min (p + 2) (q + 4 + u) := Int.le_min.mpr ⟨Int.le_trans (Int.min_le_left ..) (by omega), Int.le_trans (Int.min_le_right ..) (by omega)⟩
  have b : min p (q + u + e) ≤ min p (q + 2 + u) := Int.le_min.mpr ⟨Int.min_le_left .., Int.le_trans (Int.min_le_right ..) (by omega)⟩
  rw [Int.min_eq_left a, Int.min_eq_left (Int.add_le_add_right b 2)]
  omega
theorem min_turn {p u e : Int} (h2 : u + e ≤ p) (h1 : e ≤ 1) : min (p + 2) (4 + u + e) = min (min (2 + u + e) (min (p + 2) (6 + u)) + 2) (min p (4 + u) + 2) := by
  have a : 2 + u + e ≤ min (p + 2) (6 + u) := Int.le_min.mpr ⟨by omega, by omega⟩
  rw [Int.min_eq_left a]
  omega
theorem D2_under {d : Nat → Int} (hd : ∀ k, 0 ≤ d k ∧ d k ≤ 1) {i j : Nat} (h : j < i) : D2 d (i + 1 + 1) (j + 1) = min (min (if j = 0 then 2 * ((i + 1 : Nat) : Int) else D2 d (i + 1 + 1) j) (D2 d (i + 1) (j + 1)) + 2) (D2 d (i + 1) j + 2) := by
  have ej : Sd d (j + 1) = Sd d j + d j := rfl
  have dj := (hd j).2
  rw [D2_gt (i := i + 1 + 1) (j := j + 1) (by omega), D2_gt (i := i + 1 + 1) (j := j) (by omega), D2_gt (i := i + 1) (j := j) (by omega), D2_gt (i := i + 1) (j := j + 1) (by omega), ej]
  clear ej
  split
  · rename_i hz
    subst hz
    have e0 : Sd d 0 = 0 := rfl
    rw [e0]
    clear hd e0
    omega
  · generalize Sd d j = u
    generalize d j = e at *
    clear hd
    omega
theorem D2_same {d : Nat → Int} (hd : ∀ k, 0 ≤ d k ∧ d k ≤ 1) {i : Nat} : D2 d (i + 1 + 1) (i + 1) = min (min (if i = 0 then 2 * ((i + 1 : Nat) : Int) else D2 d (i + 1 + 1) i) (D2 d (i + 1) (i + 1)) + 2) (D2 d (i + 1) i + d i) := by
  have ei : Sd d (i + 1) = Sd d i + d i := rfl
  have di := (hd i).2
  have bi := Sd_bounds hd i
  rw [D2_gt (i := i + 1 + 1) (j := i + 1) (by omega), D2_gt (i := i + 1 + 1) (j := i) (by omega), D2_gt (i := i + 1) (j := i) (by omega), D2_le (i := i) (j := i + 1) (by omega), ei]
  clear ei
  generalize Sd d i = u at *
  generalize d i = e at *
  clear hd
  rw [Int.min_eq_right]
  · omega
  · split
    · omega
    · omega
theorem D2_turn {d : Nat → Int} (hd : ∀ k, 0 ≤ d k ∧ d k ≤ 1) {i : Nat} : D2 d (i + 1 + 1) (i + 1 + 1) = min (min (D2 d (i + 1 + 1) (i + 1)) (D2 d (i + 1) (i + 1 + 1)) + 2) (D2 d (i + 1) (i + 1) + 2) := by
  have ei : Sd d (i + 1) = Sd d i + d i := rfl
  have di := hd i
  have bi := Sd_bounds hd i
  rw [D2_gt (i := i + 1 + 1) (j := i + 1) (by omega), D2_le (i := i + 1) (j := i + 1 + 1) (by omega), D2_le (i := i) (j := i + 1 + 1) (by omega), D2_le (i := i) (j := i + 1) (by omega), ei]
  clear ei
  generalize Sd d i = u at *
  generalize d i = e at *
  clear hd
  exact (minc (by omega) (by omega)).trans ((min_turn (p := 2 * ((i : Int) + 1)) (u := u) (e := e) (by omega) di.2).trans (minc (congrArg (· + 2) (minc (by omega) (minc (by omega) (by omega)))) (congrArg (· + 2) (minc (by omega) (by omega)))))
theorem D2_over {d : Nat → Int} (hd : ∀ k, 0 ≤ d k ∧ d k ≤ 1) {i j : Nat} (h : i + 1 < j) : D2 d (i + 1 + 1) (j + 1) = min (min (D2 d (i + 1 + 1) j) (D2 d (i + 1) (j + 1)) + 2) (D2 d (i + 1) j + 2) := by
  have ei : Sd d (i + 1) = Sd d i + d i := rfl
  have di := (hd i).2
  rw [D2_le (i := i + 1) (j := j + 1) (by omega), D2_le (i := i) (j := j + 1) (by omega), D2_le (i := i) (j := j) (by omega), D2_le (i := i + 1) (j := j) (by omega), ei]
  clear ei h
  generalize Sd d i = u at *
  generalize d i = e at *
  clear hd
  exact (minc (by omega) (by omega)).trans ((min_step (p := 2 * (j : Int)) (q := 2 * ((j : Int) - i)) (u := u) (e := e) di).trans (minc (congrArg (· + 2) (minc (minc (by omega) (by omega)) (minc (by omega) (by omega)))) (congrArg (· + 2) (minc (by omega) (by omega)))))
theorem D2_first {d : Nat → Int} (hd : ∀ k, 0 ≤ d k ∧ d k ≤ 1) {j : Nat} : D2 d (0 + 1) (j + 1) = min (min (if j = 0 then 2 * ((0 : Nat) : Int) else D2 d (0 + 1) j) (D2 d 0 (j + 1)) + 2) (D2 d 0 j + 2) := by
  have e0 : Sd d 0 = 0 := rfl
  rw [D2_zero, D2_zero, D2_le (i := 0) (j := j + 1) (by omega), e0]
  clear hd
  split
  · clear e0; omega
  · rw [D2_le (i := 0) (j := j) (by omega), e0]; clear e0; omega
theorem dp_front {A B : Str} {c : Int} {M : Nat} {d : Nat → Int} (hd : ∀ k, 0 ≤ d k ∧ d k ≤ 1) (hA : A.length = M) (hB : B.length = M + 1) (h0 : 0 < M) (h1 : M ≤ 12)
    (hs : ∀ i j, i < M + 1 → j < M → sub (Txt.item B (i : Int)) (Txt.item A (j : Int)) = if i = j + 1 then d j else 2) (hc : Sd d M + 3 ≤ c) : DpOk A B c (D2 d) := by
  refine ⟨by omega, by omega, by omega, by omega, fun j => D2_zero, fun i => ?_, fun i j => ?_, fun i j hi hj => ?_, fun i j hi hj => ?_, fun i hi => ?_⟩
  · cases i with
    | zero => rw [D2_zero]
    | succ i => rw [D2_gt (by omega)]; show 2 * (((i + 1 : Nat) : Int) - (0 : Nat)) + 0 = _; omega
  · cases i with
    | zero => rw [D2_zero]; omega
    | succ i =>
      by_cases h : j < i + 1
      · rw [D2_gt h]; have := Sd_bounds hd j; omega
      · rw [D2_le (by omega)]; have := Sd_bounds hd i; omega
  · cases i with
    | zero => rw [D2_zero]; omega
    | succ i =>
      by_cases h : j < i + 1
      · rw [D2_gt h]; have := Sd_bounds hd j; omega
      · rw [D2_le (by omega)]; have := Sd_bounds hd i; omega
  · rw [hs i j (by omega) (by omega)]
    clear hs hc hA hB h0 h1 hi hj
    cases i with
    | zero => rw [if_neg (show ¬ 0 = j + 1 by omega)]; exact D2_first hd
    | succ i =>
      rcases Nat.lt_trichotomy j i with h | h | h
      · rw [if_neg (show ¬ i + 1 = j + 1 by omega)]; exact D2_under hd h
      · subst h; rw [if_pos rfl]; exact D2_same hd
      · rw [if_neg (show ¬ i + 1 = j + 1 by omega), if_neg (show ¬ j = 0 by omega)]
        by_cases hij : i + 1 = j
        · subst hij; exact D2_turn hd
        · exact D2_over hd (by omega)
  · cases i with
    | zero =>
      refine ⟨0, by omega, ?_⟩
      rw [D2_le (by omega)]
      have e0 : Sd d 0 = 0 := rfl
      have := Sd_bounds hd M
      omega
    | succ i =>
      refine ⟨i, by omega, ?_⟩
      rw [D2_gt (by omega)]
      have := Sd_mono hd (a := i + 1) (b := M) (by omega)
      omega
end Mine
end
section
namespace Mine
theorem sec_Lw : True := by
  w_top off
  trivial
end Mine
open PySem PySem.W PyProof.Rows
namespace Mine
def letr (b : Bool) (k : Nat) : Nat := if b then 65 + k else 97 + k
set_option maxRecDepth 100000 in
theorem low_letr : ∀ b : Bool, ∀ k : Fin 12, (Txt.lower ⟨#[letr b k.val]⟩).cps = #[97 + k.val] := by decide +kernel
set_option maxRecDepth 100000 in
theorem low_nul : (Txt.lower ⟨#[48]⟩).cps = #[48] := by decide +kernel
theorem one_ne {a b : Nat} (h : a ≠ b) : ((⟨#[a]⟩ : Str) == ⟨#[b]⟩) = false := by
  cases e : ((⟨#[a]⟩ : Str) == ⟨#[b]⟩) with
  | false => rfl
  | true => exact absurd (one_eq e) h
theorem one_same (a : Nat) : ((⟨#[a]⟩ : Str) == ⟨#[a]⟩) = true := by simp
theorem low_str {b : Bool} {k : Nat} (hk : k < 12) : Txt.lower ⟨#[letr b k]⟩ = ⟨#[97 + k]⟩ := by
  have := low_letr b ⟨k, hk⟩
  cases h : Txt.lower ⟨#[letr b k]⟩ with
  | mk c => rw [h] at this; simpa using this
theorem low_nul' : Txt.lower ⟨#[48]⟩ = ⟨#[48]⟩ := by
  have := low_nul
  cases h : Txt.lower ⟨#[48]⟩ with
  | mk c => rw [h] at this; simpa using this
theorem sub_letr {a b : Bool} {i j : Nat} (hi : i < 12) (hj : j < 12) : sub ⟨#[letr a i]⟩ ⟨#[letr b j]⟩ = if i = j then (if a = b then 0 else 1) else 2 := by
  unfold sub
  rw [low_str hi, low_str hj]
  by_cases e : i = j
  · subst e
    by_cases f : a = b
    · subst f
      rw [one_same, if_pos rfl, if_pos rfl, if_pos rfl]
    · have : letr a i ≠ letr b i := by
        unfold letr
        cases a <;> cases b <;> simp at f ⊢ <;> omega
      rw [one_ne this, one_same, if_neg (by simp), if_pos rfl, if_pos rfl, if_neg f]
  · have : letr a i ≠ letr b j := by
      unfold letr
      cases a <;> cases b <;> simp <;> omega
    rw [one_ne this, one_ne (by omega), if_neg (by simp), if_neg (by simp), if_neg e]
theorem sub_nul {b : Bool} {j : Nat} (hj : j < 12) : sub ⟨#[48]⟩ ⟨#[letr b j]⟩ = 2 := by
  unfold sub
  rw [low_str hj, low_nul']
  have : 48 ≠ letr b j := by
    unfold letr
    cases b <;> simp <;> omega
  rw [one_ne this, one_ne (by omega), if_neg (by simp), if_neg (by simp)]
def word (u : Nat → Bool) (N : Nat) : Str := ⟨((List.range N).map fun k => letr (u k) k).toArray⟩
def dif (u v : Nat → Bool) (k : Nat) : Int := if u k = v k then 0 else 1
theorem dif_01 (u v : Nat → Bool) (k : Nat) : 0 ≤ dif u v k ∧ dif u v k ≤ 1 := by
  unfold dif
  split <;> omega
theorem word_len (u : Nat → Bool) (N : Nat) : (word u N).length = N := by rw [len_cps]; simp [word]
theorem word_at {u : Nat → Bool} {N k : Nat} (h : k < N) : (word u N).cps.toList[k]? = some (letr (u k) k) := by
  simp [word, h]
theorem letr_inj {a b : Bool} {k : Nat} (h : letr a k = letr b k) : a = b := by
  unfold letr at h
  cases a <;> cases b <;> simp at h ⊢ <;> omega
theorem Sd_zero {d : Nat → Int} : ∀ {t : Nat}, (∀ k, k < t → d k = 0) → Sd d t = 0
  | 0, _ => rfl
  | t + 1, h => by
    show Sd d t + d t = 0
    rw [Sd_zero fun k hk => h k (by omega), h t (by omega)]
    rfl
theorem Sd_shift {d : Nat → Int} {t : Nat} (h : ∀ k, k < t → d k = 0) : ∀ M, Sd d (t + M) = Sd (fun k => d (t + k)) M
  | 0 => Sd_zero h
  | M + 1 => by
    show Sd d (t + M) + d (t + M) = Sd _ M + d (t + M)
    rw [Sd_shift h M]
theorem Sd_stop {d : Nat → Int} {T : Nat} : ∀ {K : Nat}, (∀ k, T ≤ k → k < T + K → d k = 0) → Sd d (T + K) = Sd d T
  | 0, _ => rfl
  | K + 1, h => by
    show Sd d (T + K) + d (T + K) = Sd d T
    rw [Sd_stop fun k h1 h2 => h k h1 (by omega), h (T + K) (by omega) (by omega)]
    omega
theorem mid_at {p q x2 l : List Nat} (h : l = p ++ (x2 ++ q)) {k : Nat} (hk : k < x2.length) : l[p.length + k]? = x2[k]? := by
  rw [h, List.getElem?_append_right (by omega), Nat.add_sub_cancel_left, List.getElem?_append_left hk]
theorem head_at {p r l : List Nat} (h : l = p ++ r) {k : Nat} (hk : k < p.length) : l[k]? = p[k]? := by
  rw [h, List.getElem?_append_left hk]
theorem tail_at {p q x2 l : List Nat} (h : l = p ++ (x2 ++ q)) {k : Nat} : l[p.length + x2.length + k]? = q[k]? := by
  rw [h, List.getElem?_append_right (by omega), List.getElem?_append_right (by omega)]
  congr 1
  omega
theorem getD_of {l : List Nat} {k a : Nat} (h : l[k]? = some a) : l.getD k 0 = a := by
  rw [List.getD_eq_getElem?_getD, h]; rfl

theorem lev_plain (u v : Nat → Bool) {N : Nat} {c : Int} (hN : N ≤ 12) (hc : Sd (dif u v) N ≤ c) : LevIn (word u N) (word v N) c (Sd (dif u v) N) := by
  refine ⟨by rw [word_len]; omega, by rw [word_len]; omega, fun e => ?_, fun p q x2 y2 hx hy => ?_⟩
  · have e : word u N = word v N := by simpa using e
    refine Sd_zero fun k hk => ?_
    have h1 := word_at (u := u) hk
    rw [e, word_at hk] at h1
    exact if_pos (letr_inj (Option.some.inj h1)).symm
  · have lx : N = p.length + (x2.length + q.length) := by
      rw [len_cps, ← List.length_append, ← List.length_append, ← hx, ← len_cps, word_len]
    have ly : N = p.length + (y2.length + q.length) := by
      rw [len_cps, ← List.length_append, ← List.length_append, ← hy, ← len_cps, word_len]
    have hM : y2.length = x2.length := by omega
    have z1 : ∀ k, k < p.length → dif u v k = 0 := fun k hk => by
      have h1 := (head_at hx hk).trans (head_at hy hk).symm
      rw [word_at (by omega), word_at (by omega)] at h1
      exact if_pos (letr_inj (Option.some.inj h1))
    have z2 : ∀ k, p.length + x2.length ≤ k → k < p.length + x2.length + q.length → dif u v k = 0 := fun k h1 h2 => by
      obtain ⟨j, rfl⟩ : ∃ j, k = p.length + x2.length + j := ⟨k - (p.length + x2.length), by omega⟩
      have g1 := tail_at hx (k := j)
      have g2 := tail_at hy (k := j)
      rw [← len_cps] at g1 g2
      rw [hM] at g2
      have h3 := g1.trans g2.symm
      rw [word_at (by omega), word_at (by omega)] at h3
      exact if_pos (letr_inj (Option.some.inj h3))
    have eS : Sd (dif u v) N = Sd (fun k => dif u v (p.length + k)) x2.length := by
      rw [show N = p.length + x2.length + q.length by omega, Sd_stop z2, Sd_shift z1]
    have ix : ∀ k, k < x2.length → Txt.item x2 (k : Int) = ⟨#[letr (u (p.length + k)) (p.length + k)]⟩ := fun k hk => by
      rw [item_at (by omega) (by omega), Int.toNat_natCast, getD_of ((mid_at hx (by rw [← len_cps]; exact hk)).symm.trans (word_at (by omega)))]
    have iy : ∀ k, k < x2.length → Txt.item y2 (k : Int) = ⟨#[letr (v (p.length + k)) (p.length + k)]⟩ := fun k hk => by
      rw [item_at (by omega) (by omega), Int.toNat_natCast, getD_of ((mid_at hy (by rw [← len_cps]; omega)).symm.trans (word_at (by omega)))]
    refine ⟨fun h => ?_, fun h1 h2 => ⟨fun _ => ⟨by have := (Sd_bounds (dif_01 u v) N).1; omega, D1 (fun k => dif u v (p.length + k)), ?_, ?_⟩, fun h => absurd h (by omega)⟩⟩
    · rw [eS, show x2.length = 0 by omega, hM, show x2.length = 0 by omega]
      rfl
    · refine dp_even (M := x2.length) (fun k => dif_01 _ _ _) rfl hM h1 (by omega) (fun i j hi hj => ?_) (by rw [← eS]; exact hc)
      rw [iy i hi, ix j hj, sub_letr (by omega) (by omega)]
      by_cases e : i = j
      · subst e
        rw [if_pos rfl, if_pos rfl]
        unfold dif
        by_cases f : u (p.length + i) = v (p.length + i)
        · rw [if_pos f.symm, if_pos f]
        · rw [if_neg (fun g => f g.symm), if_neg f]
      · rw [if_neg (by omega), if_neg e]
    · rw [hM, D1_le (Nat.le_refl _), eS]
      omega
def front (u : Nat → Bool) (N : Nat) : Str := ⟨(48 :: (List.range N).map fun k => letr (u k) k).toArray⟩
theorem front_len (u : Nat → Bool) (N : Nat) : (front u N).length = N + 1 := by rw [len_cps]; simp [front]
theorem front_at {u : Nat → Bool} {N k : Nat} (h : k < N) : (front u N).cps.toList[k + 1]? = some (letr (u k) k) := by
  simp [front, h]
theorem front_zero {u : Nat → Bool} {N : Nat} : (front u N).cps.toList[0]? = some 48 := rfl
theorem lev_front (u v : Nat → Bool) {N : Nat} {c : Int} (hN : N ≤ 12) (hc : Sd (dif u v) N + 3 ≤ c) : LevIn (front u N) (word v N) c (Sd (dif u v) N + 2) := by
  refine ⟨by rw [front_len]; omega, by rw [word_len]; omega, fun e => ?_, fun p q x2 y2 hx hy => ?_⟩
  · have e : front u N = word v N := by simpa using e
    have := congrArg Str.length e
    rw [front_len, word_len] at this
    omega
  · have lx : N + 1 = p.length + (x2.length + q.length) := by
      rw [len_cps, ← List.length_append, ← List.length_append, ← hx, ← len_cps, front_len]
    have ly : N = p.length + (y2.length + q.length) := by
      rw [len_cps, ← List.length_append, ← List.length_append, ← hy, ← len_cps, word_len]
    have hp : p.length = 0 := by
      rcases Nat.eq_zero_or_pos p.length with h | h
      · exact h
      · have h1 := (head_at hx h).trans (head_at hy h).symm
        rw [front_zero, word_at (by omega)] at h1
        have h2 : 48 = letr (v 0) 0 := Option.some.inj h1
        unfold letr at h2
        exfalso
        cases hv : v 0
        · rw [hv] at h2; exact absurd h2 (by decide)
        · rw [hv] at h2; exact absurd h2 (by decide)
    have hM : x2.length = y2.length + 1 := by omega
    have z2 : ∀ k, y2.length ≤ k → k < y2.length + q.length → dif u v k = 0 := fun k h1 h2 => by
      obtain ⟨j, rfl⟩ : ∃ j, k = y2.length + j := ⟨k - y2.length, by omega⟩
      have g1 := tail_at hx (k := j)
      have g2 := tail_at hy (k := j)
      rw [← len_cps] at g1 g2
      rw [hM, hp, show 0 + (y2.length + 1) + j = (y2.length + j) + 1 by omega] at g1
      rw [hp, Nat.zero_add] at g2
      have h3 := g1.trans g2.symm
      rw [front_at (by omega), word_at (by omega)] at h3
      exact if_pos (letr_inj (Option.some.inj h3))
    have eS : Sd (dif u v) N = Sd (dif u v) y2.length := by
      rw [show N = y2.length + q.length by omega, Sd_stop z2]
    have ix0 : Txt.item x2 ((0 : Nat) : Int) = ⟨#[48]⟩ := by
      have g := mid_at hx (k := 0) (by rw [← len_cps]; omega)
      rw [hp] at g
      rw [item_at (by omega) (by omega), Int.toNat_natCast, getD_of (g.symm.trans front_zero)]
    have ix : ∀ k, k < y2.length → Txt.item x2 ((k + 1 : Nat) : Int) = ⟨#[letr (u k) k]⟩ := fun k hk => by
      have g := mid_at hx (k := k + 1) (by rw [← len_cps]; omega)
      rw [hp, Nat.zero_add] at g
      rw [item_at (by omega) (by omega), Int.toNat_natCast, getD_of (g.symm.trans (front_at (by omega)))]
    have iy : ∀ k, k < y2.length → Txt.item y2 (k : Int) = ⟨#[letr (v k) k]⟩ := fun k hk => by
      have g := mid_at hy (k := k) (by rw [← len_cps]; omega)
      rw [hp, Nat.zero_add] at g
      rw [item_at (by omega) (by omega), Int.toNat_natCast, getD_of (g.symm.trans (word_at (by omega)))]
    have hS := Sd_bounds (dif_01 u v) N
    refine ⟨fun h => ?_, fun h1 h2 => ⟨fun h => absurd h (by omega), fun _ => ⟨by omega, D2 (dif u v), ?_, ?_⟩⟩⟩
    · have h0 : y2.length = 0 := by omega
      rw [eS, h0, hM, h0]
      rfl
    · refine dp_front (M := y2.length) (dif_01 u v) rfl hM h2 (by omega) (fun i j hi hj => ?_) (by rw [← eS]; exact hc)
      cases i with
      | zero => rw [ix0, iy j hj, sub_nul (by omega), if_neg (by omega)]
      | succ i =>
        rw [ix i (by omega), iy j hj, sub_letr (by omega) (by omega)]
        by_cases e : i = j
        · subst e
          rw [if_pos rfl, if_pos rfl]
          rfl
        · rw [if_neg e, if_neg (by omega)]
    · rw [hM, D2_gt (by omega), eS]
      omega
end Mine
end
section
namespace Mine
theorem sec_Pl : True := by
  w_top off
  trivial
end Mine
open PySem PySem.W PyProof.Rows
namespace Mine
theorem upTo_mem {p : Nat → Bool} {Q : Nat} {x : Int} : x ∈ upTo p Q ↔ ∃ k : Nat, k < Q ∧ p k = true ∧ x = (k : Int) := by
  unfold upTo
  simp only [List.mem_map, List.mem_filter, List.mem_range]
  constructor
  · rintro ⟨k, ⟨h1, h2⟩, rfl⟩; exact ⟨k, h1, h2, rfl⟩
  · rintro ⟨k, h1, h2, rfl⟩; exact ⟨k, ⟨h1, h2⟩, rfl⟩
theorem upTo_has {p : Nat → Bool} {Q k : Nat} (h : k < Q) : (upTo p Q).contains (k : Int) = p k := by
  cases hp : p k with
  | true => exact List.contains_iff_mem.mpr (upTo_mem.mpr ⟨k, h, hp, rfl⟩)
  | false =>
    cases hc : (upTo p Q).contains (k : Int) with
    | false => rfl
    | true =>
      obtain ⟨j, _, hj, e⟩ := upTo_mem.mp (List.contains_iff_mem.mp hc)
      have : k = j := by omega
      subst this
      rw [hp] at hj; cases hj
theorem upTo_diff (p r : Nat → Bool) (Q : Nat) : (upTo p Q).filter (fun x => !(upTo r Q).contains x) = upTo (fun k => p k && !r k) Q := by
  show (((List.range Q).filter p).map fun (k : Nat) => (k : Int)).filter (fun x => !(upTo r Q).contains x) = ((List.range Q).filter _).map fun (k : Nat) => (k : Int)
  rw [List.filter_map, List.filter_filter]
  congr 1
  refine List.filter_congr fun k hk => ?_
  have := upTo_has (p := r) (List.mem_range.mp hk)
  show (!(upTo r Q).contains (k : Int) && p k) = (p k && !r k)
  rw [this, Bool.and_comm]
theorem upTo_congr {p r : Nat → Bool} {Q : Nat} (h : ∀ k, k < Q → p k = r k) : upTo p Q = upTo r Q := by
  unfold upTo
  congr 1
  exact List.filter_congr fun k hk => h k (List.mem_range.mp hk)
theorem upTo_count (r : Nat → Bool) : ∀ Q, ((upTo r Q).length : Int) = Sd (fun k => if r k then 1 else 0) Q
  | 0 => rfl
  | Q + 1 => by
    show _ = Sd _ Q + (if r Q then 1 else 0)
    cases h : r Q with
    | true => rw [upTo_yes h, List.length_append, ← upTo_count r Q]; simp
    | false => rw [upTo_no h, ← upTo_count r Q]; simp
theorem upTo_rise (p : Nat → Bool) : ∀ Q, (upTo p Q).Pairwise (· < ·)
  | 0 => List.Pairwise.nil
  | Q + 1 => by
    cases h : p Q with
    | false => rw [upTo_no h]; exact upTo_rise p Q
    | true =>
      rw [upTo_yes h, List.pairwise_append]
      refine ⟨upTo_rise p Q, List.pairwise_singleton _ _, fun x hx y hy => ?_⟩
      obtain ⟨k, hk, _, rfl⟩ := upTo_mem.mp hx
      rw [List.mem_singleton.mp hy]
      omega
theorem Sd_add (d e : Nat → Int) : ∀ Q, Sd d Q + Sd e Q = Sd (fun k => d k + e k) Q
  | 0 => rfl
  | Q + 1 => by
    show Sd d Q + d Q + (Sd e Q + e Q) = Sd _ Q + (d Q + e Q)
    rw [← Sd_add d e Q]
    omega
theorem Sd_congr {d e : Nat → Int} : ∀ {Q : Nat}, (∀ k, k < Q → d k = e k) → Sd d Q = Sd e Q
  | 0, _ => rfl
  | Q + 1, h => by
    show Sd d Q + d Q = Sd e Q + e Q
    rw [Sd_congr fun k hk => h k (by omega), h Q (by omega)]
/-- how many are lost and gained -/
theorem both_count (p r : Nat → Bool) (Q : Nat) : ((upTo (fun k => p k && !r k) Q).length : Int) + ((upTo (fun k => r k && !p k) Q).length : Int) = Sd (dif p r) Q := by
  rw [upTo_count, upTo_count, Sd_add]
  refine Sd_congr fun k _ => ?_
  unfold dif
  cases p k <;> cases r k <;> rfl
/-- a row of the law: what is left of the span times the first row, and what is gone times the second -/
def rowIs (xs ys rs : List Int) (span t : Int) : Prop := ∀ i, rs.getD i 0 = (span - t) * xs.getD i 0 + t * ys.getD i 0
theorem lead_iff {xs ys rs : List Int} {span t : Int} (h : rowIs xs ys rs span t) (i j : Nat) :
    rs.getD j 0 < rs.getD i 0 ↔ 0 < span * (xs.getD i 0 - xs.getD j 0) + t * ((ys.getD i 0 - ys.getD j 0) - (xs.getD i 0 - xs.getD j 0)) := by
  rw [h i, h j]
  simp only [Int.mul_sub, Int.sub_mul]
  omega
theorem f_mono {span a b t1 t2 : Int} (h : t1 ≤ t2) (hm : a ≤ b) : span * a + t1 * (b - a) ≤ span * a + t2 * (b - a) := by
  have := Int.mul_le_mul_of_nonneg_right h (show 0 ≤ b - a by omega)
  omega
theorem f_anti {span a b t1 t2 : Int} (h : t1 ≤ t2) (hm : b ≤ a) : span * a + t2 * (b - a) ≤ span * a + t1 * (b - a) := by
  have := Int.mul_le_mul_of_nonpos_right h (show b - a ≤ 0 by omega)
  omega
theorem f_end (span a b : Int) : span * a + span * (b - a) = span * b := by rw [Int.mul_sub]; omega
theorem f_pos {span a b t : Int} (hs : 0 < span) (h0 : 0 ≤ t) (h1 : t ≤ span) (ha : 0 < a) (hb : 0 < b) : 0 < span * a + t * (b - a) := by
  have g1 := Int.mul_pos hs ha
  have g2 := Int.mul_pos hs hb
  rcases Int.le_total a b with h | h
  · have := f_mono (span := span) h0 h
    rw [Int.zero_mul] at this
    omega
  · have := f_anti (span := span) h1 h
    rw [f_end] at this
    omega
theorem f_neg {span a b t : Int} (hs : 0 < span) (h0 : 0 ≤ t) (h1 : t ≤ span) (ha : a ≤ 0) (hb : b ≤ 0) : span * a + t * (b - a) ≤ 0 := by
  have g1 := Int.mul_le_mul_of_nonneg_left ha (Int.le_of_lt hs)
  have g2 := Int.mul_le_mul_of_nonneg_left hb (Int.le_of_lt hs)
  rw [Int.mul_zero] at g1 g2
  rcases Int.le_total a b with h | h
  · have := f_mono (span := span) h1 h
    rw [f_end] at this
    omega
  · have := f_anti (span := span) h0 h
    rw [Int.zero_mul] at this
    omega
theorem gap_pos {d : Int} (h : 0 ≤ d) : gap d = d := by unfold gap; rw [if_neg (by omega)]
theorem gap_neg {d : Int} (h : d ≤ 0) : gap d = -d := by
  unfold gap
  by_cases e : d < 0
  · rw [if_pos e]
  · rw [if_neg e]; omega
theorem lost_iff {xs ys ra rb : List Int} {span t1 t2 : Int} (ha : rowIs xs ys ra span t1) (hb : rowIs xs ys rb span t2) (hs : 0 < span) (h0 : 0 ≤ t1) (h1 : t1 ≤ t2) (h2 : t2 ≤ span) (i j : Nat) :
    lostP xs ys span t1 t2 i j ↔ (ra.getD j 0 < ra.getD i 0 ∧ ¬ rb.getD j 0 < rb.getD i 0) := by
  rw [lead_iff ha, lead_iff hb]
  unfold lostP
  generalize xs.getD i 0 - xs.getD j 0 = a
  generalize ys.getD i 0 - ys.getD j 0 = b
  rcases Int.lt_or_le 0 a with ca | ca
  · rcases Int.lt_or_le 0 b with cb | cb
    · have := f_pos hs (Int.le_trans h0 h1) h2 ca cb
      constructor
      · rintro ⟨_, g, _⟩; omega
      · rintro ⟨_, g⟩; omega
    · rw [gap_pos (Int.le_of_lt ca), gap_neg cb, show a + -b = -(b - a) by omega, Int.mul_neg, Int.mul_neg]
      constructor
      · rintro ⟨_, _, g1, g2⟩; omega
      · rintro ⟨g1, g2⟩; omega
  · constructor
    · rintro ⟨g, _⟩; omega
    · rintro ⟨g1, g2⟩
      rcases Int.lt_or_le 0 b with cb | cb
      · have := f_mono (span := span) h1 (show a ≤ b by omega)
        omega
      · have := f_neg hs h0 (Int.le_trans h1 h2) ca cb
        omega
theorem gain_iff {xs ys ra rb : List Int} {span t1 t2 : Int} (ha : rowIs xs ys ra span t1) (hb : rowIs xs ys rb span t2) (hs : 0 < span) (h0 : 0 ≤ t1) (h1 : t1 ≤ t2) (h2 : t2 ≤ span) (i j : Nat) :
    gainP xs ys span t1 t2 i j ↔ (rb.getD j 0 < rb.getD i 0 ∧ ¬ ra.getD j 0 < ra.getD i 0) := by
  rw [lead_iff ha, lead_iff hb]
  unfold gainP
  generalize xs.getD i 0 - xs.getD j 0 = a
  generalize ys.getD i 0 - ys.getD j 0 = b
  rcases Int.lt_or_le 0 a with ca | ca
  · constructor
    · rintro ⟨g, _⟩; omega
    · rintro ⟨g1, g2⟩
      rcases Int.lt_or_le 0 b with cb | cb
      · have := f_pos hs h0 (Int.le_trans h1 h2) ca cb
        omega
      · have := f_anti (span := span) h1 (show b ≤ a by omega)
        omega
  · rcases Int.lt_or_le 0 b with cb | cb
    · rw [gap_neg ca, gap_pos (Int.le_of_lt cb), show -a + b = b - a by omega, Int.mul_neg]
      constructor
      · rintro ⟨_, _, g1, g2⟩; omega
      · rintro ⟨g1, g2⟩; omega
    · have := f_neg hs (Int.le_trans h0 h1) h2 ca cb
      constructor
      · rintro ⟨_, g, _⟩; omega
      · rintro ⟨g, _⟩; omega
end Mine
end
section
namespace Mine
theorem sec_Pw : True := by
  w_top off
  trivial
end Mine
open PySem PySem.W PyProof.Rows
namespace Mine
def ld (row : List Int) (i j : Nat) : Bool := decide (row.getD j 0 < row.getD i 0)
def ups (row : List Int) (n : Nat) : List Bool :=
  if n = 3 then [!ld row 1 0, ld row 0 1, !ld row 2 0, ld row 0 2, !ld row 2 1, ld row 1 2]
  else [!ld row 1 0, ld row 0 1, !ld row 2 0, ld row 0 2, !ld row 3 0, ld row 0 3, !ld row 2 1, ld row 1 2, !ld row 3 1, ld row 1 3, !ld row 3 2, ld row 2 3]
def upOf (row : List Int) (n k : Nat) : Bool := (ups row n).getD k false
theorem piece_is (row : List Int) (q i j : Nat) : pieceAt row q i j = ⟨#[letr (!ld row j i) (2 * q), letr (ld row i j) (2 * q + 1)]⟩ := by
  unfold pieceAt ld letr
  rcases cmp3_cases (row.getD i 0) (row.getD j 0) with ⟨h, e⟩ | ⟨h, e⟩ | ⟨h, e⟩
  · rw [e, if_pos rfl, decide_eq_true h, decide_eq_false (by omega)]
    rfl
  · rw [e, if_neg (by decide), if_pos rfl, decide_eq_false (by omega), decide_eq_false (by omega)]
    show (⟨#[97 + 2 * q - 32, 97 + 2 * q + 1]⟩ : Str) = ⟨#[65 + 2 * q, 97 + (2 * q + 1)]⟩
    rw [show 97 + 2 * q - 32 = 65 + 2 * q by omega]
    rfl
  · rw [e, if_neg (by decide), if_neg (by decide), decide_eq_false (by omega), decide_eq_true h]
    show (⟨#[97 + 2 * q - 32, 97 + 2 * q - 31]⟩ : Str) = ⟨#[65 + 2 * q, 65 + (2 * q + 1)]⟩
    rw [show 97 + 2 * q - 32 = 65 + 2 * q by omega, show 97 + 2 * q - 31 = 65 + (2 * q + 1) by omega]
theorem word3 (row : List Int) : Txt.join (Str.ofString "") (wordO row 3 3) = word (upOf row 3) 6 := by
  have : wordO row 3 3 = [pieceAt row 0 0 1, pieceAt row 1 0 2, pieceAt row 2 1 2] := rfl
  rw [this, piece_is, piece_is, piece_is]
  rfl
theorem word4 (row : List Int) : Txt.join (Str.ofString "") (wordO row 4 4) = word (upOf row 4) 12 := by
  have : wordO row 4 4 = [pieceAt row 0 0 1, pieceAt row 1 0 2, pieceAt row 2 0 3, pieceAt row 3 1 2, pieceAt row 4 1 3, pieceAt row 5 2 3] := rfl
  rw [this, piece_is, piece_is, piece_is, piece_is, piece_is, piece_is]
  rfl
theorem front3 (row : List Int) : (Str.ofString "0") ++ word (upOf row 3) 6 = front (upOf row 3) 6 := rfl
theorem front4 (row : List Int) : (Str.ofString "0") ++ word (upOf row 4) 12 = front (upOf row 4) 12 := rfl
theorem ld_self (row : List Int) (i : Nat) : ld row i i = false := decide_eq_false (by omega)
def lead (row : List Int) (n : Nat) : Nat → Bool := atBoth n fun i j => row.getD j 0 < row.getD i 0
theorem dif_not {a b : Bool} : (if (!a) = (!b) then (0 : Int) else 1) = if a = b then 0 else 1 := by cases a <;> cases b <;> rfl
theorem count3 (r1 r2 : List Int) : Sd (dif (upOf r1 3) (upOf r2 3)) 6 = Sd (dif (lead r1 3) (lead r2 3)) (3 * 3) := by
  have e1 : Sd (dif (upOf r1 3) (upOf r2 3)) 6 = 0 + (if (!ld r1 1 0) = (!ld r2 1 0) then 0 else 1) + (if ld r1 0 1 = ld r2 0 1 then 0 else 1) + (if (!ld r1 2 0) = (!ld r2 2 0) then 0 else 1) + (if ld r1 0 2 = ld r2 0 2 then 0 else 1)
    + (if (!ld r1 2 1) = (!ld r2 2 1) then 0 else 1) + (if ld r1 1 2 = ld r2 1 2 then 0 else 1) := rfl
  have e2 : Sd (dif (lead r1 3) (lead r2 3)) (3 * 3) = 0 + (if ld r1 0 0 = ld r2 0 0 then 0 else 1) + (if ld r1 0 1 = ld r2 0 1 then 0 else 1) + (if ld r1 0 2 = ld r2 0 2 then 0 else 1)
    + (if ld r1 1 0 = ld r2 1 0 then 0 else 1) + (if ld r1 1 1 = ld r2 1 1 then 0 else 1) + (if ld r1 1 2 = ld r2 1 2 then 0 else 1)
    + (if ld r1 2 0 = ld r2 2 0 then 0 else 1) + (if ld r1 2 1 = ld r2 2 1 then 0 else 1) + (if ld r1 2 2 = ld r2 2 2 then 0 else 1) := rfl
  rw [e1, e2]
  simp only [dif_not, ld_self, if_true]
  omega
theorem count4 (r1 r2 : List Int) : Sd (dif (upOf r1 4) (upOf r2 4)) 12 = Sd (dif (lead r1 4) (lead r2 4)) (4 * 4) := by
  have e1 : Sd (dif (upOf r1 4) (upOf r2 4)) 12 = 0 + (if (!ld r1 1 0) = (!ld r2 1 0) then 0 else 1) + (if ld r1 0 1 = ld r2 0 1 then 0 else 1) + (if (!ld r1 2 0) = (!ld r2 2 0) then 0 else 1) + (if ld r1 0 2 = ld r2 0 2 then 0 else 1)
    + (if (!ld r1 3 0) = (!ld r2 3 0) then 0 else 1) + (if ld r1 0 3 = ld r2 0 3 then 0 else 1)
    + (if (!ld r1 2 1) = (!ld r2 2 1) then 0 else 1) + (if ld r1 1 2 = ld r2 1 2 then 0 else 1) + (if (!ld r1 3 1) = (!ld r2 3 1) then 0 else 1) + (if ld r1 1 3 = ld r2 1 3 then 0 else 1)
    + (if (!ld r1 3 2) = (!ld r2 3 2) then 0 else 1) + (if ld r1 2 3 = ld r2 2 3 then 0 else 1) := rfl
  have e2 : Sd (dif (lead r1 4) (lead r2 4)) (4 * 4) = 0 + (if ld r1 0 0 = ld r2 0 0 then 0 else 1) + (if ld r1 0 1 = ld r2 0 1 then 0 else 1) + (if ld r1 0 2 = ld r2 0 2 then 0 else 1) + (if ld r1 0 3 = ld r2 0 3 then 0 else 1)
    + (if ld r1 1 0 = ld r2 1 0 then 0 else 1) + (if ld r1 1 1 = ld r2 1 1 then 0 else 1) + (if ld r1 1 2 = ld r2 1 2 then 0 else 1) + (if ld r1 1 3 = ld r2 1 3 then 0 else 1)
    + (if ld r1 2 0 = ld r2 2 0 then 0 else 1) + (if ld r1 2 1 = ld r2 2 1 then 0 else 1) + (if ld r1 2 2 = ld r2 2 2 then 0 else 1) + (if ld r1 2 3 = ld r2 2 3 then 0 else 1)
    + (if ld r1 3 0 = ld r2 3 0 then 0 else 1) + (if ld r1 3 1 = ld r2 3 1 then 0 else 1) + (if ld r1 3 2 = ld r2 3 2 then 0 else 1) + (if ld r1 3 3 = ld r2 3 3 then 0 else 1) := rfl
  rw [e1, e2]
  simp only [dif_not, ld_self, if_true]
  omega
/-- the words of a row of three or four -/
noncomputable def wordOf (row : List Int) (n : Nat) : Str := Txt.join (Str.ofString "") (wordO row n n)
/-- what is lost and gained between two rows -/
def lostN (r1 r2 : List Int) (n : Nat) : List Int := upTo (fun k => lead r1 n k && !lead r2 n k) (n * n)
theorem lev_words {r1 r2 : List Int} {n : Nat} (hn : n = 3 ∨ n = 4) :
    LevIn (wordOf r1 n) (wordOf r2 n) (((lostN r1 r2 n).length : Int) + ((lostN r2 r1 n).length : Int)) (((lostN r1 r2 n).length : Int) + ((lostN r2 r1 n).length : Int)) := by
  unfold lostN
  rw [both_count]
  rcases hn with rfl | rfl
  · unfold wordOf
    rw [word3, word3, ← count3]
    exact lev_plain _ _ (by omega) (Int.le_refl _)
  · unfold wordOf
    rw [word4, word4, ← count4]
    exact lev_plain _ _ (by omega) (Int.le_refl _)
theorem lev_fronts {r1 r2 : List Int} {n : Nat} (hn : n = 3 ∨ n = 4) :
    LevIn (Str.ofString "0" ++ wordOf r1 n) (wordOf r2 n) (((lostN r1 r2 n).length : Int) + ((lostN r2 r1 n).length : Int) + 3) (((lostN r1 r2 n).length : Int) + ((lostN r2 r1 n).length : Int) + 2) := by
  unfold lostN
  rw [both_count]
  rcases hn with rfl | rfl
  · unfold wordOf
    rw [word3, word3, ← count3, front3]
    exact lev_front _ _ (by omega) (Int.le_refl _)
  · unfold wordOf
    rw [word4, word4, ← count4, front4]
    exact lev_front _ _ (by omega) (Int.le_refl _)
theorem moved_lost {xs ys ra rb : List Int} {span t1 t2 : Int} {n : Nat} (ha : rowIs xs ys ra span t1) (hb : rowIs xs ys rb span t2) (hs : 0 < span) (h0 : 0 ≤ t1) (h1 : t1 ≤ t2) (h2 : t2 ≤ span) :
    upTo (atBoth n (lostP xs ys span t1 t2)) (n * n) = lostN ra rb n := by
  refine upTo_congr fun k _ => ?_
  unfold atBoth lead atBoth
  rw [decide_eq_decide.mpr (lost_iff ha hb hs h0 h1 h2 _ _), Bool.decide_and, decide_not]
theorem moved_gain {xs ys ra rb : List Int} {span t1 t2 : Int} {n : Nat} (ha : rowIs xs ys ra span t1) (hb : rowIs xs ys rb span t2) (hs : 0 < span) (h0 : 0 ≤ t1) (h1 : t1 ≤ t2) (h2 : t2 ≤ span) :
    upTo (atBoth n (gainP xs ys span t1 t2)) (n * n) = lostN rb ra n := by
  refine upTo_congr fun k _ => ?_
  unfold atBoth lead atBoth
  rw [decide_eq_decide.mpr (gain_iff ha hb hs h0 h1 h2 _ _), Bool.decide_and, decide_not]
theorem sld_lost (r1 r2 : List Int) (n : Nat) : (upTo (lead r1 n) (n * n)).filter (fun x => !(upTo (lead r2 n) (n * n)).contains x) = lostN r1 r2 n := upTo_diff _ _ _
end Mine
end
section
namespace Mine
theorem sec_Cm6 : True := by
  w_top off
  trivial
end Mine
open PySem PySem.W PySem.Calls PyProof.Rows PySem.Spec PyProof.Rows.LCg
namespace Mine
def ownOf (h : Heap) (fp : List Addr) : List (Addr × Obj) := fp.filterMap fun a => (h.get? a).map fun o => (a, o)
theorem ownOf_mem {h : Heap} {fp : List Addr} {p : Addr × Obj} : p ∈ ownOf h fp ↔ p.1 ∈ fp ∧ h.get? p.1 = some p.2 := by
  unfold ownOf
  rw [List.mem_filterMap]
  constructor
  · rintro ⟨a, ha, e⟩
    rw [Option.map_eq_some_iff] at e
    obtain ⟨o, ho, rfl⟩ := e
    exact ⟨ha, ho⟩
  · rintro ⟨h1, h2⟩
    exact ⟨p.1, h1, by rw [h2]; rfl⟩
section
variable {prog : Program} {w : World} {A : Around} {R : Result → Shared → Prop} {s : Shared} {h₀ : Heap} {L : Addr} {m : Str → Option Value} {env : Env}
theorem pair_walk {elt iter : Expr} {x y : Str} {px py tp : Pos} {kk : Nat} {scope : Scope} {pos : Pos} {cl : List (Str × Addr)} {n : Nat} {z C D : Addr} {fp wr : List Addr} {St : Nat → Heap → Prop} {Mid : Nat → Addr → Heap → Prop} {news : List (Addr × Obj)} {vx vy : List Value} {xs ys : List Int}
    {h : Heap} {tk : Nat} {oC : Obj} {m₂ : Str → Option Value} (f : Int → Int → Int) (hh : A.handled = none)
    (W : WalksT prog w A z fp wr n (fun i vals => ∃ a b, vx.toArray[i]? = some a ∧ vy.toArray[i]? = some b ∧ vals = #[a, b]) St Mid) (hn : n ≤ 10) (hix : IntsAre vx xs) (hiy : IntsAre vy ys) (nx : xs.length = n) (ny : ys.length = n)
    (fpk : ∀ b ∈ fp, b ≠ L ∧ h₀.get? b = none) (hCf : C ∉ fp) (hDf : D ∉ fp) (off : ∀ p ∈ news, p.1 ∉ wr ∧ p.1 ≠ C ∧ p.1 ≠ D) (hCD : C ≠ D)
    (hkind : scope.kind = .function) (hx : scope.names.lookup x = some .local) (hy : scope.names.lookup y = some .local) (hxy : x ≠ y)
    (put : ∀ (i : Nat) oC oD own m₂ h tk tx ty, i < n → NsObj oC m₂ → m₂ x = some (.int (xs.getD i 0) tx) → m₂ y = some (.int (ys.getD i 0) ty) → Fr h₀ L h m → News h₀ L h (own ++ (C, oC) :: (D, oD) :: news) →
      wpAny (model prog w) A (eval elt (compEnvC scope cl C env)) (fun v s' => (∃ t, v = .int (f (xs.getD i 0) (ys.getD i 0)) t) ∧ ∃ h' tk', s' = { s with heap := h', toks := tk' } ∧ Fr h₀ L h' m ∧ News h₀ L h' (own ++ (C, oC) :: (D, oD) :: news)) none1 { s with heap := h, toks := tk })
    (F : Fr h₀ L h m) (N : News h₀ L h ((C, oC) :: (D, lst []) :: news)) (hC : NsObj oC m₂) (hst : St 0 h)
    (hR : ∀ h tk oC m₂ us, Fr h₀ L h m → News h₀ L h ((C, oC) :: (D, lst us) :: news) → NsObj oC m₂ → IntsAre us ((List.range n).map fun i => f (xs.getD i 0) (ys.getD i 0)) → R (.ok .next) { s with heap := h, toks := tk }) :
    codeAny (model prog w) A (.compLoop (.ListComp elt [⟨.Tuple [.Name x px, .Name y py] kk tp, iter, [], 0⟩] scope pos) 0 (.ref z) (.ref D) (compEnvC scope cl C env)) R { s with heap := h, toks := tk } := by
  refine kcp_loop (fun k s' => ∃ i h tk m₂ us oC, s' = { s with heap := h, toks := tk } ∧ i ≤ n ∧ k = n - i ∧ Fr h₀ L h m ∧ News h₀ L h ((C, oC) :: (D, lst us) :: news) ∧ NsObj oC m₂ ∧ St i h ∧ IntsAre us ((List.range i).map fun i => f (xs.getD i 0) (ys.getD i 0)))
    ?_ n ⟨0, h, tk, m₂, [], oC, rfl, Nat.zero_le _, rfl, F, N, hC, hst, .nil⟩
  rintro k s' ⟨i, h, tk, m₂, us, oC, rfl, hi, rfl, F, N, hC, hst, hI⟩
  have nC := N _ (.head _)
  have nD := N (D, lst us) (.tail _ (.head _))
  have hwrC : C ∉ wr := fun q => hCf (W.sub _ q)
  have hwrD : D ∉ wr := fun q => hDf (W.sub _ q)
  have frk : ∀ {h1 h2 : Heap}, Fr h₀ L h1 m → (∀ b o, b ∉ wr → h1.get? b = some o → h2.get? b = some o) → Fr h₀ L h2 m := fun F hk =>
    ⟨F.ns.at' fun o e => hk L o (fun q => (fpk L (W.sub _ q)).1 rfl) e, fun b o e => hk b o (fun q => by have := (fpk b (W.sub _ q)).2; rw [this] at e; cases e) (F.keep b o e), F.above⟩
  have nwk : ∀ {h1 h2 : Heap} {l : List (Addr × Obj)}, News h₀ L h1 l → (∀ b o, b ∉ wr → h1.get? b = some o → h2.get? b = some o) → (∀ p ∈ l, p.1 ∉ wr) → News h₀ L h2 l := fun N hk ho p hp => ⟨hk _ _ (ho p hp) (N p hp).1, (N p hp).2⟩
  have offl : ∀ {oC oD : Obj}, ∀ p ∈ (C, oC) :: (D, oD) :: news, p.1 ∉ wr := fun p hp => by
    rcases List.mem_cons.mp hp with rfl | hp
    · exact hwrC
    rcases List.mem_cons.mp hp with rfl | hp
    · exact hwrD
    · exact (off p hp).1
  by_cases hlt : i < n
  · refine W.item i _ _ _ hlt hst fun T vals h₂ tk₂ hv _ hT hmid hk₂ => ?_
    obtain ⟨a, b, ha, hb, rfl⟩ := hv
    refine W.go _ _ _ i T _ _ _ hmid fun h₃ hst₃ hk₃ => ?_
    have hTw := W.apart _ _ _ hmid
    have hT₃ : h₃.IsTuple T #[a, b] := by
      obtain ⟨o, e, r⟩ := hT
      exact ⟨o, hk₃ _ _ hTw e, r⟩
    have F₃ := frk (frk F hk₂) hk₃
    have N₃ := nwk (nwk N hk₂ offl) hk₃ offl
    refine kcp_assign hh hT₃ (lookup_relabel_local hx) (lookup_relabel_local hy) (by simp [compEnvC, relabel, hkind]) (hC.ns (N₃ _ (.head _)).1) fun h₄ tk₄ hn₄ hk₄ => ?_
    obtain ⟨oC₄, heC, hC₄⟩ := ns_obj hn₄
    have hst₄ : St (i + 1) h₄ := W.frame _ _ _ hst₃ fun b hb o e => hk₄ b o (fun q => hCf (by have q' : b = C := q; rw [← q']; exact hb)) e
    have F₄ : Fr h₀ L h₄ m := ⟨F₃.ns.at' fun o e => hk₄ L o (Ne.symm nC.2.1) e, fun b o e => hk₄ b o (fun q => by have q' : b = C := q; have := nC.2.2; rw [← q'] at this; rw [this] at e; cases e) (F₃.keep b o e), F₃.above⟩
    have N₄ : News h₀ L h₄ ((C, oC₄) :: (D, lst us) :: news) := news_chg N₃ (fun b o hb e => hk₄ b o hb e) (.head _) heC fun p hp => by
      rcases List.mem_cons.mp hp with rfl | hp
      · exact .inl rfl
      · refine .inr ⟨.tail _ hp, ?_⟩
        rcases List.mem_cons.mp hp with rfl | hp
        · exact hCD.symm
        · exact (off p hp).2.1
    have NO : News h₀ L h₄ (ownOf h₄ fp ++ (C, oC₄) :: (D, lst us) :: news) := fun p hp => by
      rcases List.mem_append.mp hp with hp | hp
      · obtain ⟨h1, h2⟩ := ownOf_mem.mp hp
        exact ⟨h2, fpk _ h1⟩
      · exact N₄ p hp
    obtain ⟨tx, rfl⟩ : ∃ t, a = .int (xs.getD i 0) t := by
      obtain ⟨t, ht⟩ := hix.get i (xs.getD i 0) (by rw [List.getD_eq_getElem?_getD, List.getElem?_eq_getElem (by omega)]; rfl)
      exact ⟨t, Option.some.inj (ha.symm.trans (by simpa using ht))⟩
    obtain ⟨ty, rfl⟩ : ∃ t, b = .int (ys.getD i 0) t := by
      obtain ⟨t, ht⟩ := hiy.get i (ys.getD i 0) (by rw [List.getD_eq_getElem?_getD, List.getElem?_eq_getElem (by omega)]; rfl)
      exact ⟨t, Option.some.inj (hb.symm.trans (by simpa using ht))⟩
    refine wpAny_mono (put i oC₄ _ _ _ h₄ _ tx ty hlt hC₄ (by simp [hxy]) (by simp) F₄ NO) (fun v s₅ h₅ => ?_) fun _ _ e => e.elim
    obtain ⟨⟨tv, rfl⟩, h₅, tk₅, rfl, F₅, N₅⟩ := h₅
    have hst₅ : St (i + 1) h₅ := W.frame _ _ _ hst₄ fun b hb o e => (N₅ (b, o) (List.mem_append.mpr (.inl (ownOf_mem.mpr ⟨hb, e⟩)))).1
    have N₅' : News h₀ L h₅ ((C, oC₄) :: (D, lst us) :: news) := fun p hp => N₅ p (List.mem_append.mpr (.inr hp))
    have hlen := hI.length
    rw [List.length_map, List.length_range] at hlen
    have hsl : sizeLine = 16777216 := sizeLine_eq
    refine append_at (hsz := by rw [List.size_toArray]; omega) (N₅' (D, lst us) (.tail _ (.head _))).1 fun h₆ hs₆ hD₆ => ?_
    rw [lst_snoc] at hD₆
    refine ⟨n - (i + 1), by omega, i + 1, h₆, tk₅, _, us ++ [.int (f (xs.getD i 0) (ys.getD i 0)) tv], oC₄, rfl, hlt, rfl, F₅.change hs₆ nD.2.1 nD.2.2, news_chg N₅' (fun b o hb e => hs₆.extBut b o hb e) (.tail _ (.head _)) hD₆ (fun p hp => ?_), hC₄, W.frame _ _ _ hst₅ fun b hb o e => hs₆.extBut b o (fun q => hDf (q ▸ hb)) e, ?_⟩
    · rcases List.mem_cons.mp hp with rfl | hp
      · exact .inr ⟨.head _, hCD⟩
      rcases List.mem_cons.mp hp with rfl | hp
      · exact .inl rfl
      · exact .inr ⟨.tail _ (.tail _ hp), (off p hp).2.2⟩
    · rw [List.range_succ, List.map_append]
      exact ints_append hI (.cons _ _ .nil)
  · obtain rfl : i = n := by omega
    refine W.done _ _ _ hst fun h₂ tk₂ hk₂ => ?_
    exact hR _ _ oC m₂ us (frk F hk₂) (nwk N hk₂ offl) hC hI
end
end Mine
end
section
namespace Mine
theorem sec_Cm7 : True := by
  w_top off
  trivial
end Mine
open PySem PySem.W PySem.Calls PyProof.Rows PySem.Spec PyProof.Rows.LCg
namespace Mine
section
variable {prog : Program} {w : World} {A : Around} {E : Value → Shared → Prop} {s : Shared} {h₀ : Heap} {L : Addr} {m : Str → Option Value} {env : Env}
structure ZipNew (h : Heap) (b lx ly : Addr) (xs ys : Array Value) : Prop where
  z : IsZip h (b + 4) (b + 2) (b + 3) .none
  ti : IsPair h (b + 2) (.ref b) (.ref (b + 1))
  to : ∃ a c, IsPair h (b + 3) a c
  i1 : h.IsListIter b lx 0
  i2 : h.IsListIter (b + 1) ly 0
  l1 : h.IsList lx xs
  l2 : h.IsList ly ys
  sz : h.objs.size = b + 5
theorem zip_new {news : List (Addr × Obj)} {lx ly : Addr} {vx vy : List Value} {cx cy : Nat} {Q : Value → Shared → Prop} (F : Fr h₀ L s.heap m) (N : News h₀ L s.heap news) (hx : (lx, listOf (List.toArray vx) cx) ∈ news) (hy : (ly, listOf (List.toArray vy) cy) ∈ news)
    (h : ∀ h', Fr h₀ L h' m → News h₀ L h' news → ZipNew h' s.heap.objs.size lx ly vx.toArray vy.toArray → Q (.ref (s.heap.objs.size + 4)) { s with heap := h' }) :
    wpAny (model prog w) A (call (.type "zip") [.ref lx, .ref ly]) Q E s := by
  have h1 : s.heap.IsList lx vx.toArray := News.isList N hx
  have h2 : s.heap.IsList ly vy.toArray := News.isList N hy
  refine call_zip_2 h1 h2 fun h' a1 a2 a3 a4 a5 a6 k => ?_
  exact h h' (F.keeps k) (N.grown k) ⟨a1, a2, ⟨_, _, a3⟩, a4, a5, h1.at fun o e => k _ o e, h2.at fun o e => k _ o e, a6⟩
theorem list_pair {elt iter : Expr} {x y : Str} {px py tp : Pos} {kk : Nat} {scope : Scope} {pos : Pos} {cl : List (Str × Addr)} {n : Nat} {news : List (Addr × Obj)} {lx ly : Addr} {vx vy : List Value} {cx cy : Nat} {xs ys : List Int} {Q : Value → Shared → Prop} (f : Int → Int → Int)
    (_F₀ : Fr h₀ L s.heap m) (_N₀ : News h₀ L s.heap news) (hh : A.handled = none) (hn : n ≤ 10) (hlx : (lx, listOf (List.toArray vx) cx) ∈ news) (hly : (ly, listOf (List.toArray vy) cy) ∈ news) (hix : IntsAre vx xs) (hiy : IntsAre vy ys) (nx : xs.length = n) (ny : ys.length = n)
    (hclos : closureFor scope env = pure cl) (hcell : ∀ y ∈ scope.names, y.2 ≠ .cell) (hkind : scope.kind = .function)
    (hnames : ∀ y ∈ scope.names, y.2 = .local → scope.names.lookup y.1 = some .local) (hx : scope.names.lookup x = some .local) (hy : scope.names.lookup y = some .local) (hxy : x ≠ y)
    (hs0 : ∀ x, foldedSetIterable iter env x = pure x)
    (first : wpAny (model prog w) A (eval iter env) (fun xv s₁ => ∃ b h' tk', xv = .ref (b + 4) ∧ s₁ = { s with heap := h', toks := tk' } ∧ ZipNew h' b lx ly vx.toArray vy.toArray ∧ Fr h₀ L h' m ∧ News h₀ L h' news ∧ L < b ∧ ∀ p ∈ news, p.1 < b) E s)
    (put : ∀ (C : Addr) (i : Nat) oC D oD own m₂ h tk tx ty, i < n → NsObj oC m₂ → m₂ x = some (.int (xs.getD i 0) tx) → m₂ y = some (.int (ys.getD i 0) ty) → Fr h₀ L h m → News h₀ L h (own ++ (C, oC) :: (D, oD) :: news) →
      wpAny (model prog w) A (eval elt (compEnvC scope cl C env)) (fun v s' => (∃ t, v = .int (f (xs.getD i 0) (ys.getD i 0)) t) ∧ ∃ h' tk', s' = { s with heap := h', toks := tk' } ∧ Fr h₀ L h' m ∧ News h₀ L h' (own ++ (C, oC) :: (D, oD) :: news)) none1 { s with heap := h, toks := tk })
    (hQ : ∀ D us h tk, Fr h₀ L h m → News h₀ L h ((D, lst us) :: news) → (∀ p ∈ news, p.1 < D) → IntsAre us ((List.range n).map fun i => f (xs.getD i 0) (ys.getD i 0)) → Q (.ref D) { s with heap := h, toks := tk }) :
    wpAny (model prog w) A (eval (.ListComp elt [⟨.Tuple [.Name x px, .Name y py] kk tp, iter, [], 0⟩] scope pos) env) Q E s := by
  rw [eval_ListComp]
  refine wpAny_comprehension_free (use := none) rfl hs0 hclos hkind hnames (wpAny_mono first (fun xv s₁ h₁ => ?_) fun _ _ e => e)
  obtain ⟨b, h', tk', rfl, rfl, ⟨z1, z2, z3, z4, z5, z6, z7, zs⟩, F, N, hLb, hnb⟩ := h₁
  have hlb1 := hnb _ hlx
  have hlb2 := hnb _ hly
  have Wz := WalksT.zip2 (prog := prog) (w := w) (A := A) hh _ _ _ _ _ _ _ (zipApart_new hlb1 hlb2) vx.toArray vy.toArray
  have hmin : min vx.toArray.size vy.toArray.size = n := by
    have := hix.length
    have := hiy.length
    simp only [List.size_toArray]
    omega
  rw [hmin] at Wz
  refine Wz.self 0 _ _ _ ⟨z1, z2, z3, z4, z5, z6, z7⟩ ?_
  refine wpAny_newObj_type (wpAny_newFunctionEnv hcell (by intro y hy; simp at hy) (fun h₁ hns₁ hsb₁ => ?_) hkind)
  dsimp only at hns₁ hsb₁ ⊢
  generalize hH2 : h'.push { cls := .type "list", dict := none, data := .seq ([] : List Value).toArray } = H2 at hns₁ hsb₁ ⊢
  have hC : H2.objs.size = h'.objs.size + 1 := by rw [← hH2, Heap.size_push]
  have hDC : h'.objs.size ≠ H2.objs.size := by rw [hC]; exact Nat.ne_of_lt (Nat.lt_succ_self _)
  have old : ∀ a o, h'.get? a = some o → h₁.get? a = some o := fun a o e => hsb₁.extBut a o (Nat.ne_of_lt (by rw [hC]; exact Nat.lt_succ_of_lt (Heap.lt_size e))) (Heap.get?_push_of_some _ (hH2 ▸ Heap.get?_push_of_some _ e))
  have hacc : h₁.get? h'.objs.size = some (lst []) := hsb₁.extBut _ _ hDC (Heap.get?_push_of_some _ (hH2 ▸ Heap.get?_push_size _ rfl))
  obtain ⟨oC, heC, hoC⟩ := ns_obj hns₁
  have fresh₀ : ∀ a, b ≤ a → h₀.get? a = none := fun a ha => by
    cases e : h₀.get? a with
    | none => rfl
    | some o' => exact absurd (Nat.lt_of_lt_of_le (Heap.lt_size e) F.above) (Nat.not_lt.mpr (Nat.le_trans (Nat.le_of_lt hLb) ha))
  have hD : h'.objs.size = b + 5 := zs
  rw [hD] at hC hDC hacc ⊢
  have hCe : H2.objs.size = b + 6 := hC
  rw [hCe] at heC hDC ⊢
  have lt5 : ∀ _k : Nat, b < b + 5 ∧ b < b + 6 := fun _ => ⟨Nat.lt_add_of_pos_right (by decide), Nat.lt_add_of_pos_right (by decide)⟩
  have N₁ : News h₀ L h₁ ((b + 6, oC) :: (b + 5, lst []) :: news) := fun p hp => by
    rcases List.mem_cons.mp hp with rfl | hp
    · exact ⟨heC, Nat.ne_of_gt (Nat.lt_trans hLb (lt5 0).2), fresh₀ _ (Nat.le_add_right _ _)⟩
    rcases List.mem_cons.mp hp with rfl | hp
    · exact ⟨hacc, Nat.ne_of_gt (Nat.lt_trans hLb (lt5 0).1), fresh₀ _ (Nat.le_add_right _ _)⟩
    · exact ⟨old _ _ (N p hp).1, (N p hp).2⟩
  have fpm : ∀ a : Addr, a ∈ [b + 4, b + 2, b + 3, b, b + 1, lx, ly] → a < b + 5 ∧ a ≠ L ∧ h₀.get? a = none := fun a ha => by
    have ge : ∀ k : Nat, k < 5 → a = b + k → a < b + 5 ∧ a ≠ L ∧ h₀.get? a = none := fun k hk e => by
      subst e
      exact ⟨Nat.add_lt_add_left hk b, Nat.ne_of_gt (Nat.lt_of_lt_of_le hLb (Nat.le_add_right _ _)), fresh₀ _ (Nat.le_add_right _ _)⟩
    simp only [List.mem_cons, List.not_mem_nil, or_false] at ha
    rcases ha with e | e | e | e | e | e | e
    · exact ge 4 (by decide) e
    · exact ge 2 (by decide) e
    · exact ge 3 (by decide) e
    · exact ge 0 (by decide) e
    · exact ge 1 (by decide) e
    · subst e; exact ⟨Nat.lt_trans hlb1 (lt5 0).1, (N _ hlx).2⟩
    · subst e; exact ⟨Nat.lt_trans hlb2 (lt5 0).1, (N _ hly).2⟩
  have loop : ∀ s₃ : Shared, s₃ = { s with heap := h₁, toks := tk' + ([] : List (Str × Value)).length } →
      codeAny (model prog w) A (.compLoop (.ListComp elt [⟨.Tuple [.Name x px, .Name y py] kk tp, iter, [], 0⟩] scope pos) 0 (.ref (b + 4)) (.ref (b + 5)) (compEnvC scope cl (b + 6) env))
        (compPost (model prog w) A E none Q (.ref (b + 5)) (b + 6)) s₃ := by
    rintro s₃ rfl
    refine pair_walk f hh Wz hn hix hiy nx ny (fun a ha => (fpm a ha).2) (fun q => Nat.lt_irrefl _ (Nat.lt_trans (fpm _ q).1 (Nat.lt_succ_self _))) (fun q => Nat.lt_irrefl _ (fpm _ q).1) (fun p hp => ⟨fun q => ?_, ?_, ?_⟩) hDC.symm hkind hx hy hxy
      (fun i oC oD own m₂ h tk tx ty => put (b + 6) i oC _ oD own m₂ h tk tx ty) (F.keeps old) N₁ hoC ⟨old _ _ z1, old _ _ z2, (by obtain ⟨a, c, e⟩ := z3; exact ⟨a, c, old _ _ e⟩), z4.at fun o e => old _ o e, z5.at fun o e => old _ o e, z6.at fun o e => old _ o e, z7.at fun o e => old _ o e⟩ ?_
    · have hp := hnb p hp
      have ge : ∀ k : Nat, p.1 ≠ b + k := fun k => Nat.ne_of_lt (Nat.lt_of_lt_of_le hp (Nat.le_add_right _ _))
      simp only [List.mem_cons, List.not_mem_nil, or_false] at q
      rcases q with e | e | e | e
      · exact ge 4 e
      · exact ge 3 e
      · exact ge 0 e
      · exact ge 1 e
    · exact Nat.ne_of_lt (Nat.lt_trans (hnb p hp) (lt5 0).2)
    · exact Nat.ne_of_lt (Nat.lt_trans (hnb p hp) (lt5 0).1)
    · intro h tk oC₂ m₂ us F₂ N₂ hC₂ hI₂
      have nC := N₂ _ (.head _)
      refine ⟨m₂, hC₂.ns nC.1, fun h'' hs'' => hQ _ us h'' tk (F₂.change hs'' nC.2.1 nC.2.2) (fun p hp => ?_) (fun p hp => Nat.lt_trans (hnb p hp) (lt5 0).1) hI₂⟩
      refine ⟨hs''.extBut _ _ ?_ (N₂ p (.tail _ hp)).1, (N₂ p (.tail _ hp)).2⟩
      rcases List.mem_cons.mp hp with rfl | hp
      · exact hDC
      · exact Nat.ne_of_lt (Nat.lt_trans (hnb p hp) (lt5 0).2)
  exact codeAny_compStart_list (loop _ rfl) (Wz.self 0 _ _ _ ⟨old _ _ z1, old _ _ z2, (by obtain ⟨a, c, e⟩ := z3; exact ⟨a, c, old _ _ e⟩), z4.at fun o e => old _ o e, z5.at fun o e => old _ o e, z6.at fun o e => old _ o e, z7.at fun o e => old _ o e⟩ (loop _ rfl))
end
end Mine
end
section
namespace Mine
theorem sec_Cm8 : True := by
  w_top off
  trivial
end Mine
open PySem PySem.W PySem.Calls PyProof.Rows PySem.Spec PyProof.Rows.LCg
namespace Mine
section
variable {prog : Program} {w : World} {A : Around} {R : Result → Shared → Prop} {s : Shared} {h₀ : Heap} {L : Addr} {m : Str → Option Value} {env : Env}
/-- the rows that are made: the newest first -/
inductive RowsMade (rowf : Nat → List Int) : Nat → List Value → List (Addr × Obj) → Prop
  | zero : RowsMade rowf 0 [] []
  | succ {i us made} {E : Addr} {vs : List Value} : RowsMade rowf i us made → IntsAre vs (rowf i) → RowsMade rowf (i + 1) (us ++ [.ref E]) ((E, lst vs) :: made)
theorem RowsMade.len {rowf : Nat → List Int} : ∀ {i us made}, RowsMade rowf i us made → us.length = i
  | _, _, _, .zero => rfl
  | _, _, _, .succ h _ => by rw [List.length_append, h.len]; rfl
theorem cell_walk {elt iter : Expr} {g : Str} {pg : Pos} {scope : Scope} {pos : Pos} {cl : List (Str × Addr)} {its : List Value} {I C G D ax : Addr} {news : List (Addr × Obj)} {cax : Nat} (rowf : Nat → List Int)
    {h : Heap} {tk : Nat} {oC oG : Obj} {m₂ : Str → Option Value} {v₀ : Option Value} (hh : A.handled = none) (hn : its.length ≤ 10) (hax : (ax, listOf its.toArray cax) ∈ news)
    (hI : I ≠ L ∧ h₀.get? I = none) (off : ∀ p ∈ (C, oC) :: (G, oG) :: (D, lst []) :: news, p.1 ≠ I) (offn : ∀ p ∈ news, p.1 ≠ G ∧ p.1 ≠ D) (hCG : C ≠ G) (hCD : C ≠ D) (hGD : G ≠ D)
    (hk : (compEnvC scope cl C env).scope.kind = .function) (hg : (compEnvC scope cl C env).kindOf g = some .cell) (hcl : (compEnvC scope cl C env).cells.lookup g = some G)
    (put : ∀ (i : Nat) oC oG oD own made h tk, i < its.length → (∃ v, its[i]? = some v ∧ oG.data = .cell (some v)) → Fr h₀ L h m → News h₀ L h (own ++ (C, oC) :: (G, oG) :: (D, oD) :: (made ++ news)) →
      wpAny (model prog w) A (eval elt (compEnvC scope cl C env)) (fun v s' => ∃ E us h' tk', v = .ref E ∧ s' = { s with heap := h', toks := tk' } ∧ Fr h₀ L h' m ∧ News h₀ L h' ((E, lst us) :: (own ++ (C, oC) :: (G, oG) :: (D, oD) :: (made ++ news))) ∧
        (∀ p ∈ own ++ (C, oC) :: (G, oG) :: (D, oD) :: (made ++ news), p.1 < E) ∧ IntsAre us (rowf i)) none1 { s with heap := h, toks := tk })
    (F : Fr h₀ L h m) (N : News h₀ L h ((C, oC) :: (G, oG) :: (D, lst []) :: news)) (hC : NsObj oC m₂) (hG : oG.data = .cell v₀) (hst : h.IsListIter I ax 0)
    (hR : ∀ h tk oC oG m₂ us made, Fr h₀ L h m → News h₀ L h ((C, oC) :: (G, oG) :: (D, lst us) :: (made ++ news)) → NsObj oC m₂ → RowsMade rowf its.length us made → (∀ p ∈ made, p.1 ≠ C ∧ p.1 ≠ G ∧ p.1 ≠ D) → R (.ok .next) { s with heap := h, toks := tk }) :
    codeAny (model prog w) A (.compLoop (.ListComp elt [⟨.Name g pg, iter, [], 0⟩] scope pos) 0 (.ref I) (.ref D) (compEnvC scope cl C env)) R { s with heap := h, toks := tk } := by
  have hIax : ax ≠ I := off _ (.tail _ (.tail _ (.tail _ hax)))
  have W := Walks.list (prog := prog) (w := w) (A := A) hh I ax hIax its.toArray
  have hCI : C ≠ I := off _ (.head _)
  have hGI : G ≠ I := off (G, oG) (.tail _ (.head _))
  have hDI : D ≠ I := off (D, lst []) (.tail _ (.tail _ (.head _)))
  refine codeAny_compLoop_list (fun k s' => ∃ i h tk us made oC oG, s' = { s with heap := h, toks := tk } ∧ i ≤ its.length ∧ k = its.length - i ∧ Fr h₀ L h m ∧ News h₀ L h ((C, oC) :: (G, oG) :: (D, lst us) :: (made ++ news)) ∧ NsObj oC m₂ ∧ (∃ v, oG.data = .cell v) ∧
      h.IsListIter I ax i ∧ RowsMade rowf i us made ∧ (∀ p ∈ made, p.1 ≠ I ∧ p.1 ≠ C ∧ p.1 ≠ G ∧ p.1 ≠ D))
    ?_ its.length ⟨0, h, tk, [], [], oC, oG, rfl, Nat.zero_le _, rfl, F, N, hC, ⟨_, hG⟩, hst, .zero, fun _ hp => nomatch hp⟩
  rintro k s' ⟨i, h, tk, us, made, oC', oG', rfl, hi, rfl, F, N, hC', ⟨vG, hG'⟩, hst, hM, offm⟩
  have nC := N _ (.head _)
  have nG := N (G, oG') (.tail _ (.head _))
  have nD := N (D, lst us) (.tail _ (.tail _ (.head _)))
  have haxm : (ax, listOf its.toArray cax) ∈ (C, oC') :: (G, oG') :: (D, lst us) :: (made ++ news) := .tail _ (.tail _ (.tail _ (List.mem_append.mpr (.inr hax))))
  have hl : h.IsList ax its.toArray := News.isList N haxm
  have offa : ∀ {oC oG oD : Obj}, ∀ p ∈ (C, oC) :: (G, oG) :: (D, oD) :: (made ++ news), p.1 ≠ I := fun p hp => by
    rcases List.mem_cons.mp hp with rfl | hp
    · exact hCI
    rcases List.mem_cons.mp hp with rfl | hp
    · exact hGI
    rcases List.mem_cons.mp hp with rfl | hp
    · exact hDI
    rcases List.mem_append.mp hp with hp | hp
    · exact (offm p hp).1
    · exact off p (.tail _ (.tail _ (.tail _ hp)))
  by_cases hlt : i < its.length
  · refine W.item i _ _ _ (by rw [List.size_toArray]; exact hlt) ⟨hst, hl⟩ fun v h₂ tk₂ hv hst₂ hk₂ => ?_
    have N₂ := news_but N hk₂ offa
    have F₂ : Fr h₀ L h₂ m := fr_but F hk₂ hI.1.symm hI.2
    refine wpAny_assign_Name (wpAny_storeName_cell hk hg hcl ⟨oG', (N₂ (G, oG') (.tail _ (.head _))).1, hG'⟩ fun h₃ hc₃ hs₃ => ?_)
    obtain ⟨oG₃, heG, hG₃⟩ := hc₃
    have N₃ : News h₀ L h₃ ((C, oC') :: (G, oG₃) :: (D, lst us) :: (made ++ news)) := news_chg N₂ (fun b o hb e => hs₃.extBut b o hb e) (.tail _ (.head _)) heG fun p hp => by
      rcases List.mem_cons.mp hp with rfl | hp
      · exact .inr ⟨.head _, hCG⟩
      rcases List.mem_cons.mp hp with rfl | hp
      · exact .inl rfl
      rcases List.mem_cons.mp hp with rfl | hp
      · exact .inr ⟨.tail _ (.tail _ (.head _)), hGD.symm⟩
      · refine .inr ⟨.tail _ (.tail _ (.tail _ hp)), ?_⟩
        rcases List.mem_append.mp hp with hp | hp
        · exact (offm p hp).2.2.1
        · exact (offn p hp).1
    have F₃ : Fr h₀ L h₃ m := F₂.change hs₃ nG.2.1 nG.2.2
    have hst₃ : h₃.IsListIter I ax (i + 1) := hst₂.1.at fun o e => hs₃.extBut _ o hGI.symm e
    have NO : News h₀ L h₃ (ownOf h₃ [I] ++ (C, oC') :: (G, oG₃) :: (D, lst us) :: (made ++ news)) := fun p hp => by
      rcases List.mem_append.mp hp with hp | hp
      · obtain ⟨h1, h2⟩ := ownOf_mem.mp hp
        rw [List.mem_singleton.mp h1] at h2 ⊢
        exact ⟨h2, hI⟩
      · exact N₃ p hp
    refine wpAny_mono (put i oC' oG₃ _ _ made h₃ _ hlt ⟨v, by simpa using hv, hG₃⟩ F₃ NO) (fun x s₅ h₅ => ?_) fun _ _ e => e.elim
    obtain ⟨E', vs, h₅, tk₅, rfl, rfl, F₅, N₅, hE', hI'⟩ := h₅
    have hst₅ : h₅.IsListIter I ax (i + 1) := hst₃.at fun o e => (N₅ (I, o) (.tail _ (List.mem_append.mpr (.inl (ownOf_mem.mpr ⟨.head _, e⟩))))).1
    obtain ⟨oI, heI, _⟩ := hst₃
    have hIE : I < E' := hE' (I, oI) (List.mem_append.mpr (.inl (ownOf_mem.mpr ⟨.head _, heI⟩)))
    have hCE : C < E' := hE' (C, oC') (List.mem_append.mpr (.inr (.head _)))
    have hGE : G < E' := hE' (G, oG₃) (List.mem_append.mpr (.inr (.tail _ (.head _))))
    have hDE : D < E' := hE' (D, lst us) (List.mem_append.mpr (.inr (.tail _ (.tail _ (.head _)))))
    have hsl : sizeLine = 16777216 := sizeLine_eq
    have hul := hM.len
    refine append_at (hsz := by rw [List.size_toArray]; omega) (N₅ (D, lst us) (.tail _ (List.mem_append.mpr (.inr (.tail _ (.tail _ (.head _))))))).1 fun h₆ hs₆ hD₆ => ?_
    rw [lst_snoc] at hD₆
    refine ⟨its.length - (i + 1), by omega, i + 1, h₆, tk₅, us ++ [.ref E'], (E', lst vs) :: made, oC', oG₃, rfl, hlt, rfl, F₅.change hs₆ nD.2.1 nD.2.2, news_chg N₅ (fun b o hb e => hs₆.extBut b o hb e) (.tail _ (List.mem_append.mpr (.inr (.tail _ (.tail _ (.head _)))))) hD₆ (fun p hp => ?_),
      hC', ⟨_, hG₃⟩, hst₅.at fun o e => hs₆.extBut _ o hDI.symm e, .succ hM hI', fun p hp => ?_⟩
    · rcases List.mem_cons.mp hp with rfl | hp
      · exact .inr ⟨.tail _ (List.mem_append.mpr (.inr (.head _))), hCD⟩
      rcases List.mem_cons.mp hp with rfl | hp
      · exact .inr ⟨.tail _ (List.mem_append.mpr (.inr (.tail _ (.head _)))), hGD⟩
      rcases List.mem_cons.mp hp with rfl | hp
      · exact .inl rfl
      rcases List.mem_cons.mp hp with rfl | hp
      · exact .inr ⟨.head _, Nat.ne_of_gt hDE⟩
      · refine .inr ⟨.tail _ (List.mem_append.mpr (.inr (.tail _ (.tail _ (.tail _ hp))))), ?_⟩
        rcases List.mem_append.mp hp with hp | hp
        · exact (offm p hp).2.2.2
        · exact (offn p hp).2
    · rcases List.mem_cons.mp hp with rfl | hp
      · exact ⟨Nat.ne_of_gt hIE, Nat.ne_of_gt hCE, Nat.ne_of_gt hGE, Nat.ne_of_gt hDE⟩
      · exact offm p hp
  · obtain rfl : i = its.length := by omega
    refine W.done _ _ _ ⟨by rw [List.size_toArray]; exact hst, hl⟩ fun h₂ tk₂ hk₂ => ?_
    exact hR _ _ oC' oG' _ us made (fr_but F hk₂ hI.1.symm hI.2) (news_but N hk₂ offa) hC' hM fun p hp => (offm p hp).2
end
end Mine
end
section
namespace Mine
theorem sec_Cm9 : True := by
  w_top off
  trivial
end Mine
open PySem PySem.W PySem.Calls PyProof.Rows PySem.Spec PyProof.Rows.LCg
namespace Mine
section
theorem newEnv_around {M : Model} {A : Around} {E : Value → Shared → Prop} {s : Shared} {scope : Scope} {globals : Addr} {cl : List (Str × Addr)} {qual : Str} {env : Env} {Q : Env → Shared → Prop}
    (hQ : Q (newEnv scope s.heap.objs.size globals (cellsFrom (s.heap.objs.size + 1) scope.names cl) qual none .none (some env) builtinsNs) { s with heap := pushCells (s.heap.push { cls := .type "dict", data := .dict #[] }) scope.names }) :
    wpAny M A (newFunctionEnv scope globals cl [] qual none .none (some env)) Q E s := by
  simp only [newFunctionEnv, Option.isSome_some, if_true]
  refine wpAny_bind (wpAny_alloc ?_)
  refine wpAny_bind (wpAny_layCells _ (fun name kind cells => by cases hkc : kind == NameKind.cell <;> simp [hkc]) _ _ _ _ ?_)
  rw [show ({ s with heap := s.heap.push { cls := .type "dict", data := .dict #[] } } : Shared).heap.objs.size = s.heap.objs.size + 1 from Heap.size_push ..]
  rw [List.forIn_nil]
  exact wpAny_bind (wpAny_pure (wpAny_pure hQ))
variable {prog : Program} {w : World} {A : Around} {E : Value → Shared → Prop} {s : Shared} {h₀ : Heap} {L : Addr} {m : Str → Option Value} {env : Env}
theorem list_cell {elt iter : Expr} {g y : Str} {pg py : Pos} {scope : Scope} {pos spos : Pos} {cl : List (Str × Addr)} {its : List Value} {ax : Addr} {cax : Nat} {news : List (Addr × Obj)} {Q : Flow → Shared → Prop} (rowf : Nat → List Int)
    (F₀ : Fr h₀ L s.heap m) (N₀ : News h₀ L s.heap news) (hh : A.handled = none) (hn : its.length ≤ 10) (hax : (ax, listOf its.toArray cax) ∈ news) (hLe : env.locals = L)
    (hsw : swapsWith (.ListComp elt [⟨.Name g pg, iter, [], 0⟩] scope pos) (some (.Name y py)) spos.line env = pure true)
    (hclos : closureFor scope env = pure cl) (hkind : scope.kind = .function)
    (hnames : ∀ y ∈ scope.names, y.2 = .local → scope.names.lookup y.1 = some .local)
    (hcells : ∀ n, cellsFrom n scope.names cl = (g, n) :: cl) (hpush : ∀ h, pushCells h scope.names = h.push { cls := .type "cell", data := .cell none })
    (hg : ∀ C G, (compEnvC scope ((g, G) :: cl) C env).kindOf g = some .cell)
    (hy : env.kindOf y = some .local) (hp : (env.scope.kind == .class || (env.scope.kind == .module && env.locals != env.globals)) = false)
    (hs0 : ∀ x, foldedSetIterable iter env x = pure x)
    (first : wpAny (model prog w) A (eval iter env) (fun xv s₁ => ∃ h' tk', xv = .ref ax ∧ s₁ = { s with heap := h', toks := tk' } ∧ Fr h₀ L h' m ∧ News h₀ L h' news) E s)
    (put : ∀ (C G : Addr) (i : Nat) oC oG D oD own made h tk, i < its.length → (∃ v, its[i]? = some v ∧ oG.data = .cell (some v)) → Fr h₀ L h m → News h₀ L h (own ++ (C, oC) :: (G, oG) :: (D, oD) :: (made ++ news)) →
      wpAny (model prog w) A (eval elt (compEnvC scope ((g, G) :: cl) C env)) (fun v s' => ∃ E us h' tk', v = .ref E ∧ s' = { s with heap := h', toks := tk' } ∧ Fr h₀ L h' m ∧ News h₀ L h' ((E, lst us) :: (own ++ (C, oC) :: (G, oG) :: (D, oD) :: (made ++ news))) ∧
        (∀ p ∈ own ++ (C, oC) :: (G, oG) :: (D, oD) :: (made ++ news), p.1 < E) ∧ IntsAre us (rowf i)) none1 { s with heap := h, toks := tk })
    (hQ : ∀ D us made h tk, Fr h₀ L h (fun z => if z = y then some (.ref D) else m z) → News h₀ L h ((D, lst us) :: (made ++ news)) → RowsMade rowf its.length us made → Q .next { s with heap := h, toks := tk }) :
    wpAny (model prog w) A (exec (.Assign [.Name y py] (.ListComp elt [⟨.Name g pg, iter, [], 0⟩] scope pos) spos) env) Q E s := by
  subst hLe
  rw [exec_Assign_Name_used _ _ _ _ hsw]
  refine wpAny_bind (wpAny_standAt (wpAny_bind ?_))
  show wpAny _ A (do let _ ← comprehension (.ListComp elt [⟨.Name g pg, iter, [], 0⟩] scope pos) scope env _ (newList []) false (eval iter env) (some (assign (.Name y py) env))) _ _ s
  refine wpAny_bind (wpAny_mono (wpAny_comprehension_free (use := some (assign (.Name y py) env)) (Q := fun _ s' => Q .next s') rfl hs0 hclos hkind hnames
    (wpAny_mono first (fun xv s₁ h₁ => ?_) fun _ _ e => e)) (fun _ s' hq => wpAny_pure (wpAny_pure hq)) fun _ _ e => e)
  obtain ⟨h', tk', rfl, rfl, F, N⟩ := h₁
  have hl : h'.IsList ax its.toArray := News.isList N hax
  refine wpAny_pyIter_list hl ?_
  refine wpAny_newObj_type (newEnv_around ?_)
  dsimp only
  rw [hcells, hpush]
  generalize hH1 : h'.push { cls := .type "list_iterator", data := .fields #[.ref ax, .int 0 0] } = H1
  generalize hH2 : H1.push { cls := .type "list", dict := none, data := .seq ([] : List Value).toArray } = H2
  generalize hH3 : H2.push { cls := .type "dict", data := .dict #[] } = H3
  have e1 : H1.objs.size = h'.objs.size + 1 := by rw [← hH1, Heap.size_push]
  have e2 : H2.objs.size = h'.objs.size + 2 := by rw [← hH2, Heap.size_push, e1]
  have e3 : H3.objs.size = h'.objs.size + 3 := by rw [← hH3, Heap.size_push, e2]
  generalize hH4 : H3.push { cls := .type "cell", data := .cell none } = H4
  have u1 : ∀ b o, h'.get? b = some o → H1.get? b = some o := fun b o e => hH1 ▸ Heap.get?_push_of_some _ e
  have u2 : ∀ b o, H1.get? b = some o → H2.get? b = some o := fun b o e => hH2 ▸ Heap.get?_push_of_some _ e
  have u3 : ∀ b o, H2.get? b = some o → H3.get? b = some o := fun b o e => hH3 ▸ Heap.get?_push_of_some _ e
  have u4 : ∀ b o, H3.get? b = some o → H4.get? b = some o := fun b o e => hH4 ▸ Heap.get?_push_of_some _ e
  have gI : H4.get? h'.objs.size = some { cls := .type "list_iterator", data := .fields #[.ref ax, .int 0 0] } := u4 _ _ (u3 _ _ (u2 _ _ (hH1 ▸ Heap.get?_push_size _ rfl)))
  have gD : H4.get? H1.objs.size = some (lst []) := u4 _ _ (u3 _ _ (hH2 ▸ Heap.get?_push_size _ rfl))
  have gC : H4.Ns H2.objs.size (fun _ => none) := by
    have := (Heap.Ns.new H2 (.type "dict"))
    rw [hH3] at this
    exact this.keeps u4
  have gG : H4.get? H3.objs.size = some { cls := .type "cell", data := .cell none } := hH4 ▸ Heap.get?_push_size _ rfl
  obtain ⟨oC, heC, hoC⟩ := ns_obj gC
  rw [e1] at gD
  rw [e2] at heC ⊢
  rw [e3] at gG
  have hLlt := F.ns.lt
  have fresh₀ : ∀ k, h₀.get? (h'.objs.size + k) = none := fun k => by
    cases e : h₀.get? (h'.objs.size + k) with
    | none => rfl
    | some o' => exact absurd (Heap.lt_size (F.keep _ o' e)) (Nat.not_lt.mpr (Nat.le_add_right _ _))
  have neL : ∀ k, h'.objs.size + k ≠ env.locals := fun k => Nat.ne_of_gt (Nat.lt_of_lt_of_le hLlt (Nat.le_add_right _ _))
  have old : ∀ b o, h'.get? b = some o → H4.get? b = some o := fun b o e => u4 _ _ (u3 _ _ (u2 _ _ (u1 _ _ e)))
  have nlt : ∀ p ∈ news, p.1 < h'.objs.size := fun p hp => Heap.lt_size (N p hp).1
  have nne : ∀ k, ∀ p ∈ news, p.1 ≠ h'.objs.size + k := fun k p hp => Nat.ne_of_lt (Nat.lt_of_lt_of_le (nlt p hp) (Nat.le_add_right _ _))
  have kne : ∀ {a b : Nat}, a ≠ b → h'.objs.size + a ≠ h'.objs.size + b := fun h e => h (Nat.add_left_cancel e)
  have N₁ : News h₀ env.locals H4 ((h'.objs.size + 2, oC) :: (h'.objs.size + 3, { cls := .type "cell", data := .cell none }) :: (h'.objs.size + 1, lst []) :: news) := fun p hp => by
    rcases List.mem_cons.mp hp with rfl | hp
    · exact ⟨heC, neL _, fresh₀ _⟩
    rcases List.mem_cons.mp hp with rfl | hp
    · exact ⟨gG, neL _, fresh₀ _⟩
    rcases List.mem_cons.mp hp with rfl | hp
    · exact ⟨gD, neL _, fresh₀ _⟩
    · exact ⟨old _ _ (N p hp).1, (N p hp).2⟩
  have e21 : h'.objs.size + 2 + 1 = h'.objs.size + 3 := rfl
  rw [e21, e1]
  have loop : codeAny (model prog w) A (.compLoop (.ListComp elt [⟨.Name g pg, iter, [], 0⟩] scope pos) 0 (.ref h'.objs.size) (.ref (h'.objs.size + 1)) (compEnvC scope ((g, h'.objs.size + 3) :: cl) (h'.objs.size + 2) env))
        (compPost (model prog w) A E (some (assign (.Name y py) env)) (fun _ s' => Q .next s') (.ref (h'.objs.size + 1)) (h'.objs.size + 2)) { s with heap := H4, toks := tk' } := by
    refine cell_walk rowf hh hn hax ⟨neL 0, fresh₀ 0⟩ (fun p hp => ?_) (fun p hp => ⟨nne 3 p hp, nne 1 p hp⟩) (kne (by decide)) (kne (by decide)) (kne (by decide)) hkind (hg _ _) (by show List.lookup g ((g, _) :: cl) = _; simp) (fun i oC oG oD own made h tk => put _ _ i oC oG _ oD own made h tk) (F.keeps old) N₁ hoC rfl ⟨_, gI, rfl, rfl⟩ ?_
    · rcases List.mem_cons.mp hp with rfl | hp
      · exact kne (a := 2) (b := 0) (by decide)
      rcases List.mem_cons.mp hp with rfl | hp
      · exact kne (a := 3) (b := 0) (by decide)
      rcases List.mem_cons.mp hp with rfl | hp
      · exact kne (a := 1) (b := 0) (by decide)
      · exact nne 0 p hp
    · intro h tk oC₂ oG₂ m₂ us made F₂ N₂ hC₂ hM offm
      have nC := N₂ _ (.head _)
      show wpAny _ A (assign (.Name y py) env (.ref _)) _ _ _
      refine wpAny_assign_Name (wpAny_storeName_local hy F₂.ns (fun h₃ hn₃ hs₃ => ?_) hp)
      have hL₀ : h₀.get? env.locals = none := Heap.get?_none_of_le F₂.above
      have F₃ : Fr h₀ env.locals h₃ (fun z => if z = y then some (.ref (h'.objs.size + 1)) else m z) := ⟨hn₃, fun b o e => hs₃.extBut b o (fun q => by rw [q, hL₀] at e; cases e) (F₂.keep b o e), F₂.above⟩
      refine ⟨m₂, (hC₂.ns nC.1).sameBut hs₃ nC.2.1, fun h'' hs'' => hQ _ us made h'' _ (F₃.change hs'' nC.2.1 nC.2.2) (fun p hp => ?_) hM⟩
      have hp2 : p ∈ (h'.objs.size + 2, oC₂) :: (h'.objs.size + 3, oG₂) :: (h'.objs.size + 1, lst us) :: (made ++ news) := .tail _ (.tail _ hp)
      have z : h₃.get? p.1 = some p.2 := hs₃.extBut _ _ (N₂ p hp2).2.1 (N₂ p hp2).1
      refine ⟨hs''.extBut _ _ ?_ z, (N₂ p hp2).2⟩
      rcases List.mem_cons.mp hp with rfl | hp
      · exact kne (a := 1) (b := 2) (by decide)
      rcases List.mem_append.mp hp with hp | hp
      · exact (offm p hp).1
      · exact nne 2 p hp
  exact codeAny_compStart_list loop (wpAny_pyIter_listiter ⟨_, gI, rfl, rfl⟩ loop)
end
end Mine
end
section
namespace Mine
theorem sec_L2 : True := by
  w_top off
  trivial
end Mine
open PySem PySem.W PySem.Calls PyProof.Rows PySem.Spec PyProof.Rows.LCg
namespace Mine
local macro_rules | `(tactic| k_all) => `(tactic| assumption)
local macro_rules | `(tactic| k_mem) => `(tactic| assumption)
set_option maxRecDepth 100000 in
set_option maxHeartbeats 8000000 in
theorem law_rows {prog : Program} {w : World} {mean mg mb} {h₀ L m s} {fa : Addr} {cd : Value} {Q : Flow → Shared → Prop} {news : List (Addr × Obj)} {lx ly Mk : Addr} {vx vy vm : List Value} {cx cy cm : Nat} {xs ys ms : List Int} {span : Int} {ts : Tok} {oX oY oS : Obj} {n : Nat}
    {s7 s8 s9 s10 s11 : Stmt} (hst : (bodyOf 14).drop 7 = [s7, s8, s9, s10, s11])
    {k : ScopeKind} {ns : List (Str × NameKind)} {ig ic : Bool} {mo : List (Str × Const)} (hsc : scopeOf 14 = ⟨k, ns, ig, ic, mo⟩)
    (B : Below callerA h₀ [] h₀) (F : Fr h₀ L s.heap m) (X : (Mine.hd.heap_39 w.params).In h₀) (N : News h₀ L s.heap news) (T : Top Mine.hd.view_39 (looseW Mine.hd.view_39 []) mean mg mb h₀)
    (hmk : m (Str.ofString "marks") = some (.ref Mk)) (hMk : (Mk, listOf vm.toArray cm) ∈ news) (hmi : IntsAre vm ms) (hm3 : ms.length = 3) (bm : ∀ i, 0 ≤ ms.getD i 0 ∧ ms.getD i 0 ≤ span)
    (hlx : (lx, listOf (List.toArray vx) cx) ∈ news) (hly : (ly, listOf (List.toArray vy) cy) ∈ news) (hix : IntsAre vx xs) (hiy : IntsAre vy ys) (nx : xs.length = n) (ny : ys.length = n) (hn : n ≤ 10)
    (bx : ∀ i : Nat, 0 ≤ xs.getD i 0 ∧ xs.getD i 0 < 1000000) (bye : ∀ i : Nat, 0 ≤ ys.getD i 0 ∧ ys.getD i 0 < 1000000) (bs : 2 ≤ span ∧ span ≤ 8)
    (hX : (L + 1, oX) ∈ news) (hY : (L + 2, oY) ∈ news) (hS : (L + 3, oS) ∈ news) (dX : oX.data = .cell (some (.ref lx))) (dY : oY.data = .cell (some (.ref ly))) (dS : oS.data = .cell (some (.int span ts)))
    (hQ : ∀ D us made h tk, Fr h₀ L h (fun z => if z = Str.ofString "rows" then some (.ref D) else m z) → News h₀ L h ((D, lst us) :: (made ++ news)) →
      RowsMade (fun r => (List.range n).map fun i => (span - ms.getD r 0) * xs.getD i 0 + ms.getD r 0 * ys.getD i 0) 3 us made → Q .next { s with heap := h, toks := tk }) :
    wpAny (model prog w) (callerA.deeper (envOfC (Str.ofString "law") ⟨k, ns, ig, ic, mo⟩ L fa cd)) (exec s7 (envOfC (Str.ofString "law") ⟨k, ns, ig, ic, mo⟩ L fa cd)) Q none1 s := by
  have hfill : PySem.Challenge.rw_tx0016_01 = PySem.Challenge.rw_tx0016_01 ∧ Mine.hd.heap_39 = Mine.hd.heap_39 := by
    k_fill
    exact ⟨rfl, rfl⟩
  clear hfill
  cases hst
  cases hsc
  have hvm : vm.length = 3 := by rw [hmi.length]; exact hm3
  rw [← hvm] at hQ
  (with_unfolding_all refine' list_cell (its := vm) (ax := Mk) (cax := cm) (news := news) _ F N rfl (by omega) hMk rfl ?sw ?clos rfl ?names ?cells ?push ?hg rfl rfl ?hs0 ?first ?put hQ)
  case sw => with_unfolding_all rfl
  case clos => with_unfolding_all rfl
  case names => decide
  case cells => exact fun _ => rfl
  case push => exact fun _ => rfl
  case hg => exact fun _ _ => rfl
  case hs0 => exact fun _ => rfl
  case first =>
    have F9 := fr_back (x := Str.ofString "marks") F (by with_unfolding_all exact hmk)
    repeat' ((fail_if_success (with_reducible show wpAny _ _ (exec (Stmt.While _ _ _ _) _) _ _ _)); (fail_if_success (with_reducible show wpAny _ _ (exec (Stmt.For _ _ _ _ _) _) _ _ _)); first | (k_unfold; (try dsimp only)) | (k_end; wrow_close) | walk1 | (dsimp only; walk1) | (leave1; walk_say "STEP leave1"; try dsimp only) | fail "no step")
    all_goals assumption
  case put =>
    intro C G i oC oG D oD own made h tk hi hv F2 N2
    obtain ⟨v, hvi, hdG⟩ := hv
    obtain ⟨tv, rfl⟩ : ∃ t, v = .int (ms.getD i 0) t := by
      obtain ⟨t, ht⟩ := hmi.get i (ms.getD i 0) (by rw [List.getD_eq_getElem?_getD, List.getElem?_eq_getElem (by omega)]; rfl)
      exact ⟨t, Option.some.inj (hvi.symm.trans ht)⟩
    have hbm := bm i
    have inn : ∀ p ∈ news, p ∈ own ++ (C, oC) :: (G, oG) :: (D, oD) :: (made ++ news) := fun p hp => List.mem_append.mpr (.inr (.tail _ (.tail _ (.tail _ (List.mem_append.mpr (.inr hp))))))
    have iG : (G, oG) ∈ own ++ (C, oC) :: (G, oG) :: (D, oD) :: (made ++ news) := List.mem_append.mpr (.inr (.tail _ (.head _)))
    generalize own ++ (C, oC) :: (G, oG) :: (D, oD) :: (made ++ news) = full at N2 inn iG
    have iX := inn _ hX
    have iY := inn _ hY
    have iS := inn _ hS
    have iy := inn _ hly
    have ix := inn _ hlx
    clear hX hY hS hly hlx N F hMk hQ
    (with_unfolding_all refine' list_pair (n := n) (news := full) (lx := lx) (ly := ly) (vx := vx) (vy := vy) (cx := cx) (cy := cy) (fun a b => (span - ms.getD i 0) * a + ms.getD i 0 * b) F2 N2 rfl hn ix iy hix hiy nx ny ?clos ?cell rfl ?names rfl rfl ?hxy ?hs0 ?first2 ?put2 ?hQ2)
    case clos => with_unfolding_all rfl
    case cell => decide
    case names => decide
    case hxy => decide
    case hs0 => exact fun _ => rfl
    case first2 =>
      repeat' ((fail_if_success (with_reducible show wpAny _ _ (exec (Stmt.While _ _ _ _) _) _ _ _)); (fail_if_success (with_reducible show wpAny _ _ (exec (Stmt.For _ _ _ _ _) _) _ _ _)); (fail_if_success (with_reducible show wpAny _ _ (call (Value.type "zip") _) _ _ _)); first | (k_unfold; (try dsimp only)) | (k_end; wrow_close) | walk1 | (dsimp only; walk1) | (leave1; walk_say "STEP leave1"; try dsimp only) | fail "no step")
      (with_unfolding_all refine' zip_new ?zF ?zN ix iy ?_)
      case zF => assumption
      case zN => assumption
      intro h9 F9 N9 Z9
      change ∃ _, _
      exact ⟨_, h9, _, rfl, rfl, Z9, F9, N9, F2.ns.lt, fun p hp => Heap.lt_size (N2 p hp).1⟩
    case put2 =>
      intro C2 j oC2 D2 oD2 own2 m₂ h2 tk2 tx ty hj hC2 hx2 hy2 F3 N3
      have inn2 : ∀ p ∈ full, p ∈ own2 ++ (C2, oC2) :: (D2, oD2) :: full := fun p hp => List.mem_append.mpr (.inr (.tail _ (.tail _ hp)))
      have iC2 : (C2, oC2) ∈ own2 ++ (C2, oC2) :: (D2, oD2) :: full := List.mem_append.mpr (.inr (.head _))
      generalize own2 ++ (C2, oC2) :: (D2, oD2) :: full = full2 at N3 inn2 iC2
      have jG := inn2 _ iG
      have jS := inn2 _ iS
      have q1 := bx j
      have q2 := bye j
      clear iG iS iX iY ix iy inn inn2 F2 N2
      repeat' ((fail_if_success (with_reducible show wpAny _ _ (exec (Stmt.While _ _ _ _) _) _ _ _)); (fail_if_success (with_reducible show wpAny _ _ (exec (Stmt.For _ _ _ _ _) _) _ _ _)); first | (k_unfold; (try dsimp only)) | (k_end; wrow_close) | walk1 | (dsimp only; walk1) | (leave1; walk_say "STEP leave1"; try dsimp only) | fail "no step")
      all_goals assumption
    case hQ2 =>
      intro D2 us h2 tk2 F3 N3 hlt hI
      exact ⟨D2, us, h2, tk2, rfl, rfl, F3, N3, hlt, hI⟩
end Mine
end
section
open PySem PySem.W PySem.Calls PyProof.Rows PySem.Spec
local macro_rules | `(tactic| k_all) => `(tactic| assumption)
local macro_rules | `(tactic| k_mem) => `(tactic| ((repeat refine List.Mem.tail _ ?_); assumption))
section
namespace Mine
theorem sec_L3 : True := by
  w_top off
  trivial
end Mine
open PySem PySem.W PySem.Calls PyProof.Rows PySem.Spec PyProof.Rows.LCg
namespace Mine
theorem off1_ne {D : Addr} : ∀ {l : List (Addr × Obj)}, Off1 D l → ∀ p ∈ l, p.1 ≠ D
  | [], _, _, h => nomatch h
  | _ :: _, x, p, h => by
    rcases List.mem_cons.mp h with rfl | h
    · exact x.1
    · exact off1_ne x.2 p h
theorem CallOk.law {prog : Program} {w : World} {K : Frag} {p : Program} {loose : List Str} {mean : ExcName → Option Value} {mg mb : Str → Option Value} {f : Addr} {dd uu : Nat} {news : List (Addr × Obj)} {vs : List Value} {post : Value → List (Addr × Obj) → Prop}
    {nm : Str} {sc : Scope} {cd : Value} {fa : Addr} {h₀ : Heap} {L : Addr} {m : Str → Option Value} {s : Shared} {Q E : Value → Shared → Prop}
    (C : CallOk prog w K p loose mean mg mb f dd uu news vs post) (B : Below callerA h₀ [] h₀) (F : Fr h₀ L s.heap m) (X : K.In h₀) (N : News h₀ L s.heap news) (T : Top p loose mean mg mb h₀) (hk : sc.kind = .function)
    (hd : dd ≤ 5) (hu : uu ≤ 48) (ret : ∀ r tl h' tk', post r tl → Fr h₀ L h' m → News h₀ L h' (tl ++ news) → Q r { s with heap := h', toks := tk' }) :
    wpAny (model prog w) (callerA.deeper (envOfC nm sc L fa cd)) (call (.ref f) vs) Q E s := by
  have e : callerA.deeper (envOfC nm sc L fa cd) = ktrTop (1 + claimMargin + 1) 7 (some []) nm sc L fa cd (cellsFrom (L + 1) sc.names []) [] := rfl
  rw [e]
  have h1 : 1 + claimMargin + 1 + 5 < recursionLimit := by decide +kernel
  have h2 : 7 + 48 < cLine := by decide +kernel
  exact CallOk.use C B F X N T hk (by omega) (by omega) ret
set_option maxRecDepth 100000 in
set_option maxHeartbeats 8000000 in
theorem law_words {prog : Program} {w : World} {mean mg mb} {h₀ L m s} {fa : Addr} {cd : Value} {Q : Flow → Shared → Prop} {news : List (Addr × Obj)} {D e0 e1 e2 : Addr} {v0 v1 v2 : List Value} {r0 r1 r2 : List Int} {cD c0 c1 c2 : Nat} {n : Nat}
    {s8 s9 s10 s11 : Stmt} (hst : (bodyOf 14).drop 8 = [s8, s9, s10, s11])
    {k : ScopeKind} {ns : List (Str × NameKind)} {ig ic : Bool} {mo : List (Str × Const)} (hsc : scopeOf 14 = ⟨k, ns, ig, ic, mo⟩)
    (B : Below callerA h₀ [] h₀) (F : Fr h₀ L s.heap m) (X : (Mine.hd.heap_39 w.params).In h₀) (N : News h₀ L s.heap news) (T : Top Mine.hd.view_39 (looseW Mine.hd.view_39 []) mean mg mb h₀)
    (hr : m (Str.ofString "rows") = some (.ref D)) (hD : (D, listOf #[.ref e0, .ref e1, .ref e2] cD) ∈ news) (h0 : (e0, listOf v0.toArray c0) ∈ news) (h1 : (e1, listOf v1.toArray c1) ∈ news) (h2 : (e2, listOf v2.toArray c2) ∈ news)
    (i0 : IntsAre v0 r0) (i1 : IntsAre v1 r1) (i2 : IntsAre v2 r2) (n0 : r0.length = n) (n1 : r1.length = n) (n2 : r2.length = n) (hn : n ≤ 10)
    (b0 : ∀ i : Nat, -100000000 ≤ r0.getD i 0 ∧ r0.getD i 0 ≤ 100000000) (b1 : ∀ i : Nat, -100000000 ≤ r1.getD i 0 ∧ r1.getD i 0 ≤ 100000000) (b2 : ∀ i : Nat, -100000000 ≤ r2.getD i 0 ∧ r2.getD i 0 ≤ 100000000)
    (hQ : ∀ DW t0 t1 t2 h tk, Fr h₀ L h (fun z => if z = Str.ofString "words" then some (.ref DW) else m z) → News h₀ L h ((DW, lst [.str (wordOf r0 n) t0, .str (wordOf r1 n) t1, .str (wordOf r2 n) t2]) :: news) → (∀ p ∈ news, p.1 ≠ DW) → Q .next { s with heap := h, toks := tk }) :
    wpAny (model prog w) (callerA.deeper (envOfC (Str.ofString "law") ⟨k, ns, ig, ic, mo⟩ L fa cd)) (exec s8 (envOfC (Str.ofString "law") ⟨k, ns, ig, ic, mo⟩ L fa cd)) Q none1 s := by
  have hfill : PySem.Challenge.rw_tx0016_01 = PySem.Challenge.rw_tx0016_01 ∧ Mine.hd.heap_39 = Mine.hd.heap_39 := by
    k_fill
    exact ⟨rfl, rfl⟩
  clear hfill
  cases hst
  cases hsc
  replace F := fr_back (x := Str.ofString "rows") F (by with_unfolding_all exact hr)
  (with_unfolding_all refine' LCg.Assign_ListComp_U (F₀ := F) rfl ?sw ?clos ?cell rfl ?names rfl rfl rfl ?_ ?hs0)
  case sw => with_unfolding_all rfl
  case clos => with_unfolding_all rfl
  case cell => decide
  case names => decide
  case hs0 => exact fun _ => rfl
  repeat' ((fail_if_success (with_reducible show LCg.CompSrc _ _ _ _ _ _ _ _ _ _ _ _ _ _)); (fail_if_success (with_reducible show LCg.CompEnd _ _ _ _ _ _ _ _ _ _ _ _ _ _)); (fail_if_success (with_reducible show wpAny _ _ (exec (Stmt.While _ _ _ _) _) _ _ _)); (fail_if_success (with_reducible show wpAny _ _ (exec (Stmt.For _ _ _ _ _) _) _ _ _)); (fail_if_success (with_reducible show wpAny _ _ (call (Value.ref _) _) _ _ _)); first | (k_unfold; (try dsimp only)) | (k_end; wrow_close) | walk1 | (dsimp only; walk1) | (leave1; walk_say "STEP leave1"; try dsimp only) | fail "no step")
  refine LCg.CompSrc.ledger rfl F N hD (Nat.le_of_ble_eq_true rfl) ?_
  intro g
  with_unfolding_all refine' LCg.CompRest.succ (k := 2) ?_
  intro v I oI C oC DD m₂ h tk E' hP hC hx F2 N2 off ne
  obtain rfl : v = .ref e0 := (Option.some.inj hP).symm
  repeat' ((fail_if_success (with_reducible show LCg.CompSrc _ _ _ _ _ _ _ _ _ _ _ _ _ _)); (fail_if_success (with_reducible show LCg.CompEnd _ _ _ _ _ _ _ _ _ _ _ _ _ _)); (fail_if_success (with_reducible show wpAny _ _ (exec (Stmt.While _ _ _ _) _) _ _ _)); (fail_if_success (with_reducible show wpAny _ _ (exec (Stmt.For _ _ _ _ _) _) _ _ _)); (fail_if_success (with_reducible show wpAny _ _ (call (Value.ref _) _) _ _ _)); first | (k_unfold; (try dsimp only)) | (k_end; wrow_close) | walk1 | (dsimp only; walk1) | (leave1; walk_say "STEP leave1"; try dsimp only) | fail "no step")
  (k_dflt ((refine' CallOk.law (word_ok _ _ _ _ _ _ ?w1 ?w2 ?w3 ?w4 ?w5) ?k1 ?k2 ?k3 ?k4 ?k5 ?kK ?kd ?ku ?_); (case k1 => k_asm); (case k2 => k_asm); (case k3 => k_asm); (case k4 => k_asm); (case k5 => k_asm); (case w1 => k_mem); (case w2 => assumption); (case w3 => assumption); (case w4 => assumption); (case w5 => assumption); (case kK => exact rfl); (case kd => decide); (case ku => decide)))
  intro r9 tl9 h9 tk9 p9 F9 N9
  obtain ⟨rfl, t0, rfl⟩ := p9
  simp only [List.nil_append] at N9
  change LCg.CompEnd _ _ _ _ _ _ _ _ _ _ _ _ _ _
  refine LCg.CompEnd.intro F9 N9 news (fun p hp => hp) off (.inr ⟨_, hD, rfl, _, rfl⟩) ?_
  clear F9 N9 F2 N2 off ne hP hC hx
  with_unfolding_all refine' LCg.CompRest.succ (k := 1) ?_
  intro v I oI C oC DD m₂ h tk E' hP hC hx F2 N2 off ne
  obtain rfl : v = .ref e1 := (Option.some.inj hP).symm
  repeat' ((fail_if_success (with_reducible show LCg.CompSrc _ _ _ _ _ _ _ _ _ _ _ _ _ _)); (fail_if_success (with_reducible show LCg.CompEnd _ _ _ _ _ _ _ _ _ _ _ _ _ _)); (fail_if_success (with_reducible show wpAny _ _ (exec (Stmt.While _ _ _ _) _) _ _ _)); (fail_if_success (with_reducible show wpAny _ _ (exec (Stmt.For _ _ _ _ _) _) _ _ _)); (fail_if_success (with_reducible show wpAny _ _ (call (Value.ref _) _) _ _ _)); first | (k_unfold; (try dsimp only)) | (k_end; wrow_close) | walk1 | (dsimp only; walk1) | (leave1; walk_say "STEP leave1"; try dsimp only) | fail "no step")
  (k_dflt ((refine' CallOk.law (word_ok _ _ _ _ _ _ ?w1 ?w2 ?w3 ?w4 ?w5) ?k1 ?k2 ?k3 ?k4 ?k5 ?kK ?kd ?ku ?_); (case k1 => k_asm); (case k2 => k_asm); (case k3 => k_asm); (case k4 => k_asm); (case k5 => k_asm); (case w1 => k_mem); (case w2 => assumption); (case w3 => assumption); (case w4 => assumption); (case w5 => assumption); (case kK => exact rfl); (case kd => decide); (case ku => decide)))
  intro r9 tl9 h9 tk9 p9 F9 N9
  obtain ⟨rfl, t1, rfl⟩ := p9
  simp only [List.nil_append] at N9
  change LCg.CompEnd _ _ _ _ _ _ _ _ _ _ _ _ _ _
  refine LCg.CompEnd.intro F9 N9 news (fun p hp => hp) off (.inr ⟨_, hD, rfl, _, rfl⟩) ?_
  clear F9 N9 F2 N2 off ne hP hC hx
  with_unfolding_all refine' LCg.CompRest.succ (k := 0) ?_
  intro v I oI C oC DD m₂ h tk E' hP hC hx F2 N2 off ne
  obtain rfl : v = .ref e2 := (Option.some.inj hP).symm
  repeat' ((fail_if_success (with_reducible show LCg.CompSrc _ _ _ _ _ _ _ _ _ _ _ _ _ _)); (fail_if_success (with_reducible show LCg.CompEnd _ _ _ _ _ _ _ _ _ _ _ _ _ _)); (fail_if_success (with_reducible show wpAny _ _ (exec (Stmt.While _ _ _ _) _) _ _ _)); (fail_if_success (with_reducible show wpAny _ _ (exec (Stmt.For _ _ _ _ _) _) _ _ _)); (fail_if_success (with_reducible show wpAny _ _ (call (Value.ref _) _) _ _ _)); first | (k_unfold; (try dsimp only)) | (k_end; wrow_close) | walk1 | (dsimp only; walk1) | (leave1; walk_say "STEP leave1"; try dsimp only) | fail "no step")
  (k_dflt ((refine' CallOk.law (word_ok _ _ _ _ _ _ ?w1 ?w2 ?w3 ?w4 ?w5) ?k1 ?k2 ?k3 ?k4 ?k5 ?kK ?kd ?ku ?_); (case k1 => k_asm); (case k2 => k_asm); (case k3 => k_asm); (case k4 => k_asm); (case k5 => k_asm); (case w1 => k_mem); (case w2 => assumption); (case w3 => assumption); (case w4 => assumption); (case w5 => assumption); (case kK => exact rfl); (case kd => decide); (case ku => decide)))
  intro r9 tl9 h9 tk9 p9 F9 N9
  obtain ⟨rfl, t2, rfl⟩ := p9
  simp only [List.nil_append] at N9
  change LCg.CompEnd _ _ _ _ _ _ _ _ _ _ _ _ _ _
  refine LCg.CompEnd.intro F9 N9 news (fun p hp => hp) off (.inr ⟨_, hD, rfl, _, rfl⟩) ?_
  clear F9 N9 F2 N2 off ne hP hC hx
  refine LCg.CompRest.zero ?_
  intro DW h3 tk3 F3 N3 off3
  refine hQ DW t0 t1 t2 h3 tk3 (fr_same F3 fun z => ?_) N3 (off1_ne off3)
  by_cases e : z = Str.ofString "rows"
  · subst e; simp [hr]
  · simp [e]
end Mine
end
section
namespace Mine
theorem sec_L4 : True := by
  w_top off
  trivial
end Mine
open PySem PySem.W PySem.Calls PyProof.Rows PySem.Spec PyProof.Rows.LCg
namespace Mine
theorem mtail1 {α : Type} {a x : α} {l : List α} (h : x ∈ l) : x ∈ a :: l := .tail _ h
theorem mtail2 {α : Type} {a b x : α} {l : List α} (h : x ∈ l) : x ∈ a :: b :: l := .tail _ (.tail _ h)
theorem mtail3 {α : Type} {a b c x : α} {l : List α} (h : x ∈ l) : x ∈ a :: b :: c :: l := .tail _ (.tail _ (.tail _ h))
theorem mem_mid3 {α : Type} {i c d e : α} (l : List α) : ∀ p ∈ i :: c :: d :: e :: l, p ∈ e :: i :: c :: d :: l := fun p hp => by
  simp only [List.mem_cons] at hp ⊢
  rcases hp with h | h | h | h | h
  · exact .inr (.inl h)
  · exact .inr (.inr (.inl h))
  · exact .inr (.inr (.inr (.inl h)))
  · exact .inl h
  · exact .inr (.inr (.inr (.inr h)))
set_option maxRecDepth 100000 in
set_option maxHeartbeats 8000000 in
theorem law_leads {prog : Program} {w : World} {mean mg mb} {h₀ L m s} {fa : Addr} {cd : Value} {Q : Flow → Shared → Prop} {news : List (Addr × Obj)} {D e0 e1 e2 : Addr} {v0 v1 v2 : List Value} {r0 r1 r2 : List Int} {cD c0 c1 c2 : Nat} {n : Nat}
    {s9 s10 s11 : Stmt} (hst : (bodyOf 14).drop 9 = [s9, s10, s11])
    {k : ScopeKind} {ns : List (Str × NameKind)} {ig ic : Bool} {mo : List (Str × Const)} (hsc : scopeOf 14 = ⟨k, ns, ig, ic, mo⟩)
    (B : Below callerA h₀ [] h₀) (F : Fr h₀ L s.heap m) (X : (Mine.hd.heap_39 w.params).In h₀) (N : News h₀ L s.heap news) (T : Top Mine.hd.view_39 (looseW Mine.hd.view_39 []) mean mg mb h₀)
    (hr : m (Str.ofString "rows") = some (.ref D)) (hD : (D, listOf #[.ref e0, .ref e1, .ref e2] cD) ∈ news) (h0 : (e0, listOf v0.toArray c0) ∈ news) (h1 : (e1, listOf v1.toArray c1) ∈ news) (h2 : (e2, listOf v2.toArray c2) ∈ news)
    (i0 : IntsAre v0 r0) (i1 : IntsAre v1 r1) (i2 : IntsAre v2 r2) (n0 : r0.length = n) (n1 : r1.length = n) (n2 : r2.length = n) (hn : n ≤ 10)
    (b0 : ∀ i : Nat, -100000000 ≤ r0.getD i 0 ∧ r0.getD i 0 ≤ 100000000) (b1 : ∀ i : Nat, -100000000 ≤ r1.getD i 0 ∧ r1.getD i 0 ≤ 100000000) (b2 : ∀ i : Nat, -100000000 ≤ r2.getD i 0 ∧ r2.getD i 0 ≤ 100000000)
    (hQ : ∀ DL d0 d1 d2 (y0 y1 y2 : List Value) (a0 a1 a2 : Nat) h tk, Fr h₀ L h (fun z => if z = Str.ofString "leads" then some (.ref DL) else m z) →
      News h₀ L h ((DL, lst [.ref d0, .ref d1, .ref d2]) :: (d2, listOf y2.toArray a2) :: (d1, listOf y1.toArray a1) :: (d0, listOf y0.toArray a0) :: news) →
      IntsAre y0 (upTo (lead r0 n) (n * n)) → IntsAre y1 (upTo (lead r1 n) (n * n)) → IntsAre y2 (upTo (lead r2 n) (n * n)) → Q .next { s with heap := h, toks := tk }) :
    wpAny (model prog w) (callerA.deeper (envOfC (Str.ofString "law") ⟨k, ns, ig, ic, mo⟩ L fa cd)) (exec s9 (envOfC (Str.ofString "law") ⟨k, ns, ig, ic, mo⟩ L fa cd)) Q none1 s := by
  have hfill : PySem.Challenge.rw_tx0016_01 = PySem.Challenge.rw_tx0016_01 ∧ Mine.hd.heap_39 = Mine.hd.heap_39 := by
    k_fill
    exact ⟨rfl, rfl⟩
  clear hfill
  cases hst
  cases hsc
  replace F := fr_back (x := Str.ofString "rows") F (by with_unfolding_all exact hr)
  (with_unfolding_all refine' LCg.Assign_ListComp_U (F₀ := F) rfl ?sw ?clos ?cell rfl ?names rfl rfl rfl ?_ ?hs0)
  case sw => with_unfolding_all rfl
  case clos => with_unfolding_all rfl
  case cell => decide
  case names => decide
  case hs0 => exact fun _ => rfl
  repeat' ((fail_if_success (with_reducible show LCg.CompSrc _ _ _ _ _ _ _ _ _ _ _ _ _ _)); (fail_if_success (with_reducible show LCg.CompEnd _ _ _ _ _ _ _ _ _ _ _ _ _ _)); (fail_if_success (with_reducible show wpAny _ _ (exec (Stmt.While _ _ _ _) _) _ _ _)); (fail_if_success (with_reducible show wpAny _ _ (exec (Stmt.For _ _ _ _ _) _) _ _ _)); (fail_if_success (with_reducible show wpAny _ _ (call (Value.ref _) _) _ _ _)); first | (k_unfold; (try dsimp only)) | (k_end; wrow_close) | walk1 | (dsimp only; walk1) | (leave1; walk_say "STEP leave1"; try dsimp only) | fail "no step")
  refine LCg.CompSrc.ledger rfl F N hD (Nat.le_of_ble_eq_true rfl) ?_
  intro g
  with_unfolding_all refine' LCg.CompRest.succ (k := 2) ?_
  intro v I oI C oC DD m₂ h tk E' hP hC hx F2 N2 off ne
  obtain rfl : v = .ref e0 := (Option.some.inj hP).symm
  repeat' ((fail_if_success (with_reducible show LCg.CompSrc _ _ _ _ _ _ _ _ _ _ _ _ _ _)); (fail_if_success (with_reducible show LCg.CompEnd _ _ _ _ _ _ _ _ _ _ _ _ _ _)); (fail_if_success (with_reducible show wpAny _ _ (exec (Stmt.While _ _ _ _) _) _ _ _)); (fail_if_success (with_reducible show wpAny _ _ (exec (Stmt.For _ _ _ _ _) _) _ _ _)); (fail_if_success (with_reducible show wpAny _ _ (call (Value.ref _) _) _ _ _)); first | (k_unfold; (try dsimp only)) | (k_end; wrow_close) | walk1 | (dsimp only; walk1) | (leave1; walk_say "STEP leave1"; try dsimp only) | fail "no step")
  (k_dflt ((refine' CallOk.law (leads_ok _ _ _ _ _ _ ?w1 ?w2 ?w3 ?w4 ?w5) ?k1 ?k2 ?k3 ?k4 ?k5 ?kK ?kd ?ku ?_); (case k1 => k_asm); (case k2 => k_asm); (case k3 => k_asm); (case k4 => k_asm); (case k5 => k_asm); (case w1 => k_mem); (case w2 => assumption); (case w3 => assumption); (case w4 => assumption); (case w5 => assumption); (case kK => exact rfl); (case kd => decide); (case ku => decide)))
  intro r9 tl9 h9 tk9 p9 F9 N9
  obtain ⟨d0, y0, a0, rfl, rfl, g0, hne9⟩ := p9
  simp only [List.cons_append, List.nil_append] at N9
  change LCg.CompEnd _ _ _ _ _ _ _ _ _ _ _ _ _ _
  refine LCg.CompEnd.intro F9 N9 ((_, listOf y0.toArray a0) :: news) (mem_mid3 _) ⟨⟨(hne9 _ (.head _)).symm, (hne9 _ (.tail _ (.head _))).symm, (hne9 _ (.tail _ (.tail _ (.head _)))).symm⟩, off⟩ (.inr ⟨_, mtail1 hD, rfl, _, rfl⟩) ?_
  clear F9 N9 F2 N2 off ne hP hC hx hne9
  with_unfolding_all refine' LCg.CompRest.succ (k := 1) ?_
  intro v I oI C oC DD m₂ h tk E' hP hC hx F2 N2 off ne
  obtain rfl : v = .ref e1 := (Option.some.inj hP).symm
  repeat' ((fail_if_success (with_reducible show LCg.CompSrc _ _ _ _ _ _ _ _ _ _ _ _ _ _)); (fail_if_success (with_reducible show LCg.CompEnd _ _ _ _ _ _ _ _ _ _ _ _ _ _)); (fail_if_success (with_reducible show wpAny _ _ (exec (Stmt.While _ _ _ _) _) _ _ _)); (fail_if_success (with_reducible show wpAny _ _ (exec (Stmt.For _ _ _ _ _) _) _ _ _)); (fail_if_success (with_reducible show wpAny _ _ (call (Value.ref _) _) _ _ _)); first | (k_unfold; (try dsimp only)) | (k_end; wrow_close) | walk1 | (dsimp only; walk1) | (leave1; walk_say "STEP leave1"; try dsimp only) | fail "no step")
  (k_dflt ((refine' CallOk.law (leads_ok _ _ _ _ _ _ ?w1 ?w2 ?w3 ?w4 ?w5) ?k1 ?k2 ?k3 ?k4 ?k5 ?kK ?kd ?ku ?_); (case k1 => k_asm); (case k2 => k_asm); (case k3 => k_asm); (case k4 => k_asm); (case k5 => k_asm); (case w1 => k_mem); (case w2 => assumption); (case w3 => assumption); (case w4 => assumption); (case w5 => assumption); (case kK => exact rfl); (case kd => decide); (case ku => decide)))
  intro r9 tl9 h9 tk9 p9 F9 N9
  obtain ⟨d1, y1, a1, rfl, rfl, g1, hne9⟩ := p9
  simp only [List.cons_append, List.nil_append] at N9
  change LCg.CompEnd _ _ _ _ _ _ _ _ _ _ _ _ _ _
  refine LCg.CompEnd.intro F9 N9 ((_, listOf y1.toArray a1) :: ((d0, listOf y0.toArray a0) :: news)) (mem_mid3 _) ⟨⟨(hne9 _ (.head _)).symm, (hne9 _ (.tail _ (.head _))).symm, (hne9 _ (.tail _ (.tail _ (.head _)))).symm⟩, off⟩ (.inr ⟨_, mtail2 hD, rfl, _, rfl⟩) ?_
  clear F9 N9 F2 N2 off ne hP hC hx hne9
  with_unfolding_all refine' LCg.CompRest.succ (k := 0) ?_
  intro v I oI C oC DD m₂ h tk E' hP hC hx F2 N2 off ne
  obtain rfl : v = .ref e2 := (Option.some.inj hP).symm
  repeat' ((fail_if_success (with_reducible show LCg.CompSrc _ _ _ _ _ _ _ _ _ _ _ _ _ _)); (fail_if_success (with_reducible show LCg.CompEnd _ _ _ _ _ _ _ _ _ _ _ _ _ _)); (fail_if_success (with_reducible show wpAny _ _ (exec (Stmt.While _ _ _ _) _) _ _ _)); (fail_if_success (with_reducible show wpAny _ _ (exec (Stmt.For _ _ _ _ _) _) _ _ _)); (fail_if_success (with_reducible show wpAny _ _ (call (Value.ref _) _) _ _ _)); first | (k_unfold; (try dsimp only)) | (k_end; wrow_close) | walk1 | (dsimp only; walk1) | (leave1; walk_say "STEP leave1"; try dsimp only) | fail "no step")
  (k_dflt ((refine' CallOk.law (leads_ok _ _ _ _ _ _ ?w1 ?w2 ?w3 ?w4 ?w5) ?k1 ?k2 ?k3 ?k4 ?k5 ?kK ?kd ?ku ?_); (case k1 => k_asm); (case k2 => k_asm); (case k3 => k_asm); (case k4 => k_asm); (case k5 => k_asm); (case w1 => k_mem); (case w2 => assumption); (case w3 => assumption); (case w4 => assumption); (case w5 => assumption); (case kK => exact rfl); (case kd => decide); (case ku => decide)))
  intro r9 tl9 h9 tk9 p9 F9 N9
  obtain ⟨d2, y2, a2, rfl, rfl, g2, hne9⟩ := p9
  simp only [List.cons_append, List.nil_append] at N9
  change LCg.CompEnd _ _ _ _ _ _ _ _ _ _ _ _ _ _
  refine LCg.CompEnd.intro F9 N9 ((_, listOf y2.toArray a2) :: ((d1, listOf y1.toArray a1) :: (d0, listOf y0.toArray a0) :: news)) (mem_mid3 _) ⟨⟨(hne9 _ (.head _)).symm, (hne9 _ (.tail _ (.head _))).symm, (hne9 _ (.tail _ (.tail _ (.head _)))).symm⟩, off⟩ (.inr ⟨_, mtail3 hD, rfl, _, rfl⟩) ?_
  clear F9 N9 F2 N2 off ne hP hC hx hne9
  refine LCg.CompRest.zero ?_
  intro DL h3 tk3 F3 N3 off3
  refine hQ DL d0 d1 d2 y0 y1 y2 a0 a1 a2 h3 tk3 (fr_same F3 fun z => ?_) N3 g0 g1 g2
  by_cases e : z = Str.ofString "rows"
  · subst e; simp [hr]
  · simp [e]
end Mine
end
section
namespace Mine
theorem sec_L6 : True := by
  w_top off
  trivial
end Mine
open PySem PySem.W PySem.Calls PyProof.Rows PySem.Spec PyProof.Rows.LCg
namespace Mine
theorem CallTop.law {prog : Program} {w : World} {K : Frag} {p : Program} {loose : List Str} {mean : ExcName → Option Value} {mg mb : Str → Option Value} {f : Addr} {dd uu : Nat} {news : List (Addr × Obj)} {vs : List Value} {post : Value → List (Addr × Obj) → Prop}
    {nm : Str} {sc : Scope} {cd : Value} {fa : Addr} {h₀ : Heap} {L : Addr} {m : Str → Option Value} {s : Shared} {Q E : Value → Shared → Prop}
    (C : CallTop prog w K p loose mean mg mb f dd uu news vs post) (F : Fr h₀ L s.heap m) (X : K.In h₀) (N : News h₀ L s.heap news) (T : Top p loose mean mg mb h₀) (hk : sc.kind = .function)
    (hd : dd ≤ 5) (hu : uu ≤ 48) (ret : ∀ r tl h' tk', post r tl → Fr h₀ L h' m → News h₀ L h' (tl ++ news) → Q r { s with heap := h', toks := tk' }) :
    wpAny (model prog w) (callerA.deeper (envOfC nm sc L fa cd)) (call (.ref f) vs) Q E s := by
  have e : callerA.deeper (envOfC nm sc L fa cd) = ktrTop (1 + claimMargin + 1) 7 (some []) nm sc L fa cd (cellsFrom (L + 1) sc.names []) [] := rfl
  rw [e]
  have h1 : 1 + claimMargin + 1 + 5 < recursionLimit := by decide +kernel
  have h2 : 7 + 48 < cLine := by decide +kernel
  exact CallTop.use C F X N T hk (by omega) (by omega) ret
theorem ne_pairs {prog : Program} {w : World} {A : Around} {E : Value → Shared → Prop} {s : Shared} {h₀ : Heap} {L : Addr} {full : List (Addr × Obj)} {D TS M U MS US : Addr} {oD oS : Obj} {vm vu vms vus : List Value} {cm cu cms cus nD nS : Nat} {xs ys : List Int} {Q : Value → Shared → Prop}
    (N : News h₀ L s.heap full) (hD : (D, oD) ∈ full) (hS : (TS, oS) ∈ full) (hM : (M, listOf vm.toArray cm) ∈ full) (hU : (U, listOf vu.toArray cu) ∈ full) (hMS : (MS, listOf vms.toArray cms) ∈ full) (hUS : (US, listOf vus.toArray cus) ∈ full)
    (cD : oD.cls = .type "tuple") (dD : oD.data = .seq #[.ref M, .ref U] nD) (cS : oS.cls = .type "tuple") (dS : oS.data = .seq #[.ref MS, .ref US] nS)
    (im : IntsAre vm xs) (iu : IntsAre vu ys) (ims : IntsAre vms xs) (ius : IntsAre vus ys) (hu : A.units + 64 < cLine) (h : Q (.bool false) s) :
    wpAny (model prog w) A (compareOp .NotEq (.ref TS) (.ref D)) Q E s := by
  have r1 := reads_newData (News.isList N hM) (ke_carried im)
  have r2 := reads_newData (News.isList N hU) (ke_carried iu)
  have r3 := reads_newData (News.isList N hMS) (ke_carried ims)
  have r4 := reads_newData (News.isList N hUS) (ke_carried ius)
  have sh : SeqAt.shaped (.tuple [.list (xs.map PyData.int), .list (ys.map PyData.int)]) = true := by
    simp [SeqAt.shaped, PyData.canLay0, PyData.canLayAll0, PyData.depth, PyData.depthAll, ke_canLayAll0, ke_depthAll]
  refine ne_dataH (reads_tuple_at (News.get N hS) cS dS (.cons r3 (.cons r4 .nil))) (reads_tuple_at (News.get N hD) cD dD (.cons r1 (.cons r2 .nil))) sh sh hu ?_
  have e : PyData.eqv (.tuple [.list (xs.map PyData.int), .list (ys.map PyData.int)]) (.tuple [.list (xs.map PyData.int), .list (ys.map PyData.int)]) = true := by
    simp [PyData.eqv, PyData.eqvAll, ked_eqvAll]
  rw [e]; exact h
theorem item_lit {prog : Program} {w : World} {A : Around} {E : Value → Shared → Prop} {s : Shared} {h₀ : Heap} {L : Addr} {news : List (Addr × Obj)} {value slice : Expr} {a : Addr} {l : Array Value} {c : Nat} {k : Int} {u : Tok} {v : Value} {Q : Value → Shared → Prop} (N : News h₀ L s.heap news) (hm : (a, listOf l c) ∈ news)
    (h0 : 0 ≤ k) (hhi : k < 2 ^ 63) (hx : l[k.toNat]? = some v) (h : Q v s)
    (hs : subscripted slice false (.ref a) (.int k u) = operate [.ref a, .int k u] (getItem (.ref a) (.int k u)) := by with_unfolding_all rfl) :
    wpAny (model prog w) A (subscriptTail value slice (.ref a) (.int k u)) Q E s := by
  have hL : s.heap.IsList a l := News.isList N hm
  exact tail_any hL.typeIs slot_list_getitem.lookup (wpAny_getItem_list hL h0 hhi hx h) hs
theorem item_0 {prog : Program} {w : World} {A : Around} {E : Value → Shared → Prop} {s : Shared} {h₀ : Heap} {L : Addr} {news : List (Addr × Obj)} {value slice : Expr} {a : Addr} {x y z : Value} {c : Nat} {u : Tok} {Q : Value → Shared → Prop} (N : News h₀ L s.heap news) (hm : (a, listOf #[x, y, z] c) ∈ news) (h : Q x s)
    (hs : subscripted slice false (.ref a) (.int 0 u) = operate [.ref a, .int 0 u] (getItem (.ref a) (.int 0 u)) := by with_unfolding_all rfl) :
    wpAny (model prog w) A (subscriptTail value slice (.ref a) (.int 0 u)) Q E s := item_lit N hm (by decide) (by decide) rfl h hs
theorem item_1 {prog : Program} {w : World} {A : Around} {E : Value → Shared → Prop} {s : Shared} {h₀ : Heap} {L : Addr} {news : List (Addr × Obj)} {value slice : Expr} {a : Addr} {x y z : Value} {c : Nat} {u : Tok} {Q : Value → Shared → Prop} (N : News h₀ L s.heap news) (hm : (a, listOf #[x, y, z] c) ∈ news) (h : Q y s)
    (hs : subscripted slice false (.ref a) (.int 1 u) = operate [.ref a, .int 1 u] (getItem (.ref a) (.int 1 u)) := by with_unfolding_all rfl) :
    wpAny (model prog w) A (subscriptTail value slice (.ref a) (.int 1 u)) Q E s := item_lit N hm (by decide) (by decide) rfl h hs
theorem item_2 {prog : Program} {w : World} {A : Around} {E : Value → Shared → Prop} {s : Shared} {h₀ : Heap} {L : Addr} {news : List (Addr × Obj)} {value slice : Expr} {a : Addr} {x y z : Value} {c : Nat} {u : Tok} {Q : Value → Shared → Prop} (N : News h₀ L s.heap news) (hm : (a, listOf #[x, y, z] c) ∈ news) (h : Q z s)
    (hs : subscripted slice false (.ref a) (.int 2 u) = operate [.ref a, .int 2 u] (getItem (.ref a) (.int 2 u)) := by with_unfolding_all rfl) :
    wpAny (model prog w) A (subscriptTail value slice (.ref a) (.int 2 u)) Q E s := item_lit N hm (by decide) (by decide) rfl h hs
theorem wordOf_len (row : List Int) {n : Nat} (hn : n = 3 ∨ n = 4) : (wordOf row n).length ≤ 12 := by
  unfold wordOf
  rcases hn with rfl | rfl
  · rw [word3, word_len]; decide
  · rw [word4, word_len]; decide
theorem emp_app (x : Str) : Str.ofString "" ++ x = x := by
  have e : (Str.ofString "").cps ++ x.cps = x.cps := by
    have : (Str.ofString "").cps = #[] := by decide
    rw [this]; simp
  exact congrArg Str.mk e
set_option maxRecDepth 100000 in
set_option maxHeartbeats 8000000 in
theorem law_turn {prog : Program} {w : World} {mean mg mb} {h₀ L m s} {fa : Addr} {cd : Value} {Q : Flow → Shared → Prop} {news : List (Addr × Obj)}
    {lx ly Mk DW DL d0 d1 d2 : Addr} {vx vy y0 y1 y2 : List Value} {cx cy cm cw cl a0 a1 a2 : Nat} {xs ys r0 r1 r2 : List Int} {span stop : Int} {ts tm0 tm1 tm2 tw0 tw1 tw2 ti tj tf : Tok} {oX oY oS : Obj} {n : Nat} {a b : Int} {f : Str}
    {tg it : Expr} {b1 b2 b3 b4 : Stmt} {oe : List Stmt} {wp : Pos} {s11 : Stmt} (hst : (bodyOf 14).drop 10 = [.For tg it [b1, b2, b3, b4] oe wp, s11])
    {k : ScopeKind} {ns : List (Str × NameKind)} {ig ic : Bool} {mo : List (Str × Const)} (hsc : scopeOf 14 = ⟨k, ns, ig, ic, mo⟩)
    (B : Below callerA h₀ [] h₀) (F : Fr h₀ L s.heap m) (X : (Mine.hd.heap_39 w.params).In h₀) (N : News h₀ L s.heap news) (T : Top Mine.hd.view_39 (looseW Mine.hd.view_39 []) mean mg mb h₀)
    (hn : n = 3 ∨ n = 4) (hlx : (lx, listOf (List.toArray vx) cx) ∈ news) (hly : (ly, listOf (List.toArray vy) cy) ∈ news) (hix : IntsAre vx xs) (hiy : IntsAre vy ys) (nx : xs.length = n) (ny : ys.length = n)
    (bx : ∀ i : Nat, 0 ≤ xs.getD i 0 ∧ xs.getD i 0 < 1000000) (bye : ∀ i : Nat, 0 ≤ ys.getD i 0 ∧ ys.getD i 0 < 1000000) (bs : 2 ≤ span ∧ span ≤ 8) (bt : 1 ≤ stop ∧ stop < span)
    (hX : (L + 1, oX) ∈ news) (hY : (L + 2, oY) ∈ news) (hS : (L + 3, oS) ∈ news) (dX : oX.data = .cell (some (.ref lx))) (dY : oY.data = .cell (some (.ref ly))) (dS : oS.data = .cell (some (.int span ts)))
    (mmk : m (Str.ofString "marks") = some (.ref Mk)) (hMk : (Mk, listOf #[.int 0 tm0, .int stop tm1, .int span tm2] cm) ∈ news)
    (mwd : m (Str.ofString "words") = some (.ref DW)) (hDW : (DW, listOf #[.str (wordOf r0 n) tw0, .str (wordOf r1 n) tw1, .str (wordOf r2 n) tw2] cw) ∈ news)
    (mld : m (Str.ofString "leads") = some (.ref DL)) (hDL : (DL, listOf #[.ref d0, .ref d1, .ref d2] cl) ∈ news)
    (h0 : (d0, listOf y0.toArray a0) ∈ news) (h1 : (d1, listOf y1.toArray a1) ∈ news) (h2 : (d2, listOf y2.toArray a2) ∈ news)
    (i0 : IntsAre y0 (upTo (lead r0 n) (n * n))) (i1 : IntsAre y1 (upTo (lead r1 n) (n * n))) (i2 : IntsAre y2 (upTo (lead r2 n) (n * n)))
    (R0 : rowIs xs ys r0 span 0) (R1 : rowIs xs ys r1 span stop) (R2 : rowIs xs ys r2 span span)
    (mi : m (Str.ofString "i") = some (.int a ti)) (mj : m (Str.ofString "j") = some (.int b tj)) (mf : m (Str.ofString "front") = some (.str f tf))
    (hab : (a = 0 ∧ b = 1 ∧ f = Str.ofString "") ∨ (a = 1 ∧ b = 2 ∧ f = Str.ofString "") ∨ (a = 0 ∧ b = 2 ∧ f = Str.ofString "0"))
    (hQ : ∀ h tk m', Fr h₀ L h m' → m' (Str.ofString "marks") = some (.ref Mk) → m' (Str.ofString "words") = some (.ref DW) → m' (Str.ofString "leads") = some (.ref DL) → News h₀ L h news → Q .next { s with heap := h, toks := tk }) :
    wpAny (model prog w) (callerA.deeper (envOfC (Str.ofString "law") ⟨k, ns, ig, ic, mo⟩ L fa cd)) (execs [b1, b2, b3, b4] (envOfC (Str.ofString "law") ⟨k, ns, ig, ic, mo⟩ L fa cd)) Q none1 s := by
  have hfill : PySem.Challenge.rw_tx0016_01 = PySem.Challenge.rw_tx0016_01 ∧ Mine.hd.heap_39 = Mine.hd.heap_39 := by
    k_fill
    exact ⟨rfl, rfl⟩
  clear hfill
  cases hst
  cases hsc
  replace F := fr_back (x := Str.ofString "marks") F (by with_unfolding_all exact mmk)
  replace F := fr_back (x := Str.ofString "words") F (by with_unfolding_all exact mwd)
  replace F := fr_back (x := Str.ofString "leads") F (by with_unfolding_all exact mld)
  replace F := fr_back (x := Str.ofString "i") F (by with_unfolding_all exact mi)
  replace F := fr_back (x := Str.ofString "j") F (by with_unfolding_all exact mj)
  replace F := fr_back (x := Str.ofString "front") F (by with_unfolding_all exact mf)
  rcases hab with ⟨rfl, rfl, rfl⟩ | ⟨rfl, rfl, rfl⟩ | ⟨rfl, rfl, rfl⟩
  · repeat' ((fail_if_success (with_reducible show LCg.CompSrc _ _ _ _ _ _ _ _ _ _ _ _ _ _)); (fail_if_success (with_reducible show LCg.CompEnd _ _ _ _ _ _ _ _ _ _ _ _ _ _)); (fail_if_success (with_reducible show wpAny _ _ (exec (Stmt.While _ _ _ _) _) _ _ _)); (fail_if_success (with_reducible show wpAny _ _ (exec (Stmt.For _ _ _ _ _) _) _ _ _)); (fail_if_success (with_reducible show wpAny _ _ (call (Value.ref _) _) _ _ _)); (fail_if_success (with_reducible show wpAny _ _ (compareOp CmpOp.NotEq (Value.ref _) (Value.ref _)) _ _ _)); first | (k_here; k_dflt (first | ((with_reducible show wpAny _ _ (subscriptTail _ _ (Value.ref _) (Value.int 0 _)) _ _ _); refine' item_0 ?N ?m ?_; (case N => k_asm); (case m => k_mem)) | ((with_reducible show wpAny _ _ (subscriptTail _ _ (Value.ref _) (Value.int 1 _)) _ _ _); refine' item_1 ?N ?m ?_; (case N => k_asm); (case m => k_mem)) | ((with_reducible show wpAny _ _ (subscriptTail _ _ (Value.ref _) (Value.int 2 _)) _ _ _); refine' item_2 ?N ?m ?_; (case N => k_asm); (case m => k_mem)))) | (k_here; (with_reducible show wpAny _ _ (call (Value.builtin "len") [Value.ref _]) _ _ _); k_dflt (refine' len_ints ?hl ?hi ?hn ?hb ?_; (case hl => exact News.isList (by k_asm) (by k_mem)); (case hi => assumption); (case hn => exact rfl); (case hb => assumption))) | (k_here; (with_reducible show wpAny _ _ (binaryOp Operator.Add (Value.str _ _) (Value.str _ _)) _ _ _); k_dflt (refine' add_str (hsz := ?hsz) ?_; (case hsz => exact Nat.le_trans (Nat.add_le_add (Nat.le_of_ble_eq_true rfl : _ ≤ 1) (by assumption : _ ≤ 12)) (by decide)); intro t8 k8)) | (k_unfold; (try dsimp only)) | (k_end; wrow_close) | walk1 | (dsimp only; walk1) | (leave1; walk_say "STEP leave1"; try dsimp only) | fail "no step")
    refine' CallOk.law (moved_ok news lx ly vx vy cx cy xs ys span 0 stop ts tm0 tm1 n hlx hly hix hiy nx ny (by omega) bx bye (by omega) (by omega) (by omega)) B ?kF X ?kN T rfl (by decide) (by decide) ?_
    case kF => assumption
    case kN => assumption
    intro r9 tl9 h9 tk9 p9 F9 N9
    obtain ⟨TT, M, U, vm, cm9, vu, cu9, rfl, rfl, im, iu⟩ := p9
    simp only [List.cons_append, List.nil_append] at N9
    rw [moved_lost R0 R1 (by omega) (by omega) (by omega) (by omega)] at im
    rw [moved_gain R0 R1 (by omega) (by omega) (by omega) (by omega)] at iu
    repeat' ((fail_if_success (with_reducible show LCg.CompSrc _ _ _ _ _ _ _ _ _ _ _ _ _ _)); (fail_if_success (with_reducible show LCg.CompEnd _ _ _ _ _ _ _ _ _ _ _ _ _ _)); (fail_if_success (with_reducible show wpAny _ _ (exec (Stmt.While _ _ _ _) _) _ _ _)); (fail_if_success (with_reducible show wpAny _ _ (exec (Stmt.For _ _ _ _ _) _) _ _ _)); (fail_if_success (with_reducible show wpAny _ _ (call (Value.ref _) _) _ _ _)); (fail_if_success (with_reducible show wpAny _ _ (compareOp CmpOp.NotEq (Value.ref _) (Value.ref _)) _ _ _)); first | (k_here; k_dflt (first | ((with_reducible show wpAny _ _ (subscriptTail _ _ (Value.ref _) (Value.int 0 _)) _ _ _); refine' item_0 ?N ?m ?_; (case N => k_asm); (case m => k_mem)) | ((with_reducible show wpAny _ _ (subscriptTail _ _ (Value.ref _) (Value.int 1 _)) _ _ _); refine' item_1 ?N ?m ?_; (case N => k_asm); (case m => k_mem)) | ((with_reducible show wpAny _ _ (subscriptTail _ _ (Value.ref _) (Value.int 2 _)) _ _ _); refine' item_2 ?N ?m ?_; (case N => k_asm); (case m => k_mem)))) | (k_here; (with_reducible show wpAny _ _ (call (Value.builtin "len") [Value.ref _]) _ _ _); k_dflt (refine' len_ints ?hl ?hi ?hn ?hb ?_; (case hl => exact News.isList (by k_asm) (by k_mem)); (case hi => assumption); (case hn => exact rfl); (case hb => assumption))) | (k_here; (with_reducible show wpAny _ _ (binaryOp Operator.Add (Value.str _ _) (Value.str _ _)) _ _ _); k_dflt (refine' add_str (hsz := ?hsz) ?_; (case hsz => exact Nat.le_trans (Nat.add_le_add (Nat.le_of_ble_eq_true rfl : _ ≤ 1) (by assumption : _ ≤ 12)) (by decide)); intro t8 k8)) | (k_unfold; (try dsimp only)) | (k_end; wrow_close) | walk1 | (dsimp only; walk1) | (leave1; walk_say "STEP leave1"; try dsimp only) | fail "no step")
    refine' CallTop.law (sld_ok _ d0 d1 y0 y1 a0 a1 _ _ ?hd0 ?hd1 i0 i1 (upTo_rise _ _) (upTo_rise _ _) ?l0 ?l1) ?kF X ?kN T rfl (by decide) (by decide) ?_
    case kF => assumption
    case kN => assumption
    case hd0 => k_mem
    case hd1 => k_mem
    case l0 => exact Nat.le_trans (upTo_len _ _) (by rcases hn with rfl | rfl <;> decide)
    case l1 => exact Nat.le_trans (upTo_len _ _) (by rcases hn with rfl | rfl <;> decide)
    intro r9 tl9 h9 tk9 p9 F9 N9
    obtain ⟨TS, MS, US, vms, cms, vus, cus, rfl, rfl, ims, ius⟩ := p9
    simp only [List.cons_append, List.nil_append] at N9
    rw [sld_lost] at ims ius
    repeat' ((fail_if_success (with_reducible show LCg.CompSrc _ _ _ _ _ _ _ _ _ _ _ _ _ _)); (fail_if_success (with_reducible show LCg.CompEnd _ _ _ _ _ _ _ _ _ _ _ _ _ _)); (fail_if_success (with_reducible show wpAny _ _ (exec (Stmt.While _ _ _ _) _) _ _ _)); (fail_if_success (with_reducible show wpAny _ _ (exec (Stmt.For _ _ _ _ _) _) _ _ _)); (fail_if_success (with_reducible show wpAny _ _ (call (Value.ref _) _) _ _ _)); (fail_if_success (with_reducible show wpAny _ _ (compareOp CmpOp.NotEq (Value.ref _) (Value.ref _)) _ _ _)); first | (k_here; k_dflt (first | ((with_reducible show wpAny _ _ (subscriptTail _ _ (Value.ref _) (Value.int 0 _)) _ _ _); refine' item_0 ?N ?m ?_; (case N => k_asm); (case m => k_mem)) | ((with_reducible show wpAny _ _ (subscriptTail _ _ (Value.ref _) (Value.int 1 _)) _ _ _); refine' item_1 ?N ?m ?_; (case N => k_asm); (case m => k_mem)) | ((with_reducible show wpAny _ _ (subscriptTail _ _ (Value.ref _) (Value.int 2 _)) _ _ _); refine' item_2 ?N ?m ?_; (case N => k_asm); (case m => k_mem)))) | (k_here; (with_reducible show wpAny _ _ (call (Value.builtin "len") [Value.ref _]) _ _ _); k_dflt (refine' len_ints ?hl ?hi ?hn ?hb ?_; (case hl => exact News.isList (by k_asm) (by k_mem)); (case hi => assumption); (case hn => exact rfl); (case hb => assumption))) | (k_here; (with_reducible show wpAny _ _ (binaryOp Operator.Add (Value.str _ _) (Value.str _ _)) _ _ _); k_dflt (refine' add_str (hsz := ?hsz) ?_; (case hsz => exact Nat.le_trans (Nat.add_le_add (Nat.le_of_ble_eq_true rfl : _ ≤ 1) (by assumption : _ ≤ 12)) (by decide)); intro t8 k8)) | (k_unfold; (try dsimp only)) | (k_end; wrow_close) | walk1 | (dsimp only; walk1) | (leave1; walk_say "STEP leave1"; try dsimp only) | fail "no step")
    (k_dflt (refine' ne_pairs ?kN ?a1 ?a2 ?a3 ?a4 ?a5 ?a6 ?d1 ?d2 ?d3 ?d4 im iu ims ius ?au ?_))
    case kN => assumption
    case a1 => exact .head _
    case a2 => exact .tail _ (.head _)
    case a3 => k_mem
    case a4 => k_mem
    case a5 => k_mem
    case a6 => k_mem
    case d1 => exact rfl
    case d2 => exact rfl
    case d3 => exact rfl
    case d4 => exact rfl
    case au => ke_room
    have hb1 : (lostN r0 r1 n).length ≤ 100 := Nat.le_trans (upTo_len _ _) (by rcases hn with rfl | rfl <;> decide)
    have hb2 : (lostN r1 r0 n).length ≤ 100 := Nat.le_trans (upTo_len _ _) (by rcases hn with rfl | rfl <;> decide)
    have hw0 := wordOf_len r0 hn
    have hw1 := wordOf_len r1 hn
    have hw2 := wordOf_len r2 hn
    repeat' ((fail_if_success (with_reducible show LCg.CompSrc _ _ _ _ _ _ _ _ _ _ _ _ _ _)); (fail_if_success (with_reducible show LCg.CompEnd _ _ _ _ _ _ _ _ _ _ _ _ _ _)); (fail_if_success (with_reducible show wpAny _ _ (exec (Stmt.While _ _ _ _) _) _ _ _)); (fail_if_success (with_reducible show wpAny _ _ (exec (Stmt.For _ _ _ _ _) _) _ _ _)); (fail_if_success (with_reducible show wpAny _ _ (call (Value.ref _) _) _ _ _)); (fail_if_success (with_reducible show wpAny _ _ (compareOp CmpOp.NotEq (Value.ref _) (Value.ref _)) _ _ _)); first | (k_here; k_dflt (first | ((with_reducible show wpAny _ _ (subscriptTail _ _ (Value.ref _) (Value.int 0 _)) _ _ _); refine' item_0 ?N ?m ?_; (case N => k_asm); (case m => k_mem)) | ((with_reducible show wpAny _ _ (subscriptTail _ _ (Value.ref _) (Value.int 1 _)) _ _ _); refine' item_1 ?N ?m ?_; (case N => k_asm); (case m => k_mem)) | ((with_reducible show wpAny _ _ (subscriptTail _ _ (Value.ref _) (Value.int 2 _)) _ _ _); refine' item_2 ?N ?m ?_; (case N => k_asm); (case m => k_mem)))) | (k_here; (with_reducible show wpAny _ _ (call (Value.builtin "len") [Value.ref _]) _ _ _); k_dflt (refine' len_ints ?hl ?hi ?hn ?hb ?_; (case hl => exact News.isList (by k_asm) (by k_mem)); (case hi => assumption); (case hn => exact rfl); (case hb => assumption))) | (k_here; (with_reducible show wpAny _ _ (binaryOp Operator.Add (Value.str _ _) (Value.str _ _)) _ _ _); k_dflt (refine' add_str (hsz := ?hsz) ?_; (case hsz => exact Nat.le_trans (Nat.add_le_add (Nat.le_of_ble_eq_true rfl : _ ≤ 1) (by assumption : _ ≤ 12)) (by decide)); intro t8 k8)) | (k_unfold; (try dsimp only)) | (k_end; wrow_close) | walk1 | (dsimp only; walk1) | (leave1; walk_say "STEP leave1"; try dsimp only) | fail "no step")
    refine' CallOk.law (lev_ok _ (Str.ofString "" ++ wordOf r0 n) (wordOf r1 n) _ _ _ (((lostN r0 r1 n).length : Int) + ((lostN r1 r0 n).length : Int)) _ ?H) B ?kF X ?kN T rfl (by decide) (by decide) ?_
    case kF => assumption
    case kN => assumption
    case H =>
      have e : ∀ A B : Int, A + B + 2 * ((0 : Nat) : Int) + ((0 : Nat) : Int) = A + B := by intros; omega
      rw [emp_app, e]
      exact lev_words hn
    intro r9 tl9 h9 tk9 p9 F9 N9
    obtain ⟨rfl, t9, rfl⟩ := p9
    simp only [List.nil_append] at N9
    repeat' ((fail_if_success (with_reducible show LCg.CompSrc _ _ _ _ _ _ _ _ _ _ _ _ _ _)); (fail_if_success (with_reducible show LCg.CompEnd _ _ _ _ _ _ _ _ _ _ _ _ _ _)); (fail_if_success (with_reducible show wpAny _ _ (exec (Stmt.While _ _ _ _) _) _ _ _)); (fail_if_success (with_reducible show wpAny _ _ (exec (Stmt.For _ _ _ _ _) _) _ _ _)); (fail_if_success (with_reducible show wpAny _ _ (call (Value.ref _) _) _ _ _)); (fail_if_success (with_reducible show wpAny _ _ (compareOp CmpOp.NotEq (Value.ref _) (Value.ref _)) _ _ _)); first | (k_here; k_dflt (first | ((with_reducible show wpAny _ _ (subscriptTail _ _ (Value.ref _) (Value.int 0 _)) _ _ _); refine' item_0 ?N ?m ?_; (case N => k_asm); (case m => k_mem)) | ((with_reducible show wpAny _ _ (subscriptTail _ _ (Value.ref _) (Value.int 1 _)) _ _ _); refine' item_1 ?N ?m ?_; (case N => k_asm); (case m => k_mem)) | ((with_reducible show wpAny _ _ (subscriptTail _ _ (Value.ref _) (Value.int 2 _)) _ _ _); refine' item_2 ?N ?m ?_; (case N => k_asm); (case m => k_mem)))) | (k_here; (with_reducible show wpAny _ _ (call (Value.builtin "len") [Value.ref _]) _ _ _); k_dflt (refine' len_ints ?hl ?hi ?hn ?hb ?_; (case hl => exact News.isList (by k_asm) (by k_mem)); (case hi => assumption); (case hn => exact rfl); (case hb => assumption))) | (k_here; (with_reducible show wpAny _ _ (binaryOp Operator.Add (Value.str _ _) (Value.str _ _)) _ _ _); k_dflt (refine' add_str (hsz := ?hsz) ?_; (case hsz => exact Nat.le_trans (Nat.add_le_add (Nat.le_of_ble_eq_true rfl : _ ≤ 1) (by assumption : _ ≤ 12)) (by decide)); intro t8 k8)) | (k_unfold; (try dsimp only)) | (k_end; wrow_close) | walk1 | (dsimp only; walk1) | (leave1; walk_say "STEP leave1"; try dsimp only) | fail "no step")
    · exfalso
      rename_i hne
      exact hne (by omega)
    · exact hQ _ _ _ F9 rfl rfl rfl (fun p hp => N9 p (.tail _ (.tail _ (.tail _ (.tail _ (.tail _ (.tail _ (.tail _ hp))))))))
  · repeat' ((fail_if_success (with_reducible show LCg.CompSrc _ _ _ _ _ _ _ _ _ _ _ _ _ _)); (fail_if_success (with_reducible show LCg.CompEnd _ _ _ _ _ _ _ _ _ _ _ _ _ _)); (fail_if_success (with_reducible show wpAny _ _ (exec (Stmt.While _ _ _ _) _) _ _ _)); (fail_if_success (with_reducible show wpAny _ _ (exec (Stmt.For _ _ _ _ _) _) _ _ _)); (fail_if_success (with_reducible show wpAny _ _ (call (Value.ref _) _) _ _ _)); (fail_if_success (with_reducible show wpAny _ _ (compareOp CmpOp.NotEq (Value.ref _) (Value.ref _)) _ _ _)); first | (k_here; k_dflt (first | ((with_reducible show wpAny _ _ (subscriptTail _ _ (Value.ref _) (Value.int 0 _)) _ _ _); refine' item_0 ?N ?m ?_; (case N => k_asm); (case m => k_mem)) | ((with_reducible show wpAny _ _ (subscriptTail _ _ (Value.ref _) (Value.int 1 _)) _ _ _); refine' item_1 ?N ?m ?_; (case N => k_asm); (case m => k_mem)) | ((with_reducible show wpAny _ _ (subscriptTail _ _ (Value.ref _) (Value.int 2 _)) _ _ _); refine' item_2 ?N ?m ?_; (case N => k_asm); (case m => k_mem)))) | (k_here; (with_reducible show wpAny _ _ (call (Value.builtin "len") [Value.ref _]) _ _ _); k_dflt (refine' len_ints ?hl ?hi ?hn ?hb ?_; (case hl => exact News.isList (by k_asm) (by k_mem)); (case hi => assumption); (case hn => exact rfl); (case hb => assumption))) | (k_here; (with_reducible show wpAny _ _ (binaryOp Operator.Add (Value.str _ _) (Value.str _ _)) _ _ _); k_dflt (refine' add_str (hsz := ?hsz) ?_; (case hsz => exact Nat.le_trans (Nat.add_le_add (Nat.le_of_ble_eq_true rfl : _ ≤ 1) (by assumption : _ ≤ 12)) (by decide)); intro t8 k8)) | (k_unfold; (try dsimp only)) | (k_end; wrow_close) | walk1 | (dsimp only; walk1) | (leave1; walk_say "STEP leave1"; try dsimp only) | fail "no step")
    refine' CallOk.law (moved_ok news lx ly vx vy cx cy xs ys span stop span ts tm1 tm2 n hlx hly hix hiy nx ny (by omega) bx bye (by omega) (by omega) (by omega)) B ?kF X ?kN T rfl (by decide) (by decide) ?_
    case kF => assumption
    case kN => assumption
    intro r9 tl9 h9 tk9 p9 F9 N9
    obtain ⟨TT, M, U, vm, cm9, vu, cu9, rfl, rfl, im, iu⟩ := p9
    simp only [List.cons_append, List.nil_append] at N9
    rw [moved_lost R1 R2 (by omega) (by omega) (by omega) (by omega)] at im
    rw [moved_gain R1 R2 (by omega) (by omega) (by omega) (by omega)] at iu
    repeat' ((fail_if_success (with_reducible show LCg.CompSrc _ _ _ _ _ _ _ _ _ _ _ _ _ _)); (fail_if_success (with_reducible show LCg.CompEnd _ _ _ _ _ _ _ _ _ _ _ _ _ _)); (fail_if_success (with_reducible show wpAny _ _ (exec (Stmt.While _ _ _ _) _) _ _ _)); (fail_if_success (with_reducible show wpAny _ _ (exec (Stmt.For _ _ _ _ _) _) _ _ _)); (fail_if_success (with_reducible show wpAny _ _ (call (Value.ref _) _) _ _ _)); (fail_if_success (with_reducible show wpAny _ _ (compareOp CmpOp.NotEq (Value.ref _) (Value.ref _)) _ _ _)); first | (k_here; k_dflt (first | ((with_reducible show wpAny _ _ (subscriptTail _ _ (Value.ref _) (Value.int 0 _)) _ _ _); refine' item_0 ?N ?m ?_; (case N => k_asm); (case m => k_mem)) | ((with_reducible show wpAny _ _ (subscriptTail _ _ (Value.ref _) (Value.int 1 _)) _ _ _); refine' item_1 ?N ?m ?_; (case N => k_asm); (case m => k_mem)) | ((with_reducible show wpAny _ _ (subscriptTail _ _ (Value.ref _) (Value.int 2 _)) _ _ _); refine' item_2 ?N ?m ?_; (case N => k_asm); (case m => k_mem)))) | (k_here; (with_reducible show wpAny _ _ (call (Value.builtin "len") [Value.ref _]) _ _ _); k_dflt (refine' len_ints ?hl ?hi ?hn ?hb ?_; (case hl => exact News.isList (by k_asm) (by k_mem)); (case hi => assumption); (case hn => exact rfl); (case hb => assumption))) | (k_here; (with_reducible show wpAny _ _ (binaryOp Operator.Add (Value.str _ _) (Value.str _ _)) _ _ _); k_dflt (refine' add_str (hsz := ?hsz) ?_; (case hsz => exact Nat.le_trans (Nat.add_le_add (Nat.le_of_ble_eq_true rfl : _ ≤ 1) (by assumption : _ ≤ 12)) (by decide)); intro t8 k8)) | (k_unfold; (try dsimp only)) | (k_end; wrow_close) | walk1 | (dsimp only; walk1) | (leave1; walk_say "STEP leave1"; try dsimp only) | fail "no step")
    refine' CallTop.law (sld_ok _ d1 d2 y1 y2 a1 a2 _ _ ?hd0 ?hd1 i1 i2 (upTo_rise _ _) (upTo_rise _ _) ?l0 ?l1) ?kF X ?kN T rfl (by decide) (by decide) ?_
    case kF => assumption
    case kN => assumption
    case hd0 => k_mem
    case hd1 => k_mem
    case l0 => exact Nat.le_trans (upTo_len _ _) (by rcases hn with rfl | rfl <;> decide)
    case l1 => exact Nat.le_trans (upTo_len _ _) (by rcases hn with rfl | rfl <;> decide)
    intro r9 tl9 h9 tk9 p9 F9 N9
    obtain ⟨TS, MS, US, vms, cms, vus, cus, rfl, rfl, ims, ius⟩ := p9
    simp only [List.cons_append, List.nil_append] at N9
    rw [sld_lost] at ims ius
    repeat' ((fail_if_success (with_reducible show LCg.CompSrc _ _ _ _ _ _ _ _ _ _ _ _ _ _)); (fail_if_success (with_reducible show LCg.CompEnd _ _ _ _ _ _ _ _ _ _ _ _ _ _)); (fail_if_success (with_reducible show wpAny _ _ (exec (Stmt.While _ _ _ _) _) _ _ _)); (fail_if_success (with_reducible show wpAny _ _ (exec (Stmt.For _ _ _ _ _) _) _ _ _)); (fail_if_success (with_reducible show wpAny _ _ (call (Value.ref _) _) _ _ _)); (fail_if_success (with_reducible show wpAny _ _ (compareOp CmpOp.NotEq (Value.ref _) (Value.ref _)) _ _ _)); first | (k_here; k_dflt (first | ((with_reducible show wpAny _ _ (subscriptTail _ _ (Value.ref _) (Value.int 0 _)) _ _ _); refine' item_0 ?N ?m ?_; (case N => k_asm); (case m => k_mem)) | ((with_reducible show wpAny _ _ (subscriptTail _ _ (Value.ref _) (Value.int 1 _)) _ _ _); refine' item_1 ?N ?m ?_; (case N => k_asm); (case m => k_mem)) | ((with_reducible show wpAny _ _ (subscriptTail _ _ (Value.ref _) (Value.int 2 _)) _ _ _); refine' item_2 ?N ?m ?_; (case N => k_asm); (case m => k_mem)))) | (k_here; (with_reducible show wpAny _ _ (call (Value.builtin "len") [Value.ref _]) _ _ _); k_dflt (refine' len_ints ?hl ?hi ?hn ?hb ?_; (case hl => exact News.isList (by k_asm) (by k_mem)); (case hi => assumption); (case hn => exact rfl); (case hb => assumption))) | (k_here; (with_reducible show wpAny _ _ (binaryOp Operator.Add (Value.str _ _) (Value.str _ _)) _ _ _); k_dflt (refine' add_str (hsz := ?hsz) ?_; (case hsz => exact Nat.le_trans (Nat.add_le_add (Nat.le_of_ble_eq_true rfl : _ ≤ 1) (by assumption : _ ≤ 12)) (by decide)); intro t8 k8)) | (k_unfold; (try dsimp only)) | (k_end; wrow_close) | walk1 | (dsimp only; walk1) | (leave1; walk_say "STEP leave1"; try dsimp only) | fail "no step")
    (k_dflt (refine' ne_pairs ?kN ?a1 ?a2 ?a3 ?a4 ?a5 ?a6 ?d1 ?d2 ?d3 ?d4 im iu ims ius ?au ?_))
    case kN => assumption
    case a1 => exact .head _
    case a2 => exact .tail _ (.head _)
    case a3 => k_mem
    case a4 => k_mem
    case a5 => k_mem
    case a6 => k_mem
    case d1 => exact rfl
    case d2 => exact rfl
    case d3 => exact rfl
    case d4 => exact rfl
    case au => ke_room
    have hb1 : (lostN r1 r2 n).length ≤ 100 := Nat.le_trans (upTo_len _ _) (by rcases hn with rfl | rfl <;> decide)
    have hb2 : (lostN r2 r1 n).length ≤ 100 := Nat.le_trans (upTo_len _ _) (by rcases hn with rfl | rfl <;> decide)
    have hw0 := wordOf_len r0 hn
    have hw1 := wordOf_len r1 hn
    have hw2 := wordOf_len r2 hn
    repeat' ((fail_if_success (with_reducible show LCg.CompSrc _ _ _ _ _ _ _ _ _ _ _ _ _ _)); (fail_if_success (with_reducible show LCg.CompEnd _ _ _ _ _ _ _ _ _ _ _ _ _ _)); (fail_if_success (with_reducible show wpAny _ _ (exec (Stmt.While _ _ _ _) _) _ _ _)); (fail_if_success (with_reducible show wpAny _ _ (exec (Stmt.For _ _ _ _ _) _) _ _ _)); (fail_if_success (with_reducible show wpAny _ _ (call (Value.ref _) _) _ _ _)); (fail_if_success (with_reducible show wpAny _ _ (compareOp CmpOp.NotEq (Value.ref _) (Value.ref _)) _ _ _)); first | (k_here; k_dflt (first | ((with_reducible show wpAny _ _ (subscriptTail _ _ (Value.ref _) (Value.int 0 _)) _ _ _); refine' item_0 ?N ?m ?_; (case N => k_asm); (case m => k_mem)) | ((with_reducible show wpAny _ _ (subscriptTail _ _ (Value.ref _) (Value.int 1 _)) _ _ _); refine' item_1 ?N ?m ?_; (case N => k_asm); (case m => k_mem)) | ((with_reducible show wpAny _ _ (subscriptTail _ _ (Value.ref _) (Value.int 2 _)) _ _ _); refine' item_2 ?N ?m ?_; (case N => k_asm); (case m => k_mem)))) | (k_here; (with_reducible show wpAny _ _ (call (Value.builtin "len") [Value.ref _]) _ _ _); k_dflt (refine' len_ints ?hl ?hi ?hn ?hb ?_; (case hl => exact News.isList (by k_asm) (by k_mem)); (case hi => assumption); (case hn => exact rfl); (case hb => assumption))) | (k_here; (with_reducible show wpAny _ _ (binaryOp Operator.Add (Value.str _ _) (Value.str _ _)) _ _ _); k_dflt (refine' add_str (hsz := ?hsz) ?_; (case hsz => exact Nat.le_trans (Nat.add_le_add (Nat.le_of_ble_eq_true rfl : _ ≤ 1) (by assumption : _ ≤ 12)) (by decide)); intro t8 k8)) | (k_unfold; (try dsimp only)) | (k_end; wrow_close) | walk1 | (dsimp only; walk1) | (leave1; walk_say "STEP leave1"; try dsimp only) | fail "no step")
    refine' CallOk.law (lev_ok _ (Str.ofString "" ++ wordOf r1 n) (wordOf r2 n) _ _ _ (((lostN r1 r2 n).length : Int) + ((lostN r2 r1 n).length : Int)) _ ?H) B ?kF X ?kN T rfl (by decide) (by decide) ?_
    case kF => assumption
    case kN => assumption
    case H =>
      have e : ∀ A B : Int, A + B + 2 * ((0 : Nat) : Int) + ((0 : Nat) : Int) = A + B := by intros; omega
      rw [emp_app, e]
      exact lev_words hn
    intro r9 tl9 h9 tk9 p9 F9 N9
    obtain ⟨rfl, t9, rfl⟩ := p9
    simp only [List.nil_append] at N9
    repeat' ((fail_if_success (with_reducible show LCg.CompSrc _ _ _ _ _ _ _ _ _ _ _ _ _ _)); (fail_if_success (with_reducible show LCg.CompEnd _ _ _ _ _ _ _ _ _ _ _ _ _ _)); (fail_if_success (with_reducible show wpAny _ _ (exec (Stmt.While _ _ _ _) _) _ _ _)); (fail_if_success (with_reducible show wpAny _ _ (exec (Stmt.For _ _ _ _ _) _) _ _ _)); (fail_if_success (with_reducible show wpAny _ _ (call (Value.ref _) _) _ _ _)); (fail_if_success (with_reducible show wpAny _ _ (compareOp CmpOp.NotEq (Value.ref _) (Value.ref _)) _ _ _)); first | (k_here; k_dflt (first | ((with_reducible show wpAny _ _ (subscriptTail _ _ (Value.ref _) (Value.int 0 _)) _ _ _); refine' item_0 ?N ?m ?_; (case N => k_asm); (case m => k_mem)) | ((with_reducible show wpAny _ _ (subscriptTail _ _ (Value.ref _) (Value.int 1 _)) _ _ _); refine' item_1 ?N ?m ?_; (case N => k_asm); (case m => k_mem)) | ((with_reducible show wpAny _ _ (subscriptTail _ _ (Value.ref _) (Value.int 2 _)) _ _ _); refine' item_2 ?N ?m ?_; (case N => k_asm); (case m => k_mem)))) | (k_here; (with_reducible show wpAny _ _ (call (Value.builtin "len") [Value.ref _]) _ _ _); k_dflt (refine' len_ints ?hl ?hi ?hn ?hb ?_; (case hl => exact News.isList (by k_asm) (by k_mem)); (case hi => assumption); (case hn => exact rfl); (case hb => assumption))) | (k_here; (with_reducible show wpAny _ _ (binaryOp Operator.Add (Value.str _ _) (Value.str _ _)) _ _ _); k_dflt (refine' add_str (hsz := ?hsz) ?_; (case hsz => exact Nat.le_trans (Nat.add_le_add (Nat.le_of_ble_eq_true rfl : _ ≤ 1) (by assumption : _ ≤ 12)) (by decide)); intro t8 k8)) | (k_unfold; (try dsimp only)) | (k_end; wrow_close) | walk1 | (dsimp only; walk1) | (leave1; walk_say "STEP leave1"; try dsimp only) | fail "no step")
    · exfalso
      rename_i hne
      exact hne (by omega)
    · exact hQ _ _ _ F9 rfl rfl rfl (fun p hp => N9 p (.tail _ (.tail _ (.tail _ (.tail _ (.tail _ (.tail _ (.tail _ hp))))))))
  · repeat' ((fail_if_success (with_reducible show LCg.CompSrc _ _ _ _ _ _ _ _ _ _ _ _ _ _)); (fail_if_success (with_reducible show LCg.CompEnd _ _ _ _ _ _ _ _ _ _ _ _ _ _)); (fail_if_success (with_reducible show wpAny _ _ (exec (Stmt.While _ _ _ _) _) _ _ _)); (fail_if_success (with_reducible show wpAny _ _ (exec (Stmt.For _ _ _ _ _) _) _ _ _)); (fail_if_success (with_reducible show wpAny _ _ (call (Value.ref _) _) _ _ _)); (fail_if_success (with_reducible show wpAny _ _ (compareOp CmpOp.NotEq (Value.ref _) (Value.ref _)) _ _ _)); first | (k_here; k_dflt (first | ((with_reducible show wpAny _ _ (subscriptTail _ _ (Value.ref _) (Value.int 0 _)) _ _ _); refine' item_0 ?N ?m ?_; (case N => k_asm); (case m => k_mem)) | ((with_reducible show wpAny _ _ (subscriptTail _ _ (Value.ref _) (Value.int 1 _)) _ _ _); refine' item_1 ?N ?m ?_; (case N => k_asm); (case m => k_mem)) | ((with_reducible show wpAny _ _ (subscriptTail _ _ (Value.ref _) (Value.int 2 _)) _ _ _); refine' item_2 ?N ?m ?_; (case N => k_asm); (case m => k_mem)))) | (k_here; (with_reducible show wpAny _ _ (call (Value.builtin "len") [Value.ref _]) _ _ _); k_dflt (refine' len_ints ?hl ?hi ?hn ?hb ?_; (case hl => exact News.isList (by k_asm) (by k_mem)); (case hi => assumption); (case hn => exact rfl); (case hb => assumption))) | (k_here; (with_reducible show wpAny _ _ (binaryOp Operator.Add (Value.str _ _) (Value.str _ _)) _ _ _); k_dflt (refine' add_str (hsz := ?hsz) ?_; (case hsz => exact Nat.le_trans (Nat.add_le_add (Nat.le_of_ble_eq_true rfl : _ ≤ 1) (by assumption : _ ≤ 12)) (by decide)); intro t8 k8)) | (k_unfold; (try dsimp only)) | (k_end; wrow_close) | walk1 | (dsimp only; walk1) | (leave1; walk_say "STEP leave1"; try dsimp only) | fail "no step")
    refine' CallOk.law (moved_ok news lx ly vx vy cx cy xs ys span 0 span ts tm0 tm2 n hlx hly hix hiy nx ny (by omega) bx bye (by omega) (by omega) (by omega)) B ?kF X ?kN T rfl (by decide) (by decide) ?_
    case kF => assumption
    case kN => assumption
    intro r9 tl9 h9 tk9 p9 F9 N9
    obtain ⟨TT, M, U, vm, cm9, vu, cu9, rfl, rfl, im, iu⟩ := p9
    simp only [List.cons_append, List.nil_append] at N9
    rw [moved_lost R0 R2 (by omega) (by omega) (by omega) (by omega)] at im
    rw [moved_gain R0 R2 (by omega) (by omega) (by omega) (by omega)] at iu
    repeat' ((fail_if_success (with_reducible show LCg.CompSrc _ _ _ _ _ _ _ _ _ _ _ _ _ _)); (fail_if_success (with_reducible show LCg.CompEnd _ _ _ _ _ _ _ _ _ _ _ _ _ _)); (fail_if_success (with_reducible show wpAny _ _ (exec (Stmt.While _ _ _ _) _) _ _ _)); (fail_if_success (with_reducible show wpAny _ _ (exec (Stmt.For _ _ _ _ _) _) _ _ _)); (fail_if_success (with_reducible show wpAny _ _ (call (Value.ref _) _) _ _ _)); (fail_if_success (with_reducible show wpAny _ _ (compareOp CmpOp.NotEq (Value.ref _) (Value.ref _)) _ _ _)); first | (k_here; k_dflt (first | ((with_reducible show wpAny _ _ (subscriptTail _ _ (Value.ref _) (Value.int 0 _)) _ _ _); refine' item_0 ?N ?m ?_; (case N => k_asm); (case m => k_mem)) | ((with_reducible show wpAny _ _ (subscriptTail _ _ (Value.ref _) (Value.int 1 _)) _ _ _); refine' item_1 ?N ?m ?_; (case N => k_asm); (case m => k_mem)) | ((with_reducible show wpAny _ _ (subscriptTail _ _ (Value.ref _) (Value.int 2 _)) _ _ _); refine' item_2 ?N ?m ?_; (case N => k_asm); (case m => k_mem)))) | (k_here; (with_reducible show wpAny _ _ (call (Value.builtin "len") [Value.ref _]) _ _ _); k_dflt (refine' len_ints ?hl ?hi ?hn ?hb ?_; (case hl => exact News.isList (by k_asm) (by k_mem)); (case hi => assumption); (case hn => exact rfl); (case hb => assumption))) | (k_here; (with_reducible show wpAny _ _ (binaryOp Operator.Add (Value.str _ _) (Value.str _ _)) _ _ _); k_dflt (refine' add_str (hsz := ?hsz) ?_; (case hsz => exact Nat.le_trans (Nat.add_le_add (Nat.le_of_ble_eq_true rfl : _ ≤ 1) (by assumption : _ ≤ 12)) (by decide)); intro t8 k8)) | (k_unfold; (try dsimp only)) | (k_end; wrow_close) | walk1 | (dsimp only; walk1) | (leave1; walk_say "STEP leave1"; try dsimp only) | fail "no step")
    refine' CallTop.law (sld_ok _ d0 d2 y0 y2 a0 a2 _ _ ?hd0 ?hd1 i0 i2 (upTo_rise _ _) (upTo_rise _ _) ?l0 ?l1) ?kF X ?kN T rfl (by decide) (by decide) ?_
    case kF => assumption
    case kN => assumption
    case hd0 => k_mem
    case hd1 => k_mem
    case l0 => exact Nat.le_trans (upTo_len _ _) (by rcases hn with rfl | rfl <;> decide)
    case l1 => exact Nat.le_trans (upTo_len _ _) (by rcases hn with rfl | rfl <;> decide)
    intro r9 tl9 h9 tk9 p9 F9 N9
    obtain ⟨TS, MS, US, vms, cms, vus, cus, rfl, rfl, ims, ius⟩ := p9
    simp only [List.cons_append, List.nil_append] at N9
    rw [sld_lost] at ims ius
    repeat' ((fail_if_success (with_reducible show LCg.CompSrc _ _ _ _ _ _ _ _ _ _ _ _ _ _)); (fail_if_success (with_reducible show LCg.CompEnd _ _ _ _ _ _ _ _ _ _ _ _ _ _)); (fail_if_success (with_reducible show wpAny _ _ (exec (Stmt.While _ _ _ _) _) _ _ _)); (fail_if_success (with_reducible show wpAny _ _ (exec (Stmt.For _ _ _ _ _) _) _ _ _)); (fail_if_success (with_reducible show wpAny _ _ (call (Value.ref _) _) _ _ _)); (fail_if_success (with_reducible show wpAny _ _ (compareOp CmpOp.NotEq (Value.ref _) (Value.ref _)) _ _ _)); first | (k_here; k_dflt (first | ((with_reducible show wpAny _ _ (subscriptTail _ _ (Value.ref _) (Value.int 0 _)) _ _ _); refine' item_0 ?N ?m ?_; (case N => k_asm); (case m => k_mem)) | ((with_reducible show wpAny _ _ (subscriptTail _ _ (Value.ref _) (Value.int 1 _)) _ _ _); refine' item_1 ?N ?m ?_; (case N => k_asm); (case m => k_mem)) | ((with_reducible show wpAny _ _ (subscriptTail _ _ (Value.ref _) (Value.int 2 _)) _ _ _); refine' item_2 ?N ?m ?_; (case N => k_asm); (case m => k_mem)))) | (k_here; (with_reducible show wpAny _ _ (call (Value.builtin "len") [Value.ref _]) _ _ _); k_dflt (refine' len_ints ?hl ?hi ?hn ?hb ?_; (case hl => exact News.isList (by k_asm) (by k_mem)); (case hi => assumption); (case hn => exact rfl); (case hb => assumption))) | (k_here; (with_reducible show wpAny _ _ (binaryOp Operator.Add (Value.str _ _) (Value.str _ _)) _ _ _); k_dflt (refine' add_str (hsz := ?hsz) ?_; (case hsz => exact Nat.le_trans (Nat.add_le_add (Nat.le_of_ble_eq_true rfl : _ ≤ 1) (by assumption : _ ≤ 12)) (by decide)); intro t8 k8)) | (k_unfold; (try dsimp only)) | (k_end; wrow_close) | walk1 | (dsimp only; walk1) | (leave1; walk_say "STEP leave1"; try dsimp only) | fail "no step")
    (k_dflt (refine' ne_pairs ?kN ?a1 ?a2 ?a3 ?a4 ?a5 ?a6 ?d1 ?d2 ?d3 ?d4 im iu ims ius ?au ?_))
    case kN => assumption
    case a1 => exact .head _
    case a2 => exact .tail _ (.head _)
    case a3 => k_mem
    case a4 => k_mem
    case a5 => k_mem
    case a6 => k_mem
    case d1 => exact rfl
    case d2 => exact rfl
    case d3 => exact rfl
    case d4 => exact rfl
    case au => ke_room
    have hb1 : (lostN r0 r2 n).length ≤ 100 := Nat.le_trans (upTo_len _ _) (by rcases hn with rfl | rfl <;> decide)
    have hb2 : (lostN r2 r0 n).length ≤ 100 := Nat.le_trans (upTo_len _ _) (by rcases hn with rfl | rfl <;> decide)
    have hw0 := wordOf_len r0 hn
    have hw1 := wordOf_len r1 hn
    have hw2 := wordOf_len r2 hn
    repeat' ((fail_if_success (with_reducible show LCg.CompSrc _ _ _ _ _ _ _ _ _ _ _ _ _ _)); (fail_if_success (with_reducible show LCg.CompEnd _ _ _ _ _ _ _ _ _ _ _ _ _ _)); (fail_if_success (with_reducible show wpAny _ _ (exec (Stmt.While _ _ _ _) _) _ _ _)); (fail_if_success (with_reducible show wpAny _ _ (exec (Stmt.For _ _ _ _ _) _) _ _ _)); (fail_if_success (with_reducible show wpAny _ _ (call (Value.ref _) _) _ _ _)); (fail_if_success (with_reducible show wpAny _ _ (compareOp CmpOp.NotEq (Value.ref _) (Value.ref _)) _ _ _)); first | (k_here; k_dflt (first | ((with_reducible show wpAny _ _ (subscriptTail _ _ (Value.ref _) (Value.int 0 _)) _ _ _); refine' item_0 ?N ?m ?_; (case N => k_asm); (case m => k_mem)) | ((with_reducible show wpAny _ _ (subscriptTail _ _ (Value.ref _) (Value.int 1 _)) _ _ _); refine' item_1 ?N ?m ?_; (case N => k_asm); (case m => k_mem)) | ((with_reducible show wpAny _ _ (subscriptTail _ _ (Value.ref _) (Value.int 2 _)) _ _ _); refine' item_2 ?N ?m ?_; (case N => k_asm); (case m => k_mem)))) | (k_here; (with_reducible show wpAny _ _ (call (Value.builtin "len") [Value.ref _]) _ _ _); k_dflt (refine' len_ints ?hl ?hi ?hn ?hb ?_; (case hl => exact News.isList (by k_asm) (by k_mem)); (case hi => assumption); (case hn => exact rfl); (case hb => assumption))) | (k_here; (with_reducible show wpAny _ _ (binaryOp Operator.Add (Value.str _ _) (Value.str _ _)) _ _ _); k_dflt (refine' add_str (hsz := ?hsz) ?_; (case hsz => exact Nat.le_trans (Nat.add_le_add (Nat.le_of_ble_eq_true rfl : _ ≤ 1) (by assumption : _ ≤ 12)) (by decide)); intro t8 k8)) | (k_unfold; (try dsimp only)) | (k_end; wrow_close) | walk1 | (dsimp only; walk1) | (leave1; walk_say "STEP leave1"; try dsimp only) | fail "no step")
    refine' CallOk.law (lev_ok _ (Str.ofString "0" ++ wordOf r0 n) (wordOf r2 n) _ _ _ (((lostN r0 r2 n).length : Int) + ((lostN r2 r0 n).length : Int) + 2) _ ?H) B ?kF X ?kN T rfl (by decide) (by decide) ?_
    case kF => assumption
    case kN => assumption
    case H =>
      have e : ∀ A B : Int, A + B + 2 * ((1 : Nat) : Int) + ((1 : Nat) : Int) = A + B + 3 := by intros; omega
      rw [e]
      exact lev_fronts hn
    intro r9 tl9 h9 tk9 p9 F9 N9
    obtain ⟨rfl, t9, rfl⟩ := p9
    simp only [List.nil_append] at N9
    repeat' ((fail_if_success (with_reducible show LCg.CompSrc _ _ _ _ _ _ _ _ _ _ _ _ _ _)); (fail_if_success (with_reducible show LCg.CompEnd _ _ _ _ _ _ _ _ _ _ _ _ _ _)); (fail_if_success (with_reducible show wpAny _ _ (exec (Stmt.While _ _ _ _) _) _ _ _)); (fail_if_success (with_reducible show wpAny _ _ (exec (Stmt.For _ _ _ _ _) _) _ _ _)); (fail_if_success (with_reducible show wpAny _ _ (call (Value.ref _) _) _ _ _)); (fail_if_success (with_reducible show wpAny _ _ (compareOp CmpOp.NotEq (Value.ref _) (Value.ref _)) _ _ _)); first | (k_here; k_dflt (first | ((with_reducible show wpAny _ _ (subscriptTail _ _ (Value.ref _) (Value.int 0 _)) _ _ _); refine' item_0 ?N ?m ?_; (case N => k_asm); (case m => k_mem)) | ((with_reducible show wpAny _ _ (subscriptTail _ _ (Value.ref _) (Value.int 1 _)) _ _ _); refine' item_1 ?N ?m ?_; (case N => k_asm); (case m => k_mem)) | ((with_reducible show wpAny _ _ (subscriptTail _ _ (Value.ref _) (Value.int 2 _)) _ _ _); refine' item_2 ?N ?m ?_; (case N => k_asm); (case m => k_mem)))) | (k_here; (with_reducible show wpAny _ _ (call (Value.builtin "len") [Value.ref _]) _ _ _); k_dflt (refine' len_ints ?hl ?hi ?hn ?hb ?_; (case hl => exact News.isList (by k_asm) (by k_mem)); (case hi => assumption); (case hn => exact rfl); (case hb => assumption))) | (k_here; (with_reducible show wpAny _ _ (binaryOp Operator.Add (Value.str _ _) (Value.str _ _)) _ _ _); k_dflt (refine' add_str (hsz := ?hsz) ?_; (case hsz => exact Nat.le_trans (Nat.add_le_add (Nat.le_of_ble_eq_true rfl : _ ≤ 1) (by assumption : _ ≤ 12)) (by decide)); intro t8 k8)) | (k_unfold; (try dsimp only)) | (k_end; wrow_close) | walk1 | (dsimp only; walk1) | (leave1; walk_say "STEP leave1"; try dsimp only) | fail "no step")
    · exfalso
      rename_i hne
      exact hne (by omega)
    · exact hQ _ _ _ F9 rfl rfl rfl (fun p hp => N9 p (.tail _ (.tail _ (.tail _ (.tail _ (.tail _ (.tail _ (.tail _ hp))))))))
end Mine
end
end
section
namespace Mine
theorem sec_L5 : True := by
  w_top off
  trivial
end Mine
open PySem PySem.W PySem.Calls PyProof.Rows PySem.Spec PyProof.Rows.LCg
namespace Mine
theorem fr_look {h₀ h : Heap} {L : Addr} {m m' : Str → Option Value} (e : m = m') {x : Str} {v : Option Value} (h : m' x = v) : m x = v := by rw [e]; exact h
set_option maxRecDepth 100000 in
set_option maxHeartbeats 8000000 in
theorem law_loop {prog : Program} {w : World} {mean mg mb} {h₀ L m s} {fa : Addr} {cd : Value} {Q : Flow → Shared → Prop} {news : List (Addr × Obj)}
    {lx ly Mk DW DL d0 d1 d2 : Addr} {vx vy y0 y1 y2 : List Value} {cx cy cm cw cl a0 a1 a2 : Nat} {xs ys r0 r1 r2 : List Int} {span stop : Int} {ts tm0 tm1 tm2 tw0 tw1 tw2 : Tok} {oX oY oS : Obj} {n : Nat}
    {tg it : Expr} {b1 b2 b3 b4 : Stmt} {oe : List Stmt} {wp : Pos} {s11 : Stmt} (hst : (bodyOf 14).drop 10 = [.For tg it [b1, b2, b3, b4] oe wp, s11])
    {k : ScopeKind} {ns : List (Str × NameKind)} {ig ic : Bool} {mo : List (Str × Const)} (hsc : scopeOf 14 = ⟨k, ns, ig, ic, mo⟩)
    (B : Below callerA h₀ [] h₀) (F : Fr h₀ L s.heap m) (X : (Mine.hd.heap_39 w.params).In h₀) (N : News h₀ L s.heap news) (T : Top Mine.hd.view_39 (looseW Mine.hd.view_39 []) mean mg mb h₀)
    (hn : n = 3 ∨ n = 4) (hlx : (lx, listOf (List.toArray vx) cx) ∈ news) (hly : (ly, listOf (List.toArray vy) cy) ∈ news) (hix : IntsAre vx xs) (hiy : IntsAre vy ys) (nx : xs.length = n) (ny : ys.length = n)
    (bx : ∀ i : Nat, 0 ≤ xs.getD i 0 ∧ xs.getD i 0 < 1000000) (bye : ∀ i : Nat, 0 ≤ ys.getD i 0 ∧ ys.getD i 0 < 1000000) (bs : 2 ≤ span ∧ span ≤ 8) (bt : 1 ≤ stop ∧ stop < span)
    (hX : (L + 1, oX) ∈ news) (hY : (L + 2, oY) ∈ news) (hS : (L + 3, oS) ∈ news) (dX : oX.data = .cell (some (.ref lx))) (dY : oY.data = .cell (some (.ref ly))) (dS : oS.data = .cell (some (.int span ts)))
    (mmk : m (Str.ofString "marks") = some (.ref Mk)) (hMk : (Mk, listOf #[.int 0 tm0, .int stop tm1, .int span tm2] cm) ∈ news)
    (mwd : m (Str.ofString "words") = some (.ref DW)) (hDW : (DW, listOf #[.str (wordOf r0 n) tw0, .str (wordOf r1 n) tw1, .str (wordOf r2 n) tw2] cw) ∈ news)
    (mld : m (Str.ofString "leads") = some (.ref DL)) (hDL : (DL, listOf #[.ref d0, .ref d1, .ref d2] cl) ∈ news)
    (h0 : (d0, listOf y0.toArray a0) ∈ news) (h1 : (d1, listOf y1.toArray a1) ∈ news) (h2 : (d2, listOf y2.toArray a2) ∈ news)
    (i0 : IntsAre y0 (upTo (lead r0 n) (n * n))) (i1 : IntsAre y1 (upTo (lead r1 n) (n * n))) (i2 : IntsAre y2 (upTo (lead r2 n) (n * n)))
    (R0 : rowIs xs ys r0 span 0) (R1 : rowIs xs ys r1 span stop) (R2 : rowIs xs ys r2 span span)
    (hQ : ∀ h tk m', Fr h₀ L h m' → Q .next { s with heap := h, toks := tk }) :
    wpAny (model prog w) (callerA.deeper (envOfC (Str.ofString "law") ⟨k, ns, ig, ic, mo⟩ L fa cd)) (exec (.For tg it [b1, b2, b3, b4] oe wp) (envOfC (Str.ofString "law") ⟨k, ns, ig, ic, mo⟩ L fa cd)) Q none1 s := by
  have hfill : PySem.Challenge.rw_tx0016_01 = PySem.Challenge.rw_tx0016_01 ∧ Mine.hd.heap_39 = Mine.hd.heap_39 := by
    k_fill
    exact ⟨rfl, rfl⟩
  clear hfill
  have hst2 := hst
  have hsc2 := hsc
  cases hst
  cases hsc
  replace F := fr_back (x := Str.ofString "marks") F (by with_unfolding_all exact mmk)
  replace F := fr_back (x := Str.ofString "words") F (by with_unfolding_all exact mwd)
  replace F := fr_back (x := Str.ofString "leads") F (by with_unfolding_all exact mld)
  repeat' ((fail_if_success (with_reducible show wpAny _ _ (pyIter _) _ _ _)); first | (k_unfold; (try dsimp only)) | (k_end; wrow_close) | walk1 | (dsimp only; walk1) | (leave1; walk_say "STEP leave1"; try dsimp only) | fail "no step")
  rename Fr _ _ _ _ => lF'
  rename News _ _ _ _ => lN'
  with_unfolding_all refine iter_listTurns (vs := [.ref _, .ref _, .ref _]) (by rfl) lF' lN' (.head _) (by rfl) (by rfl) ?_
  intro I hI
  with_unfolding_all refine ItemsRest.val (fun hp1 tk1 F1 => ?_)
  refine AllObj.cons (fun o1 hc1 => ?_)
  refine AllObj.nil (fun N1 => ?_)
  simp only [List.cons_append, List.nil_append] at N1
  repeat' ((fail_if_success (with_reducible show wpAny _ _ (exec (Stmt.While _ _ _ _) _) _ _ _)); (fail_if_success (with_reducible show wpAny _ _ (exec (Stmt.For _ _ _ _ _) _) _ _ _)); (fail_if_success (with_reducible show wpAny _ _ (execs [Stmt.Assign _ _ _, Stmt.If _ _ _ _, _, _] _) _ _ _)); first | (k_unfold; (try dsimp only)) | (k_end; wrow_close) | walk1 | (dsimp only; walk1) | (leave1; walk_say "STEP leave1"; try dsimp only) | fail "no step")
  rename Fr _ _ _ _ => F9
  rename News _ _ _ _ => N9
  refine law_turn hst2 hsc2 B F9 X N9 T hn (.tail _ (.tail _ (.tail _ (.tail _ (.tail _ hlx))))) (.tail _ (.tail _ (.tail _ (.tail _ (.tail _ hly))))) hix hiy nx ny bx bye bs bt (.tail _ (.tail _ (.tail _ (.tail _ (.tail _ hX))))) (.tail _ (.tail _ (.tail _ (.tail _ (.tail _ hY))))) (.tail _ (.tail _ (.tail _ (.tail _ (.tail _ hS))))) dX dY dS (by with_unfolding_all exact rfl) (.tail _ (.tail _ (.tail _ (.tail _ (.tail _ hMk))))) (by with_unfolding_all exact rfl) (.tail _ (.tail _ (.tail _ (.tail _ (.tail _ hDW))))) (by with_unfolding_all exact rfl) (.tail _ (.tail _ (.tail _ (.tail _ (.tail _ hDL))))) (.tail _ (.tail _ (.tail _ (.tail _ (.tail _ h0))))) (.tail _ (.tail _ (.tail _ (.tail _ (.tail _ h1))))) (.tail _ (.tail _ (.tail _ (.tail _ (.tail _ h2))))) i0 i1 i2 R0 R1 R2 rfl rfl rfl (.inl ⟨rfl, rfl, rfl⟩) ?_
  clear F9 N9
  intro h9 tk9 m9 F9 e1 e2 e3 N9
  change UnrEndW _ _ _ _ _ _
  refine ⟨h9, tk9, m9, _, rfl, F9, N9, (fun p hp q hq => by rw [List.mem_singleton.mp hq]; exact Nat.ne_of_lt (hI p hp)), And.intro (And.intro (.head _) trivial) ?_⟩
  clear N9 F9
  with_unfolding_all refine ItemsRest.val (fun hp1 tk1 F1 => ?_)
  refine AllObj.cons (fun o1 hc1 => ?_)
  refine AllObj.nil (fun N1 => ?_)
  simp only [List.cons_append, List.nil_append] at N1
  repeat' ((fail_if_success (with_reducible show wpAny _ _ (exec (Stmt.While _ _ _ _) _) _ _ _)); (fail_if_success (with_reducible show wpAny _ _ (exec (Stmt.For _ _ _ _ _) _) _ _ _)); (fail_if_success (with_reducible show wpAny _ _ (execs [Stmt.Assign _ _ _, Stmt.If _ _ _ _, _, _] _) _ _ _)); first | (k_unfold; (try dsimp only)) | (k_end; wrow_close) | walk1 | (dsimp only; walk1) | (leave1; walk_say "STEP leave1"; try dsimp only) | fail "no step")
  rename Fr _ _ _ _ => F9
  rename News _ _ _ _ => N9
  refine law_turn hst2 hsc2 B F9 X N9 T hn (.tail _ (.tail _ (.tail _ (.tail _ (.tail _ hlx))))) (.tail _ (.tail _ (.tail _ (.tail _ (.tail _ hly))))) hix hiy nx ny bx bye bs bt (.tail _ (.tail _ (.tail _ (.tail _ (.tail _ hX))))) (.tail _ (.tail _ (.tail _ (.tail _ (.tail _ hY))))) (.tail _ (.tail _ (.tail _ (.tail _ (.tail _ hS))))) dX dY dS (by with_unfolding_all exact e1) (.tail _ (.tail _ (.tail _ (.tail _ (.tail _ hMk))))) (by with_unfolding_all exact e2) (.tail _ (.tail _ (.tail _ (.tail _ (.tail _ hDW))))) (by with_unfolding_all exact e3) (.tail _ (.tail _ (.tail _ (.tail _ (.tail _ hDL))))) (.tail _ (.tail _ (.tail _ (.tail _ (.tail _ h0))))) (.tail _ (.tail _ (.tail _ (.tail _ (.tail _ h1))))) (.tail _ (.tail _ (.tail _ (.tail _ (.tail _ h2))))) i0 i1 i2 R0 R1 R2 rfl rfl rfl (.inr (.inl ⟨rfl, rfl, rfl⟩)) ?_
  clear F9 N9
  intro h9 tk9 m9 F9 e1 e2 e3 N9
  change UnrEndW _ _ _ _ _ _
  refine ⟨h9, tk9, m9, _, rfl, F9, N9, (fun p hp q hq => by rw [List.mem_singleton.mp hq]; exact Nat.ne_of_lt (hI p hp)), And.intro (And.intro (.head _) trivial) ?_⟩
  clear N9 F9
  with_unfolding_all refine ItemsRest.val (fun hp1 tk1 F1 => ?_)
  refine AllObj.cons (fun o1 hc1 => ?_)
  refine AllObj.nil (fun N1 => ?_)
  simp only [List.cons_append, List.nil_append] at N1
  repeat' ((fail_if_success (with_reducible show wpAny _ _ (exec (Stmt.While _ _ _ _) _) _ _ _)); (fail_if_success (with_reducible show wpAny _ _ (exec (Stmt.For _ _ _ _ _) _) _ _ _)); (fail_if_success (with_reducible show wpAny _ _ (execs [Stmt.Assign _ _ _, Stmt.If _ _ _ _, _, _] _) _ _ _)); first | (k_unfold; (try dsimp only)) | (k_end; wrow_close) | walk1 | (dsimp only; walk1) | (leave1; walk_say "STEP leave1"; try dsimp only) | fail "no step")
  rename Fr _ _ _ _ => F9
  rename News _ _ _ _ => N9
  refine law_turn hst2 hsc2 B F9 X N9 T hn (.tail _ (.tail _ (.tail _ (.tail _ (.tail _ hlx))))) (.tail _ (.tail _ (.tail _ (.tail _ (.tail _ hly))))) hix hiy nx ny bx bye bs bt (.tail _ (.tail _ (.tail _ (.tail _ (.tail _ hX))))) (.tail _ (.tail _ (.tail _ (.tail _ (.tail _ hY))))) (.tail _ (.tail _ (.tail _ (.tail _ (.tail _ hS))))) dX dY dS (by with_unfolding_all exact e1) (.tail _ (.tail _ (.tail _ (.tail _ (.tail _ hMk))))) (by with_unfolding_all exact e2) (.tail _ (.tail _ (.tail _ (.tail _ (.tail _ hDW))))) (by with_unfolding_all exact e3) (.tail _ (.tail _ (.tail _ (.tail _ (.tail _ hDL))))) (.tail _ (.tail _ (.tail _ (.tail _ (.tail _ h0))))) (.tail _ (.tail _ (.tail _ (.tail _ (.tail _ h1))))) (.tail _ (.tail _ (.tail _ (.tail _ (.tail _ h2))))) i0 i1 i2 R0 R1 R2 rfl rfl rfl (.inr (.inr ⟨rfl, rfl, rfl⟩)) ?_
  clear F9 N9
  intro h9 tk9 m9 F9 e1 e2 e3 N9
  change UnrEndW _ _ _ _ _ _
  refine ⟨h9, tk9, m9, _, rfl, F9, N9, (fun p hp q hq => by rw [List.mem_singleton.mp hq]; exact Nat.ne_of_lt (hI p hp)), And.intro (And.intro (.head _) trivial) ?_⟩
  clear N9 F9
  exact ItemsRest.zero (fun h tk F9 _ => hQ h tk _ F9)
end Mine
end
section
namespace Mine
theorem sec_L8 : True := by
  w_top off
  trivial
end Mine
open PySem PySem.W PySem.Calls PyProof.Rows PySem.Spec PyProof.Rows.LCg
namespace Mine
def rowOf (xs ys ms : List Int) (span : Int) (n r : Nat) : List Int := (List.range n).map fun i => (span - ms.getD r 0) * xs.getD i 0 + ms.getD r 0 * ys.getD i 0
theorem rowOf_is {xs ys ms : List Int} {span : Int} {n r : Nat} (nx : xs.length = n) (ny : ys.length = n) : rowIs xs ys (rowOf xs ys ms span n r) span (ms.getD r 0) := by
  intro i
  unfold rowOf
  by_cases h : i < n
  · rw [List.getD_eq_getElem?_getD, List.getElem?_map, List.getElem?_range h]; rfl
  · have hx : xs.getD i 0 = 0 := by rw [List.getD_eq_getElem?_getD, List.getElem?_eq_none (by omega)]; rfl
    have hy : ys.getD i 0 = 0 := by rw [List.getD_eq_getElem?_getD, List.getElem?_eq_none (by omega)]; rfl
    rw [hx, hy, List.getD_eq_getElem?_getD, List.getElem?_eq_none (by simp; omega)]
    simp
theorem rowOf_len (xs ys ms : List Int) (span : Int) (n r : Nat) : (rowOf xs ys ms span n r).length = n := by simp [rowOf]
theorem row_bound {xs ys rs : List Int} {span t : Int} (R : rowIs xs ys rs span t) (hs : span ≤ 8) (h0 : 0 ≤ t) (h1 : t ≤ span) (bx : ∀ i : Nat, 0 ≤ xs.getD i 0 ∧ xs.getD i 0 < 1000000) (bye : ∀ i : Nat, 0 ≤ ys.getD i 0 ∧ ys.getD i 0 < 1000000) (i : Nat) :
    -100000000 ≤ rs.getD i 0 ∧ rs.getD i 0 ≤ 100000000 := by
  rw [R i]
  have hx := bx i
  have hy := bye i
  have a1 : 0 ≤ (span - t) * xs.getD i 0 := Int.mul_nonneg (by omega) hx.1
  have a2 : 0 ≤ t * ys.getD i 0 := Int.mul_nonneg h0 hy.1
  have a3 : (span - t) * xs.getD i 0 ≤ 8 * 1000000 := Int.mul_le_mul (by omega) (by omega) hx.1 (by decide)
  have a4 : t * ys.getD i 0 ≤ 8 * 1000000 := Int.mul_le_mul (by omega) (by omega) hy.1 (by decide)
  omega
theorem RowsMade.three {rowf : Nat → List Int} {us : List Value} {made : List (Addr × Obj)} (h : RowsMade rowf 3 us made) :
    ∃ e0 e1 e2 v0 v1 v2, us = [.ref e0, .ref e1, .ref e2] ∧ made = [(e2, lst v2), (e1, lst v1), (e0, lst v0)] ∧ IntsAre v0 (rowf 0) ∧ IntsAre v1 (rowf 1) ∧ IntsAre v2 (rowf 2) := by
  cases h with
  | succ h i2 =>
    cases h with
    | succ h i1 =>
      cases h with
      | succ h i0 =>
        cases h with
        | zero => exact ⟨_, _, _, _, _, _, rfl, rfl, i0, i1, i2⟩
set_option maxRecDepth 100000 in
set_option maxHeartbeats 8000000 in
theorem law_rest {prog : Program} {w : World} {mean mg mb} {h₀ L m s} {fa : Addr} {cd : Value} {Q : Flow → Shared → Prop} {news : List (Addr × Obj)}
    {lx ly Mk : Addr} {vx vy : List Value} {cx cy cm : Nat} {xs ys : List Int} {span stop : Int} {ts tm0 tm1 tm2 : Tok} {oX oY oS : Obj} {n : Nat}
    {s7 s8 s9 : Stmt} {tg it : Expr} {b1 b2 b3 b4 : Stmt} {oe : List Stmt} {wp : Pos} {s11 : Stmt} (hst : (bodyOf 14).drop 7 = [s7, s8, s9, .For tg it [b1, b2, b3, b4] oe wp, s11])
    {k : ScopeKind} {ns : List (Str × NameKind)} {ig ic : Bool} {mo : List (Str × Const)} (hsc : scopeOf 14 = ⟨k, ns, ig, ic, mo⟩)
    (B : Below callerA h₀ [] h₀) (F : Fr h₀ L s.heap m) (X : (Mine.hd.heap_39 w.params).In h₀) (N : News h₀ L s.heap news) (T : Top Mine.hd.view_39 (looseW Mine.hd.view_39 []) mean mg mb h₀)
    (hn : n = 3 ∨ n = 4) (hlx : (lx, listOf (List.toArray vx) cx) ∈ news) (hly : (ly, listOf (List.toArray vy) cy) ∈ news) (hix : IntsAre vx xs) (hiy : IntsAre vy ys) (nx : xs.length = n) (ny : ys.length = n)
    (bx : ∀ i : Nat, 0 ≤ xs.getD i 0 ∧ xs.getD i 0 < 1000000) (bye : ∀ i : Nat, 0 ≤ ys.getD i 0 ∧ ys.getD i 0 < 1000000) (bs : 2 ≤ span ∧ span ≤ 8) (bt : 1 ≤ stop ∧ stop < span)
    (hX : (L + 1, oX) ∈ news) (hY : (L + 2, oY) ∈ news) (hS : (L + 3, oS) ∈ news) (dX : oX.data = .cell (some (.ref lx))) (dY : oY.data = .cell (some (.ref ly))) (dS : oS.data = .cell (some (.int span ts)))
    (mmk : m (Str.ofString "marks") = some (.ref Mk)) (hMk : (Mk, listOf #[.int 0 tm0, .int stop tm1, .int span tm2] cm) ∈ news)
    (hQ : ∀ h tk m', Fr h₀ L h m' → Q (.ret (.bool true)) { s with heap := h, toks := tk }) :
    wpAny (model prog w) (callerA.deeper (envOfC (Str.ofString "law") ⟨k, ns, ig, ic, mo⟩ L fa cd)) (execs [s7, s8, s9, .For tg it [b1, b2, b3, b4] oe wp, s11] (envOfC (Str.ofString "law") ⟨k, ns, ig, ic, mo⟩ L fa cd)) Q none1 s := by
  have h8 : (bodyOf 14).drop 8 = [s8, s9, .For tg it [b1, b2, b3, b4] oe wp, s11] := (List.drop_drop (i := 1) (j := 7)).symm.trans (congrArg (List.drop 1) hst)
  have h9 : (bodyOf 14).drop 9 = [s9, .For tg it [b1, b2, b3, b4] oe wp, s11] := (List.drop_drop (i := 2) (j := 7)).symm.trans (congrArg (List.drop 2) hst)
  have h10 : (bodyOf 14).drop 10 = [.For tg it [b1, b2, b3, b4] oe wp, s11] := (List.drop_drop (i := 3) (j := 7)).symm.trans (congrArg (List.drop 3) hst)
  have hn10 : n ≤ 10 := by rcases hn with rfl | rfl <;> decide
  have R0 : rowIs xs ys (rowOf xs ys [0, stop, span] span n 0) span 0 := rowOf_is nx ny
  have R1 : rowIs xs ys (rowOf xs ys [0, stop, span] span n 1) span stop := rowOf_is nx ny
  have R2 : rowIs xs ys (rowOf xs ys [0, stop, span] span n 2) span span := rowOf_is nx ny
  have b0 := row_bound R0 bs.2 (by omega) (by omega) bx bye
  have b1 := row_bound R1 bs.2 (by omega) (by omega) bx bye
  have b2 := row_bound R2 bs.2 (by omega) (by omega) bx bye
  have l0 := rowOf_len xs ys [0, stop, span] span n 0
  have l1 := rowOf_len xs ys [0, stop, span] span n 1
  have l2 := rowOf_len xs ys [0, stop, span] span n 2
  refine wpAny_execs_cons (law_rows (ms := [0, stop, span]) (vm := [.int 0 tm0, .int stop tm1, .int span tm2]) hst hsc B F X N T mmk hMk (.cons 0 tm0 (.cons stop tm1 (.cons span tm2 .nil))) rfl ?bm hlx hly hix hiy nx ny hn10 bx bye bs hX hY hS dX dY dS ?_)
  case bm =>
    intro i
    match i with
    | 0 => exact ⟨Int.le_refl _, by show (0 : Int) ≤ span; omega⟩
    | 1 => show 0 ≤ stop ∧ stop ≤ span; omega
    | 2 => show 0 ≤ span ∧ span ≤ span; omega
    | _ + 3 => show (0 : Int) ≤ 0 ∧ (0 : Int) ≤ span; omega
  intro D us made h1 tk1 F1 N1 RM
  obtain ⟨e0, e1, e2, v0, v1, v2, rfl, rfl, i0, i1, i2⟩ := RM.three
  change IntsAre v0 (rowOf xs ys [0, stop, span] span n 0) at i0
  change IntsAre v1 (rowOf xs ys [0, stop, span] span n 1) at i1
  change IntsAre v2 (rowOf xs ys [0, stop, span] span n 2) at i2
  generalize rowOf xs ys [0, stop, span] span n 0 = r0 at *
  generalize rowOf xs ys [0, stop, span] span n 1 = r1 at *
  generalize rowOf xs ys [0, stop, span] span n 2 = r2 at *
  have up1 : ∀ p ∈ news, p ∈ (D, lst [.ref e0, .ref e1, .ref e2]) :: ([(e2, lst v2), (e1, lst v1), (e0, lst v0)] ++ news) := fun p hp => .tail _ (.tail _ (.tail _ (.tail _ hp)))
  have q0 : (D, listOf #[.ref e0, .ref e1, .ref e2] 3) ∈ (D, lst [.ref e0, .ref e1, .ref e2]) :: ([(e2, lst v2), (e1, lst v1), (e0, lst v0)] ++ news) := .head _
  have q1 : (e0, listOf v0.toArray v0.length) ∈ (D, lst [.ref e0, .ref e1, .ref e2]) :: ([(e2, lst v2), (e1, lst v1), (e0, lst v0)] ++ news) := .tail _ (.tail _ (.tail _ (.head _)))
  have q2 : (e1, listOf v1.toArray v1.length) ∈ (D, lst [.ref e0, .ref e1, .ref e2]) :: ([(e2, lst v2), (e1, lst v1), (e0, lst v0)] ++ news) := .tail _ (.tail _ (.head _))
  have q3 : (e2, listOf v2.toArray v2.length) ∈ (D, lst [.ref e0, .ref e1, .ref e2]) :: ([(e2, lst v2), (e1, lst v1), (e0, lst v0)] ++ news) := .tail _ (.head _)
  generalize (D, lst [.ref e0, .ref e1, .ref e2]) :: ([(e2, lst v2), (e1, lst v1), (e0, lst v0)] ++ news) = news1 at *
  refine wpAny_execs_cons (law_words h8 hsc B F1 X N1 T (by with_unfolding_all rfl) q0 q1 q2 q3 i0 i1 i2 l0 l1 l2 hn10 b0 b1 b2 ?_)
  intro DW tw0 tw1 tw2 h2 tk2 F2 N2 _
  refine wpAny_execs_cons (law_leads h9 hsc B F2 X N2 T (by with_unfolding_all rfl) (.tail _ q0) (.tail _ q1) (.tail _ q2) (.tail _ q3) i0 i1 i2 l0 l1 l2 hn10 b0 b1 b2 ?_)
  intro DL d0 d1 d2 y0 y1 y2 a0 a1 a2 h3 tk3 F3 N3 j0 j1 j2
  have up5 : ∀ p ∈ news, p ∈ (DL, lst [.ref d0, .ref d1, .ref d2]) :: (d2, listOf y2.toArray a2) :: (d1, listOf y1.toArray a1) :: (d0, listOf y0.toArray a0) :: (DW, lst [.str (wordOf r0 n) tw0, .str (wordOf r1 n) tw1, .str (wordOf r2 n) tw2]) :: news1 :=
    fun p hp => .tail _ (.tail _ (.tail _ (.tail _ (.tail _ (up1 p hp)))))
  refine wpAny_execs_cons (law_loop h10 hsc B F3 X N3 T hn (up5 _ hlx) (up5 _ hly) hix hiy nx ny bx bye bs bt (up5 _ hX) (up5 _ hY) (up5 _ hS) dX dY dS (by with_unfolding_all exact mmk) (up5 _ hMk) (by with_unfolding_all rfl) (.tail _ (.tail _ (.tail _ (.tail _ (.head _))))) (by with_unfolding_all rfl) (.head _)
    (.tail _ (.tail _ (.tail _ (.head _)))) (.tail _ (.tail _ (.head _))) (.tail _ (.head _)) j0 j1 j2 R0 R1 R2 ?_)
  intro h4 tk4 m4 F4
  cases hst
  cases hsc
  repeat' ((fail_if_success (with_reducible show LCg.CompSrc _ _ _ _ _ _ _ _ _ _ _ _ _ _)); (fail_if_success (with_reducible show LCg.CompEnd _ _ _ _ _ _ _ _ _ _ _ _ _ _)); (fail_if_success (with_reducible show wpAny _ _ (exec (Stmt.While _ _ _ _) _) _ _ _)); (fail_if_success (with_reducible show wpAny _ _ (exec (Stmt.For _ _ _ _ _) _) _ _ _)); (fail_if_success (with_reducible show wpAny _ _ (call (Value.ref _) _) _ _ _)); (fail_if_success (with_reducible show wpAny _ _ (compareOp CmpOp.NotEq (Value.ref _) (Value.ref _)) _ _ _)); first | (k_unfold; (try dsimp only)) | (k_end; wrow_close) | walk1 | (dsimp only; walk1) | (leave1; walk_say "STEP leave1"; try dsimp only) | fail "no step")
  exact hQ _ _ _ F4
end Mine
end
section
namespace Mine
theorem sec_L7 : True := by
  w_top off
  trivial
end Mine
open PySem PySem.W PySem.Calls PyProof.Rows PySem.Spec PyProof.Rows.LCg
namespace Mine
theorem span_nz (a : Int) : 2 + Int.fmod a 7 - 1 ≠ 0 := by
  have := Int.fmod_nonneg_of_pos a (by decide : (0 : Int) < 7)
  omega
theorem span_bd (a : Int) : 2 ≤ 2 + Int.fmod a 7 ∧ 2 + Int.fmod a 7 ≤ 8 := by
  have h1 := Int.fmod_nonneg_of_pos a (by decide : (0 : Int) < 7)
  have h2 := Int.fmod_lt_of_pos a (by decide : (0 : Int) < 7)
  omega
theorem stop_bd (a b : Int) : 1 ≤ 1 + Int.fmod a (2 + Int.fmod b 7 - 1) ∧ 1 + Int.fmod a (2 + Int.fmod b 7 - 1) < 2 + Int.fmod b 7 := by
  have h0 := (span_bd b).1
  have hp : 0 < 2 + Int.fmod b 7 - 1 := by omega
  have h1 := Int.fmod_nonneg_of_pos a hp
  have h2 := Int.fmod_lt_of_pos a hp
  omega
set_option maxRecDepth 100000 in
set_option maxHeartbeats 8000000 in
theorem law_tail {prog : Program} {w : World} {mean mg mb} {L : Nat} {h₀ m s} {fa : Addr} {cd : Value} {Q : Flow → Shared → Prop} {D sA : Addr} {o1 o2 o3 : Obj} {svs : List Value} {sns : List Int}
    {z0 z1 z2 z3 z4 z5 z6 z7 z8 z9 : Int} {t0 t1 t2 t3 t4 t5 t6 t7 t8 t9 : Tok}
    {s1 s2 s3 s4 s5 s6 s7 s8 s9 : Stmt} {tg it : Expr} {b1 b2 b3 b4 : Stmt} {oe : List Stmt} {wp : Pos} {s11 : Stmt} (hst : (bodyOf 14).drop 1 = [s1, s2, s3, s4, s5, s6, s7, s8, s9, .For tg it [b1, b2, b3, b4] oe wp, s11])
    {k : ScopeKind} {ns : List (Str × NameKind)} {ig ic : Bool} {mo : List (Str × Const)} (hsc : scopeOf 14 = ⟨k, ns, ig, ic, mo⟩)
    (B : Below callerA h₀ [] h₀) (F : Fr h₀ L s.heap m) (X : (Mine.hd.heap_39 w.params).In h₀) (T : Top Mine.hd.view_39 (looseW Mine.hd.view_39 []) mean mg mb h₀)
    (N : News h₀ L s.heap [(D, listOf #[.int z0 t0, .int z1 t1, .int z2 t2, .int z3 t3, .int z4 t4, .int z5 t5, .int z6 t6, .int z7 t7, .int z8 t8, .int z9 t9] 0), (L + 1 + 1 + 1, o3), (L + 1 + 1, o2), (L + 1, o1)])
    (c1 : o1.data = .cell none) (c2 : o2.data = .cell none) (c3 : o3.data = .cell none) (lD : L + 1 + 1 + 1 < D ∧ L + 1 + 1 < D ∧ L + 1 < D)
    (mnu : m (Str.ofString "numbers") = some (.ref D)) (msc : m (Str.ofString "script") = some (.ref sA)) (hLs : h₀.IsList sA svs.toArray) (hIs : IntsAre svs sns) (hl : sns.length ≤ 63)
    (p0 : 0 ≤ z0 ∧ z0 < 1000000) (p1 : 0 ≤ z1 ∧ z1 < 1000000) (p2 : 0 ≤ z2 ∧ z2 < 1000000) (p3 : 0 ≤ z3 ∧ z3 < 1000000) (p4 : 0 ≤ z4 ∧ z4 < 1000000) (p5 : 0 ≤ z5 ∧ z5 < 1000000) (p6 : 0 ≤ z6 ∧ z6 < 1000000) (p7 : 0 ≤ z7 ∧ z7 < 1000000) (p8 : 0 ≤ z8 ∧ z8 < 1000000) (p9 : 0 ≤ z9 ∧ z9 < 1000000)
    (hQ : ∀ h tk m', Fr h₀ L h m' → Q (.ret (.bool true)) { s with heap := h, toks := tk }) :
    wpAny (model prog w) (callerA.deeper (envOfC (Str.ofString "law") ⟨k, ns, ig, ic, mo⟩ L fa cd)) (execs [s1, s2, s3, s4, s5, s6, s7, s8, s9, .For tg it [b1, b2, b3, b4] oe wp, s11] (envOfC (Str.ofString "law") ⟨k, ns, ig, ic, mo⟩ L fa cd)) Q none1 s := by
  have hfill : PySem.Challenge.rw_tx0016_01 = PySem.Challenge.rw_tx0016_01 ∧ Mine.hd.heap_39 = Mine.hd.heap_39 := by
    k_fill
    exact ⟨rfl, rfl⟩
  clear hfill
  have h7 : (bodyOf 14).drop 7 = [s7, s8, s9, .For tg it [b1, b2, b3, b4] oe wp, s11] := (List.drop_drop (i := 6) (j := 1)).symm.trans (congrArg (List.drop 6) hst)
  have hsc2 := hsc
  cases hst
  cases hsc
  replace F := fr_back (x := Str.ofString "script") F (by with_unfolding_all exact msc)
  replace F := fr_back (x := Str.ofString "numbers") F (by with_unfolding_all exact mnu)
  repeat' ((fail_if_success (with_reducible show wpAny _ _ (exec (Stmt.While _ _ _ _) _) _ _ _)); (fail_if_success (with_reducible show wpAny _ _ (exec (Stmt.For _ _ _ _ _) _) _ _ _)); (fail_if_success (with_reducible show wpAny _ _ (execs [Stmt.Assign _ _ _, Stmt.Assign _ _ _, Stmt.Assign _ _ _, Stmt.For _ _ _ _ _, _] _) _ _ _)); first | (k_here; (with_reducible show wpAny _ _ (binaryOp Operator.Mod (Value.int _ _) (Value.int (_ - 1) _)) _ _ _); k_dflt (refine' mod_int' ?nz ?_; (case nz => exact span_nz _))) | (k_unfold; (try dsimp only)) | (k_end; wrow_close) | walk1 | (dsimp only; walk1) | (leave1; walk_say "STEP leave1"; try dsimp only) | fail "no step")
  · rename Fr _ _ _ _ => F9
    rename News _ _ _ _ => N9
    refine' law_rest (n := 4) (xs := [z0, z1, z2, z3]) (ys := [z4, z5, z6, z7]) (vx := [.int z0 t0, .int z1 t1, .int z2 t2, .int z3 t3]) (vy := [.int z4 t4, .int z5 t5, .int z6 t6, .int z7 t7]) h7 hsc2 B F9 X N9 T (.inr rfl) (.tail _ (.tail _ (.head _))) (.tail _ (.head _)) (.cons z0 t0 (.cons z1 t1 (.cons z2 t2 (.cons z3 t3 .nil)))) (.cons z4 t4 (.cons z5 t5 (.cons z6 t6 (.cons z7 t7 .nil)))) rfl rfl ?bx ?bye ?bs ?bt (.tail _ (.tail _ (.tail _ (.tail _ (.tail _ (.tail _ (.head _))))))) (.tail _ (.tail _ (.tail _ (.tail _ (.tail _ (.head _)))))) (.tail _ (.tail _ (.tail _ (.tail _ (.head _))))) ?dX ?dY ?dS (by with_unfolding_all rfl) (.head _) ?hQ
    case bx =>
      intro i
      match i with
      | 0 => exact p0
      | 1 => exact p1
      | 2 => exact p2
      | 3 => exact p3
      | _ + 4 => exact ⟨Int.le_refl _, (by decide : (0 : Int) < 1000000)⟩
    case bye =>
      intro i
      match i with
      | 0 => exact p4
      | 1 => exact p5
      | 2 => exact p6
      | 3 => exact p7
      | _ + 4 => exact ⟨Int.le_refl _, (by decide : (0 : Int) < 1000000)⟩
    case dX => assumption
    case dY => assumption
    case dS => assumption
    case bs => exact span_bd _
    case bt => exact stop_bd _ _
    case hQ => exact fun h tk m' F' => hQ h tk m' F'
  · rename Fr _ _ _ _ => F9
    rename News _ _ _ _ => N9
    refine' law_rest (n := 3) (xs := [z0, z1, z2]) (ys := [z3, z4, z5]) (vx := [.int z0 t0, .int z1 t1, .int z2 t2]) (vy := [.int z3 t3, .int z4 t4, .int z5 t5]) h7 hsc2 B F9 X N9 T (.inl rfl) (.tail _ (.tail _ (.head _))) (.tail _ (.head _)) (.cons z0 t0 (.cons z1 t1 (.cons z2 t2 .nil))) (.cons z3 t3 (.cons z4 t4 (.cons z5 t5 .nil))) rfl rfl ?bx ?bye ?bs ?bt (.tail _ (.tail _ (.tail _ (.tail _ (.tail _ (.tail _ (.head _))))))) (.tail _ (.tail _ (.tail _ (.tail _ (.tail _ (.head _)))))) (.tail _ (.tail _ (.tail _ (.tail _ (.head _))))) ?dX ?dY ?dS (by with_unfolding_all rfl) (.head _) ?hQ
    case bx =>
      intro i
      match i with
      | 0 => exact p0
      | 1 => exact p1
      | 2 => exact p2
      | _ + 3 => exact ⟨Int.le_refl _, (by decide : (0 : Int) < 1000000)⟩
    case bye =>
      intro i
      match i with
      | 0 => exact p3
      | 1 => exact p4
      | 2 => exact p5
      | _ + 3 => exact ⟨Int.le_refl _, (by decide : (0 : Int) < 1000000)⟩
    case dX => assumption
    case dY => assumption
    case dS => assumption
    case bs => exact span_bd _
    case bt => exact stop_bd _ _
    case hQ => exact fun h tk m' F' => hQ h tk m' F'
end Mine
end
section
namespace Mine
theorem sec_L9 : True := by
  w_top off
  trivial
end Mine
open PySem PySem.W PySem.Calls PyProof.Rows PySem.Spec PyProof.Rows.LCg
namespace Mine
theorem nums_ok (sc : List Int) {q : Int} (hq : q = 1000000) (k : Nat) (hk : k = min 10 sc.length) (zs : List Int) (hz : zs = List.map (fun k' => Int.fmod k' q) (List.take 10 sc) ++ List.drop k [4, 1, 1, 0, 2, 1, 2, 2, 2, 2]) :
    zs.length = 10 ∧ ∀ i : Nat, 0 ≤ zs.getD i 0 ∧ zs.getD i 0 < 1000000 := by
  subst hq
  have all : ∀ z ∈ zs, 0 ≤ z ∧ z < 1000000 := by
    intro z h
    rw [hz] at h
    rcases List.mem_append.mp h with h | h
    · obtain ⟨a, _, rfl⟩ := List.mem_map.mp h
      exact ⟨Int.fmod_nonneg_of_pos a (by decide), Int.fmod_lt_of_pos a (by decide)⟩
    · have h := List.mem_of_mem_drop h
      have : ∀ z ∈ ([4, 1, 1, 0, 2, 1, 2, 2, 2, 2] : List Int), 0 ≤ z ∧ z < 1000000 := by decide
      exact this z h
  refine ⟨?_, fun i => ?_⟩
  · rw [hz, List.length_append, List.length_map, List.length_take, List.length_drop, hk]
    show min 10 sc.length + (10 - min 10 sc.length) = 10
    omega
  · by_cases h : i < zs.length
    · rw [List.getD_eq_getElem?_getD, List.getElem?_eq_getElem h]
      exact all _ (List.getElem_mem h)
    · rw [List.getD_eq_getElem?_getD, List.getElem?_eq_none (by omega)]
      exact ⟨Int.le_refl _, (by decide : (0 : Int) < 1000000)⟩
theorem ints_toks {ws : List Value} {zs : List Int} (hI : IntsAre ws zs) : ∃ t : Nat → Tok, ws = (List.range zs.length).map fun i => .int (zs.getD i 0) (t i) := by
  induction hI with
  | nil => exact ⟨fun _ => default, rfl⟩
  | cons z t0 hI ih =>
    obtain ⟨t, ht⟩ := ih
    refine ⟨fun i => match i with | 0 => t0 | i + 1 => t i, ?_⟩
    rw [List.length_cons, List.range_succ_eq_map, List.map_cons, List.map_map, ht]
    rfl
theorem ten_ints {ws : List Value} {zs : List Int} (hI : IntsAre ws zs) (hz : zs.length = 10) :
    ∃ t : Nat → Tok, ws = [.int (zs.getD 0 0) (t 0), .int (zs.getD 1 0) (t 1), .int (zs.getD 2 0) (t 2), .int (zs.getD 3 0) (t 3), .int (zs.getD 4 0) (t 4), .int (zs.getD 5 0) (t 5), .int (zs.getD 6 0) (t 6), .int (zs.getD 7 0) (t 7), .int (zs.getD 8 0) (t 8), .int (zs.getD 9 0) (t 9)] := by
  obtain ⟨t, h⟩ := ints_toks hI
  rw [hz] at h
  exact ⟨t, h⟩
theorem len_take10 (sc : List Int) (g : Int → Int) : ((List.map g (List.take 10 sc)).length : Int).toNat = min 10 sc.length := by
  rw [List.length_map, List.length_take]; rfl
theorem law_all {prog : Program} {w : World} {mean mg mb} {L : Nat} {h₀ m s} {fa : Addr} {cd : Value} {Q : Flow → Shared → Prop} {E : Value → Shared → Prop} {D sA : Addr} {x1 x2 x3 x4 : Addr × Obj} {o1 o2 o3 : Obj} {ws svs : List Value} {sc : List Int} {q : Int} {k8 : Nat}
    {s1 s2 s3 s4 s5 s6 s7 s8 s9 : Stmt} {tg it : Expr} {b1 b2 b3 b4 : Stmt} {oe : List Stmt} {wp : Pos} {s11 : Stmt} (hst : (bodyOf 14).drop 1 = [s1, s2, s3, s4, s5, s6, s7, s8, s9, .For tg it [b1, b2, b3, b4] oe wp, s11])
    {k : ScopeKind} {ns : List (Str × NameKind)} {ig ic : Bool} {mo : List (Str × Const)} (hsc : scopeOf 14 = ⟨k, ns, ig, ic, mo⟩)
    (B : Below callerA h₀ [] h₀) (F : Fr h₀ L s.heap m) (X : (Mine.hd.heap_39 w.params).In h₀)
    (N : News h₀ L s.heap [(D, listOf (List.toArray ws) 0), x1, x2, x3, x4, (L + 1 + 1 + 1, o3), (L + 1 + 1, o2), (L + 1, o1)])
    (hI : IntsAre ws (List.map (fun k' => Int.fmod k' q) (List.take 10 sc) ++ List.drop k8 [4, 1, 1, 0, 2, 1, 2, 2, 2, 2]))
    (l9 : x1.1 < D ∧ x2.1 < D ∧ x3.1 < D ∧ x4.1 < D ∧ L + 1 + 1 + 1 < D ∧ L + 1 + 1 < D ∧ L + 1 < D) (hLs : h₀.IsList sA svs.toArray)
    (hq : q = 1000000) (hk : k8 = min 10 sc.length) (T : Top Mine.hd.view_39 (looseW Mine.hd.view_39 []) mean mg mb h₀)
    (c1 : o1.data = .cell none) (c2 : o2.data = .cell none) (c3 : o3.data = .cell none)
    (mnu : m (Str.ofString "numbers") = some (.ref D)) (msc : m (Str.ofString "script") = some (.ref sA)) (hIs : IntsAre svs sc) (hl : sc.length ≤ 63)
    (hQ : ∀ h tk m', Fr h₀ L h m' → Q (.ret (.bool true)) { s with heap := h, toks := tk }) :
    wpAny (model prog w) (callerA.deeper (envOfC (Str.ofString "law") ⟨k, ns, ig, ic, mo⟩ L fa cd)) (execs [s1, s2, s3, s4, s5, s6, s7, s8, s9, .For tg it [b1, b2, b3, b4] oe wp, s11] (envOfC (Str.ofString "law") ⟨k, ns, ig, ic, mo⟩ L fa cd)) Q E s := by
  have nb := nums_ok sc hq k8 hk _ rfl
  obtain ⟨t, rfl⟩ := ten_ints hI nb.1
  have pb := nb.2
  refine wpAny_mono (law_tail (t0 := t 0) (t1 := t 1) (t2 := t 2) (t3 := t 3) (t4 := t 4) (t5 := t 5) (t6 := t 6) (t7 := t 7) (t8 := t 8) (t9 := t 9) hst hsc B F X T (News.perm N fun p hp => ?mem) c1 c2 c3 l9.2.2.2.2 mnu msc hLs hIs hl (pb 0) (pb 1) (pb 2) (pb 3) (pb 4) (pb 5) (pb 6) (pb 7) (pb 8) (pb 9) hQ) (fun _ _ x => x) (fun _ _ e => e.elim)
  rcases List.mem_cons.mp hp with rfl | hp
  · exact .head _
  · exact .tail _ (.tail _ (.tail _ (.tail _ (.tail _ hp))))
end Mine
end
namespace Mine
theorem sec_L1 : True := by
  w_top off
  trivial
end Mine
open PySem PySem.W PySem.Calls PyProof.Rows PySem.Spec
set_option maxRecDepth 100000 in
set_option maxHeartbeats 8000000 in
theorem PySem.Challenge.cw_tx0016_01_holds : PySem.Challenge.rw_tx0016_01.Holds :=
  Mine.hd (by
  k_go0
  (all_goals try k_fold)
  repeat' ((fail_if_success (with_reducible show wpAny _ _ (exec (Stmt.While _ _ _ _) _) _ _ _)); (fail_if_success (with_reducible show wpAny _ _ (exec (Stmt.For _ _ _ _ _) _) _ _ _)); (fail_if_success (with_reducible show wpAny _ _ (execs [_, _, _, _, _, _, _, _, _, Stmt.For _ _ _ _ _, _] _) _ _ _)); first | (k_unfold; (try dsimp only)) | (k_end; wrow_close) | walk1 | (dsimp only; walk1) | (leave1; walk_say "STEP leave1"; try dsimp only) | fail "no step")
  rename Fr _ _ _ _ => F9
  rename News _ _ _ _ => N9
  rename IntsAre _ (_ ++ _) => I9
  rename Below callerA _ [] _ => B9
  rename (Mine.hd.heap_39 _).In _ => X9
  rename _ < _ ∧ _ ∧ _ ∧ _ ∧ _ ∧ _ ∧ _ => l9
  rename Heap.IsList (Shared.heap _) _ _ => hL9
  refine Mine.law_all rfl rfl B9 F9 X9 N9 I9 l9 hL9 (by decide) (Mine.len_take10 _ _) (by assumption) (by with_unfolding_all assumption) (by with_unfolding_all assumption) (by with_unfolding_all assumption) (by with_unfolding_all rfl) (by with_unfolding_all rfl) (by assumption) (by omega) ?_
  intro h9 tk9 m9 F9
  (first | (k_end; wrow_close) | (repeat' (first | (k_unfold; (try dsimp only)) | (k_end; wrow_close) | walk1 | (dsimp only; walk1) | (leave1; try dsimp only)))))
