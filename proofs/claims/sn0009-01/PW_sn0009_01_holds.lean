import PyProof.Rows.All
import Wide.All
import OpenK.AllK
import Wide.FinOn
import Flt.RightMore
import Lean
import PySem.Challenge.RW_sn0009_01
set_option Elab.async false
set_option compiler.extract_closed false
section
open PySem PySem.W PyProof.Rows
set_option maxRecDepth 100000
set_option maxHeartbeats 8000000
namespace Mine
set_option synthInstance.maxSize 1 in
open_top hd for PySem.Challenge.rw_sn0009_01
end Mine
namespace Mine
theorem fill_all : (PySem.Challenge.rw_sn0009_01 = PySem.Challenge.rw_sn0009_01 ∧ Mine.hd.heap_39 = Mine.hd.heap_39) := by
  k_fill
  exact ⟨rfl, rfl⟩
end Mine
end
section
open PySem PySem.W PyProof.Rows
open PySem.Spec PySem.Calls
set_option maxRecDepth 100000
set_option maxHeartbeats 8000000
namespace Mine
/-- a call of `f` with `vs`, wherever it stands: what it hands back and what the ledger is behind it -/
def Con (D U : Nat) (prog : Program) (w : World) (p : Program) (loose : List Str) (mean : ExcName → Option Value) (mg mb : Str → Option Value) (f : Addr) (vs : List Value) (news : List (Addr × Obj)) (post : Value → List (Addr × Obj) → Prop) : Prop :=
  ∀ (dp un : Nat) (gd : Option (List Code)) (cn : Str) (cs : Scope) (a : Addr) (ccd : Value) (cl : List (Str × Addr)) (outer : List Env) (A₀ : Around) (base h₀ : Heap) (L : Addr) (m : Str → Option Value) (s : Shared) (Q E : Value → Shared → Prop),
    Below A₀ base outer h₀ → Fr h₀ L s.heap m → (hd.heap_39 w.params).In h₀ → News h₀ L s.heap news → Top p loose mean mg mb h₀ → cs.kind = .function → dp + D < recursionLimit → un + U < cLine →
    (∀ r news' h' tk', Fr h₀ L h' m → News h₀ L h' news' → post r news' → Q r { s with heap := h', toks := tk' }) →
    wpAny (model prog w) (ktrTop dp un gd cn cs L a ccd cl outer) (call (.ref f) vs) Q E s
abbrev tupO (vs : List Value) : Obj := { cls := .type "tuple", data := .seq vs.toArray }
theorem Con.use {D U : Nat} {prog : Program} {w : World} {p : Program} {loose : List Str} {mean : ExcName → Option Value} {mg mb : Str → Option Value} {f : Addr} {vs : List Value} {news : List (Addr × Obj)} {post : Value → List (Addr × Obj) → Prop}
    {dp un : Nat} {gd : Option (List Code)} {cn : Str} {cs : Scope} {a : Addr} {ccd : Value} {cl : List (Str × Addr)} {outer : List Env} {A₀ : Around} {base h₀ : Heap} {L : Addr} {m : Str → Option Value} {s : Shared} {Q E : Value → Shared → Prop}
    (B : Below A₀ base outer h₀) (F : Fr h₀ L s.heap m) (X : (hd.heap_39 w.params).In h₀) (N : News h₀ L s.heap news) (T : Top p loose mean mg mb h₀) (C : Con D U prog w p loose mean mg mb f vs news post) (hk : cs.kind = .function) (hd : dp + D < recursionLimit) (hu : un + U < cLine)
    (h : ∀ r news' h' tk', Fr h₀ L h' m → News h₀ L h' news' → post r news' → Q r { s with heap := h', toks := tk' }) :
    wpAny (model prog w) (ktrTop dp un gd cn cs L a ccd cl outer) (call (.ref f) vs) Q E s :=
  C _ _ _ _ _ _ _ _ _ _ _ _ _ _ _ _ _ B F X N T hk hd hu h

/-- the parts of a light lie in 0 .. 63 -/
def Rg (r g b : Int) : Prop := (0 ≤ r ∧ r < 64) ∧ (0 ≤ g ∧ g < 64) ∧ (0 ≤ b ∧ b < 64)
theorem room_of {a R x : Nat} (h : a < R) (hx : x ≤ a) : x < R := Nat.lt_of_le_of_lt hx h

/-! what rgb_to_yiq reckons -/
def yF (r g b : Int) : UInt64 := Float64.add (Float64.add (Float64.mul 4599075939470750515 (Float64.ofInt r)) (Float64.mul 4603489467105573601 (Float64.ofInt g))) (Float64.mul 4592590756007337001 (Float64.ofInt b))
def ryF (r g b : Int) : UInt64 := Float64.sub (Float64.ofInt r) (yF r g b)
def byF (r g b : Int) : UInt64 := Float64.sub (Float64.ofInt b) (yF r g b)
def iF (r g b : Int) : UInt64 := Float64.sub (Float64.mul 4604840546993784750 (ryF r g b)) (Float64.mul 4598535507515466056 (byF r g b))
def qF (r g b : Int) : UInt64 := Float64.add (Float64.mul 4602318531202457272 (ryF r g b)) (Float64.mul 4601057523306793533 (byF r g b))
theorem ne_of_all {news : List (Addr × Obj)} {L d : Addr} (h : ∀ p ∈ news, p.1 < L) (hd : @LE.le Nat _ L d) : ∀ p ∈ news, p.1 ≠ d := fun p hp => Nat.ne_of_lt (Nat.lt_of_lt_of_le (h p hp) hd)
theorem ne_of_allLt {news : List (Addr × Obj)} {d : Addr} (h : AllLt d news) : ∀ p ∈ news, p.1 ≠ d := fun p hp => Nat.ne_of_lt (ktn_ltOf h p hp)
theorem ne_mem_all {news : List (Addr × Obj)} {L d e : Addr} {o : Obj} (h : ∀ p ∈ news, p.1 < L) (hm : (d, o) ∈ news) (hd : @LE.le Nat _ L e) : @Ne Nat e d := Nat.ne_of_gt (Nat.lt_of_lt_of_le (h _ hm) hd)
section
variable {prog : Program} {w : World} {A : Around} {E : Value → Shared → Prop} {s : Shared} {value slice : PySem.Expr} {h₀ : Heap} {L l : Addr} {news : List (Addr × Obj)} {vs : List Value} {k : Int} {u : Tok} {x : Value} {Q : Value → Shared → Prop} {n : Nat}
theorem it_pos (N : News h₀ L s.heap news) (hm : (l, ({ cls := .type "list", data := .seq vs.toArray n } : Obj)) ∈ news) (h0 : 0 ≤ k) (hhi : k < 2 ^ 63) (hx : vs[k.toNat]? = some x) (h : Q x s)
    (hs : subscripted slice false (.ref l) (.int k u) = operate [.ref l, .int k u] (getItem (.ref l) (.int k u)) := by with_unfolding_all rfl) :
    wpAny (model prog w) A (subscriptTail value slice (.ref l) (.int k u)) Q E s :=
  have hl : s.heap.IsList l vs.toArray := ⟨_, (N _ hm).1, rfl, _, rfl⟩
  tail_any hl.typeIs slot_list_getitem.lookup (wpAny_getItem_list hl h0 hhi (by simpa using hx) h) hs
theorem it_tup {j : Nat} (N : News h₀ L s.heap news) (hm : (l, ({ cls := .type "tuple", data := .seq vs.toArray n } : Obj)) ∈ news) (hlo : -(2 ^ 63) ≤ k) (hhi : k < 2 ^ 63) (hj : seqIndex? k vs.length = some j) (hx : vs[j]? = some x) (h : Q x s)
    (hs : subscripted slice false (.ref l) (.int k u) = operate [.ref l, .int k u] (getItem (.ref l) (.int k u)) := by with_unfolding_all rfl) :
    wpAny (model prog w) A (subscriptTail value slice (.ref l) (.int k u)) Q E s :=
  item_tupleT (⟨_, (N _ hm).1, rfl, n, rfl⟩ : IsTup s.heap l vs.toArray) hlo hhi hj hx h hs
theorem it_neg (N : News h₀ L s.heap news) (hm : (l, ({ cls := .type "list", data := .seq vs.toArray n } : Obj)) ∈ news) (h0 : k < 0) (h1 : -(vs.length : Int) ≤ k) (hlo : -(2 ^ 63) ≤ k) (hx : vs[(k + vs.length).toNat]? = some x) (h : Q x s)
    (hs : subscripted slice false (.ref l) (.int k u) = operate [.ref l, .int k u] (getItem (.ref l) (.int k u)) := by with_unfolding_all rfl) :
    wpAny (model prog w) A (subscriptTail value slice (.ref l) (.int k u)) Q E s :=
  have hl : s.heap.IsList l vs.toArray := ⟨_, (N _ hm).1, rfl, _, rfl⟩
  tail_any hl.typeIs slot_list_getitem.lookup (wpAny_getItem_list_neg hl h0 (by simpa using h1) hlo (by simpa using hx) h) hs
end
end Mine
end
section
open PySem PySem.W PyProof.Rows
open PySem.Spec PySem.Calls
set_option maxRecDepth 100000
set_option maxHeartbeats 8000000
namespace Mine
def StopP (P : Prop) : Prop := P
theorem stopper {P : Prop} (h : StopP P) : P := h
theorem rest_inv {prog : Program} {w : World} {A : Around} {h₀ : Heap} {L : Addr} {m : Str → Option Value} {env : Env} {elt : PySem.Expr} {x : Str} {scope : Scope} {cl : List (Str × Addr)} {s : Shared} {S : List (Addr × Obj) → Prop} {P : Nat → Value → Prop} {Fin : List Value → List (Addr × Obj) → Prop} {news : List (Addr × Obj)} {n : Nat}
    (J : Nat → List Value → List (Addr × Obj) → Prop) (h0 : J 0 [] news)
    (turn : ∀ i, i < n → ∀ ys nw, J i ys nw → ∀ v I oI C oC D m₂ h tk (E' : Value → Shared → Prop), P i v → LCg.NsObj oC m₂ → m₂ x = some v → Fr h₀ L h m → News h₀ L h ((I, oI) :: (C, oC) :: (D, LCg.lst ys) :: nw) → LCg.Off3 I C D nw →
      wpAny (model prog w) A (eval elt (compEnvC scope cl C env)) (LCg.CompEnd h₀ L m { s with heap := h, toks := tk } I oI C oC D (LCg.lst ys) S (fun y news' => J (i + 1) (ys ++ [y]) news')) E' { s with heap := h, toks := tk })
    (fin : ∀ ys nw, J n ys nw → Fin ys nw) : LCg.CompRest prog w A h₀ L m env elt x scope cl s S P Fin n 0 [] news := by
  have key : ∀ (j i : Nat) (ys : List Value) (nw : List (Addr × Obj)), i + j = n → J i ys nw → LCg.CompRest prog w A h₀ L m env elt x scope cl s S P Fin j i ys nw := by
    intro j
    induction j with
    | zero =>
      intro i ys nw hi hy
      have e : i = n := by omega
      subst e
      exact LCg.CompRest.zero (fin ys nw hy)
    | succ j ih =>
      intro i ys nw hi hy
      refine LCg.CompRest.succ ?_
      intro v I oI C oC D m₂ h tk E' hv hC hx F N off _
      refine wpAny_mono (turn i (by omega) ys nw hy v I oI C oC D m₂ h tk E' hv hC hx F N off) (fun y s₂ hq => ?_) fun _ _ e => e
      obtain ⟨h', tk', nw', e, F', N', off', hS, hJ⟩ := hq
      exact ⟨h', tk', nw', e, F', N', off', hS, ih (i + 1) _ _ (by omega) hJ⟩
  exact key n 0 [] news (by omega) h0
theorem range_inv {prog : Program} {w : World} {A : Around} {E : Value → Shared → Prop} {h₀ : Heap} {env : Env} {x : Str} {body : List Stmt} {Q : Flow → Shared → Prop} {s : Shared} {I : Addr} {a : Int} {n : Nat} {m : Str → Option Value} {news : List (Addr × Obj)}
    (J : Nat → (Str → Option Value) → List (Addr × Obj) → Prop) (h0 : J 0 m news)
    (turn : ∀ i, i < n → ∀ m' nw, J i m' nw → ∀ t h tk, Fr h₀ env.locals h (fun y => if y = x then some (.int (a + (i : Int)) t) else m' y) →
      News h₀ env.locals h ((I, itR (a + ((i + 1 : Nat) : Int)) ((n : Int) - ((i + 1 : Nat) : Int))) :: nw) →
      wpAny (model prog w) A (execs body env) (UnrPost h₀ env.locals { s with heap := h, toks := tk } I (itR (a + ((i + 1 : Nat) : Int)) ((n : Int) - ((i + 1 : Nat) : Int))) (fun m'' nw' => J (i + 1) m'' nw') Q) E { s with heap := h, toks := tk })
    (fin : ∀ m' nw, J n m' nw → ∀ h tk, Fr h₀ env.locals h m' → News h₀ env.locals h nw → Q .next { s with heap := h, toks := tk }) : RangeRest prog w A E h₀ env x body Q s I a n n 0 m news := by
  have key : ∀ (j i : Nat) (m' : Str → Option Value) (nw : List (Addr × Obj)), i + j = n → J i m' nw → RangeRest prog w A E h₀ env x body Q s I a n j i m' nw := by
    intro j
    induction j with
    | zero =>
      intro i m' nw hi hy
      have e : i = n := by omega
      subst e
      exact RangeRest.zero (fin m' nw hy)
    | succ j ih =>
      intro i m' nw hi hy
      refine RangeRest.succ ?_
      intro t h tk F N
      refine wpAny_mono (turn i (by omega) m' nw hy t h tk F N) (fun f s₂ hq => ?_) fun _ _ e => e
      have conv : UnrEnd h₀ env.locals { s with heap := h, toks := tk } I (itR (a + ((i + 1 : Nat) : Int)) ((n : Int) - ((i + 1 : Nat) : Int))) (fun m'' nw' => J (i + 1) m'' nw') s₂ →
          UnrEnd h₀ env.locals { s with heap := h, toks := tk } I (itR (a + ((i + 1 : Nat) : Int)) ((n : Int) - ((i + 1 : Nat) : Int))) (RangeRest prog w A E h₀ env x body Q s I a n j (i + 1)) s₂ := by
        rintro ⟨h', tk', m₂, nw₂, e, F₂, N₂, off, hJ⟩
        exact ⟨h', tk', m₂, nw₂, e, F₂, N₂, off, ih (i + 1) _ _ (by omega) hJ⟩
      cases f with
      | ret v => exact hq
      | brk => exact hq
      | next => exact conv hq
      | cont => exact conv hq
  exact key n 0 m news (by omega) h0
theorem list_inv {prog : Program} {w : World} {A : Around} {E : Value → Shared → Prop} {h₀ : Heap} {env : Env} {x : Str} {body : List Stmt} {Q : Flow → Shared → Prop} {s : Shared} {I : Addr} {lp : Addr × Obj} {vs : List Value} {m : Str → Option Value} {news : List (Addr × Obj)}
    (J : Nat → (Str → Option Value) → List (Addr × Obj) → Prop) (h0 : J 0 m news)
    (turn : ∀ i v, vs[i]? = some v → ∀ m' nw, J i m' nw → ∀ (it : Obj) h tk, it.cls = .type "list_iterator" → Fr h₀ env.locals h (fun y => if y = x then some v else m' y) →
      News h₀ env.locals h ((I, it) :: nw) →
      wpAny (model prog w) A (execs body env) (UnrPost h₀ env.locals { s with heap := h, toks := tk } I it (fun m'' nw' => lp ∈ nw' ∧ J (i + 1) m'' nw') Q) E { s with heap := h, toks := tk })
    (fin : ∀ m' nw, J vs.length m' nw → ∀ h tk, Fr h₀ env.locals h m' → News h₀ env.locals h nw → Q .next { s with heap := h, toks := tk }) : ListRest prog w A E h₀ env x body Q s I lp vs m news := by
  have key : ∀ (r : List Value) (i : Nat) (m' : Str → Option Value) (nw : List (Addr × Obj)), vs.drop i = r → i ≤ vs.length → J i m' nw → ListRest prog w A E h₀ env x body Q s I lp r m' nw := by
    intro r
    induction r with
    | nil =>
      intro i m' nw hi hle hy
      have e : i = vs.length := by
        have := List.drop_eq_nil_iff.mp hi
        lia
      subst e
      exact ListRest.zero (fin m' nw hy)
    | cons v r ih =>
      intro i m' nw hi hle hy
      have hv : vs[i]? = some v := by
        have : (vs.drop i)[0]? = some v := by rw [hi]; rfl
        simpa using this
      have hr : vs.drop (i + 1) = r := by
        have : (vs.drop i).drop 1 = r := by rw [hi]; rfl
        simpa [Nat.add_comm] using this
      have hlt : i < vs.length := by
        rcases Nat.lt_or_ge i vs.length with h | h
        · exact h
        · rw [List.getElem?_eq_none h] at hv; cases hv
      refine ListRest.succ ?_
      intro it h tk hc F N
      refine wpAny_mono (turn i v hv m' nw hy it h tk hc F N) (fun f s₂ hq => ?_) fun _ _ e => e
      have conv : UnrEnd h₀ env.locals { s with heap := h, toks := tk } I it (fun m'' nw' => lp ∈ nw' ∧ J (i + 1) m'' nw') s₂ →
          UnrEnd h₀ env.locals { s with heap := h, toks := tk } I it (fun m'' nw' => lp ∈ nw' ∧ ListRest prog w A E h₀ env x body Q s I lp r m'' nw') s₂ := by
        rintro ⟨h', tk', m₂, nw₂, e, F₂, N₂, off, hlp, hJ⟩
        exact ⟨h', tk', m₂, nw₂, e, F₂, N₂, off, hlp, ih (i + 1) _ _ hr hlt hJ⟩
      cases f with
      | ret v => exact hq
      | brk => exact hq
      | next => exact conv hq
      | cont => exact conv hq
  exact key vs 0 m news rfl (Nat.zero_le _) h0
/-- floats in a list -/
inductive Fls : List UInt64 → List Value → Prop where
  | nil : Fls [] []
  | cons {a : UInt64} {t : Tok} {l : List UInt64} {vs : List Value} : Fls l vs → Fls (a :: l) (.float a t :: vs)
theorem Fls.snoc {a : UInt64} {t : Tok} : ∀ {l : List UInt64} {vs : List Value}, Fls l vs → Fls (l ++ [a]) (vs ++ [.float a t])
  | _, _, .nil => .cons .nil
  | _, _, .cons h => .cons h.snoc
theorem Fls.len : ∀ {l : List UInt64} {vs : List Value}, Fls l vs → vs.length = l.length
  | _, _, .nil => rfl
  | _, _, .cons h => by simp [h.len]
theorem Fls.at : ∀ {l : List UInt64} {vs : List Value} {i : Nat}, Fls l vs → i < l.length → ∃ t, vs[i]? = some (.float (l.getD i 0) t)
  | _, _, 0, .cons (t := t) _, _ => ⟨t, rfl⟩
  | _, _, i + 1, .cons h, hi => by
    obtain ⟨t, e⟩ := h.at (i := i) (by simpa using hi)
    exact ⟨t, by simpa using e⟩
/-- ints in a list -/
inductive Ils : List Int → List Value → Prop where
  | nil : Ils [] []
  | cons {a : Int} {t : Tok} {l : List Int} {vs : List Value} : Ils l vs → Ils (a :: l) (.int a t :: vs)
theorem Ils.snoc {a : Int} {t : Tok} : ∀ {l : List Int} {vs : List Value}, Ils l vs → Ils (l ++ [a]) (vs ++ [.int a t])
  | _, _, .nil => .cons .nil
  | _, _, .cons h => .cons h.snoc
theorem Ils.len : ∀ {l : List Int} {vs : List Value}, Ils l vs → vs.length = l.length
  | _, _, .nil => rfl
  | _, _, .cons h => by simp [h.len]
theorem Ils.at : ∀ {l : List Int} {vs : List Value} {i : Nat}, Ils l vs → i < l.length → ∃ t, vs[i]? = some (.int (l.getD i 0) t)
  | _, _, 0, .cons (t := t) _, _ => ⟨t, rfl⟩
  | _, _, i + 1, .cons h, hi => by
    obtain ⟨t, e⟩ := h.at (i := i) (by simpa using hi)
    exact ⟨t, by simpa using e⟩
theorem Ils.ints : ∀ {l : List Int} {vs : List Value}, Ils l vs → IntsAre vs l
  | _, _, .nil => .nil
  | _, _, .cons (a := a) (t := t) h => .cons a t h.ints
/-- a light at an address of the ledger -/
abbrev Light := Int × Int × Int
def LAt (news : List (Addr × Obj)) (a : Addr) (v : Light) : Prop := ∃ t1 t2 t3, (a, tupO [.int v.1 t1, .int v.2.1 t2, .int v.2.2 t3]) ∈ news
def LRg (v : Light) : Prop := Rg v.1 v.2.1 v.2.2
/-- a list of lights: their addresses, in order -/
inductive Lights (news : List (Addr × Obj)) : List Light → List Addr → Prop where
  | nil : Lights news [] []
  | cons {v : Light} {a : Addr} {vs : List Light} {as : List Addr} : LAt news a v → LRg v → Lights news vs as → Lights news (v :: vs) (a :: as)
theorem Lights.len {news : List (Addr × Obj)} : ∀ {vs : List Light} {as : List Addr}, Lights news vs as → as.length = vs.length
  | _, _, .nil => rfl
  | _, _, .cons _ _ h => by simp [h.len]
theorem Lights.at {news : List (Addr × Obj)} : ∀ {vs : List Light} {as : List Addr} {i : Nat}, Lights news vs as → i < vs.length → ∃ v a, vs[i]? = some v ∧ as[i]? = some a ∧ LAt news a v ∧ LRg v
  | _, _, 0, .cons h1 h2 _, _ => ⟨_, _, rfl, rfl, h1, h2⟩
  | _, _, i + 1, .cons _ _ h, hi => by
    obtain ⟨v, a, e1, e2, r⟩ := h.at (i := i) (by simpa using hi)
    exact ⟨v, a, by simpa using e1, by simpa using e2, r⟩
theorem Lights.snoc {news : List (Addr × Obj)} {v : Light} {a : Addr} (h1 : LAt news a v) (h2 : LRg v) : ∀ {vs : List Light} {as : List Addr}, Lights news vs as → Lights news (vs ++ [v]) (as ++ [a])
  | _, _, .nil => .cons h1 h2 .nil
  | _, _, .cons x y h => .cons x y (h.snoc h1 h2)
theorem Lights.mono {news news' : List (Addr × Obj)} (hs : ∀ p ∈ news, p ∈ news') : ∀ {vs : List Light} {as : List Addr}, Lights news vs as → Lights news' vs as
  | _, _, .nil => .nil
  | _, _, .cons ⟨t1, t2, t3, x⟩ y h => .cons ⟨t1, t2, t3, hs _ x⟩ y (h.mono hs)
/-- words of lights, in order; the word of a light is a function of it -/
inductive Words (f : Light → Str) : List Light → List Value → Prop where
  | nil : Words f [] []
  | cons {v : Light} {t : Tok} {vs : List Light} {ws : List Value} : Words f vs ws → Words f (v :: vs) (.str (f v) t :: ws)
theorem Words.len {f : Light → Str} : ∀ {vs : List Light} {ws : List Value}, Words f vs ws → ws.length = vs.length
  | _, _, .nil => rfl
  | _, _, .cons h => by simp [h.len]
theorem Words.snoc {f : Light → Str} {v : Light} {t : Tok} : ∀ {vs : List Light} {ws : List Value}, Words f vs ws → Words f (vs ++ [v]) (ws ++ [.str (f v) t])
  | _, _, .nil => .cons .nil
  | _, _, .cons h => .cons h.snoc
theorem Words.at {f : Light → Str} : ∀ {vs : List Light} {ws : List Value} {i : Nat}, Words f vs ws → i < vs.length → ∃ v t, vs[i]? = some v ∧ ws.drop i = .str (f v) t :: ws.drop (i + 1)
  | _, _, 0, .cons (v := v) (t := t) _, _ => ⟨v, t, rfl, rfl⟩
  | _, _, i + 1, .cons h, hi => by
    obtain ⟨v, t, e1, e2⟩ := h.at (i := i) (by simpa using hi)
    exact ⟨v, t, by simpa using e1, by simpa using e2⟩
end Mine
end
section
open PySem PySem.W PyProof.Rows
open PySem.Spec PySem.Calls
set_option maxRecDepth 100000
set_option maxHeartbeats 8000000
namespace Mine
structure Hol (P : Prop) : Prop where
  h : P
noncomputable def stA : PSigma (fun P : Prop => Hol P → PySem.Challenge.rw_sn0009_01.Holds) := ⟨_, fun hole => hd (by
  k_go0
  (all_goals try k_fold)
  rename_i w s₀ s₁ mg mb G Y fa o pm cd doc ho hcd hg X0a V T B TE TW ns hs hlay0 hL1 hr1 hl2 w9 w8 sl vs w5 hLs ra w1 r0 hI hr hcond1 hcond2 hD h₁ tk₁ o5 o4 o3 o2 o1 d5 d4 d3 d2 d1 XC X T' K F N l0
  clear G Y ho hcd hT8 X0a V T B TE TW hT9 hs hlay0 hL1 hr1 hl2 ra w1 r0 hr hcond2 hD XC hLs
  dsimp only at F N d5 d4 d3 d2 d1 codeHd ⊢
  have hns : ns.length ≤ 63 := by omega
  clear hcond1
  have e1 : o1.data = Data.cell none := d1.trans (by with_unfolding_all rfl)
  have e2 : o2.data = Data.cell none := d2.trans (by with_unfolding_all rfl)
  have e3 : o3.data = Data.cell none := d3.trans (by with_unfolding_all rfl)
  have e4 : o4.data = Data.cell none := d4.trans (by with_unfolding_all rfl)
  have e5 : o5.data = Data.cell none := d5.trans (by with_unfolding_all rfl)
  clear d1 d2 d3 d4 d5
  revert hg hI X T' K F lifted codeHd N l0 hns e1 e2 e3 e4 e5
  revert w s₀ s₁ mg mb fa pm cd doc ns sl vs h₁ tk₁ o5 o4 o3 o2 o1
  exact hole.h)⟩
end Mine
end
section
open PySem PySem.W PyProof.Rows PyProof.V
open PySem.Spec PySem.Calls PySem.Builtin PySem.Builtin.ObjectAttr
set_option maxRecDepth 100000
set_option maxHeartbeats 4000000
namespace Mine
theorem fn_slot_sa : Slot "function" "__setattr__" "object.__setattr__" :=
  .of (owner := "object") (n := "__setattr__") (by rw [typeLookup_type, builtinLookup_eq_fast]; kernel_rfl) (by decide +kernel) (by decide +kernel) (by decide +kernel)
    (by first | exact .inl (by decide +kernel) | exact .inr (by decide +kernel)) (by rw [isSubtype_type]; kernel_rfl)
theorem fn_slot_ga : Slot "function" "__getattribute__" "object.__getattribute__" :=
  .of (owner := "object") (n := "__getattribute__") (by rw [typeLookup_type, builtinLookup_eq_fast]; kernel_rfl) (by decide +kernel) (by decide +kernel) (by decide +kernel)
    (by first | exact .inl (by decide +kernel) | exact .inr (by decide +kernel)) (by rw [isSubtype_type]; kernel_rfl)
theorem fn_lk : typeLookup (.type "function") "read" = pure none := by rw [typeLookup_type, builtinLookup_eq_fast]; kernel_rfl
theorem fn_lk_ga : typeLookup (.type "function") "__getattr__" = pure none := by rw [typeLookup_type, builtinLookup_eq_fast]; kernel_rfl
theorem fn_mro : mroOf (.type "function") = pure [.type "function", .type "object"] := by first | kernel_rfl | rfl
theorem fn_passes (self : Value) : refuseLoop self "__setattr__" [.type "function", .type "object"] = pure () := by first | kernel_rfl | rfl
theorem fn_dict : typeHasDict (.type "function") = true := by first | kernel_rfl | decide +kernel
abbrev fnO (fd : FuncData) (d : Option Addr) : Obj := { cls := .type "function", dict := d, data := .func fd }
theorem fn_dm (f d : Addr) : dictMade (Value.type "function") f d = pure (some d) := by
  have e : finalisedInACycleAlone "function" = false := by decide +kernel
  simp only [dictMade, e]
  rfl
section
variable {prog : Program} {w : World} {A : Around} {E : Value → Shared → Prop} {s : Shared} {h₀ : Heap} {L f : Addr} {m : Str → Option Value} {news : List (Addr × Obj)} {fd : FuncData} {v : Value} {name : Str}
theorem fn_store {R : Result → Shared → Prop} {tk : Tok} {news' : Addr → List (Addr × Obj)} (F : Fr h₀ L s.heap m) (N : News h₀ L s.heap news) (U : ∀ D, Upd f (fnO fd none) (fnO fd (some D)) news (news' D)) (hname : typeLookup (.type "function") name = pure none)
    (h : ∀ D h' tk k c, Fr h₀ L h' m → News h₀ L h' ((D, dictOf [⟨c, .str name k, v⟩] 1) :: news' D) → (∀ p ∈ news, p.1 < D) → R (.ok (.ret .none)) { s with heap := h', toks := tk }) :
    codeAny (model prog w) A (.call (.builtin "object.__setattr__") ⟨[.ref f, .str name tk, v], []⟩) R s := by
  obtain ⟨pre, post, e1, -, -, -⟩ := (U 0).split
  have hf : s.heap.get? f = some (fnO fd none) := (N (f, fnO fd none) (by rw [e1]; simp)).1
  have hT : s.TypeIs (.ref f) "function" := ⟨_, hf, rfl⟩
  obtain ⟨hp, g, dr, t, os⟩ := s
  dsimp only at hf
  refine codeAny_call_builtin fn_slot_sa.plain PySem.F.store_object.entry (fn_slot_sa.check _ _ _ _ _ _ _ _ hT (PySem.F.store_object.args _ _ _) ?_)
  rw [osa_eq, refuse_eq]
  refine wpAny_bind (wpAny_bind (wpAny_typeOf hT (wpAny_bind (wpAny_of_eq fn_mro ?_))))
  refine wpAny_of_eq (fn_passes _) (wpAny_bind (wpAny_typeOf hT (wpAny_bind (wpAny_of_eq hname (wpAny_bind (wpAny_pure ?_))))))
  show wpAny _ _ (instanceDict f true >>= _) _ _ _
  unfold instanceDict
  refine wpAny_bind (wpAny_bind (wpAny_loadPart hf ?_))
  have c1 : (!true || !typeHasDict (Value.type "function")) = false := by rw [fn_dict]; rfl
  show wpAny _ _ (if (!true || !typeHasDict (Value.type "function")) = true then _ else _) _ _ _
  rw [if_neg (by rw [c1]; decide)]
  have hx₁ : (hp.push { cls := .type "dict", data := .dict #[] }).get? f = some (fnO fd none) := Heap.get?_push_of_some _ hf
  have F1 := F.push { cls := .type "dict", data := .dict #[] }
  have N1 : News h₀ L (hp.push { cls := .type "dict", data := .dict #[] }) ((hp.objs.size, { cls := .type "dict", data := .dict #[] }) :: news) := News.push F N _ rfl
  have hlt : ∀ p ∈ news, p.1 < hp.objs.size := fun p hp => Heap.lt_size (N p hp).1
  have hfs : f < hp.objs.size := Heap.lt_size hf
  obtain ⟨pre', post', e1', e2', n1, n2⟩ := (U hp.objs.size).split
  rw [e1'] at N1
  obtain ⟨F2, N2⟩ := news_upd (pre := (hp.objs.size, { cls := .type "dict", data := .dict #[] }) :: pre') (o' := fnO fd (some hp.objs.size)) (f := fun o => { o with dict := some hp.objs.size }) F1 N1
    (fun p hp => by
      rcases List.mem_cons.mp hp with rfl | hp
      · exact Nat.ne_of_gt hfs
      · exact n1 p hp) n2 rfl rfl
  refine wpAny_bind (wpAny_alloc' (wpAny_bind (wpAny_update' hx₁ ?_)))
  refine wpAny_of_eq (fn_dm f hp.objs.size) ?_
  show wpAny _ _ (storeInDict hp.objs.size (.str name tk) name v) _ _ _
  unfold storeInDict newKeyGuard
  refine wpAny_bind (wpAny_pure (wpAny_bind ?_))
  have hD := (N2 (hp.objs.size, { cls := .type "dict", data := .dict #[] }) (by simp)).1
  obtain ⟨F3, N3⟩ := news_upd (pre := []) (o' := dictOf [⟨PyData.keyHash w.params name, .str name t, v⟩] 1) (f := Obj.putName name (PyData.keyHash w.params name) (.str name t) v) F2 N2 (fun _ h => nomatch h)
    (fun p hp => by
      rcases List.mem_append.mp hp with hp | hp
      · exact Nat.ne_of_lt (hlt p (by rw [e1']; exact List.mem_append_left _ hp))
      · rcases List.mem_cons.mp hp with rfl | hp
        · exact Nat.ne_of_lt hfs
        · exact Nat.ne_of_lt (hlt p (by rw [e1']; exact List.mem_append_right _ (List.mem_cons_of_mem _ hp)))) rfl rfl
  unfold nsSet
  refine wpAny_bind (wpAny_bind (wpAny_askSetting (wpAny_pure (wpAny_bind (wpAny_mkText (wpAny_bind (wpAny_loadPart hD ?_)))))))
  dsimp only
  rw [aRefKeyMayBeTheName_at]
  rw [if_neg (by simp)]
  refine wpAny_updatePart hD ?_
  have D' := (N3 (hp.objs.size, dictOf [⟨PyData.keyHash w.params name, .str name t, v⟩] 1) (by simp)).1
  refine wpAny_bind (wpAny_lookBehind D' (pastItsLine_dict (by simp [sizeLine_eq])) ?_)
  refine wpAny_pure (h hp.objs.size _ _ t (PyData.keyHash w.params name) F3 ?_ hlt)
  rw [e2']
  exact N3
def FnSetEnd (h₀ : Heap) (L : Addr) (m : Str → Option Value) (news : List (Addr × Obj)) (news' : Addr → List (Addr × Obj)) (name : Str) (v : Value) (s : Shared) (r : Result) (s' : Shared) : Prop :=
  ∃ (D : Addr) (h' : Heap) (tk : Nat) (k : Tok) (c : Int), r = .ok (.ret .none) ∧ s' = { s with heap := h', toks := tk } ∧ Fr h₀ L h' m ∧ News h₀ L h' ((D, dictOf [⟨c, .str name k, v⟩] 1) :: news' D) ∧ (∀ p ∈ news, p.1 < D)
theorem fn_set {Q : Unit → Shared → Prop} {news' : Addr → List (Addr × Obj)} (F : Fr h₀ L s.heap m) (N : News h₀ L s.heap news) (U : ∀ D, Upd f (fnO fd none) (fnO fd (some D)) news (news' D)) (hname : typeLookup (.type "function") name = pure none)
    (h : ∀ D h' tk k c, Fr h₀ L h' m → News h₀ L h' ((D, dictOf [⟨c, .str name k, v⟩] 1) :: news' D) → (∀ p ∈ news, p.1 < D) → Q () { s with heap := h', toks := tk }) :
    wpAny (model prog w) A (setAttr (.ref f) name v) Q E s := by
  obtain ⟨pre, post, e1, -, -, -⟩ := (U 0).split
  have hf : s.heap.get? f = some (fnO fd none) := (N (f, fnO fd none) (by rw [e1]; simp)).1
  have hT : ({ s with toks := s.toks + 1 } : Shared).TypeIs (.ref f) "function" := ⟨_, hf, rfl⟩
  refine wpAny_bind (wpAny_mkText (wpAny_bind (wpAny_bind (wpAny_specialOf hT fn_slot_sa.lookup (wpAny_holding ?_)))))
  rw [fn_slot_sa.bind]
  refine wpAny_bind (wpAny_pure (wpAny_bind (wpAny_call (codeAny_mono (fn_store (R := FnSetEnd h₀ L m news news' name v { s with toks := s.toks + 1 }) (s := { s with toks := s.toks + 1 }) F N U hname fun D h' tk k c F' N' hlt => ⟨D, h', tk, k, c, rfl, rfl, F', N', hlt⟩) fun r s' z => ?_))))
  obtain ⟨D, h', tk, k, c, rfl, rfl, F', N', hlt⟩ := z
  exact wpAny_pure (wpAny_pure (h D h' tk k c F' N' hlt))
theorem fn_args_ga (a b : Value) : argsOk "object.__getattribute__" ⟨[a, b], []⟩ := by unfold argsOk; kernel_rfl
theorem fn_get {D : Addr} {es : List DictEntry} {n : Nat} {ex : Bool} {Q : Value → Shared → Prop} (N : News h₀ L s.heap news) (hm : (f, fnO fd (some D)) ∈ news) (hd : (D, dictOf es n) ∈ news) (hl : getL name es = some (some v)) (hh : handedIn v = true) (hname : typeLookup (.type "function") name = pure none)
    (h : Q v { s with toks := s.toks + 1 }) : wpAny (model prog w) A (getAttr (.ref f) name ex) Q E s := by
  have hf : s.heap.get? f = some (fnO fd (some D)) := (N _ hm).1
  have hD : s.heap.get? D = some (dictOf es n) := (N _ hd).1
  obtain ⟨hp, g, dr, t, os⟩ := s
  have hT : (⟨hp, g, dr, t, os⟩ : Shared).TypeIs (.ref f) "function" := ⟨_, hf, rfl⟩
  have hT1 : (⟨hp, g, dr, t + 1, os⟩ : Shared).TypeIs (.ref f) "function" := ⟨_, hf, rfl⟩
  have f1 := fn_slot_ga.lookup
  have f2 := fn_lk_ga
  have f4 := fn_slot_ga.bind (.ref f)
  have body : wpAny (model prog w) A.in1 (Builtin.«object.__getattribute__» ⟨[.ref f, .str name t], []⟩) (fun fin s' => match fin with | .done (.ret v') => v' = v ∧ Q v s' | _ => False) (fun e s' => False) ⟨hp, g, dr, t + 1, os⟩ := by
    refine wpAny_bind (wpAny_pure (wpAny_bind (wpAny_pure (wpAny_bind (wpAny_typeOf hT1 (wpAny_bind ?_))))))
    unfold find
    refine wpAny_bind (wpAny_of_eq hname (wpAny_bind (wpAny_pure (wpAny_bind (wpAny_pure ?_)))))
    show wpAny _ _ (ownThenClass _ _ _ _) _ _ _
    unfold ownThenClass inOwnDict ObjectAttr.ownDict
    refine wpAny_bind (wpAny_bind (wpAny_bind (wpAny_loadPart hf ?_)))
    show wpAny _ _ (instanceDict f false) _ _ _
    unfold instanceDict
    refine wpAny_bind (wpAny_loadPart hf ?_)
    refine wpAny_pure (a := some D) ?_
    refine wpAny_bind (wpAny_loadPart hD ?_)
    rw [nsLook_of (show lookIn name (dictOf es n) = some (some v) from hl)]
    exact wpAny_pure (wpAny_bind (wpAny_rule (wpAny_pure (wpAny_pure ⟨rfl, h⟩))))
  unfold getAttr getAttrBy
  refine wpAny_bind (wpAny_mkText (wpAny_holding (wpAny_bind (wpAny_typeOf hT1 (wpAny_bind (wpAny_of_eq f1 ?_))))))
  cases ex
  all_goals (
    repeat (any_goals (first | assumption | (rw [if_neg (show ¬ (true && onTheHeap (Value.builtin "object.__getattribute__")) = true by decide)]) | wp_step))
    refine codeAny_call_builtin fn_slot_ga.plain F.entry_object_getattribute (fn_slot_ga.check _ _ _ _ _ _ _ _ hT1 (fn_args_ga _ _) (wpAny_mono body (fun fin s' z => ?_) fun _ _ z => z.elim))
    rcases fin with (_ | _ | _ | _) | _ <;> try exact z.elim
    obtain ⟨rfl, z⟩ := z
    show wpAny _ _ (handedOut _) _ _ _
    rw [handedOut_of hh]
    exact wpAny_pure z)
theorem fn_canon : (Manifest.canonical "object.__getattribute__" != "object.__getattribute__") = false := by decide +kernel
theorem fn_method {D : Addr} {es : List DictEntry} {n : Nat} {Q : Value × List Value → Shared → Prop} {pl : Sem Bool} (N : News h₀ L s.heap news) (hm : (f, fnO fd (some D)) ∈ news) (hd : (D, dictOf es n) ∈ news) (hl : getL name es = some (some v)) (hh : handedIn v = true) (hname : typeLookup (.type "function") name = pure none)
    (h : Q (v, []) { s with toks := s.toks + 1 }) : wpAny (model prog w) A (getMethod (.ref f) name pl) Q E s := by
  have hT : s.TypeIs (.ref f) "function" := ⟨_, (N _ hm).1, rfl⟩
  unfold getMethod
  refine wpAny_bind (wpAny_specialOf hT fn_slot_ga.lookup ?_)
  show wpAny _ A (if (Manifest.canonical "object.__getattribute__" != "object.__getattribute__") = true then _ else _) Q E _
  rw [if_neg (by rw [fn_canon]; decide)]
  refine wpAny_bind (wpAny_specialOf hT fn_lk_ga ?_)
  refine wpAny_bind (wpAny_specialOf hT hname ?_)
  exact wpAny_bind (fn_get N hm hd hl hh hname (wpAny_pure h))
end
end Mine
end
section
open PySem PySem.W PyProof.Rows PyProof.V
open PySem.Spec PySem.Calls PySem.Builtin
set_option maxRecDepth 100000
set_option maxHeartbeats 4000000
namespace Mine
theorem ci_slot_next : Slot "callable_iterator" "__next__" "callable_iterator.__next__" :=
  .of (owner := "callable_iterator") (n := "__next__") (by rw [typeLookup_type, builtinLookup_eq_fast]; kernel_rfl) (by decide +kernel) (by decide +kernel) (by decide +kernel)
    (by first | exact .inl (by decide +kernel) | exact .inr (by decide +kernel)) (by rw [isSubtype_type]; kernel_rfl)
theorem ci_slot_iter : Slot "callable_iterator" "__iter__" "callable_iterator.__iter__" :=
  .of (owner := "callable_iterator") (n := "__iter__") (by rw [typeLookup_type, builtinLookup_eq_fast]; kernel_rfl) (by decide +kernel) (by decide +kernel) (by decide +kernel)
    (by first | exact .inl (by decide +kernel) | exact .inr (by decide +kernel)) (by rw [isSubtype_type]; kernel_rfl)
theorem ci_entry_next : entryFor table "callable_iterator.__next__" = some Builtin.«callable_iterator.__next__» := entryFor_of_tree (by kernel_rfl)
theorem ci_entry_iter : entryFor table "callable_iterator.__iter__" = some Builtin.«dict_keyiterator.__iter__» :=
  entryFor_alias (id' := "dict_keyiterator.__iter__") (by kernel_rfl) rfl (by decide +kernel) (by kernel_rfl)
theorem ci_args_next (a : Value) : argsOk "callable_iterator.__next__" ⟨[a], []⟩ := by unfold argsOk; kernel_rfl
theorem ci_args_iter (a : Value) : argsOk "callable_iterator.__iter__" ⟨[a], []⟩ := by unfold argsOk; kernel_rfl
theorem ci_call : typeLookup (.type "method") "__call__" = pure (some (.builtin "method.__call__")) := by rw [typeLookup_type, builtinLookup_eq_fast]; kernel_rfl
theorem ci_entry_it : entryFor table "iter" = some Builtin.«iter» := entryFor_of_tree (by kernel_rfl)
theorem ci_kind : builtinKind "iter" = none := by decide +kernel
theorem ci_plain : plainId "iter" = true := by decide +kernel
theorem ci_args_it (a b : Value) : argsOk "iter" ⟨[a, b], []⟩ := by unfold argsOk; kernel_rfl
abbrev citO (B : Addr) (u : Tok) : Obj := { cls := .type "callable_iterator", data := .fields #[.ref B, .str (Str.ofString "") u, .bool false] }
abbrev citE : Obj := { cls := .type "callable_iterator", data := .fields #[.none, .none, .bool true] }
section
variable {prog : Program} {w : World} {A : Around} {E : Value → Shared → Prop} {s : Shared} {h₀ : Heap} {L I B x f : Addr} {m : Str → Option Value} {news : List (Addr × Obj)} {u t : Tok}
theorem cit_new {Q : Value → Shared → Prop} (F : Fr h₀ L s.heap m) (N : News h₀ L s.heap news) (hB : (B, methodObj (.ref f) (.ref x)) ∈ news)
    (h : ∀ I h', Fr h₀ L h' m → News h₀ L h' ((I, citO B u) :: news) → (∀ p ∈ news, p.1 < I) → Q (.ref I) { s with heap := h' }) :
    wpAny (model prog w) A (call (.builtin "iter") [.ref B, .str (Str.ofString "") u]) Q E s := by
  have hT : s.TypeIs (.ref B) "method" := ⟨_, (N _ hB).1, rfl⟩
  refine call_function_tree ci_kind ci_plain ci_entry_it (ci_args_it _ _) ?_
  refine wpAny_bind (wpAny_pure (wpAny_bind ?_))
  refine wpAny_specialOf hT ci_call ?_
  show wpAny _ _ (rule _ >>= _) _ _ _
  refine wpAny_bind (wpAny_rule (wpAny_bind (wpAny_newObj_type (wpAny_pure ?_))))
  exact h s.heap.objs.size _ (F.push _) (N.push F _ rfl) (fun p hp => Heap.lt_size (N p hp).1)
theorem cit_iter {Q : Value → Shared → Prop} {o : Obj} (N : News h₀ L s.heap news) (hI : (I, o) ∈ news) (ho : o.cls = .type "callable_iterator") (h : Q (.ref I) s) : wpAny (model prog w) A (pyIter (.ref I)) Q E s := by
  have hT : s.TypeIs (.ref I) "callable_iterator" := ⟨_, (N _ hI).1, ho⟩
  refine wpAny_pyIter_slot hT ci_slot_iter (wpAny_call_entry ci_slot_iter hT ci_entry_iter ?_ (ci_args_iter _))
  show wpAny _ _ (ret (.ref I)) _ _ s
  exact wpAny_pure ⟨_, rfl, "callable_iterator", _, hT, ci_slot_next.lookup, h⟩
theorem borrowed_call {pos : List Value} {v : Value} {Q : Value → Shared → Prop}
    (hc : codeAny (model prog w) A (.call v ⟨pos, []⟩) (fun r s' => match r with | .ok (.ret v) => Q v s' | .ok _ => False | .error e => E e s') s) : wpAny (model prog w) A (callBorrowed v pos) Q E s := by
  intro Γ p hΓ
  have := hc _ p rfl (hΓ.enter (.call v ⟨pos, []⟩) none p (by intro x; cases x))
  unfold callBorrowed
  rw [Sem.wp_call]
  have e : (fun (r : Result) (s' : Shared) => match r with | .ok (.ret v) => Q v s' | .ok _ => False | .error e => E e s') = (fun r s' => Sem.wp (model prog w) Γ ((fun
    | .ok (.ret v) => .pure v
    | .ok _ => .unsupported "internal:call-without-return-value"
    | .error e => .raise e : Result → Sem Value) r) (fun a _ s' => Q a s') (fun e _ s' => E e s') p s') := by
    funext r s'
    rcases r with e | (v | _ | _ | _) <;> rfl
  rw [e] at this
  exact this
def CitEnd (I B f x : Addr) (fo : Obj) (u : Tok) (Q : Option Value → Shared → Prop) (v : Value) (s' : Shared) : Prop :=
  ∃ ch t, v = .str ch t ∧ s'.heap.get? I = some (citO B u) ∧ s'.heap.get? B = some (methodObj (.ref f) (.ref x)) ∧ s'.heap.get? f = some fo ∧
    ((ch ≠ Str.ofString "" ∧ Q (some v) s') ∨ (ch = Str.ofString "" ∧ ∀ h', Heap.ExtBut I s'.heap h' → h'.get? I = some citE → Q none { s' with heap := h' }))
theorem ci_borrows {fd : FuncData} {fo : Obj} {Q : Bool → Shared → Prop} (hB : s.heap.get? B = some (methodObj (.ref f) (.ref x))) (hf : s.heap.get? f = some fo) (hfd : fo.data = .func fd) (h : Q true s) : wpAny (model prog w) A (borrowsExactly (.ref B)) Q E s := by
  unfold borrowsExactly
  refine wpAny_bind (wpAny_load hB ?_)
  show wpAny _ _ (if (Value.type "method" == Value.type "method") = true then _ else _) _ _ _
  rw [if_pos (by decide)]
  refine wpAny_bind (wpAny_load hf ?_)
  rw [hfd]
  exact wpAny_pure h
theorem cit_next {Q : Option Value → Shared → Prop} {fd : FuncData} {fo : Obj} (hh : A.handled = none) (hI : s.heap.get? I = some (citO B u)) (hB : s.heap.get? B = some (methodObj (.ref f) (.ref x))) (hf : s.heap.get? f = some fo) (hfd : fo.data = .func fd)
    (hc : codeAny (model prog w) A.in1 (.call (.ref f) ⟨[.ref x], []⟩) (fun r s' => match r with | .ok (.ret v) => CitEnd I B f x fo u Q v s' | .ok _ => False | .error e => False) s) :
    wpAny (model prog w) A (pyNext (.ref I)) Q E s := by
  have hT : s.TypeIs (.ref I) "callable_iterator" := ⟨_, hI, rfl⟩
  unfold pyNext
  refine wpAny_bind (wpAny_attempt (wpAny_callSpecial?_slot (name := Str.ofString "__next__") hT ci_slot_next
    (wpAny_call_entry ci_slot_next hT ci_entry_next ?_ (ci_args_next _))))
  show wpAny _ _ (field (.ref I) 2 >>= _) _ _ s
  refine wpAny_bind (wpAny_field hI rfl (x := .bool false) rfl ?_)
  show wpAny _ _ (if (Value.bool false == Value.bool true) = true then _ else _) _ _ s
  rw [if_neg (by decide)]
  refine wpAny_bind (wpAny_field hI rfl (x := .ref B) rfl (wpAny_bind (wpAny_attempt ?_)))
  unfold callOutOfASlot
  refine wpAny_bind (ci_borrows hB hf hfd ?_)
  show wpAny _ _ (if (true = true) then _ else _) _ _ _
  rw [if_pos rfl]
  refine borrowed_call (ks_codeAny_call_bound hB (codeAny_mono hc fun r s' z => ?_))
  rcases r with e | (v | _ | _ | _) <;> try exact z.elim
  obtain ⟨ch, t, rfl, hI', hB', hf', z⟩ := z
  dsimp only
  refine wpAny_bind (wpAny_field hI' rfl (x := .bool false) rfl ?_)
  show wpAny _ _ (if (Value.bool false == Value.bool true) = true then _ else _) _ _ _
  rw [if_neg (by decide)]
  refine wpAny_bind (wpAny_field hI' rfl (x := .str (Str.ofString "") u) rfl (wpAny_bind (wpAny_holding (PyProof.Rows.eqBool_str ?_))))
  rcases z with ⟨hne, z⟩ | ⟨rfl, z⟩
  · rw [show (Str.ofString "" == ch) = false from beq_eq_false_iff_ne.mpr (Ne.symm hne)]
    rw [if_pos (show (!false) = true from rfl)]
    exact wpAny_pure ⟨_, rfl, wpAny_pure z⟩
  · rw [beq_self_eq_true]
    show wpAny _ _ (if (!true) = true then _ else _) _ _ _
    rw [if_neg (by decide)]
    refine wpAny_bind (wpAny_rule (wpAny_bind ?_))
    refine wpAny_bind (wpAny_field hI' rfl (x := .ref B) rfl (wpAny_bind ?_))
    unfold slotLetsGo
    refine wpAny_bind (ci_borrows hB' hf' hfd ?_)
    show wpAny _ _ (if (true = true) then _ else _) _ _ _
    rw [if_pos rfl]
    refine wpAny_pure ?_
    refine wpAny_bind (wpAny_setField_rec hI' (by simp) fun h1 g1 b1 => ?_)
    refine wpAny_bind (wpAny_setField_rec g1 (by simp) fun h2 g2 b2 => ?_)
    refine wpAny_setField_rec g2 (by simp) fun h3 g3 b3 => ?_
    show wpAny _ _ (newExc (.type "StopIteration") [] >>= _) _ _ _
    refine wpAny_bind ?_
    simp only [newExc, newTuple]
    refine wpAny_bind (wpAny_newObj_type ?_ (by size_fits))
    refine wpAny_bind (m := firstArgMember _ _) (wpAny_of_eq (a := Value.none) (by first | rfl | (simp only [firstArgMember]; rfl)) ?_)
    refine wpAny_newObj_type ?_ (by size_fits)
    simp only [raiseNew]
    refine wpAny_bind (wpAny_handled ?_)
    rw [show A.in1.handled = none from hh]
    refine wpAny_bind (wpAny_pure (wpAny_throw ?_))
    refine wpAny_bind (wpAny_isInstance (T := "StopIteration") (b := true) ⟨_, Heap.get?_push_size _ rfl, rfl⟩ isSubtype_stop ?_)
    refine wpAny_pure (z _ ((Heap.ExtBut.push (Heap.ExtBut.push (fun b o hb e => ?_) _)) _) ?_)
    · exact b3.extBut b o hb (b2.extBut b o hb (b1.extBut b o hb e))
    · exact Heap.get?_push_of_some _ (Heap.get?_push_of_some _ g3)
end
end Mine
end
section
namespace Mine
theorem drinker {α : Type u} (ne : Nonempty α) (P : α → Prop) : ∃ x, P x → ∀ y, P y := by
  by_cases h : ∀ y, P y
  · exact ⟨Classical.choice ne, fun _ => h⟩
  · have ⟨x, hx⟩ := Classical.not_forall.mp h
    exact ⟨x, fun hp => absurd hp hx⟩
noncomputable def ce {α : Type u} (ne : Nonempty α) (P : α → Prop) : α := Classical.choose (drinker ne P)
theorem allI {α : Type u} {P : α → Prop} (ne : Nonempty α) (h : P (ce ne P)) : ∀ x, P x := Classical.choose_spec (drinker ne P) h
theorem exI {α : Sort u} {P : α → Prop} {G : Prop} (h : ∀ x, P x → G) : (∃ x, P x) → G := fun ⟨x, hx⟩ => h x hx
theorem andI {A B G : Prop} (h : A → B → G) : A ∧ B → G := fun ⟨a, b⟩ => h a b
theorem rm0 {u c l : Nat} (h : u + c < l) : u < l := Nat.lt_of_le_of_lt (Nat.le_add_right u c) h
theorem rm1 {u a c l : Nat} (h : u + c < l) (e : a ≤ c) : u + a < l := Nat.lt_of_le_of_lt (Nat.add_le_add_left e u) h
theorem rm2 {u a b c l : Nat} (h : u + c < l) (e : a + b ≤ c) : u + a + b < l := Nat.add_assoc u a b ▸ rm1 h e
theorem toNat_z (i : Nat) : (0 + (i : Int)).toNat = i := (Int.zero_add (i : Int)).symm ▸ Int.toNat_natCast i
end Mine
end
section
open PySem PySem.W PyProof.Rows
open PySem.Spec PySem.Calls
namespace Mine
theorem neW : Nonempty World := ⟨⟨fun _ _ => 0, { strHash := fun _ => 0, shareClass := fun _ => 0, mergeTok := fun t => t, idOf := fun _ => 0, idOfShared := fun _ _ => 0, followText := fun _ => false, idOfImm := fun _ => 0 }⟩⟩
theorem neT : (l : List MakeM) → Nonempty (TyM l)
  | [] => ⟨()⟩
  | .int :: r => (neT r).elim fun y => ⟨(0, y)⟩
  | .str :: r => (neT r).elim fun y => ⟨(⟨#[]⟩, y)⟩
  | .bool :: r => (neT r).elim fun y => ⟨(true, y)⟩
  | .lst :: r => (neT r).elim fun y => ⟨([], y)⟩
  | .set _ :: r => (neT r).elim fun y => ⟨([], y)⟩
theorem neS : Nonempty Shared := ⟨{}⟩
theorem neA : Nonempty Around := ⟨{}⟩
theorem nP {α β : Type} (a : Nonempty α) (b : Nonempty β) : Nonempty (α × β) := ⟨(Classical.choice a, Classical.choice b)⟩
noncomputable def cp2 {A1 A2 : Type} (ne : Nonempty (A1 × A2)) (P : A1 → A2 → Prop) : A1 × A2 := ce ne fun z => P z.1 z.2
theorem all2 {A1 A2 : Type} {P : A1 → A2 → Prop} (ne : Nonempty (A1 × A2)) (h : P (cp2 ne P).1 (cp2 ne P).2) : ∀ a1 a2, P a1 a2 := fun a1 a2 => allI (P := fun z => P z.1 z.2) ne h (a1, a2)
noncomputable def cp4 {A1 A2 A3 A4 : Type} (ne : Nonempty (A1 × A2 × A3 × A4)) (P : A1 → A2 → A3 → A4 → Prop) : A1 × A2 × A3 × A4 := ce ne fun z => P z.1 z.2.1 z.2.2.1 z.2.2.2
theorem all4 {A1 A2 A3 A4 : Type} {P : A1 → A2 → A3 → A4 → Prop} (ne : Nonempty (A1 × A2 × A3 × A4)) (h : P (cp4 ne P).1 (cp4 ne P).2.1 (cp4 ne P).2.2.1 (cp4 ne P).2.2.2) : ∀ a1 a2 a3 a4, P a1 a2 a3 a4 := fun a1 a2 a3 a4 => allI (P := fun z => P z.1 z.2.1 z.2.2.1 z.2.2.2) ne h (a1, a2, a3, a4)
noncomputable def c8 {A1 A2 A3 A4 A5 A6 A7 A8 : Type} (ne : Nonempty (A1 × A2 × A3 × A4 × A5 × A6 × A7 × A8)) (P : A1 → A2 → A3 → A4 → A5 → A6 → A7 → A8 → Prop) : A1 × A2 × A3 × A4 × A5 × A6 × A7 × A8 := ce ne fun z => P z.1 z.2.1 z.2.2.1 z.2.2.2.1 z.2.2.2.2.1 z.2.2.2.2.2.1 z.2.2.2.2.2.2.1 z.2.2.2.2.2.2.2
theorem all8 {A1 A2 A3 A4 A5 A6 A7 A8 : Type} {P : A1 → A2 → A3 → A4 → A5 → A6 → A7 → A8 → Prop} (ne : Nonempty (A1 × A2 × A3 × A4 × A5 × A6 × A7 × A8)) (h : P (c8 ne P).1 (c8 ne P).2.1 (c8 ne P).2.2.1 (c8 ne P).2.2.2.1 (c8 ne P).2.2.2.2.1 (c8 ne P).2.2.2.2.2.1 (c8 ne P).2.2.2.2.2.2.1 (c8 ne P).2.2.2.2.2.2.2) : ∀ a1 a2 a3 a4 a5 a6 a7 a8, P a1 a2 a3 a4 a5 a6 a7 a8 := fun a1 a2 a3 a4 a5 a6 a7 a8 => allI (P := fun z => P z.1 z.2.1 z.2.2.1 z.2.2.2.1 z.2.2.2.2.1 z.2.2.2.2.2.1 z.2.2.2.2.2.2.1 z.2.2.2.2.2.2.2) ne h (a1, a2, a3, a4, a5, a6, a7, a8)
end Mine
end
section
open PySem PySem.W PyProof.Rows
open PySem.Spec PySem.Calls
open Mine
local macro_rules
  | `(tactic| intro $x:ident) => `(tactic| first | (with_reducible (first | refine @allI _ _ inferInstance ?_ | refine @allI _ _ neS ?_ | refine @allI _ _ neA ?_ | refine @allI _ _ neW ?_ | refine @allI _ _ (neT _) ?_); generalize ce _ _ = $x) | intros $x:ident)
  | `(tactic| intro _) => `(tactic| intro x9)
local macro_rules
  | `(tactic| intro $x $y $ys*) => `(tactic| (intro $x:term; intro $y:term $ys:term*))
section
open PySem PySem.Float64
set_option maxRecDepth 100000
set_option exponentiation.threshold 5000
namespace Mine
def Fi (x : UInt64) : Prop := ∃ a m e, decode x = .fin a m e
theorem grid (j : Nat) (h : j < 2 ^ 53) : ∃ t, V t = j * 2 ^ 1036 := by
  by_cases h0 : j = 0
  · subst h0; exact ⟨0, by rw [V_zero, Nat.zero_mul]⟩
  · have hl : j.log2 < 53 := (Nat.log2_lt h0).mpr h
    have h1 : 2 ^ j.log2 ≤ j := Nat.log2_self_le h0
    have h2 : j < 2 ^ (j.log2 + 1) := Nat.lt_log2_self
    generalize j.log2 = l at *
    refine ⟨(1036 - (52 - l)) * 2 ^ 52 + j * 2 ^ (52 - l), ?_⟩
    rw [V_at]
    · rw [Nat.mul_assoc, ← Nat.pow_add]
      have e : 52 - l + (1036 - (52 - l)) = 1036 := by omega
      rw [e]
    · have : j * 2 ^ (52 - l) ≤ 2 ^ (l + 1) * 2 ^ (52 - l) := Nat.mul_le_mul_right _ (by omega)
      rw [← Nat.pow_add] at this
      have e : l + 1 + (52 - l) = 53 := by omega
      rw [e] at this
      exact this
    · left
      have : 2 ^ l * 2 ^ (52 - l) ≤ j * 2 ^ (52 - l) := Nat.mul_le_mul_right _ h1
      rw [← Nat.pow_add] at this
      have e : l + (52 - l) = 52 := by omega
      rw [e] at this
      exact this
theorem two_mul_pow (D k : Nat) : D * 2 ^ (k + 1) = 2 * (D * 2 ^ k) := by rw [Nat.pow_succ, ← Nat.mul_assoc, Nat.mul_comm]
theorem near_of {W v q u m : Nat} (hd : dist W v ≤ dist W q) (h4 : q + m = W) (h5 : m < u) : v ≤ W + u ∧ W ≤ v + u := by unfold dist at hd; omega
theorem right_near {r : UInt64} {neg : Bool} {W D : Nat} (hD : 0 < D) (hW : W < D * 2 ^ 1089) (h : Right r neg W D) :
    ∃ t, t < infMag ∧ r = pack neg t ∧ D * V t ≤ W + D * 2 ^ 1036 ∧ W ≤ D * V t + D * 2 ^ 1036 := by
  revert r neg W D hD hW h
  intro r neg W D hD hW h
  refine exI ?_ (h)
  intro t
  intro hx9
  obtain ⟨hr, hle, hov, hn⟩ := hx9
  have ht : t < infMag := by
    rcases Nat.lt_or_ge t infMag with h | h
    · exact h
    · exfalso
      have e := hov.mp (by lia)
      have h2 : D * 2 ^ 1090 ≤ D * ((2 ^ 54 - 1) * 2 ^ 2045) := Nat.mul_le_mul_left _ (by decide +kernel)
      have h3 : D * 2 ^ 1090 = 2 * (D * 2 ^ 1089) := two_mul_pow D 1089
      lia
  have hu : 0 < D * 2 ^ 1036 := Nat.mul_pos hD (Nat.two_pow_pos _)
  have e53 : D * 2 ^ 1089 = D * 2 ^ 1036 * 2 ^ 53 := by rw [Nat.mul_assoc, ← Nat.pow_add]
  have hj : W / (D * 2 ^ 1036) < 2 ^ 53 := (Nat.div_lt_iff_lt_mul hu).mpr (by rw [Nat.mul_comm, ← e53]; exact hW)
  obtain ⟨t', e'⟩ := grid _ hj
  have hd := (hn ht t').1
  have e2 : D * V t' = D * 2 ^ 1036 * (W / (D * 2 ^ 1036)) := by rw [e']; ac_rfl
  have h4 := Nat.div_add_mod W (D * 2 ^ 1036)
  have h5 := Nat.mod_lt W hu
  rw [e2] at hd
  obtain ⟨g1, g2⟩ := near_of hd h4 h5
  exact ⟨t, ht, hr, g1, g2⟩
theorem fi_pack (neg : Bool) {t : Nat} (h : t < infMag) : Fi (pack neg t) := by
  obtain ⟨m, e, hd, _⟩ := decode_pack neg h
  exact ⟨_, _, _, hd⟩
/-- the unit: 2 ^ 1036 of 2 ^ -1074 is 2 ^ -38 -/
def UU : Int := 2 ^ 1036
def KK : Int := 2 ^ 1074
def BB : Int := 2 ^ 1089
theorem val_zero (s : Bool) : val (zero s) = 0 := by
  have := val_pack s (t := 0) (by decide)
  unfold zero
  rw [this, V_zero]; cases s <;> rfl
theorem fi_zero (s : Bool) : Fi (zero s) := fi_pack s (by decide)
theorem add_near0 {x y : UInt64} (hx : Fi x) (hy : Fi y) (h1 : -BB < val x + val y) (h2 : val x + val y < BB) :
    Fi (add x y) ∧ val (add x y) - (val x + val y) ≤ UU ∧ (val x + val y) - val (add x y) ≤ UU := by
  revert x y hx hy h1 h2
  intro x y hx hy h1 h2
  obtain ⟨a, m, e, hx⟩ := hx
  obtain ⟨b, k, f, hy⟩ := hy
  have h := add_right hx hy
  generalize val x + val y = S at *
  have hU : (0 : Int) ≤ UU := by decide +kernel
  by_cases h0 : S = 0
  · rw [h.1 h0, val_zero]
    exact ⟨fi_zero _, by omega, by omega⟩
  · obtain ⟨t, ht, hr, g1, g2⟩ := right_near (by decide) (by
      have : (1 * 2 ^ 1089 : Nat) = BB.toNat := by decide +kernel
      rw [this]; omega) (h.2 h0)
    rw [hr, val_pack _ ht]
    refine ⟨fi_pack _ ht, ?_⟩
    have e1 : (1 * 2 ^ 1036 : Nat) = UU.toNat := by decide +kernel
    rw [e1, Nat.one_mul] at g1 g2
    unfold sgn
    by_cases hs : S < 0
    · simp only [hs, decide_true, if_true]; omega
    · simp only [hs, decide_false, Bool.false_eq_true, if_false]; omega
theorem sub_near0 {x y : UInt64} (hx : Fi x) (hy : Fi y) (h1 : -BB < val x - val y) (h2 : val x - val y < BB) :
    Fi (sub x y) ∧ val (sub x y) - (val x - val y) ≤ UU ∧ (val x - val y) - val (sub x y) ≤ UU := by
  revert x y hx hy h1 h2
  intro x y hx hy h1 h2
  obtain ⟨a, m, e, hx⟩ := hx
  obtain ⟨b, k, f, hy⟩ := hy
  have h := sub_right hx hy
  generalize val x - val y = S at *
  have hU : (0 : Int) ≤ UU := by decide +kernel
  by_cases h0 : S = 0
  · rw [h.1 h0, val_zero]
    exact ⟨fi_zero _, by omega, by omega⟩
  · obtain ⟨t, ht, hr, g1, g2⟩ := right_near (by decide) (by
      have : (1 * 2 ^ 1089 : Nat) = BB.toNat := by decide +kernel
      rw [this]; omega) (h.2 h0)
    rw [hr, val_pack _ ht]
    refine ⟨fi_pack _ ht, ?_⟩
    have e1 : (1 * 2 ^ 1036 : Nat) = UU.toNat := by decide +kernel
    rw [e1, Nat.one_mul] at g1 g2
    unfold sgn
    by_cases hs : S < 0
    · simp only [hs, decide_true, if_true]; omega
    · simp only [hs, decide_false, Bool.false_eq_true, if_false]; omega
theorem KK_pos : (0 : Int) < KK := by decide +kernel
theorem UU_pos : (0 : Int) < UU := by decide +kernel
theorem nat_KK : ((2 ^ 1074 : Nat) : Int) = KK := by decide +kernel
theorem nat_UU : ((2 ^ 1036 : Nat) : Int) = UU := by decide +kernel
theorem nat_BB : ((2 ^ 1089 : Nat) : Int) = BB := by decide +kernel
theorem sgn_abs {x : UInt64} {a : Bool} {m : Nat} {e : Int} (h : decode x = .fin a m e) : val x = sgn a (val x).natAbs := by
  rw [val_natAbs h, val_eq h]
/-- signed: near in magnitude, with the sign of the product -/
theorem sgn_near {s : Bool} {v W D u : Int} {V0 W0 : Nat} (hv : v = sgn s V0) (hW : W = sgn s W0) (g1 : D * V0 ≤ W0 + D * u) (g2 : W0 ≤ D * V0 + D * u) : D * v - W ≤ D * u ∧ W - D * v ≤ D * u := by
  subst hv hW
  unfold sgn
  cases s
  · simp only [Bool.false_eq_true, if_false]; omega
  · simp only [if_true, Int.mul_neg]; omega
theorem sgn_xor (a b : Bool) (m k : Nat) : sgn (a != b) (m * k) = sgn a m * sgn b k := by
  unfold sgn
  cases a <;> cases b <;> simp [Int.natCast_mul] <;> grind
theorem mul_near0 {x y : UInt64} (hx : Fi x) (hy : Fi y) (h1 : -(KK * BB) < val x * val y) (h2 : val x * val y < KK * BB) :
    Fi (mul x y) ∧ KK * val (mul x y) - val x * val y ≤ KK * UU ∧ val x * val y - KK * val (mul x y) ≤ KK * UU := by
  revert x y hx hy h1 h2
  intro x y hx hy h1 h2
  obtain ⟨a, m, e, hx⟩ := hx
  obtain ⟨b, k, f, hy⟩ := hy
  have h := mul_right hx hy
  have hlt : (val x).natAbs * (val y).natAbs < 2 ^ 1074 * 2 ^ 1089 := by
    have h3 : ((val x).natAbs * (val y).natAbs : Nat) = (val x * val y).natAbs := (Int.natAbs_mul _ _).symm
    rw [h3]
    have h4 : ((2 ^ 1074 * 2 ^ 1089 : Nat) : Int) = KK * BB := by rw [Int.natCast_mul, nat_KK, nat_BB]
    omega
  obtain ⟨t, ht, hr, g1, g2⟩ := right_near (Nat.two_pow_pos _) hlt h
  rw [hr]
  refine ⟨fi_pack _ ht, ?_⟩
  refine sgn_near (s := a != b) (V0 := V t) (W0 := (val x).natAbs * (val y).natAbs) (val_pack _ ht) ?_ ?_ ?_
  · rw [sgn_xor, ← sgn_abs hx, ← sgn_abs hy]
  · have := Int.ofNat_le.mpr g1
    simp only [Int.natCast_mul, Int.natCast_add, nat_KK, nat_UU] at this ⊢
    exact this
  · have := Int.ofNat_le.mpr g2
    simp only [Int.natCast_mul, Int.natCast_add, nat_KK, nat_UU] at this ⊢
    exact this
theorem div_near0 {x y : UInt64} (hx : Fi x) (hy : Fi y) (hy0 : val y ≠ 0) (h2 : ((val x).natAbs : Int) * KK < ((val y).natAbs : Int) * BB) :
    Fi (div x y) ∧ val (div x y) * val y - val x * KK ≤ UU * ((val y).natAbs : Int) ∧ val x * KK - val (div x y) * val y ≤ UU * ((val y).natAbs : Int) := by
  revert x y hx hy hy0 h2
  intro x y hx hy hy0 h2
  refine exI ?_ (hx)
  intro a
  refine exI ?_
  intro m
  refine exI ?_
  intro e
  intro hx
  refine exI ?_ (hy)
  intro b
  intro hx9
  obtain ⟨k, f, hy⟩ := hx9
  have hk : k ≠ 0 := by
    intro h; subst h
    exact hy0 (by rw [val_eq hy, Nat.zero_mul]; unfold sgn; cases b <;> rfl)
  have h := div_right hx hy hk
  have hD : 0 < (val y).natAbs := by lia
  have hlt : (val x).natAbs * 2 ^ 1074 < (val y).natAbs * 2 ^ 1089 := by
    have : (((val x).natAbs * 2 ^ 1074 : Nat) : Int) < (((val y).natAbs * 2 ^ 1089 : Nat) : Int) := by
      rw [Int.natCast_mul, Int.natCast_mul, nat_KK, nat_BB]; exact h2
    exact Int.ofNat_lt.mp this
  obtain ⟨t, ht, hr, g1, g2⟩ := right_near hD hlt h
  rw [hr]
  refine ⟨fi_pack _ ht, ?_⟩
  have hv : val (pack (a != b) t) = sgn (a != b) (V t) := val_pack _ ht
  have e1 : val (pack (a != b) t) * val y = sgn a (V t * (val y).natAbs) := by
    rw [hv, sgn_abs hy]
    unfold sgn
    cases a <;> cases b <;> simp [Int.natCast_mul] <;> grind
  have e2 : val x * KK = sgn a ((val x).natAbs * 2 ^ 1074) := by
    conv => lhs; rw [sgn_abs hx]
    unfold sgn
    cases a <;> simp only [Bool.false_eq_true, if_false, if_true, Int.natCast_mul, nat_KK] <;> grind
  rw [e1, e2]
  have i1 := Int.ofNat_le.mpr g1
  have i2 := Int.ofNat_le.mpr g2
  simp only [Int.natCast_mul, Int.natCast_add, nat_KK, nat_UU] at i1 i2
  unfold sgn
  cases a <;> simp only [Bool.false_eq_true, if_false, if_true, Int.natCast_mul, nat_KK] <;> constructor <;> grind
theorem ofInt_near0 {i : Int} (h1 : -32768 < i) (h2 : i < 32768) : Fi (ofInt i) ∧ val (ofInt i) - i * KK ≤ UU ∧ i * KK - val (ofInt i) ≤ UU := by
  revert i h1 h2
  intro i h1 h2
  have h := ofInt_right i
  have hb : (32768 : Int) * KK = BB := by decide +kernel
  have hlt : i.natAbs * 2 ^ 1074 < 1 * 2 ^ 1089 := by
    have : ((i.natAbs * 2 ^ 1074 : Nat) : Int) < ((1 * 2 ^ 1089 : Nat) : Int) := by
      rw [Int.natCast_mul, Int.natCast_mul, nat_KK, nat_BB, ← hb]
      have := KK_pos
      have h3 : (i.natAbs : Int) < 32768 := by omega
      have := Int.mul_lt_mul_of_pos_right h3 KK_pos
      omega
    exact Int.ofNat_lt.mp this
  refine exI ?_ (right_near (by decide) hlt h)
  intro t
  intro hx9
  obtain ⟨ht, hr, g1, g2⟩ := hx9
  rw [hr, val_pack _ ht]
  refine ⟨fi_pack _ ht, ?_⟩
  have i1 := Int.ofNat_le.mpr g1
  have i2 := Int.ofNat_le.mpr g2
  simp only [Int.natCast_mul, Int.natCast_add, nat_KK, nat_UU] at i1 i2
  unfold sgn
  by_cases hi : i < 0
  · have e1 : (i.natAbs : Int) = -i := by omega
    rw [e1] at i1 i2
    simp only [hi, decide_true, if_true]
    constructor <;> grind
  · have e1 : (i.natAbs : Int) = i := by lia
    rw [e1] at i1 i2
    simp only [hi, decide_false, Bool.false_eq_true, if_false]
    constructor <;> grind
theorem ofFrac_near0 {neg : Bool} {n d : Nat} (hd : 0 < d) (h2 : n < d * 32768) : Fi (ofFrac neg n d) ∧ val (ofFrac neg n d) * (d : Int) - sgn neg n * KK ≤ UU * (d : Int) ∧ sgn neg n * KK - val (ofFrac neg n d) * (d : Int) ≤ UU * (d : Int) := by
  revert neg n d hd h2
  intro neg n d hd h2
  have h : Right (ofFrac neg n d) neg (n * 2 ^ 1074) d := ofFrac_right hd rfl hd
  have hlt : n * 2 ^ 1074 < d * 2 ^ 1089 := by
    have e : d * 2 ^ 1089 = d * 32768 * 2 ^ 1074 := by
      rw [Nat.mul_assoc]
    rw [e]
    exact Nat.mul_lt_mul_of_pos_right h2 (Nat.two_pow_pos _)
  refine exI ?_ (right_near hd hlt h)
  intro t
  intro hx9
  obtain ⟨ht, hr, g1, g2⟩ := hx9
  rw [hr, val_pack _ ht]
  refine ⟨fi_pack _ ht, ?_⟩
  have i1 := Int.ofNat_le.mpr g1
  have i2 := Int.ofNat_le.mpr g2
  simp only [Int.natCast_mul, Int.natCast_add, nat_KK, nat_UU] at i1 i2
  unfold sgn
  cases neg <;> simp only [Bool.false_eq_true, if_false, if_true] <;> constructor <;> grind
end Mine
end
section
open PySem PySem.Float64
set_option maxRecDepth 100000
set_option exponentiation.threshold 5000
namespace Mine
/-- the number that a float stands for -/
def kk : Rat := (KK : Rat)
def R (x : UInt64) : Rat := (val x : Rat) / kk
/-- the rounding unit: 2 ^ -38 -/
def uu : Rat := 1 / 274877906944
theorem kk_pos : (0 : Rat) < kk := by
  have := Rat.intCast_lt_intCast.mpr KK_pos
  exact this
theorem uu_kk : (UU : Rat) = uu * kk := by
  have h : KK = UU * 274877906944 := by decide +kernel
  unfold uu kk
  rw [h, Rat.intCast_mul]
  have : ((274877906944 : Int) : Rat) = 274877906944 := rfl
  grind
theorem bb_kk : (BB : Rat) = 32768 * kk := by
  have h : BB = 32768 * KK := by decide +kernel
  unfold kk
  rw [h, Rat.intCast_mul]
  rfl
theorem R_mul (x : UInt64) : R x * kk = (val x : Rat) := Rat.div_mul_cancel (Rat.ne_of_gt kk_pos)
def Near (x : UInt64) (q e : Rat) : Prop := Fi x ∧ R x - q ≤ e ∧ q - R x ≤ e
theorem le_kk {a b : Rat} (h : a * kk ≤ b * kk) : a ≤ b := Rat.le_of_mul_le_mul_right h kk_pos
theorem lt_kk {a b : Rat} (h : a < b) : a * kk < b * kk := Rat.mul_lt_mul_of_pos_right h kk_pos
theorem cle {i j : Int} (h : i ≤ j) : (i : Rat) ≤ (j : Rat) := Rat.intCast_le_intCast.mpr h
theorem clt {i j : Int} (h : (i : Rat) < (j : Rat)) : i < j := Rat.intCast_lt_intCast.mp h
theorem add_R {x y : UInt64} (hx : Fi x) (hy : Fi y) (h1 : -32768 < R x + R y) (h2 : R x + R y < 32768) : Near (add x y) (R x + R y) uu := by
  revert x y hx hy h1 h2
  intro x y hx hy h1 h2
  have b1 : -BB < val x + val y := by
    apply clt
    rw [Rat.intCast_neg, Rat.intCast_add, bb_kk, ← R_mul, ← R_mul]
    have := lt_kk h1
    grind
  have b2 : val x + val y < BB := by
    apply clt
    rw [Rat.intCast_add, bb_kk, ← R_mul, ← R_mul]
    have := lt_kk h2
    grind
  obtain ⟨f, g1, g2⟩ := add_near0 hx hy b1 b2
  have c1 := cle g1
  have c2 := cle g2
  simp only [Rat.intCast_add, Rat.intCast_sub, uu_kk, ← R_mul] at c1 c2
  refine ⟨f, le_kk ?_, le_kk ?_⟩ <;> grind
theorem sub_R {x y : UInt64} (hx : Fi x) (hy : Fi y) (h1 : -32768 < R x - R y) (h2 : R x - R y < 32768) : Near (sub x y) (R x - R y) uu := by
  revert x y hx hy h1 h2
  intro x y hx hy h1 h2
  have b1 : -BB < val x - val y := by
    apply clt
    rw [Rat.intCast_neg, Rat.intCast_sub, bb_kk, ← R_mul, ← R_mul]
    have := lt_kk h1
    grind
  have b2 : val x - val y < BB := by
    apply clt
    rw [Rat.intCast_sub, bb_kk, ← R_mul, ← R_mul]
    have := lt_kk h2
    grind
  obtain ⟨f, g1, g2⟩ := sub_near0 hx hy b1 b2
  have c1 := cle g1
  have c2 := cle g2
  simp only [Rat.intCast_sub, uu_kk, ← R_mul] at c1 c2
  refine ⟨f, le_kk ?_, le_kk ?_⟩ <;> grind
theorem le_kk2 {a b : Rat} (h : a * (kk * kk) ≤ b * (kk * kk)) : a ≤ b := Rat.le_of_mul_le_mul_right h (Rat.mul_pos kk_pos kk_pos)
theorem mul_R {x y : UInt64} (hx : Fi x) (hy : Fi y) (h1 : -32768 < R x * R y) (h2 : R x * R y < 32768) : Near (mul x y) (R x * R y) uu := by
  revert x y hx hy h1 h2
  intro x y hx hy h1 h2
  have hk2 : 0 < kk * kk := Rat.mul_pos kk_pos kk_pos
  have b1 : -(KK * BB) < val x * val y := by
    apply clt
    rw [Rat.intCast_neg, Rat.intCast_mul, Rat.intCast_mul, bb_kk, ← R_mul, ← R_mul]
    have := Rat.mul_lt_mul_of_pos_right h1 hk2
    show -(kk * (32768 * kk)) < _
    grind
  have b2 : val x * val y < KK * BB := by
    apply clt
    rw [Rat.intCast_mul, Rat.intCast_mul, bb_kk, ← R_mul, ← R_mul]
    have := Rat.mul_lt_mul_of_pos_right h2 hk2
    show _ < kk * (32768 * kk)
    grind
  obtain ⟨f, g1, g2⟩ := mul_near0 hx hy b1 b2
  have c1 := cle g1
  have c2 := cle g2
  simp only [Rat.intCast_sub, Rat.intCast_mul, uu_kk, ← R_mul] at c1 c2
  have ek : (KK : Rat) = kk := rfl
  rw [ek] at c1 c2
  refine ⟨f, le_kk2 ?_, le_kk2 ?_⟩ <;> grind
theorem natAbs_pos_R {y : UInt64} (h : 0 < R y) : 0 < val y := by
  apply clt
  rw [← R_mul]
  have := Rat.mul_pos h kk_pos
  show (0 : Rat) < _
  exact this
theorem div_R {x y : UInt64} (hx : Fi x) (hy : Fi y) (hy0 : 0 < R y) (h1 : -(32768 * R y) < R x) (h2 : R x < 32768 * R y) :
    Fi (div x y) ∧ R (div x y) * R y - R x ≤ uu * R y ∧ R x - R (div x y) * R y ≤ uu * R y := by
  revert x y hx hy hy0 h1 h2
  intro x y hx hy hy0 h1 h2
  have hv := natAbs_pos_R hy0
  have hna : ((val y).natAbs : Int) = val y := by lia
  have hk2 : 0 < kk * kk := Rat.mul_pos kk_pos kk_pos
  have b1 : val x * KK < val y * BB := by
    apply clt
    rw [Rat.intCast_mul, Rat.intCast_mul, bb_kk, ← R_mul, ← R_mul]
    have := Rat.mul_lt_mul_of_pos_right h2 hk2
    show R x * kk * kk < _
    grind
  have b2 : -(val x) * KK < val y * BB := by
    apply clt
    rw [Rat.intCast_mul, Rat.intCast_neg, Rat.intCast_mul, bb_kk, ← R_mul, ← R_mul]
    have := Rat.mul_lt_mul_of_pos_right h1 hk2
    show -(R x * kk) * kk < _
    grind
  have b3 : ((val x).natAbs : Int) * KK < ((val y).natAbs : Int) * BB := by
    rw [hna]
    rcases Int.natAbs_eq (val x) with e | e
    · rw [← e]; exact b1
    · have e' : ((val x).natAbs : Int) = -(val x) := by lia
      rw [e']; exact b2
  obtain ⟨f, g1, g2⟩ := div_near0 hx hy (by lia) b3
  rw [hna] at g1 g2
  have c1 := cle g1
  have c2 := cle g2
  simp only [Rat.intCast_sub, Rat.intCast_mul, uu_kk, ← R_mul] at c1 c2
  have ek : (KK : Rat) = kk := rfl
  rw [ek] at c1 c2
  refine ⟨f, le_kk2 ?_, le_kk2 ?_⟩ <;> grind
theorem ofInt_R {i : Int} (h1 : -32768 < i) (h2 : i < 32768) : Near (ofInt i) (i : Rat) uu := by
  revert i h1 h2
  intro i h1 h2
  obtain ⟨f, g1, g2⟩ := ofInt_near0 h1 h2
  have c1 := cle g1
  have c2 := cle g2
  simp only [Rat.intCast_sub, Rat.intCast_mul, uu_kk, ← R_mul] at c1 c2
  have ek : (KK : Rat) = kk := rfl
  rw [ek] at c1 c2
  refine ⟨f, le_kk ?_, le_kk ?_⟩ <;> grind
theorem ofFrac_R {n d : Nat} (hd : 0 < d) (h2 : n < d * 32768) : Fi (ofFrac false n d) ∧ R (ofFrac false n d) * (d : Rat) - (n : Rat) ≤ uu * (d : Rat) ∧ (n : Rat) - R (ofFrac false n d) * (d : Rat) ≤ uu * (d : Rat) := by
  revert n d hd h2
  intro n d hd h2
  obtain ⟨f, g1, g2⟩ := ofFrac_near0 (neg := false) hd h2
  have e0 : sgn false n = (n : Int) := rfl
  rw [e0] at g1 g2
  have c1 := cle g1
  have c2 := cle g2
  simp only [Rat.intCast_sub, Rat.intCast_mul, uu_kk, ← R_mul] at c1 c2
  have ek : (KK : Rat) = kk := rfl
  have ed : (((d : Nat) : Int) : Rat) = (d : Rat) := Rat.intCast_natCast d
  have en : (((n : Nat) : Int) : Rat) = (n : Rat) := Rat.intCast_natCast n
  rw [ek, ed, en] at c1 c2
  refine ⟨f, le_kk ?_, le_kk ?_⟩ <;> grind
theorem cmp_R {x y : UInt64} (hx : Fi x) (hy : Fi y) : (cmp x y == some .lt) = true ↔ R x < R y := by
  revert x y hx hy
  intro x y hx hy
  obtain ⟨a, m, e, hx⟩ := hx
  obtain ⟨b, k, f, hy⟩ := hy
  rw [cmp_right hx hy]
  have h1 : ((some (compare (val x) (val y)) == some Ordering.lt) = true) ↔ val x < val y := by
    rw [beq_iff_eq, Option.some.injEq]
    exact Int.compare_eq_lt
  rw [h1]
  constructor
  · intro h
    have := Rat.intCast_lt_intCast.mpr h
    rw [← R_mul, ← R_mul] at this
    exact (Rat.mul_lt_mul_right kk_pos).mp this
  · intro h
    apply clt
    rw [← R_mul, ← R_mul]
    exact (Rat.mul_lt_mul_right kk_pos).mpr h
end Mine
end
section
open PySem PySem.Float64
set_option maxRecDepth 100000
set_option exponentiation.threshold 5000
namespace Mine
def toI (x : UInt64) : Int := match decode x with
  | .fin s m e => nearestOf s m e
  | _ => 0
theorem halfEven_mid {n d : Nat} (hd : 0 < d) : 2 * (d * halfEven n d) ≤ 2 * n + d ∧ 2 * n ≤ 2 * (d * halfEven n d) + d := by
  have h1 := Nat.div_add_mod n d
  have h2 := Nat.mod_lt n hd
  unfold halfEven
  simp only
  split
  · rename_i h
    have h3 : d ≤ 2 * (n % d) := by
      simp only [Bool.or_eq_true, Bool.and_eq_true, decide_eq_true_eq, beq_iff_eq] at h
      omega
    rw [Nat.mul_add, Nat.mul_one]
    generalize d * (n / d) = p at *
    omega
  · rename_i h
    have h3 : 2 * (n % d) ≤ d := by
      simp only [Bool.or_eq_true, Bool.and_eq_true, decide_eq_true_eq, beq_iff_eq] at h
      omega
    generalize d * (n / d) = p at *
    omega
theorem near_mid {x : UInt64} (hx : Fi x) : R x - (toI x : Rat) ≤ 1 / 2 ∧ (toI x : Rat) - R x ≤ 1 / 2 := by
  obtain ⟨s, m, e, hd⟩ := hx
  have he := decode_ge hd
  have e0 : toI x = sgn s (halfEven (shift m 1 e).1 (shift m 1 e).2) := by unfold toI; rw [hd]; rfl
  have hs := shift_one m e 1074 (by omega)
  have hp : 0 < (shift m 1 e).2 := shift_pos m 1 e (by decide)
  have hs : (shift m 1 e).1 * 2 ^ 1074 = (val x).natAbs * (shift m 1 e).2 := by rw [val_natAbs hd]; exact hs
  have hm := halfEven_mid (n := (shift m 1 e).1) hp
  generalize halfEven (shift m 1 e).1 (shift m 1 e).2 = h at *
  generalize (shift m 1 e).1 = n at *
  generalize (shift m 1 e).2 = d at *
  have hsv := sgn_abs hd
  generalize (val x).natAbs = a at *
  -- 2 h K ≤ 2 a + K and 2 a ≤ 2 h K + K
  have k1 : d * (2 * (h * 2 ^ 1074)) ≤ d * (2 * a + 2 ^ 1074) := by
    have := Nat.mul_le_mul_right (2 ^ 1074) hm.1
    have e1 : d * (2 * (h * 2 ^ 1074)) = 2 * (d * h) * 2 ^ 1074 := by ac_rfl
    have e2 : d * (2 * a + 2 ^ 1074) = (2 * n + d) * 2 ^ 1074 := by
      rw [Nat.mul_add, Nat.add_mul, Nat.mul_assoc 2 n, hs]; ac_rfl
    rw [e1, e2]; exact this
  have k2 : d * (2 * a) ≤ d * (2 * (h * 2 ^ 1074) + 2 ^ 1074) := by
    have := Nat.mul_le_mul_right (2 ^ 1074) hm.2
    have e1 : d * (2 * a) = 2 * n * 2 ^ 1074 := by rw [Nat.mul_assoc 2 n, hs]; ac_rfl
    have e2 : d * (2 * (h * 2 ^ 1074) + 2 ^ 1074) = (2 * (d * h) + d) * 2 ^ 1074 := by
      rw [Nat.mul_add, Nat.add_mul]; ac_rfl
    rw [e1, e2]; exact this
  have k1' := Nat.le_of_mul_le_mul_left k1 hp
  have k2' := Nat.le_of_mul_le_mul_left k2 hp
  have i1 := Int.ofNat_le.mpr k1'
  have i2 := Int.ofNat_le.mpr k2'
  simp only [Int.natCast_mul, Int.natCast_add, nat_KK] at i1 i2
  have c1 := cle i1
  have c2 := cle i2
  have ek : (KK : Rat) = kk := rfl
  have e2 : ((2 : Nat) : Int) = 2 := rfl
  have e3 : ((2 : Int) : Rat) = 2 := rfl
  simp only [Rat.intCast_add, Rat.intCast_mul, ek, e2, e3] at c1 c2
  have hR := R_mul x
  rw [hsv] at hR
  rw [e0]
  unfold sgn at hR ⊢
  cases s
  · simp only [Bool.false_eq_true, if_false] at hR ⊢
    refine ⟨le_kk ?_, le_kk ?_⟩ <;> grind
  · simp only [if_true, Rat.intCast_neg] at hR ⊢
    refine ⟨le_kk ?_, le_kk ?_⟩ <;> grind
theorem near_int {x : UInt64} {i : Int} (hx : Fi x) (h1 : R x - (i : Rat) < 1 / 2) (h2 : (i : Rat) - R x < 1 / 2) : toI x = i := by
  obtain ⟨g1, g2⟩ := near_mid hx
  have a1 : ((toI x : Int) : Rat) < ((i + 1 : Int) : Rat) := by
    rw [Rat.intCast_add]; have : ((1 : Int) : Rat) = 1 := rfl
    grind
  have a2 : ((i : Int) : Rat) < ((toI x + 1 : Int) : Rat) := by
    rw [Rat.intCast_add]; have : ((1 : Int) : Rat) = 1 := rfl
    grind
  have b1 := clt a1
  have b2 := clt a2
  lia
end Mine
end
section
open PySem PySem.Float64
set_option maxRecDepth 100000
set_option exponentiation.threshold 5000
namespace Mine
theorem uu_pos : (0 : Rat) < uu := by unfold uu; decide +kernel
theorem uu_small : uu * 274877906944 = 1 := by unfold uu; decide +kernel
theorem prod_le {u v a b : Rat} (h1 : -a ≤ u) (h2 : u ≤ a) (h3 : -b ≤ v) (h4 : v ≤ b) : u * v ≤ a * b ∧ -(a * b) ≤ u * v := by
  have p1 := Rat.mul_nonneg (show 0 ≤ a - u by grind) (show 0 ≤ b + v by grind)
  have p2 := Rat.mul_nonneg (show 0 ≤ a + u by grind) (show 0 ≤ b - v by grind)
  have p3 := Rat.mul_nonneg (show 0 ≤ a - u by grind) (show 0 ≤ b - v by grind)
  have p4 := Rat.mul_nonneg (show 0 ≤ a + u by grind) (show 0 ≤ b + v by grind)
  constructor <;> grind
/-- near, and bounded -/
structure Nb (x : UInt64) (q e B : Rat) : Prop where
  fi : Fi x
  lo : q - R x ≤ e
  hi : R x - q ≤ e
  qlo : -B ≤ q
  qhi : q ≤ B
theorem Nb.add {x y : UInt64} {p q a b P Q : Rat} (hx : Nb x p a P) (hy : Nb y q b Q) (h : P + Q + a + b < 32768) : Nb (add x y) (p + q) (a + b + uu) (P + Q) := by
  obtain ⟨f1, l1, u1, m1, n1⟩ := hx
  obtain ⟨f2, l2, u2, m2, n2⟩ := hy
  obtain ⟨f, g1, g2⟩ := add_R f1 f2 (by grind) (by grind)
  exact ⟨f, by grind, by grind, by grind, by grind⟩
theorem Nb.sub {x y : UInt64} {p q a b P Q : Rat} (hx : Nb x p a P) (hy : Nb y q b Q) (h : P + Q + a + b < 32768) : Nb (sub x y) (p - q) (a + b + uu) (P + Q) := by
  obtain ⟨f1, l1, u1, m1, n1⟩ := hx
  obtain ⟨f2, l2, u2, m2, n2⟩ := hy
  obtain ⟨f, g1, g2⟩ := sub_R f1 f2 (by grind) (by grind)
  exact ⟨f, by grind, by grind, by grind, by grind⟩
theorem Nb.mul {x y : UInt64} {p q a b P Q : Rat} (hx : Nb x p a P) (hy : Nb y q b Q) (h : P * Q + (P * b + Q * a + a * b) < 32768) : Nb (mul x y) (p * q) (P * b + Q * a + a * b + uu) (P * Q) := by
  obtain ⟨f1, l1, u1, m1, n1⟩ := hx
  obtain ⟨f2, l2, u2, m2, n2⟩ := hy
  have e : R x * R y - p * q = (R x - p) * (R y - q) + p * (R y - q) + q * (R x - p) := by grind
  have k1 := prod_le (u := R x - p) (v := R y - q) (a := a) (b := b) (by grind) (by grind) (by grind) (by grind)
  have k2 := prod_le (u := p) (v := R y - q) (a := P) (b := b) (by grind) (by grind) (by grind) (by grind)
  have k3 := prod_le (u := q) (v := R x - p) (a := Q) (b := a) (by grind) (by grind) (by grind) (by grind)
  have k4 := prod_le (u := p) (v := q) (a := P) (b := Q) (by grind) (by grind) (by grind) (by grind)
  obtain ⟨f, g1, g2⟩ := mul_R f1 f2 (by grind) (by grind)
  exact ⟨f, by grind, by grind, by grind, by grind⟩
theorem Nb.weak {x : UInt64} {q e e' B B' : Rat} (h : Nb x q e B) (he : e ≤ e') (hl : -B' ≤ q) (hu : q ≤ B') : Nb x q e' B' :=
  ⟨h.fi, by have := h.lo; grind, by have := h.hi; grind, hl, hu⟩
/-- a written constant n / d -/
theorem const_nb {x : UInt64} {n d : Int} (hd : 0 < d) (hf : isFinite x = true) (h1 : val x * d - n * KK ≤ UU * d) (h2 : n * KK - val x * d ≤ UU * d) (hn : 0 ≤ n) (hn2 : n ≤ d) : Nb x ((n : Rat) / (d : Rat)) uu 1 := by
  have hfi : Fi x := by
    unfold isFinite at hf
    split at hf
    · exact ⟨_, _, _, by assumption⟩
    · cases hf
  have hd' : (0 : Rat) < (d : Rat) := by have := Rat.intCast_lt_intCast.mpr hd; exact this
  have hdk : 0 < (d : Rat) * kk := Rat.mul_pos hd' kk_pos
  have c1 := cle h1
  have c2 := cle h2
  have c3 := cle hn
  have c4 := cle hn2
  simp only [Rat.intCast_sub, Rat.intCast_mul, uu_kk, ← R_mul] at c1 c2
  have ek : (KK : Rat) = kk := rfl
  rw [ek] at c1 c2
  have e0 : ((n : Rat) / (d : Rat)) * (d : Rat) = (n : Rat) := Rat.div_mul_cancel (Rat.ne_of_gt hd')
  have ez : ((0 : Int) : Rat) = 0 := rfl
  rw [ez] at c3
  generalize (n : Rat) / (d : Rat) = q at *
  rw [← e0] at c1 c2
  clear h1 h2
  refine ⟨hfi, ?_, ?_, ?_, ?_⟩
  · refine Rat.le_of_mul_le_mul_right (c := (d : Rat) * kk) ?_ hdk
    grind
  · refine Rat.le_of_mul_le_mul_right (c := (d : Rat) * kk) ?_ hdk
    grind
  · refine Rat.le_of_mul_le_mul_right (c := (d : Rat)) ?_ hd'
    grind
  · refine Rat.le_of_mul_le_mul_right (c := (d : Rat)) ?_ hd'
    grind
theorem int_nb {i : Int} (h0 : 0 ≤ i) (h1 : i < 64) : Nb (ofInt i) (i : Rat) uu 63 := by
  revert i h0 h1
  intro i h0 h1
  obtain ⟨f, g1, g2⟩ := ofInt_R (i := i) (by omega) (by omega)
  have c1 := cle h0
  have c2 := cle (show i ≤ 63 by omega)
  have e1 : ((0 : Int) : Rat) = 0 := rfl
  have e2 : ((63 : Int) : Rat) = 63 := rfl
  rw [e1] at c1
  rw [e2] at c2
  exact ⟨f, g2, g1, by grind, c2⟩
theorem c30 : Nb 4599075939470750515 (3 / 10) uu 1 := const_nb (n := 3) (d := 10) (by decide) (by decide +kernel) (by decide +kernel) (by decide +kernel) (by decide) (by decide)
theorem c59 : Nb 4603489467105573601 (59 / 100) uu 1 := const_nb (n := 59) (d := 100) (by decide) (by decide +kernel) (by decide +kernel) (by decide +kernel) (by decide) (by decide)
theorem c11 : Nb 4592590756007337001 (11 / 100) uu 1 := const_nb (n := 11) (d := 100) (by decide) (by decide +kernel) (by decide +kernel) (by decide +kernel) (by decide) (by decide)
theorem c74 : Nb 4604840546993784750 (74 / 100) uu 1 := const_nb (n := 74) (d := 100) (by decide) (by decide +kernel) (by decide +kernel) (by decide +kernel) (by decide) (by decide)
theorem c27 : Nb 4598535507515466056 (27 / 100) uu 1 := const_nb (n := 27) (d := 100) (by decide) (by decide +kernel) (by decide +kernel) (by decide +kernel) (by decide) (by decide)
theorem c48 : Nb 4602318531202457272 (48 / 100) uu 1 := const_nb (n := 48) (d := 100) (by decide) (by decide +kernel) (by decide +kernel) (by decide +kernel) (by decide) (by decide)
theorem c41 : Nb 4601057523306793533 (41 / 100) uu 1 := const_nb (n := 41) (d := 100) (by decide) (by decide +kernel) (by decide +kernel) (by decide +kernel) (by decide) (by decide)
theorem cdd : Nb 4598273758305123282 (25547 / 100000) uu 1 := const_nb (n := 25547) (d := 100000) (by decide) (by decide +kernel) (by decide +kernel) (by decide +kernel) (by decide) (by decide)
/-! the crossing -/
def yF' (r g b : Int) : UInt64 := add (add (mul 4599075939470750515 (ofInt r)) (mul 4603489467105573601 (ofInt g))) (mul 4592590756007337001 (ofInt b))
def ryF' (r g b : Int) : UInt64 := sub (ofInt r) (yF' r g b)
def byF' (r g b : Int) : UInt64 := sub (ofInt b) (yF' r g b)
def iF' (r g b : Int) : UInt64 := sub (mul 4604840546993784750 (ryF' r g b)) (mul 4598535507515466056 (byF' r g b))
def qF' (r g b : Int) : UInt64 := add (mul 4602318531202457272 (ryF' r g b)) (mul 4601057523306793533 (byF' r g b))
theorem uu2 : uu * uu ≤ uu := by
  have hu := uu_pos
  have hs := uu_small
  have := Rat.mul_le_mul_of_nonneg_left (a := uu) (b := 1) (c := uu) (by grind) (by grind)
  grind
theorem y_nb {r g b : Int} (r0 : 0 ≤ r) (r1 : r < 64) (g0 : 0 ≤ g) (g1 : g < 64) (b0 : 0 ≤ b) (b1 : b < 64) :
    Nb (yF' r g b) (3 / 10 * (r : Rat) + 59 / 100 * (g : Rat) + 11 / 100 * (b : Rat)) (210 * uu) 63 := by
  have hu := uu_pos
  have hs := uu_small
  have h2 : uu * uu ≤ uu := by
    have := Rat.mul_le_mul_of_nonneg_left (a := uu) (b := 1) (c := uu) (by grind) (by grind)
    grind
  have nr := int_nb r0 r1
  have ng := int_nb g0 g1
  have nb := int_nb b0 b1
  have m1 := c30.mul nr (by grind)
  have m2 := c59.mul ng (by grind)
  have m3 := c11.mul nb (by grind)
  have s1 := (m1.add m2 (by grind)).add m3 (by grind)
  have q1 := nr.qhi
  have q2 := ng.qhi
  have q3 := nb.qhi
  have p1 := Rat.intCast_le_intCast.mpr r0
  have p2 := Rat.intCast_le_intCast.mpr g0
  have p3 := Rat.intCast_le_intCast.mpr b0
  have ez : ((0 : Int) : Rat) = 0 := rfl
  rw [ez] at p1 p2 p3
  exact s1.weak (by grind) (by grind) (by grind)
def yR (r g b : Int) : Rat := 3 / 10 * (r : Rat) + 59 / 100 * (g : Rat) + 11 / 100 * (b : Rat)
def iR (r g b : Int) : Rat := 74 / 100 * ((r : Rat) - yR r g b) - 27 / 100 * ((b : Rat) - yR r g b)
def qR (r g b : Int) : Rat := 48 / 100 * ((r : Rat) - yR r g b) + 41 / 100 * ((b : Rat) - yR r g b)
theorem yR_bd {r g b : Int} (r0 : 0 ≤ r) (r1 : r < 64) (g0 : 0 ≤ g) (g1 : g < 64) (b0 : 0 ≤ b) (b1 : b < 64) : 0 ≤ yR r g b ∧ yR r g b ≤ 63 := by
  have q1 := (int_nb r0 r1).qhi
  have q2 := (int_nb g0 g1).qhi
  have q3 := (int_nb b0 b1).qhi
  have p1 := Rat.intCast_le_intCast.mpr r0
  have p2 := Rat.intCast_le_intCast.mpr g0
  have p3 := Rat.intCast_le_intCast.mpr b0
  have ez : ((0 : Int) : Rat) = 0 := rfl
  rw [ez] at p1 p2 p3
  unfold yR
  constructor <;> grind
theorem iq_nb {r g b : Int} (r0 : 0 ≤ r) (r1 : r < 64) (g0 : 0 ≤ g) (g1 : g < 64) (b0 : 0 ≤ b) (b1 : b < 64) :
    Nb (iF' r g b) (iR r g b) (1000 * uu) 64 ∧ Nb (qF' r g b) (qR r g b) (1000 * uu) 64 := by
  have hu := uu_pos
  have hs := uu_small
  have h2 := uu2
  have nr := int_nb r0 r1
  have nb := int_nb b0 b1
  have ny : Nb (yF' r g b) (yR r g b) (210 * uu) 63 := y_nb r0 r1 g0 g1 b0 b1
  obtain ⟨y0, y1⟩ := yR_bd r0 r1 g0 g1 b0 b1
  have q1 := nr.qhi
  have q3 := nb.qhi
  have p1 := Rat.intCast_le_intCast.mpr r0
  have p3 := Rat.intCast_le_intCast.mpr b0
  have ez : ((0 : Int) : Rat) = 0 := rfl
  rw [ez] at p1 p3
  have ry : Nb (ryF' r g b) ((r : Rat) - yR r g b) (212 * uu) 63 := (nr.sub ny (by grind)).weak (by grind) (by grind) (by grind)
  have by' : Nb (byF' r g b) ((b : Rat) - yR r g b) (212 * uu) 63 := (nb.sub ny (by grind)).weak (by grind) (by grind) (by grind)
  have m1 := c74.mul ry (by grind)
  have m2 := c27.mul by' (by grind)
  have m3 := c48.mul ry (by grind)
  have m4 := c41.mul by' (by grind)
  constructor
  · exact (m1.sub m2 (by grind)).weak (by grind) (by grind) (by grind)
  · exact (m3.add m4 (by grind)).weak (by grind) (by grind) (by grind)
def detR (r g b r' g' b' : Int) : Int := (r - b) * (g' - b') - (g - b) * (r' - b')
theorem cross_exact (r g b r' g' b' : Int) : qR r g b * iR r' g' b' - iR r g b * qR r' g' b' = 25547 / 100000 * ((detR r g b r' g' b' : Int) : Rat) := by
  unfold qR iR yR detR
  simp only [Rat.intCast_sub, Rat.intCast_mul]
  grind
def crossQ' (r g b r' g' b' : Int) : UInt64 := div (sub (mul (qF' r g b) (iF' r' g' b')) (mul (iF' r g b) (qF' r' g' b'))) 4598273758305123282
theorem det_bd {r g b r' g' b' : Int} (r0 : 0 ≤ r) (r1 : r < 64) (g0 : 0 ≤ g) (g1 : g < 64) (b0 : 0 ≤ b) (b1 : b < 64) (r0' : 0 ≤ r') (r1' : r' < 64) (g0' : 0 ≤ g') (g1' : g' < 64) (b0' : 0 ≤ b') (b1' : b' < 64) : -8000 ≤ detR r g b r' g' b' ∧ detR r g b r' g' b' ≤ 8000 := by
  have pr : ∀ u v : Int, -63 ≤ u → u ≤ 63 → -63 ≤ v → v ≤ 63 → -3969 ≤ u * v ∧ u * v ≤ 3969 := by
    intro u v h1 h2 h3 h4
    have p1 := Int.mul_nonneg (show 0 ≤ 63 - u by omega) (show 0 ≤ 63 + v by omega)
    have p2 := Int.mul_nonneg (show 0 ≤ 63 + u by omega) (show 0 ≤ 63 - v by omega)
    have p3 := Int.mul_nonneg (show 0 ≤ 63 - u by omega) (show 0 ≤ 63 - v by omega)
    have p4 := Int.mul_nonneg (show 0 ≤ 63 + u by omega) (show 0 ≤ 63 + v by omega)
    constructor <;> grind
  have a := pr (r - b) (g' - b') (by omega) (by omega) (by omega) (by omega)
  have c := pr (g - b) (r' - b') (by omega) (by omega) (by omega) (by omega)
  unfold detR
  omega
theorem cross_fin {N C d D : Rat} (g1 : d * C - N ≤ uu * C) (g2 : N - d * C ≤ uu * C) (s1 : 25547 / 100000 * D - N ≤ 3000000 * uu) (s2 : N - 25547 / 100000 * D ≤ 3000000 * uu) (c1 : 25547 / 100000 - C ≤ uu) (c2 : C - 25547 / 100000 ≤ uu)
    (p1 : D * (25547 / 100000 - C) ≤ 8000 * uu) (p2 : -(8000 * uu) ≤ D * (25547 / 100000 - C)) : (d - D) * C < 1 / 2 * C ∧ (D - d) * C < 1 / 2 * C := by
  have hu := uu_pos
  have hs := uu_small
  have h3 : uu * C ≤ uu * 1 := Rat.mul_le_mul_of_nonneg_left (by grind) (by grind)
  constructor <;> grind
theorem cross_nb {r g b r' g' b' : Int} (r0 : 0 ≤ r) (r1 : r < 64) (g0 : 0 ≤ g) (g1 : g < 64) (b0 : 0 ≤ b) (b1 : b < 64) (r0' : 0 ≤ r') (r1' : r' < 64) (g0' : 0 ≤ g') (g1' : g' < 64) (b0' : 0 ≤ b') (b1' : b' < 64) :
    Fi (crossQ' r g b r' g' b') ∧ toI (crossQ' r g b r' g' b') = detR r g b r' g' b' := by
  revert r g b r' g' b' r0 r1 g0 g1 b0 b1 r0' r1' g0' g1' b0' b1'
  intro r g b r' g' b' r0 r1 g0 g1 b0 b1 r0' r1' g0' g1' b0' b1'
  have hu := uu_pos
  have hs := uu_small
  have h2 := uu2
  obtain ⟨ni, nq⟩ := iq_nb r0 r1 g0 g1 b0 b1
  obtain ⟨ni', nq'⟩ := iq_nb r0' r1' g0' g1' b0' b1'
  obtain ⟨d0, d1⟩ := det_bd r0 r1 g0 g1 b0 b1 r0' r1' g0' g1' b0' b1'
  have d0' := Rat.intCast_le_intCast.mpr d0
  have d1' := Rat.intCast_le_intCast.mpr d1
  have e8 : ((8000 : Int) : Rat) = 8000 := rfl
  have e9 : ((-8000 : Int) : Rat) = -8000 := rfl
  rw [e9] at d0'
  rw [e8] at d1'
  have m1 := nq.mul ni' (by grind)
  have m2 := ni.mul nq' (by grind)
  have sn := m1.sub m2 (by grind)
  rw [cross_exact] at sn
  have hc := cdd
  have hcl := hc.lo
  have hch := hc.hi
  have snl := sn.lo
  have snh := sn.hi
  have hk := div_R (x := sub (mul (qF' r g b) (iF' r' g' b')) (mul (iF' r g b) (qF' r' g' b'))) (y := 4598273758305123282) sn.fi hc.fi (by grind) (by grind) (by grind)
  obtain ⟨f, g1, g2⟩ := hk
  have fi : Fi (crossQ' r g b r' g' b') := f
  obtain ⟨D, hD⟩ : ∃ D : Rat, D = ((detR r g b r' g' b' : Int) : Rat) := ⟨_, rfl⟩
  rw [← hD] at sn d0' d1' snl snh
  have ed : R (crossQ' r g b r' g' b') = R (div (sub (mul (qF' r g b) (iF' r' g' b')) (mul (iF' r g b) (qF' r' g' b'))) 4598273758305123282) := rfl
  rw [← ed] at g1 g2
  generalize R (sub (mul (qF' r g b) (iF' r' g' b')) (mul (iF' r g b) (qF' r' g' b'))) = N at *
  generalize hC : R 4598273758305123282 = C at *
  generalize hd : R (crossQ' r g b r' g' b') = d at *
  have pd := prod_le (u := D) (v := 25547 / 100000 - C) (a := 8000) (b := uu) d0' d1' (by grind) (by grind)
  have hCp : 0 < C := by grind
  have E1 : 64 * (1000 * uu) + 64 * (1000 * uu) + 1000 * uu * (1000 * uu) + uu + (64 * (1000 * uu) + 64 * (1000 * uu) + 1000 * uu * (1000 * uu) + uu) + uu ≤ 3000000 * uu := by
    clear ni nq ni' nq' m1 m2 sn snl snh hc
    grind
  have fin := cross_fin g1 g2 (Rat.le_trans snl E1) (Rat.le_trans snh E1) hcl hch pd.1 pd.2
  refine ⟨fi, near_int fi ?_ ?_⟩
  · rw [hd, ← hD]
    exact Rat.lt_of_mul_lt_mul_right (c := C) fin.1 (Rat.le_of_lt hCp)
  · rw [hd, ← hD]
    exact Rat.lt_of_mul_lt_mul_right (c := C) fin.2 (Rat.le_of_lt hCp)
end Mine
end
section
open PySem PySem.Float64
set_option maxRecDepth 100000
set_option exponentiation.threshold 5000
namespace Mine
theorem ofBin_near {a : Bool} {M : Nat} {g : Int} (hg : -1074 ≤ g) (hM : M * 2 ^ (g + 1074).toNat < 2 ^ 1089) :
    ∃ t, t < infMag ∧ ofBin a M g = pack a t ∧ V t ≤ M * 2 ^ (g + 1074).toNat + 2 ^ 1036 ∧ M * 2 ^ (g + 1074).toNat ≤ V t + 2 ^ 1036 := by
  revert a M g hg hM
  intro a M g hg hM
  have h : Right (ofBin a M g) a (M * 2 ^ (g + 1074).toNat) 1 := by
    unfold ofBin
    refine ofFrac_right (shift_pos _ _ _ (by decide)) ?_ (by decide)
    have := shift_one M g 1074 (by omega)
    rw [Nat.mul_one]
    exact this
  refine exI ?_ (right_near (by decide) (by rw [Nat.one_mul]; exact hM) h)
  intro t
  intro hx9
  obtain ⟨ht, hr, g1, g2⟩ := hx9
  rw [Nat.one_mul, Nat.one_mul] at g1 g2
  exact ⟨t, ht, hr, g1, g2⟩
theorem one_dec : decode 4607182418800017408 = .fin false (2 ^ 52) (-52) := by with_unfolding_all rfl
theorem tn_add {e g k : Int} (h1 : g ≤ e) (h2 : 0 ≤ g + k) : (e + k).toNat = (e - g).toNat + (g + k).toNat := by omega
theorem fmod_near {x : UInt64} {a : Bool} {m : Nat} {e : Int} (hd : decode x = .fin a m e) :
    ∃ t, t < infMag ∧ fmod x 4607182418800017408 = pack a t ∧ V t ≤ (val x).natAbs % 2 ^ 1074 + 2 ^ 1036 ∧ (val x).natAbs % 2 ^ 1074 ≤ V t + 2 ^ 1036 := by
  revert x a m e hd
  intro x a m e hd
  have he := decode_ge hd
  have hf : fmod x 4607182418800017408 = ofBin a (m * 2 ^ (e - min e (-52)).toNat % (2 ^ 52 * 2 ^ (-52 - min e (-52)).toNat)) (min e (-52)) := by
    unfold fmod
    rw [hd, one_dec]
    simp only [align, sgn, Bool.false_eq_true, if_false, Int.toNat_natCast]
    rw [if_neg (by decide)]
  rw [hf]
  have hg : -1074 ≤ min e (-52) := Int.le_min.mpr ⟨he, by decide⟩
  have hg' : 0 ≤ min e (-52) + 1074 := Int.add_le_add_right hg 1074
  have e1 : (e + 1074).toNat = (e - min e (-52)).toNat + (min e (-52) + 1074).toNat := tn_add (Int.min_le_left ..) hg'
  have e2 : 1022 = (-52 - min e (-52)).toNat + (min e (-52) + 1074).toNat := tn_add (e := -52) (Int.min_le_right ..) hg'
  have hx : (val x).natAbs = m * 2 ^ (e - min e (-52)).toNat * 2 ^ (min e (-52) + 1074).toNat := by
    rw [val_natAbs hd, e1, Nat.pow_add, Nat.mul_assoc]
  have hk : 2 ^ 1074 = 2 ^ 52 * 2 ^ (-52 - min e (-52)).toNat * 2 ^ (min e (-52) + 1074).toNat := by
    rw [Nat.mul_assoc, ← Nat.pow_add, ← e2, ← Nat.pow_add]
  have hm : (val x).natAbs % 2 ^ 1074 = m * 2 ^ (e - min e (-52)).toNat % (2 ^ 52 * 2 ^ (-52 - min e (-52)).toNat) * 2 ^ (min e (-52) + 1074).toNat := by
    rw [hx, hk, Nat.mul_mod_mul_right]
  rw [hm]
  refine ofBin_near hg ?_
  rw [← hm]
  exact Nat.lt_of_lt_of_le (Nat.mod_lt _ (Nat.two_pow_pos _)) (Nat.pow_le_pow_right (by decide) (by decide))
def modF' (x : UInt64) : UInt64 := (divmod x 4607182418800017408).2
theorem isZero_pack {a : Bool} {t : Nat} (ht : t < infMag) : (isZero (pack a t) = true → V t = 0) ∧ (isZero (pack a t) = false → 0 < V t) := by
  revert a t ht
  intro a t ht
  refine exI ?_ (decode_pack a ht)
  intro m
  refine exI ?_
  intro e
  intro hx9
  obtain ⟨hd, hv⟩ := hx9
  unfold isZero
  rw [hd]
  cases m with
  | zero => exact ⟨fun _ => (by rw [← hv, Nat.zero_mul]), fun h => absurd (show true = false from h) (by decide)⟩
  | succ m => exact ⟨fun h => absurd (show false = true from h) (by decide), fun _ => (by rw [← hv]; exact Nat.mul_pos (Nat.succ_pos _) (Nat.two_pow_pos _))⟩
theorem one_nb : Nb 4607182418800017408 1 uu 1 := by
  have := const_nb (x := 4607182418800017408) (n := 1) (d := 1) (by decide) (by decide +kernel) (by decide +kernel) (by decide +kernel) (by decide) (by decide)
  have e : (((1 : Int) : Rat) / ((1 : Int) : Rat)) = 1 := by decide +kernel
  rw [e] at this
  exact this
theorem R_zero (s : Bool) : R (zero s) = 0 := by
  have h := R_mul (zero s)
  rw [val_zero] at h
  have e : ((0 : Int) : Rat) = 0 := rfl
  rw [e] at h
  exact Rat.le_antisymm (le_kk (by grind)) (le_kk (by grind))
theorem mod_R {x : UInt64} (hx : Fi x) : Fi (modF' x) ∧ (∃ n : Int, R (modF' x) - (R x - (n : Rat)) ≤ 3 * uu ∧ (R x - (n : Rat)) - R (modF' x) ≤ 3 * uu) ∧ -(3 * uu) ≤ R (modF' x) ∧ R (modF' x) ≤ 1 + 3 * uu := by
  revert x hx
  intro x hx
  refine exI ?_ (hx)
  intro a
  refine exI ?_
  intro m
  refine exI ?_
  intro e
  intro hd
  obtain ⟨t, ht, hf, g1, g2⟩ := fmod_near hd
  have hu := uu_pos
  have hs := uu_small
  have hsv := sgn_abs hd
  have hdm := Nat.div_add_mod (val x).natAbs (2 ^ 1074)
  have hml := Nat.mod_lt (val x).natAbs (Nat.two_pow_pos 1074)
  have hz := isZero_pack (a := a) ht
  have hR := R_mul x
  have i1 := cle (Int.ofNat_le.mpr g1)
  have i2 := cle (Int.ofNat_le.mpr g2)
  have i3 := cle (Int.ofNat_le.mpr (Nat.le_of_lt hml))
  have i4 := cle (Int.ofNat_le.mpr (Nat.zero_le ((val x).natAbs % 2 ^ 1074)))
  have i5 : (((val x).natAbs : Nat) : Int) = KK * (((val x).natAbs / 2 ^ 1074 : Nat) : Int) + (((val x).natAbs % 2 ^ 1074 : Nat) : Int) := by
    rw [← nat_KK, ← Int.natCast_mul, ← Int.natCast_add, hdm]
  have i6 := cle (Int.ofNat_le.mpr (Nat.zero_le (V t)))
  generalize (val x).natAbs % 2 ^ 1074 = f at *
  generalize (val x).natAbs / 2 ^ 1074 = n at *
  generalize (val x).natAbs = w at *
  have ek : (KK : Rat) = kk := rfl
  simp only [Int.natCast_add, nat_UU, nat_KK, Rat.intCast_add, uu_kk, ek] at i1 i2 i3
  have i7 : ((w : Int) : Rat) = kk * ((n : Int) : Rat) + ((f : Int) : Rat) := by rw [i5, Rat.intCast_add, Rat.intCast_mul]; rfl
  have ez : (((0 : Nat) : Int) : Rat) = 0 := rfl
  rw [ez] at i4 i6
  have hvF : val (pack a t) = sgn a (V t) := val_pack a ht
  have hRF := R_mul (pack a t)
  rw [hvF] at hRF
  rw [hsv] at hR
  have hkp := kk_pos
  obtain ⟨n1, hn1⟩ : ∃ n1 : Rat, n1 = ((n : Int) : Rat) := ⟨_, rfl⟩
  obtain ⟨f1, hf1⟩ : ∃ f1 : Rat, f1 * kk = ((f : Int) : Rat) := ⟨((f : Int) : Rat) / kk, Rat.div_mul_cancel (Rat.ne_of_gt hkp)⟩
  obtain ⟨v1, hv1⟩ : ∃ v1 : Rat, v1 * kk = ((V t : Int) : Rat) := ⟨((V t : Int) : Rat) / kk, Rat.div_mul_cancel (Rat.ne_of_gt hkp)⟩
  rw [← hf1, ← hv1] at i1 i2
  rw [← hf1] at i3 i4
  rw [← hv1] at i6
  rw [← hn1, ← hf1] at i7
  have j1 : v1 ≤ f1 + uu := le_kk (by grind)
  have j2 : f1 ≤ v1 + uu := le_kk (by grind)
  have j3 : f1 ≤ 1 := le_kk (by grind)
  have j4 : 0 ≤ f1 := le_kk (by grind)
  have j6 : 0 ≤ v1 := le_kk (by grind)
  have hxw : ∀ z : Rat, z * kk = ((w : Int) : Rat) → z = n1 + f1 := fun z hz => by
    have : z * kk = (n1 + f1) * kk := by grind
    exact Rat.le_antisymm (le_kk (by grind)) (le_kk (by grind))
  unfold sgn at hR hRF
  have hfiF : Fi (pack a t) := fi_pack a ht
  have hlt1 : lt 4607182418800017408 (zero false) = false := by with_unfolding_all rfl
  have hcopy : copysign (zero false) 4607182418800017408 = zero false := by with_unfolding_all rfl
  by_cases hzz : isZero (pack a t) = true
  · -- the rest is nought
    have hV0 := hz.1 hzz
    have hmod : modF' x = zero false := by
      unfold modF' divmod
      simp only [hf, hzz, if_true, hcopy]
    rw [hmod]
    have hR0 : R (zero false) = 0 := R_zero false
    have hv0 : v1 = 0 := by
      have : v1 * kk = 0 * kk := by rw [hv1, hV0]; simp
      exact Rat.le_antisymm (le_kk (by grind)) (le_kk (by grind))
    refine ⟨fi_zero _, ?_, by grind, by grind⟩
    cases a
    · simp only [Bool.false_eq_true, if_false] at hR
      have := hxw _ hR
      exact ⟨n, by grind, by grind⟩
    · simp only [if_true, Rat.intCast_neg] at hR
      have := hxw (-(R x)) (by grind)
      refine ⟨-(n : Int), ?_, ?_⟩ <;> (rw [Rat.intCast_neg]; grind)
  · have hzf : isZero (pack a t) = false := by simpa using hzz
    have hVp := hz.2 hzf
    have hvp : 0 < v1 := by
      have : 0 * kk < v1 * kk := by rw [hv1]; have := Rat.intCast_lt_intCast.mpr (Int.ofNat_lt.mpr hVp); rw [ez] at this; grind
      exact (Rat.mul_lt_mul_right hkp).mp this
    have hlt2 : lt (pack a t) (zero false) = a := by
      have h1 := cmp_R (x := pack a t) (y := zero false) hfiF (fi_zero _)
      have hR0 : R (zero false) = 0 := R_zero false
      rw [hR0] at h1
      cases a
      · simp only [Bool.false_eq_true, if_false] at hRF
        have : ¬ (R (pack false t) < 0) := by
          intro hh
          have := lt_kk hh
          grind
        have h2 := mt h1.mp this
        exact Bool.eq_false_iff.mpr h2
      · simp only [if_true, Rat.intCast_neg] at hRF
        have : R (pack true t) < 0 := (Rat.mul_lt_mul_right hkp).mp (by rw [hRF, ← hv1]; have := lt_kk hvp; grind)
        exact h1.mpr this
    cases a
    · simp only [Bool.false_eq_true, if_false] at hR hRF
      have hmod : modF' x = pack false t := by
        unfold modF' divmod
        simp only [hf, hzf, hlt1, hlt2, Bool.false_eq_true, if_false, bne_self_eq_false]
      rw [hmod]
      have e1 := hxw _ hR
      have e2 : R (pack false t) = v1 := Rat.le_antisymm (le_kk (by grind)) (le_kk (by grind))
      exact ⟨hfiF, ⟨n, by grind, by grind⟩, by grind, by grind⟩
    · simp only [if_true, Rat.intCast_neg] at hR hRF
      have hmod : modF' x = add (pack true t) 4607182418800017408 := by
        unfold modF' divmod
        simp only [hf, hzf, hlt1, hlt2, Bool.false_eq_true, if_false]
        rfl
      rw [hmod]
      have e1 := hxw (-(R x)) (by grind)
      have e2 : R (pack true t) = -v1 := Rat.le_antisymm (le_kk (by grind)) (le_kk (by grind))
      have h1 := one_nb
      have l1 := h1.lo
      have l2 := h1.hi
      obtain ⟨f0, g3, g4⟩ := add_R hfiF h1.fi (by grind) (by grind)
      refine ⟨f0, ⟨-(n : Int) - 1, ?_, ?_⟩, by grind, by grind⟩ <;> (rw [Rat.intCast_sub, Rat.intCast_neg]; have e11 : ((1 : Int) : Rat) = 1 := rfl; grind)
end Mine
end
section
open PySem PySem.Float64
set_option maxRecDepth 100000
set_option exponentiation.threshold 5000
namespace Mine
def qd' (a b : Int) : UInt64 := ofFrac (decide (a < 0) != decide (b < 0)) a.natAbs b.natAbs
def hue0' (r g b M m : Int) : UInt64 :=
  if r = M then sub (qd' (M - b) (M - m)) (qd' (M - g) (M - m))
  else if g = M then sub (add 4611686018427387904 (qd' (M - r) (M - m))) (qd' (M - b) (M - m))
  else sub (add 4616189618054758400 (qd' (M - g) (M - m))) (qd' (M - r) (M - m))
def hueF' (r g b : Int) : UInt64 :=
  if min r (min g b) = max r (max g b) then 0
  else (divmod (div (hue0' r g b (max r (max g b)) (min r (min g b))) 4618441417868443648) 4607182418800017408).2
theorem qd_nb {a P : Int} (h0 : 0 ≤ a) (h1 : a ≤ P) (hP : 0 < P) : Nb (qd' a P) ((a : Rat) / (P : Rat)) uu 1 := by
  revert a P h0 h1 hP
  intro a P h0 h1 hP
  have hn : (decide (a < 0) != decide (P < 0)) = false := by
    rw [decide_eq_false (by omega), decide_eq_false (by lia)]; rfl
  unfold qd'
  rw [hn]
  obtain ⟨f, g1, g2⟩ := ofFrac_R (n := a.natAbs) (d := P.natAbs) (by omega) (by omega)
  have ea : ((a.natAbs : Nat) : Rat) = (a : Rat) := by rw [← Rat.intCast_natCast]; congr 1; lia
  have ep : ((P.natAbs : Nat) : Rat) = (P : Rat) := by rw [← Rat.intCast_natCast]; congr 1; lia
  rw [ea, ep] at g1 g2
  have hP' : (0 : Rat) < (P : Rat) := by have := Rat.intCast_lt_intCast.mpr hP; exact this
  have c0 := Rat.intCast_le_intCast.mpr h0
  have c1 := Rat.intCast_le_intCast.mpr h1
  have ez : ((0 : Int) : Rat) = 0 := rfl
  rw [ez] at c0
  have e0 : ((a : Rat) / (P : Rat)) * (P : Rat) = (a : Rat) := Rat.div_mul_cancel (Rat.ne_of_gt hP')
  generalize (a : Rat) / (P : Rat) = q at *
  rw [← e0] at g1 g2 c0 c1
  refine ⟨f, ?_, ?_, ?_, ?_⟩ <;> (refine Rat.le_of_mul_le_mul_right (c := (P : Rat)) ?_ hP'; grind)
theorem R_const {x : UInt64} {i : Int} (h : val x = i * KK) : R x = (i : Rat) := by
  have h1 := R_mul x
  rw [h, Rat.intCast_mul] at h1
  have ek : (KK : Rat) = kk := rfl
  rw [ek] at h1
  exact Rat.le_antisymm (le_kk (by grind)) (le_kk (by grind))
theorem fi_of {x : UInt64} (hf : isFinite x = true) : Fi x := by
  revert x hf
  intro x hf
  unfold isFinite at hf
  split at hf
  · exact ⟨_, _, _, by assumption⟩
  · cases hf
theorem two_nb : Nb 4611686018427387904 2 0 2 := by
  have e : R 4611686018427387904 = 2 := R_const (i := 2) (by decide +kernel)
  exact ⟨fi_of (by decide +kernel), by rw [e]; grind, by rw [e]; grind, by grind, by grind⟩
theorem four_nb : Nb 4616189618054758400 4 0 4 := by
  have e : R 4616189618054758400 = 4 := R_const (i := 4) (by decide +kernel)
  exact ⟨fi_of (by decide +kernel), by rw [e]; grind, by rw [e]; grind, by grind, by grind⟩
/-- six times the hue, its numerator over max - min -/
def hueN (r g b : Int) : Int :=
  if r = max r (max g b) then g - b
  else if g = max r (max g b) then 2 * (max r (max g b) - min r (min g b)) + (b - r)
  else 4 * (max r (max g b) - min r (min g b)) + (r - g)
def hueP (r g b : Int) : Int := max r (max g b) - min r (min g b)
def hueR (r g b : Int) : Rat := (hueN r g b : Rat) / (hueP r g b : Rat) / 6
theorem hue0_nb {r g b : Int} (hP : 0 < hueP r g b) : Nb (hue0' r g b (max r (max g b)) (min r (min g b))) ((hueN r g b : Rat) / (hueP r g b : Rat)) (6 * uu) 8 := by
  revert r g b hP
  intro r g b hP
  have hu := uu_pos
  have hs := uu_small
  have hP' : (0 : Rat) < (hueP r g b : Rat) := by have := Rat.intCast_lt_intCast.mpr hP; exact this
  have hM : ∀ z, z = r ∨ z = g ∨ z = b → 0 ≤ max r (max g b) - z ∧ max r (max g b) - z ≤ hueP r g b := by
    intro z hz; unfold hueP; lia
  have dv : ∀ z : Rat, z / (hueP r g b : Rat) * (hueP r g b : Rat) = z := fun z => Rat.div_mul_cancel (Rat.ne_of_gt hP')
  have uniq : ∀ y z : Rat, y * (hueP r g b : Rat) = z * (hueP r g b : Rat) → y = z := fun y z h =>
    Rat.le_antisymm (Rat.le_of_mul_le_mul_right (c := (hueP r g b : Rat)) (by grind) hP') (Rat.le_of_mul_le_mul_right (c := (hueP r g b : Rat)) (by grind) hP')
  have qr := qd_nb (hM r (.inl rfl)).1 (hM r (.inl rfl)).2 hP
  have qg := qd_nb (hM g (.inr (.inl rfl))).1 (hM g (.inr (.inl rfl))).2 hP
  have qb := qd_nb (hM b (.inr (.inr rfl))).1 (hM b (.inr (.inr rfl))).2 hP
  have e0 : max r (max g b) - min r (min g b) = hueP r g b := rfl
  unfold hue0' hueN
  rw [e0]
  generalize hMx : max r (max g b) = M at *
  generalize hueP r g b = P at *
  have dr := dv ((M - r : Int) : Rat)
  have dg := dv ((M - g : Int) : Rat)
  have db := dv ((M - b : Int) : Rat)
  split
  · have s := qb.sub qg (by grind)
    have e : ((M - b : Int) : Rat) / (P : Rat) - ((M - g : Int) : Rat) / (P : Rat) = ((g - b : Int) : Rat) / (P : Rat) := by
      apply uniq
      have d1 := dv ((g - b : Int) : Rat)
      simp only [Rat.intCast_sub] at *
      grind
    rw [e] at s
    exact s.weak (by grind) (by have := s.qlo; grind) (by have := s.qhi; grind)
  · split
    · have s := (two_nb.add qr (by grind)).sub qb (by grind)
      have e : 2 + ((M - r : Int) : Rat) / (P : Rat) - ((M - b : Int) : Rat) / (P : Rat) = ((2 * P + (b - r) : Int) : Rat) / (P : Rat) := by
        apply uniq
        have d1 := dv ((2 * P + (b - r) : Int) : Rat)
        have e2 : ((2 : Int) : Rat) = 2 := rfl
        simp only [Rat.intCast_sub, Rat.intCast_add, Rat.intCast_mul, e2] at *
        grind
      rw [e] at s
      exact s.weak (by grind) (by have := s.qlo; grind) (by have := s.qhi; grind)
    · have s := (four_nb.add qg (by grind)).sub qr (by grind)
      have e : 4 + ((M - g : Int) : Rat) / (P : Rat) - ((M - r : Int) : Rat) / (P : Rat) = ((4 * P + (r - g) : Int) : Rat) / (P : Rat) := by
        apply uniq
        have d1 := dv ((4 * P + (r - g) : Int) : Rat)
        have e4 : ((4 : Int) : Rat) = 4 := rfl
        simp only [Rat.intCast_sub, Rat.intCast_add, Rat.intCast_mul, e4] at *
        grind
      rw [e] at s
      exact s.weak (by grind) (by have := s.qlo; grind) (by have := s.qhi; grind)
end Mine
end
section
open PySem PySem.Float64
set_option maxRecDepth 100000
set_option exponentiation.threshold 5000
namespace Mine
theorem hue_R {r g b : Int} (hP : 0 < hueP r g b) : Fi (hueF' r g b) ∧ (∃ n : Int, R (hueF' r g b) - (hueR r g b - (n : Rat)) ≤ 5 * uu ∧ (hueR r g b - (n : Rat)) - R (hueF' r g b) ≤ 5 * uu) ∧ -(3 * uu) ≤ R (hueF' r g b) ∧ R (hueF' r g b) ≤ 1 + 3 * uu := by
  revert r g b hP
  intro r g b hP
  have hu := uu_pos
  have hs := uu_small
  have h0 := hue0_nb hP
  have hne : ¬ (min r (min g b) = max r (max g b)) := by unfold hueP at hP; lia
  have e6 : R 4618441417868443648 = 6 := R_const (i := 6) (by decide +kernel)
  have f6 : Fi 4618441417868443648 := fi_of (by decide +kernel)
  have hq : hueR r g b * 6 = (hueN r g b : Rat) / (hueP r g b : Rat) := Rat.div_mul_cancel (by decide +kernel)
  rw [← hq] at h0
  obtain ⟨f1, l1, u1, m1, n1⟩ := h0
  have eh : hueF' r g b = modF' (div (hue0' r g b (max r (max g b)) (min r (min g b))) 4618441417868443648) := by
    unfold hueF' modF'
    rw [if_neg hne]
  rw [eh]
  generalize hue0' r g b (max r (max g b)) (min r (min g b)) = x at *
  generalize hueR r g b = H at *
  obtain ⟨f2, g1, g2⟩ := div_R f1 f6 (by rw [e6]; grind) (by rw [e6]; grind) (by rw [e6]; grind)
  rw [e6] at g1 g2
  obtain ⟨f3, ⟨n, k1, k2⟩, k3, k4⟩ := mod_R f2
  exact ⟨f3, ⟨n, by grind, by grind⟩, k3, k4⟩
def stepF' (x : UInt64) : UInt64 := if (cmp x 4602678819172646912 == some .lt) = true then x else sub x 4607182418800017408
theorem int_zero {k : Int} (h1 : -1 < (k : Rat)) (h2 : (k : Rat) < 1) : k = 0 := by
  have a1 : ((-1 : Int) : Rat) < (k : Rat) := h1
  have a2 : (k : Rat) < ((1 : Int) : Rat) := h2
  have b1 := clt a1
  have b2 := clt a2
  lia
/-- two angles that are near to a and to b, both mod 1, have a step near to s -/
theorem step_R {x y : UInt64} {a b s : Rat} {n1 n2 n3 : Int} (fx : Fi x) (fy : Fi y) (hx1 : R x - (a - (n1 : Rat)) ≤ 5 * uu) (hx2 : (a - (n1 : Rat)) - R x ≤ 5 * uu) (bx1 : -(3 * uu) ≤ R x) (bx2 : R x ≤ 1 + 3 * uu)
    (hy1 : R y - (b - (n2 : Rat)) ≤ 5 * uu) (hy2 : (b - (n2 : Rat)) - R y ≤ 5 * uu) (by1 : -(3 * uu) ≤ R y) (by2 : R y ≤ 1 + 3 * uu)
    (hs : s = a - b - (n3 : Rat)) (hs1 : -(1 / 2 - 1 / 100000) ≤ s) (hs2 : s ≤ 1 / 2 - 1 / 100000) : Nb (stepF' (modF' (sub x y))) s (16 * uu) (1 / 2) := by
  revert x y a b s n1 n2 n3 fx fy hx1 hx2 bx1 bx2 hy1 hy2 by1 by2 hs hs1 hs2
  intro x y a b s n1 n2 n3 fx fy hx1 hx2 bx1 bx2 hy1 hy2 by1 by2 hs hs1 hs2
  have hu := uu_pos
  have hsm := uu_small
  obtain ⟨f1, g1, g2⟩ := sub_R fx fy (by grind) (by grind)
  obtain ⟨f2, ⟨n, k1, k2⟩, k3, k4⟩ := mod_R f1
  have eh : R 4602678819172646912 = 1 / 2 := by
    have h := R_mul 4602678819172646912
    have h2 : val 4602678819172646912 * 2 = KK := by decide +kernel
    have h3 := congrArg (fun z : Int => (z : Rat)) h2
    simp only [Rat.intCast_mul] at h3
    have ek : (KK : Rat) = kk := rfl
    have e2 : ((2 : Int) : Rat) = 2 := rfl
    rw [ek, e2, ← h] at h3
    exact Rat.le_antisymm (le_kk (by grind)) (le_kk (by grind))
  have fh : Fi 4602678819172646912 := fi_of (by decide +kernel)
  have hc := cmp_R f2 fh
  rw [eh] at hc
  -- the whole number between them
  obtain ⟨k, hk⟩ : ∃ k : Int, (k : Rat) = (n3 : Rat) - (n1 : Rat) + (n2 : Rat) - (n : Rat) := ⟨n3 - n1 + n2 - n, by simp only [Rat.intCast_sub, Rat.intCast_add]⟩
  have e1 : R (modF' (sub x y)) - (s + (k : Rat)) ≤ 14 * uu := by grind
  have e2 : (s + (k : Rat)) - R (modF' (sub x y)) ≤ 14 * uu := by grind
  clear k1 k2 g1 g2 hx1 hx2 hy1 hy2 bx1 bx2 by1 by2 hk hs
  generalize modF' (sub x y) = z at *
  unfold stepF'
  by_cases hlt : (cmp z 4602678819172646912 == some .lt) = true
  · rw [if_pos hlt]
    have h := hc.mp hlt
    have k0 : k = 0 := int_zero (by grind) (by grind)
    subst k0
    have ez : ((0 : Int) : Rat) = 0 := rfl
    rw [ez] at e1 e2
    exact ⟨f2, by grind, by grind, by grind, by grind⟩
  · rw [if_neg hlt]
    have h : ¬ (R z < 1 / 2) := mt hc.mpr hlt
    have one := one_nb
    have o1 := one.lo
    have o2 := one.hi
    have e11 : R 4607182418800017408 = 1 := R_const (i := 1) (by decide +kernel)
    obtain ⟨f3, g3, g4⟩ := sub_R f2 one.fi (by rw [e11]; grind) (by rw [e11]; grind)
    rw [e11] at g3 g4
    obtain ⟨j, hj⟩ : ∃ j : Int, (j : Rat) = (k : Rat) - 1 := ⟨k - 1, by rw [Rat.intCast_sub]; rfl⟩
    have j0 : j = 0 := int_zero (by grind) (by grind)
    subst j0
    have ez : ((0 : Int) : Rat) = 0 := rfl
    rw [ez] at hj
    exact ⟨f3, by grind, by grind, by grind, by grind⟩
end Mine
end
section
open PySem PySem.Float64
set_option maxRecDepth 100000
namespace Mine
def cX (j : Nat) : Int := [1, 1, 0, -1, -1, 0, 1].getD j 0
def cY (j : Nat) : Int := [0, 1, 1, 0, -1, -1, 0].getD j 0
theorem hues {r g b M m : Int} (h1 : max r (max g b) = M) (h2 : min r (min g b) = m) : hueP r g b = M - m ∧ hueN r g b = if r = M then g - b else if g = M then 2 * (M - m) + (b - r) else 4 * (M - m) + (r - g) := by
  subst h1 h2; exact ⟨rfl, rfl⟩
def Sect (X Y P N : Int) (j : Nat) (w α β : Int) : Prop := X = α * cX j + β * cX (j + 1) ∧ Y = α * cY j + β * cY (j + 1) ∧ P = α + β ∧ N = ((j : Int) - 6 * w) * P + β
theorem sub0 {a b : Int} (h : b ≤ a) : 0 ≤ a - b := Int.sub_nonneg_of_le h
theorem sect0 (r g b : Int) : ∃ (j : Nat) (w α β : Int), j < 6 ∧ 0 ≤ α ∧ 0 ≤ β ∧ Sect (r - b) (g - b) (hueP r g b) (hueN r g b) j w α β := by
  revert r g b
  intro r g b
  rcases Int.lt_or_le r g with h1 | h1
  · rcases Int.lt_or_le g b with h2 | h2
    · obtain ⟨e1, e2⟩ := hues (r := r) (by rw [Int.max_eq_right (Int.le_of_lt h2), Int.max_eq_right (Int.le_of_lt (Int.lt_trans h1 h2))]) (by rw [Int.min_eq_left (Int.le_of_lt h2), Int.min_eq_left (Int.le_of_lt h1)])
      rw [e1, e2, if_neg (Int.ne_of_lt (Int.lt_trans h1 h2)), if_neg (Int.ne_of_lt h2)]
      refine ⟨3, 0, g - r, b - g, by decide, sub0 (Int.le_of_lt h1), sub0 (Int.le_of_lt h2), ?_⟩
      show r - b = (g - r) * -1 + (b - g) * -1 ∧ g - b = (g - r) * 0 + (b - g) * -1 ∧ b - r = (g - r) + (b - g) ∧ 4 * (b - r) + (r - g) = 3 * (b - r) + (b - g)
      lia
    · rcases Int.lt_or_le r b with h3 | h3
      · obtain ⟨e1, e2⟩ := hues (r := r) (by rw [Int.max_eq_left h2, Int.max_eq_right (Int.le_of_lt h1)]) (by rw [Int.min_eq_right h2, Int.min_eq_left (Int.le_of_lt h3)])
        rw [e1, e2, if_neg (Int.ne_of_lt h1), if_pos rfl]
        refine ⟨2, 0, g - b, b - r, by decide, sub0 h2, sub0 (Int.le_of_lt h3), ?_⟩
        show r - b = (g - b) * 0 + (b - r) * -1 ∧ g - b = (g - b) * 1 + (b - r) * 0 ∧ g - r = (g - b) + (b - r) ∧ 2 * (g - r) + (b - r) = 2 * (g - r) + (b - r)
        lia
      · obtain ⟨e1, e2⟩ := hues (r := r) (by rw [Int.max_eq_left h2, Int.max_eq_right (Int.le_of_lt h1)]) (by rw [Int.min_eq_right h2, Int.min_eq_right h3])
        rw [e1, e2, if_neg (Int.ne_of_lt h1), if_pos rfl]
        refine ⟨1, 0, r - b, g - r, by decide, sub0 h3, sub0 (Int.le_of_lt h1), ?_⟩
        show r - b = (r - b) * 1 + (g - r) * 0 ∧ g - b = (r - b) * 1 + (g - r) * 1 ∧ g - b = (r - b) + (g - r) ∧ 2 * (g - b) + (b - r) = 1 * (g - b) + (g - r)
        lia
  · rcases Int.lt_or_le r b with h2 | h2
    · obtain ⟨e1, e2⟩ := hues (r := r) (by rw [Int.max_eq_right (Int.le_of_lt (Int.lt_of_le_of_lt h1 h2)), Int.max_eq_right (Int.le_of_lt h2)]) (by rw [Int.min_eq_left (Int.le_of_lt (Int.lt_of_le_of_lt h1 h2)), Int.min_eq_right h1])
      rw [e1, e2, if_neg (Int.ne_of_lt h2), if_neg (Int.ne_of_lt (Int.lt_of_le_of_lt h1 h2))]
      refine ⟨4, 0, b - r, r - g, by decide, sub0 (Int.le_of_lt h2), sub0 h1, ?_⟩
      show r - b = (b - r) * -1 + (r - g) * 0 ∧ g - b = (b - r) * -1 + (r - g) * -1 ∧ b - g = (b - r) + (r - g) ∧ 4 * (b - g) + (r - g) = 4 * (b - g) + (r - g)
      lia
    · rcases Int.lt_or_le g b with h3 | h3
      · obtain ⟨e1, e2⟩ := hues (r := r) (by rw [Int.max_eq_right (Int.le_of_lt h3), Int.max_eq_left h2]) (by rw [Int.min_eq_left (Int.le_of_lt h3), Int.min_eq_right h1])
        rw [e1, e2, if_pos rfl]
        refine ⟨5, 1, b - g, r - b, by decide, sub0 (Int.le_of_lt h3), sub0 h2, ?_⟩
        show r - b = (b - g) * 0 + (r - b) * 1 ∧ g - b = (b - g) * -1 + (r - b) * 0 ∧ r - g = (b - g) + (r - b) ∧ g - b = -1 * (r - g) + (r - b)
        lia
      · obtain ⟨e1, e2⟩ := hues (r := r) (by rw [Int.max_eq_left h3, Int.max_eq_left h1]) (by rw [Int.min_eq_right h3, Int.min_eq_right h2])
        rw [e1, e2, if_pos rfl]
        refine ⟨0, 0, r - g, g - b, by decide, sub0 h1, sub0 h3, ?_⟩
        show r - b = (r - g) * 1 + (g - b) * 1 ∧ g - b = (r - g) * 0 + (g - b) * 1 ∧ r - b = (r - g) + (g - b) ∧ g - b = 0 * (r - b) + (g - b)
        lia
theorem sect {r g b : Int} (hP : 0 < hueP r g b) : ∃ (j : Nat) (w α β : Int), j < 6 ∧ 0 < α ∧ 0 ≤ β ∧ Sect (r - b) (g - b) (hueP r g b) (hueN r g b) j w α β := by
  revert r g b hP
  intro r g b hP
  refine exI ?_ (sect0 r g b)
  intro j
  refine exI ?_
  intro w
  refine exI ?_
  intro α
  refine exI ?_
  intro β
  intro hx9
  obtain ⟨h1, h2, h3, s1, s2, s3, s4⟩ := hx9
  rcases Int.lt_or_eq_of_le h2 with h2 | rfl
  · exact ⟨j, w, α, β, h1, h2, h3, s1, s2, s3, s4⟩
  · rw [Int.zero_mul, Int.zero_add] at s1 s2
    rw [Int.zero_add] at s3
    rw [s3] at hP
    rcases Nat.lt_or_eq_of_le (Nat.le_of_lt_succ h1) with h5 | rfl
    · refine ⟨j + 1, w, β, 0, Nat.succ_lt_succ h5, hP, Int.le_refl _, ?_, ?_, ?_, ?_⟩
      · rw [Int.zero_mul, Int.add_zero]; exact s1
      · rw [Int.zero_mul, Int.add_zero]; exact s2
      · rw [Int.add_zero]; exact s3
      · rw [s4, s3]; grind
    · refine ⟨0, w - 1, β, 0, by decide, hP, Int.le_refl _, ?_, ?_, ?_, ?_⟩
      · rw [Int.zero_mul, Int.add_zero]; exact s1
      · rw [Int.zero_mul, Int.add_zero]; exact s2
      · rw [Int.add_zero]; exact s3
      · rw [s4, s3]; grind
theorem det_prod (α β α' β' a b c d a' b' c' d' : Int) : (α * a + β * b) * (α' * c' + β' * d') - (α * c + β * d) * (α' * a' + β' * b') =
    α * α' * (a * c' - c * a') + α * β' * (a * d' - c * b') + β * α' * (b * c' - d * a') + β * β' * (b * d' - d * b') := by grind
def cD (k : Nat) : Int := [0, 1, 1, 0, -1, -1, 0, 1, 1, 0, -1].getD k 0
theorem core_tab : ∀ j, j < 6 → ∀ k, k < 6 → cX j * cY k - cY j * cX k = cD ((k + 6 - j) % 6) ∧ cX j * cY (k + 1) - cY j * cX (k + 1) = cD ((k + 6 - j) % 6 + 1) ∧
    cX (j + 1) * cY k - cY (j + 1) * cX k = cD ((k + 6 - j) % 6 + 5) ∧ cX (j + 1) * cY (k + 1) - cY (j + 1) * cX (k + 1) = cD ((k + 6 - j) % 6) ∧
    (k : Int) - (j : Int) = ((k + 6 - j) % 6 : Nat) + 6 * (if k < j then -1 else 0) := by decide
def Half (d X S : Int) : Prop := (0 < d → 0 < X ∧ X < 3 * S) ∧ (d < 0 → -(3 * S) < X ∧ X < 0)
theorem core6 : (k : Nat) → k < 6 → (q1 q2 q3 q4 S : Int) → q1 + q2 + q3 + q4 = S → 0 < q1 → 0 ≤ q2 → 0 ≤ q3 → 0 ≤ q4 →
    ∃ m : Int, Half (q1 * cD k + q2 * cD (k + 1) + q3 * cD (k + 5) + q4 * cD k) (((k : Int) - 6 * m) * S + (q2 - q3)) S
  | 0, _ => fun q1 q2 q3 q4 S e p1 p2 p3 p4 => ⟨0, by show Half (q1 * 0 + q2 * 1 + q3 * -1 + q4 * 0) (0 * S + (q2 - q3)) S; unfold Half; omega⟩
  | 1, _ => fun q1 q2 q3 q4 S e p1 p2 p3 p4 => ⟨0, by show Half (q1 * 1 + q2 * 1 + q3 * 0 + q4 * 1) (1 * S + (q2 - q3)) S; unfold Half; omega⟩
  | 2, _ => fun q1 q2 q3 q4 S e p1 p2 p3 p4 => ⟨0, by show Half (q1 * 1 + q2 * 0 + q3 * 1 + q4 * 1) (2 * S + (q2 - q3)) S; unfold Half; omega⟩
  | 3, _ => fun q1 q2 q3 q4 S e p1 p2 p3 p4 => ⟨if q2 ≤ q3 then 0 else 1, by
    show Half (q1 * 0 + q2 * -1 + q3 * 1 + q4 * 0) ((3 - 6 * if q2 ≤ q3 then 0 else 1) * S + (q2 - q3)) S; unfold Half
    by_cases h : q2 ≤ q3
    · rw [if_pos h]; show (_ → 0 < 3 * S + _ ∧ 3 * S + _ < _) ∧ (_ → _ < 3 * S + _ ∧ 3 * S + _ < 0); omega
    · rw [if_neg h]; show (_ → 0 < -3 * S + _ ∧ -3 * S + _ < _) ∧ (_ → _ < -3 * S + _ ∧ -3 * S + _ < 0); omega⟩
  | 4, _ => fun q1 q2 q3 q4 S e p1 p2 p3 p4 => ⟨1, by show Half (q1 * -1 + q2 * -1 + q3 * 0 + q4 * -1) (-2 * S + (q2 - q3)) S; unfold Half; omega⟩
  | 5, _ => fun q1 q2 q3 q4 S e p1 p2 p3 p4 => ⟨1, by show Half (q1 * -1 + q2 * 0 + q3 * -1 + q4 * -1) (-1 * S + (q2 - q3)) S; unfold Half; omega⟩
theorem core (j j' : Nat) (hj : j < 6) (hj' : j' < 6) (q1 q2 q3 q4 : Int) (p1 : 0 < q1) (p2 : 0 ≤ q2) (p3 : 0 ≤ q3) (p4 : 0 ≤ q4) (d : Int)
    (hd : d = q1 * (cX j * cY j' - cY j * cX j') + q2 * (cX j * cY (j' + 1) - cY j * cX (j' + 1)) + q3 * (cX (j + 1) * cY j' - cY (j + 1) * cX j') + q4 * (cX (j + 1) * cY (j' + 1) - cY (j + 1) * cX (j' + 1))) :
    ∃ m : Int, Half d (((j' : Int) - (j : Int) - 6 * m) * (q1 + q2 + q3 + q4) + (q2 - q3)) (q1 + q2 + q3 + q4) := by
  revert j j' hj hj' q1 q2 q3 q4 p1 p2 p3 p4 d hd
  intro j j' hj hj' q1 q2 q3 q4 p1 p2 p3 p4 d hd
  obtain ⟨t1, t2, t3, t4, t5⟩ := core_tab j hj j' hj'
  obtain ⟨m, h⟩ := core6 ((j' + 6 - j) % 6) (Nat.mod_lt _ (by decide)) q1 q2 q3 q4 _ rfl p1 p2 p3 p4
  rw [hd, t1, t2, t3, t4, t5]
  refine ⟨m + (if j' < j then -1 else 0), ?_⟩
  rw [show ∀ a b c : Int, a + 6 * b - 6 * (c + b) = a - 6 * c by intros; omega]
  exact h
/-- the angle's sign is the determinant's -/
theorem angle (r g b r' g' b' : Int) (hP : 0 < hueP r g b) (hP' : 0 < hueP r' g' b') : ∃ n : Int,
    (0 < detR r g b r' g' b' → 0 < hueN r' g' b' * hueP r g b - hueN r g b * hueP r' g' b' - 6 * n * (hueP r g b * hueP r' g' b') ∧ hueN r' g' b' * hueP r g b - hueN r g b * hueP r' g' b' - 6 * n * (hueP r g b * hueP r' g' b') < 3 * (hueP r g b * hueP r' g' b')) ∧
    (detR r g b r' g' b' < 0 → -(3 * (hueP r g b * hueP r' g' b')) < hueN r' g' b' * hueP r g b - hueN r g b * hueP r' g' b' - 6 * n * (hueP r g b * hueP r' g' b') ∧ hueN r' g' b' * hueP r g b - hueN r g b * hueP r' g' b' - 6 * n * (hueP r g b * hueP r' g' b') < 0) := by
  revert r g b r' g' b' hP hP'
  intro r g b r' g' b' hP hP'
  refine exI ?_ (sect hP)
  intro j
  refine exI ?_
  intro w
  refine exI ?_
  intro α
  refine exI ?_
  intro β
  intro hx9
  obtain ⟨hj, ha, hb, eX, eY, eP, eN⟩ := hx9
  refine exI ?_ (sect hP')
  intro j'
  refine exI ?_
  intro w'
  refine exI ?_
  intro α'
  refine exI ?_
  intro β'
  intro hx9
  obtain ⟨hj', ha', hb', eX', eY', eP', eN'⟩ := hx9
  have p1 : 0 < α * α' := Int.mul_pos ha ha'
  have p2 : 0 ≤ α * β' := Int.mul_nonneg (by omega) hb'
  have p3 : 0 ≤ β * α' := Int.mul_nonneg hb (by omega)
  have p4 : 0 ≤ β * β' := Int.mul_nonneg hb hb'
  have hd : detR r g b r' g' b' = α * α' * (cX j * cY j' - cY j * cX j') + α * β' * (cX j * cY (j' + 1) - cY j * cX (j' + 1)) + β * α' * (cX (j + 1) * cY j' - cY (j + 1) * cX j') + β * β' * (cX (j + 1) * cY (j' + 1) - cY (j + 1) * cX (j' + 1)) := by
    unfold detR
    rw [eX, eY, eX', eY']
    exact det_prod _ _ _ _ _ _ _ _ _ _ _ _
  have hD : hueN r' g' b' * hueP r g b - hueN r g b * hueP r' g' b' = (((j' : Int) - 6 * w') - ((j : Int) - 6 * w)) * (hueP r g b * hueP r' g' b') + (α * β' - β * α') := by
    rw [eN, eN', eP, eP']
    grind
  have hPP : hueP r g b * hueP r' g' b' = α * α' + α * β' + β * α' + β * β' := by rw [eP, eP']; grind
  rw [hD, hd, hPP]
  obtain ⟨m, c1, c2⟩ := core j j' hj hj' (α * α') (α * β') (β * α') (β * β') p1 p2 p3 p4 _ rfl
  refine ⟨w - w' + m, ?_⟩
  have e : ∀ S T : Int, (((j' : Int) - 6 * w') - ((j : Int) - 6 * w)) * S + T - 6 * (w - w' + m) * S = ((j' : Int) - (j : Int) - 6 * m) * S + T := by intro S T; grind
  rw [e]
  exact ⟨c1, c2⟩
end Mine
end
section
set_option maxRecDepth 100000
namespace Mine
section
variable {α β : Type}
def rot1' : List α → List α
  | [] => []
  | a :: t => t ++ [a]
def rotN' : Nat → List α → List α
  | 0, q => q
  | n + 1, q => rot1' (rotN' n q)
theorem rot1'_len : ∀ q : List α, (rot1' q).length = q.length
  | [] => rfl
  | _ :: _ => by simp [rot1']
theorem rotN'_len : ∀ (n : Nat) (q : List α), (rotN' n q).length = q.length
  | 0, _ => rfl
  | n + 1, q => (rot1'_len _).trans (rotN'_len n q)
theorem rotN'_drop : ∀ (n : Nat) (q : List α), n ≤ q.length → rotN' n q = q.drop n ++ q.take n
  | 0, q, _ => by simp [rotN']
  | n + 1, q, h => by
    show rot1' (rotN' n q) = _
    rw [rotN'_drop n q (by omega)]
    have hn : n < q.length := by omega
    rw [List.drop_eq_getElem_cons hn]
    show (q.drop (n + 1) ++ q.take n) ++ [q[n]] = _
    rw [List.take_add_one, List.getElem?_eq_getElem hn, List.append_assoc]
    rfl
/-- f of neighbours along a path, and round a ring -/
def pl (f : α → α → β) : List α → List β
  | x :: y :: t => f x y :: pl f (y :: t)
  | _ => []
theorem pl_append (f : α → α → β) (x : α) (B : List α) : ∀ A : List α, pl f (A ++ x :: B) = pl f (A ++ [x]) ++ pl f (x :: B)
  | [] => by simp [pl]
  | [a] => by simp [pl]
  | a :: b :: A => by
    have := pl_append f x B (b :: A)
    simp only [List.cons_append, pl] at this ⊢
    rw [this]
def cl (f : α → α → β) : List α → List β
  | [] => []
  | x :: t => pl f (x :: (t ++ [x]))
theorem pl_len (f : α → α → β) : ∀ q : List α, (pl f q).length = q.length - 1
  | [] => rfl
  | [_] => rfl
  | x :: y :: t => by simp only [pl, List.length_cons, pl_len f (y :: t)]; lia
theorem cl_len (f : α → α → β) : ∀ q : List α, (cl f q).length = q.length
  | [] => rfl
  | x :: t => by unfold cl; rw [pl_len]; simp
theorem cl_rot1 (f : α → α → β) : ∀ q : List α, cl f (rot1' q) = rot1' (cl f q)
  | [] => rfl
  | [x] => by simp [rot1', cl, pl]
  | x :: y :: t => by
    have e1 : cl f (x :: y :: t) = f x y :: pl f (y :: t ++ [x]) := rfl
    rw [e1]
    show pl f (y :: ((t ++ [x]) ++ [y])) = pl f (y :: t ++ [x]) ++ [f x y]
    have := pl_append f x [y] (y :: t)
    simp only [List.cons_append, List.append_assoc, List.nil_append] at this ⊢
    rw [this]; rfl
theorem cl_rotN (f : α → α → β) (q : List α) : ∀ n, cl f (rotN' n q) = rotN' n (cl f q)
  | 0 => rfl
  | n + 1 => by show cl f (rot1' (rotN' n q)) = _; rw [cl_rot1, cl_rotN f q n]; rfl
theorem cl_old (f : α → α → β) (l r c : α) (t : List α) : cl f (l :: r :: c :: t) = f l r :: f r c :: pl f (c :: t ++ [l]) := rfl
theorem cl_new (f : α → α → β) (l m r c : α) (t : List α) : cl f (c :: t ++ [l, m, r]) = pl f (c :: t ++ [l]) ++ [f l m, f m r, f r c] := by
  show pl f (c :: ((t ++ [l, m, r]) ++ [c])) = _
  have := pl_append f l [m, r, c] (c :: t)
  simp only [List.cons_append, List.append_assoc, List.nil_append] at this ⊢
  rw [this]; rfl
/-- triples -/
def pl3 (g : α → α → α → β) : List α → List β
  | x :: y :: z :: t => g x y z :: pl3 g (y :: z :: t)
  | _ => []
theorem pl3_append (g : α → α → α → β) (x y : α) (B : List α) : ∀ A : List α, pl3 g (A ++ x :: y :: B) = pl3 g (A ++ [x, y]) ++ pl3 g (x :: y :: B)
  | [] => by simp [pl3]
  | [a] => by simp [pl3]
  | [a, b] => by simp [pl3]
  | a :: b :: c :: A => by
    have := pl3_append g x y B (b :: c :: A)
    simp only [List.cons_append, pl3] at this ⊢
    rw [this]
def cl3 (g : α → α → α → β) : List α → List β
  | x :: y :: t => pl3 g (x :: y :: (t ++ [x, y]))
  | _ => []
theorem cl3_rot1 (g : α → α → α → Int) : ∀ q : List α, 3 ≤ q.length → (cl3 g (rot1' q)).sum = (cl3 g q).sum
  | [], h => by simp at h
  | [_], h => by simp at h
  | [_, _], h => by simp at h
  | x :: y :: z :: t, _ => by
    have e1 : cl3 g (x :: y :: z :: t) = g x y z :: pl3 g (y :: z :: (t ++ [x, y])) := rfl
    have e2 : cl3 g (rot1' (x :: y :: z :: t)) = pl3 g (y :: z :: ((t ++ [x]) ++ [y, z])) := rfl
    have := pl3_append g x y [z] (y :: z :: t)
    simp only [List.cons_append, List.append_assoc, List.nil_append] at this e2
    rw [e1, e2, this]
    simp [pl3, Int.add_comm]
theorem cl3_rotN (g : α → α → α → Int) (q : List α) (h : 3 ≤ q.length) : ∀ n, (cl3 g (rotN' n q)).sum = (cl3 g q).sum
  | 0 => rfl
  | n + 1 => by show (cl3 g (rot1' (rotN' n q))).sum = _; rw [cl3_rot1 g _ (by rw [rotN'_len]; exact h), cl3_rotN g q h n]
theorem last_split (c : α) (t : List α) : ∃ A p, c :: t = A ++ [p] := ⟨(c :: t).dropLast, (c :: t).getLast (by simp), (List.dropLast_concat_getLast (by simp)).symm⟩
theorem cl3_ins (g : α → α → α → Int) (l m r c : α) (t : List α) : ∃ p A, c :: t = A ++ [p] ∧ (cl3 g (c :: t ++ [l, m, r])).sum = (cl3 g (l :: r :: c :: t)).sum + g p l m + g l m r + g m r c - g p l r - g l r c := by
  obtain ⟨A, p, e⟩ := last_split c t
  refine ⟨p, A, e, ?_⟩
  have n1 : (cl3 g (c :: t ++ [l, m, r])).sum = (cl3 g (r :: (c :: t ++ [l, m]))).sum := by
    have := cl3_rot1 g (r :: (c :: t ++ [l, m])) (by simp)
    rw [← this]
    simp [rot1']
  have o1 : (cl3 g (l :: r :: c :: t)).sum = (cl3 g (r :: c :: t ++ [l])).sum := (cl3_rot1 g (l :: r :: c :: t) (by simp)).symm
  have n2 : cl3 g (r :: (c :: t ++ [l, m])) = pl3 g (r :: (A ++ [p, l]) ) ++ [g p l m, g l m r, g m r c] := by
    show pl3 g (r :: c :: ((t ++ [l, m]) ++ [r, c])) = _
    have h := pl3_append g p l [m, r, c] (r :: A)
    have e3 : r :: c :: ((t ++ [l, m]) ++ [r, c]) = r :: A ++ p :: l :: [m, r, c] := by
      have : c :: ((t ++ [l, m]) ++ [r, c]) = (c :: t) ++ [l, m, r, c] := by simp
      rw [this, e]; simp
    rw [e3, h]; rfl
  have o2 : cl3 g (r :: c :: t ++ [l]) = pl3 g (r :: (A ++ [p, l])) ++ [g p l r, g l r c] := by
    show pl3 g (r :: c :: ((t ++ [l]) ++ [r, c])) = _
    have h := pl3_append g p l [r, c] (r :: A)
    have e3 : r :: c :: ((t ++ [l]) ++ [r, c]) = r :: A ++ p :: l :: [r, c] := by
      have : c :: ((t ++ [l]) ++ [r, c]) = (c :: t) ++ [l, r, c] := by simp
      rw [this, e]; simp
    rw [e3, h]; rfl
  rw [n1, o1, n2, o2]
  simp only [List.sum_append, List.sum_cons, List.sum_nil]
  lia
end
end Mine
end
section
set_option maxRecDepth 100000
namespace Mine
abbrev L3' := Int × Int × Int
def det2 (u v : L3') : Int := detR u.1 u.2.1 u.2.2 v.1 v.2.1 v.2.2
def hP (v : L3') : Int := hueP v.1 v.2.1 v.2.2
def hN (v : L3') : Int := hueN v.1 v.2.1 v.2.2
def hR (v : L3') : Rat := hueR v.1 v.2.1 v.2.2
def Ang (u v : L3') (s : Rat) : Prop := (∃ n : Int, s = hR v - hR u - (n : Rat)) ∧ -(1 / 2) < s ∧ s < 1 / 2
theorem Ang.uniq {u v : L3'} {s t : Rat} (h : Ang u v s) (h' : Ang u v t) : s = t := by
  obtain ⟨⟨n, e⟩, a, b⟩ := h
  obtain ⟨⟨m, e'⟩, a', b'⟩ := h'
  obtain ⟨k, hk⟩ : ∃ k : Int, (k : Rat) = (m : Rat) - (n : Rat) := ⟨m - n, by rw [Rat.intCast_sub]⟩
  have k0 : k = 0 := int_zero (by grind) (by grind)
  subst k0
  have ez : ((0 : Int) : Rat) = 0 := rfl
  rw [ez] at hk
  grind
theorem hueP_pos {r g b : Int} (h : ¬ (r = b ∧ g = b)) : 0 < hueP r g b := by
  unfold hueP
  refine Int.sub_pos_of_lt (Int.lt_of_not_ge fun e => h ?_)
  have a1 : r ≤ max r (max g b) := Int.le_max_left ..
  have a2 : g ≤ max r (max g b) := Int.le_trans (Int.le_max_left ..) (Int.le_max_right ..)
  have a3 : b ≤ max r (max g b) := Int.le_trans (Int.le_max_right ..) (Int.le_max_right ..)
  have b1 : min r (min g b) ≤ r := Int.min_le_left ..
  have b2 : min r (min g b) ≤ g := Int.le_trans (Int.min_le_right ..) (Int.min_le_left ..)
  have b3 : min r (min g b) ≤ b := Int.le_trans (Int.min_le_right ..) (Int.min_le_right ..)
  exact ⟨Int.le_antisymm (Int.le_trans a1 (Int.le_trans e b3)) (Int.le_trans a3 (Int.le_trans e b1)), Int.le_antisymm (Int.le_trans a2 (Int.le_trans e b3)) (Int.le_trans a3 (Int.le_trans e b2))⟩
theorem hP_pos_of_det {u v : L3'} (h : det2 u v ≠ 0) : 0 < hP u ∧ 0 < hP v := by
  constructor
  · refine hueP_pos fun ⟨e1, e2⟩ => h ?_
    unfold det2 detR
    rw [e1, e2]; simp
  · refine hueP_pos fun ⟨e1, e2⟩ => h ?_
    unfold det2 detR
    rw [e1, e2]; simp
theorem diff_eq {u v : L3'} (hu : 0 < hP u) (hv : 0 < hP v) : (hR v - hR u) * (6 * ((hP u : Rat) * (hP v : Rat))) = ((hN v * hP u - hN u * hP v : Int) : Rat) := by
  have pu : (0 : Rat) < (hP u : Rat) := by have := Rat.intCast_lt_intCast.mpr hu; exact this
  have pv : (0 : Rat) < (hP v : Rat) := by have := Rat.intCast_lt_intCast.mpr hv; exact this
  have e1 : hR u * 6 * (hP u : Rat) = (hN u : Rat) := by
    have h1 : hR u * 6 = (hN u : Rat) / (hP u : Rat) := Rat.div_mul_cancel (by decide +kernel)
    rw [h1]; exact Rat.div_mul_cancel (Rat.ne_of_gt pu)
  have e2 : hR v * 6 * (hP v : Rat) = (hN v : Rat) := by
    have h1 : hR v * 6 = (hN v : Rat) / (hP v : Rat) := Rat.div_mul_cancel (by decide +kernel)
    rw [h1]; exact Rat.div_mul_cancel (Rat.ne_of_gt pv)
  rw [Rat.intCast_sub, Rat.intCast_mul, Rat.intCast_mul, ← e1, ← e2]
  grind
theorem Ang.ofDet {u v : L3'} (h : det2 u v ≠ 0) : ∃ s, Ang u v s ∧ (0 < det2 u v → 0 < s) ∧ (det2 u v < 0 → s < 0) := by
  revert u v h
  intro u v h
  obtain ⟨hu, hv⟩ := hP_pos_of_det h
  refine exI ?_ (angle u.1 u.2.1 u.2.2 v.1 v.2.1 v.2.2 hu hv)
  intro n
  intro hx9
  obtain ⟨a1, a2⟩ := hx9
  have pu : (0 : Rat) < (hP u : Rat) := by have := Rat.intCast_lt_intCast.mpr hu; exact this
  have pv : (0 : Rat) < (hP v : Rat) := by have := Rat.intCast_lt_intCast.mpr hv; exact this
  have pp : (0 : Rat) < (hP u : Rat) * (hP v : Rat) := Rat.mul_pos pu pv
  have de := diff_eq hu hv
  have e6 : ((6 : Int) : Rat) = 6 := rfl
  have e3 : ((3 : Int) : Rat) = 3 := rfl
  have ez : ((0 : Int) : Rat) = 0 := rfl
  change 0 < det2 u v → 0 < hN v * hP u - hN u * hP v - 6 * n * (hP u * hP v) ∧ hN v * hP u - hN u * hP v - 6 * n * (hP u * hP v) < 3 * (hP u * hP v) at a1
  change det2 u v < 0 → -(3 * (hP u * hP v)) < hN v * hP u - hN u * hP v - 6 * n * (hP u * hP v) ∧ hN v * hP u - hN u * hP v - 6 * n * (hP u * hP v) < 0 at a2
  have key : (hR v - hR u - (n : Rat)) * (6 * ((hP u : Rat) * (hP v : Rat))) = ((hN v * hP u - hN u * hP v - 6 * n * (hP u * hP v) : Int) : Rat) := by
    have : ((hN v * hP u - hN u * hP v - 6 * n * (hP u * hP v) : Int) : Rat) = ((hN v * hP u - hN u * hP v : Int) : Rat) - ((6 * n * (hP u * hP v) : Int) : Rat) := Rat.intCast_sub _ _
    rw [this, ← de]
    simp only [Rat.intCast_mul, e6]
    grind
  have p6 : (0 : Rat) < 6 * ((hP u : Rat) * (hP v : Rat)) := by grind
  have lt_of : ∀ {x y : Rat}, x * (6 * ((hP u : Rat) * (hP v : Rat))) < y * (6 * ((hP u : Rat) * (hP v : Rat))) → x < y := fun h => (Rat.mul_lt_mul_right p6).mp h
  rcases Int.lt_or_lt_of_ne h with hn | hp
  · obtain ⟨b1, b2⟩ := a2 hn
    have c1 := Rat.intCast_lt_intCast.mpr b1
    have c2 := Rat.intCast_lt_intCast.mpr b2
    rw [← key] at c1 c2
    rw [Rat.intCast_neg, Rat.intCast_mul, Rat.intCast_mul, e3] at c1
    rw [ez] at c2
    have s1 : -(1 / 2) < hR v - hR u - (n : Rat) := lt_of (by grind)
    have s2 : hR v - hR u - (n : Rat) < 0 := lt_of (by grind)
    exact ⟨_, ⟨⟨n, rfl⟩, s1, by grind⟩, fun h9 => by omega, fun _ => s2⟩
  · obtain ⟨b1, b2⟩ := a1 hp
    have c1 := Rat.intCast_lt_intCast.mpr b1
    have c2 := Rat.intCast_lt_intCast.mpr b2
    rw [← key] at c1 c2
    rw [Rat.intCast_mul, Rat.intCast_mul, e3] at c2
    rw [ez] at c1
    have s1 : 0 < hR v - hR u - (n : Rat) := lt_of (by grind)
    have s2 : hR v - hR u - (n : Rat) < 1 / 2 := lt_of (by grind)
    exact ⟨_, ⟨⟨n, rfl⟩, by grind, s2⟩, fun _ => s1, fun h9 => by omega⟩
/-- an angle keeps away from a half turn -/
theorem Ang.gap {u v : L3'} {s : Rat} (h : Ang u v s) (hu : 0 < hP u) (hv : 0 < hP v) (u1 : hP u < 64) (v1 : hP v < 64) : -(1 / 2 - 1 / 100000) ≤ s ∧ s ≤ 1 / 2 - 1 / 100000 := by
  revert u v s h hu hv u1 v1
  intro u v s h hu hv u1 v1
  obtain ⟨⟨n, e⟩, a, b⟩ := h
  have pu : (0 : Rat) < (hP u : Rat) := by have := Rat.intCast_lt_intCast.mpr hu; exact this
  have pv : (0 : Rat) < (hP v : Rat) := by have := Rat.intCast_lt_intCast.mpr hv; exact this
  have pp : (0 : Rat) < (hP u : Rat) * (hP v : Rat) := Rat.mul_pos pu pv
  have de := diff_eq hu hv
  have e6 : ((6 : Int) : Rat) = 6 := rfl
  have e3 : ((3 : Int) : Rat) = 3 := rfl
  have e1' : ((1 : Int) : Rat) = 1 := rfl
  have p6 : (0 : Rat) < 6 * ((hP u : Rat) * (hP v : Rat)) := by grind
  have key : s * (6 * ((hP u : Rat) * (hP v : Rat))) = ((hN v * hP u - hN u * hP v - 6 * n * (hP u * hP v) : Int) : Rat) := by
    have : ((hN v * hP u - hN u * hP v - 6 * n * (hP u * hP v) : Int) : Rat) = ((hN v * hP u - hN u * hP v : Int) : Rat) - ((6 * n * (hP u * hP v) : Int) : Rat) := Rat.intCast_sub _ _
    rw [this, ← de, e]
    simp only [Rat.intCast_mul, e6]
    grind
  have ec : ((3 * (hP u * hP v) : Int) : Rat) = 3 * ((hP u : Rat) * (hP v : Rat)) := by rw [Rat.intCast_mul, Rat.intCast_mul, e3]
  have h1 : hN v * hP u - hN u * hP v - 6 * n * (hP u * hP v) < 3 * (hP u * hP v) := by
    apply clt
    rw [← key, ec]
    have := Rat.mul_lt_mul_of_pos_right b p6
    grind
  have h2 : -(3 * (hP u * hP v)) < hN v * hP u - hN u * hP v - 6 * n * (hP u * hP v) := by
    apply clt
    rw [← key, Rat.intCast_neg, ec]
    have := Rat.mul_lt_mul_of_pos_right a p6
    grind
  have hPP : hP u * hP v ≤ 3969 := by
    have := Int.mul_le_mul (show hP u ≤ 63 by lia) (show hP v ≤ 63 by omega) (by omega) (by decide)
    exact this
  have hPP' : ((hP u : Rat) * (hP v : Rat)) ≤ 3969 := by
    have := Rat.intCast_le_intCast.mpr hPP
    rw [Rat.intCast_mul] at this
    exact this
  have i1 := Rat.intCast_le_intCast.mpr (show hN v * hP u - hN u * hP v - 6 * n * (hP u * hP v) ≤ 3 * (hP u * hP v) - 1 by omega)
  have i2 := Rat.intCast_le_intCast.mpr (show -(3 * (hP u * hP v)) + 1 ≤ hN v * hP u - hN u * hP v - 6 * n * (hP u * hP v) by omega)
  rw [← key, Rat.intCast_sub, ec, e1'] at i1
  rw [← key, Rat.intCast_add, Rat.intCast_neg, ec, e1'] at i2
  have le_of : ∀ {x y : Rat}, x * (6 * ((hP u : Rat) * (hP v : Rat))) ≤ y * (6 * ((hP u : Rat) * (hP v : Rat))) → x ≤ y := fun h => Rat.le_of_mul_le_mul_right h p6
  exact ⟨le_of (by grind), le_of (by grind)⟩
end Mine
end
section
set_option maxRecDepth 100000
namespace Mine
noncomputable def ang (u v : L3') : Rat := open Classical in if h : ∃ s, Ang u v s then Classical.choose h else 0
theorem ang_is {u v : L3'} {s : Rat} (h : Ang u v s) : ang u v = s := by
  have he : ∃ s, Ang u v s := ⟨s, h⟩
  unfold ang
  rw [dif_pos he]
  exact Ang.uniq (Classical.choose_spec he) h
theorem ang_det {u v : L3'} (h : det2 u v ≠ 0) : Ang u v (ang u v) ∧ (0 < det2 u v → 0 < ang u v) ∧ (det2 u v < 0 → ang u v < 0) := by
  obtain ⟨s, a, b, c⟩ := Ang.ofDet h
  rw [ang_is a]; exact ⟨a, b, c⟩
def mixL' (x : Int) (l : L3') (y : Int) (r : L3') : L3' :=
  let M := min (x * l.1 + y * r.1) (min (x * l.2.1 + y * r.2.1) (x * l.2.2 + y * r.2.2))
  (x * l.1 + y * r.1 - M, x * l.2.1 + y * r.2.1 - M, x * l.2.2 + y * r.2.2 - M)
theorem det_mix_left (a b : Int) (l r u : L3') : det2 u (mixL' a l b r) = a * det2 u l + b * det2 u r := by
  unfold det2 detR mixL'; dsimp only; grind
theorem det_mix_right (a b : Int) (l r u : L3') : det2 (mixL' a l b r) u = a * det2 l u + b * det2 r u := by
  unfold det2 detR mixL'; dsimp only; grind
theorem det_self (u : L3') : det2 u u = 0 := by unfold det2 detR; grind
theorem det_swap (u v : L3') : det2 v u = -det2 u v := by unfold det2 detR; grind
def mx (v : L3') : Int := max v.1 (max v.2.1 v.2.2)
def Pos3 (v : L3') : Prop := 0 ≤ v.1 ∧ 0 ≤ v.2.1 ∧ 0 ≤ v.2.2
def Pm (a : Int) : Prop := a = 1 ∨ a = -1
theorem lo_bd {a l A : Int} (ha : Pm a) (h0 : 0 ≤ l) (h1 : l ≤ A) : (if a = 1 then 0 else -A) ≤ a * l ∧ a * l ≤ (if a = 1 then 0 else -A) + A := by
  rcases ha with rfl | rfl
  · rw [if_pos rfl]; omega
  · rw [if_neg (by decide)]; lia
theorem mx_ge (v : L3') : v.1 ≤ mx v ∧ v.2.1 ≤ mx v ∧ v.2.2 ≤ mx v :=
  ⟨Int.le_max_left _ _, Int.le_trans (Int.le_max_left _ _) (Int.le_max_right _ _), Int.le_trans (Int.le_max_right _ _) (Int.le_max_right _ _)⟩
theorem add_bd {c C x A y B : Int} (h : c ≤ x ∧ x ≤ c + A) (g : C ≤ y ∧ y ≤ C + B) : c + C ≤ x + y ∧ x + y ≤ c + C + (A + B) := by lia
theorem sub_bd {c M x S : Int} (h : c ≤ M) (g : x ≤ c + S) : x - M ≤ S := by lia
theorem mix_bd {a b : Int} {l r : L3'} (ha : Pm a) (hb : Pm b) (hl : Pos3 l) (hr : Pos3 r) : Pos3 (mixL' a l b r) ∧ mx (mixL' a l b r) ≤ mx l + mx r := by
  revert a b l r ha hb hl hr
  intro a b l r ha hb hl hr
  have m1 := mx_ge l
  have m2 := mx_ge r
  have x1 := add_bd (lo_bd ha hl.1 m1.1) (lo_bd hb hr.1 m2.1)
  have x2 := add_bd (lo_bd ha hl.2.1 m1.2.1) (lo_bd hb hr.2.1 m2.2.1)
  have x3 := add_bd (lo_bd ha hl.2.2 m1.2.2) (lo_bd hb hr.2.2 m2.2.2)
  have hM := Int.le_min.mpr ⟨x1.1, Int.le_min.mpr ⟨x2.1, x3.1⟩⟩
  refine ⟨⟨Int.sub_nonneg_of_le (Int.min_le_left _ _), Int.sub_nonneg_of_le (Int.le_trans (Int.min_le_right _ _) (Int.min_le_left _ _)), Int.sub_nonneg_of_le (Int.le_trans (Int.min_le_right _ _) (Int.min_le_right _ _))⟩, ?_⟩
  exact Int.max_le.mpr ⟨sub_bd hM x1.2, Int.max_le.mpr ⟨sub_bd hM x2.2, sub_bd hM x3.2⟩⟩
/-- one mix changes the angles by -s where both signs are minus, else not at all -/
theorem ang_mix {a b : Int} {l r : L3'} (ha : Pm a) (hb : Pm b) (hs : Pm (det2 l r)) :
    ang l (mixL' a l b r) + ang (mixL' a l b r) r = ang l r - (if a = -1 ∧ b = -1 then ((det2 l r : Int) : Rat) else 0) := by
  revert a b l r ha hb hs
  intro a b l r ha hb hs
  have d1 : det2 l (mixL' a l b r) = b * det2 l r := by rw [det_mix_left, det_self]; lia
  have d2 : det2 (mixL' a l b r) r = a * det2 l r := by rw [det_mix_right, det_self]; lia
  generalize mixL' a l b r = m at *
  have n0 : det2 l r ≠ 0 := by rcases hs with h | h <;> rw [h] <;> decide
  have n1 : det2 l m ≠ 0 := by rw [d1]; rcases hs with h | h <;> rcases hb with rfl | rfl <;> rw [h] <;> decide
  have n2 : det2 m r ≠ 0 := by rw [d2]; rcases hs with h | h <;> rcases ha with rfl | rfl <;> rw [h] <;> decide
  obtain ⟨⟨⟨k0, e0⟩, x1, x2⟩, p0, q0⟩ := ang_det n0
  obtain ⟨⟨⟨k1, e1⟩, y1, y2⟩, p1, q1⟩ := ang_det n1
  obtain ⟨⟨⟨k2, e2⟩, z1, z2⟩, p2, q2⟩ := ang_det n2
  obtain ⟨k, hk⟩ : ∃ k : Int, (k : Rat) = (k0 : Rat) - (k1 : Rat) - (k2 : Rat) := ⟨k0 - k1 - k2, by simp only [Rat.intCast_sub]⟩
  have hsum : ang l m + ang m r - ang l r = (k : Rat) := by grind
  clear e0 e1 e2 hk
  generalize ang l m = X at *
  generalize ang m r = Y at *
  generalize ang l r = Z at *
  have e11 : ((1 : Int) : Rat) = 1 := rfl
  have e12 : ((-1 : Int) : Rat) = -1 := rfl
  rcases hs with hs | hs <;> rcases ha with rfl | rfl <;> rcases hb with rfl | rfl <;> rw [hs] at d1 d2 p0 q0 ⊢ <;> rw [d1] at p1 q1 <;> rw [d2] at p2 q2 <;> simp at p0 q0 p1 q1 p2 q2 ⊢
  · have : k = 0 := int_zero (by grind) (by grind)
    subst this; grind
  · have : k = 0 := int_zero (by grind) (by grind)
    subst this; grind
  · have : k = 0 := int_zero (by grind) (by grind)
    subst this; grind
  · obtain ⟨j, hj⟩ : ∃ j : Int, (j : Rat) = (k : Rat) + 1 := ⟨k + 1, by rw [Rat.intCast_add]; rfl⟩
    have : j = 0 := int_zero (by grind) (by grind)
    subst this; grind
  · have : k = 0 := int_zero (by grind) (by grind)
    subst this; grind
  · have : k = 0 := int_zero (by grind) (by grind)
    subst this; grind
  · have : k = 0 := int_zero (by grind) (by grind)
    subst this; grind
  · obtain ⟨j, hj⟩ : ∃ j : Int, (j : Rat) = (k : Rat) - 1 := ⟨k - 1, by rw [Rat.intCast_sub]; rfl⟩
    have : j = 0 := int_zero (by grind) (by grind)
    subst this; grind
end Mine
end
section
set_option maxRecDepth 100000
namespace Mine
def rsum : List Rat → Rat
  | [] => 0
  | x :: t => x + rsum t
theorem rsum_append : ∀ a b : List Rat, rsum (a ++ b) = rsum a + rsum b
  | [], b => by simp only [List.nil_append, rsum]; grind
  | x :: a, b => by simp only [List.cons_append, rsum, rsum_append a b]; grind
theorem rsum_rot1 : ∀ a : List Rat, rsum (rot1' a) = rsum a
  | [] => rfl
  | x :: t => by simp only [rot1', rsum_append, rsum]; grind
theorem rsum_rotN (a : List Rat) : ∀ n, rsum (rotN' n a) = rsum a
  | 0 => rfl
  | n + 1 => (rsum_rot1 _).trans (rsum_rotN a n)
theorem sum_rot1 : ∀ a : List Int, (rot1' a).sum = a.sum
  | [] => rfl
  | x :: t => by simp [rot1', Int.add_comm]
theorem sum_rotN (a : List Int) : ∀ n, (rotN' n a).sum = a.sum
  | 0 => rfl
  | n + 1 => (sum_rot1 _).trans (sum_rotN a n)
theorem mem_rot1' {α : Type} {a : α} : ∀ {q : List α}, a ∈ rot1' q → a ∈ q
  | [], h => h
  | b :: t, h => by
    rcases List.mem_append.mp h with h | h
    · exact List.mem_cons_of_mem _ h
    · rw [List.mem_singleton.mp h]; exact List.mem_cons_self
theorem mem_rotN' {α : Type} {a : α} {q : List α} : ∀ {n : Nat}, a ∈ rotN' n q → a ∈ q
  | 0, h => h
  | n + 1, h => mem_rotN' (n := n) (mem_rot1' h)
def tri (x y z : L3') : Int := det2 x y * det2 y z * det2 x z
def msum (u v : L3') : Int := mx u + mx v
structure Inv (q : List L3') (sg : List Int) (T t s : Int) : Prop where
  len : 3 ≤ q.length
  pos : ∀ v ∈ q, Pos3 v ∧ mx v ≤ t ∧ 0 < hP v
  nb : ∀ x ∈ cl msum q, x ≤ s
  sgn : sg = cl det2 q
  pm : ∀ x ∈ sg, Pm x
  wind : rsum (cl ang q) = (T : Rat)
  twelve : 3 * sg.sum - (cl3 tri q).sum = 12 * T
theorem Inv.rot {q : List L3'} {sg : List Int} {T t s : Int} (h : Inv q sg T t s) (n : Nat) : Inv (rotN' n q) (rotN' n sg) T t s where
  len := by rw [rotN'_len]; exact h.len
  pos v hv := h.pos v (mem_rotN' hv)
  nb x hx := by rw [cl_rotN] at hx; exact h.nb x (mem_rotN' hx)
  sgn := by rw [cl_rotN, h.sgn]
  pm x hx := h.pm x (mem_rotN' hx)
  wind := by rw [cl_rotN, rsum_rotN]; exact h.wind
  twelve := by rw [sum_rotN, cl3_rotN _ _ h.len]; exact h.twelve
theorem tri_change {a b : Int} {p l r c : L3'} (ha : Pm a) (hb : Pm b) (hs : Pm (det2 l r)) (hr : Pm (det2 r c)) (hp : Pm (det2 p l)) :
    tri p l (mixL' a l b r) + tri l (mixL' a l b r) r + tri (mixL' a l b r) r c - tri p l r - tri l r c = 3 * (a * b * det2 l r) := by
  revert a b p l r c ha hb hs hr hp
  intro a b p l r c ha hb hs hr hp
  have d1 : det2 l (mixL' a l b r) = b * det2 l r := by rw [det_mix_left, det_self]; lia
  have d2 : det2 (mixL' a l b r) r = a * det2 l r := by rw [det_mix_right, det_self]; lia
  have d3 := det_mix_left a b l r p
  have d4 := det_mix_right a b l r c
  unfold tri
  rw [d1, d2, d3, d4]
  generalize det2 l r = s at *
  generalize det2 r c = s1 at *
  generalize det2 p l = e at *
  have sq : ∀ {x : Int}, Pm x → x * x = 1 := fun h => by rcases h with rfl | rfl <;> rfl
  have q1 := sq ha
  have q2 := sq hb
  have q3 := sq hs
  have q4 := sq hr
  have q5 := sq hp
  generalize det2 p r = D
  generalize det2 l c = D'
  clear d1 d2 d3 d4 ha hb hs hr hp sq
  grind
theorem Inv.ins {l r c : L3'} {t' : List L3'} {sg : List Int} {T t s a b : Int} (h : Inv (l :: r :: c :: t') sg T t s) (ha : Pm a) (hb : Pm b) (hts : t ≤ s) :
    ∃ s0 s1 sr, sg = s0 :: s1 :: sr ∧ Inv (c :: t' ++ [l, mixL' a l b r, r]) (sr ++ [s0 * b, s0 * a, s1]) (T - if a = -1 ∧ b = -1 then s0 else 0) s (s + t) := by
  revert l r c t' sg T t s a b h ha hb hts
  intro l r c t' sg T t s a b h ha hb hts
  have e0 := h.sgn
  rw [cl_old] at e0
  refine ⟨_, _, _, e0, ?_⟩
  have hpl : Pm (det2 l r) := h.pm _ (by rw [e0]; exact List.mem_cons_self)
  have hpr : Pm (det2 r c) := h.pm _ (by rw [e0]; exact List.mem_cons_of_mem _ List.mem_cons_self)
  obtain ⟨l1, l2, l3⟩ := h.pos l List.mem_cons_self
  obtain ⟨r1, r2, r3⟩ := h.pos r (List.mem_cons_of_mem _ List.mem_cons_self)
  obtain ⟨mp, mb⟩ := mix_bd ha hb l1 r1
  have hmx0 : 0 ≤ mx l := by unfold mx; have := l1.1; omega
  have hlr : mx l + mx r ≤ s := h.nb _ (by rw [cl_old]; exact List.mem_cons_self)
  have hrc : mx r + mx c ≤ s := h.nb _ (by rw [cl_old]; exact List.mem_cons_of_mem _ List.mem_cons_self)
  have d1 : det2 l (mixL' a l b r) = det2 l r * b := by rw [det_mix_left, det_self]; simp [Int.mul_comm]
  have d2 : det2 (mixL' a l b r) r = det2 l r * a := by rw [det_mix_right, det_self]; simp [Int.mul_comm]
  have n1 : det2 l (mixL' a l b r) ≠ 0 := by rw [d1]; rcases hpl with h | h <;> rcases hb with rfl | rfl <;> rw [h] <;> decide
  have hmP : 0 < hP (mixL' a l b r) := (hP_pos_of_det n1).2
  have ham := ang_mix ha hb hpl
  refine exI ?_ (cl3_ins tri l (mixL' a l b r) r c t')
  intro p
  refine exI ?_
  intro A
  intro hx9
  obtain ⟨eA, e3⟩ := hx9
  have hpp : Pm (det2 p l) := by
    apply h.pm
    rw [e0]
    refine List.mem_cons_of_mem _ (List.mem_cons_of_mem _ ?_)
    have : c :: t' ++ [l] = A ++ p :: [l] := by rw [eA]; simp
    rw [this, pl_append]
    refine List.mem_append_right _ ?_
    simp [pl]
  have htc := tri_change ha hb hpl hpr hpp
  generalize hm : mixL' a l b r = m at *
  constructor
  · simp
  · intro v hv
    have hv' : v ∈ c :: t' ∨ v = l ∨ v = m ∨ v = r := by simpa [or_assoc] using hv
    rcases hv' with hv' | rfl | rfl | rfl
    · obtain ⟨x1, x2, x3⟩ := h.pos v (List.mem_cons_of_mem _ (List.mem_cons_of_mem _ hv'))
      exact ⟨x1, by lia, x3⟩
    · exact ⟨l1, by omega, l3⟩
    · exact ⟨mp, by lia, hmP⟩
    · exact ⟨r1, by omega, r3⟩
  · intro x hx
    rw [cl_new] at hx
    rcases List.mem_append.mp hx with hx | hx
    · have := h.nb x (by rw [cl_old]; exact List.mem_cons_of_mem _ (List.mem_cons_of_mem _ hx))
      have ht0 : 0 ≤ t := by lia
      lia
    · simp only [List.mem_cons, List.not_mem_nil, or_false] at hx
      unfold msum at hx
      rcases hx with rfl | rfl | rfl <;> lia
  · rw [cl_new, d1, d2]
  · intro x hx
    rcases List.mem_append.mp hx with hx | hx
    · exact h.pm x (by rw [e0]; exact List.mem_cons_of_mem _ (List.mem_cons_of_mem _ hx))
    · simp only [List.mem_cons, List.not_mem_nil, or_false] at hx
      rcases hx with rfl | rfl | rfl
      · rcases hpl with h | h <;> rcases hb with rfl | rfl <;> rw [h] <;> unfold Pm <;> decide
      · rcases hpl with h | h <;> rcases ha with rfl | rfl <;> rw [h] <;> unfold Pm <;> decide
      · exact hpr
  · have hw := h.wind
    rw [cl_old] at hw
    rw [cl_new, rsum_append]
    simp only [rsum] at hw ⊢
    rw [Rat.intCast_sub]
    have e9 : (((if a = -1 ∧ b = -1 then det2 l r else 0) : Int) : Rat) = (if a = -1 ∧ b = -1 then ((det2 l r : Int) : Rat) else 0) := by split <;> rfl
    rw [e9]
    grind
  · have ht := h.twelve
    rw [e0] at ht
    rw [e3]
    simp only [List.sum_append, List.sum_cons, List.sum_nil] at ht ⊢
    clear e3 h hpl hlr hrc d1 d2 n1 ham e0
    generalize (pl det2 (c :: t' ++ [l])).sum = SR at *
    generalize (cl3 tri (l :: r :: c :: t')).sum = TR at *
    generalize det2 l r = s0 at *
    rcases ha with rfl | rfl <;> rcases hb with rfl | rfl <;> simp at htc ⊢ <;> lia
end Mine
end
section
open PySem PySem.Float64
set_option maxRecDepth 100000
namespace Mine
def growStep' (i : Nat) (d : Int) (q : List L3') : List L3' :=
  let kd := (d.fdiv (3 + (0 + (i : Int)))).fmod 4
  match rotN' (d.fmod (3 + (0 + (i : Int)))).toNat q with
  | l :: r :: t => t ++ [l, mixL' (1 - 2 * kd.fmod 2) l (1 - 2 * kd.fdiv 2) r, r]
  | q => q
def growS' (ds : List Int) : Nat → List L3'
  | 0 => [(1, 0, 0), (0, 1, 0), (0, 0, 1)]
  | i + 1 => growStep' i (ds.getD i 0) (growS' ds i)
def toldStep' (i : Nat) (d : Int) (st : List Int × Int) : List Int × Int :=
  let pl := (d.fmod (3 + (0 + (i : Int)))).toNat
  let kd := (d.fdiv (3 + (0 + (i : Int)))).fmod 4
  let sg := st.1.drop pl ++ st.1.take pl
  (sg.drop 2 ++ [sg.getD 0 0 * (1 - 2 * kd.fdiv 2), sg.getD 0 0 * (1 - 2 * kd.fmod 2), sg.getD 1 0], if kd = 3 then st.2 - sg.getD 0 0 else st.2)
def toldS' (ds : List Int) : Nat → List Int × Int
  | 0 => ([1, 1, 1], 1)
  | i + 1 => toldStep' i (ds.getD i 0) (toldS' ds i)
theorem kd_pm {kd : Int} (h0 : 0 ≤ kd) (h1 : kd < 4) : Pm (1 - 2 * kd.fmod 2) ∧ Pm (1 - 2 * kd.fdiv 2) ∧ ((1 - 2 * kd.fmod 2 = -1 ∧ 1 - 2 * kd.fdiv 2 = -1) ↔ kd = 3) := by
  have : kd = 0 ∨ kd = 1 ∨ kd = 2 ∨ kd = 3 := by lia
  unfold Pm
  rcases this with rfl | rfl | rfl | rfl <;> decide
theorem inv_step {i : Nat} {d : Int} {q : List L3'} {st : List Int × Int} {t s : Int} (h : Inv q st.1 st.2 t s) (hq : q.length = 3 + i) (hts : t ≤ s) :
    Inv (growStep' i d q) (toldStep' i d st).1 (toldStep' i d st).2 s (s + t) ∧ (growStep' i d q).length = 3 + (i + 1) := by
  have hp0 : 0 ≤ d.fmod (3 + (0 + (i : Int))) := Int.fmod_nonneg_of_pos _ (by omega)
  have hp1 : d.fmod (3 + (0 + (i : Int))) < 3 + (0 + (i : Int)) := Int.fmod_lt_of_pos _ (by omega)
  have hk0 : 0 ≤ (d.fdiv (3 + (0 + (i : Int)))).fmod 4 := Int.fmod_nonneg_of_pos _ (by decide)
  have hk1 : (d.fdiv (3 + (0 + (i : Int)))).fmod 4 < 4 := Int.fmod_lt_of_pos _ (by decide)
  have hsl : st.1.length = 3 + i := by rw [h.sgn, cl_len, hq]
  have hr := h.rot (d.fmod (3 + (0 + (i : Int)))).toNat
  have es : rotN' (d.fmod (3 + (0 + (i : Int)))).toNat st.1 = st.1.drop (d.fmod (3 + (0 + (i : Int)))).toNat ++ st.1.take (d.fmod (3 + (0 + (i : Int)))).toNat := rotN'_drop _ _ (by omega)
  have hlen := rotN'_len (d.fmod (3 + (0 + (i : Int)))).toNat q
  unfold growStep' toldStep'
  dsimp only
  rw [← es]
  generalize rotN' (d.fmod (3 + (0 + (i : Int)))).toNat st.1 = sg at *
  generalize rotN' (d.fmod (3 + (0 + (i : Int)))).toNat q = q' at *
  generalize (d.fdiv (3 + (0 + (i : Int)))).fmod 4 = kd at *
  obtain ⟨pa, pb, pk⟩ := kd_pm hk0 hk1
  match q', hr, hlen with
  | l :: r :: c :: t', hr, hlen =>
    obtain ⟨s0, s1, sr, e, hi⟩ := hr.ins pa pb hts
    subst e
    refine ⟨?_, by simp at hlen ⊢; lia⟩
    have e1 : (if kd = 3 then st.2 - (s0 :: s1 :: sr).getD 0 0 else st.2) = st.2 - if 1 - 2 * kd.fmod 2 = -1 ∧ 1 - 2 * kd.fdiv 2 = -1 then s0 else 0 := by
      by_cases h3 : kd = 3
      · rw [if_pos h3, if_pos (pk.mpr h3)]; rfl
      · rw [if_neg h3, if_neg (mt pk.mp h3)]; lia
    rw [e1]
    exact hi
  | [], hr, hlen => simp at hlen; omega
  | [_], hr, hlen => simp at hlen; omega
  | [_, _], hr, hlen => simp at hlen; omega
theorem inv_zero : Inv [(1, 0, 0), (0, 1, 0), (0, 0, 1)] [1, 1, 1] 1 1 2 where
  len := by decide
  pos := by
    intro v hv
    simp only [List.mem_cons, List.not_mem_nil, or_false] at hv
    rcases hv with rfl | rfl | rfl <;> (unfold Pos3 mx hP hueP; decide)
  nb := by decide
  sgn := by decide
  pm := by
    intro x hx
    simp only [List.mem_cons, List.not_mem_nil, or_false, or_self] at hx
    exact .inl hx
  wind := by
    have a : ∀ u v : L3', ∀ s : Rat, Ang u v s → ang u v = s := fun u v s h => ang_is h
    have k1 : Ang (1, 0, 0) (0, 1, 0) (1 / 3) := ⟨⟨0, by decide +kernel⟩, by decide +kernel, by decide +kernel⟩
    have k2 : Ang (0, 1, 0) (0, 0, 1) (1 / 3) := ⟨⟨0, by decide +kernel⟩, by decide +kernel, by decide +kernel⟩
    have k3 : Ang (0, 0, 1) (1, 0, 0) (1 / 3) := ⟨⟨-1, by decide +kernel⟩, by decide +kernel, by decide +kernel⟩
    show ang (1, 0, 0) (0, 1, 0) + (ang (0, 1, 0) (0, 0, 1) + (ang (0, 0, 1) (1, 0, 0) + 0)) = ((1 : Int) : Rat)
    rw [a _ _ _ k1, a _ _ _ k2, a _ _ _ k3]
    decide +kernel
  twelve := by decide
def tS : Nat → Int × Int
  | 0 => (1, 2)
  | i + 1 => ((tS i).2, (tS i).2 + (tS i).1)
theorem tS_ok : ∀ i, (tS i).1 ≤ (tS i).2 ∧ 0 ≤ (tS i).1
  | 0 => by decide
  | i + 1 => by
    obtain ⟨h, h0⟩ := tS_ok i
    exact ⟨Int.le_add_of_nonneg_right h0, Int.le_trans h0 h⟩
theorem inv_all (ds : List Int) : ∀ i, Inv (growS' ds i) (toldS' ds i).1 (toldS' ds i).2 (tS i).1 (tS i).2 ∧ (growS' ds i).length = 3 + i
  | 0 => ⟨inv_zero, rfl⟩
  | i + 1 => inv_step (d := ds.getD i 0) (inv_all ds i).1 (inv_all ds i).2 (tS_ok i).1
end Mine
end
section
open PySem PySem.Float64
set_option maxRecDepth 100000
namespace Mine
def LR' (v : L3') : Prop := (0 ≤ v.1 ∧ v.1 < 64) ∧ (0 ≤ v.2.1 ∧ v.2.1 < 64) ∧ (0 ≤ v.2.2 ∧ v.2.2 < 64)
theorem ok_of {v : L3'} (h1 : Pos3 v) (h2 : mx v ≤ 63) (h3 : 0 < hP v) : LR' v ∧ 0 < v.1 * 4096 + v.2.1 * 64 + v.2.2 ∧ hP v < 64 := by
  obtain ⟨r, g, b⟩ := v
  obtain ⟨p1, p2, p3⟩ := h1
  have m0 : 0 ≤ min r (min g b) := Int.le_min.mpr ⟨p1, Int.le_min.mpr ⟨p2, p3⟩⟩
  have M1 : r ≤ max r (max g b) := Int.le_max_left ..
  have M2 : g ≤ max r (max g b) := Int.le_trans (Int.le_max_left ..) (Int.le_max_right ..)
  have M3 : b ≤ max r (max g b) := Int.le_trans (Int.le_max_right ..) (Int.le_max_right ..)
  have M4 : max r (max g b) ≤ r * 4096 + g * 64 + b := by
    refine Int.max_le.mpr ⟨?_, Int.max_le.mpr ⟨?_, ?_⟩⟩ <;> (dsimp only at p1 p2 p3; omega)
  have h3 : 0 < max r (max g b) - min r (min g b) := h3
  have h2 : max r (max g b) ≤ 63 := h2
  show LR' (r, g, b) ∧ 0 < r * 4096 + g * 64 + b ∧ max r (max g b) - min r (min g b) < 64
  generalize max r (max g b) = M at *
  generalize min r (min g b) = m at *
  refine ⟨?_, by omega, by omega⟩
  unfold LR'
  dsimp only at *
  refine ⟨⟨p1, ?_⟩, ⟨p2, ?_⟩, p3, ?_⟩ <;> omega
theorem tS_5 : ∀ i, i ≤ 5 → (tS i).1 ≤ 63 := by decide
theorem grow_ok (ds : List Int) {i : Nat} (hi : i ≤ 5) {v : L3'} (hv : v ∈ growS' ds i) : LR' v ∧ 0 < v.1 * 4096 + v.2.1 * 64 + v.2.2 ∧ hP v < 64 := by
  obtain ⟨h1, h2, h3⟩ := (inv_all ds i).1.pos v hv
  exact ok_of h1 (Int.le_trans h2 (tS_5 i hi)) h3
def hueL' (v : L3') : UInt64 := hueF' v.1 v.2.1 v.2.2
def wayF' (hs : List UInt64) : Nat → UInt64
  | 0 => 0
  | i + 1 => add (wayF' hs i) (stepF' (modF' (sub (hs.getD i 0) (hs.getD (if i = 0 then 7 else i - 1) 0))))
theorem step_ang {u v : L3'} {s : Rat} (h : Ang u v s) (hu : 0 < hP u) (hv : 0 < hP v) (u1 : hP u < 64) (v1 : hP v < 64) : Nb (stepF' (modF' (sub (hueL' v) (hueL' u)))) s (16 * uu) (1 / 2) := by
  obtain ⟨g1, g2⟩ := h.gap hu hv u1 v1
  obtain ⟨⟨n3, e⟩, _, _⟩ := h
  obtain ⟨fu, ⟨n2, a1, a2⟩, a3, a4⟩ := hue_R (r := u.1) (g := u.2.1) (b := u.2.2) hu
  obtain ⟨fv, ⟨n1, b1, b2⟩, b3, b4⟩ := hue_R (r := v.1) (g := v.2.1) (b := v.2.2) hv
  exact step_R (x := hueL' v) (y := hueL' u) (a := hR v) (b := hR u) (n3 := n3) fv fu b1 b2 b3 b4 a1 a2 a3 a4 e g1 g2
theorem zero_nb : Nb 0 0 0 0 := by
  have e : R 0 = 0 := R_const (i := 0) (by decide +kernel)
  exact ⟨fi_of (by decide +kernel), by rw [e]; grind, by rw [e]; grind, by grind, by grind⟩
theorem way8 {u0 u1 u2 u3 u4 u5 u6 u7 : L3'} {s0 s1 s2 s3 s4 s5 s6 s7 : Rat} {T : Int} (a0 : Ang u7 u0 s0) (a1 : Ang u0 u1 s1) (a2 : Ang u1 u2 s2) (a3 : Ang u2 u3 s3) (a4 : Ang u3 u4 s4) (a5 : Ang u4 u5 s5) (a6 : Ang u5 u6 s6) (a7 : Ang u6 u7 s7)
    (p0 : 0 < hP u0 ∧ hP u0 < 64) (p1 : 0 < hP u1 ∧ hP u1 < 64) (p2 : 0 < hP u2 ∧ hP u2 < 64) (p3 : 0 < hP u3 ∧ hP u3 < 64) (p4 : 0 < hP u4 ∧ hP u4 < 64) (p5 : 0 < hP u5 ∧ hP u5 < 64) (p6 : 0 < hP u6 ∧ hP u6 < 64) (p7 : 0 < hP u7 ∧ hP u7 < 64)
    (hs : s0 + s1 + s2 + s3 + s4 + s5 + s6 + s7 = (T : Rat)) : Fi (wayF' ([u0, u1, u2, u3, u4, u5, u6, u7].map hueL') 8) ∧ toI (wayF' ([u0, u1, u2, u3, u4, u5, u6, u7].map hueL') 8) = T := by
  have hu := uu_pos
  have hsm := uu_small
  have n0 := step_ang a0 p7.1 p0.1 p7.2 p0.2
  have n1 := step_ang a1 p0.1 p1.1 p0.2 p1.2
  have n2 := step_ang a2 p1.1 p2.1 p1.2 p2.2
  have n3 := step_ang a3 p2.1 p3.1 p2.2 p3.2
  have n4 := step_ang a4 p3.1 p4.1 p3.2 p4.2
  have n5 := step_ang a5 p4.1 p5.1 p4.2 p5.2
  have n6 := step_ang a6 p5.1 p6.1 p5.2 p6.2
  have n7 := step_ang a7 p6.1 p7.1 p6.2 p7.2
  have w := (((((((zero_nb.add n0 (by grind)).add n1 (by grind)).add n2 (by grind)).add n3 (by grind)).add n4 (by grind)).add n5 (by grind)).add n6 (by grind)).add n7 (by grind)
  have w' : Nb (wayF' ([u0, u1, u2, u3, u4, u5, u6, u7].map hueL') 8) _ _ _ := w
  have lo := w'.lo
  have hi := w'.hi
  have fi := w'.fi
  clear w w' n0 n1 n2 n3 n4 n5 n6 n7 a0 a1 a2 a3 a4 a5 a6 a7
  generalize wayF' ([u0, u1, u2, u3, u4, u5, u6, u7].map hueL') 8 = W at *
  refine ⟨fi, near_int fi ?_ ?_⟩
  · rw [← hs]; grind
  · rw [← hs]; grind
end Mine
end
section
open PySem PySem.Float64
set_option maxRecDepth 100000
namespace Mine
def mate (v v' : L3') : L3' := mixL' (-(det2 v v')) v (det2 v v') v'
theorem mate_d1 {v v' : L3'} (h : Pm (det2 v v')) : det2 v (mate v v') = 1 := by
  unfold mate
  rw [det_mix_left, det_self]
  rcases h with h | h <;> rw [h] <;> decide
theorem mate_d2 {v v' : L3'} (h : Pm (det2 v v')) : det2 v' (mate v v') = 1 := by
  unfold mate
  rw [det_mix_left, det_self, det_swap v v']
  rcases h with h | h <;> rw [h] <;> decide
theorem mate_cross {u v v' : L3'} (h1 : Pm (det2 u v)) (h2 : Pm (det2 v v')) : det2 (mate u v) (mate v v') = det2 u v + det2 v v' - tri u v v' := by
  have e1 : det2 (mate u v) (mate v v') = -(det2 u v) * det2 u (mate v v') + det2 u v * det2 v (mate v v') := by
    conv => lhs; rw [show mate u v = mixL' (-(det2 u v)) u (det2 u v) v from rfl]
    exact det_mix_right _ _ _ _ _
  have e2 : det2 u (mate v v') = -(det2 v v') * det2 u v + det2 v v' * det2 u v' := det_mix_left _ _ _ _ _
  rw [e1, e2, mate_d1 h2]
  unfold tri
  generalize det2 u v' = D
  rcases h1 with h1 | h1 <;> rcases h2 with h2 | h2 <;> rw [h1, h2] <;> lia
theorem mate_ang {v v' : L3'} (h : Pm (det2 v v')) : ∃ a b, Ang v (mate v v') a ∧ 0 < a ∧ Ang v' (mate v v') b ∧ 0 < b ∧ ang v v' = a - b := by
  revert v v' h
  intro v v' h
  have d1 := mate_d1 h
  have d2 := mate_d2 h
  obtain ⟨A1, p1, _⟩ := ang_det (u := v) (v := mate v v') (by rw [d1]; decide)
  obtain ⟨A2, p2, _⟩ := ang_det (u := v') (v := mate v v') (by rw [d2]; decide)
  have q1 := p1 (by rw [d1]; decide)
  have q2 := p2 (by rw [d2]; decide)
  refine ⟨_, _, A1, q1, A2, q2, ang_is ?_⟩
  obtain ⟨⟨n, e⟩, x1, x2⟩ := A1
  obtain ⟨⟨m, e'⟩, y1, y2⟩ := A2
  refine ⟨⟨n - m, ?_⟩, by grind, by grind⟩
  rw [Rat.intCast_sub]; grind
theorem next_ang {v w w' : L3'} {a b : Rat} (h1 : Ang v w a) (p1 : 0 < a) (h2 : Ang v w' b) (p2 : 0 < b) : Ang w' w (a - b) := by
  obtain ⟨⟨n, e⟩, x1, x2⟩ := h1
  obtain ⟨⟨m, e'⟩, y1, y2⟩ := h2
  refine ⟨⟨n - m, ?_⟩, by grind, by grind⟩
  rw [Rat.intCast_sub]; grind
theorem pm_neg {s : Int} (h : Pm s) : Pm (-s) := by rcases h with rfl | rfl <;> unfold Pm <;> decide
theorem mate_ok {v v' : L3'} (h : Pm (det2 v v')) (h1 : Pos3 v) (h2 : Pos3 v') (hm : mx v + mx v' ≤ 21) : LR' (mate v v') ∧ 0 < (mate v v').1 * 4096 + (mate v v').2.1 * 64 + (mate v v').2.2 ∧ 0 < hP (mate v v') ∧ hP (mate v v') < 64 := by
  revert v v' h h1 h2 hm
  intro v v' h h1 h2 hm
  obtain ⟨b1, b2⟩ := mix_bd (pm_neg h) h h1 h2
  have hp := (hP_pos_of_det (u := v) (v := mate v v') (by rw [mate_d1 h]; decide)).2
  obtain ⟨c1, c2, c3⟩ := ok_of (v := mate v v') b1 (by show mx (mixL' (-(det2 v v')) v (det2 v v') v') ≤ 63; omega) hp
  exact ⟨c1, c2, hp, c3⟩
/-- what the law asks of the ring and its mate, in numbers -/
structure Fin8 (v : Nat → L3') (q : List L3') (sg : List Int) (T : Int) : Prop where
  hq : q = [v 0, v 1, v 2, v 3, v 4, v 5, v 6, v 7]
  hs : sg = [det2 (v 0) (v 1), det2 (v 1) (v 2), det2 (v 2) (v 3), det2 (v 3) (v 4), det2 (v 4) (v 5), det2 (v 5) (v 6), det2 (v 6) (v 7), det2 (v 7) (v 0)]
  pm : ∀ k, k < 8 → Pm (det2 (v k) (v ((k + 1) % 8)))
  way : Fi (wayF' (q.map hueL') 8) ∧ toI (wayF' (q.map hueL') 8) = T
  mates : ∀ k, k < 8 → LR' (mate (v k) (v ((k + 1) % 8))) ∧ 0 < (mate (v k) (v ((k + 1) % 8))).1 * 4096 + (mate (v k) (v ((k + 1) % 8))).2.1 * 64 + (mate (v k) (v ((k + 1) % 8))).2.2
  wayM : Fi (wayF' ([mate (v 0) (v 1), mate (v 1) (v 2), mate (v 2) (v 3), mate (v 3) (v 4), mate (v 4) (v 5), mate (v 5) (v 6), mate (v 6) (v 7), mate (v 7) (v 0)].map hueL') 8) ∧ toI (wayF' ([mate (v 0) (v 1), mate (v 1) (v 2), mate (v 2) (v 3), mate (v 3) (v 4), mate (v 4) (v 5), mate (v 5) (v 6), mate (v 6) (v 7), mate (v 7) (v 0)].map hueL') 8) = T
  twelve : sg.sum + (det2 (mate (v 7) (v 0)) (mate (v 0) (v 1)) + det2 (mate (v 0) (v 1)) (mate (v 1) (v 2)) + det2 (mate (v 1) (v 2)) (mate (v 2) (v 3)) + det2 (mate (v 2) (v 3)) (mate (v 3) (v 4)) + det2 (mate (v 3) (v 4)) (mate (v 4) (v 5)) + det2 (mate (v 4) (v 5)) (mate (v 5) (v 6)) + det2 (mate (v 5) (v 6)) (mate (v 6) (v 7)) + det2 (mate (v 6) (v 7)) (mate (v 7) (v 0))) = 12 * T
theorem as_map {α : Type} (d : α) : ∀ q : List α, q = (List.range q.length).map fun k => q.getD k d
  | [] => rfl
  | x :: q => by
    rw [List.length_cons, List.range_succ_eq_map, List.map_cons, List.map_map]
    exact congrArg (x :: ·) (as_map d q)
theorem len8' {q : List L3'} (h : q.length = 8) : ∃ v : Nat → L3', q = [v 0, v 1, v 2, v 3, v 4, v 5, v 6, v 7] :=
  ⟨fun k => q.getD k (0, 0, 0), (as_map (0, 0, 0) q).trans (by rw [h]; rfl)⟩
theorem mem8 {α : Type} (f : Nat → α) (k : Nat) (h : k < 8) : f k ∈ [f 0, f 1, f 2, f 3, f 4, f 5, f 6, f 7] :=
  List.mem_map_of_mem (f := f) (List.mem_range.mpr h)
theorem fin8 (ds : List Int) : ∃ v, Fin8 v (growS' ds 5) (toldS' ds 5).1 (toldS' ds 5).2 := by
  revert ds
  intro ds
  obtain ⟨h, hl⟩ := inv_all ds 5
  refine exI ?_ (len8' hl)
  intro v hv
  refine ⟨v, ?_⟩
  rw [hv] at h ⊢
  obtain ⟨-, pos, nb, sgn, pm, wind, twelve⟩ := h
  have hsg : (toldS' ds 5).1 = [det2 (v 0) (v 1), det2 (v 1) (v 2), det2 (v 2) (v 3), det2 (v 3) (v 4), det2 (v 4) (v 5), det2 (v 5) (v 6), det2 (v 6) (v 7), det2 (v 7) (v 0)] := sgn
  have hpm : ∀ k, k < 8 → Pm (det2 (v k) (v ((k + 1) % 8))) := by
    intro k hk
    apply pm
    rw [hsg]
    exact mem8 (fun k => det2 (v k) (v ((k + 1) % 8))) k hk
  have hnb : ∀ k, k < 8 → mx (v k) + mx (v ((k + 1) % 8)) ≤ 21 := by
    intro k hk
    apply nb
    show _ ∈ [msum (v 0) (v 1), msum (v 1) (v 2), msum (v 2) (v 3), msum (v 3) (v 4), msum (v 4) (v 5), msum (v 5) (v 6), msum (v 6) (v 7), msum (v 7) (v 0)]
    exact mem8 (fun k => mx (v k) + mx (v ((k + 1) % 8))) k hk
  have hp3 : ∀ k, k < 8 → Pos3 (v k) ∧ mx (v k) ≤ 13 ∧ 0 < hP (v k) := by
    intro k hk
    apply pos
    exact mem8 v k hk
  have hPP : ∀ k, k < 8 → 0 < hP (v k) ∧ hP (v k) < 64 := fun k hk => ⟨(hp3 k hk).2.2, (ok_of (hp3 k hk).1 (by have := (hp3 k hk).2.1; lia) (hp3 k hk).2.2).2.2⟩
  have hmo : ∀ k, k < 8 → LR' (mate (v k) (v ((k + 1) % 8))) ∧ 0 < (mate (v k) (v ((k + 1) % 8))).1 * 4096 + (mate (v k) (v ((k + 1) % 8))).2.1 * 64 + (mate (v k) (v ((k + 1) % 8))).2.2 ∧ 0 < hP (mate (v k) (v ((k + 1) % 8))) ∧ hP (mate (v k) (v ((k + 1) % 8))) < 64 := by
    intro k hk
    exact mate_ok (hpm k hk) (hp3 k hk).1 (hp3 ((k + 1) % 8) (Nat.mod_lt _ (by decide))).1 (hnb k hk)
  have p0 : Pm (det2 (v 0) (v 1)) := hpm 0 (by decide)
  have p1 : Pm (det2 (v 1) (v 2)) := hpm 1 (by decide)
  have p2 : Pm (det2 (v 2) (v 3)) := hpm 2 (by decide)
  have p3 : Pm (det2 (v 3) (v 4)) := hpm 3 (by decide)
  have p4 : Pm (det2 (v 4) (v 5)) := hpm 4 (by decide)
  have p5 : Pm (det2 (v 5) (v 6)) := hpm 5 (by decide)
  have p6 : Pm (det2 (v 6) (v 7)) := hpm 6 (by decide)
  have p7 : Pm (det2 (v 7) (v 0)) := hpm 7 (by decide)
  have nz : ∀ {s : Int}, Pm s → s ≠ 0 := by intro s h; rcases h with rfl | rfl <;> decide
  have hw : ang (v 0) (v 1) + (ang (v 1) (v 2) + (ang (v 2) (v 3) + (ang (v 3) (v 4) + (ang (v 4) (v 5) + (ang (v 5) (v 6) + (ang (v 6) (v 7) + (ang (v 7) (v 0) + 0))))))) = (((toldS' ds 5).2 : Int) : Rat) := wind
  have h12 : 3 * ([det2 (v 0) (v 1), det2 (v 1) (v 2), det2 (v 2) (v 3), det2 (v 3) (v 4), det2 (v 4) (v 5), det2 (v 5) (v 6), det2 (v 6) (v 7), det2 (v 7) (v 0)] : List Int).sum - ([tri (v 0) (v 1) (v 2), tri (v 1) (v 2) (v 3), tri (v 2) (v 3) (v 4), tri (v 3) (v 4) (v 5), tri (v 4) (v 5) (v 6), tri (v 5) (v 6) (v 7), tri (v 6) (v 7) (v 0), tri (v 7) (v 0) (v 1)] : List Int).sum = 12 * (toldS' ds 5).2 := by rw [← hsg]; exact twelve
  refine ⟨rfl, hsg, hpm, ?_, fun k hk => ⟨(hmo k hk).1, (hmo k hk).2.1⟩, ?_, ?_⟩
  · exact way8 (ang_det (nz p7)).1 (ang_det (nz p0)).1 (ang_det (nz p1)).1 (ang_det (nz p2)).1 (ang_det (nz p3)).1 (ang_det (nz p4)).1 (ang_det (nz p5)).1 (ang_det (nz p6)).1
      (hPP 0 (by decide)) (hPP 1 (by decide)) (hPP 2 (by decide)) (hPP 3 (by decide)) (hPP 4 (by decide)) (hPP 5 (by decide)) (hPP 6 (by decide)) (hPP 7 (by decide)) (by rw [← hw]; grind)
  · refine exI ?_ (mate_ang p0)
    intro a0
    refine exI ?_
    intro b0 h9
    obtain ⟨A0, x0, B0, y0, e0⟩ := h9
    refine exI ?_ (mate_ang p1)
    intro a1
    refine exI ?_
    intro b1 h9
    obtain ⟨A1, x1, B1, y1, e1⟩ := h9
    refine exI ?_ (mate_ang p2)
    intro a2
    refine exI ?_
    intro b2 h9
    obtain ⟨A2, x2, B2, y2, e2⟩ := h9
    refine exI ?_ (mate_ang p3)
    intro a3
    refine exI ?_
    intro b3 h9
    obtain ⟨A3, x3, B3, y3, e3⟩ := h9
    refine exI ?_ (mate_ang p4)
    intro a4
    refine exI ?_
    intro b4 h9
    obtain ⟨A4, x4, B4, y4, e4⟩ := h9
    refine exI ?_ (mate_ang p5)
    intro a5
    refine exI ?_
    intro b5 h9
    obtain ⟨A5, x5, B5, y5, e5⟩ := h9
    refine exI ?_ (mate_ang p6)
    intro a6
    refine exI ?_
    intro b6 h9
    obtain ⟨A6, x6, B6, y6, e6⟩ := h9
    refine exI ?_ (mate_ang p7)
    intro a7
    refine exI ?_
    intro b7 h9
    obtain ⟨A7, x7, B7, y7, e7⟩ := h9
    exact way8 (next_ang A0 x0 B7 y7) (next_ang A1 x1 B0 y0) (next_ang A2 x2 B1 y1) (next_ang A3 x3 B2 y2) (next_ang A4 x4 B3 y3) (next_ang A5 x5 B4 y4) (next_ang A6 x6 B5 y5) (next_ang A7 x7 B6 y6)
      (hmo 0 (by decide)).2.2 (hmo 1 (by decide)).2.2 (hmo 2 (by decide)).2.2 (hmo 3 (by decide)).2.2 (hmo 4 (by decide)).2.2 (hmo 5 (by decide)).2.2 (hmo 6 (by decide)).2.2 (hmo 7 (by decide)).2.2
      (by rw [← hw, e0, e1, e2, e3, e4, e5, e6, e7]; grind)
  · rw [hsg, mate_cross p7 p0, mate_cross p0 p1, mate_cross p1 p2, mate_cross p2 p3, mate_cross p3 p4, mate_cross p4 p5, mate_cross p5 p6, mate_cross p6 p7]
    simp only [List.sum_cons, List.sum_nil] at h12 ⊢
    lia
end Mine
end
section
open PySem PySem.W PyProof.Rows
open PySem.Spec PySem.Calls
open Mine
set_option maxRecDepth 100000
local macro_rules | `(tactic| k_mem) => `(tactic| first | with_reducible assumption | with_reducible exact List.mem_cons_self | (with_reducible refine List.mem_cons_of_mem _ ?_; k_mem))
local macro_rules | `(tactic| walk_at "k6") => `(tactic| first | exact rfl | assumption)
local macro_rules | `(tactic| walk_at "k7") => `(tactic| first | (refine room_of (by assumption) ?_; simp only [depth_deeper]; exact Nat.add_le_add_left (Nat.le_of_ble_eq_true rfl) _) | ktr_room)
local macro_rules | `(tactic| walk_at "k8") => `(tactic| first | (refine room_of (by assumption) ?_; simp only [units_deeper]; exact Nat.add_le_add_left (Nat.le_of_ble_eq_true rfl) _) | ktr_units)
local macro_rules | `(tactic| walk_at "cu0") => `(tactic| (intro r9 news9 h9 tk9 F9 N9 hp9; obtain ⟨e9, f9⟩ := hp9; subst e9 f9; (try dsimp only)))
local macro_rules | `(tactic| walk_at "cu1") => `(tactic| (intro r9 news9 h9 tk9 F9 N9; refine andI (exI ?_); intro u9 e9 f9; subst e9 f9; (try dsimp only)))
local macro_rules | `(tactic| walk_at "cu2") => `(tactic| (intro r9 news9 h9 tk9 F9 N9; (repeat (refine exI ?_; intro x9)); intro hp9; obtain ⟨e9, f9, l9⟩ := hp9; subst e9 f9; (try k_lt l9); (try dsimp only)))
local macro_rules | `(tactic| walk_at "cj") => `(tactic| ((iterate 15 first | done | assumption | apply And.right); done))
local macro_rules | `(tactic| k_all) => `(tactic| first | assumption | (refine ne_of_allLt ?_; walk_at "cj") | exact ne_of_all (by assumption) (by first | assumption | exact Nat.le_refl _ | exact Nat.le_succ _ | omega))
local macro_rules | `(tactic| walk_at "execs cons") => `(tactic| (k_here; dsimp only; walk1))
local macro_rules | `(tactic| walk_at "eval BinOp") => `(tactic| (k_here; dsimp only; walk1))
local macro_rules | `(tactic| walk_at "eval Constant int") => `(tactic| (k_here; dsimp only; walk1))
local macro_rules | `(tactic| walk_at "eval Name") => `(tactic| (k_here; dsimp only; walk1))
local macro_rules | `(tactic| walk_at "eval Subscript") => `(tactic| (k_here; dsimp only; walk1))
local macro_rules | `(tactic| walk_at "storeName") => `(tactic| (k_here; dsimp only; walk1))
local macro_rules | `(tactic| walk_at "callWith") => `(tactic| (k_here; dsimp only; walk1))
local macro_rules | `(tactic| walk_at "spliced") => `(tactic| (k_here; dsimp only; walk1))
local macro_rules | `(tactic| walk_at "binaryOp") => `(tactic| (k_here; dsimp only; walk1))
local macro_rules | `(tactic| walk_at "isTrue") => `(tactic| (k_here; dsimp only; walk1))
local macro_rules | `(tactic| walk_at "compareOp") => `(tactic| (k_here; dsimp only; walk1))
local macro_rules | `(tactic| walk_at "eval List") => `(tactic| (k_here; dsimp only; walk1))
local macro_rules | `(tactic| walk_at "call builtin:len") => `(tactic| (k_here; dsimp only; walk1))
local macro_rules | `(tactic| k_cells $Y:ident) => `(tactic| ((first | refine exI ?_ (CellsAre.one $Y) | refine exI ?_ (CellsAre.two $Y) | refine exI ?_ (CellsAre.three $Y) | refine exI ?_ (CellsAre.four $Y)); intro o'; (repeat (refine exI ?_; intro o')); refine andI ?_; intro hE'; (repeat (refine andI ?_; intro d1')); intro d1'; subst hE'; clear $Y))
local macro_rules | `(tactic| omega) => `(tactic| first | (with_reducible refine rm2 (by assumption) ?_; exact Nat.le_of_ble_eq_true rfl) | (with_reducible refine rm1 (by assumption) ?_; exact Nat.le_of_ble_eq_true rfl) | with_reducible exact rm0 (by assumption) | with_reducible exact toNat_z _ | (with_reducible refine Int.lt_of_lt_of_le (by assumption) ?_; decide +kernel) | ((with_reducible first | refine Nat.ne_of_gt ?_ | refine Nat.ne_of_lt ?_); first | assumption | (apply And.left; walk_at "cj")) | fail)
section
open PySem PySem.W PyProof.Rows
open PySem.Spec PySem.Calls
set_option maxRecDepth 100000
set_option maxHeartbeats 8000000
namespace Mine
theorem rs_C_draws : True := by
  w_top off
  exact True.intro
def drawF (ns : List Int) : List Int := (rangeKs 0 5).map fun k => if k < (ns.length : Int) then (ns.getD k.toNat 0).fmod 100000 else (([7, 13, 9, 26, 17] : List Int).getD k.toNat 0).fmod 100000
theorem con_draws {prog w p loose mean mg mb} (news : List (Addr × Obj)) (sl : Addr) (vs : List Value) (ns : List Int) (hi : IntsAre vs ns) (hlen : ns.length ≤ 63) :
  ∀ (dp un : Nat) (gd : Option (List Code)) (cn : Str) (cs : Scope) (a : Addr) (ccd : Value) (cl : List (Str × Addr)) (outer : List Env) (A₀ : Around) (base h₀ : Heap) (L : Addr) (m : Str → Option Value) (s : Shared) (Q E : Value → Shared → Prop),
    Below A₀ base outer h₀ → Fr h₀ L s.heap m → (hd.heap_39 w.params).In h₀ → News h₀ L s.heap news → Top p loose mean mg mb h₀ → cs.kind = .function → dp + 4 < recursionLimit → un + 32 < cLine → base.IsList sl vs.toArray →
    (∀ r news' h' tk', Fr h₀ L h' m → News h₀ L h' news' → (∃ D ys, r = .ref D ∧ news' = (D, LCg.lst ys) :: news ∧ IntsAre ys (drawF ns) ∧ LCg.Off1 D news) → Q r { s with heap := h', toks := tk' }) →
    wpAny (model prog w) (ktrTop dp un gd cn cs L a ccd cl outer) (call (.ref 82) [.ref sl]) Q E s := by
  revert prog w p loose mean mg mb news sl vs ns hi hlen
  intro prog w p loose mean mg mb news sl vs ns hi hlen
  intro dp un gd cn cs a ccd cl outer A₀ base h₀ L m s Q E B F X N T hk hd hu hbl hret
  refine wpAny_call ?_
  k_dflt (refine' code_defC ?k1 ?k2 ?k3 ?k4 ?k5 ?kA ?kF ?kK ?k6 ?k7 ?k8 ?k9 ?kB ?kD ?_ ?c2 ?c3 ?c4; (case kA => exact rfl); (case kF => exact rfl); (case kK => assumption); (case k1 => k_asm); (case k2 => k_asm); (case k3 => k_asm); (case k4 => k_asm); (case k5 => k_asm); (case k6 => k_is); (case k7 => k_is); (case k8 => ktr_room); (case k9 => exact BindsTo.of_eq rfl); (case kB => exact rfl); (case kD => decide +kernel); (case c2 => exact rfl); (case c3 => exact rfl); (case c4 => exact rfl); k_whole; intro g' L' h' tk' cells' FG' F' N' Y' B' X' T' l1; (try k_lt l1); k_cells Y'; (try simp only [List.cons_append, List.nil_append] at N'); (try dsimp only); (try k_lift B'); (try k_fold))
  k_steps
  rename IntsAre _ (List.map _ _) => hX
  exact hret _ _ _ _ (by assumption) (cb_drop (by assumption) (fun p hp => (List.mem_cons.mp hp).elim (fun e => by rw [e]; exact List.mem_cons_self) (fun hp => by repeat (first | exact hp | apply List.mem_cons_of_mem)))) ⟨_, _, rfl, rfl, hX, (by assumption : _ ∧ _ ∧ _ ∧ LCg.Off1 _ news).2.2.2⟩
end Mine
end
local macro_rules | `(tactic| k_fold) => `(tactic| skip)
section
open PySem PySem.W PyProof.Rows
open PySem.Spec PySem.Calls
set_option maxRecDepth 100000
set_option maxHeartbeats 8000000
namespace Mine
theorem rs_C_yiq : True := by
  w_top off
  exact True.intro
local macro_rules | `(tactic| walk_at "zz") => `(tactic| skip)
theorem con_yiq {prog w p loose mean mg mb} (news : List (Addr × Obj)) (r g b : Int) (t1 t2 t3 : Tok) (hr : Rg r g b) :
    Con 2 16 prog w p loose mean mg mb 21 [.int r t1, .int g t2, .int b t3] news (fun v news' => ∃ a u1 u2 u3, v = .ref a ∧ news' = (a, tupO [.float (yF r g b) u1, .float (iF r g b) u2, .float (qF r g b) u3]) :: news ∧ ∀ p ∈ news, p.1 < a) := by
  unfold Con
  intros dp un gd cn cs a ccd cl outer A₀ base h₀ L m s Q E
  revert hr
  revert prog w p loose mean mg mb news r g b t1 t2 t3 dp un gd cn cs a ccd cl outer A₀ base h₀ L m s Q E
  refine no_implicit_lambda% (all8 (by repeat (first | exact neS | exact neA | exact neW | refine nP ?_ ?_ | exact neT _ | infer_instance)) ?_)
  generalize Prod.fst (c8 _ _) = prog, Prod.fst (Prod.snd (c8 _ _)) = w, Prod.fst (Prod.snd (Prod.snd (c8 _ _))) = p, Prod.fst (Prod.snd (Prod.snd (Prod.snd (c8 _ _)))) = loose, Prod.fst (Prod.snd (Prod.snd (Prod.snd (Prod.snd (c8 _ _))))) = mean, Prod.fst (Prod.snd (Prod.snd (Prod.snd (Prod.snd (Prod.snd (c8 _ _)))))) = mg, Prod.fst (Prod.snd (Prod.snd (Prod.snd (Prod.snd (Prod.snd (Prod.snd (c8 _ _))))))) = mb, Prod.snd (Prod.snd (Prod.snd (Prod.snd (Prod.snd (Prod.snd (Prod.snd (c8 _ _))))))) = news
  refine no_implicit_lambda% (all8 (by repeat (first | exact neS | exact neA | exact neW | refine nP ?_ ?_ | exact neT _ | infer_instance)) ?_)
  generalize Prod.fst (c8 _ _) = r, Prod.fst (Prod.snd (c8 _ _)) = g, Prod.fst (Prod.snd (Prod.snd (c8 _ _))) = b, Prod.fst (Prod.snd (Prod.snd (Prod.snd (c8 _ _)))) = t1, Prod.fst (Prod.snd (Prod.snd (Prod.snd (Prod.snd (c8 _ _))))) = t2, Prod.fst (Prod.snd (Prod.snd (Prod.snd (Prod.snd (Prod.snd (c8 _ _)))))) = t3, Prod.fst (Prod.snd (Prod.snd (Prod.snd (Prod.snd (Prod.snd (Prod.snd (c8 _ _))))))) = dp, Prod.snd (Prod.snd (Prod.snd (Prod.snd (Prod.snd (Prod.snd (Prod.snd (c8 _ _))))))) = un
  refine no_implicit_lambda% (all8 (by repeat (first | exact neS | exact neA | exact neW | refine nP ?_ ?_ | exact neT _ | infer_instance)) ?_)
  generalize Prod.fst (c8 _ _) = gd, Prod.fst (Prod.snd (c8 _ _)) = cn, Prod.fst (Prod.snd (Prod.snd (c8 _ _))) = cs, Prod.fst (Prod.snd (Prod.snd (Prod.snd (c8 _ _)))) = a, Prod.fst (Prod.snd (Prod.snd (Prod.snd (Prod.snd (c8 _ _))))) = ccd, Prod.fst (Prod.snd (Prod.snd (Prod.snd (Prod.snd (Prod.snd (c8 _ _)))))) = cl, Prod.fst (Prod.snd (Prod.snd (Prod.snd (Prod.snd (Prod.snd (Prod.snd (c8 _ _))))))) = outer, Prod.snd (Prod.snd (Prod.snd (Prod.snd (Prod.snd (Prod.snd (Prod.snd (c8 _ _))))))) = A₀
  refine no_implicit_lambda% (all4 (by repeat (first | exact neS | exact neA | exact neW | refine nP ?_ ?_ | exact neT _ | infer_instance)) ?_)
  generalize Prod.fst (cp4 _ _) = base, Prod.fst (Prod.snd (cp4 _ _)) = h₀, Prod.fst (Prod.snd (Prod.snd (cp4 _ _))) = L, Prod.snd (Prod.snd (Prod.snd (cp4 _ _))) = m
  refine no_implicit_lambda% (all2 (by repeat (first | exact neS | exact neA | exact neW | refine nP ?_ ?_ | exact neT _ | infer_instance)) ?_)
  generalize Prod.fst (cp2 _ _) = s, Prod.snd (cp2 _ _) = Q
  intro E
  intro hr B F X N T hk hd hu hret
  obtain ⟨⟨hr_1, hr_2⟩, ⟨hr_3, hr_4⟩, hr_5, hr_6⟩ := hr
  refine wpAny_call ?_
  k_dflt cell_enter
  k_steps
  exact hret _ _ _ _ (by assumption) (by assumption) ⟨_, _, _, _, rfl, rfl, by assumption⟩
end Mine
end
section
open PySem PySem.W PyProof.Rows
open PySem.Spec PySem.Calls
set_option maxRecDepth 100000
set_option maxHeartbeats 8000000
namespace Mine
theorem rs_C_hsv : True := by
  w_top off
  exact True.intro
/-! the hue that rgb_to_hsv reckons -/
def qd (a b : Int) : UInt64 := Float64.ofFrac (decide (a < 0) != decide (b < 0)) a.natAbs b.natAbs
def hue0 (r g b M m : Int) : UInt64 :=
  if r = M then Float64.sub (qd (M - b) (M - m)) (qd (M - g) (M - m))
  else if g = M then Float64.sub (Float64.add 4611686018427387904 (qd (M - r) (M - m))) (qd (M - b) (M - m))
  else Float64.sub (Float64.add 4616189618054758400 (qd (M - g) (M - m))) (qd (M - r) (M - m))
def hueF (r g b : Int) : UInt64 :=
  if min r (min g b) = max r (max g b) then 0
  else (Float64.divmod (Float64.div (hue0 r g b (max r (max g b)) (min r (min g b))) 4618441417868443648) 4607182418800017408).2
theorem hueF_0 {r g b : Int} (h : min r (min g b) = max r (max g b)) : hueF r g b = 0 := if_pos h
theorem hueF_1 {r g b : Int} (h : min r (min g b) ≠ max r (max g b)) (h1 : r = max r (max g b)) : hueF r g b = (Float64.divmod (Float64.div (Float64.sub (qd (max r (max g b) - b) (max r (max g b) - min r (min g b))) (qd (max r (max g b) - g) (max r (max g b) - min r (min g b)))) 4618441417868443648) 4607182418800017408).2 := by
  unfold hueF hue0; rw [if_neg h, if_pos h1]
theorem hueF_2 {r g b : Int} (h : min r (min g b) ≠ max r (max g b)) (h1 : r ≠ max r (max g b)) (h2 : g = max r (max g b)) : hueF r g b = (Float64.divmod (Float64.div (Float64.sub (Float64.add 4611686018427387904 (qd (max r (max g b) - r) (max r (max g b) - min r (min g b)))) (qd (max r (max g b) - b) (max r (max g b) - min r (min g b)))) 4618441417868443648) 4607182418800017408).2 := by
  unfold hueF hue0; rw [if_neg h, if_neg h1, if_pos h2]
theorem hueF_3 {r g b : Int} (h : min r (min g b) ≠ max r (max g b)) (h1 : r ≠ max r (max g b)) (h2 : g ≠ max r (max g b)) : hueF r g b = (Float64.divmod (Float64.div (Float64.sub (Float64.add 4616189618054758400 (qd (max r (max g b) - g) (max r (max g b) - min r (min g b)))) (qd (max r (max g b) - r) (max r (max g b) - min r (min g b)))) 4618441417868443648) 4607182418800017408).2 := by
  unfold hueF hue0; rw [if_neg h, if_neg h1, if_neg h2]
theorem max3_N {prog w A E s} {h₀ : Heap} {L : Addr} {m : Str → Option Value} {news : List (Addr × Obj)} {a b c : Int} {t u x : Tok} {Q : Value → Shared → Prop} (hh : A.handled = none) (F : Fr h₀ L s.heap m) (N : News h₀ L s.heap news)
    (h : ∀ h' tk t', Fr h₀ L h' m → News h₀ L h' news → Q (.int (max a (max b c)) t') { s with heap := h', toks := tk }) :
    wpAny (model prog w) A (call (.builtin "max") [.int a t, .int b u, .int c x]) Q E s :=
  max_three_ints hh fun h' tk hk => by
    have key := fun t' => h h' tk t' (F.grownK hk) (N.grown hk)
    split <;> split
    · rename_i h1 h2; rw [show max a (max b c) = c from by rw [Int.max_eq_right (Int.le_of_lt h2), Int.max_eq_right (Int.le_of_lt (Int.lt_trans h1 h2))]] at key; exact key _
    · rename_i h1 h2; rw [show max a (max b c) = b from by rw [Int.max_eq_left (Int.not_lt.mp h2), Int.max_eq_right (Int.le_of_lt h1)]] at key; exact key _
    · rename_i h1 h2; rw [show max a (max b c) = c from by rw [Int.max_eq_right (Int.le_of_lt (Int.lt_of_le_of_lt (Int.not_lt.mp h1) h2)), Int.max_eq_right (Int.le_of_lt h2)]] at key; exact key _
    · rename_i h1 h2; rw [show max a (max b c) = a from Int.max_eq_left (Int.max_le.mpr ⟨Int.not_lt.mp h1, Int.not_lt.mp h2⟩)] at key; exact key _
theorem min3_N {prog w A E s} {h₀ : Heap} {L : Addr} {m : Str → Option Value} {news : List (Addr × Obj)} {a b c : Int} {t u x : Tok} {Q : Value → Shared → Prop} (hh : A.handled = none) (F : Fr h₀ L s.heap m) (N : News h₀ L s.heap news)
    (h : ∀ h' tk t', Fr h₀ L h' m → News h₀ L h' news → Q (.int (min a (min b c)) t') { s with heap := h', toks := tk }) :
    wpAny (model prog w) A (call (.builtin "min") [.int a t, .int b u, .int c x]) Q E s :=
  min_three_ints hh fun h' tk hk => by
    have key := fun t' => h h' tk t' (F.grownK hk) (N.grown hk)
    split <;> split
    · rename_i h1 h2; rw [show min a (min b c) = c from by rw [Int.min_eq_right (Int.le_of_lt h2), Int.min_eq_right (Int.le_of_lt (Int.lt_trans h2 h1))]] at key; exact key _
    · rename_i h1 h2; rw [show min a (min b c) = b from by rw [Int.min_eq_left (Int.not_lt.mp h2), Int.min_eq_right (Int.le_of_lt h1)]] at key; exact key _
    · rename_i h1 h2; rw [show min a (min b c) = c from by rw [Int.min_eq_right (Int.le_of_lt (Int.lt_of_lt_of_le h2 (Int.not_lt.mp h1))), Int.min_eq_right (Int.le_of_lt h2)]] at key; exact key _
    · rename_i h1 h2; rw [show min a (min b c) = a from Int.min_eq_left (Int.le_min.mpr ⟨Int.not_lt.mp h1, Int.not_lt.mp h2⟩)] at key; exact key _
local macro_rules | `(tactic| walk_at "call builtin:max") => `(tactic| (k_here; (with_reducible show wpAny _ _ (call (Value.builtin _) [Value.int _ _, Value.int _ _, Value.int _ _]) _ _ _); k_dflt (refine' max3_N ?k1 ?k2 ?k3 ?_; (case k1 => exact rfl); (case k2 => k_asm); (case k3 => k_asm); intro h9 tk9 t9 F9 N9)))
local macro_rules | `(tactic| walk_at "call builtin:min") => `(tactic| (k_here; (with_reducible show wpAny _ _ (call (Value.builtin _) [Value.int _ _, Value.int _ _, Value.int _ _]) _ _ _); k_dflt (refine' min3_N ?k1 ?k2 ?k3 ?_; (case k1 => exact rfl); (case k2 => k_asm); (case k3 => k_asm); intro h9 tk9 t9 F9 N9)))
theorem con_hsv {prog w p loose mean mg mb} (news : List (Addr × Obj)) (r g b : Int) (t1 t2 t3 : Tok) (hr : Rg r g b) :
  Con 2 16 prog w p loose mean mg mb 28 [.int r t1, .int g t2, .int b t3] news (fun v news' => ∃ a u x y, v = .ref a ∧ news' = (a, tupO [.float (hueF r g b) u, x, y]) :: news ∧ ∀ p ∈ news, p.1 < a) := by
  unfold Con
  intros dp un gd cn cs a ccd cl outer A₀ base h₀ L m s Q E
  revert hr
  revert prog w p loose mean mg mb news r g b t1 t2 t3 dp un gd cn cs a ccd cl outer A₀ base h₀ L m s Q E
  refine no_implicit_lambda% (all8 (by repeat (first | exact neS | exact neA | exact neW | refine nP ?_ ?_ | exact neT _ | infer_instance)) ?_)
  generalize Prod.fst (c8 _ _) = prog, Prod.fst (Prod.snd (c8 _ _)) = w, Prod.fst (Prod.snd (Prod.snd (c8 _ _))) = p, Prod.fst (Prod.snd (Prod.snd (Prod.snd (c8 _ _)))) = loose, Prod.fst (Prod.snd (Prod.snd (Prod.snd (Prod.snd (c8 _ _))))) = mean, Prod.fst (Prod.snd (Prod.snd (Prod.snd (Prod.snd (Prod.snd (c8 _ _)))))) = mg, Prod.fst (Prod.snd (Prod.snd (Prod.snd (Prod.snd (Prod.snd (Prod.snd (c8 _ _))))))) = mb, Prod.snd (Prod.snd (Prod.snd (Prod.snd (Prod.snd (Prod.snd (Prod.snd (c8 _ _))))))) = news
  refine no_implicit_lambda% (all8 (by repeat (first | exact neS | exact neA | exact neW | refine nP ?_ ?_ | exact neT _ | infer_instance)) ?_)
  generalize Prod.fst (c8 _ _) = r, Prod.fst (Prod.snd (c8 _ _)) = g, Prod.fst (Prod.snd (Prod.snd (c8 _ _))) = b, Prod.fst (Prod.snd (Prod.snd (Prod.snd (c8 _ _)))) = t1, Prod.fst (Prod.snd (Prod.snd (Prod.snd (Prod.snd (c8 _ _))))) = t2, Prod.fst (Prod.snd (Prod.snd (Prod.snd (Prod.snd (Prod.snd (c8 _ _)))))) = t3, Prod.fst (Prod.snd (Prod.snd (Prod.snd (Prod.snd (Prod.snd (Prod.snd (c8 _ _))))))) = dp, Prod.snd (Prod.snd (Prod.snd (Prod.snd (Prod.snd (Prod.snd (Prod.snd (c8 _ _))))))) = un
  refine no_implicit_lambda% (all8 (by repeat (first | exact neS | exact neA | exact neW | refine nP ?_ ?_ | exact neT _ | infer_instance)) ?_)
  generalize Prod.fst (c8 _ _) = gd, Prod.fst (Prod.snd (c8 _ _)) = cn, Prod.fst (Prod.snd (Prod.snd (c8 _ _))) = cs, Prod.fst (Prod.snd (Prod.snd (Prod.snd (c8 _ _)))) = a, Prod.fst (Prod.snd (Prod.snd (Prod.snd (Prod.snd (c8 _ _))))) = ccd, Prod.fst (Prod.snd (Prod.snd (Prod.snd (Prod.snd (Prod.snd (c8 _ _)))))) = cl, Prod.fst (Prod.snd (Prod.snd (Prod.snd (Prod.snd (Prod.snd (Prod.snd (c8 _ _))))))) = outer, Prod.snd (Prod.snd (Prod.snd (Prod.snd (Prod.snd (Prod.snd (Prod.snd (c8 _ _))))))) = A₀
  refine no_implicit_lambda% (all4 (by repeat (first | exact neS | exact neA | exact neW | refine nP ?_ ?_ | exact neT _ | infer_instance)) ?_)
  generalize Prod.fst (cp4 _ _) = base, Prod.fst (Prod.snd (cp4 _ _)) = h₀, Prod.fst (Prod.snd (Prod.snd (cp4 _ _))) = L, Prod.snd (Prod.snd (Prod.snd (cp4 _ _))) = m
  refine no_implicit_lambda% (all2 (by repeat (first | exact neS | exact neA | exact neW | refine nP ?_ ?_ | exact neT _ | infer_instance)) ?_)
  generalize Prod.fst (cp2 _ _) = s, Prod.snd (cp2 _ _) = Q
  intro E
  intro hr B F X N T hk hd hu hret
  obtain ⟨⟨hr_1, hr_2⟩, ⟨hr_3, hr_4⟩, hr_5, hr_6⟩ := hr
  refine wpAny_call ?_
  k_dflt cell_enter
  k_steps
  · exact hret _ _ _ _ (by assumption) (by assumption) ⟨_, _, _, _, rfl, by rw [hueF_0 (by assumption)], by assumption⟩
  · exact hret _ _ _ _ (by assumption) (by assumption) ⟨_, _, _, _, rfl, by rw [hueF_1 (by assumption) (by assumption)]; rfl, by assumption⟩
  · exact hret _ _ _ _ (by assumption) (by assumption) ⟨_, _, _, _, rfl, by rw [hueF_2 (by assumption) (by assumption) (by assumption)]; rfl, by assumption⟩
  · exact hret _ _ _ _ (by assumption) (by assumption) ⟨_, _, _, _, rfl, by rw [hueF_3 (by assumption) (by assumption) (by assumption)]; rfl, by assumption⟩

end Mine
end
section
open PySem PySem.W PyProof.Rows
open PySem.Spec PySem.Calls
set_option maxRecDepth 100000
set_option maxHeartbeats 8000000
namespace Mine
theorem rs_C_int2ap : True := by
  w_top off
  exact True.intro
/-! the letters of Int2AP -/
def apC (x : Int) : UInt8 := UInt8.ofNat (65 + x.toNat)
def apB : Nat → Int → List UInt8
  | 0, _ => []
  | f + 1, x => if x = 0 then [] else apB f (x.fdiv 16) ++ [apC (x.fmod 16)]
abbrev apL : List UInt8 := [65, 66, 67, 68, 69, 70, 71, 72, 73, 74, 75, 76, 77, 78, 79, 80]
theorem ap_picked16 : ∀ k : Nat, k < 16 → KBy.picked apL.toArray (some (k : Int)) (some ((k : Int) + 1)) = #[apC k] := by decide +kernel
theorem ap_picked {x : Int} (h0 : 0 ≤ x) (h1 : x < 16) : KBy.picked apL.toArray (some x) (some (x + 1)) = #[apC x] := by
  obtain ⟨k, rfl⟩ := Int.eq_ofNat_of_zero_le h0
  exact ap_picked16 k (Int.ofNat_lt.mp h1)
theorem ap_slice {prog : Program} {w : World} {A : Around} {E : Value → Shared → Prop} {s : Shared} {value slice : PySem.Expr} {t tx ty : Tok} {h₀ : Heap} {L : Addr} {m : PySem.Str → Option Value} {news : List (Addr × Obj)} {Q : Value → Shared → Prop} {x : Int} (hF : Fr h₀ L s.heap m) (hN : News h₀ L s.heap news) (h0 : 0 ≤ x) (h1 : x < 16)
    (h : ∀ h' t' k, Fr h₀ L h' m → News h₀ L h' news → Q (.bytes #[apC x] t') { s with heap := h', toks := k })
    (hs : subscripted slice false (.bytes apL.toArray t) (.ref s.heap.objs.size) = operate [.ref s.heap.objs.size, .bytes apL.toArray t] (getItem (.bytes apL.toArray t) (.ref s.heap.objs.size)) := by with_unfolding_all rfl)
    (ht : ∀ r, letTemporaryGo value (.bytes apL.toArray t) r = pure () := by intro _; with_unfolding_all rfl) :
    wpAny (model prog w) A (subscriptTail value slice (.bytes apL.toArray t) (.ref s.heap.objs.size)) Q E { s with heap := s.heap.push { cls := .type "slice", data := .fields #[.int x tx, .int (x + 1) ty, .none] } } :=
  KBc.slice_K hF hN rfl (.int x tx) (.int (x + 1) ty) (by decide +kernel) (fun h' t' k F' N' _ => by rw [ap_picked h0 h1]; exact h h' t' k F' N') hs ht
theorem fdiv16 (x : Int) : x.fdiv 16 = x / 16 := Int.fdiv_eq_ediv_of_nonneg x (by decide)
theorem apB1 {x : Int} (h1 : (x != 0) = true) (h2 : (x.fdiv 16 != 0) = false) : (#[apC (x.fmod 16)] : Array UInt8) = (apB 6 x).toArray := by
  simp only [bne_iff_ne, ne_eq, bne_eq_false_iff_eq] at h1 h2
  simp [apB, h1, h2]
theorem apB2 {x : Int} (h1 : (x != 0) = true) (h2 : (x.fdiv 16 != 0) = true) (h3 : ((x.fdiv 16).fdiv 16 != 0) = false) : (#[apC ((x.fdiv 16).fmod 16), apC (x.fmod 16)] : Array UInt8) = (apB 6 x).toArray := by
  simp only [bne_iff_ne, ne_eq, bne_eq_false_iff_eq] at h1 h2 h3
  simp [apB, h1, h2, h3]
theorem apB3 {x : Int} (h1 : (x != 0) = true) (h2 : (x.fdiv 16 != 0) = true) (h3 : ((x.fdiv 16).fdiv 16 != 0) = true) (h4 : (((x.fdiv 16).fdiv 16).fdiv 16 != 0) = false) : (#[apC (((x.fdiv 16).fdiv 16).fmod 16), apC ((x.fdiv 16).fmod 16), apC (x.fmod 16)] : Array UInt8) = (apB 6 x).toArray := by
  simp only [bne_iff_ne, ne_eq, bne_eq_false_iff_eq] at h1 h2 h3 h4
  simp [apB, h1, h2, h3, h4]
theorem apB4 {x : Int} (h1 : (x != 0) = true) (h2 : (x.fdiv 16 != 0) = true) (h3 : ((x.fdiv 16).fdiv 16 != 0) = true) (h4 : (((x.fdiv 16).fdiv 16).fdiv 16 != 0) = true) (h5 : ((((x.fdiv 16).fdiv 16).fdiv 16).fdiv 16 != 0) = false) : (#[apC ((((x.fdiv 16).fdiv 16).fdiv 16).fmod 16), apC (((x.fdiv 16).fdiv 16).fmod 16), apC ((x.fdiv 16).fmod 16), apC (x.fmod 16)] : Array UInt8) = (apB 6 x).toArray := by
  simp only [bne_iff_ne, ne_eq, bne_eq_false_iff_eq] at h1 h2 h3 h4 h5
  simp [apB, h1, h2, h3, h4, h5]
theorem apB5 {x : Int} (h1 : (x != 0) = true) (h2 : (x.fdiv 16 != 0) = true) (h3 : ((x.fdiv 16).fdiv 16 != 0) = true) (h4 : (((x.fdiv 16).fdiv 16).fdiv 16 != 0) = true) (h5 : ((((x.fdiv 16).fdiv 16).fdiv 16).fdiv 16 != 0) = true) (h6 : (((((x.fdiv 16).fdiv 16).fdiv 16).fdiv 16).fdiv 16 != 0) = false) : (#[apC (((((x.fdiv 16).fdiv 16).fdiv 16).fdiv 16).fmod 16), apC ((((x.fdiv 16).fdiv 16).fdiv 16).fmod 16), apC (((x.fdiv 16).fdiv 16).fmod 16), apC ((x.fdiv 16).fmod 16), apC (x.fmod 16)] : Array UInt8) = (apB 6 x).toArray := by
  simp only [bne_iff_ne, ne_eq, bne_eq_false_iff_eq] at h1 h2 h3 h4 h5 h6
  simp [apB, h1, h2, h3, h4, h5, h6]
theorem apB6 {n : Int} (hn : -262144 < n ∧ n < 0) (h6 : ((((((if n < 0 then -n else n).fdiv 16).fdiv 16).fdiv 16).fdiv 16).fdiv 16 != 0) = true) : False := by
  simp only [bne_iff_ne, ne_eq, fdiv16] at h6
  split at h6 <;> omega
theorem apB0 {n : Int} (hn : -262144 < n ∧ n < 0) (h6 : ((if n < 0 then -n else n) != 0) = false) : False := by
  simp only [bne_eq_false_iff_eq] at h6
  split at h6 <;> omega
theorem apNeg {n : Int} (hn : -262144 < n ∧ n < 0) : (if n < 0 then -n else n) = -n := if_pos hn.2
theorem whl_split {b : Bool} {T F : Prop} (t : b = true → T) (f : b = false → F) : WhlIf b T F := by
  unfold WhlIf
  cases b
  · simpa using f rfl
  · simpa using t rfl
local macro_rules | `(tactic| walk_at "exec While") => `(tactic| (k_here; k_dflt (refine whl_start 6 ?_)))
local macro_rules | `(tactic| walk_at "WhlIf") => `(tactic| (refine whl_split ?_ ?_ <;> intro hW9))
local macro_rules | `(tactic| walk_at "subscriptTail") => `(tactic| (k_here; (with_reducible rename Fr _ _ _ _ => F'); (with_reducible rename News _ _ _ _ => N'); (refine ap_slice (s := ⟨_, _, _, _, _⟩) F' N' (fmod_lo _ (by decide)) (fmod_hi _ (by decide)) ?_); intro h9 t9 k9 F9 N9))
theorem con_int2ap {prog w p loose mean mg mb} (news : List (Addr × Obj)) (n : Int) (t1 : Tok) (hn : -262144 < n ∧ n < 0) : Con 4 32 prog w p loose mean mg mb 35 [.int n t1] news (fun v news' => (∃ u, v = .bytes (apB 6 (-n)).toArray u) ∧ news' = news) := by
  unfold Con
  intros dp un gd cn cs a ccd cl outer A₀ base h₀ L m s Q E
  revert hn
  revert prog w p loose mean mg mb news n t1 dp un gd cn cs a ccd cl outer A₀ base h₀ L m s Q E
  refine no_implicit_lambda% (all8 (by repeat (first | exact neS | exact neA | exact neW | refine nP ?_ ?_ | exact neT _ | infer_instance)) ?_)
  generalize Prod.fst (c8 _ _) = prog, Prod.fst (Prod.snd (c8 _ _)) = w, Prod.fst (Prod.snd (Prod.snd (c8 _ _))) = p, Prod.fst (Prod.snd (Prod.snd (Prod.snd (c8 _ _)))) = loose, Prod.fst (Prod.snd (Prod.snd (Prod.snd (Prod.snd (c8 _ _))))) = mean, Prod.fst (Prod.snd (Prod.snd (Prod.snd (Prod.snd (Prod.snd (c8 _ _)))))) = mg, Prod.fst (Prod.snd (Prod.snd (Prod.snd (Prod.snd (Prod.snd (Prod.snd (c8 _ _))))))) = mb, Prod.snd (Prod.snd (Prod.snd (Prod.snd (Prod.snd (Prod.snd (Prod.snd (c8 _ _))))))) = news
  refine no_implicit_lambda% (all8 (by repeat (first | exact neS | exact neA | exact neW | refine nP ?_ ?_ | exact neT _ | infer_instance)) ?_)
  generalize Prod.fst (c8 _ _) = n, Prod.fst (Prod.snd (c8 _ _)) = t1, Prod.fst (Prod.snd (Prod.snd (c8 _ _))) = dp, Prod.fst (Prod.snd (Prod.snd (Prod.snd (c8 _ _)))) = un, Prod.fst (Prod.snd (Prod.snd (Prod.snd (Prod.snd (c8 _ _))))) = gd, Prod.fst (Prod.snd (Prod.snd (Prod.snd (Prod.snd (Prod.snd (c8 _ _)))))) = cn, Prod.fst (Prod.snd (Prod.snd (Prod.snd (Prod.snd (Prod.snd (Prod.snd (c8 _ _))))))) = cs, Prod.snd (Prod.snd (Prod.snd (Prod.snd (Prod.snd (Prod.snd (Prod.snd (c8 _ _))))))) = a
  refine no_implicit_lambda% (all8 (by repeat (first | exact neS | exact neA | exact neW | refine nP ?_ ?_ | exact neT _ | infer_instance)) ?_)
  generalize Prod.fst (c8 _ _) = ccd, Prod.fst (Prod.snd (c8 _ _)) = cl, Prod.fst (Prod.snd (Prod.snd (c8 _ _))) = outer, Prod.fst (Prod.snd (Prod.snd (Prod.snd (c8 _ _)))) = A₀, Prod.fst (Prod.snd (Prod.snd (Prod.snd (Prod.snd (c8 _ _))))) = base, Prod.fst (Prod.snd (Prod.snd (Prod.snd (Prod.snd (Prod.snd (c8 _ _)))))) = h₀, Prod.fst (Prod.snd (Prod.snd (Prod.snd (Prod.snd (Prod.snd (Prod.snd (c8 _ _))))))) = L, Prod.snd (Prod.snd (Prod.snd (Prod.snd (Prod.snd (Prod.snd (Prod.snd (c8 _ _))))))) = m
  refine no_implicit_lambda% (all2 (by repeat (first | exact neS | exact neA | exact neW | refine nP ?_ ?_ | exact neT _ | infer_instance)) ?_)
  generalize Prod.fst (cp2 _ _) = s, Prod.snd (cp2 _ _) = Q
  intro E
  intro hn B F X N T hk hd hu hret
  refine wpAny_call ?_
  k_dflt cell_enter
  k_steps
  all_goals first
    | exact (apB6 hn (by assumption)).elim
    | exact (apB0 hn (by assumption)).elim
    | (have e9 := apB1 (x := if n < 0 then -n else n) (by assumption) (by assumption); exact hret _ _ _ _ (by assumption) (by first | assumption | exact cb_drop (by assumption) (fun p hp => by repeat (first | exact hp | apply List.mem_cons_of_mem))) ⟨⟨_, congrArg (fun b => Value.bytes b _) (e9.trans (congrArg (fun x => (apB 6 x).toArray) (apNeg hn)))⟩, rfl⟩)
    | (have e9 := apB2 (x := if n < 0 then -n else n) (by assumption) (by assumption) (by assumption); exact hret _ _ _ _ (by assumption) (by first | assumption | exact cb_drop (by assumption) (fun p hp => by repeat (first | exact hp | apply List.mem_cons_of_mem))) ⟨⟨_, congrArg (fun b => Value.bytes b _) (e9.trans (congrArg (fun x => (apB 6 x).toArray) (apNeg hn)))⟩, rfl⟩)
    | (have e9 := apB3 (x := if n < 0 then -n else n) (by assumption) (by assumption) (by assumption) (by assumption); exact hret _ _ _ _ (by assumption) (by first | assumption | exact cb_drop (by assumption) (fun p hp => by repeat (first | exact hp | apply List.mem_cons_of_mem))) ⟨⟨_, congrArg (fun b => Value.bytes b _) (e9.trans (congrArg (fun x => (apB 6 x).toArray) (apNeg hn)))⟩, rfl⟩)
    | (have e9 := apB4 (x := if n < 0 then -n else n) (by assumption) (by assumption) (by assumption) (by assumption) (by assumption); exact hret _ _ _ _ (by assumption) (by first | assumption | exact cb_drop (by assumption) (fun p hp => by repeat (first | exact hp | apply List.mem_cons_of_mem))) ⟨⟨_, congrArg (fun b => Value.bytes b _) (e9.trans (congrArg (fun x => (apB 6 x).toArray) (apNeg hn)))⟩, rfl⟩)
    | (have e9 := apB5 (x := if n < 0 then -n else n) (by assumption) (by assumption) (by assumption) (by assumption) (by assumption) (by assumption); exact hret _ _ _ _ (by assumption) (by first | assumption | exact cb_drop (by assumption) (fun p hp => by repeat (first | exact hp | apply List.mem_cons_of_mem))) ⟨⟨_, congrArg (fun b => Value.bytes b _) (e9.trans (congrArg (fun x => (apB 6 x).toArray) (apNeg hn)))⟩, rfl⟩)

end Mine
end
section
open PySem PySem.W PyProof.Rows
open PySem.Spec PySem.Calls
set_option maxRecDepth 100000
set_option maxHeartbeats 8000000
namespace Mine
/-! a list comprehension over bytes -/
def SrcBy (prog : Program) (w : World) (A : Around) (h₀ : Heap) (L : Addr) (m : Str → Option Value) (env : Env) (elt : PySem.Expr) (x : Str) (scope : Scope) (cl : List (Str × Addr)) (Fin : Shared → List Value → List (Addr × Obj) → Prop) (xv : Value) (s₁ : Shared) : Prop :=
  ∃ b t news, xv = .bytes b t ∧ A.handled = none ∧ Fr h₀ L s₁.heap m ∧ News h₀ L s₁.heap news ∧ b.size ≤ sizeLine ∧
    ∀ s₂ : Shared, (∃ h, s₂ = { s₁ with heap := h }) → LCg.CompRest prog w A h₀ L m env elt x scope cl s₂ (fun _ => True) (fun i v => ∃ c u, b[i]? = some c ∧ v = .int ((c : UInt8).toNat : Int) u) (Fin s₂) b.size 0 [] news
theorem by_st {h₀ : Heap} {L I : Addr} {b : Array UInt8} {t : Tok} : ∀ i (h h' : Heap) (o : Obj) (nw : List (Addr × Obj)), KBw.IsBytesIter h I b t i → h.get? I = some o → h'.get? I = some o → (∀ b o, h₀.get? b = some o → h'.get? b = some o) → News h₀ L h' nw → True → KBw.IsBytesIter h' I b t i :=
  fun i h h' o nw st e e' _ _ _ => by
    obtain ⟨o', q, r⟩ := st
    rw [e] at q; cases q
    exact ⟨o, e', r⟩
theorem ListComp_By {prog : Program} {w : World} {A : Around} {E : Value → Shared → Prop} {s : Shared} {h₀ : Heap} {L : Addr} {m : Str → Option Value} {env : Env} {elt iter : PySem.Expr} {x : Str} {px : Pos} {scope : Scope} {cl : List (Str × Addr)} {pos : Pos} {Q : Value → Shared → Prop} (_F₀ : Fr h₀ L s.heap m)
    (hclos : closureFor scope env = pure cl) (hcell : ∀ y ∈ scope.names, y.2 ≠ .cell) (hkind : scope.kind = .function)
    (hnames : ∀ y ∈ scope.names, y.2 = .local → scope.names.lookup y.1 = some .local) (hx : scope.names.lookup x = some .local)
    (h : wpAny (model prog w) A (eval iter env) (SrcBy prog w A h₀ L m env elt x scope cl (fun s₂ => LCg.FinE h₀ L m s₂ Q)) E s)
    (hs : ∀ x, foldedSetIterable iter env x = pure x := by intros _; rfl) :
    wpAny (model prog w) A (eval (.ListComp elt [⟨.Name x px, iter, [], 0⟩] scope pos) env) Q E s := by
  rw [eval_ListComp]
  refine wpAny_comprehension_free (use := none) rfl hs hclos hkind hnames (wpAny_mono h (fun xv s₁ h₁ => ?_) fun _ _ e => e)
  obtain ⟨b, t, news, rfl, hh, F, N, hsz, R⟩ := h₁
  refine KBw.pyIter_bytes ?_
  have up : ∀ a o, s₁.heap.get? a = some o → (s₁.heap.push { cls := .type "bytes_iterator", data := .fields #[.bytes b t, .int 0 0] }).get? a = some o := fun a o e => Heap.get?_push_of_some _ e
  refine LCg.block_U (KBw.walks hh s₁.heap.objs.size b t) hsz (fun i h st => by obtain ⟨o, e, _⟩ := st; exact ⟨o, e⟩) by_st hcell hkind hx ⟨_, Heap.get?_push_size _ rfl, rfl, rfl⟩ (fun a ha => ?_)
    (F.keeps up) (N.grown up) (Nat.ne_of_lt F.ns.lt) (next_is_new F) (fun p hp => Nat.ne_of_lt (Heap.lt_size (N p hp).1)) trivial (R _ ⟨_, rfl⟩) ?_
  · rw [List.mem_singleton.mp ha]
    show s₁.heap.objs.size < (s₁.heap.push _).objs.size
    rw [Heap.size_push]; exact Nat.lt_succ_self _
  · intros D C h tk m' ys news' F' N' o1 hn hC₀ hD₀ hCL hDL hCD offC fin
    refine ⟨m', hn, fun h'' hs'' => fin D h'' tk (F'.change hs'' hCL hC₀) (fun p hp => ?_) o1⟩
    refine ⟨hs''.extBut _ _ ?_ (N' p hp).1, (N' p hp).2⟩
    rcases List.mem_cons.mp hp with rfl | hp
    · exact Ne.symm hCD
    · exact offC p hp
theorem rest_by {prog : Program} {w : World} {A : Around} {h₀ : Heap} {L : Addr} {m : Str → Option Value} {env : Env} {elt : PySem.Expr} {x : Str} {scope : Scope} {cl : List (Str × Addr)} {s : Shared} {Fin : List Value → List (Addr × Obj) → Prop} {news : List (Addr × Obj)} {b : Array UInt8}
    (turn : ∀ (k : Int) t I oI C oC D m₂ ys h tk (E' : Value → Shared → Prop), 0 ≤ k → k < 256 → LCg.NsObj oC m₂ → m₂ x = some (.int k t) → Fr h₀ L h m → News h₀ L h ((I, oI) :: (C, oC) :: (D, LCg.lst ys) :: news) → LCg.Off3 I C D news →
      wpAny (model prog w) A (eval elt (compEnvC scope cl C env)) (LCg.CompEnd h₀ L m { s with heap := h, toks := tk } I oI C oC D (LCg.lst ys) (fun _ => True) (fun y news' => KCtEl news ⟨#[k.toNat]⟩ y news')) E' { s with heap := h, toks := tk })
    (fin : ∀ ys, StrsAre ys (b.toList.map fun c => (⟨#[c.toNat]⟩ : Str)) → Fin ys news) : LCg.CompRest prog w A h₀ L m env elt x scope cl s (fun _ => True) (fun i v => ∃ c u, b[i]? = some c ∧ v = .int ((c : UInt8).toNat : Int) u) Fin b.size 0 [] news := by
  have key : ∀ (j i : Nat) (ys : List Value), i + j = b.size → StrsAre ys ((b.toList.take i).map fun c => (⟨#[c.toNat]⟩ : Str)) → LCg.CompRest prog w A h₀ L m env elt x scope cl s (fun _ => True) (fun i v => ∃ c u, b[i]? = some c ∧ v = .int ((c : UInt8).toNat : Int) u) Fin j i ys news := by
    intros j
    induction j with
    | zero =>
      intros i ys hi hy
      have e : i = b.toList.length := by rw [Array.length_toList]; omega
      subst e
      rw [List.take_length] at hy
      exact LCg.CompRest.zero (fin ys hy)
    | succ j ih =>
      intros i ys hi hy
      refine LCg.CompRest.succ ?_
      intros v I oI C oC D m₂ h tk E' hv hC hx F N off ne
      obtain ⟨c, u, hk, hv'⟩ := hv
      rw [hv'] at hx
      refine wpAny_mono (turn _ u I oI C oC D m₂ ys h tk E' (by omega) (by have := c.toNat_lt; omega) hC hx F N off) (fun y s₂ hq => ?_) fun _ _ e => e
      obtain ⟨h', tk', nw, e, F', N', off', hS, hn, t', hy'⟩ := hq
      rw [hn] at N' off'
      refine ⟨h', tk', news, e, F', N', off', trivial, ?_⟩
      rw [hy']
      refine ih (i + 1) _ (by omega) ?_
      rw [List.take_add_one, Array.getElem?_toList, hk]
      simpa using kct_snoc hy
  exact key b.size 0 [] (by omega) (by simpa using StrsAre.nil)
/-! the word of a light -/
def wordS (n : Int) : Str := ⟨((apB 6 n).map fun c => c.toNat).toArray⟩
theorem join_word (l : List UInt8) : Txt.join (Str.ofString "") (l.map fun c => (⟨#[c.toNat]⟩ : Str)) = ⟨(l.map fun c => c.toNat).toArray⟩ := by
  have h1 := join_plain_closes (Str.ofString "") (l.map fun c => (⟨#[c.toNat]⟩ : Str))
  have h2 := join_ones (l.map fun c => c.toNat)
  rw [List.map_map] at h2
  exact (eq_of_beq h1).trans h2
theorem apB_length : ∀ (f : Nat) (x : Int), (apB f x).length ≤ f
  | 0, _ => Nat.le_refl _
  | f + 1, x => by
    unfold apB
    split
    · exact Nat.zero_le _
    · rw [List.length_append]; have := apB_length f (x.fdiv 16); simp; omega
theorem word_ok (x : Int) : ((((apB 6 x).map fun c => (⟨#[c.toNat]⟩ : Str)).map (·.length)).sum + ((apB 6 x).map fun c => (⟨#[c.toNat]⟩ : Str)).length * (Str.ofString "").length ≤ 16777216) := by
  have h := apB_length 6 x
  have e : (((apB 6 x).map fun c => (⟨#[c.toNat]⟩ : Str)).map (·.length)).sum = (apB 6 x).length := by
    generalize apB 6 x = l
    induction l with
    | nil => rfl
    | cons c l ih => simp only [List.map_cons, List.sum_cons, List.length_cons, ih]; show 1 + l.length = _; omega
  rw [e]
  have : (Str.ofString "").length = 0 := by decide
  rw [this]; omega
theorem sizeBy (x : Int) : (apB 6 x).toArray.size ≤ sizeLine := Nat.le_trans (by rw [List.size_toArray]; exact apB_length _ _) (by decide +kernel)

end Mine
end
section
open PySem PySem.W PyProof.Rows
open PySem.Spec PySem.Calls
set_option maxRecDepth 100000
set_option maxHeartbeats 8000000
namespace Mine
local macro_rules | `(tactic| walk_at "call ref") => `(tactic| (k_here; (first | with_reducible show wpAny _ _ (call (Value.ref 35) _) _ _ _); refine stopper ?_))

local macro_rules | `(tactic| walk_at "eval ListComp") => `(tactic| (k_here; k_dflt (refine ListComp_By (_F₀ := by k_asm) (by rfl) (by decide) (by rfl) (by decide) (by rfl) ?_)))
local macro_rules | `(tactic| walk_at "SrcBy") => `(tactic| (k_dflt (refine ⟨_, _, _, rfl, rfl, by k_asm, by k_asm, sizeBy _, ?_⟩); intro s2' hs2'; (revert hs2'; refine exI ?_; intro g2'; intro hs2'); subst hs2'; refine rest_by (fun k' t' I' oI' C' oC' D' m' ys' h' tk' E' hlo' hhi' hC' hx' F' N' off' => ?_) (fun ys' hys' => ?_)))
local macro_rules | `(tactic| walk_at "call builtin:chr") => `(tactic| (k_here; refine chr_of_range (by omega) (by omega) ?_))
local macro_rules | `(tactic| walk_at "CompEnd") => `(tactic| exact LCg.CompEnd.intro (by assumption) (by assumption) _ (fun p hp => hp) (by assumption) trivial ⟨rfl, _, rfl⟩)
local macro_rules | `(tactic| walk_at "call builtin:str.join") => `(tactic| (k_here; k_dflt (refine join_list (News.isList (by k_asm) (by k_mem)) (by assumption) (word_ok _) ?_); intro t9 k9))
theorem con_word {prog w p loose mean mg mb} (news : List (Addr × Obj)) (a1 : Addr) (r g b : Int) (t1 t2 t3 : Tok) (ho : (a1, tupO [.int r t1, .int g t2, .int b t3]) ∈ news) (hr : Rg r g b) (hp : 0 < r * 4096 + g * 64 + b) : Con 6 48 prog w p loose mean mg mb 99 [.ref a1] news (fun v news' => (∃ u, v = .str (wordS (r * 4096 + g * 64 + b)) u) ∧ news' = news) := by
  unfold Con
  intros dp un gd cn cs a ccd cl outer A₀ base h₀ L m s Q E
  revert ho hr hp
  revert prog w p loose mean mg mb news a1 r g b t1 t2 t3 dp un gd cn cs a ccd cl outer A₀ base h₀ L m s Q E
  refine no_implicit_lambda% (all8 (by repeat (first | exact neS | exact neA | exact neW | refine nP ?_ ?_ | exact neT _ | infer_instance)) ?_)
  generalize Prod.fst (c8 _ _) = prog, Prod.fst (Prod.snd (c8 _ _)) = w, Prod.fst (Prod.snd (Prod.snd (c8 _ _))) = p, Prod.fst (Prod.snd (Prod.snd (Prod.snd (c8 _ _)))) = loose, Prod.fst (Prod.snd (Prod.snd (Prod.snd (Prod.snd (c8 _ _))))) = mean, Prod.fst (Prod.snd (Prod.snd (Prod.snd (Prod.snd (Prod.snd (c8 _ _)))))) = mg, Prod.fst (Prod.snd (Prod.snd (Prod.snd (Prod.snd (Prod.snd (Prod.snd (c8 _ _))))))) = mb, Prod.snd (Prod.snd (Prod.snd (Prod.snd (Prod.snd (Prod.snd (Prod.snd (c8 _ _))))))) = news
  refine no_implicit_lambda% (all8 (by repeat (first | exact neS | exact neA | exact neW | refine nP ?_ ?_ | exact neT _ | infer_instance)) ?_)
  generalize Prod.fst (c8 _ _) = a1, Prod.fst (Prod.snd (c8 _ _)) = r, Prod.fst (Prod.snd (Prod.snd (c8 _ _))) = g, Prod.fst (Prod.snd (Prod.snd (Prod.snd (c8 _ _)))) = b, Prod.fst (Prod.snd (Prod.snd (Prod.snd (Prod.snd (c8 _ _))))) = t1, Prod.fst (Prod.snd (Prod.snd (Prod.snd (Prod.snd (Prod.snd (c8 _ _)))))) = t2, Prod.fst (Prod.snd (Prod.snd (Prod.snd (Prod.snd (Prod.snd (Prod.snd (c8 _ _))))))) = t3, Prod.snd (Prod.snd (Prod.snd (Prod.snd (Prod.snd (Prod.snd (Prod.snd (c8 _ _))))))) = dp
  refine no_implicit_lambda% (all8 (by repeat (first | exact neS | exact neA | exact neW | refine nP ?_ ?_ | exact neT _ | infer_instance)) ?_)
  generalize Prod.fst (c8 _ _) = un, Prod.fst (Prod.snd (c8 _ _)) = gd, Prod.fst (Prod.snd (Prod.snd (c8 _ _))) = cn, Prod.fst (Prod.snd (Prod.snd (Prod.snd (c8 _ _)))) = cs, Prod.fst (Prod.snd (Prod.snd (Prod.snd (Prod.snd (c8 _ _))))) = a, Prod.fst (Prod.snd (Prod.snd (Prod.snd (Prod.snd (Prod.snd (c8 _ _)))))) = ccd, Prod.fst (Prod.snd (Prod.snd (Prod.snd (Prod.snd (Prod.snd (Prod.snd (c8 _ _))))))) = cl, Prod.snd (Prod.snd (Prod.snd (Prod.snd (Prod.snd (Prod.snd (Prod.snd (c8 _ _))))))) = outer
  refine no_implicit_lambda% (all8 (by repeat (first | exact neS | exact neA | exact neW | refine nP ?_ ?_ | exact neT _ | infer_instance)) ?_)
  generalize Prod.fst (c8 _ _) = A₀, Prod.fst (Prod.snd (c8 _ _)) = base, Prod.fst (Prod.snd (Prod.snd (c8 _ _))) = h₀, Prod.fst (Prod.snd (Prod.snd (Prod.snd (c8 _ _)))) = L, Prod.fst (Prod.snd (Prod.snd (Prod.snd (Prod.snd (c8 _ _))))) = m, Prod.fst (Prod.snd (Prod.snd (Prod.snd (Prod.snd (Prod.snd (c8 _ _)))))) = s, Prod.fst (Prod.snd (Prod.snd (Prod.snd (Prod.snd (Prod.snd (Prod.snd (c8 _ _))))))) = Q, Prod.snd (Prod.snd (Prod.snd (Prod.snd (Prod.snd (Prod.snd (Prod.snd (c8 _ _))))))) = E
  intro ho hr hp B F X N T hk hd hu hret
  obtain ⟨⟨hr_1, hr_2⟩, ⟨hr_3, hr_4⟩, hr_5, hr_6⟩ := hr
  refine wpAny_call ?_
  k_dflt cell_enter
  repeat' (first | (unfold StopP; first | ((with_reducible show wpAny _ _ (call (Value.ref 35) _) _ _ _); k_dflt (refine Con.use (by k_asm) (by k_asm) (by k_asm) (by k_asm) (by k_asm) (con_int2ap _ _ _ (by omega)) (by walk_at "k6") (by walk_at "k7") (by walk_at "k8") ?_; walk_at "cu1"))) | (k_unfold; (try dsimp only)) | (k_end; wrow_close) | walk1 | (dsimp only; walk1) | (leave1; walk_say "STEP leave1"; try dsimp only) | fail "no step")
  refine hret _ _ _ _ (by assumption) (by first | assumption | exact cb_drop (by assumption) (fun p hp => by repeat (first | exact hp | apply List.mem_cons_of_mem))) ⟨⟨_, congrArg (fun x => Value.str x _) ((join_word _).trans ?_)⟩, rfl⟩
  rw [Int.neg_neg]
  rfl

end Mine
end
section
open PySem PySem.W PyProof.Rows
open PySem.Spec PySem.Calls
set_option maxRecDepth 100000
set_option maxHeartbeats 8000000
namespace Mine
theorem rs_C_light : True := by
  w_top off
  exact True.intro
def decI (pre : List Int) : Int := pre.foldl (fun a c => 16 * a + c - 65) 0
theorem decI_snoc (pre : List Int) (c : Int) : decI (pre ++ [c]) = 16 * decI pre + c - 65 := by simp [decI]
theorem apC_toNat {m : Int} (h0 : 0 ≤ m) (h1 : m < 16) : ((apC m).toNat : Int) = 65 + m := by
  have : (apC m).toNat = (65 + m.toNat) % 2 ^ 8 := UInt8.toNat_ofNat'
  rw [this]; omega
theorem dec_apB : ∀ (f : Nat) (x : Int), 0 ≤ x → x < 16 ^ f → decI ((apB f x).map fun c => (c.toNat : Int)) = x
  | 0, x, h0, h1 => by simp at h1; have : x = 0 := by omega
                       subst this; rfl
  | f + 1, x, h0, h1 => by
    unfold apB
    by_cases h : x = 0
    · subst h; rfl
    · rw [if_neg h, List.map_append, List.map_singleton, decI_snoc, fdiv16, Int.fmod_eq_emod_of_nonneg x (by decide), dec_apB f (x / 16) (by omega) (by rw [Int.pow_succ] at h1; omega), apC_toNat (by omega) (by omega)]
      omega
theorem dec_word {n : Int} (h0 : 0 ≤ n) (h1 : n < 262144) : decI (KStt.codes (wordS n)) = n := by
  have : KStt.codes (wordS n) = (apB 6 n).map fun c => (c.toNat : Int) := by
    unfold KStt.codes wordS
    simp
  rw [this]
  exact dec_apB 6 n h0 (by omega)
theorem wordS_length (n : Int) : (wordS n).length ≤ 6 := by
  show ((apB 6 n).map fun c => c.toNat).toArray.size ≤ 6
  rw [List.size_toArray, List.length_map]; exact apB_length _ _
theorem con_light0 {prog w p loose mean mg mb} (news : List (Addr × Obj)) (x : Str) (t1 : Tok) (hx : x.length ≤ 6) : Con 3 24 prog w p loose mean mg mb 106 [.str x t1] news (fun v news' => ∃ a u1 u2 u3, v = .ref a ∧ news' = (a, tupO [.int ((decI (KStt.codes x)).fdiv 4096) u1, .int (((decI (KStt.codes x)).fdiv 64).fmod 64) u2, .int ((decI (KStt.codes x)).fmod 64) u3]) :: news ∧ ∀ p ∈ news, p.1 < a) := by
  unfold Con
  intros dp un gd cn cs a ccd cl outer A₀ base h₀ L m s Q E
  revert hx
  revert prog w p loose mean mg mb news x t1 dp un gd cn cs a ccd cl outer A₀ base h₀ L m s Q E
  refine no_implicit_lambda% (all8 (by repeat (first | exact neS | exact neA | exact neW | refine nP ?_ ?_ | exact neT _ | infer_instance)) ?_)
  generalize Prod.fst (c8 _ _) = prog, Prod.fst (Prod.snd (c8 _ _)) = w, Prod.fst (Prod.snd (Prod.snd (c8 _ _))) = p, Prod.fst (Prod.snd (Prod.snd (Prod.snd (c8 _ _)))) = loose, Prod.fst (Prod.snd (Prod.snd (Prod.snd (Prod.snd (c8 _ _))))) = mean, Prod.fst (Prod.snd (Prod.snd (Prod.snd (Prod.snd (Prod.snd (c8 _ _)))))) = mg, Prod.fst (Prod.snd (Prod.snd (Prod.snd (Prod.snd (Prod.snd (Prod.snd (c8 _ _))))))) = mb, Prod.snd (Prod.snd (Prod.snd (Prod.snd (Prod.snd (Prod.snd (Prod.snd (c8 _ _))))))) = news
  refine no_implicit_lambda% (all8 (by repeat (first | exact neS | exact neA | exact neW | refine nP ?_ ?_ | exact neT _ | infer_instance)) ?_)
  generalize Prod.fst (c8 _ _) = x, Prod.fst (Prod.snd (c8 _ _)) = t1, Prod.fst (Prod.snd (Prod.snd (c8 _ _))) = dp, Prod.fst (Prod.snd (Prod.snd (Prod.snd (c8 _ _)))) = un, Prod.fst (Prod.snd (Prod.snd (Prod.snd (Prod.snd (c8 _ _))))) = gd, Prod.fst (Prod.snd (Prod.snd (Prod.snd (Prod.snd (Prod.snd (c8 _ _)))))) = cn, Prod.fst (Prod.snd (Prod.snd (Prod.snd (Prod.snd (Prod.snd (Prod.snd (c8 _ _))))))) = cs, Prod.snd (Prod.snd (Prod.snd (Prod.snd (Prod.snd (Prod.snd (Prod.snd (c8 _ _))))))) = a
  refine no_implicit_lambda% (all8 (by repeat (first | exact neS | exact neA | exact neW | refine nP ?_ ?_ | exact neT _ | infer_instance)) ?_)
  generalize Prod.fst (c8 _ _) = ccd, Prod.fst (Prod.snd (c8 _ _)) = cl, Prod.fst (Prod.snd (Prod.snd (c8 _ _))) = outer, Prod.fst (Prod.snd (Prod.snd (Prod.snd (c8 _ _)))) = A₀, Prod.fst (Prod.snd (Prod.snd (Prod.snd (Prod.snd (c8 _ _))))) = base, Prod.fst (Prod.snd (Prod.snd (Prod.snd (Prod.snd (Prod.snd (c8 _ _)))))) = h₀, Prod.fst (Prod.snd (Prod.snd (Prod.snd (Prod.snd (Prod.snd (Prod.snd (c8 _ _))))))) = L, Prod.snd (Prod.snd (Prod.snd (Prod.snd (Prod.snd (Prod.snd (Prod.snd (c8 _ _))))))) = m
  refine no_implicit_lambda% (all2 (by repeat (first | exact neS | exact neA | exact neW | refine nP ?_ ?_ | exact neT _ | infer_instance)) ?_)
  generalize Prod.fst (cp2 _ _) = s, Prod.snd (cp2 _ _) = Q
  intro E
  intro hx B F X N T hk hd hu hret
  (k_with "pyIter str" => k_state (fun (pre : List Int) n => n = decI pre) "number")
  (k_with "state" => first | (simp only [decI_snoc]; omega) | rfl)
  refine wpAny_call ?_
  k_dflt cell_enter
  k_steps
  rename_i kInv _ _ _ _ _ _ _ _ _ _
  subst kInv
  exact hret _ _ _ _ (by assumption) (by assumption) ⟨_, _, _, _, rfl, rfl, by assumption⟩
theorem con_light {prog w p loose mean mg mb} (news : List (Addr × Obj)) (r g b : Int) (t1 : Tok) (hr : Rg r g b) : Con 3 24 prog w p loose mean mg mb 106 [.str (wordS (r * 4096 + g * 64 + b)) t1] news (fun v news' => ∃ a u1 u2 u3, v = .ref a ∧ news' = (a, tupO [.int r u1, .int g u2, .int b u3]) :: news ∧ ∀ p ∈ news, p.1 < a) := by
  revert hr
  revert prog w p loose mean mg mb news r g b t1
  refine no_implicit_lambda% (all8 (by repeat (first | exact neS | exact neA | exact neW | refine nP ?_ ?_ | exact neT _ | infer_instance)) ?_)
  generalize Prod.fst (c8 _ _) = prog, Prod.fst (Prod.snd (c8 _ _)) = w, Prod.fst (Prod.snd (Prod.snd (c8 _ _))) = p, Prod.fst (Prod.snd (Prod.snd (Prod.snd (c8 _ _)))) = loose, Prod.fst (Prod.snd (Prod.snd (Prod.snd (Prod.snd (c8 _ _))))) = mean, Prod.fst (Prod.snd (Prod.snd (Prod.snd (Prod.snd (Prod.snd (c8 _ _)))))) = mg, Prod.fst (Prod.snd (Prod.snd (Prod.snd (Prod.snd (Prod.snd (Prod.snd (c8 _ _))))))) = mb, Prod.snd (Prod.snd (Prod.snd (Prod.snd (Prod.snd (Prod.snd (Prod.snd (c8 _ _))))))) = news
  refine no_implicit_lambda% (all4 (by repeat (first | exact neS | exact neA | exact neW | refine nP ?_ ?_ | exact neT _ | infer_instance)) ?_)
  generalize Prod.fst (cp4 _ _) = r, Prod.fst (Prod.snd (cp4 _ _)) = g, Prod.fst (Prod.snd (Prod.snd (cp4 _ _))) = b, Prod.snd (Prod.snd (Prod.snd (cp4 _ _))) = t1
  intro hr
  obtain ⟨⟨hr_1, hr_2⟩, ⟨hr_3, hr_4⟩, hr_5, hr_6⟩ := hr
  have h := con_light0 (prog := prog) (w := w) (p := p) (loose := loose) (mean := mean) (mg := mg) (mb := mb) news (wordS (r * 4096 + g * 64 + b)) t1 (wordS_length _)
  have e1 : (r * 4096 + g * 64 + b).fdiv 4096 = r := by rw [Int.fdiv_eq_ediv_of_nonneg _ (by decide)]; omega
  have e2 : ((r * 4096 + g * 64 + b).fdiv 64).fmod 64 = g := by rw [Int.fdiv_eq_ediv_of_nonneg _ (by decide), Int.fmod_eq_emod_of_nonneg _ (by decide)]; omega
  have e3 : (r * 4096 + g * 64 + b).fmod 64 = b := by rw [Int.fmod_eq_emod_of_nonneg _ (by decide)]; omega
  rw [dec_word (by omega) (by omega), e1, e2, e3] at h
  exact h

end Mine
end
section
open PySem PySem.W PyProof.Rows
open PySem.Spec PySem.Calls
set_option maxRecDepth 100000
set_option maxHeartbeats 8000000
namespace Mine
theorem rs_C_mixed : True := by
  w_top off
  exact True.intro
local macro_rules | `(tactic| walk_at "subscriptTail") => `(tactic| (k_here; k_dflt (first | (refine it_tup (by k_asm) (by k_mem) (by decide) (by decide) (by exact rfl) (by exact rfl) ?_) | (refine' it_pos ?N9 ?m9 ?a9 ?b9 ?d9 ?_; (case N9 => k_asm); (case m9 => k_mem); (case d9 => exact rfl); (case a9 => decide); (case b9 => decide)))))
local macro_rules | `(tactic| walk_at "exec Assign cons ListComp") => `(tactic| (k_here; k_dflt (refine LCg.Assign_ListComp_U (F₀ := by k_asm) (by rfl) (by with_unfolding_all rfl) (by with_unfolding_all rfl) (by decide) (by rfl) (by decide) (by rfl) (by rfl) (by rfl) ?_)))
local macro_rules | `(tactic| walk_at "CompSrc") => `(tactic| (k_here; k_dflt (refine LCg.CompSrc.range (by rfl) (by k_asm) (by k_asm) (by assumption) (by first | decide | rfl) (by first | rfl | decide) (by first | size_fits | exact Nat.le_of_ble_eq_true rfl) ?_; intro g'; lcg_lit)))
local macro_rules | `(tactic| walk_at "CompEnd") => `(tactic| refine LCg.CompEnd.intro (by assumption) (by assumption) _ (fun p hp => hp) (by first | assumption | (simp only [LCg.Off3, and_true]; assumption)) trivial ?_)
theorem con_mixed {prog w p loose mean mg mb} (news : List (Addr × Obj)) (a1 a2 : Addr) (r g b r2 g2 b2 x y : Int) (t1 t2 t3 t4 t5 t6 t7 t8 : Tok) (ho : (a1, tupO [.int r t1, .int g t2, .int b t3]) ∈ news) (ho' : (a2, tupO [.int r2 t4, .int g2 t5, .int b2 t6]) ∈ news) (hr : Rg r g b) (hr2 : Rg r2 g2 b2) (hx : -1 ≤ x ∧ x ≤ 1) (hy : -1 ≤ y ∧ y ≤ 1) : Con 3 24 prog w p loose mean mg mb 111 [.ref a1, .int x t7, .ref a2, .int y t8] news (fun v news' => ∃ a u1 u2 u3 M, v = .ref a ∧ news' = (a, tupO [.int (x * r + y * r2 - M) u1, .int (x * g + y * g2 - M) u2, .int (x * b + y * b2 - M) u3]) :: news ∧ (∀ p ∈ news, p.1 < a) ∧ M = min (x * r + y * r2) (min (x * g + y * g2) (x * b + y * b2))) := by
  unfold Con
  intros dp un gd cn cs a ccd cl outer A₀ base h₀ L m s Q E
  revert ho ho' hr hr2 hx hy
  revert prog w p loose mean mg mb news a1 a2 r g b r2 g2 b2 x y t1 t2 t3 t4 t5 t6 t7 t8 dp un gd cn cs a ccd cl outer A₀ base h₀ L m s Q E
  refine no_implicit_lambda% (all8 (by repeat (first | exact neS | exact neA | exact neW | refine nP ?_ ?_ | exact neT _ | infer_instance)) ?_)
  generalize Prod.fst (c8 _ _) = prog, Prod.fst (Prod.snd (c8 _ _)) = w, Prod.fst (Prod.snd (Prod.snd (c8 _ _))) = p, Prod.fst (Prod.snd (Prod.snd (Prod.snd (c8 _ _)))) = loose, Prod.fst (Prod.snd (Prod.snd (Prod.snd (Prod.snd (c8 _ _))))) = mean, Prod.fst (Prod.snd (Prod.snd (Prod.snd (Prod.snd (Prod.snd (c8 _ _)))))) = mg, Prod.fst (Prod.snd (Prod.snd (Prod.snd (Prod.snd (Prod.snd (Prod.snd (c8 _ _))))))) = mb, Prod.snd (Prod.snd (Prod.snd (Prod.snd (Prod.snd (Prod.snd (Prod.snd (c8 _ _))))))) = news
  refine no_implicit_lambda% (all8 (by repeat (first | exact neS | exact neA | exact neW | refine nP ?_ ?_ | exact neT _ | infer_instance)) ?_)
  generalize Prod.fst (c8 _ _) = a1, Prod.fst (Prod.snd (c8 _ _)) = a2, Prod.fst (Prod.snd (Prod.snd (c8 _ _))) = r, Prod.fst (Prod.snd (Prod.snd (Prod.snd (c8 _ _)))) = g, Prod.fst (Prod.snd (Prod.snd (Prod.snd (Prod.snd (c8 _ _))))) = b, Prod.fst (Prod.snd (Prod.snd (Prod.snd (Prod.snd (Prod.snd (c8 _ _)))))) = r2, Prod.fst (Prod.snd (Prod.snd (Prod.snd (Prod.snd (Prod.snd (Prod.snd (c8 _ _))))))) = g2, Prod.snd (Prod.snd (Prod.snd (Prod.snd (Prod.snd (Prod.snd (Prod.snd (c8 _ _))))))) = b2
  refine no_implicit_lambda% (all8 (by repeat (first | exact neS | exact neA | exact neW | refine nP ?_ ?_ | exact neT _ | infer_instance)) ?_)
  generalize Prod.fst (c8 _ _) = x, Prod.fst (Prod.snd (c8 _ _)) = y, Prod.fst (Prod.snd (Prod.snd (c8 _ _))) = t1, Prod.fst (Prod.snd (Prod.snd (Prod.snd (c8 _ _)))) = t2, Prod.fst (Prod.snd (Prod.snd (Prod.snd (Prod.snd (c8 _ _))))) = t3, Prod.fst (Prod.snd (Prod.snd (Prod.snd (Prod.snd (Prod.snd (c8 _ _)))))) = t4, Prod.fst (Prod.snd (Prod.snd (Prod.snd (Prod.snd (Prod.snd (Prod.snd (c8 _ _))))))) = t5, Prod.snd (Prod.snd (Prod.snd (Prod.snd (Prod.snd (Prod.snd (Prod.snd (c8 _ _))))))) = t6
  refine no_implicit_lambda% (all8 (by repeat (first | exact neS | exact neA | exact neW | refine nP ?_ ?_ | exact neT _ | infer_instance)) ?_)
  generalize Prod.fst (c8 _ _) = t7, Prod.fst (Prod.snd (c8 _ _)) = t8, Prod.fst (Prod.snd (Prod.snd (c8 _ _))) = dp, Prod.fst (Prod.snd (Prod.snd (Prod.snd (c8 _ _)))) = un, Prod.fst (Prod.snd (Prod.snd (Prod.snd (Prod.snd (c8 _ _))))) = gd, Prod.fst (Prod.snd (Prod.snd (Prod.snd (Prod.snd (Prod.snd (c8 _ _)))))) = cn, Prod.fst (Prod.snd (Prod.snd (Prod.snd (Prod.snd (Prod.snd (Prod.snd (c8 _ _))))))) = cs, Prod.snd (Prod.snd (Prod.snd (Prod.snd (Prod.snd (Prod.snd (Prod.snd (c8 _ _))))))) = a
  refine no_implicit_lambda% (all8 (by repeat (first | exact neS | exact neA | exact neW | refine nP ?_ ?_ | exact neT _ | infer_instance)) ?_)
  generalize Prod.fst (c8 _ _) = ccd, Prod.fst (Prod.snd (c8 _ _)) = cl, Prod.fst (Prod.snd (Prod.snd (c8 _ _))) = outer, Prod.fst (Prod.snd (Prod.snd (Prod.snd (c8 _ _)))) = A₀, Prod.fst (Prod.snd (Prod.snd (Prod.snd (Prod.snd (c8 _ _))))) = base, Prod.fst (Prod.snd (Prod.snd (Prod.snd (Prod.snd (Prod.snd (c8 _ _)))))) = h₀, Prod.fst (Prod.snd (Prod.snd (Prod.snd (Prod.snd (Prod.snd (Prod.snd (c8 _ _))))))) = L, Prod.snd (Prod.snd (Prod.snd (Prod.snd (Prod.snd (Prod.snd (Prod.snd (c8 _ _))))))) = m
  refine no_implicit_lambda% (all2 (by repeat (first | exact neS | exact neA | exact neW | refine nP ?_ ?_ | exact neT _ | infer_instance)) ?_)
  generalize Prod.fst (cp2 _ _) = s, Prod.snd (cp2 _ _) = Q
  intro E
  intro ho ho' hr hr2 hx hy B F X N T hk hd hu hret
  obtain ⟨⟨hr_1, hr_2⟩, ⟨hr_3, hr_4⟩, hr_5, hr_6⟩ := hr
  obtain ⟨⟨hq_1, hq_2⟩, ⟨hq_3, hq_4⟩, hq_5, hq_6⟩ := hr2
  refine wpAny_call ?_
  k_dflt (refine' code_defC ?k1 ?k2 ?k3 ?k4 ?k5 ?kA ?kF ?kK ?k6 ?k7 ?k8 ?k9 ?kB ?kD ?_ ?c2 ?c3 ?c4; (case kA => exact rfl); (case kF => exact rfl); (case kK => assumption); (case k1 => k_asm); (case k2 => k_asm); (case k3 => k_asm); (case k4 => k_asm); (case k5 => k_asm); (case k6 => k_is); (case k7 => k_is); (case k8 => ktr_room); (case k9 => exact BindsTo.of_eq rfl); (case kB => exact rfl); (case kD => decide +kernel); (case c2 => exact rfl); (case c3 => exact rfl); (case c4 => exact rfl); k_whole; intro g' L' h' tk' cells' FG' F' N' Y' B' X' T' l1; (try k_lt l1); k_cells Y'; (try simp only [List.cons_append, List.nil_append] at N'); (try dsimp only); (try k_lift B'); (try k_fold))
  k_steps
  refine hret _ _ _ _ (by assumption) (cb_drop (by assumption) (fun p hp => (List.mem_cons.mp hp).elim (fun e => by rw [e]; exact List.mem_cons_self) (fun hp => by repeat (first | exact hp | apply List.mem_cons_of_mem)))) ⟨_, _, _, _, _, rfl, rfl, fun p hp => ktn_ltOf ((by assumption : _ ∧ _ ∧ _ ∧ _ ∧ _ ∧ AllLt _ news).2.2.2.2.2) p hp, ?_⟩
  omega

end Mine
end
section
open PySem PySem.W PyProof.Rows
open PySem.Spec PySem.Calls
set_option maxRecDepth 100000
set_option maxHeartbeats 8000000
namespace Mine
local macro_rules | `(tactic| walk_at "call ref") => `(tactic| (k_here; (first | with_reducible show wpAny _ _ (call (Value.ref 21) _) _ _ _); refine stopper ?_))
local macro_rules | `(tactic| walk_at "subscriptTail") => `(tactic| (k_here; k_dflt (refine it_tup (by k_asm) (by k_mem) (by decide) (by decide) (by rfl) (by rfl) ?_)))
def crossQ (v1 v2 : Light) : UInt64 := Float64.div (Float64.sub (Float64.mul (qF v1.1 v1.2.1 v1.2.2) (iF v2.1 v2.2.1 v2.2.2)) (Float64.mul (iF v1.1 v1.2.1 v1.2.2) (qF v2.1 v2.2.1 v2.2.2))) 4598273758305123282
def crossF (v1 v2 : Light) : Int := Flt.toInt Float64.nearestOf (crossQ v1 v2)
theorem con_cross {prog w p loose mean mg mb} (news : List (Addr × Obj)) (a1 a2 : Addr) (v1 v2 : Light) (h1 : LAt news a1 v1) (h2 : LAt news a2 v2) (g1 : LRg v1) (g2 : LRg v2) (hfin : Float64.isFinite (crossQ v1 v2) = true) :
  Con 4 32 prog w p loose mean mg mb 118 [.ref a1, .ref a2] news (fun v news' => (∃ u, v = .int (crossF v1 v2) u) ∧ news' = news) := by
  unfold Con
  intros dp un gd cn cs a ccd cl outer A₀ base h₀ L m s Q E
  revert h1 h2 g1 g2 hfin
  revert prog w p loose mean mg mb news a1 a2 v1 v2 dp un gd cn cs a ccd cl outer A₀ base h₀ L m s Q E
  refine no_implicit_lambda% (all8 (by repeat (first | exact neS | exact neA | exact neW | refine nP ?_ ?_ | exact neT _ | infer_instance)) ?_)
  generalize Prod.fst (c8 _ _) = prog, Prod.fst (Prod.snd (c8 _ _)) = w, Prod.fst (Prod.snd (Prod.snd (c8 _ _))) = p, Prod.fst (Prod.snd (Prod.snd (Prod.snd (c8 _ _)))) = loose, Prod.fst (Prod.snd (Prod.snd (Prod.snd (Prod.snd (c8 _ _))))) = mean, Prod.fst (Prod.snd (Prod.snd (Prod.snd (Prod.snd (Prod.snd (c8 _ _)))))) = mg, Prod.fst (Prod.snd (Prod.snd (Prod.snd (Prod.snd (Prod.snd (Prod.snd (c8 _ _))))))) = mb, Prod.snd (Prod.snd (Prod.snd (Prod.snd (Prod.snd (Prod.snd (Prod.snd (c8 _ _))))))) = news
  refine no_implicit_lambda% (all8 (by repeat (first | exact neS | exact neA | exact neW | refine nP ?_ ?_ | exact neT _ | infer_instance)) ?_)
  generalize Prod.fst (c8 _ _) = a1, Prod.fst (Prod.snd (c8 _ _)) = a2, Prod.fst (Prod.snd (Prod.snd (c8 _ _))) = v1, Prod.fst (Prod.snd (Prod.snd (Prod.snd (c8 _ _)))) = v2, Prod.fst (Prod.snd (Prod.snd (Prod.snd (Prod.snd (c8 _ _))))) = dp, Prod.fst (Prod.snd (Prod.snd (Prod.snd (Prod.snd (Prod.snd (c8 _ _)))))) = un, Prod.fst (Prod.snd (Prod.snd (Prod.snd (Prod.snd (Prod.snd (Prod.snd (c8 _ _))))))) = gd, Prod.snd (Prod.snd (Prod.snd (Prod.snd (Prod.snd (Prod.snd (Prod.snd (c8 _ _))))))) = cn
  refine no_implicit_lambda% (all8 (by repeat (first | exact neS | exact neA | exact neW | refine nP ?_ ?_ | exact neT _ | infer_instance)) ?_)
  generalize Prod.fst (c8 _ _) = cs, Prod.fst (Prod.snd (c8 _ _)) = a, Prod.fst (Prod.snd (Prod.snd (c8 _ _))) = ccd, Prod.fst (Prod.snd (Prod.snd (Prod.snd (c8 _ _)))) = cl, Prod.fst (Prod.snd (Prod.snd (Prod.snd (Prod.snd (c8 _ _))))) = outer, Prod.fst (Prod.snd (Prod.snd (Prod.snd (Prod.snd (Prod.snd (c8 _ _)))))) = A₀, Prod.fst (Prod.snd (Prod.snd (Prod.snd (Prod.snd (Prod.snd (Prod.snd (c8 _ _))))))) = base, Prod.snd (Prod.snd (Prod.snd (Prod.snd (Prod.snd (Prod.snd (Prod.snd (c8 _ _))))))) = h₀
  refine no_implicit_lambda% (all4 (by repeat (first | exact neS | exact neA | exact neW | refine nP ?_ ?_ | exact neT _ | infer_instance)) ?_)
  generalize Prod.fst (cp4 _ _) = L, Prod.fst (Prod.snd (cp4 _ _)) = m, Prod.fst (Prod.snd (Prod.snd (cp4 _ _))) = s, Prod.snd (Prod.snd (Prod.snd (cp4 _ _))) = Q
  intro E
  intro h1 h2 g1 g2 hfin B F X N T hk hd hu hret
  revert h1
  refine exI ?_
  intro t1
  refine exI ?_
  intro t2
  refine exI ?_
  intro t3
  intro ho
  revert h2
  refine exI ?_
  intro t4
  refine exI ?_
  intro t5
  refine exI ?_
  intro t6
  intro ho'
  unfold LRg at g1 g2
  unfold crossQ at hfin
  refine wpAny_call ?_
  k_dflt cell_enter
  repeat' (first | (unfold StopP; first | ((with_reducible show wpAny _ _ (call (Value.ref 21) _) _ _ _); k_dflt (refine Con.use (by k_asm) (by k_asm) (by k_asm) (by k_asm) (by k_asm) (con_yiq _ _ _ _ _ _ _ (by assumption)) (by walk_at "k6") (by walk_at "k7") (by walk_at "k8") ?_; walk_at "cu2"))) | (k_unfold; (try dsimp only)) | (k_end; wrow_close) | walk1 | (dsimp only; walk1) | (leave1; walk_say "STEP leave1"; try dsimp only) | fail "no step")
  exact hret _ _ _ _ (by assumption) (cb_drop (by assumption) (fun p hp => List.mem_cons_of_mem _ (List.mem_cons_of_mem _ hp))) ⟨⟨_, rfl⟩, rfl⟩
end Mine
end
section
open PySem PySem.W PyProof.Rows
open PySem.Spec PySem.Calls
set_option maxRecDepth 100000
set_option maxHeartbeats 8000000
namespace Mine
local macro_rules | `(tactic| walk_at "call ref") => `(tactic| (k_here; (first | with_reducible show wpAny _ _ (call (Value.ref 28) _) _ _ _); refine stopper ?_))
local macro_rules | `(tactic| walk_at "exec Assign cons ListComp") => `(tactic| (k_here; k_dflt (refine LCg.Assign_ListComp_U (F₀ := by k_asm) (by rfl) (by with_unfolding_all rfl) (by with_unfolding_all rfl) (by decide) (by rfl) (by decide) (by rfl) (by rfl) (by rfl) ?_)))
local macro_rules | `(tactic| walk_at "CompSrc") => `(tactic| (k_here; k_dflt (refine LCg.CompSrc.ledger (by rfl) (by k_asm) (by k_asm) (by assumption) (by assumption) ?_; intro g')))
local macro_rules | `(tactic| walk_at "CompRest") => `(tactic| refine stopper ?_)
local macro_rules | `(tactic| walk_at "RangeRest") => `(tactic| refine stopper ?_)
local macro_rules | `(tactic| walk_at "CompEnd") => `(tactic| refine LCg.CompEnd.intro (by assumption) (by assumption) _ (fun p hp => List.mem_cons_of_mem _ hp) (by assumption) (Or.inr ⟨_, by assumption, rfl, _, rfl⟩) ?_)
local macro_rules | `(tactic| walk_at "UnrEnd") => `(tactic| refine UnrEnd.intro (by assumption) (by assumption) _ (fun p hp => hp) (by k_all) ?_)
local macro_rules | `(tactic| walk_at "subscriptTail") => `(tactic| (k_here; (fail_if_success (with_reducible show wpAny _ _ (subscriptTail _ (PySem.Expr.Constant _ _ _) _ _) _ _ _)); k_dflt (first
  | (refine' it_pos ?N ?m ?a ?b ?d ?_; (case N => k_asm); (case m => k_mem); (case d => with_reducible assumption); (case a => omega); (case b => omega))
  | (refine' it_neg ?N ?m ?a ?b ?c ?d ?_; (case N => k_asm); (case m => k_mem); (case d => with_reducible assumption); (case a => omega); (case b => (simp only [List.length_cons, List.length_nil]; omega)); (case c => omega)))))
local macro_rules | `(tactic| walk_at "subscriptTail") => `(tactic| (k_here; k_dflt (refine it_tup (by k_asm) (by k_mem) (by decide) (by decide) (by rfl) (by rfl) ?_)))
def stepF (x : UInt64) : UInt64 := if (Float64.cmp x 4602678819172646912 == some .lt) = true then x else Float64.sub x 4607182418800017408
def modF (x : UInt64) : UInt64 := (Float64.divmod x 4607182418800017408).2
theorem stepF_1 {x : UInt64} (h : (Float64.cmp x 4602678819172646912 == some .lt) = true) : stepF x = x := if_pos h
theorem stepF_2 {x : UInt64} (h : (Float64.cmp x 4602678819172646912 == some .lt) = false) : stepF x = Float64.sub x 4607182418800017408 := if_neg (by rw [h]; decide)
def StepEnd (x : UInt64) (h₀ : Heap) (L : Addr) (m : Str → Option Value) (news : List (Addr × Obj)) (s : Shared) (v : Value) (s' : Shared) : Prop := (∃ u, v = .float (stepF x) u) ∧ ∃ h' tk, s' = { s with heap := h', toks := tk } ∧ Fr h₀ L h' m ∧ News h₀ L h' news
theorem cut_step {M : Model} {A : Around} {E : Value → Shared → Prop} {s : Shared} {h₀ : Heap} {L : Addr} {m : Str → Option Value} {news : List (Addr × Obj)} {env : Env} {test body orelse : PySem.Expr} {pos : Pos} {Q : Value → Shared → Prop} {x : UInt64} {t : Tok} (_F : Fr h₀ L s.heap m) (_N : News h₀ L s.heap news) (_hm : m (Str.ofString "step") = some (.float x t))
    (h1 : wpAny M A (isTrue test env (eval test env)) (fun b s₂ => if b then wpAny M A (eval body env) (StepEnd x h₀ L m news s) E s₂ else wpAny M A (eval orelse env) (StepEnd x h₀ L m news s) E s₂) E s)
    (h2 : ∀ u h' tk, Fr h₀ L h' m → News h₀ L h' news → Q (.float (stepF x) u) { s with heap := h', toks := tk }) : wpAny M A (eval (.IfExp test body orelse pos) env) Q E s :=
  wpAny_IfExp (wpAny_mono h1 (fun b s₂ hb => by
    cases b with
    | true =>
      simp only [if_true] at hb ⊢
      exact wpAny_mono hb (fun v s' hv => by obtain ⟨⟨u, rfl⟩, h', tk, rfl, F, N⟩ := hv; exact h2 u h' tk F N) fun _ _ e => e
    | false =>
      simp only [Bool.false_eq_true, if_false] at hb ⊢
      exact wpAny_mono hb (fun v s' hv => by obtain ⟨⟨u, rfl⟩, h', tk, rfl, F, N⟩ := hv; exact h2 u h' tk F N) fun _ _ e => e) fun _ _ e => e)
local macro_rules | `(tactic| walk_at "eval IfExp") => `(tactic| (k_here; k_dflt (refine' cut_step ?k1 ?k2 ?k3 ?_ ?_; (case k1 => k_asm); (case k2 => k_asm); (case k3 => exact rfl))))
local macro_rules | `(tactic| walk_at "StepEnd") => `(tactic| first
  | exact ⟨⟨_, congrArg (fun z => Value.float z _) (stepF_1 (by assumption)).symm⟩, _, _, rfl, by assumption, by assumption⟩
  | exact ⟨⟨_, congrArg (fun z => Value.float z _) (stepF_2 (by assumption)).symm⟩, _, _, rfl, by assumption, by assumption⟩)
def hueL (v : Light) : UInt64 := hueF v.1 v.2.1 v.2.2
def wayF (hs : List UInt64) : Nat → UInt64
  | 0 => 0
  | i + 1 => Float64.add (wayF hs i) (stepF (modF (Float64.sub (hs.getD i 0) (hs.getD (if i = 0 then 7 else i - 1) 0))))
def turnsFrm (m₀ : Str → Option Value) (v : Value) (U : Str → Option Value) : Str → Option Value := fun y => if y = Str.ofString "way" then some v else if y = Str.ofString "step" then U y else if y = Str.ofString "k" then U y else m₀ y
theorem turnsFrm_start {m : Str → Option Value} {v : Value} (h : m (Str.ofString "way") = some v) : m = turnsFrm m v m := by
  funext y
  unfold turnsFrm
  by_cases h1 : y = Str.ofString "way"
  · rw [if_pos h1, h1, h]
  · rw [if_neg h1]; split
    · rfl
    · split <;> rfl
theorem turnsFrm_next {m m₀ : Str → Option Value} {v : Value} (h : m (Str.ofString "way") = some v) (ho : ∀ y, y ≠ Str.ofString "way" → y ≠ Str.ofString "step" → y ≠ Str.ofString "k" → m y = m₀ y) : m = turnsFrm m₀ v m := by
  funext y
  unfold turnsFrm
  by_cases h1 : y = Str.ofString "way"
  · rw [if_pos h1, h1, h]
  · rw [if_neg h1]
    by_cases h2 : y = Str.ofString "step"
    · rw [if_pos h2]
    · rw [if_neg h2]
      by_cases h3 : y = Str.ofString "k"
      · rw [if_pos h3]
      · rw [if_neg h3]; exact ho y h1 h2 h3
def TurnsJ (hs : List UInt64) (m₀ : Str → Option Value) (news₀ : List (Addr × Obj)) (i : Nat) (m' : Str → Option Value) (nw : List (Addr × Obj)) : Prop := nw = news₀ ∧ ∃ t U, m' = turnsFrm m₀ (.float (wayF hs i) t) U
theorem TurnsJ.next {hs : List UInt64} {m₀ m : Str → Option Value} {news₀ : List (Addr × Obj)} {i : Nat} {X : UInt64} {t : Tok} (ew : wayF hs (i + 1) = X) (h : m (Str.ofString "way") = some (.float X t)) (ho : ∀ y, y ≠ Str.ofString "way" → y ≠ Str.ofString "step" → y ≠ Str.ofString "k" → m y = m₀ y) : TurnsJ hs m₀ news₀ (i + 1) m news₀ :=
  ⟨rfl, t, m, by rw [ew]; exact turnsFrm_next h ho⟩
theorem len8 {α : Type} {ys : List α} (h : ys.length = 8) : ∃ a0 a1 a2 a3 a4 a5 a6 a7, ys = [a0, a1, a2, a3, a4, a5, a6, a7] := by
  match ys, h with
  | [a0, a1, a2, a3, a4, a5, a6, a7], _ => exact ⟨_, _, _, _, _, _, _, _, rfl⟩
theorem con_turns {prog w p loose mean mg mb} (news : List (Addr × Obj)) (l : Addr) (nn : Nat) (vs : List Light) (as : List Addr) (hlen : vs.length = 8) (hl : (l, ({ cls := .type "list", data := .seq (as.map Value.ref).toArray nn } : Obj)) ∈ news) (hL : Lights news vs as)
    (hfin : Float64.isFinite (wayF (vs.map hueL) 8) = true) :
  Con 4 32 prog w p loose mean mg mb 123 [.ref l] news (fun v news' => (∃ u, v = .int (Flt.toInt Float64.nearestOf (wayF (vs.map hueL) 8)) u) ∧ news' = news) := by
  unfold Con
  intros dp un gd cn cs a ccd cl outer A₀ base h₀ L m s Q E
  revert hlen hl hL hfin
  revert prog w p loose mean mg mb news l nn vs as dp un gd cn cs a ccd cl outer A₀ base h₀ L m s Q E
  refine no_implicit_lambda% (all8 (by repeat (first | exact neS | exact neA | exact neW | refine nP ?_ ?_ | exact neT _ | infer_instance)) ?_)
  generalize Prod.fst (c8 _ _) = prog, Prod.fst (Prod.snd (c8 _ _)) = w, Prod.fst (Prod.snd (Prod.snd (c8 _ _))) = p, Prod.fst (Prod.snd (Prod.snd (Prod.snd (c8 _ _)))) = loose, Prod.fst (Prod.snd (Prod.snd (Prod.snd (Prod.snd (c8 _ _))))) = mean, Prod.fst (Prod.snd (Prod.snd (Prod.snd (Prod.snd (Prod.snd (c8 _ _)))))) = mg, Prod.fst (Prod.snd (Prod.snd (Prod.snd (Prod.snd (Prod.snd (Prod.snd (c8 _ _))))))) = mb, Prod.snd (Prod.snd (Prod.snd (Prod.snd (Prod.snd (Prod.snd (Prod.snd (c8 _ _))))))) = news
  refine no_implicit_lambda% (all8 (by repeat (first | exact neS | exact neA | exact neW | refine nP ?_ ?_ | exact neT _ | infer_instance)) ?_)
  generalize Prod.fst (c8 _ _) = l, Prod.fst (Prod.snd (c8 _ _)) = nn, Prod.fst (Prod.snd (Prod.snd (c8 _ _))) = vs, Prod.fst (Prod.snd (Prod.snd (Prod.snd (c8 _ _)))) = as, Prod.fst (Prod.snd (Prod.snd (Prod.snd (Prod.snd (c8 _ _))))) = dp, Prod.fst (Prod.snd (Prod.snd (Prod.snd (Prod.snd (Prod.snd (c8 _ _)))))) = un, Prod.fst (Prod.snd (Prod.snd (Prod.snd (Prod.snd (Prod.snd (Prod.snd (c8 _ _))))))) = gd, Prod.snd (Prod.snd (Prod.snd (Prod.snd (Prod.snd (Prod.snd (Prod.snd (c8 _ _))))))) = cn
  refine no_implicit_lambda% (all8 (by repeat (first | exact neS | exact neA | exact neW | refine nP ?_ ?_ | exact neT _ | infer_instance)) ?_)
  generalize Prod.fst (c8 _ _) = cs, Prod.fst (Prod.snd (c8 _ _)) = a, Prod.fst (Prod.snd (Prod.snd (c8 _ _))) = ccd, Prod.fst (Prod.snd (Prod.snd (Prod.snd (c8 _ _)))) = cl, Prod.fst (Prod.snd (Prod.snd (Prod.snd (Prod.snd (c8 _ _))))) = outer, Prod.fst (Prod.snd (Prod.snd (Prod.snd (Prod.snd (Prod.snd (c8 _ _)))))) = A₀, Prod.fst (Prod.snd (Prod.snd (Prod.snd (Prod.snd (Prod.snd (Prod.snd (c8 _ _))))))) = base, Prod.snd (Prod.snd (Prod.snd (Prod.snd (Prod.snd (Prod.snd (Prod.snd (c8 _ _))))))) = h₀
  refine no_implicit_lambda% (all4 (by repeat (first | exact neS | exact neA | exact neW | refine nP ?_ ?_ | exact neT _ | infer_instance)) ?_)
  generalize Prod.fst (cp4 _ _) = L, Prod.fst (Prod.snd (cp4 _ _)) = m, Prod.fst (Prod.snd (Prod.snd (cp4 _ _))) = s, Prod.snd (Prod.snd (Prod.snd (cp4 _ _))) = Q
  intro E
  intro hlen hl hL hfin B F X N T hk hd hu hret
  have hsz : (as.map Value.ref).toArray.size ≤ sizeLine := by rw [List.size_toArray, List.length_map, hL.len, hlen]; decide +kernel
  refine wpAny_call ?_
  k_dflt cell_enter
  repeat' (first | (unfold StopP; first | ((with_reducible show wpAny _ _ (call (Value.ref 28) _) _ _ _); k_dflt (refine Con.use (by k_asm) (by k_asm) (by k_asm) (by k_asm) (by k_asm) (con_hsv _ _ _ _ _ _ _ (by assumption)) (by walk_at "k6") (by walk_at "k7") (by walk_at "k8") ?_; walk_at "cu2"))) | (k_unfold; (try dsimp only)) | (k_end; wrow_close) | walk1 | (dsimp only; walk1) | (leave1; walk_say "STEP leave1"; try dsimp only) | fail "no step")
  unfold StopP
  refine rest_inv (fun i ys nw => nw = news ∧ Fls ((vs.take i).map hueL) ys) ⟨rfl, .nil⟩ ?_ ?_
  · intro i hi ys nw hJ v I oI C oC D m₂ h tk E' hv hC hx F9 N9 off9
    obtain ⟨hnw, hJ⟩ := hJ
    subst hnw
    have hi' : i < vs.length := by rw [List.size_toArray, List.length_map, hL.len] at hi; exact hi
    refine exI ?_ (hL.at hi')
    intro lv
    refine exI ?_
    intro la
    intro hx9
    obtain ⟨e1, e2, hTT, hR⟩ := hx9
    revert hTT
    refine exI ?_
    intro t1
    refine exI ?_
    intro t2
    refine exI ?_
    intro t3
    intro hm
    obtain rfl : v = .ref la := by simpa [e2] using hv.symm
    unfold LRg at hR
    have e3 : (vs.take (i + 1)).map hueL = (vs.take i).map hueL ++ [hueL lv] := by rw [List.take_add_one, e1]; simp
    repeat' (first | (unfold StopP; first | ((with_reducible show wpAny _ _ (call (Value.ref 28) _) _ _ _); k_dflt (refine Con.use (by k_asm) (by k_asm) (by k_asm) (by k_asm) (by k_asm) (con_hsv _ _ _ _ _ _ _ (by assumption)) (by walk_at "k6") (by walk_at "k7") (by walk_at "k8") ?_; walk_at "cu2"))) | (k_unfold; (try dsimp only)) | (k_end; wrow_close) | walk1 | (dsimp only; walk1) | (leave1; walk_say "STEP leave1"; try dsimp only) | fail "no step")
    rw [e3]
    exact hJ.snoc
  · intro ys nw hJ
    obtain ⟨hnw, hJ⟩ := hJ
    subst hnw
    rw [List.size_toArray, List.length_map, hL.len, List.take_length] at hJ
    have hl8 : ys.length = 8 := by rw [hJ.len, List.length_map, hlen]
    refine exI ?_ (len8 hl8)
    intro x0
    refine exI ?_
    intro x1
    refine exI ?_
    intro x2
    refine exI ?_
    intro x3
    refine exI ?_
    intro x4
    refine exI ?_
    intro x5
    refine exI ?_
    intro x6
    refine exI ?_
    intro x7
    intro e8
    subst e8
    repeat' (first | (unfold StopP; first | ((with_reducible show wpAny _ _ (call (Value.ref 28) _) _ _ _); k_dflt (refine Con.use (by k_asm) (by k_asm) (by k_asm) (by k_asm) (by k_asm) (con_hsv _ _ _ _ _ _ _ (by assumption)) (by walk_at "k6") (by walk_at "k7") (by walk_at "k8") ?_; walk_at "cu2"))) | (k_unfold; (try dsimp only)) | (k_end; wrow_close) | walk1 | (dsimp only; walk1) | (leave1; walk_say "STEP leave1"; try dsimp only) | fail "no step")
    unfold StopP
    have h8 : (vs.map hueL).length = 8 := by rw [List.length_map, hlen]
    refine range_inv (TurnsJ (vs.map hueL) _ _) ⟨rfl, _, _, turnsFrm_start rfl⟩ ?_ ?_
    · intro i hi m' nw hT t h tk F9 N9
      obtain ⟨hn, hT⟩ := hT
      revert hT
      refine exI ?_
      intro t0
      refine exI ?_
      intro U
      intro hm
      subst hn hm
      dsimp only [turnsFrm] at F9
      refine exI ?_ (hJ.at (i := i) (by omega))
      intro ta
      intro ha
      have hA : [x0, x1, x2, x3, x4, x5, x6, x7][(0 + (i : Int)).toNat]? = some (.float ((vs.map hueL).getD i 0) ta) := by
        rw [show (0 + (i : Int)).toNat = i by omega]; exact ha
      by_cases h0 : i = 0
      · refine exI ?_ (hJ.at (i := 7) (by omega))
        intro tb
        intro hb
        have hB : [x0, x1, x2, x3, x4, x5, x6, x7][(0 + (i : Int) - 1 + (([x0, x1, x2, x3, x4, x5, x6, x7].length : Nat) : Int)).toNat]? = some (.float ((vs.map hueL).getD 7 0) tb) := by
          rw [show (0 + (i : Int) - 1 + (([x0, x1, x2, x3, x4, x5, x6, x7].length : Nat) : Int)).toNat = 7 by simp only [List.length_cons, List.length_nil]; omega]; exact hb
        have ew : wayF (vs.map hueL) (i + 1) = Float64.add (wayF (vs.map hueL) i) (stepF (modF (Float64.sub ((vs.map hueL).getD i 0) ((vs.map hueL).getD 7 0)))) := by rw [wayF, if_pos h0]
        repeat' (first | (unfold StopP; first | ((with_reducible show wpAny _ _ (call (Value.ref 28) _) _ _ _); k_dflt (refine Con.use (by k_asm) (by k_asm) (by k_asm) (by k_asm) (by k_asm) (con_hsv _ _ _ _ _ _ _ (by assumption)) (by walk_at "k6") (by walk_at "k7") (by walk_at "k8") ?_; walk_at "cu2"))) | (k_unfold; (try dsimp only)) | (k_end; wrow_close) | walk1 | (dsimp only; walk1) | (leave1; walk_say "STEP leave1"; try dsimp only) | fail "no step")
        exact TurnsJ.next ew rfl (fun y h1 h2 h3 => by simp only [h1, h2, h3, if_false])
      · refine exI ?_ (hJ.at (i := i - 1) (by omega))
        intro tb
        intro hb
        have hB : [x0, x1, x2, x3, x4, x5, x6, x7][(0 + (i : Int) - 1).toNat]? = some (.float ((vs.map hueL).getD (i - 1) 0) tb) := by
          rw [show (0 + (i : Int) - 1).toNat = i - 1 by omega]; exact hb
        have ew : wayF (vs.map hueL) (i + 1) = Float64.add (wayF (vs.map hueL) i) (stepF (modF (Float64.sub ((vs.map hueL).getD i 0) ((vs.map hueL).getD (i - 1) 0)))) := by rw [wayF, if_neg h0]
        repeat' (first | (unfold StopP; first | ((with_reducible show wpAny _ _ (call (Value.ref 28) _) _ _ _); k_dflt (refine Con.use (by k_asm) (by k_asm) (by k_asm) (by k_asm) (by k_asm) (con_hsv _ _ _ _ _ _ _ (by assumption)) (by walk_at "k6") (by walk_at "k7") (by walk_at "k8") ?_; walk_at "cu2"))) | (k_unfold; (try dsimp only)) | (k_end; wrow_close) | walk1 | (dsimp only; walk1) | (leave1; walk_say "STEP leave1"; try dsimp only) | fail "no step")
        exact TurnsJ.next ew rfl (fun y h1 h2 h3 => by simp only [h1, h2, h3, if_false])
    · intro m' nw hT h tk F9 N9
      obtain ⟨hn, hT⟩ := hT
      revert hT
      refine exI ?_
      intro t0
      refine exI ?_
      intro U
      intro hm
      subst hn hm
      dsimp only [turnsFrm] at F9
      repeat' (first | (unfold StopP; first | ((with_reducible show wpAny _ _ (call (Value.ref 28) _) _ _ _); k_dflt (refine Con.use (by k_asm) (by k_asm) (by k_asm) (by k_asm) (by k_asm) (con_hsv _ _ _ _ _ _ _ (by assumption)) (by walk_at "k6") (by walk_at "k7") (by walk_at "k8") ?_; walk_at "cu2"))) | (k_unfold; (try dsimp only)) | (k_end; wrow_close) | walk1 | (dsimp only; walk1) | (leave1; walk_say "STEP leave1"; try dsimp only) | fail "no step")
      exact hret _ _ _ _ (by assumption) (cb_drop (by assumption) (fun p hp => List.mem_cons_of_mem _ hp)) ⟨⟨_, rfl⟩, rfl⟩
end Mine
end
section
open PySem PySem.W PyProof.Rows
open PySem.Spec PySem.Calls
set_option maxRecDepth 100000
set_option maxHeartbeats 8000000
namespace Mine
theorem rs_C_told : True := by
  w_top off
  exact True.intro
local macro_rules | `(tactic| walk_at "RangeRest") => `(tactic| refine stopper ?_)
local macro_rules | `(tactic| walk_at "subscriptTail") => `(tactic| (k_here; k_dflt (refine it_pos (by k_asm) (by k_mem) (by omega) (by omega) (by with_reducible assumption) ?_)))
local macro_rules | `(tactic| walk_at "UnrEnd") => `(tactic| refine stopper ?_)
/-- one turn of _law_told -/
def toldStep (i : Nat) (d : Int) (st : List Int × Int) : List Int × Int :=
  let pl := (d.fmod (3 + (0 + (i : Int)))).toNat
  let kd := (d.fdiv (3 + (0 + (i : Int)))).fmod 4
  let sg := st.1.drop pl ++ st.1.take pl
  (sg.drop 2 ++ [sg.getD 0 0 * (1 - 2 * kd.fdiv 2), sg.getD 0 0 * (1 - 2 * kd.fmod 2), sg.getD 1 0], if kd = 3 then st.2 - sg.getD 0 0 else st.2)
def toldS (ds : List Int) : Nat → List Int × Int
  | 0 => ([1, 1, 1], 1)
  | i + 1 => toldStep i (ds.getD i 0) (toldS ds i)
theorem drop_take_len {α : Type} (l : List α) (p : Nat) : (l.drop p ++ l.take p).length = l.length := by
  rw [List.length_append, Nat.add_comm, ← List.length_append, List.take_append_drop]
theorem toldStep_len {i : Nat} {d : Int} {st : List Int × Int} (h : st.1.length = 3 + i) : (toldStep i d st).1.length = 3 + (i + 1) := by
  unfold toldStep
  rw [List.length_append, List.length_drop, drop_take_len, h]
  show 3 + i - 2 + 3 = 3 + (i + 1)
  omega
theorem toldS_len (ds : List Int) : ∀ i, (toldS ds i).1.length = 3 + i
  | 0 => rfl
  | i + 1 => toldStep_len (toldS_len ds i)
def toldFrm (m₀ : Str → Option Value) (vt vs : Value) (U : Str → Option Value) : Str → Option Value := fun y => if y = Str.ofString "turns" then some vt else if y = Str.ofString "signs" then some vs else if y = Str.ofString "k" then U y else if y = Str.ofString "place" then U y else if y = Str.ofString "kind" then U y else m₀ y
theorem toldFrm_next {m m₀ : Str → Option Value} {vt vs : Value} (h1 : m (Str.ofString "turns") = some vt) (h2 : m (Str.ofString "signs") = some vs) (ho : ∀ y, y ≠ Str.ofString "turns" → y ≠ Str.ofString "signs" → y ≠ Str.ofString "k" → y ≠ Str.ofString "place" → y ≠ Str.ofString "kind" → m y = m₀ y) : m = toldFrm m₀ vt vs m := by
  funext y
  unfold toldFrm
  by_cases e1 : y = Str.ofString "turns"
  · rw [if_pos e1, e1, h1]
  · rw [if_neg e1]
    by_cases e2 : y = Str.ofString "signs"
    · rw [if_pos e2, e2, h2]
    · rw [if_neg e2]
      by_cases e3 : y = Str.ofString "k"
      · rw [if_pos e3]
      · rw [if_neg e3]
        by_cases e4 : y = Str.ofString "place"
        · rw [if_pos e4]
        · rw [if_neg e4]
          by_cases e5 : y = Str.ofString "kind"
          · rw [if_pos e5]
          · rw [if_neg e5]; exact ho y e1 e2 e3 e4 e5
def ToldJ (ds : List Int) (m₀ : Str → Option Value) (news₀ : List (Addr × Obj)) (i : Nat) (m' : Str → Option Value) (nw : List (Addr × Obj)) : Prop :=
  ∃ S sv n tt U, AllLt S news₀ ∧ nw = (S, ({ cls := .type "list", data := .seq sv.toArray n } : Obj)) :: news₀ ∧ IntsAre sv (toldS ds i).1 ∧ m' = toldFrm m₀ (.int (toldS ds i).2 tt) (.ref S) U
theorem told_end {ds : List Int} {m₀ m : Str → Option Value} {news rest : List (Addr × Obj)} {i : Nat} {h₀ h' : Heap} {L I S : Addr} {it : Obj} {s₁ : Shared} {tk : Nat} {sv : List Value} {n : Nat} {sg2 : List Int} {T2 : Int} {tt : Tok}
    (F : Fr h₀ L h' m) (N : News h₀ L h' ((S, W.listOf sv.toArray n) :: rest)) (hI : IntsAre sv sg2) (sub : ∀ p ∈ (I, it) :: news, p ∈ rest) (hlt : AllLt S news) (off : @Ne Nat S I) (offn : ∀ p ∈ news, p.1 ≠ I)
    (h1 : m (Str.ofString "turns") = some (.int T2 tt)) (h2 : m (Str.ofString "signs") = some (.ref S)) (ho : ∀ y, y ≠ Str.ofString "turns" → y ≠ Str.ofString "signs" → y ≠ Str.ofString "k" → y ≠ Str.ofString "place" → y ≠ Str.ofString "kind" → m y = m₀ y)
    (e1 : toldS ds (i + 1) = (sg2, T2)) : UnrEnd h₀ L s₁ I it (fun m'' nw' => ToldJ ds m₀ news (i + 1) m'' nw') { s₁ with heap := h', toks := tk } := by
  refine UnrEnd.intro F N ((S, W.listOf sv.toArray n) :: news) (fun p hp => ?_) (fun p hp => ?_) ⟨S, sv, n, tt, m, hlt, rfl, by rw [e1]; exact hI, by rw [e1]; exact toldFrm_next h1 h2 ho⟩
  · rcases List.mem_cons.mp hp with rfl | hp
    · exact List.mem_cons_of_mem _ (sub _ List.mem_cons_self)
    · rcases List.mem_cons.mp hp with rfl | hp
      · exact List.mem_cons_self
      · exact List.mem_cons_of_mem _ (sub _ (List.mem_cons_of_mem _ hp))
  · rcases List.mem_cons.mp hp with rfl | hp
    · exact off
    · exact offn p hp
theorem sub_cons {a : Addr × Obj} {l r : List (Addr × Obj)} (h1 : a ∈ r) (h2 : ∀ p ∈ l, p ∈ r) : ∀ p ∈ a :: l, p ∈ r := fun p hp => (List.mem_cons.mp hp).elim (fun e => e ▸ h1) (h2 p)
theorem con_told {prog w p loose mean mg mb} (news : List (Addr × Obj)) (l : Addr) (nn : Nat) (ds : List Int) (dv : List Value) (hds : Ils ds dv) (hlen : ds.length = 5) (hd0 : ∀ d ∈ ds, 0 ≤ d ∧ d < 100000) (hl : (l, ({ cls := .type "list", data := .seq dv.toArray nn } : Obj)) ∈ news) :
  Con 4 32 prog w p loose mean mg mb 140 [.ref l] news (fun v news' => ∃ a S sv n u, v = .ref a ∧ news' = (a, tupO [.ref S, .int (toldS ds 5).2 u]) :: (S, ({ cls := .type "list", data := .seq sv.toArray n } : Obj)) :: news ∧ IntsAre sv (toldS ds 5).1 ∧ AllLt S news ∧ @LT.lt Nat _ S a ∧ AllLt a news) := by
  unfold Con
  intros dp un gd cn cs a ccd cl outer A₀ base h₀ L m s Q E
  revert hds hlen hd0 hl
  revert prog w p loose mean mg mb news l nn ds dv dp un gd cn cs a ccd cl outer A₀ base h₀ L m s Q E
  refine no_implicit_lambda% (all8 (by repeat (first | exact neS | exact neA | exact neW | refine nP ?_ ?_ | exact neT _ | infer_instance)) ?_)
  generalize Prod.fst (c8 _ _) = prog, Prod.fst (Prod.snd (c8 _ _)) = w, Prod.fst (Prod.snd (Prod.snd (c8 _ _))) = p, Prod.fst (Prod.snd (Prod.snd (Prod.snd (c8 _ _)))) = loose, Prod.fst (Prod.snd (Prod.snd (Prod.snd (Prod.snd (c8 _ _))))) = mean, Prod.fst (Prod.snd (Prod.snd (Prod.snd (Prod.snd (Prod.snd (c8 _ _)))))) = mg, Prod.fst (Prod.snd (Prod.snd (Prod.snd (Prod.snd (Prod.snd (Prod.snd (c8 _ _))))))) = mb, Prod.snd (Prod.snd (Prod.snd (Prod.snd (Prod.snd (Prod.snd (Prod.snd (c8 _ _))))))) = news
  refine no_implicit_lambda% (all8 (by repeat (first | exact neS | exact neA | exact neW | refine nP ?_ ?_ | exact neT _ | infer_instance)) ?_)
  generalize Prod.fst (c8 _ _) = l, Prod.fst (Prod.snd (c8 _ _)) = nn, Prod.fst (Prod.snd (Prod.snd (c8 _ _))) = ds, Prod.fst (Prod.snd (Prod.snd (Prod.snd (c8 _ _)))) = dv, Prod.fst (Prod.snd (Prod.snd (Prod.snd (Prod.snd (c8 _ _))))) = dp, Prod.fst (Prod.snd (Prod.snd (Prod.snd (Prod.snd (Prod.snd (c8 _ _)))))) = un, Prod.fst (Prod.snd (Prod.snd (Prod.snd (Prod.snd (Prod.snd (Prod.snd (c8 _ _))))))) = gd, Prod.snd (Prod.snd (Prod.snd (Prod.snd (Prod.snd (Prod.snd (Prod.snd (c8 _ _))))))) = cn
  refine no_implicit_lambda% (all8 (by repeat (first | exact neS | exact neA | exact neW | refine nP ?_ ?_ | exact neT _ | infer_instance)) ?_)
  generalize Prod.fst (c8 _ _) = cs, Prod.fst (Prod.snd (c8 _ _)) = a, Prod.fst (Prod.snd (Prod.snd (c8 _ _))) = ccd, Prod.fst (Prod.snd (Prod.snd (Prod.snd (c8 _ _)))) = cl, Prod.fst (Prod.snd (Prod.snd (Prod.snd (Prod.snd (c8 _ _))))) = outer, Prod.fst (Prod.snd (Prod.snd (Prod.snd (Prod.snd (Prod.snd (c8 _ _)))))) = A₀, Prod.fst (Prod.snd (Prod.snd (Prod.snd (Prod.snd (Prod.snd (Prod.snd (c8 _ _))))))) = base, Prod.snd (Prod.snd (Prod.snd (Prod.snd (Prod.snd (Prod.snd (Prod.snd (c8 _ _))))))) = h₀
  refine no_implicit_lambda% (all4 (by repeat (first | exact neS | exact neA | exact neW | refine nP ?_ ?_ | exact neT _ | infer_instance)) ?_)
  generalize Prod.fst (cp4 _ _) = L, Prod.fst (Prod.snd (cp4 _ _)) = m, Prod.fst (Prod.snd (Prod.snd (cp4 _ _))) = s, Prod.snd (Prod.snd (Prod.snd (cp4 _ _))) = Q
  intro E
  intro hds hlen hd0 hl B F X N T hk hd hu hret
  refine wpAny_call ?_
  k_dflt cell_enter
  k_steps
  unfold StopP
  refine range_inv (ToldJ ds _ news) ⟨_, _, _, _, _, allLt_of (by assumption), rfl, .cons _ _ (.cons _ _ (.cons _ _ .nil)), toldFrm_next rfl rfl (fun _ _ _ _ _ _ => rfl)⟩ ?_ ?_
  · intro i hi m' nw hT t h tk F9 N9
    revert hT
    refine exI ?_
    intro S
    refine exI ?_
    intro sv
    refine exI ?_
    intro n
    refine exI ?_
    intro tt
    refine exI ?_
    intro U
    intro hx9
    obtain ⟨hlt, hn, hI, hm⟩ := hx9
    subst hn hm
    have hsl := toldS_len ds i
    have hI2 := hI
    dsimp only [toldFrm] at F9
    generalize hst : toldS ds i = st at *
    obtain ⟨sg, T'⟩ := st
    dsimp only at *
    revert sg T'
    intro sg T' hst hI F9 hsl hI2
    refine exI ?_ (hds.at (i := i) (by omega))
    intro td
    intro hd
    have hA : dv[(0 + (i : Int)).toNat]? = some (.int (ds.getD i 0) td) := by
      rw [show (0 + (i : Int)).toNat = i by omega]; exact hd
    have hpl : ¬ ((ds.getD i 0).fmod (3 + (0 + (i : Int))) < 0) := by rw [Int.not_lt]; exact Int.fmod_nonneg_of_pos _ (by omega)
    have hpl0 : 0 ≤ (ds.getD i 0).fmod (3 + (0 + (i : Int))) := Int.not_lt.mp hpl
    k_steps
    all_goals (unfold StopP; rename Fr _ _ _ _ => F8; rename News _ _ _ _ => N8)
    all_goals first
      | exact told_end F8 N8 (by with_reducible assumption) (sub_cons (by k_mem) (fun p hp => by repeat (first | exact hp | apply List.mem_cons_of_mem))) (by first | with_reducible assumption | exact And.right (by with_reducible assumption) | exact And.right (And.right (by with_reducible assumption)) | exact And.right (And.right (And.right (by with_reducible assumption))) | exact And.right (And.right (And.right (And.right (by with_reducible assumption)))) | exact And.right (And.right (And.right (And.right (And.right (by with_reducible assumption))))) | exact And.right (And.right (And.right (And.right (And.right (And.right (by with_reducible assumption)))))) | exact And.right (And.right (And.right (And.right (And.right (And.right (And.right (by with_reducible assumption)))))))) (by omega) (by k_all) rfl rfl (fun y e1 e2 e3 e4 e5 => by simp only [e1, e2, e3, e4, e5, if_false]) (by
          show toldStep i _ (toldS ds i) = _
          rw [hst]
          exact congrArg (Prod.mk _) (if_pos (by with_reducible assumption)))
      | exact told_end F8 N8 (by with_reducible assumption) (sub_cons (by k_mem) (fun p hp => by repeat (first | exact hp | apply List.mem_cons_of_mem))) (by first | with_reducible assumption | exact And.right (by with_reducible assumption) | exact And.right (And.right (by with_reducible assumption)) | exact And.right (And.right (And.right (by with_reducible assumption))) | exact And.right (And.right (And.right (And.right (by with_reducible assumption)))) | exact And.right (And.right (And.right (And.right (And.right (by with_reducible assumption))))) | exact And.right (And.right (And.right (And.right (And.right (And.right (by with_reducible assumption)))))) | exact And.right (And.right (And.right (And.right (And.right (And.right (And.right (by with_reducible assumption)))))))) (by omega) (by k_all) rfl rfl (fun y e1 e2 e3 e4 e5 => by simp only [e1, e2, e3, e4, e5, if_false]) (by
          show toldStep i _ (toldS ds i) = _
          rw [hst]
          exact congrArg (Prod.mk _) (if_neg (by with_reducible assumption)))
  · intro m' nw hT h tk F9 N9
    revert hT
    refine exI ?_
    intro S
    refine exI ?_
    intro sv
    refine exI ?_
    intro n
    refine exI ?_
    intro tt
    refine exI ?_
    intro U
    intro hx9
    obtain ⟨hlt, hn, hI, hm⟩ := hx9
    subst hn hm
    dsimp only [toldFrm] at F9
    k_steps
    exact hret _ _ _ _ (by assumption) (by assumption) ⟨_, _, _, _, _, rfl, rfl, hI, hlt, And.left (by assumption : _ ∧ AllLt _ _), And.right (by assumption : _ ∧ AllLt _ _)⟩
end Mine
end
section
open PySem PySem.W PyProof.Rows
open PySem.Spec PySem.Calls
set_option maxRecDepth 100000
set_option maxHeartbeats 8000000
namespace Mine
theorem rs_C_push : True := by
  w_top off
  exact True.intro
/-- the dict of the machine -/
def mDict (c1 c2 c3 c4 : Int) (k1 k2 k3 k4 kl kw : Tok) (ln : Int) (st : Addr) (pb : Addr) : List DictEntry :=
  [⟨c1, .str (Str.ofString "lineno") k1, .int ln kl⟩, ⟨c2, .str (Str.ofString "instream") k2, .ref st⟩, ⟨c3, .str (Str.ofString "whitespace") k3, .str (Str.ofString "\n\t\r ") kw⟩, ⟨c4, .str (Str.ofString "pushback") k4, .ref pb⟩]
theorem con_push {prog w p loose mean mg mb} (rest : List (Addr × Obj)) (x dx pb st : Addr) (c1 c2 c3 c4 : Int) (k1 k2 k3 k4 kl kw : Tok) (ln : Int) (ws : List Value) (n : Nat) (v : Value)
   (hx : (x, instObj 73 dx) ∈ rest) (hdx : (dx, dictOf [⟨c1, .str (Str.ofString "lineno") k1, .int ln kl⟩, ⟨c2, .str (Str.ofString "instream") k2, .ref st⟩, ⟨c3, .str (Str.ofString "whitespace") k3, .str (Str.ofString "\n\t\r ") kw⟩, ⟨c4, .str (Str.ofString "pushback") k4, .ref pb⟩] 4) ∈ rest) (hpb : ∀ p ∈ rest, p.1 ≠ pb) (hws : ws.length ≤ 100) :
  Con 2 16 prog w p loose mean mg mb 70 [.ref x, v] ((pb, W.listOf ws.toArray n) :: rest) (fun r news' => r = .none ∧ news' = (pb, W.listOf (ws ++ [v]).toArray (n + 1)) :: rest) := by
  unfold Con
  intros dp un gd cn cs a ccd cl outer A₀ base h₀ L m s Q E
  revert hx hdx hpb hws
  revert prog w p loose mean mg mb rest x dx pb st c1 c2 c3 c4 k1 k2 k3 k4 kl kw ln ws n v dp un gd cn cs a ccd cl outer A₀ base h₀ L m s Q E
  refine no_implicit_lambda% (all8 (by repeat (first | exact neS | exact neA | exact neW | refine nP ?_ ?_ | exact neT _ | infer_instance)) ?_)
  generalize Prod.fst (c8 _ _) = prog, Prod.fst (Prod.snd (c8 _ _)) = w, Prod.fst (Prod.snd (Prod.snd (c8 _ _))) = p, Prod.fst (Prod.snd (Prod.snd (Prod.snd (c8 _ _)))) = loose, Prod.fst (Prod.snd (Prod.snd (Prod.snd (Prod.snd (c8 _ _))))) = mean, Prod.fst (Prod.snd (Prod.snd (Prod.snd (Prod.snd (Prod.snd (c8 _ _)))))) = mg, Prod.fst (Prod.snd (Prod.snd (Prod.snd (Prod.snd (Prod.snd (Prod.snd (c8 _ _))))))) = mb, Prod.snd (Prod.snd (Prod.snd (Prod.snd (Prod.snd (Prod.snd (Prod.snd (c8 _ _))))))) = rest
  refine no_implicit_lambda% (all8 (by repeat (first | exact neS | exact neA | exact neW | refine nP ?_ ?_ | exact neT _ | infer_instance)) ?_)
  generalize Prod.fst (c8 _ _) = x, Prod.fst (Prod.snd (c8 _ _)) = dx, Prod.fst (Prod.snd (Prod.snd (c8 _ _))) = pb, Prod.fst (Prod.snd (Prod.snd (Prod.snd (c8 _ _)))) = st, Prod.fst (Prod.snd (Prod.snd (Prod.snd (Prod.snd (c8 _ _))))) = c1, Prod.fst (Prod.snd (Prod.snd (Prod.snd (Prod.snd (Prod.snd (c8 _ _)))))) = c2, Prod.fst (Prod.snd (Prod.snd (Prod.snd (Prod.snd (Prod.snd (Prod.snd (c8 _ _))))))) = c3, Prod.snd (Prod.snd (Prod.snd (Prod.snd (Prod.snd (Prod.snd (Prod.snd (c8 _ _))))))) = c4
  refine no_implicit_lambda% (all8 (by repeat (first | exact neS | exact neA | exact neW | refine nP ?_ ?_ | exact neT _ | infer_instance)) ?_)
  generalize Prod.fst (c8 _ _) = k1, Prod.fst (Prod.snd (c8 _ _)) = k2, Prod.fst (Prod.snd (Prod.snd (c8 _ _))) = k3, Prod.fst (Prod.snd (Prod.snd (Prod.snd (c8 _ _)))) = k4, Prod.fst (Prod.snd (Prod.snd (Prod.snd (Prod.snd (c8 _ _))))) = kl, Prod.fst (Prod.snd (Prod.snd (Prod.snd (Prod.snd (Prod.snd (c8 _ _)))))) = kw, Prod.fst (Prod.snd (Prod.snd (Prod.snd (Prod.snd (Prod.snd (Prod.snd (c8 _ _))))))) = ln, Prod.snd (Prod.snd (Prod.snd (Prod.snd (Prod.snd (Prod.snd (Prod.snd (c8 _ _))))))) = ws
  refine no_implicit_lambda% (all8 (by repeat (first | exact neS | exact neA | exact neW | refine nP ?_ ?_ | exact neT _ | infer_instance)) ?_)
  generalize Prod.fst (c8 _ _) = n, Prod.fst (Prod.snd (c8 _ _)) = v, Prod.fst (Prod.snd (Prod.snd (c8 _ _))) = dp, Prod.fst (Prod.snd (Prod.snd (Prod.snd (c8 _ _)))) = un, Prod.fst (Prod.snd (Prod.snd (Prod.snd (Prod.snd (c8 _ _))))) = gd, Prod.fst (Prod.snd (Prod.snd (Prod.snd (Prod.snd (Prod.snd (c8 _ _)))))) = cn, Prod.fst (Prod.snd (Prod.snd (Prod.snd (Prod.snd (Prod.snd (Prod.snd (c8 _ _))))))) = cs, Prod.snd (Prod.snd (Prod.snd (Prod.snd (Prod.snd (Prod.snd (Prod.snd (c8 _ _))))))) = a
  refine no_implicit_lambda% (all8 (by repeat (first | exact neS | exact neA | exact neW | refine nP ?_ ?_ | exact neT _ | infer_instance)) ?_)
  generalize Prod.fst (c8 _ _) = ccd, Prod.fst (Prod.snd (c8 _ _)) = cl, Prod.fst (Prod.snd (Prod.snd (c8 _ _))) = outer, Prod.fst (Prod.snd (Prod.snd (Prod.snd (c8 _ _)))) = A₀, Prod.fst (Prod.snd (Prod.snd (Prod.snd (Prod.snd (c8 _ _))))) = base, Prod.fst (Prod.snd (Prod.snd (Prod.snd (Prod.snd (Prod.snd (c8 _ _)))))) = h₀, Prod.fst (Prod.snd (Prod.snd (Prod.snd (Prod.snd (Prod.snd (Prod.snd (c8 _ _))))))) = L, Prod.snd (Prod.snd (Prod.snd (Prod.snd (Prod.snd (Prod.snd (Prod.snd (c8 _ _))))))) = m
  refine no_implicit_lambda% (all2 (by repeat (first | exact neS | exact neA | exact neW | refine nP ?_ ?_ | exact neT _ | infer_instance)) ?_)
  generalize Prod.fst (cp2 _ _) = s, Prod.snd (cp2 _ _) = Q
  intro E
  intro hx hdx hpb hws B F X N T hk hd hu hret
  refine wpAny_call ?_
  k_dflt cell_enter
  k_steps
  exact hret _ _ _ _ (by assumption) (by assumption) ⟨rfl, by rw [← List.push_toArray]⟩
theorem pop0 {prog : Program} {w : World} {A : Around} {E : Value → Shared → Prop} {s : Shared} {h₀ : Heap} {L pb : Addr} {m : Str → Option Value} {rest : List (Addr × Obj)} {y : Value} {ws : List Value} {n : Nat} {u : Tok} {Q : Value → Shared → Prop} (F : Fr h₀ L s.heap m) (N : News h₀ L s.heap ((pb, W.listOf (y :: ws).toArray n) :: rest)) (off : ∀ p ∈ rest, p.1 ≠ pb) (hz : ws.length ≤ 100)
    (h : ∀ h', Fr h₀ L h' m → News h₀ L h' ((pb, W.listOf ws.toArray (n + 1)) :: rest) → Q y { s with heap := h' }) : wpAny (model prog w) A (call (.builtin "list.pop") [.ref pb, .int 0 u]) Q E s :=
  kl_popAt (k := 0) (p := []) (q := ws) F N rfl (by simp [seqIndex?]) rfl (Upd.head off) (by rw [PySem.sizeLine_eq]; simp; omega) h
local macro_rules | `(tactic| walk_at "call builtin:list.pop") => `(tactic| (k_here; k_dflt (refine' pop0 ?F ?N ?o ?z ?_; (case F => k_asm); (case N => k_asm); (case o => assumption); (case z => assumption)); intro h9 F9 N9))
theorem con_pop {prog w p loose mean mg mb} (rest : List (Addr × Obj)) (x dx pb st : Addr) (c1 c2 c3 c4 : Int) (k1 k2 k3 k4 kl kw : Tok) (ln : Int) (ws : List Value) (n : Nat) (v : Str) (tv : Tok)
   (hx : (x, instObj 73 dx) ∈ rest) (hdx : (dx, dictOf [⟨c1, .str (Str.ofString "lineno") k1, .int ln kl⟩, ⟨c2, .str (Str.ofString "instream") k2, .ref st⟩, ⟨c3, .str (Str.ofString "whitespace") k3, .str (Str.ofString "\n\t\r ") kw⟩, ⟨c4, .str (Str.ofString "pushback") k4, .ref pb⟩] 4) ∈ rest) (hpb : ∀ p ∈ rest, p.1 ≠ pb) (hws : ws.length ≤ 100) :
  Con 2 16 prog w p loose mean mg mb 63 [.ref x] ((pb, W.listOf (Value.str v tv :: ws).toArray n) :: rest) (fun r news' => r = .str v tv ∧ news' = (pb, W.listOf ws.toArray (n + 1)) :: rest) := by
  unfold Con
  intros dp un gd cn cs a ccd cl outer A₀ base h₀ L m s Q E
  revert hx hdx hpb hws
  revert prog w p loose mean mg mb rest x dx pb st c1 c2 c3 c4 k1 k2 k3 k4 kl kw ln ws n v tv dp un gd cn cs a ccd cl outer A₀ base h₀ L m s Q E
  refine no_implicit_lambda% (all8 (by repeat (first | exact neS | exact neA | exact neW | refine nP ?_ ?_ | exact neT _ | infer_instance)) ?_)
  generalize Prod.fst (c8 _ _) = prog, Prod.fst (Prod.snd (c8 _ _)) = w, Prod.fst (Prod.snd (Prod.snd (c8 _ _))) = p, Prod.fst (Prod.snd (Prod.snd (Prod.snd (c8 _ _)))) = loose, Prod.fst (Prod.snd (Prod.snd (Prod.snd (Prod.snd (c8 _ _))))) = mean, Prod.fst (Prod.snd (Prod.snd (Prod.snd (Prod.snd (Prod.snd (c8 _ _)))))) = mg, Prod.fst (Prod.snd (Prod.snd (Prod.snd (Prod.snd (Prod.snd (Prod.snd (c8 _ _))))))) = mb, Prod.snd (Prod.snd (Prod.snd (Prod.snd (Prod.snd (Prod.snd (Prod.snd (c8 _ _))))))) = rest
  refine no_implicit_lambda% (all8 (by repeat (first | exact neS | exact neA | exact neW | refine nP ?_ ?_ | exact neT _ | infer_instance)) ?_)
  generalize Prod.fst (c8 _ _) = x, Prod.fst (Prod.snd (c8 _ _)) = dx, Prod.fst (Prod.snd (Prod.snd (c8 _ _))) = pb, Prod.fst (Prod.snd (Prod.snd (Prod.snd (c8 _ _)))) = st, Prod.fst (Prod.snd (Prod.snd (Prod.snd (Prod.snd (c8 _ _))))) = c1, Prod.fst (Prod.snd (Prod.snd (Prod.snd (Prod.snd (Prod.snd (c8 _ _)))))) = c2, Prod.fst (Prod.snd (Prod.snd (Prod.snd (Prod.snd (Prod.snd (Prod.snd (c8 _ _))))))) = c3, Prod.snd (Prod.snd (Prod.snd (Prod.snd (Prod.snd (Prod.snd (Prod.snd (c8 _ _))))))) = c4
  refine no_implicit_lambda% (all8 (by repeat (first | exact neS | exact neA | exact neW | refine nP ?_ ?_ | exact neT _ | infer_instance)) ?_)
  generalize Prod.fst (c8 _ _) = k1, Prod.fst (Prod.snd (c8 _ _)) = k2, Prod.fst (Prod.snd (Prod.snd (c8 _ _))) = k3, Prod.fst (Prod.snd (Prod.snd (Prod.snd (c8 _ _)))) = k4, Prod.fst (Prod.snd (Prod.snd (Prod.snd (Prod.snd (c8 _ _))))) = kl, Prod.fst (Prod.snd (Prod.snd (Prod.snd (Prod.snd (Prod.snd (c8 _ _)))))) = kw, Prod.fst (Prod.snd (Prod.snd (Prod.snd (Prod.snd (Prod.snd (Prod.snd (c8 _ _))))))) = ln, Prod.snd (Prod.snd (Prod.snd (Prod.snd (Prod.snd (Prod.snd (Prod.snd (c8 _ _))))))) = ws
  refine no_implicit_lambda% (all8 (by repeat (first | exact neS | exact neA | exact neW | refine nP ?_ ?_ | exact neT _ | infer_instance)) ?_)
  generalize Prod.fst (c8 _ _) = n, Prod.fst (Prod.snd (c8 _ _)) = v, Prod.fst (Prod.snd (Prod.snd (c8 _ _))) = tv, Prod.fst (Prod.snd (Prod.snd (Prod.snd (c8 _ _)))) = dp, Prod.fst (Prod.snd (Prod.snd (Prod.snd (Prod.snd (c8 _ _))))) = un, Prod.fst (Prod.snd (Prod.snd (Prod.snd (Prod.snd (Prod.snd (c8 _ _)))))) = gd, Prod.fst (Prod.snd (Prod.snd (Prod.snd (Prod.snd (Prod.snd (Prod.snd (c8 _ _))))))) = cn, Prod.snd (Prod.snd (Prod.snd (Prod.snd (Prod.snd (Prod.snd (Prod.snd (c8 _ _))))))) = cs
  refine no_implicit_lambda% (all8 (by repeat (first | exact neS | exact neA | exact neW | refine nP ?_ ?_ | exact neT _ | infer_instance)) ?_)
  generalize Prod.fst (c8 _ _) = a, Prod.fst (Prod.snd (c8 _ _)) = ccd, Prod.fst (Prod.snd (Prod.snd (c8 _ _))) = cl, Prod.fst (Prod.snd (Prod.snd (Prod.snd (c8 _ _)))) = outer, Prod.fst (Prod.snd (Prod.snd (Prod.snd (Prod.snd (c8 _ _))))) = A₀, Prod.fst (Prod.snd (Prod.snd (Prod.snd (Prod.snd (Prod.snd (c8 _ _)))))) = base, Prod.fst (Prod.snd (Prod.snd (Prod.snd (Prod.snd (Prod.snd (Prod.snd (c8 _ _))))))) = h₀, Prod.snd (Prod.snd (Prod.snd (Prod.snd (Prod.snd (Prod.snd (Prod.snd (c8 _ _))))))) = L
  refine no_implicit_lambda% (all4 (by repeat (first | exact neS | exact neA | exact neW | refine nP ?_ ?_ | exact neT _ | infer_instance)) ?_)
  generalize Prod.fst (cp4 _ _) = m, Prod.fst (Prod.snd (cp4 _ _)) = s, Prod.fst (Prod.snd (Prod.snd (cp4 _ _))) = Q, Prod.snd (Prod.snd (Prod.snd (cp4 _ _))) = E
  intro hx hdx hpb hws B F X N T hk hd hu hret
  refine wpAny_call ?_
  k_dflt cell_enter
  k_steps
  exact hret _ _ _ _ (by assumption) (by assumption) ⟨rfl, rfl⟩
theorem Upd.mem {d : Addr} {o o' : Obj} {l l' : List (Addr × Obj)} (U : Upd d o o' l l') : (d, o) ∈ l := by
  obtain ⟨pre, post, rfl, _, _, _⟩ := U.split
  exact List.mem_append.mpr (.inr (.head _))
local macro_rules | `(tactic| k_upd) => `(tactic| assumption)
theorem con_pushU {prog w p loose mean mg mb} (news news' : List (Addr × Obj)) (x dx pb st : Addr) (c1 c2 c3 c4 : Int) (k1 k2 k3 k4 kl kw : Tok) (ln : Int) (ws : List Value) (n : Nat) (v : Value)
   (hx : (x, instObj 73 dx) ∈ news) (hdx : (dx, dictOf [⟨c1, .str (Str.ofString "lineno") k1, .int ln kl⟩, ⟨c2, .str (Str.ofString "instream") k2, .ref st⟩, ⟨c3, .str (Str.ofString "whitespace") k3, .str (Str.ofString "\n\t\r ") kw⟩, ⟨c4, .str (Str.ofString "pushback") k4, .ref pb⟩] 4) ∈ news) (U : Upd pb (W.listOf ws.toArray n) (W.listOf (ws.toArray.push v) (n + 1)) news news') (hws : ws.length ≤ 100) :
  Con 2 16 prog w p loose mean mg mb 70 [.ref x, v] news (fun r news'' => r = .none ∧ news'' = news') := by
  unfold Con
  intros dp un gd cn cs a ccd cl outer A₀ base h₀ L m s Q E
  revert hx hdx U hws
  revert prog w p loose mean mg mb news news' x dx pb st c1 c2 c3 c4 k1 k2 k3 k4 kl kw ln ws n v dp un gd cn cs a ccd cl outer A₀ base h₀ L m s Q E
  refine no_implicit_lambda% (all8 (by repeat (first | exact neS | exact neA | exact neW | refine nP ?_ ?_ | exact neT _ | infer_instance)) ?_)
  generalize Prod.fst (c8 _ _) = prog, Prod.fst (Prod.snd (c8 _ _)) = w, Prod.fst (Prod.snd (Prod.snd (c8 _ _))) = p, Prod.fst (Prod.snd (Prod.snd (Prod.snd (c8 _ _)))) = loose, Prod.fst (Prod.snd (Prod.snd (Prod.snd (Prod.snd (c8 _ _))))) = mean, Prod.fst (Prod.snd (Prod.snd (Prod.snd (Prod.snd (Prod.snd (c8 _ _)))))) = mg, Prod.fst (Prod.snd (Prod.snd (Prod.snd (Prod.snd (Prod.snd (Prod.snd (c8 _ _))))))) = mb, Prod.snd (Prod.snd (Prod.snd (Prod.snd (Prod.snd (Prod.snd (Prod.snd (c8 _ _))))))) = news
  refine no_implicit_lambda% (all8 (by repeat (first | exact neS | exact neA | exact neW | refine nP ?_ ?_ | exact neT _ | infer_instance)) ?_)
  generalize Prod.fst (c8 _ _) = news', Prod.fst (Prod.snd (c8 _ _)) = x, Prod.fst (Prod.snd (Prod.snd (c8 _ _))) = dx, Prod.fst (Prod.snd (Prod.snd (Prod.snd (c8 _ _)))) = pb, Prod.fst (Prod.snd (Prod.snd (Prod.snd (Prod.snd (c8 _ _))))) = st, Prod.fst (Prod.snd (Prod.snd (Prod.snd (Prod.snd (Prod.snd (c8 _ _)))))) = c1, Prod.fst (Prod.snd (Prod.snd (Prod.snd (Prod.snd (Prod.snd (Prod.snd (c8 _ _))))))) = c2, Prod.snd (Prod.snd (Prod.snd (Prod.snd (Prod.snd (Prod.snd (Prod.snd (c8 _ _))))))) = c3
  refine no_implicit_lambda% (all8 (by repeat (first | exact neS | exact neA | exact neW | refine nP ?_ ?_ | exact neT _ | infer_instance)) ?_)
  generalize Prod.fst (c8 _ _) = c4, Prod.fst (Prod.snd (c8 _ _)) = k1, Prod.fst (Prod.snd (Prod.snd (c8 _ _))) = k2, Prod.fst (Prod.snd (Prod.snd (Prod.snd (c8 _ _)))) = k3, Prod.fst (Prod.snd (Prod.snd (Prod.snd (Prod.snd (c8 _ _))))) = k4, Prod.fst (Prod.snd (Prod.snd (Prod.snd (Prod.snd (Prod.snd (c8 _ _)))))) = kl, Prod.fst (Prod.snd (Prod.snd (Prod.snd (Prod.snd (Prod.snd (Prod.snd (c8 _ _))))))) = kw, Prod.snd (Prod.snd (Prod.snd (Prod.snd (Prod.snd (Prod.snd (Prod.snd (c8 _ _))))))) = ln
  refine no_implicit_lambda% (all8 (by repeat (first | exact neS | exact neA | exact neW | refine nP ?_ ?_ | exact neT _ | infer_instance)) ?_)
  generalize Prod.fst (c8 _ _) = ws, Prod.fst (Prod.snd (c8 _ _)) = n, Prod.fst (Prod.snd (Prod.snd (c8 _ _))) = v, Prod.fst (Prod.snd (Prod.snd (Prod.snd (c8 _ _)))) = dp, Prod.fst (Prod.snd (Prod.snd (Prod.snd (Prod.snd (c8 _ _))))) = un, Prod.fst (Prod.snd (Prod.snd (Prod.snd (Prod.snd (Prod.snd (c8 _ _)))))) = gd, Prod.fst (Prod.snd (Prod.snd (Prod.snd (Prod.snd (Prod.snd (Prod.snd (c8 _ _))))))) = cn, Prod.snd (Prod.snd (Prod.snd (Prod.snd (Prod.snd (Prod.snd (Prod.snd (c8 _ _))))))) = cs
  refine no_implicit_lambda% (all8 (by repeat (first | exact neS | exact neA | exact neW | refine nP ?_ ?_ | exact neT _ | infer_instance)) ?_)
  generalize Prod.fst (c8 _ _) = a, Prod.fst (Prod.snd (c8 _ _)) = ccd, Prod.fst (Prod.snd (Prod.snd (c8 _ _))) = cl, Prod.fst (Prod.snd (Prod.snd (Prod.snd (c8 _ _)))) = outer, Prod.fst (Prod.snd (Prod.snd (Prod.snd (Prod.snd (c8 _ _))))) = A₀, Prod.fst (Prod.snd (Prod.snd (Prod.snd (Prod.snd (Prod.snd (c8 _ _)))))) = base, Prod.fst (Prod.snd (Prod.snd (Prod.snd (Prod.snd (Prod.snd (Prod.snd (c8 _ _))))))) = h₀, Prod.snd (Prod.snd (Prod.snd (Prod.snd (Prod.snd (Prod.snd (Prod.snd (c8 _ _))))))) = L
  refine no_implicit_lambda% (all4 (by repeat (first | exact neS | exact neA | exact neW | refine nP ?_ ?_ | exact neT _ | infer_instance)) ?_)
  generalize Prod.fst (cp4 _ _) = m, Prod.fst (Prod.snd (cp4 _ _)) = s, Prod.fst (Prod.snd (Prod.snd (cp4 _ _))) = Q, Prod.snd (Prod.snd (Prod.snd (cp4 _ _))) = E
  intro hx hdx U hws B F X N T hk hd hu hret
  have hmem := Upd.mem U
  refine wpAny_call ?_
  k_dflt cell_enter
  k_steps
  exact hret _ _ _ _ (by assumption) (by assumption) ⟨rfl, rfl⟩
theorem popU {prog : Program} {w : World} {A : Around} {E : Value → Shared → Prop} {s : Shared} {h₀ : Heap} {L pb : Addr} {m : Str → Option Value} {news news' : List (Addr × Obj)} {y : Value} {ws : List Value} {n : Nat} {u : Tok} {Q : Value → Shared → Prop} (F : Fr h₀ L s.heap m) (N : News h₀ L s.heap news) (U : Upd pb (W.listOf (y :: ws).toArray n) (W.listOf ws.toArray (n + 1)) news news') (hz : ws.length ≤ 100)
    (h : ∀ h', Fr h₀ L h' m → News h₀ L h' news' → Q y { s with heap := h' }) : wpAny (model prog w) A (call (.builtin "list.pop") [.ref pb, .int 0 u]) Q E s :=
  kl_popAt (k := 0) (p := []) (q := ws) F N rfl (by simp [seqIndex?]) rfl U (by rw [PySem.sizeLine_eq]; simp; omega) h
local macro_rules | `(tactic| walk_at "call builtin:list.pop") => `(tactic| (k_here; k_dflt (refine' popU ?F ?N ?U ?z ?_; (case F => k_asm); (case N => k_asm); (case U => assumption); (case z => assumption)); intro h9 F9 N9))
theorem truthyU {A : Around} {E : Value → Shared → Prop} {s : Shared} {h₀ : Heap} {L pb : Addr} {news : List (Addr × Obj)} {y : Value} {ws : List Value} {n : Nat} {Q : Bool → Shared → Prop} {prog : Program} {w : World} (N : News h₀ L s.heap news) (hm : (pb, W.listOf (y :: ws).toArray n) ∈ news) (hz : ws.length ≤ 100)
    (h : ∀ tk, Q true { s with toks := tk }) : wpAny (model prog w) A (truthy (.ref pb)) Q E s := by
  refine wpAny_truthy_list (⟨_, (N _ hm).1, rfl, _, rfl⟩ : s.heap.IsList pb (y :: ws).toArray) (by simp; omega) ?_
  simpa using h _
local macro_rules | `(tactic| walk_at "truthy ref") => `(tactic| (k_here; k_dflt (refine truthyU (by k_asm) (by assumption) (by assumption) ?_); intro tk9))
theorem con_popU {prog w p loose mean mg mb} (news news' : List (Addr × Obj)) (x dx pb st : Addr) (c1 c2 c3 c4 : Int) (k1 k2 k3 k4 kl kw : Tok) (ln : Int) (ws : List Value) (n : Nat) (v : Str) (tv : Tok)
   (hx : (x, instObj 73 dx) ∈ news) (hdx : (dx, dictOf [⟨c1, .str (Str.ofString "lineno") k1, .int ln kl⟩, ⟨c2, .str (Str.ofString "instream") k2, .ref st⟩, ⟨c3, .str (Str.ofString "whitespace") k3, .str (Str.ofString "\n\t\r ") kw⟩, ⟨c4, .str (Str.ofString "pushback") k4, .ref pb⟩] 4) ∈ news) (U : Upd pb (W.listOf (Value.str v tv :: ws).toArray n) (W.listOf ws.toArray (n + 1)) news news') (hws : ws.length ≤ 100) :
  Con 2 16 prog w p loose mean mg mb 63 [.ref x] news (fun r news'' => r = .str v tv ∧ news'' = news') := by
  unfold Con
  intros dp un gd cn cs a ccd cl outer A₀ base h₀ L m s Q E
  revert hx hdx U hws
  revert prog w p loose mean mg mb news news' x dx pb st c1 c2 c3 c4 k1 k2 k3 k4 kl kw ln ws n v tv dp un gd cn cs a ccd cl outer A₀ base h₀ L m s Q E
  refine no_implicit_lambda% (all8 (by repeat (first | exact neS | exact neA | exact neW | refine nP ?_ ?_ | exact neT _ | infer_instance)) ?_)
  generalize Prod.fst (c8 _ _) = prog, Prod.fst (Prod.snd (c8 _ _)) = w, Prod.fst (Prod.snd (Prod.snd (c8 _ _))) = p, Prod.fst (Prod.snd (Prod.snd (Prod.snd (c8 _ _)))) = loose, Prod.fst (Prod.snd (Prod.snd (Prod.snd (Prod.snd (c8 _ _))))) = mean, Prod.fst (Prod.snd (Prod.snd (Prod.snd (Prod.snd (Prod.snd (c8 _ _)))))) = mg, Prod.fst (Prod.snd (Prod.snd (Prod.snd (Prod.snd (Prod.snd (Prod.snd (c8 _ _))))))) = mb, Prod.snd (Prod.snd (Prod.snd (Prod.snd (Prod.snd (Prod.snd (Prod.snd (c8 _ _))))))) = news
  refine no_implicit_lambda% (all8 (by repeat (first | exact neS | exact neA | exact neW | refine nP ?_ ?_ | exact neT _ | infer_instance)) ?_)
  generalize Prod.fst (c8 _ _) = news', Prod.fst (Prod.snd (c8 _ _)) = x, Prod.fst (Prod.snd (Prod.snd (c8 _ _))) = dx, Prod.fst (Prod.snd (Prod.snd (Prod.snd (c8 _ _)))) = pb, Prod.fst (Prod.snd (Prod.snd (Prod.snd (Prod.snd (c8 _ _))))) = st, Prod.fst (Prod.snd (Prod.snd (Prod.snd (Prod.snd (Prod.snd (c8 _ _)))))) = c1, Prod.fst (Prod.snd (Prod.snd (Prod.snd (Prod.snd (Prod.snd (Prod.snd (c8 _ _))))))) = c2, Prod.snd (Prod.snd (Prod.snd (Prod.snd (Prod.snd (Prod.snd (Prod.snd (c8 _ _))))))) = c3
  refine no_implicit_lambda% (all8 (by repeat (first | exact neS | exact neA | exact neW | refine nP ?_ ?_ | exact neT _ | infer_instance)) ?_)
  generalize Prod.fst (c8 _ _) = c4, Prod.fst (Prod.snd (c8 _ _)) = k1, Prod.fst (Prod.snd (Prod.snd (c8 _ _))) = k2, Prod.fst (Prod.snd (Prod.snd (Prod.snd (c8 _ _)))) = k3, Prod.fst (Prod.snd (Prod.snd (Prod.snd (Prod.snd (c8 _ _))))) = k4, Prod.fst (Prod.snd (Prod.snd (Prod.snd (Prod.snd (Prod.snd (c8 _ _)))))) = kl, Prod.fst (Prod.snd (Prod.snd (Prod.snd (Prod.snd (Prod.snd (Prod.snd (c8 _ _))))))) = kw, Prod.snd (Prod.snd (Prod.snd (Prod.snd (Prod.snd (Prod.snd (Prod.snd (c8 _ _))))))) = ln
  refine no_implicit_lambda% (all8 (by repeat (first | exact neS | exact neA | exact neW | refine nP ?_ ?_ | exact neT _ | infer_instance)) ?_)
  generalize Prod.fst (c8 _ _) = ws, Prod.fst (Prod.snd (c8 _ _)) = n, Prod.fst (Prod.snd (Prod.snd (c8 _ _))) = v, Prod.fst (Prod.snd (Prod.snd (Prod.snd (c8 _ _)))) = tv, Prod.fst (Prod.snd (Prod.snd (Prod.snd (Prod.snd (c8 _ _))))) = dp, Prod.fst (Prod.snd (Prod.snd (Prod.snd (Prod.snd (Prod.snd (c8 _ _)))))) = un, Prod.fst (Prod.snd (Prod.snd (Prod.snd (Prod.snd (Prod.snd (Prod.snd (c8 _ _))))))) = gd, Prod.snd (Prod.snd (Prod.snd (Prod.snd (Prod.snd (Prod.snd (Prod.snd (c8 _ _))))))) = cn
  refine no_implicit_lambda% (all8 (by repeat (first | exact neS | exact neA | exact neW | refine nP ?_ ?_ | exact neT _ | infer_instance)) ?_)
  generalize Prod.fst (c8 _ _) = cs, Prod.fst (Prod.snd (c8 _ _)) = a, Prod.fst (Prod.snd (Prod.snd (c8 _ _))) = ccd, Prod.fst (Prod.snd (Prod.snd (Prod.snd (c8 _ _)))) = cl, Prod.fst (Prod.snd (Prod.snd (Prod.snd (Prod.snd (c8 _ _))))) = outer, Prod.fst (Prod.snd (Prod.snd (Prod.snd (Prod.snd (Prod.snd (c8 _ _)))))) = A₀, Prod.fst (Prod.snd (Prod.snd (Prod.snd (Prod.snd (Prod.snd (Prod.snd (c8 _ _))))))) = base, Prod.snd (Prod.snd (Prod.snd (Prod.snd (Prod.snd (Prod.snd (Prod.snd (c8 _ _))))))) = h₀
  refine no_implicit_lambda% (all4 (by repeat (first | exact neS | exact neA | exact neW | refine nP ?_ ?_ | exact neT _ | infer_instance)) ?_)
  generalize Prod.fst (cp4 _ _) = L, Prod.fst (Prod.snd (cp4 _ _)) = m, Prod.fst (Prod.snd (Prod.snd (cp4 _ _))) = s, Prod.snd (Prod.snd (Prod.snd (cp4 _ _))) = Q
  intro E
  intro hx hdx U hws B F X N T hk hd hu hret
  have hmem := Upd.mem U
  refine wpAny_call ?_
  k_dflt cell_enter
  k_steps
  exact hret _ _ _ _ (by assumption) (by assumption) ⟨rfl, rfl⟩
end Mine
end
section
open PySem PySem.W PyProof.Rows
open PySem.Spec PySem.Calls
set_option maxRecDepth 100000
set_option maxHeartbeats 8000000
namespace Mine
local macro_rules | `(tactic| walk_at "call ref") => `(tactic| (k_here; (first | with_reducible show wpAny _ _ (call (Value.ref 70) _) _ _ _ | with_reducible show wpAny _ _ (call (Value.ref 63) _) _ _ _ | with_reducible show wpAny _ _ (call (Value.ref 106) _) _ _ _); refine stopper ?_))
local macro_rules | `(tactic| walk_at "exec For Name Name cons nil") => `(tactic| (k_here; (rename Fr _ _ _ _ => lF'); (with_unfolding_all refine For_invVF lF' (by exact rfl) (by exact rfl) ?_; k_whole)))
local macro_rules | `(tactic| walk_at "pyIter ref") => `(tactic| (k_here; k_dflt (refine iter_listUnr (by rfl) (by k_asm) (by k_asm) (by k_mem) (by rfl) (by rfl) ?_); intro I' l1'; (try k_lt l1')))
local macro_rules | `(tactic| walk_at "UnrEnd") => `(tactic| refine stopper ?_)
local macro_rules | `(tactic| walk_at "eval ListComp") => `(tactic| (k_here; k_dflt (refine LCg.ListComp_U (F₀ := by k_asm) (by with_unfolding_all rfl) (by decide) (by rfl) (by decide) (by rfl) ?_)))
local macro_rules | `(tactic| walk_at "CompSrc") => `(tactic| (k_here; k_dflt (refine LCg.CompSrc.ledger (by rfl) (by k_asm) (by k_asm) (by k_mem) (by assumption) ?_; intro g')))
local macro_rules | `(tactic| walk_at "CompRest") => `(tactic| refine stopper ?_)
local macro_rules | `(tactic| walk_at "CompEnd") => `(tactic| refine stopper ?_)
local macro_rules | `(tactic| walk_at "ListRest") => `(tactic| refine stopper ?_)
def wordL (v : Light) : Str := wordS (v.1 * 4096 + v.2.1 * 64 + v.2.2)
def sentFrm (m₀ : Str → Option Value) (U : Str → Option Value) : Str → Option Value := fun y => if y = Str.ofString "word" then U y else m₀ y
theorem sentFrm_start {m : Str → Option Value} : m = sentFrm m m := by
  funext y; unfold sentFrm; split <;> rfl
theorem sentFrm_next {m m₀ : Str → Option Value} (ho : ∀ y, y ≠ Str.ofString "word" → m y = m₀ y) : m = sentFrm m₀ m := by
  funext y; unfold sentFrm; split
  · rfl
  · exact ho y (by assumption)
theorem news_swap (a b : Addr × Obj) (r : List (Addr × Obj)) : ∀ p ∈ b :: a :: r, p ∈ a :: b :: r := fun p hp => by
  rcases List.mem_cons.mp hp with rfl | hp
  · exact List.mem_cons_of_mem _ List.mem_cons_self
  · rcases List.mem_cons.mp hp with rfl | hp
    · exact List.mem_cons_self
    · exact List.mem_cons_of_mem _ (List.mem_cons_of_mem _ hp)
theorem off1_mem {D : Addr} : ∀ {l : List (Addr × Obj)}, LCg.Off1 D l → ∀ p ∈ l, p.1 ≠ D
  | [], _, _, h => nomatch h
  | _ :: _, h, p, hp => by
    rcases List.mem_cons.mp hp with rfl | hp
    · exact h.1
    · exact off1_mem h.2 p hp
theorem news_up (a b c d e : Addr × Obj) (r : List (Addr × Obj)) : ∀ p ∈ b :: c :: d :: e :: a :: r, p ∈ a :: b :: c :: d :: e :: r := fun p hp => by
  simp only [List.mem_cons] at hp ⊢
  rcases hp with h | h | h | h | h | h
  · exact .inr (.inl h)
  · exact .inr (.inr (.inl h))
  · exact .inr (.inr (.inr (.inl h)))
  · exact .inr (.inr (.inr (.inr (.inl h))))
  · exact .inl h
  · exact .inr (.inr (.inr (.inr (.inr h))))
def SentJ (pb : Addr) (ws : List Value) (vs : List Light) (base : List (Addr × Obj)) (i : Nat) (ys : List Value) (nw : List (Addr × Obj)) : Prop :=
  ∃ k mo as, nw = (pb, W.listOf (ws.drop i).toArray k) :: (mo ++ base) ∧ (∀ p ∈ mo, p.1 ≠ pb) ∧ (∀ p ∈ mo, ∀ b ∈ base, @Ne Nat p.1 b.1) ∧ Lights mo (vs.take i) as ∧ ys = as.map Value.ref
theorem con_sent {prog w p loose mean mg mb} (rest : List (Addr × Obj)) (x dx pb st wl : Addr) (c1 c2 c3 c4 : Int) (k1 k2 k3 k4 kl kw : Tok) (ln : Int) (n nn : Nat) (vs : List Light) (ws : List Value) (hW : Words wordL vs ws) (hR : ∀ v ∈ vs, LRg v) (hlen : vs.length = 8)
   (hx : (x, instObj 73 dx) ∈ rest) (hdx : (dx, dictOf [⟨c1, .str (Str.ofString "lineno") k1, .int ln kl⟩, ⟨c2, .str (Str.ofString "instream") k2, .ref st⟩, ⟨c3, .str (Str.ofString "whitespace") k3, .str (Str.ofString "\n\t\r ") kw⟩, ⟨c4, .str (Str.ofString "pushback") k4, .ref pb⟩] 4) ∈ rest) (hpb : ∀ p ∈ rest, p.1 ≠ pb) (hwl : (wl, ({ cls := .type "list", data := .seq ws.toArray nn } : Obj)) ∈ rest) :
  Con 4 32 prog w p loose mean mg mb 128 [.ref x, .ref wl] ((pb, W.listOf #[] n) :: rest) (fun r news' => ∃ a nn k mo as, r = .ref a ∧ news' = (a, ({ cls := .type "list", data := .seq (as.map Value.ref).toArray nn } : Obj)) :: (pb, W.listOf #[] k) :: (mo ++ rest) ∧ (∀ p ∈ mo, p.1 ≠ pb) ∧ (∀ p ∈ mo, ∀ b ∈ rest, @Ne Nat p.1 b.1) ∧ (∀ p ∈ (pb, W.listOf #[] k) :: (mo ++ rest), p.1 ≠ a) ∧ Lights mo vs as) := by
  unfold Con
  intros dp un gd cn cs a ccd cl outer A₀ base h₀ L m s Q E
  revert hW hR hlen hx hdx hpb hwl
  revert prog w p loose mean mg mb rest x dx pb st wl c1 c2 c3 c4 k1 k2 k3 k4 kl kw ln n nn vs ws dp un gd cn cs a ccd cl outer A₀ base h₀ L m s Q E
  refine no_implicit_lambda% (all8 (by repeat (first | exact neS | exact neA | exact neW | refine nP ?_ ?_ | exact neT _ | infer_instance)) ?_)
  generalize Prod.fst (c8 _ _) = prog, Prod.fst (Prod.snd (c8 _ _)) = w, Prod.fst (Prod.snd (Prod.snd (c8 _ _))) = p, Prod.fst (Prod.snd (Prod.snd (Prod.snd (c8 _ _)))) = loose, Prod.fst (Prod.snd (Prod.snd (Prod.snd (Prod.snd (c8 _ _))))) = mean, Prod.fst (Prod.snd (Prod.snd (Prod.snd (Prod.snd (Prod.snd (c8 _ _)))))) = mg, Prod.fst (Prod.snd (Prod.snd (Prod.snd (Prod.snd (Prod.snd (Prod.snd (c8 _ _))))))) = mb, Prod.snd (Prod.snd (Prod.snd (Prod.snd (Prod.snd (Prod.snd (Prod.snd (c8 _ _))))))) = rest
  refine no_implicit_lambda% (all8 (by repeat (first | exact neS | exact neA | exact neW | refine nP ?_ ?_ | exact neT _ | infer_instance)) ?_)
  generalize Prod.fst (c8 _ _) = x, Prod.fst (Prod.snd (c8 _ _)) = dx, Prod.fst (Prod.snd (Prod.snd (c8 _ _))) = pb, Prod.fst (Prod.snd (Prod.snd (Prod.snd (c8 _ _)))) = st, Prod.fst (Prod.snd (Prod.snd (Prod.snd (Prod.snd (c8 _ _))))) = wl, Prod.fst (Prod.snd (Prod.snd (Prod.snd (Prod.snd (Prod.snd (c8 _ _)))))) = c1, Prod.fst (Prod.snd (Prod.snd (Prod.snd (Prod.snd (Prod.snd (Prod.snd (c8 _ _))))))) = c2, Prod.snd (Prod.snd (Prod.snd (Prod.snd (Prod.snd (Prod.snd (Prod.snd (c8 _ _))))))) = c3
  refine no_implicit_lambda% (all8 (by repeat (first | exact neS | exact neA | exact neW | refine nP ?_ ?_ | exact neT _ | infer_instance)) ?_)
  generalize Prod.fst (c8 _ _) = c4, Prod.fst (Prod.snd (c8 _ _)) = k1, Prod.fst (Prod.snd (Prod.snd (c8 _ _))) = k2, Prod.fst (Prod.snd (Prod.snd (Prod.snd (c8 _ _)))) = k3, Prod.fst (Prod.snd (Prod.snd (Prod.snd (Prod.snd (c8 _ _))))) = k4, Prod.fst (Prod.snd (Prod.snd (Prod.snd (Prod.snd (Prod.snd (c8 _ _)))))) = kl, Prod.fst (Prod.snd (Prod.snd (Prod.snd (Prod.snd (Prod.snd (Prod.snd (c8 _ _))))))) = kw, Prod.snd (Prod.snd (Prod.snd (Prod.snd (Prod.snd (Prod.snd (Prod.snd (c8 _ _))))))) = ln
  refine no_implicit_lambda% (all8 (by repeat (first | exact neS | exact neA | exact neW | refine nP ?_ ?_ | exact neT _ | infer_instance)) ?_)
  generalize Prod.fst (c8 _ _) = n, Prod.fst (Prod.snd (c8 _ _)) = nn, Prod.fst (Prod.snd (Prod.snd (c8 _ _))) = vs, Prod.fst (Prod.snd (Prod.snd (Prod.snd (c8 _ _)))) = ws, Prod.fst (Prod.snd (Prod.snd (Prod.snd (Prod.snd (c8 _ _))))) = dp, Prod.fst (Prod.snd (Prod.snd (Prod.snd (Prod.snd (Prod.snd (c8 _ _)))))) = un, Prod.fst (Prod.snd (Prod.snd (Prod.snd (Prod.snd (Prod.snd (Prod.snd (c8 _ _))))))) = gd, Prod.snd (Prod.snd (Prod.snd (Prod.snd (Prod.snd (Prod.snd (Prod.snd (c8 _ _))))))) = cn
  refine no_implicit_lambda% (all8 (by repeat (first | exact neS | exact neA | exact neW | refine nP ?_ ?_ | exact neT _ | infer_instance)) ?_)
  generalize Prod.fst (c8 _ _) = cs, Prod.fst (Prod.snd (c8 _ _)) = a, Prod.fst (Prod.snd (Prod.snd (c8 _ _))) = ccd, Prod.fst (Prod.snd (Prod.snd (Prod.snd (c8 _ _)))) = cl, Prod.fst (Prod.snd (Prod.snd (Prod.snd (Prod.snd (c8 _ _))))) = outer, Prod.fst (Prod.snd (Prod.snd (Prod.snd (Prod.snd (Prod.snd (c8 _ _)))))) = A₀, Prod.fst (Prod.snd (Prod.snd (Prod.snd (Prod.snd (Prod.snd (Prod.snd (c8 _ _))))))) = base, Prod.snd (Prod.snd (Prod.snd (Prod.snd (Prod.snd (Prod.snd (Prod.snd (c8 _ _))))))) = h₀
  refine no_implicit_lambda% (all4 (by repeat (first | exact neS | exact neA | exact neW | refine nP ?_ ?_ | exact neT _ | infer_instance)) ?_)
  generalize Prod.fst (cp4 _ _) = L, Prod.fst (Prod.snd (cp4 _ _)) = m, Prod.fst (Prod.snd (Prod.snd (cp4 _ _))) = s, Prod.snd (Prod.snd (Prod.snd (cp4 _ _))) = Q
  intro E
  intro hW hR hlen hx hdx hpb hwl B F X N T hk hd hu hret
  refine wpAny_call ?_
  k_dflt (refine' code_defC ?k1 ?k2 ?k3 ?k4 ?k5 ?kA ?kF ?kK ?k6 ?k7 ?k8 ?k9 ?kB ?kD ?_ ?c2 ?c3 ?c4; (case kA => exact rfl); (case kF => exact rfl); (case kK => assumption); (case k1 => k_asm); (case k2 => k_asm); (case k3 => k_asm); (case k4 => k_asm); (case k5 => k_asm); (case k6 => k_is); (case k7 => k_is); (case k8 => ktr_room); (case k9 => exact BindsTo.of_eq rfl); (case kB => exact rfl); (case kD => decide +kernel); (case c2 => exact rfl); (case c3 => exact rfl); (case c4 => exact rfl); k_whole; intro g' L' h' tk' cells' FG' F' N' Y' B' X' T' l1; (try k_lt l1); k_cells Y'; (try simp only [List.cons_append, List.nil_append] at N'); (try dsimp only); (try k_lift B'); (try k_fold))
  rename_i o1S d1S
  repeat' (first | (unfold StopP; first | ((with_reducible show wpAny _ _ (call (Value.ref 106) _) _ _ _); k_dflt (refine Con.use (by k_asm) (by k_asm) (by k_asm) (by k_asm) (by k_asm) (con_light _ _ _ _ _ (by assumption)) (by walk_at "k6") (by walk_at "k7") (by walk_at "k8") ?_; walk_at "cu2")) | ((with_reducible show wpAny _ _ (call (Value.ref 63) _) _ _ _); k_dflt (refine' Con.use ?k1 ?k2 ?k3 ?k4 ?k5 (con_popU _ _ _ _ _ _ _ _ _ _ _ _ _ _ _ _ _ _ _ _ _ ?p1 ?p2 ?p3 ?p4) ?k6 ?k7 ?k8 ?_; (case k1 | k2 | k3 | k4 | k5 => k_asm); (case k6 => walk_at "k6"); (case k7 => walk_at "k7"); (case k8 => walk_at "k8"); (case p1 => k_mem); (case p2 => k_mem); (case p3 => k_upd); (case p4 => assumption); intro r9 news9 h9 tk9 F9 N9 hp9; obtain ⟨e9, f9⟩ := hp9; subst e9 f9; (try dsimp only); (try k_fold))) | ((with_reducible show wpAny _ _ (call (Value.ref 70) _) _ _ _); k_dflt (refine' Con.use ?k1 ?k2 ?k3 ?k4 ?k5 (con_pushU _ _ _ _ _ _ _ _ _ _ _ _ _ _ _ _ _ _ _ _ ?p1 ?p2 ?p3 ?p4) ?k6 ?k7 ?k8 ?_; (case k1 | k2 | k3 | k4 | k5 => k_asm); (case k6 => walk_at "k6"); (case k7 => walk_at "k7"); (case k8 => walk_at "k8"); (case p1 => k_mem); (case p2 => k_mem); (case p3 => k_upd); (case p4 => assumption); intro r9 news9 h9 tk9 F9 N9 hp9; obtain ⟨e9, f9⟩ := hp9; subst e9 f9; (try dsimp only); (try k_fold)))) | (k_unfold; (try dsimp only)) | (k_end; wrow_close) | walk1 | (dsimp only; walk1) | (leave1; walk_say "STEP leave1"; try dsimp only) | fail "no step")
  unfold StopP
  refine list_inv (fun i m' nw => ∃ U k, m' = sentFrm _ U ∧ nw = (L' + 1, _) :: (pb, W.listOf (ws.take i).toArray k) :: rest) ⟨_, _, sentFrm_start, rfl⟩ ?_ ?_
  · intro i v hv m' nw hT it h tk hit F9 N9
    revert hT
    refine exI ?_
    intro U
    refine exI ?_
    intro k
    intro hx9
    obtain ⟨hm, hn⟩ := hx9
    subst hn hm
    dsimp only [sentFrm] at F9
    have hws : (ws.take i).length ≤ 100 := by rw [List.length_take]; have := hW.len; omega
    have ht : (ws.take (i + 1)) = (ws.take i) ++ [v] := by rw [List.take_add_one, hv]; rfl
    rw [ht]
    repeat' (first | (unfold StopP; first | ((with_reducible show wpAny _ _ (call (Value.ref 106) _) _ _ _); k_dflt (refine Con.use (by k_asm) (by k_asm) (by k_asm) (by k_asm) (by k_asm) (con_light _ _ _ _ _ (by assumption)) (by walk_at "k6") (by walk_at "k7") (by walk_at "k8") ?_; walk_at "cu2")) | ((with_reducible show wpAny _ _ (call (Value.ref 63) _) _ _ _); k_dflt (refine' Con.use ?k1 ?k2 ?k3 ?k4 ?k5 (con_popU _ _ _ _ _ _ _ _ _ _ _ _ _ _ _ _ _ _ _ _ _ ?p1 ?p2 ?p3 ?p4) ?k6 ?k7 ?k8 ?_; (case k1 | k2 | k3 | k4 | k5 => k_asm); (case k6 => walk_at "k6"); (case k7 => walk_at "k7"); (case k8 => walk_at "k8"); (case p1 => k_mem); (case p2 => k_mem); (case p3 => k_upd); (case p4 => assumption); intro r9 news9 h9 tk9 F9 N9 hp9; obtain ⟨e9, f9⟩ := hp9; subst e9 f9; (try dsimp only); (try k_fold))) | ((with_reducible show wpAny _ _ (call (Value.ref 70) _) _ _ _); k_dflt (refine' Con.use ?k1 ?k2 ?k3 ?k4 ?k5 (con_pushU _ _ _ _ _ _ _ _ _ _ _ _ _ _ _ _ _ _ _ _ ?p1 ?p2 ?p3 ?p4) ?k6 ?k7 ?k8 ?_; (case k1 | k2 | k3 | k4 | k5 => k_asm); (case k6 => walk_at "k6"); (case k7 => walk_at "k7"); (case k8 => walk_at "k8"); (case p1 => k_mem); (case p2 => k_mem); (case p3 => k_upd); (case p4 => assumption); intro r9 news9 h9 tk9 F9 N9 hp9; obtain ⟨e9, f9⟩ := hp9; subst e9 f9; (try dsimp only); (try k_fold)))) | (k_unfold; (try dsimp only)) | (k_end; wrow_close) | walk1 | (dsimp only; walk1) | (leave1; walk_say "STEP leave1"; try dsimp only) | fail "no step")
    unfold StopP
    refine UnrEnd.intro (by assumption) (by assumption) _ (fun p hp => hp) ?_ ⟨?_, _, k + 1, sentFrm_next (fun y hy => ?_), ?_⟩
    · k_all
    · k_mem
    · simp only [hy, if_false]
    · rw [← List.push_toArray]
  · intro m' nw hT h tk F9 N9
    revert hT
    refine exI ?_
    intro U
    refine exI ?_
    intro k
    intro hx9
    obtain ⟨hm, hn⟩ := hx9
    subst hn hm
    dsimp only [sentFrm] at F9
    rw [List.take_length] at N9
    replace N9 := cb_drop N9 (news_swap _ _ rest)
    have hsz : ws.toArray.size ≤ sizeLine := by rw [List.size_toArray, hW.len, hlen]; decide +kernel
    repeat' (first | (unfold StopP; first | ((with_reducible show wpAny _ _ (call (Value.ref 106) _) _ _ _); k_dflt (refine Con.use (by k_asm) (by k_asm) (by k_asm) (by k_asm) (by k_asm) (con_light _ _ _ _ _ (by assumption)) (by walk_at "k6") (by walk_at "k7") (by walk_at "k8") ?_; walk_at "cu2")) | ((with_reducible show wpAny _ _ (call (Value.ref 63) _) _ _ _); k_dflt (refine' Con.use ?k1 ?k2 ?k3 ?k4 ?k5 (con_popU _ _ _ _ _ _ _ _ _ _ _ _ _ _ _ _ _ _ _ _ _ ?p1 ?p2 ?p3 ?p4) ?k6 ?k7 ?k8 ?_; (case k1 | k2 | k3 | k4 | k5 => k_asm); (case k6 => walk_at "k6"); (case k7 => walk_at "k7"); (case k8 => walk_at "k8"); (case p1 => k_mem); (case p2 => k_mem); (case p3 => k_upd); (case p4 => assumption); intro r9 news9 h9 tk9 F9 N9 hp9; obtain ⟨e9, f9⟩ := hp9; subst e9 f9; (try dsimp only); (try k_fold))) | ((with_reducible show wpAny _ _ (call (Value.ref 70) _) _ _ _); k_dflt (refine' Con.use ?k1 ?k2 ?k3 ?k4 ?k5 (con_pushU _ _ _ _ _ _ _ _ _ _ _ _ _ _ _ _ _ _ _ _ ?p1 ?p2 ?p3 ?p4) ?k6 ?k7 ?k8 ?_; (case k1 | k2 | k3 | k4 | k5 => k_asm); (case k6 => walk_at "k6"); (case k7 => walk_at "k7"); (case k8 => walk_at "k8"); (case p1 => k_mem); (case p2 => k_mem); (case p3 => k_upd); (case p4 => assumption); intro r9 news9 h9 tk9 F9 N9 hp9; obtain ⟨e9, f9⟩ := hp9; subst e9 f9; (try dsimp only); (try k_fold)))) | (k_unfold; (try dsimp only)) | (k_end; wrow_close) | walk1 | (dsimp only; walk1) | (leave1; walk_say "STEP leave1"; try dsimp only) | fail "no step")
    unfold StopP
    have hbase : ∀ p ∈ ((L' + 1, o1S) :: rest), p.1 ≠ pb := by
      intro p hp
      rcases List.mem_cons.mp hp with rfl | hp
      · have hpl : @LT.lt Nat _ pb L' := l1.1
        exact Nat.ne_of_gt (Nat.lt_succ_of_lt hpl)
      · exact hpb p hp
    refine rest_inv (SentJ pb ws vs ((L' + 1, o1S) :: rest)) ⟨_, [], [], rfl, (fun _ h => nomatch h), (fun _ h => nomatch h), .nil, rfl⟩ ?_ ?_
    · intro i hi ys nw hJ v I oI C oC D m₂ h tk E' hv hC hvx F8 N8 off8
      revert hJ
      refine exI ?_
      intro k
      refine exI ?_
      intro mo
      refine exI ?_
      intro as
      intro hx9
      obtain ⟨hn, hmo, hap, hL, hys⟩ := hx9
      subst hn hys
      have hi' : i < vs.length := by rw [List.size_toArray, hW.len] at hi; exact hi
      refine exI ?_ (hW.at hi')
      intro lv
      refine exI ?_
      intro tw
      intro hx9
      obtain ⟨e1, e2⟩ := hx9
      have hRv := hR lv (List.mem_of_getElem? e1)
      unfold LRg at hRv
      dsimp only [wordL] at e2
      rw [e2] at N8
      simp only [LCg.Off3] at off8
      have hz : (ws.drop (i + 1)).length ≤ 100 := by rw [List.length_drop]; have := hW.len; omega
      refine exI ?_ (⟨_, rfl⟩ : ∃ tl, tl = mo ++ ((L' + 1, o1S) :: rest))
      intro tl htl
      rw [← htl] at N8 off8
      have hoff : ∀ p ∈ tl, p.1 ≠ pb := by subst htl; exact fun p hp => (List.mem_append.mp hp).elim (hmo p) (hbase p)
      have hsub : ∀ p ∈ ((L' + 1, o1S) :: rest), p ∈ tl := by subst htl; exact fun p hp => List.mem_append_right _ hp
      have hx' := hsub _ (List.mem_cons_of_mem _ hx)
      have hdx' := hsub _ (List.mem_cons_of_mem _ hdx)
      have hcell := hsub _ List.mem_cons_self
      repeat' (first | (unfold StopP; first | ((with_reducible show wpAny _ _ (call (Value.ref 106) _) _ _ _); k_dflt (refine Con.use (by k_asm) (by k_asm) (by k_asm) (by k_asm) (by k_asm) (con_light _ _ _ _ _ (by assumption)) (by walk_at "k6") (by walk_at "k7") (by walk_at "k8") ?_; walk_at "cu2")) | ((with_reducible show wpAny _ _ (call (Value.ref 63) _) _ _ _); k_dflt (refine' Con.use ?k1 ?k2 ?k3 ?k4 ?k5 (con_popU _ _ _ _ _ _ _ _ _ _ _ _ _ _ _ _ _ _ _ _ _ ?p1 ?p2 ?p3 ?p4) ?k6 ?k7 ?k8 ?_; (case k1 | k2 | k3 | k4 | k5 => k_asm); (case k6 => walk_at "k6"); (case k7 => walk_at "k7"); (case k8 => walk_at "k8"); (case p1 => k_mem); (case p2 => k_mem); (case p3 => k_upd); (case p4 => assumption); intro r9 news9 h9 tk9 F9 N9 hp9; obtain ⟨e9, f9⟩ := hp9; subst e9 f9; (try dsimp only); (try k_fold))) | ((with_reducible show wpAny _ _ (call (Value.ref 70) _) _ _ _); k_dflt (refine' Con.use ?k1 ?k2 ?k3 ?k4 ?k5 (con_pushU _ _ _ _ _ _ _ _ _ _ _ _ _ _ _ _ _ _ _ _ ?p1 ?p2 ?p3 ?p4) ?k6 ?k7 ?k8 ?_; (case k1 | k2 | k3 | k4 | k5 => k_asm); (case k6 => walk_at "k6"); (case k7 => walk_at "k7"); (case k8 => walk_at "k8"); (case p1 => k_mem); (case p2 => k_mem); (case p3 => k_upd); (case p4 => assumption); intro r9 news9 h9 tk9 F9 N9 hp9; obtain ⟨e9, f9⟩ := hp9; subst e9 f9; (try dsimp only); (try k_fold)))) | (k_unfold; (try dsimp only)) | (k_end; wrow_close) | walk1 | (dsimp only; walk1) | (leave1; walk_say "STEP leave1"; try dsimp only) | fail "no step")
      unfold StopP
      rename_i a9 u1 u2 u3 N9 l9
      refine LCg.CompEnd.intro (by assumption) (by assumption) ((pb, W.listOf (ws.drop (i + 1)).toArray (k + 1)) :: ((a9, tupO [.int lv.1 u1, .int lv.2.1 u2, .int lv.2.2 u3]) :: mo ++ ((L' + 1, o1S) :: rest))) (by subst htl; exact news_up _ _ _ _ _ _) ?_ (Or.inr ⟨_, List.mem_cons_of_mem _ (List.mem_cons_of_mem _ (List.mem_append_right _ (List.mem_cons_of_mem _ hwl))), rfl, _, rfl⟩) ⟨_, (a9, tupO [.int lv.1 u1, .int lv.2.1 u2, .int lv.2.2 u3]) :: mo, as ++ [a9], rfl, ?_, ?_, ?_, ?_⟩
      · subst htl
        simp only [List.cons_append, LCg.Off3]
        exact ⟨off8.1, ⟨Nat.ne_of_gt l9.1, Nat.ne_of_gt l9.2.1, Nat.ne_of_gt l9.2.2.1⟩, off8.2⟩
      · intro p hp
        rcases List.mem_cons.mp hp with rfl | hp
        · exact Nat.ne_of_gt l9.2.2.2.1
        · exact hmo p hp
      · intro p hp b hb
        rcases List.mem_cons.mp hp with rfl | hp
        · exact Nat.ne_of_gt (ktn_ltOf l9.2.2.2.2 _ (hsub b hb))
        · exact hap p hp b hb
      · rw [List.take_add_one, e1]
        exact Lights.snoc ⟨_, _, _, List.mem_cons_self⟩ (hR lv (List.mem_of_getElem? e1)) (Lights.mono (fun p hp => List.mem_cons_of_mem _ hp) hL)
      · simp only [List.map_append, List.map_cons, List.map_nil]
    · intro ys nw hJ
      revert hJ
      refine exI ?_
      intro k
      refine exI ?_
      intro mo
      refine exI ?_
      intro as
      intro hx9
      obtain ⟨hn, hmo, hap, hL, hys⟩ := hx9
      subst hn hys
      have e8 : ws.toArray.size = vs.length := by rw [List.size_toArray, hW.len]
      rw [e8, List.take_length] at hL
      rw [e8, ← hW.len, List.drop_length]
      repeat' (first | (unfold StopP; first | ((with_reducible show wpAny _ _ (call (Value.ref 106) _) _ _ _); k_dflt (refine Con.use (by k_asm) (by k_asm) (by k_asm) (by k_asm) (by k_asm) (con_light _ _ _ _ _ (by assumption)) (by walk_at "k6") (by walk_at "k7") (by walk_at "k8") ?_; walk_at "cu2")) | ((with_reducible show wpAny _ _ (call (Value.ref 63) _) _ _ _); k_dflt (refine' Con.use ?k1 ?k2 ?k3 ?k4 ?k5 (con_popU _ _ _ _ _ _ _ _ _ _ _ _ _ _ _ _ _ _ _ _ _ ?p1 ?p2 ?p3 ?p4) ?k6 ?k7 ?k8 ?_; (case k1 | k2 | k3 | k4 | k5 => k_asm); (case k6 => walk_at "k6"); (case k7 => walk_at "k7"); (case k8 => walk_at "k8"); (case p1 => k_mem); (case p2 => k_mem); (case p3 => k_upd); (case p4 => assumption); intro r9 news9 h9 tk9 F9 N9 hp9; obtain ⟨e9, f9⟩ := hp9; subst e9 f9; (try dsimp only); (try k_fold))) | ((with_reducible show wpAny _ _ (call (Value.ref 70) _) _ _ _); k_dflt (refine' Con.use ?k1 ?k2 ?k3 ?k4 ?k5 (con_pushU _ _ _ _ _ _ _ _ _ _ _ _ _ _ _ _ _ _ _ _ ?p1 ?p2 ?p3 ?p4) ?k6 ?k7 ?k8 ?_; (case k1 | k2 | k3 | k4 | k5 => k_asm); (case k6 => walk_at "k6"); (case k7 => walk_at "k7"); (case k8 => walk_at "k8"); (case p1 => k_mem); (case p2 => k_mem); (case p3 => k_upd); (case p4 => assumption); intro r9 news9 h9 tk9 F9 N9 hp9; obtain ⟨e9, f9⟩ := hp9; subst e9 f9; (try dsimp only); (try k_fold)))) | (k_unfold; (try dsimp only)) | (k_end; wrow_close) | walk1 | (dsimp only; walk1) | (leave1; walk_say "STEP leave1"; try dsimp only) | fail "no step")
      rename_i Da hDa tkDa FDa NDa o1 kF kN Tc kX
      have hs9 : ∀ p ∈ mo ++ rest, p ∈ mo ++ ((L' + 1, o1S) :: rest) := fun p hp => (List.mem_append.mp hp).elim (fun h => List.mem_append_left _ h) (fun h => List.mem_append_right _ (List.mem_cons_of_mem _ h))
      refine hret _ _ _ _ kF (cb_drop (news := (Da, LCg.lst (as.map Value.ref)) :: (pb, W.listOf #[] k) :: (mo ++ rest)) kN ?_) ⟨Da, _, k, mo, as, rfl, rfl, hmo, fun p hp b hb => hap p hp b (List.mem_cons_of_mem _ hb), ?_, hL⟩
      · intro p hp
        rcases List.mem_cons.mp hp with rfl | hp
        · exact List.mem_cons_self
        · rcases List.mem_cons.mp hp with rfl | hp
          · exact List.mem_cons_of_mem _ List.mem_cons_self
          · exact List.mem_cons_of_mem _ (List.mem_cons_of_mem _ (hs9 p hp))
      · intro p hp
        rcases List.mem_cons.mp hp with rfl | hp
        · exact o1.1
        · exact off1_mem o1.2 p (hs9 p hp)
end Mine
end
section
open PySem PySem.W PyProof.Rows
open PySem.Spec PySem.Calls
set_option maxRecDepth 100000
set_option maxHeartbeats 8000000
namespace Mine
theorem rs_C_new : True := by
  w_top off
  exact True.intro
theorem ne_of_allLtLe {news : List (Addr × Obj)} {L d : Addr} (h : AllLt L news) (hd : @LE.le Nat _ L d) : ∀ p ∈ news, p.1 ≠ d := fun p hp => Nat.ne_of_lt (Nat.lt_of_lt_of_le (ktn_ltOf h p hp) hd)
theorem ne_all_tr {news : List (Addr × Obj)} {c d : Addr} (hc : @LT.lt Nat _ c d) (h : AllLt c news) : ∀ p ∈ news, p.1 ≠ d := ne_of_allLtLe h (Nat.le_of_lt hc)
theorem ne_all1 {news : List (Addr × Obj)} {L : Addr} (h : AllLt L news) : ∀ p ∈ news, p.1 ≠ L + 1 := ne_of_allLtLe h (Nat.le_succ _)
theorem ne_all2 {news : List (Addr × Obj)} {L : Addr} (h : AllLt L news) : ∀ p ∈ news, p.1 ≠ L + 1 + 1 := ne_of_allLtLe h (Nat.le_succ_of_le (Nat.le_succ _))
local macro_rules | `(tactic| k_all) => `(tactic| first | assumption | (refine ne_of_allLt ?_; walk_at "cj") | (refine ne_all1 ?_; walk_at "cj") | (refine ne_all2 ?_; walk_at "cj") | (refine ne_all_tr (by assumption) ?_; walk_at "cj") | exact ne_of_all (by assumption) (by first | assumption | exact Nat.le_refl _ | exact Nat.le_succ _ | omega))
theorem con_new {prog w p loose mean mg mb} (news : List (Addr × Obj)) (st : Addr) : Con 3 24 prog w p loose mean mg mb 73 [.ref st] news (fun v news' => ∃ x dx pb c1 c2 c3 c4 k1 k2 k3 k4 kl kw, v = .ref x ∧ news' = (pb, W.listOf #[] 0) :: (x, instObj 73 dx) :: (dx, dictOf [⟨c1, .str (Str.ofString "lineno") k1, .int 1 kl⟩, ⟨c2, .str (Str.ofString "instream") k2, .ref st⟩, ⟨c3, .str (Str.ofString "whitespace") k3, .str (Str.ofString "\n\t\r ") kw⟩, ⟨c4, .str (Str.ofString "pushback") k4, .ref pb⟩] 4) :: news ∧ (∀ p ∈ news, p.1 < dx) ∧ @LT.lt Nat _ dx x ∧ @LT.lt Nat _ x pb) := by
  unfold Con
  intros dp un gd cn cs a ccd cl outer A₀ base h₀ L m s Q E
  revert prog w p loose mean mg mb news st dp un gd cn cs a ccd cl outer A₀ base h₀ L m s Q E
  refine no_implicit_lambda% (all8 (by repeat (first | exact neS | exact neA | exact neW | refine nP ?_ ?_ | exact neT _ | infer_instance)) ?_)
  generalize Prod.fst (c8 _ _) = prog, Prod.fst (Prod.snd (c8 _ _)) = w, Prod.fst (Prod.snd (Prod.snd (c8 _ _))) = p, Prod.fst (Prod.snd (Prod.snd (Prod.snd (c8 _ _)))) = loose, Prod.fst (Prod.snd (Prod.snd (Prod.snd (Prod.snd (c8 _ _))))) = mean, Prod.fst (Prod.snd (Prod.snd (Prod.snd (Prod.snd (Prod.snd (c8 _ _)))))) = mg, Prod.fst (Prod.snd (Prod.snd (Prod.snd (Prod.snd (Prod.snd (Prod.snd (c8 _ _))))))) = mb, Prod.snd (Prod.snd (Prod.snd (Prod.snd (Prod.snd (Prod.snd (Prod.snd (c8 _ _))))))) = news
  refine no_implicit_lambda% (all8 (by repeat (first | exact neS | exact neA | exact neW | refine nP ?_ ?_ | exact neT _ | infer_instance)) ?_)
  generalize Prod.fst (c8 _ _) = st, Prod.fst (Prod.snd (c8 _ _)) = dp, Prod.fst (Prod.snd (Prod.snd (c8 _ _))) = un, Prod.fst (Prod.snd (Prod.snd (Prod.snd (c8 _ _)))) = gd, Prod.fst (Prod.snd (Prod.snd (Prod.snd (Prod.snd (c8 _ _))))) = cn, Prod.fst (Prod.snd (Prod.snd (Prod.snd (Prod.snd (Prod.snd (c8 _ _)))))) = cs, Prod.fst (Prod.snd (Prod.snd (Prod.snd (Prod.snd (Prod.snd (Prod.snd (c8 _ _))))))) = a, Prod.snd (Prod.snd (Prod.snd (Prod.snd (Prod.snd (Prod.snd (Prod.snd (c8 _ _))))))) = ccd
  refine no_implicit_lambda% (all8 (by repeat (first | exact neS | exact neA | exact neW | refine nP ?_ ?_ | exact neT _ | infer_instance)) ?_)
  generalize Prod.fst (c8 _ _) = cl, Prod.fst (Prod.snd (c8 _ _)) = outer, Prod.fst (Prod.snd (Prod.snd (c8 _ _))) = A₀, Prod.fst (Prod.snd (Prod.snd (Prod.snd (c8 _ _)))) = base, Prod.fst (Prod.snd (Prod.snd (Prod.snd (Prod.snd (c8 _ _))))) = h₀, Prod.fst (Prod.snd (Prod.snd (Prod.snd (Prod.snd (Prod.snd (c8 _ _)))))) = L, Prod.fst (Prod.snd (Prod.snd (Prod.snd (Prod.snd (Prod.snd (Prod.snd (c8 _ _))))))) = m, Prod.snd (Prod.snd (Prod.snd (Prod.snd (Prod.snd (Prod.snd (Prod.snd (c8 _ _))))))) = s
  refine no_implicit_lambda% (all2 (by repeat (first | exact neS | exact neA | exact neW | refine nP ?_ ?_ | exact neT _ | infer_instance)) ?_)
  generalize Prod.fst (cp2 _ _) = Q, Prod.snd (cp2 _ _) = E
  intro B F X N T hk hd hu hret
  k_dflt (refine' call_cls ?k1 ?k2 ?k3 ?k4 ?k5 ?k6 ?_; (case k1 => k_asm); (case k2 => k_asm); (case k3 => k_asm); (case k4 => k_is); (case k5 => k_is); (case k6 => k_is); k_whole; intro x' d' h' F' N' l1 l2; (try k_lt l1); (try k_lt2 l2); (try k_sweep); cell_enter)
  k_steps
  exact hret _ _ _ _ (by assumption) (by assumption) ⟨x', d', _, _, _, _, _, _, _, _, _, _, _, rfl, rfl, l1, l2, (by assumption : _ ∧ _).1⟩
end Mine
end
section
open PySem PySem.W PyProof.Rows
open PySem.Spec PySem.Calls
set_option maxRecDepth 100000
set_option maxHeartbeats 8000000
namespace Mine
local macro_rules | `(tactic| k_all) => `(tactic| first | assumption | (refine ne_of_allLt ?_; walk_at "cj") | (refine ne_all1 ?_; walk_at "cj") | (refine ne_all2 ?_; walk_at "cj") | (refine ne_all_tr (by assumption) ?_; walk_at "cj") | exact ne_of_all (by assumption) (by first | assumption | exact Nat.le_refl _ | exact Nat.le_succ _ | omega))
local macro_rules | `(tactic| walk_at "setAttr ref") => `(tactic| (k_here; k_dflt (refine fn_set (by k_asm) (by k_asm) (by intro D9; k_upd) fn_lk ?_); intro D9 h9 tk9 k9 c9 F9 N9 l9; (try dsimp only at N9); (try k_lt l9)))
local macro_rules | `(tactic| walk_at "cu7") => `(tactic| (intro r9 news9 h9 tk9 F9 N9; (repeat (refine exI ?_; intro x9)); intro hp9; obtain ⟨e9, f9, l9, m9, n9⟩ := hp9; subst e9 f9; (try k_lt l9); (try dsimp only)))
local macro_rules | `(tactic| walk_at "call ref") => `(tactic| (k_here; (first | with_reducible show wpAny _ _ (call (Value.ref 73) _) _ _ _); refine stopper ?_))
theorem perm_mach {h₀ h : Heap} {L : Addr} {a b c d e f g i j : Addr × Obj} {tl : List (Addr × Obj)} (N : News h₀ L h (a :: b :: c :: d :: e :: f :: g :: i :: j :: tl)) : News h₀ L h (a :: c :: j :: b :: d :: e :: f :: g :: i :: tl) :=
  cb_drop N (fun p hp => by simp only [List.mem_cons] at hp ⊢; grind)
def Reads (prog : Program) (w : World) (p : Program) (loose : List Str) (mean : ExcName → Option Value) (mg mb : Str → Option Value) (rd : Addr) (rdO : Obj) (c : Addr) (cO : Obj) (ca ct al : Addr) (oa ot : Obj) (text : Str) : Prop :=
  ∀ (news : List (Addr × Obj)) (news' : Int → Tok → List (Addr × Obj)) (pos : Int) (tp t1 : Tok) (nn : Nat), (rd, rdO) ∈ news → (c, cO) ∈ news → (ca, oa) ∈ news → (ct, ot) ∈ news → 0 ≤ pos → pos ≤ text.length →
  (∀ q u, Upd al (W.listOf #[.int pos tp] nn) (W.listOf #[.int q u] nn) news (news' q u)) →
  Con 2 16 prog w p loose mean mg mb rd [.int 1 t1] news (fun v nw => ∃ u u2, v = .str (Txt.slice text (some pos) (some (pos + 1))) u ∧ nw = news' (pos + ((Txt.slice text (some pos) (some (pos + 1))).length : Int)) u2)
def MachPost (prog : Program) (w : World) (p : Program) (loose : List Str) (mean : ExcName → Option Value) (mg mb : Str → Option Value) (base : List (Addr × Obj)) (text : Str) (x : Addr) (nw : List (Addr × Obj)) : Prop :=
  ∃ dx pb al st D rd c ca ct c1 c2 c3 c4 c5 k1 k2 k3 k4 k5 kl kw kp fds fd cO oa ot nws rest, rest = nws ++ base ∧ (∀ q ∈ nws, ∀ b ∈ base, @Ne Nat q.1 b.1) ∧ nw = (pb, W.listOf #[] 0) :: (dx, dictOf [⟨c1, .str (Str.ofString "lineno") k1, .int 1 kl⟩, ⟨c2, .str (Str.ofString "instream") k2, .ref st⟩, ⟨c3, .str (Str.ofString "whitespace") k3, .str (Str.ofString "\n\t\r ") kw⟩, ⟨c4, .str (Str.ofString "pushback") k4, .ref pb⟩] 4) :: (al, W.listOf #[.int 0 kp] 0) :: rest ∧
    (x, instObj 73 dx) ∈ nws ∧ (st, fnO fds (some D)) ∈ nws ∧ (D, dictOf [⟨c5, .str (Str.ofString "read") k5, .ref rd⟩] 1) ∈ nws ∧ (rd, fnO fd none) ∈ nws ∧ (c, cO) ∈ nws ∧ (ca, oa) ∈ nws ∧ (ct, ot) ∈ nws ∧ (∃ ps, (84, tabObj ps) ∈ nws) ∧ (∀ q ∈ base, q ∈ rest) ∧ (∀ q ∈ rest, q.1 ≠ pb ∧ q.1 ≠ dx ∧ q.1 ≠ al) ∧ (@Ne Nat pb dx ∧ @Ne Nat pb al ∧ @Ne Nat dx al) ∧ Reads prog w p loose mean mg mb rd (fnO fd none) c cO ca ct al oa ot text
local macro_rules | `(tactic| walk_at "subscriptTail") => `(tactic| (k_here; k_dflt (refine it_pos (by k_asm) (by k_mem) (by decide) (by decide) (by rfl) ?_)))
local macro_rules | `(tactic| walk_at "eval Name") => `(tactic| (k_here; k_dflt (refine' nameX_F ?N9 ?c9 ?m9 ?d9 ?_ ?a9 ?b9; (case a9 => rfl); (case b9 => rfl); (case N9 => k_asm); (case c9 => rfl); (case m9 => k_mem); (case d9 => k_asm); k_whole)))
local macro_rules | `(tactic| walk_at "subscriptTail Name Slice str ref") => `(tactic| (k_here; (with_reducible rename Fr _ _ _ _ => F'); (with_reducible rename News _ _ _ _ => N'); (refine slice_strN_ss (hsz := ?hsz) (s := ⟨_, _, _, _, _⟩) F' N' ?_); (case hsz => assumption); intro _ _ _ _ _))
local macro_rules | `(tactic| k_upd) => `(tactic| (rename (∀ (_ : Int) (_ : Tok), Upd _ _ _ _ _) => U9; exact U9 _ _))
theorem slice_fit {x : Str} {l u : Option Int} (h : x.length ≤ sizeLine) : ((Txt.slice x l u).length : Int) < 9223372036854775808 := by
  have h1 := Txt.slice_le x l u
  rw [sizeLine_eq] at h
  omega
local macro_rules | `(tactic| walk_at "call builtin:len") => `(tactic| (k_here; (refine SBL.len (slice_fit (by assumption)) ?_)))
theorem set_pos {prog : Program} {w : World} {A : Around} {E : Value → Shared → Prop} {s : Shared} {h₀ : Heap} {L D : Addr} {m : Str → Option Value} {news news' : List (Addr × Obj)} {q x : Int} {n : Nat} {t u v : Tok} {Q : Unit → Shared → Prop} (F : Fr h₀ L s.heap m) (N : News h₀ L s.heap news) (U : Upd D (W.listOf #[.int q v] n) (W.listOf #[.int x u] n) news news')
    (h : ∀ h', Fr h₀ L h' m → News h₀ L h' news' → Q () { s with heap := h' }) : wpAny (model prog w) A (setItem (.ref D) (.int 0 t) (.int x u)) Q E s :=
  ksa_set (vs := [.int q v]) (ns := [q]) (k := 0) F N U (.cons _ _ .nil) (by decide) (by simp) (by decide) fun h' F' N' _ _ _ => h h' F' N'
local macro_rules | `(tactic| walk_at "setItem ref") => `(tactic| (k_here; k_dflt (refine set_pos (by k_asm) (by k_asm) (by k_upd) ?_); intro h9 F9 N9))
theorem con_mach {prog w p loose mean mg mb} (base : List (Addr × Obj)) (text : Str) (t1 : Tok) (htext : text.length ≤ sizeLine) (hb : ∀ q ∈ base, q.1 ≠ 84)
  (dp un : Nat) (gd : Option (List Code)) (cn : Str) (cs : Scope) (a : Addr) (ccd : Value) (cl : List (Str × Addr)) (outer : List Env) (A₀ : Around) (bh h₀ : Heap) (L : Addr) (m : Str → Option Value) (s : Shared) (Q E : Value → Shared → Prop)
   (B : Below A₀ bh outer h₀) (F : Fr h₀ L s.heap m) (X : (hd.heap_39 w.params).In h₀) (C : CodeHd h₀ 88 84) (N : News h₀ L s.heap ((84, tabObj #[]) :: base)) (T : Top p loose mean mg mb h₀) (hk : cs.kind = .function) (hd : dp + 4 < recursionLimit) (hu : un + 32 < cLine)
   (hret : ∀ r news' h' tk', Fr h₀ L h' m → News h₀ L h' news' → (∃ x, r = .ref x ∧ MachPost prog w p loose mean mg mb base text x news') → Q r { s with heap := h', toks := tk' }) :
    wpAny (model prog w) (ktrTop dp un gd cn cs L a ccd cl outer) (call (.ref 89) [.str text t1]) Q E s := by
  revert htext hb gd cs A₀ B F X C N T hk hd hu hret
  revert prog w p loose mean mg mb base text t1 dp un cn a ccd cl outer bh h₀ L m s Q E
  refine no_implicit_lambda% (all8 (by repeat (first | exact neS | exact neA | exact neW | refine nP ?_ ?_ | exact neT _ | infer_instance)) ?_)
  generalize Prod.fst (c8 _ _) = prog, Prod.fst (Prod.snd (c8 _ _)) = w, Prod.fst (Prod.snd (Prod.snd (c8 _ _))) = p, Prod.fst (Prod.snd (Prod.snd (Prod.snd (c8 _ _)))) = loose, Prod.fst (Prod.snd (Prod.snd (Prod.snd (Prod.snd (c8 _ _))))) = mean, Prod.fst (Prod.snd (Prod.snd (Prod.snd (Prod.snd (Prod.snd (c8 _ _)))))) = mg, Prod.fst (Prod.snd (Prod.snd (Prod.snd (Prod.snd (Prod.snd (Prod.snd (c8 _ _))))))) = mb, Prod.snd (Prod.snd (Prod.snd (Prod.snd (Prod.snd (Prod.snd (Prod.snd (c8 _ _))))))) = base
  refine no_implicit_lambda% (all8 (by repeat (first | exact neS | exact neA | exact neW | refine nP ?_ ?_ | exact neT _ | infer_instance)) ?_)
  generalize Prod.fst (c8 _ _) = text, Prod.fst (Prod.snd (c8 _ _)) = t1, Prod.fst (Prod.snd (Prod.snd (c8 _ _))) = dp, Prod.fst (Prod.snd (Prod.snd (Prod.snd (c8 _ _)))) = un, Prod.fst (Prod.snd (Prod.snd (Prod.snd (Prod.snd (c8 _ _))))) = cn, Prod.fst (Prod.snd (Prod.snd (Prod.snd (Prod.snd (Prod.snd (c8 _ _)))))) = a, Prod.fst (Prod.snd (Prod.snd (Prod.snd (Prod.snd (Prod.snd (Prod.snd (c8 _ _))))))) = ccd, Prod.snd (Prod.snd (Prod.snd (Prod.snd (Prod.snd (Prod.snd (Prod.snd (c8 _ _))))))) = cl
  refine no_implicit_lambda% (all8 (by repeat (first | exact neS | exact neA | exact neW | refine nP ?_ ?_ | exact neT _ | infer_instance)) ?_)
  generalize Prod.fst (c8 _ _) = outer, Prod.fst (Prod.snd (c8 _ _)) = bh, Prod.fst (Prod.snd (Prod.snd (c8 _ _))) = h₀, Prod.fst (Prod.snd (Prod.snd (Prod.snd (c8 _ _)))) = L, Prod.fst (Prod.snd (Prod.snd (Prod.snd (Prod.snd (c8 _ _))))) = m, Prod.fst (Prod.snd (Prod.snd (Prod.snd (Prod.snd (Prod.snd (c8 _ _)))))) = s, Prod.fst (Prod.snd (Prod.snd (Prod.snd (Prod.snd (Prod.snd (Prod.snd (c8 _ _))))))) = Q, Prod.snd (Prod.snd (Prod.snd (Prod.snd (Prod.snd (Prod.snd (Prod.snd (c8 _ _))))))) = E
  intro htext hb gd cs A₀ B F X C N T hk hd hu hret
  refine wpAny_call ?_
  k_dflt (refine' code_defC ?k1 ?k2 ?k3 ?k4 ?k5 ?kA ?kF ?kK ?k6 ?k7 ?k8 ?k9 ?kB ?kD ?_ ?c2 ?c3 ?c4; (case kA => exact rfl); (case kF => exact rfl); (case kK => assumption); (case k1 => k_asm); (case k2 => k_asm); (case k3 => k_asm); (case k4 => k_asm); (case k5 => k_asm); (case k6 => k_is); (case k7 => k_is); (case k8 => ktr_room); (case k9 => exact BindsTo.of_eq rfl); (case kB => exact rfl); (case kD => decide +kernel); (case c2 => exact rfl); (case c3 => exact rfl); (case c4 => exact rfl); k_whole; intro g' L' h' tk' cells' FG' F' N' Y' B' X' T' l1; (try k_lt l1); k_cells Y'; (try simp only [List.cons_append, List.nil_append] at N'); (try dsimp only); (try k_lift B'); (try k_fold))
  have C9 : CodeHd g' 88 84 := CodeHd.keeps C FG'.keep
  repeat' (first | (unfold StopP; first | ((with_reducible show wpAny _ _ (call (Value.ref 73) _) _ _ _); k_dflt (refine Con.use (by k_asm) (by k_asm) (by k_asm) (by k_asm) (by k_asm) (con_new _ _) (by walk_at "k6") (by walk_at "k7") (by walk_at "k8") ?_; walk_at "cu7"))) | (k_unfold; (try dsimp only)) | (k_end; wrow_close) | walk1 | (dsimp only; walk1) | (leave1; walk_say "STEP leave1"; try dsimp only) | fail "no step")
  rename_i oA oT dA dT al hA5 lal hA4 oA' dA' _ f1 c1' oc1 vs1 t1' ct1 dc1 hA3 tkA1 d11 d21 l11 l21 hA2 _ st c2' oc2 vs2 t2 ct2 hA1 tkA d12 d22 l12 l22 hA0 FA NA D9 hB tkB k9 c9 FB NB lD hC tkC FC x dx pb c1 c2 c3 c4 k1 k2 k3 k4 kl kw hdx hxp NC lpb kF kN Tc kX
  refine hret _ _ _ _ kF (perm_mach kN) ⟨x, rfl, ?_⟩
  refine ⟨dx, pb, al, st, D9, f1, c1', L' + 1 + 1, L' + 1, _, _, _, _, _, _, _, _, _, _, _, _, _, _, _, oc1, oA', oT, [_, _, _, _, _, _, _, _, _], _, rfl, ?_, rfl, List.mem_cons_self, (by k_mem), (by k_mem), (by k_mem), (by k_mem), (by k_mem), (by k_mem), ⟨_, by k_mem⟩, ?_, ?_, ?_, ?_⟩
  · intro q hq b hb'
    have z1 : @LT.lt Nat _ b.1 L' := ktn_ltOf l1.2 b hb'
    have z2 : @LT.lt Nat _ (L' + 1) al := lal.2.1
    have z3 : @LT.lt Nat _ al c1' := l11.1
    have z4 : @LT.lt Nat _ c1' f1 := l21
    have z5 : @LT.lt Nat _ al c2' := l12.2.2.1
    have z6 : @LT.lt Nat _ c2' st := l22
    have z7 : @LT.lt Nat _ al D9 := lD.2.2.2.2.1
    have z8 : @LT.lt Nat _ al dx := lpb.2.2.2.2.2.1
    have z9 : @LT.lt Nat _ dx x := hdx
    have z10 := hb b hb'
    have z11 : @Ne Nat b.1 84 := z10
    iterate 9
      rcases List.mem_cons.mp hq with rfl | hq
      · show @Ne Nat _ _
        first | omega | exact Ne.symm z11
    exact nomatch hq
  · intro q hq
    exact List.mem_append_right [_, _, _, _, _, _, _, _, _] hq
  · have a1 : @LT.lt Nat _ D9 dx := lpb.1
    have a2 : @LT.lt Nat _ st dx := lpb.2.1
    have a3 : @LT.lt Nat _ c2' dx := lpb.2.2.1
    have a4 : @LT.lt Nat _ f1 dx := lpb.2.2.2.1
    have a5 : @LT.lt Nat _ c1' dx := lpb.2.2.2.2.1
    have a6 : @LT.lt Nat _ al dx := lpb.2.2.2.2.2.1
    have b1 : @LT.lt Nat _ dx x := hdx
    have b2 : @LT.lt Nat _ x pb := hxp
    have b3 : @LT.lt Nat _ al D9 := lD.2.2.2.2.1
    have b4 : @LT.lt Nat _ al c1' := l11.1
    have b5 : @LT.lt Nat _ c1' f1 := l21
    have b6 : @LT.lt Nat _ al c2' := l12.2.2.1
    have b7 : @LT.lt Nat _ c2' st := l22
    have d1 : @LT.lt Nat _ (L' + 1 + 1) al := lal.1
    have d2 : @LT.lt Nat _ (L' + 1) al := lal.2.1
    have d3 : @LT.lt Nat _ 84 al := lal.2.2.1
    have d4 := lal.2.2.2
    simp only [List.cons_append, List.nil_append, List.forall_mem_cons]
    refine ⟨⟨?_, ?_, ?_⟩, ⟨?_, ?_, ?_⟩, ⟨?_, ?_, ?_⟩, ⟨?_, ?_, ?_⟩, ⟨?_, ?_, ?_⟩, ⟨?_, ?_, ?_⟩, ⟨?_, ?_, ?_⟩, ⟨?_, ?_, ?_⟩, ⟨?_, ?_, ?_⟩, fun q hq => ⟨?_, ?_, ?_⟩⟩
    all_goals first | (show @Ne Nat _ _; omega) | (have d5 : @LT.lt Nat _ q.1 al := ktn_ltOf d4 q hq; show @Ne Nat _ _; omega)
  · have a6 : @LT.lt Nat _ al dx := lpb.2.2.2.2.2.1
    have b1 : @LT.lt Nat _ dx x := hdx
    have b2 : @LT.lt Nat _ x pb := hxp
    refine ⟨?_, ?_, ?_⟩ <;> omega
  · have dT' : oT.data = Data.cell (some (Value.str text t1)) := by rw [dT]; with_unfolding_all rfl
    clear dT dA
    clear hret N F B X T C kF kN Tc kX NC FC NB FB NA FA C9 hk hd hu lpb
    generalize qualnameIn _ _ _ = qn at d21 ⊢
    clear lD hdx hxp d22 l12 l22 l11 l21 lal
    unfold Reads Con
    intro news news' pos tp t1 nn m1 m2 m3 m4 hpos hlen U dp un gd cn cs a ccd cl outer A₀ base h₀ L m s Q E B F X N T hk hd hu hret
    have m5 := Upd.mem (U 0 0)
    refine wpAny_call ?_
    k_dflt (refine' code_nest ?k1 ?k2 ?k3 ?k4 ?k5 ?kA ?kF ?kK ?k6 ?k7 ?k8 ?k9 ?kB ?_ ?c2 ?c3 ?c4 ?c5; (case kA => exact rfl); (case kF => exact rfl); (case kK => assumption); (case k1 => k_asm); (case k2 => k_asm); (case k3 => k_asm); (case k4 => k_asm); (case k5 => k_asm); (case k6 => k_mem); (case k7 => exact codeRec_news (by k_asm) (by k_mem) (by assumption) (by assumption)); (case k8 => ktr_room); (case k9 => exact BindsTo.of_eq rfl); (case c5 => decide); (case kB => exact locs rfl); (case c2 => exact rfl); (case c3 => exact rfl); (case c4 => exact rfl); k_whole; intro g' L' h' FG' F' N' B' X' T'; (try dsimp only); (try k_lift B'); (try k_fold))
    repeat' (first | (unfold StopP; first | ((with_reducible show wpAny _ _ (call (Value.ref 73) _) _ _ _); k_dflt (refine Con.use (by k_asm) (by k_asm) (by k_asm) (by k_asm) (by k_asm) (con_new _ _) (by walk_at "k6") (by walk_at "k7") (by walk_at "k8") ?_; walk_at "cu7"))) | (k_unfold; (try dsimp only)) | (k_end; wrow_close) | walk1 | (dsimp only; walk1) | (leave1; walk_say "STEP leave1"; try dsimp only) | fail "no step")
    exact hret _ _ _ _ (by assumption) (by assumption) ⟨_, _, rfl, rfl⟩
end Mine
end
section
open PySem PySem.W PyProof.Rows
open PySem.Spec PySem.Calls
set_option maxRecDepth 100000
set_option maxHeartbeats 8000000
namespace Mine
theorem rs_C_spell : True := by
  w_top off
  exact True.intro

/-! a list comprehension over a text -/
def SrcSt (prog : Program) (w : World) (A : Around) (h₀ : Heap) (L : Addr) (m : Str → Option Value) (env : Env) (elt : PySem.Expr) (x : Str) (scope : Scope) (cl : List (Str × Addr)) (Fin : Shared → List Value → List (Addr × Obj) → Prop) (xv : Value) (s₁ : Shared) : Prop :=
  ∃ b t news, xv = .str b t ∧ A.handled = none ∧ Fr h₀ L s₁.heap m ∧ News h₀ L s₁.heap news ∧ b.length ≤ sizeLine ∧ b.cps.all (· < 128) = true ∧
    ∀ s₂ : Shared, (∃ h, s₂ = { s₁ with heap := h }) → LCg.CompRest prog w A h₀ L m env elt x scope cl s₂ (fun _ => True) (SignAt b) (Fin s₂) b.cps.size 0 [] news
theorem st_st {h₀ : Heap} {L I : Addr} {b : Str} {t : Tok} : ∀ i (h h' : Heap) (o : Obj) (nw : List (Addr × Obj)), h.IsStrIter I "str_ascii_iterator" b t i → h.get? I = some o → h'.get? I = some o → (∀ b o, h₀.get? b = some o → h'.get? b = some o) → News h₀ L h' nw → True → h'.IsStrIter I "str_ascii_iterator" b t i :=
  fun i h h' o nw st e e' _ _ _ => by
    obtain ⟨o', q, r⟩ := st
    rw [e] at q; cases q
    exact ⟨o, e', r⟩
theorem ListComp_St {prog : Program} {w : World} {A : Around} {E : Value → Shared → Prop} {s : Shared} {h₀ : Heap} {L : Addr} {m : Str → Option Value} {env : Env} {elt iter : PySem.Expr} {x : Str} {px : Pos} {scope : Scope} {cl : List (Str × Addr)} {pos : Pos} {Q : Value → Shared → Prop} (_F₀ : Fr h₀ L s.heap m)
    (hclos : closureFor scope env = pure cl) (hcell : ∀ y ∈ scope.names, y.2 ≠ .cell) (hkind : scope.kind = .function)
    (hnames : ∀ y ∈ scope.names, y.2 = .local → scope.names.lookup y.1 = some .local) (hx : scope.names.lookup x = some .local)
    (h : wpAny (model prog w) A (eval iter env) (SrcSt prog w A h₀ L m env elt x scope cl (fun s₂ => LCg.FinE h₀ L m s₂ Q)) E s)
    (hs : ∀ x, foldedSetIterable iter env x = pure x := by intro _; rfl) :
    wpAny (model prog w) A (eval (.ListComp elt [⟨.Name x px, iter, [], 0⟩] scope pos) env) Q E s := by
  revert prog w A E s h₀ L m env elt iter x px scope cl pos Q _F₀ hclos hcell hkind hnames hx h hs
  intro prog w A E s h₀ L m env elt iter x px scope cl pos Q _F₀ hclos hcell hkind hnames hx h hs
  rw [eval_ListComp]
  refine wpAny_comprehension_free (use := none) rfl hs hclos hkind hnames (wpAny_mono h ?_ fun _ _ e => e)
  intro xv s₁ h₁
  revert h₁
  refine exI ?_
  intro b
  refine exI ?_
  intro t
  refine exI ?_
  intro news
  intro h₁
  obtain ⟨rfl, hh, F, N, hsz, ha, R⟩ := h₁
  refine wpAny_pyIter_ascii ha ?_
  have up : ∀ a o, s₁.heap.get? a = some o → (s₁.heap.push { cls := .type "str_ascii_iterator", data := .fields #[.str b t, .int 0 0] }).get? a = some o := fun a o e => Heap.get?_push_of_some _ e
  refine LCg.block_U (Walks.strAscii hh s₁.heap.objs.size b t) hsz (fun i h st => by obtain ⟨o, e, _⟩ := st; exact ⟨o, e⟩) st_st hcell hkind hx ⟨_, Heap.get?_push_size _ rfl, rfl, rfl⟩ (fun a ha => ?_)
    (F.keeps up) (N.grown up) (Nat.ne_of_lt F.ns.lt) (next_is_new F) (fun p hp => Nat.ne_of_lt (Heap.lt_size (N p hp).1)) trivial (R _ ⟨_, rfl⟩) ?_
  · rw [List.mem_singleton.mp ha]
    show s₁.heap.objs.size < (s₁.heap.push _).objs.size
    rw [Heap.size_push]; exact Nat.lt_succ_self _
  · intro D C h tk m' ys news' F' N' o1 hn hC₀ hD₀ hCL hDL hCD offC fin
    refine ⟨m', hn, ?_⟩
    intro h'' hs''
    refine fin D h'' tk (F'.change hs'' hCL hC₀) ?_ o1
    intro p hp
    refine ⟨hs''.extBut _ _ ?_ (N' p hp).1, (N' p hp).2⟩
    rcases List.mem_cons.mp hp with rfl | hp
    · exact Ne.symm hCD
    · exact offC p hp
def escS (x : Str) : List Str := x.cps.toList.map fun c => Str.ofString "\\" ++ (⟨#[c]⟩ : Str)
def spellS (x : Str) (way : Int) : Str :=
  if way = 0 then x ++ Str.ofString " " else if way = 1 then Str.ofString "\"" ++ x ++ Str.ofString "\"\n" else Txt.join (Str.ofString "") (escS x) ++ Str.ofString "\t\n"
local macro_rules | `(tactic| walk_at "eval ListComp") => `(tactic| (k_here; k_dflt (refine ListComp_St (_F₀ := by k_asm) (by rfl) (by decide) (by rfl) (by decide) (by rfl) ?_)))
local macro_rules | `(tactic| walk_at "SrcSt") => `(tactic| (k_dflt (refine ⟨_, _, _, rfl, rfl, by k_asm, by k_asm, by assumption, by assumption, ?_⟩); intro s2' hs2'; (revert hs2'; refine exI ?_; intro g2'; intro hs2'); subst hs2'))
local macro_rules | `(tactic| walk_at "CompRest") => `(tactic| refine stopper ?_)
local macro_rules | `(tactic| walk_at "CompEnd") => `(tactic| exact LCg.CompEnd.intro (by assumption) (by assumption) _ (fun p hp => hp) (by assumption) trivial ⟨rfl, by first | assumption | skip⟩)
theorem esc_len (x : Str) : (escS x).length = x.length := by unfold escS; simp [Str.length]
theorem esc_sum (x : Str) : ((escS x).map (·.length)).sum = 2 * x.length := by
  unfold escS Str.length
  rw [← Array.length_toList]
  generalize x.cps.toList = l
  induction l with
  | nil => rfl
  | cons c l ih =>
    simp only [List.map_cons, List.sum_cons, List.length_cons, ih]
    have : (Str.ofString "\\" ++ (⟨#[c]⟩ : Str)).cps.size = 2 := rfl
    rw [this]; omega
theorem esc_ok {x : Str} (h : x.length ≤ 6) : (((escS x).map (·.length)).sum + (escS x).length * (Str.ofString "").length ≤ 16777216) := by
  have e : (Str.ofString "").length = 0 := by decide
  rw [esc_sum, e]; omega
theorem esc_join {x : Str} (h : x.length ≤ 6) : (Txt.join (Str.ofString "") (escS x)).length ≤ 12 := by
  have h1 := join_plain_closes (Str.ofString "") (escS x)
  rw [eq_of_beq h1]
  have h2 := StrLaws.join_length_le (Str.ofString "") (escS x)
  have e : (Str.ofString "").length = 0 := by decide
  rw [esc_sum, e] at h2; omega
local macro_rules | `(tactic| walk_at "call builtin:str.join") => `(tactic| (k_here; k_dflt (refine join_list (News.isList (by k_asm) (by k_mem)) (by assumption) (esc_ok (by assumption)) ?_); intro t9 k9))
theorem con_spell {prog w p loose mean mg mb} (news : List (Addr × Obj)) (x : Str) (hx : x.cps.all (· < 128) = true) (hlen : x.length ≤ 6) (t1 t2 : Tok) (way : Int) (h0 : 0 ≤ way) (h1 : way < 3) :
   Con 4 32 prog w p loose mean mg mb 94 [.str x t1, .int way t2] news (fun r news' => (∃ u, r = .str (spellS x way) u) ∧ news' = news) := by
  unfold Con
  intros dp un gd cn cs a ccd cl outer A₀ base h₀ L m s Q E
  revert hx hlen h0 h1
  revert prog w p loose mean mg mb news x t1 t2 way dp un gd cn cs a ccd cl outer A₀ base h₀ L m s Q E
  refine no_implicit_lambda% (all8 (by repeat (first | exact neS | exact neA | exact neW | refine nP ?_ ?_ | exact neT _ | infer_instance)) ?_)
  generalize Prod.fst (c8 _ _) = prog, Prod.fst (Prod.snd (c8 _ _)) = w, Prod.fst (Prod.snd (Prod.snd (c8 _ _))) = p, Prod.fst (Prod.snd (Prod.snd (Prod.snd (c8 _ _)))) = loose, Prod.fst (Prod.snd (Prod.snd (Prod.snd (Prod.snd (c8 _ _))))) = mean, Prod.fst (Prod.snd (Prod.snd (Prod.snd (Prod.snd (Prod.snd (c8 _ _)))))) = mg, Prod.fst (Prod.snd (Prod.snd (Prod.snd (Prod.snd (Prod.snd (Prod.snd (c8 _ _))))))) = mb, Prod.snd (Prod.snd (Prod.snd (Prod.snd (Prod.snd (Prod.snd (Prod.snd (c8 _ _))))))) = news
  refine no_implicit_lambda% (all8 (by repeat (first | exact neS | exact neA | exact neW | refine nP ?_ ?_ | exact neT _ | infer_instance)) ?_)
  generalize Prod.fst (c8 _ _) = x, Prod.fst (Prod.snd (c8 _ _)) = t1, Prod.fst (Prod.snd (Prod.snd (c8 _ _))) = t2, Prod.fst (Prod.snd (Prod.snd (Prod.snd (c8 _ _)))) = way, Prod.fst (Prod.snd (Prod.snd (Prod.snd (Prod.snd (c8 _ _))))) = dp, Prod.fst (Prod.snd (Prod.snd (Prod.snd (Prod.snd (Prod.snd (c8 _ _)))))) = un, Prod.fst (Prod.snd (Prod.snd (Prod.snd (Prod.snd (Prod.snd (Prod.snd (c8 _ _))))))) = gd, Prod.snd (Prod.snd (Prod.snd (Prod.snd (Prod.snd (Prod.snd (Prod.snd (c8 _ _))))))) = cn
  refine no_implicit_lambda% (all8 (by repeat (first | exact neS | exact neA | exact neW | refine nP ?_ ?_ | exact neT _ | infer_instance)) ?_)
  generalize Prod.fst (c8 _ _) = cs, Prod.fst (Prod.snd (c8 _ _)) = a, Prod.fst (Prod.snd (Prod.snd (c8 _ _))) = ccd, Prod.fst (Prod.snd (Prod.snd (Prod.snd (c8 _ _)))) = cl, Prod.fst (Prod.snd (Prod.snd (Prod.snd (Prod.snd (c8 _ _))))) = outer, Prod.fst (Prod.snd (Prod.snd (Prod.snd (Prod.snd (Prod.snd (c8 _ _)))))) = A₀, Prod.fst (Prod.snd (Prod.snd (Prod.snd (Prod.snd (Prod.snd (Prod.snd (c8 _ _))))))) = base, Prod.snd (Prod.snd (Prod.snd (Prod.snd (Prod.snd (Prod.snd (Prod.snd (c8 _ _))))))) = h₀
  refine no_implicit_lambda% (all4 (by repeat (first | exact neS | exact neA | exact neW | refine nP ?_ ?_ | exact neT _ | infer_instance)) ?_)
  generalize Prod.fst (cp4 _ _) = L, Prod.fst (Prod.snd (cp4 _ _)) = m, Prod.fst (Prod.snd (Prod.snd (cp4 _ _))) = s, Prod.snd (Prod.snd (Prod.snd (cp4 _ _))) = Q
  intro E
  intro hx hlen h0 h1 B F X N T hk hd hu hret
  have hsz : x.length ≤ sizeLine := Nat.le_trans hlen (by decide +kernel)
  refine wpAny_call ?_
  k_dflt cell_enter
  k_steps
  · rename_i hw _ _ _ _ _ _ _ _ _ _ _
    exact hret _ _ _ _ (by assumption) (by assumption) ⟨⟨_, by rw [show spellS x way = x ++ Str.ofString " " from if_pos (by assumption)]⟩, rfl⟩
  · exact hret _ _ _ _ (by assumption) (by assumption) ⟨⟨_, by rw [show spellS x way = Str.ofString "\"" ++ x ++ Str.ofString "\"\n" from (if_neg (by assumption)).trans (if_pos (by assumption))]⟩, rfl⟩
  · unfold StopP
    refine rest_inv (fun i ys nw => nw = news ∧ StrsAre ys ((escS x).take i)) ⟨rfl, .nil⟩ ?_ ?_
    · intro i hi ys nw hJ v I oI C oC D m₂ h tk E' hv hC hvx F9 N9 off9
      obtain ⟨hnw, hJ⟩ := hJ
      subst hnw
      revert hv
      refine exI ?_
      intro c
      refine exI ?_
      intro u
      intro hx9
      obtain ⟨hc, hv⟩ := hx9
      subst hv
      have e3 : (escS x).take (i + 1) = (escS x).take i ++ [Str.ofString "\\" ++ (⟨#[c]⟩ : Str)] := by
        rw [List.take_add_one]; unfold escS; simp [hc]
      k_steps
      exact LCg.CompEnd.intro (by assumption) (by assumption) _ (fun p hp => hp) (by assumption) trivial ⟨rfl, by rw [e3]; exact kct_snoc hJ⟩
    · intro ys nw hJ
      obtain ⟨hnw, hJ⟩ := hJ
      subst hnw
      rw [show (escS x).take x.cps.size = escS x by rw [List.take_of_length_le]; unfold escS; simp] at hJ
      have hj := esc_join hlen
      k_steps
      exact hret _ _ _ _ (by assumption) (by first | assumption | exact cb_drop (by assumption) (fun p hp => by repeat (first | exact hp | apply List.mem_cons_of_mem))) ⟨⟨_, by rw [show spellS x way = Txt.join (Str.ofString "") (escS x) ++ Str.ofString "\t\n" from (if_neg (by assumption)).trans (if_neg (by assumption))]⟩, rfl⟩
end Mine
end
section
open PySem PySem.W PyProof.Rows
open PySem.Spec PySem.Calls
set_option maxRecDepth 100000
set_option maxHeartbeats 8000000
namespace Mine
/-- what the code at `f` does, entered by its call -/
def ConC (D U : Nat) (prog : Program) (w : World) (p : Program) (loose : List Str) (mean : ExcName → Option Value) (mg mb : Str → Option Value) (f : Addr) (vs : List Value) (news : List (Addr × Obj)) (post : Value → List (Addr × Obj) → Prop) : Prop :=
  ∀ (dp un : Nat) (gd : Option (List Code)) (cn : Str) (cs : Scope) (a : Addr) (ccd : Value) (cl : List (Str × Addr)) (outer : List Env) (A₀ : Around) (base h₀ : Heap) (L : Addr) (m : Str → Option Value) (s : Shared) (Q E : Value → Shared → Prop),
    Below A₀ base outer h₀ → Fr h₀ L s.heap m → (hd.heap_39 w.params).In h₀ → News h₀ L s.heap news → Top p loose mean mg mb h₀ → cs.kind = .function → dp + D < recursionLimit → un + U < cLine →
    (∀ r news' h' tk', Fr h₀ L h' m → News h₀ L h' news' → post r news' → Q r { s with heap := h', toks := tk' }) →
    codeAny (model prog w) (ktrTop dp un gd cn cs L a ccd cl outer) (.call (.ref f) ⟨vs, []⟩) (fun r s' => match r with | .ok (.ret v) => Q v s' | .ok _ => False | .error e => E e s') s
theorem ConC.con {D U : Nat} {prog : Program} {w : World} {p : Program} {loose : List Str} {mean : ExcName → Option Value} {mg mb : Str → Option Value} {f : Addr} {vs : List Value} {news : List (Addr × Obj)} {post : Value → List (Addr × Obj) → Prop}
    (C : ConC D U prog w p loose mean mg mb f vs news post) : Con D U prog w p loose mean mg mb f vs news post :=
  fun dp un gd cn cs a ccd cl outer A₀ base h₀ L m s Q E B F X N T hk hd hu h => wpAny_call (C dp un gd cn cs a ccd cl outer A₀ base h₀ L m s Q E B F X N T hk hd hu h)
abbrev mD (c1 c2 c3 c4 : Int) (k1 k2 k3 k4 kw : Tok) (st pb : Addr) (ln : Int) (kl : Tok) : Obj :=
  dictOf [⟨c1, .str (Str.ofString "lineno") k1, .int ln kl⟩, ⟨c2, .str (Str.ofString "instream") k2, .ref st⟩, ⟨c3, .str (Str.ofString "whitespace") k3, .str (Str.ofString "\n\t\r ") kw⟩, ⟨c4, .str (Str.ofString "pushback") k4, .ref pb⟩] 4
/-- a lexer over a text, in a ledger that hangs on the line's number and the place -/
structure Lx (prog : Program) (w : World) (p : Program) (loose : List Str) (mean : ExcName → Option Value) (mg mb : Str → Option Value) (text : Str) (x dx pb al st D rd c ca ct : Addr) (c1 c2 c3 c4 c5 : Int) (k1 k2 k3 k4 k5 kw : Tok) (fds fd : FuncData) (cO oa ot : Obj) (kk : Nat) (nw : Int → Tok → Int → Tok → List (Addr × Obj)) : Prop where
  hx : ∀ ln kl q t, (x, instObj 73 dx) ∈ nw ln kl q t
  hu1 : ∀ ln kl q t q' t', Upd al (W.listOf #[.int q t] kk) (W.listOf #[.int q' t'] kk) (nw ln kl q t) (nw ln kl q' t')
  hu2 : ∀ ln kl ln' kl' q t, Upd dx (mD c1 c2 c3 c4 k1 k2 k3 k4 kw st pb ln kl) (mD c1 c2 c3 c4 k1 k2 k3 k4 kw st pb ln' kl') (nw ln kl q t) (nw ln' kl' q t)
  hst : ∀ ln kl q t, (st, fnO fds (some D)) ∈ nw ln kl q t
  hD : ∀ ln kl q t, (D, dictOf [⟨c5, .str (Str.ofString "read") k5, .ref rd⟩] 1) ∈ nw ln kl q t
  hrd : ∀ ln kl q t, (rd, fnO fd none) ∈ nw ln kl q t
  hc : ∀ ln kl q t, (c, cO) ∈ nw ln kl q t
  hca : ∀ ln kl q t, (ca, oa) ∈ nw ln kl q t
  hct : ∀ ln kl q t, (ct, ot) ∈ nw ln kl q t
  reads : Reads prog w p loose mean mg mb rd (fnO fd none) c cO ca ct al oa ot text
section
variable {prog : Program} {w : World} {p : Program} {loose : List Str} {mean : ExcName → Option Value} {mg mb : Str → Option Value} {text : Str} {x dx pb al st D rd c ca ct : Addr} {c1 c2 c3 c4 c5 : Int} {k1 k2 k3 k4 k5 kw : Tok} {fds fd : FuncData} {cO oa ot : Obj} {kk : Nat} {nw : Int → Tok → Int → Tok → List (Addr × Obj)}
theorem Lx.hd (X : Lx prog w p loose mean mg mb text x dx pb al st D rd c ca ct c1 c2 c3 c4 c5 k1 k2 k3 k4 k5 kw fds fd cO oa ot kk nw) (ln : Int) (kl : Tok) (q : Int) (t : Tok) : (dx, mD c1 c2 c3 c4 k1 k2 k3 k4 kw st pb ln kl) ∈ nw ln kl q t := Upd.mem (X.hu2 ln kl 0 0 q t)
theorem Lx.hal (X : Lx prog w p loose mean mg mb text x dx pb al st D rd c ca ct c1 c2 c3 c4 c5 k1 k2 k3 k4 k5 kw fds fd cO oa ot kk nw) (ln : Int) (kl : Tok) (q : Int) (t : Tok) : (al, W.listOf #[.int q t] kk) ∈ nw ln kl q t := Upd.mem (X.hu1 ln kl q t 0 0)
theorem Lx.cons (X : Lx prog w p loose mean mg mb text x dx pb al st D rd c ca ct c1 c2 c3 c4 c5 k1 k2 k3 k4 k5 kw fds fd cO oa ot kk nw) {d : Addr} {o : Obj} (h1 : d ≠ al) (h2 : d ≠ dx) : Lx prog w p loose mean mg mb text x dx pb al st D rd c ca ct c1 c2 c3 c4 c5 k1 k2 k3 k4 k5 kw fds fd cO oa ot kk (fun ln kl q t => (d, o) :: nw ln kl q t) where
  hx _ _ _ _ := List.mem_cons_of_mem _ (X.hx _ _ _ _)
  hu1 _ _ _ _ _ _ := .tail h1 (X.hu1 _ _ _ _ _ _)
  hu2 _ _ _ _ _ _ := .tail h2 (X.hu2 _ _ _ _ _ _)
  hst _ _ _ _ := List.mem_cons_of_mem _ (X.hst _ _ _ _)
  hD _ _ _ _ := List.mem_cons_of_mem _ (X.hD _ _ _ _)
  hrd _ _ _ _ := List.mem_cons_of_mem _ (X.hrd _ _ _ _)
  hc _ _ _ _ := List.mem_cons_of_mem _ (X.hc _ _ _ _)
  hca _ _ _ _ := List.mem_cons_of_mem _ (X.hca _ _ _ _)
  hct _ _ _ _ := List.mem_cons_of_mem _ (X.hct _ _ _ _)
  reads := X.reads
end
local macro_rules | `(tactic| k_mem) => `(tactic| first | with_reducible assumption | with_reducible exact Lx.hx (by assumption) _ _ _ _ | with_reducible exact Lx.hd (by assumption) _ _ _ _ | with_reducible exact Lx.hst (by assumption) _ _ _ _ | with_reducible exact Lx.hD (by assumption) _ _ _ _ | with_reducible exact Lx.hrd (by assumption) _ _ _ _ | with_reducible exact List.mem_cons_self | (with_reducible refine List.mem_cons_of_mem _ ?_; k_mem))
local macro_rules | `(tactic| k_upd) => `(tactic| first | with_reducible exact Lx.hu2 (by assumption) _ _ _ _ _ _ | with_reducible exact Lx.hu1 (by assumption) _ _ _ _ _ _)
local macro_rules | `(tactic| walk_at "getMethod ref") => `(tactic| (k_here; k_dflt (refine fn_method (by k_asm) (by with_reducible exact Lx.hst (by assumption) _ _ _ _) (by with_reducible exact Lx.hD (by assumption) _ _ _ _) (by rfl) (by rfl) fn_lk ?_; (try dsimp only))))
local macro_rules | `(tactic| walk_at "cu6") => `(tactic| (intro r9 news9 h9 tk9 F9 N9; (repeat (refine exI ?_; intro x9)); intro hp9; obtain ⟨e9, f9⟩ := hp9; subst e9 f9; (try dsimp only)))
local macro_rules | `(tactic| walk_at "call ref") => `(tactic| (k_here; (first | with_reducible show wpAny _ _ (call (Value.ref _) [Value.int 1 _]) _ _ _); refine stopper ?_))
local macro_rules | `(tactic| walk_at "callWith ref") => `(tactic| (k_here; k_dflt (refine callWith_F (by exact FnAt.of (by k_asm) (by exact Lx.hrd (by assumption) _ _ _ _)) ?_; k_whole)))
local macro_rules | `(tactic| walk_at "FnAt") => `(tactic| (k_dflt (exact FnAt.of (by k_asm) (by exact Lx.hrd (by assumption) _ _ _ _))))
theorem con_rc {prog w p loose mean mg mb} {text : Str} {x dx pb al st D rd c ca ct : Addr} {c1 c2 c3 c4 c5 : Int} {k1 k2 k3 k4 k5 kw : Tok} {fds fd : FuncData} {cO oa ot : Obj} {kk : Nat} {nw : Int → Tok → Int → Tok → List (Addr × Obj)} (X0 : Lx prog w p loose mean mg mb text x dx pb al st D rd c ca ct c1 c2 c3 c4 c5 k1 k2 k3 k4 k5 kw fds fd cO oa ot kk nw) (ln : Int) (kl : Tok) (pos : Int) (tp : Tok) (h0 : 0 ≤ pos) (h1 : pos ≤ text.length) (ch : Str) (hch : Txt.slice text (some pos) (some (pos + 1)) = ch) :
   ConC 4 24 prog w p loose mean mg mb 56 [.ref x] (nw ln kl pos tp) (fun r news' => ∃ u kl' tp', r = .str ch u ∧ news' = nw (if (ch == Str.ofString "\n") = true then ln + 1 else ln) kl' (pos + (ch.length : Int)) tp') := by
  unfold ConC
  intros dp un gd cn cs a ccd cl outer A₀ base h₀ L m s Q E
  revert X0 h0 h1 hch
  revert prog w p loose mean mg mb text x dx pb al st D rd c ca ct c1 c2 c3 c4 c5 k1 k2 k3 k4 k5 kw fds fd cO oa ot kk nw ln kl pos tp ch dp un gd cn cs a ccd cl outer A₀ base h₀ L m s Q E
  refine no_implicit_lambda% (all8 (by repeat (first | exact neS | exact neA | exact neW | refine nP ?_ ?_ | exact neT _ | infer_instance)) ?_)
  generalize Prod.fst (c8 _ _) = prog, Prod.fst (Prod.snd (c8 _ _)) = w, Prod.fst (Prod.snd (Prod.snd (c8 _ _))) = p, Prod.fst (Prod.snd (Prod.snd (Prod.snd (c8 _ _)))) = loose, Prod.fst (Prod.snd (Prod.snd (Prod.snd (Prod.snd (c8 _ _))))) = mean, Prod.fst (Prod.snd (Prod.snd (Prod.snd (Prod.snd (Prod.snd (c8 _ _)))))) = mg, Prod.fst (Prod.snd (Prod.snd (Prod.snd (Prod.snd (Prod.snd (Prod.snd (c8 _ _))))))) = mb, Prod.snd (Prod.snd (Prod.snd (Prod.snd (Prod.snd (Prod.snd (Prod.snd (c8 _ _))))))) = text
  refine no_implicit_lambda% (all8 (by repeat (first | exact neS | exact neA | exact neW | refine nP ?_ ?_ | exact neT _ | infer_instance)) ?_)
  generalize Prod.fst (c8 _ _) = x, Prod.fst (Prod.snd (c8 _ _)) = dx, Prod.fst (Prod.snd (Prod.snd (c8 _ _))) = pb, Prod.fst (Prod.snd (Prod.snd (Prod.snd (c8 _ _)))) = al, Prod.fst (Prod.snd (Prod.snd (Prod.snd (Prod.snd (c8 _ _))))) = st, Prod.fst (Prod.snd (Prod.snd (Prod.snd (Prod.snd (Prod.snd (c8 _ _)))))) = D, Prod.fst (Prod.snd (Prod.snd (Prod.snd (Prod.snd (Prod.snd (Prod.snd (c8 _ _))))))) = rd, Prod.snd (Prod.snd (Prod.snd (Prod.snd (Prod.snd (Prod.snd (Prod.snd (c8 _ _))))))) = c
  refine no_implicit_lambda% (all8 (by repeat (first | exact neS | exact neA | exact neW | refine nP ?_ ?_ | exact neT _ | infer_instance)) ?_)
  generalize Prod.fst (c8 _ _) = ca, Prod.fst (Prod.snd (c8 _ _)) = ct, Prod.fst (Prod.snd (Prod.snd (c8 _ _))) = c1, Prod.fst (Prod.snd (Prod.snd (Prod.snd (c8 _ _)))) = c2, Prod.fst (Prod.snd (Prod.snd (Prod.snd (Prod.snd (c8 _ _))))) = c3, Prod.fst (Prod.snd (Prod.snd (Prod.snd (Prod.snd (Prod.snd (c8 _ _)))))) = c4, Prod.fst (Prod.snd (Prod.snd (Prod.snd (Prod.snd (Prod.snd (Prod.snd (c8 _ _))))))) = c5, Prod.snd (Prod.snd (Prod.snd (Prod.snd (Prod.snd (Prod.snd (Prod.snd (c8 _ _))))))) = k1
  refine no_implicit_lambda% (all8 (by repeat (first | exact neS | exact neA | exact neW | refine nP ?_ ?_ | exact neT _ | infer_instance)) ?_)
  generalize Prod.fst (c8 _ _) = k2, Prod.fst (Prod.snd (c8 _ _)) = k3, Prod.fst (Prod.snd (Prod.snd (c8 _ _))) = k4, Prod.fst (Prod.snd (Prod.snd (Prod.snd (c8 _ _)))) = k5, Prod.fst (Prod.snd (Prod.snd (Prod.snd (Prod.snd (c8 _ _))))) = kw, Prod.fst (Prod.snd (Prod.snd (Prod.snd (Prod.snd (Prod.snd (c8 _ _)))))) = fds, Prod.fst (Prod.snd (Prod.snd (Prod.snd (Prod.snd (Prod.snd (Prod.snd (c8 _ _))))))) = fd, Prod.snd (Prod.snd (Prod.snd (Prod.snd (Prod.snd (Prod.snd (Prod.snd (c8 _ _))))))) = cO
  refine no_implicit_lambda% (all8 (by repeat (first | exact neS | exact neA | exact neW | refine nP ?_ ?_ | exact neT _ | infer_instance)) ?_)
  generalize Prod.fst (c8 _ _) = oa, Prod.fst (Prod.snd (c8 _ _)) = ot, Prod.fst (Prod.snd (Prod.snd (c8 _ _))) = kk, Prod.fst (Prod.snd (Prod.snd (Prod.snd (c8 _ _)))) = nw, Prod.fst (Prod.snd (Prod.snd (Prod.snd (Prod.snd (c8 _ _))))) = ln, Prod.fst (Prod.snd (Prod.snd (Prod.snd (Prod.snd (Prod.snd (c8 _ _)))))) = kl, Prod.fst (Prod.snd (Prod.snd (Prod.snd (Prod.snd (Prod.snd (Prod.snd (c8 _ _))))))) = pos, Prod.snd (Prod.snd (Prod.snd (Prod.snd (Prod.snd (Prod.snd (Prod.snd (c8 _ _))))))) = tp
  refine no_implicit_lambda% (all8 (by repeat (first | exact neS | exact neA | exact neW | refine nP ?_ ?_ | exact neT _ | infer_instance)) ?_)
  generalize Prod.fst (c8 _ _) = ch, Prod.fst (Prod.snd (c8 _ _)) = dp, Prod.fst (Prod.snd (Prod.snd (c8 _ _))) = un, Prod.fst (Prod.snd (Prod.snd (Prod.snd (c8 _ _)))) = gd, Prod.fst (Prod.snd (Prod.snd (Prod.snd (Prod.snd (c8 _ _))))) = cn, Prod.fst (Prod.snd (Prod.snd (Prod.snd (Prod.snd (Prod.snd (c8 _ _)))))) = cs, Prod.fst (Prod.snd (Prod.snd (Prod.snd (Prod.snd (Prod.snd (Prod.snd (c8 _ _))))))) = a, Prod.snd (Prod.snd (Prod.snd (Prod.snd (Prod.snd (Prod.snd (Prod.snd (c8 _ _))))))) = ccd
  refine no_implicit_lambda% (all8 (by repeat (first | exact neS | exact neA | exact neW | refine nP ?_ ?_ | exact neT _ | infer_instance)) ?_)
  generalize Prod.fst (c8 _ _) = cl, Prod.fst (Prod.snd (c8 _ _)) = outer, Prod.fst (Prod.snd (Prod.snd (c8 _ _))) = A₀, Prod.fst (Prod.snd (Prod.snd (Prod.snd (c8 _ _)))) = base, Prod.fst (Prod.snd (Prod.snd (Prod.snd (Prod.snd (c8 _ _))))) = h₀, Prod.fst (Prod.snd (Prod.snd (Prod.snd (Prod.snd (Prod.snd (c8 _ _)))))) = L, Prod.fst (Prod.snd (Prod.snd (Prod.snd (Prod.snd (Prod.snd (Prod.snd (c8 _ _))))))) = m, Prod.snd (Prod.snd (Prod.snd (Prod.snd (Prod.snd (Prod.snd (Prod.snd (c8 _ _))))))) = s
  refine no_implicit_lambda% (all2 (by repeat (first | exact neS | exact neA | exact neW | refine nP ?_ ?_ | exact neT _ | infer_instance)) ?_)
  generalize Prod.fst (cp2 _ _) = Q, Prod.snd (cp2 _ _) = E
  intro X0 h0 h1 hch B F X N T hk hd hu hret
  subst hch
  k_dflt cell_enter
  repeat' (first | (unfold StopP; first | ((with_reducible show wpAny _ _ (call (Value.ref _) [Value.int 1 _]) _ _ _); k_dflt (refine' Con.use ?k1 ?k2 ?k3 ?k4 ?k5 (Lx.reads (by assumption) _ _ _ _ _ _ ?p1 ?p2 ?p3 ?p4 ?p5 ?p6 ?p7) ?k6 ?k7 ?k8 ?_; (case k1 | k2 | k3 | k4 | k5 => k_asm); (case k6 => walk_at "k6"); (case k7 => walk_at "k7"); (case k8 => walk_at "k8"); (case p7 => intro q9 u9; exact Lx.hu1 (by assumption) _ _ _ _ _ _); (case p1 => exact Lx.hrd (by assumption) _ _ _ _); (case p2 => exact Lx.hc (by assumption) _ _ _ _); (case p3 => exact Lx.hca (by assumption) _ _ _ _); (case p4 => exact Lx.hct (by assumption) _ _ _ _); (case p5 => assumption); (case p6 => assumption); walk_at "cu6"))) | (k_unfold; (try dsimp only)) | (k_end; wrow_close) | walk1 | (dsimp only; walk1) | (leave1; walk_say "STEP leave1"; try dsimp only) | fail "no step")
  · exact hret _ _ _ _ (by assumption) (by assumption) ⟨_, _, _, rfl, by rw [if_pos (by assumption)]⟩
  · exact hret _ _ _ _ (by assumption) (by assumption) ⟨_, _, _, rfl, by rw [if_neg (Bool.eq_false_iff.mp (by assumption))]⟩
end Mine
end
section
open PySem PySem.W PyProof.Rows
open PySem.Spec PySem.Calls PySem.Builtin PySem.Builtin.Str
set_option maxRecDepth 100000
set_option maxHeartbeats 8000000
namespace Mine
section
variable {prog : Program} {w : World} {A : Around} {E : Value → Shared → Prop} {env : Env} {v : Str} {body : List Stmt} {Q : Flow → Shared → Prop} {I : Addr}
theorem owit_run {S : Type} (J : S → Shared → Prop) (rank : S → Nat)
    (turn : ∀ σ s (rest : Shared → Prop), J σ s → (∀ σ' s', rank σ' < rank σ → J σ' s' → rest s') → wpAny (model prog w) A (pyNext (.ref I)) (OwitTurn prog w A E env v body Q rest) E s) :
    ∀ k σ s, rank σ < k → J σ s → OwitRest prog w A E env v body Q I k s := by
  intros k
  induction k with
  | zero => intros σ s h; omega
  | succ k ih =>
    intros σ s hr hJ
    exact OwitRest.succ (turn σ s _ hJ fun σ' s' hlt hJ' => ih σ' s' (by omega) hJ')
end
/-- what is left of the text at a place -/
def Rem (text : Str) (pos : Int) (t : List Nat) : Prop := 0 ≤ pos ∧ pos ≤ text.length ∧ text.cps.toList.drop pos.toNat = t
theorem slice1 {text : Str} {pos : Nat} {c : Nat} {t : List Nat} (h : text.cps.toList.drop pos = c :: t) : Txt.slice text (some (pos : Int)) (some ((pos : Int) + 1)) = ⟨#[c]⟩ := by
  have hl : pos < text.cps.toList.length := by
    rcases Nat.lt_or_ge pos text.cps.toList.length with h1 | h1
    · exact h1
    · rw [List.drop_eq_nil_iff.mpr h1] at h; cases h
  have hl' : pos + 1 ≤ text.length := by rw [Array.length_toList] at hl; exact hl
  have e := StrLaws.sliced_plain text (a := pos) (b := pos + 1) (by omega) hl'
  have hlen : (strSliceIndices (some (pos : Int)) (some ((pos : Int) + 1)) 1 text.length) = [pos] := by
    have := StrLaws.strSliceIndices_plain (a := pos) (b := pos + 1) (len := text.length) (by omega) hl'
    rw [show ((pos : Int) + 1) = ((pos + 1 : Nat) : Int) by omega, this]
    simp
  unfold Txt.slice
  rw [show ((pos : Int) + 1) = ((pos + 1 : Nat) : Int) by omega] at hlen ⊢
  rw [e, h, hlen]
  have e1 : pos + 1 - pos = 1 := by omega
  rw [e1]
  split
  · rename_i hq
    have h1 : text.length = 1 := (show 1 = text.length by simpa using hq).symm
    have h0 : pos = 0 := by omega
    subst h0
    have h2 : text.cps.toList = c :: t := by simpa using h
    have h3 : text.cps.toList.length = 1 := by rw [Array.length_toList]; exact h1
    rw [h2] at h3
    have h4 : t = [] := by simpa using h3
    subst h4
    obtain ⟨cps⟩ := text
    obtain ⟨l⟩ := cps
    have : l = [c] := h2
    rw [this]
  · simp
theorem slice0 {text : Str} {pos : Nat} (h : text.cps.toList.drop pos = []) (hp : pos ≤ text.length) : Txt.slice text (some (pos : Int)) (some ((pos : Int) + 1)) = Str.ofString "" := by
  have hl : text.length ≤ pos := by have := List.drop_eq_nil_iff.mp h; rw [Array.length_toList] at this; exact this
  have e : strSliceIndices (some (pos : Int)) (some ((pos : Int) + 1)) 1 text.length = [] := by
    unfold strSliceIndices sliceRange
    simp
    omega
  unfold Txt.slice
  rw [e]
  split
  · rename_i hq
    have h1 : text.length = 0 := (show 0 = text.length by simpa using hq).symm
    obtain ⟨cps⟩ := text
    obtain ⟨l⟩ := cps
    have h2 : l.length = 0 := h1
    have : l = [] := List.eq_nil_of_length_eq_zero h2
    subst this; rfl
  · rfl
theorem Rem.cons {text : Str} {pos : Int} {c : Nat} {t : List Nat} (h : Rem text pos (c :: t)) : Txt.slice text (some pos) (some (pos + 1)) = ⟨#[c]⟩ ∧ Rem text (pos + ((⟨#[c]⟩ : Str).length : Int)) t := by
  obtain ⟨h0, h1, h2⟩ := h
  obtain ⟨n, rfl⟩ : ∃ n : Nat, pos = n := ⟨pos.toNat, by omega⟩
  rw [Int.toNat_natCast] at h2
  have hl : n < text.cps.toList.length := by
    rcases Nat.lt_or_ge n text.cps.toList.length with h3 | h3
    · exact h3
    · rw [List.drop_eq_nil_iff.mpr h3] at h2; cases h2
  rw [Array.length_toList] at hl
  refine ⟨slice1 h2, by omega, ?_, ?_⟩
  · show ((n : Int) + 1) ≤ ((text.cps.size : Nat) : Int); omega
  · have e : ((n : Int) + ((⟨#[c]⟩ : Str).length : Int)).toNat = n + 1 := by show ((n : Int) + 1).toNat = _; omega
    rw [e, ← List.drop_drop, h2]; rfl
theorem Rem.nil {text : Str} {pos : Int} (h : Rem text pos []) : Txt.slice text (some pos) (some (pos + 1)) = Str.ofString "" := by
  obtain ⟨h0, h1, h2⟩ := h
  obtain ⟨n, rfl⟩ : ∃ n : Nat, pos = n := ⟨pos.toNat, by omega⟩
  exact slice0 h2 (by omega)
theorem fn_of {K : Frag} {f : Addr} {name qual : Str} {params : Arguments} {body : List Stmt} {scope : Scope} {dV kV doc pm cdv ct oc : Value} {an od : Option Addr} {osl : Array (Option Value)} (ho : K.lookup f = some ⟨oc, od, .func (fnOf name qual params body scope dV kV doc pm an cdv ct), osl⟩) : ∃ o fd, K.lookup f = some o ∧ o.data = .func fd := ⟨_, _, ho, rfl⟩
theorem fn56 {w : World} : ∃ o fd, (hd.heap_39 w.params).lookup 56 = some o ∧ o.data = .func fd := by
  refine' fn_of ?h1
  case h1 => k_is
theorem fr_ext {h₀ h h' : Heap} {L I : Addr} {m : Str → Option Value} (F : Fr h₀ L h m) (hs : Heap.ExtBut I h h') (hL : I ≠ L) (h0 : h₀.get? I = none) : Fr h₀ L h' m :=
  ⟨F.ns.at' fun o e => hs _ o (Ne.symm hL) e, fun b o e => hs b o (fun q => by rw [q, h0] at e; cases e) (F.keep b o e), F.above⟩
section
variable {prog : Program} {w : World} {p : Program} {loose : List Str} {mean : ExcName → Option Value} {mg mb : Str → Option Value} {text : Str} {x dx pb al st D rd c ca ct : Addr} {c1 c2 c3 c4 c5 : Int} {k1 k2 k3 k4 k5 kw : Tok} {fds fd : FuncData} {cO oa ot : Obj} {kk : Nat} {nw : Int → Tok → Int → Tok → List (Addr × Obj)}
  {dp un : Nat} {gd : Option (List Code)} {cn : Str} {cs : Scope} {a : Addr} {ccd : Value} {cl : List (Str × Addr)} {outer : List Env} {A₀ : Around} {base h₀ : Heap} {L I B : Addr} {m : Str → Option Value} {s : Shared} {Q : Option Value → Shared → Prop} {E : Value → Shared → Prop} {ln pos : Int} {kl tp u : Tok}
theorem next_ch (X0 : Lx prog w p loose mean mg mb text x dx pb al st D rd c ca ct c1 c2 c3 c4 c5 k1 k2 k3 k4 k5 kw fds fd cO oa ot kk (fun ln kl q t => (I, citO B u) :: (B, methodObj (.ref 56) (.ref x)) :: nw ln kl q t)) (hB : Below A₀ base outer h₀) (F : Fr h₀ L s.heap m) (X : (hd.heap_39 w.params).In h₀) (N : News h₀ L s.heap ((I, citO B u) :: (B, methodObj (.ref 56) (.ref x)) :: nw ln kl pos tp)) (T : Top p loose mean mg mb h₀) (hk : cs.kind = .function) (hd : dp + 5 < recursionLimit) (hu : un + 26 < cLine)
    {c0 : Nat} {t : List Nat} (hR : Rem text pos (c0 :: t))
    (h : ∀ h' tk' kl' tp' u', Fr h₀ L h' m → News h₀ L h' ((I, citO B u) :: (B, methodObj (.ref 56) (.ref x)) :: nw (if ((⟨#[c0]⟩ : Str) == Str.ofString "\n") = true then ln + 1 else ln) kl' (pos + ((⟨#[c0]⟩ : Str).length : Int)) tp') → Rem text (pos + ((⟨#[c0]⟩ : Str).length : Int)) t → Q (some (.str ⟨#[c0]⟩ u')) { s with heap := h', toks := tk' }) :
    wpAny (model prog w) (ktrTop dp un gd cn cs L a ccd cl outer) (pyNext (.ref I)) Q E s := by
  obtain ⟨hs, hR'⟩ := hR.cons
  obtain ⟨fo, fd', ho', hfd⟩ := fn56 (w := w)
  have ho : s.heap.get? 56 = some fo := F.keep _ _ (X _ _ ho')
  · refine cit_next rfl (N _ List.mem_cons_self).1 (N _ (List.mem_cons_of_mem _ List.mem_cons_self)).1 ho hfd ?_
    refine con_rc X0 ln kl pos tp hR.1 hR.2.1 _ hs dp (un + 1) gd cn cs a ccd cl outer A₀ base h₀ L m s _ _ hB F X N T hk (by omega) (by omega) ?_
    rintro r news' h' tk' F' N' ⟨u', kl', tp', rfl, rfl⟩
    refine ⟨_, _, rfl, (N' _ List.mem_cons_self).1, (N' _ (List.mem_cons_of_mem _ List.mem_cons_self)).1, ?_, .inl ⟨?_, h _ _ _ _ _ F' N' hR'⟩⟩
    · exact F'.keep _ _ (X _ _ ho')
    · intros z; have h10 : (1 : Nat) = 0 := congrArg Str.length z; omega
theorem next_end (X0 : Lx prog w p loose mean mg mb text x dx pb al st D rd c ca ct c1 c2 c3 c4 c5 k1 k2 k3 k4 k5 kw fds fd cO oa ot kk (fun ln kl q t => (I, citO B u) :: (B, methodObj (.ref 56) (.ref x)) :: nw ln kl q t)) (hB : Below A₀ base outer h₀) (F : Fr h₀ L s.heap m) (X : (hd.heap_39 w.params).In h₀) (N : News h₀ L s.heap ((I, citO B u) :: (B, methodObj (.ref 56) (.ref x)) :: nw ln kl pos tp)) (T : Top p loose mean mg mb h₀) (hk : cs.kind = .function) (hd : dp + 5 < recursionLimit) (hu : un + 26 < cLine)
    (hI : ∀ ln kl q t, ∀ p ∈ nw ln kl q t, p.1 ≠ I) (hR : Rem text pos [])
    (h : ∀ h' tk' kl' tp', Fr h₀ L h' m → News h₀ L h' (nw ln kl' pos tp') → Q none { s with heap := h', toks := tk' }) :
    wpAny (model prog w) (ktrTop dp un gd cn cs L a ccd cl outer) (pyNext (.ref I)) Q E s := by
  have hs := hR.nil
  obtain ⟨fo, fd', ho', hfd⟩ := fn56 (w := w)
  have ho : s.heap.get? 56 = some fo := F.keep _ _ (X _ _ ho')
  refine cit_next rfl (N _ List.mem_cons_self).1 (N _ (List.mem_cons_of_mem _ List.mem_cons_self)).1 ho hfd ?_
  refine con_rc X0 ln kl pos tp hR.1 hR.2.1 _ hs dp (un + 1) gd cn cs a ccd cl outer A₀ base h₀ L m s _ _ hB F X N T hk (by omega) (by omega) ?_
  rintro r news' h' tk' F' N' ⟨u', kl', tp', rfl, rfl⟩
  refine ⟨_, _, rfl, (N' _ List.mem_cons_self).1, (N' _ (List.mem_cons_of_mem _ List.mem_cons_self)).1, F'.keep _ _ (X _ _ ho'), .inr ⟨rfl, fun h2 hx2 _ => ?_⟩⟩
  have hI' := (N' _ List.mem_cons_self)
  refine h h2 tk' kl' tp' (fr_ext F' hx2 hI'.2.1 hI'.2.2) (fun q hq => ?_)
  have e0 : nw ln kl' pos tp' = nw (if (Str.ofString "" == Str.ofString "\n") = true then ln + 1 else ln) kl' (pos + ((Str.ofString "").length : Int)) tp' := by
    rw [if_neg (by decide), show (((Str.ofString "").length : Nat) : Int) = 0 by decide, Int.add_zero]
  have hq' := N' q (List.mem_cons_of_mem _ (List.mem_cons_of_mem _ (by rw [← e0]; exact hq)))
  exact ⟨hx2 _ _ (hI _ _ _ _ q hq) hq'.1, hq'.2⟩
end
end Mine
end
section
open PySem PySem.W PyProof.Rows
open PySem.Spec PySem.Calls
set_option maxRecDepth 100000
set_option maxHeartbeats 8000000
namespace Mine
local macro_rules | `(tactic| k_mem) => `(tactic| first | with_reducible assumption | with_reducible exact Lx.hx (by assumption) _ _ _ _ | with_reducible exact Lx.hd (by assumption) _ _ _ _ | (rename (∀ (_ : Int) (_ : Tok) (_ : Int) (_ : Tok), Membership.mem _ _) => hpb9; with_reducible exact hpb9 _ _ _ _) | with_reducible exact List.mem_cons_self | (with_reducible refine List.mem_cons_of_mem _ ?_; k_mem))
local macro_rules | `(tactic| walk_at "call builtin:iter") => `(tactic| (k_here; k_dflt (refine cit_new (by k_asm) (by k_asm) (by k_mem) ?_); intro I9 h9 F9 N9 l9))
local macro_rules | `(tactic| walk_at "exec For Name Name cons nil") => `(tactic| (k_here; refine owit_for ?_))
local macro_rules | `(tactic| walk_at "pyIter ref") => `(tactic| (k_here; k_dflt (refine cit_iter (by k_asm) (by k_mem) (by rfl) ?_)))
local macro_rules | `(tactic| walk_at "OwitRest") => `(tactic| refine stopper ?_)
theorem truthyE {A : Around} {E : Value → Shared → Prop} {s : Shared} {h₀ : Heap} {L pb : Addr} {news : List (Addr × Obj)} {n : Nat} {Q : Bool → Shared → Prop} {prog : Program} {w : World} (N : News h₀ L s.heap news) (hm : (pb, W.listOf #[] n) ∈ news)
    (h : ∀ tk, Q false { s with toks := tk }) : wpAny (model prog w) A (truthy (.ref pb)) Q E s := by
  refine wpAny_truthy_list (⟨_, (N _ hm).1, rfl, _, rfl⟩ : s.heap.IsList pb #[]) (by simp) ?_
  simpa using h _
local macro_rules | `(tactic| walk_at "truthy ref") => `(tactic| (k_here; k_dflt (refine truthyE (by k_asm) (by k_mem) ?_); intro tk9))

theorem Upd.fst {d : Addr} {o o' : Obj} {l l' : List (Addr × Obj)} (U : Upd d o o' l l') : l.map (·.1) = l'.map (·.1) := by
  obtain ⟨pre, post, rfl, rfl, _, _⟩ := U.split
  simp
section
variable {prog : Program} {w : World} {p : Program} {loose : List Str} {mean : ExcName → Option Value} {mg mb : Str → Option Value} {text : Str} {x dx pb al st D rd c ca ct : Addr} {c1 c2 c3 c4 c5 : Int} {k1 k2 k3 k4 k5 kw : Tok} {fds fd : FuncData} {cO oa ot : Obj} {kk : Nat} {nw : Int → Tok → Int → Tok → List (Addr × Obj)}
theorem Lx.addr (X : Lx prog w p loose mean mg mb text x dx pb al st D rd c ca ct c1 c2 c3 c4 c5 k1 k2 k3 k4 k5 kw fds fd cO oa ot kk nw) (ln : Int) (kl : Tok) (q : Int) (t : Tok) (ln' : Int) (kl' : Tok) (q' : Int) (t' : Tok) : (nw ln kl q t).map (·.1) = (nw ln' kl' q' t').map (·.1) :=
  (Upd.fst (X.hu1 ln kl q t q' t')).trans (Upd.fst (X.hu2 ln kl ln' kl' q' t'))
theorem Lx.lt (X : Lx prog w p loose mean mg mb text x dx pb al st D rd c ca ct c1 c2 c3 c4 c5 k1 k2 k3 k4 k5 kw fds fd cO oa ot kk nw) {I : Addr} {ln : Int} {kl : Tok} {q : Int} {t : Tok} (h : ∀ p ∈ nw ln kl q t, @LT.lt Nat _ p.1 I) : ∀ ln kl q t, ∀ p ∈ nw ln kl q t, @LT.lt Nat _ p.1 I := by
  intro ln' kl' q' t' y hy
  have h1 : y.1 ∈ (nw ln' kl' q' t').map (·.1) := List.mem_map_of_mem hy
  rw [X.addr ln' kl' q' t' ln kl q t] at h1
  obtain ⟨z, hz, e⟩ := List.mem_map.mp h1
  rw [← e]; exact h z hz
theorem Lx.two (X : Lx prog w p loose mean mg mb text x dx pb al st D rd c ca ct c1 c2 c3 c4 c5 k1 k2 k3 k4 k5 kw fds fd cO oa ot kk nw) {I B : Addr} {oI oB : Obj} {ln : Int} {kl : Tok} {q : Int} {t : Tok} (hB : ∀ p ∈ nw ln kl q t, @LT.lt Nat _ p.1 B) (hI : ∀ p ∈ (B, oB) :: nw ln kl q t, @LT.lt Nat _ p.1 I) :
    Lx prog w p loose mean mg mb text x dx pb al st D rd c ca ct c1 c2 c3 c4 c5 k1 k2 k3 k4 k5 kw fds fd cO oa ot kk (fun ln kl q t => (I, oI) :: (B, oB) :: nw ln kl q t) :=
  Lx.cons (Lx.cons X (Nat.ne_of_gt (hB _ (X.hal _ _ _ _))) (Nat.ne_of_gt (hB _ (X.hd _ _ _ _)))) (Nat.ne_of_gt (hI _ (List.mem_cons_of_mem _ (X.hal _ _ _ _)))) (Nat.ne_of_gt (hI _ (List.mem_cons_of_mem _ (X.hd _ _ _ _))))
end
/-- the letters of the words -/
def L3 (c : Nat) : Prop := c = 65 ∨ c = 66 ∨ c = 69
/-- what a bare word's loop reads, what it answers, what it leaves -/
inductive Bare : List Nat → List Nat → List Nat → Prop where
  | ws {c : Nat} {t : List Nat} : (c = 9 ∨ c = 32) → Bare (c :: t) [] t
  | esc {c : Nat} {t r e : List Nat} : L3 c → Bare t r e → Bare (92 :: c :: t) (c :: r) e
  | lit {c : Nat} {t r e : List Nat} : L3 c → Bare t r e → Bare (c :: t) (c :: r) e
inductive Quo : List Nat → List Nat → List Nat → Prop where
  | q {t : List Nat} : Quo (34 :: t) [] t
  | lit {c : Nat} {t r e : List Nat} : L3 c → Quo t r e → Quo (c :: t) (c :: r) e
inductive Tokn : List Nat → List Nat → List Nat → Nat → Prop where
  | nl {t r e : List Nat} {k : Nat} : Tokn t r e k → Tokn (10 :: t) r e (k + 1)
  | quo {t r e : List Nat} : Quo t r e → Tokn (34 :: t) r e 0
  | esc {c : Nat} {t r e : List Nat} : L3 c → Bare t r e → Tokn (92 :: c :: t) (c :: r) e 0
  | lit {c : Nat} {t r e : List Nat} : L3 c → Bare t r e → Tokn (c :: t) (c :: r) e 0
  | fin : Tokn [] [] [] 0
def tokFrm (m₀ : Str → Option Value) (v : Value) (U : Str → Option Value) : Str → Option Value := fun y => if y = Str.ofString "ch" then U y else if y = Str.ofString "token" then some v else m₀ y
theorem tokFrm_start {m : Str → Option Value} {v : Value} (h : m (Str.ofString "token") = some v) : m = tokFrm m v m := by
  funext y; unfold tokFrm; split
  · rfl
  · split
    · rename_i e; rw [e]; exact h
    · rfl
theorem tokFrm_next {m m₀ : Str → Option Value} {v : Value} (h : m (Str.ofString "token") = some v) (ho : ∀ y, y ≠ Str.ofString "ch" → y ≠ Str.ofString "token" → m y = m₀ y) : m = tokFrm m₀ v m := by
  funext y; unfold tokFrm; split
  · rfl
  · split
    · rename_i e; rw [e]; exact h
    · exact ho y (by assumption) (by assumption)
theorem in_dec {prog : Program} {w : World} {A : Around} {E : Value → Shared → Prop} {s : Shared} {x y : Str} {t u : Tok} {b : Bool} {Q : Value → Shared → Prop} (hb : (!(Builtin.Str.occurrences x y 0 x.length 1).isEmpty) = b) (h : Q (.bool b) s) : wpAny (model prog w) A (compareOp .In (.str y u) (.str x t)) Q E s := by
  subst hb; exact PyProof.Rows.in_str h
theorem eq_dec {prog : Program} {w : World} {A : Around} {E : Value → Shared → Prop} {s : Shared} {x y : Str} {t u : Tok} {b : Bool} {Q : Value → Shared → Prop} (hb : (x == y) = b) (h : Q (.bool b) s) : wpAny (model prog w) A (compareOp .Eq (.str x t) (.str y u)) Q E s := by
  subst hb; exact PyProof.Rows.eq_str h
local macro_rules | `(tactic| walk_at "compareOp In str str") => `(tactic| (k_here; first | (refine in_dec (b := false) (by first | with_reducible assumption | decide +kernel) ?_) | (refine in_dec (b := true) (by first | with_reducible assumption | decide +kernel) ?_)))
local macro_rules | `(tactic| walk_at "compareOp Eq str str") => `(tactic| (k_here; first | (refine eq_dec (b := false) (by first | with_reducible assumption | decide +kernel) ?_) | (refine eq_dec (b := true) (by first | with_reducible assumption | decide +kernel) ?_)))
theorem tok_fr2 {h₀ h : Heap} {L : Addr} {m m₀ : Str → Option Value} {v : Value} (F : Fr h₀ L h m) (e : m (Str.ofString "token") = some v) (ho : ∀ y, y ≠ Str.ofString "ch" → y ≠ Str.ofString "token" → m y = m₀ y) : Fr h₀ L h (tokFrm m₀ v m) := by rw [← tokFrm_next e ho]; exact F
theorem L3.facts {c : Nat} (h : L3 c) : (!(Builtin.Str.occurrences (Str.ofString "\n\t\r ") ⟨#[c]⟩ 0 (Str.ofString "\n\t\r ").length 1).isEmpty) = false ∧ ((⟨#[c]⟩ : Str) == Str.ofString "\"") = false ∧ ((⟨#[c]⟩ : Str) == Str.ofString "\\") = false ∧ ((⟨#[c]⟩ : Str) == Str.ofString "\n") = false := by
  rcases h with rfl | rfl | rfl <;> decide +kernel
theorem ws_facts {c : Nat} (h : c = 9 ∨ c = 32) : (!(Builtin.Str.occurrences (Str.ofString "\n\t\r ") ⟨#[c]⟩ 0 (Str.ofString "\n\t\r ").length 1).isEmpty) = true ∧ ((⟨#[c]⟩ : Str) == Str.ofString "\n") = false := by
  rcases h with rfl | rfl <;> decide +kernel
theorem tok_ok {acc : Str} {r' r : List Nat} {c : Nat} (h : acc.cps.toList ++ c :: r' = r) : (acc ++ (⟨#[c]⟩ : Str)).cps.toList ++ r' = r := by
  rw [← h]; show (acc.cps ++ #[c]).toList ++ r' = _; simp
theorem one_len {c0 n : Nat} (h : n < 60) : (Str.ofString "" ++ (⟨#[c0]⟩ : Str)).length + n ≤ 100 := by
  have e1 : (Str.ofString "" ++ (⟨#[c0]⟩ : Str)).length = 1 := rfl
  omega
theorem snoc_len {acc : Str} {c : Nat} : (acc ++ (⟨#[c]⟩ : Str)).length = acc.length + 1 := by
  show (acc.cps ++ #[c]).size = acc.cps.size + 1
  simp
theorem tok_end {acc : Str} {r : List Nat} (h : acc.cps.toList ++ [] = r) : acc = ⟨r.toArray⟩ := by
  rw [← h]; simp
local macro_rules | `(tactic| walk_at "cu5") => `(tactic| (intro r9 news9 h9 tk9 F9 N9; (repeat (refine exI ?_; intro x9)); intro hp9; obtain ⟨e9, f9⟩ := hp9; subst e9 f9; (try dsimp only); (try dsimp only at N9); (try rw [if_neg (Bool.eq_false_iff.mp (by assumption))] at N9)))
local macro_rules | `(tactic| walk_at "call ref") => `(tactic| (k_here; (first | with_reducible show wpAny _ _ (call (Value.ref 56) _) _ _ _); refine stopper ?_))
theorem tok_fr {h₀ h : Heap} {L : Addr} {m : Str → Option Value} {v : Value} (F : Fr h₀ L h m) (e : m (Str.ofString "token") = some v) : Fr h₀ L h (tokFrm m v m) := by rw [← tokFrm_start e]; exact F
theorem con_tok {prog w p loose mean mg mb} {text : Str} {x dx pb al st D rd c ca ct : Addr} {c1 c2 c3 c4 c5 : Int} {k1 k2 k3 k4 k5 kw : Tok} {fds fd : FuncData} {cO oa ot : Obj} {kk : Nat} {nw : Int → Tok → Int → Tok → List (Addr × Obj)} (X0 : Lx prog w p loose mean mg mb text x dx pb al st D rd c ca ct c1 c2 c3 c4 c5 k1 k2 k3 k4 k5 kw fds fd cO oa ot kk nw) (pk : Nat) (hpb : ∀ ln kl q t, (pb, W.listOf #[] pk) ∈ nw ln kl q t) (ln : Int) (kl : Tok) (pos : Int) (tp : Tok) (t r e : List Nat) (kn : Nat) (hT : Tokn t r e kn) (hR : Rem text pos t) (hlen : t.length < 60) :
   ConC 8 48 prog w p loose mean mg mb 63 [.ref x] (nw ln kl pos tp) (fun rv news' => ∃ u kl' pos' tp', rv = .str ⟨r.toArray⟩ u ∧ news' = nw (ln + kn) kl' pos' tp' ∧ Rem text pos' e) := by
  unfold ConC
  intros dp un gd cn cs a ccd cl outer A₀ base h₀ L m s Q E
  revert X0 hpb hT hR hlen
  revert prog w p loose mean mg mb text x dx pb al st D rd c ca ct c1 c2 c3 c4 c5 k1 k2 k3 k4 k5 kw fds fd cO oa ot kk nw pk ln kl pos tp t r e kn dp un gd cn cs a ccd cl outer A₀ base h₀ L m s Q E
  refine no_implicit_lambda% (all8 (by repeat (first | exact neS | exact neA | exact neW | refine nP ?_ ?_ | exact neT _ | infer_instance)) ?_)
  generalize Prod.fst (c8 _ _) = prog, Prod.fst (Prod.snd (c8 _ _)) = w, Prod.fst (Prod.snd (Prod.snd (c8 _ _))) = p, Prod.fst (Prod.snd (Prod.snd (Prod.snd (c8 _ _)))) = loose, Prod.fst (Prod.snd (Prod.snd (Prod.snd (Prod.snd (c8 _ _))))) = mean, Prod.fst (Prod.snd (Prod.snd (Prod.snd (Prod.snd (Prod.snd (c8 _ _)))))) = mg, Prod.fst (Prod.snd (Prod.snd (Prod.snd (Prod.snd (Prod.snd (Prod.snd (c8 _ _))))))) = mb, Prod.snd (Prod.snd (Prod.snd (Prod.snd (Prod.snd (Prod.snd (Prod.snd (c8 _ _))))))) = text
  refine no_implicit_lambda% (all8 (by repeat (first | exact neS | exact neA | exact neW | refine nP ?_ ?_ | exact neT _ | infer_instance)) ?_)
  generalize Prod.fst (c8 _ _) = x, Prod.fst (Prod.snd (c8 _ _)) = dx, Prod.fst (Prod.snd (Prod.snd (c8 _ _))) = pb, Prod.fst (Prod.snd (Prod.snd (Prod.snd (c8 _ _)))) = al, Prod.fst (Prod.snd (Prod.snd (Prod.snd (Prod.snd (c8 _ _))))) = st, Prod.fst (Prod.snd (Prod.snd (Prod.snd (Prod.snd (Prod.snd (c8 _ _)))))) = D, Prod.fst (Prod.snd (Prod.snd (Prod.snd (Prod.snd (Prod.snd (Prod.snd (c8 _ _))))))) = rd, Prod.snd (Prod.snd (Prod.snd (Prod.snd (Prod.snd (Prod.snd (Prod.snd (c8 _ _))))))) = c
  refine no_implicit_lambda% (all8 (by repeat (first | exact neS | exact neA | exact neW | refine nP ?_ ?_ | exact neT _ | infer_instance)) ?_)
  generalize Prod.fst (c8 _ _) = ca, Prod.fst (Prod.snd (c8 _ _)) = ct, Prod.fst (Prod.snd (Prod.snd (c8 _ _))) = c1, Prod.fst (Prod.snd (Prod.snd (Prod.snd (c8 _ _)))) = c2, Prod.fst (Prod.snd (Prod.snd (Prod.snd (Prod.snd (c8 _ _))))) = c3, Prod.fst (Prod.snd (Prod.snd (Prod.snd (Prod.snd (Prod.snd (c8 _ _)))))) = c4, Prod.fst (Prod.snd (Prod.snd (Prod.snd (Prod.snd (Prod.snd (Prod.snd (c8 _ _))))))) = c5, Prod.snd (Prod.snd (Prod.snd (Prod.snd (Prod.snd (Prod.snd (Prod.snd (c8 _ _))))))) = k1
  refine no_implicit_lambda% (all8 (by repeat (first | exact neS | exact neA | exact neW | refine nP ?_ ?_ | exact neT _ | infer_instance)) ?_)
  generalize Prod.fst (c8 _ _) = k2, Prod.fst (Prod.snd (c8 _ _)) = k3, Prod.fst (Prod.snd (Prod.snd (c8 _ _))) = k4, Prod.fst (Prod.snd (Prod.snd (Prod.snd (c8 _ _)))) = k5, Prod.fst (Prod.snd (Prod.snd (Prod.snd (Prod.snd (c8 _ _))))) = kw, Prod.fst (Prod.snd (Prod.snd (Prod.snd (Prod.snd (Prod.snd (c8 _ _)))))) = fds, Prod.fst (Prod.snd (Prod.snd (Prod.snd (Prod.snd (Prod.snd (Prod.snd (c8 _ _))))))) = fd, Prod.snd (Prod.snd (Prod.snd (Prod.snd (Prod.snd (Prod.snd (Prod.snd (c8 _ _))))))) = cO
  refine no_implicit_lambda% (all8 (by repeat (first | exact neS | exact neA | exact neW | refine nP ?_ ?_ | exact neT _ | infer_instance)) ?_)
  generalize Prod.fst (c8 _ _) = oa, Prod.fst (Prod.snd (c8 _ _)) = ot, Prod.fst (Prod.snd (Prod.snd (c8 _ _))) = kk, Prod.fst (Prod.snd (Prod.snd (Prod.snd (c8 _ _)))) = nw, Prod.fst (Prod.snd (Prod.snd (Prod.snd (Prod.snd (c8 _ _))))) = pk, Prod.fst (Prod.snd (Prod.snd (Prod.snd (Prod.snd (Prod.snd (c8 _ _)))))) = ln, Prod.fst (Prod.snd (Prod.snd (Prod.snd (Prod.snd (Prod.snd (Prod.snd (c8 _ _))))))) = kl, Prod.snd (Prod.snd (Prod.snd (Prod.snd (Prod.snd (Prod.snd (Prod.snd (c8 _ _))))))) = pos
  refine no_implicit_lambda% (all8 (by repeat (first | exact neS | exact neA | exact neW | refine nP ?_ ?_ | exact neT _ | infer_instance)) ?_)
  generalize Prod.fst (c8 _ _) = tp, Prod.fst (Prod.snd (c8 _ _)) = t, Prod.fst (Prod.snd (Prod.snd (c8 _ _))) = r, Prod.fst (Prod.snd (Prod.snd (Prod.snd (c8 _ _)))) = e, Prod.fst (Prod.snd (Prod.snd (Prod.snd (Prod.snd (c8 _ _))))) = kn, Prod.fst (Prod.snd (Prod.snd (Prod.snd (Prod.snd (Prod.snd (c8 _ _)))))) = dp, Prod.fst (Prod.snd (Prod.snd (Prod.snd (Prod.snd (Prod.snd (Prod.snd (c8 _ _))))))) = un, Prod.snd (Prod.snd (Prod.snd (Prod.snd (Prod.snd (Prod.snd (Prod.snd (c8 _ _))))))) = gd
  refine no_implicit_lambda% (all8 (by repeat (first | exact neS | exact neA | exact neW | refine nP ?_ ?_ | exact neT _ | infer_instance)) ?_)
  generalize Prod.fst (c8 _ _) = cn, Prod.fst (Prod.snd (c8 _ _)) = cs, Prod.fst (Prod.snd (Prod.snd (c8 _ _))) = a, Prod.fst (Prod.snd (Prod.snd (Prod.snd (c8 _ _)))) = ccd, Prod.fst (Prod.snd (Prod.snd (Prod.snd (Prod.snd (c8 _ _))))) = cl, Prod.fst (Prod.snd (Prod.snd (Prod.snd (Prod.snd (Prod.snd (c8 _ _)))))) = outer, Prod.fst (Prod.snd (Prod.snd (Prod.snd (Prod.snd (Prod.snd (Prod.snd (c8 _ _))))))) = A₀, Prod.snd (Prod.snd (Prod.snd (Prod.snd (Prod.snd (Prod.snd (Prod.snd (c8 _ _))))))) = base
  refine no_implicit_lambda% (all4 (by repeat (first | exact neS | exact neA | exact neW | refine nP ?_ ?_ | exact neT _ | infer_instance)) ?_)
  generalize Prod.fst (cp4 _ _) = h₀, Prod.fst (Prod.snd (cp4 _ _)) = L, Prod.fst (Prod.snd (Prod.snd (cp4 _ _))) = m, Prod.snd (Prod.snd (Prod.snd (cp4 _ _))) = s
  refine no_implicit_lambda% (all2 (by repeat (first | exact neS | exact neA | exact neW | refine nP ?_ ?_ | exact neT _ | infer_instance)) ?_)
  generalize Prod.fst (cp2 _ _) = Q, Prod.snd (cp2 _ _) = E
  intro X0 hpb hT hR hlen B F X N T hk hd hu hret
  k_dflt cell_enter
  repeat' (first | (unfold StopP; first | ((with_reducible show wpAny _ _ (call (Value.ref 56) _) _ _ _); k_dflt (refine' Con.use ?k1 ?k2 ?k3 ?k4 ?k5 (ConC.con (con_rc ?p0 _ _ _ _ ?p1 ?p2 _ ?p3)) ?k6 ?k7 ?k8 ?_; (case p0 => assumption); (case k1 | k2 | k3 | k4 | k5 => k_asm); (case k6 => walk_at "k6"); (case k7 => walk_at "k7"); (case k8 => walk_at "k8"); (case p1 => assumption); (case p2 => assumption); (case p3 => assumption); walk_at "cu5"))) | (k_unfold; (try dsimp only)) | (k_end; wrow_close) | walk1 | (dsimp only; walk1) | (leave1; walk_say "STEP leave1"; try dsimp only) | fail "no step")
  rename_i g1 L1 hh1 FG1 B1 X1 T1 tka tkb hh2 tkc Bm hh3 lB I9 hh4 lI hh5 F5 N5
  refine exI ?_ (⟨_, N5⟩ : ∃ u5, News g1 L1 hh5 ((I9, citO Bm u5) :: (Bm, methodObj (.ref 56) (.ref x)) :: nw ln kl pos tp))
  intro u5 N5
  have X2 := Lx.two (oI := citO Bm u5) (oB := methodObj (.ref 56) (.ref x)) X0 lB lI
  unfold StopP
  refine owit_run (fun (σ : List Nat) s' => ∃ h tk ln' kl' pos' tp' U kr, s' = { s with heap := h, toks := tk } ∧ Fr g1 L1 h (tokFrm _ _ U) ∧ News g1 L1 h ((I9, citO Bm u5) :: (Bm, methodObj (.ref 56) (.ref x)) :: nw ln' kl' pos' tp') ∧ Rem text pos' σ ∧ (∃ rr ee, Tokn σ rr ee kr ∧ rr = r ∧ ee = e) ∧ ln' + (kr : Int) = ln + (kn : Int) ∧ σ.length < 60) List.length ?_ 64 t _ (by omega) ⟨_, _, _, _, _, _, _, _, rfl, tok_fr F5 rfl, N5, hR, ⟨_, _, hT, rfl, rfl⟩, rfl, hlen⟩
  intro σ s' rest hJ hrest
  revert hJ
  refine exI ?_
  intro h6
  refine exI ?_
  intro tk6
  refine exI ?_
  intro ln6
  refine exI ?_
  intro kl6
  refine exI ?_
  intro pos6
  refine exI ?_
  intro tp6
  refine exI ?_
  intro U6
  refine exI ?_
  intro kr
  intro hx9
  obtain ⟨rfl, F6, N6, R6, hTT, hln, hlen6⟩ := hx9
  revert hTT
  refine exI ?_
  intro rr
  refine exI ?_
  intro ee
  intro hx9
  obtain ⟨T6, hrr, hee⟩ := hx9
  dsimp only [tokFrm] at F6
  cases T6 with
  | @nl t0 r0 e0 k0 T7 =>
    revert t0 k0
    intro t0 k0 hrest R6 hlen6 T7 hln
    refine next_ch X2 (by assumption) F6 (by assumption) N6 (by assumption) (by first | exact rfl | assumption) (show dp + 1 + 5 < recursionLimit by omega) (show un + 3 + 26 < cLine by omega) R6 ?_
    intro h8 tk8 kl8 tp8 u8 F8 N8 R8
    rw [if_pos (by decide +kernel)] at N8
    dsimp only [OwitTurn]
    repeat' (first | (unfold StopP; first | ((with_reducible show wpAny _ _ (call (Value.ref 56) _) _ _ _); k_dflt (refine' Con.use ?k1 ?k2 ?k3 ?k4 ?k5 (ConC.con (con_rc ?p0 _ _ _ _ ?p1 ?p2 _ ?p3)) ?k6 ?k7 ?k8 ?_; (case p0 => assumption); (case k1 | k2 | k3 | k4 | k5 => k_asm); (case k6 => walk_at "k6"); (case k7 => walk_at "k7"); (case k8 => walk_at "k8"); (case p1 => assumption); (case p2 => assumption); (case p3 => assumption); walk_at "cu5"))) | (k_unfold; (try dsimp only)) | (k_end; wrow_close) | walk1 | (dsimp only; walk1) | (leave1; walk_say "STEP leave1"; try dsimp only) | fail "no step")
    exact hrest _ _ (Nat.lt_succ_self _) ⟨_, _, _, _, _, _, _, _, rfl, tok_fr2 (by assumption) rfl (fun y h1 h2 => by simp only [h1, if_false]; unfold tokFrm; simp only [h1, h2, if_false]), (by assumption), R8, ⟨_, _, T7, hrr, hee⟩, by omega, by simp only [List.length_cons] at hlen6; omega⟩
  | @quo t0 r0 e0 B7 =>
    revert t0
    intro t0 hrest R6 hlen6 B7
    refine next_ch X2 (by assumption) F6 (by assumption) N6 (by assumption) (by first | exact rfl | assumption) (show dp + 1 + 5 < recursionLimit by omega) (show un + 3 + 26 < cLine by omega) R6 ?_
    intro h8 tk8 kl8 tp8 u8 F8 N8 R8
    rw [if_neg (by decide +kernel)] at N8
    dsimp only [OwitTurn]
    repeat' (first | (unfold StopP; first | ((with_reducible show wpAny _ _ (call (Value.ref 56) _) _ _ _); k_dflt (refine' Con.use ?k1 ?k2 ?k3 ?k4 ?k5 (ConC.con (con_rc ?p0 _ _ _ _ ?p1 ?p2 _ ?p3)) ?k6 ?k7 ?k8 ?_; (case p0 => assumption); (case k1 | k2 | k3 | k4 | k5 => k_asm); (case k6 => walk_at "k6"); (case k7 => walk_at "k7"); (case k8 => walk_at "k8"); (case p1 => assumption); (case p2 => assumption); (case p3 => assumption); walk_at "cu5"))) | (k_unfold; (try dsimp only)) | (k_end; wrow_close) | walk1 | (dsimp only; walk1) | (leave1; walk_say "STEP leave1"; try dsimp only) | fail "no step")
    unfold StopP
    have hln0 : ln6 = ln + (kn : Int) := by omega
    refine owit_run (fun (σ : List Nat) s' => ∃ h tk kl' pos' tp' U acc ta r', s' = { s with heap := h, toks := tk } ∧ Fr g1 L1 h (tokFrm _ (.str acc ta) U) ∧ News g1 L1 h ((I9, citO Bm u5) :: (Bm, methodObj (.ref 56) (.ref x)) :: nw ln6 kl' pos' tp') ∧ Rem text pos' σ ∧ (∃ e', Quo σ r' e' ∧ e' = e) ∧ acc.cps.toList ++ r' = r ∧ acc.length + σ.length ≤ 100) List.length ?_ 64 t0 _ (by simp only [List.length_cons] at hlen6; omega) ⟨_, _, _, _, _, _, (Str.ofString ""), _, _, rfl, tok_fr (by assumption) rfl, (by assumption), (by assumption), ⟨_, B7, hee⟩, hrr, (by have e1 : (Str.ofString "").length = 0 := rfl; rw [e1]; simp only [List.length_cons] at hlen6; omega)⟩
    intro τ s'' rest2 hJ2 hrest2
    revert hJ2
    refine exI ?_
    intro hA
    refine exI ?_
    intro tkA
    refine exI ?_
    intro klA
    refine exI ?_
    intro posA
    refine exI ?_
    intro tpA
    refine exI ?_
    intro UA
    refine exI ?_
    intro acc
    refine exI ?_
    intro tA
    refine exI ?_
    intro rA
    intro hx9
    obtain ⟨rfl, FA, NA, RA, hTT, hacc, hal⟩ := hx9
    revert hTT
    refine exI ?_
    intro eA
    intro hx9
    obtain ⟨TA, heA⟩ := hx9
    dsimp only [tokFrm] at FA
    clear hrest
    have hacc60 : acc.length ≤ 100 := by omega
    cases TA with
    | @q t2 =>
      revert eA
      intro eA heA hrest2 RA hal
      refine next_ch X2 (by assumption) FA (by assumption) NA (by assumption) (by first | exact rfl | assumption) (show dp + 1 + 5 < recursionLimit by omega) (show un + 3 + 26 < cLine by omega) RA ?_
      intro hB tkB klB tpB uB FB NB RB
      rw [if_neg (by decide +kernel)] at NB
      dsimp only [OwitTurn]
      repeat' (first | (unfold StopP; first | ((with_reducible show wpAny _ _ (call (Value.ref 56) _) _ _ _); k_dflt (refine' Con.use ?k1 ?k2 ?k3 ?k4 ?k5 (ConC.con (con_rc ?p0 _ _ _ _ ?p1 ?p2 _ ?p3)) ?k6 ?k7 ?k8 ?_; (case p0 => assumption); (case k1 | k2 | k3 | k4 | k5 => k_asm); (case k6 => walk_at "k6"); (case k7 => walk_at "k7"); (case k8 => walk_at "k8"); (case p1 => assumption); (case p2 => assumption); (case p3 => assumption); walk_at "cu5"))) | (k_unfold; (try dsimp only)) | (k_end; wrow_close) | walk1 | (dsimp only; walk1) | (leave1; walk_say "STEP leave1"; try dsimp only) | fail "no step")
      exact hret _ _ _ _ (by assumption) (cb_drop (by assumption) (fun p hp => List.mem_cons_of_mem _ (List.mem_cons_of_mem _ hp))) ⟨_, _, _, _, congrArg (fun z => Value.str z _) (tok_end hacc), by rw [hln0], (heA ▸ RB)⟩
    | @lit c2 t2 r2 e2 l2 T2 =>
      revert c2 t2 r2
      intro c2 t2 r2 l2 hrest2 RA hal hacc T2
      obtain ⟨q1, q2, q3, q4⟩ := l2.facts
      refine next_ch X2 (by assumption) FA (by assumption) NA (by assumption) (by first | exact rfl | assumption) (show dp + 1 + 5 < recursionLimit by omega) (show un + 3 + 26 < cLine by omega) RA ?_
      intro hB tkB klB tpB uB FB NB RB
      rw [if_neg (Bool.eq_false_iff.mp q4)] at NB
      dsimp only [OwitTurn]
      repeat' (first | (unfold StopP; first | ((with_reducible show wpAny _ _ (call (Value.ref 56) _) _ _ _); k_dflt (refine' Con.use ?k1 ?k2 ?k3 ?k4 ?k5 (ConC.con (con_rc ?p0 _ _ _ _ ?p1 ?p2 _ ?p3)) ?k6 ?k7 ?k8 ?_; (case p0 => assumption); (case k1 | k2 | k3 | k4 | k5 => k_asm); (case k6 => walk_at "k6"); (case k7 => walk_at "k7"); (case k8 => walk_at "k8"); (case p1 => assumption); (case p2 => assumption); (case p3 => assumption); walk_at "cu5"))) | (k_unfold; (try dsimp only)) | (k_end; wrow_close) | walk1 | (dsimp only; walk1) | (leave1; walk_say "STEP leave1"; try dsimp only) | fail "no step")
      exact hrest2 _ _ (by simp only [List.length_cons]; omega) ⟨_, _, _, _, _, _, _, _, _, rfl, tok_fr2 (by assumption) rfl (fun y h1 h2 => by simp only [h1, h2, if_false]; first | rfl | (unfold tokFrm; simp only [h1, h2, if_false]; done)), (by assumption), RB, ⟨_, T2, heA⟩, tok_ok hacc, (by have e9 : (acc ++ (⟨#[c2]⟩ : Str)).length = acc.length + 1 := snoc_len; rw [e9]; simp only [List.length_cons] at hal; omega)⟩
  | @esc c0 t0 r0 e0 l7 B7 =>
    revert c0 t0 r0
    intro c0 t0 r0 l7 hrest R6 hlen6 hrr B7
    obtain ⟨q1, q2, q3, q4⟩ := l7.facts
    refine next_ch X2 (by assumption) F6 (by assumption) N6 (by assumption) (by first | exact rfl | assumption) (show dp + 1 + 5 < recursionLimit by omega) (show un + 3 + 26 < cLine by omega) R6 ?_
    intro h8 tk8 kl8 tp8 u8 F8 N8 R8
    rw [if_neg (by decide +kernel)] at N8
    obtain ⟨hsl, R9⟩ := R8.cons
    have hp1 := R8.1
    have hp2 := R8.2.1
    dsimp only [OwitTurn]
    repeat' (first | (unfold StopP; first | ((with_reducible show wpAny _ _ (call (Value.ref 56) _) _ _ _); k_dflt (refine' Con.use ?k1 ?k2 ?k3 ?k4 ?k5 (ConC.con (con_rc ?p0 _ _ _ _ ?p1 ?p2 _ ?p3)) ?k6 ?k7 ?k8 ?_; (case p0 => assumption); (case k1 | k2 | k3 | k4 | k5 => k_asm); (case k6 => walk_at "k6"); (case k7 => walk_at "k7"); (case k8 => walk_at "k8"); (case p1 => assumption); (case p2 => assumption); (case p3 => assumption); walk_at "cu5"))) | (k_unfold; (try dsimp only)) | (k_end; wrow_close) | walk1 | (dsimp only; walk1) | (leave1; walk_say "STEP leave1"; try dsimp only) | fail "no step")
    clear R8
    unfold StopP
    have hln0 : ln6 = ln + (kn : Int) := by omega
    refine owit_run (fun (σ : List Nat) s' => ∃ h tk kl' pos' tp' U acc ta r', s' = { s with heap := h, toks := tk } ∧ Fr g1 L1 h (tokFrm _ (.str acc ta) U) ∧ News g1 L1 h ((I9, citO Bm u5) :: (Bm, methodObj (.ref 56) (.ref x)) :: nw ln6 kl' pos' tp') ∧ Rem text pos' σ ∧ (∃ e', Bare σ r' e' ∧ e' = e) ∧ acc.cps.toList ++ r' = r ∧ acc.length + σ.length ≤ 100) List.length ?_ 64 t0 _ (by simp only [List.length_cons] at hlen6; omega) ⟨_, _, _, _, _, _, (Str.ofString "" ++ ⟨#[c0]⟩), _, _, rfl, tok_fr (by assumption) rfl, (by assumption), (by assumption), ⟨_, B7, hee⟩, (tok_ok (acc := Str.ofString "") hrr), (one_len (by simp only [List.length_cons] at hlen6; omega))⟩
    intro τ s'' rest2 hJ2 hrest2
    revert hJ2
    refine exI ?_
    intro hA
    refine exI ?_
    intro tkA
    refine exI ?_
    intro klA
    refine exI ?_
    intro posA
    refine exI ?_
    intro tpA
    refine exI ?_
    intro UA
    refine exI ?_
    intro acc
    refine exI ?_
    intro tA
    refine exI ?_
    intro rA
    intro hx9
    obtain ⟨rfl, FA, NA, RA, hTT, hacc, hal⟩ := hx9
    revert hTT
    refine exI ?_
    intro eA
    intro hx9
    obtain ⟨TA, heA⟩ := hx9
    dsimp only [tokFrm] at FA
    clear hrest
    have hacc60 : acc.length ≤ 100 := by omega
    cases TA with
    | @ws c2 t2 hc2 =>
      revert c2 eA
      intro eA heA c2 hc2 hrest2 RA hal
      obtain ⟨q1, q4⟩ := ws_facts hc2
      refine next_ch X2 (by assumption) FA (by assumption) NA (by assumption) (by first | exact rfl | assumption) (show dp + 1 + 5 < recursionLimit by omega) (show un + 3 + 26 < cLine by omega) RA ?_
      intro hB tkB klB tpB uB FB NB RB
      rw [if_neg (Bool.eq_false_iff.mp q4)] at NB
      dsimp only [OwitTurn]
      repeat' (first | (unfold StopP; first | ((with_reducible show wpAny _ _ (call (Value.ref 56) _) _ _ _); k_dflt (refine' Con.use ?k1 ?k2 ?k3 ?k4 ?k5 (ConC.con (con_rc ?p0 _ _ _ _ ?p1 ?p2 _ ?p3)) ?k6 ?k7 ?k8 ?_; (case p0 => assumption); (case k1 | k2 | k3 | k4 | k5 => k_asm); (case k6 => walk_at "k6"); (case k7 => walk_at "k7"); (case k8 => walk_at "k8"); (case p1 => assumption); (case p2 => assumption); (case p3 => assumption); walk_at "cu5"))) | (k_unfold; (try dsimp only)) | (k_end; wrow_close) | walk1 | (dsimp only; walk1) | (leave1; walk_say "STEP leave1"; try dsimp only) | fail "no step")
      exact hret _ _ _ _ (by assumption) (cb_drop (by assumption) (fun p hp => List.mem_cons_of_mem _ (List.mem_cons_of_mem _ hp))) ⟨_, _, _, _, congrArg (fun z => Value.str z _) (tok_end hacc), by rw [hln0], (heA ▸ RB)⟩
    | @esc c2 t2 r2 e2 l2 T2 =>
      revert c2 t2 r2
      intro c2 t2 r2 l2 hrest2 RA hal hacc T2
      obtain ⟨q1, q2, q3, q4⟩ := l2.facts
      refine next_ch X2 (by assumption) FA (by assumption) NA (by assumption) (by first | exact rfl | assumption) (show dp + 1 + 5 < recursionLimit by omega) (show un + 3 + 26 < cLine by omega) RA ?_
      intro hB tkB klB tpB uB FB NB RB
      rw [if_neg (by decide +kernel)] at NB
      obtain ⟨hsl, RC⟩ := RB.cons
      have hp1 := RB.1
      have hp2 := RB.2.1
      dsimp only [OwitTurn]
      repeat' (first | (unfold StopP; first | ((with_reducible show wpAny _ _ (call (Value.ref 56) _) _ _ _); k_dflt (refine' Con.use ?k1 ?k2 ?k3 ?k4 ?k5 (ConC.con (con_rc ?p0 _ _ _ _ ?p1 ?p2 _ ?p3)) ?k6 ?k7 ?k8 ?_; (case p0 => assumption); (case k1 | k2 | k3 | k4 | k5 => k_asm); (case k6 => walk_at "k6"); (case k7 => walk_at "k7"); (case k8 => walk_at "k8"); (case p1 => assumption); (case p2 => assumption); (case p3 => assumption); walk_at "cu5"))) | (k_unfold; (try dsimp only)) | (k_end; wrow_close) | walk1 | (dsimp only; walk1) | (leave1; walk_say "STEP leave1"; try dsimp only) | fail "no step")
      exact hrest2 _ _ (by simp only [List.length_cons]; omega) ⟨_, _, _, _, _, _, _, _, _, rfl, tok_fr2 (by assumption) rfl (fun y h1 h2 => by simp only [h1, h2, if_false]; first | rfl | (unfold tokFrm; simp only [h1, h2, if_false]; done)), (by assumption), RC, ⟨_, T2, heA⟩, tok_ok hacc, (by have e9 : (acc ++ (⟨#[c2]⟩ : Str)).length = acc.length + 1 := snoc_len; rw [e9]; simp only [List.length_cons] at hal; omega)⟩
    | @lit c2 t2 r2 e2 l2 T2 =>
      revert c2 t2 r2
      intro c2 t2 r2 l2 hrest2 RA hal hacc T2
      obtain ⟨q1, q2, q3, q4⟩ := l2.facts
      refine next_ch X2 (by assumption) FA (by assumption) NA (by assumption) (by first | exact rfl | assumption) (show dp + 1 + 5 < recursionLimit by omega) (show un + 3 + 26 < cLine by omega) RA ?_
      intro hB tkB klB tpB uB FB NB RB
      rw [if_neg (Bool.eq_false_iff.mp q4)] at NB
      dsimp only [OwitTurn]
      repeat' (first | (unfold StopP; first | ((with_reducible show wpAny _ _ (call (Value.ref 56) _) _ _ _); k_dflt (refine' Con.use ?k1 ?k2 ?k3 ?k4 ?k5 (ConC.con (con_rc ?p0 _ _ _ _ ?p1 ?p2 _ ?p3)) ?k6 ?k7 ?k8 ?_; (case p0 => assumption); (case k1 | k2 | k3 | k4 | k5 => k_asm); (case k6 => walk_at "k6"); (case k7 => walk_at "k7"); (case k8 => walk_at "k8"); (case p1 => assumption); (case p2 => assumption); (case p3 => assumption); walk_at "cu5"))) | (k_unfold; (try dsimp only)) | (k_end; wrow_close) | walk1 | (dsimp only; walk1) | (leave1; walk_say "STEP leave1"; try dsimp only) | fail "no step")
      exact hrest2 _ _ (by simp only [List.length_cons]; omega) ⟨_, _, _, _, _, _, _, _, _, rfl, tok_fr2 (by assumption) rfl (fun y h1 h2 => by simp only [h1, h2, if_false]; first | rfl | (unfold tokFrm; simp only [h1, h2, if_false]; done)), (by assumption), RB, ⟨_, T2, heA⟩, tok_ok hacc, (by have e9 : (acc ++ (⟨#[c2]⟩ : Str)).length = acc.length + 1 := snoc_len; rw [e9]; simp only [List.length_cons] at hal; omega)⟩
  | @lit c0 t0 r0 e0 l7 B7 =>
    revert c0 t0 r0
    intro c0 t0 r0 l7 hrest R6 hlen6 hrr B7
    obtain ⟨q1, q2, q3, q4⟩ := l7.facts
    refine next_ch X2 (by assumption) F6 (by assumption) N6 (by assumption) (by first | exact rfl | assumption) (show dp + 1 + 5 < recursionLimit by omega) (show un + 3 + 26 < cLine by omega) R6 ?_
    intro h8 tk8 kl8 tp8 u8 F8 N8 R8
    rw [if_neg (Bool.eq_false_iff.mp q4)] at N8
    dsimp only [OwitTurn]
    repeat' (first | (unfold StopP; first | ((with_reducible show wpAny _ _ (call (Value.ref 56) _) _ _ _); k_dflt (refine' Con.use ?k1 ?k2 ?k3 ?k4 ?k5 (ConC.con (con_rc ?p0 _ _ _ _ ?p1 ?p2 _ ?p3)) ?k6 ?k7 ?k8 ?_; (case p0 => assumption); (case k1 | k2 | k3 | k4 | k5 => k_asm); (case k6 => walk_at "k6"); (case k7 => walk_at "k7"); (case k8 => walk_at "k8"); (case p1 => assumption); (case p2 => assumption); (case p3 => assumption); walk_at "cu5"))) | (k_unfold; (try dsimp only)) | (k_end; wrow_close) | walk1 | (dsimp only; walk1) | (leave1; walk_say "STEP leave1"; try dsimp only) | fail "no step")
    unfold StopP
    have hln0 : ln6 = ln + (kn : Int) := by omega
    refine owit_run (fun (σ : List Nat) s' => ∃ h tk kl' pos' tp' U acc ta r', s' = { s with heap := h, toks := tk } ∧ Fr g1 L1 h (tokFrm _ (.str acc ta) U) ∧ News g1 L1 h ((I9, citO Bm u5) :: (Bm, methodObj (.ref 56) (.ref x)) :: nw ln6 kl' pos' tp') ∧ Rem text pos' σ ∧ (∃ e', Bare σ r' e' ∧ e' = e) ∧ acc.cps.toList ++ r' = r ∧ acc.length + σ.length ≤ 100) List.length ?_ 64 t0 _ (by simp only [List.length_cons] at hlen6; omega) ⟨_, _, _, _, _, _, (Str.ofString "" ++ ⟨#[c0]⟩), _, _, rfl, tok_fr (by assumption) rfl, (by assumption), (by assumption), ⟨_, B7, hee⟩, (tok_ok (acc := Str.ofString "") hrr), (one_len (by simp only [List.length_cons] at hlen6; omega))⟩
    intro τ s'' rest2 hJ2 hrest2
    revert hJ2
    refine exI ?_
    intro hA
    refine exI ?_
    intro tkA
    refine exI ?_
    intro klA
    refine exI ?_
    intro posA
    refine exI ?_
    intro tpA
    refine exI ?_
    intro UA
    refine exI ?_
    intro acc
    refine exI ?_
    intro tA
    refine exI ?_
    intro rA
    intro hx9
    obtain ⟨rfl, FA, NA, RA, hTT, hacc, hal⟩ := hx9
    revert hTT
    refine exI ?_
    intro eA
    intro hx9
    obtain ⟨TA, heA⟩ := hx9
    dsimp only [tokFrm] at FA
    clear hrest
    have hacc60 : acc.length ≤ 100 := by omega
    cases TA with
    | @ws c2 t2 hc2 =>
      revert c2 eA
      intro eA heA c2 hc2 hrest2 RA hal
      obtain ⟨q1, q4⟩ := ws_facts hc2
      refine next_ch X2 (by assumption) FA (by assumption) NA (by assumption) (by first | exact rfl | assumption) (show dp + 1 + 5 < recursionLimit by omega) (show un + 3 + 26 < cLine by omega) RA ?_
      intro hB tkB klB tpB uB FB NB RB
      rw [if_neg (Bool.eq_false_iff.mp q4)] at NB
      dsimp only [OwitTurn]
      repeat' (first | (unfold StopP; first | ((with_reducible show wpAny _ _ (call (Value.ref 56) _) _ _ _); k_dflt (refine' Con.use ?k1 ?k2 ?k3 ?k4 ?k5 (ConC.con (con_rc ?p0 _ _ _ _ ?p1 ?p2 _ ?p3)) ?k6 ?k7 ?k8 ?_; (case p0 => assumption); (case k1 | k2 | k3 | k4 | k5 => k_asm); (case k6 => walk_at "k6"); (case k7 => walk_at "k7"); (case k8 => walk_at "k8"); (case p1 => assumption); (case p2 => assumption); (case p3 => assumption); walk_at "cu5"))) | (k_unfold; (try dsimp only)) | (k_end; wrow_close) | walk1 | (dsimp only; walk1) | (leave1; walk_say "STEP leave1"; try dsimp only) | fail "no step")
      exact hret _ _ _ _ (by assumption) (cb_drop (by assumption) (fun p hp => List.mem_cons_of_mem _ (List.mem_cons_of_mem _ hp))) ⟨_, _, _, _, congrArg (fun z => Value.str z _) (tok_end hacc), by rw [hln0], (heA ▸ RB)⟩
    | @esc c2 t2 r2 e2 l2 T2 =>
      revert c2 t2 r2
      intro c2 t2 r2 l2 hrest2 RA hal hacc T2
      obtain ⟨q1, q2, q3, q4⟩ := l2.facts
      refine next_ch X2 (by assumption) FA (by assumption) NA (by assumption) (by first | exact rfl | assumption) (show dp + 1 + 5 < recursionLimit by omega) (show un + 3 + 26 < cLine by omega) RA ?_
      intro hB tkB klB tpB uB FB NB RB
      rw [if_neg (by decide +kernel)] at NB
      obtain ⟨hsl, RC⟩ := RB.cons
      have hp1 := RB.1
      have hp2 := RB.2.1
      dsimp only [OwitTurn]
      repeat' (first | (unfold StopP; first | ((with_reducible show wpAny _ _ (call (Value.ref 56) _) _ _ _); k_dflt (refine' Con.use ?k1 ?k2 ?k3 ?k4 ?k5 (ConC.con (con_rc ?p0 _ _ _ _ ?p1 ?p2 _ ?p3)) ?k6 ?k7 ?k8 ?_; (case p0 => assumption); (case k1 | k2 | k3 | k4 | k5 => k_asm); (case k6 => walk_at "k6"); (case k7 => walk_at "k7"); (case k8 => walk_at "k8"); (case p1 => assumption); (case p2 => assumption); (case p3 => assumption); walk_at "cu5"))) | (k_unfold; (try dsimp only)) | (k_end; wrow_close) | walk1 | (dsimp only; walk1) | (leave1; walk_say "STEP leave1"; try dsimp only) | fail "no step")
      exact hrest2 _ _ (by simp only [List.length_cons]; omega) ⟨_, _, _, _, _, _, _, _, _, rfl, tok_fr2 (by assumption) rfl (fun y h1 h2 => by simp only [h1, h2, if_false]; first | rfl | (unfold tokFrm; simp only [h1, h2, if_false]; done)), (by assumption), RC, ⟨_, T2, heA⟩, tok_ok hacc, (by have e9 : (acc ++ (⟨#[c2]⟩ : Str)).length = acc.length + 1 := snoc_len; rw [e9]; simp only [List.length_cons] at hal; omega)⟩
    | @lit c2 t2 r2 e2 l2 T2 =>
      revert c2 t2 r2
      intro c2 t2 r2 l2 hrest2 RA hal hacc T2
      obtain ⟨q1, q2, q3, q4⟩ := l2.facts
      refine next_ch X2 (by assumption) FA (by assumption) NA (by assumption) (by first | exact rfl | assumption) (show dp + 1 + 5 < recursionLimit by omega) (show un + 3 + 26 < cLine by omega) RA ?_
      intro hB tkB klB tpB uB FB NB RB
      rw [if_neg (Bool.eq_false_iff.mp q4)] at NB
      dsimp only [OwitTurn]
      repeat' (first | (unfold StopP; first | ((with_reducible show wpAny _ _ (call (Value.ref 56) _) _ _ _); k_dflt (refine' Con.use ?k1 ?k2 ?k3 ?k4 ?k5 (ConC.con (con_rc ?p0 _ _ _ _ ?p1 ?p2 _ ?p3)) ?k6 ?k7 ?k8 ?_; (case p0 => assumption); (case k1 | k2 | k3 | k4 | k5 => k_asm); (case k6 => walk_at "k6"); (case k7 => walk_at "k7"); (case k8 => walk_at "k8"); (case p1 => assumption); (case p2 => assumption); (case p3 => assumption); walk_at "cu5"))) | (k_unfold; (try dsimp only)) | (k_end; wrow_close) | walk1 | (dsimp only; walk1) | (leave1; walk_say "STEP leave1"; try dsimp only) | fail "no step")
      exact hrest2 _ _ (by simp only [List.length_cons]; omega) ⟨_, _, _, _, _, _, _, _, _, rfl, tok_fr2 (by assumption) rfl (fun y h1 h2 => by simp only [h1, h2, if_false]; first | rfl | (unfold tokFrm; simp only [h1, h2, if_false]; done)), (by assumption), RB, ⟨_, T2, heA⟩, tok_ok hacc, (by have e9 : (acc ++ (⟨#[c2]⟩ : Str)).length = acc.length + 1 := snoc_len; rw [e9]; simp only [List.length_cons] at hal; omega)⟩
  | fin =>
    refine next_end X2 (by assumption) F6 (by assumption) N6 (by assumption) (by first | exact rfl | assumption) (show dp + 1 + 5 < recursionLimit by omega) (show un + 3 + 26 < cLine by omega) (fun a b c d p hp => Nat.ne_of_lt (Lx.lt X0 (I := I9) (fun p hp => lI p (List.mem_cons_of_mem _ hp)) a b c d p hp)) R6 ?_
    intro h8 tk8 kl8 tp8 F8 N8
    dsimp only [OwitTurn]
    repeat' (first | (unfold StopP; first | ((with_reducible show wpAny _ _ (call (Value.ref 56) _) _ _ _); k_dflt (refine' Con.use ?k1 ?k2 ?k3 ?k4 ?k5 (ConC.con (con_rc ?p0 _ _ _ _ ?p1 ?p2 _ ?p3)) ?k6 ?k7 ?k8 ?_; (case p0 => assumption); (case k1 | k2 | k3 | k4 | k5 => k_asm); (case k6 => walk_at "k6"); (case k7 => walk_at "k7"); (case k8 => walk_at "k8"); (case p1 => assumption); (case p2 => assumption); (case p3 => assumption); walk_at "cu5"))) | (k_unfold; (try dsimp only)) | (k_end; wrow_close) | walk1 | (dsimp only; walk1) | (leave1; walk_say "STEP leave1"; try dsimp only) | fail "no step")
    exact hret _ _ _ _ (by assumption) (by assumption) ⟨_, _, _, _, by rw [← hrr]; rfl, by rw [show ln6 = ln + (kn : Int) by omega], (hee ▸ R6)⟩
end Mine
end
section
open PySem PySem.W PyProof.Rows
open PySem.Spec PySem.Calls
set_option maxRecDepth 100000
set_option maxHeartbeats 8000000
namespace Mine
/-- what of the machine stands still -/
structure Mch (prog : Program) (w : World) (p : Program) (loose : List Str) (mean : ExcName → Option Value) (mg mb : Str → Option Value) (text : Str) (x dx pb al st D rd c ca ct : Addr) (c1 c2 c3 c4 c5 : Int) (k1 k2 k3 k4 k5 kw : Tok) (fds fd : FuncData) (cO oa ot : Obj) (kk : Nat) (rest : List (Addr × Obj)) : Prop where
  hx : (x, instObj 73 dx) ∈ rest
  hst : (st, fnO fds (some D)) ∈ rest
  hD : (D, dictOf [⟨c5, .str (Str.ofString "read") k5, .ref rd⟩] 1) ∈ rest
  hrd : (rd, fnO fd none) ∈ rest
  hc : (c, cO) ∈ rest
  hca : (ca, oa) ∈ rest
  hct : (ct, ot) ∈ rest
  off : ∀ q ∈ rest, @Ne Nat q.1 pb ∧ @Ne Nat q.1 dx ∧ @Ne Nat q.1 al
  ne : @Ne Nat pb dx ∧ @Ne Nat pb al ∧ @Ne Nat dx al
  reads : Reads prog w p loose mean mg mb rd (fnO fd none) c cO ca ct al oa ot text
section
variable {prog : Program} {w : World} {p : Program} {loose : List Str} {mean : ExcName → Option Value} {mg mb : Str → Option Value} {text : Str} {x dx pb al st D rd c ca ct : Addr} {c1 c2 c3 c4 c5 : Int} {k1 k2 k3 k4 k5 kw : Tok} {fds fd : FuncData} {cO oa ot : Obj} {kk : Nat} {rest : List (Addr × Obj)}
theorem Mch.grow (M : Mch prog w p loose mean mg mb text x dx pb al st D rd c ca ct c1 c2 c3 c4 c5 k1 k2 k3 k4 k5 kw fds fd cO oa ot kk rest) {more : List (Addr × Obj)} (h : ∀ q ∈ more, @Ne Nat q.1 pb ∧ @Ne Nat q.1 dx ∧ @Ne Nat q.1 al) : Mch prog w p loose mean mg mb text x dx pb al st D rd c ca ct c1 c2 c3 c4 c5 k1 k2 k3 k4 k5 kw fds fd cO oa ot kk (more ++ rest) where
  hx := List.mem_append_right _ M.hx
  hst := List.mem_append_right _ M.hst
  hD := List.mem_append_right _ M.hD
  hrd := List.mem_append_right _ M.hrd
  hc := List.mem_append_right _ M.hc
  hca := List.mem_append_right _ M.hca
  hct := List.mem_append_right _ M.hct
  off q hq := (List.mem_append.mp hq).elim (h q) (M.off q)
  ne := M.ne
  reads := M.reads
theorem Mch.lx (M : Mch prog w p loose mean mg mb text x dx pb al st D rd c ca ct c1 c2 c3 c4 c5 k1 k2 k3 k4 k5 kw fds fd cO oa ot kk rest) (P : Obj) : Lx prog w p loose mean mg mb text x dx pb al st D rd c ca ct c1 c2 c3 c4 c5 k1 k2 k3 k4 k5 kw fds fd cO oa ot kk (fun ln kl q t => (pb, P) :: (dx, mD c1 c2 c3 c4 k1 k2 k3 k4 kw st pb ln kl) :: (al, W.listOf #[.int q t] kk) :: rest) where
  hx _ _ _ _ := List.mem_cons_of_mem _ (List.mem_cons_of_mem _ (List.mem_cons_of_mem _ M.hx))
  hst _ _ _ _ := List.mem_cons_of_mem _ (List.mem_cons_of_mem _ (List.mem_cons_of_mem _ M.hst))
  hD _ _ _ _ := List.mem_cons_of_mem _ (List.mem_cons_of_mem _ (List.mem_cons_of_mem _ M.hD))
  hrd _ _ _ _ := List.mem_cons_of_mem _ (List.mem_cons_of_mem _ (List.mem_cons_of_mem _ M.hrd))
  hc _ _ _ _ := List.mem_cons_of_mem _ (List.mem_cons_of_mem _ (List.mem_cons_of_mem _ M.hc))
  hca _ _ _ _ := List.mem_cons_of_mem _ (List.mem_cons_of_mem _ (List.mem_cons_of_mem _ M.hca))
  hct _ _ _ _ := List.mem_cons_of_mem _ (List.mem_cons_of_mem _ (List.mem_cons_of_mem _ M.hct))
  hu1 _ _ _ _ _ _ := .tail M.ne.2.1 (.tail M.ne.2.2 (.head fun q hq => (M.off q hq).2.2))
  hu2 _ _ _ _ _ _ := .tail M.ne.1 (.head fun q hq => by
    rcases List.mem_cons.mp hq with rfl | hq
    · exact Ne.symm M.ne.2.2
    · exact (M.off q hq).2.1)
  reads := M.reads
end
def rot1 {α : Type} : List α → List α
  | [] => []
  | a :: t => t ++ [a]
def rotN {α : Type} : Nat → List α → List α
  | 0, q => q
  | n + 1, q => rot1 (rotN n q)
theorem rot1_len {α : Type} : ∀ q : List α, (rot1 q).length = q.length
  | [] => rfl
  | _ :: _ => by simp [rot1]
theorem rotN_len {α : Type} : ∀ (n : Nat) (q : List α), (rotN n q).length = q.length
  | 0, _ => rfl
  | n + 1, q => (rot1_len _).trans (rotN_len n q)
def mixL (x : Int) (l : Light) (y : Int) (r : Light) : Light :=
  let M := min (x * l.1 + y * r.1) (min (x * l.2.1 + y * r.2.1) (x * l.2.2 + y * r.2.2))
  (x * l.1 + y * r.1 - M, x * l.2.1 + y * r.2.1 - M, x * l.2.2 + y * r.2.2 - M)
def growStep (i : Nat) (d : Int) (q : List Light) : List Light :=
  let kd := (d.fdiv (3 + (0 + (i : Int)))).fmod 4
  match rotN (d.fmod (3 + (0 + (i : Int)))).toNat q with
  | l :: r :: t => t ++ [l, mixL (1 - 2 * kd.fmod 2) l (1 - 2 * kd.fdiv 2) r, r]
  | q => q
def growS (ds : List Int) : Nat → List Light
  | 0 => [(1, 0, 0), (0, 1, 0), (0, 0, 1)]
  | i + 1 => growStep i (ds.getD i 0) (growS ds i)
theorem growStep_len {i : Nat} {d : Int} {q : List Light} (h : 2 ≤ q.length) : (growStep i d q).length = q.length + 1 := by
  unfold growStep
  have e := rotN_len (d.fmod (3 + (0 + (i : Int)))).toNat q
  dsimp only
  generalize rotN (d.fmod (3 + (0 + (i : Int)))).toNat q = q' at e
  match q', e with
  | [], e => simp at e; omega
  | [_], e => simp at e; omega
  | l :: r :: t, e => simp at e ⊢; omega
theorem growS_len (ds : List Int) : ∀ i, (growS ds i).length = 3 + i
  | 0 => rfl
  | i + 1 => by
    show (growStep i (ds.getD i 0) (growS ds i)).length = _
    rw [growStep_len (by have := growS_len ds i; omega), growS_len ds i]; omega
theorem rng_small8 : ∀ k : Nat, k < 8 → Builtin.Range.small 0 (k : Int) 1 = true ∧ Builtin.Range.rangeSize 0 (k : Int) 1 = (k : Int) := by decide
theorem rng_small {b : Int} (h0 : 0 ≤ b) (h1 : b < 8) : Builtin.Range.small 0 b 1 = true ∧ Builtin.Range.rangeSize 0 b 1 = ((b.toNat : Nat) : Int) := by
  obtain ⟨k, rfl⟩ := Int.eq_ofNat_of_zero_le h0
  exact rng_small8 k (Int.ofNat_lt.mp h1)
def stepFrm (m₀ : Str → Option Value) (U : Str → Option Value) : Str → Option Value := fun y => if y = Str.ofString "step" then U y else m₀ y
theorem stepFrm_start {m : Str → Option Value} : m = stepFrm m m := by
  funext y; unfold stepFrm; split <;> rfl
theorem stepFrm_next {m m₀ : Str → Option Value} (ho : ∀ y, y ≠ Str.ofString "step" → m y = m₀ y) : m = stepFrm m₀ m := by
  funext y; unfold stepFrm; split
  · rfl
  · exact ho y (by assumption)
theorem Words.uncons {f : Light → Str} {q : List Light} {ws : List Value} (h : Words f q ws) (hq : 0 < q.length) : ∃ v t q' ws', q = v :: q' ∧ ws = .str (f v) t :: ws' ∧ Words f q' ws' := by
  cases h with
  | nil => exact absurd hq (by decide)
  | cons h => exact ⟨_, _, _, _, rfl, rfl, h⟩
theorem mem_rot1 {α : Type} {a : α} : ∀ {q : List α}, a ∈ rot1 q → a ∈ q
  | [], h => h
  | b :: t, h => by
    rcases List.mem_append.mp h with h | h
    · exact List.mem_cons_of_mem _ h
    · rw [List.mem_singleton.mp h]; exact List.mem_cons_self
theorem mem_rotN {α : Type} {a : α} {q : List α} : ∀ {n : Nat}, a ∈ rotN n q → a ∈ q
  | 0, h => h
  | n + 1, h => mem_rotN (n := n) (mem_rot1 h)
theorem growStep_eq {i : Nat} {d : Int} {q t : List Light} {l r : Light} (h : rotN (d.fmod (3 + (0 + (i : Int)))).toNat q = l :: r :: t) :
    growStep i d q = t ++ [l, mixL (1 - 2 * ((d.fdiv (3 + (0 + (i : Int)))).fmod 4).fmod 2) l (1 - 2 * ((d.fdiv (3 + (0 + (i : Int)))).fmod 4).fdiv 2) r, r] := by
  unfold growStep; rw [h]
theorem sgn_fmod (k : Int) : -1 ≤ 1 - 2 * k.fmod 2 ∧ 1 - 2 * k.fmod 2 ≤ 1 := by
  have h1 := Int.fmod_nonneg_of_pos k (b := 2) (by decide)
  have h2 := Int.fmod_lt_of_pos k (b := 2) (by decide)
  omega
theorem sgn_fdiv4 : ∀ k : Nat, k < 4 → -1 ≤ 1 - 2 * (k : Int).fdiv 2 ∧ 1 - 2 * (k : Int).fdiv 2 ≤ 1 := by decide
theorem sgn_fdiv {k : Int} (h0 : 0 ≤ k) (h1 : k < 4) : -1 ≤ 1 - 2 * k.fdiv 2 ∧ 1 - 2 * k.fdiv 2 ≤ 1 := by
  obtain ⟨k, rfl⟩ := Int.eq_ofNat_of_zero_le h0
  exact sgn_fdiv4 k (Int.ofNat_lt.mp h1)
theorem Words.app3 {f : Light → Str} {a b c : Light} {t1 t2 t3 : Tok} {q : List Light} {ws : List Value} (h : Words f q ws) : Words f (q ++ [a, b, c]) (ws ++ [.str (f a) t1, .str (f b) t2, .str (f c) t3]) := by
  have h1 := ((h.snoc (v := a) (t := t1)).snoc (v := b) (t := t2)).snoc (v := c) (t := t3)
  simpa using h1
theorem mem_swap3 {a b c : Addr × Obj} {r : List (Addr × Obj)} : ∀ p ∈ c :: a :: b :: r, p ∈ a :: b :: c :: r := fun p hp => by
  simp only [List.mem_cons] at hp ⊢
  rcases hp with h | h | h | h
  · exact .inr (.inr (.inl h))
  · exact .inl h
  · exact .inr (.inl h)
  · exact .inr (.inr (.inr h))
def grownFrm (m₀ : Str → Option Value) (U : Str → Option Value) : Str → Option Value := fun y => if y = Str.ofString "word" then U y else if y = Str.ofString "k" then U y else if y = Str.ofString "step" then U y else if y = Str.ofString "kind" then U y else if y = Str.ofString "left" then U y else if y = Str.ofString "right" then U y else if y = Str.ofString "mixed" then U y else m₀ y
theorem grownFrm_next {m m₀ : Str → Option Value} (ho : ∀ y, y ≠ Str.ofString "word" → y ≠ Str.ofString "k" → y ≠ Str.ofString "step" → y ≠ Str.ofString "kind" → y ≠ Str.ofString "left" → y ≠ Str.ofString "right" → y ≠ Str.ofString "mixed" → m y = m₀ y) : grownFrm m₀ m = m := by
  funext y; unfold grownFrm
  repeat' split
  all_goals first | rfl | exact (ho y (by assumption) (by assumption) (by assumption) (by assumption) (by assumption) (by assumption) (by assumption)).symm
theorem grownFrm_start {m₀ U : Str → Option Value} : grownFrm m₀ (sentFrm m₀ U) = sentFrm m₀ U :=
  grownFrm_next fun y h1 _ _ _ _ _ _ => by unfold sentFrm; rw [if_neg h1]
local macro_rules | `(tactic| walk_at "cu3") => `(tactic| (intro r9 news9 h9 tk9 F9 N9; (repeat (refine exI ?_; intro x9)); intro hp9; obtain ⟨e9, f9, l9, m9⟩ := hp9; subst e9 f9 m9; (try k_lt l9); (try dsimp only)))
local macro_rules | `(tactic| walk_at "cu4") => `(tactic| (intro r9 news9 h9 tk9 F9 N9; (repeat (refine exI ?_; intro x9)); intro hp9; obtain ⟨e9, f9, R9⟩ := hp9; subst e9 f9; (try dsimp only); (try dsimp only at N9)))
local macro_rules | `(tactic| walk_at "call ref") => `(tactic| (k_here; (first | with_reducible show wpAny _ _ (call (Value.ref 70) _) _ _ _ | with_reducible show wpAny _ _ (call (Value.ref 63) _) _ _ _ | with_reducible show wpAny _ _ (call (Value.ref 106) _) _ _ _ | with_reducible show wpAny _ _ (call (Value.ref 111) _) _ _ _ | with_reducible show wpAny _ _ (call (Value.ref 99) _) _ _ _); refine stopper ?_))
local macro_rules | `(tactic| walk_at "exec For Name Name cons nil") => `(tactic| (k_here; (rename Fr _ _ _ _ => lF'); (with_unfolding_all refine' For_invVF lF' ?k1 ?k2 ?_; (case k1 => exact rfl); (case k2 => exact rfl); k_whole)))
local macro_rules | `(tactic| walk_at "pyIter ref") => `(tactic| (k_here; k_dflt (refine' iter_listUnr ?hh ?F ?N ?hm ?hc ?hd ?_; (case hh => rfl); (case F => k_asm); (case N => k_asm); (case hm => k_mem); (case hc => rfl); (case hd => rfl)); intro I' l1'; (try k_lt l1')))
local macro_rules | `(tactic| walk_at "subscriptTail") => `(tactic| (k_here; (with_reducible show wpAny _ _ (subscriptTail (PySem.Expr.Name (Str.ofString "draws") _) _ (Value.ref _) (Value.int _ _)) _ _ _); k_dflt (refine' it_pos ?N ?m ?a ?b ?d ?_; (case N => k_asm); (case m => k_mem); (case d => with_reducible assumption); (case a => omega); (case b => omega))))
local macro_rules | `(tactic| walk_at "eval ListComp") => `(tactic| (k_here; k_dflt (refine LCg.ListComp_U (F₀ := by k_asm) (by with_unfolding_all rfl) (by decide) (by rfl) (by decide) (by rfl) ?_)))
local macro_rules | `(tactic| walk_at "CompSrc") => `(tactic| (k_here; k_dflt (refine LCg.CompSrc.range (by rfl) (by k_asm) (by k_asm) (by assumption) (by first | decide | rfl) (by first | rfl | decide) (by first | size_fits | exact Nat.le_of_ble_eq_true rfl) ?_; intro g')))
local macro_rules | `(tactic| walk_at "CompRest") => `(tactic| refine stopper ?_)
local macro_rules | `(tactic| walk_at "CompEnd") => `(tactic| refine stopper ?_)
local macro_rules | `(tactic| walk_at "UnrEnd") => `(tactic| refine stopper ?_)
local macro_rules | `(tactic| walk_at "ListRest") => `(tactic| refine stopper ?_)
local macro_rules | `(tactic| walk_at "RangeRest") => `(tactic| refine stopper ?_)
theorem con_grown {prog w p loose mean mg mb} {text : Str} {x dx pb al st D rd c ca ct : Addr} {c1 c2 c3 c4 c5 : Int} {k1 k2 k3 k4 k5 kw : Tok} {fds fd : FuncData} {cO oa ot : Obj} {kk : Nat} {rest : List (Addr × Obj)} (M0 : Mch prog w p loose mean mg mb text x dx pb al st D rd c ca ct c1 c2 c3 c4 c5 k1 k2 k3 k4 k5 kw fds fd cO oa ot kk rest) (pk : Nat) (kl0 tp0 : Tok) (dl : Addr) (nd : Nat) (ds : List Int) (dv : List Value) (hds : Ils ds dv) (hdl : ds.length = 5) (hd0 : ∀ d ∈ ds, 0 ≤ d ∧ d < 100000) (hl : (dl, ({ cls := .type "list", data := .seq dv.toArray nd } : Obj)) ∈ rest)
   (tt rr : Nat → List Nat) (kn : Nat → Nat) (lnF : Nat → Int) (hT : ∀ i, i < 3 → Tokn (tt i) (rr i) (tt (i + 1)) (kn i)) (hlt : ∀ i, i < 3 → (tt i).length < 60) (hR0 : Rem text 0 (tt 0)) (hln : ∀ i, i < 3 → lnF (i + 1) = lnF i + (kn i : Int)) (hrr : ∀ i, i < 3 → ∃ v, (growS ds 0)[i]? = some v ∧ (⟨(rr i).toArray⟩ : Str) = wordL v)
   (hG : ∀ i, i ≤ 5 → ∀ v ∈ growS ds i, LRg v ∧ 0 < v.1 * 4096 + v.2.1 * 64 + v.2.2) :
   Con 10 64 prog w p loose mean mg mb 133 [.ref x, .ref dl] ((pb, W.listOf #[] pk) :: (dx, mD c1 c2 c3 c4 k1 k2 k3 k4 kw st pb (lnF 0) kl0) :: (al, W.listOf #[.int 0 tp0] kk) :: rest) (fun rv news' => ∃ a nn k kl q t mo as, rv = .ref a ∧ news' = (a, ({ cls := .type "list", data := .seq (as.map Value.ref).toArray nn } : Obj)) :: (pb, W.listOf #[] k) :: (dx, mD c1 c2 c3 c4 k1 k2 k3 k4 kw st pb (lnF 3) kl) :: (al, W.listOf #[.int q t] kk) :: (mo ++ rest) ∧ Mch prog w p loose mean mg mb text x dx pb al st D rd c ca ct c1 c2 c3 c4 c5 k1 k2 k3 k4 k5 kw fds fd cO oa ot kk (mo ++ rest) ∧ (∀ p ∈ mo, ∀ b ∈ rest, @Ne Nat p.1 b.1) ∧ Lights mo (growS ds 5) as ∧ Rem text q (tt 3) ∧ (∀ p ∈ (pb, W.listOf #[] k) :: (dx, mD c1 c2 c3 c4 k1 k2 k3 k4 kw st pb (lnF 3) kl) :: (al, W.listOf #[.int q t] kk) :: (mo ++ rest), @Ne Nat p.1 a)) := by
  unfold Con
  intros dp un gd cn cs a ccd cl outer A₀ base h₀ L m s Q E
  revert M0 hds hdl hd0 hl hT hlt hR0 hln hrr hG
  revert prog w p loose mean mg mb text x dx pb al st D rd c ca ct c1 c2 c3 c4 c5 k1 k2 k3 k4 k5 kw fds fd cO oa ot kk rest pk kl0 tp0 dl nd ds dv tt rr kn lnF dp un gd cn cs a ccd cl outer A₀ base h₀ L m s Q E
  refine no_implicit_lambda% (all8 (by repeat (first | exact neS | exact neA | exact neW | refine nP ?_ ?_ | exact neT _ | infer_instance)) ?_)
  generalize Prod.fst (c8 _ _) = prog, Prod.fst (Prod.snd (c8 _ _)) = w, Prod.fst (Prod.snd (Prod.snd (c8 _ _))) = p, Prod.fst (Prod.snd (Prod.snd (Prod.snd (c8 _ _)))) = loose, Prod.fst (Prod.snd (Prod.snd (Prod.snd (Prod.snd (c8 _ _))))) = mean, Prod.fst (Prod.snd (Prod.snd (Prod.snd (Prod.snd (Prod.snd (c8 _ _)))))) = mg, Prod.fst (Prod.snd (Prod.snd (Prod.snd (Prod.snd (Prod.snd (Prod.snd (c8 _ _))))))) = mb, Prod.snd (Prod.snd (Prod.snd (Prod.snd (Prod.snd (Prod.snd (Prod.snd (c8 _ _))))))) = text
  refine no_implicit_lambda% (all8 (by repeat (first | exact neS | exact neA | exact neW | refine nP ?_ ?_ | exact neT _ | infer_instance)) ?_)
  generalize Prod.fst (c8 _ _) = x, Prod.fst (Prod.snd (c8 _ _)) = dx, Prod.fst (Prod.snd (Prod.snd (c8 _ _))) = pb, Prod.fst (Prod.snd (Prod.snd (Prod.snd (c8 _ _)))) = al, Prod.fst (Prod.snd (Prod.snd (Prod.snd (Prod.snd (c8 _ _))))) = st, Prod.fst (Prod.snd (Prod.snd (Prod.snd (Prod.snd (Prod.snd (c8 _ _)))))) = D, Prod.fst (Prod.snd (Prod.snd (Prod.snd (Prod.snd (Prod.snd (Prod.snd (c8 _ _))))))) = rd, Prod.snd (Prod.snd (Prod.snd (Prod.snd (Prod.snd (Prod.snd (Prod.snd (c8 _ _))))))) = c
  refine no_implicit_lambda% (all8 (by repeat (first | exact neS | exact neA | exact neW | refine nP ?_ ?_ | exact neT _ | infer_instance)) ?_)
  generalize Prod.fst (c8 _ _) = ca, Prod.fst (Prod.snd (c8 _ _)) = ct, Prod.fst (Prod.snd (Prod.snd (c8 _ _))) = c1, Prod.fst (Prod.snd (Prod.snd (Prod.snd (c8 _ _)))) = c2, Prod.fst (Prod.snd (Prod.snd (Prod.snd (Prod.snd (c8 _ _))))) = c3, Prod.fst (Prod.snd (Prod.snd (Prod.snd (Prod.snd (Prod.snd (c8 _ _)))))) = c4, Prod.fst (Prod.snd (Prod.snd (Prod.snd (Prod.snd (Prod.snd (Prod.snd (c8 _ _))))))) = c5, Prod.snd (Prod.snd (Prod.snd (Prod.snd (Prod.snd (Prod.snd (Prod.snd (c8 _ _))))))) = k1
  refine no_implicit_lambda% (all8 (by repeat (first | exact neS | exact neA | exact neW | refine nP ?_ ?_ | exact neT _ | infer_instance)) ?_)
  generalize Prod.fst (c8 _ _) = k2, Prod.fst (Prod.snd (c8 _ _)) = k3, Prod.fst (Prod.snd (Prod.snd (c8 _ _))) = k4, Prod.fst (Prod.snd (Prod.snd (Prod.snd (c8 _ _)))) = k5, Prod.fst (Prod.snd (Prod.snd (Prod.snd (Prod.snd (c8 _ _))))) = kw, Prod.fst (Prod.snd (Prod.snd (Prod.snd (Prod.snd (Prod.snd (c8 _ _)))))) = fds, Prod.fst (Prod.snd (Prod.snd (Prod.snd (Prod.snd (Prod.snd (Prod.snd (c8 _ _))))))) = fd, Prod.snd (Prod.snd (Prod.snd (Prod.snd (Prod.snd (Prod.snd (Prod.snd (c8 _ _))))))) = cO
  refine no_implicit_lambda% (all8 (by repeat (first | exact neS | exact neA | exact neW | refine nP ?_ ?_ | exact neT _ | infer_instance)) ?_)
  generalize Prod.fst (c8 _ _) = oa, Prod.fst (Prod.snd (c8 _ _)) = ot, Prod.fst (Prod.snd (Prod.snd (c8 _ _))) = kk, Prod.fst (Prod.snd (Prod.snd (Prod.snd (c8 _ _)))) = rest, Prod.fst (Prod.snd (Prod.snd (Prod.snd (Prod.snd (c8 _ _))))) = pk, Prod.fst (Prod.snd (Prod.snd (Prod.snd (Prod.snd (Prod.snd (c8 _ _)))))) = kl0, Prod.fst (Prod.snd (Prod.snd (Prod.snd (Prod.snd (Prod.snd (Prod.snd (c8 _ _))))))) = tp0, Prod.snd (Prod.snd (Prod.snd (Prod.snd (Prod.snd (Prod.snd (Prod.snd (c8 _ _))))))) = dl
  refine no_implicit_lambda% (all8 (by repeat (first | exact neS | exact neA | exact neW | refine nP ?_ ?_ | exact neT _ | infer_instance)) ?_)
  generalize Prod.fst (c8 _ _) = nd, Prod.fst (Prod.snd (c8 _ _)) = ds, Prod.fst (Prod.snd (Prod.snd (c8 _ _))) = dv, Prod.fst (Prod.snd (Prod.snd (Prod.snd (c8 _ _)))) = tt, Prod.fst (Prod.snd (Prod.snd (Prod.snd (Prod.snd (c8 _ _))))) = rr, Prod.fst (Prod.snd (Prod.snd (Prod.snd (Prod.snd (Prod.snd (c8 _ _)))))) = kn, Prod.fst (Prod.snd (Prod.snd (Prod.snd (Prod.snd (Prod.snd (Prod.snd (c8 _ _))))))) = lnF, Prod.snd (Prod.snd (Prod.snd (Prod.snd (Prod.snd (Prod.snd (Prod.snd (c8 _ _))))))) = dp
  refine no_implicit_lambda% (all8 (by repeat (first | exact neS | exact neA | exact neW | refine nP ?_ ?_ | exact neT _ | infer_instance)) ?_)
  generalize Prod.fst (c8 _ _) = un, Prod.fst (Prod.snd (c8 _ _)) = gd, Prod.fst (Prod.snd (Prod.snd (c8 _ _))) = cn, Prod.fst (Prod.snd (Prod.snd (Prod.snd (c8 _ _)))) = cs, Prod.fst (Prod.snd (Prod.snd (Prod.snd (Prod.snd (c8 _ _))))) = a, Prod.fst (Prod.snd (Prod.snd (Prod.snd (Prod.snd (Prod.snd (c8 _ _)))))) = ccd, Prod.fst (Prod.snd (Prod.snd (Prod.snd (Prod.snd (Prod.snd (Prod.snd (c8 _ _))))))) = cl, Prod.snd (Prod.snd (Prod.snd (Prod.snd (Prod.snd (Prod.snd (Prod.snd (c8 _ _))))))) = outer
  refine no_implicit_lambda% (all8 (by repeat (first | exact neS | exact neA | exact neW | refine nP ?_ ?_ | exact neT _ | infer_instance)) ?_)
  generalize Prod.fst (c8 _ _) = A₀, Prod.fst (Prod.snd (c8 _ _)) = base, Prod.fst (Prod.snd (Prod.snd (c8 _ _))) = h₀, Prod.fst (Prod.snd (Prod.snd (Prod.snd (c8 _ _)))) = L, Prod.fst (Prod.snd (Prod.snd (Prod.snd (Prod.snd (c8 _ _))))) = m, Prod.fst (Prod.snd (Prod.snd (Prod.snd (Prod.snd (Prod.snd (c8 _ _)))))) = s, Prod.fst (Prod.snd (Prod.snd (Prod.snd (Prod.snd (Prod.snd (Prod.snd (c8 _ _))))))) = Q, Prod.snd (Prod.snd (Prod.snd (Prod.snd (Prod.snd (Prod.snd (Prod.snd (c8 _ _))))))) = E
  intro M0 hds hdl hd0 hl hT hlt hR0 hln hrr hG B F X N T hk hd hu hret
  refine wpAny_call ?_
  k_dflt (refine' code_defC ?k1 ?k2 ?k3 ?k4 ?k5 ?kA ?kF ?kK ?k6 ?k7 ?k8 ?k9 ?kB ?kD ?_ ?c2 ?c3 ?c4; (case kA => exact rfl); (case kF => exact rfl); (case kK => assumption); (case k1 => k_asm); (case k2 => k_asm); (case k3 => k_asm); (case k4 => k_asm); (case k5 => k_asm); (case k6 => k_is); (case k7 => k_is); (case k8 => ktr_room); (case k9 => exact BindsTo.of_eq rfl); (case kB => exact rfl); (case kD => decide +kernel); (case c2 => exact rfl); (case c3 => exact rfl); (case c4 => exact rfl); k_whole; intro g' L' h' tk' cells' FG' F' N' Y' B' X' T' l1; (try k_lt l1); k_cells Y'; (try simp only [List.cons_append, List.nil_append] at N'); (try dsimp only); (try k_lift B'); (try k_fold))
  repeat' (first | (unfold StopP; first | ((with_reducible show wpAny _ _ (call (Value.ref 63) _) _ _ _); k_dflt (refine' Con.use ?k1 ?k2 ?k3 ?k4 ?k5 (ConC.con (con_tok ?X9 _ ?p9 _ _ _ _ _ _ _ _ ?t9 ?r9 ?l9)) ?k6 ?k7 ?k8 ?_; (case X9 => assumption); (case t9 => assumption); (case r9 => assumption); (case l9 => assumption); (case p9 => intro _ _ _ _; k_mem); (case k1 | k2 | k3 | k4 | k5 => k_asm); (case k6 => walk_at "k6"); (case k7 => walk_at "k7"); (case k8 => walk_at "k8"); walk_at "cu4")) | ((with_reducible show wpAny _ _ (call (Value.ref 99) _) _ _ _); k_dflt (refine Con.use (by k_asm) (by k_asm) (by k_asm) (by k_asm) (by k_asm) (con_word _ _ _ _ _ _ _ _ (by k_mem) (by assumption) (by assumption)) (by walk_at "k6") (by walk_at "k7") (by walk_at "k8") ?_; walk_at "cu1")) | ((with_reducible show wpAny _ _ (call (Value.ref 111) _) _ _ _); k_dflt (refine Con.use (by k_asm) (by k_asm) (by k_asm) (by k_asm) (by k_asm) (con_mixed _ _ _ _ _ _ _ _ _ _ _ _ _ _ _ _ _ _ _ (by k_mem) (by k_mem) (by assumption) (by assumption) (by assumption) (by assumption)) (by walk_at "k6") (by walk_at "k7") (by walk_at "k8") ?_; walk_at "cu3")) | ((with_reducible show wpAny _ _ (call (Value.ref 106) _) _ _ _); k_dflt (refine Con.use (by k_asm) (by k_asm) (by k_asm) (by k_asm) (by k_asm) (con_light _ _ _ _ _ (by assumption)) (by walk_at "k6") (by walk_at "k7") (by walk_at "k8") ?_; walk_at "cu2")) | ((with_reducible show wpAny _ _ (call (Value.ref 63) _) _ _ _); k_dflt (refine' Con.use ?k1 ?k2 ?k3 ?k4 ?k5 (con_popU _ _ _ _ _ _ _ _ _ _ _ _ _ _ _ _ _ _ _ _ _ ?p1 ?p2 ?p3 ?p4) ?k6 ?k7 ?k8 ?_; (case k1 | k2 | k3 | k4 | k5 => k_asm); (case k6 => walk_at "k6"); (case k7 => walk_at "k7"); (case k8 => walk_at "k8"); (case p1 => k_mem); (case p2 => k_mem); (case p3 => k_upd); (case p4 => assumption); intro r9 news9 h9 tk9 F9 N9 hp9; obtain ⟨e9, f9⟩ := hp9; subst e9 f9; (try dsimp only); (try k_fold))) | ((with_reducible show wpAny _ _ (call (Value.ref 70) _) _ _ _); k_dflt (refine' Con.use ?k1 ?k2 ?k3 ?k4 ?k5 (con_pushU _ _ _ _ _ _ _ _ _ _ _ _ _ _ _ _ _ _ _ _ ?p1 ?p2 ?p3 ?p4) ?k6 ?k7 ?k8 ?_; (case k1 | k2 | k3 | k4 | k5 => k_asm); (case k6 => walk_at "k6"); (case k7 => walk_at "k7"); (case k8 => walk_at "k8"); (case p1 => k_mem); (case p2 => k_mem); (case p3 => k_upd); (case p4 => assumption); intro r9 news9 h9 tk9 F9 N9 hp9; obtain ⟨e9, f9⟩ := hp9; subst e9 f9; (try dsimp only); (try k_fold)))) | (k_unfold; (try dsimp only)) | (k_end; wrow_close) | walk1 | (dsimp only; walk1) | (leave1; walk_say "STEP leave1"; try dsimp only) | fail "no step")
  rename_i FX o1 do1 NX hY tkY tY uY vY rngY FY NY keepY gY
  have hLal : @LT.lt Nat _ al L' := l1.2.2.1
  have hLdx : @LT.lt Nat _ dx L' := l1.2.1
  have XC := Lx.cons (d := L' + 1) (o := o1) (M0.lx (W.listOf #[] pk)) (Nat.ne_of_gt (Nat.lt_succ_of_lt hLal)) (Nat.ne_of_gt (Nat.lt_succ_of_lt hLdx))
  unfold StopP
  refine rest_inv (fun i ys nw => ∃ kl q t, nw = (L' + 1, o1) :: (pb, W.listOf #[] pk) :: (dx, mD c1 c2 c3 c4 k1 k2 k3 k4 kw st pb (lnF i) kl) :: (al, W.listOf #[.int q t] kk) :: rest ∧ Rem text q (tt i) ∧ Words wordL ((growS ds 0).take i) ys) ⟨kl0, 0, tp0, rfl, hR0, .nil⟩ ?_ ?_
  · intro i hi ys nw hJ v I oI C oC D9 m₂ h tk E' hv hC hvx F9 N9 off9
    revert hJ
    refine exI ?_
    intro kl
    refine exI ?_
    intro q
    refine exI ?_
    intro t
    intro hx9
    obtain ⟨hn, hRm, hW⟩ := hx9
    subst hn
    have hoa := LCg.Off3.mem off9 (al, W.listOf #[.int q t] kk) (by k_mem)
    have hob := LCg.Off3.mem off9 (dx, mD c1 c2 c3 c4 k1 k2 k3 k4 kw st pb (lnF i) kl) (by k_mem)
    have X9 := Lx.cons (d := I) (o := oI) (Lx.cons (d := C) (o := oC) (Lx.cons (d := D9) (o := LCg.lst ys) XC (Ne.symm hoa.2.2) (Ne.symm hob.2.2)) (Ne.symm hoa.2.1) (Ne.symm hob.2.1)) (Ne.symm hoa.1) (Ne.symm hob.1)
    have hx' := M0.hx
    have hTi := hT i hi
    have hli := hlt i hi
    repeat' (first | (unfold StopP; first | ((with_reducible show wpAny _ _ (call (Value.ref 63) _) _ _ _); k_dflt (refine' Con.use ?k1 ?k2 ?k3 ?k4 ?k5 (ConC.con (con_tok ?X9 _ ?p9 _ _ _ _ _ _ _ _ ?t9 ?r9 ?l9)) ?k6 ?k7 ?k8 ?_; (case X9 => assumption); (case t9 => assumption); (case r9 => assumption); (case l9 => assumption); (case p9 => intro _ _ _ _; k_mem); (case k1 | k2 | k3 | k4 | k5 => k_asm); (case k6 => walk_at "k6"); (case k7 => walk_at "k7"); (case k8 => walk_at "k8"); walk_at "cu4")) | ((with_reducible show wpAny _ _ (call (Value.ref 99) _) _ _ _); k_dflt (refine Con.use (by k_asm) (by k_asm) (by k_asm) (by k_asm) (by k_asm) (con_word _ _ _ _ _ _ _ _ (by k_mem) (by assumption) (by assumption)) (by walk_at "k6") (by walk_at "k7") (by walk_at "k8") ?_; walk_at "cu1")) | ((with_reducible show wpAny _ _ (call (Value.ref 111) _) _ _ _); k_dflt (refine Con.use (by k_asm) (by k_asm) (by k_asm) (by k_asm) (by k_asm) (con_mixed _ _ _ _ _ _ _ _ _ _ _ _ _ _ _ _ _ _ _ (by k_mem) (by k_mem) (by assumption) (by assumption) (by assumption) (by assumption)) (by walk_at "k6") (by walk_at "k7") (by walk_at "k8") ?_; walk_at "cu3")) | ((with_reducible show wpAny _ _ (call (Value.ref 106) _) _ _ _); k_dflt (refine Con.use (by k_asm) (by k_asm) (by k_asm) (by k_asm) (by k_asm) (con_light _ _ _ _ _ (by assumption)) (by walk_at "k6") (by walk_at "k7") (by walk_at "k8") ?_; walk_at "cu2")) | ((with_reducible show wpAny _ _ (call (Value.ref 63) _) _ _ _); k_dflt (refine' Con.use ?k1 ?k2 ?k3 ?k4 ?k5 (con_popU _ _ _ _ _ _ _ _ _ _ _ _ _ _ _ _ _ _ _ _ _ ?p1 ?p2 ?p3 ?p4) ?k6 ?k7 ?k8 ?_; (case k1 | k2 | k3 | k4 | k5 => k_asm); (case k6 => walk_at "k6"); (case k7 => walk_at "k7"); (case k8 => walk_at "k8"); (case p1 => k_mem); (case p2 => k_mem); (case p3 => k_upd); (case p4 => assumption); intro r9 news9 h9 tk9 F9 N9 hp9; obtain ⟨e9, f9⟩ := hp9; subst e9 f9; (try dsimp only); (try k_fold))) | ((with_reducible show wpAny _ _ (call (Value.ref 70) _) _ _ _); k_dflt (refine' Con.use ?k1 ?k2 ?k3 ?k4 ?k5 (con_pushU _ _ _ _ _ _ _ _ _ _ _ _ _ _ _ _ _ _ _ _ ?p1 ?p2 ?p3 ?p4) ?k6 ?k7 ?k8 ?_; (case k1 | k2 | k3 | k4 | k5 => k_asm); (case k6 => walk_at "k6"); (case k7 => walk_at "k7"); (case k8 => walk_at "k8"); (case p1 => k_mem); (case p2 => k_mem); (case p3 => k_upd); (case p4 => assumption); intro r9 news9 h9 tk9 F9 N9 hp9; obtain ⟨e9, f9⟩ := hp9; subst e9 f9; (try dsimp only); (try k_fold)))) | (k_unfold; (try dsimp only)) | (k_end; wrow_close) | walk1 | (dsimp only; walk1) | (leave1; walk_say "STEP leave1"; try dsimp only) | fail "no step")
    unfold StopP
    refine exI ?_ (hrr i hi)
    intro lv
    intro hx9
    obtain ⟨hlv, hwv⟩ := hx9
    rename_i R9 N9'
    refine LCg.CompEnd.intro (by assumption) N9' _ (fun p hp => hp) off9 trivial ⟨_, _, _, by rw [hln i hi], R9, ?_⟩
    rw [List.take_add_one, hlv, hwv]
    exact hW.snoc
  · intro ys nw hJ
    revert hJ
    refine exI ?_
    intro kl
    refine exI ?_
    intro q
    refine exI ?_
    intro t
    intro hx9
    obtain ⟨hn, hRm, hW⟩ := hx9
    subst hn
    repeat' (first | (unfold StopP; first | ((with_reducible show wpAny _ _ (call (Value.ref 63) _) _ _ _); k_dflt (refine' Con.use ?k1 ?k2 ?k3 ?k4 ?k5 (ConC.con (con_tok ?X9 _ ?p9 _ _ _ _ _ _ _ _ ?t9 ?r9 ?l9)) ?k6 ?k7 ?k8 ?_; (case X9 => assumption); (case t9 => assumption); (case r9 => assumption); (case l9 => assumption); (case p9 => intro _ _ _ _; k_mem); (case k1 | k2 | k3 | k4 | k5 => k_asm); (case k6 => walk_at "k6"); (case k7 => walk_at "k7"); (case k8 => walk_at "k8"); walk_at "cu4")) | ((with_reducible show wpAny _ _ (call (Value.ref 99) _) _ _ _); k_dflt (refine Con.use (by k_asm) (by k_asm) (by k_asm) (by k_asm) (by k_asm) (con_word _ _ _ _ _ _ _ _ (by k_mem) (by assumption) (by assumption)) (by walk_at "k6") (by walk_at "k7") (by walk_at "k8") ?_; walk_at "cu1")) | ((with_reducible show wpAny _ _ (call (Value.ref 111) _) _ _ _); k_dflt (refine Con.use (by k_asm) (by k_asm) (by k_asm) (by k_asm) (by k_asm) (con_mixed _ _ _ _ _ _ _ _ _ _ _ _ _ _ _ _ _ _ _ (by k_mem) (by k_mem) (by assumption) (by assumption) (by assumption) (by assumption)) (by walk_at "k6") (by walk_at "k7") (by walk_at "k8") ?_; walk_at "cu3")) | ((with_reducible show wpAny _ _ (call (Value.ref 106) _) _ _ _); k_dflt (refine Con.use (by k_asm) (by k_asm) (by k_asm) (by k_asm) (by k_asm) (con_light _ _ _ _ _ (by assumption)) (by walk_at "k6") (by walk_at "k7") (by walk_at "k8") ?_; walk_at "cu2")) | ((with_reducible show wpAny _ _ (call (Value.ref 63) _) _ _ _); k_dflt (refine' Con.use ?k1 ?k2 ?k3 ?k4 ?k5 (con_popU _ _ _ _ _ _ _ _ _ _ _ _ _ _ _ _ _ _ _ _ _ ?p1 ?p2 ?p3 ?p4) ?k6 ?k7 ?k8 ?_; (case k1 | k2 | k3 | k4 | k5 => k_asm); (case k6 => walk_at "k6"); (case k7 => walk_at "k7"); (case k8 => walk_at "k8"); (case p1 => k_mem); (case p2 => k_mem); (case p3 => k_upd); (case p4 => assumption); intro r9 news9 h9 tk9 F9 N9 hp9; obtain ⟨e9, f9⟩ := hp9; subst e9 f9; (try dsimp only); (try k_fold))) | ((with_reducible show wpAny _ _ (call (Value.ref 70) _) _ _ _); k_dflt (refine' Con.use ?k1 ?k2 ?k3 ?k4 ?k5 (con_pushU _ _ _ _ _ _ _ _ _ _ _ _ _ _ _ _ _ _ _ _ ?p1 ?p2 ?p3 ?p4) ?k6 ?k7 ?k8 ?_; (case k1 | k2 | k3 | k4 | k5 => k_asm); (case k6 => walk_at "k6"); (case k7 => walk_at "k7"); (case k8 => walk_at "k8"); (case p1 => k_mem); (case p2 => k_mem); (case p3 => k_upd); (case p4 => assumption); intro r9 news9 h9 tk9 F9 N9 hp9; obtain ⟨e9, f9⟩ := hp9; subst e9 f9; (try dsimp only); (try k_fold)))) | (k_unfold; (try dsimp only)) | (k_end; wrow_close) | walk1 | (dsimp only; walk1) | (leave1; walk_say "STEP leave1"; try dsimp only) | fail "no step")
    rename_i Dl hD' tkD FD ND oD I9 lI9
    have hneD : @Ne Nat Dl pb := Ne.symm oD.2.1
    have hoffp : ∀ p ∈ (dx, mD c1 c2 c3 c4 k1 k2 k3 k4 kw st pb (lnF 3) kl) :: (al, W.listOf #[.int q t] kk) :: rest, p.1 ≠ pb := by
      intro p hp
      rcases List.mem_cons.mp hp with rfl | hp
      · exact Ne.symm M0.ne.1
      · rcases List.mem_cons.mp hp with rfl | hp
        · exact Ne.symm M0.ne.2.1
        · exact (M0.off p hp).1
    have hx' := M0.hx
    unfold StopP
    refine list_inv (fun i m' nw => ∃ U k, m' = sentFrm _ U ∧ nw = (Dl, LCg.lst ys) :: (L' + 1, o1) :: (pb, W.listOf (ys.take i).toArray k) :: (dx, mD c1 c2 c3 c4 k1 k2 k3 k4 kw st pb (lnF 3) kl) :: (al, W.listOf #[.int q t] kk) :: rest) ⟨_, _, sentFrm_start, rfl⟩ ?_ ?_
    · intro i v hv m' nw hT2 it h tk hit F9 N9
      revert hT2
      refine exI ?_
      intro U
      refine exI ?_
      intro k
      intro hx9
      obtain ⟨hm, hn⟩ := hx9
      subst hn hm
      dsimp only [sentFrm] at F9
      have hws : (ys.take i).length ≤ 100 := by rw [List.length_take]; have := hW.len; simp only [List.length_take] at this; omega
      have ht : (ys.take (i + 1)) = (ys.take i) ++ [v] := by rw [List.take_add_one, hv]; rfl
      rw [ht]
      repeat' (first | (unfold StopP; first | ((with_reducible show wpAny _ _ (call (Value.ref 63) _) _ _ _); k_dflt (refine' Con.use ?k1 ?k2 ?k3 ?k4 ?k5 (ConC.con (con_tok ?X9 _ ?p9 _ _ _ _ _ _ _ _ ?t9 ?r9 ?l9)) ?k6 ?k7 ?k8 ?_; (case X9 => assumption); (case t9 => assumption); (case r9 => assumption); (case l9 => assumption); (case p9 => intro _ _ _ _; k_mem); (case k1 | k2 | k3 | k4 | k5 => k_asm); (case k6 => walk_at "k6"); (case k7 => walk_at "k7"); (case k8 => walk_at "k8"); walk_at "cu4")) | ((with_reducible show wpAny _ _ (call (Value.ref 99) _) _ _ _); k_dflt (refine Con.use (by k_asm) (by k_asm) (by k_asm) (by k_asm) (by k_asm) (con_word _ _ _ _ _ _ _ _ (by k_mem) (by assumption) (by assumption)) (by walk_at "k6") (by walk_at "k7") (by walk_at "k8") ?_; walk_at "cu1")) | ((with_reducible show wpAny _ _ (call (Value.ref 111) _) _ _ _); k_dflt (refine Con.use (by k_asm) (by k_asm) (by k_asm) (by k_asm) (by k_asm) (con_mixed _ _ _ _ _ _ _ _ _ _ _ _ _ _ _ _ _ _ _ (by k_mem) (by k_mem) (by assumption) (by assumption) (by assumption) (by assumption)) (by walk_at "k6") (by walk_at "k7") (by walk_at "k8") ?_; walk_at "cu3")) | ((with_reducible show wpAny _ _ (call (Value.ref 106) _) _ _ _); k_dflt (refine Con.use (by k_asm) (by k_asm) (by k_asm) (by k_asm) (by k_asm) (con_light _ _ _ _ _ (by assumption)) (by walk_at "k6") (by walk_at "k7") (by walk_at "k8") ?_; walk_at "cu2")) | ((with_reducible show wpAny _ _ (call (Value.ref 63) _) _ _ _); k_dflt (refine' Con.use ?k1 ?k2 ?k3 ?k4 ?k5 (con_popU _ _ _ _ _ _ _ _ _ _ _ _ _ _ _ _ _ _ _ _ _ ?p1 ?p2 ?p3 ?p4) ?k6 ?k7 ?k8 ?_; (case k1 | k2 | k3 | k4 | k5 => k_asm); (case k6 => walk_at "k6"); (case k7 => walk_at "k7"); (case k8 => walk_at "k8"); (case p1 => k_mem); (case p2 => k_mem); (case p3 => k_upd); (case p4 => assumption); intro r9 news9 h9 tk9 F9 N9 hp9; obtain ⟨e9, f9⟩ := hp9; subst e9 f9; (try dsimp only); (try k_fold))) | ((with_reducible show wpAny _ _ (call (Value.ref 70) _) _ _ _); k_dflt (refine' Con.use ?k1 ?k2 ?k3 ?k4 ?k5 (con_pushU _ _ _ _ _ _ _ _ _ _ _ _ _ _ _ _ _ _ _ _ ?p1 ?p2 ?p3 ?p4) ?k6 ?k7 ?k8 ?_; (case k1 | k2 | k3 | k4 | k5 => k_asm); (case k6 => walk_at "k6"); (case k7 => walk_at "k7"); (case k8 => walk_at "k8"); (case p1 => k_mem); (case p2 => k_mem); (case p3 => k_upd); (case p4 => assumption); intro r9 news9 h9 tk9 F9 N9 hp9; obtain ⟨e9, f9⟩ := hp9; subst e9 f9; (try dsimp only); (try k_fold)))) | (k_unfold; (try dsimp only)) | (k_end; wrow_close) | walk1 | (dsimp only; walk1) | (leave1; walk_say "STEP leave1"; try dsimp only) | fail "no step")
      unfold StopP
      refine UnrEnd.intro (by assumption) (by assumption) _ (fun p hp => hp) ?_ ⟨List.mem_cons_self, _, k + 1, sentFrm_next (fun y hy => ?_), ?_⟩
      · k_all
      · simp only [hy, if_false]
      · rw [← List.push_toArray]
    · intro m' nw hT2 h tk F9 N9
      revert hT2
      refine exI ?_
      intro U
      refine exI ?_
      intro k
      intro hx9
      obtain ⟨hm, hn⟩ := hx9
      subst hn hm
      rw [List.take_length] at N9
      rw [← grownFrm_start] at F9
      refine exI ?_ (⟨_, rfl⟩ : ∃ tl, tl = (Dl, LCg.lst ys) :: (L' + 1, o1) :: (dx, mD c1 c2 c3 c4 k1 k2 k3 k4 kw st pb (lnF 3) kl) :: (al, W.listOf #[.int q t] kk) :: rest)
      intro tl htl
      have hoff : ∀ p ∈ tl, p.1 ≠ pb := by
        subst htl
        intro p hp
        rcases List.mem_cons.mp hp with rfl | hp
        · exact hneD
        · rcases List.mem_cons.mp hp with rfl | hp
          · exact Nat.ne_of_gt (Nat.lt_succ_of_lt l1.1)
          · exact hoffp p hp
      have hcell : (L' + 1, o1) ∈ tl := by subst htl; k_mem
      have hdxt : (dx, mD c1 c2 c3 c4 k1 k2 k3 k4 kw st pb (lnF 3) kl) ∈ tl := by subst htl; k_mem
      have hrest : ∀ p ∈ rest, p ∈ tl := by subst htl; exact fun p hp => List.mem_cons_of_mem _ (List.mem_cons_of_mem _ (List.mem_cons_of_mem _ (List.mem_cons_of_mem _ hp)))
      have hxt := hrest _ M0.hx
      have hdlt := hrest _ hl
      replace N9 := cb_drop (news := (pb, W.listOf ys.toArray k) :: tl) N9 (by subst htl; exact mem_swap3)
      have hWys : Words wordL (growS ds 0) ys := by rw [List.take_of_length_le (by rw [growS_len]; decide)] at hW; exact hW
      clear hW hx' hoffp hneD oD NX NY FX FY ND FD
      repeat' (first | (unfold StopP; first | ((with_reducible show wpAny _ _ (call (Value.ref 63) _) _ _ _); k_dflt (refine' Con.use ?k1 ?k2 ?k3 ?k4 ?k5 (ConC.con (con_tok ?X9 _ ?p9 _ _ _ _ _ _ _ _ ?t9 ?r9 ?l9)) ?k6 ?k7 ?k8 ?_; (case X9 => assumption); (case t9 => assumption); (case r9 => assumption); (case l9 => assumption); (case p9 => intro _ _ _ _; k_mem); (case k1 | k2 | k3 | k4 | k5 => k_asm); (case k6 => walk_at "k6"); (case k7 => walk_at "k7"); (case k8 => walk_at "k8"); walk_at "cu4")) | ((with_reducible show wpAny _ _ (call (Value.ref 99) _) _ _ _); k_dflt (refine Con.use (by k_asm) (by k_asm) (by k_asm) (by k_asm) (by k_asm) (con_word _ _ _ _ _ _ _ _ (by k_mem) (by assumption) (by assumption)) (by walk_at "k6") (by walk_at "k7") (by walk_at "k8") ?_; walk_at "cu1")) | ((with_reducible show wpAny _ _ (call (Value.ref 111) _) _ _ _); k_dflt (refine Con.use (by k_asm) (by k_asm) (by k_asm) (by k_asm) (by k_asm) (con_mixed _ _ _ _ _ _ _ _ _ _ _ _ _ _ _ _ _ _ _ (by k_mem) (by k_mem) (by assumption) (by assumption) (by assumption) (by assumption)) (by walk_at "k6") (by walk_at "k7") (by walk_at "k8") ?_; walk_at "cu3")) | ((with_reducible show wpAny _ _ (call (Value.ref 106) _) _ _ _); k_dflt (refine Con.use (by k_asm) (by k_asm) (by k_asm) (by k_asm) (by k_asm) (con_light _ _ _ _ _ (by assumption)) (by walk_at "k6") (by walk_at "k7") (by walk_at "k8") ?_; walk_at "cu2")) | ((with_reducible show wpAny _ _ (call (Value.ref 63) _) _ _ _); k_dflt (refine' Con.use ?k1 ?k2 ?k3 ?k4 ?k5 (con_popU _ _ _ _ _ _ _ _ _ _ _ _ _ _ _ _ _ _ _ _ _ ?p1 ?p2 ?p3 ?p4) ?k6 ?k7 ?k8 ?_; (case k1 | k2 | k3 | k4 | k5 => k_asm); (case k6 => walk_at "k6"); (case k7 => walk_at "k7"); (case k8 => walk_at "k8"); (case p1 => k_mem); (case p2 => k_mem); (case p3 => k_upd); (case p4 => assumption); intro r9 news9 h9 tk9 F9 N9 hp9; obtain ⟨e9, f9⟩ := hp9; subst e9 f9; (try dsimp only); (try k_fold))) | ((with_reducible show wpAny _ _ (call (Value.ref 70) _) _ _ _); k_dflt (refine' Con.use ?k1 ?k2 ?k3 ?k4 ?k5 (con_pushU _ _ _ _ _ _ _ _ _ _ _ _ _ _ _ _ _ _ _ _ ?p1 ?p2 ?p3 ?p4) ?k6 ?k7 ?k8 ?_; (case k1 | k2 | k3 | k4 | k5 => k_asm); (case k6 => walk_at "k6"); (case k7 => walk_at "k7"); (case k8 => walk_at "k8"); (case p1 => k_mem); (case p2 => k_mem); (case p3 => k_upd); (case p4 => assumption); intro r9 news9 h9 tk9 F9 N9 hp9; obtain ⟨e9, f9⟩ := hp9; subst e9 f9; (try dsimp only); (try k_fold)))) | (k_unfold; (try dsimp only)) | (k_end; wrow_close) | walk1 | (dsimp only; walk1) | (leave1; walk_say "STEP leave1"; try dsimp only) | fail "no step")
      rename_i iR tkR hR' FR NR lR
      unfold StopP
      refine range_inv (fun i m' nw => ∃ U k ws, m' = grownFrm _ U ∧ nw = (pb, W.listOf ws.toArray k) :: tl ∧ Words wordL (growS ds i) ws) ⟨_, _, _, rfl, rfl, hWys⟩ ?_ ?_
      · intro i hi m' nw hT3 t3 h3 tk3 F3 N3
        revert hT3
        refine exI ?_
        intro U3
        refine exI ?_
        intro kq3
        refine exI ?_
        intro ws
        intro hx9
        obtain ⟨hm, hn, hW3⟩ := hx9
        subst hn hm
        dsimp only [grownFrm] at F3
        refine exI ?_ (hds.at (i := i) (by omega))
        intro td
        intro hd
        have hA : dv[(0 + (i : Int)).toNat]? = some (.int (ds.getD i 0) td) := by
          rw [show (0 + (i : Int)).toNat = i by omega]; exact hd
        have hdm : ds.getD i 0 ∈ ds := by rw [List.getD_eq_getElem?_getD, List.getElem?_eq_getElem (by omega)]; exact List.getElem_mem _
        have hd1 := hd0 _ hdm
        generalize hdd : ds.getD i 0 = dd at hA hdm hd1
        have hpl : 0 ≤ dd.fmod (3 + (0 + (i : Int))) := Int.fmod_nonneg_of_pos _ (by omega)
        repeat' (first | (unfold StopP; first | ((with_reducible show wpAny _ _ (call (Value.ref 63) _) _ _ _); k_dflt (refine' Con.use ?k1 ?k2 ?k3 ?k4 ?k5 (ConC.con (con_tok ?X9 _ ?p9 _ _ _ _ _ _ _ _ ?t9 ?r9 ?l9)) ?k6 ?k7 ?k8 ?_; (case X9 => assumption); (case t9 => assumption); (case r9 => assumption); (case l9 => assumption); (case p9 => intro _ _ _ _; k_mem); (case k1 | k2 | k3 | k4 | k5 => k_asm); (case k6 => walk_at "k6"); (case k7 => walk_at "k7"); (case k8 => walk_at "k8"); walk_at "cu4")) | ((with_reducible show wpAny _ _ (call (Value.ref 99) _) _ _ _); k_dflt (refine Con.use (by k_asm) (by k_asm) (by k_asm) (by k_asm) (by k_asm) (con_word _ _ _ _ _ _ _ _ (by k_mem) (by assumption) (by assumption)) (by walk_at "k6") (by walk_at "k7") (by walk_at "k8") ?_; walk_at "cu1")) | ((with_reducible show wpAny _ _ (call (Value.ref 111) _) _ _ _); k_dflt (refine Con.use (by k_asm) (by k_asm) (by k_asm) (by k_asm) (by k_asm) (con_mixed _ _ _ _ _ _ _ _ _ _ _ _ _ _ _ _ _ _ _ (by k_mem) (by k_mem) (by assumption) (by assumption) (by assumption) (by assumption)) (by walk_at "k6") (by walk_at "k7") (by walk_at "k8") ?_; walk_at "cu3")) | ((with_reducible show wpAny _ _ (call (Value.ref 106) _) _ _ _); k_dflt (refine Con.use (by k_asm) (by k_asm) (by k_asm) (by k_asm) (by k_asm) (con_light _ _ _ _ _ (by assumption)) (by walk_at "k6") (by walk_at "k7") (by walk_at "k8") ?_; walk_at "cu2")) | ((with_reducible show wpAny _ _ (call (Value.ref 63) _) _ _ _); k_dflt (refine' Con.use ?k1 ?k2 ?k3 ?k4 ?k5 (con_popU _ _ _ _ _ _ _ _ _ _ _ _ _ _ _ _ _ _ _ _ _ ?p1 ?p2 ?p3 ?p4) ?k6 ?k7 ?k8 ?_; (case k1 | k2 | k3 | k4 | k5 => k_asm); (case k6 => walk_at "k6"); (case k7 => walk_at "k7"); (case k8 => walk_at "k8"); (case p1 => k_mem); (case p2 => k_mem); (case p3 => k_upd); (case p4 => assumption); intro r9 news9 h9 tk9 F9 N9 hp9; obtain ⟨e9, f9⟩ := hp9; subst e9 f9; (try dsimp only); (try k_fold))) | ((with_reducible show wpAny _ _ (call (Value.ref 70) _) _ _ _); k_dflt (refine' Con.use ?k1 ?k2 ?k3 ?k4 ?k5 (con_pushU _ _ _ _ _ _ _ _ _ _ _ _ _ _ _ _ _ _ _ _ ?p1 ?p2 ?p3 ?p4) ?k6 ?k7 ?k8 ?_; (case k1 | k2 | k3 | k4 | k5 => k_asm); (case k6 => walk_at "k6"); (case k7 => walk_at "k7"); (case k8 => walk_at "k8"); (case p1 => k_mem); (case p2 => k_mem); (case p3 => k_upd); (case p4 => assumption); intro r9 news9 h9 tk9 F9 N9 hp9; obtain ⟨e9, f9⟩ := hp9; subst e9 f9; (try dsimp only); (try k_fold)))) | (k_unfold; (try dsimp only)) | (k_end; wrow_close) | walk1 | (dsimp only; walk1) | (leave1; walk_say "STEP leave1"; try dsimp only) | fail "no step")
        rename_i hq tkq tq uq vq rq Fq Nq keepq
        have hpl2 : dd.fmod (3 + (0 + (i : Int))) < 8 := Int.lt_of_lt_of_le (Int.fmod_lt_of_pos _ (by omega)) (by omega)
        have hlenG := growS_len ds i
        refine iter_rangeUnr (n := (dd.fmod (3 + (0 + (i : Int)))).toNat) rfl rq (rng_small hpl hpl2).1 (rng_small hpl hpl2).2 Fq Nq ?_
        intro I7 lI7
        have hneI : @Ne Nat I7 pb := Nat.ne_of_gt (lI7 _ (List.mem_cons_of_mem _ List.mem_cons_self))
        have hneR : @Ne Nat NR pb := Nat.ne_of_gt lR.1
        refine range_inv (fun j m' nw => ∃ U k ws, m' = stepFrm _ U ∧ nw = (NR, itR (0 + ((i + 1 : Nat) : Int)) (((5 : Nat) : Int) - ((i + 1 : Nat) : Int))) :: (pb, W.listOf ws.toArray k) :: tl ∧ Words wordL (rotN j (growS ds i)) ws) ⟨_, _, _, stepFrm_start, rfl, hW3⟩ ?_ ?_
        · intro j hj m' nw hT4 t4 h4 tk4 F4 N4
          revert hT4
          refine exI ?_
          intro U4
          refine exI ?_
          intro k4'
          refine exI ?_
          intro ws4
          intro hx9
          obtain ⟨hm, hn, hW4⟩ := hx9
          subst hn hm
          dsimp only [stepFrm] at F4
          refine exI ?_ (hW4.uncons (by rw [rotN_len, hlenG]; omega))
          intro v4
          refine exI ?_
          intro tv4
          refine exI ?_
          intro q4
          refine exI ?_
          intro wt4
          intro hx9
          obtain ⟨e4, f4, hW5⟩ := hx9
          subst f4
          have hz4 : wt4.length ≤ 100 := by have := hW5.len; have h9 := congrArg List.length e4; rw [rotN_len, hlenG] at h9; simp only [List.length_cons] at h9; omega
          repeat' (first | (unfold StopP; first | ((with_reducible show wpAny _ _ (call (Value.ref 63) _) _ _ _); k_dflt (refine' Con.use ?k1 ?k2 ?k3 ?k4 ?k5 (ConC.con (con_tok ?X9 _ ?p9 _ _ _ _ _ _ _ _ ?t9 ?r9 ?l9)) ?k6 ?k7 ?k8 ?_; (case X9 => assumption); (case t9 => assumption); (case r9 => assumption); (case l9 => assumption); (case p9 => intro _ _ _ _; k_mem); (case k1 | k2 | k3 | k4 | k5 => k_asm); (case k6 => walk_at "k6"); (case k7 => walk_at "k7"); (case k8 => walk_at "k8"); walk_at "cu4")) | ((with_reducible show wpAny _ _ (call (Value.ref 99) _) _ _ _); k_dflt (refine Con.use (by k_asm) (by k_asm) (by k_asm) (by k_asm) (by k_asm) (con_word _ _ _ _ _ _ _ _ (by k_mem) (by assumption) (by assumption)) (by walk_at "k6") (by walk_at "k7") (by walk_at "k8") ?_; walk_at "cu1")) | ((with_reducible show wpAny _ _ (call (Value.ref 111) _) _ _ _); k_dflt (refine Con.use (by k_asm) (by k_asm) (by k_asm) (by k_asm) (by k_asm) (con_mixed _ _ _ _ _ _ _ _ _ _ _ _ _ _ _ _ _ _ _ (by k_mem) (by k_mem) (by assumption) (by assumption) (by assumption) (by assumption)) (by walk_at "k6") (by walk_at "k7") (by walk_at "k8") ?_; walk_at "cu3")) | ((with_reducible show wpAny _ _ (call (Value.ref 106) _) _ _ _); k_dflt (refine Con.use (by k_asm) (by k_asm) (by k_asm) (by k_asm) (by k_asm) (con_light _ _ _ _ _ (by assumption)) (by walk_at "k6") (by walk_at "k7") (by walk_at "k8") ?_; walk_at "cu2")) | ((with_reducible show wpAny _ _ (call (Value.ref 63) _) _ _ _); k_dflt (refine' Con.use ?k1 ?k2 ?k3 ?k4 ?k5 (con_popU _ _ _ _ _ _ _ _ _ _ _ _ _ _ _ _ _ _ _ _ _ ?p1 ?p2 ?p3 ?p4) ?k6 ?k7 ?k8 ?_; (case k1 | k2 | k3 | k4 | k5 => k_asm); (case k6 => walk_at "k6"); (case k7 => walk_at "k7"); (case k8 => walk_at "k8"); (case p1 => k_mem); (case p2 => k_mem); (case p3 => k_upd); (case p4 => assumption); intro r9 news9 h9 tk9 F9 N9 hp9; obtain ⟨e9, f9⟩ := hp9; subst e9 f9; (try dsimp only); (try k_fold))) | ((with_reducible show wpAny _ _ (call (Value.ref 70) _) _ _ _); k_dflt (refine' Con.use ?k1 ?k2 ?k3 ?k4 ?k5 (con_pushU _ _ _ _ _ _ _ _ _ _ _ _ _ _ _ _ _ _ _ _ ?p1 ?p2 ?p3 ?p4) ?k6 ?k7 ?k8 ?_; (case k1 | k2 | k3 | k4 | k5 => k_asm); (case k6 => walk_at "k6"); (case k7 => walk_at "k7"); (case k8 => walk_at "k8"); (case p1 => k_mem); (case p2 => k_mem); (case p3 => k_upd); (case p4 => assumption); intro r9 news9 h9 tk9 F9 N9 hp9; obtain ⟨e9, f9⟩ := hp9; subst e9 f9; (try dsimp only); (try k_fold)))) | (k_unfold; (try dsimp only)) | (k_end; wrow_close) | walk1 | (dsimp only; walk1) | (leave1; walk_say "STEP leave1"; try dsimp only) | fail "no step")
          unfold StopP
          refine UnrEnd.intro (by assumption) (by assumption) _ (fun p hp => hp) ?_ ⟨_, _, wt4 ++ [.str (wordL v4) tv4], stepFrm_next (fun y hy => ?_), by rw [← List.push_toArray], ?_⟩
          · intro p hp
            rcases List.mem_cons.mp hp with rfl | hp
            · exact Nat.ne_of_lt (lI7 _ List.mem_cons_self)
            · rcases List.mem_cons.mp hp with rfl | hp
              · exact Ne.symm hneI
              · exact Nat.ne_of_lt (lI7 _ (List.mem_cons_of_mem _ (List.mem_cons_of_mem _ hp)))
          · simp only [hy, if_false]
          · show Words wordL (rot1 (rotN j (growS ds i))) _
            rw [e4]; exact hW5.snoc
        · intro m' nw hT4 h4 tk4 F4 N4
          revert hT4
          refine exI ?_
          intro U4
          refine exI ?_
          intro k4'
          refine exI ?_
          intro ws4
          intro hx9
          obtain ⟨hm, hn, hW4⟩ := hx9
          subst hn hm
          refine exI ?_ (hW4.uncons (by rw [rotN_len, hlenG]; omega))
          intro v5
          refine exI ?_
          intro tv5
          refine exI ?_
          intro q5
          refine exI ?_
          intro wt5
          intro hx9
          obtain ⟨e5, f5, hW5⟩ := hx9
          have hl5 : q5.length = 2 + i := by have h9 := congrArg List.length e5; rw [rotN_len, hlenG] at h9; simp only [List.length_cons] at h9; omega
          refine exI ?_ (hW5.uncons (by omega))
          intro v6
          refine exI ?_
          intro tv6
          refine exI ?_
          intro q6
          refine exI ?_
          intro wt6
          intro hx9
          obtain ⟨e6, f6, hW6⟩ := hx9
          subst f5 f6 e6
          have hm5 := (hG i (by omega) v5 (mem_rotN (n := (dd.fmod (3 + (0 + (i : Int)))).toNat) (by rw [e5]; exact List.mem_cons_self))).1
          have hm6 := (hG i (by omega) v6 (mem_rotN (n := (dd.fmod (3 + (0 + (i : Int)))).toNat) (by rw [e5]; exact List.mem_cons_of_mem _ List.mem_cons_self))).1
          have hgs : growS ds (i + 1) = growStep i dd (growS ds i) := hdd ▸ rfl
          rw [growStep_eq e5] at hgs
          obtain ⟨hRm, hPm⟩ := hG (i + 1) (by omega) (mixL (1 - 2 * ((dd.fdiv (3 + (0 + (i : Int)))).fmod 4).fmod 2) v5 (1 - 2 * ((dd.fdiv (3 + (0 + (i : Int)))).fmod 4).fdiv 2) v6) (by rw [hgs]; simp)
          have hkd0 := Int.fmod_nonneg_of_pos (dd.fdiv (3 + (0 + (i : Int)))) (b := 4) (by decide)
          have hkd1 := Int.fmod_lt_of_pos (dd.fdiv (3 + (0 + (i : Int)))) (b := 4) (by decide)
          have hxa := sgn_fmod ((dd.fdiv (3 + (0 + (i : Int)))).fmod 4)
          have hxb := sgn_fdiv hkd0 hkd1
          have hz5 : (Value.str (wordL v6) tv6 :: wt6).length ≤ 100 := by have := hW6.len; simp only [List.length_cons] at hl5 ⊢; omega
          have hz6 : wt6.length ≤ 100 := by have := hW6.len; simp only [List.length_cons] at hl5; omega
          have hneR : @Ne Nat NR pb := Nat.ne_of_gt lR.1
          unfold LRg at hm5 hm6
          dsimp only [mixL, LRg] at hRm hPm
          dsimp only [wordL] at N4 hz5
          unfold stepFrm at F4
          repeat' (first | (unfold StopP; first | ((with_reducible show wpAny _ _ (call (Value.ref 63) _) _ _ _); k_dflt (refine' Con.use ?k1 ?k2 ?k3 ?k4 ?k5 (ConC.con (con_tok ?X9 _ ?p9 _ _ _ _ _ _ _ _ ?t9 ?r9 ?l9)) ?k6 ?k7 ?k8 ?_; (case X9 => assumption); (case t9 => assumption); (case r9 => assumption); (case l9 => assumption); (case p9 => intro _ _ _ _; k_mem); (case k1 | k2 | k3 | k4 | k5 => k_asm); (case k6 => walk_at "k6"); (case k7 => walk_at "k7"); (case k8 => walk_at "k8"); walk_at "cu4")) | ((with_reducible show wpAny _ _ (call (Value.ref 99) _) _ _ _); k_dflt (refine Con.use (by k_asm) (by k_asm) (by k_asm) (by k_asm) (by k_asm) (con_word _ _ _ _ _ _ _ _ (by k_mem) (by assumption) (by assumption)) (by walk_at "k6") (by walk_at "k7") (by walk_at "k8") ?_; walk_at "cu1")) | ((with_reducible show wpAny _ _ (call (Value.ref 111) _) _ _ _); k_dflt (refine Con.use (by k_asm) (by k_asm) (by k_asm) (by k_asm) (by k_asm) (con_mixed _ _ _ _ _ _ _ _ _ _ _ _ _ _ _ _ _ _ _ (by k_mem) (by k_mem) (by assumption) (by assumption) (by assumption) (by assumption)) (by walk_at "k6") (by walk_at "k7") (by walk_at "k8") ?_; walk_at "cu3")) | ((with_reducible show wpAny _ _ (call (Value.ref 106) _) _ _ _); k_dflt (refine Con.use (by k_asm) (by k_asm) (by k_asm) (by k_asm) (by k_asm) (con_light _ _ _ _ _ (by assumption)) (by walk_at "k6") (by walk_at "k7") (by walk_at "k8") ?_; walk_at "cu2")) | ((with_reducible show wpAny _ _ (call (Value.ref 63) _) _ _ _); k_dflt (refine' Con.use ?k1 ?k2 ?k3 ?k4 ?k5 (con_popU _ _ _ _ _ _ _ _ _ _ _ _ _ _ _ _ _ _ _ _ _ ?p1 ?p2 ?p3 ?p4) ?k6 ?k7 ?k8 ?_; (case k1 | k2 | k3 | k4 | k5 => k_asm); (case k6 => walk_at "k6"); (case k7 => walk_at "k7"); (case k8 => walk_at "k8"); (case p1 => k_mem); (case p2 => k_mem); (case p3 => k_upd); (case p4 => assumption); intro r9 news9 h9 tk9 F9 N9 hp9; obtain ⟨e9, f9⟩ := hp9; subst e9 f9; (try dsimp only); (try k_fold))) | ((with_reducible show wpAny _ _ (call (Value.ref 70) _) _ _ _); k_dflt (refine' Con.use ?k1 ?k2 ?k3 ?k4 ?k5 (con_pushU _ _ _ _ _ _ _ _ _ _ _ _ _ _ _ _ _ _ _ _ ?p1 ?p2 ?p3 ?p4) ?k6 ?k7 ?k8 ?_; (case k1 | k2 | k3 | k4 | k5 => k_asm); (case k6 => walk_at "k6"); (case k7 => walk_at "k7"); (case k8 => walk_at "k8"); (case p1 => k_mem); (case p2 => k_mem); (case p3 => k_upd); (case p4 => assumption); intro r9 news9 h9 tk9 F9 N9 hp9; obtain ⟨e9, f9⟩ := hp9; subst e9 f9; (try dsimp only); (try k_fold)))) | (k_unfold; (try dsimp only)) | (k_end; wrow_close) | walk1 | (dsimp only; walk1) | (leave1; walk_say "STEP leave1"; try dsimp only) | fail "no step")
          rename_i aL p1 p2 p3 lL hB1 tB1 aR q1 q2 q3 lRR hB2 tB2 aM r1 r2 r3 lM hB3 hB4 tB4 uW lw hw' Fw Nw lWl IW lIW
          unfold StopP
          have hl6 : wt6.length ≤ 60 := by have := hW6.len; simp only [List.length_cons] at hl5; omega
          refine list_inv (vs := [Value.str (wordL v5) tv5, Value.str (wordL (mixL (1 - 2 * ((dd.fdiv (3 + (0 + (i : Int)))).fmod 4).fmod 2) v5 (1 - 2 * ((dd.fdiv (3 + (0 + (i : Int)))).fmod 4).fdiv 2) v6)) uW, Value.str (wordL v6) tv6]) (fun j m' nw => ∃ U k, m' = sentFrm _ U ∧ nw = (lw, _) :: (aM, _) :: (aR, _) :: (aL, _) :: (NR, _) :: (pb, W.listOf (wt6 ++ [Value.str (wordL v5) tv5, Value.str (wordL (mixL (1 - 2 * ((dd.fdiv (3 + (0 + (i : Int)))).fmod 4).fmod 2) v5 (1 - 2 * ((dd.fdiv (3 + (0 + (i : Int)))).fmod 4).fdiv 2) v6)) uW, Value.str (wordL v6) tv6].take j).toArray k) :: tl) ⟨_, _, sentFrm_start, by rw [List.take_zero, List.append_nil]⟩ ?_ ?_
          · intro j v hv m' nw hT5 it h5 tk5 hit F5 N5
            revert hT5
            refine exI ?_
            intro U5
            refine exI ?_
            intro k5'
            intro hx9
            obtain ⟨hm, hn⟩ := hx9
            subst hn hm
            unfold sentFrm at F5
            have ht : (wt6 ++ [Value.str (wordL v5) tv5, Value.str (wordL (mixL (1 - 2 * ((dd.fdiv (3 + (0 + (i : Int)))).fmod 4).fmod 2) v5 (1 - 2 * ((dd.fdiv (3 + (0 + (i : Int)))).fmod 4).fdiv 2) v6)) uW, Value.str (wordL v6) tv6].take (j + 1)) = (wt6 ++ [Value.str (wordL v5) tv5, Value.str (wordL (mixL (1 - 2 * ((dd.fdiv (3 + (0 + (i : Int)))).fmod 4).fmod 2) v5 (1 - 2 * ((dd.fdiv (3 + (0 + (i : Int)))).fmod 4).fdiv 2) v6)) uW, Value.str (wordL v6) tv6].take j) ++ [v] := by rw [List.take_add_one, hv, List.append_assoc]; rfl
            have hws : (wt6 ++ [Value.str (wordL v5) tv5, Value.str (wordL (mixL (1 - 2 * ((dd.fdiv (3 + (0 + (i : Int)))).fmod 4).fmod 2) v5 (1 - 2 * ((dd.fdiv (3 + (0 + (i : Int)))).fmod 4).fdiv 2) v6)) uW, Value.str (wordL v6) tv6].take j).length ≤ 100 := by rw [List.length_append, List.length_take]; simp only [List.length_cons, List.length_nil]; omega
            rw [ht]
            generalize wt6 ++ [Value.str (wordL v5) tv5, Value.str (wordL (mixL (1 - 2 * ((dd.fdiv (3 + (0 + (i : Int)))).fmod 4).fmod 2) v5 (1 - 2 * ((dd.fdiv (3 + (0 + (i : Int)))).fmod 4).fdiv 2) v6)) uW, Value.str (wordL v6) tv6].take j = wt7 at *
            repeat' (first | (unfold StopP; first | ((with_reducible show wpAny _ _ (call (Value.ref 63) _) _ _ _); k_dflt (refine' Con.use ?k1 ?k2 ?k3 ?k4 ?k5 (ConC.con (con_tok ?X9 _ ?p9 _ _ _ _ _ _ _ _ ?t9 ?r9 ?l9)) ?k6 ?k7 ?k8 ?_; (case X9 => assumption); (case t9 => assumption); (case r9 => assumption); (case l9 => assumption); (case p9 => intro _ _ _ _; k_mem); (case k1 | k2 | k3 | k4 | k5 => k_asm); (case k6 => walk_at "k6"); (case k7 => walk_at "k7"); (case k8 => walk_at "k8"); walk_at "cu4")) | ((with_reducible show wpAny _ _ (call (Value.ref 99) _) _ _ _); k_dflt (refine Con.use (by k_asm) (by k_asm) (by k_asm) (by k_asm) (by k_asm) (con_word _ _ _ _ _ _ _ _ (by k_mem) (by assumption) (by assumption)) (by walk_at "k6") (by walk_at "k7") (by walk_at "k8") ?_; walk_at "cu1")) | ((with_reducible show wpAny _ _ (call (Value.ref 111) _) _ _ _); k_dflt (refine Con.use (by k_asm) (by k_asm) (by k_asm) (by k_asm) (by k_asm) (con_mixed _ _ _ _ _ _ _ _ _ _ _ _ _ _ _ _ _ _ _ (by k_mem) (by k_mem) (by assumption) (by assumption) (by assumption) (by assumption)) (by walk_at "k6") (by walk_at "k7") (by walk_at "k8") ?_; walk_at "cu3")) | ((with_reducible show wpAny _ _ (call (Value.ref 106) _) _ _ _); k_dflt (refine Con.use (by k_asm) (by k_asm) (by k_asm) (by k_asm) (by k_asm) (con_light _ _ _ _ _ (by assumption)) (by walk_at "k6") (by walk_at "k7") (by walk_at "k8") ?_; walk_at "cu2")) | ((with_reducible show wpAny _ _ (call (Value.ref 63) _) _ _ _); k_dflt (refine' Con.use ?k1 ?k2 ?k3 ?k4 ?k5 (con_popU _ _ _ _ _ _ _ _ _ _ _ _ _ _ _ _ _ _ _ _ _ ?p1 ?p2 ?p3 ?p4) ?k6 ?k7 ?k8 ?_; (case k1 | k2 | k3 | k4 | k5 => k_asm); (case k6 => walk_at "k6"); (case k7 => walk_at "k7"); (case k8 => walk_at "k8"); (case p1 => k_mem); (case p2 => k_mem); (case p3 => k_upd); (case p4 => assumption); intro r9 news9 h9 tk9 F9 N9 hp9; obtain ⟨e9, f9⟩ := hp9; subst e9 f9; (try dsimp only); (try k_fold))) | ((with_reducible show wpAny _ _ (call (Value.ref 70) _) _ _ _); k_dflt (refine' Con.use ?k1 ?k2 ?k3 ?k4 ?k5 (con_pushU _ _ _ _ _ _ _ _ _ _ _ _ _ _ _ _ _ _ _ _ ?p1 ?p2 ?p3 ?p4) ?k6 ?k7 ?k8 ?_; (case k1 | k2 | k3 | k4 | k5 => k_asm); (case k6 => walk_at "k6"); (case k7 => walk_at "k7"); (case k8 => walk_at "k8"); (case p1 => k_mem); (case p2 => k_mem); (case p3 => k_upd); (case p4 => assumption); intro r9 news9 h9 tk9 F9 N9 hp9; obtain ⟨e9, f9⟩ := hp9; subst e9 f9; (try dsimp only); (try k_fold)))) | (k_unfold; (try dsimp only)) | (k_end; wrow_close) | walk1 | (dsimp only; walk1) | (leave1; walk_say "STEP leave1"; try dsimp only) | fail "no step")
            unfold StopP
            refine UnrEnd.intro (by assumption) (by assumption) _ (fun p hp => hp) ?_ ⟨List.mem_cons_self, _, k5' + 1, sentFrm_next (fun y hy => ?_), ?_⟩
            · exact ne_of_allLt (show AllLt IW _ from lIW)
            · simp only [hy, if_false]
            · rw [← List.push_toArray]
          · intro m' nw hT5 h5 tk5 F5 N5
            revert hT5
            refine exI ?_
            intro U5
            refine exI ?_
            intro k5'
            intro hx9
            obtain ⟨hm, hn⟩ := hx9
            subst hn hm
            repeat' (first | (unfold StopP; first | ((with_reducible show wpAny _ _ (call (Value.ref 63) _) _ _ _); k_dflt (refine' Con.use ?k1 ?k2 ?k3 ?k4 ?k5 (ConC.con (con_tok ?X9 _ ?p9 _ _ _ _ _ _ _ _ ?t9 ?r9 ?l9)) ?k6 ?k7 ?k8 ?_; (case X9 => assumption); (case t9 => assumption); (case r9 => assumption); (case l9 => assumption); (case p9 => intro _ _ _ _; k_mem); (case k1 | k2 | k3 | k4 | k5 => k_asm); (case k6 => walk_at "k6"); (case k7 => walk_at "k7"); (case k8 => walk_at "k8"); walk_at "cu4")) | ((with_reducible show wpAny _ _ (call (Value.ref 99) _) _ _ _); k_dflt (refine Con.use (by k_asm) (by k_asm) (by k_asm) (by k_asm) (by k_asm) (con_word _ _ _ _ _ _ _ _ (by k_mem) (by assumption) (by assumption)) (by walk_at "k6") (by walk_at "k7") (by walk_at "k8") ?_; walk_at "cu1")) | ((with_reducible show wpAny _ _ (call (Value.ref 111) _) _ _ _); k_dflt (refine Con.use (by k_asm) (by k_asm) (by k_asm) (by k_asm) (by k_asm) (con_mixed _ _ _ _ _ _ _ _ _ _ _ _ _ _ _ _ _ _ _ (by k_mem) (by k_mem) (by assumption) (by assumption) (by assumption) (by assumption)) (by walk_at "k6") (by walk_at "k7") (by walk_at "k8") ?_; walk_at "cu3")) | ((with_reducible show wpAny _ _ (call (Value.ref 106) _) _ _ _); k_dflt (refine Con.use (by k_asm) (by k_asm) (by k_asm) (by k_asm) (by k_asm) (con_light _ _ _ _ _ (by assumption)) (by walk_at "k6") (by walk_at "k7") (by walk_at "k8") ?_; walk_at "cu2")) | ((with_reducible show wpAny _ _ (call (Value.ref 63) _) _ _ _); k_dflt (refine' Con.use ?k1 ?k2 ?k3 ?k4 ?k5 (con_popU _ _ _ _ _ _ _ _ _ _ _ _ _ _ _ _ _ _ _ _ _ ?p1 ?p2 ?p3 ?p4) ?k6 ?k7 ?k8 ?_; (case k1 | k2 | k3 | k4 | k5 => k_asm); (case k6 => walk_at "k6"); (case k7 => walk_at "k7"); (case k8 => walk_at "k8"); (case p1 => k_mem); (case p2 => k_mem); (case p3 => k_upd); (case p4 => assumption); intro r9 news9 h9 tk9 F9 N9 hp9; obtain ⟨e9, f9⟩ := hp9; subst e9 f9; (try dsimp only); (try k_fold))) | ((with_reducible show wpAny _ _ (call (Value.ref 70) _) _ _ _); k_dflt (refine' Con.use ?k1 ?k2 ?k3 ?k4 ?k5 (con_pushU _ _ _ _ _ _ _ _ _ _ _ _ _ _ _ _ _ _ _ _ ?p1 ?p2 ?p3 ?p4) ?k6 ?k7 ?k8 ?_; (case k1 | k2 | k3 | k4 | k5 => k_asm); (case k6 => walk_at "k6"); (case k7 => walk_at "k7"); (case k8 => walk_at "k8"); (case p1 => k_mem); (case p2 => k_mem); (case p3 => k_upd); (case p4 => assumption); intro r9 news9 h9 tk9 F9 N9 hp9; obtain ⟨e9, f9⟩ := hp9; subst e9 f9; (try dsimp only); (try k_fold)))) | (k_unfold; (try dsimp only)) | (k_end; wrow_close) | walk1 | (dsimp only; walk1) | (leave1; walk_say "STEP leave1"; try dsimp only) | fail "no step")
            unfold StopP
            refine UnrEnd.intro (by assumption) (by assumption) ((pb, W.listOf (wt6 ++ [Value.str (wordL v5) tv5, Value.str (wordL (mixL (1 - 2 * ((dd.fdiv (3 + (0 + (i : Int)))).fmod 4).fmod 2) v5 (1 - 2 * ((dd.fdiv (3 + (0 + (i : Int)))).fmod 4).fdiv 2) v6)) uW, Value.str (wordL v6) tv6]).toArray k5') :: tl) (fun p hp => List.mem_cons_of_mem _ (List.mem_cons_of_mem _ (List.mem_cons_of_mem _ (List.mem_cons_of_mem _ hp)))) (ne_of_allLt lR) ⟨_, _, _, (grownFrm_next (fun y g1 g2 g3 g4 g5 g6 g7 => ?_)).symm, rfl, ?_⟩
            · simp only [sentFrm, g1, g2, g3, g4, g5, g6, g7, if_false]
            · rw [hgs]; exact hW6.app3
      · intro m' nw hT3 h3 tk3 F3 N3
        revert hT3
        refine exI ?_
        intro U3
        refine exI ?_
        intro kq3
        refine exI ?_
        intro ws
        intro hx9
        obtain ⟨hm, hn, hW3⟩ := hx9
        subst hn hm
        unfold grownFrm at F3
        repeat' (first | (unfold StopP; first | ((with_reducible show wpAny _ _ (call (Value.ref 63) _) _ _ _); k_dflt (refine' Con.use ?k1 ?k2 ?k3 ?k4 ?k5 (ConC.con (con_tok ?X9 _ ?p9 _ _ _ _ _ _ _ _ ?t9 ?r9 ?l9)) ?k6 ?k7 ?k8 ?_; (case X9 => assumption); (case t9 => assumption); (case r9 => assumption); (case l9 => assumption); (case p9 => intro _ _ _ _; k_mem); (case k1 | k2 | k3 | k4 | k5 => k_asm); (case k6 => walk_at "k6"); (case k7 => walk_at "k7"); (case k8 => walk_at "k8"); walk_at "cu4")) | ((with_reducible show wpAny _ _ (call (Value.ref 99) _) _ _ _); k_dflt (refine Con.use (by k_asm) (by k_asm) (by k_asm) (by k_asm) (by k_asm) (con_word _ _ _ _ _ _ _ _ (by k_mem) (by assumption) (by assumption)) (by walk_at "k6") (by walk_at "k7") (by walk_at "k8") ?_; walk_at "cu1")) | ((with_reducible show wpAny _ _ (call (Value.ref 111) _) _ _ _); k_dflt (refine Con.use (by k_asm) (by k_asm) (by k_asm) (by k_asm) (by k_asm) (con_mixed _ _ _ _ _ _ _ _ _ _ _ _ _ _ _ _ _ _ _ (by k_mem) (by k_mem) (by assumption) (by assumption) (by assumption) (by assumption)) (by walk_at "k6") (by walk_at "k7") (by walk_at "k8") ?_; walk_at "cu3")) | ((with_reducible show wpAny _ _ (call (Value.ref 106) _) _ _ _); k_dflt (refine Con.use (by k_asm) (by k_asm) (by k_asm) (by k_asm) (by k_asm) (con_light _ _ _ _ _ (by assumption)) (by walk_at "k6") (by walk_at "k7") (by walk_at "k8") ?_; walk_at "cu2")) | ((with_reducible show wpAny _ _ (call (Value.ref 63) _) _ _ _); k_dflt (refine' Con.use ?k1 ?k2 ?k3 ?k4 ?k5 (con_popU _ _ _ _ _ _ _ _ _ _ _ _ _ _ _ _ _ _ _ _ _ ?p1 ?p2 ?p3 ?p4) ?k6 ?k7 ?k8 ?_; (case k1 | k2 | k3 | k4 | k5 => k_asm); (case k6 => walk_at "k6"); (case k7 => walk_at "k7"); (case k8 => walk_at "k8"); (case p1 => k_mem); (case p2 => k_mem); (case p3 => k_upd); (case p4 => assumption); intro r9 news9 h9 tk9 F9 N9 hp9; obtain ⟨e9, f9⟩ := hp9; subst e9 f9; (try dsimp only); (try k_fold))) | ((with_reducible show wpAny _ _ (call (Value.ref 70) _) _ _ _); k_dflt (refine' Con.use ?k1 ?k2 ?k3 ?k4 ?k5 (con_pushU _ _ _ _ _ _ _ _ _ _ _ _ _ _ _ _ _ _ _ _ ?p1 ?p2 ?p3 ?p4) ?k6 ?k7 ?k8 ?_; (case k1 | k2 | k3 | k4 | k5 => k_asm); (case k6 => walk_at "k6"); (case k7 => walk_at "k7"); (case k8 => walk_at "k8"); (case p1 => k_mem); (case p2 => k_mem); (case p3 => k_upd); (case p4 => assumption); intro r9 news9 h9 tk9 F9 N9 hp9; obtain ⟨e9, f9⟩ := hp9; subst e9 f9; (try dsimp only); (try k_fold)))) | (k_unfold; (try dsimp only)) | (k_end; wrow_close) | walk1 | (dsimp only; walk1) | (leave1; walk_say "STEP leave1"; try dsimp only) | fail "no step")
        unfold StopP
        have hlenW := hW3.len
        rw [growS_len] at hlenW
        have hLE : ∀ p ∈ tl, p ∈ tl := fun _ h => h
        have hofft : ∀ p ∈ tl, @Ne Nat p.1 pb := hoff
        refine rest_inv (fun i ys nw => ∃ k mo as, nw = (pb, W.listOf (ws.drop i).toArray k) :: (mo ++ tl) ∧ (∀ p ∈ mo, @Ne Nat p.1 pb ∧ @Ne Nat p.1 dx ∧ @Ne Nat p.1 al) ∧ (∀ p ∈ mo, ∀ b ∈ rest, @Ne Nat p.1 b.1) ∧ Lights mo ((growS ds 5).take i) as ∧ ys = as.map Value.ref) ⟨_, [], [], rfl, (fun _ h => nomatch h), (fun _ h => nomatch h), .nil, rfl⟩ ?_ ?_
        · intro i hi ys nw hJ v I oI C oC D9 m₂ h tk E' hv hC hvx F8 N8 off8
          revert hJ
          refine exI ?_
          intro k
          refine exI ?_
          intro mo
          refine exI ?_
          intro as
          intro hx9
          obtain ⟨hn, hmo, hap, hLm, hys⟩ := hx9
          subst hn hys
          have hi' : i < (growS ds 5).length := by rw [growS_len]; omega
          refine exI ?_ (hW3.at hi')
          intro lv
          refine exI ?_
          intro tw
          intro hx9
          obtain ⟨e1, e2⟩ := hx9
          have hRv := (hG 5 (Nat.le_refl _) lv (List.mem_of_getElem? e1)).1
          have hRv' := hRv
          unfold LRg at hRv
          dsimp only [wordL] at e2
          rw [e2] at N8
          simp only [LCg.Off3] at off8
          have hz : (ws.drop (i + 1)).length ≤ 100 := by rw [List.length_drop]; omega
          refine exI ?_ (⟨_, rfl⟩ : ∃ tl9, tl9 = mo ++ tl)
          intro tl9 htl9
          rw [← htl9] at N8 off8
          have hoff9 : ∀ p ∈ tl9, p.1 ≠ pb := by subst htl9; exact fun p hp => (List.mem_append.mp hp).elim (fun h => (hmo p h).1) (hoff p)
          have hin9 : ∀ p ∈ tl, p ∈ tl9 := by subst htl9; exact fun p hp => List.mem_append_right _ hp
          have hx9 := hin9 _ hxt
          have hdx9 := hin9 _ hdxt
          have hcell9 := hin9 _ hcell
          have hal9 : @Ne Nat al pb ∧ (al, W.listOf #[.int q t] kk) ∈ tl9 := ⟨Ne.symm M0.ne.2.1, hin9 _ (by subst htl; k_mem)⟩
          repeat' (first | (unfold StopP; first | ((with_reducible show wpAny _ _ (call (Value.ref 63) _) _ _ _); k_dflt (refine' Con.use ?k1 ?k2 ?k3 ?k4 ?k5 (ConC.con (con_tok ?X9 _ ?p9 _ _ _ _ _ _ _ _ ?t9 ?r9 ?l9)) ?k6 ?k7 ?k8 ?_; (case X9 => assumption); (case t9 => assumption); (case r9 => assumption); (case l9 => assumption); (case p9 => intro _ _ _ _; k_mem); (case k1 | k2 | k3 | k4 | k5 => k_asm); (case k6 => walk_at "k6"); (case k7 => walk_at "k7"); (case k8 => walk_at "k8"); walk_at "cu4")) | ((with_reducible show wpAny _ _ (call (Value.ref 99) _) _ _ _); k_dflt (refine Con.use (by k_asm) (by k_asm) (by k_asm) (by k_asm) (by k_asm) (con_word _ _ _ _ _ _ _ _ (by k_mem) (by assumption) (by assumption)) (by walk_at "k6") (by walk_at "k7") (by walk_at "k8") ?_; walk_at "cu1")) | ((with_reducible show wpAny _ _ (call (Value.ref 111) _) _ _ _); k_dflt (refine Con.use (by k_asm) (by k_asm) (by k_asm) (by k_asm) (by k_asm) (con_mixed _ _ _ _ _ _ _ _ _ _ _ _ _ _ _ _ _ _ _ (by k_mem) (by k_mem) (by assumption) (by assumption) (by assumption) (by assumption)) (by walk_at "k6") (by walk_at "k7") (by walk_at "k8") ?_; walk_at "cu3")) | ((with_reducible show wpAny _ _ (call (Value.ref 106) _) _ _ _); k_dflt (refine Con.use (by k_asm) (by k_asm) (by k_asm) (by k_asm) (by k_asm) (con_light _ _ _ _ _ (by assumption)) (by walk_at "k6") (by walk_at "k7") (by walk_at "k8") ?_; walk_at "cu2")) | ((with_reducible show wpAny _ _ (call (Value.ref 63) _) _ _ _); k_dflt (refine' Con.use ?k1 ?k2 ?k3 ?k4 ?k5 (con_popU _ _ _ _ _ _ _ _ _ _ _ _ _ _ _ _ _ _ _ _ _ ?p1 ?p2 ?p3 ?p4) ?k6 ?k7 ?k8 ?_; (case k1 | k2 | k3 | k4 | k5 => k_asm); (case k6 => walk_at "k6"); (case k7 => walk_at "k7"); (case k8 => walk_at "k8"); (case p1 => k_mem); (case p2 => k_mem); (case p3 => k_upd); (case p4 => assumption); intro r9 news9 h9 tk9 F9 N9 hp9; obtain ⟨e9, f9⟩ := hp9; subst e9 f9; (try dsimp only); (try k_fold))) | ((with_reducible show wpAny _ _ (call (Value.ref 70) _) _ _ _); k_dflt (refine' Con.use ?k1 ?k2 ?k3 ?k4 ?k5 (con_pushU _ _ _ _ _ _ _ _ _ _ _ _ _ _ _ _ _ _ _ _ ?p1 ?p2 ?p3 ?p4) ?k6 ?k7 ?k8 ?_; (case k1 | k2 | k3 | k4 | k5 => k_asm); (case k6 => walk_at "k6"); (case k7 => walk_at "k7"); (case k8 => walk_at "k8"); (case p1 => k_mem); (case p2 => k_mem); (case p3 => k_upd); (case p4 => assumption); intro r9 news9 h9 tk9 F9 N9 hp9; obtain ⟨e9, f9⟩ := hp9; subst e9 f9; (try dsimp only); (try k_fold)))) | (k_unfold; (try dsimp only)) | (k_end; wrow_close) | walk1 | (dsimp only; walk1) | (leave1; walk_say "STEP leave1"; try dsimp only) | fail "no step")
          unfold StopP
          rename_i a9 u1 u2 u3 N9 l9
          refine LCg.CompEnd.intro (by assumption) (by assumption) ((pb, W.listOf (ws.drop (i + 1)).toArray (k + 1)) :: ((a9, tupO [.int lv.1 u1, .int lv.2.1 u2, .int lv.2.2 u3]) :: mo ++ tl)) (by subst htl9; exact news_up _ _ _ _ _ _) ?_ trivial ⟨_, (a9, tupO [.int lv.1 u1, .int lv.2.1 u2, .int lv.2.2 u3]) :: mo, as ++ [a9], rfl, ?_, ?_, ?_, ?_⟩
          · subst htl9
            simp only [List.cons_append, LCg.Off3]
            exact ⟨off8.1, ⟨Nat.ne_of_gt l9.1, Nat.ne_of_gt l9.2.1, Nat.ne_of_gt l9.2.2.1⟩, off8.2⟩
          · intro p hp
            rcases List.mem_cons.mp hp with rfl | hp
            · exact ⟨Nat.ne_of_gt l9.2.2.2.1, Nat.ne_of_gt (ktn_ltOf l9.2.2.2.2 _ hdx9), Nat.ne_of_gt (ktn_ltOf l9.2.2.2.2 _ hal9.2)⟩
            · exact hmo p hp
          · intro p hp b hb
            rcases List.mem_cons.mp hp with rfl | hp
            · exact Nat.ne_of_gt (ktn_ltOf l9.2.2.2.2 _ (hin9 _ (hrest b hb)))
            · exact hap p hp b hb
          · rw [List.take_add_one, e1]
            exact Lights.snoc ⟨_, _, _, List.mem_cons_self⟩ hRv' (Lights.mono (fun p hp => List.mem_cons_of_mem _ hp) hLm)
          · simp only [List.map_append, List.map_cons, List.map_nil]
        · intro ys nw hJ
          revert hJ
          refine exI ?_
          intro k
          refine exI ?_
          intro mo
          refine exI ?_
          intro as
          intro hx9
          obtain ⟨hn, hmo, hap, hLm, hys⟩ := hx9
          subst hn hys
          have hd8 : ws.drop 8 = [] := List.drop_eq_nil_of_le (by omega)
          have ht8 : (growS ds 5).take 8 = growS ds 5 := List.take_of_length_le (by rw [growS_len]; decide)
          repeat' (first | (unfold StopP; first | ((with_reducible show wpAny _ _ (call (Value.ref 63) _) _ _ _); k_dflt (refine' Con.use ?k1 ?k2 ?k3 ?k4 ?k5 (ConC.con (con_tok ?X9 _ ?p9 _ _ _ _ _ _ _ _ ?t9 ?r9 ?l9)) ?k6 ?k7 ?k8 ?_; (case X9 => assumption); (case t9 => assumption); (case r9 => assumption); (case l9 => assumption); (case p9 => intro _ _ _ _; k_mem); (case k1 | k2 | k3 | k4 | k5 => k_asm); (case k6 => walk_at "k6"); (case k7 => walk_at "k7"); (case k8 => walk_at "k8"); walk_at "cu4")) | ((with_reducible show wpAny _ _ (call (Value.ref 99) _) _ _ _); k_dflt (refine Con.use (by k_asm) (by k_asm) (by k_asm) (by k_asm) (by k_asm) (con_word _ _ _ _ _ _ _ _ (by k_mem) (by assumption) (by assumption)) (by walk_at "k6") (by walk_at "k7") (by walk_at "k8") ?_; walk_at "cu1")) | ((with_reducible show wpAny _ _ (call (Value.ref 111) _) _ _ _); k_dflt (refine Con.use (by k_asm) (by k_asm) (by k_asm) (by k_asm) (by k_asm) (con_mixed _ _ _ _ _ _ _ _ _ _ _ _ _ _ _ _ _ _ _ (by k_mem) (by k_mem) (by assumption) (by assumption) (by assumption) (by assumption)) (by walk_at "k6") (by walk_at "k7") (by walk_at "k8") ?_; walk_at "cu3")) | ((with_reducible show wpAny _ _ (call (Value.ref 106) _) _ _ _); k_dflt (refine Con.use (by k_asm) (by k_asm) (by k_asm) (by k_asm) (by k_asm) (con_light _ _ _ _ _ (by assumption)) (by walk_at "k6") (by walk_at "k7") (by walk_at "k8") ?_; walk_at "cu2")) | ((with_reducible show wpAny _ _ (call (Value.ref 63) _) _ _ _); k_dflt (refine' Con.use ?k1 ?k2 ?k3 ?k4 ?k5 (con_popU _ _ _ _ _ _ _ _ _ _ _ _ _ _ _ _ _ _ _ _ _ ?p1 ?p2 ?p3 ?p4) ?k6 ?k7 ?k8 ?_; (case k1 | k2 | k3 | k4 | k5 => k_asm); (case k6 => walk_at "k6"); (case k7 => walk_at "k7"); (case k8 => walk_at "k8"); (case p1 => k_mem); (case p2 => k_mem); (case p3 => k_upd); (case p4 => assumption); intro r9 news9 h9 tk9 F9 N9 hp9; obtain ⟨e9, f9⟩ := hp9; subst e9 f9; (try dsimp only); (try k_fold))) | ((with_reducible show wpAny _ _ (call (Value.ref 70) _) _ _ _); k_dflt (refine' Con.use ?k1 ?k2 ?k3 ?k4 ?k5 (con_pushU _ _ _ _ _ _ _ _ _ _ _ _ _ _ _ _ _ _ _ _ ?p1 ?p2 ?p3 ?p4) ?k6 ?k7 ?k8 ?_; (case k1 | k2 | k3 | k4 | k5 => k_asm); (case k6 => walk_at "k6"); (case k7 => walk_at "k7"); (case k8 => walk_at "k8"); (case p1 => k_mem); (case p2 => k_mem); (case p3 => k_upd); (case p4 => assumption); intro r9 news9 h9 tk9 F9 N9 hp9; obtain ⟨e9, f9⟩ := hp9; subst e9 f9; (try dsimp only); (try k_fold)))) | (k_unfold; (try dsimp only)) | (k_end; wrow_close) | walk1 | (dsimp only; walk1) | (leave1; walk_say "STEP leave1"; try dsimp only) | fail "no step")
          rename_i Da hDa tkDa FDa NDa oDa kF kN Tc kX
          rw [ht8] at hLm
          have hdxt9 : (dx, mD c1 c2 c3 c4 k1 k2 k3 k4 kw st pb (lnF 3) kl) ∈ mo ++ tl := List.mem_append_right _ hdxt
          have halt9 : (al, W.listOf #[.int q t] kk) ∈ mo ++ tl := List.mem_append_right _ (by subst htl; k_mem)
          have hsub9 : ∀ p ∈ mo ++ rest, p ∈ mo ++ tl := fun p hp => (List.mem_append.mp hp).elim (fun h => List.mem_append_left _ h) (fun h => List.mem_append_right _ (hrest p h))
          refine hret _ ((Da, LCg.lst (as.map Value.ref)) :: (pb, W.listOf #[] k) :: (dx, mD c1 c2 c3 c4 k1 k2 k3 k4 kw st pb (lnF 3) kl) :: (al, W.listOf #[.int q t] kk) :: (mo ++ rest)) _ _ kF (cb_drop kN ?_) ⟨Da, _, k, kl, q, t, mo, as, rfl, rfl, M0.grow hmo, hap, hLm, hRm, ?_⟩
          · intro p hp
            rcases List.mem_cons.mp hp with rfl | hp
            · exact List.mem_cons_self
            · rcases List.mem_cons.mp hp with rfl | hp
              · have e0 : ws.drop 8 = [] := hd8
                first
                  | (rw [e0]; exact List.mem_cons_of_mem _ List.mem_cons_self)
                  | (show _ ∈ (Da, LCg.lst (as.map Value.ref)) :: (pb, W.listOf (ws.drop 8).toArray k) :: (mo ++ tl); rw [e0]; exact List.mem_cons_of_mem _ List.mem_cons_self)
              · refine List.mem_cons_of_mem _ (List.mem_cons_of_mem _ ?_)
                rcases List.mem_cons.mp hp with rfl | hp
                · exact hdxt9
                · rcases List.mem_cons.mp hp with rfl | hp
                  · exact halt9
                  · exact hsub9 p hp
          · intro p hp
            rcases List.mem_cons.mp hp with rfl | hp
            · exact oDa.1
            · refine off1_mem oDa.2 p ?_
              rcases List.mem_cons.mp hp with rfl | hp
              · exact hdxt9
              · rcases List.mem_cons.mp hp with rfl | hp
                · exact halt9
                · exact hsub9 p hp
end Mine
end
section
open PySem PySem.W PyProof.Rows
open PySem.Spec PySem.Calls
set_option maxRecDepth 100000
namespace Mine
def W0 : Str := wordS (1 * 4096 + 0 * 64 + 0)
def W1 : Str := wordS (0 * 4096 + 1 * 64 + 0)
def W2 : Str := wordS (0 * 4096 + 0 * 64 + 1)
def textS (a b c : Int) : Str := Txt.join (Str.ofString "") [spellS W0 a, spellS W1 b, spellS W2 c]
def lead (w : Int) : List Nat := if w = 0 then [] else [10]
def bodyS (u : List Nat) (w : Int) : List Nat := if w = 0 then u ++ [32] else if w = 1 then 34 :: (u ++ [34]) else (u.flatMap fun c => [92, c]) ++ [9]
theorem three {a : Int} (h0 : 0 ≤ a) (h1 : a < 3) : a = 0 ∨ a = 1 ∨ a = 2 := by omega
theorem text_chars {a b c : Int} (a0 : 0 ≤ a) (a1 : a < 3) (b0 : 0 ≤ b) (b1 : b < 3) (c0 : 0 ≤ c) (c1 : c < 3) :
    (textS a b c).cps.toList = bodyS [66, 65, 65, 65] a ++ (lead a ++ (bodyS [69, 65] b ++ (lead b ++ (bodyS [66] c ++ lead c)))) := by
  rcases three a0 a1 with rfl | rfl | rfl <;> rcases three b0 b1 with rfl | rfl | rfl <;> rcases three c0 c1 with rfl | rfl | rfl <;> decide +kernel
theorem text_len {a b c : Int} (a0 : 0 ≤ a) (a1 : a < 3) (b0 : 0 ≤ b) (b1 : b < 3) (c0 : 0 ≤ c) (c1 : c < 3) : (textS a b c).length ≤ 40 := by
  rcases three a0 a1 with rfl | rfl | rfl <;> rcases three b0 b1 with rfl | rfl | rfl <;> rcases three c0 c1 with rfl | rfl | rfl <;> decide +kernel
theorem bare_plain {w : Nat} (hw : w = 9 ∨ w = 32) (e : List Nat) : ∀ u : List Nat, (∀ c ∈ u, L3 c) → Bare (u ++ w :: e) u e
  | [], _ => .ws hw
  | c :: u, h => .lit (h c List.mem_cons_self) (bare_plain hw e u fun c hc => h c (List.mem_cons_of_mem _ hc))
theorem bare_esc {w : Nat} (hw : w = 9 ∨ w = 32) (e : List Nat) : ∀ u : List Nat, (∀ c ∈ u, L3 c) → Bare ((u.flatMap fun c => [92, c]) ++ w :: e) u e
  | [], _ => .ws hw
  | c :: u, h => by
    have := bare_esc hw e u fun c hc => h c (List.mem_cons_of_mem _ hc)
    exact .esc (h c List.mem_cons_self) this
theorem quo_plain (e : List Nat) : ∀ u : List Nat, (∀ c ∈ u, L3 c) → Quo (u ++ 34 :: e) u e
  | [], _ => .q
  | c :: u, h => .lit (h c List.mem_cons_self) (quo_plain e u fun c hc => h c (List.mem_cons_of_mem _ hc))
theorem body_tok {u0 : Nat} {u : List Nat} {w : Int} (w0 : 0 ≤ w) (w1 : w < 3) (h : ∀ c ∈ u0 :: u, L3 c) (e : List Nat) : Tokn (bodyS (u0 :: u) w ++ e) (u0 :: u) e 0 := by
  have h0 := h u0 List.mem_cons_self
  have h' : ∀ c ∈ u, L3 c := fun c hc => h c (List.mem_cons_of_mem _ hc)
  rcases three w0 w1 with rfl | rfl | rfl
  · show Tokn ((u0 :: u ++ [32]) ++ e) _ _ _
    have := bare_plain (.inr rfl) e u h'
    simpa using Tokn.lit h0 this
  · show Tokn ((34 :: (u0 :: u ++ [34])) ++ e) _ _ _
    have := quo_plain e (u0 :: u) h
    simpa using Tokn.quo this
  · show Tokn ((((u0 :: u).flatMap fun c => [92, c]) ++ [9]) ++ e) _ _ _
    have := bare_esc (.inl rfl) e u h'
    simpa using Tokn.esc h0 this
theorem lead_tok {w : Int} {t r e : List Nat} {k : Nat} (h : Tokn t r e k) : Tokn (lead w ++ t) r e (k + (lead w).length) := by
  unfold lead
  split
  · exact h
  · exact Tokn.nl h
def ttS (a b c : Int) : Nat → List Nat
  | 0 => bodyS [66, 65, 65, 65] a ++ (lead a ++ (bodyS [69, 65] b ++ (lead b ++ (bodyS [66] c ++ lead c))))
  | 1 => lead a ++ (bodyS [69, 65] b ++ (lead b ++ (bodyS [66] c ++ lead c)))
  | 2 => lead b ++ (bodyS [66] c ++ lead c)
  | _ => lead c
def rrS : Nat → List Nat
  | 0 => [66, 65, 65, 65]
  | 1 => [69, 65]
  | _ => [66]
def knS (a b : Int) : Nat → Nat
  | 0 => 0
  | 1 => (lead a).length
  | _ => (lead b).length
def lnS (a b : Int) : Nat → Int
  | 0 => 1
  | 1 => 1
  | 2 => 1 + ((lead a).length : Int)
  | _ => 1 + ((lead a).length : Int) + ((lead b).length : Int)
theorem l3w : ∀ i, ∀ c ∈ rrS i, L3 c
  | 0 => by unfold rrS L3; decide
  | 1 => by unfold rrS L3; decide
  | _ + 2 => fun c hc => by rw [List.mem_singleton.mp (show c ∈ [66] from hc)]; exact .inr (.inl rfl)
theorem toks {a b c : Int} (a0 : 0 ≤ a) (a1 : a < 3) (b0 : 0 ≤ b) (b1 : b < 3) (c0 : 0 ≤ c) (c1 : c < 3) : ∀ i, i < 3 → Tokn (ttS a b c i) (rrS i) (ttS a b c (i + 1)) (knS a b i)
  | 0, _ => body_tok a0 a1 (l3w 0) _
  | 1, _ => by have h := lead_tok (w := a) (body_tok b0 b1 (l3w 1) (ttS a b c 2)); rw [Nat.zero_add] at h; exact h
  | 2, _ => by have h := lead_tok (w := b) (body_tok c0 c1 (l3w 2) (ttS a b c 3)); rw [Nat.zero_add] at h; exact h
theorem lead_len (w : Int) : (lead w).length ≤ 1 := by unfold lead; split <;> simp
theorem tok_last {w : Int} : Tokn (lead w) [] [] (lead w).length := by
  have := lead_tok (w := w) Tokn.fin
  simpa using this
theorem lnS_next (a b : Int) : ∀ i, i < 3 → lnS a b (i + 1) = lnS a b i + (knS a b i : Int)
  | 0, _ => rfl
  | 1, _ => rfl
  | 2, _ => rfl
theorem tt_len {a b c : Int} (a0 : 0 ≤ a) (a1 : a < 3) (b0 : 0 ≤ b) (b1 : b < 3) (c0 : 0 ≤ c) (c1 : c < 3) : ∀ i, i < 4 → (ttS a b c i).length < 60 := by
  rcases three a0 a1 with rfl | rfl | rfl <;> rcases three b0 b1 with rfl | rfl | rfl <;> rcases three c0 c1 with rfl | rfl | rfl <;> decide +kernel
theorem rr_word : ∀ i, i < 3 → ∃ v, ([(1, 0, 0), (0, 1, 0), (0, 0, 1)] : List Light)[i]? = some v ∧ (⟨(rrS i).toArray⟩ : Str) = wordS (v.1 * 4096 + v.2.1 * 64 + v.2.2)
  | 0, _ => ⟨_, rfl, by decide +kernel⟩
  | 1, _ => ⟨_, rfl, by decide +kernel⟩
  | 2, _ => ⟨_, rfl, by decide +kernel⟩
end Mine
end
section
open PySem PySem.W PyProof.Rows
open PySem.Spec PySem.Calls
set_option maxRecDepth 100000
namespace Mine
theorem fi_fin {x : UInt64} (h : Fi x) : Float64.isFinite x = true := by
  obtain ⟨a, m, e, h⟩ := h
  unfold Float64.isFinite
  rw [h]
theorem toI_eq (x : UInt64) : Flt.toInt Float64.nearestOf x = toI x := by
  unfold Flt.toInt toI
  cases Float64.decode x <;> rfl
theorem rotN_eq {α : Type} : ∀ (n : Nat) (q : List α), rotN n q = rotN' n q
  | 0, _ => rfl
  | n + 1, q => by
    show rot1 (rotN n q) = rot1' (rotN' n q)
    rw [rotN_eq n q]
    cases rotN' n q <;> rfl
theorem growS_eq (ds : List Int) : ∀ i, growS ds i = growS' ds i
  | 0 => rfl
  | i + 1 => by
    show growStep i _ (growS ds i) = growStep' i _ (growS' ds i)
    rw [growS_eq ds i]
    unfold growStep growStep'
    rw [rotN_eq]
    rfl
theorem toldS_eq (ds : List Int) : ∀ i, toldS ds i = toldS' ds i
  | 0 => rfl
  | i + 1 => by
    show toldStep i _ (toldS ds i) = toldStep' i _ (toldS' ds i)
    rw [toldS_eq ds i]
    rfl
theorem grow_fine (ds : List Int) : ∀ i, i ≤ 5 → ∀ v ∈ growS ds i, LRg v ∧ 0 < v.1 * 4096 + v.2.1 * 64 + v.2.2 := by
  intros i hi v hv
  rw [growS_eq] at hv
  have h := grow_ok ds hi hv
  exact ⟨h.1, h.2.1⟩
theorem cross_fine {u v : Light} (hu : LRg u) (hv : LRg v) : Float64.isFinite (crossQ u v) = true ∧ crossF u v = det2 u v := by
  obtain ⟨⟨a0, a1⟩, ⟨a2, a3⟩, a4, a5⟩ := hu
  obtain ⟨⟨b0, b1⟩, ⟨b2, b3⟩, b4, b5⟩ := hv
  have h := cross_nb a0 a1 a2 a3 a4 a5 b0 b1 b2 b3 b4 b5
  exact ⟨fi_fin h.1, (toI_eq _).trans h.2⟩
theorem wayF_eq (hs : List UInt64) : ∀ i, wayF hs i = wayF' hs i
  | 0 => rfl
  | i + 1 => by
    show Float64.add (wayF hs i) _ = Float64.add (wayF' hs i) _
    rw [wayF_eq hs i]
    rfl
def sg (v : Nat → Light) (k : Nat) : Int := crossF (v k) (v ((k + 1) % 8))
def mt (v : Nat → Light) (k : Nat) : Light := mixL (-(sg v k)) (v k) (sg v k) (v ((k + 1) % 8))
def l8 {α : Type} (v : Nat → α) : List α := [v 0, v 1, v 2, v 3, v 4, v 5, v 6, v 7]
def back (k : Nat) : Nat := if k = 0 then 7 else k - 1
def cr (v : Nat → Light) (k : Nat) : Int := crossF (mt v (back k)) (mt v k)
structure Lawful (ds : List Int) (v : Nat → Light) : Prop where
  hq : growS ds 5 = l8 v
  rg : ∀ k, k < 8 → LRg (v k)
  fin : ∀ k, k < 8 → Float64.isFinite (crossQ (v k) (v ((k + 1) % 8))) = true
  hs : (toldS ds 5).1 = l8 (sg v)
  pm : ∀ k, k < 8 → (-1 ≤ sg v k ∧ sg v k ≤ 1)
  way : Float64.isFinite (wayF ((l8 v).map hueL) 8) = true
  wayT : Flt.toInt Float64.nearestOf (wayF ((l8 v).map hueL) 8) = (toldS ds 5).2
  mrg : ∀ k, k < 8 → LRg (mt v k) ∧ 0 < (mt v k).1 * 4096 + (mt v k).2.1 * 64 + (mt v k).2.2
  finM : ∀ k, k < 8 → Float64.isFinite (crossQ (mt v (back k)) (mt v k)) = true
  wayM : Float64.isFinite (wayF ((l8 (mt v)).map hueL) 8) = true
  wayMT : Flt.toInt Float64.nearestOf (wayF ((l8 (mt v)).map hueL) 8) = (toldS ds 5).2
  twelve : (l8 (sg v)).sum + (l8 (cr v)).sum = 12 * (toldS ds 5).2
theorem back_lt {k : Nat} (h : k < 8) : back k < 8 := by unfold back; split <;> omega
theorem lawful (ds : List Int) : ∃ v, Lawful ds v := by
  obtain ⟨v, h⟩ := fin8 ds
  have hq : growS ds 5 = l8 v := by rw [growS_eq]; exact h.hq
  have rg : ∀ k, k < 8 → LRg (v k) := by
    intros k hk
    refine (grow_fine ds 5 (Nat.le_refl _) (v k) ?_).1
    rw [hq]; unfold l8
    match k, hk with
    | 0, _ => simp
    | 1, _ => simp
    | 2, _ => simp
    | 3, _ => simp
    | 4, _ => simp
    | 5, _ => simp
    | 6, _ => simp
    | 7, _ => simp
  have nx : ∀ k : Nat, (k + 1) % 8 < 8 := fun k => Nat.mod_lt _ (by decide)
  have hsg : ∀ k, k < 8 → sg v k = det2 (v k) (v ((k + 1) % 8)) := fun k hk => (cross_fine (rg k hk) (rg _ (nx k))).2
  have hmt : ∀ k, k < 8 → mt v k = mate (v k) (v ((k + 1) % 8)) := by
    intros k hk
    unfold mt mate
    rw [hsg k hk]
    rfl
  have mrg : ∀ k, k < 8 → LRg (mt v k) ∧ 0 < (mt v k).1 * 4096 + (mt v k).2.1 * 64 + (mt v k).2.2 := by
    intros k hk
    rw [hmt k hk]
    exact h.mates k hk
  have s0 := hsg 0 (by decide)
  have s1 := hsg 1 (by decide)
  have s2 := hsg 2 (by decide)
  have s3 := hsg 3 (by decide)
  have s4 := hsg 4 (by decide)
  have s5 := hsg 5 (by decide)
  have s6 := hsg 6 (by decide)
  have s7 := hsg 7 (by decide)
  have m0 : mt v 0 = mate (v 0) (v 1) := hmt 0 (by decide)
  have m1 : mt v 1 = mate (v 1) (v 2) := hmt 1 (by decide)
  have m2 : mt v 2 = mate (v 2) (v 3) := hmt 2 (by decide)
  have m3 : mt v 3 = mate (v 3) (v 4) := hmt 3 (by decide)
  have m4 : mt v 4 = mate (v 4) (v 5) := hmt 4 (by decide)
  have m5 : mt v 5 = mate (v 5) (v 6) := hmt 5 (by decide)
  have m6 : mt v 6 = mate (v 6) (v 7) := hmt 6 (by decide)
  have m7 : mt v 7 = mate (v 7) (v 0) := hmt 7 (by decide)
  have hl8 : l8 (sg v) = (toldS ds 5).1 := by
    rw [toldS_eq, h.hs]; unfold l8
    rw [s0, s1, s2, s3, s4, s5, s6, s7]
  have hlm : l8 (mt v) = [mate (v 0) (v 1), mate (v 1) (v 2), mate (v 2) (v 3), mate (v 3) (v 4), mate (v 4) (v 5), mate (v 5) (v 6), mate (v 6) (v 7), mate (v 7) (v 0)] := by
    unfold l8
    rw [m0, m1, m2, m3, m4, m5, m6, m7]
  have hw := h.way
  have hwm := h.wayM
  rw [← hlm] at hwm
  rw [show growS' ds 5 = l8 v from h.hq] at hw
  rw [← wayF_eq, ← toldS_eq] at hw hwm
  refine ⟨v, hq, rg, fun k hk => (cross_fine (rg k hk) (rg _ (nx k))).1, hl8.symm, ?_, fi_fin hw.1, (toI_eq _).trans hw.2, mrg, fun k hk => (cross_fine (mrg _ (back_lt hk)).1 (mrg k hk).1).1, fi_fin hwm.1, (toI_eq _).trans hwm.2, ?_⟩
  · intros k hk
    rw [hsg k hk]
    rcases h.pm k hk with e | e <;> rw [e] <;> decide
  · rw [hl8]
    have ht := h.twelve
    rw [← toldS_eq] at ht
    have c : ∀ k, k < 8 → cr v k = det2 (mt v (back k)) (mt v k) := fun k hk => (cross_fine (mrg _ (back_lt hk)).1 (mrg k hk).1).2
    have e : (l8 (cr v)).sum = (det2 (mate (v 7) (v 0)) (mate (v 0) (v 1)) + det2 (mate (v 0) (v 1)) (mate (v 1) (v 2)) + det2 (mate (v 1) (v 2)) (mate (v 2) (v 3)) + det2 (mate (v 2) (v 3)) (mate (v 3) (v 4)) + det2 (mate (v 3) (v 4)) (mate (v 4) (v 5)) + det2 (mate (v 4) (v 5)) (mate (v 5) (v 6)) + det2 (mate (v 5) (v 6)) (mate (v 6) (v 7)) + det2 (mate (v 6) (v 7)) (mate (v 7) (v 0))) := by
      unfold l8
      rw [c 0 (by decide), c 1 (by decide), c 2 (by decide), c 3 (by decide), c 4 (by decide), c 5 (by decide), c 6 (by decide), c 7 (by decide)]
      show ([det2 (mt v 7) (mt v 0), det2 (mt v 0) (mt v 1), det2 (mt v 1) (mt v 2), det2 (mt v 2) (mt v 3), det2 (mt v 3) (mt v 4), det2 (mt v 4) (mt v 5), det2 (mt v 5) (mt v 6), det2 (mt v 6) (mt v 7)] : List Int).sum = _
      rw [m0, m1, m2, m3, m4, m5, m6, m7]
      simp only [List.sum_cons, List.sum_nil]
      omega
    rw [e]
    exact ht
theorem rem_0 {a b c : Int} (a0 : 0 ≤ a) (a1 : a < 3) (b0 : 0 ≤ b) (b1 : b < 3) (c0 : 0 ≤ c) (c1 : c < 3) : Rem (textS a b c) 0 (ttS a b c 0) := by
  refine ⟨Int.le_refl _, Int.natCast_nonneg _, ?_⟩
  show (textS a b c).cps.toList = _
  rw [text_chars a0 a1 b0 b1 c0 c1]
  rfl
end Mine
end
section
open PySem PySem.W PyProof.Rows
open PySem.Spec PySem.Calls
open Mine
local macro_rules | `(tactic| walk_at "eval ListComp") => `(tactic| (k_here; k_dflt (refine LCg.ListComp_U (F₀ := by k_asm) (by with_unfolding_all rfl) (by decide) (by rfl) (by decide) (by rfl) ?_)))
local macro_rules | `(tactic| walk_at "CompSrc") => `(tactic| (k_here; k_dflt (first | (refine LCg.CompSrc.range (by rfl) (by k_asm) (by k_asm) (by assumption) (by first | decide | rfl) (by first | rfl | decide) (by first | size_fits | exact Nat.le_of_ble_eq_true rfl) ?_; intro g') | (refine LCg.CompSrc.ledger (by rfl) (by k_asm) (by k_asm) (by k_mem) (by assumption) ?_; intro g'))))
local macro_rules | `(tactic| walk_at "CompRest") => `(tactic| refine stopper ?_)
local macro_rules | `(tactic| walk_at "CompEnd") => `(tactic| refine stopper ?_)
local macro_rules | `(tactic| walk_at "call ref") => `(tactic| (k_here; (with_reducible show wpAny _ _ (call (Value.ref _) _) _ _ _); refine stopper ?_))
local macro_rules | `(tactic| walk_at "subscriptTail") => `(tactic| (k_here; (with_reducible show wpAny _ _ (subscriptTail _ _ (Value.ref _) (Value.int _ _)) _ _ _); k_dflt (first | refine it_pos (by k_asm) (by k_mem) (by omega) (by omega) (by with_reducible assumption) ?_ | refine it_neg (by k_asm) (by k_mem) (by omega) (by with_reducible assumption) (by omega) (by with_reducible assumption) ?_ | refine it_tup (by k_asm) (by k_mem) (by decide) (by decide) (by exact rfl) (by exact rfl) ?_ | refine it_pos (by k_asm) (by k_mem) (by decide) (by decide) (by exact rfl) ?_)))
local macro_rules | `(tactic| k_updF) => `(tactic| first | with_reducible assumption | (refine' UpdF.tail ?a ?b; (case a => k_ne); (case b => with_reducible assumption)))
local macro_rules | `(tactic| walk_at "call builtin:sum") => `(tactic| (k_here; k_dflt (refine sumK (by with_unfolding_all rfl) (by k_asm) (by k_asm) (News.isList (by k_asm) (by k_mem)) (by assumption) ?_); intro h9 tk9 t9 F9 N9))
local macro_rules | `(tactic| walk_at "compareOp Eq ref ref") => `(tactic| refine stopper ?_)
local macro_rules | `(tactic| walk_at "compareOp Eq int int") => `(tactic| refine stopper ?_)
local macro_rules | `(tactic| walk_at "call builtin:str.join") => `(tactic| refine stopper ?_)
section
set_option maxRecDepth 100000
set_option maxHeartbeats 8000000
namespace Mine
theorem rs_Ya : True := by
  w_top off
  exact True.intro
theorem ints_uncons {l : List Int} {ys : List Value} {n : Nat} (hl : l.length = n + 1) (h : IntsAre ys l) : ∃ d t l' ys', l = d :: l' ∧ ys = .int d t :: ys' ∧ l'.length = n ∧ IntsAre ys' l' := by
  cases h with
  | nil => cases hl
  | cons d t h => exact ⟨d, t, _, _, rfl, rfl, Nat.succ.inj hl, h⟩
theorem draws5 {ys : List Value} {ns : List Int} (h : IntsAre ys (drawF ns)) : ∃ d0 d1 d2 d3 d4 t0 t1 t2 t3 t4, ys = [.int d0 t0, .int d1 t1, .int d2 t2, .int d3 t3, .int d4 t4] ∧ drawF ns = [d0, d1, d2, d3, d4] ∧ ∀ d ∈ [d0, d1, d2, d3, d4], 0 ≤ d ∧ d < 100000 := by
  have hb : ∀ d ∈ drawF ns, 0 ≤ d ∧ d < 100000 := by
    intro d hd
    unfold drawF at hd
    obtain ⟨k, _, rfl⟩ := List.mem_map.mp hd
    split <;> exact ⟨Int.fmod_nonneg_of_pos _ (by decide), Int.fmod_lt_of_pos _ (by decide)⟩
  have hl : (drawF ns).length = 5 := by unfold drawF; rw [List.length_map, rangeKs_length]
  obtain ⟨d0, t0, l0, y0, e0, f0, hl, h⟩ := ints_uncons hl h
  obtain ⟨d1, t1, l1, y1, e1, f1, hl, h⟩ := ints_uncons hl h
  obtain ⟨d2, t2, l2, y2, e2, f2, hl, h⟩ := ints_uncons hl h
  obtain ⟨d3, t3, l3, y3, e3, f3, hl, h⟩ := ints_uncons hl h
  obtain ⟨d4, t4, l4, y4, e4, f4, hl, h⟩ := ints_uncons hl h
  cases h with
  | cons => cases hl
  | nil =>
    subst f4 e4 f3 e3 f2 e2 f1 e1
    rw [e0] at hb
    exact ⟨d0, d1, d2, d3, d4, t0, t1, t2, t3, t4, f0, e0, hb⟩
theorem way_lo (d : Int) : 0 ≤ d.fmod 3 := Int.fmod_nonneg_of_pos _ (by decide)
theorem way_hi (d : Int) : d.fmod 3 < 3 := Int.fmod_lt_of_pos _ (by decide)
theorem text_ok {a b c : Int} (a0 : 0 ≤ a) (a1 : a < 3) (b0 : 0 ≤ b) (b1 : b < 3) (c0 : 0 ≤ c) (c1 : c < 3) : (([spellS W0 a, spellS W1 b, spellS W2 c].map (·.length)).sum + [spellS W0 a, spellS W1 b, spellS W2 c].length * (Str.ofString "").length ≤ 16777216) := by
  rcases three a0 a1 with rfl | rfl | rfl <;> rcases three b0 b1 with rfl | rfl | rfl <;> rcases three c0 c1 with rfl | rfl | rfl <;> decide +kernel
theorem cells_mem {L D9 : Addr} {nws rest : List (Addr × Obj)} {a b c d e : Addr × Obj} (h : rest = nws ++ [a, b, c, d, e]) : (∀ q ∈ nws ++ [a, b], q ∈ rest) ∧ (∀ q ∈ [c, d, e], q ∈ rest) := by
  subst h
  constructor <;> intro q hq <;> simp only [List.mem_append, List.mem_cons, List.not_mem_nil, or_false] at hq ⊢ <;> grind
theorem l8_at {α : Type} (v : Nat → α) : ∀ i, i < 8 → (l8 v)[i]? = some (v i)
  | 0, _ => rfl
  | 1, _ => rfl
  | 2, _ => rfl
  | 3, _ => rfl
  | 4, _ => rfl
  | 5, _ => rfl
  | 6, _ => rfl
  | 7, _ => rfl
theorem l8_take {α : Type} (v : Nat → α) {i : Nat} (h : i < 8) : (l8 v).take (i + 1) = (l8 v).take i ++ [v i] := by
  rw [List.take_add_one, l8_at v i h]; rfl
theorem lights8 {news : List (Addr × Obj)} {v : Nat → Light} {as : List Addr} (h : Lights news (l8 v) as) {i : Nat} (hi : i < 8) {k : Int} (hk : k.toNat = i) : ∃ p t1 t2 t3, (as.map Value.ref)[k.toNat]? = some (.ref p) ∧ (p, tupO [.int (v i).1 t1, .int (v i).2.1 t2, .int (v i).2.2 t3]) ∈ news := by
  obtain ⟨lv, p, e1, e2, ⟨t1, t2, t3, m⟩, _⟩ := h.at (i := i) hi
  rw [l8_at v i hi] at e1
  cases e1
  exact ⟨p, t1, t2, t3, by rw [hk, List.getElem?_map, e2]; rfl, m⟩
theorem fmod8 {i : Nat} (hi : i < 8) : (Int.fmod (0 + (i : Int) + 1) 8).toNat = (i + 1) % 8 := by
  rw [Int.fmod_eq_emod_of_nonneg _ (by decide)]; omega
theorem fmod8_0 (i : Int) : 0 ≤ Int.fmod i 8 := Int.fmod_nonneg_of_pos _ (by decide)
theorem fmod8_1 (i : Int) : Int.fmod i 8 < 2 ^ 63 := Int.lt_of_lt_of_le (Int.fmod_lt_of_pos _ (by decide)) (by decide)
noncomputable def stYa : PSigma (fun P : Prop => Hol P → stA.1) := ⟨_, fun hole => by
  intros zz
  revert zz
  intro w s₀ s₁
  refine all8 inferInstance ?_
  generalize Prod.fst (c8 _ _) = mg, Prod.fst (Prod.snd (c8 _ _)) = mb, Prod.fst (Prod.snd (Prod.snd (c8 _ _))) = fa, Prod.fst (Prod.snd (Prod.snd (Prod.snd (c8 _ _)))) = pm, Prod.fst (Prod.snd (Prod.snd (Prod.snd (Prod.snd (c8 _ _))))) = cd, Prod.fst (Prod.snd (Prod.snd (Prod.snd (Prod.snd (Prod.snd (c8 _ _)))))) = doc, Prod.fst (Prod.snd (Prod.snd (Prod.snd (Prod.snd (Prod.snd (Prod.snd (c8 _ _))))))) = ns, Prod.snd (Prod.snd (Prod.snd (Prod.snd (Prod.snd (Prod.snd (Prod.snd (c8 _ _))))))) = sl
  refine all8 inferInstance ?_
  generalize Prod.fst (c8 _ _) = vs, Prod.fst (Prod.snd (c8 _ _)) = h₁, Prod.fst (Prod.snd (Prod.snd (c8 _ _))) = tk₁, Prod.fst (Prod.snd (Prod.snd (Prod.snd (c8 _ _)))) = o5, Prod.fst (Prod.snd (Prod.snd (Prod.snd (Prod.snd (c8 _ _))))) = o4, Prod.fst (Prod.snd (Prod.snd (Prod.snd (Prod.snd (Prod.snd (c8 _ _)))))) = o3, Prod.fst (Prod.snd (Prod.snd (Prod.snd (Prod.snd (Prod.snd (Prod.snd (c8 _ _))))))) = o2, Prod.snd (Prod.snd (Prod.snd (Prod.snd (Prod.snd (Prod.snd (Prod.snd (c8 _ _))))))) = o1
  intros
  rename_i hg hI X T' K F lifted codeHd N l0 hns e1 e2 e3 e4 e5
  k_steps
  unfold StopP
  k_dflt (refine' con_draws _ _ _ _ hI hns _ _ _ _ _ _ _ _ _ _ _ _ _ _ _ _ _ ?k1_A2 ?k2_A2 ?k3_A2 ?k4_A2 ?k5_A2 ?k6_A2 ?k7_A2 ?k8_A2 ?k9_A2 ?_; (case k1_A2 => k_asm); (case k2_A2 => k_asm); (case k3_A2 => k_asm); (case k4_A2 => k_asm); (case k5_A2 => k_asm); (case k6_A2 => first | exact rfl | assumption); (case k7_A2 => (show 1 + claimMargin + 1 + _ < recursionLimit; decide +kernel)); (case k8_A2 => (show 4 + 3 + _ < cLine; decide +kernel)); (case k9_A2 => assumption))
  intro r9 news9 h9 tk9 F9 N9 hp9
  revert hp9
  refine exI ?_
  intro D9
  refine exI ?_
  intro ys9
  intro hx9
  obtain ⟨e9, f9, i9, o9⟩ := hx9
  subst e9 f9
  simp only [PyProof.Rows.LCg.Off1] at o9
  refine exI ?_ (draws5 i9)
  intro d0
  refine exI ?_
  intro d1
  refine exI ?_
  intro d2
  refine exI ?_
  intro d3
  refine exI ?_
  intro d4
  refine exI ?_
  intro t0
  refine exI ?_
  intro t1
  refine exI ?_
  intro t2
  refine exI ?_
  intro t3
  refine exI ?_
  intro t4
  intro hx9
  obtain ⟨e8, de, db⟩ := hx9
  subst e8
  (try dsimp only)
  (try k_fold)
  k_steps
  rename_i hB1 oDr eDr D1 hB2 lD1 D2 hB3 lD2 D3 hB4 lD3 lf hB5 llf hT oF FX NX eF hY tkY tY uY vY rngY FY NY keepY gY
  revert hg hI X T' K lifted codeHd l0 hns e1 e2 e3 e4 e5 o9 de db i9 eDr lD1 lD2 lD3 llf FX NX eF rngY FY NY keepY
  intros
  rename_i hg hI X T' K lifted codeHd l0 hns e1 e2 e3 e4 e5 o9 de db i9 eDr lD1 lD2 lD3 llf FX NX eF rngY FY NY keepY
  unfold StopP
  refine rest_inv (fun i ys nw => nw = _ ∧ StrsAre ys ([spellS W0 (d0.fmod 3), spellS W1 (d2.fmod 3), spellS W2 (d4.fmod 3)].take i)) ⟨rfl, .nil⟩ ?_ ?_
  · intro i hi ys nw hJ v I oI C oC D m₂ h tk E' hv hC hvx F9 N9 off9
    obtain ⟨hnw, hJ⟩ := hJ
    subst hnw
    revert hv
    refine exI ?_
    intro tv
    intro hv
    subst hv
    have hi' : i < 3 := hi
    have hi3 : i = 0 ∨ i = 1 ∨ i = 2 := by omega
    rcases hi3 with rfl | rfl | rfl
    all_goals
      k_steps
      unfold StopP
      k_dflt (refine' Con.use ?k1_B ?k2_B ?k3_B ?k4_B ?k5_B (con_word _ _ _ _ _ _ _ _ ?p1_B ?p2_B ?p3_B) ?k6_B ?k7_B ?k8_B ?_; (case k1_B => k_asm); (case k2_B => k_asm); (case k3_B => k_asm); (case k4_B => k_asm); (case k5_B => k_asm); (case k6_B => first | exact rfl | assumption); (case k7_B => (show 1 + claimMargin + 1 + _ < recursionLimit; decide +kernel)); (case k8_B => (show 4 + 3 + _ < cLine; decide +kernel)); (case p1_B => k_mem); (case p2_B => (unfold Rg; decide)); (case p3_B => decide)); walk_at "cu1"
      k_steps
      unfold StopP
      k_dflt (refine' Con.use ?k1_B ?k2_B ?k3_B ?k4_B ?k5_B (con_spell _ _ ?p1_B ?p2_B _ _ _ ?p3_B ?p4_B) ?k6_B ?k7_B ?k8_B ?_; (case k1_B => k_asm); (case k2_B => k_asm); (case k3_B => k_asm); (case k4_B => k_asm); (case k5_B => k_asm); (case k6_B => first | exact rfl | assumption); (case k7_B => (show 1 + claimMargin + 1 + _ < recursionLimit; decide +kernel)); (case k8_B => (show 4 + 3 + _ < cLine; decide +kernel)); (case p1_B => decide +kernel); (case p2_B => decide +kernel); (case p3_B => exact way_lo _); (case p4_B => exact way_hi _)); walk_at "cu1"
      k_steps
      unfold StopP
      exact LCg.CompEnd.intro (by assumption) (by assumption) _ (fun p hp => hp) (by assumption) trivial ⟨rfl, kct_snoc hJ⟩
  · intro ys nw hJ
    obtain ⟨hnw, hJ⟩ := hJ
    subst hnw
    have hJ3 : StrsAre ys [spellS W0 (d0.fmod 3), spellS W1 (d2.fmod 3), spellS W2 (d4.fmod 3)] := hJ
    revert hg hI X T' K lifted codeHd l0 hns e1 e2 e3 e4 e5 o9 de db i9 eDr lD1 lD2 lD3 llf FX NX eF rngY FY NY keepY hJ hJ3
    intros
    rename_i hg hI X T' K lifted codeHd l0 hns e1 e2 e3 e4 e5 o9 de db i9 eDr lD1 lD2 lD3 llf FX NX eF rngY FY NY keepY hJ hJ3
    k_steps
    unfold StopP
    k_dflt (refine join_list (News.isList (by k_asm) (by k_mem)) (by assumption) (text_ok (way_lo _) (way_hi _) (way_lo _) (way_hi _) (way_lo _) (way_hi _)) ?_)
    intro t9 k9
    k_steps
    rename_i yC37 yC73 _ _ yC76 yC79 yC80 yC81
    revert hg hI X T' K lifted codeHd l0 hns e1 e2 e3 e4 e5 o9 de db i9 eDr lD1 lD2 lD3 llf eF rngY keepY hJ hJ3 yC76 yC80 yC81
    intros
    rename_i hg hI X T' K lifted codeHd l0 hns e1 e2 e3 e4 e5 o9 de db i9 eDr lD1 lD2 lD3 llf eF rngY keepY hJ hJ3 yC76 yC80 yC81
    rename News _ _ _ _ => N'
    rename Fr _ _ _ _ => F'
    unfold StopP
    have a0 := way_lo d0
    have a1 := way_hi d0
    have b0 := way_lo d2
    have b1 := way_hi d2
    have c0 := way_lo d4
    have c1 := way_hi d4
    have hlen : (textS (d0.fmod 3) (d2.fmod 3) (d4.fmod 3)).length ≤ 40 := text_len a0 a1 b0 b1 c0 c1
    have N2 := cb_drop (news := (84, tabObj #[]) :: [(D9, LCg.lst [Value.int d0 t0, Value.int d1 t1, Value.int d2 t2, Value.int d3 t3, Value.int d4 t4]), (s₁.heap.objs.size + 1, oDr), (s₁.heap.objs.size + 1 + 1 + 1, o3), (s₁.heap.objs.size + 1 + 1 + 1 + 1, o4), (s₁.heap.objs.size + 1 + 1 + 1 + 1 + 1, o5)]) N' (fun p hp => by
      simp only [List.mem_cons, List.not_mem_nil, or_false] at hp
      rcases hp with rfl | rfl | rfl | rfl | rfl | rfl <;> k_mem)
    clear N'
    k_dflt (refine' con_mach _ (textS (d0.fmod 3) (d2.fmod 3) (d4.fmod 3)) _ ?k1_D ?k2_D _ _ _ _ _ _ _ _ _ _ _ _ _ _ _ _ _ K F' X codeHd N2 T' ?k3_D ?k4_D ?k5_D ?_; (case k1_D => exact Nat.le_trans hlen (by decide +kernel)); (case k3_D => rfl); (case k4_D => (show 1 + claimMargin + 1 + _ < recursionLimit; decide +kernel)); (case k5_D => (show 4 + 3 + _ < cLine; decide +kernel)))
    · intro q hq
      have z1 := o9.2.2.2.2.2.1
      have z2 : @LT.lt Nat _ 84 s₁.heap.objs.size := l0
      simp only [List.mem_cons, List.not_mem_nil, or_false] at hq
      rcases hq with rfl | rfl | rfl | rfl | rfl
      · exact Ne.symm z1
      all_goals (show @Ne Nat _ _; omega)
    · intro r9 news9 h9 tk9' F9 N9 hp9
      revert hg hI X T' K lifted codeHd l0 hns e1 e2 e3 e4 e5 o9 de db i9 eDr lD1 lD2 lD3 llf eF rngY keepY hJ hJ3 yC76 F' a0 a1 b0 b1 c0 c1 hlen N2 F9 N9 hp9
      intros
      rename_i hg hI X T' K lifted codeHd l0 hns e1 e2 e3 e4 e5 o9 de db i9 eDr lD1 lD2 lD3 llf eF rngY keepY hJ hJ3 yC76 F' a0 a1 b0 b1 c0 c1 hlen N2 F9 N9 hp9
      revert hp9
      refine exI ?_
      intro x
      refine andI ?_
      intro hr9
      refine exI ?_
      intro dx
      refine exI ?_
      intro pb
      refine exI ?_
      intro al
      refine exI ?_
      intro st
      refine exI ?_
      intro Dm
      refine exI ?_
      intro rd
      refine exI ?_
      intro c
      refine exI ?_
      intro ca
      refine exI ?_
      intro ct
      refine exI ?_
      intro i1
      refine exI ?_
      intro i2
      refine exI ?_
      intro i3
      refine exI ?_
      intro i4
      refine exI ?_
      intro i5
      refine exI ?_
      intro k1
      refine exI ?_
      intro k2
      refine exI ?_
      intro k3
      refine exI ?_
      intro k4
      refine exI ?_
      intro k5
      refine exI ?_
      intro kl
      refine exI ?_
      intro kw
      refine exI ?_
      intro kp
      refine exI ?_
      intro fds
      refine exI ?_
      intro fd
      refine exI ?_
      intro cO
      refine exI ?_
      intro oa
      refine exI ?_
      intro ot
      refine exI ?_
      intro nws
      refine exI ?_
      intro rest
      intro hx9
      obtain ⟨hrest, hapart, hnw, m1, m2, m3, m4, m5, m6, m7, m8, hbase, hoff, hne, hreads⟩ := hx9
      revert m8
      refine exI ?_
      intro ps84
      intro m8
      subst hr9 hnw
      have hcm := cells_mem (L := 0) (D9 := 0) hrest
      have Mn : Mch Challenge.rw_sn0009_01.row.prog w topProg _ _ mg mb (textS (d0.fmod 3) (d2.fmod 3) (d4.fmod 3)) x dx pb al st Dm rd c ca ct i1 i2 i3 i4 i5 k1 k2 k3 k4 k5 kw fds fd cO oa ot 0 (nws ++ [(D9, LCg.lst [Value.int d0 t0, Value.int d1 t1, Value.int d2 t2, Value.int d3 t3, Value.int d4 t4]), (s₁.heap.objs.size + 1, oDr)]) :=
        ⟨List.mem_append_left _ m1, List.mem_append_left _ m2, List.mem_append_left _ m3, List.mem_append_left _ m4, List.mem_append_left _ m5, List.mem_append_left _ m6, List.mem_append_left _ m7, fun q hq => hoff q (hcm.1 q hq), hne, hreads⟩
      have hcell : ∀ q ∈ [(s₁.heap.objs.size + 1 + 1 + 1, o3), (s₁.heap.objs.size + 1 + 1 + 1 + 1, o4), (s₁.heap.objs.size + 1 + 1 + 1 + 1 + 1, o5)], @Ne Nat q.1 pb ∧ @Ne Nat q.1 dx ∧ @Ne Nat q.1 al := fun q hq => hoff q (hcm.2 q hq)
      have htl : ∀ q ∈ nws ++ [(D9, LCg.lst [Value.int d0 t0, Value.int d1 t1, Value.int d2 t2, Value.int d3 t3, Value.int d4 t4]), (s₁.heap.objs.size + 1, oDr)], ∀ b ∈ [(s₁.heap.objs.size + 1 + 1 + 1, o3), (s₁.heap.objs.size + 1 + 1 + 1 + 1, o4), (s₁.heap.objs.size + 1 + 1 + 1 + 1 + 1, o5)], @Ne Nat q.1 b.1 := by
        intro q hq b hb
        rcases List.mem_append.mp hq with hq | hq
        · exact hapart q hq b (List.mem_cons_of_mem _ (List.mem_cons_of_mem _ hb))
        · have z3 : @Ne Nat (s₁.heap.objs.size + 1 + 1 + 1) D9 := o9.2.2.1
          have z4 : @Ne Nat (s₁.heap.objs.size + 1 + 1 + 1 + 1) D9 := o9.2.1
          have z5 : @Ne Nat (s₁.heap.objs.size + 1 + 1 + 1 + 1 + 1) D9 := o9.1
          simp only [List.mem_cons, List.not_mem_nil, or_false] at hq hb
          rcases hq with rfl | rfl <;> rcases hb with rfl | rfl | rfl
          all_goals (show @Ne Nat _ _; omega)
      have hDr : (D9, LCg.lst [Value.int d0 t0, Value.int d1 t1, Value.int d2 t2, Value.int d3 t3, Value.int d4 t4]) ∈ nws ++ [(D9, LCg.lst [Value.int d0 t0, Value.int d1 t1, Value.int d2 t2, Value.int d3 t3, Value.int d4 t4]), (s₁.heap.objs.size + 1, oDr)] := List.mem_append_right _ List.mem_cons_self
      have hoDr : (s₁.heap.objs.size + 1, oDr) ∈ nws ++ [(D9, LCg.lst [Value.int d0 t0, Value.int d1 t1, Value.int d2 t2, Value.int d3 t3, Value.int d4 t4]), (s₁.heap.objs.size + 1, oDr)] := List.mem_append_right _ (List.mem_cons_of_mem _ List.mem_cons_self)
      have h84 : (84, tabObj ps84) ∈ nws ++ [(D9, LCg.lst [Value.int d0 t0, Value.int d1 t1, Value.int d2 t2, Value.int d3 t3, Value.int d4 t4]), (s₁.heap.objs.size + 1, oDr)] := List.mem_append_left _ m8
      have N10 := cb_drop (news := (pb, W.listOf #[] 0) :: (dx, mD i1 i2 i3 i4 k1 k2 k3 k4 kw st pb 1 kl) :: (al, W.listOf #[.int 0 kp] 0) :: (s₁.heap.objs.size + 1 + 1 + 1, o3) :: (s₁.heap.objs.size + 1 + 1 + 1 + 1, o4) :: (s₁.heap.objs.size + 1 + 1 + 1 + 1 + 1, o5) :: (nws ++ [(D9, LCg.lst [Value.int d0 t0, Value.int d1 t1, Value.int d2 t2, Value.int d3 t3, Value.int d4 t4]), (s₁.heap.objs.size + 1, oDr)])) N9 (fun p hp => by
        rcases List.mem_cons.mp hp with rfl | hp
        · exact List.mem_cons_self
        rcases List.mem_cons.mp hp with rfl | hp
        · exact List.mem_cons_of_mem _ List.mem_cons_self
        rcases List.mem_cons.mp hp with rfl | hp
        · exact List.mem_cons_of_mem _ (List.mem_cons_of_mem _ List.mem_cons_self)
        refine List.mem_cons_of_mem _ (List.mem_cons_of_mem _ (List.mem_cons_of_mem _ ?_))
        rcases List.mem_cons.mp hp with rfl | hp
        · exact hcm.2 _ List.mem_cons_self
        rcases List.mem_cons.mp hp with rfl | hp
        · exact hcm.2 _ (List.mem_cons_of_mem _ List.mem_cons_self)
        rcases List.mem_cons.mp hp with rfl | hp
        · exact hcm.2 _ (List.mem_cons_of_mem _ (List.mem_cons_of_mem _ List.mem_cons_self))
        exact hcm.1 _ hp)
      clear N9 N2 hapart hrest hbase hoff hcm F' m1 m2 m3 m4 m5 m6 m7 m8 hne hreads
      generalize nws ++ [(D9, LCg.lst [Value.int d0 t0, Value.int d1 t1, Value.int d2 t2, Value.int d3 t3, Value.int d4 t4]), (s₁.heap.objs.size + 1, oDr)] = tl at *
      have hds : Ils [d0, d1, d2, d3, d4] [Value.int d0 t0, Value.int d1 t1, Value.int d2 t2, Value.int d3 t3, Value.int d4 t4] := .cons (.cons (.cons (.cons (.cons .nil))))
      clear hJ hJ3 rngY keepY llf lD1 lD2 lD3 eF i9 de hlen
      k_steps
      rename_i _ yE111 yE112 yE113
      revert hg hI X T' K lifted codeHd l0 hns e1 e2 e3 e4 e5 o9 db eDr yC76 a0 a1 b0 b1 c0 c1 hcell Mn htl hDr hoDr h84 hds yE112 yE113
      intros
      rename_i hg hI X T' K lifted codeHd l0 hns e1 e2 e3 e4 e5 o9 db eDr yC76 a0 a1 b0 b1 c0 c1 hcell Mn htl hDr hoDr h84 hds yE112 yE113
      rename News _ _ _ _ => N'
      rename Fr _ _ _ _ => F'
      unfold StopP
      have M5 := Mn.grow hcell
      k_dflt (refine' Con.use K F' X N' T' (con_grown M5 _ _ _ _ [Value.int d0 t0, Value.int d1 t1, Value.int d2 t2, Value.int d3 t3, Value.int d4 t4].length [d0, d1, d2, d3, d4] _ hds rfl db ?hl_F (ttS (d0.fmod 3) (d2.fmod 3) (d4.fmod 3)) rrS (knS (d0.fmod 3) (d2.fmod 3)) (lnS (d0.fmod 3) (d2.fmod 3)) (toks a0 a1 b0 b1 c0 c1) ?ht_F (rem_0 a0 a1 b0 b1 c0 c1) (lnS_next _ _) rr_word (grow_fine _)) rfl ?k7_F ?k8_F ?_; (case hl_F => exact List.mem_append_right _ hDr); (case ht_F => exact fun i hi => tt_len a0 a1 b0 b1 c0 c1 i (by omega)); (case k7_F => (show 1 + claimMargin + 1 + _ < recursionLimit; decide +kernel)); (case k8_F => (show 4 + 3 + _ < cLine; decide +kernel)))
      intro r9 news9 h9' tk9 F9 N9 hp9
      revert hp9
      refine exI ?_
      intro a
      refine exI ?_
      intro nn
      refine exI ?_
      intro k
      refine exI ?_
      intro kl'
      refine exI ?_
      intro q
      refine exI ?_
      intro t
      refine exI ?_
      intro mo
      refine exI ?_
      intro as
      intro hx9
      obtain ⟨hr9, hnw, M9, hmo, hLs, hRem, ha⟩ := hx9
      subst hr9 hnw
      refine exI ?_ (lawful [d0, d1, d2, d3, d4])
      intro v
      intro hv
      have hLs9 := hLs
      clear hLs
      have hLs := hLs9
      clear hLs9
      rw [hv.hq] at hLs
      have hRem' : Rem (textS (d0.fmod 3) (d2.fmod 3) (d4.fmod 3)) q (lead (d4.fmod 3)) := hRem
      have Mt := Mn.grow (more := mo) (fun q hq => M9.off q (List.mem_append_left _ hq))
      have hsub : ∀ q ∈ mo ++ tl, q ∈ mo ++ ([(s₁.heap.objs.size + 1 + 1 + 1, o3), (s₁.heap.objs.size + 1 + 1 + 1 + 1, o4), (s₁.heap.objs.size + 1 + 1 + 1 + 1 + 1, o5)] ++ tl) := fun q hq => (List.mem_append.mp hq).elim (fun h => List.mem_append_left _ h) (fun h => List.mem_append_right _ (List.mem_append_right _ h))
      have hcs : ∀ q ∈ [(s₁.heap.objs.size + 1 + 1 + 1, o3), (s₁.heap.objs.size + 1 + 1 + 1 + 1, o4), (s₁.heap.objs.size + 1 + 1 + 1 + 1 + 1, o5)], q ∈ mo ++ ([(s₁.heap.objs.size + 1 + 1 + 1, o3), (s₁.heap.objs.size + 1 + 1 + 1 + 1, o4), (s₁.heap.objs.size + 1 + 1 + 1 + 1 + 1, o5)] ++ tl) := fun q hq => List.mem_append_right _ (List.mem_append_left _ hq)
      have htl2 : ∀ q ∈ mo ++ tl, ∀ b ∈ [(s₁.heap.objs.size + 1 + 1 + 1, o3), (s₁.heap.objs.size + 1 + 1 + 1 + 1, o4), (s₁.heap.objs.size + 1 + 1 + 1 + 1 + 1, o5)], @Ne Nat q.1 b.1 := fun q hq b hb => (List.mem_append.mp hq).elim (fun h => hmo q h b (List.mem_append_left _ hb)) (fun h => htl q h b hb)
      have ha2 : ∀ p ∈ (pb, W.listOf #[] k) :: (dx, mD i1 i2 i3 i4 k1 k2 k3 k4 kw st pb (lnS (d0.fmod 3) (d2.fmod 3) 3) kl') :: (al, W.listOf #[.int q t] 0) :: (mo ++ tl), @Ne Nat p.1 a := by
        intro p hp
        rcases List.mem_cons.mp hp with rfl | hp
        · exact ha _ List.mem_cons_self
        rcases List.mem_cons.mp hp with rfl | hp
        · exact ha _ (List.mem_cons_of_mem _ List.mem_cons_self)
        rcases List.mem_cons.mp hp with rfl | hp
        · exact ha _ (List.mem_cons_of_mem _ (List.mem_cons_of_mem _ List.mem_cons_self))
        exact ha _ (List.mem_cons_of_mem _ (List.mem_cons_of_mem _ (List.mem_cons_of_mem _ (hsub _ hp))))
      have hca : ∀ q ∈ [(s₁.heap.objs.size + 1 + 1 + 1, o3), (s₁.heap.objs.size + 1 + 1 + 1 + 1, o4), (s₁.heap.objs.size + 1 + 1 + 1 + 1 + 1, o5)], @Ne Nat q.1 a := fun q hq => ha q (List.mem_cons_of_mem _ (List.mem_cons_of_mem _ (List.mem_cons_of_mem _ (hcs q hq))))
      have N10 := cb_drop (news := (s₁.heap.objs.size + 1 + 1 + 1, o3) :: (s₁.heap.objs.size + 1 + 1 + 1 + 1, o4) :: (s₁.heap.objs.size + 1 + 1 + 1 + 1 + 1, o5) :: (a, ({ cls := .type "list", data := .seq (as.map Value.ref).toArray nn } : Obj)) :: (pb, W.listOf #[] k) :: (dx, mD i1 i2 i3 i4 k1 k2 k3 k4 kw st pb (lnS (d0.fmod 3) (d2.fmod 3) 3) kl') :: (al, W.listOf #[.int q t] 0) :: (mo ++ tl)) N9 (fun p hp => by
        rcases List.mem_cons.mp hp with rfl | hp
        · exact List.mem_cons_of_mem _ (List.mem_cons_of_mem _ (List.mem_cons_of_mem _ (List.mem_cons_of_mem _ (hcs _ List.mem_cons_self))))
        rcases List.mem_cons.mp hp with rfl | hp
        · exact List.mem_cons_of_mem _ (List.mem_cons_of_mem _ (List.mem_cons_of_mem _ (List.mem_cons_of_mem _ (hcs _ (List.mem_cons_of_mem _ List.mem_cons_self)))))
        rcases List.mem_cons.mp hp with rfl | hp
        · exact List.mem_cons_of_mem _ (List.mem_cons_of_mem _ (List.mem_cons_of_mem _ (List.mem_cons_of_mem _ (hcs _ (List.mem_cons_of_mem _ (List.mem_cons_of_mem _ List.mem_cons_self))))))
        rcases List.mem_cons.mp hp with rfl | hp
        · exact List.mem_cons_self
        rcases List.mem_cons.mp hp with rfl | hp
        · exact List.mem_cons_of_mem _ List.mem_cons_self
        rcases List.mem_cons.mp hp with rfl | hp
        · exact List.mem_cons_of_mem _ (List.mem_cons_of_mem _ List.mem_cons_self)
        rcases List.mem_cons.mp hp with rfl | hp
        · exact List.mem_cons_of_mem _ (List.mem_cons_of_mem _ (List.mem_cons_of_mem _ List.mem_cons_self))
        exact List.mem_cons_of_mem _ (List.mem_cons_of_mem _ (List.mem_cons_of_mem _ (List.mem_cons_of_mem _ (hsub _ hp)))))
      have hDr2 : (D9, LCg.lst [Value.int d0 t0, Value.int d1 t1, Value.int d2 t2, Value.int d3 t3, Value.int d4 t4]) ∈ mo ++ tl := List.mem_append_right _ hDr
      have hoDr2 : (s₁.heap.objs.size + 1, oDr) ∈ mo ++ tl := List.mem_append_right _ hoDr
      have h84r : (84, tabObj ps84) ∈ mo ++ tl := List.mem_append_right _ h84
      have hL2 : Lights (mo ++ tl) (l8 v) as := hLs.mono (fun p hp => List.mem_append_left _ hp)
      clear h84 N9 ha hcs hsub hmo M9 M5 Mn hRem hLs htl hDr hoDr F' N'
      generalize mo ++ tl = R at *
      have u3 : UpdF (s₁.heap.objs.size + 1 + 1 + 1) o3 ((s₁.heap.objs.size + 1 + 1 + 1, o3) :: (s₁.heap.objs.size + 1 + 1 + 1 + 1, o4) :: (s₁.heap.objs.size + 1 + 1 + 1 + 1 + 1, o5) :: (a, ({ cls := .type "list", data := .seq (as.map Value.ref).toArray nn } : Obj)) :: (pb, W.listOf #[] k) :: (dx, mD i1 i2 i3 i4 k1 k2 k3 k4 kw st pb (lnS (d0.fmod 3) (d2.fmod 3) 3) kl') :: (al, W.listOf #[.int q t] 0) :: R) (fun o' => (s₁.heap.objs.size + 1 + 1 + 1, o') :: (s₁.heap.objs.size + 1 + 1 + 1 + 1, o4) :: (s₁.heap.objs.size + 1 + 1 + 1 + 1 + 1, o5) :: (a, ({ cls := .type "list", data := .seq (as.map Value.ref).toArray nn } : Obj)) :: (pb, W.listOf #[] k) :: (dx, mD i1 i2 i3 i4 k1 k2 k3 k4 kw st pb (lnS (d0.fmod 3) (d2.fmod 3) 3) kl') :: (al, W.listOf #[.int q t] 0) :: R) := by
        refine UpdF.head (fun p hp => ?_)
        have z1 := hca _ List.mem_cons_self
        have z2 := hcell _ List.mem_cons_self
        rcases List.mem_cons.mp hp with rfl | hp
        · show @Ne Nat _ _
          omega
        rcases List.mem_cons.mp hp with rfl | hp
        · show @Ne Nat _ _
          omega
        rcases List.mem_cons.mp hp with rfl | hp
        · exact Ne.symm z1
        rcases List.mem_cons.mp hp with rfl | hp
        · exact Ne.symm z2.1
        rcases List.mem_cons.mp hp with rfl | hp
        · exact Ne.symm z2.2.1
        rcases List.mem_cons.mp hp with rfl | hp
        · exact Ne.symm z2.2.2
        exact htl2 p hp _ List.mem_cons_self
      k_steps
      rename_i yF117 yF118 yF119 yF120 yF121
      revert hg hI X T' K lifted codeHd l0 hns e1 e2 e3 e4 e5 o9 db eDr yC76 a0 a1 b0 b1 c0 c1 hcell hds hv hRem' hca Mt htl2 ha2 hDr2 hoDr2 h84r hL2 u3 yF119 yF120 yF121
      intros
      rename_i hg hI X T' K lifted codeHd l0 hns e1 e2 e3 e4 e5 o9 db eDr yC76 a0 a1 b0 b1 c0 c1 hcell hds hv hRem' hca Mt htl2 ha2 hDr2 hoDr2 h84r hL2 u3 yF119 yF120 yF121
      rename News _ _ _ _ => N'
      rename Fr _ _ _ _ => F'
      rename _ = Data.cell (some (Value.ref a)) => eL
      rename Obj => oL
      unfold StopP
      k_dflt (refine' Con.use K F' X N' T' (con_told _ D9 [Value.int d0 t0, Value.int d1 t1, Value.int d2 t2, Value.int d3 t3, Value.int d4 t4].length [d0, d1, d2, d3, d4] _ hds rfl db ?hl_G) rfl ?k7_G ?k8_G ?_; (case hl_G => k_mem); (case k7_G => (show 1 + claimMargin + 1 + _ < recursionLimit; decide +kernel)); (case k8_G => (show 4 + 3 + _ < cLine; decide +kernel)))
      intro r9 news9 h9'' tk9'' F9 N9 hp9
      revert hp9
      refine exI ?_
      intro ta
      refine exI ?_
      intro S
      refine exI ?_
      intro sv
      refine exI ?_
      intro sn
      refine exI ?_
      intro tu
      intro hx9
      obtain ⟨hr9, hnw, hsv, lS, lSa, lta⟩ := hx9
      subst hr9 hnw
      have N10 := cb_drop (news := (s₁.heap.objs.size + 1 + 1 + 1 + 1, o4) :: (s₁.heap.objs.size + 1 + 1 + 1 + 1 + 1, o5) :: (pb, W.listOf #[] k) :: ((s₁.heap.objs.size + 1 + 1 + 1, oL) :: (ta, tupO [.ref S, .int (toldS [d0, d1, d2, d3, d4] 5).2 tu]) :: (S, ({ cls := .type "list", data := .seq sv.toArray sn } : Obj)) :: (a, ({ cls := .type "list", data := .seq (as.map Value.ref).toArray nn } : Obj)) :: (dx, mD i1 i2 i3 i4 k1 k2 k3 k4 kw st pb (lnS (d0.fmod 3) (d2.fmod 3) 3) kl') :: (al, W.listOf #[.int q t] 0) :: R)) N9 (by
        simp only [List.forall_mem_cons]
        refine ⟨by k_mem, by k_mem, by k_mem, by k_mem, by k_mem, by k_mem, by k_mem, by k_mem, by k_mem, fun p hp => ?_⟩
        k_mem)
      have lW : ∀ p ∈ (s₁.heap.objs.size + 1 + 1 + 1, oL) :: (s₁.heap.objs.size + 1 + 1 + 1 + 1, o4) :: (s₁.heap.objs.size + 1 + 1 + 1 + 1 + 1, o5) :: (a, ({ cls := .type "list", data := .seq (as.map Value.ref).toArray nn } : Obj)) :: (pb, W.listOf #[] k) :: (dx, mD i1 i2 i3 i4 k1 k2 k3 k4 kw st pb (lnS (d0.fmod 3) (d2.fmod 3) 3) kl') :: (al, W.listOf #[.int q t] 0) :: R, @LT.lt Nat _ p.1 S ∧ @LT.lt Nat _ p.1 ta := fun p hp => ⟨ktn_ltOf lS p hp, ktn_ltOf lta p hp⟩
      have x3 := hcell _ List.mem_cons_self
      have x4 := hcell _ (List.mem_cons_of_mem _ List.mem_cons_self)
      have x5 := hcell _ (List.mem_cons_of_mem _ (List.mem_cons_of_mem _ List.mem_cons_self))
      have y3 := hca _ List.mem_cons_self
      have y4 := hca _ (List.mem_cons_of_mem _ List.mem_cons_self)
      have y5 := hca _ (List.mem_cons_of_mem _ (List.mem_cons_of_mem _ List.mem_cons_self))
      have w3 : @LT.lt Nat _ (s₁.heap.objs.size + 1 + 1 + 1) S ∧ @LT.lt Nat _ (s₁.heap.objs.size + 1 + 1 + 1) ta := lW _ List.mem_cons_self
      have w4 : @LT.lt Nat _ (s₁.heap.objs.size + 1 + 1 + 1 + 1) S ∧ @LT.lt Nat _ (s₁.heap.objs.size + 1 + 1 + 1 + 1) ta := lW _ (List.mem_cons_of_mem _ List.mem_cons_self)
      have w5 : @LT.lt Nat _ (s₁.heap.objs.size + 1 + 1 + 1 + 1 + 1) S ∧ @LT.lt Nat _ (s₁.heap.objs.size + 1 + 1 + 1 + 1 + 1) ta := lW _ (List.mem_cons_of_mem _ (List.mem_cons_of_mem _ List.mem_cons_self))
      have wpb : @LT.lt Nat _ pb S ∧ @LT.lt Nat _ pb ta := lW _ (List.mem_cons_of_mem _ (List.mem_cons_of_mem _ (List.mem_cons_of_mem _ (List.mem_cons_of_mem _ List.mem_cons_self))))
      have mL : (s₁.heap.objs.size + 1 + 1 + 1, oL) ∈ (((s₁.heap.objs.size + 1 + 1 + 1, oL) :: (ta, tupO [.ref S, .int (toldS [d0, d1, d2, d3, d4] 5).2 tu]) :: (S, ({ cls := .type "list", data := .seq sv.toArray sn } : Obj)) :: (a, ({ cls := .type "list", data := .seq (as.map Value.ref).toArray nn } : Obj)) :: (dx, mD i1 i2 i3 i4 k1 k2 k3 k4 kw st pb (lnS (d0.fmod 3) (d2.fmod 3) 3) kl') :: (al, W.listOf #[.int q t] 0) :: R) : List (Addr × Obj)) := by k_mem
      have mta : (ta, tupO [.ref S, .int (toldS [d0, d1, d2, d3, d4] 5).2 tu]) ∈ (((s₁.heap.objs.size + 1 + 1 + 1, oL) :: (ta, tupO [.ref S, .int (toldS [d0, d1, d2, d3, d4] 5).2 tu]) :: (S, ({ cls := .type "list", data := .seq sv.toArray sn } : Obj)) :: (a, ({ cls := .type "list", data := .seq (as.map Value.ref).toArray nn } : Obj)) :: (dx, mD i1 i2 i3 i4 k1 k2 k3 k4 kw st pb (lnS (d0.fmod 3) (d2.fmod 3) 3) kl') :: (al, W.listOf #[.int q t] 0) :: R) : List (Addr × Obj)) := by k_mem
      have mS : (S, ({ cls := .type "list", data := .seq sv.toArray sn } : Obj)) ∈ (((s₁.heap.objs.size + 1 + 1 + 1, oL) :: (ta, tupO [.ref S, .int (toldS [d0, d1, d2, d3, d4] 5).2 tu]) :: (S, ({ cls := .type "list", data := .seq sv.toArray sn } : Obj)) :: (a, ({ cls := .type "list", data := .seq (as.map Value.ref).toArray nn } : Obj)) :: (dx, mD i1 i2 i3 i4 k1 k2 k3 k4 kw st pb (lnS (d0.fmod 3) (d2.fmod 3) 3) kl') :: (al, W.listOf #[.int q t] 0) :: R) : List (Addr × Obj)) := by k_mem
      have ma : (a, ({ cls := .type "list", data := .seq (as.map Value.ref).toArray nn } : Obj)) ∈ (((s₁.heap.objs.size + 1 + 1 + 1, oL) :: (ta, tupO [.ref S, .int (toldS [d0, d1, d2, d3, d4] 5).2 tu]) :: (S, ({ cls := .type "list", data := .seq sv.toArray sn } : Obj)) :: (a, ({ cls := .type "list", data := .seq (as.map Value.ref).toArray nn } : Obj)) :: (dx, mD i1 i2 i3 i4 k1 k2 k3 k4 kw st pb (lnS (d0.fmod 3) (d2.fmod 3) 3) kl') :: (al, W.listOf #[.int q t] 0) :: R) : List (Addr × Obj)) := by k_mem
      have mdx : (dx, mD i1 i2 i3 i4 k1 k2 k3 k4 kw st pb (lnS (d0.fmod 3) (d2.fmod 3) 3) kl') ∈ (((s₁.heap.objs.size + 1 + 1 + 1, oL) :: (ta, tupO [.ref S, .int (toldS [d0, d1, d2, d3, d4] 5).2 tu]) :: (S, ({ cls := .type "list", data := .seq sv.toArray sn } : Obj)) :: (a, ({ cls := .type "list", data := .seq (as.map Value.ref).toArray nn } : Obj)) :: (dx, mD i1 i2 i3 i4 k1 k2 k3 k4 kw st pb (lnS (d0.fmod 3) (d2.fmod 3) 3) kl') :: (al, W.listOf #[.int q t] 0) :: R) : List (Addr × Obj)) := by k_mem
      have mal : (al, W.listOf #[.int q t] 0) ∈ (((s₁.heap.objs.size + 1 + 1 + 1, oL) :: (ta, tupO [.ref S, .int (toldS [d0, d1, d2, d3, d4] 5).2 tu]) :: (S, ({ cls := .type "list", data := .seq sv.toArray sn } : Obj)) :: (a, ({ cls := .type "list", data := .seq (as.map Value.ref).toArray nn } : Obj)) :: (dx, mD i1 i2 i3 i4 k1 k2 k3 k4 kw st pb (lnS (d0.fmod 3) (d2.fmod 3) 3) kl') :: (al, W.listOf #[.int q t] 0) :: R) : List (Addr × Obj)) := by k_mem
      have mR : ∀ p ∈ R, p ∈ (((s₁.heap.objs.size + 1 + 1 + 1, oL) :: (ta, tupO [.ref S, .int (toldS [d0, d1, d2, d3, d4] 5).2 tu]) :: (S, ({ cls := .type "list", data := .seq sv.toArray sn } : Obj)) :: (a, ({ cls := .type "list", data := .seq (as.map Value.ref).toArray nn } : Obj)) :: (dx, mD i1 i2 i3 i4 k1 k2 k3 k4 kw st pb (lnS (d0.fmod 3) (d2.fmod 3) 3) kl') :: (al, W.listOf #[.int q t] 0) :: R) : List (Addr × Obj)) := fun p hp => by k_mem
      have off : ∀ p ∈ (((s₁.heap.objs.size + 1 + 1 + 1, oL) :: (ta, tupO [.ref S, .int (toldS [d0, d1, d2, d3, d4] 5).2 tu]) :: (S, ({ cls := .type "list", data := .seq sv.toArray sn } : Obj)) :: (a, ({ cls := .type "list", data := .seq (as.map Value.ref).toArray nn } : Obj)) :: (dx, mD i1 i2 i3 i4 k1 k2 k3 k4 kw st pb (lnS (d0.fmod 3) (d2.fmod 3) 3) kl') :: (al, W.listOf #[.int q t] 0) :: R) : List (Addr × Obj)), @Ne Nat p.1 (s₁.heap.objs.size + 1 + 1 + 1 + 1) ∧ @Ne Nat p.1 (s₁.heap.objs.size + 1 + 1 + 1 + 1 + 1) ∧ @Ne Nat p.1 pb := by
        simp only [List.forall_mem_cons]
        have n1 := Mt.ne
        have z1 := ha2 _ List.mem_cons_self
        refine ⟨⟨?_, ?_, ?_⟩, ⟨?_, ?_, ?_⟩, ⟨?_, ?_, ?_⟩, ⟨?_, ?_, ?_⟩, ⟨?_, ?_, ?_⟩, ⟨?_, ?_, ?_⟩, fun p hp => ⟨?_, ?_, ?_⟩⟩
        · show @Ne Nat _ _; omega
        · show @Ne Nat _ _; omega
        · exact x3.1
        · exact Nat.ne_of_gt w4.2
        · exact Nat.ne_of_gt w5.2
        · exact Nat.ne_of_gt wpb.2
        · exact Nat.ne_of_gt w4.1
        · exact Nat.ne_of_gt w5.1
        · exact Nat.ne_of_gt wpb.1
        · exact Ne.symm y4
        · exact Ne.symm y5
        · exact Ne.symm z1
        · exact Ne.symm x4.2.1
        · exact Ne.symm x5.2.1
        · exact Ne.symm n1.1
        · exact Ne.symm x4.2.2
        · exact Ne.symm x5.2.2
        · exact Ne.symm n1.2.1
        · exact htl2 p hp _ (List.mem_cons_of_mem _ List.mem_cons_self)
        · exact htl2 p hp _ (List.mem_cons_of_mem _ (List.mem_cons_of_mem _ List.mem_cons_self))
        · exact (Mt.off p hp).1
      have hL3 := hL2.mono mR
      have n45 : @Ne Nat (s₁.heap.objs.size + 1 + 1 + 1 + 1 + 1) (s₁.heap.objs.size + 1 + 1 + 1 + 1) := by omega
      have n4p : @Ne Nat pb (s₁.heap.objs.size + 1 + 1 + 1 + 1) := Ne.symm x4.1
      have n5p : @Ne Nat pb (s₁.heap.objs.size + 1 + 1 + 1 + 1 + 1) := Ne.symm x5.1
      clear lW lS lta lSa N9 w3 w4 w5 wpb N' F' u3 htl2 hca hcell y3 y4 y5 x3 x4 x5 ha2 hL2
      generalize (((s₁.heap.objs.size + 1 + 1 + 1, oL) :: (ta, tupO [.ref S, .int (toldS [d0, d1, d2, d3, d4] 5).2 tu]) :: (S, ({ cls := .type "list", data := .seq sv.toArray sn } : Obj)) :: (a, ({ cls := .type "list", data := .seq (as.map Value.ref).toArray nn } : Obj)) :: (dx, mD i1 i2 i3 i4 k1 k2 k3 k4 kw st pb (lnS (d0.fmod 3) (d2.fmod 3) 3) kl') :: (al, W.listOf #[.int q t] 0) :: R) : List (Addr × Obj)) = Q' at *
      k_steps
      rename_i yG128 yG129 yG130 yG132 yG133 yG134 yG135 yG136 yG137 yG138 yG139 yG140 yG141
      revert hg hI X T' K lifted codeHd l0 hns e1 e2 e3 e4 e5 o9 db eDr yC76 a0 a1 b0 b1 c0 c1 hds hv hRem' Mt hDr2 hoDr2 h84r eL hsv n45 n4p n5p mL mta mS ma mdx mal mR off hL3 yG129 yG130 yG137 yG138 yG139 yG140
      intros
      rename_i hg hI X T' K lifted codeHd l0 hns e1 e2 e3 e4 e5 o9 db eDr yC76 a0 a1 b0 b1 c0 c1 hds hv hRem' Mt hDr2 hoDr2 h84r eL hsv n45 n4p n5p mL mta mS ma mdx mal mR off hL3 yG129 yG130 yG137 yG138 yG139 yG140
      unfold StopP
      refine rest_inv (fun i ys nw => nw = _ ∧ IntsAre ys ((l8 (sg v)).take i)) ⟨rfl, .nil⟩ ?_ ?_
      · intro i hi ys nw hJ kv I oI C oC D m₂ h tk E' hkv hC hvx F9 N9 off9
        obtain ⟨hnw, hJ⟩ := hJ
        subst hnw
        revert hkv
        refine exI ?_
        intro tv
        intro hkv
        subst hkv
        have hi' : i < 8 := hi
        have hn : (i + 1) % 8 < 8 := Nat.mod_lt _ (by decide)
        refine exI ?_ (lights8 hL3 hi' (k := 0 + (i : Int)) (by omega))
        intro p1
        refine exI ?_
        intro r1
        refine exI ?_
        intro r2
        refine exI ?_
        intro r3
        intro hx9
        obtain ⟨g1, m1⟩ := hx9
        refine exI ?_ (lights8 hL3 hn (fmod8 hi'))
        intro p2
        refine exI ?_
        intro r4
        refine exI ?_
        intro r5
        refine exI ?_
        intro r6
        intro hx9
        obtain ⟨g2, m2⟩ := hx9
        have z1 := fmod8_0 (0 + (i : Int) + 1)
        have z2 := fmod8_1 (0 + (i : Int) + 1)
        k_steps

        unfold StopP
        k_dflt (refine' Con.use ?k1_H ?k2_H ?k3_H ?k4_H ?k5_H (con_cross _ p1 p2 (v i) (v ((i + 1) % 8)) ⟨r1, r2, r3, ?m1_H⟩ ⟨r4, r5, r6, ?m2_H⟩ (hv.rg i hi') (hv.rg _ hn) (hv.fin i hi')) ?k6_H ?k7_H ?k8_H ?_; (case k1_H => k_asm); (case k2_H => k_asm); (case k3_H => k_asm); (case k4_H => k_asm); (case k5_H => k_asm); (case m1_H => k_mem); (case m2_H => k_mem); (case k6_H => first | exact rfl | assumption); (case k7_H => (show 1 + claimMargin + 1 + _ < recursionLimit; decide +kernel)); (case k8_H => (show 4 + 3 + _ < cLine; decide +kernel)); intro r9 news9 h9 tk9 F9 N9 hp9; obtain ⟨e9, f9⟩ := hp9; obtain ⟨u9, e9⟩ := e9; subst e9 f9; (try dsimp only); (try k_fold))
        k_steps
        unfold StopP
        exact LCg.CompEnd.intro (by assumption) (by assumption) _ (fun p hp => hp) (by assumption) trivial ⟨rfl, by rw [l8_take _ hi']; exact IntsAre.append hJ (.cons _ _ .nil)⟩
      · intro ys nw hJ
        obtain ⟨hnw, hJ⟩ := hJ
        subst hnw
        have hsg : IntsAre ys (l8 (sg v)) := hJ
        clear hJ
        revert hg hI X T' K lifted codeHd l0 hns e1 e2 e3 e4 e5 o9 db eDr yC76 a0 a1 b0 b1 c0 c1 hds hv hRem' Mt hDr2 hoDr2 h84r eL hsv n45 n4p n5p mL mta mS ma mdx mal mR off hL3 yG129 yG130 yG137 yG138 yG139 yG140 hsg
        intros
        rename_i hg hI X T' K lifted codeHd l0 hns e1 e2 e3 e4 e5 o9 db eDr yC76 a0 a1 b0 b1 c0 c1 hds hv hRem' Mt hDr2 hoDr2 h84r eL hsv n45 n4p n5p mL mta mS ma mdx mal mR off hL3 yG129 yG130 yG137 yG138 yG139 yG140 hsg
        have u4 : UpdF (s₁.heap.objs.size + 1 + 1 + 1 + 1) o4 ((s₁.heap.objs.size + 1 + 1 + 1 + 1, o4) :: (s₁.heap.objs.size + 1 + 1 + 1 + 1 + 1, o5) :: (pb, W.listOf #[] k) :: Q') (fun o' => (s₁.heap.objs.size + 1 + 1 + 1 + 1, o') :: (s₁.heap.objs.size + 1 + 1 + 1 + 1 + 1, o5) :: (pb, W.listOf #[] k) :: Q') := by
          refine UpdF.head (fun p hp => ?_)
          rcases List.mem_cons.mp hp with rfl | hp
          · exact n45
          rcases List.mem_cons.mp hp with rfl | hp
          · exact n4p
          exact (off p hp).1
        k_steps
        rename_i sD _ tD1 oD hS1 oS FS NS eS hR tR tR1 uR vR rngR FR NR keepR gR
        revert hg hI X T' K lifted codeHd l0 hns e1 e2 e3 e4 e5 o9 db eDr yC76 a0 a1 b0 b1 c0 c1 hds hv hRem' Mt hDr2 hoDr2 h84r eL hsv n45 n4p n5p mL mta mS ma mdx mal mR off hL3 yG137 yG140 hsg u4 oD FS NS eS rngR FR NR keepR
        revert w s₀ s₁ mg mb fa pm cd doc ns sl vs o5 o4 o3 o2 o1 D9 d0 d1 d2 d3 d4 t0 t1 t2 t3 t4 oDr D1 D2 D3 lf yC73 t9 x dx pb al st Dm rd c ca ct i1 i2 i3 i4 i5 k1 k2 k3 k4 k5 kw fds fd cO oa ot ps84 a nn k kl' q t as v R oL ta S sv sn tu Q' yG128 tk yG132 yG134 yG135 yG136 ys sD tD1 hS1 oS hR tR tR1 uR vR gR
        exact hole.h⟩
end Mine
end
section
set_option maxRecDepth 100000
set_option maxHeartbeats 8000000
namespace Mine
theorem rs_Yb : True := by
  w_top off
  exact True.intro
theorem ints_at {n : Int} : ∀ {vs : List Value} {ns : List Int} {i : Nat}, IntsAre vs ns → ns[i]? = some n → ∃ t, vs[i]? = some (.int n t)
  | _, _, 0, .cons _ t _, e => ⟨t, by cases e; rfl⟩
  | _, _, i + 1, .cons _ _ h, e => ints_at (i := i) h e
theorem off1_of {D : Addr} {l : List (Addr × Obj)} (h : LCg.Off1 D l) : ∀ p ∈ l, @Ne Nat p.1 D := by
  induction l with
  | nil => exact fun p hp => nomatch hp
  | cons q l ih =>
    intro p hp
    unfold LCg.Off1 at h
    rcases List.mem_cons.mp hp with e | hp
    · rw [e]; exact h.1
    · exact ih h.2 p hp
theorem l8_all {α : Type} {P : α → Prop} {v : Nat → α} (h : ∀ k, k < 8 → P (v k)) : ∀ u ∈ l8 v, P u := by
  unfold l8
  simp only [List.forall_mem_cons]
  exact ⟨h 0 (by decide), h 1 (by decide), h 2 (by decide), h 3 (by decide), h 4 (by decide), h 5 (by decide), h 6 (by decide), h 7 (by decide), fun _ hx => nomatch hx⟩
theorem eq_eq {prog : Program} {w : World} {A : Around} {E : Value → Shared → Prop} {s : Shared} {a b : Int} {t u : Tok} {Q : Value → Shared → Prop} (e : a = b) (h : Q (.bool true) s) : wpAny (model prog w) A (compareOp .Eq (.int a t) (.int b u)) Q E s :=
  eq_int (by rw [e, beq_self_eq_true]; exact h)
theorem count_eq {a b c : Int} (a0 : 0 ≤ a) (a1 : a < 3) (b0 : 0 ≤ b) (b1 : b < 3) (c0 : 0 ≤ c) (c1 : c < 3) : lnS a b 3 + ((lead c).length : Int) = 1 + Txt.count (textS a b c) (Str.ofString "\n") := by
  rcases three a0 a1 with rfl | rfl | rfl <;> rcases three b0 b1 with rfl | rfl | rfl <;> rcases three c0 c1 with rfl | rfl | rfl <;> decide +kernel
theorem stYb : stYa.1 := by
  intros zz
  revert zz
  intro w s₀ s₁
  refine all8 inferInstance ?_
  generalize Prod.fst (c8 _ _) = mg, Prod.fst (Prod.snd (c8 _ _)) = mb, Prod.fst (Prod.snd (Prod.snd (c8 _ _))) = fa, Prod.fst (Prod.snd (Prod.snd (Prod.snd (c8 _ _)))) = pm, Prod.fst (Prod.snd (Prod.snd (Prod.snd (Prod.snd (c8 _ _))))) = cd, Prod.fst (Prod.snd (Prod.snd (Prod.snd (Prod.snd (Prod.snd (c8 _ _)))))) = doc, Prod.fst (Prod.snd (Prod.snd (Prod.snd (Prod.snd (Prod.snd (Prod.snd (c8 _ _))))))) = ns, Prod.snd (Prod.snd (Prod.snd (Prod.snd (Prod.snd (Prod.snd (Prod.snd (c8 _ _))))))) = sl
  refine all8 inferInstance ?_
  generalize Prod.fst (c8 _ _) = vs, Prod.fst (Prod.snd (c8 _ _)) = o5, Prod.fst (Prod.snd (Prod.snd (c8 _ _))) = o4, Prod.fst (Prod.snd (Prod.snd (Prod.snd (c8 _ _)))) = o3, Prod.fst (Prod.snd (Prod.snd (Prod.snd (Prod.snd (c8 _ _))))) = o2, Prod.fst (Prod.snd (Prod.snd (Prod.snd (Prod.snd (Prod.snd (c8 _ _)))))) = o1, Prod.fst (Prod.snd (Prod.snd (Prod.snd (Prod.snd (Prod.snd (Prod.snd (c8 _ _))))))) = D9, Prod.snd (Prod.snd (Prod.snd (Prod.snd (Prod.snd (Prod.snd (Prod.snd (c8 _ _))))))) = d0
  refine all8 inferInstance ?_
  generalize Prod.fst (c8 _ _) = d1, Prod.fst (Prod.snd (c8 _ _)) = d2, Prod.fst (Prod.snd (Prod.snd (c8 _ _))) = d3, Prod.fst (Prod.snd (Prod.snd (Prod.snd (c8 _ _)))) = d4, Prod.fst (Prod.snd (Prod.snd (Prod.snd (Prod.snd (c8 _ _))))) = t0, Prod.fst (Prod.snd (Prod.snd (Prod.snd (Prod.snd (Prod.snd (c8 _ _)))))) = t1, Prod.fst (Prod.snd (Prod.snd (Prod.snd (Prod.snd (Prod.snd (Prod.snd (c8 _ _))))))) = t2, Prod.snd (Prod.snd (Prod.snd (Prod.snd (Prod.snd (Prod.snd (Prod.snd (c8 _ _))))))) = t3
  refine all8 inferInstance ?_
  generalize Prod.fst (c8 _ _) = t4, Prod.fst (Prod.snd (c8 _ _)) = oDr, Prod.fst (Prod.snd (Prod.snd (c8 _ _))) = D1, Prod.fst (Prod.snd (Prod.snd (Prod.snd (c8 _ _)))) = D2, Prod.fst (Prod.snd (Prod.snd (Prod.snd (Prod.snd (c8 _ _))))) = D3, Prod.fst (Prod.snd (Prod.snd (Prod.snd (Prod.snd (Prod.snd (c8 _ _)))))) = lf, Prod.fst (Prod.snd (Prod.snd (Prod.snd (Prod.snd (Prod.snd (Prod.snd (c8 _ _))))))) = yC73, Prod.snd (Prod.snd (Prod.snd (Prod.snd (Prod.snd (Prod.snd (Prod.snd (c8 _ _))))))) = t9
  refine all8 inferInstance ?_
  generalize Prod.fst (c8 _ _) = x, Prod.fst (Prod.snd (c8 _ _)) = dx, Prod.fst (Prod.snd (Prod.snd (c8 _ _))) = pb, Prod.fst (Prod.snd (Prod.snd (Prod.snd (c8 _ _)))) = al, Prod.fst (Prod.snd (Prod.snd (Prod.snd (Prod.snd (c8 _ _))))) = st, Prod.fst (Prod.snd (Prod.snd (Prod.snd (Prod.snd (Prod.snd (c8 _ _)))))) = Dm, Prod.fst (Prod.snd (Prod.snd (Prod.snd (Prod.snd (Prod.snd (Prod.snd (c8 _ _))))))) = rd, Prod.snd (Prod.snd (Prod.snd (Prod.snd (Prod.snd (Prod.snd (Prod.snd (c8 _ _))))))) = c
  refine all8 inferInstance ?_
  generalize Prod.fst (c8 _ _) = ca, Prod.fst (Prod.snd (c8 _ _)) = ct, Prod.fst (Prod.snd (Prod.snd (c8 _ _))) = i1, Prod.fst (Prod.snd (Prod.snd (Prod.snd (c8 _ _)))) = i2, Prod.fst (Prod.snd (Prod.snd (Prod.snd (Prod.snd (c8 _ _))))) = i3, Prod.fst (Prod.snd (Prod.snd (Prod.snd (Prod.snd (Prod.snd (c8 _ _)))))) = i4, Prod.fst (Prod.snd (Prod.snd (Prod.snd (Prod.snd (Prod.snd (Prod.snd (c8 _ _))))))) = i5, Prod.snd (Prod.snd (Prod.snd (Prod.snd (Prod.snd (Prod.snd (Prod.snd (c8 _ _))))))) = k1
  refine all8 inferInstance ?_
  generalize Prod.fst (c8 _ _) = k2, Prod.fst (Prod.snd (c8 _ _)) = k3, Prod.fst (Prod.snd (Prod.snd (c8 _ _))) = k4, Prod.fst (Prod.snd (Prod.snd (Prod.snd (c8 _ _)))) = k5, Prod.fst (Prod.snd (Prod.snd (Prod.snd (Prod.snd (c8 _ _))))) = kw, Prod.fst (Prod.snd (Prod.snd (Prod.snd (Prod.snd (Prod.snd (c8 _ _)))))) = fds, Prod.fst (Prod.snd (Prod.snd (Prod.snd (Prod.snd (Prod.snd (Prod.snd (c8 _ _))))))) = fd, Prod.snd (Prod.snd (Prod.snd (Prod.snd (Prod.snd (Prod.snd (Prod.snd (c8 _ _))))))) = cO
  refine all8 inferInstance ?_
  generalize Prod.fst (c8 _ _) = oa, Prod.fst (Prod.snd (c8 _ _)) = ot, Prod.fst (Prod.snd (Prod.snd (c8 _ _))) = ps84, Prod.fst (Prod.snd (Prod.snd (Prod.snd (c8 _ _)))) = a, Prod.fst (Prod.snd (Prod.snd (Prod.snd (Prod.snd (c8 _ _))))) = nn, Prod.fst (Prod.snd (Prod.snd (Prod.snd (Prod.snd (Prod.snd (c8 _ _)))))) = k, Prod.fst (Prod.snd (Prod.snd (Prod.snd (Prod.snd (Prod.snd (Prod.snd (c8 _ _))))))) = kl', Prod.snd (Prod.snd (Prod.snd (Prod.snd (Prod.snd (Prod.snd (Prod.snd (c8 _ _))))))) = q
  refine all8 inferInstance ?_
  generalize Prod.fst (c8 _ _) = t, Prod.fst (Prod.snd (c8 _ _)) = as, Prod.fst (Prod.snd (Prod.snd (c8 _ _))) = v, Prod.fst (Prod.snd (Prod.snd (Prod.snd (c8 _ _)))) = R, Prod.fst (Prod.snd (Prod.snd (Prod.snd (Prod.snd (c8 _ _))))) = oL, Prod.fst (Prod.snd (Prod.snd (Prod.snd (Prod.snd (Prod.snd (c8 _ _)))))) = ta, Prod.fst (Prod.snd (Prod.snd (Prod.snd (Prod.snd (Prod.snd (Prod.snd (c8 _ _))))))) = S, Prod.snd (Prod.snd (Prod.snd (Prod.snd (Prod.snd (Prod.snd (Prod.snd (c8 _ _))))))) = sv
  refine all8 inferInstance ?_
  generalize Prod.fst (c8 _ _) = sn, Prod.fst (Prod.snd (c8 _ _)) = tu, Prod.fst (Prod.snd (Prod.snd (c8 _ _))) = Q', Prod.fst (Prod.snd (Prod.snd (Prod.snd (c8 _ _)))) = yG128, Prod.fst (Prod.snd (Prod.snd (Prod.snd (Prod.snd (c8 _ _))))) = tk, Prod.fst (Prod.snd (Prod.snd (Prod.snd (Prod.snd (Prod.snd (c8 _ _)))))) = yG132, Prod.fst (Prod.snd (Prod.snd (Prod.snd (Prod.snd (Prod.snd (Prod.snd (c8 _ _))))))) = yG134, Prod.snd (Prod.snd (Prod.snd (Prod.snd (Prod.snd (Prod.snd (Prod.snd (c8 _ _))))))) = yG135
  refine all8 inferInstance ?_
  generalize Prod.fst (c8 _ _) = yG136, Prod.fst (Prod.snd (c8 _ _)) = ys, Prod.fst (Prod.snd (Prod.snd (c8 _ _))) = sD, Prod.fst (Prod.snd (Prod.snd (Prod.snd (c8 _ _)))) = tD1, Prod.fst (Prod.snd (Prod.snd (Prod.snd (Prod.snd (c8 _ _))))) = hS1, Prod.fst (Prod.snd (Prod.snd (Prod.snd (Prod.snd (Prod.snd (c8 _ _)))))) = oS, Prod.fst (Prod.snd (Prod.snd (Prod.snd (Prod.snd (Prod.snd (Prod.snd (c8 _ _))))))) = hR, Prod.snd (Prod.snd (Prod.snd (Prod.snd (Prod.snd (Prod.snd (Prod.snd (c8 _ _))))))) = tR
  intro tR1 uR vR gR
  intros
  rename_i hg hI X T' K lifted codeHd l0 hns e1 e2 e3 e4 e5 o9 db eDr yC76 a0 a1 b0 b1 c0 c1 hds hv hRem' Mt hDr2 hoDr2 h84r eL hsv n45 n4p n5p mL mta mS ma mdx mal mR off hL3 yG137 yG140 hsg u4 oD FS NS eS rngR FR NR keepR
  unfold StopP
  generalize hB : (sD, LCg.lst ys) :: (s₁.heap.objs.size + 1 + 1 + 1 + 1, oS) :: (s₁.heap.objs.size + 1 + 1 + 1 + 1 + 1, o5) :: (pb, W.listOf #[] k) :: Q' = base at *
  have bD : (sD, LCg.lst ys) ∈ base := by subst hB; k_mem
  have bS : (s₁.heap.objs.size + 1 + 1 + 1 + 1, oS) ∈ base := by subst hB; k_mem
  have b5 : (s₁.heap.objs.size + 1 + 1 + 1 + 1 + 1, o5) ∈ base := by subst hB; k_mem
  have bp : (pb, W.listOf #[] k) ∈ base := by subst hB; k_mem
  have bQ : ∀ p ∈ Q', p ∈ base := by subst hB; intro p hp; k_mem
  refine rest_inv (fun i ys' nw => ∃ mo as', nw = mo ++ base ∧ Lights mo ((l8 (mt v)).take i) as' ∧ ys' = as'.map Value.ref) ⟨[], [], rfl, .nil, rfl⟩ ?_ ?_
  · intro i hi ys' nw hJ kv I oI C oC D m₂ h tk E' hkv hC hvx F9 N9 off9
    revert hJ
    refine exI ?_
    intro mo
    refine exI ?_
    intro as'
    intro hx9
    obtain ⟨hnw, hJ, hys⟩ := hx9
    subst hnw hys
    revert hkv
    refine exI ?_
    intro tv
    intro hkv
    subst hkv
    have hi' : i < 8 := hi
    have hn : (i + 1) % 8 < 8 := Nat.mod_lt _ (by decide)
    refine exI ?_ (lights8 hL3 hi' (k := 0 + (i : Int)) (by omega))
    intro p1
    refine exI ?_
    intro r1
    refine exI ?_
    intro r2
    refine exI ?_
    intro r3
    intro hx9
    obtain ⟨g1, m1⟩ := hx9
    refine exI ?_ (lights8 hL3 hn (fmod8 hi'))
    intro p2
    refine exI ?_
    intro r4
    refine exI ?_
    intro r5
    refine exI ?_
    intro r6
    intro hx9
    obtain ⟨g2, m2⟩ := hx9
    have z1 := fmod8_0 (0 + (i : Int) + 1)
    have z2 := fmod8_1 (0 + (i : Int) + 1)
    have g9 : ∃ ts, ys[(0 + (i : Int)).toNat]? = some (Value.int (sg v i) ts) := by
      rw [show (0 + (i : Int)).toNat = i by omega]; exact ints_at hsg (l8_at _ i hi')
    revert g9
    refine exI ?_
    intro ts g3
    have q1 : (p1, tupO [.int (v i).1 r1, .int (v i).2.1 r2, .int (v i).2.2 r3]) ∈ mo ++ base := List.mem_append_right _ (bQ _ m1)
    have q2 : (p2, tupO [.int (v ((i + 1) % 8)).1 r4, .int (v ((i + 1) % 8)).2.1 r5, .int (v ((i + 1) % 8)).2.2 r6]) ∈ mo ++ base := List.mem_append_right _ (bQ _ m2)
    have q3 : (s₁.heap.objs.size + 1 + 1 + 1, oL) ∈ mo ++ base := List.mem_append_right _ (bQ _ mL)
    have q4 : (s₁.heap.objs.size + 1 + 1 + 1 + 1, oS) ∈ mo ++ base := List.mem_append_right _ bS
    have q5 : (sD, LCg.lst ys) ∈ mo ++ base := List.mem_append_right _ bD
    have q6 : (a, ({ cls := .type "list", data := .seq (as.map Value.ref).toArray nn } : Obj)) ∈ mo ++ base := List.mem_append_right _ (bQ _ ma)
    generalize hW : mo ++ base = W9 at *
    k_steps
    unfold StopP
    k_dflt (refine' Con.use ?k1_J ?k2_J ?k3_J ?k4_J ?k5_J (con_mixed _ p1 p2 (v i).1 (v i).2.1 (v i).2.2 (v ((i + 1) % 8)).1 (v ((i + 1) % 8)).2.1 (v ((i + 1) % 8)).2.2 _ _ r1 r2 r3 r4 r5 r6 _ _ ?m1_J ?m2_J (hv.rg i hi') (hv.rg _ hn) ?m3_J (hv.pm i hi')) ?k6_J ?k7_J ?k8_J ?_; (case k1_J => k_asm); (case k2_J => k_asm); (case k3_J => k_asm); (case k4_J => k_asm); (case k5_J => k_asm); (case m1_J => k_mem); (case m2_J => k_mem); (case m3_J => (have z9 := hv.pm i hi'; omega)); (case k6_J => first | exact rfl | assumption); (case k7_J => (show 1 + claimMargin + 1 + _ < recursionLimit; decide +kernel)); (case k8_J => (show 4 + 3 + _ < cLine; decide +kernel)); intro r9 news9 h9 tk9 F9 N9 hp9; obtain ⟨pn, w1, w2, w3, M, e9, f9, l9, hM⟩ := hp9; subst e9 f9 hM; (try dsimp only); (try k_fold))
    k_steps
    unfold StopP
    subst hW
    refine LCg.CompEnd.intro F9 N9 ((pn, tupO [.int (mt v i).1 w1, .int (mt v i).2.1 w2, .int (mt v i).2.2 w3]) :: (mo ++ base)) ?_ ?_ trivial ⟨(pn, tupO [.int (mt v i).1 w1, .int (mt v i).2.1 w2, .int (mt v i).2.2 w3]) :: mo, as' ++ [pn], rfl, ?_, ?_⟩
    · intro p hp
      rcases List.mem_cons.mp hp with rfl | hp
      · exact List.mem_cons_of_mem _ List.mem_cons_self
      rcases List.mem_cons.mp hp with rfl | hp
      · exact List.mem_cons_of_mem _ (List.mem_cons_of_mem _ List.mem_cons_self)
      rcases List.mem_cons.mp hp with rfl | hp
      · exact List.mem_cons_of_mem _ (List.mem_cons_of_mem _ (List.mem_cons_of_mem _ List.mem_cons_self))
      rcases List.mem_cons.mp hp with rfl | hp
      · exact List.mem_cons_self
      exact List.mem_cons_of_mem _ (List.mem_cons_of_mem _ (List.mem_cons_of_mem _ (List.mem_cons_of_mem _ hp)))
    · exact ⟨⟨Nat.ne_of_gt (l9 _ List.mem_cons_self), Nat.ne_of_gt (l9 _ (List.mem_cons_of_mem _ List.mem_cons_self)), Nat.ne_of_gt (l9 _ (List.mem_cons_of_mem _ (List.mem_cons_of_mem _ List.mem_cons_self)))⟩, off9⟩
    · rw [l8_take _ hi']
      exact Lights.snoc ⟨w1, w2, w3, List.mem_cons_self⟩ (hv.mrg i hi').1 (hJ.mono (fun p hp => List.mem_cons_of_mem _ hp))
    · rw [List.map_append]; rfl
  · intro ys' nw hJ
    revert hJ
    refine exI ?_
    intro mo
    refine exI ?_
    intro as'
    intro hx9
    obtain ⟨hnw, hJ, hys⟩ := hx9
    subst hnw hys
    have hLm : Lights mo (l8 (mt v)) as' := hJ
    clear hJ
    revert hg hI X T' K lifted codeHd l0 hns e1 e2 e3 e4 e5 o9 db eDr yC76 a0 a1 b0 b1 c0 c1 hds hv hRem' Mt hDr2 hoDr2 h84r eL hsv n45 n4p n5p mL mta mS ma mdx mal mR off hL3 yG137 yG140 hsg u4 oD FS eS rngR FR keepR hB NS NR bD bS b5 bp bQ hLm
    intros
    rename_i hg hI X T' K lifted codeHd l0 hns e1 e2 e3 e4 e5 o9 db eDr yC76 a0 a1 b0 b1 c0 c1 hds hv hRem' Mt hDr2 hoDr2 h84r eL hsv n45 n4p n5p mL mta mS ma mdx mal mR off hL3 yG137 yG140 hsg u4 oD FS eS rngR FR keepR hB NS NR bD bS b5 bp bQ hLm
    have hsz : (as'.map Value.ref).toArray.size ≤ sizeLine := by rw [List.size_toArray, List.length_map, hLm.len]; show 8 ≤ sizeLine; decide +kernel
    generalize hW : mo ++ base = W0 at *
    k_steps
    rename_i mD hD2 tD2 FD ND oM gD
    revert hg hI X T' K lifted codeHd l0 hns e1 e2 e3 e4 e5 o9 db eDr yC76 a0 a1 b0 b1 c0 c1 hds hv hRem' Mt hDr2 hoDr2 h84r eL hsv n45 n4p n5p mL mta mS ma mdx mal mR off hL3 yG137 yG140 hsg u4 oD FS eS rngR FR keepR hB NS NR bD bS b5 bp bQ hLm hsz hW FD ND oM
    intros
    rename_i hg hI X T' K lifted codeHd l0 hns e1 e2 e3 e4 e5 o9 db eDr yC76 a0 a1 b0 b1 c0 c1 hds hv hRem' Mt hDr2 hoDr2 h84r eL hsv n45 n4p n5p mL mta mS ma mdx mal mR off hL3 yG137 yG140 hsg u4 oD FS eS rngR FR keepR hB NS NR bD bS b5 bp bQ hLm hsz hW FD ND oM
    unfold StopP
    refine rest_inv (fun i ys' nw => nw = (mD, LCg.lst (as'.map Value.ref)) :: W0 ∧ Words wordL ((l8 (mt v)).take i) ys') ⟨rfl, .nil⟩ ?_ ?_
    · intro i hi ys' nw hJ kv I oI C oC D m₂ h tk E' hkv hC hvx F9 N9 off9
      obtain ⟨hnw, hJ⟩ := hJ
      subst hnw
      have hi' : i < 8 := by rw [List.size_toArray, List.length_map, hLm.len] at hi; exact hi
      refine exI ?_ (hLm.at (i := i) hi')
      intro lv
      refine exI ?_
      intro p1 hx9
      obtain ⟨e1, e2, m9, _⟩ := hx9
      rw [l8_at _ i hi'] at e1
      cases e1
      revert m9
      refine exI ?_
      intro r1
      refine exI ?_
      intro r2
      refine exI ?_
      intro r3 m1
      obtain rfl : kv = .ref p1 := by simpa [e2] using hkv.symm
      have q1 : (p1, tupO [.int (mt v i).1 r1, .int (mt v i).2.1 r2, .int (mt v i).2.2 r3]) ∈ W0 := by subst hW; exact List.mem_append_left _ m1
      k_steps
      unfold StopP
      k_dflt (refine' Con.use ?k1_L ?k2_L ?k3_L ?k4_L ?k5_L (con_word _ p1 (mt v i).1 (mt v i).2.1 (mt v i).2.2 r1 r2 r3 ?m1_L (hv.mrg i hi').1 (hv.mrg i hi').2) ?k6_L ?k7_L ?k8_L ?_; (case k1_L => k_asm); (case k2_L => k_asm); (case k3_L => k_asm); (case k4_L => k_asm); (case k5_L => k_asm); (case m1_L => k_mem); (case k6_L => first | exact rfl | assumption); (case k7_L => (show 1 + claimMargin + 1 + _ < recursionLimit; decide +kernel)); (case k8_L => (show 4 + 3 + _ < cLine; decide +kernel)); intro r9 news9 h9 tk9 F9 N9 hp9; obtain ⟨e9, f9⟩ := hp9; obtain ⟨u9, e9⟩ := e9; subst e9 f9; (try dsimp only); (try k_fold))
      k_steps
      unfold StopP
      refine LCg.CompEnd.intro F9 N9 _ (fun p hp => hp) off9 (Or.inr ⟨_, List.mem_cons_self, rfl, _, rfl⟩) ⟨rfl, ?_⟩
      rw [l8_take _ hi']
      exact hJ.snoc
    · intro ys' nw hJ
      obtain ⟨hnw, hJ⟩ := hJ
      subst hnw
      have hWd : Words wordL (l8 (mt v)) ys' := by
        have h9 := hJ
        rw [List.size_toArray, List.length_map, hLm.len, List.take_length] at h9
        exact h9
      clear hJ
      revert hg hI X T' K lifted codeHd l0 hns e1 e2 e3 e4 e5 o9 db eDr yC76 a0 a1 b0 b1 c0 c1 hds hv hRem' Mt hDr2 hoDr2 h84r eL hsv n45 n4p n5p mL mta mS ma mdx mal mR off hL3 yG137 yG140 hsg u4 oD FS eS rngR FR keepR hB NS NR bD bS b5 bp bQ hLm hsz hW FD ND oM hWd
      intros
      rename_i hg hI X T' K lifted codeHd l0 hns e1 e2 e3 e4 e5 o9 db eDr yC76 a0 a1 b0 b1 c0 c1 hds hv hRem' Mt hDr2 hoDr2 h84r eL hsv n45 n4p n5p mL mta mS ma mdx mal mR off hL3 yG137 yG140 hsg u4 oD FS eS rngR FR keepR hB NS NR bD bS b5 bp bQ hLm hsz hW FD ND oM hWd
      k_steps
      unfold StopP
      rename_i wD hW3 tW3 FW NW oW
      have bW : ∀ p ∈ base, p ∈ W0 := fun p hp => hW ▸ List.mem_append_right _ hp
      have oW0 := off1_of oW.2
      have oQ := off1_of oD.2.2.2
      have hpbr : ∀ p ∈ ((wD, LCg.lst ys') :: (s₁.heap.objs.size + 1 + 1 + 1 + 1 + 1, o5) :: (s₁.heap.objs.size + 1 + 1 + 1 + 1, oS) :: (sD, LCg.lst ys) :: Q' : List (Addr × Obj)), @Ne Nat p.1 pb := by
        simp only [List.forall_mem_cons]
        refine ⟨Ne.symm (oW0 _ (bW _ bp)), Ne.symm n5p, Ne.symm n4p, Ne.symm oD.2.2.1, fun p hp => (off p hp).2.2⟩
      have N2 := cb_drop (news := (pb, W.listOf #[] k) :: (wD, LCg.lst ys') :: (s₁.heap.objs.size + 1 + 1 + 1 + 1 + 1, o5) :: (s₁.heap.objs.size + 1 + 1 + 1 + 1, oS) :: (sD, LCg.lst ys) :: Q') NW (by
        simp only [List.forall_mem_cons]
        exact ⟨List.mem_cons_of_mem _ (List.mem_cons_of_mem _ (bW _ bp)), List.mem_cons_self, List.mem_cons_of_mem _ (List.mem_cons_of_mem _ (bW _ b5)), List.mem_cons_of_mem _ (List.mem_cons_of_mem _ (bW _ bS)), List.mem_cons_of_mem _ (List.mem_cons_of_mem _ (bW _ bD)), fun p hp => List.mem_cons_of_mem _ (List.mem_cons_of_mem _ (bW _ (bQ _ hp)))⟩)
      k_dflt (refine' Con.use K FW X N2 T' (con_sent _ x dx pb st wD i1 i2 i3 i4 k1 k2 k3 k4 kl' kw (lnS (d0.fmod 3) (d2.fmod 3) 3) k ys'.length (l8 (mt v)) ys' hWd (l8_all fun k hk => (hv.mrg k hk).1) rfl ?m1_M ?m2_M hpbr ?m3_M) rfl ?k7_M ?k8_M ?_; (case m1_M => exact List.mem_cons_of_mem _ (List.mem_cons_of_mem _ (List.mem_cons_of_mem _ (List.mem_cons_of_mem _ (mR _ Mt.hx))))); (case m2_M => exact List.mem_cons_of_mem _ (List.mem_cons_of_mem _ (List.mem_cons_of_mem _ (List.mem_cons_of_mem _ mdx)))); (case m3_M => exact List.mem_cons_self); (case k7_M => (show 1 + claimMargin + 1 + _ < recursionLimit; decide +kernel)); (case k8_M => (show 4 + 3 + _ < cLine; decide +kernel)))
      intro r9 news9 h9s tk9s F9 N9 hp9
      revert hp9
      refine exI ?_
      intro mA
      refine exI ?_
      intro nn2
      refine exI ?_
      intro kp2
      refine exI ?_
      intro mo2
      refine exI ?_
      intro as2
      intro hx9
      obtain ⟨hr9, hnw, hm2pb, hm2, hmA, hLM⟩ := hx9
      subst hr9 hnw
      have N10 := cb_drop (news := (s₁.heap.objs.size + 1 + 1 + 1 + 1 + 1, o5) :: (mA, ({ cls := .type "list", data := .seq (as2.map Value.ref).toArray nn2 } : Obj)) :: (pb, W.listOf #[] kp2) :: (mo2 ++ ((s₁.heap.objs.size + 1 + 1 + 1 + 1, oS) :: (sD, LCg.lst ys) :: Q'))) N9 (by
        intro p hp
        rcases List.mem_cons.mp hp with rfl | hp
        · exact List.mem_cons_of_mem _ (List.mem_cons_of_mem _ (List.mem_append_right _ (List.mem_cons_of_mem _ List.mem_cons_self)))
        rcases List.mem_cons.mp hp with rfl | hp
        · exact List.mem_cons_self
        rcases List.mem_cons.mp hp with rfl | hp
        · exact List.mem_cons_of_mem _ List.mem_cons_self
        refine List.mem_cons_of_mem _ (List.mem_cons_of_mem _ ?_)
        rcases List.mem_append.mp hp with hp | hp
        · exact List.mem_append_left _ hp
        · exact List.mem_append_right _ (List.mem_cons_of_mem _ (List.mem_cons_of_mem _ hp)))
      have hoffZ : ∀ p ∈ ((mA, ({ cls := .type "list", data := .seq (as2.map Value.ref).toArray nn2 } : Obj)) :: (pb, W.listOf #[] kp2) :: (mo2 ++ ((s₁.heap.objs.size + 1 + 1 + 1 + 1, oS) :: (sD, LCg.lst ys) :: Q')) : List (Addr × Obj)), @Ne Nat p.1 (s₁.heap.objs.size + 1 + 1 + 1 + 1 + 1) := by
        intro p hp
        rcases List.mem_cons.mp hp with rfl | hp
        · exact Ne.symm (hmA _ (List.mem_cons_of_mem _ (List.mem_append_right _ (List.mem_cons_of_mem _ List.mem_cons_self))))
        rcases List.mem_cons.mp hp with rfl | hp
        · exact n5p
        rcases List.mem_append.mp hp with hp | hp
        · exact hm2 p hp _ (List.mem_cons_of_mem _ List.mem_cons_self)
        rcases List.mem_cons.mp hp with rfl | hp
        · exact Ne.symm n45
        rcases List.mem_cons.mp hp with rfl | hp
        · exact Ne.symm oD.2.1
        exact (off p hp).2.1
      have zA : (mA, ({ cls := .type "list", data := .seq (as2.map Value.ref).toArray nn2 } : Obj)) ∈ ((mA, ({ cls := .type "list", data := .seq (as2.map Value.ref).toArray nn2 } : Obj)) :: (pb, W.listOf #[] kp2) :: (mo2 ++ ((s₁.heap.objs.size + 1 + 1 + 1 + 1, oS) :: (sD, LCg.lst ys) :: Q')) : List (Addr × Obj)) := List.mem_cons_self
      have zp : (pb, W.listOf #[] kp2) ∈ ((mA, ({ cls := .type "list", data := .seq (as2.map Value.ref).toArray nn2 } : Obj)) :: (pb, W.listOf #[] kp2) :: (mo2 ++ ((s₁.heap.objs.size + 1 + 1 + 1 + 1, oS) :: (sD, LCg.lst ys) :: Q')) : List (Addr × Obj)) := List.mem_cons_of_mem _ List.mem_cons_self
      have zS : (s₁.heap.objs.size + 1 + 1 + 1 + 1, oS) ∈ ((mA, ({ cls := .type "list", data := .seq (as2.map Value.ref).toArray nn2 } : Obj)) :: (pb, W.listOf #[] kp2) :: (mo2 ++ ((s₁.heap.objs.size + 1 + 1 + 1 + 1, oS) :: (sD, LCg.lst ys) :: Q')) : List (Addr × Obj)) := List.mem_cons_of_mem _ (List.mem_cons_of_mem _ (List.mem_append_right _ List.mem_cons_self))
      have zD : (sD, LCg.lst ys) ∈ ((mA, ({ cls := .type "list", data := .seq (as2.map Value.ref).toArray nn2 } : Obj)) :: (pb, W.listOf #[] kp2) :: (mo2 ++ ((s₁.heap.objs.size + 1 + 1 + 1 + 1, oS) :: (sD, LCg.lst ys) :: Q')) : List (Addr × Obj)) := List.mem_cons_of_mem _ (List.mem_cons_of_mem _ (List.mem_append_right _ (List.mem_cons_of_mem _ List.mem_cons_self)))
      have zQ : ∀ p ∈ Q', p ∈ ((mA, ({ cls := .type "list", data := .seq (as2.map Value.ref).toArray nn2 } : Obj)) :: (pb, W.listOf #[] kp2) :: (mo2 ++ ((s₁.heap.objs.size + 1 + 1 + 1 + 1, oS) :: (sD, LCg.lst ys) :: Q')) : List (Addr × Obj)) := fun p hp => List.mem_cons_of_mem _ (List.mem_cons_of_mem _ (List.mem_append_right _ (List.mem_cons_of_mem _ (List.mem_cons_of_mem _ hp))))
      have zL : Lights ((mA, ({ cls := .type "list", data := .seq (as2.map Value.ref).toArray nn2 } : Obj)) :: (pb, W.listOf #[] kp2) :: (mo2 ++ ((s₁.heap.objs.size + 1 + 1 + 1 + 1, oS) :: (sD, LCg.lst ys) :: Q')) : List (Addr × Obj)) (l8 (mt v)) as2 := hLM.mono (fun p hp => List.mem_cons_of_mem _ (List.mem_cons_of_mem _ (List.mem_append_left _ hp)))
      have hL4 := hL3.mono zQ
      have zc := zQ _ mL
      have zta := zQ _ mta
      have zS2 := zQ _ mS
      have za := zQ _ ma
      have zdx := zQ _ mdx
      have zal := zQ _ mal
      have zR : ∀ p ∈ R, p ∈ _ := fun p hp => zQ p (mR p hp)
      have u5 := UpdF.head (o := o5) hoffZ
      clear N9 hmA hm2 hm2pb hLM N2 hpbr oW0 oQ bW FW NW oW hW bQ bp b5 bS bD hB hLm hWd mL mta mS ma mdx mal mR off hL3 oD hoffZ zQ
      generalize ((mA, ({ cls := .type "list", data := .seq (as2.map Value.ref).toArray nn2 } : Obj)) :: (pb, W.listOf #[] kp2) :: (mo2 ++ ((s₁.heap.objs.size + 1 + 1 + 1 + 1, oS) :: (sD, LCg.lst ys) :: Q')) : List (Addr × Obj)) = Z at *
      k_steps
      rename_i hM5 oM5 FM5 NM5 eM5 hs1 ts1 us1 Fs1 Ns1 hR2 tR2 tR3 uR2 vR2 rngR2 FR2 NR2 keepR2 gR2
      revert hg hI X T' K lifted codeHd l0 hns e1 e2 e3 e4 e5 o9 db eDr yC76 a0 a1 b0 b1 c0 c1 hds hv hRem' Mt hDr2 hoDr2 h84r eL hsv n45 n4p n5p yG137 yG140 hsg u4 eS rngR keepR hsz oM zA zp zS zD zL hL4 zc zta zS2 za zdx zal zR u5 FM5 NM5 eM5 Fs1 Ns1 rngR2 FR2 NR2 keepR2
      intros
      rename_i hg hI X T' K lifted codeHd l0 hns e1 e2 e3 e4 e5 o9 db eDr yC76 a0 a1 b0 b1 c0 c1 hds hv hRem' Mt hDr2 hoDr2 h84r eL hsv n45 n4p n5p yG137 yG140 hsg u4 eS rngR keepR hsz oM zA zp zS zD zL hL4 zc zta zS2 za zdx zal zR u5 FM5 NM5 eM5 Fs1 Ns1 rngR2 FR2 NR2 keepR2
      unfold StopP
      have hal : (as2.map Value.ref).length = 8 := by rw [List.length_map, zL.len]; rfl
      refine rest_inv (fun i ys' nw => nw = (s₁.heap.objs.size + 1 + 1 + 1 + 1 + 1, oM5) :: Z ∧ IntsAre ys' ((l8 (cr v)).take i)) ⟨rfl, .nil⟩ ?_ ?_
      · intro i hi ys' nw hJ kv I oI C oC D m₂ h tk E' hkv hC hvx F9 N9 off9
        obtain ⟨hnw, hJ⟩ := hJ
        subst hnw
        revert hkv
        refine exI ?_
        intro tv
        intro hkv
        subst hkv
        have hi' : i < 8 := hi
        have hn : back i < 8 := back_lt hi'
        refine exI ?_ (lights8 zL hi' (k := 0 + (i : Int)) (by omega))
        intro p1
        refine exI ?_
        intro r1
        refine exI ?_
        intro r2
        refine exI ?_
        intro r3
        intro hx9
        obtain ⟨g1, m1⟩ := hx9
        by_cases h0 : i = 0
        · refine exI ?_ (lights8 zL hn (k := 0 + (i : Int) - 1 + ((as2.map Value.ref).length : Int)) (by rw [hal, h0]; rfl))
          intro p2
          refine exI ?_
          intro r4
          refine exI ?_
          intro r5
          refine exI ?_
          intro r6
          intro hx9
          obtain ⟨g2, m2⟩ := hx9
          have z1 : -(((as2.map Value.ref).length : Nat) : Int) ≤ 0 + (i : Int) - 1 := by rw [hal]; omega
          k_steps
          unfold StopP
          k_dflt (refine' Con.use ?k1_O ?k2_O ?k3_O ?k4_O ?k5_O (con_cross _ p2 p1 (mt v (back i)) (mt v i) ⟨r4, r5, r6, ?m1_O⟩ ⟨r1, r2, r3, ?m2_O⟩ (hv.mrg _ hn).1 (hv.mrg i hi').1 (hv.finM i hi')) ?k6_O ?k7_O ?k8_O ?_; (case k1_O => k_asm); (case k2_O => k_asm); (case k3_O => k_asm); (case k4_O => k_asm); (case k5_O => k_asm); (case m1_O => k_mem); (case m2_O => k_mem); (case k6_O => first | exact rfl | assumption); (case k7_O => (show 1 + claimMargin + 1 + _ < recursionLimit; decide +kernel)); (case k8_O => (show 4 + 3 + _ < cLine; decide +kernel)); intro r9 news9 h9 tk9 F9 N9 hp9; obtain ⟨e9, f9⟩ := hp9; obtain ⟨u9, e9⟩ := e9; subst e9 f9; (try dsimp only); (try k_fold))
          k_steps
          unfold StopP
          exact LCg.CompEnd.intro F9 N9 _ (fun p hp => hp) off9 trivial ⟨rfl, by rw [l8_take _ hi']; exact IntsAre.append hJ (.cons _ _ .nil)⟩
        · refine exI ?_ (lights8 zL hn (k := 0 + (i : Int) - 1) (by unfold back; rw [if_neg h0]; omega))
          intro p2
          refine exI ?_
          intro r4
          refine exI ?_
          intro r5
          refine exI ?_
          intro r6
          intro hx9
          obtain ⟨g2, m2⟩ := hx9
          k_steps
          unfold StopP
          k_dflt (refine' Con.use ?k1_O ?k2_O ?k3_O ?k4_O ?k5_O (con_cross _ p2 p1 (mt v (back i)) (mt v i) ⟨r4, r5, r6, ?m1_O⟩ ⟨r1, r2, r3, ?m2_O⟩ (hv.mrg _ hn).1 (hv.mrg i hi').1 (hv.finM i hi')) ?k6_O ?k7_O ?k8_O ?_; (case k1_O => k_asm); (case k2_O => k_asm); (case k3_O => k_asm); (case k4_O => k_asm); (case k5_O => k_asm); (case m1_O => k_mem); (case m2_O => k_mem); (case k6_O => first | exact rfl | assumption); (case k7_O => (show 1 + claimMargin + 1 + _ < recursionLimit; decide +kernel)); (case k8_O => (show 4 + 3 + _ < cLine; decide +kernel)); intro r9 news9 h9 tk9 F9 N9 hp9; obtain ⟨e9, f9⟩ := hp9; obtain ⟨u9, e9⟩ := e9; subst e9 f9; (try dsimp only); (try k_fold))
          k_steps
          unfold StopP
          exact LCg.CompEnd.intro F9 N9 _ (fun p hp => hp) off9 trivial ⟨rfl, by rw [l8_take _ hi']; exact IntsAre.append hJ (.cons _ _ .nil)⟩
      · intro ys' nw hJ
        obtain ⟨hnw, hJ⟩ := hJ
        subst hnw
        have hcr : IntsAre ys' (l8 (cr v)) := hJ
        clear hJ
        revert hg hI X T' K lifted codeHd l0 hns e1 e2 e3 e4 e5 o9 db eDr yC76 a0 a1 b0 b1 c0 c1 hds hv hRem' Mt hDr2 hoDr2 h84r eL hsv n45 n4p n5p yG137 yG140 hsg u4 eS rngR keepR hsz oM zA zp zS zD zL hL4 zc zta zS2 za zdx zal zR u5 FM5 NM5 eM5 Fs1 Ns1 rngR2 FR2 NR2 keepR2 hal hcr
        intros
        rename_i hg hI X T' K lifted codeHd l0 hns e1 e2 e3 e4 e5 o9 db eDr yC76 a0 a1 b0 b1 c0 c1 hds hv hRem' Mt hDr2 hoDr2 h84r eL hsv n45 n4p n5p yG137 yG140 hsg u4 eS rngR keepR hsz oM zA zp zS zD zL hL4 zc zta zS2 za zdx zal zR u5 FM5 NM5 eM5 Fs1 Ns1 rngR2 FR2 NR2 keepR2 hal hcr
        k_steps
        rename_i yP80 cD _ _ oC6 _ tk7 _ h8 F8 N8
        revert hg hI X T' K lifted codeHd l0 hns e1 e2 e3 e4 e5 o9 db eDr yC76 a0 a1 b0 b1 c0 c1 hds hv hRem' Mt hDr2 hoDr2 h84r eL hsv n45 n4p n5p yG137 yG140 hsg u4 eS rngR keepR hsz oM zA zp zS zD zL hL4 zc zta zS2 za zdx zal zR u5 eM5 rngR2 keepR2 hal hcr oC6 F8 N8
        intros
        rename_i hg hI X T' K lifted codeHd l0 hns e1 e2 e3 e4 e5 o9 db eDr yC76 a0 a1 b0 b1 c0 c1 hds hv hRem' Mt hDr2 hoDr2 h84r eL hsv n45 n4p n5p yG137 yG140 hsg u4 eS rngR keepR hsz oM zA zp zS zD zL hL4 zc zta zS2 za zdx zal zR u5 eM5 rngR2 keepR2 hal hcr oC6 F8 N8
        unfold StopP
        have bD : (sD, LCg.lst ys) ∈ (cD, LCg.lst ys') :: (s₁.heap.objs.size + 1 + 1 + 1 + 1 + 1, oM5) :: Z := by k_mem
        have bS : (S, ({ cls := .type "list", data := .seq sv.toArray sn } : Obj)) ∈ (cD, LCg.lst ys') :: (s₁.heap.objs.size + 1 + 1 + 1 + 1 + 1, oM5) :: Z := by k_mem
        refine eq_intsK (News.isList N8 bD) hsg (News.isList N8 bS) hsv (show 4 + 3 + _ < cLine by decide +kernel) ?_
        rw [show decide (l8 (sg v) = (toldS [d0, d1, d2, d3, d4] 5).1) = true from decide_eq_true hv.hs.symm]
        have hwT := hv.wayT
        have hwMT := hv.wayMT
        have h12 := hv.twelve
        generalize (toldS [d0, d1, d2, d3, d4] 5).2 = T at *
        k_steps
        unfold StopP
        k_dflt (refine' Con.use ?k1_Q ?k2_Q ?k3_Q ?k4_Q ?k5_Q (con_turns _ a nn (l8 v) as rfl ?m1_Q ?m2_Q hv.way) ?k6_Q ?k7_Q ?k8_Q ?_; (case k1_Q => k_asm); (case k2_Q => k_asm); (case k3_Q => k_asm); (case k4_Q => k_asm); (case k5_Q => k_asm); (case m1_Q => k_mem); (case m2_Q => exact hL4.mono (fun p hp => by k_mem)); (case k6_Q => first | exact rfl | assumption); (case k7_Q => (show 1 + claimMargin + 1 + _ < recursionLimit; decide +kernel)); (case k8_Q => (show 4 + 3 + _ < cLine; decide +kernel)); intro r9 news9 h9 tk9 F9 N9 hp9; obtain ⟨e9, f9⟩ := hp9; obtain ⟨u9, e9⟩ := e9; rw [hwT] at e9; subst e9 f9; (try dsimp only); (try k_fold))
        k_steps
        unfold StopP
        refine eq_eq rfl ?_
        k_steps
        revert hg hI X T' K lifted codeHd l0 hns e1 e2 e3 e4 e5 o9 db eDr yC76 a0 a1 b0 b1 c0 c1 hds hv hRem' Mt hDr2 hoDr2 h84r eL hsv n45 n4p n5p yG137 yG140 hsg u4 eS rngR keepR hsz oM zA zp zS zD zL hL4 zc zS2 za zdx zal zR u5 eM5 rngR2 keepR2 hal hcr oC6 F8 N8 bD bS zta hwT hwMT h12 F9 N9
        intros
        rename_i hg hI X T' K lifted codeHd l0 hns e1 e2 e3 e4 e5 o9 db eDr yC76 a0 a1 b0 b1 c0 c1 hds hv hRem' Mt hDr2 hoDr2 h84r eL hsv n45 n4p n5p yG137 yG140 hsg u4 eS rngR keepR hsz oM zA zp zS zD zL hL4 zc zS2 za zdx zal zR u5 eM5 rngR2 keepR2 hal hcr oC6 F8 N8 bD bS zta hwT hwMT h12 F9 N9
        unfold StopP
        k_dflt (refine' Con.use ?k1_R ?k2_R ?k3_R ?k4_R ?k5_R (con_turns _ mA nn2 (l8 (mt v)) as2 rfl ?m1_R ?m2_R hv.wayM) ?k6_R ?k7_R ?k8_R ?_; (case k1_R => k_asm); (case k2_R => k_asm); (case k3_R => k_asm); (case k4_R => k_asm); (case k5_R => k_asm); (case m1_R => k_mem); (case m2_R => exact zL.mono (fun p hp => by k_mem)); (case k6_R => first | exact rfl | assumption); (case k7_R => (show 1 + claimMargin + 1 + _ < recursionLimit; decide +kernel)); (case k8_R => (show 4 + 3 + _ < cLine; decide +kernel)); intro r9 news9 h9 tk9 F9 N9 hp9; obtain ⟨e9, f9⟩ := hp9; obtain ⟨u9, e9⟩ := e9; rw [hwMT] at e9; subst e9 f9; (try dsimp only); (try k_fold))
        have zx := zR _ Mt.hx
        k_steps
        unfold StopP
        refine eq_eq rfl ?_
        k_steps
        unfold StopP
        refine eq_eq h12 ?_
        k_steps
        rename_i yR114 _ yR188 yR189
        revert hg hI X T' K lifted codeHd l0 hns e1 e2 e3 e4 e5 o9 db eDr yC76 a0 a1 b0 b1 c0 c1 hds hv hRem' Mt hDr2 hoDr2 h84r eL hsv n45 n4p n5p yG137 yG140 hsg u4 eS rngR keepR hsz oM zA zp zS zD zL hL4 zc zS2 za zdx zal zR u5 eM5 rngR2 keepR2 hal hcr oC6 F8 N8 bD bS zta hwT hwMT h12 yR188 yR189 F9 N9 zx
        intros
        rename_i hg hI X T' K lifted codeHd l0 hns e1 e2 e3 e4 e5 o9 db eDr yC76 a0 a1 b0 b1 c0 c1 hds hv hRem' Mt hDr2 hoDr2 h84r eL hsv n45 n4p n5p yG137 yG140 hsg u4 eS rngR keepR hsz oM zA zp zS zD zL hL4 zc zS2 za zdx zal zR u5 eM5 rngR2 keepR2 hal hcr oC6 F8 N8 bD bS zta hwT hwMT h12 yR188 yR189 F9 N9 zx
        rename News _ _ _ _ => N'
        rename Fr _ _ _ _ => F'
        unfold StopP
        have N2 := cb_drop (news := (pb, W.listOf #[] kp2) :: (dx, Mine.mD i1 i2 i3 i4 k1 k2 k3 k4 kw st pb (lnS (d0.fmod 3) (d2.fmod 3) 3) kl') :: (al, W.listOf #[.int q t] 0) :: R) N' (by
          simp only [List.forall_mem_cons]
          exact ⟨by k_mem, by k_mem, by k_mem, fun p hp => List.mem_cons_of_mem _ (List.mem_cons_of_mem _ (zR p hp))⟩)
        have X9 := Mt.lx (W.listOf #[] kp2)
        have hll : (lead (d4.fmod 3)).length < 60 := Nat.lt_of_le_of_lt (lead_len _) (by decide)
        k_dflt (refine' Con.use K F' X N2 T' (ConC.con (con_tok X9 kp2 (fun _ _ _ _ => List.mem_cons_self) (lnS (d0.fmod 3) (d2.fmod 3) 3) kl' q t (lead (d4.fmod 3)) [] [] (lead (d4.fmod 3)).length tok_last hRem' hll)) rfl ?k7_S ?k8_S ?_; (case k7_S => (show 1 + claimMargin + 1 + _ < recursionLimit; decide +kernel)); (case k8_S => (show 4 + 3 + _ < cLine; decide +kernel)))
        intro r9 news9 h9 tk9 F9 N9 hp9
        revert hp9
        refine exI ?_
        intro u9
        refine exI ?_
        intro kl9
        refine exI ?_
        intro pos9
        refine exI ?_
        intro tp9
        intro hx9
        obtain ⟨e9, f9, R9⟩ := hx9
        subst e9 f9
        rw [show (⟨([] : List Nat).toArray⟩ : Str) = Str.ofString "" from rfl]
        have zx2 := Mt.hx
        k_steps
        unfold StopP
        refine eq_eq (count_eq a0 a1 b0 b1 c0 c1) ?_
        rename_i yS115 _
        revert hg hI X T' K lifted codeHd l0 hns e1 e2 e3 e4 e5 o9 db eDr yC76 a0 a1 b0 b1 c0 c1 hds hv hRem' Mt hDr2 hoDr2 h84r eL hsv n45 n4p n5p yG137 yG140 hsg u4 eS rngR keepR hsz oM zA zp zS zD zL hL4 zc zS2 za zdx zal zR u5 eM5 rngR2 keepR2 hal hcr oC6 F8 N8 bD bS zta hwT hwMT h12 yR188 yR189 F' N' zx N2 X9 hll F9 R9 N9 zx2
        intros
        rename_i hg hI X T' K lifted codeHd l0 hns e1 e2 e3 e4 e5 o9 db eDr yC76 a0 a1 b0 b1 c0 c1 hds hv hRem' Mt hDr2 hoDr2 h84r eL hsv n45 n4p n5p yG137 yG140 hsg u4 eS rngR keepR hsz oM zA zp zS zD zL hL4 zc zS2 za zdx zal zR u5 eM5 rngR2 keepR2 hal hcr oC6 F8 N8 bD bS zta hwT hwMT h12 yR188 yR189 F' N' zx N2 X9 hll F9 R9 N9 zx2
        have h85 : GrownAll [(88, 84)] h9 := ⟨GrownAt.of N9 (List.mem_cons_of_mem _ (List.mem_cons_of_mem _ (List.mem_cons_of_mem _ h84r))), True.intro⟩
        refine ⟨?_, h85⟩
        refine goodW_bool F9 hg (raisesW_false ?_) ?_
        · wrow_none_raised
        · wrow_post
end Mine
end
end
end
end
theorem PySem.Challenge.cw_sn0009_01_holds : PySem.Challenge.rw_sn0009_01.Holds := by
  exact Mine.stA.2 ⟨Mine.stYa.2 ⟨Mine.stYb⟩⟩
