import PyProof.Rows.All
import Wide.All
import OpenK.AllK
import Wide.FinOn
import PySem.Challenge.RW_fc0057_01
set_option Elab.async false

section
open PySem PySem.W PyProof.Rows
namespace Mine
set_option maxRecDepth 100000 in
set_option maxHeartbeats 8000000 in
open_top hd for PySem.Challenge.rw_fc0057_01
end Mine
end

section
open PySem PySem.W PyProof.Rows
namespace Mine

/-- what a call of one of the text's defs, which keeps all that stands, gives back -/
abbrev Claim (prog : Program) (w : World) (K : Frag) (p : Program) (loose : List Str) (mean : ExcName → Option Value) (mg mb : Str → Option Value) (f : Addr) (D : Nat) (news : List (Addr × Obj)) (vs : List Value) (R : Value → Prop) : Prop :=
  ∀ (dp un : Nat) (gd : Option (List Code)) (cn : Str) (cs : Scope) (a : Addr) (ccd : Value) (cl : List (Str × Addr)) (outer : List Env) (A₀ : Around) (base h₀ : Heap) (L : Addr) (m : Str → Option Value) (s : Shared) (Q E : Value → Shared → Prop),
    Below A₀ base outer h₀ → Fr h₀ L s.heap m → K.In h₀ → News h₀ L s.heap news → Top p loose mean mg mb h₀ → cs.kind = .function →
    dp + D < recursionLimit → un + 8 * D < cLine →
    (∀ (v : Value) (h' : Heap) (tk' : Nat), R v → Fr h₀ L h' m → News h₀ L h' news → Q v { s with heap := h', toks := tk' }) →
      wpAny (model prog w) (ktrTop dp un gd cn cs L a ccd cl outer) (call (.ref f) vs) Q E s

theorem Claim.use {prog : Program} {w : World} {K : Frag} {p : Program} {loose : List Str} {mean : ExcName → Option Value} {mg mb : Str → Option Value} {f : Addr} {D : Nat} {news : List (Addr × Obj)} {vs : List Value} {R : Value → Prop}
    {dp un : Nat} {gd : Option (List Code)} {cn : Str} {cs : Scope} {a : Addr} {ccd : Value} {cl : List (Str × Addr)} {outer : List Env} {A₀ : Around} {base h₀ : Heap} {L : Addr} {m : Str → Option Value} {s : Shared} {Q E : Value → Shared → Prop}
    (C : Claim prog w K p loose mean mg mb f D news vs R)
    (B : Below A₀ base outer h₀) (F : Fr h₀ L s.heap m) (X : K.In h₀) (N : News h₀ L s.heap news) (T : Top p loose mean mg mb h₀) (hk : cs.kind = .function) (hd : dp + D < recursionLimit) (hu : un + 8 * D < cLine)
    (hret : ∀ (v : Value) (h' : Heap) (tk' : Nat), R v → Fr h₀ L h' m → News h₀ L h' news → Q v { s with heap := h', toks := tk' }) :
    wpAny (model prog w) (ktrTop dp un gd cn cs L a ccd cl outer) (call (.ref f) vs) Q E s :=
  C _ _ _ _ _ _ _ _ _ _ _ _ _ _ _ _ _ B F X N T hk hd hu hret

/-- the bits that a corner's number has at the most -/
abbrev Sm (x : Int) : Prop := Builtin.Int.intBits x ≤ 1100000

/-- a node's own dict -/
abbrev nodeObj (hs : Nat → Int) (ks : Nat → Tok) (vi vp : Value) (x y : Int) (tx ty : Tok) (pv nx vz v8 v9 vs : Value) : Obj :=
  dictOf [⟨hs 0, .str (Str.ofString "i") (ks 0), vi⟩, ⟨hs 1, .str (Str.ofString "point") (ks 1), vp⟩,
    ⟨hs 2, .str (Str.ofString "x") (ks 2), .int x tx⟩, ⟨hs 3, .str (Str.ofString "y") (ks 3), .int y ty⟩,
    ⟨hs 4, .str (Str.ofString "prev") (ks 4), pv⟩, ⟨hs 5, .str (Str.ofString "next") (ks 5), nx⟩,
    ⟨hs 6, .str (Str.ofString "z") (ks 6), vz⟩, ⟨hs 7, .str (Str.ofString "prev_z") (ks 7), v8⟩,
    ⟨hs 8, .str (Str.ofString "next_z") (ks 8), v9⟩, ⟨hs 9, .str (Str.ofString "steiner") (ks 9), vs⟩] 10

/-- a node of the ledger: its place, its neighbours -/
def IsNode (news : List (Addr × Obj)) (v : Addr) (x y : Int) (pv nx : Value) : Prop :=
  (∃ d hs ks vi vp tx ty vz v8 v9 vs, (v, instObj 59 d) ∈ news ∧ (d, nodeObj hs ks vi vp x y tx ty pv nx vz v8 v9 vs) ∈ news) ∧ Sm x ∧ Sm y
theorem IsNode.mono {news news' : List (Addr × Obj)} {v : Addr} {x y : Int} {pv nx : Value} (h : IsNode news v x y pv nx) (k : ∀ p ∈ news, p ∈ news') : IsNode news' v x y pv nx := by
  obtain ⟨⟨d, hs, ks, vi, vp, tx, ty, vz, v8, v9, vs, h1, h2⟩, b1, b2⟩ := h
  exact ⟨⟨d, hs, ks, vi, vp, tx, ty, vz, v8, v9, vs, k _ h1, k _ h2⟩, b1, b2⟩

def signP (x : Int) : Int := if x < 0 then -1 else if 0 < x then 1 else 0
/-- area(p, q, r) -/
def areaP (px py qx qy rx ry : Int) : Int := (qy - py) * (rx - qx) - (qx - px) * (ry - qy)
def onSegP (px py qx qy rx ry : Int) : Bool := decide (qx ≤ max px rx ∧ min px rx ≤ qx ∧ qy ≤ max py ry ∧ min py ry ≤ qy)
def interP (px py qx qy rx ry sx sy : Int) : Bool :=
  let o1 := signP (areaP px py qx qy rx ry)
  let o2 := signP (areaP px py qx qy sx sy)
  let o3 := signP (areaP rx ry sx sy px py)
  let o4 := signP (areaP rx ry sx sy qx qy)
  decide (o1 ≠ o2 ∧ o3 ≠ o4) || (decide (o1 = 0) && onSegP px py rx ry qx qy) || (decide (o2 = 0) && onSegP px py sx sy qx qy) ||
    (decide (o3 = 0) && onSegP rx ry px py sx sy) || (decide (o4 = 0) && onSegP rx ry qx qy sx sy)
/-- locally_inside(a, b) by the places of a, b, a.prev, a.next -/
def localP (ax ay bx by' px py nx ny : Int) : Bool :=
  if areaP px py ax ay nx ny < 0 then decide (areaP ax ay bx by' nx ny ≥ 0 ∧ areaP ax ay px py bx by' ≥ 0)
  else decide (areaP ax ay bx by' px py < 0 ∨ areaP ax ay nx ny bx by' < 0)

/-- a pair of ints of the ledger, each of B bits at the most -/
def IsPt (B : Nat) (news : List (Addr × Obj)) (a : Addr) (x y : Int) : Prop :=
  (∃ tx ty n, (a, ({ cls := .type "tuple", data := .seq #[.int x tx, .int y ty] n } : Obj)) ∈ news) ∧ Builtin.Int.intBits x ≤ B ∧ Builtin.Int.intBits y ≤ B
theorem IsPt.mono {B : Nat} {news news' : List (Addr × Obj)} {a : Addr} {x y : Int} (h : IsPt B news a x y) (k : ∀ p ∈ news, p ∈ news') : IsPt B news' a x y := by
  obtain ⟨⟨tx, ty, n, h1⟩, b⟩ := h
  exact ⟨⟨tx, ty, n, k _ h1⟩, b⟩
theorem IsPt.up {B B' : Nat} {news : List (Addr × Obj)} {a : Addr} {x y : Int} (h : IsPt B news a x y) (k : B ≤ B') : IsPt B' news a x y :=
  ⟨h.1, Nat.le_trans h.2.1 k, Nat.le_trans h.2.2 k⟩

/-- _law_twice -/
def twiceP (ax ay bx yb cx cy : Int) : Int := (bx - ax) * (cy - ay) - (yb - ay) * (cx - ax)
/-- _law_apart -/
def apartP (r u ax ay bx yb cx cy dx dy : Int) : Bool :=
  decide (max (r * ax + u * ay) (r * bx + u * yb) < min (r * cx + u * cy) (r * dx + u * dy) ∨
    max (r * cx + u * cy) (r * dx + u * dy) < min (r * ax + u * ay) (r * bx + u * yb))
/-- _law_meet -/
def meetP (ax ay bx yb cx cy dx dy : Int) : Bool :=
  !(apartP (-(yb - ay)) (bx - ax) ax ay bx yb cx cy dx dy || apartP (-(dy - cy)) (dx - cx) ax ay bx yb cx cy dx dy ||
    apartP (bx - ax) (yb - ay) ax ay bx yb cx cy dx dy || apartP (dx - cx) (dy - cy) ax ay bx yb cx cy dx dy)

/-- the four lines of _law_meet, in their order -/
def apj (ax ay bx yb cx cy dx dy : Int) (j : Nat) : Bool :=
  match j with
  | 0 => apartP (-(yb - ay)) (bx - ax) ax ay bx yb cx cy dx dy
  | 1 => apartP (-(dy - cy)) (dx - cx) ax ay bx yb cx cy dx dy
  | 2 => apartP (bx - ax) (yb - ay) ax ay bx yb cx cy dx dy
  | _ => apartP (dx - cx) (dy - cy) ax ay bx yb cx cy dx dy
theorem meetP_t {ax ay bx yb cx cy dx dy : Int} (h : ∀ j < 4, apj ax ay bx yb cx cy dx dy j = false) : meetP ax ay bx yb cx cy dx dy = true := by
  have h0 := h 0 (by omega)
  have h1 := h 1 (by omega)
  have h2 := h 2 (by omega)
  have h3 := h 3 (by omega)
  simp only [apj] at h0 h1 h2 h3
  simp [meetP, h0, h1, h2, h3]
theorem meetP_f {ax ay bx yb cx cy dx dy : Int} {j : Nat} (hj : j < 4) (h : apj ax ay bx yb cx cy dx dy j = true) : meetP ax ay bx yb cx cy dx dy = false := by
  have : j = 0 ∨ j = 1 ∨ j = 2 ∨ j = 3 := by omega
  rcases this with rfl | rfl | rfl | rfl <;> (simp only [apj] at h; simp [meetP, h])
theorem upto_succ {p : Nat → Prop} {i : Nat} (h : ∀ j < i, p j) (hi : p i) : ∀ j < i + 1, p j := fun j hj => by
  rcases Nat.lt_succ_iff_lt_or_eq.mp hj with h1 | h1
  · exact h j h1
  · exact h1 ▸ hi

theorem dec0 : Float64.decode 0 = .fin false 0 (-1074) := by
  with_unfolding_all rfl
theorem cmp0 (n : Int) : Float64.cmpInt 0 n = some (compare 0 (n * 2 ^ 1074)) := by
  unfold Float64.cmpInt
  rw [dec0]
  rfl
theorem mulpow (n p : Int) (hp : 0 < p) : (n * p < 0 ↔ n < 0) ∧ (0 < n * p ↔ 0 < n) := by
  have hp' : 0 ≤ p := by omega
  constructor
  · constructor
    · intro h
      by_cases h1 : n < 0
      · exact h1
      · have := Int.mul_nonneg (show 0 ≤ n by omega) hp'; omega
    · intro h; exact Int.mul_neg_of_neg_of_pos h hp
  · constructor
    · intro h
      by_cases h1 : 0 < n
      · exact h1
      · have := Int.mul_nonneg (show 0 ≤ -n by omega) hp'
        rw [Int.neg_mul] at this; omega
    · intro h; exact Int.mul_pos h hp
theorem cmp0_gt (n : Int) : (Float64.cmpInt 0 n == some Ordering.gt) = decide (n < 0) := by
  rw [cmp0]
  have h := (mulpow n (2 ^ 1074) (Int.pow_pos (by decide))).1
  generalize n * 2 ^ 1074 = k at h
  rw [Bool.eq_iff_iff]
  simp only [beq_iff_eq, Option.some.injEq, decide_eq_true_eq]
  rw [Int.compare_eq_gt]; exact h
theorem cmp0_lt (n : Int) : (Float64.cmpInt 0 n == some Ordering.lt) = decide (0 < n) := by
  rw [cmp0]
  have h := (mulpow n (2 ^ 1074) (Int.pow_pos (by decide))).2
  generalize n * 2 ^ 1074 = k at h
  rw [Bool.eq_iff_iff]
  simp only [beq_iff_eq, Option.some.injEq, decide_eq_true_eq]
  rw [Int.compare_eq_lt]; exact h
theorem signP_lt {n : Int} (h : (Float64.cmpInt 0 n == some Ordering.gt) = true) : n < 0 := by rw [cmp0_gt] at h; simpa using h
theorem signP_nlt {n : Int} (h : (Float64.cmpInt 0 n == some Ordering.gt) = false) : ¬ n < 0 := by rw [cmp0_gt] at h; simpa using h
theorem signP_gt {n : Int} (h : (Float64.cmpInt 0 n == some Ordering.lt) = true) : 0 < n := by rw [cmp0_lt] at h; simpa using h
theorem signP_ngt {n : Int} (h : (Float64.cmpInt 0 n == some Ordering.lt) = false) : ¬ 0 < n := by rw [cmp0_lt] at h; simpa using h

section
variable {px py qx qy rx ry sx sy : Int}
theorem interP_t1 (h1 : signP (areaP px py qx qy rx ry) ≠ signP (areaP px py qx qy sx sy)) (h2 : signP (areaP rx ry sx sy px py) ≠ signP (areaP rx ry sx sy qx qy)) : true = interP px py qx qy rx ry sx sy := by
  simp only [interP, decide_eq_true (And.intro h1 h2), Bool.true_or]
theorem interP_t2 (h1 : signP (areaP px py qx qy rx ry) = 0) (h2 : onSegP px py rx ry qx qy = true) : true = interP px py qx qy rx ry sx sy := by
  simp only [interP, decide_eq_true h1, h2, Bool.true_or, Bool.or_true, Bool.and_true]
theorem interP_t3 (h1 : signP (areaP px py qx qy sx sy) = 0) (h2 : onSegP px py sx sy qx qy = true) : true = interP px py qx qy rx ry sx sy := by
  simp only [interP, decide_eq_true h1, h2, Bool.true_or, Bool.or_true, Bool.and_true]
theorem interP_t4 (h1 : signP (areaP rx ry sx sy px py) = 0) (h2 : onSegP rx ry px py sx sy = true) : true = interP px py qx qy rx ry sx sy := by
  simp only [interP, decide_eq_true h1, h2, Bool.true_or, Bool.or_true, Bool.and_true]
theorem interP_t5 (h1 : signP (areaP rx ry sx sy qx qy) = 0) (h2 : onSegP rx ry qx qy sx sy = true) : true = interP px py qx qy rx ry sx sy := by
  simp only [interP, decide_eq_true h1, h2, Bool.or_true, Bool.and_true]
theorem interP_f (h0 : signP (areaP px py qx qy rx ry) = signP (areaP px py qx qy sx sy) ∨ signP (areaP rx ry sx sy px py) = signP (areaP rx ry sx sy qx qy))
    (h1 : signP (areaP px py qx qy rx ry) ≠ 0 ∨ onSegP px py rx ry qx qy = false) (h2 : signP (areaP px py qx qy sx sy) ≠ 0 ∨ onSegP px py sx sy qx qy = false)
    (h3 : signP (areaP rx ry sx sy px py) ≠ 0 ∨ onSegP rx ry px py sx sy = false) (h4 : signP (areaP rx ry sx sy qx qy) ≠ 0 ∨ onSegP rx ry qx qy sx sy = false) :
    false = interP px py qx qy rx ry sx sy := by
  have h0' : ¬ (signP (areaP px py qx qy rx ry) ≠ signP (areaP px py qx qy sx sy) ∧ signP (areaP rx ry sx sy px py) ≠ signP (areaP rx ry sx sy qx qy)) := fun h => h0.elim h.1 h.2
  have k (x : Int) (b : Bool) (h : x ≠ 0 ∨ b = false) : (decide (x = 0) && b) = false := by
    rcases h with h | h
    · rw [decide_eq_false h]; rfl
    · rw [h, Bool.and_false]
  simp only [interP, decide_eq_false h0', k _ _ h1, k _ _ h2, k _ _ h3, k _ _ h4, Bool.or_false]
end

end Mine
end

section
open PySem PySem.W PyProof.Rows PySem.Calls PyProof.V PySem.Spec
namespace Mine
section
variable {prog : Program} {w : World} {A : Around} {E : Value → Shared → Prop} {s : Shared} {env : Env} {h₀ : Heap} {x : Str} {body : List Stmt} {Q : Flow → Shared → Prop} {target : PySem.Expr}

/-- an iterator of a loop -/
def IterO (o : Obj) : Prop := o.cls = .type "range_iterator" ∨ o.cls = .type "list_iterator" ∨ o.cls = .type "tuple_iterator"
/-- a loop over a range by an invariant; the ledger may grow and change -/
theorem range_inv {r : Addr} {a₀ b₀ : Int} {t₀ u₀ v₀ : Tok} {n : Nat} {m₀ : Str → Option Value} {news : List (Addr × Obj)} (J : Nat → (Str → Option Value) → List (Addr × Obj) → Prop)
    (hh : A.handled = none) (hr : IsRange s.heap r a₀ b₀ 1 t₀ u₀ v₀) (hsm : Builtin.Range.small a₀ b₀ 1 = true) (hn : Builtin.Range.rangeSize a₀ b₀ 1 = (n : Int)) (F : Fr h₀ env.locals s.heap m₀) (N : News h₀ env.locals s.heap news) (hj : J 0 m₀ news)
    (turn : ∀ i t m₁ nx h tk own, i < n → TbOff own nx → (∀ p ∈ own, IterO p.2) → J i m₁ nx → Fr h₀ env.locals h (fun y => if y = x then some (.int (a₀ + (i : Int)) t) else m₁ y) → News h₀ env.locals h (nx ++ own) →
      wpAny (model prog w) A (execs body env) (TbPost h₀ env.locals (J (i + 1)) own { s with heap := h, toks := tk } Q) E { s with heap := h, toks := tk })
    (done : ∀ m₁ nx h tk, J n m₁ nx → Fr h₀ env.locals h m₁ → News h₀ env.locals h nx → Q .next { s with heap := h, toks := tk }) :
    wpAny (model prog w) A (pyIter (.ref r)) (fun it s₂ => LoopAtV prog w A h₀ env x body Q E it s₂) E s := by
  refine wpAny_pyIter_range hr hsm ?_
  have W := LCg.range_walks (prog := prog) (w := w) (A := A) (I := s.heap.objs.size) hh a₀ n
  refine ⟨_, _, _, n, _, _, m₀, news, J, rfl, W, ?_, ?_, ?_, (by show IsRangeIter _ _ _ _ _; rw [hn]; simpa using Heap.get?_push_size _ rfl), F.push _, (fun p hp => ⟨Heap.get?_push_of_some _ (N p hp).1, (N p hp).2⟩), hj, ?_, ?_⟩
  · intro hm
    exact absurd F.ns.lt ((List.mem_singleton.mp hm) ▸ Nat.lt_irrefl _)
  · intro b hb
    rw [List.mem_singleton.mp hb]
    exact next_is_new F
  · intro p hp hI
    exact absurd (Heap.lt_size (N p hp).1) ((List.mem_singleton.mp hI) ▸ Nat.lt_irrefl _)
  · rintro i v m₁ news₁ s₁ own ⟨hh', tk', rfl⟩ hin ⟨t, rfl⟩ hJ hoff hown hget hmem hst F₁ N₁
    have hI : ∃ o, (s.heap.objs.size, o) ∈ own := ⟨_, hmem _ (List.mem_singleton.mpr rfl) (next_is_new F) _ hst⟩
    have hsep : TbOff own news₁ := by
      intro p hp q hq e
      exact hoff q hq (List.mem_singleton.mpr (by rw [← e]; exact List.mem_singleton.mp (hown p hp)))
    have N₂ : News h₀ env.locals hh' (news₁ ++ own) := fun p hp => N₁ p ((List.mem_append.mp hp).elim (fun h => List.mem_append.mpr (.inr h)) fun h => List.mem_append.mpr (.inl h))
    have hit : ∀ p ∈ own, IterO p.2 := by
      intro p hp
      have e1 : hh'.get? p.1 = some p.2 := hget p hp
      rw [List.mem_singleton.mp (hown p hp), show hh'.get? s.heap.objs.size = some _ from hst] at e1
      rw [← Option.some.inj e1]
      exact .inl rfl
    refine wpAny_mono (turn i t m₁ news₁ hh' tk' own hin hsep hit hJ F₁ N₂) (fun f s₂ p => ?_) fun _ _ e => e
    have fin : TbEnd h₀ env.locals (J (i + 1)) own { s with heap := hh', toks := tk' } s₂ → LoopStepU h₀ env.locals [s.heap.objs.size] own (J (i + 1)) { s with heap := hh', toks := tk' } .next s₂ := by
      rintro ⟨h', tk, m', news', nx, e, F', N', hn', ho, ha, hm⟩
      obtain ⟨o, hI⟩ := hI
      exact ⟨rfl, h', tk, m', nx, e, F', fun p hp => N' p ((List.mem_append.mp hp).elim (ho p) (hn' p)), fun p hp hq => ha _ hI p hp (List.mem_singleton.mp hq).symm, hm⟩
    cases f with
    | ret v => exact .ret p
    | brk => exact .brk p
    | next => exact .next (fin p)
    | cont => exact .cont (fin p)
  · rintro h' tk m' news' F' N' _ hJ
    exact done m' news' h' tk hJ F' N'

theorem rest_inv {I : Addr} {c : String} (hc : ∀ o : Obj, o.cls = .type c → IterO o) {keep : List (Addr × Obj)} (J : Nat → (Str → Option Value) → List (Addr × Obj) → Prop) (vs : List Value)
    (hk : ∀ i m nx, J i m nx → SubL keep nx)
    (turn : ∀ i v m₁ nx h tk own, vs[i]? = some v → TbOff own nx → (∀ p ∈ own, IterO p.2) → J i m₁ nx → Fr h₀ env.locals h m₁ → News h₀ env.locals h (nx ++ own) →
      wpAny (model prog w) A (assign target env v) (fun _ s₂ => wpAny (model prog w) A (execs body env) (TbPost h₀ env.locals (J (i + 1)) own { s with heap := h, toks := tk } Q) E s₂) E { s with heap := h, toks := tk })
    (done : ∀ m₁ nx h tk, J vs.length m₁ nx → Fr h₀ env.locals h m₁ → News h₀ env.locals h nx → Q .next { s with heap := h, toks := tk }) :
    ∀ k i m nx, i + k = vs.length → J i m nx → (∀ p ∈ nx, p.1 ≠ I) → ItemsRest prog w A E h₀ env target body Q s [(I, c)] keep ((vs.drop i).map .val) m nx := by
  intro k
  induction k with
  | zero =>
    intro i m nx hi hJ _
    rw [List.drop_eq_nil_of_le (by omega)]
    intro h tk F N
    have hi' : i = vs.length := by omega
    subst hi'
    exact done m nx h tk hJ F N
  | succ k ih =>
    intro i m nx hi hJ hoff
    have hlt : i < vs.length := by omega
    rw [List.drop_eq_getElem_cons hlt]
    intro v h tk hv F
    have hv' : v = vs[i] := hv
    subst hv'
    intro o ho N
    have N₂ : News h₀ env.locals h (nx ++ [(I, o)]) := fun p hp => N p (by
      rcases List.mem_append.mp hp with h | h
      · exact List.mem_cons_of_mem _ h
      · rw [List.mem_singleton.mp h]; exact List.mem_cons_self)
    refine wpAny_mono (turn i vs[i] m nx h tk [(I, o)] (List.getElem?_eq_getElem hlt) (fun p hp q hq e => by
      rw [List.mem_singleton.mp hp] at e; exact hoff q hq e.symm) (fun p hp => by rw [List.mem_singleton.mp hp]; exact hc o ho) hJ F N₂) (fun _ s₂ h₂ => wpAny_mono h₂ (fun f s₃ p => ?_) fun _ _ e => e) fun _ _ e => e
    have fin : TbEnd h₀ env.locals (J (i + 1)) [(I, o)] { s with heap := h, toks := tk } s₃ → UnrEndW h₀ env.locals { s with heap := h, toks := tk } [(I, o)] (fun m' n' => SubL keep n' ∧ ItemsRest prog w A E h₀ env target body Q s [(I, c)] keep ((vs.drop (i + 1)).map .val) m' n') s₃ := by
      rintro ⟨h', tk', m', news', nx', e, F', N', hn', hown, ha, hm⟩
      have hoff' : ∀ p ∈ nx', p.1 ≠ I := fun p hp e => ha (I, o) (List.mem_singleton.mpr rfl) p hp e.symm
      exact ⟨h', tk', m', nx', e, F', fun p hp => N' p ((List.mem_append.mp hp).elim (hown p) (hn' p)), fun p hp q hq => by
        rw [List.mem_singleton.mp hq]; exact hoff' p hp, hk _ _ _ hm, ih (i + 1) m' nx' (by omega) hm hoff'⟩
    cases f with
    | ret v => exact p
    | brk => exact p
    | next => exact fin p
    | cont => exact fin p

abbrev listO (vs : List Value) (n : Nat) : Obj := { cls := .type "list", data := .seq vs.toArray n }
abbrev tupO (vs : List Value) (n : Nat) : Obj := { cls := .type "tuple", data := .seq vs.toArray n }

/-- a loop over a list of the ledger -/
theorem list_inv {ax : Addr} {vs : List Value} {n : Nat} {m₀ : Str → Option Value} {news : List (Addr × Obj)} (J : Nat → (Str → Option Value) → List (Addr × Obj) → Prop)
    (hh : A.handled = none) (F : Fr h₀ env.locals s.heap m₀) (N : News h₀ env.locals s.heap news) (hm : (ax, listO vs n) ∈ news) (hk : ∀ i m nx, J i m nx → (ax, listO vs n) ∈ nx) (hj : J 0 m₀ news)
    (turn : ∀ i v m₁ nx h tk own, vs[i]? = some v → TbOff own nx → (∀ p ∈ own, IterO p.2) → J i m₁ nx → Fr h₀ env.locals h m₁ → News h₀ env.locals h (nx ++ own) →
      wpAny (model prog w) A (assign target env v) (fun _ s₂ => wpAny (model prog w) A (execs body env) (TbPost h₀ env.locals (J (i + 1)) own { s with heap := h, toks := tk } Q) E s₂) E { s with heap := h, toks := tk })
    (done : ∀ m₁ nx h tk, J vs.length m₁ nx → Fr h₀ env.locals h m₁ → News h₀ env.locals h nx → Q .next { s with heap := h, toks := tk }) :
    wpAny (model prog w) A (pyIter (.ref ax)) (fun it s₂ => TurnsAt prog w A h₀ env target body Q E it s₂) E s := by
  refine iter_listTurns hh F N hm rfl rfl fun I hI => ?_
  have := rest_inv (I := I) (c := "list_iterator") (fun o h => .inr (.inl h)) (keep := [(ax, listO vs n)]) J vs (fun i m nx h => And.intro (hk i m nx h) trivial) turn done vs.length 0 m₀ news (by omega) hj (fun p hp => Nat.ne_of_lt (hI p hp))
  rwa [List.drop_zero] at this

/-- a loop over a tuple of the ledger -/
theorem tup_inv {ax : Addr} {vs : List Value} {n : Nat} {m₀ : Str → Option Value} {news : List (Addr × Obj)} (J : Nat → (Str → Option Value) → List (Addr × Obj) → Prop)
    (hh : A.handled = none) (F : Fr h₀ env.locals s.heap m₀) (N : News h₀ env.locals s.heap news) (hm : (ax, tupO vs n) ∈ news) (hk : ∀ i m nx, J i m nx → (ax, tupO vs n) ∈ nx) (hj : J 0 m₀ news)
    (turn : ∀ i v m₁ nx h tk own, vs[i]? = some v → TbOff own nx → (∀ p ∈ own, IterO p.2) → J i m₁ nx → Fr h₀ env.locals h m₁ → News h₀ env.locals h (nx ++ own) →
      wpAny (model prog w) A (assign target env v) (fun _ s₂ => wpAny (model prog w) A (execs body env) (TbPost h₀ env.locals (J (i + 1)) own { s with heap := h, toks := tk } Q) E s₂) E { s with heap := h, toks := tk })
    (done : ∀ m₁ nx h tk, J vs.length m₁ nx → Fr h₀ env.locals h m₁ → News h₀ env.locals h nx → Q .next { s with heap := h, toks := tk }) :
    wpAny (model prog w) A (pyIter (.ref ax)) (fun it s₂ => TurnsAt prog w A h₀ env target body Q E it s₂) E s := by
  refine iter_tupTurns hh F N hm rfl rfl fun I hI => ?_
  have := rest_inv (I := I) (c := "tuple_iterator") (fun o h => .inr (.inr h)) (keep := [(ax, tupO vs n)]) J vs (fun i m nx h => And.intro (hk i m nx h) trivial) turn done vs.length 0 m₀ news (by omega) hj (fun p hp => Nat.ne_of_lt (hI p hp))
  rwa [List.drop_zero] at this


/-- the names of the frame behind some turns: fx hold what they hold, junk is forgotten, the rest stands -/
def shape (fx : List (Str × Value)) (junk : List Str) (u m₀ : Str → Option Value) : Str → Option Value := fun z =>
  match fx with
  | [] => if junk.contains z then u z else m₀ z
  | p :: r => if z = p.1 then some p.2 else shape r junk u m₀ z
theorem shape_of {fx : List (Str × Value)} {junk : List Str} {m' m₀ : Str → Option Value} (h1 : ∀ p ∈ fx, m' p.1 = some p.2) (h2 : ∀ z, (∀ p ∈ fx, z ≠ p.1) → (∀ y ∈ junk, z ≠ y) → m' z = m₀ z) :
    m' = shape fx junk m' m₀ := by
  funext z
  have key : ∀ l : List (Str × Value), (∀ p ∈ l, m' p.1 = some p.2) → ((∀ p ∈ l, z ≠ p.1) → (∀ y ∈ junk, z ≠ y) → m' z = m₀ z) → m' z = shape l junk m' m₀ z := by
    intro l
    induction l with
    | nil =>
      intro _ h
      unfold shape
      by_cases hj : junk.contains z = true
      · rw [if_pos hj]
      · rw [if_neg hj]
        exact h (fun _ q => nomatch q) fun y hy e => hj (by rw [e]; exact List.elem_eq_true_of_mem hy)
    | cons p r ih =>
      intro h1 h2
      unfold shape
      by_cases hz : z = p.1
      · rw [if_pos hz, hz]
        exact h1 p List.mem_cons_self
      · rw [if_neg hz]
        exact ih (fun q hq => h1 q (List.mem_cons_of_mem _ hq)) fun h => h2 (List.forall_mem_cons.mpr ⟨hz, h⟩)
  exact key fx h1 (h2 z)

/-- the invariant of a loop: a state of yours, the ledger, the frame's names -/
def StJ {σ : Type} (S : Nat → σ → List (Addr × Obj) → Prop) (fx : σ → List (Str × Value)) (junk : List Str) (m₀ : Str → Option Value) (i : Nat) (m : Str → Option Value) (nx : List (Addr × Obj)) : Prop :=
  ∃ st u, m = shape (fx st) junk u m₀ ∧ S i st nx
theorem StJ.intro {σ : Type} {S : Nat → σ → List (Addr × Obj) → Prop} {fx : σ → List (Str × Value)} {junk : List Str} {m₀ m : Str → Option Value} {i : Nat} {nx : List (Addr × Obj)} (st : σ)
    (h1 : ∀ p ∈ fx st, m p.1 = some p.2) (h2 : ∀ z, (∀ p ∈ fx st, z ≠ p.1) → (∀ y ∈ junk, z ≠ y) → m z = m₀ z) (h : S i st nx) : StJ S fx junk m₀ i m nx := ⟨st, m, shape_of h1 h2, h⟩

theorem tup_st {σ : Type} {ax : Addr} {vs : List Value} {n : Nat} {m₀ : Str → Option Value} {news : List (Addr × Obj)} (S : Nat → σ → List (Addr × Obj) → Prop) (fx : σ → List (Str × Value)) (junk : List Str)
    (hh : A.handled = none) (F : Fr h₀ env.locals s.heap m₀) (N : News h₀ env.locals s.heap news) (hm : (ax, tupO vs n) ∈ news) (hk : ∀ i st nx, S i st nx → (ax, tupO vs n) ∈ nx) (hj : StJ S fx junk m₀ 0 m₀ news)
    (turn : ∀ i v st u nx h tk own, vs[i]? = some v → TbOff own nx → (∀ p ∈ own, IterO p.2) → S i st nx → Fr h₀ env.locals h (shape (fx st) junk u m₀) → News h₀ env.locals h (nx ++ own) →
      wpAny (model prog w) A (assign target env v) (fun _ s₂ => wpAny (model prog w) A (execs body env) (TbPost h₀ env.locals (StJ S fx junk m₀ (i + 1)) own { s with heap := h, toks := tk } Q) E s₂) E { s with heap := h, toks := tk })
    (done : ∀ st u nx h tk, S vs.length st nx → Fr h₀ env.locals h (shape (fx st) junk u m₀) → News h₀ env.locals h nx → Q .next { s with heap := h, toks := tk }) :
    wpAny (model prog w) A (pyIter (.ref ax)) (fun it s₂ => TurnsAt prog w A h₀ env target body Q E it s₂) E s := by
  refine tup_inv (StJ S fx junk m₀) hh F N hm (fun i m nx h => ?_) hj ?_ ?_
  · obtain ⟨st, _, _, h⟩ := h
    exact hk i st nx h
  · rintro i v m₁ nx h tk own hv ho hio ⟨st, u, rfl, hS⟩ F₁ N₁
    exact turn i v st u nx h tk own hv ho hio hS F₁ N₁
  · rintro m₁ nx h tk ⟨st, u, rfl, hS⟩ F₁ N₁
    exact done st u nx h tk hS F₁ N₁
theorem list_st {σ : Type} {ax : Addr} {vs : List Value} {n : Nat} {m₀ : Str → Option Value} {news : List (Addr × Obj)} (S : Nat → σ → List (Addr × Obj) → Prop) (fx : σ → List (Str × Value)) (junk : List Str)
    (hh : A.handled = none) (F : Fr h₀ env.locals s.heap m₀) (N : News h₀ env.locals s.heap news) (hm : (ax, listO vs n) ∈ news) (hk : ∀ i st nx, S i st nx → (ax, listO vs n) ∈ nx) (hj : StJ S fx junk m₀ 0 m₀ news)
    (turn : ∀ i v st u nx h tk own, vs[i]? = some v → TbOff own nx → (∀ p ∈ own, IterO p.2) → S i st nx → Fr h₀ env.locals h (shape (fx st) junk u m₀) → News h₀ env.locals h (nx ++ own) →
      wpAny (model prog w) A (assign target env v) (fun _ s₂ => wpAny (model prog w) A (execs body env) (TbPost h₀ env.locals (StJ S fx junk m₀ (i + 1)) own { s with heap := h, toks := tk } Q) E s₂) E { s with heap := h, toks := tk })
    (done : ∀ st u nx h tk, S vs.length st nx → Fr h₀ env.locals h (shape (fx st) junk u m₀) → News h₀ env.locals h nx → Q .next { s with heap := h, toks := tk }) :
    wpAny (model prog w) A (pyIter (.ref ax)) (fun it s₂ => TurnsAt prog w A h₀ env target body Q E it s₂) E s := by
  refine list_inv (StJ S fx junk m₀) hh F N hm (fun i m nx h => ?_) hj ?_ ?_
  · obtain ⟨st, _, _, h⟩ := h
    exact hk i st nx h
  · rintro i v m₁ nx h tk own hv ho hio ⟨st, u, rfl, hS⟩ F₁ N₁
    exact turn i v st u nx h tk own hv ho hio hS F₁ N₁
  · rintro m₁ nx h tk ⟨st, u, rfl, hS⟩ F₁ N₁
    exact done st u nx h tk hS F₁ N₁
theorem range_st {σ : Type} {r : Addr} {a₀ b₀ : Int} {t₀ u₀ v₀ : Tok} {n : Nat} {m₀ : Str → Option Value} {news : List (Addr × Obj)} (S : Nat → σ → List (Addr × Obj) → Prop) (fx : σ → List (Str × Value)) (junk : List Str)
    (hh : A.handled = none) (hr : IsRange s.heap r a₀ b₀ 1 t₀ u₀ v₀) (hsm : Builtin.Range.small a₀ b₀ 1 = true) (hn : Builtin.Range.rangeSize a₀ b₀ 1 = (n : Int)) (F : Fr h₀ env.locals s.heap m₀) (N : News h₀ env.locals s.heap news) (hj : StJ S fx junk m₀ 0 m₀ news)
    (turn : ∀ i t st u nx h tk own, i < n → TbOff own nx → (∀ p ∈ own, IterO p.2) → S i st nx → Fr h₀ env.locals h (fun y => if y = x then some (.int (a₀ + (i : Int)) t) else shape (fx st) junk u m₀ y) → News h₀ env.locals h (nx ++ own) →
      wpAny (model prog w) A (execs body env) (TbPost h₀ env.locals (StJ S fx junk m₀ (i + 1)) own { s with heap := h, toks := tk } Q) E { s with heap := h, toks := tk })
    (done : ∀ st u nx h tk, S n st nx → Fr h₀ env.locals h (shape (fx st) junk u m₀) → News h₀ env.locals h nx → Q .next { s with heap := h, toks := tk }) :
    wpAny (model prog w) A (pyIter (.ref r)) (fun it s₂ => LoopAtV prog w A h₀ env x body Q E it s₂) E s := by
  refine range_inv (StJ S fx junk m₀) hh hr hsm hn F N hj ?_ ?_
  · rintro i t m₁ nx h tk own hi ho hio ⟨st, u, rfl, hS⟩ F₁ N₁
    exact turn i t st u nx h tk own hi ho hio hS F₁ N₁
  · rintro m₁ nx h tk ⟨st, u, rfl, hS⟩ F₁ N₁
    exact done st u nx h tk hS F₁ N₁


/-- loops that leave the ledger as it is -/
abbrev PuJ {σ : Type} (news : List (Addr × Obj)) (S : Nat → σ → Prop) (fx : σ → List (Str × Value)) (junk : List Str) (m₀ : Str → Option Value) : Nat → (Str → Option Value) → List (Addr × Obj) → Prop :=
  StJ (fun i st nx => nx = news ∧ S i st) fx junk m₀
theorem tup_pure {σ : Type} {ax : Addr} {vs : List Value} {n : Nat} {m₀ : Str → Option Value} {news : List (Addr × Obj)} (S : Nat → σ → Prop) (fx : σ → List (Str × Value)) (junk : List Str)
    (hh : A.handled = none) (F : Fr h₀ env.locals s.heap m₀) (N : News h₀ env.locals s.heap news) (hm : (ax, tupO vs n) ∈ news) (st₀ : σ) (h1 : ∀ p ∈ fx st₀, m₀ p.1 = some p.2) (hj : S 0 st₀)
    (turn : ∀ i v st u h tk own, vs[i]? = some v → TbOff own news → S i st → Fr h₀ env.locals h (shape (fx st) junk u m₀) → News h₀ env.locals h (news ++ own) →
      wpAny (model prog w) A (assign target env v) (fun _ s₂ => wpAny (model prog w) A (execs body env) (TbPost h₀ env.locals (PuJ news S fx junk m₀ (i + 1)) own { s with heap := h, toks := tk } Q) E s₂) E { s with heap := h, toks := tk })
    (done : ∀ st u h tk, S vs.length st → Fr h₀ env.locals h (shape (fx st) junk u m₀) → News h₀ env.locals h news → Q .next { s with heap := h, toks := tk }) :
    wpAny (model prog w) A (pyIter (.ref ax)) (fun it s₂ => TurnsAt prog w A h₀ env target body Q E it s₂) E s := by
  refine tup_st (fun i st nx => nx = news ∧ S i st) fx junk hh F N hm (fun i st nx h => h.1 ▸ hm) (.intro st₀ h1 (fun _ _ _ => rfl) ⟨rfl, hj⟩) ?_ ?_
  · rintro i v st u nx h tk own hv ho _ ⟨rfl, hS⟩ F₁ N₁
    exact turn i v st u h tk own hv ho hS F₁ N₁
  · rintro st u nx h tk ⟨rfl, hS⟩ F₁ N₁
    exact done st u h tk hS F₁ N₁
theorem list_pure {σ : Type} {ax : Addr} {vs : List Value} {n : Nat} {m₀ : Str → Option Value} {news : List (Addr × Obj)} (S : Nat → σ → Prop) (fx : σ → List (Str × Value)) (junk : List Str)
    (hh : A.handled = none) (F : Fr h₀ env.locals s.heap m₀) (N : News h₀ env.locals s.heap news) (hm : (ax, listO vs n) ∈ news) (st₀ : σ) (h1 : ∀ p ∈ fx st₀, m₀ p.1 = some p.2) (hj : S 0 st₀)
    (turn : ∀ i v st u h tk own, vs[i]? = some v → TbOff own news → S i st → Fr h₀ env.locals h (shape (fx st) junk u m₀) → News h₀ env.locals h (news ++ own) →
      wpAny (model prog w) A (assign target env v) (fun _ s₂ => wpAny (model prog w) A (execs body env) (TbPost h₀ env.locals (PuJ news S fx junk m₀ (i + 1)) own { s with heap := h, toks := tk } Q) E s₂) E { s with heap := h, toks := tk })
    (done : ∀ st u h tk, S vs.length st → Fr h₀ env.locals h (shape (fx st) junk u m₀) → News h₀ env.locals h news → Q .next { s with heap := h, toks := tk }) :
    wpAny (model prog w) A (pyIter (.ref ax)) (fun it s₂ => TurnsAt prog w A h₀ env target body Q E it s₂) E s := by
  refine list_st (fun i st nx => nx = news ∧ S i st) fx junk hh F N hm (fun i st nx h => h.1 ▸ hm) (.intro st₀ h1 (fun _ _ _ => rfl) ⟨rfl, hj⟩) ?_ ?_
  · rintro i v st u nx h tk own hv ho _ ⟨rfl, hS⟩ F₁ N₁
    exact turn i v st u h tk own hv ho hS F₁ N₁
  · rintro st u nx h tk ⟨rfl, hS⟩ F₁ N₁
    exact done st u h tk hS F₁ N₁
theorem range_pure {σ : Type} {r : Addr} {a₀ b₀ : Int} {t₀ u₀ v₀ : Tok} {n : Nat} {m₀ : Str → Option Value} {news : List (Addr × Obj)} (S : Nat → σ → Prop) (fx : σ → List (Str × Value)) (junk : List Str)
    (hh : A.handled = none) (hr : IsRange s.heap r a₀ b₀ 1 t₀ u₀ v₀) (hsm : Builtin.Range.small a₀ b₀ 1 = true) (hn : Builtin.Range.rangeSize a₀ b₀ 1 = (n : Int)) (F : Fr h₀ env.locals s.heap m₀) (N : News h₀ env.locals s.heap news) (st₀ : σ) (h1 : ∀ p ∈ fx st₀, m₀ p.1 = some p.2) (hj : S 0 st₀)
    (turn : ∀ i t st u h tk own, i < n → TbOff own news → S i st → Fr h₀ env.locals h (fun y => if y = x then some (.int (a₀ + (i : Int)) t) else shape (fx st) junk u m₀ y) → News h₀ env.locals h (news ++ own) →
      wpAny (model prog w) A (execs body env) (TbPost h₀ env.locals (PuJ news S fx junk m₀ (i + 1)) own { s with heap := h, toks := tk } Q) E { s with heap := h, toks := tk })
    (done : ∀ st u h tk, S n st → Fr h₀ env.locals h (shape (fx st) junk u m₀) → News h₀ env.locals h news → Q .next { s with heap := h, toks := tk }) :
    wpAny (model prog w) A (pyIter (.ref r)) (fun it s₂ => LoopAtV prog w A h₀ env x body Q E it s₂) E s := by
  refine range_st (fun i st nx => nx = news ∧ S i st) fx junk hh hr hsm hn F N (.intro st₀ h1 (fun _ _ _ => rfl) ⟨rfl, hj⟩) ?_ ?_
  · rintro i t st u nx h tk own hi ho _ ⟨rfl, hS⟩ F₁ N₁
    exact turn i t st u h tk own hi ho hS F₁ N₁
  · rintro st u nx h tk ⟨rfl, hS⟩ F₁ N₁
    exact done st u h tk hS F₁ N₁
theorem pure_end {σ : Type} {news : List (Addr × Obj)} {S : Nat → σ → Prop} {fx : σ → List (Str × Value)} {junk : List Str} {m₀ : Str → Option Value} {i : Nat} {L : Addr} {own news' : List (Addr × Obj)} {s₁ : Shared} {h' : Heap} {tk : Nat} {m' : Str → Option Value}
    (F : Fr h₀ L h' m') (N : News h₀ L h' news') (hn : ∀ p ∈ news ++ own, p ∈ news') (ho : TbOff own news) (st : σ)
    (h1 : ∀ p ∈ fx st, m' p.1 = some p.2) (h2 : ∀ z, (∀ p ∈ fx st, z ≠ p.1) → (∀ y ∈ junk, z ≠ y) → m' z = m₀ z) (hS : S i st) : TbEnd h₀ L (PuJ news S fx junk m₀ i) own s₁ { s₁ with heap := h', toks := tk } :=
  ⟨h', tk, m', news', news, rfl, F, N, fun p hp => hn p (List.mem_append_left _ hp), fun p hp => hn p (List.mem_append_right _ hp), ho, .intro st h1 h2 ⟨rfl, hS⟩⟩

theorem fx_nil {m : Str → Option Value} : ∀ p ∈ ([] : List (Str × Value)), m p.1 = some p.2 := fun _ h => nomatch h
theorem fx_cons {m : Str → Option Value} {k : Str} {v : Value} {l : List (Str × Value)} (h : m k = some v) (r : ∀ p ∈ l, m p.1 = some p.2) : ∀ p ∈ (k, v) :: l, m p.1 = some p.2 :=
  List.forall_mem_cons.mpr ⟨h, r⟩
/-- a goal at which the walk halts -/
def Halt (P : Prop) : Prop := P
theorem halt {P : Prop} (h : Halt P) : P := h
theorem Halt.on {P : Prop} (h : P) : Halt P := h
end
end Mine
end

section
open PySem PySem.W PyProof.Rows PySem.Calls PyProof.V PySem.Spec
namespace Mine
/-- a list of the ledger that holds n objects -/
def RefList (led : List (Addr × Obj)) (l : Addr) (C : Nat → Addr) (n : Nat) : Prop := n ≤ 1000 ∧ ∃ k, (l, listO ((List.range n).map fun i => Value.ref (C i)) k) ∈ led
theorem RefList.mono {led led' : List (Addr × Obj)} {l : Addr} {C : Nat → Addr} {n : Nat} (h : RefList led l C n) (k : ∀ p ∈ led, p ∈ led') : RefList led' l C n := by
  obtain ⟨h0, n', h⟩ := h
  exact ⟨h0, n', k _ h⟩
/-- n pairs of ints of the ledger -/
def Pts (B : Nat) (led : List (Addr × Obj)) (n : Nat) (C : Nat → Addr) (X Y : Nat → Int) : Prop := ∀ j < n, IsPt B led (C j) (X j) (Y j)
theorem Pts.mono {B : Nat} {led led' : List (Addr × Obj)} {n : Nat} {C : Nat → Addr} {X Y : Nat → Int} (h : Pts B led n C X Y) (k : ∀ p ∈ led, p ∈ led') : Pts B led' n C X Y := fun j hj => (h j hj).mono k
theorem Pts.bx {B : Nat} {led : List (Addr × Obj)} {n j : Nat} {C : Nat → Addr} {X Y : Nat → Int} (h : Pts B led n C X Y) (hj : j < n) : Builtin.Int.intBits (X j) ≤ B := (h j hj).2.1
theorem Pts.bY {B : Nat} {led : List (Addr × Obj)} {n j : Nat} {C : Nat → Addr} {X Y : Nat → Int} (h : Pts B led n C X Y) (hj : j < n) : Builtin.Int.intBits (Y j) ≤ B := (h j hj).2.2
/-- Python's place for an index -/
def ixn (n : Nat) (k : Int) : Nat := (if k < 0 then k + n else k).toNat
theorem ixn_lt {n : Nat} {k : Int} (h0 : -(n : Int) ≤ k) (h1 : k < n) : ixn n k < n := by unfold ixn; split <;> omega
theorem ixn_at (n i : Nat) : ixn n (i : Int) = i := by unfold ixn; split <;> omega
section
variable {prog : Program} {w : World} {A : Around} {E : Value → Shared → Prop} {s : Shared} {h₀ : Heap} {L : Addr} {led : List (Addr × Obj)}
theorem RefList.list {h : Heap} {l : Addr} {C : Nat → Addr} {n : Nat} (N : News h₀ L h led) (hl : RefList led l C n) : h.IsList l ((List.range n).map fun i => Value.ref (C i)).toArray := by
  obtain ⟨_, k, hm⟩ := hl
  exact ⟨_, (N _ hm).1, rfl, k, rfl⟩
theorem item_refs {value slice : PySem.Expr} {l : Addr} {C : Nat → Addr} {n : Nat} {k : Int} {u : Tok} {Q : Value → Shared → Prop} (N : News h₀ L s.heap led) (hl : RefList led l C n)
    (h0 : -(n : Int) ≤ k) (h1 : k < n) (h : ∀ j, j < n → (k < 0 → (j : Int) = k + n) → (0 ≤ k → (j : Int) = k) → Q (.ref (C j)) s)
    (hs : subscripted slice false (.ref l) (.int k u) = operate [.ref l, .int k u] (getItem (.ref l) (.int k u)) := by with_unfolding_all rfl) :
    wpAny (model prog w) A (subscriptTail value slice (.ref l) (.int k u)) Q E s := by
  have hL := hl.list N
  have hn := hl.1
  have hfit : (n : Int) < 2 ^ 62 := by omega
  by_cases hk : k < 0
  · have hj : (k + (n : Int)).toNat < n := by omega
    refine tail_any hL.typeIs slot_list_getitem.lookup (wpAny_getItem_list_neg hL hk (by simpa using h0) (by omega) (x := .ref (C (k + (n : Int)).toNat)) (by simp [hj]) (h _ hj (by omega) (by omega))) hs
  · have hj : k.toNat < n := by omega
    refine tail_any hL.typeIs slot_list_getitem.lookup (wpAny_getItem_list hL (by omega) (by omega) (x := .ref (C k.toNat)) (by simp [hj]) (h _ hj (by omega) (by omega))) hs
theorem item_ix {value slice : PySem.Expr} {l : Addr} {C : Nat → Addr} {n : Nat} {k : Int} {u : Tok} {Q : Value → Shared → Prop} (N : News h₀ L s.heap led) (hl : RefList led l C n)
    (h0 : -(n : Int) ≤ k) (h1 : k < n) (h : Q (.ref (C (ixn n k))) s)
    (hs : subscripted slice false (.ref l) (.int k u) = operate [.ref l, .int k u] (getItem (.ref l) (.int k u)) := by with_unfolding_all rfl) :
    wpAny (model prog w) A (subscriptTail value slice (.ref l) (.int k u)) Q E s := by
  refine item_refs N hl h0 h1 (fun j hj e1 e2 => ?_) hs
  rw [show j = ixn n k by unfold ixn; split <;> omega]
  exact h
theorem item_at {value slice : PySem.Expr} {l : Addr} {C : Nat → Addr} {n i : Nat} {u : Tok} {Q : Value → Shared → Prop} (N : News h₀ L s.heap led) (hl : RefList led l C n)
    (h1 : i < n) (h : Q (.ref (C i)) s)
    (hs : subscripted slice false (.ref l) (.int (i : Int) u) = operate [.ref l, .int (i : Int) u] (getItem (.ref l) (.int (i : Int) u)) := by with_unfolding_all rfl) :
    wpAny (model prog w) A (subscriptTail value slice (.ref l) (.int (i : Int) u)) Q E s := by
  refine item_refs N hl (by omega) (by omega) (fun j hj e1 e2 => ?_) hs
  rw [show j = i by omega]
  exact h
theorem len_refs {l : Addr} {C : Nat → Addr} {n : Nat} {Q : Value → Shared → Prop} (N : News h₀ L s.heap led) (hl : RefList led l C n) (h : ∀ t tk, Q (.int (n : Int) t) { s with toks := tk }) :
    wpAny (model prog w) A (call (.builtin "len") [.ref l]) Q E s := by
  have hL := hl.list N
  have hn := hl.1
  refine call_len_list hL (by simp; omega) ?_
  have e : (((List.range n).map fun i => Value.ref (C i)).toArray.size : Int) = (n : Int) := by simp
  rw [e]
  exact h _ _
theorem item_pt0 {value slice : PySem.Expr} {B : Nat} {a : Addr} {x y : Int} {u : Tok} {Q : Value → Shared → Prop} (N : News h₀ L s.heap led) (hp : IsPt B led a x y) (h : ∀ t, Q (.int x t) s)
    (hs : subscripted slice false (.ref a) (.int 0 u) = operate [.ref a, .int 0 u] (getItem (.ref a) (.int 0 u)) := by with_unfolding_all rfl) :
    wpAny (model prog w) A (subscriptTail value slice (.ref a) (.int 0 u)) Q E s := by
  obtain ⟨⟨tx, ty, n, hm⟩, _⟩ := hp
  exact item_tupleT (l := [.int x tx, .int y ty]) (News.isTup N hm) (by decide) (by decide) (j := 0) rfl rfl (h _) hs
theorem item_pt1 {value slice : PySem.Expr} {B : Nat} {a : Addr} {x y : Int} {u : Tok} {Q : Value → Shared → Prop} (N : News h₀ L s.heap led) (hp : IsPt B led a x y) (h : ∀ t, Q (.int y t) s)
    (hs : subscripted slice false (.ref a) (.int 1 u) = operate [.ref a, .int 1 u] (getItem (.ref a) (.int 1 u)) := by with_unfolding_all rfl) :
    wpAny (model prog w) A (subscriptTail value slice (.ref a) (.int 1 u)) Q E s := by
  obtain ⟨⟨tx, ty, n, hm⟩, _⟩ := hp
  exact item_tupleT (l := [.int x tx, .int y ty]) (News.isTup N hm) (by decide) (by decide) (j := 1) rfl rfl (h _) hs
end

/-- the place before k in a ring of n -/
def pidx (n k : Nat) : Nat := if k = 0 then n - 1 else k - 1
theorem ixn_prev {n i : Nat} (hi : i < n) : ixn n ((i : Int) - 1) = pidx n i := by unfold ixn pidx; split <;> split <;> omega
def crossB (cx cy dx dy zx zy : Int) : Bool := (decide (cy ≤ zy) != decide (dy ≤ zy)) && (decide (0 < twiceP cx cy dx dy zx zy) == decide (cy < dy))
theorem crossB_t {cx cy dx dy zx zy : Int} (h1 : (decide (cy ≤ zy) != decide (dy ≤ zy)) = true) (h2 : (decide (0 < twiceP cx cy dx dy zx zy) == decide (cy < dy)) = true) : crossB cx cy dx dy zx zy = true := by
  rw [crossB, h1, h2]; rfl
theorem crossB_f {cx cy dx dy zx zy : Int} (h : (decide (cy ≤ zy) != decide (dy ≤ zy)) = false ∨ (decide (0 < twiceP cx cy dx dy zx zy) == decide (cy < dy)) = false) : ¬ crossB cx cy dx dy zx zy = true := by
  rcases h with h | h
  · rw [crossB, h]; simp
  · rw [crossB, h]; simp
/-- _law_inside behind its first k sides -/
def insP (n : Nat) (X Y : Nat → Int) (zx zy : Int) : Nat → Bool
  | 0 => false
  | k + 1 => if crossB (2 * X (pidx n k)) (2 * Y (pidx n k)) (2 * X k) (2 * Y k) zx zy then !insP n X Y zx zy k else insP n X Y zx zy k
end Mine
end

section
open PySem PySem.W PyProof.Rows PySem.Calls PyProof.V PySem.Spec
namespace Mine
abbrev px (ps : List (Int × Int)) (i : Nat) : Int := (ps.getD i (0, 0)).1
abbrev py (ps : List (Int × Int)) (i : Nat) : Int := (ps.getD i (0, 0)).2
/-- the pairs ps stand in led at the places C -/
def PtsL (B : Nat) (led : List (Addr × Obj)) (C : Nat → Addr) (ps : List (Int × Int)) : Prop := Pts B led ps.length C (px ps) (py ps)
theorem PtsL.mono {B : Nat} {led led' : List (Addr × Obj)} {C : Nat → Addr} {ps : List (Int × Int)} (h : PtsL B led C ps) (k : ∀ p ∈ led, p ∈ led') : PtsL B led' C ps := Pts.mono h k
theorem PtsL.nil {B : Nat} {led : List (Addr × Obj)} {C : Nat → Addr} : PtsL B led C [] := fun j hj => absurd hj (Nat.not_lt_zero j)
theorem PtsL.snoc {B : Nat} {led : List (Addr × Obj)} {C : Nat → Addr} {ps : List (Int × Int)} {a : Addr} {x y : Int} (h : PtsL B led C ps) (ha : IsPt B led a x y) :
    PtsL B led (fun i => if i < ps.length then C i else a) (ps ++ [(x, y)]) := by
  intro j hj
  rw [List.length_append, List.length_singleton] at hj
  by_cases hlt : j < ps.length
  · dsimp only
    rw [if_pos hlt]
    have := h j hlt
    rw [show px (ps ++ [(x, y)]) j = px ps j by simp [px, List.getD_eq_getElem?_getD, List.getElem?_append_left hlt], show py (ps ++ [(x, y)]) j = py ps j by simp [py, List.getD_eq_getElem?_getD, List.getElem?_append_left hlt]]
    exact this
  · have : j = ps.length := by omega
    subst this
    dsimp only
    rw [if_neg (Nat.lt_irrefl _)]
    simpa [px, py, List.getD_eq_getElem?_getD] using ha
abbrev refs (C : Nat → Addr) (n : Nat) : List Value := (List.range n).map fun i => Value.ref (C i)
theorem refs_snoc (C : Nat → Addr) (n : Nat) (a : Addr) : refs C n ++ [.ref a] = refs (fun i => if i < n then C i else a) (n + 1) := by
  unfold refs
  rw [List.range_succ, List.map_append]
  congr 1
  · apply List.map_congr_left
    intro i hi
    dsimp only
    rw [if_pos (List.mem_range.mp hi)]
  · simp

theorem len_led {prog : Program} {w : World} {A : Around} {E : Value → Shared → Prop} {s : Shared} {h₀ : Heap} {L : Addr} {led : List (Addr × Obj)} {l : Addr} {C : Nat → Addr} {k n : Nat} {Q : Value → Shared → Prop} (N : News h₀ L s.heap led)
    (hm : (l, listO (refs C k) n) ∈ led) (hk : k ≤ 1000) (h : ∀ t tk, Q (.int (k : Int) t) { s with toks := tk }) : wpAny (model prog w) A (call (.builtin "len") [.ref l]) Q E s := by
  refine Calls.call_len_list (News.isList N hm) (by simp; omega) ?_
  have e : ((refs C k).toArray.size : Int) = (k : Int) := by simp [refs]
  rw [e]
  exact h _ _
theorem add_led {prog : Program} {w : World} {A : Around} {E : Value → Shared → Prop} {s : Shared} {h₀ : Heap} {L : Addr} {m : Str → Option Value} {led : List (Addr × Obj)} {l b : Addr} {vs ws : List Value} {n n' : Nat} {Q : Value → Shared → Prop} (F : Fr h₀ L s.heap m) (N : News h₀ L s.heap led)
    (h1 : (l, ({ cls := .type "list", data := .seq vs.toArray n } : Obj)) ∈ led) (h2 : (b, ({ cls := .type "list", data := .seq ws.toArray n' } : Obj)) ∈ led) (hz : vs.length + ws.length ≤ sizeLine)
    (h : ∀ D h', Fr h₀ L h' m → News h₀ L h' ((D, ({ cls := .type "list", data := .seq (vs ++ ws).toArray 0 } : Obj)) :: led) → (∀ p ∈ led, p.1 < D) → Q (.ref D) { s with heap := h' }) : wpAny (model prog w) A (binaryOp .Add (.ref l) (.ref b)) Q E s := by
  refine add_arrays F N (News.isList N h1) (News.isList N h2) (fun h' F' N' => h _ h' F' ?_ fun p hp => Heap.lt_size (N p hp).1) (by simpa using hz)
  simpa using N'
/-- one more place of the two chains -/
def AddP (k : Int) (B A B' A' : List (Int × Int)) : Prop :=
  ∃ hb ha : Int, hb ≤ -1 ∧ 1 ≤ ha ∧ ((B' = B ++ [(k, hb)] ∧ A' = A ++ [(k, ha)]) ∨ (B' = B ++ [(k, hb)] ∧ A' = A) ∨ (B' = B ∧ A' = A ++ [(k, ha)]))
def AddQ (k : Int) (B A B' A' : List (Int × Int)) : Prop :=
  ∃ hb ha : Int, hb ≤ -1 ∧ 1 ≤ ha ∧ ((B' = B ++ [(k, hb)] ∧ A' = A) ∨ (B' = B ∧ A' = A ++ [(k, ha)]) ∨ (B' = B ∧ A' = A ∧ B.length + A.length = 4))
/-- the two chains behind i turns -/
def Chains : Nat → List (Int × Int) → List (Int × Int) → Prop
  | 0, B, A => B = [] ∧ A = []
  | 1, B, A => AddP 1 [] [] B A
  | 2, B, A => ∃ B₁ A₁, AddP 1 [] [] B₁ A₁ ∧ AddP 2 B₁ A₁ B A
  | _, B, A => ∃ B₁ A₁ B₂ A₂, AddP 1 [] [] B₁ A₁ ∧ AddP 2 B₁ A₁ B₂ A₂ ∧ AddQ 3 B₂ A₂ B A
def SmL (ps : List (Int × Int)) : Prop := ∀ p ∈ ps, 0 ≤ p.1 ∧ p.1 ≤ 4 ∧ Builtin.Int.intBits p.2 ≤ 1048600
/-- the loop of _law_corners behind i turns -/
def CornS (bl al kt ce : Addr) (ok oc : Obj) (i : Nat) (st : List (Int × Int) × List (Int × Int)) (nx : List (Addr × Obj)) : Prop :=
  Chains i st.1 st.2 ∧ st.1.length ≤ i ∧ st.2.length ≤ i ∧ ∃ Cb Ca nb na rest, nx = (bl, listO (refs Cb st.1.length) nb) :: (al, listO (refs Ca st.2.length) na) :: rest ∧ (∀ p ∈ rest, p.1 ≠ bl) ∧ (∀ p ∈ rest, p.1 ≠ al) ∧
    PtsL 1048600 rest Cb st.1 ∧ PtsL 1048600 rest Ca st.2 ∧ (kt, ok) ∈ rest ∧ (ce, oc) ∈ rest
theorem ne_of_cls {h₀ h : Heap} {L a b : Addr} {o o' : Obj} {led : List (Addr × Obj)} (N : News h₀ L h led) (h1 : (a, o) ∈ led) (h2 : (b, o') ∈ led) (hc : o.cls ≠ o'.cls) : a ≠ b := fun e => by
  have e1 := (N _ h1).1
  have e2 := (N _ h2).1
  rw [show (a, o).1 = (b, o').1 from e, e2] at e1
  exact hc (congrArg Obj.cls (Option.some.inj e1).symm)
theorem IterO.ne {o o' : Obj} (h : IterO o) (h' : ¬ IterO o') : o.cls ≠ o'.cls := fun e => h' (by unfold IterO at h ⊢; rwa [e] at h)
theorem not_iter_list {vs : List Value} {n : Nat} : ¬ IterO (listO vs n) := by rintro (h | h | h) <;> exact absurd (Value.type.inj h) (by decide)
theorem not_iter_tup {vs : List Value} {n : Nat} : ¬ IterO (tupO vs n) := by rintro (h | h | h) <;> exact absurd (Value.type.inj h) (by decide)
open Classical in
theorem corn_fin {h₀ h' : Heap} {L : Addr} {m' m₀ : Str → Option Value} {led own rest nx : List (Addr × Obj)} {bl al kt ce : Addr} {ok oc : Obj} {i : Nat} {B' A' : List (Int × Int)} {Cb Ca : Nat → Addr} {nb na : Nat} {s₁ : Shared} {tk : Nat} {junk : List Str}
    (F : Fr h₀ L h' m') (N : News h₀ L h' led) (hbl : bl ≠ al) (hio : ∀ p ∈ own, IterO p.2) (ho : TbOff own nx) (hrx : ∀ p ∈ rest, p ∈ nx) (hsub : ∀ p ∈ rest ++ own, p ∈ led)
    (mb : (bl, listO (refs Cb B'.length) nb) ∈ led) (ma : (al, listO (refs Ca A'.length) na) ∈ led) (hb : ∀ p ∈ rest, p.1 ≠ bl) (ha : ∀ p ∈ rest, p.1 ≠ al) (hkt : (kt, ok) ∈ rest) (hce : (ce, oc) ∈ rest)
    (hB : PtsL 1048600 led Cb B') (hA : PtsL 1048600 led Ca A') (hC : Chains (i + 1) B' A') (lB : B'.length ≤ i + 1) (lA : A'.length ≤ i + 1) (h2 : ∀ z, (∀ p ∈ ([] : List (Str × Value)), z ≠ p.1) → (∀ y ∈ junk, z ≠ y) → m' z = m₀ z) :
    TbEnd h₀ L (StJ (CornS bl al kt ce ok oc) (fun _ => []) junk m₀ (i + 1)) own s₁ { s₁ with heap := h', toks := tk } := by
  let P : Addr × Obj → Prop := fun p => p.1 ≠ bl ∧ p.1 ≠ al ∧ ∀ q ∈ own, q.1 ≠ p.1
  have hin : ∀ p, p ∈ led → P p → p ∈ led.filter fun p => decide (P p) := fun p hp hP => List.mem_filter.mpr ⟨hp, decide_eq_true hP⟩
  have hrest : ∀ p ∈ rest, p ∈ led.filter fun p => decide (P p) := fun p hp => hin p (hsub p (List.mem_append_left _ hp)) ⟨hb p hp, ha p hp, fun q hq => ho q hq p (hrx p hp)⟩
  have hown : ∀ q ∈ own, q ∈ led := fun q hq => hsub q (List.mem_append_right _ hq)
  have hpt : ∀ {C : Nat → Addr} {ps : List (Int × Int)}, PtsL 1048600 led C ps → PtsL 1048600 (led.filter fun p => decide (P p)) C ps := by
    intro C ps h j hj
    obtain ⟨⟨tx, ty, n, hm⟩, b⟩ := h j hj
    exact ⟨⟨tx, ty, n, hin _ hm ⟨ne_of_cls N hm mb (fun e => absurd (Value.type.inj e) (by decide)), ne_of_cls N hm ma (fun e => absurd (Value.type.inj e) (by decide)), fun q hq => ne_of_cls N (hown q hq) hm ((hio q hq).ne (not_iter_tup (vs := [_, _])))⟩⟩, b⟩
  refine ⟨h', tk, m', led, (bl, listO (refs Cb B'.length) nb) :: (al, listO (refs Ca A'.length) na) :: led.filter (fun p => decide (P p)), rfl, F, N, ?_, hown, ?_,
    .intro (B', A') (fun p hp => nomatch hp) h2 ⟨hC, lB, lA, Cb, Ca, nb, na, _, rfl, ?_, ?_, hpt hB, hpt hA, hrest _ hkt, hrest _ hce⟩⟩
  · intro p hp
    rcases List.mem_cons.mp hp with rfl | hp
    · exact mb
    · rcases List.mem_cons.mp hp with rfl | hp
      · exact ma
      · exact (List.mem_filter.mp hp).1
  · intro q hq p hp
    rcases List.mem_cons.mp hp with rfl | hp
    · exact ne_of_cls N (hown q hq) mb ((hio q hq).ne not_iter_list)
    · rcases List.mem_cons.mp hp with rfl | hp
      · exact ne_of_cls N (hown q hq) ma ((hio q hq).ne not_iter_list)
      · exact (of_decide_eq_true (List.mem_filter.mp hp).2).2.2 q hq
  · intro p hp
    exact (of_decide_eq_true (List.mem_filter.mp hp).2).1
  · intro p hp
    exact (of_decide_eq_true (List.mem_filter.mp hp).2).2.1
end Mine
namespace Mine
theorem bits_cell {ns : List Int} (hL : (PyData.list (ns.map PyData.int)).layable0 = true) (i : Int) : Builtin.Int.intBits (cellAt ns i 0) ≤ 1048576 := by
  rw [cellAt_def]
  exact bits_getD hL
theorem list_snoc_mem {led : List (Addr × Obj)} {bl a : Addr} {C : Nat → Addr} {n nb : Nat} (h : (bl, W.listOf ((refs C n).toArray.push (.ref a)) nb) ∈ led) :
    (bl, listO (refs (fun i => if i < n then C i else a) (n + 1)) nb) ∈ led := by
  rw [← refs_snoc]
  simpa [W.listOf, listO] using h
section
variable {h₀ h' : Heap} {L : Addr} {m' m₀ : Str → Option Value} {led own rest nx : List (Addr × Obj)} {bl al kt ce : Addr} {ok oc : Obj} {i : Nat} {B A : List (Int × Int)} {Cb Ca : Nat → Addr} {nb na : Nat} {s₁ : Shared} {tk : Nat} {junk : List Str} {k v1 v2 : Int} {D1 D2 : Addr} {t1 t2 t3 t4 : Tok} {n1 n2 : Nat}
theorem corn_both (F : Fr h₀ L h' m') (N : News h₀ L h' led) (hbl : bl ≠ al) (hio : ∀ p ∈ own, IterO p.2) (ho : TbOff own nx) (hrx : ∀ p ∈ rest, p ∈ nx) (hsub : ∀ p ∈ rest ++ own, p ∈ led)
    (mb : (bl, W.listOf ((refs Cb B.length).toArray.push (.ref D1)) nb) ∈ led) (ma : (al, W.listOf ((refs Ca A.length).toArray.push (.ref D2)) na) ∈ led)
    (md1 : (D1, tupO [.int k t1, .int v1 t2] n1) ∈ led) (md2 : (D2, tupO [.int k t3, .int v2 t4] n2) ∈ led)
    (hb : ∀ p ∈ rest, p.1 ≠ bl) (ha : ∀ p ∈ rest, p.1 ≠ al) (hkt : (kt, ok) ∈ rest) (hce : (ce, oc) ∈ rest) (hB : PtsL 1048600 rest Cb B) (hA : PtsL 1048600 rest Ca A)
    (bk : Builtin.Int.intBits k ≤ 1048600) (b1 : Builtin.Int.intBits v1 ≤ 1048600) (b2 : Builtin.Int.intBits v2 ≤ 1048600)
    (hC : Chains (i + 1) (B ++ [(k, v1)]) (A ++ [(k, v2)])) (lB : B.length ≤ i) (lA : A.length ≤ i) (h2 : ∀ z, (∀ p ∈ ([] : List (Str × Value)), z ≠ p.1) → (∀ y ∈ junk, z ≠ y) → m' z = m₀ z) :
    TbEnd h₀ L (StJ (CornS bl al kt ce ok oc) (fun _ => []) junk m₀ (i + 1)) own s₁ { s₁ with heap := h', toks := tk } := by
  have hs : ∀ p ∈ rest, p ∈ led := fun p hp => hsub p (List.mem_append_left _ hp)
  exact corn_fin F N hbl hio ho hrx hsub (by rw [List.length_append, List.length_singleton]; exact list_snoc_mem mb) (by rw [List.length_append, List.length_singleton]; exact list_snoc_mem ma) hb ha hkt hce
    ((hB.mono hs).snoc ⟨⟨_, _, _, md1⟩, bk, b1⟩) ((hA.mono hs).snoc ⟨⟨_, _, _, md2⟩, bk, b2⟩) hC (by rw [List.length_append, List.length_singleton]; omega) (by rw [List.length_append, List.length_singleton]; omega) h2
theorem corn_b (F : Fr h₀ L h' m') (N : News h₀ L h' led) (hbl : bl ≠ al) (hio : ∀ p ∈ own, IterO p.2) (ho : TbOff own nx) (hrx : ∀ p ∈ rest, p ∈ nx) (hsub : ∀ p ∈ rest ++ own, p ∈ led)
    (mb : (bl, W.listOf ((refs Cb B.length).toArray.push (.ref D1)) nb) ∈ led) (ma : (al, listO (refs Ca A.length) na) ∈ led)
    (md1 : (D1, tupO [.int k t1, .int v1 t2] n1) ∈ led)
    (hb : ∀ p ∈ rest, p.1 ≠ bl) (ha : ∀ p ∈ rest, p.1 ≠ al) (hkt : (kt, ok) ∈ rest) (hce : (ce, oc) ∈ rest) (hB : PtsL 1048600 rest Cb B) (hA : PtsL 1048600 rest Ca A)
    (bk : Builtin.Int.intBits k ≤ 1048600) (b1 : Builtin.Int.intBits v1 ≤ 1048600)
    (hC : Chains (i + 1) (B ++ [(k, v1)]) A) (lB : B.length ≤ i) (lA : A.length ≤ i) (h2 : ∀ z, (∀ p ∈ ([] : List (Str × Value)), z ≠ p.1) → (∀ y ∈ junk, z ≠ y) → m' z = m₀ z) :
    TbEnd h₀ L (StJ (CornS bl al kt ce ok oc) (fun _ => []) junk m₀ (i + 1)) own s₁ { s₁ with heap := h', toks := tk } := by
  have hs : ∀ p ∈ rest, p ∈ led := fun p hp => hsub p (List.mem_append_left _ hp)
  exact corn_fin F N hbl hio ho hrx hsub (by rw [List.length_append, List.length_singleton]; exact list_snoc_mem mb) ma hb ha hkt hce
    ((hB.mono hs).snoc ⟨⟨_, _, _, md1⟩, bk, b1⟩) (hA.mono hs) hC (by rw [List.length_append, List.length_singleton]; omega) (by omega) h2
theorem corn_a (F : Fr h₀ L h' m') (N : News h₀ L h' led) (hbl : bl ≠ al) (hio : ∀ p ∈ own, IterO p.2) (ho : TbOff own nx) (hrx : ∀ p ∈ rest, p ∈ nx) (hsub : ∀ p ∈ rest ++ own, p ∈ led)
    (mb : (bl, listO (refs Cb B.length) nb) ∈ led) (ma : (al, W.listOf ((refs Ca A.length).toArray.push (.ref D2)) na) ∈ led)
    (md2 : (D2, tupO [.int k t3, .int v2 t4] n2) ∈ led)
    (hb : ∀ p ∈ rest, p.1 ≠ bl) (ha : ∀ p ∈ rest, p.1 ≠ al) (hkt : (kt, ok) ∈ rest) (hce : (ce, oc) ∈ rest) (hB : PtsL 1048600 rest Cb B) (hA : PtsL 1048600 rest Ca A)
    (bk : Builtin.Int.intBits k ≤ 1048600) (b2 : Builtin.Int.intBits v2 ≤ 1048600)
    (hC : Chains (i + 1) B (A ++ [(k, v2)])) (lB : B.length ≤ i) (lA : A.length ≤ i) (h2 : ∀ z, (∀ p ∈ ([] : List (Str × Value)), z ≠ p.1) → (∀ y ∈ junk, z ≠ y) → m' z = m₀ z) :
    TbEnd h₀ L (StJ (CornS bl al kt ce ok oc) (fun _ => []) junk m₀ (i + 1)) own s₁ { s₁ with heap := h', toks := tk } := by
  have hs : ∀ p ∈ rest, p ∈ led := fun p hp => hsub p (List.mem_append_left _ hp)
  exact corn_fin F N hbl hio ho hrx hsub mb (by rw [List.length_append, List.length_singleton]; exact list_snoc_mem ma) hb ha hkt hce
    (hB.mono hs) ((hA.mono hs).snoc ⟨⟨_, _, _, md2⟩, bk, b2⟩) hC (by omega) (by rw [List.length_append, List.length_singleton]; omega) h2
theorem corn_0 (F : Fr h₀ L h' m') (N : News h₀ L h' led) (hbl : bl ≠ al) (hio : ∀ p ∈ own, IterO p.2) (ho : TbOff own nx) (hrx : ∀ p ∈ rest, p ∈ nx) (hsub : ∀ p ∈ rest ++ own, p ∈ led)
    (mb : (bl, listO (refs Cb B.length) nb) ∈ led) (ma : (al, listO (refs Ca A.length) na) ∈ led)
    (hb : ∀ p ∈ rest, p.1 ≠ bl) (ha : ∀ p ∈ rest, p.1 ≠ al) (hkt : (kt, ok) ∈ rest) (hce : (ce, oc) ∈ rest) (hB : PtsL 1048600 rest Cb B) (hA : PtsL 1048600 rest Ca A)
    (hC : Chains (i + 1) B A) (lB : B.length ≤ i) (lA : A.length ≤ i) (h2 : ∀ z, (∀ p ∈ ([] : List (Str × Value)), z ≠ p.1) → (∀ y ∈ junk, z ≠ y) → m' z = m₀ z) :
    TbEnd h₀ L (StJ (CornS bl al kt ce ok oc) (fun _ => []) junk m₀ (i + 1)) own s₁ { s₁ with heap := h', toks := tk } := by
  have hs : ∀ p ∈ rest, p ∈ led := fun p hp => hsub p (List.mem_append_left _ hp)
  exact corn_fin F N hbl hio ho hrx hsub mb ma hb ha hkt hce (hB.mono hs) (hA.mono hs) hC (by omega) (by omega) h2
end
end Mine
namespace Mine
open Classical in
/-- the ledger of pairs less one address -/
noncomputable def lessA (a : Addr) (led : List (Addr × Obj)) : List (Addr × Obj) := led.filter fun p => decide (p.1 ≠ a)
theorem lessA_ne {a : Addr} {led : List (Addr × Obj)} : ∀ p ∈ lessA a led, p.1 ≠ a := fun p hp => of_decide_eq_true (List.mem_filter.mp hp).2
theorem lessA_sub {a : Addr} {led : List (Addr × Obj)} : ∀ p ∈ lessA a led, p ∈ led := fun p hp => (List.mem_filter.mp hp).1
theorem lessA_mem {a : Addr} {led : List (Addr × Obj)} {p : Addr × Obj} (h : p ∈ led) (hne : p.1 ≠ a) : p ∈ lessA a led := List.mem_filter.mpr ⟨h, decide_eq_true hne⟩
theorem PtsL.less {h₀ h : Heap} {L a : Addr} {o : Obj} {B : Nat} {led rest : List (Addr × Obj)} {C : Nat → Addr} {ps : List (Int × Int)} (hp : PtsL B rest C ps) (N : News h₀ L h led) (hs : ∀ p ∈ rest, p ∈ led) (ho : (a, o) ∈ led)
    (hne : ∀ xs n, o ≠ { cls := .type "tuple", data := .seq xs n }) : PtsL B (lessA a rest) C ps := by
  intro j hj
  obtain ⟨⟨tx, ty, n, hm⟩, b⟩ := hp j hj
  refine ⟨⟨tx, ty, n, lessA_mem hm fun e => ?_⟩, b⟩
  have e1 := (N _ (hs _ hm)).1
  have e2 := (N _ ho).1
  rw [show (C j, _).1 = a from e] at e1
  rw [show (a, o).1 = a from rfl, e1] at e2
  exact hne _ _ (Option.some.inj e2).symm
end Mine
end

section
open PySem PySem.W PyProof.Rows PySem.Calls PyProof.V PySem.Spec
namespace Mine
/-- the values vs are the pairs ps -/
inductive PL (B : Nat) (led : List (Addr × Obj)) : List Value → List (Int × Int) → Prop
  | nil : PL B led [] []
  | cons {a : Addr} {x y : Int} {vs : List Value} {ps : List (Int × Int)} (h : IsPt B led a x y) (r : PL B led vs ps) : PL B led (.ref a :: vs) ((x, y) :: ps)
section
variable {B : Nat} {led led' : List (Addr × Obj)}
theorem PL.mono {vs : List Value} {ps : List (Int × Int)} (h : PL B led vs ps) (k : ∀ p ∈ led, p ∈ led') : PL B led' vs ps := by
  induction h with
  | nil => exact .nil
  | cons h _ ih => exact .cons (h.mono k) ih
theorem PL.append {vs ws : List Value} {ps qs : List (Int × Int)} (h : PL B led vs ps) (h' : PL B led ws qs) : PL B led (vs ++ ws) (ps ++ qs) := by
  induction h with
  | nil => exact h'
  | cons h _ ih => exact .cons h ih
theorem PL.reverse {vs : List Value} {ps : List (Int × Int)} (h : PL B led vs ps) : PL B led vs.reverse ps.reverse := by
  induction h with
  | nil => exact .nil
  | cons h _ ih => rw [List.reverse_cons, List.reverse_cons]; exact ih.append (.cons h .nil)
theorem PL.length {vs : List Value} {ps : List (Int × Int)} (h : PL B led vs ps) : vs.length = ps.length := by
  induction h with
  | nil => rfl
  | cons _ _ ih => rw [List.length_cons, List.length_cons, ih]
theorem PL.get {vs : List Value} {ps : List (Int × Int)} (h : PL B led vs ps) : ∀ {i : Nat} {v : Value}, vs[i]? = some v → ∃ a x y, v = .ref a ∧ ps[i]? = some (x, y) ∧ IsPt B led a x y := by
  induction h with
  | nil => intro i v hv; cases hv
  | @cons a x y _ _ h _ ih =>
    intro i v hv
    cases i with
    | zero => exact ⟨a, x, y, (Option.some.inj hv).symm, rfl, h⟩
    | succ i => exact ih hv
theorem PL.of {C : Nat → Addr} {ps : List (Int × Int)} (h : PtsL B led C ps) : PL B led (refs C ps.length) ps := by
  have key : ∀ n, n ≤ ps.length → PL B led (refs C n) (ps.take n) := by
    intro n
    induction n with
    | zero => intro _; exact .nil
    | succ n ih =>
      intro hn
      have e : refs C (n + 1) = refs C n ++ [.ref (C n)] := by simp [refs, List.range_succ]
      have hlt : n < ps.length := by omega
      have e2 : ps.take (n + 1) = ps.take n ++ [(px ps n, py ps n)] := by
        rw [show (px ps n, py ps n) = ps[n] by simp [px, py, List.getD_eq_getElem?_getD, List.getElem?_eq_getElem hlt], List.take_add_one, List.getElem?_eq_getElem hlt]
        rfl
      rw [e, e2]
      exact (ih (by omega)).append (.cons (h n hlt) .nil)
  have := key ps.length (Nat.le_refl _)
  rwa [List.take_length] at this
theorem PL.to {vs : List Value} {ps : List (Int × Int)} (h : PL B led vs ps) : ∃ C, vs = refs C ps.length ∧ PtsL B led C ps := by
  induction h with
  | nil => exact ⟨fun _ => 0, rfl, PtsL.nil⟩
  | @cons a x y vs ps h _ ih =>
    obtain ⟨C, e, hP⟩ := ih
    refine ⟨fun i => match i with | 0 => a | i + 1 => C i, ?_, ?_⟩
    · rw [e, List.length_cons, refs, refs, List.range_succ_eq_map, List.map_cons, List.map_map]
      rfl
    · intro j hj
      cases j with
      | zero => exact h
      | succ j => exact hP j (by simpa using hj)
end

def ElOk (B : Nat) (news : List (Addr × Obj)) (q : Int × Int) (y : Value) (news' : List (Addr × Obj)) : Prop := (∀ p ∈ news, p ∈ news') ∧ ∃ T, y = .ref T ∧ IsPt B news' T q.1 q.2
section
variable {prog : Program} {w : World} {A : Around} {h₀ : Heap} {L : Addr} {m : Str → Option Value} {env : Env} {B B' : Nat}
/-- a comprehension that makes one pair of each pair -/
theorem comp_map {elt : PySem.Expr} {x : Str} {scope : Scope} {cl : List (Str × Addr)} {s : Shared} {S : List (Addr × Obj) → Prop} {Fin : List Value → List (Addr × Obj) → Prop} {vs : List Value} {ps : List (Int × Int)} {led : List (Addr × Obj)} (f : Int × Int → Int × Int)
    (hp : PL B led vs ps) 
    (turn : ∀ (a : Addr) (px py : Int) (ys : List Value) (news : List (Addr × Obj)) (I : Addr) (oI : Obj) (C : Addr) (oC : Obj) (D : Addr) (m₂ : Str → Option Value) (h : Heap) (tk : Nat) (E' : Value → Shared → Prop), (px, py) ∈ ps → IsPt B news a px py → (∀ p ∈ led, p ∈ news) → LCg.NsObj oC m₂ → m₂ x = some (.ref a) → Fr h₀ L h m →
      News h₀ L h ((I, oI) :: (C, oC) :: (D, LCg.lst ys) :: news) → LCg.Off3 I C D news → ((@Ne Nat I C) ∧ (@Ne Nat I D) ∧ (@Ne Nat C D)) →
      wpAny (model prog w) A (eval elt (compEnvC scope cl C env)) (LCg.CompEnd h₀ L m { s with heap := h, toks := tk } I oI C oC D (LCg.lst ys) S (ElOk B' news (f (px, py)))) E' { s with heap := h, toks := tk })
    (fin : ∀ ys news, PL B' news ys (ps.map f) → (∀ p ∈ led, p ∈ news) → Fin ys news) :
    LCg.CompRest prog w A h₀ L m env elt x scope cl s S (fun i v => vs.toArray[i]? = some v) Fin vs.toArray.size 0 [] led := by
  have key : ∀ (k i : Nat) (ys : List Value) (news : List (Addr × Obj)), i + k = vs.length → PL B' news ys ((ps.take i).map f) → (∀ p ∈ led, p ∈ news) →
      LCg.CompRest prog w A h₀ L m env elt x scope cl s S (fun i v => vs.toArray[i]? = some v) Fin k i ys news := by
    intro k
    induction k with
    | zero =>
      intro i ys news hi hy hs
      refine LCg.CompRest.zero (fin ys news ?_ hs)
      rwa [List.take_of_length_le (by rw [← hp.length]; omega)] at hy
    | succ k ih =>
      intro i ys news hi hy hs
      refine LCg.CompRest.succ ?_
      intro v I oI C oC D m₂ h tk E' hv hC hx F N off ne
      obtain ⟨a, px, py, rfl, hq, ha⟩ := hp.get (i := i) (v := v) (by simpa using hv)
      refine wpAny_mono (turn a px py ys news I oI C oC D m₂ h tk E' (List.mem_of_getElem? hq) (ha.mono hs) hs hC hx F N off ne) (fun y s₂ e => ?_) fun _ _ e => e
      obtain ⟨h', tk', news', e1, F', N', off', hS', hsub, T, rfl, hT⟩ := e
      refine ⟨h', tk', news', e1, F', N', off', hS', ?_⟩
      refine ih (i + 1) (ys ++ [.ref T]) news' (by omega) ?_ fun p hp => hsub p (hs p hp)
      have e2 : (ps.take (i + 1)).map f = (ps.take i).map f ++ [f (px, py)] := by
        rw [List.take_add_one, hq]; simp
      rw [e2]
      exact (hy.mono hsub).append (.cons hT .nil)
  have := key vs.length 0 [] led (by omega) .nil fun _ h => h
  simpa using this
end
theorem el_end {h₀ h' : Heap} {L I C D T : Addr} {m : Str → Option Value} {s₁ : Shared} {oI oC : Obj} {ys : List Value} {S : List (Addr × Obj) → Prop} {B' n tk : Nat} {fx fy : Int} {t1 t2 : Tok} {nx : List (Addr × Obj)} {q : Int × Int}
    (F : Fr h₀ L h' m) (N : News h₀ L h' ((T, tupO [.int fx t1, .int fy t2] n) :: (I, oI) :: (C, oC) :: (D, LCg.lst ys) :: nx)) (l1 : @Ne Nat T I) (l2 : @Ne Nat T C) (l3 : @Ne Nat T D) (off : LCg.Off3 I C D nx)
    (hS : S ((T, tupO [.int fx t1, .int fy t2] n) :: nx)) (bx : Builtin.Int.intBits fx ≤ B') (bY : Builtin.Int.intBits fy ≤ B') (e : q = (fx, fy)) :
    LCg.CompEnd h₀ L m s₁ I oI C oC D (LCg.lst ys) S (ElOk B' nx q) (.ref T) { s₁ with heap := h', toks := tk } := by
  subst e
  refine LCg.CompEnd.intro F N ((T, tupO [.int fx t1, .int fy t2] n) :: nx) ?_ ⟨⟨l1, l2, l3⟩, off⟩ hS ⟨fun p hp => .tail _ hp, T, rfl, ⟨t1, t2, n, .head _⟩, bx, bY⟩
  intro p hp
  rcases List.mem_cons.mp hp with rfl | hp
  · exact .tail _ (.head _)
  · rcases List.mem_cons.mp hp with rfl | hp
    · exact .tail _ (.tail _ (.head _))
    · rcases List.mem_cons.mp hp with rfl | hp
      · exact .tail _ (.tail _ (.tail _ (.head _)))
      · rcases List.mem_cons.mp hp with rfl | hp
        · exact .head _
        · exact .tail _ (.tail _ (.tail _ (.tail _ hp)))
theorem addP_x {k : Int} {B A B' A' : List (Int × Int)} (h : AddP k B A B' A') : (∀ p ∈ B', p ∈ B ∨ p.1 = k) ∧ (∀ p ∈ A', p ∈ A ∨ p.1 = k) := by
  have key : ∀ (l : List (Int × Int)) (v : Int), ∀ p ∈ l ++ [(k, v)], p ∈ l ∨ p.1 = k := fun l v p hp => by
    rcases List.mem_append.mp hp with h | h
    · exact .inl h
    · exact .inr (by rw [List.mem_singleton.mp h])
  obtain ⟨hb, ha, _, _, ⟨rfl, rfl⟩ | ⟨rfl, rfl⟩ | ⟨rfl, rfl⟩⟩ := h
  · exact ⟨key _ _, key _ _⟩
  · exact ⟨key _ _, fun p hp => .inl hp⟩
  · exact ⟨fun p hp => .inl hp, key _ _⟩
theorem addQ_x {k : Int} {B A B' A' : List (Int × Int)} (h : AddQ k B A B' A') : (∀ p ∈ B', p ∈ B ∨ p.1 = k) ∧ (∀ p ∈ A', p ∈ A ∨ p.1 = k) := by
  have key : ∀ (l : List (Int × Int)) (v : Int), ∀ p ∈ l ++ [(k, v)], p ∈ l ∨ p.1 = k := fun l v p hp => by
    rcases List.mem_append.mp hp with h | h
    · exact .inl h
    · exact .inr (by rw [List.mem_singleton.mp h])
  obtain ⟨hb, ha, _, _, ⟨rfl, rfl⟩ | ⟨rfl, rfl⟩ | ⟨rfl, rfl, _⟩⟩ := h
  · exact ⟨key _ _, fun p hp => .inl hp⟩
  · exact ⟨fun p hp => .inl hp, key _ _⟩
  · exact ⟨fun p hp => .inl hp, fun p hp => .inl hp⟩
theorem chains_x {B A : List (Int × Int)} (h : Chains 3 B A) : ∀ p ∈ [((0 : Int), (0 : Int))] ++ B ++ [(4, 0)] ++ A.reverse, 0 ≤ p.1 ∧ p.1 ≤ 4 := by
  obtain ⟨B₁, A₁, B₂, A₂, h1, h2, h3⟩ := h
  have k1 := addP_x h1
  have k2 := addP_x h2
  have k3 := addQ_x h3
  have kB : ∀ p ∈ B, 0 ≤ p.1 ∧ p.1 ≤ 4 := fun p hp => by
    rcases k3.1 p hp with h | h
    · rcases k2.1 p h with h | h
      · rcases k1.1 p h with h | h
        · cases h
        · omega
      · omega
    · omega
  have kA : ∀ p ∈ A, 0 ≤ p.1 ∧ p.1 ≤ 4 := fun p hp => by
    rcases k3.2 p hp with h | h
    · rcases k2.2 p h with h | h
      · rcases k1.2 p h with h | h
        · cases h
        · omega
      · omega
    · omega
  intro p hp
  simp only [List.mem_append, List.mem_singleton, List.mem_reverse] at hp
  rcases hp with ((rfl | h) | rfl) | h
  · decide
  · exact kB p h
  · decide
  · exact kA p h
def ringP (B A : List (Int × Int)) : List (Int × Int) := [(0, 0)] ++ B ++ [(4, 0)] ++ A.reverse
def shr (s : Int) (p : Int × Int) : Int × Int := (p.1, p.2 + s * p.1)
def rot (p : Int × Int) : Int × Int := (-p.2, p.1)
/-- what _law_corners builds -/
def CornersP (ps : List (Int × Int)) : Prop := ∃ B A s, Chains 3 B A ∧ (ps = (ringP B A).map (shr s) ∨ ps = ((ringP B A).map (shr s)).map rot)
theorem addP_len {k : Int} {B A B' A' : List (Int × Int)} (h : AddP k B A B' A') : B.length + A.length + 1 ≤ B'.length + A'.length ∧ B'.length + A'.length ≤ B.length + A.length + 2 := by
  obtain ⟨hb, ha, _, _, ⟨rfl, rfl⟩ | ⟨rfl, rfl⟩ | ⟨rfl, rfl⟩⟩ := h <;> simp only [List.length_append, List.length_cons, List.length_nil] <;> omega
theorem addQ_len {k : Int} {B A B' A' : List (Int × Int)} (h : AddQ k B A B' A') : (B.length + A.length + 1 = B'.length + A'.length) ∨ (B'.length + A'.length = 4) := by
  obtain ⟨hb, ha, _, _, ⟨rfl, rfl⟩ | ⟨rfl, rfl⟩ | ⟨rfl, rfl, h⟩⟩ := h
  · left; simp only [List.length_append, List.length_cons, List.length_nil]; omega
  · left; simp only [List.length_append, List.length_cons, List.length_nil]; omega
  · right; exact h
theorem corners_len {ps : List (Int × Int)} (h : CornersP ps) : 5 ≤ ps.length ∧ ps.length ≤ 7 := by
  obtain ⟨B, A, s, ⟨B₁, A₁, B₂, A₂, h1, h2, h3⟩, h⟩ := h
  have k1 := addP_len h1
  have k2 := addP_len h2
  have k3 := addQ_len h3
  have e : ps.length = B.length + A.length + 2 := by
    rcases h with rfl | rfl <;> simp only [ringP, List.length_map, List.length_append, List.length_cons, List.length_nil, List.length_reverse] <;> omega
  simp only [List.length_nil] at k1
  omega
end Mine
end

section
open PySem PySem.W PyProof.Rows PySem.Calls PyProof.V PySem.Spec
namespace Mine
theorem append_mem {prog : Program} {w : World} {A : Around} {E : Value → Shared → Prop} {s : Shared} {h₀ : Heap} {L : Addr} {m : Str → Option Value} {led : List (Addr × Obj)} {l : Addr} {vs : List Value} {n : Nat} {x : Value} {Q : Value → Shared → Prop}
    (F : Fr h₀ L s.heap m) (N : News h₀ L s.heap led) (hm : (l, ({ cls := .type "list", data := .seq vs.toArray n } : Obj)) ∈ led) (hz : vs.length ≤ sizeLine)
    (h : ∀ h', Fr h₀ L h' m → News h₀ L h' ((l, listO (vs ++ [x]) (n + 1)) :: lessA l led) → Q .none { s with heap := h' }) : wpAny (model prog w) A (call (.builtin "list.append") [.ref l, x]) Q E s := by
  refine append_K (its := vs.toArray) (n := n) (news := (l, W.listOf vs.toArray n) :: lessA l led) F (fun p hp => ?_) (.head lessA_ne) (fun h' F' N' => h h' F' ?_) (by simpa using hz)
  · rcases List.mem_cons.mp hp with rfl | hp
    · exact N _ hm
    · exact N p (lessA_sub p hp)
  · simpa [W.listOf] using N'

/-- a node of the ledger with its dict's address -/
def NodeAt (led : List (Addr × Obj)) (v d : Addr) (x y : Int) (pv nx : Value) : Prop :=
  ∃ hs ks vi vp tx ty vz v8 v9 vs, (v, instObj 59 d) ∈ led ∧ (d, nodeObj hs ks vi vp x y tx ty pv nx vz v8 v9 vs) ∈ led
theorem NodeAt.mono {led led' : List (Addr × Obj)} {v d : Addr} {x y : Int} {pv nx : Value} (h : NodeAt led v d x y pv nx) (k : ∀ p ∈ led, p ∈ led') : NodeAt led' v d x y pv nx := by
  obtain ⟨hs, ks, vi, vp, tx, ty, vz, v8, v9, vs, h1, h2⟩ := h
  exact ⟨hs, ks, vi, vp, tx, ty, vz, v8, v9, vs, k _ h1, k _ h2⟩
def prv (k i : Nat) : Nat := if i = 0 then k - 1 else i - 1
def nxt (k i : Nat) : Nat := if i + 1 = k then 0 else i + 1
/-- the loop that makes the nodes -/
def BuildS (ps : List (Int × Int)) (C : Nat → Addr) (cl nl : Addr) (kc : Nat) (k : Nat) (st : (Nat → Addr) × (Nat → Addr) × Value) (nx : List (Addr × Obj)) : Prop :=
  st.2.2 = (if k = 0 then .none else .ref (st.1 (k - 1))) ∧
  ∃ nb rest, nx = (nl, listO (refs st.1 k) nb) :: rest ∧ (∀ p ∈ rest, p.1 ≠ nl) ∧ (cl, listO (refs C ps.length) kc) ∈ rest ∧ PtsL 1100000 rest C ps ∧
  (∀ i < k, NodeAt rest (st.1 i) (st.2.1 i) (px ps i) (py ps i) (.ref (st.1 (prv k i))) (.ref (st.1 (nxt k i)))) ∧
  (∀ i < k, ∀ j < k, i ≠ j → st.2.1 i ≠ st.2.1 j)
theorem cls_dict {es : List DictEntry} {n : Nat} : (dictOf es n).cls = .type "dict" := rfl
theorem not_iter_dict {es : List DictEntry} {n : Nat} : ¬ IterO (dictOf es n) := by rintro (h | h | h) <;> exact absurd (Value.type.inj h) (by decide)
theorem not_iter_inst {C d : Addr} : ¬ IterO (instObj C d) := by rintro (h | h | h) <;> cases h
open Classical in
theorem build_fin {h₀ h' : Heap} {L : Addr} {m' m₀ : Str → Option Value} {own led1 : List (Addr × Obj)} {ps : List (Int × Int)} {C V D : Nat → Addr} {cl nl v d : Addr} {kc k nb tk : Nat} {s₁ : Shared} {junk : List Str}
    (F : Fr h₀ L h' m') (N : News h₀ L h' ((nl, listO (refs V k ++ [.ref v]) nb) :: lessA nl led1)) (hio : ∀ p ∈ own, IterO p.2) (hown : ∀ p ∈ own, p ∈ led1)
    (hcls : ∀ p ∈ led1, p.2.cls ≠ .type "list" → p.1 ≠ nl) (hcl : (cl, listO (refs C ps.length) kc) ∈ led1) (hcn : cl ≠ nl) (hP : PtsL 1100000 led1 C ps)
    (hN : ∀ j < k + 1, NodeAt led1 (if j < k then V j else v) (if j < k then D j else d) (px ps j) (py ps j) (.ref (if prv (k + 1) j < k then V (prv (k + 1) j) else v)) (.ref (if nxt (k + 1) j < k then V (nxt (k + 1) j) else v)))
    (inj : ∀ i < k + 1, ∀ j < k + 1, i ≠ j → (if i < k then D i else d) ≠ (if j < k then D j else d))
    (h1 : m' (Str.ofString "node") = some (.ref v)) (h2 : ∀ z, (∀ p ∈ [(Str.ofString "node", Value.ref v)], z ≠ p.1) → (∀ y ∈ junk, z ≠ y) → m' z = m₀ z) :
    TbEnd h₀ L (StJ (BuildS ps C cl nl kc) (fun st => [(Str.ofString "node", st.2.2)]) junk m₀ (k + 1)) own s₁ { s₁ with heap := h', toks := tk } := by
  have hno : ∀ q ∈ own, q.1 ≠ nl := fun q hq => hcls q (hown q hq) (fun e => by
    rcases hio q hq with h | h | h <;> (rw [e] at h; exact absurd (Value.type.inj h) (by decide)))
  have N1 : News h₀ L h' (lessA nl led1) := fun p hp => N p (.tail _ hp)
  have own1 : ∀ q ∈ own, q ∈ lessA nl led1 := fun q hq => lessA_mem (hown q hq) (hno q hq)
  let rest := (lessA nl led1).filter fun p => decide (∀ q ∈ own, q.1 ≠ p.1)
  have into : ∀ p, p ∈ led1 → p.1 ≠ nl → ¬ IterO p.2 → p ∈ rest := fun p hp hne hni =>
    List.mem_filter.mpr ⟨lessA_mem hp hne, decide_eq_true fun q hq => ne_of_cls N1 (own1 q hq) (lessA_mem hp hne) ((hio q hq).ne hni)⟩
  have nodes : ∀ {a b : Addr} {x y : Int} {p n : Value}, NodeAt led1 a b x y p n → NodeAt rest a b x y p n := by
    rintro a b x y p n ⟨hs, ks, vi, vp, tx, ty, vz, v8, v9, vs, i1, i2⟩
    exact ⟨hs, ks, vi, vp, tx, ty, vz, v8, v9, vs, into _ i1 (hcls _ i1 (fun e => by cases e)) not_iter_inst, into _ i2 (hcls _ i2 (fun e => absurd (Value.type.inj e) (by decide))) not_iter_dict⟩
  refine ⟨h', tk, m', _, (nl, listO (refs (fun j => if j < k then V j else v) (k + 1)) nb) :: rest, rfl, F, N, ?_, fun q hq => .tail _ (own1 q hq), ?_,
    .intro (fun j => if j < k then V j else v, fun j => if j < k then D j else d, .ref v) (fx_cons h1 fx_nil) h2 ⟨?_, nb, rest, rfl, ?_, into _ hcl hcn not_iter_list, ?_, ?_, inj⟩⟩
  · intro p hp
    rcases List.mem_cons.mp hp with rfl | hp
    · rw [← refs_snoc]; exact .head _
    · exact .tail _ (List.mem_filter.mp hp).1
  · intro q hq p hp
    rcases List.mem_cons.mp hp with rfl | hp
    · exact hno q hq
    · exact of_decide_eq_true (List.mem_filter.mp hp).2 q hq
  · simp
  · intro p hp
    exact lessA_ne p (List.mem_filter.mp hp).1
  · intro j hj
    obtain ⟨⟨tx, ty, n, hm⟩, b⟩ := hP j hj
    exact ⟨⟨tx, ty, n, into _ hm (hcls _ hm (fun e => absurd (Value.type.inj e) (by decide))) (not_iter_tup (vs := [_, _]))⟩, b⟩
  · intro j hj
    exact nodes (hN j hj)
end Mine
end

section
open PySem PySem.W PyProof.Rows PySem.Calls PyProof.V PySem.Spec
namespace Mine
theorem mem9 {a1 a2 a3 a4 a5 a6 a7 a8 a9 p : Addr × Obj} {l : List (Addr × Obj)} (h : p ∈ l) : p ∈ a1 :: a2 :: a3 :: a4 :: a5 :: a6 :: a7 :: a8 :: a9 :: l := .tail _ (.tail _ (.tail _ (.tail _ (.tail _ (.tail _ (.tail _ (.tail _ (.tail _ h))))))))
theorem nodes_one {led1 : List (Addr × Obj)} {V D : Nat → Addr} {X Y : Nat → Int} {v d : Addr}
    (h0 : NodeAt led1 (V 0) (D 0) (X 0) (Y 0) (.ref v) (.ref v)) (h1 : NodeAt led1 v d (X 1) (Y 1) (.ref (V 0)) (.ref (V 0))) :
    ∀ j < 1 + 1, NodeAt led1 (if j < 1 then V j else v) (if j < 1 then D j else d) (X j) (Y j) (.ref (if prv (1 + 1) j < 1 then V (prv (1 + 1) j) else v)) (.ref (if nxt (1 + 1) j < 1 then V (nxt (1 + 1) j) else v)) := by
  intro j hj
  have : j = 0 ∨ j = 1 := by omega
  rcases this with rfl | rfl
  · exact h0
  · exact h1
theorem nodes_two {rest led1 : List (Addr × Obj)} {k : Nat} {V D : Nat → Addr} {X Y : Nat → Int} {v d : Addr} (hk : 2 ≤ k)
    (h : ∀ i < k, NodeAt rest (V i) (D i) (X i) (Y i) (.ref (V (prv k i))) (.ref (V (nxt k i)))) (inj : ∀ i < k, ∀ j < k, i ≠ j → D i ≠ D j)
    (hv : ∀ i < k, ∀ j < k, V i ≠ D j) (sub : ∀ p ∈ rest, p.1 ≠ D (k - 1) → p.1 ≠ D 0 → p ∈ led1)
    (hl : NodeAt led1 (V (k - 1)) (D (k - 1)) (X (k - 1)) (Y (k - 1)) (.ref (V (prv k (k - 1)))) (.ref v))
    (hf : NodeAt led1 (V 0) (D 0) (X 0) (Y 0) (.ref v) (.ref (V (nxt k 0)))) (hn : NodeAt led1 v d (X k) (Y k) (.ref (V (k - 1))) (.ref (V 0))) :
    ∀ j < k + 1, NodeAt led1 (if j < k then V j else v) (if j < k then D j else d) (X j) (Y j) (.ref (if prv (k + 1) j < k then V (prv (k + 1) j) else v)) (.ref (if nxt (k + 1) j < k then V (nxt (k + 1) j) else v)) := by
  intro j hj
  by_cases c1 : j = k
  · subst c1
    rw [if_neg (Nat.lt_irrefl _), if_neg (Nat.lt_irrefl _), show prv (j + 1) j = j - 1 by unfold prv; split <;> omega, show nxt (j + 1) j = 0 by unfold nxt; simp, if_pos (by omega), if_pos (by omega)]
    exact hn
  · by_cases c2 : j = 0
    · subst c2
      rw [if_pos (by omega), if_pos (by omega), show prv (k + 1) 0 = k from rfl, if_neg (Nat.lt_irrefl _), show nxt (k + 1) 0 = nxt k 0 by unfold nxt; split <;> split <;> omega, if_pos (by unfold nxt; split <;> omega)]
      exact hf
    · by_cases c3 : j = k - 1
      · subst c3
        rw [if_pos (by omega), if_pos (by omega), show prv (k + 1) (k - 1) = prv k (k - 1) by unfold prv; split <;> omega, if_pos (by unfold prv; split <;> omega), show nxt (k + 1) (k - 1) = k by unfold nxt; split <;> omega, if_neg (Nat.lt_irrefl _)]
        exact hl
      · have hj' : j < k := by omega
        rw [if_pos hj', if_pos hj', show prv (k + 1) j = prv k j by unfold prv; split <;> omega, if_pos (by unfold prv; split <;> omega), show nxt (k + 1) j = nxt k j by unfold nxt; split <;> split <;> omega, if_pos (by unfold nxt; split <;> omega)]
        obtain ⟨hs, ks, vi, vp, tx, ty, vz, v8, v9, vs, i1, i2⟩ := h j hj'
        exact ⟨hs, ks, vi, vp, tx, ty, vz, v8, v9, vs, sub _ i1 (hv _ hj' _ (by omega)) (hv _ hj' _ (by omega)), sub _ i2 (inj _ hj' _ (by omega) (by omega)) (inj _ hj' _ (by omega) (by omega))⟩
theorem inj_snoc {D : Nat → Addr} {k : Nat} {d : Addr} (inj : ∀ i < k, ∀ j < k, i ≠ j → D i ≠ D j) (hd : ∀ i < k, @LT.lt Nat _ (D i) d) :
    ∀ i < k + 1, ∀ j < k + 1, i ≠ j → (if i < k then D i else d) ≠ (if j < k then D j else d) := by
  intro i hi j hj hij
  by_cases c1 : i < k
  · by_cases c2 : j < k
    · rw [if_pos c1, if_pos c2]; exact inj i c1 j c2 hij
    · rw [if_pos c1, if_neg c2]; exact Nat.ne_of_lt (hd i c1)
  · by_cases c2 : j < k
    · rw [if_neg c1, if_pos c2]; exact (Nat.ne_of_lt (hd j c2)).symm
    · omega
end Mine
end

section
open PySem PySem.W PyProof.Rows PySem.Calls PyProof.V PySem.Spec
namespace Mine
def Nodes (ps : List (Int × Int)) (V : Nat → Addr) (led : List (Addr × Obj)) : Prop := ∀ i < ps.length, IsNode led (V i) (px ps i) (py ps i) (.ref (V (prv ps.length i))) (.ref (V (nxt ps.length i)))
theorem Nodes.at {ps : List (Int × Int)} {V : Nat → Addr} {led led' : List (Addr × Obj)} {i : Nat} (h : Nodes ps V led) (hi : i < ps.length) (k : ∀ p ∈ led, p ∈ led') : IsNode led' (V i) (px ps i) (py ps i) (.ref (V (prv ps.length i))) (.ref (V (nxt ps.length i))) := (h i hi).mono k
theorem prv_lt {n i : Nat} (hi : i < n) : prv n i < n := by unfold prv; split <;> omega
theorem nxt_lt {n i : Nat} (hi : i < n) : nxt n i < n := by unfold nxt; split <;> omega
theorem Pts.at {B : Nat} {led led' : List (Addr × Obj)} {n j : Nat} {C : Nat → Addr} {X Y : Nat → Int} (h : Pts B led n C X Y) (hj : j < n) (k : ∀ p ∈ led, p ∈ led') : IsPt B led' (C j) (X j) (Y j) := (h j hj).mono k
theorem Pts.at2 {B B' : Nat} {led led' : List (Addr × Obj)} {n j : Nat} {C : Nat → Addr} {X Y : Nat → Int} (h : Pts B led n C X Y) (hB : B ≤ B') (hj : j < n) (k : ∀ p ∈ led, p ∈ led') : IsPt B' led' (C j) (X j) (Y j) := ((h j hj).mono k).up hB
/-- what the loops read of the corners and of the nodes -/
structure Scn (ps : List (Int × Int)) (C V : Nat → Addr) (cl nl : Addr) (led : List (Addr × Obj)) : Prop where
  c : RefList led cl C ps.length
  p : Pts 1100000 led ps.length C (px ps) (py ps)
  v : RefList led nl V ps.length
  n : Nodes ps V led
theorem Scn.mono {ps : List (Int × Int)} {C V : Nat → Addr} {cl nl : Addr} {led led' : List (Addr × Obj)} (h : Scn ps C V cl nl led) (k : ∀ p ∈ led, p ∈ led') : Scn ps C V cl nl led' :=
  ⟨h.c.mono k, h.p.mono k, h.v.mono k, fun i hi => (h.n i hi).mono k⟩
/-- is k's side free of the corner i -/
def freeB (n i k : Nat) : Bool := decide (i ≠ k ∧ i ≠ (k + 1) % n)
def sideB (ps : List (Int × Int)) (i j k : Nat) : Bool :=
  meetP (px ps i) (py ps i) (px ps j) (py ps j) (px ps k) (py ps k) (px ps ((k + 1) % ps.length)) (py ps ((k + 1) % ps.length))
def metB (ps : List (Int × Int)) (i j : Nat) : Nat → Bool
  | 0 => false
  | k + 1 => metB ps i j k || (freeB ps.length i k && freeB ps.length j k && sideB ps i j k)
def skipB (ps : List (Int × Int)) (i j : Nat) : Bool :=
  (decide (j = i + 2) && decide (twiceP (px ps i) (py ps i) (px ps (i + 1)) (py ps (i + 1)) (px ps j) (py ps j) = 0)) ||
  (decide (j + 2 = i + ps.length) && decide (twiceP (px ps j) (py ps j) (px ps ((j + 1) % ps.length)) (py ps ((j + 1) % ps.length)) (px ps i) (py ps i) = 0))
def wayB (ps : List (Int × Int)) (i j : Nat) : Bool := insP ps.length (px ps) (py ps) (px ps i + px ps j) (py ps i + py ps j) ps.length
/-- i and j are no neighbours -/
def Apart (n i j : Nat) : Prop := i + 2 ≤ j ∧ j < n ∧ (i = 0 → j + 1 < n)
/-- a way that meets no side -/
def Way (ps : List (Int × Int)) (i j : Nat) : Prop := Apart ps.length i j ∧ skipB ps i j = false ∧ metB ps i j ps.length = false
def Diag (ps : List (Int × Int)) (i j : Nat) : Prop := Way ps i j ∧ wayB ps i j = true
/-- the list of the inner ways -/
def InnS (il : Addr) (base : List (Addr × Obj)) (ps : List (Int × Int)) (bd : Nat) (L : List (Nat × Nat)) (nx : List (Addr × Obj)) : Prop :=
  (∃ T nb, (il, listO (refs T L.length) nb) ∈ nx ∧ ∀ (t : Nat) (h : t < L.length), T t ≠ il ∧ ∃ tx ty n, (T t, tupO [.int (L[t].1 : Nat) tx, .int (L[t].2 : Nat) ty] n) ∈ nx) ∧
  (∀ p ∈ base, p ∈ nx ∧ p.1 ≠ il) ∧ (∀ x ∈ L, Diag ps x.1 x.2) ∧ L.length ≤ bd
section
variable {il : Addr} {base nx nx' own : List (Addr × Obj)} {ps : List (Int × Int)} {L : List (Nat × Nat)} {bd : Nat}
theorem InnS.mono (h : InnS il base ps bd L nx) (k : ∀ p ∈ nx, p ∈ nx') : InnS il base ps bd L nx' := by
  obtain ⟨⟨T, nb, h1, h2⟩, h3, h4⟩ := h
  refine ⟨⟨T, nb, k _ h1, fun t ht => ?_⟩, fun p hp => ⟨k _ (h3 p hp).1, (h3 p hp).2⟩, h4⟩
  obtain ⟨e, tx, ty, n, hm⟩ := h2 t ht
  exact ⟨e, tx, ty, n, k _ hm⟩
theorem InnS.on (h : InnS il base ps bd L nx) (ho : TbOff own nx) : InnS il (base ++ own) ps bd L (nx ++ own) := by
  have hil := h
  obtain ⟨⟨T, nb, h1, _⟩, _⟩ := hil
  obtain ⟨g1, g2, g3⟩ := h.mono (nx' := nx ++ own) fun p hp => List.mem_append_left _ hp
  refine ⟨g1, fun p hp => ?_, g3⟩
  rcases List.mem_append.mp hp with hp | hp
  · exact g2 p hp
  · exact ⟨List.mem_append_right _ hp, ho p hp _ h1⟩
theorem InnS.add {T : Nat → Addr} {t : Addr} {i j n nb : Nat} {tx ty : Tok} (g1 : (il, listO (refs T L.length ++ [.ref t]) nb) ∈ nx)
    (h2 : ∀ (t : Nat) (h : t < L.length), T t ≠ il ∧ ∃ tx ty n, (T t, tupO [.int (L[t].1 : Nat) tx, .int (L[t].2 : Nat) ty] n) ∈ nx)
    (h3 : ∀ p ∈ base, p ∈ nx ∧ p.1 ≠ il) (h4 : ∀ x ∈ L, Diag ps x.1 x.2) (h5 : L.length ≤ bd) (hn : t ≠ il) (hm : (t, tupO [.int (i : Nat) tx, .int (j : Nat) ty] n) ∈ nx) (hd : Diag ps i j) : InnS il base ps (bd + 1) (L ++ [(i, j)]) nx := by
  refine ⟨⟨fun k => if k < L.length then T k else t, nb, ?_, ?_⟩, h3, ?_, by simpa using h5⟩
  · rw [refs_snoc] at g1
    simpa using g1
  · intro k hk
    by_cases c : k < L.length
    · simp only [if_pos c]
      rw [List.getElem_append_left c]
      exact h2 k c
    · have e : k = L.length := by simp at hk; omega
      subst e
      simp only [if_neg c]
      exact ⟨hn, tx, ty, n, by simpa using hm⟩
  · intro x hx
    rcases List.mem_append.mp hx with hx | hx
    · exact h4 x hx
    · rw [List.mem_singleton.mp hx]; exact hd
open Classical in
theorem in_end {b : Nat → Nat} {h₀ h' : Heap} {A : Addr} {m' m₀ : Str → Option Value} {i tk : Nat} {s₁ : Shared} {junk : List Str}
    (F : Fr h₀ A h' m') (N : News h₀ A h' nx') (hI : InnS il (base ++ own) ps bd L nx') (hbd : bd ≤ b (i + 1)) (hio : ∀ p ∈ own, IterO p.2) (hb : ∀ p ∈ base, ∀ q ∈ own, q.1 ≠ p.1)
    (h2 : ∀ z, (∀ p ∈ ([] : List (Str × Value)), z ≠ p.1) → (∀ y ∈ junk, z ≠ y) → m' z = m₀ z) :
    TbEnd h₀ A (StJ (fun i st nx => InnS il base ps (b i) st nx) (fun _ => []) junk m₀ (i + 1)) own s₁ { s₁ with heap := h', toks := tk } := by
  obtain ⟨⟨T, nb, g1, g2⟩, g3, g4, g5⟩ := hI
  refine ⟨h', tk, m', _, nx'.filter (fun p => decide (∀ q ∈ own, q.1 ≠ p.1)), rfl, F, N, fun p hp => (List.mem_filter.mp hp).1, fun q hq => (g3 q (List.mem_append_right _ hq)).1, ?_, .intro L fx_nil h2 ⟨⟨T, nb, ?_, ?_⟩, ?_, g4, Nat.le_trans g5 hbd⟩⟩
  · intro q hq p hp
    exact of_decide_eq_true (List.mem_filter.mp hp).2 q hq
  · exact List.mem_filter.mpr ⟨g1, decide_eq_true fun q hq => (g3 q (List.mem_append_right _ hq)).2⟩
  · intro t ht
    obtain ⟨e, tx, ty, n, hm⟩ := g2 t ht
    exact ⟨e, tx, ty, n, List.mem_filter.mpr ⟨hm, decide_eq_true fun q hq => ne_of_cls N (g3 q (List.mem_append_right _ hq)).1 hm ((hio q hq).ne (not_iter_tup (vs := [_, _])))⟩⟩
  · intro p hp
    exact ⟨List.mem_filter.mpr ⟨(g3 p (List.mem_append_left _ hp)).1, decide_eq_true fun q hq => hb p hp q hq⟩, (g3 p (List.mem_append_left _ hp)).2⟩
end
section
variable {prog : Program} {w : World} {A : Around} {E : Value → Shared → Prop} {s : Shared} {h₀ : Heap} {L : Addr} {led : List (Addr × Obj)}
theorem notin_pair {a : Addr} {x y k : Int} {tx ty u : Tok} {n : Nat} {Q : Value → Shared → Prop} (N : News h₀ L s.heap led) (hm : (a, ({ cls := .type "tuple", data := .seq #[.int x tx, .int y ty] n } : Obj)) ∈ led)
    (h : Q (.bool (decide (k ≠ x ∧ k ≠ y))) s) : wpAny (model prog w) A (compareOp .NotIn (.int k u) (.ref a)) Q E s := by
  refine SeqAt.notIn_tupleAt (items := #[.int x tx, .int y ty]) (fun v => match v with | .int z _ => z == k | _ => false) (News.isTup N hm) ?_ ?_
  · intro v hv
    simp only [List.mem_toArray, List.mem_cons, List.not_mem_nil, or_false] at hv
    rcases hv with rfl | rfl
    · exact SeqAt.EqAt.int_int _ _ _ _
    · exact SeqAt.EqAt.int_int _ _ _ _
  · have e : (!(#[Value.int x tx, Value.int y ty] : Array Value).any (fun v => match v with | .int z _ => z == k | _ => false)) = decide (k ≠ x ∧ k ≠ y) := by
      rw [Bool.eq_iff_iff]
      simp
      omega
    rw [e]
    exact h
theorem range_gap {n i : Nat} (hi : i < n) : Builtin.Range.rangeSize ((i : Int) + 2) (if i = 0 then (n : Int) - 1 else n) 1 = (((if i = 0 then n - 1 else n) - (i + 2) : Nat) : Int) := by
  unfold Builtin.Range.rangeSize
  rw [if_pos (by decide), Int.ediv_one]
  split <;> split <;> omega
theorem ixn_s (n i : Nat) : ixn n ((i : Int) + 1) = i + 1 := by unfold ixn; split <;> omega
theorem ixn_w {n j : Nat} (hj : j < n) : ixn n ((j : Int) + 1 - (n : Int)) = (j + 1) % n := by
  by_cases h : j + 1 = n
  · rw [h, Nat.mod_self]; unfold ixn; split <;> omega
  · rw [Nat.mod_eq_of_lt (by omega)]; unfold ixn; split <;> omega
section
variable {ps : List (Int × Int)} {i j : Nat}
theorem skip_t1 (h1 : (j : Int) = i + 2) (h2 : twiceP (px ps i) (py ps i) (px ps (ixn ps.length ((i : Int) + 1))) (py ps (ixn ps.length ((i : Int) + 1))) (px ps j) (py ps j) = 0) : true = skipB ps i j := by
  rw [ixn_s] at h2
  unfold skipB
  rw [decide_eq_true (p := j = i + 2) (by omega), decide_eq_true h2]
  rfl
theorem skip_t2 (hj : j < ps.length) (h1 : (j : Int) = i + ps.length - 2) (h2 : twiceP (px ps j) (py ps j) (px ps (ixn ps.length ((j : Int) + 1 - (ps.length : Int)))) (py ps (ixn ps.length ((j : Int) + 1 - (ps.length : Int)))) (px ps i) (py ps i) = 0) : true = skipB ps i j := by
  rw [ixn_w hj] at h2
  unfold skipB
  rw [decide_eq_true (p := j + 2 = i + ps.length) (by omega), decide_eq_true h2, Bool.and_self, Bool.or_true]
theorem skip_f (hj : j < ps.length) (h1 : (j : Int) ≠ i + 2 ∨ twiceP (px ps i) (py ps i) (px ps (ixn ps.length ((i : Int) + 1))) (py ps (ixn ps.length ((i : Int) + 1))) (px ps j) (py ps j) ≠ 0)
    (h2 : (j : Int) ≠ i + ps.length - 2 ∨ twiceP (px ps j) (py ps j) (px ps (ixn ps.length ((j : Int) + 1 - (ps.length : Int)))) (py ps (ixn ps.length ((j : Int) + 1 - (ps.length : Int)))) (px ps i) (py ps i) ≠ 0) : false = skipB ps i j := by
  rw [ixn_s] at h1
  rw [ixn_w hj] at h2
  unfold skipB
  have e1 : (decide (j = i + 2) && decide (twiceP (px ps i) (py ps i) (px ps (i + 1)) (py ps (i + 1)) (px ps j) (py ps j) = 0)) = false := by
    rcases h1 with h | h
    · rw [decide_eq_false (by omega), Bool.false_and]
    · rw [decide_eq_false h, Bool.and_false]
  have e2 : (decide (j + 2 = i + ps.length) && decide (twiceP (px ps j) (py ps j) (px ps ((j + 1) % ps.length)) (py ps ((j + 1) % ps.length)) (px ps i) (py ps i) = 0)) = false := by
    rcases h2 with h | h
    · rw [decide_eq_false (by omega), Bool.false_and]
    · rw [decide_eq_false h, Bool.and_false]
  rw [e1, e2]
  rfl
end
theorem fmod_cast (k n : Nat) : ((k : Int) + 1).fmod (n : Int) = (((k + 1) % n : Nat) : Int) := by
  rw [Int.fmod_eq_emod_of_nonneg _ (Int.natCast_nonneg n)]
  rfl
theorem mod_ne {k n : Nat} (hn : 2 ≤ n) (hk : k < n) : k ≠ (k + 1) % n := by
  by_cases h : k + 1 = n
  · rw [h, Nat.mod_self]; omega
  · rw [Nat.mod_eq_of_lt (by omega)]; omega
section
variable {ps : List (Int × Int)} {i j k e : Nat} {st : Bool}
theorem met_t (h : st = metB ps i j k) (h' : st = true) : st = metB ps i j (k + 1) := by
  rw [metB, ← h, h', Bool.true_or]
theorem met_f (h : st = metB ps i j k) (h' : st = false) (he : (k + 1) % ps.length = e) (h1 : (i : Int) ≠ k ∧ (i : Int) ≠ e) (h2 : (j : Int) ≠ k ∧ (j : Int) ≠ e) :
    meetP (px ps i) (py ps i) (px ps j) (py ps j) (px ps k) (py ps k) (px ps e) (py ps e) = metB ps i j (k + 1) := by
  have f1 : freeB ps.length i k = true := by unfold freeB; rw [he]; exact decide_eq_true (by omega)
  have f2 : freeB ps.length j k = true := by unfold freeB; rw [he]; exact decide_eq_true (by omega)
  rw [metB, ← h, h', f1, f2]
  simp only [sideB, he, Bool.false_or, Bool.true_and]
theorem met_n (h : st = metB ps i j k) (he : (k + 1) % ps.length = e) (h1 : ¬((i : Int) ≠ k ∧ (i : Int) ≠ e) ∨ ¬((j : Int) ≠ k ∧ (j : Int) ≠ e)) : st = metB ps i j (k + 1) := by
  have : (freeB ps.length i k && freeB ps.length j k) = false := by
    rcases h1 with h1 | h1
    · have f1 : freeB ps.length i k = false := by unfold freeB; rw [he]; exact decide_eq_false (by omega)
      rw [f1, Bool.false_and]
    · have f1 : freeB ps.length j k = false := by unfold freeB; rw [he]; exact decide_eq_false (by omega)
      rw [f1, Bool.and_false]
  rw [metB, ← h, this, Bool.false_and, Bool.or_false]
end
theorem ne_same {l b : Addr} {its : Array Value} {n n2 : Nat} {Q : Value → Shared → Prop} (N : News h₀ L s.heap led) (hl : (l, ({ cls := .type "list", data := .seq its n } : Obj)) ∈ led) (hb : (b, ({ cls := .type "list", data := .seq its n2 } : Obj)) ∈ led)
    (hu : A.units < cLine) (h : Q (.bool false) s) : wpAny (model prog w) A (compareOp .NotEq (.ref l) (.ref b)) Q E s := by
  refine SeqAt.RcNeAt.lists (e := fun _ => true) ⟨_, (N _ hl).1, rfl, n, rfl⟩ ⟨_, (N _ hb).1, rfl, n2, rfl⟩ rfl hu (fun j _ _ => SeqAt.EqAt.same _) prog w E Q ?_
  rw [show (List.range its.size).all (fun _ => true) = true by simp]
  exact h
theorem eq_same {l b : Addr} {its : Array Value} {n n2 : Nat} {Q : Value → Shared → Prop} (N : News h₀ L s.heap led) (hl : (l, ({ cls := .type "list", data := .seq its n } : Obj)) ∈ led) (hb : (b, ({ cls := .type "list", data := .seq its n2 } : Obj)) ∈ led)
    (hu : A.units < cLine) (h : Q (.bool true) s) : wpAny (model prog w) A (compareOp .Eq (.ref l) (.ref b)) Q E s := by
  refine SeqAt.eq_listAt (e := fun _ => true) ⟨_, (N _ hl).1, rfl, n, rfl⟩ ⟨_, (N _ hb).1, rfl, n2, rfl⟩ rfl hu (fun j _ _ => SeqAt.EqAt.same _) ?_
  rw [show (List.range its.size).all (fun _ => true) = true by simp]
  exact h
/-- one way on from a test's value -/
theorem join_heap {α : Type} {M : Model} {c : Sem α} {m : Str → Option Value} {Q : α → Shared → Prop} (_ : Fr h₀ L s.heap m) (_ : News h₀ L s.heap led) (R : α → Prop)
    (h1 : wpAny M A c (fun v s' => Halt (∃ h' tk, s' = { s with heap := h', toks := tk } ∧ R v ∧ Fr h₀ L h' m ∧ News h₀ L h' led)) E s)
    (h2 : ∀ v h' tk, R v → Fr h₀ L h' m → News h₀ L h' led → Q v { s with heap := h', toks := tk }) : wpAny M A c Q E s :=
  wpAny_mono h1 (fun v s' h => by
    obtain ⟨h', tk, rfl, hR, F', N'⟩ := h
    exact h2 v h' tk hR F' N') fun _ _ h => h
end
/-- a list of falses -/
def FalS (al : Addr) (base : List (Addr × Obj)) (bd n : Nat) (nx : List (Addr × Obj)) : Prop :=
  (∃ nb, (al, listO (List.replicate n (.bool false)) nb) ∈ nx) ∧ (∀ p ∈ base, p ∈ nx ∧ p.1 ≠ al) ∧ n ≤ bd
section
variable {al : Addr} {base nx nx' own led : List (Addr × Obj)} {bd n : Nat}
theorem FalS.mono (h : FalS al base bd n nx) (k : ∀ p ∈ nx, p ∈ nx') : FalS al base bd n nx' := by
  obtain ⟨⟨nb, h1⟩, h3, h4⟩ := h
  exact ⟨⟨nb, k _ h1⟩, fun p hp => ⟨k _ (h3 p hp).1, (h3 p hp).2⟩, h4⟩
theorem FalS.on (h : FalS al base bd n nx) (ho : TbOff own nx) : FalS al (base ++ own) bd n (nx ++ own) := by
  obtain ⟨⟨nb, h1⟩, h3, h4⟩ := h
  refine ⟨⟨nb, List.mem_append_left _ h1⟩, fun p hp => ?_, h4⟩
  rcases List.mem_append.mp hp with hp | hp
  · exact ⟨List.mem_append_left _ (h3 p hp).1, (h3 p hp).2⟩
  · exact ⟨List.mem_append_right _ hp, ho p hp _ h1⟩
theorem FalS.push {nb : Nat} (h3 : ∀ p ∈ base, p ∈ nx ∧ p.1 ≠ al) (s3 : ∀ p ∈ nx, p ∈ led) (h5 : n ≤ bd) :
    FalS al base (bd + 1) (n + 1) ((al, listO (List.replicate n (.bool false) ++ [.bool false]) nb) :: lessA al led) := by
  refine ⟨⟨nb, ?_⟩, fun p hp => ⟨.tail _ (lessA_mem (s3 p (h3 p hp).1) (h3 p hp).2), (h3 p hp).2⟩, by omega⟩
  rw [← List.replicate_succ']
  exact .head _
open Classical in
theorem fal_end {b : Nat → Nat} {h₀ h' : Heap} {A : Addr} {m' m₀ : Str → Option Value} {i tk : Nat} {s₁ : Shared} {junk : List Str}
    (F : Fr h₀ A h' m') (N : News h₀ A h' nx') (hI : FalS al (base ++ own) bd n nx') (hbd : bd ≤ b (i + 1)) (hio : ∀ p ∈ own, IterO p.2) (hb : ∀ p ∈ base, ∀ q ∈ own, q.1 ≠ p.1)
    (h2 : ∀ z, (∀ p ∈ ([] : List (Str × Value)), z ≠ p.1) → (∀ y ∈ junk, z ≠ y) → m' z = m₀ z) :
    TbEnd h₀ A (StJ (fun i st nx => FalS al base (b i) st nx) (fun _ => []) junk m₀ (i + 1)) own s₁ { s₁ with heap := h', toks := tk } := by
  obtain ⟨⟨nb, g1⟩, g3, g5⟩ := hI
  refine ⟨h', tk, m', _, nx'.filter (fun p => decide (∀ q ∈ own, q.1 ≠ p.1)), rfl, F, N, fun p hp => (List.mem_filter.mp hp).1, fun q hq => (g3 q (List.mem_append_right _ hq)).1, ?_, .intro n fx_nil h2 ⟨⟨nb, ?_⟩, ?_, Nat.le_trans g5 hbd⟩⟩
  · intro q hq p hp
    exact of_decide_eq_true (List.mem_filter.mp hp).2 q hq
  · exact List.mem_filter.mpr ⟨g1, decide_eq_true fun q hq => (g3 q (List.mem_append_right _ hq)).2⟩
  · intro p hp
    exact ⟨List.mem_filter.mpr ⟨(g3 p (List.mem_append_left _ hp)).1, decide_eq_true fun q hq => hb p hp q hq⟩, (g3 p (List.mem_append_left _ hp)).2⟩
end
theorem name_head {h₀ h : Heap} {L a : Addr} {o : Obj} {led : List (Addr × Obj)} (_ : News h₀ L h ((a, o) :: led)) : ∃ b, b = a := ⟨_, rfl⟩
section
variable {prog : Program} {w : World} {A : Around} {h₀ : Heap} {L : Addr} {m : Str → Option Value} {env : Env}
/-- a comprehension whose test lets no element through -/
theorem comp_none {ct elt : PySem.Expr} {x : Str} {scope : Scope} {cl : List (Str × Addr)} {s : Shared} {S : List (Addr × Obj) → Prop} {Fin : List Value → List (Addr × Obj) → Prop} {n : Nat} {u : Value} {led : List (Addr × Obj)} (hS : S led)
    (turn : ∀ (I : Addr) (oI : Obj) (C : Addr) (oC : Obj) (D : Addr) (m₂ : Str → Option Value) (h : Heap) (tk : Nat) (E' : Value → Shared → Prop), LCg.NsObj oC m₂ → m₂ x = some u → Fr h₀ L h m →
      News h₀ L h ((I, oI) :: (C, oC) :: (D, LCg.lst []) :: led) → LCg.Off3 I C D led → ((@Ne Nat I C) ∧ (@Ne Nat I D) ∧ (@Ne Nat C D)) →
      wpAny (model prog w) A (isTrue ct (compEnvC scope cl C env) (eval ct (compEnvC scope cl C env))) (fun ok s' => Halt (ok = false ∧ ∃ h' tk', s' = { s with heap := h', toks := tk' } ∧ Fr h₀ L h' m ∧ News h₀ L h' ((I, oI) :: (C, oC) :: (D, LCg.lst []) :: led))) E' { s with heap := h, toks := tk })
    (fin : Fin [] led) :
    LCt.CompRestT prog w A h₀ L m env ct elt x scope cl s S (fun i v => (List.replicate n u).toArray[i]? = some v) Fin (List.replicate n u).toArray.size 0 [] led := by
  have key : ∀ (k i : Nat), LCt.CompRestT prog w A h₀ L m env ct elt x scope cl s S (fun i v => (List.replicate n u).toArray[i]? = some v) Fin k i [] led := by
    intro k
    induction k with
    | zero => exact fun i => LCt.CompRestT.zero fin
    | succ k ih =>
      intro i
      refine LCt.CompRestT.succ ?_
      intro v I oI C oC D m₂ h tk E' hv hC hx F N off ne
      have hu : v = u := by
        rw [List.getElem?_toArray] at hv
        exact List.eq_of_mem_replicate (List.mem_of_getElem? hv)
      subst hu
      refine wpAny_mono (turn I oI C oC D m₂ h tk E' hC hx F N off ne) (fun ok s₂ e => ?_) fun _ _ e => e
      obtain ⟨rfl, h', tk', rfl, F', N'⟩ := e
      rw [if_neg (by decide)]
      exact LCg.CompEnd.intro F' N' led (fun p hp => hp) off hS (ih (i + 1))
  exact key _ 0
end
end Mine
end

section
namespace Mine
theorem mul_pos_cancel {a b : Int} (ha : 0 < a) : (0 < a * b ↔ 0 < b) ∧ (a * b < 0 ↔ b < 0) ∧ (a * b = 0 ↔ b = 0) ∧ (0 ≤ a * b ↔ 0 ≤ b) ∧ (a * b ≤ 0 ↔ b ≤ 0) := by
  have h1 : 0 < b → 0 < a * b := Int.mul_pos ha
  have h2 : b < 0 → a * b < 0 := Int.mul_neg_of_pos_of_neg ha
  have h3 : b = 0 → a * b = 0 := fun h => by rw [h, Int.mul_zero]
  refine ⟨⟨fun h => ?_, h1⟩, ⟨fun h => ?_, h2⟩, ⟨fun h => ?_, h3⟩, ⟨fun h => ?_, fun h => ?_⟩, ⟨fun h => ?_, fun h => ?_⟩⟩ <;> (rcases Int.lt_trichotomy b 0 with h4 | h4 | h4 <;> first | (have := h1 h4; omega) | (have := h2 h4; omega) | (have := h3 h4; omega))
theorem meet_swap {ax ay bx yb cx cy dx dy : Int} : meetP ax ay bx yb cx cy dx dy = meetP cx cy dx dy ax ay bx yb := by
  have k (r u : Int) : apartP r u ax ay bx yb cx cy dx dy = apartP r u cx cy dx dy ax ay bx yb := by
    unfold apartP; exact decide_eq_decide.mpr Or.comm
  unfold meetP
  rw [k, k, k, k]
  cases apartP (-(yb - ay)) (bx - ax) cx cy dx dy ax ay bx yb <;> cases apartP (-(dy - cy)) (dx - cx) cx cy dx dy ax ay bx yb <;> cases apartP (bx - ax) (yb - ay) cx cy dx dy ax ay bx yb <;> cases apartP (dx - cx) (dy - cy) cx cy dx dy ax ay bx yb <;> rfl
theorem areaT {ax ay bx yb cx cy : Int} : areaP ax ay bx yb cx cy = -(twiceP ax ay bx yb cx cy) := by unfold areaP twiceP; grind
theorem sg_ne {x y : Int} : signP (-x) ≠ signP (-y) ↔ ¬((0 < x ∧ 0 < y) ∨ (x < 0 ∧ y < 0) ∨ (x = 0 ∧ y = 0)) := by
  unfold signP; split <;> split <;> (try split) <;> (try split) <;> omega
theorem sg_z {x : Int} : signP (-x) = 0 ↔ x = 0 := by
  unfold signP; split <;> (try split) <;> omega
/-- intersects by the crosses -/
theorem interP_iff {ax ay bx yb cx cy dx dy : Int} : interP ax ay bx yb cx cy dx dy = true ↔
    (¬((0 < twiceP ax ay bx yb cx cy ∧ 0 < twiceP ax ay bx yb dx dy) ∨ (twiceP ax ay bx yb cx cy < 0 ∧ twiceP ax ay bx yb dx dy < 0) ∨ (twiceP ax ay bx yb cx cy = 0 ∧ twiceP ax ay bx yb dx dy = 0)) ∧
     ¬((0 < twiceP cx cy dx dy ax ay ∧ 0 < twiceP cx cy dx dy bx yb) ∨ (twiceP cx cy dx dy ax ay < 0 ∧ twiceP cx cy dx dy bx yb < 0) ∨ (twiceP cx cy dx dy ax ay = 0 ∧ twiceP cx cy dx dy bx yb = 0))) ∨
    (twiceP ax ay bx yb cx cy = 0 ∧ onSegP ax ay cx cy bx yb = true) ∨ (twiceP ax ay bx yb dx dy = 0 ∧ onSegP ax ay dx dy bx yb = true) ∨
    (twiceP cx cy dx dy ax ay = 0 ∧ onSegP cx cy ax ay dx dy = true) ∨ (twiceP cx cy dx dy bx yb = 0 ∧ onSegP cx cy bx yb dx dy = true) := by
  unfold interP
  simp only [areaT, Bool.or_eq_true, Bool.and_eq_true, decide_eq_true_eq, sg_z]
  rw [sg_ne, sg_ne]
  simp only [or_assoc]
theorem onseg_iff {r u ax ay bx yb cx cy : Int} (hT : twiceP ax ay bx yb cx cy = 0) (hg : r * ax + u * ay < r * bx + u * yb) :
    onSegP ax ay cx cy bx yb = true ↔ (r * ax + u * ay ≤ r * cx + u * cy ∧ r * cx + u * cy ≤ r * bx + u * yb) := by
  unfold twiceP at hT
  obtain ⟨p, hp⟩ : ∃ p, bx = ax + p := ⟨bx - ax, by omega⟩
  obtain ⟨q, hq⟩ : ∃ q, yb = ay + q := ⟨yb - ay, by omega⟩
  obtain ⟨v, hv⟩ : ∃ v, cx = ax + v := ⟨cx - ax, by omega⟩
  obtain ⟨w, hw⟩ : ∃ w, cy = ay + w := ⟨cy - ay, by omega⟩
  subst hp hq hv hw
  obtain ⟨G, hG⟩ : ∃ G, G = r * p + u * q := ⟨_, rfl⟩
  obtain ⟨g, hg'⟩ : ∃ g, g = r * v + u * w := ⟨_, rfl⟩
  have e1 : r * (ax + p) + u * (ay + q) = r * ax + u * ay + G := by grind
  have e2 : r * (ax + v) + u * (ay + w) = r * ax + u * ay + g := by grind
  have hT' : p * w = q * v := by grind
  have i1 : G * v = g * p := by grind
  have i2 : G * w = g * q := by grind
  have hG0 : 0 < G := by omega
  have j1 : (G - g) * p = G * (p - v) := by grind
  have j2 : (G - g) * q = G * (q - w) := by grind
  rw [e1, e2]
  unfold onSegP
  simp only [decide_eq_true_eq]
  constructor
  · intro h
    have hbox : (0 ≤ p → 0 ≤ v ∧ v ≤ p) ∧ (p ≤ 0 → p ≤ v ∧ v ≤ 0) ∧ (0 ≤ q → 0 ≤ w ∧ w ≤ q) ∧ (q ≤ 0 → q ≤ w ∧ w ≤ 0) := by omega
    have key : 0 ≤ g ∧ 0 ≤ G - g := by
      rcases Int.lt_trichotomy p 0 with c | c | c
      · have h1 := hbox.2.1 (by omega)
        have k1 : 0 ≤ (-p) * g := by have := Int.mul_nonneg (show 0 ≤ G by omega) (show 0 ≤ -v by omega); grind
        have k2 : 0 ≤ (-p) * (G - g) := by have := Int.mul_nonneg (show 0 ≤ G by omega) (show 0 ≤ v - p by omega); grind
        exact ⟨(mul_pos_cancel (by omega)).2.2.2.1.mp k1, (mul_pos_cancel (by omega)).2.2.2.1.mp k2⟩
      · rcases Int.lt_trichotomy q 0 with d | d | d
        · have h1 := hbox.2.2.2 (by omega)
          have k1 : 0 ≤ (-q) * g := by have := Int.mul_nonneg (show 0 ≤ G by omega) (show 0 ≤ -w by omega); grind
          have k2 : 0 ≤ (-q) * (G - g) := by have := Int.mul_nonneg (show 0 ≤ G by omega) (show 0 ≤ w - q by omega); grind
          exact ⟨(mul_pos_cancel (by omega)).2.2.2.1.mp k1, (mul_pos_cancel (by omega)).2.2.2.1.mp k2⟩
        · subst c d; simp at hG; omega
        · have h1 := hbox.2.2.1 (by omega)
          have k1 : 0 ≤ q * g := by have := Int.mul_nonneg (show 0 ≤ G by omega) (show 0 ≤ w by omega); grind
          have k2 : 0 ≤ q * (G - g) := by have := Int.mul_nonneg (show 0 ≤ G by omega) (show 0 ≤ q - w by omega); grind
          exact ⟨(mul_pos_cancel (by omega)).2.2.2.1.mp k1, (mul_pos_cancel (by omega)).2.2.2.1.mp k2⟩
      · have h1 := hbox.1 (by omega)
        have k1 : 0 ≤ p * g := by have := Int.mul_nonneg (show 0 ≤ G by omega) (show 0 ≤ v by omega); grind
        have k2 : 0 ≤ p * (G - g) := by have := Int.mul_nonneg (show 0 ≤ G by omega) (show 0 ≤ p - v by omega); grind
        exact ⟨(mul_pos_cancel (by omega)).2.2.2.1.mp k1, (mul_pos_cancel (by omega)).2.2.2.1.mp k2⟩
    omega
  · intro h
    have h0 : 0 ≤ g := by omega
    have h1 : 0 ≤ G - g := by omega
    have f (p v : Int) (i1 : G * v = g * p) (j1 : (G - g) * p = G * (p - v)) : (0 ≤ p → 0 ≤ v ∧ v ≤ p) ∧ (p ≤ 0 → p ≤ v ∧ v ≤ 0) := by
      constructor
      · intro hp
        have a1 := (mul_pos_cancel hG0 (b := v)).2.2.2.1.mp (by rw [i1]; exact Int.mul_nonneg h0 hp)
        have a2 := (mul_pos_cancel hG0 (b := p - v)).2.2.2.1.mp (by rw [← j1]; exact Int.mul_nonneg h1 hp)
        omega
      · intro hp
        have a1 := (mul_pos_cancel hG0 (b := -v)).2.2.2.1.mp (by have := Int.mul_nonneg h0 (show 0 ≤ -p by omega); grind)
        have a2 := (mul_pos_cancel hG0 (b := v - p)).2.2.2.1.mp (by have := Int.mul_nonneg h1 (show 0 ≤ -p by omega); grind)
        omega
    have f1 := f p v i1 j1
    have f2 := f q w i2 j2
    omega
theorem wts {α β γ δ ga gb gc gd : Int} (h1 : 0 ≤ α) (h2 : 0 ≤ β) (h3 : 0 ≤ γ) (h4 : 0 ≤ δ) (hs : α + β = γ + δ) (hp : 0 < α + β) (e : α * ga + β * gb = γ * gc + δ * gd) : ¬ (max ga gb < min gc gd) := by
  intro hlt
  obtain ⟨m, hm⟩ : ∃ m, m = max ga gb := ⟨_, rfl⟩
  obtain ⟨k, hk⟩ : ∃ k, k = min gc gd := ⟨_, rfl⟩
  have a1 := Int.mul_nonneg h1 (show 0 ≤ m - ga by omega)
  have a2 := Int.mul_nonneg h2 (show 0 ≤ m - gb by omega)
  have a3 := Int.mul_nonneg h3 (show 0 ≤ gc - k by omega)
  have a4 := Int.mul_nonneg h4 (show 0 ≤ gd - k by omega)
  have a5 := Int.mul_pos hp (show 0 < k - m by omega)
  have a6 : (α + β) * (k - m) = (α * ga + β * gb) - (γ * gc + δ * gd) - α * (m - ga) - β * (m - gb) - γ * (gc - k) - δ * (gd - k) := by
    have : (α + β) * k = (γ + δ) * k := by rw [hs]
    grind
  omega
theorem apart_n1 {ax ay bx yb cx cy dx dy : Int} : apartP (-(yb - ay)) (bx - ax) ax ay bx yb cx cy dx dy = true ↔
    ((0 < twiceP ax ay bx yb cx cy ∧ 0 < twiceP ax ay bx yb dx dy) ∨ (twiceP ax ay bx yb cx cy < 0 ∧ twiceP ax ay bx yb dx dy < 0)) := by
  have e1 : -(yb - ay) * bx + (bx - ax) * yb = -(yb - ay) * ax + (bx - ax) * ay := by grind
  have e2 : -(yb - ay) * cx + (bx - ax) * cy = -(yb - ay) * ax + (bx - ax) * ay + twiceP ax ay bx yb cx cy := by unfold twiceP; grind
  have e3 : -(yb - ay) * dx + (bx - ax) * dy = -(yb - ay) * ax + (bx - ax) * ay + twiceP ax ay bx yb dx dy := by unfold twiceP; grind
  unfold apartP
  rw [e1, e2, e3]
  simp only [decide_eq_true_eq]
  generalize -(yb - ay) * ax + (bx - ax) * ay = g
  omega
theorem apart_n2 {ax ay bx yb cx cy dx dy : Int} : apartP (-(dy - cy)) (dx - cx) ax ay bx yb cx cy dx dy = true ↔
    ((0 < twiceP cx cy dx dy ax ay ∧ 0 < twiceP cx cy dx dy bx yb) ∨ (twiceP cx cy dx dy ax ay < 0 ∧ twiceP cx cy dx dy bx yb < 0)) := by
  rw [← apart_n1]
  unfold apartP
  simp only [decide_eq_true_eq]
  exact Or.comm
theorem T_rel {ax ay bx yb cx cy dx dy : Int} : twiceP cx cy dx dy bx yb - twiceP cx cy dx dy ax ay = twiceP ax ay bx yb cx cy - twiceP ax ay bx yb dx dy := by unfold twiceP; grind
theorem T_vec {ax ay bx yb cx cy dx dy r u : Int} : twiceP cx cy dx dy bx yb * (r * ax + u * ay) - twiceP cx cy dx dy ax ay * (r * bx + u * yb) = twiceP ax ay bx yb cx cy * (r * dx + u * dy) - twiceP ax ay bx yb dx dy * (r * cx + u * cy) := by unfold twiceP; grind
theorem no_sep {t1 t2 t3 t4 ga gb gc gd : Int} (hr : t4 - t3 = t1 - t2) (hv : t4 * ga - t3 * gb = t1 * gd - t2 * gc)
    (h1 : ¬((0 < t1 ∧ 0 < t2) ∨ (t1 < 0 ∧ t2 < 0) ∨ (t1 = 0 ∧ t2 = 0))) (h2 : ¬((0 < t3 ∧ 0 < t4) ∨ (t3 < 0 ∧ t4 < 0) ∨ (t3 = 0 ∧ t4 = 0))) : ¬ (max ga gb < min gc gd) := by
  by_cases hW : 0 < t1 - t2
  · exact wts (α := t4) (β := -t3) (γ := -t2) (δ := t1) (by omega) (by omega) (by omega) (by omega) (by omega) (by omega) (by grind)
  · exact wts (α := -t4) (β := t3) (γ := t2) (δ := -t1) (by omega) (by omega) (by omega) (by omega) (by omega) (by omega) (by grind)
theorem seg_between {ax ay bx yb cx cy : Int} (r u : Int) (hT : twiceP ax ay bx yb cx cy = 0) (hs : onSegP ax ay cx cy bx yb = true) :
    min (r * ax + u * ay) (r * bx + u * yb) ≤ r * cx + u * cy ∧ r * cx + u * cy ≤ max (r * ax + u * ay) (r * bx + u * yb) := by
  rcases Int.lt_trichotomy (r * ax + u * ay) (r * bx + u * yb) with h | h | h
  · have := (onseg_iff hT h).mp hs; omega
  · have e : r * cx + u * cy = r * ax + u * ay := by
      unfold onSegP at hs
      simp only [decide_eq_true_eq] at hs
      unfold twiceP at hT
      by_cases hx : bx = ax
      · by_cases hy : yb = ay
        · have : cx = ax := by omega
          have : cy = ay := by omega
          grind
        · have hx' : cx = ax := by omega
          subst hx hx'
          have hu : u * (yb - ay) = 0 := by grind
          rcases Int.mul_eq_zero.mp hu with h0 | h0
          · subst h0; simp
          · omega
      · have k : (bx - ax) * ((r * cx + u * cy) - (r * ax + u * ay)) = 0 := by grind
        rcases Int.mul_eq_zero.mp k with h0 | h0 <;> omega
    omega
  · have h' : (-r) * ax + (-u) * ay < (-r) * bx + (-u) * yb := by grind
    have := (onseg_iff hT h').mp hs
    have e1 : (-r) * ax + (-u) * ay = -(r * ax + u * ay) := by grind
    have e2 : (-r) * bx + (-u) * yb = -(r * bx + u * yb) := by grind
    have e3 : (-r) * cx + (-u) * cy = -(r * cx + u * cy) := by grind
    omega
theorem not_apart {r u ax ay bx yb cx cy dx dy : Int} (h : interP ax ay bx yb cx cy dx dy = true) : apartP r u ax ay bx yb cx cy dx dy = false := by
  rw [interP_iff] at h
  rw [apartP, decide_eq_false_iff_not]
  rcases h with ⟨h1, h2⟩ | ⟨h1, h2⟩ | ⟨h1, h2⟩ | ⟨h1, h2⟩ | ⟨h1, h2⟩
  · have hv := T_vec (ax := ax) (ay := ay) (bx := bx) (yb := yb) (cx := cx) (cy := cy) (dx := dx) (dy := dy) (r := r) (u := u)
    have s1 := no_sep T_rel hv h1 h2
    have s2 := no_sep (ga := -(r * ax + u * ay)) (gb := -(r * bx + u * yb)) (gc := -(r * cx + u * cy)) (gd := -(r * dx + u * dy)) T_rel (by grind) h1 h2
    omega
  · have := seg_between r u h1 h2; omega
  · have := seg_between r u h1 h2; omega
  · have := seg_between r u h1 h2; omega
  · have := seg_between r u h1 h2; omega
theorem sq_nn (x : Int) : 0 ≤ x * x := by
  rcases Int.le_total 0 x with h | h
  · exact Int.mul_nonneg h h
  · have := Int.mul_nonneg (show 0 ≤ -x by omega) (show 0 ≤ -x by omega)
    grind
theorem sq_pos {x y : Int} (h : x ≠ 0 ∨ y ≠ 0) : 0 < x * x + y * y := by
  have a := sq_nn x
  have b := sq_nn y
  rcases h with h | h
  · have : x * x ≠ 0 := fun e => (Int.mul_eq_zero.mp e).elim h h
    omega
  · have : y * y ≠ 0 := fun e => (Int.mul_eq_zero.mp e).elim h h
    omega
/-- equal: said by intersects, due by the dividing lines -/
theorem inter_meet {ax ay bx yb cx cy dx dy : Int} (h1 : ax ≠ bx ∨ ay ≠ yb) (_h2 : cx ≠ dx ∨ cy ≠ dy) : interP ax ay bx yb cx cy dx dy = meetP ax ay bx yb cx cy dx dy := by
  rw [Bool.eq_iff_iff]
  constructor
  · intro h
    unfold meetP
    rw [not_apart h, not_apart h, not_apart h, not_apart h]
    rfl
  · intro h
    unfold meetP at h
    simp only [Bool.not_eq_true', Bool.or_eq_false_iff] at h
    obtain ⟨⟨⟨n1, n2⟩, n3⟩, _⟩ := h
    have n1' := mt apart_n1.mpr (by rw [n1]; decide)
    have n2' := mt apart_n2.mpr (by rw [n2]; decide)
    have hr := T_rel (ax := ax) (ay := ay) (bx := bx) (yb := yb) (cx := cx) (cy := cy) (dx := dx) (dy := dy)
    rw [interP_iff]
    by_cases hW : twiceP ax ay bx yb cx cy = twiceP ax ay bx yb dx dy
    · have z1 : twiceP ax ay bx yb cx cy = 0 := by omega
      have z2 : twiceP ax ay bx yb dx dy = 0 := by omega
      have z3 : twiceP cx cy dx dy ax ay = 0 := by omega
      right
      have hg : (bx - ax) * ax + (yb - ay) * ay < (bx - ax) * bx + (yb - ay) * yb := by
        have := sq_pos (x := bx - ax) (y := yb - ay) (by omega)
        grind
      rw [apartP, decide_eq_false_iff_not] at n3
      have o1 := onseg_iff z1 hg
      have o2 := onseg_iff z2 hg
      by_cases c1 : (bx - ax) * ax + (yb - ay) * ay ≤ (bx - ax) * cx + (yb - ay) * cy ∧ (bx - ax) * cx + (yb - ay) * cy ≤ (bx - ax) * bx + (yb - ay) * yb
      · exact .inl ⟨z1, o1.mpr c1⟩
      · by_cases c2 : (bx - ax) * ax + (yb - ay) * ay ≤ (bx - ax) * dx + (yb - ay) * dy ∧ (bx - ax) * dx + (yb - ay) * dy ≤ (bx - ax) * bx + (yb - ay) * yb
        · exact .inr (.inl ⟨z2, o2.mpr c2⟩)
        · refine .inr (.inr (.inl ⟨z3, ?_⟩))
          by_cases c3 : (bx - ax) * cx + (yb - ay) * cy < (bx - ax) * dx + (yb - ay) * dy
          · exact (onseg_iff z3 c3).mpr (by omega)
          · have c4 : (-(bx - ax)) * cx + (-(yb - ay)) * cy < (-(bx - ax)) * dx + (-(yb - ay)) * dy := by
              simp only [Int.neg_mul]; omega
            refine (onseg_iff z3 c4).mpr ?_
            simp only [Int.neg_mul]; omega
    · left
      omega
end Mine
end

section
namespace Mine
/-- the places behind the shear and, maybe, the quarter turn -/
def trx (b : Bool) (s x y : Int) : Int := if b then -(y + s * x) else x
def trY (b : Bool) (s x y : Int) : Int := if b then x else y + s * x
section
variable {b : Bool} {s ax ay bx yb cx cy dx dy : Int}
theorem T_tr : twiceP (trx b s ax ay) (trY b s ax ay) (trx b s bx yb) (trY b s bx yb) (trx b s cx cy) (trY b s cx cy) = twiceP ax ay bx yb cx cy := by
  cases b <;> simp only [trx, trY, if_true, if_false, Bool.false_eq_true] <;> unfold twiceP <;> grind
theorem onseg_tr (h : ax ≠ bx ∨ ay ≠ yb) (hT : twiceP ax ay bx yb cx cy = 0) :
    onSegP (trx b s ax ay) (trY b s ax ay) (trx b s cx cy) (trY b s cx cy) (trx b s bx yb) (trY b s bx yb) = onSegP ax ay cx cy bx yb := by
  have hT' := (T_tr (b := b) (s := s) (ax := ax) (ay := ay) (bx := bx) (yb := yb) (cx := cx) (cy := cy)).trans hT
  rw [Bool.eq_iff_iff]
  have ex (x y : Int) : (if b then 0 else 1) * trx b s x y + (if b then 1 else 0) * trY b s x y = x := by cases b <;> simp [trx, trY]
  have ex' (x y : Int) : (if b then 0 else -1) * trx b s x y + (if b then -1 else 0) * trY b s x y = -x := by cases b <;> simp [trx, trY]
  have ey (x y : Int) : (if b then -1 else -s) * trx b s x y + (if b then -s else 1) * trY b s x y = y := by cases b <;> simp [trx, trY] <;> grind
  have ey' (x y : Int) : (if b then 1 else s) * trx b s x y + (if b then s else -1) * trY b s x y = -y := by cases b <;> simp [trx, trY] <;> grind
  rcases Int.lt_trichotomy ax bx with c | c | c
  · rw [onseg_iff hT (r := 1) (u := 0) (by omega), onseg_iff hT' (r := if b then 0 else 1) (u := if b then 1 else 0) (by rw [ex, ex]; exact c), ex, ex, ex]
    simp
  · rcases Int.lt_trichotomy ay yb with d | d | d
    · rw [onseg_iff hT (r := 0) (u := 1) (by omega), onseg_iff hT' (r := if b then -1 else -s) (u := if b then -s else 1) (by rw [ey, ey]; exact d), ey, ey, ey]
      simp
    · omega
    · rw [onseg_iff hT (r := 0) (u := -1) (by omega), onseg_iff hT' (r := if b then 1 else s) (u := if b then s else -1) (by rw [ey', ey']; omega), ey', ey', ey']
      omega
  · rw [onseg_iff hT (r := -1) (u := 0) (by omega), onseg_iff hT' (r := if b then 0 else -1) (u := if b then -1 else 0) (by rw [ex', ex']; omega), ex', ex', ex']
    omega
theorem interP_tr (h1 : ax ≠ bx ∨ ay ≠ yb) (h2 : cx ≠ dx ∨ cy ≠ dy) :
    interP (trx b s ax ay) (trY b s ax ay) (trx b s bx yb) (trY b s bx yb) (trx b s cx cy) (trY b s cx cy) (trx b s dx dy) (trY b s dx dy) = interP ax ay bx yb cx cy dx dy := by
  rw [Bool.eq_iff_iff, interP_iff, interP_iff]
  simp only [T_tr]
  refine or_congr Iff.rfl (or_congr (and_congr_right fun h => ?_) (or_congr (and_congr_right fun h => ?_) (or_congr (and_congr_right fun h => ?_) (and_congr_right fun h => ?_))))
  · rw [onseg_tr h1 h]
  · rw [onseg_tr h1 h]
  · rw [onseg_tr h2 h]
  · rw [onseg_tr h2 h]
theorem T_swap : twiceP bx yb ax ay cx cy = -(twiceP ax ay bx yb cx cy) := by unfold twiceP; grind
theorem T_rot : twiceP bx yb cx cy ax ay = twiceP ax ay bx yb cx cy := by unfold twiceP; grind
theorem onseg_swap : onSegP bx yb cx cy ax ay = onSegP ax ay cx cy bx yb := by
  unfold onSegP; rw [Int.max_comm bx ax, Int.min_comm bx ax, Int.max_comm yb ay, Int.min_comm yb ay]
theorem interP_ab : interP bx yb ax ay cx cy dx dy = interP ax ay bx yb cx cy dx dy := by
  rw [Bool.eq_iff_iff, interP_iff, interP_iff]
  rw [T_swap (ax := ax) (ay := ay) (bx := bx) (yb := yb) (cx := cx) (cy := cy), T_swap (ax := ax) (ay := ay) (bx := bx) (yb := yb) (cx := dx) (cy := dy), onseg_swap (ax := ax) (ay := ay) (bx := bx) (yb := yb) (cx := cx) (cy := cy), onseg_swap (ax := ax) (ay := ay) (bx := bx) (yb := yb) (cx := dx) (cy := dy)]
  generalize twiceP ax ay bx yb cx cy = t1
  generalize twiceP ax ay bx yb dx dy = t2
  generalize twiceP cx cy dx dy ax ay = t3
  generalize twiceP cx cy dx dy bx yb = t4
  cases onSegP ax ay cx cy bx yb <;> cases onSegP ax ay dx dy bx yb <;> cases onSegP cx cy ax ay dx dy <;> cases onSegP cx cy bx yb dx dy <;> simp only [Bool.false_eq_true, and_false, and_true, false_or, or_false] <;> omega
theorem interP_pair : interP cx cy dx dy ax ay bx yb = interP ax ay bx yb cx cy dx dy := by
  rw [Bool.eq_iff_iff, interP_iff, interP_iff]
  generalize twiceP ax ay bx yb cx cy = t1
  generalize twiceP ax ay bx yb dx dy = t2
  generalize twiceP cx cy dx dy ax ay = t3
  generalize twiceP cx cy dx dy bx yb = t4
  cases onSegP ax ay cx cy bx yb <;> cases onSegP ax ay dx dy bx yb <;> cases onSegP cx cy ax ay dx dy <;> cases onSegP cx cy bx yb dx dy <;> simp only [Bool.false_eq_true, and_false, and_true, false_or, or_false] <;> omega
theorem interP_cd : interP ax ay bx yb dx dy cx cy = interP ax ay bx yb cx cy dx dy := by
  rw [interP_pair, interP_ab, interP_pair]
end
def dl (ax ay bx yb cx cy dx dy : Int) : Int := if ax ≤ cx then twiceP ax ay bx yb cx cy else -(twiceP cx cy dx dy ax ay)
def dr (ax ay bx yb cx cy dx dy : Int) : Int := if dx ≤ bx then twiceP ax ay bx yb dx dy else -(twiceP cx cy dx dy bx yb)
section
variable {ax ay bx yb cx cy dx dy : Int}
theorem dl_1 (h : ax ≤ cx) : dl ax ay bx yb cx cy dx dy = twiceP ax ay bx yb cx cy := if_pos h
theorem dl_2 (h : cx < ax) : dl ax ay bx yb cx cy dx dy = -(twiceP cx cy dx dy ax ay) := if_neg (by omega)
theorem dr_1 (h : dx ≤ bx) : dr ax ay bx yb cx cy dx dy = twiceP ax ay bx yb dx dy := if_pos h
theorem dr_2 (h : bx < dx) : dr ax ay bx yb cx cy dx dy = -(twiceP cx cy dx dy bx yb) := if_neg (by omega)
theorem mul_lt_iff {β x y : Int} (h : 0 < β) : β * x < β * y ↔ x < y := by
  have := (mul_pos_cancel h (b := y - x)).1
  rw [Int.mul_sub] at this
  omega
theorem fcoreP {u1 u2 u3 u4 : Int} (h1 : -u3 < -u4) (h2 : u1 < u2) :
    ((¬((0 < u1 ∧ 0 < u2) ∨ (u1 < 0 ∧ u2 < 0) ∨ (u1 = 0 ∧ u2 = 0)) ∧ ¬((0 < u3 ∧ 0 < u4) ∨ (u3 < 0 ∧ u4 < 0) ∨ (u3 = 0 ∧ u4 = 0))) ∨
      (u1 = 0 ∧ -u3 ≤ u1 ∧ u1 ≤ -u4) ∨ (u2 = 0 ∧ -u3 ≤ u2 ∧ u2 ≤ -u4) ∨ (u3 = 0 ∧ u1 ≤ -u3 ∧ -u3 ≤ u2) ∨ (u4 = 0 ∧ u1 ≤ -u4 ∧ -u4 ≤ u2)) ↔
    (u1 ≤ -u4 ∧ -u3 ≤ u2 ∧ ¬((0 < (if -u3 ≤ u1 then u1 else -u3) ∧ 0 < (if u2 ≤ -u4 then u2 else -u4)) ∨ ((if -u3 ≤ u1 then u1 else -u3) < 0 ∧ (if u2 ≤ -u4 then u2 else -u4) < 0))) := by
  by_cases q1 : -u3 ≤ u1 <;> by_cases q2 : u2 ≤ -u4 <;> simp only [q1, q2, if_true, if_false, and_true, true_and, and_false, false_and, or_false, false_or] <;> omega
theorem fcoreN {u1 u2 u3 u4 : Int} (h1 : u3 < u4) (h2 : -u1 < -u2) :
    ((¬((0 < u1 ∧ 0 < u2) ∨ (u1 < 0 ∧ u2 < 0) ∨ (u1 = 0 ∧ u2 = 0)) ∧ ¬((0 < u3 ∧ 0 < u4) ∨ (u3 < 0 ∧ u4 < 0) ∨ (u3 = 0 ∧ u4 = 0))) ∨
      (u1 = 0 ∧ u3 ≤ -u1 ∧ -u1 ≤ u4) ∨ (u2 = 0 ∧ u3 ≤ -u2 ∧ -u2 ≤ u4) ∨ (u3 = 0 ∧ -u1 ≤ u3 ∧ u3 ≤ -u2) ∨ (u4 = 0 ∧ -u1 ≤ u4 ∧ u4 ≤ -u2)) ↔
    (-u1 ≤ u4 ∧ u3 ≤ -u2 ∧ ¬((0 < (if u3 ≤ -u1 then u1 else -u3) ∧ 0 < (if -u2 ≤ u4 then u2 else -u4)) ∨ ((if u3 ≤ -u1 then u1 else -u3) < 0 ∧ (if -u2 ≤ u4 then u2 else -u4) < 0))) := by
  by_cases q1 : u3 ≤ -u1 <;> by_cases q2 : -u2 ≤ u4 <;> simp only [q1, q2, if_true, if_false, and_true, true_and, and_false, false_and, or_false, false_or] <;> omega
theorem neg_lt (a : Int) : (0 < -a ↔ a < 0) ∧ (-a < 0 ↔ 0 < a) := by omega
theorem ite_sg {p : Prop} [Decidable p] {t1 t3 u1 u3 : Int} (s1 : 0 < u1 ↔ 0 < t1) (s1' : u1 < 0 ↔ t1 < 0) (s3 : 0 < u3 ↔ 0 < t3) (s3' : u3 < 0 ↔ t3 < 0) :
    ((0 < if p then u1 else -u3) ↔ 0 < if p then t1 else -t3) ∧ ((if p then u1 else -u3) < 0 ↔ (if p then t1 else -t3) < 0) := by
  split <;> omega
/-- two segments, neither upright -/
theorem interF (h1 : ax < bx) (h2 : cx < dx) : interP ax ay bx yb cx cy dx dy = true ↔
    (cx ≤ bx ∧ ax ≤ dx ∧ ¬((0 < dl ax ay bx yb cx cy dx dy ∧ 0 < dr ax ay bx yb cx cy dx dy) ∨ (dl ax ay bx yb cx cy dx dy < 0 ∧ dr ax ay bx yb cx cy dx dy < 0))) := by
  rw [interP_iff]
  have hr := T_rel (ax := ax) (ay := ay) (bx := bx) (yb := yb) (cx := cx) (cy := cy) (dx := dx) (dy := dy)
  have ho (t : Int) (qx qy : Int) (hq : twiceP ax ay bx yb qx qy = 0) : onSegP ax ay qx qy bx yb = true ↔ (ax ≤ qx ∧ qx ≤ bx) := by
    rw [onseg_iff hq (r := 1) (u := 0) (by omega)]; omega
  have ho2 (t : Int) (qx qy : Int) (hq : twiceP cx cy dx dy qx qy = 0) : onSegP cx cy qx qy dx dy = true ↔ (cx ≤ qx ∧ qx ≤ dx) := by
    rw [onseg_iff hq (r := 1) (u := 0) (by omega)]; omega
  have hi : (dx - cx) * twiceP ax ay bx yb cx cy + (bx - ax) * twiceP cx cy dx dy ax ay = (twiceP ax ay bx yb dx dy - twiceP ax ay bx yb cx cy) * (cx - ax) := by unfold twiceP; grind
  rw [and_congr_right (ho 0 cx cy), and_congr_right (ho 0 dx dy), and_congr_right (ho2 0 ax ay), and_congr_right (ho2 0 bx yb)]
  unfold dl dr
  generalize twiceP ax ay bx yb cx cy = t1 at hr hi ⊢
  generalize twiceP ax ay bx yb dx dy = t2 at hr hi ⊢
  generalize twiceP cx cy dx dy ax ay = t3 at hr hi ⊢
  generalize twiceP cx cy dx dy bx yb = t4 at hr hi ⊢
  clear ho ho2
  have he : 0 < dx - cx := by omega
  have hf : 0 < bx - ax := by omega
  obtain ⟨s1, s1', s1'', _⟩ := mul_pos_cancel he (b := t1)
  obtain ⟨s2, s2', s2'', _⟩ := mul_pos_cancel he (b := t2)
  obtain ⟨s3, s3', s3'', _⟩ := mul_pos_cancel hf (b := t3)
  obtain ⟨s4, s4', s4'', _⟩ := mul_pos_cancel hf (b := t4)
  obtain ⟨β, hβ⟩ : ∃ β, β = t2 - t1 := ⟨_, rfl⟩
  have e4 : (bx - ax) * t4 = (bx - ax) * t3 - (β * bx - β * ax) := by
    rw [show t4 = t3 - β by omega]; grind
  have e2 : (dx - cx) * t2 = (dx - cx) * t1 + (β * dx - β * cx) := by
    rw [show t2 = t1 + β by omega]; grind
  have e1 : (dx - cx) * t1 = -((bx - ax) * t3) + (β * cx - β * ax) := by
    rw [← hβ] at hi; grind
  generalize (dx - cx) * t1 = u1 at *
  generalize (dx - cx) * t2 = u2 at *
  generalize (bx - ax) * t3 = u3 at *
  generalize (bx - ax) * t4 = u4 at *
  clear hi
  rcases Int.lt_trichotomy β 0 with hb | hb | hb
  · have m (x y : Int) : β * y < β * x ↔ x < y := by
      have := mul_lt_iff (β := -β) (x := x) (y := y) (by omega)
      rw [Int.neg_mul, Int.neg_mul] at this
      omega
    have hab := (m ax bx).mpr h1
    have hcd := (m cx dx).mpr h2
    have l1 : cx ≤ bx ↔ -u1 ≤ u4 := by have := m bx cx; omega
    have l2 : ax ≤ dx ↔ u3 ≤ -u2 := by have := m dx ax; omega
    have l3 : ax ≤ cx ↔ u3 ≤ -u1 := by have := m cx ax; omega
    have l4 : dx ≤ bx ↔ -u2 ≤ u4 := by have := m bx dx; omega
    have l5 : cx ≤ ax ↔ -u1 ≤ u3 := by have := m ax cx; omega
    have l6 : bx ≤ dx ↔ u4 ≤ -u2 := by have := m dx bx; omega
    have f := fcoreN (u1 := u1) (u2 := u2) (u3 := u3) (u4 := u4) (by omega) (by omega)
    simp only [← l1, ← l2, ← l3, ← l4, ← l5, ← l6] at f
    obtain ⟨g1, g2⟩ := ite_sg (p := ax ≤ cx) s1 s1' s3 s3'
    obtain ⟨g3, g4⟩ := ite_sg (p := dx ≤ bx) s2 s2' s4 s4'
    rw [← g1, ← g2, ← g3, ← g4, ← s1, ← s1', ← s1'', ← s2, ← s2', ← s2'', ← s3, ← s3', ← s3'', ← s4, ← s4', ← s4'']
    exact f
  · subst hb
    simp only [Int.zero_mul] at *
    obtain rfl : t1 = t2 := by omega
    obtain rfl : t3 = t4 := by omega
    have v1 : 0 < t1 ↔ t3 < 0 := by omega
    have v2 : t1 < 0 ↔ 0 < t3 := by omega
    clear s1 s1' s1'' s2 s2' s2'' s3 s3' s3'' s4 s4' s4'' e1 e2 e4 hr hβ he hf
    by_cases q1 : ax ≤ cx <;> by_cases q2 : dx ≤ bx <;> simp only [q1, q2, if_true, if_false, and_true, true_and, and_false, false_and, or_false, false_or] <;> omega
  · have m (x y : Int) : β * x < β * y ↔ x < y := mul_lt_iff hb
    have hab := (m ax bx).mpr h1
    have hcd := (m cx dx).mpr h2
    have l1 : cx ≤ bx ↔ u1 ≤ -u4 := by have := m bx cx; omega
    have l2 : ax ≤ dx ↔ -u3 ≤ u2 := by have := m dx ax; omega
    have l3 : ax ≤ cx ↔ -u3 ≤ u1 := by have := m cx ax; omega
    have l4 : dx ≤ bx ↔ u2 ≤ -u4 := by have := m bx dx; omega
    have l5 : cx ≤ ax ↔ u1 ≤ -u3 := by have := m ax cx; omega
    have l6 : bx ≤ dx ↔ -u4 ≤ u2 := by have := m dx bx; omega
    have f := fcoreP (u1 := u1) (u2 := u2) (u3 := u3) (u4 := u4) (by omega) (by omega)
    simp only [← l1, ← l2, ← l3, ← l4, ← l5, ← l6] at f
    obtain ⟨g1, g2⟩ := ite_sg (p := ax ≤ cx) s1 s1' s3 s3'
    obtain ⟨g3, g4⟩ := ite_sg (p := dx ≤ bx) s2 s2' s4 s4'
    rw [← g1, ← g2, ← g3, ← g4, ← s1, ← s1', ← s1'', ← s2, ← s2', ← s2'', ← s3, ← s3', ← s3'', ← s4, ← s4', ← s4'']
    exact f
end
end Mine
end

section
namespace Mine
/-- a ring of corners: 0 leftmost, M rightmost, below between them on the way up, above on the way back -/
structure Ring (n M : Nat) (X H : Nat → Int) : Prop where
  hM : 0 < M
  hn : M < n
  x0 : X 0 = 0
  lo : ∀ v, v < M → X v < X (v + 1)
  up : ∀ v, M ≤ v → v + 1 < n → X (v + 1) < X v
  last : 0 < X (n - 1)
  h0 : H 0 = 0
  hm : H M = 0
  hlo : ∀ v, 0 < v → v < M → H v < 0
  hup : ∀ v, M < v → v < n → 0 < H v
section
variable {n M : Nat} {X H : Nat → Int}
theorem Ring.loX (R : Ring n M X H) {v w : Nat} (h : v < w) (hw : w ≤ M) : X v < X w := by
  obtain ⟨d, rfl⟩ : ∃ d, w = v + 1 + d := ⟨w - v - 1, by omega⟩
  induction d with
  | zero => exact R.lo v (by omega)
  | succ d ih =>
    have := ih (by omega) (by omega)
    have := R.lo (v + 1 + d) (by omega)
    have e : v + 1 + (d + 1) = v + 1 + d + 1 := by omega
    rw [e]; omega
theorem Ring.upX (R : Ring n M X H) {v w : Nat} (hv : M ≤ v) (h : v < w) (hw : w < n) : X w < X v := by
  obtain ⟨d, rfl⟩ : ∃ d, w = v + 1 + d := ⟨w - v - 1, by omega⟩
  induction d with
  | zero => exact R.up v (by omega) (by omega)
  | succ d ih =>
    have := ih (by omega) (by omega)
    have := R.up (v + 1 + d) (by omega) (by omega)
    have e : v + 1 + (d + 1) = v + 1 + d + 1 := by omega
    rw [e]; omega
theorem Ring.pos (R : Ring n M X H) {v : Nat} (h : 0 < v) (hv : v < n) : 0 < X v := by
  by_cases c : v ≤ M
  · have := R.loX h c; rw [R.x0] at this; exact this
  · by_cases d : v = n - 1
    · rw [d]; exact R.last
    · have := R.upX (v := v) (w := n - 1) (by omega) (by omega) (by omega)
      have := R.last; omega
theorem Ring.nn (R : Ring n M X H) {v : Nat} (hv : v < n) : 0 ≤ X v := by
  by_cases c : v = 0
  · rw [c, R.x0]; exact Int.le_refl 0
  · exact Int.le_of_lt (R.pos (by omega) hv)
theorem Ring.leM (R : Ring n M X H) {v : Nat} (hv : v < n) : X v ≤ X M ∧ (v ≠ M → X v < X M) := by
  by_cases c : v = M
  · rw [c]; omega
  · by_cases d : v < M
    · have := R.loX d (Nat.le_refl M); omega
    · have := R.upX (Nat.le_refl M) (show M < v by omega) hv; omega
theorem Ring.Hle (R : Ring n M X H) {v : Nat} (hv : v ≤ M) : H v ≤ 0 := by
  by_cases c : v = 0
  · rw [c, R.h0]; exact Int.le_refl 0
  · by_cases d : v = M
    · rw [d, R.hm]; exact Int.le_refl 0
    · exact Int.le_of_lt (R.hlo v (by omega) (by omega))
theorem Ring.Hge (R : Ring n M X H) {v : Nat} (hv : v < n) (h : M ≤ v ∨ v = 0) : 0 ≤ H v := by
  by_cases c : v = 0
  · rw [c, R.h0]; exact Int.le_refl 0
  · by_cases d : v = M
    · rw [d, R.hm]; exact Int.le_refl 0
    · exact Int.le_of_lt (R.hup v (by omega) hv)
/-- the x-order of two corners -/
theorem Ring.ord (R : Ring n M X H) {v w : Nat} (hv : v < n) (hw : w < n) :
    (v < w → w ≤ M → X v < X w) ∧ (w < v → v ≤ M → X w < X v) ∧ (M ≤ v → v < w → X w < X v) ∧ (M ≤ w → w < v → X v < X w) :=
  ⟨fun a b => R.loX a b, fun a b => R.loX a b, fun a b => R.upX a b hw, fun a b => R.upX a b hv⟩
theorem Ring.side (R : Ring n M X H) {v : Nat} (hv : v < n) : (v = 0 ∧ X v = 0 ∧ H v = 0) ∨ (0 < v ∧ v < M ∧ H v < 0) ∨ (v = M ∧ H v = 0) ∨ (M < v ∧ 0 < H v) := by
  rcases Nat.lt_trichotomy v M with h | h | h
  · by_cases c : v = 0
    · exact .inl ⟨c, by rw [c, R.x0], by rw [c, R.h0]⟩
    · exact .inr (.inl ⟨by omega, h, R.hlo v (by omega) h⟩)
  · exact .inr (.inr (.inl ⟨h, by rw [h, R.hm]⟩))
  · exact .inr (.inr (.inr ⟨h, R.hup v h hv⟩))
theorem Ring.ne (R : Ring n M X H) {i j : Nat} (hi : i < n) (hj : j < n) (hij : i ≠ j) : X i ≠ X j ∨ H i ≠ H j := by
  have h1 := R.ord hi hj
  have h2 := R.side hi
  have h3 := R.side hj
  omega
end
theorem T_above {ax ay bx yb cx cy : Int} (h : ax < bx) (h1 : ax ≤ cx) (h2 : cx ≤ bx) (ha : ay ≤ 0) (hb : yb ≤ 0) (hc : 0 < cy) : 0 < twiceP ax ay bx yb cx cy := by
  have e : twiceP ax ay bx yb cx cy = (bx - ax) * cy + (bx - cx) * (-ay) + (cx - ax) * (-yb) := by unfold twiceP; grind
  have := Int.mul_pos (show 0 < bx - ax by omega) hc
  have := Int.mul_nonneg (show 0 ≤ bx - cx by omega) (show 0 ≤ -ay by omega)
  have := Int.mul_nonneg (show 0 ≤ cx - ax by omega) (show 0 ≤ -yb by omega)
  omega
theorem T_below {ax ay bx yb cx cy : Int} (h : ax < bx) (h1 : ax ≤ cx) (h2 : cx ≤ bx) (ha : 0 ≤ ay) (hb : 0 ≤ yb) (hc : cy < 0) : twiceP ax ay bx yb cx cy < 0 := by
  have e : twiceP ax ay bx yb cx cy = -((bx - ax) * (-cy) + (bx - cx) * ay + (cx - ax) * yb) := by unfold twiceP; grind
  have := Int.mul_pos (show 0 < bx - ax by omega) (show 0 < -cy by omega)
  have := Int.mul_nonneg (show 0 ≤ bx - cx by omega) ha
  have := Int.mul_nonneg (show 0 ≤ cx - ax by omega) hb
  omega
section
variable {n M : Nat} {X H : Nat → Int}
theorem sides_apartR (R : Ring n M X H) {k m : Nat} (hk : Apart n k m) : interP (X k) (H k) (X (k + 1)) (H (k + 1)) (X m) (H m) (X ((m + 1) % n)) (H ((m + 1) % n)) = false := by
  obtain ⟨h1, h2, h3⟩ := hk
  have hM := R.hM
  have hn := R.hn
  rw [← Bool.not_eq_true]
  by_cases c1 : m < M
  · rw [Nat.mod_eq_of_lt (by omega), interF (R.lo k (by omega)) (R.lo m c1)]
    have := R.loX (show k + 1 < m by omega) (by omega)
    omega
  · obtain ⟨e, he⟩ : ∃ e, e = (m + 1) % n := ⟨_, rfl⟩
    have he' : (e = 0 ∧ m + 1 = n) ∨ (e = m + 1 ∧ m + 1 < n) := by
      by_cases c : m + 1 = n
      · left; rw [he, c, Nat.mod_self]; exact ⟨rfl, rfl⟩
      · right; rw [he, Nat.mod_eq_of_lt (by omega)]; exact ⟨rfl, by omega⟩
    rw [← he]
    have hen : e < n := by omega
    have xe : X e < X m := by
      rcases he' with ⟨h, _⟩ | ⟨h, h'⟩
      · rw [h, R.x0]; exact R.pos (by omega) h2
      · rw [h]; exact R.up m (by omega) h'
    by_cases c2 : M ≤ k
    · rw [← interP_ab, ← interP_cd, interF (R.up k c2 (by omega)) xe]
      have := R.upX (v := k + 1) (w := m) (by omega) (by omega) h2
      omega
    · have xk := R.lo k (by omega)
      rw [← interP_cd, interF xk xe]
      rintro ⟨o1, o2, o3⟩
      refine o3 (.inl ⟨?_, ?_⟩)
      · by_cases q : X k ≤ X e
        · rw [dl_1 q]
          refine T_above xk q o1 (R.Hle (by omega)) (R.Hle (by omega)) ?_
          rcases he' with ⟨h, h'⟩ | ⟨h, h'⟩
          · rw [h, R.x0] at q
            have : k = 0 := by
              by_cases z : k = 0
              · exact z
              · have := R.pos (show 0 < k by omega) (by omega); omega
            omega
          · exact R.hup e (by omega) hen
        · rw [dl_2 (by omega)]
          have := T_below xe (show X e ≤ X k by omega) o2 (R.Hge hen (by omega)) (R.Hge h2 (by omega)) (R.hlo k (by
            have := R.nn hen
            by_cases z : k = 0
            · rw [z, R.x0] at q; omega
            · omega) (by omega))
          omega
      · by_cases q : X m ≤ X (k + 1)
        · rw [dr_1 q]
          refine T_above xk o2 q (R.Hle (by omega)) (R.Hle (by omega)) (R.hup m ?_ h2)
          by_cases z : m = M
          · have := R.loX (show k + 1 < M by omega) (Nat.le_refl M); rw [z] at q; omega
          · omega
        · rw [dr_2 (by omega)]
          have l1 := R.leM h2
          have := T_below xe o1 (show X (k + 1) ≤ X m by omega) (R.Hge hen (by omega)) (R.Hge h2 (by omega)) (R.hlo (k + 1) (by omega) (by
            by_cases z : k + 1 = M
            · rw [z] at q; omega
            · omega))
          omega
end
end Mine
end

section
namespace Mine
abbrev TR (X H : Nat → Int) (i j k : Nat) : Int := twiceP (X i) (H i) (X j) (H j) (X k) (H k)
/-- each other corner in the x-range of l, r lies on its own side of the way, strictly -/
def DF (n : Nat) (X H : Nat → Int) (l r : Nat) : Prop :=
  X l < X r ∧ ∀ v < n, v ≠ l → v ≠ r → X l ≤ X v → X v ≤ X r → (H v < 0 ∧ TR X H l r v < 0) ∨ (0 < H v ∧ 0 < TR X H l r v)
def DG (n : Nat) (X H : Nat → Int) (i j : Nat) : Prop := DF n X H i j ∨ DF n X H j i ∨ (X i = X j ∧ H i < 0 ∧ 0 < H j)
def Btw (p q v : Nat) : Prop := (p < v ∧ v < q) ∨ (q < v ∧ v < p)
def BtwI (p q v : Int) : Prop := (p < v ∧ v < q) ∨ (q < v ∧ v < p)
def kap (M : Nat) (X : Nat → Int) (v : Nat) : Int := if v ≤ M then X v else 2 * X M - X v
section
variable {n M : Nat} {X H : Nat → Int}
theorem Ring.kap_lt (R : Ring n M X H) {v w : Nat} (h : v < w) (hw : w < n) : kap M X v < kap M X w := by
  unfold kap
  have l1 := R.leM hw
  have l2 := R.leM (Nat.lt_trans h hw)
  by_cases c1 : v ≤ M <;> by_cases c2 : w ≤ M <;> simp only [c1, c2, if_true, if_false]
  · exact R.loX h c2
  · have := l1.2 (by omega); omega
  · omega
  · have := R.upX (show M ≤ v by omega) h hw; omega
theorem Ring.kap_iff (R : Ring n M X H) {v w : Nat} (hv : v < n) (hw : w < n) : v < w ↔ kap M X v < kap M X w := by
  constructor
  · exact fun h => R.kap_lt h hw
  · intro h
    rcases Nat.lt_trichotomy v w with c | c | c
    · exact c
    · rw [c] at h; omega
    · have := R.kap_lt c hv; omega
theorem Ring.btw (R : Ring n M X H) {p q v : Nat} (hp : p < n) (hq : q < n) (hv : v < n) : Btw p q v ↔ BtwI (kap M X p) (kap M X q) (kap M X v) := by
  unfold Btw BtwI
  rw [R.kap_iff hp hv, R.kap_iff hv hq, R.kap_iff hq hv, R.kap_iff hv hp]
theorem Ring.kap_ne (R : Ring n M X H) {v w : Nat} (hv : v < n) (hw : w < n) (h : v ≠ w) : kap M X v ≠ kap M X w := by
  intro e
  have h1 := R.kap_iff hv hw
  have h2 := R.kap_iff hw hv
  omega
/-- the side of a corner: true above -/
theorem Ring.sd (R : Ring n M X H) {v : Nat} (hv : v < n) : ∃ s : Bool, kap M X v = (if s then 2 * X M - X v else X v) ∧ (s = true → 0 < H v) ∧ (s = false → H v ≤ 0) := by
  by_cases c : v ≤ M
  · exact ⟨false, by simp [kap, c], by simp, fun _ => R.Hle c⟩
  · exact ⟨true, by simp [kap, c], fun _ => R.hup v (by omega) hv, by simp⟩
end
section
variable {m xa xb xc xd ka kb kc kd : Int} {sa sb sc sd : Bool}
theorem kc_no (ha : ka = if sa then 2 * m - xa else xa) (hb : kb = if sb then 2 * m - xb else xb) (hc : kc = if sc then 2 * m - xc else xc) (hd : kd = if sd then 2 * m - xd else xd)
    (x1 : xa < xb) (x2 : xc < xd) (mb : xb ≤ m) (md : xd ≤ m) (o : xb < xc ∨ xd < xa) : (BtwI ka kb kc ↔ BtwI ka kb kd) := by
  unfold BtwI
  rcases o with o | o <;> cases sa <;> cases sb <;> cases sc <;> cases sd <;> simp only [if_true, if_false, Bool.false_eq_true] at ha hb hc hd <;> subst ha hb hc hd <;> omega
theorem kc_cd (ha : ka = if sa then 2 * m - xa else xa) (hb : kb = if sb then 2 * m - xb else xb) (hc : kc = if sc then 2 * m - xc else xc) (hd : kd = if sd then 2 * m - xd else xd)
    (x1 : xa < xb) (x2 : xc < xd) (mb : xb ≤ m) (md : xd ≤ m) (n1 : ka ≠ kc) (n2 : ka ≠ kd) (n3 : kb ≠ kc) (n4 : kb ≠ kd) (q1 : xa ≤ xc) (q2 : xd ≤ xb) : sc = sd ↔ (BtwI ka kb kc ↔ BtwI ka kb kd) := by
  unfold BtwI
  cases sa <;> cases sb <;> cases sc <;> cases sd <;> simp only [if_true, if_false, Bool.false_eq_true] at ha hb hc hd <;> subst ha hb hc hd <;> simp only [Bool.false_eq_true, Bool.true_eq_false, true_iff, false_iff] <;> omega
theorem kc_cb (ha : ka = if sa then 2 * m - xa else xa) (hb : kb = if sb then 2 * m - xb else xb) (hc : kc = if sc then 2 * m - xc else xc) (hd : kd = if sd then 2 * m - xd else xd)
    (x1 : xa < xb) (x2 : xc < xd) (mb : xb ≤ m) (md : xd ≤ m) (n1 : ka ≠ kc) (n2 : ka ≠ kd) (n3 : kb ≠ kc) (n4 : kb ≠ kd) (q1 : xa ≤ xc) (q2 : xb < xd) (o : xc ≤ xb) : sc ≠ sb ↔ (BtwI ka kb kc ↔ BtwI ka kb kd) := by
  unfold BtwI
  cases sa <;> cases sb <;> cases sc <;> cases sd <;> simp only [if_true, if_false, Bool.false_eq_true] at ha hb hc hd <;> subst ha hb hc hd <;> simp only [ne_eq, Bool.false_eq_true, Bool.true_eq_false, not_true, not_false_iff, true_iff, false_iff] <;> omega
theorem kc_ad (ha : ka = if sa then 2 * m - xa else xa) (hb : kb = if sb then 2 * m - xb else xb) (hc : kc = if sc then 2 * m - xc else xc) (hd : kd = if sd then 2 * m - xd else xd)
    (x1 : xa < xb) (x2 : xc < xd) (mb : xb ≤ m) (md : xd ≤ m) (n1 : ka ≠ kc) (n2 : ka ≠ kd) (n3 : kb ≠ kc) (n4 : kb ≠ kd) (q1 : xc < xa) (q2 : xd ≤ xb) (o : xa ≤ xd) : sa ≠ sd ↔ (BtwI ka kb kc ↔ BtwI ka kb kd) := by
  unfold BtwI
  cases sa <;> cases sb <;> cases sc <;> cases sd <;> simp only [if_true, if_false, Bool.false_eq_true] at ha hb hc hd <;> subst ha hb hc hd <;> simp only [ne_eq, Bool.false_eq_true, Bool.true_eq_false, not_true, not_false_iff, true_iff, false_iff] <;> omega
theorem kc_ab (ha : ka = if sa then 2 * m - xa else xa) (hb : kb = if sb then 2 * m - xb else xb) (hc : kc = if sc then 2 * m - xc else xc) (hd : kd = if sd then 2 * m - xd else xd)
    (x1 : xa < xb) (x2 : xc < xd) (mb : xb ≤ m) (md : xd ≤ m) (n1 : ka ≠ kc) (n2 : ka ≠ kd) (n3 : kb ≠ kc) (n4 : kb ≠ kd) (q1 : xc < xa) (q2 : xb < xd) : sa = sb ↔ (BtwI ka kb kc ↔ BtwI ka kb kd) := by
  unfold BtwI
  cases sa <;> cases sb <;> cases sc <;> cases sd <;> simp only [if_true, if_false, Bool.false_eq_true] at ha hb hc hd <;> subst ha hb hc hd <;> simp only [Bool.false_eq_true, Bool.true_eq_false, true_iff, false_iff] <;> omega
end
end Mine
end

section
namespace Mine
theorem sgs {h t : Int} {s : Bool} (f : (h < 0 ∧ t < 0) ∨ (0 < h ∧ 0 < t)) (h1 : s = true → 0 < h) (h2 : s = false → h ≤ 0) : (0 < t ↔ s = true) ∧ (t < 0 ↔ s = false) := by
  cases s
  · have := h2 rfl; constructor <;> simp <;> omega
  · have := h1 rfl; constructor <;> simp <;> omega
theorem same_pp {t1 t2 : Int} {s1 s2 : Bool} (h1 : (0 < t1 ↔ s1 = true) ∧ (t1 < 0 ↔ s1 = false)) (h2 : (0 < t2 ↔ s2 = true) ∧ (t2 < 0 ↔ s2 = false)) : ((0 < t1 ∧ 0 < t2) ∨ (t1 < 0 ∧ t2 < 0)) ↔ s1 = s2 := by
  rw [h1.1, h1.2, h2.1, h2.2]; cases s1 <;> cases s2 <;> simp
theorem sg_neg {t : Int} {s : Bool} (h : (0 < t ↔ s = true) ∧ (t < 0 ↔ s = false)) : (0 < -t ↔ (!s) = true) ∧ (-t < 0 ↔ (!s) = false) := by
  constructor
  · rw [show (0 < -t) ↔ t < 0 by omega, h.2]; cases s <;> simp
  · rw [show (-t < 0) ↔ 0 < t by omega, h.1]; cases s <;> simp
section
variable {n M : Nat} {X H : Nat → Int}
theorem cross_nv (R : Ring n M X H) {a b c d : Nat} (ha : a < n) (hb : b < n) (hc : c < n) (hd : d < n) (h1 : a ≠ c) (h2 : a ≠ d) (h3 : b ≠ c) (h4 : b ≠ d) (D1 : DF n X H a b) (D2 : DF n X H c d) :
    interP (X a) (H a) (X b) (H b) (X c) (H c) (X d) (H d) = true ↔ ¬(Btw a b c ↔ Btw a b d) := by
  have x1 := D1.1
  have x2 := D2.1
  rw [interF x1 x2, R.btw ha hb hc, R.btw ha hb hd]
  obtain ⟨sa, ka, pa, ma⟩ := R.sd ha
  obtain ⟨sb, kb, pb, mb⟩ := R.sd hb
  obtain ⟨sc, kc, pc, mc⟩ := R.sd hc
  obtain ⟨sd, kd, pd, md⟩ := R.sd hd
  have lb := (R.leM hb).1
  have ld := (R.leM hd).1
  have n1 := R.kap_ne ha hc h1
  have n2 := R.kap_ne ha hd h2
  have n3 := R.kap_ne hb hc h3
  have n4 := R.kap_ne hb hd h4
  by_cases o1 : X c ≤ X b
  · by_cases o2 : X a ≤ X d
    · simp only [o1, o2, true_and]
      by_cases q1 : X a ≤ X c
      · rw [dl_1 q1]
        have f1 := sgs (D1.2 c hc (Ne.symm h1) (Ne.symm h3) q1 o1) pc mc
        by_cases q2 : X d ≤ X b
        · rw [dr_1 q2, same_pp f1 (sgs (D1.2 d hd (Ne.symm h2) (Ne.symm h4) o2 q2) pd md)]
          exact not_congr (kc_cd ka kb kc kd x1 x2 lb ld n1 n2 n3 n4 q1 q2)
        · rw [dr_2 (by omega), same_pp f1 (sg_neg (sgs (D2.2 b hb h3 h4 o1 (by omega)) pb mb))]
          refine not_congr (Iff.trans ?_ (kc_cb ka kb kc kd x1 x2 lb ld n1 n2 n3 n4 q1 (by omega) o1))
          cases sc <;> cases sb <;> simp
      · rw [dl_2 (by omega)]
        have f1 := sg_neg (sgs (D2.2 a ha h1 h2 (by omega) o2) pa ma)
        by_cases q2 : X d ≤ X b
        · rw [dr_1 q2, same_pp f1 (sgs (D1.2 d hd (Ne.symm h2) (Ne.symm h4) o2 q2) pd md)]
          refine not_congr (Iff.trans ?_ (kc_ad ka kb kc kd x1 x2 lb ld n1 n2 n3 n4 (by omega) q2 o2))
          cases sa <;> cases sd <;> simp
        · rw [dr_2 (by omega), same_pp f1 (sg_neg (sgs (D2.2 b hb h3 h4 o1 (by omega)) pb mb))]
          refine not_congr (Iff.trans ?_ (kc_ab ka kb kc kd x1 x2 lb ld n1 n2 n3 n4 (by omega) (by omega)))
          cases sa <;> cases sb <;> simp
    · simp only [o2, false_and, and_false, false_iff, Classical.not_not]
      exact kc_no ka kb kc kd x1 x2 lb ld (by omega)
  · simp only [o1, false_and, false_iff, Classical.not_not]
    exact kc_no ka kb kc kd x1 x2 lb ld (by omega)
end
/-- an upright segment and one that is not -/
theorem interV {ax ay yb cx cy dx dy : Int} (h1 : ay < yb) (h2 : cx < dx) (hT : cx ≤ ax → ax ≤ dx → twiceP cx cy dx dy ax ay < 0 ∧ 0 < twiceP cx cy dx dy ax yb) :
    interP ax ay ax yb cx cy dx dy = true ↔ (cx ≤ ax ∧ ax ≤ dx) := by
  rw [interP_iff]
  have e1 : twiceP ax ay ax yb cx cy = (yb - ay) * (ax - cx) := by unfold twiceP; grind
  have e2 : twiceP ax ay ax yb dx dy = (yb - ay) * (ax - dx) := by unfold twiceP; grind
  have p1 := mul_pos_cancel (show 0 < yb - ay by omega) (b := ax - cx)
  have p2 := mul_pos_cancel (show 0 < yb - ay by omega) (b := ax - dx)
  rw [← e1] at p1
  rw [← e2] at p2
  have ho (qx qy : Int) (hq : twiceP cx cy dx dy qx qy = 0) (hs : onSegP cx cy qx qy dx dy = true) : cx ≤ qx ∧ qx ≤ dx := by
    have := (onseg_iff hq (r := 1) (u := 0) (by omega)).mp hs; omega
  constructor
  · rintro (⟨g1, g2⟩ | ⟨g1, g2⟩ | ⟨g1, g2⟩ | ⟨g1, g2⟩ | ⟨g1, g2⟩)
    · omega
    · omega
    · omega
    · exact ho _ _ g1 g2
    · exact ho _ _ g1 g2
  · rintro ⟨g1, g2⟩
    have := hT g1 g2
    left
    omega
/-- two upright segments on two places -/
theorem interVV {ax ay yb cx cy dy : Int} (h1 : ay < yb) (h2 : cy < dy) (h : ax ≠ cx) : interP ax ay ax yb cx cy cx dy = false := by
  rw [← Bool.not_eq_true, interP_iff]
  have e1 : twiceP ax ay ax yb cx cy = (yb - ay) * (ax - cx) := by unfold twiceP; grind
  have e2 : twiceP ax ay ax yb cx dy = (yb - ay) * (ax - cx) := by unfold twiceP; grind
  have e3 : twiceP cx cy cx dy ax ay = (dy - cy) * (cx - ax) := by unfold twiceP; grind
  have e4 : twiceP cx cy cx dy ax yb = (dy - cy) * (cx - ax) := by unfold twiceP; grind
  have p1 := mul_pos_cancel (show 0 < yb - ay by omega) (b := ax - cx)
  have p2 := mul_pos_cancel (show 0 < dy - cy by omega) (b := cx - ax)
  rw [e1, e2, e3, e4]
  generalize (yb - ay) * (ax - cx) = t at *
  generalize (dy - cy) * (cx - ax) = u at *
  omega
section
variable {n M : Nat} {X H : Nat → Int}
theorem Ring.lowof (R : Ring n M X H) {v : Nat} (hv : v < n) (h : H v < 0) : v ≤ M := by
  have := R.side hv; omega
theorem Ring.upof (R : Ring n M X H) {v : Nat} (hv : v < n) (h : 0 < H v) : M < v := by
  have := R.side hv; omega
theorem cross_v (R : Ring n M X H) {a b c d : Nat} (ha : a < n) (hb : b < n) (hc : c < n) (hd : d < n) (h1 : a ≠ c) (h2 : a ≠ d) (h3 : b ≠ c) (h4 : b ≠ d) (e : X a = X b) (la : H a < 0) (lb : 0 < H b) (D2 : DF n X H c d) :
    interP (X a) (H a) (X b) (H b) (X c) (H c) (X d) (H d) = true ↔ ¬(Btw a b c ↔ Btw a b d) := by
  have x2 := D2.1
  rw [← e, interV (by omega) x2 (fun g1 g2 => by
    have f1 := D2.2 a ha h1 h2 g1 g2
    have f2 := D2.2 b hb h3 h4 (by omega) (by omega)
    simp only [TR] at f1 f2
    rw [← e] at f2
    omega), R.btw ha hb hc, R.btw ha hb hd]
  obtain ⟨sc, kc, pc, mc⟩ := R.sd hc
  obtain ⟨sd, kd, pd, md⟩ := R.sd hd
  have ka : kap M X a = X a := by simp [kap, R.lowof ha la]
  have kb : kap M X b = 2 * X M - X b := by simp [kap, Nat.not_le.mpr (R.upof hb lb)]
  have ld := (R.leM hd).1
  have lc := (R.leM hb).1
  have n1 := R.kap_ne ha hc h1
  have n2 := R.kap_ne ha hd h2
  have n3 := R.kap_ne hb hc h3
  have n4 := R.kap_ne hb hd h4
  unfold BtwI
  rw [ka] at n1 n2 ⊢
  rw [kb] at n3 n4 ⊢
  rw [kc] at n1 n3 ⊢
  rw [kd] at n2 n4 ⊢
  clear D2 ka kb kc kd
  cases sc <;> cases sd <;> simp only [if_true, if_false, Bool.false_eq_true] at n1 n2 n3 n4 ⊢ <;> omega
theorem cross_vv (R : Ring n M X H) {a b c d : Nat} (ha : a < n) (hb : b < n) (hc : c < n) (hd : d < n) (h1 : a ≠ c) (e : X a = X b) (la : H a < 0) (lb : 0 < H b) (e' : X c = X d) (lc : H c < 0) (ld : 0 < H d) :
    interP (X a) (H a) (X b) (H b) (X c) (H c) (X d) (H d) = true ↔ ¬(Btw a b c ↔ Btw a b d) := by
  have ka : kap M X a = X a := by simp [kap, R.lowof ha la]
  have kb : kap M X b = 2 * X M - X b := by simp [kap, Nat.not_le.mpr (R.upof hb lb)]
  have kc : kap M X c = X c := by simp [kap, R.lowof hc lc]
  have kd : kap M X d = 2 * X M - X d := by simp [kap, Nat.not_le.mpr (R.upof hd ld)]
  have n1 := R.kap_ne ha hc h1
  have lM := (R.leM ha).1
  have lM' := (R.leM hc).1
  rw [← e, ← e', interVV (by omega) (by omega) (by omega), R.btw ha hb hc, R.btw ha hb hd, ka, kb, kc, kd]
  unfold BtwI
  simp only [Bool.false_eq_true, false_iff, Classical.not_not]
  omega
theorem Btw_swap {p q v : Nat} : Btw p q v ↔ Btw q p v := Or.comm
theorem diag_crossR (R : Ring n M X H) {i j k m : Nat} (hij : i < j) (hj : j < n) (hkm : k < m) (hm : m < n) (hik : i < k) (hjk : j ≠ k) (hjm : j ≠ m) (D1 : DG n X H i j) (D2 : DG n X H k m) :
    interP (X i) (H i) (X j) (H j) (X k) (H k) (X m) (H m) = decide (k < j ∧ j < m) := by
  rw [Bool.eq_iff_iff, decide_eq_true_eq]
  have hi : i < n := by omega
  have hk : k < n := by omega
  have key : interP (X i) (H i) (X j) (H j) (X k) (H k) (X m) (H m) = true ↔ ¬(Btw i j k ↔ Btw i j m) := by
    rcases D1 with D1 | D1 | ⟨e, l1, l2⟩ <;> rcases D2 with D2 | D2 | ⟨e', l3, l4⟩
    · exact cross_nv R hi hj hk hm (by omega) (by omega) hjk hjm D1 D2
    · rw [← interP_cd, cross_nv R hi hj hm hk (by omega) (by omega) hjm hjk D1 D2]
      exact not_congr Iff.comm
    · rw [← interP_pair, cross_v R hk hm hi hj (by omega) (by omega) (by omega) (by omega) e' l3 l4 D1]
      unfold Btw; omega
    · rw [← interP_ab, cross_nv R hj hi hk hm hjk hjm (by omega) (by omega) D1 D2, Btw_swap, Btw_swap (v := m)]
    · rw [← interP_ab, ← interP_cd, cross_nv R hj hi hm hk hjm hjk (by omega) (by omega) D1 D2, Btw_swap, Btw_swap (v := k)]
      exact not_congr Iff.comm
    · rw [← interP_pair, ← interP_cd, cross_v R hk hm hj hi (by omega) (by omega) (by omega) (by omega) e' l3 l4 D1]
      unfold Btw; omega
    · exact cross_v R hi hj hk hm (by omega) (by omega) hjk hjm e l1 l2 D2
    · rw [← interP_cd, cross_v R hi hj hm hk (by omega) (by omega) hjm hjk e l1 l2 D2]
      exact not_congr Iff.comm
    · exact cross_vv R hi hj hk hm (by omega) e l1 l2 e' l3 l4
  rw [key]
  unfold Btw
  omega
end
end Mine
end

section
namespace Mine
/-- potential of a corner in the count of crossings -/
def phi (b : Bool) (s zx zy : Int) (a : Bool) (vx vy : Int) : Bool :=
  if b then (if vx ≤ zx then a else false) else (if zx ≤ vx then decide (trY b s vx vy ≤ trY b s zx zy) else a)
def crossT (b : Bool) (s cx cy dx dy zx zy : Int) : Bool := crossB (trx b s cx cy) (trY b s cx cy) (trx b s dx dy) (trY b s dx dy) (trx b s zx zy) (trY b s zx zy)
/-- the plain case: no turn; t the cross, heights behind the shear -/
theorem cross0 {cx cy dx dy zx zy t : Int} {a : Bool} (ht : t = twiceP cx cy dx dy zx zy) (h : cx < dx) (hz : cx ≤ zx → zx ≤ dx → t ≠ 0 ∧ a = decide (0 < t)) :
    ((decide (cy ≤ zy) != decide (dy ≤ zy)) && (decide (0 < t) == decide (cy < dy))) = ((if zx ≤ cx then decide (cy ≤ zy) else a) != (if zx ≤ dx then decide (dy ≤ zy) else a)) ∧
    ((decide (dy ≤ zy) != decide (cy ≤ zy)) && (decide (0 < -t) == decide (dy < cy))) = ((if zx ≤ cx then decide (cy ≤ zy) else a) != (if zx ≤ dx then decide (dy ≤ zy) else a)) := by
  have e1 : t = (dx - zx) * (zy - cy) + (zx - cx) * (zy - dy) := by rw [ht]; unfold twiceP; grind
  have e2 : t = (dx - cx) * (zy - cy) + (dy - cy) * (cx - zx) := by rw [ht]; unfold twiceP; grind
  have e3 : t = (dx - cx) * (zy - dy) + (dy - cy) * (dx - zx) := by rw [ht]; unfold twiceP; grind
  clear ht
  by_cases g1 : cy ≤ zy <;> by_cases g2 : dy ≤ zy
  · -- both at or below
    simp only [g1, g2, decide_true, bne_self_eq_false, Bool.false_and]
    by_cases c1 : zx ≤ cx
    · simp [c1, show zx ≤ dx by omega]
    · by_cases c2 : zx ≤ dx
      · have ⟨h0, ha⟩ := hz (by omega) c2
        have p1 := Int.mul_nonneg (show 0 ≤ dx - zx by omega) (show 0 ≤ zy - cy by omega)
        have p2 := Int.mul_nonneg (show 0 ≤ zx - cx by omega) (show 0 ≤ zy - dy by omega)
        have : 0 < t := by omega
        simp [c1, c2, ha, this]
      · simp [c1, c2]
  · -- cy ≤ zy < dy
    simp only [g1, g2, decide_true, decide_false]
    have q1 : cy < dy := by omega
    have q2 : ¬ dy < cy := by omega
    simp only [q1, q2, decide_true, decide_false]
    by_cases c1 : zx ≤ cx
    · have c2 : zx ≤ dx := by omega
      have p1 := Int.mul_nonneg (show 0 ≤ dx - cx by omega) (show 0 ≤ zy - cy by omega)
      have p2 := Int.mul_nonneg (show 0 ≤ dy - cy by omega) (show 0 ≤ cx - zx by omega)
      have ht : 0 < t := by
        by_cases c3 : zx = cx
        · have := (hz (by omega) c2).1; omega
        · have := Int.mul_pos (show 0 < dy - cy by omega) (show 0 < cx - zx by omega); omega
      simp [c1, c2, ht, show ¬ t < 0 by omega]
    · by_cases c2 : zx ≤ dx
      · have ⟨h0, ha⟩ := hz (by omega) c2
        by_cases ht : 0 < t
        · simp [c1, c2, ha, ht, show ¬ t < 0 by omega]
        · simp [c1, c2, ha, ht, show t < 0 by omega]
      · have p1 := Int.mul_neg_of_pos_of_neg (show 0 < dx - cx by omega) (show zy - dy < 0 by omega)
        have p2 := Int.mul_neg_of_pos_of_neg (show 0 < dy - cy by omega) (show dx - zx < 0 by omega)
        have ht : t < 0 := by omega
        simp [c1, c2, ht, show ¬ 0 < t by omega]
  · -- dy ≤ zy < cy
    simp only [g1, g2, decide_true, decide_false]
    have q1 : ¬ cy < dy := by omega
    have q2 : dy < cy := by omega
    simp only [q1, q2, decide_true, decide_false]
    by_cases c1 : zx ≤ cx
    · have c2 : zx ≤ dx := by omega
      have p1 := Int.mul_neg_of_pos_of_neg (show 0 < dx - cx by omega) (show zy - cy < 0 by omega)
      have p2 := Int.mul_nonneg (show 0 ≤ cy - dy by omega) (show 0 ≤ cx - zx by omega)
      have p3 : (dy - cy) * (cx - zx) = -((cy - dy) * (cx - zx)) := by grind
      have ht : t < 0 := by omega
      simp [c1, c2, ht, show ¬ 0 < t by omega]
    · by_cases c2 : zx ≤ dx
      · have ⟨h0, ha⟩ := hz (by omega) c2
        by_cases ht : 0 < t
        · simp [c1, c2, ha, ht, show ¬ t < 0 by omega]
        · simp [c1, c2, ha, ht, show t < 0 by omega]
      · have p1 := Int.mul_nonneg (show 0 ≤ dx - cx by omega) (show 0 ≤ zy - dy by omega)
        have p2 := Int.mul_pos (show 0 < cy - dy by omega) (show 0 < zx - dx by omega)
        have p3 : (dy - cy) * (dx - zx) = (cy - dy) * (zx - dx) := by grind
        have ht : 0 < t := by omega
        simp [c1, c2, ht, show ¬ t < 0 by omega]
  · simp only [g1, g2, decide_false, bne_self_eq_false, Bool.false_and]
    by_cases c1 : zx ≤ cx
    · simp [c1, show zx ≤ dx by omega]
    · by_cases c2 : zx ≤ dx
      · have ⟨h0, ha⟩ := hz (by omega) c2
        have p1 := Int.mul_nonneg (show 0 ≤ dx - zx by omega) (show 0 ≤ cy - zy by omega)
        have p2 := Int.mul_nonneg (show 0 ≤ zx - cx by omega) (show 0 ≤ dy - zy by omega)
        have p3 : (dx - zx) * (zy - cy) = -((dx - zx) * (cy - zy)) := by grind
        have p4 : (zx - cx) * (zy - dy) = -((zx - cx) * (dy - zy)) := by grind
        have : ¬ 0 < t := by omega
        simp [c1, c2, ha, this]
      · simp [c1, c2]
theorem cross1 {cx dx zx t : Int} {a : Bool} (h : cx < dx) (hz : cx ≤ zx → zx ≤ dx → t ≠ 0 ∧ a = decide (0 < t)) :
    ((decide (cx ≤ zx) != decide (dx ≤ zx)) && (decide (0 < t) == decide (cx < dx))) = ((if cx ≤ zx then a else false) != (if dx ≤ zx then a else false)) ∧
    ((decide (dx ≤ zx) != decide (cx ≤ zx)) && (decide (0 < -t) == decide (dx < cx))) = ((if cx ≤ zx then a else false) != (if dx ≤ zx then a else false)) := by
  have q2 : ¬ dx < cx := by omega
  by_cases c1 : cx ≤ zx
  · by_cases c2 : dx ≤ zx
    · simp [c1, c2]
    · have ⟨h0, ha⟩ := hz c1 (by omega)
      by_cases ht : 0 < t
      · simp [c1, c2, h, q2, ha, ht, show ¬ t < 0 by omega]
      · simp [c1, c2, h, q2, ha, ht, show t < 0 by omega]
  · simp [c1, show ¬ dx ≤ zx by omega]
theorem crossT_phi {b : Bool} {s cx cy dx dy zx zy : Int} {a : Bool} (h : cx < dx) (hz : cx ≤ zx → zx ≤ dx → twiceP cx cy dx dy zx zy ≠ 0 ∧ a = decide (0 < twiceP cx cy dx dy zx zy)) :
    crossT b s cx cy dx dy zx zy = (phi b s zx zy a cx cy != phi b s zx zy a dx dy) ∧ crossT b s dx dy cx cy zx zy = (phi b s zx zy a cx cy != phi b s zx zy a dx dy) := by
  have e1 := T_tr (b := b) (s := s) (ax := cx) (ay := cy) (bx := dx) (yb := dy) (cx := zx) (cy := zy)
  have e2 := T_tr (b := b) (s := s) (ax := dx) (ay := dy) (bx := cx) (yb := cy) (cx := zx) (cy := zy)
  unfold crossT crossB phi
  rw [e1, e2, T_swap (ax := cx) (ay := cy) (bx := dx) (yb := dy)]
  cases b
  · simp only [trY, Bool.false_eq_true, if_false]
    refine cross0 ?_ h hz
    unfold twiceP; grind
  · simp only [trY, if_true]
    exact cross1 h hz
theorem xor4 (a b c d : Bool) : ((a != b) != (c != d)) = ((a != c) != (b != d)) := by cases a <;> cases b <;> cases c <;> cases d <;> rfl
abbrev T2 (X H : Nat → Int) (v w : Nat) (zx zy : Int) : Int := twiceP (2 * X v) (2 * H v) (2 * X w) (2 * H w) zx zy
theorem ite_not (c x : Bool) : (if c = true then !x else x) = (x != c) := by cases c <;> cases x <;> rfl
section
variable {n M : Nat} {X H : Nat → Int} {b : Bool} {s zx zy : Int} {aL aU : Bool}
theorem tr2 (b : Bool) (s x y : Int) : 2 * trx b s x y = trx b s (2 * x) (2 * y) ∧ 2 * trY b s x y = trY b s (2 * x) (2 * y) := by
  cases b <;> simp only [trx, trY, if_true, if_false, Bool.false_eq_true] <;> constructor <;> grind
theorem insP_step (k : Nat) : insP n (fun i => trx b s (X i) (H i)) (fun i => trY b s (X i) (H i)) (trx b s zx zy) (trY b s zx zy) (k + 1) =
    (insP n (fun i => trx b s (X i) (H i)) (fun i => trY b s (X i) (H i)) (trx b s zx zy) (trY b s zx zy) k != crossT b s (2 * X (pidx n k)) (2 * H (pidx n k)) (2 * X k) (2 * H k) zx zy) := by
  rw [insP, ite_not]
  simp only [(tr2 b s _ _).1, (tr2 b s _ _).2]
  rfl
/-- the count of crossings says: above the lower chain, not above the upper one -/
theorem parity (R : Ring n M X H) (hz0 : 0 < zx) (hz1 : zx < 2 * X M)
    (hL : ∀ v, v < M → 2 * X v ≤ zx → zx ≤ 2 * X (v + 1) → T2 X H v (v + 1) zx zy ≠ 0 ∧ aL = decide (0 < T2 X H v (v + 1) zx zy))
    (hU : ∀ v, M ≤ v → v + 1 < n → 2 * X (v + 1) ≤ zx → zx ≤ 2 * X v → T2 X H (v + 1) v zx zy ≠ 0 ∧ aU = decide (0 < T2 X H (v + 1) v zx zy))
    (hU0 : zx ≤ 2 * X (n - 1) → T2 X H 0 (n - 1) zx zy ≠ 0 ∧ aU = decide (0 < T2 X H 0 (n - 1) zx zy)) :
    insP n (fun i => trx b s (X i) (H i)) (fun i => trY b s (X i) (H i)) (trx b s zx zy) (trY b s zx zy) n = (aL != aU) := by
  have hM := R.hM
  have hn := R.hn
  obtain ⟨F, hF⟩ : ∃ F : Nat → Bool, F = fun v => phi b s zx zy aL (2 * X v) (2 * H v) := ⟨_, rfl⟩
  obtain ⟨G, hG⟩ : ∃ G : Nat → Bool, G = fun v => phi b s zx zy aU (2 * X v) (2 * H v) := ⟨_, rfl⟩
  obtain ⟨I, hI⟩ : ∃ I : Nat → Bool, I = insP n (fun i => trx b s (X i) (H i)) (fun i => trY b s (X i) (H i)) (trx b s zx zy) (trY b s zx zy) := ⟨_, rfl⟩
  have st (k : Nat) : I (k + 1) = (I k != crossT b s (2 * X (pidx n k)) (2 * H (pidx n k)) (2 * X k) (2 * H k) zx zy) := by rw [hI]; exact insP_step k
  have lowE (v : Nat) (hv : v < M) : crossT b s (2 * X v) (2 * H v) (2 * X (v + 1)) (2 * H (v + 1)) zx zy = (F v != F (v + 1)) := by
    rw [hF]
    exact (crossT_phi (by have := R.lo v hv; omega) (hL v hv)).1
  have upE (v : Nat) (hv : M ≤ v) (hv' : v + 1 < n) : crossT b s (2 * X v) (2 * H v) (2 * X (v + 1)) (2 * H (v + 1)) zx zy = (G (v + 1) != G v) := by
    rw [hG]
    exact (crossT_phi (by have := R.up v hv hv'; omega) (hU v hv hv')).2
  have upE0 : crossT b s (2 * X (n - 1)) (2 * H (n - 1)) (2 * X 0) (2 * H 0) zx zy = (G 0 != G (n - 1)) := by
    rw [hG]
    exact (crossT_phi (by have := R.last; have := R.x0; omega) (fun _ h => hU0 h)).2
  have F0 : F 0 = aL := by
    rw [hF]; simp only [phi, R.x0]
    cases b <;> simp <;> omega
  have G0 : G 0 = aU := by
    rw [hG]; simp only [phi, R.x0]
    cases b <;> simp <;> omega
  have FM : F M = G M := by
    rw [hF, hG]; simp only [phi]
    cases b
    · simp [show zx ≤ 2 * X M by omega]
    · simp [show ¬ 2 * X M ≤ zx by omega]
  have I1 : I 1 = (G 0 != G (n - 1)) := by
    rw [st 0, show I 0 = false by rw [hI]; rfl, show pidx n 0 = n - 1 from rfl, upE0]
    cases (G 0 != G (n - 1)) <;> rfl
  have A (k : Nat) (hk : k ≤ M) : I (k + 1) = ((G 0 != G (n - 1)) != (F 0 != F k)) := by
    induction k with
    | zero => rw [I1]; cases G 0 <;> cases G (n - 1) <;> cases F 0 <;> rfl
    | succ k ih =>
      rw [st (k + 1), ih (by omega), show pidx n (k + 1) = k by simp [pidx], lowE k (by omega)]
      cases G 0 <;> cases G (n - 1) <;> cases F 0 <;> cases F k <;> cases F (k + 1) <;> rfl
  have B (k : Nat) (hk : M + k < n) : I (M + k + 1) = (((G 0 != G (n - 1)) != (F 0 != F M)) != (G (M + k) != G M)) := by
    induction k with
    | zero => rw [Nat.add_zero, A M (Nat.le_refl M)]; cases G 0 <;> cases G (n - 1) <;> cases F 0 <;> cases F M <;> cases G M <;> rfl
    | succ k ih =>
      rw [show M + (k + 1) + 1 = (M + k + 1) + 1 by omega, st (M + k + 1), ih (by omega), show pidx n (M + k + 1) = M + k by simp [pidx], upE (M + k) (by omega) (by omega), show M + (k + 1) = M + k + 1 by omega]
      cases G 0 <;> cases G (n - 1) <;> cases F 0 <;> cases F M <;> cases G M <;> cases G (M + k) <;> cases G (M + k + 1) <;> rfl
  have C := B (n - 1 - M) (by omega)
  rw [show M + (n - 1 - M) = n - 1 by omega, show n - 1 + 1 = n by omega] at C
  rw [← hI, C, FM, F0, G0]
  cases aL <;> cases aU <;> cases G M <;> cases G (n - 1) <;> rfl
end
end Mine
end

section
namespace Mine
section
variable {ax ay bx yb cx cy dx dy : Int}
theorem ns00 (h : interP ax ay bx yb cx cy dx dy = false) (x1 : ax < bx) (x2 : cx < dx) (o1 : cx ≤ bx) (o2 : ax ≤ dx) :
    (0 < dl ax ay bx yb cx cy dx dy ∧ 0 < dr ax ay bx yb cx cy dx dy) ∨ (dl ax ay bx yb cx cy dx dy < 0 ∧ dr ax ay bx yb cx cy dx dy < 0) := by
  have k := mt (interF x1 x2).mpr (by rw [h]; decide)
  exact Classical.byContradiction fun e => k ⟨o1, o2, e⟩
theorem ns01 (h : interP ax ay bx yb dx dy cx cy = false) (x1 : ax < bx) (x2 : cx < dx) (o1 : cx ≤ bx) (o2 : ax ≤ dx) :
    (0 < dl ax ay bx yb cx cy dx dy ∧ 0 < dr ax ay bx yb cx cy dx dy) ∨ (dl ax ay bx yb cx cy dx dy < 0 ∧ dr ax ay bx yb cx cy dx dy < 0) :=
  ns00 (by rw [← interP_cd]; exact h) x1 x2 o1 o2
theorem ns10 (h : interP bx yb ax ay cx cy dx dy = false) (x1 : ax < bx) (x2 : cx < dx) (o1 : cx ≤ bx) (o2 : ax ≤ dx) :
    (0 < dl ax ay bx yb cx cy dx dy ∧ 0 < dr ax ay bx yb cx cy dx dy) ∨ (dl ax ay bx yb cx cy dx dy < 0 ∧ dr ax ay bx yb cx cy dx dy < 0) :=
  ns00 (by rw [← interP_ab]; exact h) x1 x2 o1 o2
theorem ns11 (h : interP bx yb ax ay dx dy cx cy = false) (x1 : ax < bx) (x2 : cx < dx) (o1 : cx ≤ bx) (o2 : ax ≤ dx) :
    (0 < dl ax ay bx yb cx cy dx dy ∧ 0 < dr ax ay bx yb cx cy dx dy) ∨ (dl ax ay bx yb cx cy dx dy < 0 ∧ dr ax ay bx yb cx cy dx dy < 0) :=
  ns01 (by rw [← interP_ab]; exact h) x1 x2 o1 o2
end
/-- locally_inside by the crosses -/
def locT (tpan tabn tapb tabp tanb : Int) : Bool := if 0 < tpan then decide (tabn ≤ 0 ∧ tapb ≤ 0) else decide (0 < tabp ∨ 0 < tanb)
theorem loc_t {a b c d e : Int} (h : (0 < a → b ≤ 0 ∧ c ≤ 0) ∧ (¬ 0 < a → 0 < d ∨ 0 < e)) : locT a b c d e = true := by
  unfold locT; split
  · rename_i k; exact decide_eq_true (h.1 k)
  · rename_i k; exact decide_eq_true (h.2 k)
theorem loc_f {a b c d e : Int} (h : (0 < a → 0 < b ∨ 0 < c) ∧ (¬ 0 < a → d ≤ 0 ∧ e ≤ 0)) : locT a b c d e = false := by
  unfold locT; split
  · rename_i k; exact decide_eq_false (by have := h.1 k; omega)
  · rename_i k; exact decide_eq_false (by have := h.2 k; omega)
theorem localT {ax ay bx yb px py nx ny : Int} : localP ax ay bx yb px py nx ny = locT (twiceP px py ax ay nx ny) (twiceP ax ay bx yb nx ny) (twiceP ax ay px py bx yb) (twiceP ax ay bx yb px py) (twiceP ax ay nx ny bx yb) := by
  unfold localP locT
  simp only [areaT]
  have e1 (x : Int) : -x < 0 ↔ 0 < x := by omega
  have e2 (x : Int) : -x ≥ 0 ↔ x ≤ 0 := by omega
  simp only [e1, e2]
def locR (n : Nat) (X H : Nat → Int) (i j : Nat) : Bool := locT (TR X H (prv n i) i (nxt n i)) (TR X H i j (nxt n i)) (TR X H i (prv n i) j) (TR X H i j (prv n i)) (TR X H i (nxt n i) j)
structure WayR (n : Nat) (X H : Nat → Int) (i j : Nat) : Prop where
  ap : Apart n i j
  s1 : j = i + 2 → TR X H i (i + 1) j ≠ 0
  s2 : j + 2 = i + n → TR X H j ((j + 1) % n) i ≠ 0
  fr : ∀ k < n, i ≠ k → i ≠ (k + 1) % n → j ≠ k → j ≠ (k + 1) % n → interP (X i) (H i) (X j) (H j) (X k) (H k) (X ((k + 1) % n)) (H ((k + 1) % n)) = false
def Low (M : Nat) (X H : Nat → Int) (zx zy : Int) (aL : Bool) : Prop :=
  ∀ v, v < M → 2 * X v ≤ zx → zx ≤ 2 * X (v + 1) → T2 X H v (v + 1) zx zy ≠ 0 ∧ aL = decide (0 < T2 X H v (v + 1) zx zy)
def Upp (n M : Nat) (X H : Nat → Int) (zx zy : Int) (aU : Bool) : Prop :=
  (∀ v, M ≤ v → v + 1 < n → 2 * X (v + 1) ≤ zx → zx ≤ 2 * X v → T2 X H (v + 1) v zx zy ≠ 0 ∧ aU = decide (0 < T2 X H (v + 1) v zx zy)) ∧
  (zx ≤ 2 * X (n - 1) → T2 X H 0 (n - 1) zx zy ≠ 0 ∧ aU = decide (0 < T2 X H 0 (n - 1) zx zy))
def Res (n M : Nat) (X H : Nat → Int) (i j : Nat) : Prop :=
  ∃ aL aU : Bool, Low M X H (X i + X j) (H i + H j) aL ∧ Upp n M X H (X i + X j) (H i + H j) aU ∧ locR n X H i j = (aL != aU) ∧ locR n X H j i = (aL != aU) ∧ ((aL != aU) = true → DG n X H i j)
theorem pos_c {t : Int} (h : 0 < t) : t ≠ 0 ∧ true = decide (0 < t) := ⟨by omega, (decide_eq_true h).symm⟩
theorem neg_c {t : Int} (h : t < 0) : t ≠ 0 ∧ false = decide (0 < t) := ⟨by omega, (decide_eq_false (by omega)).symm⟩
end Mine
end

section
set_option linter.unusedSimpArgs false
set_option linter.unusedVariables false
namespace Mine
def Sh0 (X H : Nat → Int) : Prop := X 0 = 0 ∧ X 1 = 1 ∧ X 2 = 2 ∧ X 3 = 3 ∧ X 4 = 4 ∧ X 5 = 2 ∧ X 6 = 1 ∧ H 0 = 0 ∧ H 1 < 0 ∧ H 2 < 0 ∧ H 3 < 0 ∧ H 4 = 0 ∧ 0 < H 5 ∧ 0 < H 6
theorem ring0 {X H : Nat → Int} (S : Sh0 X H) : Ring 7 4 X H := by
  obtain ⟨x0, x1, x2, x3, x4, x5, x6, y0, y1, y2, y3, y4, y5, y6⟩ := S
  refine ⟨by omega, by omega, x0, ?_, ?_, ?_, y0, y4, ?_, ?_⟩
  · intro v hv
    obtain rfl | rfl | rfl | rfl := (by omega : v = 0 ∨ v = 1 ∨ v = 2 ∨ v = 3) <;> (simp only [Nat.reduceAdd, Nat.zero_add]; omega)
  · intro v hv hv2
    obtain rfl | rfl := (by omega : v = 4 ∨ v = 5) <;> (simp only [Nat.reduceAdd, Nat.zero_add]; omega)
  · simp only [Nat.reduceSub]; omega
  · intro v hv hv2
    obtain rfl | rfl | rfl := (by omega : v = 1 ∨ v = 2 ∨ v = 3) <;> assumption
  · intro v hv hv2
    obtain rfl | rfl := (by omega : v = 5 ∨ v = 6) <;> assumption
theorem w0_0_2 {X H : Nat → Int} (S : Sh0 X H) (W : WayR 7 X H 0 2) : Res 7 4 X H 0 2 := by
  obtain ⟨x0, x1, x2, x3, x4, x5, x6, y0, y1, y2, y3, y4, y5, y6⟩ := S
  have f4 : (0 < TR X H 0 2 5 ∧ 0 < -(TR X H 5 4 2)) ∨ (TR X H 0 2 5 < 0 ∧ -(TR X H 5 4 2) < 0) := by
    have h0 : interP (X 0) (H 0) (X 2) (H 2) (X 4) (H 4) (X 5) (H 5) = false := W.fr 4 (by decide) (by decide) (by decide) (by decide) (by decide)
    have h := ns01 h0 (by omega) (by omega) (by omega) (by omega)
    rw [dl_1 (by omega), dr_2 (by omega)] at h
    exact h
  have f5 : (0 < TR X H 0 2 6 ∧ 0 < TR X H 0 2 5) ∨ (TR X H 0 2 6 < 0 ∧ TR X H 0 2 5 < 0) := by
    have h0 : interP (X 0) (H 0) (X 2) (H 2) (X 5) (H 5) (X 6) (H 6) = false := W.fr 5 (by decide) (by decide) (by decide) (by decide) (by decide)
    have h := ns01 h0 (by omega) (by omega) (by omega) (by omega)
    rw [dl_1 (by omega), dr_1 (by omega)] at h
    exact h
  have z1 : TR X H 0 1 2 ≠ 0 := W.s1 rfl
  clear W
  by_cases hc : TR X H 0 2 1 < 0
  · simp only [TR, T2, twiceP, x0, x1, x2, x3, x4, x5, x6, y0, y4] at f4 f5 z1 hc
    replace f5 := f5.resolve_right (by omega)
    replace f4 := f4.resolve_right (by omega)
    refine ⟨true, false, ?_, ⟨?_, ?_⟩, ?_, ?_, ?_⟩
    · intro v hv a1 a2
      obtain rfl | rfl | rfl | rfl := (by omega : v = 0 ∨ v = 1 ∨ v = 2 ∨ v = 3)
      · exact pos_c (by simp only [Nat.reduceAdd, Nat.zero_add, TR, T2, twiceP, x0, x1, x2, x3, x4, x5, x6, y0, y4]; omega)
      · exact pos_c (by simp only [Nat.reduceAdd, Nat.zero_add, TR, T2, twiceP, x0, x1, x2, x3, x4, x5, x6, y0, y4]; omega)
      · exfalso; simp only [Nat.reduceAdd, Nat.zero_add] at a1 a2; omega
      · exfalso; simp only [Nat.reduceAdd, Nat.zero_add] at a1 a2; omega
    · intro v hv hv2 a1 a2
      obtain rfl | rfl := (by omega : v = 4 ∨ v = 5)
      · exfalso; simp only [Nat.reduceAdd, Nat.zero_add] at a1 a2; omega
      · exact neg_c (by simp only [Nat.reduceAdd, Nat.zero_add, TR, T2, twiceP, x0, x1, x2, x3, x4, x5, x6, y0, y4]; omega)
    · intro a1
      exact neg_c (by simp only [Nat.reduceSub, TR, T2, twiceP, x0, x1, x2, x3, x4, x5, x6, y0, y4]; omega)
    · show locT (TR X H 6 0 1) (TR X H 0 2 1) (TR X H 0 6 2) (TR X H 0 2 6) (TR X H 0 1 2) = true
      exact loc_t (by simp only [TR, T2, twiceP, x0, x1, x2, x3, x4, x5, x6, y0, y4]; omega)
    · show locT (TR X H 1 2 3) (TR X H 2 0 3) (TR X H 2 1 0) (TR X H 2 0 1) (TR X H 2 3 0) = true
      exact loc_t (by simp only [TR, T2, twiceP, x0, x1, x2, x3, x4, x5, x6, y0, y4]; omega)
    · refine fun _ => .inl ⟨by omega, fun v hv n1 n2 a1 a2 => ?_⟩
      obtain rfl | rfl | rfl | rfl | rfl | rfl | rfl := (by omega : v = 0 ∨ v = 1 ∨ v = 2 ∨ v = 3 ∨ v = 4 ∨ v = 5 ∨ v = 6)
      · exact absurd rfl n1
      · exact .inl ⟨by omega, by simp only [TR, T2, twiceP, x0, x1, x2, x3, x4, x5, x6, y0, y4]; omega⟩
      · exact absurd rfl n2
      · exfalso; omega
      · exfalso; omega
      · exact .inr ⟨by omega, by simp only [TR, T2, twiceP, x0, x1, x2, x3, x4, x5, x6, y0, y4]; omega⟩
      · exact .inr ⟨by omega, by simp only [TR, T2, twiceP, x0, x1, x2, x3, x4, x5, x6, y0, y4]; omega⟩
  · simp only [TR, T2, twiceP, x0, x1, x2, x3, x4, x5, x6, y0, y4] at f4 f5 z1 hc
    replace f5 := f5.resolve_right (by omega)
    replace f4 := f4.resolve_right (by omega)
    refine ⟨false, false, ?_, ⟨?_, ?_⟩, ?_, ?_, ?_⟩
    · intro v hv a1 a2
      obtain rfl | rfl | rfl | rfl := (by omega : v = 0 ∨ v = 1 ∨ v = 2 ∨ v = 3)
      · exact neg_c (by simp only [Nat.reduceAdd, Nat.zero_add, TR, T2, twiceP, x0, x1, x2, x3, x4, x5, x6, y0, y4]; omega)
      · exact neg_c (by simp only [Nat.reduceAdd, Nat.zero_add, TR, T2, twiceP, x0, x1, x2, x3, x4, x5, x6, y0, y4]; omega)
      · exfalso; simp only [Nat.reduceAdd, Nat.zero_add] at a1 a2; omega
      · exfalso; simp only [Nat.reduceAdd, Nat.zero_add] at a1 a2; omega
    · intro v hv hv2 a1 a2
      obtain rfl | rfl := (by omega : v = 4 ∨ v = 5)
      · exfalso; simp only [Nat.reduceAdd, Nat.zero_add] at a1 a2; omega
      · exact neg_c (by simp only [Nat.reduceAdd, Nat.zero_add, TR, T2, twiceP, x0, x1, x2, x3, x4, x5, x6, y0, y4]; omega)
    · intro a1
      exact neg_c (by simp only [Nat.reduceSub, TR, T2, twiceP, x0, x1, x2, x3, x4, x5, x6, y0, y4]; omega)
    · show locT (TR X H 6 0 1) (TR X H 0 2 1) (TR X H 0 6 2) (TR X H 0 2 6) (TR X H 0 1 2) = false
      exact loc_f (by simp only [TR, T2, twiceP, x0, x1, x2, x3, x4, x5, x6, y0, y4]; omega)
    · show locT (TR X H 1 2 3) (TR X H 2 0 3) (TR X H 2 1 0) (TR X H 2 0 1) (TR X H 2 3 0) = false
      exact loc_f (by simp only [TR, T2, twiceP, x0, x1, x2, x3, x4, x5, x6, y0, y4]; omega)
    · exact fun h => absurd h (by decide)
theorem w0_0_3 {X H : Nat → Int} (S : Sh0 X H) (W : WayR 7 X H 0 3) : Res 7 4 X H 0 3 := by
  obtain ⟨x0, x1, x2, x3, x4, x5, x6, y0, y1, y2, y3, y4, y5, y6⟩ := S
  have f1 : (0 < TR X H 0 3 1 ∧ 0 < TR X H 0 3 2) ∨ (TR X H 0 3 1 < 0 ∧ TR X H 0 3 2 < 0) := by
    have h0 : interP (X 0) (H 0) (X 3) (H 3) (X 1) (H 1) (X 2) (H 2) = false := W.fr 1 (by decide) (by decide) (by decide) (by decide) (by decide)
    have h := ns00 h0 (by omega) (by omega) (by omega) (by omega)
    rw [dl_1 (by omega), dr_1 (by omega)] at h
    exact h
  have f4 : (0 < TR X H 0 3 5 ∧ 0 < -(TR X H 5 4 3)) ∨ (TR X H 0 3 5 < 0 ∧ -(TR X H 5 4 3) < 0) := by
    have h0 : interP (X 0) (H 0) (X 3) (H 3) (X 4) (H 4) (X 5) (H 5) = false := W.fr 4 (by decide) (by decide) (by decide) (by decide) (by decide)
    have h := ns01 h0 (by omega) (by omega) (by omega) (by omega)
    rw [dl_1 (by omega), dr_2 (by omega)] at h
    exact h
  have f5 : (0 < TR X H 0 3 6 ∧ 0 < TR X H 0 3 5) ∨ (TR X H 0 3 6 < 0 ∧ TR X H 0 3 5 < 0) := by
    have h0 : interP (X 0) (H 0) (X 3) (H 3) (X 5) (H 5) (X 6) (H 6) = false := W.fr 5 (by decide) (by decide) (by decide) (by decide) (by decide)
    have h := ns01 h0 (by omega) (by omega) (by omega) (by omega)
    rw [dl_1 (by omega), dr_1 (by omega)] at h
    exact h
  clear W
  by_cases hc : TR X H 0 3 1 < 0
  · simp only [TR, T2, twiceP, x0, x1, x2, x3, x4, x5, x6, y0, y4] at f1 f4 f5 hc
    replace f1 := f1.resolve_left (by omega)
    replace f5 := f5.resolve_right (by omega)
    replace f4 := f4.resolve_right (by omega)
    refine ⟨true, false, ?_, ⟨?_, ?_⟩, ?_, ?_, ?_⟩
    · intro v hv a1 a2
      obtain rfl | rfl | rfl | rfl := (by omega : v = 0 ∨ v = 1 ∨ v = 2 ∨ v = 3)
      · exfalso; simp only [Nat.reduceAdd, Nat.zero_add] at a1 a2; omega
      · exact pos_c (by simp only [Nat.reduceAdd, Nat.zero_add, TR, T2, twiceP, x0, x1, x2, x3, x4, x5, x6, y0, y4]; omega)
      · exfalso; simp only [Nat.reduceAdd, Nat.zero_add] at a1 a2; omega
      · exfalso; simp only [Nat.reduceAdd, Nat.zero_add] at a1 a2; omega
    · intro v hv hv2 a1 a2
      obtain rfl | rfl := (by omega : v = 4 ∨ v = 5)
      · exfalso; simp only [Nat.reduceAdd, Nat.zero_add] at a1 a2; omega
      · exact neg_c (by simp only [Nat.reduceAdd, Nat.zero_add, TR, T2, twiceP, x0, x1, x2, x3, x4, x5, x6, y0, y4]; omega)
    · intro a1
      exfalso; simp only [Nat.reduceSub] at a1; omega
    · show locT (TR X H 6 0 1) (TR X H 0 3 1) (TR X H 0 6 3) (TR X H 0 3 6) (TR X H 0 1 3) = true
      exact loc_t (by simp only [TR, T2, twiceP, x0, x1, x2, x3, x4, x5, x6, y0, y4]; omega)
    · show locT (TR X H 2 3 4) (TR X H 3 0 4) (TR X H 3 2 0) (TR X H 3 0 2) (TR X H 3 4 0) = true
      exact loc_t (by simp only [TR, T2, twiceP, x0, x1, x2, x3, x4, x5, x6, y0, y4]; omega)
    · refine fun _ => .inl ⟨by omega, fun v hv n1 n2 a1 a2 => ?_⟩
      obtain rfl | rfl | rfl | rfl | rfl | rfl | rfl := (by omega : v = 0 ∨ v = 1 ∨ v = 2 ∨ v = 3 ∨ v = 4 ∨ v = 5 ∨ v = 6)
      · exact absurd rfl n1
      · exact .inl ⟨by omega, by simp only [TR, T2, twiceP, x0, x1, x2, x3, x4, x5, x6, y0, y4]; omega⟩
      · exact .inl ⟨by omega, by simp only [TR, T2, twiceP, x0, x1, x2, x3, x4, x5, x6, y0, y4]; omega⟩
      · exact absurd rfl n2
      · exfalso; omega
      · exact .inr ⟨by omega, by simp only [TR, T2, twiceP, x0, x1, x2, x3, x4, x5, x6, y0, y4]; omega⟩
      · exact .inr ⟨by omega, by simp only [TR, T2, twiceP, x0, x1, x2, x3, x4, x5, x6, y0, y4]; omega⟩
  · simp only [TR, T2, twiceP, x0, x1, x2, x3, x4, x5, x6, y0, y4] at f1 f4 f5 hc
    replace f1 := f1.resolve_right (by omega)
    replace f5 := f5.resolve_right (by omega)
    replace f4 := f4.resolve_right (by omega)
    refine ⟨false, false, ?_, ⟨?_, ?_⟩, ?_, ?_, ?_⟩
    · intro v hv a1 a2
      obtain rfl | rfl | rfl | rfl := (by omega : v = 0 ∨ v = 1 ∨ v = 2 ∨ v = 3)
      · exfalso; simp only [Nat.reduceAdd, Nat.zero_add] at a1 a2; omega
      · exact neg_c (by simp only [Nat.reduceAdd, Nat.zero_add, TR, T2, twiceP, x0, x1, x2, x3, x4, x5, x6, y0, y4]; omega)
      · exfalso; simp only [Nat.reduceAdd, Nat.zero_add] at a1 a2; omega
      · exfalso; simp only [Nat.reduceAdd, Nat.zero_add] at a1 a2; omega
    · intro v hv hv2 a1 a2
      obtain rfl | rfl := (by omega : v = 4 ∨ v = 5)
      · exfalso; simp only [Nat.reduceAdd, Nat.zero_add] at a1 a2; omega
      · exact neg_c (by simp only [Nat.reduceAdd, Nat.zero_add, TR, T2, twiceP, x0, x1, x2, x3, x4, x5, x6, y0, y4]; omega)
    · intro a1
      exfalso; simp only [Nat.reduceSub] at a1; omega
    · show locT (TR X H 6 0 1) (TR X H 0 3 1) (TR X H 0 6 3) (TR X H 0 3 6) (TR X H 0 1 3) = false
      exact loc_f (by simp only [TR, T2, twiceP, x0, x1, x2, x3, x4, x5, x6, y0, y4]; omega)
    · show locT (TR X H 2 3 4) (TR X H 3 0 4) (TR X H 3 2 0) (TR X H 3 0 2) (TR X H 3 4 0) = false
      exact loc_f (by simp only [TR, T2, twiceP, x0, x1, x2, x3, x4, x5, x6, y0, y4]; omega)
    · exact fun h => absurd h (by decide)
theorem w0_0_4 {X H : Nat → Int} (S : Sh0 X H) (W : WayR 7 X H 0 4) : Res 7 4 X H 0 4 := by
  obtain ⟨x0, x1, x2, x3, x4, x5, x6, y0, y1, y2, y3, y4, y5, y6⟩ := S
  have f1 : (0 < TR X H 0 4 1 ∧ 0 < TR X H 0 4 2) ∨ (TR X H 0 4 1 < 0 ∧ TR X H 0 4 2 < 0) := by
    have h0 : interP (X 0) (H 0) (X 4) (H 4) (X 1) (H 1) (X 2) (H 2) = false := W.fr 1 (by decide) (by decide) (by decide) (by decide) (by decide)
    have h := ns00 h0 (by omega) (by omega) (by omega) (by omega)
    rw [dl_1 (by omega), dr_1 (by omega)] at h
    exact h
  have f2 : (0 < TR X H 0 4 2 ∧ 0 < TR X H 0 4 3) ∨ (TR X H 0 4 2 < 0 ∧ TR X H 0 4 3 < 0) := by
    have h0 : interP (X 0) (H 0) (X 4) (H 4) (X 2) (H 2) (X 3) (H 3) = false := W.fr 2 (by decide) (by decide) (by decide) (by decide) (by decide)
    have h := ns00 h0 (by omega) (by omega) (by omega) (by omega)
    rw [dl_1 (by omega), dr_1 (by omega)] at h
    exact h
  have f5 : (0 < TR X H 0 4 6 ∧ 0 < TR X H 0 4 5) ∨ (TR X H 0 4 6 < 0 ∧ TR X H 0 4 5 < 0) := by
    have h0 : interP (X 0) (H 0) (X 4) (H 4) (X 5) (H 5) (X 6) (H 6) = false := W.fr 5 (by decide) (by decide) (by decide) (by decide) (by decide)
    have h := ns01 h0 (by omega) (by omega) (by omega) (by omega)
    rw [dl_1 (by omega), dr_1 (by omega)] at h
    exact h
  clear W
  simp only [TR, T2, twiceP, x0, x1, x2, x3, x4, x5, x6, y0, y4] at f1 f2 f5
  replace f5 := f5.resolve_right (by omega)
  replace f1 := f1.resolve_left (by omega)
  replace f2 := f2.resolve_left (by omega)
  refine ⟨true, false, ?_, ⟨?_, ?_⟩, ?_, ?_, ?_⟩
  · intro v hv a1 a2
    obtain rfl | rfl | rfl | rfl := (by omega : v = 0 ∨ v = 1 ∨ v = 2 ∨ v = 3)
    · exfalso; simp only [Nat.reduceAdd, Nat.zero_add] at a1 a2; omega
    · exact pos_c (by simp only [Nat.reduceAdd, Nat.zero_add, TR, T2, twiceP, x0, x1, x2, x3, x4, x5, x6, y0, y4]; omega)
    · exact pos_c (by simp only [Nat.reduceAdd, Nat.zero_add, TR, T2, twiceP, x0, x1, x2, x3, x4, x5, x6, y0, y4]; omega)
    · exfalso; simp only [Nat.reduceAdd, Nat.zero_add] at a1 a2; omega
  · intro v hv hv2 a1 a2
    obtain rfl | rfl := (by omega : v = 4 ∨ v = 5)
    · exact neg_c (by simp only [Nat.reduceAdd, Nat.zero_add, TR, T2, twiceP, x0, x1, x2, x3, x4, x5, x6, y0, y4]; omega)
    · exact neg_c (by simp only [Nat.reduceAdd, Nat.zero_add, TR, T2, twiceP, x0, x1, x2, x3, x4, x5, x6, y0, y4]; omega)
  · intro a1
    exfalso; simp only [Nat.reduceSub] at a1; omega
  · show locT (TR X H 6 0 1) (TR X H 0 4 1) (TR X H 0 6 4) (TR X H 0 4 6) (TR X H 0 1 4) = true
    exact loc_t (by simp only [TR, T2, twiceP, x0, x1, x2, x3, x4, x5, x6, y0, y4]; omega)
  · show locT (TR X H 3 4 5) (TR X H 4 0 5) (TR X H 4 3 0) (TR X H 4 0 3) (TR X H 4 5 0) = true
    exact loc_t (by simp only [TR, T2, twiceP, x0, x1, x2, x3, x4, x5, x6, y0, y4]; omega)
  · refine fun _ => .inl ⟨by omega, fun v hv n1 n2 a1 a2 => ?_⟩
    obtain rfl | rfl | rfl | rfl | rfl | rfl | rfl := (by omega : v = 0 ∨ v = 1 ∨ v = 2 ∨ v = 3 ∨ v = 4 ∨ v = 5 ∨ v = 6)
    · exact absurd rfl n1
    · exact .inl ⟨by omega, by simp only [TR, T2, twiceP, x0, x1, x2, x3, x4, x5, x6, y0, y4]; omega⟩
    · exact .inl ⟨by omega, by simp only [TR, T2, twiceP, x0, x1, x2, x3, x4, x5, x6, y0, y4]; omega⟩
    · exact .inl ⟨by omega, by simp only [TR, T2, twiceP, x0, x1, x2, x3, x4, x5, x6, y0, y4]; omega⟩
    · exact absurd rfl n2
    · exact .inr ⟨by omega, by simp only [TR, T2, twiceP, x0, x1, x2, x3, x4, x5, x6, y0, y4]; omega⟩
    · exact .inr ⟨by omega, by simp only [TR, T2, twiceP, x0, x1, x2, x3, x4, x5, x6, y0, y4]; omega⟩
theorem w0_0_5 {X H : Nat → Int} (S : Sh0 X H) (W : WayR 7 X H 0 5) : Res 7 4 X H 0 5 := by
  obtain ⟨x0, x1, x2, x3, x4, x5, x6, y0, y1, y2, y3, y4, y5, y6⟩ := S
  have f1 : (0 < TR X H 0 5 1 ∧ 0 < TR X H 0 5 2) ∨ (TR X H 0 5 1 < 0 ∧ TR X H 0 5 2 < 0) := by
    have h0 : interP (X 0) (H 0) (X 5) (H 5) (X 1) (H 1) (X 2) (H 2) = false := W.fr 1 (by decide) (by decide) (by decide) (by decide) (by decide)
    have h := ns00 h0 (by omega) (by omega) (by omega) (by omega)
    rw [dl_1 (by omega), dr_1 (by omega)] at h
    exact h
  have f2 : (0 < TR X H 0 5 2 ∧ 0 < -(TR X H 2 3 5)) ∨ (TR X H 0 5 2 < 0 ∧ -(TR X H 2 3 5) < 0) := by
    have h0 : interP (X 0) (H 0) (X 5) (H 5) (X 2) (H 2) (X 3) (H 3) = false := W.fr 2 (by decide) (by decide) (by decide) (by decide) (by decide)
    have h := ns00 h0 (by omega) (by omega) (by omega) (by omega)
    rw [dl_1 (by omega), dr_2 (by omega)] at h
    exact h
  have z2 : TR X H 5 6 0 ≠ 0 := W.s2 rfl
  clear W
  by_cases hc : 0 < TR X H 0 5 6
  · simp only [TR, T2, twiceP, x0, x1, x2, x3, x4, x5, x6, y0, y4] at f1 f2 z2 hc
    replace f1 := f1.resolve_left (by omega)
    replace f2 := f2.resolve_left (by omega)
    refine ⟨true, false, ?_, ⟨?_, ?_⟩, ?_, ?_, ?_⟩
    · intro v hv a1 a2
      obtain rfl | rfl | rfl | rfl := (by omega : v = 0 ∨ v = 1 ∨ v = 2 ∨ v = 3)
      · exact pos_c (by simp only [Nat.reduceAdd, Nat.zero_add, TR, T2, twiceP, x0, x1, x2, x3, x4, x5, x6, y0, y4]; omega)
      · exact pos_c (by simp only [Nat.reduceAdd, Nat.zero_add, TR, T2, twiceP, x0, x1, x2, x3, x4, x5, x6, y0, y4]; omega)
      · exfalso; simp only [Nat.reduceAdd, Nat.zero_add] at a1 a2; omega
      · exfalso; simp only [Nat.reduceAdd, Nat.zero_add] at a1 a2; omega
    · intro v hv hv2 a1 a2
      obtain rfl | rfl := (by omega : v = 4 ∨ v = 5)
      · exfalso; simp only [Nat.reduceAdd, Nat.zero_add] at a1 a2; omega
      · exact neg_c (by simp only [Nat.reduceAdd, Nat.zero_add, TR, T2, twiceP, x0, x1, x2, x3, x4, x5, x6, y0, y4]; omega)
    · intro a1
      exact neg_c (by simp only [Nat.reduceSub, TR, T2, twiceP, x0, x1, x2, x3, x4, x5, x6, y0, y4]; omega)
    · show locT (TR X H 6 0 1) (TR X H 0 5 1) (TR X H 0 6 5) (TR X H 0 5 6) (TR X H 0 1 5) = true
      exact loc_t (by simp only [TR, T2, twiceP, x0, x1, x2, x3, x4, x5, x6, y0, y4]; omega)
    · show locT (TR X H 4 5 6) (TR X H 5 0 6) (TR X H 5 4 0) (TR X H 5 0 4) (TR X H 5 6 0) = true
      exact loc_t (by simp only [TR, T2, twiceP, x0, x1, x2, x3, x4, x5, x6, y0, y4]; omega)
    · refine fun _ => .inl ⟨by omega, fun v hv n1 n2 a1 a2 => ?_⟩
      obtain rfl | rfl | rfl | rfl | rfl | rfl | rfl := (by omega : v = 0 ∨ v = 1 ∨ v = 2 ∨ v = 3 ∨ v = 4 ∨ v = 5 ∨ v = 6)
      · exact absurd rfl n1
      · exact .inl ⟨by omega, by simp only [TR, T2, twiceP, x0, x1, x2, x3, x4, x5, x6, y0, y4]; omega⟩
      · exact .inl ⟨by omega, by simp only [TR, T2, twiceP, x0, x1, x2, x3, x4, x5, x6, y0, y4]; omega⟩
      · exfalso; omega
      · exfalso; omega
      · exact absurd rfl n2
      · exact .inr ⟨by omega, by simp only [TR, T2, twiceP, x0, x1, x2, x3, x4, x5, x6, y0, y4]; omega⟩
  · simp only [TR, T2, twiceP, x0, x1, x2, x3, x4, x5, x6, y0, y4] at f1 f2 z2 hc
    replace f1 := f1.resolve_left (by omega)
    replace f2 := f2.resolve_left (by omega)
    refine ⟨true, true, ?_, ⟨?_, ?_⟩, ?_, ?_, ?_⟩
    · intro v hv a1 a2
      obtain rfl | rfl | rfl | rfl := (by omega : v = 0 ∨ v = 1 ∨ v = 2 ∨ v = 3)
      · exact pos_c (by simp only [Nat.reduceAdd, Nat.zero_add, TR, T2, twiceP, x0, x1, x2, x3, x4, x5, x6, y0, y4]; omega)
      · exact pos_c (by simp only [Nat.reduceAdd, Nat.zero_add, TR, T2, twiceP, x0, x1, x2, x3, x4, x5, x6, y0, y4]; omega)
      · exfalso; simp only [Nat.reduceAdd, Nat.zero_add] at a1 a2; omega
      · exfalso; simp only [Nat.reduceAdd, Nat.zero_add] at a1 a2; omega
    · intro v hv hv2 a1 a2
      obtain rfl | rfl := (by omega : v = 4 ∨ v = 5)
      · exfalso; simp only [Nat.reduceAdd, Nat.zero_add] at a1 a2; omega
      · exact pos_c (by simp only [Nat.reduceAdd, Nat.zero_add, TR, T2, twiceP, x0, x1, x2, x3, x4, x5, x6, y0, y4]; omega)
    · intro a1
      exact pos_c (by simp only [Nat.reduceSub, TR, T2, twiceP, x0, x1, x2, x3, x4, x5, x6, y0, y4]; omega)
    · show locT (TR X H 6 0 1) (TR X H 0 5 1) (TR X H 0 6 5) (TR X H 0 5 6) (TR X H 0 1 5) = false
      exact loc_f (by simp only [TR, T2, twiceP, x0, x1, x2, x3, x4, x5, x6, y0, y4]; omega)
    · show locT (TR X H 4 5 6) (TR X H 5 0 6) (TR X H 5 4 0) (TR X H 5 0 4) (TR X H 5 6 0) = false
      exact loc_f (by simp only [TR, T2, twiceP, x0, x1, x2, x3, x4, x5, x6, y0, y4]; omega)
    · exact fun h => absurd h (by decide)
theorem w0_1_3 {X H : Nat → Int} (S : Sh0 X H) (W : WayR 7 X H 1 3) : Res 7 4 X H 1 3 := by
  obtain ⟨x0, x1, x2, x3, x4, x5, x6, y0, y1, y2, y3, y4, y5, y6⟩ := S
  have f4 : (0 < TR X H 1 3 5 ∧ 0 < -(TR X H 5 4 3)) ∨ (TR X H 1 3 5 < 0 ∧ -(TR X H 5 4 3) < 0) := by
    have h0 : interP (X 1) (H 1) (X 3) (H 3) (X 4) (H 4) (X 5) (H 5) = false := W.fr 4 (by decide) (by decide) (by decide) (by decide) (by decide)
    have h := ns01 h0 (by omega) (by omega) (by omega) (by omega)
    rw [dl_1 (by omega), dr_2 (by omega)] at h
    exact h
  have f5 : (0 < TR X H 1 3 6 ∧ 0 < TR X H 1 3 5) ∨ (TR X H 1 3 6 < 0 ∧ TR X H 1 3 5 < 0) := by
    have h0 : interP (X 1) (H 1) (X 3) (H 3) (X 5) (H 5) (X 6) (H 6) = false := W.fr 5 (by decide) (by decide) (by decide) (by decide) (by decide)
    have h := ns01 h0 (by omega) (by omega) (by omega) (by omega)
    rw [dl_1 (by omega), dr_1 (by omega)] at h
    exact h
  have f6 : (0 < -(TR X H 0 6 1) ∧ 0 < TR X H 1 3 6) ∨ (-(TR X H 0 6 1) < 0 ∧ TR X H 1 3 6 < 0) := by
    have h0 : interP (X 1) (H 1) (X 3) (H 3) (X 6) (H 6) (X 0) (H 0) = false := W.fr 6 (by decide) (by decide) (by decide) (by decide) (by decide)
    have h := ns01 h0 (by omega) (by omega) (by omega) (by omega)
    rw [dl_2 (by omega), dr_1 (by omega)] at h
    exact h
  have z1 : TR X H 1 2 3 ≠ 0 := W.s1 rfl
  clear W
  by_cases hc : TR X H 1 3 2 < 0
  · simp only [TR, T2, twiceP, x0, x1, x2, x3, x4, x5, x6, y0, y4] at f4 f5 f6 z1 hc
    replace f6 := f6.resolve_right (by omega)
    replace f5 := f5.resolve_right (by omega)
    replace f4 := f4.resolve_right (by omega)
    refine ⟨true, false, ?_, ⟨?_, ?_⟩, ?_, ?_, ?_⟩
    · intro v hv a1 a2
      obtain rfl | rfl | rfl | rfl := (by omega : v = 0 ∨ v = 1 ∨ v = 2 ∨ v = 3)
      · exfalso; simp only [Nat.reduceAdd, Nat.zero_add] at a1 a2; omega
      · exact pos_c (by simp only [Nat.reduceAdd, Nat.zero_add, TR, T2, twiceP, x0, x1, x2, x3, x4, x5, x6, y0, y4]; omega)
      · exact pos_c (by simp only [Nat.reduceAdd, Nat.zero_add, TR, T2, twiceP, x0, x1, x2, x3, x4, x5, x6, y0, y4]; omega)
      · exfalso; simp only [Nat.reduceAdd, Nat.zero_add] at a1 a2; omega
    · intro v hv hv2 a1 a2
      obtain rfl | rfl := (by omega : v = 4 ∨ v = 5)
      · exact neg_c (by simp only [Nat.reduceAdd, Nat.zero_add, TR, T2, twiceP, x0, x1, x2, x3, x4, x5, x6, y0, y4]; omega)
      · exact neg_c (by simp only [Nat.reduceAdd, Nat.zero_add, TR, T2, twiceP, x0, x1, x2, x3, x4, x5, x6, y0, y4]; omega)
    · intro a1
      exfalso; simp only [Nat.reduceSub] at a1; omega
    · show locT (TR X H 0 1 2) (TR X H 1 3 2) (TR X H 1 0 3) (TR X H 1 3 0) (TR X H 1 2 3) = true
      exact loc_t (by simp only [TR, T2, twiceP, x0, x1, x2, x3, x4, x5, x6, y0, y4]; omega)
    · show locT (TR X H 2 3 4) (TR X H 3 1 4) (TR X H 3 2 1) (TR X H 3 1 2) (TR X H 3 4 1) = true
      exact loc_t (by simp only [TR, T2, twiceP, x0, x1, x2, x3, x4, x5, x6, y0, y4]; omega)
    · refine fun _ => .inl ⟨by omega, fun v hv n1 n2 a1 a2 => ?_⟩
      obtain rfl | rfl | rfl | rfl | rfl | rfl | rfl := (by omega : v = 0 ∨ v = 1 ∨ v = 2 ∨ v = 3 ∨ v = 4 ∨ v = 5 ∨ v = 6)
      · exfalso; omega
      · exact absurd rfl n1
      · exact .inl ⟨by omega, by simp only [TR, T2, twiceP, x0, x1, x2, x3, x4, x5, x6, y0, y4]; omega⟩
      · exact absurd rfl n2
      · exfalso; omega
      · exact .inr ⟨by omega, by simp only [TR, T2, twiceP, x0, x1, x2, x3, x4, x5, x6, y0, y4]; omega⟩
      · exact .inr ⟨by omega, by simp only [TR, T2, twiceP, x0, x1, x2, x3, x4, x5, x6, y0, y4]; omega⟩
  · simp only [TR, T2, twiceP, x0, x1, x2, x3, x4, x5, x6, y0, y4] at f4 f5 f6 z1 hc
    replace f6 := f6.resolve_right (by omega)
    replace f5 := f5.resolve_right (by omega)
    replace f4 := f4.resolve_right (by omega)
    refine ⟨false, false, ?_, ⟨?_, ?_⟩, ?_, ?_, ?_⟩
    · intro v hv a1 a2
      obtain rfl | rfl | rfl | rfl := (by omega : v = 0 ∨ v = 1 ∨ v = 2 ∨ v = 3)
      · exfalso; simp only [Nat.reduceAdd, Nat.zero_add] at a1 a2; omega
      · exact neg_c (by simp only [Nat.reduceAdd, Nat.zero_add, TR, T2, twiceP, x0, x1, x2, x3, x4, x5, x6, y0, y4]; omega)
      · exact neg_c (by simp only [Nat.reduceAdd, Nat.zero_add, TR, T2, twiceP, x0, x1, x2, x3, x4, x5, x6, y0, y4]; omega)
      · exfalso; simp only [Nat.reduceAdd, Nat.zero_add] at a1 a2; omega
    · intro v hv hv2 a1 a2
      obtain rfl | rfl := (by omega : v = 4 ∨ v = 5)
      · exact neg_c (by simp only [Nat.reduceAdd, Nat.zero_add, TR, T2, twiceP, x0, x1, x2, x3, x4, x5, x6, y0, y4]; omega)
      · exact neg_c (by simp only [Nat.reduceAdd, Nat.zero_add, TR, T2, twiceP, x0, x1, x2, x3, x4, x5, x6, y0, y4]; omega)
    · intro a1
      exfalso; simp only [Nat.reduceSub] at a1; omega
    · show locT (TR X H 0 1 2) (TR X H 1 3 2) (TR X H 1 0 3) (TR X H 1 3 0) (TR X H 1 2 3) = false
      exact loc_f (by simp only [TR, T2, twiceP, x0, x1, x2, x3, x4, x5, x6, y0, y4]; omega)
    · show locT (TR X H 2 3 4) (TR X H 3 1 4) (TR X H 3 2 1) (TR X H 3 1 2) (TR X H 3 4 1) = false
      exact loc_f (by simp only [TR, T2, twiceP, x0, x1, x2, x3, x4, x5, x6, y0, y4]; omega)
    · exact fun h => absurd h (by decide)
theorem w0_1_4 {X H : Nat → Int} (S : Sh0 X H) (W : WayR 7 X H 1 4) : Res 7 4 X H 1 4 := by
  obtain ⟨x0, x1, x2, x3, x4, x5, x6, y0, y1, y2, y3, y4, y5, y6⟩ := S
  have f2 : (0 < TR X H 1 4 2 ∧ 0 < TR X H 1 4 3) ∨ (TR X H 1 4 2 < 0 ∧ TR X H 1 4 3 < 0) := by
    have h0 : interP (X 1) (H 1) (X 4) (H 4) (X 2) (H 2) (X 3) (H 3) = false := W.fr 2 (by decide) (by decide) (by decide) (by decide) (by decide)
    have h := ns00 h0 (by omega) (by omega) (by omega) (by omega)
    rw [dl_1 (by omega), dr_1 (by omega)] at h
    exact h
  have f5 : (0 < TR X H 1 4 6 ∧ 0 < TR X H 1 4 5) ∨ (TR X H 1 4 6 < 0 ∧ TR X H 1 4 5 < 0) := by
    have h0 : interP (X 1) (H 1) (X 4) (H 4) (X 5) (H 5) (X 6) (H 6) = false := W.fr 5 (by decide) (by decide) (by decide) (by decide) (by decide)
    have h := ns01 h0 (by omega) (by omega) (by omega) (by omega)
    rw [dl_1 (by omega), dr_1 (by omega)] at h
    exact h
  have f6 : (0 < -(TR X H 0 6 1) ∧ 0 < TR X H 1 4 6) ∨ (-(TR X H 0 6 1) < 0 ∧ TR X H 1 4 6 < 0) := by
    have h0 : interP (X 1) (H 1) (X 4) (H 4) (X 6) (H 6) (X 0) (H 0) = false := W.fr 6 (by decide) (by decide) (by decide) (by decide) (by decide)
    have h := ns01 h0 (by omega) (by omega) (by omega) (by omega)
    rw [dl_2 (by omega), dr_1 (by omega)] at h
    exact h
  clear W
  by_cases hc : TR X H 1 4 2 < 0
  · simp only [TR, T2, twiceP, x0, x1, x2, x3, x4, x5, x6, y0, y4] at f2 f5 f6 hc
    replace f6 := f6.resolve_right (by omega)
    replace f5 := f5.resolve_right (by omega)
    replace f2 := f2.resolve_left (by omega)
    refine ⟨true, false, ?_, ⟨?_, ?_⟩, ?_, ?_, ?_⟩
    · intro v hv a1 a2
      obtain rfl | rfl | rfl | rfl := (by omega : v = 0 ∨ v = 1 ∨ v = 2 ∨ v = 3)
      · exfalso; simp only [Nat.reduceAdd, Nat.zero_add] at a1 a2; omega
      · exfalso; simp only [Nat.reduceAdd, Nat.zero_add] at a1 a2; omega
      · exact pos_c (by simp only [Nat.reduceAdd, Nat.zero_add, TR, T2, twiceP, x0, x1, x2, x3, x4, x5, x6, y0, y4]; omega)
      · exfalso; simp only [Nat.reduceAdd, Nat.zero_add] at a1 a2; omega
    · intro v hv hv2 a1 a2
      obtain rfl | rfl := (by omega : v = 4 ∨ v = 5)
      · exact neg_c (by simp only [Nat.reduceAdd, Nat.zero_add, TR, T2, twiceP, x0, x1, x2, x3, x4, x5, x6, y0, y4]; omega)
      · exfalso; simp only [Nat.reduceAdd, Nat.zero_add] at a1 a2; omega
    · intro a1
      exfalso; simp only [Nat.reduceSub] at a1; omega
    · show locT (TR X H 0 1 2) (TR X H 1 4 2) (TR X H 1 0 4) (TR X H 1 4 0) (TR X H 1 2 4) = true
      exact loc_t (by simp only [TR, T2, twiceP, x0, x1, x2, x3, x4, x5, x6, y0, y4]; omega)
    · show locT (TR X H 3 4 5) (TR X H 4 1 5) (TR X H 4 3 1) (TR X H 4 1 3) (TR X H 4 5 1) = true
      exact loc_t (by simp only [TR, T2, twiceP, x0, x1, x2, x3, x4, x5, x6, y0, y4]; omega)
    · refine fun _ => .inl ⟨by omega, fun v hv n1 n2 a1 a2 => ?_⟩
      obtain rfl | rfl | rfl | rfl | rfl | rfl | rfl := (by omega : v = 0 ∨ v = 1 ∨ v = 2 ∨ v = 3 ∨ v = 4 ∨ v = 5 ∨ v = 6)
      · exfalso; omega
      · exact absurd rfl n1
      · exact .inl ⟨by omega, by simp only [TR, T2, twiceP, x0, x1, x2, x3, x4, x5, x6, y0, y4]; omega⟩
      · exact .inl ⟨by omega, by simp only [TR, T2, twiceP, x0, x1, x2, x3, x4, x5, x6, y0, y4]; omega⟩
      · exact absurd rfl n2
      · exact .inr ⟨by omega, by simp only [TR, T2, twiceP, x0, x1, x2, x3, x4, x5, x6, y0, y4]; omega⟩
      · exact .inr ⟨by omega, by simp only [TR, T2, twiceP, x0, x1, x2, x3, x4, x5, x6, y0, y4]; omega⟩
  · simp only [TR, T2, twiceP, x0, x1, x2, x3, x4, x5, x6, y0, y4] at f2 f5 f6 hc
    replace f6 := f6.resolve_right (by omega)
    replace f5 := f5.resolve_right (by omega)
    replace f2 := f2.resolve_right (by omega)
    refine ⟨false, false, ?_, ⟨?_, ?_⟩, ?_, ?_, ?_⟩
    · intro v hv a1 a2
      obtain rfl | rfl | rfl | rfl := (by omega : v = 0 ∨ v = 1 ∨ v = 2 ∨ v = 3)
      · exfalso; simp only [Nat.reduceAdd, Nat.zero_add] at a1 a2; omega
      · exfalso; simp only [Nat.reduceAdd, Nat.zero_add] at a1 a2; omega
      · exact neg_c (by simp only [Nat.reduceAdd, Nat.zero_add, TR, T2, twiceP, x0, x1, x2, x3, x4, x5, x6, y0, y4]; omega)
      · exfalso; simp only [Nat.reduceAdd, Nat.zero_add] at a1 a2; omega
    · intro v hv hv2 a1 a2
      obtain rfl | rfl := (by omega : v = 4 ∨ v = 5)
      · exact neg_c (by simp only [Nat.reduceAdd, Nat.zero_add, TR, T2, twiceP, x0, x1, x2, x3, x4, x5, x6, y0, y4]; omega)
      · exfalso; simp only [Nat.reduceAdd, Nat.zero_add] at a1 a2; omega
    · intro a1
      exfalso; simp only [Nat.reduceSub] at a1; omega
    · show locT (TR X H 0 1 2) (TR X H 1 4 2) (TR X H 1 0 4) (TR X H 1 4 0) (TR X H 1 2 4) = false
      exact loc_f (by simp only [TR, T2, twiceP, x0, x1, x2, x3, x4, x5, x6, y0, y4]; omega)
    · show locT (TR X H 3 4 5) (TR X H 4 1 5) (TR X H 4 3 1) (TR X H 4 1 3) (TR X H 4 5 1) = false
      exact loc_f (by simp only [TR, T2, twiceP, x0, x1, x2, x3, x4, x5, x6, y0, y4]; omega)
    · exact fun h => absurd h (by decide)
theorem w0_1_5 {X H : Nat → Int} (S : Sh0 X H) (W : WayR 7 X H 1 5) : Res 7 4 X H 1 5 := by
  obtain ⟨x0, x1, x2, x3, x4, x5, x6, y0, y1, y2, y3, y4, y5, y6⟩ := S
  have f2 : (0 < TR X H 1 5 2 ∧ 0 < -(TR X H 2 3 5)) ∨ (TR X H 1 5 2 < 0 ∧ -(TR X H 2 3 5) < 0) := by
    have h0 : interP (X 1) (H 1) (X 5) (H 5) (X 2) (H 2) (X 3) (H 3) = false := W.fr 2 (by decide) (by decide) (by decide) (by decide) (by decide)
    have h := ns00 h0 (by omega) (by omega) (by omega) (by omega)
    rw [dl_1 (by omega), dr_2 (by omega)] at h
    exact h
  have f6 : (0 < -(TR X H 0 6 1) ∧ 0 < TR X H 1 5 6) ∨ (-(TR X H 0 6 1) < 0 ∧ TR X H 1 5 6 < 0) := by
    have h0 : interP (X 1) (H 1) (X 5) (H 5) (X 6) (H 6) (X 0) (H 0) = false := W.fr 6 (by decide) (by decide) (by decide) (by decide) (by decide)
    have h := ns01 h0 (by omega) (by omega) (by omega) (by omega)
    rw [dl_2 (by omega), dr_1 (by omega)] at h
    exact h
  clear W
  simp only [TR, T2, twiceP, x0, x1, x2, x3, x4, x5, x6, y0, y4] at f2 f6
  replace f2 := f2.resolve_left (by omega)
  replace f6 := f6.resolve_right (by omega)
  refine ⟨true, false, ?_, ⟨?_, ?_⟩, ?_, ?_, ?_⟩
  · intro v hv a1 a2
    obtain rfl | rfl | rfl | rfl := (by omega : v = 0 ∨ v = 1 ∨ v = 2 ∨ v = 3)
    · exfalso; simp only [Nat.reduceAdd, Nat.zero_add] at a1 a2; omega
    · exact pos_c (by simp only [Nat.reduceAdd, Nat.zero_add, TR, T2, twiceP, x0, x1, x2, x3, x4, x5, x6, y0, y4]; omega)
    · exfalso; simp only [Nat.reduceAdd, Nat.zero_add] at a1 a2; omega
    · exfalso; simp only [Nat.reduceAdd, Nat.zero_add] at a1 a2; omega
  · intro v hv hv2 a1 a2
    obtain rfl | rfl := (by omega : v = 4 ∨ v = 5)
    · exfalso; simp only [Nat.reduceAdd, Nat.zero_add] at a1 a2; omega
    · exact neg_c (by simp only [Nat.reduceAdd, Nat.zero_add, TR, T2, twiceP, x0, x1, x2, x3, x4, x5, x6, y0, y4]; omega)
  · intro a1
    exfalso; simp only [Nat.reduceSub] at a1; omega
  · show locT (TR X H 0 1 2) (TR X H 1 5 2) (TR X H 1 0 5) (TR X H 1 5 0) (TR X H 1 2 5) = true
    exact loc_t (by simp only [TR, T2, twiceP, x0, x1, x2, x3, x4, x5, x6, y0, y4]; omega)
  · show locT (TR X H 4 5 6) (TR X H 5 1 6) (TR X H 5 4 1) (TR X H 5 1 4) (TR X H 5 6 1) = true
    exact loc_t (by simp only [TR, T2, twiceP, x0, x1, x2, x3, x4, x5, x6, y0, y4]; omega)
  · refine fun _ => .inl ⟨by omega, fun v hv n1 n2 a1 a2 => ?_⟩
    obtain rfl | rfl | rfl | rfl | rfl | rfl | rfl := (by omega : v = 0 ∨ v = 1 ∨ v = 2 ∨ v = 3 ∨ v = 4 ∨ v = 5 ∨ v = 6)
    · exfalso; omega
    · exact absurd rfl n1
    · exact .inl ⟨by omega, by simp only [TR, T2, twiceP, x0, x1, x2, x3, x4, x5, x6, y0, y4]; omega⟩
    · exfalso; omega
    · exfalso; omega
    · exact absurd rfl n2
    · exact .inr ⟨by omega, by simp only [TR, T2, twiceP, x0, x1, x2, x3, x4, x5, x6, y0, y4]; omega⟩
theorem w0_1_6 {X H : Nat → Int} (S : Sh0 X H) (W : WayR 7 X H 1 6) : Res 7 4 X H 1 6 := by
  obtain ⟨x0, x1, x2, x3, x4, x5, x6, y0, y1, y2, y3, y4, y5, y6⟩ := S
  clear W
  refine ⟨true, false, ?_, ⟨?_, ?_⟩, ?_, ?_, ?_⟩
  · intro v hv a1 a2
    obtain rfl | rfl | rfl | rfl := (by omega : v = 0 ∨ v = 1 ∨ v = 2 ∨ v = 3)
    · exact pos_c (by simp only [Nat.reduceAdd, Nat.zero_add, TR, T2, twiceP, x0, x1, x2, x3, x4, x5, x6, y0, y4]; omega)
    · exact pos_c (by simp only [Nat.reduceAdd, Nat.zero_add, TR, T2, twiceP, x0, x1, x2, x3, x4, x5, x6, y0, y4]; omega)
    · exfalso; simp only [Nat.reduceAdd, Nat.zero_add] at a1 a2; omega
    · exfalso; simp only [Nat.reduceAdd, Nat.zero_add] at a1 a2; omega
  · intro v hv hv2 a1 a2
    obtain rfl | rfl := (by omega : v = 4 ∨ v = 5)
    · exfalso; simp only [Nat.reduceAdd, Nat.zero_add] at a1 a2; omega
    · exact neg_c (by simp only [Nat.reduceAdd, Nat.zero_add, TR, T2, twiceP, x0, x1, x2, x3, x4, x5, x6, y0, y4]; omega)
  · intro a1
    exact neg_c (by simp only [Nat.reduceSub, TR, T2, twiceP, x0, x1, x2, x3, x4, x5, x6, y0, y4]; omega)
  · show locT (TR X H 0 1 2) (TR X H 1 6 2) (TR X H 1 0 6) (TR X H 1 6 0) (TR X H 1 2 6) = true
    exact loc_t (by simp only [TR, T2, twiceP, x0, x1, x2, x3, x4, x5, x6, y0, y4]; omega)
  · show locT (TR X H 5 6 0) (TR X H 6 1 0) (TR X H 6 5 1) (TR X H 6 1 5) (TR X H 6 0 1) = true
    exact loc_t (by simp only [TR, T2, twiceP, x0, x1, x2, x3, x4, x5, x6, y0, y4]; omega)
  · exact fun _ => .inr (.inr ⟨by omega, by omega, by omega⟩)
theorem w0_2_4 {X H : Nat → Int} (S : Sh0 X H) (W : WayR 7 X H 2 4) : Res 7 4 X H 2 4 := by
  obtain ⟨x0, x1, x2, x3, x4, x5, x6, y0, y1, y2, y3, y4, y5, y6⟩ := S
  have f5 : (0 < -(TR X H 6 5 2) ∧ 0 < TR X H 2 4 5) ∨ (-(TR X H 6 5 2) < 0 ∧ TR X H 2 4 5 < 0) := by
    have h0 : interP (X 2) (H 2) (X 4) (H 4) (X 5) (H 5) (X 6) (H 6) = false := W.fr 5 (by decide) (by decide) (by decide) (by decide) (by decide)
    have h := ns01 h0 (by omega) (by omega) (by omega) (by omega)
    rw [dl_2 (by omega), dr_1 (by omega)] at h
    exact h
  have z1 : TR X H 2 3 4 ≠ 0 := W.s1 rfl
  clear W
  by_cases hc : TR X H 2 4 3 < 0
  · simp only [TR, T2, twiceP, x0, x1, x2, x3, x4, x5, x6, y0, y4] at f5 z1 hc
    replace f5 := f5.resolve_right (by omega)
    refine ⟨true, false, ?_, ⟨?_, ?_⟩, ?_, ?_, ?_⟩
    · intro v hv a1 a2
      obtain rfl | rfl | rfl | rfl := (by omega : v = 0 ∨ v = 1 ∨ v = 2 ∨ v = 3)
      · exfalso; simp only [Nat.reduceAdd, Nat.zero_add] at a1 a2; omega
      · exfalso; simp only [Nat.reduceAdd, Nat.zero_add] at a1 a2; omega
      · exact pos_c (by simp only [Nat.reduceAdd, Nat.zero_add, TR, T2, twiceP, x0, x1, x2, x3, x4, x5, x6, y0, y4]; omega)
      · exact pos_c (by simp only [Nat.reduceAdd, Nat.zero_add, TR, T2, twiceP, x0, x1, x2, x3, x4, x5, x6, y0, y4]; omega)
    · intro v hv hv2 a1 a2
      obtain rfl | rfl := (by omega : v = 4 ∨ v = 5)
      · exact neg_c (by simp only [Nat.reduceAdd, Nat.zero_add, TR, T2, twiceP, x0, x1, x2, x3, x4, x5, x6, y0, y4]; omega)
      · exfalso; simp only [Nat.reduceAdd, Nat.zero_add] at a1 a2; omega
    · intro a1
      exfalso; simp only [Nat.reduceSub] at a1; omega
    · show locT (TR X H 1 2 3) (TR X H 2 4 3) (TR X H 2 1 4) (TR X H 2 4 1) (TR X H 2 3 4) = true
      exact loc_t (by simp only [TR, T2, twiceP, x0, x1, x2, x3, x4, x5, x6, y0, y4]; omega)
    · show locT (TR X H 3 4 5) (TR X H 4 2 5) (TR X H 4 3 2) (TR X H 4 2 3) (TR X H 4 5 2) = true
      exact loc_t (by simp only [TR, T2, twiceP, x0, x1, x2, x3, x4, x5, x6, y0, y4]; omega)
    · refine fun _ => .inl ⟨by omega, fun v hv n1 n2 a1 a2 => ?_⟩
      obtain rfl | rfl | rfl | rfl | rfl | rfl | rfl := (by omega : v = 0 ∨ v = 1 ∨ v = 2 ∨ v = 3 ∨ v = 4 ∨ v = 5 ∨ v = 6)
      · exfalso; omega
      · exfalso; omega
      · exact absurd rfl n1
      · exact .inl ⟨by omega, by simp only [TR, T2, twiceP, x0, x1, x2, x3, x4, x5, x6, y0, y4]; omega⟩
      · exact absurd rfl n2
      · exact .inr ⟨by omega, by simp only [TR, T2, twiceP, x0, x1, x2, x3, x4, x5, x6, y0, y4]; omega⟩
      · exfalso; omega
  · simp only [TR, T2, twiceP, x0, x1, x2, x3, x4, x5, x6, y0, y4] at f5 z1 hc
    replace f5 := f5.resolve_right (by omega)
    refine ⟨false, false, ?_, ⟨?_, ?_⟩, ?_, ?_, ?_⟩
    · intro v hv a1 a2
      obtain rfl | rfl | rfl | rfl := (by omega : v = 0 ∨ v = 1 ∨ v = 2 ∨ v = 3)
      · exfalso; simp only [Nat.reduceAdd, Nat.zero_add] at a1 a2; omega
      · exfalso; simp only [Nat.reduceAdd, Nat.zero_add] at a1 a2; omega
      · exact neg_c (by simp only [Nat.reduceAdd, Nat.zero_add, TR, T2, twiceP, x0, x1, x2, x3, x4, x5, x6, y0, y4]; omega)
      · exact neg_c (by simp only [Nat.reduceAdd, Nat.zero_add, TR, T2, twiceP, x0, x1, x2, x3, x4, x5, x6, y0, y4]; omega)
    · intro v hv hv2 a1 a2
      obtain rfl | rfl := (by omega : v = 4 ∨ v = 5)
      · exact neg_c (by simp only [Nat.reduceAdd, Nat.zero_add, TR, T2, twiceP, x0, x1, x2, x3, x4, x5, x6, y0, y4]; omega)
      · exfalso; simp only [Nat.reduceAdd, Nat.zero_add] at a1 a2; omega
    · intro a1
      exfalso; simp only [Nat.reduceSub] at a1; omega
    · show locT (TR X H 1 2 3) (TR X H 2 4 3) (TR X H 2 1 4) (TR X H 2 4 1) (TR X H 2 3 4) = false
      exact loc_f (by simp only [TR, T2, twiceP, x0, x1, x2, x3, x4, x5, x6, y0, y4]; omega)
    · show locT (TR X H 3 4 5) (TR X H 4 2 5) (TR X H 4 3 2) (TR X H 4 2 3) (TR X H 4 5 2) = false
      exact loc_f (by simp only [TR, T2, twiceP, x0, x1, x2, x3, x4, x5, x6, y0, y4]; omega)
    · exact fun h => absurd h (by decide)
theorem w0_2_5 {X H : Nat → Int} (S : Sh0 X H) (W : WayR 7 X H 2 5) : Res 7 4 X H 2 5 := by
  obtain ⟨x0, x1, x2, x3, x4, x5, x6, y0, y1, y2, y3, y4, y5, y6⟩ := S
  clear W
  refine ⟨true, false, ?_, ⟨?_, ?_⟩, ?_, ?_, ?_⟩
  · intro v hv a1 a2
    obtain rfl | rfl | rfl | rfl := (by omega : v = 0 ∨ v = 1 ∨ v = 2 ∨ v = 3)
    · exfalso; simp only [Nat.reduceAdd, Nat.zero_add] at a1 a2; omega
    · exact pos_c (by simp only [Nat.reduceAdd, Nat.zero_add, TR, T2, twiceP, x0, x1, x2, x3, x4, x5, x6, y0, y4]; omega)
    · exact pos_c (by simp only [Nat.reduceAdd, Nat.zero_add, TR, T2, twiceP, x0, x1, x2, x3, x4, x5, x6, y0, y4]; omega)
    · exfalso; simp only [Nat.reduceAdd, Nat.zero_add] at a1 a2; omega
  · intro v hv hv2 a1 a2
    obtain rfl | rfl := (by omega : v = 4 ∨ v = 5)
    · exact neg_c (by simp only [Nat.reduceAdd, Nat.zero_add, TR, T2, twiceP, x0, x1, x2, x3, x4, x5, x6, y0, y4]; omega)
    · exact neg_c (by simp only [Nat.reduceAdd, Nat.zero_add, TR, T2, twiceP, x0, x1, x2, x3, x4, x5, x6, y0, y4]; omega)
  · intro a1
    exfalso; simp only [Nat.reduceSub] at a1; omega
  · show locT (TR X H 1 2 3) (TR X H 2 5 3) (TR X H 2 1 5) (TR X H 2 5 1) (TR X H 2 3 5) = true
    exact loc_t (by simp only [TR, T2, twiceP, x0, x1, x2, x3, x4, x5, x6, y0, y4]; omega)
  · show locT (TR X H 4 5 6) (TR X H 5 2 6) (TR X H 5 4 2) (TR X H 5 2 4) (TR X H 5 6 2) = true
    exact loc_t (by simp only [TR, T2, twiceP, x0, x1, x2, x3, x4, x5, x6, y0, y4]; omega)
  · exact fun _ => .inr (.inr ⟨by omega, by omega, by omega⟩)
theorem w0_2_6 {X H : Nat → Int} (S : Sh0 X H) (W : WayR 7 X H 2 6) : Res 7 4 X H 2 6 := by
  obtain ⟨x0, x1, x2, x3, x4, x5, x6, y0, y1, y2, y3, y4, y5, y6⟩ := S
  have f0 : (0 < -(TR X H 0 1 6) ∧ 0 < TR X H 6 2 1) ∨ (-(TR X H 0 1 6) < 0 ∧ TR X H 6 2 1 < 0) := by
    have h0 : interP (X 2) (H 2) (X 6) (H 6) (X 0) (H 0) (X 1) (H 1) = false := W.fr 0 (by decide) (by decide) (by decide) (by decide) (by decide)
    have h := ns10 h0 (by omega) (by omega) (by omega) (by omega)
    rw [dl_2 (by omega), dr_1 (by omega)] at h
    exact h
  have f4 : (0 < TR X H 6 2 5 ∧ 0 < -(TR X H 5 4 2)) ∨ (TR X H 6 2 5 < 0 ∧ -(TR X H 5 4 2) < 0) := by
    have h0 : interP (X 2) (H 2) (X 6) (H 6) (X 4) (H 4) (X 5) (H 5) = false := W.fr 4 (by decide) (by decide) (by decide) (by decide) (by decide)
    have h := ns11 h0 (by omega) (by omega) (by omega) (by omega)
    rw [dl_1 (by omega), dr_2 (by omega)] at h
    exact h
  clear W
  simp only [TR, T2, twiceP, x0, x1, x2, x3, x4, x5, x6, y0, y4] at f0 f4
  replace f4 := f4.resolve_right (by omega)
  replace f0 := f0.resolve_left (by omega)
  refine ⟨true, false, ?_, ⟨?_, ?_⟩, ?_, ?_, ?_⟩
  · intro v hv a1 a2
    obtain rfl | rfl | rfl | rfl := (by omega : v = 0 ∨ v = 1 ∨ v = 2 ∨ v = 3)
    · exfalso; simp only [Nat.reduceAdd, Nat.zero_add] at a1 a2; omega
    · exact pos_c (by simp only [Nat.reduceAdd, Nat.zero_add, TR, T2, twiceP, x0, x1, x2, x3, x4, x5, x6, y0, y4]; omega)
    · exfalso; simp only [Nat.reduceAdd, Nat.zero_add] at a1 a2; omega
    · exfalso; simp only [Nat.reduceAdd, Nat.zero_add] at a1 a2; omega
  · intro v hv hv2 a1 a2
    obtain rfl | rfl := (by omega : v = 4 ∨ v = 5)
    · exfalso; simp only [Nat.reduceAdd, Nat.zero_add] at a1 a2; omega
    · exact neg_c (by simp only [Nat.reduceAdd, Nat.zero_add, TR, T2, twiceP, x0, x1, x2, x3, x4, x5, x6, y0, y4]; omega)
  · intro a1
    exfalso; simp only [Nat.reduceSub] at a1; omega
  · show locT (TR X H 1 2 3) (TR X H 2 6 3) (TR X H 2 1 6) (TR X H 2 6 1) (TR X H 2 3 6) = true
    exact loc_t (by simp only [TR, T2, twiceP, x0, x1, x2, x3, x4, x5, x6, y0, y4]; omega)
  · show locT (TR X H 5 6 0) (TR X H 6 2 0) (TR X H 6 5 2) (TR X H 6 2 5) (TR X H 6 0 2) = true
    exact loc_t (by simp only [TR, T2, twiceP, x0, x1, x2, x3, x4, x5, x6, y0, y4]; omega)
  · refine fun _ => .inr <| .inl ⟨by omega, fun v hv n1 n2 a1 a2 => ?_⟩
    obtain rfl | rfl | rfl | rfl | rfl | rfl | rfl := (by omega : v = 0 ∨ v = 1 ∨ v = 2 ∨ v = 3 ∨ v = 4 ∨ v = 5 ∨ v = 6)
    · exfalso; omega
    · exact .inl ⟨by omega, by simp only [TR, T2, twiceP, x0, x1, x2, x3, x4, x5, x6, y0, y4]; omega⟩
    · exact absurd rfl n2
    · exfalso; omega
    · exfalso; omega
    · exact .inr ⟨by omega, by simp only [TR, T2, twiceP, x0, x1, x2, x3, x4, x5, x6, y0, y4]; omega⟩
    · exact absurd rfl n1
theorem w0_3_5 {X H : Nat → Int} (S : Sh0 X H) (W : WayR 7 X H 3 5) : Res 7 4 X H 3 5 := by
  obtain ⟨x0, x1, x2, x3, x4, x5, x6, y0, y1, y2, y3, y4, y5, y6⟩ := S
  have f1 : (0 < -(TR X H 1 2 5) ∧ 0 < TR X H 5 3 2) ∨ (-(TR X H 1 2 5) < 0 ∧ TR X H 5 3 2 < 0) := by
    have h0 : interP (X 3) (H 3) (X 5) (H 5) (X 1) (H 1) (X 2) (H 2) = false := W.fr 1 (by decide) (by decide) (by decide) (by decide) (by decide)
    have h := ns10 h0 (by omega) (by omega) (by omega) (by omega)
    rw [dl_2 (by omega), dr_1 (by omega)] at h
    exact h
  have z1 : TR X H 3 4 5 ≠ 0 := W.s1 rfl
  clear W
  simp only [TR, T2, twiceP, x0, x1, x2, x3, x4, x5, x6, y0, y4] at f1 z1
  replace f1 := f1.resolve_left (by omega)
  refine ⟨true, false, ?_, ⟨?_, ?_⟩, ?_, ?_, ?_⟩
  · intro v hv a1 a2
    obtain rfl | rfl | rfl | rfl := (by omega : v = 0 ∨ v = 1 ∨ v = 2 ∨ v = 3)
    · exfalso; simp only [Nat.reduceAdd, Nat.zero_add] at a1 a2; omega
    · exfalso; simp only [Nat.reduceAdd, Nat.zero_add] at a1 a2; omega
    · exact pos_c (by simp only [Nat.reduceAdd, Nat.zero_add, TR, T2, twiceP, x0, x1, x2, x3, x4, x5, x6, y0, y4]; omega)
    · exfalso; simp only [Nat.reduceAdd, Nat.zero_add] at a1 a2; omega
  · intro v hv hv2 a1 a2
    obtain rfl | rfl := (by omega : v = 4 ∨ v = 5)
    · exact neg_c (by simp only [Nat.reduceAdd, Nat.zero_add, TR, T2, twiceP, x0, x1, x2, x3, x4, x5, x6, y0, y4]; omega)
    · exfalso; simp only [Nat.reduceAdd, Nat.zero_add] at a1 a2; omega
  · intro a1
    exfalso; simp only [Nat.reduceSub] at a1; omega
  · show locT (TR X H 2 3 4) (TR X H 3 5 4) (TR X H 3 2 5) (TR X H 3 5 2) (TR X H 3 4 5) = true
    exact loc_t (by simp only [TR, T2, twiceP, x0, x1, x2, x3, x4, x5, x6, y0, y4]; omega)
  · show locT (TR X H 4 5 6) (TR X H 5 3 6) (TR X H 5 4 3) (TR X H 5 3 4) (TR X H 5 6 3) = true
    exact loc_t (by simp only [TR, T2, twiceP, x0, x1, x2, x3, x4, x5, x6, y0, y4]; omega)
  · refine fun _ => .inr <| .inl ⟨by omega, fun v hv n1 n2 a1 a2 => ?_⟩
    obtain rfl | rfl | rfl | rfl | rfl | rfl | rfl := (by omega : v = 0 ∨ v = 1 ∨ v = 2 ∨ v = 3 ∨ v = 4 ∨ v = 5 ∨ v = 6)
    · exfalso; omega
    · exfalso; omega
    · exact .inl ⟨by omega, by simp only [TR, T2, twiceP, x0, x1, x2, x3, x4, x5, x6, y0, y4]; omega⟩
    · exact absurd rfl n2
    · exfalso; omega
    · exact absurd rfl n1
    · exfalso; omega
theorem w0_3_6 {X H : Nat → Int} (S : Sh0 X H) (W : WayR 7 X H 3 6) : Res 7 4 X H 3 6 := by
  obtain ⟨x0, x1, x2, x3, x4, x5, x6, y0, y1, y2, y3, y4, y5, y6⟩ := S
  have f0 : (0 < -(TR X H 0 1 6) ∧ 0 < TR X H 6 3 1) ∨ (-(TR X H 0 1 6) < 0 ∧ TR X H 6 3 1 < 0) := by
    have h0 : interP (X 3) (H 3) (X 6) (H 6) (X 0) (H 0) (X 1) (H 1) = false := W.fr 0 (by decide) (by decide) (by decide) (by decide) (by decide)
    have h := ns10 h0 (by omega) (by omega) (by omega) (by omega)
    rw [dl_2 (by omega), dr_1 (by omega)] at h
    exact h
  have f1 : (0 < TR X H 6 3 1 ∧ 0 < TR X H 6 3 2) ∨ (TR X H 6 3 1 < 0 ∧ TR X H 6 3 2 < 0) := by
    have h0 : interP (X 3) (H 3) (X 6) (H 6) (X 1) (H 1) (X 2) (H 2) = false := W.fr 1 (by decide) (by decide) (by decide) (by decide) (by decide)
    have h := ns10 h0 (by omega) (by omega) (by omega) (by omega)
    rw [dl_1 (by omega), dr_1 (by omega)] at h
    exact h
  have f4 : (0 < TR X H 6 3 5 ∧ 0 < -(TR X H 5 4 3)) ∨ (TR X H 6 3 5 < 0 ∧ -(TR X H 5 4 3) < 0) := by
    have h0 : interP (X 3) (H 3) (X 6) (H 6) (X 4) (H 4) (X 5) (H 5) = false := W.fr 4 (by decide) (by decide) (by decide) (by decide) (by decide)
    have h := ns11 h0 (by omega) (by omega) (by omega) (by omega)
    rw [dl_1 (by omega), dr_2 (by omega)] at h
    exact h
  clear W
  simp only [TR, T2, twiceP, x0, x1, x2, x3, x4, x5, x6, y0, y4] at f0 f1 f4
  replace f4 := f4.resolve_right (by omega)
  replace f0 := f0.resolve_left (by omega)
  replace f1 := f1.resolve_left (by omega)
  refine ⟨true, false, ?_, ⟨?_, ?_⟩, ?_, ?_, ?_⟩
  · intro v hv a1 a2
    obtain rfl | rfl | rfl | rfl := (by omega : v = 0 ∨ v = 1 ∨ v = 2 ∨ v = 3)
    · exfalso; simp only [Nat.reduceAdd, Nat.zero_add] at a1 a2; omega
    · exact pos_c (by simp only [Nat.reduceAdd, Nat.zero_add, TR, T2, twiceP, x0, x1, x2, x3, x4, x5, x6, y0, y4]; omega)
    · exact pos_c (by simp only [Nat.reduceAdd, Nat.zero_add, TR, T2, twiceP, x0, x1, x2, x3, x4, x5, x6, y0, y4]; omega)
    · exfalso; simp only [Nat.reduceAdd, Nat.zero_add] at a1 a2; omega
  · intro v hv hv2 a1 a2
    obtain rfl | rfl := (by omega : v = 4 ∨ v = 5)
    · exact neg_c (by simp only [Nat.reduceAdd, Nat.zero_add, TR, T2, twiceP, x0, x1, x2, x3, x4, x5, x6, y0, y4]; omega)
    · exact neg_c (by simp only [Nat.reduceAdd, Nat.zero_add, TR, T2, twiceP, x0, x1, x2, x3, x4, x5, x6, y0, y4]; omega)
  · intro a1
    exfalso; simp only [Nat.reduceSub] at a1; omega
  · show locT (TR X H 2 3 4) (TR X H 3 6 4) (TR X H 3 2 6) (TR X H 3 6 2) (TR X H 3 4 6) = true
    exact loc_t (by simp only [TR, T2, twiceP, x0, x1, x2, x3, x4, x5, x6, y0, y4]; omega)
  · show locT (TR X H 5 6 0) (TR X H 6 3 0) (TR X H 6 5 3) (TR X H 6 3 5) (TR X H 6 0 3) = true
    exact loc_t (by simp only [TR, T2, twiceP, x0, x1, x2, x3, x4, x5, x6, y0, y4]; omega)
  · refine fun _ => .inr <| .inl ⟨by omega, fun v hv n1 n2 a1 a2 => ?_⟩
    obtain rfl | rfl | rfl | rfl | rfl | rfl | rfl := (by omega : v = 0 ∨ v = 1 ∨ v = 2 ∨ v = 3 ∨ v = 4 ∨ v = 5 ∨ v = 6)
    · exfalso; omega
    · exact .inl ⟨by omega, by simp only [TR, T2, twiceP, x0, x1, x2, x3, x4, x5, x6, y0, y4]; omega⟩
    · exact .inl ⟨by omega, by simp only [TR, T2, twiceP, x0, x1, x2, x3, x4, x5, x6, y0, y4]; omega⟩
    · exact absurd rfl n2
    · exfalso; omega
    · exact .inr ⟨by omega, by simp only [TR, T2, twiceP, x0, x1, x2, x3, x4, x5, x6, y0, y4]; omega⟩
    · exact absurd rfl n1
theorem w0_4_6 {X H : Nat → Int} (S : Sh0 X H) (W : WayR 7 X H 4 6) : Res 7 4 X H 4 6 := by
  obtain ⟨x0, x1, x2, x3, x4, x5, x6, y0, y1, y2, y3, y4, y5, y6⟩ := S
  have f0 : (0 < -(TR X H 0 1 6) ∧ 0 < TR X H 6 4 1) ∨ (-(TR X H 0 1 6) < 0 ∧ TR X H 6 4 1 < 0) := by
    have h0 : interP (X 4) (H 4) (X 6) (H 6) (X 0) (H 0) (X 1) (H 1) = false := W.fr 0 (by decide) (by decide) (by decide) (by decide) (by decide)
    have h := ns10 h0 (by omega) (by omega) (by omega) (by omega)
    rw [dl_2 (by omega), dr_1 (by omega)] at h
    exact h
  have f1 : (0 < TR X H 6 4 1 ∧ 0 < TR X H 6 4 2) ∨ (TR X H 6 4 1 < 0 ∧ TR X H 6 4 2 < 0) := by
    have h0 : interP (X 4) (H 4) (X 6) (H 6) (X 1) (H 1) (X 2) (H 2) = false := W.fr 1 (by decide) (by decide) (by decide) (by decide) (by decide)
    have h := ns10 h0 (by omega) (by omega) (by omega) (by omega)
    rw [dl_1 (by omega), dr_1 (by omega)] at h
    exact h
  have f2 : (0 < TR X H 6 4 2 ∧ 0 < TR X H 6 4 3) ∨ (TR X H 6 4 2 < 0 ∧ TR X H 6 4 3 < 0) := by
    have h0 : interP (X 4) (H 4) (X 6) (H 6) (X 2) (H 2) (X 3) (H 3) = false := W.fr 2 (by decide) (by decide) (by decide) (by decide) (by decide)
    have h := ns10 h0 (by omega) (by omega) (by omega) (by omega)
    rw [dl_1 (by omega), dr_1 (by omega)] at h
    exact h
  have z1 : TR X H 4 5 6 ≠ 0 := W.s1 rfl
  clear W
  by_cases hc : 0 < TR X H 6 4 5
  · simp only [TR, T2, twiceP, x0, x1, x2, x3, x4, x5, x6, y0, y4] at f0 f1 f2 z1 hc
    replace f0 := f0.resolve_left (by omega)
    replace f1 := f1.resolve_left (by omega)
    replace f2 := f2.resolve_left (by omega)
    refine ⟨true, false, ?_, ⟨?_, ?_⟩, ?_, ?_, ?_⟩
    · intro v hv a1 a2
      obtain rfl | rfl | rfl | rfl := (by omega : v = 0 ∨ v = 1 ∨ v = 2 ∨ v = 3)
      · exfalso; simp only [Nat.reduceAdd, Nat.zero_add] at a1 a2; omega
      · exfalso; simp only [Nat.reduceAdd, Nat.zero_add] at a1 a2; omega
      · exact pos_c (by simp only [Nat.reduceAdd, Nat.zero_add, TR, T2, twiceP, x0, x1, x2, x3, x4, x5, x6, y0, y4]; omega)
      · exfalso; simp only [Nat.reduceAdd, Nat.zero_add] at a1 a2; omega
    · intro v hv hv2 a1 a2
      obtain rfl | rfl := (by omega : v = 4 ∨ v = 5)
      · exact neg_c (by simp only [Nat.reduceAdd, Nat.zero_add, TR, T2, twiceP, x0, x1, x2, x3, x4, x5, x6, y0, y4]; omega)
      · exfalso; simp only [Nat.reduceAdd, Nat.zero_add] at a1 a2; omega
    · intro a1
      exfalso; simp only [Nat.reduceSub] at a1; omega
    · show locT (TR X H 3 4 5) (TR X H 4 6 5) (TR X H 4 3 6) (TR X H 4 6 3) (TR X H 4 5 6) = true
      exact loc_t (by simp only [TR, T2, twiceP, x0, x1, x2, x3, x4, x5, x6, y0, y4]; omega)
    · show locT (TR X H 5 6 0) (TR X H 6 4 0) (TR X H 6 5 4) (TR X H 6 4 5) (TR X H 6 0 4) = true
      exact loc_t (by simp only [TR, T2, twiceP, x0, x1, x2, x3, x4, x5, x6, y0, y4]; omega)
    · refine fun _ => .inr <| .inl ⟨by omega, fun v hv n1 n2 a1 a2 => ?_⟩
      obtain rfl | rfl | rfl | rfl | rfl | rfl | rfl := (by omega : v = 0 ∨ v = 1 ∨ v = 2 ∨ v = 3 ∨ v = 4 ∨ v = 5 ∨ v = 6)
      · exfalso; omega
      · exact .inl ⟨by omega, by simp only [TR, T2, twiceP, x0, x1, x2, x3, x4, x5, x6, y0, y4]; omega⟩
      · exact .inl ⟨by omega, by simp only [TR, T2, twiceP, x0, x1, x2, x3, x4, x5, x6, y0, y4]; omega⟩
      · exact .inl ⟨by omega, by simp only [TR, T2, twiceP, x0, x1, x2, x3, x4, x5, x6, y0, y4]; omega⟩
      · exact absurd rfl n2
      · exact .inr ⟨by omega, by simp only [TR, T2, twiceP, x0, x1, x2, x3, x4, x5, x6, y0, y4]; omega⟩
      · exact absurd rfl n1
  · simp only [TR, T2, twiceP, x0, x1, x2, x3, x4, x5, x6, y0, y4] at f0 f1 f2 z1 hc
    replace f0 := f0.resolve_left (by omega)
    replace f1 := f1.resolve_left (by omega)
    replace f2 := f2.resolve_left (by omega)
    refine ⟨true, true, ?_, ⟨?_, ?_⟩, ?_, ?_, ?_⟩
    · intro v hv a1 a2
      obtain rfl | rfl | rfl | rfl := (by omega : v = 0 ∨ v = 1 ∨ v = 2 ∨ v = 3)
      · exfalso; simp only [Nat.reduceAdd, Nat.zero_add] at a1 a2; omega
      · exfalso; simp only [Nat.reduceAdd, Nat.zero_add] at a1 a2; omega
      · exact pos_c (by simp only [Nat.reduceAdd, Nat.zero_add, TR, T2, twiceP, x0, x1, x2, x3, x4, x5, x6, y0, y4]; omega)
      · exfalso; simp only [Nat.reduceAdd, Nat.zero_add] at a1 a2; omega
    · intro v hv hv2 a1 a2
      obtain rfl | rfl := (by omega : v = 4 ∨ v = 5)
      · exact pos_c (by simp only [Nat.reduceAdd, Nat.zero_add, TR, T2, twiceP, x0, x1, x2, x3, x4, x5, x6, y0, y4]; omega)
      · exfalso; simp only [Nat.reduceAdd, Nat.zero_add] at a1 a2; omega
    · intro a1
      exfalso; simp only [Nat.reduceSub] at a1; omega
    · show locT (TR X H 3 4 5) (TR X H 4 6 5) (TR X H 4 3 6) (TR X H 4 6 3) (TR X H 4 5 6) = false
      exact loc_f (by simp only [TR, T2, twiceP, x0, x1, x2, x3, x4, x5, x6, y0, y4]; omega)
    · show locT (TR X H 5 6 0) (TR X H 6 4 0) (TR X H 6 5 4) (TR X H 6 4 5) (TR X H 6 0 4) = false
      exact loc_f (by simp only [TR, T2, twiceP, x0, x1, x2, x3, x4, x5, x6, y0, y4]; omega)
    · exact fun h => absurd h (by decide)
theorem shape0 {X H : Nat → Int} (S : Sh0 X H) {i j : Nat} (W : WayR 7 X H i j) : Res 7 4 X H i j := by
  have hap := W.ap
  unfold Apart at hap
  obtain rfl | rfl | rfl | rfl | rfl : i = 0 ∨ i = 1 ∨ i = 2 ∨ i = 3 ∨ i = 4 := by omega
  · obtain rfl | rfl | rfl | rfl : j = 2 ∨ j = 3 ∨ j = 4 ∨ j = 5 := by omega
    · exact w0_0_2 S W
    · exact w0_0_3 S W
    · exact w0_0_4 S W
    · exact w0_0_5 S W
  · obtain rfl | rfl | rfl | rfl : j = 3 ∨ j = 4 ∨ j = 5 ∨ j = 6 := by omega
    · exact w0_1_3 S W
    · exact w0_1_4 S W
    · exact w0_1_5 S W
    · exact w0_1_6 S W
  · obtain rfl | rfl | rfl : j = 4 ∨ j = 5 ∨ j = 6 := by omega
    · exact w0_2_4 S W
    · exact w0_2_5 S W
    · exact w0_2_6 S W
  · obtain rfl | rfl : j = 5 ∨ j = 6 := by omega
    · exact w0_3_5 S W
    · exact w0_3_6 S W
  · obtain rfl : j = 6 := by omega
    · exact w0_4_6 S W

def Sh1 (X H : Nat → Int) : Prop := X 0 = 0 ∧ X 1 = 1 ∧ X 2 = 2 ∧ X 3 = 4 ∧ X 4 = 3 ∧ X 5 = 2 ∧ X 6 = 1 ∧ H 0 = 0 ∧ H 1 < 0 ∧ H 2 < 0 ∧ H 3 = 0 ∧ 0 < H 4 ∧ 0 < H 5 ∧ 0 < H 6
theorem ring1 {X H : Nat → Int} (S : Sh1 X H) : Ring 7 3 X H := by
  obtain ⟨x0, x1, x2, x3, x4, x5, x6, y0, y1, y2, y3, y4, y5, y6⟩ := S
  refine ⟨by omega, by omega, x0, ?_, ?_, ?_, y0, y3, ?_, ?_⟩
  · intro v hv
    obtain rfl | rfl | rfl := (by omega : v = 0 ∨ v = 1 ∨ v = 2) <;> (simp only [Nat.reduceAdd, Nat.zero_add]; omega)
  · intro v hv hv2
    obtain rfl | rfl | rfl := (by omega : v = 3 ∨ v = 4 ∨ v = 5) <;> (simp only [Nat.reduceAdd, Nat.zero_add]; omega)
  · simp only [Nat.reduceSub]; omega
  · intro v hv hv2
    obtain rfl | rfl := (by omega : v = 1 ∨ v = 2) <;> assumption
  · intro v hv hv2
    obtain rfl | rfl | rfl := (by omega : v = 4 ∨ v = 5 ∨ v = 6) <;> assumption
theorem w1_0_2 {X H : Nat → Int} (S : Sh1 X H) (W : WayR 7 X H 0 2) : Res 7 3 X H 0 2 := by
  obtain ⟨x0, x1, x2, x3, x4, x5, x6, y0, y1, y2, y3, y4, y5, y6⟩ := S
  have f4 : (0 < TR X H 0 2 5 ∧ 0 < -(TR X H 5 4 2)) ∨ (TR X H 0 2 5 < 0 ∧ -(TR X H 5 4 2) < 0) := by
    have h0 : interP (X 0) (H 0) (X 2) (H 2) (X 4) (H 4) (X 5) (H 5) = false := W.fr 4 (by decide) (by decide) (by decide) (by decide) (by decide)
    have h := ns01 h0 (by omega) (by omega) (by omega) (by omega)
    rw [dl_1 (by omega), dr_2 (by omega)] at h
    exact h
  have f5 : (0 < TR X H 0 2 6 ∧ 0 < TR X H 0 2 5) ∨ (TR X H 0 2 6 < 0 ∧ TR X H 0 2 5 < 0) := by
    have h0 : interP (X 0) (H 0) (X 2) (H 2) (X 5) (H 5) (X 6) (H 6) = false := W.fr 5 (by decide) (by decide) (by decide) (by decide) (by decide)
    have h := ns01 h0 (by omega) (by omega) (by omega) (by omega)
    rw [dl_1 (by omega), dr_1 (by omega)] at h
    exact h
  have z1 : TR X H 0 1 2 ≠ 0 := W.s1 rfl
  clear W
  by_cases hc : TR X H 0 2 1 < 0
  · simp only [TR, T2, twiceP, x0, x1, x2, x3, x4, x5, x6, y0, y3] at f4 f5 z1 hc
    replace f5 := f5.resolve_right (by omega)
    replace f4 := f4.resolve_right (by omega)
    refine ⟨true, false, ?_, ⟨?_, ?_⟩, ?_, ?_, ?_⟩
    · intro v hv a1 a2
      obtain rfl | rfl | rfl := (by omega : v = 0 ∨ v = 1 ∨ v = 2)
      · exact pos_c (by simp only [Nat.reduceAdd, Nat.zero_add, TR, T2, twiceP, x0, x1, x2, x3, x4, x5, x6, y0, y3]; omega)
      · exact pos_c (by simp only [Nat.reduceAdd, Nat.zero_add, TR, T2, twiceP, x0, x1, x2, x3, x4, x5, x6, y0, y3]; omega)
      · exfalso; simp only [Nat.reduceAdd, Nat.zero_add] at a1 a2; omega
    · intro v hv hv2 a1 a2
      obtain rfl | rfl | rfl := (by omega : v = 3 ∨ v = 4 ∨ v = 5)
      · exfalso; simp only [Nat.reduceAdd, Nat.zero_add] at a1 a2; omega
      · exfalso; simp only [Nat.reduceAdd, Nat.zero_add] at a1 a2; omega
      · exact neg_c (by simp only [Nat.reduceAdd, Nat.zero_add, TR, T2, twiceP, x0, x1, x2, x3, x4, x5, x6, y0, y3]; omega)
    · intro a1
      exact neg_c (by simp only [Nat.reduceSub, TR, T2, twiceP, x0, x1, x2, x3, x4, x5, x6, y0, y3]; omega)
    · show locT (TR X H 6 0 1) (TR X H 0 2 1) (TR X H 0 6 2) (TR X H 0 2 6) (TR X H 0 1 2) = true
      exact loc_t (by simp only [TR, T2, twiceP, x0, x1, x2, x3, x4, x5, x6, y0, y3]; omega)
    · show locT (TR X H 1 2 3) (TR X H 2 0 3) (TR X H 2 1 0) (TR X H 2 0 1) (TR X H 2 3 0) = true
      exact loc_t (by simp only [TR, T2, twiceP, x0, x1, x2, x3, x4, x5, x6, y0, y3]; omega)
    · refine fun _ => .inl ⟨by omega, fun v hv n1 n2 a1 a2 => ?_⟩
      obtain rfl | rfl | rfl | rfl | rfl | rfl | rfl := (by omega : v = 0 ∨ v = 1 ∨ v = 2 ∨ v = 3 ∨ v = 4 ∨ v = 5 ∨ v = 6)
      · exact absurd rfl n1
      · exact .inl ⟨by omega, by simp only [TR, T2, twiceP, x0, x1, x2, x3, x4, x5, x6, y0, y3]; omega⟩
      · exact absurd rfl n2
      · exfalso; omega
      · exfalso; omega
      · exact .inr ⟨by omega, by simp only [TR, T2, twiceP, x0, x1, x2, x3, x4, x5, x6, y0, y3]; omega⟩
      · exact .inr ⟨by omega, by simp only [TR, T2, twiceP, x0, x1, x2, x3, x4, x5, x6, y0, y3]; omega⟩
  · simp only [TR, T2, twiceP, x0, x1, x2, x3, x4, x5, x6, y0, y3] at f4 f5 z1 hc
    replace f5 := f5.resolve_right (by omega)
    replace f4 := f4.resolve_right (by omega)
    refine ⟨false, false, ?_, ⟨?_, ?_⟩, ?_, ?_, ?_⟩
    · intro v hv a1 a2
      obtain rfl | rfl | rfl := (by omega : v = 0 ∨ v = 1 ∨ v = 2)
      · exact neg_c (by simp only [Nat.reduceAdd, Nat.zero_add, TR, T2, twiceP, x0, x1, x2, x3, x4, x5, x6, y0, y3]; omega)
      · exact neg_c (by simp only [Nat.reduceAdd, Nat.zero_add, TR, T2, twiceP, x0, x1, x2, x3, x4, x5, x6, y0, y3]; omega)
      · exfalso; simp only [Nat.reduceAdd, Nat.zero_add] at a1 a2; omega
    · intro v hv hv2 a1 a2
      obtain rfl | rfl | rfl := (by omega : v = 3 ∨ v = 4 ∨ v = 5)
      · exfalso; simp only [Nat.reduceAdd, Nat.zero_add] at a1 a2; omega
      · exfalso; simp only [Nat.reduceAdd, Nat.zero_add] at a1 a2; omega
      · exact neg_c (by simp only [Nat.reduceAdd, Nat.zero_add, TR, T2, twiceP, x0, x1, x2, x3, x4, x5, x6, y0, y3]; omega)
    · intro a1
      exact neg_c (by simp only [Nat.reduceSub, TR, T2, twiceP, x0, x1, x2, x3, x4, x5, x6, y0, y3]; omega)
    · show locT (TR X H 6 0 1) (TR X H 0 2 1) (TR X H 0 6 2) (TR X H 0 2 6) (TR X H 0 1 2) = false
      exact loc_f (by simp only [TR, T2, twiceP, x0, x1, x2, x3, x4, x5, x6, y0, y3]; omega)
    · show locT (TR X H 1 2 3) (TR X H 2 0 3) (TR X H 2 1 0) (TR X H 2 0 1) (TR X H 2 3 0) = false
      exact loc_f (by simp only [TR, T2, twiceP, x0, x1, x2, x3, x4, x5, x6, y0, y3]; omega)
    · exact fun h => absurd h (by decide)
theorem w1_0_3 {X H : Nat → Int} (S : Sh1 X H) (W : WayR 7 X H 0 3) : Res 7 3 X H 0 3 := by
  obtain ⟨x0, x1, x2, x3, x4, x5, x6, y0, y1, y2, y3, y4, y5, y6⟩ := S
  have f1 : (0 < TR X H 0 3 1 ∧ 0 < TR X H 0 3 2) ∨ (TR X H 0 3 1 < 0 ∧ TR X H 0 3 2 < 0) := by
    have h0 : interP (X 0) (H 0) (X 3) (H 3) (X 1) (H 1) (X 2) (H 2) = false := W.fr 1 (by decide) (by decide) (by decide) (by decide) (by decide)
    have h := ns00 h0 (by omega) (by omega) (by omega) (by omega)
    rw [dl_1 (by omega), dr_1 (by omega)] at h
    exact h
  have f4 : (0 < TR X H 0 3 5 ∧ 0 < TR X H 0 3 4) ∨ (TR X H 0 3 5 < 0 ∧ TR X H 0 3 4 < 0) := by
    have h0 : interP (X 0) (H 0) (X 3) (H 3) (X 4) (H 4) (X 5) (H 5) = false := W.fr 4 (by decide) (by decide) (by decide) (by decide) (by decide)
    have h := ns01 h0 (by omega) (by omega) (by omega) (by omega)
    rw [dl_1 (by omega), dr_1 (by omega)] at h
    exact h
  have f5 : (0 < TR X H 0 3 6 ∧ 0 < TR X H 0 3 5) ∨ (TR X H 0 3 6 < 0 ∧ TR X H 0 3 5 < 0) := by
    have h0 : interP (X 0) (H 0) (X 3) (H 3) (X 5) (H 5) (X 6) (H 6) = false := W.fr 5 (by decide) (by decide) (by decide) (by decide) (by decide)
    have h := ns01 h0 (by omega) (by omega) (by omega) (by omega)
    rw [dl_1 (by omega), dr_1 (by omega)] at h
    exact h
  clear W
  simp only [TR, T2, twiceP, x0, x1, x2, x3, x4, x5, x6, y0, y3] at f1 f4 f5
  replace f4 := f4.resolve_right (by omega)
  replace f5 := f5.resolve_right (by omega)
  replace f1 := f1.resolve_left (by omega)
  refine ⟨true, false, ?_, ⟨?_, ?_⟩, ?_, ?_, ?_⟩
  · intro v hv a1 a2
    obtain rfl | rfl | rfl := (by omega : v = 0 ∨ v = 1 ∨ v = 2)
    · exfalso; simp only [Nat.reduceAdd, Nat.zero_add] at a1 a2; omega
    · exact pos_c (by simp only [Nat.reduceAdd, Nat.zero_add, TR, T2, twiceP, x0, x1, x2, x3, x4, x5, x6, y0, y3]; omega)
    · exact pos_c (by simp only [Nat.reduceAdd, Nat.zero_add, TR, T2, twiceP, x0, x1, x2, x3, x4, x5, x6, y0, y3]; omega)
  · intro v hv hv2 a1 a2
    obtain rfl | rfl | rfl := (by omega : v = 3 ∨ v = 4 ∨ v = 5)
    · exfalso; simp only [Nat.reduceAdd, Nat.zero_add] at a1 a2; omega
    · exact neg_c (by simp only [Nat.reduceAdd, Nat.zero_add, TR, T2, twiceP, x0, x1, x2, x3, x4, x5, x6, y0, y3]; omega)
    · exact neg_c (by simp only [Nat.reduceAdd, Nat.zero_add, TR, T2, twiceP, x0, x1, x2, x3, x4, x5, x6, y0, y3]; omega)
  · intro a1
    exfalso; simp only [Nat.reduceSub] at a1; omega
  · show locT (TR X H 6 0 1) (TR X H 0 3 1) (TR X H 0 6 3) (TR X H 0 3 6) (TR X H 0 1 3) = true
    exact loc_t (by simp only [TR, T2, twiceP, x0, x1, x2, x3, x4, x5, x6, y0, y3]; omega)
  · show locT (TR X H 2 3 4) (TR X H 3 0 4) (TR X H 3 2 0) (TR X H 3 0 2) (TR X H 3 4 0) = true
    exact loc_t (by simp only [TR, T2, twiceP, x0, x1, x2, x3, x4, x5, x6, y0, y3]; omega)
  · refine fun _ => .inl ⟨by omega, fun v hv n1 n2 a1 a2 => ?_⟩
    obtain rfl | rfl | rfl | rfl | rfl | rfl | rfl := (by omega : v = 0 ∨ v = 1 ∨ v = 2 ∨ v = 3 ∨ v = 4 ∨ v = 5 ∨ v = 6)
    · exact absurd rfl n1
    · exact .inl ⟨by omega, by simp only [TR, T2, twiceP, x0, x1, x2, x3, x4, x5, x6, y0, y3]; omega⟩
    · exact .inl ⟨by omega, by simp only [TR, T2, twiceP, x0, x1, x2, x3, x4, x5, x6, y0, y3]; omega⟩
    · exact absurd rfl n2
    · exact .inr ⟨by omega, by simp only [TR, T2, twiceP, x0, x1, x2, x3, x4, x5, x6, y0, y3]; omega⟩
    · exact .inr ⟨by omega, by simp only [TR, T2, twiceP, x0, x1, x2, x3, x4, x5, x6, y0, y3]; omega⟩
    · exact .inr ⟨by omega, by simp only [TR, T2, twiceP, x0, x1, x2, x3, x4, x5, x6, y0, y3]; omega⟩
theorem w1_0_4 {X H : Nat → Int} (S : Sh1 X H) (W : WayR 7 X H 0 4) : Res 7 3 X H 0 4 := by
  obtain ⟨x0, x1, x2, x3, x4, x5, x6, y0, y1, y2, y3, y4, y5, y6⟩ := S
  have f1 : (0 < TR X H 0 4 1 ∧ 0 < TR X H 0 4 2) ∨ (TR X H 0 4 1 < 0 ∧ TR X H 0 4 2 < 0) := by
    have h0 : interP (X 0) (H 0) (X 4) (H 4) (X 1) (H 1) (X 2) (H 2) = false := W.fr 1 (by decide) (by decide) (by decide) (by decide) (by decide)
    have h := ns00 h0 (by omega) (by omega) (by omega) (by omega)
    rw [dl_1 (by omega), dr_1 (by omega)] at h
    exact h
  have f2 : (0 < TR X H 0 4 2 ∧ 0 < -(TR X H 2 3 4)) ∨ (TR X H 0 4 2 < 0 ∧ -(TR X H 2 3 4) < 0) := by
    have h0 : interP (X 0) (H 0) (X 4) (H 4) (X 2) (H 2) (X 3) (H 3) = false := W.fr 2 (by decide) (by decide) (by decide) (by decide) (by decide)
    have h := ns00 h0 (by omega) (by omega) (by omega) (by omega)
    rw [dl_1 (by omega), dr_2 (by omega)] at h
    exact h
  have f5 : (0 < TR X H 0 4 6 ∧ 0 < TR X H 0 4 5) ∨ (TR X H 0 4 6 < 0 ∧ TR X H 0 4 5 < 0) := by
    have h0 : interP (X 0) (H 0) (X 4) (H 4) (X 5) (H 5) (X 6) (H 6) = false := W.fr 5 (by decide) (by decide) (by decide) (by decide) (by decide)
    have h := ns01 h0 (by omega) (by omega) (by omega) (by omega)
    rw [dl_1 (by omega), dr_1 (by omega)] at h
    exact h
  clear W
  by_cases hc : 0 < TR X H 0 4 5
  · simp only [TR, T2, twiceP, x0, x1, x2, x3, x4, x5, x6, y0, y3] at f1 f2 f5 hc
    replace f1 := f1.resolve_left (by omega)
    replace f5 := f5.resolve_right (by omega)
    replace f2 := f2.resolve_left (by omega)
    refine ⟨true, false, ?_, ⟨?_, ?_⟩, ?_, ?_, ?_⟩
    · intro v hv a1 a2
      obtain rfl | rfl | rfl := (by omega : v = 0 ∨ v = 1 ∨ v = 2)
      · exfalso; simp only [Nat.reduceAdd, Nat.zero_add] at a1 a2; omega
      · exact pos_c (by simp only [Nat.reduceAdd, Nat.zero_add, TR, T2, twiceP, x0, x1, x2, x3, x4, x5, x6, y0, y3]; omega)
      · exfalso; simp only [Nat.reduceAdd, Nat.zero_add] at a1 a2; omega
    · intro v hv hv2 a1 a2
      obtain rfl | rfl | rfl := (by omega : v = 3 ∨ v = 4 ∨ v = 5)
      · exfalso; simp only [Nat.reduceAdd, Nat.zero_add] at a1 a2; omega
      · exfalso; simp only [Nat.reduceAdd, Nat.zero_add] at a1 a2; omega
      · exact neg_c (by simp only [Nat.reduceAdd, Nat.zero_add, TR, T2, twiceP, x0, x1, x2, x3, x4, x5, x6, y0, y3]; omega)
    · intro a1
      exfalso; simp only [Nat.reduceSub] at a1; omega
    · show locT (TR X H 6 0 1) (TR X H 0 4 1) (TR X H 0 6 4) (TR X H 0 4 6) (TR X H 0 1 4) = true
      exact loc_t (by simp only [TR, T2, twiceP, x0, x1, x2, x3, x4, x5, x6, y0, y3]; omega)
    · show locT (TR X H 3 4 5) (TR X H 4 0 5) (TR X H 4 3 0) (TR X H 4 0 3) (TR X H 4 5 0) = true
      exact loc_t (by simp only [TR, T2, twiceP, x0, x1, x2, x3, x4, x5, x6, y0, y3]; omega)
    · refine fun _ => .inl ⟨by omega, fun v hv n1 n2 a1 a2 => ?_⟩
      obtain rfl | rfl | rfl | rfl | rfl | rfl | rfl := (by omega : v = 0 ∨ v = 1 ∨ v = 2 ∨ v = 3 ∨ v = 4 ∨ v = 5 ∨ v = 6)
      · exact absurd rfl n1
      · exact .inl ⟨by omega, by simp only [TR, T2, twiceP, x0, x1, x2, x3, x4, x5, x6, y0, y3]; omega⟩
      · exact .inl ⟨by omega, by simp only [TR, T2, twiceP, x0, x1, x2, x3, x4, x5, x6, y0, y3]; omega⟩
      · exfalso; omega
      · exact absurd rfl n2
      · exact .inr ⟨by omega, by simp only [TR, T2, twiceP, x0, x1, x2, x3, x4, x5, x6, y0, y3]; omega⟩
      · exact .inr ⟨by omega, by simp only [TR, T2, twiceP, x0, x1, x2, x3, x4, x5, x6, y0, y3]; omega⟩
  · simp only [TR, T2, twiceP, x0, x1, x2, x3, x4, x5, x6, y0, y3] at f1 f2 f5 hc
    replace f1 := f1.resolve_left (by omega)
    replace f5 := f5.resolve_left (by omega)
    replace f2 := f2.resolve_left (by omega)
    refine ⟨true, true, ?_, ⟨?_, ?_⟩, ?_, ?_, ?_⟩
    · intro v hv a1 a2
      obtain rfl | rfl | rfl := (by omega : v = 0 ∨ v = 1 ∨ v = 2)
      · exfalso; simp only [Nat.reduceAdd, Nat.zero_add] at a1 a2; omega
      · exact pos_c (by simp only [Nat.reduceAdd, Nat.zero_add, TR, T2, twiceP, x0, x1, x2, x3, x4, x5, x6, y0, y3]; omega)
      · exfalso; simp only [Nat.reduceAdd, Nat.zero_add] at a1 a2; omega
    · intro v hv hv2 a1 a2
      obtain rfl | rfl | rfl := (by omega : v = 3 ∨ v = 4 ∨ v = 5)
      · exfalso; simp only [Nat.reduceAdd, Nat.zero_add] at a1 a2; omega
      · exfalso; simp only [Nat.reduceAdd, Nat.zero_add] at a1 a2; omega
      · exact pos_c (by simp only [Nat.reduceAdd, Nat.zero_add, TR, T2, twiceP, x0, x1, x2, x3, x4, x5, x6, y0, y3]; omega)
    · intro a1
      exfalso; simp only [Nat.reduceSub] at a1; omega
    · show locT (TR X H 6 0 1) (TR X H 0 4 1) (TR X H 0 6 4) (TR X H 0 4 6) (TR X H 0 1 4) = false
      exact loc_f (by simp only [TR, T2, twiceP, x0, x1, x2, x3, x4, x5, x6, y0, y3]; omega)
    · show locT (TR X H 3 4 5) (TR X H 4 0 5) (TR X H 4 3 0) (TR X H 4 0 3) (TR X H 4 5 0) = false
      exact loc_f (by simp only [TR, T2, twiceP, x0, x1, x2, x3, x4, x5, x6, y0, y3]; omega)
    · exact fun h => absurd h (by decide)
theorem w1_0_5 {X H : Nat → Int} (S : Sh1 X H) (W : WayR 7 X H 0 5) : Res 7 3 X H 0 5 := by
  obtain ⟨x0, x1, x2, x3, x4, x5, x6, y0, y1, y2, y3, y4, y5, y6⟩ := S
  have f1 : (0 < TR X H 0 5 1 ∧ 0 < TR X H 0 5 2) ∨ (TR X H 0 5 1 < 0 ∧ TR X H 0 5 2 < 0) := by
    have h0 : interP (X 0) (H 0) (X 5) (H 5) (X 1) (H 1) (X 2) (H 2) = false := W.fr 1 (by decide) (by decide) (by decide) (by decide) (by decide)
    have h := ns00 h0 (by omega) (by omega) (by omega) (by omega)
    rw [dl_1 (by omega), dr_1 (by omega)] at h
    exact h
  have f2 : (0 < TR X H 0 5 2 ∧ 0 < -(TR X H 2 3 5)) ∨ (TR X H 0 5 2 < 0 ∧ -(TR X H 2 3 5) < 0) := by
    have h0 : interP (X 0) (H 0) (X 5) (H 5) (X 2) (H 2) (X 3) (H 3) = false := W.fr 2 (by decide) (by decide) (by decide) (by decide) (by decide)
    have h := ns00 h0 (by omega) (by omega) (by omega) (by omega)
    rw [dl_1 (by omega), dr_2 (by omega)] at h
    exact h
  have z2 : TR X H 5 6 0 ≠ 0 := W.s2 rfl
  clear W
  by_cases hc : 0 < TR X H 0 5 6
  · simp only [TR, T2, twiceP, x0, x1, x2, x3, x4, x5, x6, y0, y3] at f1 f2 z2 hc
    replace f1 := f1.resolve_left (by omega)
    replace f2 := f2.resolve_left (by omega)
    refine ⟨true, false, ?_, ⟨?_, ?_⟩, ?_, ?_, ?_⟩
    · intro v hv a1 a2
      obtain rfl | rfl | rfl := (by omega : v = 0 ∨ v = 1 ∨ v = 2)
      · exact pos_c (by simp only [Nat.reduceAdd, Nat.zero_add, TR, T2, twiceP, x0, x1, x2, x3, x4, x5, x6, y0, y3]; omega)
      · exact pos_c (by simp only [Nat.reduceAdd, Nat.zero_add, TR, T2, twiceP, x0, x1, x2, x3, x4, x5, x6, y0, y3]; omega)
      · exfalso; simp only [Nat.reduceAdd, Nat.zero_add] at a1 a2; omega
    · intro v hv hv2 a1 a2
      obtain rfl | rfl | rfl := (by omega : v = 3 ∨ v = 4 ∨ v = 5)
      · exfalso; simp only [Nat.reduceAdd, Nat.zero_add] at a1 a2; omega
      · exfalso; simp only [Nat.reduceAdd, Nat.zero_add] at a1 a2; omega
      · exact neg_c (by simp only [Nat.reduceAdd, Nat.zero_add, TR, T2, twiceP, x0, x1, x2, x3, x4, x5, x6, y0, y3]; omega)
    · intro a1
      exact neg_c (by simp only [Nat.reduceSub, TR, T2, twiceP, x0, x1, x2, x3, x4, x5, x6, y0, y3]; omega)
    · show locT (TR X H 6 0 1) (TR X H 0 5 1) (TR X H 0 6 5) (TR X H 0 5 6) (TR X H 0 1 5) = true
      exact loc_t (by simp only [TR, T2, twiceP, x0, x1, x2, x3, x4, x5, x6, y0, y3]; omega)
    · show locT (TR X H 4 5 6) (TR X H 5 0 6) (TR X H 5 4 0) (TR X H 5 0 4) (TR X H 5 6 0) = true
      exact loc_t (by simp only [TR, T2, twiceP, x0, x1, x2, x3, x4, x5, x6, y0, y3]; omega)
    · refine fun _ => .inl ⟨by omega, fun v hv n1 n2 a1 a2 => ?_⟩
      obtain rfl | rfl | rfl | rfl | rfl | rfl | rfl := (by omega : v = 0 ∨ v = 1 ∨ v = 2 ∨ v = 3 ∨ v = 4 ∨ v = 5 ∨ v = 6)
      · exact absurd rfl n1
      · exact .inl ⟨by omega, by simp only [TR, T2, twiceP, x0, x1, x2, x3, x4, x5, x6, y0, y3]; omega⟩
      · exact .inl ⟨by omega, by simp only [TR, T2, twiceP, x0, x1, x2, x3, x4, x5, x6, y0, y3]; omega⟩
      · exfalso; omega
      · exfalso; omega
      · exact absurd rfl n2
      · exact .inr ⟨by omega, by simp only [TR, T2, twiceP, x0, x1, x2, x3, x4, x5, x6, y0, y3]; omega⟩
  · simp only [TR, T2, twiceP, x0, x1, x2, x3, x4, x5, x6, y0, y3] at f1 f2 z2 hc
    replace f1 := f1.resolve_left (by omega)
    replace f2 := f2.resolve_left (by omega)
    refine ⟨true, true, ?_, ⟨?_, ?_⟩, ?_, ?_, ?_⟩
    · intro v hv a1 a2
      obtain rfl | rfl | rfl := (by omega : v = 0 ∨ v = 1 ∨ v = 2)
      · exact pos_c (by simp only [Nat.reduceAdd, Nat.zero_add, TR, T2, twiceP, x0, x1, x2, x3, x4, x5, x6, y0, y3]; omega)
      · exact pos_c (by simp only [Nat.reduceAdd, Nat.zero_add, TR, T2, twiceP, x0, x1, x2, x3, x4, x5, x6, y0, y3]; omega)
      · exfalso; simp only [Nat.reduceAdd, Nat.zero_add] at a1 a2; omega
    · intro v hv hv2 a1 a2
      obtain rfl | rfl | rfl := (by omega : v = 3 ∨ v = 4 ∨ v = 5)
      · exfalso; simp only [Nat.reduceAdd, Nat.zero_add] at a1 a2; omega
      · exfalso; simp only [Nat.reduceAdd, Nat.zero_add] at a1 a2; omega
      · exact pos_c (by simp only [Nat.reduceAdd, Nat.zero_add, TR, T2, twiceP, x0, x1, x2, x3, x4, x5, x6, y0, y3]; omega)
    · intro a1
      exact pos_c (by simp only [Nat.reduceSub, TR, T2, twiceP, x0, x1, x2, x3, x4, x5, x6, y0, y3]; omega)
    · show locT (TR X H 6 0 1) (TR X H 0 5 1) (TR X H 0 6 5) (TR X H 0 5 6) (TR X H 0 1 5) = false
      exact loc_f (by simp only [TR, T2, twiceP, x0, x1, x2, x3, x4, x5, x6, y0, y3]; omega)
    · show locT (TR X H 4 5 6) (TR X H 5 0 6) (TR X H 5 4 0) (TR X H 5 0 4) (TR X H 5 6 0) = false
      exact loc_f (by simp only [TR, T2, twiceP, x0, x1, x2, x3, x4, x5, x6, y0, y3]; omega)
    · exact fun h => absurd h (by decide)
theorem w1_1_3 {X H : Nat → Int} (S : Sh1 X H) (W : WayR 7 X H 1 3) : Res 7 3 X H 1 3 := by
  obtain ⟨x0, x1, x2, x3, x4, x5, x6, y0, y1, y2, y3, y4, y5, y6⟩ := S
  have f4 : (0 < TR X H 1 3 5 ∧ 0 < TR X H 1 3 4) ∨ (TR X H 1 3 5 < 0 ∧ TR X H 1 3 4 < 0) := by
    have h0 : interP (X 1) (H 1) (X 3) (H 3) (X 4) (H 4) (X 5) (H 5) = false := W.fr 4 (by decide) (by decide) (by decide) (by decide) (by decide)
    have h := ns01 h0 (by omega) (by omega) (by omega) (by omega)
    rw [dl_1 (by omega), dr_1 (by omega)] at h
    exact h
  have f5 : (0 < TR X H 1 3 6 ∧ 0 < TR X H 1 3 5) ∨ (TR X H 1 3 6 < 0 ∧ TR X H 1 3 5 < 0) := by
    have h0 : interP (X 1) (H 1) (X 3) (H 3) (X 5) (H 5) (X 6) (H 6) = false := W.fr 5 (by decide) (by decide) (by decide) (by decide) (by decide)
    have h := ns01 h0 (by omega) (by omega) (by omega) (by omega)
    rw [dl_1 (by omega), dr_1 (by omega)] at h
    exact h
  have f6 : (0 < -(TR X H 0 6 1) ∧ 0 < TR X H 1 3 6) ∨ (-(TR X H 0 6 1) < 0 ∧ TR X H 1 3 6 < 0) := by
    have h0 : interP (X 1) (H 1) (X 3) (H 3) (X 6) (H 6) (X 0) (H 0) = false := W.fr 6 (by decide) (by decide) (by decide) (by decide) (by decide)
    have h := ns01 h0 (by omega) (by omega) (by omega) (by omega)
    rw [dl_2 (by omega), dr_1 (by omega)] at h
    exact h
  have z1 : TR X H 1 2 3 ≠ 0 := W.s1 rfl
  clear W
  by_cases hc : TR X H 1 3 2 < 0
  · simp only [TR, T2, twiceP, x0, x1, x2, x3, x4, x5, x6, y0, y3] at f4 f5 f6 z1 hc
    replace f6 := f6.resolve_right (by omega)
    replace f5 := f5.resolve_right (by omega)
    replace f4 := f4.resolve_right (by omega)
    refine ⟨true, false, ?_, ⟨?_, ?_⟩, ?_, ?_, ?_⟩
    · intro v hv a1 a2
      obtain rfl | rfl | rfl := (by omega : v = 0 ∨ v = 1 ∨ v = 2)
      · exfalso; simp only [Nat.reduceAdd, Nat.zero_add] at a1 a2; omega
      · exfalso; simp only [Nat.reduceAdd, Nat.zero_add] at a1 a2; omega
      · exact pos_c (by simp only [Nat.reduceAdd, Nat.zero_add, TR, T2, twiceP, x0, x1, x2, x3, x4, x5, x6, y0, y3]; omega)
    · intro v hv hv2 a1 a2
      obtain rfl | rfl | rfl := (by omega : v = 3 ∨ v = 4 ∨ v = 5)
      · exfalso; simp only [Nat.reduceAdd, Nat.zero_add] at a1 a2; omega
      · exact neg_c (by simp only [Nat.reduceAdd, Nat.zero_add, TR, T2, twiceP, x0, x1, x2, x3, x4, x5, x6, y0, y3]; omega)
      · exfalso; simp only [Nat.reduceAdd, Nat.zero_add] at a1 a2; omega
    · intro a1
      exfalso; simp only [Nat.reduceSub] at a1; omega
    · show locT (TR X H 0 1 2) (TR X H 1 3 2) (TR X H 1 0 3) (TR X H 1 3 0) (TR X H 1 2 3) = true
      exact loc_t (by simp only [TR, T2, twiceP, x0, x1, x2, x3, x4, x5, x6, y0, y3]; omega)
    · show locT (TR X H 2 3 4) (TR X H 3 1 4) (TR X H 3 2 1) (TR X H 3 1 2) (TR X H 3 4 1) = true
      exact loc_t (by simp only [TR, T2, twiceP, x0, x1, x2, x3, x4, x5, x6, y0, y3]; omega)
    · refine fun _ => .inl ⟨by omega, fun v hv n1 n2 a1 a2 => ?_⟩
      obtain rfl | rfl | rfl | rfl | rfl | rfl | rfl := (by omega : v = 0 ∨ v = 1 ∨ v = 2 ∨ v = 3 ∨ v = 4 ∨ v = 5 ∨ v = 6)
      · exfalso; omega
      · exact absurd rfl n1
      · exact .inl ⟨by omega, by simp only [TR, T2, twiceP, x0, x1, x2, x3, x4, x5, x6, y0, y3]; omega⟩
      · exact absurd rfl n2
      · exact .inr ⟨by omega, by simp only [TR, T2, twiceP, x0, x1, x2, x3, x4, x5, x6, y0, y3]; omega⟩
      · exact .inr ⟨by omega, by simp only [TR, T2, twiceP, x0, x1, x2, x3, x4, x5, x6, y0, y3]; omega⟩
      · exact .inr ⟨by omega, by simp only [TR, T2, twiceP, x0, x1, x2, x3, x4, x5, x6, y0, y3]; omega⟩
  · simp only [TR, T2, twiceP, x0, x1, x2, x3, x4, x5, x6, y0, y3] at f4 f5 f6 z1 hc
    replace f6 := f6.resolve_right (by omega)
    replace f5 := f5.resolve_right (by omega)
    replace f4 := f4.resolve_right (by omega)
    refine ⟨false, false, ?_, ⟨?_, ?_⟩, ?_, ?_, ?_⟩
    · intro v hv a1 a2
      obtain rfl | rfl | rfl := (by omega : v = 0 ∨ v = 1 ∨ v = 2)
      · exfalso; simp only [Nat.reduceAdd, Nat.zero_add] at a1 a2; omega
      · exfalso; simp only [Nat.reduceAdd, Nat.zero_add] at a1 a2; omega
      · exact neg_c (by simp only [Nat.reduceAdd, Nat.zero_add, TR, T2, twiceP, x0, x1, x2, x3, x4, x5, x6, y0, y3]; omega)
    · intro v hv hv2 a1 a2
      obtain rfl | rfl | rfl := (by omega : v = 3 ∨ v = 4 ∨ v = 5)
      · exfalso; simp only [Nat.reduceAdd, Nat.zero_add] at a1 a2; omega
      · exact neg_c (by simp only [Nat.reduceAdd, Nat.zero_add, TR, T2, twiceP, x0, x1, x2, x3, x4, x5, x6, y0, y3]; omega)
      · exfalso; simp only [Nat.reduceAdd, Nat.zero_add] at a1 a2; omega
    · intro a1
      exfalso; simp only [Nat.reduceSub] at a1; omega
    · show locT (TR X H 0 1 2) (TR X H 1 3 2) (TR X H 1 0 3) (TR X H 1 3 0) (TR X H 1 2 3) = false
      exact loc_f (by simp only [TR, T2, twiceP, x0, x1, x2, x3, x4, x5, x6, y0, y3]; omega)
    · show locT (TR X H 2 3 4) (TR X H 3 1 4) (TR X H 3 2 1) (TR X H 3 1 2) (TR X H 3 4 1) = false
      exact loc_f (by simp only [TR, T2, twiceP, x0, x1, x2, x3, x4, x5, x6, y0, y3]; omega)
    · exact fun h => absurd h (by decide)
theorem w1_1_4 {X H : Nat → Int} (S : Sh1 X H) (W : WayR 7 X H 1 4) : Res 7 3 X H 1 4 := by
  obtain ⟨x0, x1, x2, x3, x4, x5, x6, y0, y1, y2, y3, y4, y5, y6⟩ := S
  have f2 : (0 < TR X H 1 4 2 ∧ 0 < -(TR X H 2 3 4)) ∨ (TR X H 1 4 2 < 0 ∧ -(TR X H 2 3 4) < 0) := by
    have h0 : interP (X 1) (H 1) (X 4) (H 4) (X 2) (H 2) (X 3) (H 3) = false := W.fr 2 (by decide) (by decide) (by decide) (by decide) (by decide)
    have h := ns00 h0 (by omega) (by omega) (by omega) (by omega)
    rw [dl_1 (by omega), dr_2 (by omega)] at h
    exact h
  have f5 : (0 < TR X H 1 4 6 ∧ 0 < TR X H 1 4 5) ∨ (TR X H 1 4 6 < 0 ∧ TR X H 1 4 5 < 0) := by
    have h0 : interP (X 1) (H 1) (X 4) (H 4) (X 5) (H 5) (X 6) (H 6) = false := W.fr 5 (by decide) (by decide) (by decide) (by decide) (by decide)
    have h := ns01 h0 (by omega) (by omega) (by omega) (by omega)
    rw [dl_1 (by omega), dr_1 (by omega)] at h
    exact h
  have f6 : (0 < -(TR X H 0 6 1) ∧ 0 < TR X H 1 4 6) ∨ (-(TR X H 0 6 1) < 0 ∧ TR X H 1 4 6 < 0) := by
    have h0 : interP (X 1) (H 1) (X 4) (H 4) (X 6) (H 6) (X 0) (H 0) = false := W.fr 6 (by decide) (by decide) (by decide) (by decide) (by decide)
    have h := ns01 h0 (by omega) (by omega) (by omega) (by omega)
    rw [dl_2 (by omega), dr_1 (by omega)] at h
    exact h
  clear W
  simp only [TR, T2, twiceP, x0, x1, x2, x3, x4, x5, x6, y0, y3] at f2 f5 f6
  replace f2 := f2.resolve_left (by omega)
  replace f6 := f6.resolve_right (by omega)
  replace f5 := f5.resolve_right (by omega)
  refine ⟨true, false, ?_, ⟨?_, ?_⟩, ?_, ?_, ?_⟩
  · intro v hv a1 a2
    obtain rfl | rfl | rfl := (by omega : v = 0 ∨ v = 1 ∨ v = 2)
    · exfalso; simp only [Nat.reduceAdd, Nat.zero_add] at a1 a2; omega
    · exact pos_c (by simp only [Nat.reduceAdd, Nat.zero_add, TR, T2, twiceP, x0, x1, x2, x3, x4, x5, x6, y0, y3]; omega)
    · exact pos_c (by simp only [Nat.reduceAdd, Nat.zero_add, TR, T2, twiceP, x0, x1, x2, x3, x4, x5, x6, y0, y3]; omega)
  · intro v hv hv2 a1 a2
    obtain rfl | rfl | rfl := (by omega : v = 3 ∨ v = 4 ∨ v = 5)
    · exfalso; simp only [Nat.reduceAdd, Nat.zero_add] at a1 a2; omega
    · exact neg_c (by simp only [Nat.reduceAdd, Nat.zero_add, TR, T2, twiceP, x0, x1, x2, x3, x4, x5, x6, y0, y3]; omega)
    · exact neg_c (by simp only [Nat.reduceAdd, Nat.zero_add, TR, T2, twiceP, x0, x1, x2, x3, x4, x5, x6, y0, y3]; omega)
  · intro a1
    exfalso; simp only [Nat.reduceSub] at a1; omega
  · show locT (TR X H 0 1 2) (TR X H 1 4 2) (TR X H 1 0 4) (TR X H 1 4 0) (TR X H 1 2 4) = true
    exact loc_t (by simp only [TR, T2, twiceP, x0, x1, x2, x3, x4, x5, x6, y0, y3]; omega)
  · show locT (TR X H 3 4 5) (TR X H 4 1 5) (TR X H 4 3 1) (TR X H 4 1 3) (TR X H 4 5 1) = true
    exact loc_t (by simp only [TR, T2, twiceP, x0, x1, x2, x3, x4, x5, x6, y0, y3]; omega)
  · refine fun _ => .inl ⟨by omega, fun v hv n1 n2 a1 a2 => ?_⟩
    obtain rfl | rfl | rfl | rfl | rfl | rfl | rfl := (by omega : v = 0 ∨ v = 1 ∨ v = 2 ∨ v = 3 ∨ v = 4 ∨ v = 5 ∨ v = 6)
    · exfalso; omega
    · exact absurd rfl n1
    · exact .inl ⟨by omega, by simp only [TR, T2, twiceP, x0, x1, x2, x3, x4, x5, x6, y0, y3]; omega⟩
    · exfalso; omega
    · exact absurd rfl n2
    · exact .inr ⟨by omega, by simp only [TR, T2, twiceP, x0, x1, x2, x3, x4, x5, x6, y0, y3]; omega⟩
    · exact .inr ⟨by omega, by simp only [TR, T2, twiceP, x0, x1, x2, x3, x4, x5, x6, y0, y3]; omega⟩
theorem w1_1_5 {X H : Nat → Int} (S : Sh1 X H) (W : WayR 7 X H 1 5) : Res 7 3 X H 1 5 := by
  obtain ⟨x0, x1, x2, x3, x4, x5, x6, y0, y1, y2, y3, y4, y5, y6⟩ := S
  have f2 : (0 < TR X H 1 5 2 ∧ 0 < -(TR X H 2 3 5)) ∨ (TR X H 1 5 2 < 0 ∧ -(TR X H 2 3 5) < 0) := by
    have h0 : interP (X 1) (H 1) (X 5) (H 5) (X 2) (H 2) (X 3) (H 3) = false := W.fr 2 (by decide) (by decide) (by decide) (by decide) (by decide)
    have h := ns00 h0 (by omega) (by omega) (by omega) (by omega)
    rw [dl_1 (by omega), dr_2 (by omega)] at h
    exact h
  have f6 : (0 < -(TR X H 0 6 1) ∧ 0 < TR X H 1 5 6) ∨ (-(TR X H 0 6 1) < 0 ∧ TR X H 1 5 6 < 0) := by
    have h0 : interP (X 1) (H 1) (X 5) (H 5) (X 6) (H 6) (X 0) (H 0) = false := W.fr 6 (by decide) (by decide) (by decide) (by decide) (by decide)
    have h := ns01 h0 (by omega) (by omega) (by omega) (by omega)
    rw [dl_2 (by omega), dr_1 (by omega)] at h
    exact h
  clear W
  simp only [TR, T2, twiceP, x0, x1, x2, x3, x4, x5, x6, y0, y3] at f2 f6
  replace f2 := f2.resolve_left (by omega)
  replace f6 := f6.resolve_right (by omega)
  refine ⟨true, false, ?_, ⟨?_, ?_⟩, ?_, ?_, ?_⟩
  · intro v hv a1 a2
    obtain rfl | rfl | rfl := (by omega : v = 0 ∨ v = 1 ∨ v = 2)
    · exfalso; simp only [Nat.reduceAdd, Nat.zero_add] at a1 a2; omega
    · exact pos_c (by simp only [Nat.reduceAdd, Nat.zero_add, TR, T2, twiceP, x0, x1, x2, x3, x4, x5, x6, y0, y3]; omega)
    · exfalso; simp only [Nat.reduceAdd, Nat.zero_add] at a1 a2; omega
  · intro v hv hv2 a1 a2
    obtain rfl | rfl | rfl := (by omega : v = 3 ∨ v = 4 ∨ v = 5)
    · exfalso; simp only [Nat.reduceAdd, Nat.zero_add] at a1 a2; omega
    · exfalso; simp only [Nat.reduceAdd, Nat.zero_add] at a1 a2; omega
    · exact neg_c (by simp only [Nat.reduceAdd, Nat.zero_add, TR, T2, twiceP, x0, x1, x2, x3, x4, x5, x6, y0, y3]; omega)
  · intro a1
    exfalso; simp only [Nat.reduceSub] at a1; omega
  · show locT (TR X H 0 1 2) (TR X H 1 5 2) (TR X H 1 0 5) (TR X H 1 5 0) (TR X H 1 2 5) = true
    exact loc_t (by simp only [TR, T2, twiceP, x0, x1, x2, x3, x4, x5, x6, y0, y3]; omega)
  · show locT (TR X H 4 5 6) (TR X H 5 1 6) (TR X H 5 4 1) (TR X H 5 1 4) (TR X H 5 6 1) = true
    exact loc_t (by simp only [TR, T2, twiceP, x0, x1, x2, x3, x4, x5, x6, y0, y3]; omega)
  · refine fun _ => .inl ⟨by omega, fun v hv n1 n2 a1 a2 => ?_⟩
    obtain rfl | rfl | rfl | rfl | rfl | rfl | rfl := (by omega : v = 0 ∨ v = 1 ∨ v = 2 ∨ v = 3 ∨ v = 4 ∨ v = 5 ∨ v = 6)
    · exfalso; omega
    · exact absurd rfl n1
    · exact .inl ⟨by omega, by simp only [TR, T2, twiceP, x0, x1, x2, x3, x4, x5, x6, y0, y3]; omega⟩
    · exfalso; omega
    · exfalso; omega
    · exact absurd rfl n2
    · exact .inr ⟨by omega, by simp only [TR, T2, twiceP, x0, x1, x2, x3, x4, x5, x6, y0, y3]; omega⟩
theorem w1_1_6 {X H : Nat → Int} (S : Sh1 X H) (W : WayR 7 X H 1 6) : Res 7 3 X H 1 6 := by
  obtain ⟨x0, x1, x2, x3, x4, x5, x6, y0, y1, y2, y3, y4, y5, y6⟩ := S
  clear W
  refine ⟨true, false, ?_, ⟨?_, ?_⟩, ?_, ?_, ?_⟩
  · intro v hv a1 a2
    obtain rfl | rfl | rfl := (by omega : v = 0 ∨ v = 1 ∨ v = 2)
    · exact pos_c (by simp only [Nat.reduceAdd, Nat.zero_add, TR, T2, twiceP, x0, x1, x2, x3, x4, x5, x6, y0, y3]; omega)
    · exact pos_c (by simp only [Nat.reduceAdd, Nat.zero_add, TR, T2, twiceP, x0, x1, x2, x3, x4, x5, x6, y0, y3]; omega)
    · exfalso; simp only [Nat.reduceAdd, Nat.zero_add] at a1 a2; omega
  · intro v hv hv2 a1 a2
    obtain rfl | rfl | rfl := (by omega : v = 3 ∨ v = 4 ∨ v = 5)
    · exfalso; simp only [Nat.reduceAdd, Nat.zero_add] at a1 a2; omega
    · exfalso; simp only [Nat.reduceAdd, Nat.zero_add] at a1 a2; omega
    · exact neg_c (by simp only [Nat.reduceAdd, Nat.zero_add, TR, T2, twiceP, x0, x1, x2, x3, x4, x5, x6, y0, y3]; omega)
  · intro a1
    exact neg_c (by simp only [Nat.reduceSub, TR, T2, twiceP, x0, x1, x2, x3, x4, x5, x6, y0, y3]; omega)
  · show locT (TR X H 0 1 2) (TR X H 1 6 2) (TR X H 1 0 6) (TR X H 1 6 0) (TR X H 1 2 6) = true
    exact loc_t (by simp only [TR, T2, twiceP, x0, x1, x2, x3, x4, x5, x6, y0, y3]; omega)
  · show locT (TR X H 5 6 0) (TR X H 6 1 0) (TR X H 6 5 1) (TR X H 6 1 5) (TR X H 6 0 1) = true
    exact loc_t (by simp only [TR, T2, twiceP, x0, x1, x2, x3, x4, x5, x6, y0, y3]; omega)
  · exact fun _ => .inr (.inr ⟨by omega, by omega, by omega⟩)
theorem w1_2_4 {X H : Nat → Int} (S : Sh1 X H) (W : WayR 7 X H 2 4) : Res 7 3 X H 2 4 := by
  obtain ⟨x0, x1, x2, x3, x4, x5, x6, y0, y1, y2, y3, y4, y5, y6⟩ := S
  have f5 : (0 < -(TR X H 6 5 2) ∧ 0 < TR X H 2 4 5) ∨ (-(TR X H 6 5 2) < 0 ∧ TR X H 2 4 5 < 0) := by
    have h0 : interP (X 2) (H 2) (X 4) (H 4) (X 5) (H 5) (X 6) (H 6) = false := W.fr 5 (by decide) (by decide) (by decide) (by decide) (by decide)
    have h := ns01 h0 (by omega) (by omega) (by omega) (by omega)
    rw [dl_2 (by omega), dr_1 (by omega)] at h
    exact h
  have z1 : TR X H 2 3 4 ≠ 0 := W.s1 rfl
  clear W
  simp only [TR, T2, twiceP, x0, x1, x2, x3, x4, x5, x6, y0, y3] at f5 z1
  replace f5 := f5.resolve_right (by omega)
  refine ⟨true, false, ?_, ⟨?_, ?_⟩, ?_, ?_, ?_⟩
  · intro v hv a1 a2
    obtain rfl | rfl | rfl := (by omega : v = 0 ∨ v = 1 ∨ v = 2)
    · exfalso; simp only [Nat.reduceAdd, Nat.zero_add] at a1 a2; omega
    · exfalso; simp only [Nat.reduceAdd, Nat.zero_add] at a1 a2; omega
    · exact pos_c (by simp only [Nat.reduceAdd, Nat.zero_add, TR, T2, twiceP, x0, x1, x2, x3, x4, x5, x6, y0, y3]; omega)
  · intro v hv hv2 a1 a2
    obtain rfl | rfl | rfl := (by omega : v = 3 ∨ v = 4 ∨ v = 5)
    · exfalso; simp only [Nat.reduceAdd, Nat.zero_add] at a1 a2; omega
    · exact neg_c (by simp only [Nat.reduceAdd, Nat.zero_add, TR, T2, twiceP, x0, x1, x2, x3, x4, x5, x6, y0, y3]; omega)
    · exfalso; simp only [Nat.reduceAdd, Nat.zero_add] at a1 a2; omega
  · intro a1
    exfalso; simp only [Nat.reduceSub] at a1; omega
  · show locT (TR X H 1 2 3) (TR X H 2 4 3) (TR X H 2 1 4) (TR X H 2 4 1) (TR X H 2 3 4) = true
    exact loc_t (by simp only [TR, T2, twiceP, x0, x1, x2, x3, x4, x5, x6, y0, y3]; omega)
  · show locT (TR X H 3 4 5) (TR X H 4 2 5) (TR X H 4 3 2) (TR X H 4 2 3) (TR X H 4 5 2) = true
    exact loc_t (by simp only [TR, T2, twiceP, x0, x1, x2, x3, x4, x5, x6, y0, y3]; omega)
  · refine fun _ => .inl ⟨by omega, fun v hv n1 n2 a1 a2 => ?_⟩
    obtain rfl | rfl | rfl | rfl | rfl | rfl | rfl := (by omega : v = 0 ∨ v = 1 ∨ v = 2 ∨ v = 3 ∨ v = 4 ∨ v = 5 ∨ v = 6)
    · exfalso; omega
    · exfalso; omega
    · exact absurd rfl n1
    · exfalso; omega
    · exact absurd rfl n2
    · exact .inr ⟨by omega, by simp only [TR, T2, twiceP, x0, x1, x2, x3, x4, x5, x6, y0, y3]; omega⟩
    · exfalso; omega
theorem w1_2_5 {X H : Nat → Int} (S : Sh1 X H) (W : WayR 7 X H 2 5) : Res 7 3 X H 2 5 := by
  obtain ⟨x0, x1, x2, x3, x4, x5, x6, y0, y1, y2, y3, y4, y5, y6⟩ := S
  clear W
  refine ⟨true, false, ?_, ⟨?_, ?_⟩, ?_, ?_, ?_⟩
  · intro v hv a1 a2
    obtain rfl | rfl | rfl := (by omega : v = 0 ∨ v = 1 ∨ v = 2)
    · exfalso; simp only [Nat.reduceAdd, Nat.zero_add] at a1 a2; omega
    · exact pos_c (by simp only [Nat.reduceAdd, Nat.zero_add, TR, T2, twiceP, x0, x1, x2, x3, x4, x5, x6, y0, y3]; omega)
    · exact pos_c (by simp only [Nat.reduceAdd, Nat.zero_add, TR, T2, twiceP, x0, x1, x2, x3, x4, x5, x6, y0, y3]; omega)
  · intro v hv hv2 a1 a2
    obtain rfl | rfl | rfl := (by omega : v = 3 ∨ v = 4 ∨ v = 5)
    · exfalso; simp only [Nat.reduceAdd, Nat.zero_add] at a1 a2; omega
    · exact neg_c (by simp only [Nat.reduceAdd, Nat.zero_add, TR, T2, twiceP, x0, x1, x2, x3, x4, x5, x6, y0, y3]; omega)
    · exact neg_c (by simp only [Nat.reduceAdd, Nat.zero_add, TR, T2, twiceP, x0, x1, x2, x3, x4, x5, x6, y0, y3]; omega)
  · intro a1
    exfalso; simp only [Nat.reduceSub] at a1; omega
  · show locT (TR X H 1 2 3) (TR X H 2 5 3) (TR X H 2 1 5) (TR X H 2 5 1) (TR X H 2 3 5) = true
    exact loc_t (by simp only [TR, T2, twiceP, x0, x1, x2, x3, x4, x5, x6, y0, y3]; omega)
  · show locT (TR X H 4 5 6) (TR X H 5 2 6) (TR X H 5 4 2) (TR X H 5 2 4) (TR X H 5 6 2) = true
    exact loc_t (by simp only [TR, T2, twiceP, x0, x1, x2, x3, x4, x5, x6, y0, y3]; omega)
  · exact fun _ => .inr (.inr ⟨by omega, by omega, by omega⟩)
theorem w1_2_6 {X H : Nat → Int} (S : Sh1 X H) (W : WayR 7 X H 2 6) : Res 7 3 X H 2 6 := by
  obtain ⟨x0, x1, x2, x3, x4, x5, x6, y0, y1, y2, y3, y4, y5, y6⟩ := S
  have f0 : (0 < -(TR X H 0 1 6) ∧ 0 < TR X H 6 2 1) ∨ (-(TR X H 0 1 6) < 0 ∧ TR X H 6 2 1 < 0) := by
    have h0 : interP (X 2) (H 2) (X 6) (H 6) (X 0) (H 0) (X 1) (H 1) = false := W.fr 0 (by decide) (by decide) (by decide) (by decide) (by decide)
    have h := ns10 h0 (by omega) (by omega) (by omega) (by omega)
    rw [dl_2 (by omega), dr_1 (by omega)] at h
    exact h
  have f4 : (0 < TR X H 6 2 5 ∧ 0 < -(TR X H 5 4 2)) ∨ (TR X H 6 2 5 < 0 ∧ -(TR X H 5 4 2) < 0) := by
    have h0 : interP (X 2) (H 2) (X 6) (H 6) (X 4) (H 4) (X 5) (H 5) = false := W.fr 4 (by decide) (by decide) (by decide) (by decide) (by decide)
    have h := ns11 h0 (by omega) (by omega) (by omega) (by omega)
    rw [dl_1 (by omega), dr_2 (by omega)] at h
    exact h
  clear W
  simp only [TR, T2, twiceP, x0, x1, x2, x3, x4, x5, x6, y0, y3] at f0 f4
  replace f4 := f4.resolve_right (by omega)
  replace f0 := f0.resolve_left (by omega)
  refine ⟨true, false, ?_, ⟨?_, ?_⟩, ?_, ?_, ?_⟩
  · intro v hv a1 a2
    obtain rfl | rfl | rfl := (by omega : v = 0 ∨ v = 1 ∨ v = 2)
    · exfalso; simp only [Nat.reduceAdd, Nat.zero_add] at a1 a2; omega
    · exact pos_c (by simp only [Nat.reduceAdd, Nat.zero_add, TR, T2, twiceP, x0, x1, x2, x3, x4, x5, x6, y0, y3]; omega)
    · exfalso; simp only [Nat.reduceAdd, Nat.zero_add] at a1 a2; omega
  · intro v hv hv2 a1 a2
    obtain rfl | rfl | rfl := (by omega : v = 3 ∨ v = 4 ∨ v = 5)
    · exfalso; simp only [Nat.reduceAdd, Nat.zero_add] at a1 a2; omega
    · exfalso; simp only [Nat.reduceAdd, Nat.zero_add] at a1 a2; omega
    · exact neg_c (by simp only [Nat.reduceAdd, Nat.zero_add, TR, T2, twiceP, x0, x1, x2, x3, x4, x5, x6, y0, y3]; omega)
  · intro a1
    exfalso; simp only [Nat.reduceSub] at a1; omega
  · show locT (TR X H 1 2 3) (TR X H 2 6 3) (TR X H 2 1 6) (TR X H 2 6 1) (TR X H 2 3 6) = true
    exact loc_t (by simp only [TR, T2, twiceP, x0, x1, x2, x3, x4, x5, x6, y0, y3]; omega)
  · show locT (TR X H 5 6 0) (TR X H 6 2 0) (TR X H 6 5 2) (TR X H 6 2 5) (TR X H 6 0 2) = true
    exact loc_t (by simp only [TR, T2, twiceP, x0, x1, x2, x3, x4, x5, x6, y0, y3]; omega)
  · refine fun _ => .inr <| .inl ⟨by omega, fun v hv n1 n2 a1 a2 => ?_⟩
    obtain rfl | rfl | rfl | rfl | rfl | rfl | rfl := (by omega : v = 0 ∨ v = 1 ∨ v = 2 ∨ v = 3 ∨ v = 4 ∨ v = 5 ∨ v = 6)
    · exfalso; omega
    · exact .inl ⟨by omega, by simp only [TR, T2, twiceP, x0, x1, x2, x3, x4, x5, x6, y0, y3]; omega⟩
    · exact absurd rfl n2
    · exfalso; omega
    · exfalso; omega
    · exact .inr ⟨by omega, by simp only [TR, T2, twiceP, x0, x1, x2, x3, x4, x5, x6, y0, y3]; omega⟩
    · exact absurd rfl n1
theorem w1_3_5 {X H : Nat → Int} (S : Sh1 X H) (W : WayR 7 X H 3 5) : Res 7 3 X H 3 5 := by
  obtain ⟨x0, x1, x2, x3, x4, x5, x6, y0, y1, y2, y3, y4, y5, y6⟩ := S
  have f1 : (0 < -(TR X H 1 2 5) ∧ 0 < TR X H 5 3 2) ∨ (-(TR X H 1 2 5) < 0 ∧ TR X H 5 3 2 < 0) := by
    have h0 : interP (X 3) (H 3) (X 5) (H 5) (X 1) (H 1) (X 2) (H 2) = false := W.fr 1 (by decide) (by decide) (by decide) (by decide) (by decide)
    have h := ns10 h0 (by omega) (by omega) (by omega) (by omega)
    rw [dl_2 (by omega), dr_1 (by omega)] at h
    exact h
  have z1 : TR X H 3 4 5 ≠ 0 := W.s1 rfl
  clear W
  by_cases hc : 0 < TR X H 5 3 4
  · simp only [TR, T2, twiceP, x0, x1, x2, x3, x4, x5, x6, y0, y3] at f1 z1 hc
    replace f1 := f1.resolve_left (by omega)
    refine ⟨true, false, ?_, ⟨?_, ?_⟩, ?_, ?_, ?_⟩
    · intro v hv a1 a2
      obtain rfl | rfl | rfl := (by omega : v = 0 ∨ v = 1 ∨ v = 2)
      · exfalso; simp only [Nat.reduceAdd, Nat.zero_add] at a1 a2; omega
      · exfalso; simp only [Nat.reduceAdd, Nat.zero_add] at a1 a2; omega
      · exact pos_c (by simp only [Nat.reduceAdd, Nat.zero_add, TR, T2, twiceP, x0, x1, x2, x3, x4, x5, x6, y0, y3]; omega)
    · intro v hv hv2 a1 a2
      obtain rfl | rfl | rfl := (by omega : v = 3 ∨ v = 4 ∨ v = 5)
      · exact neg_c (by simp only [Nat.reduceAdd, Nat.zero_add, TR, T2, twiceP, x0, x1, x2, x3, x4, x5, x6, y0, y3]; omega)
      · exact neg_c (by simp only [Nat.reduceAdd, Nat.zero_add, TR, T2, twiceP, x0, x1, x2, x3, x4, x5, x6, y0, y3]; omega)
      · exfalso; simp only [Nat.reduceAdd, Nat.zero_add] at a1 a2; omega
    · intro a1
      exfalso; simp only [Nat.reduceSub] at a1; omega
    · show locT (TR X H 2 3 4) (TR X H 3 5 4) (TR X H 3 2 5) (TR X H 3 5 2) (TR X H 3 4 5) = true
      exact loc_t (by simp only [TR, T2, twiceP, x0, x1, x2, x3, x4, x5, x6, y0, y3]; omega)
    · show locT (TR X H 4 5 6) (TR X H 5 3 6) (TR X H 5 4 3) (TR X H 5 3 4) (TR X H 5 6 3) = true
      exact loc_t (by simp only [TR, T2, twiceP, x0, x1, x2, x3, x4, x5, x6, y0, y3]; omega)
    · refine fun _ => .inr <| .inl ⟨by omega, fun v hv n1 n2 a1 a2 => ?_⟩
      obtain rfl | rfl | rfl | rfl | rfl | rfl | rfl := (by omega : v = 0 ∨ v = 1 ∨ v = 2 ∨ v = 3 ∨ v = 4 ∨ v = 5 ∨ v = 6)
      · exfalso; omega
      · exfalso; omega
      · exact .inl ⟨by omega, by simp only [TR, T2, twiceP, x0, x1, x2, x3, x4, x5, x6, y0, y3]; omega⟩
      · exact absurd rfl n2
      · exact .inr ⟨by omega, by simp only [TR, T2, twiceP, x0, x1, x2, x3, x4, x5, x6, y0, y3]; omega⟩
      · exact absurd rfl n1
      · exfalso; omega
  · simp only [TR, T2, twiceP, x0, x1, x2, x3, x4, x5, x6, y0, y3] at f1 z1 hc
    replace f1 := f1.resolve_left (by omega)
    refine ⟨true, true, ?_, ⟨?_, ?_⟩, ?_, ?_, ?_⟩
    · intro v hv a1 a2
      obtain rfl | rfl | rfl := (by omega : v = 0 ∨ v = 1 ∨ v = 2)
      · exfalso; simp only [Nat.reduceAdd, Nat.zero_add] at a1 a2; omega
      · exfalso; simp only [Nat.reduceAdd, Nat.zero_add] at a1 a2; omega
      · exact pos_c (by simp only [Nat.reduceAdd, Nat.zero_add, TR, T2, twiceP, x0, x1, x2, x3, x4, x5, x6, y0, y3]; omega)
    · intro v hv hv2 a1 a2
      obtain rfl | rfl | rfl := (by omega : v = 3 ∨ v = 4 ∨ v = 5)
      · exact pos_c (by simp only [Nat.reduceAdd, Nat.zero_add, TR, T2, twiceP, x0, x1, x2, x3, x4, x5, x6, y0, y3]; omega)
      · exact pos_c (by simp only [Nat.reduceAdd, Nat.zero_add, TR, T2, twiceP, x0, x1, x2, x3, x4, x5, x6, y0, y3]; omega)
      · exfalso; simp only [Nat.reduceAdd, Nat.zero_add] at a1 a2; omega
    · intro a1
      exfalso; simp only [Nat.reduceSub] at a1; omega
    · show locT (TR X H 2 3 4) (TR X H 3 5 4) (TR X H 3 2 5) (TR X H 3 5 2) (TR X H 3 4 5) = false
      exact loc_f (by simp only [TR, T2, twiceP, x0, x1, x2, x3, x4, x5, x6, y0, y3]; omega)
    · show locT (TR X H 4 5 6) (TR X H 5 3 6) (TR X H 5 4 3) (TR X H 5 3 4) (TR X H 5 6 3) = false
      exact loc_f (by simp only [TR, T2, twiceP, x0, x1, x2, x3, x4, x5, x6, y0, y3]; omega)
    · exact fun h => absurd h (by decide)
theorem w1_3_6 {X H : Nat → Int} (S : Sh1 X H) (W : WayR 7 X H 3 6) : Res 7 3 X H 3 6 := by
  obtain ⟨x0, x1, x2, x3, x4, x5, x6, y0, y1, y2, y3, y4, y5, y6⟩ := S
  have f0 : (0 < -(TR X H 0 1 6) ∧ 0 < TR X H 6 3 1) ∨ (-(TR X H 0 1 6) < 0 ∧ TR X H 6 3 1 < 0) := by
    have h0 : interP (X 3) (H 3) (X 6) (H 6) (X 0) (H 0) (X 1) (H 1) = false := W.fr 0 (by decide) (by decide) (by decide) (by decide) (by decide)
    have h := ns10 h0 (by omega) (by omega) (by omega) (by omega)
    rw [dl_2 (by omega), dr_1 (by omega)] at h
    exact h
  have f1 : (0 < TR X H 6 3 1 ∧ 0 < TR X H 6 3 2) ∨ (TR X H 6 3 1 < 0 ∧ TR X H 6 3 2 < 0) := by
    have h0 : interP (X 3) (H 3) (X 6) (H 6) (X 1) (H 1) (X 2) (H 2) = false := W.fr 1 (by decide) (by decide) (by decide) (by decide) (by decide)
    have h := ns10 h0 (by omega) (by omega) (by omega) (by omega)
    rw [dl_1 (by omega), dr_1 (by omega)] at h
    exact h
  have f4 : (0 < TR X H 6 3 5 ∧ 0 < TR X H 6 3 4) ∨ (TR X H 6 3 5 < 0 ∧ TR X H 6 3 4 < 0) := by
    have h0 : interP (X 3) (H 3) (X 6) (H 6) (X 4) (H 4) (X 5) (H 5) = false := W.fr 4 (by decide) (by decide) (by decide) (by decide) (by decide)
    have h := ns11 h0 (by omega) (by omega) (by omega) (by omega)
    rw [dl_1 (by omega), dr_1 (by omega)] at h
    exact h
  clear W
  by_cases hc : 0 < TR X H 6 3 4
  · simp only [TR, T2, twiceP, x0, x1, x2, x3, x4, x5, x6, y0, y3] at f0 f1 f4 hc
    replace f0 := f0.resolve_left (by omega)
    replace f1 := f1.resolve_left (by omega)
    replace f4 := f4.resolve_right (by omega)
    refine ⟨true, false, ?_, ⟨?_, ?_⟩, ?_, ?_, ?_⟩
    · intro v hv a1 a2
      obtain rfl | rfl | rfl := (by omega : v = 0 ∨ v = 1 ∨ v = 2)
      · exfalso; simp only [Nat.reduceAdd, Nat.zero_add] at a1 a2; omega
      · exfalso; simp only [Nat.reduceAdd, Nat.zero_add] at a1 a2; omega
      · exact pos_c (by simp only [Nat.reduceAdd, Nat.zero_add, TR, T2, twiceP, x0, x1, x2, x3, x4, x5, x6, y0, y3]; omega)
    · intro v hv hv2 a1 a2
      obtain rfl | rfl | rfl := (by omega : v = 3 ∨ v = 4 ∨ v = 5)
      · exfalso; simp only [Nat.reduceAdd, Nat.zero_add] at a1 a2; omega
      · exact neg_c (by simp only [Nat.reduceAdd, Nat.zero_add, TR, T2, twiceP, x0, x1, x2, x3, x4, x5, x6, y0, y3]; omega)
      · exfalso; simp only [Nat.reduceAdd, Nat.zero_add] at a1 a2; omega
    · intro a1
      exfalso; simp only [Nat.reduceSub] at a1; omega
    · show locT (TR X H 2 3 4) (TR X H 3 6 4) (TR X H 3 2 6) (TR X H 3 6 2) (TR X H 3 4 6) = true
      exact loc_t (by simp only [TR, T2, twiceP, x0, x1, x2, x3, x4, x5, x6, y0, y3]; omega)
    · show locT (TR X H 5 6 0) (TR X H 6 3 0) (TR X H 6 5 3) (TR X H 6 3 5) (TR X H 6 0 3) = true
      exact loc_t (by simp only [TR, T2, twiceP, x0, x1, x2, x3, x4, x5, x6, y0, y3]; omega)
    · refine fun _ => .inr <| .inl ⟨by omega, fun v hv n1 n2 a1 a2 => ?_⟩
      obtain rfl | rfl | rfl | rfl | rfl | rfl | rfl := (by omega : v = 0 ∨ v = 1 ∨ v = 2 ∨ v = 3 ∨ v = 4 ∨ v = 5 ∨ v = 6)
      · exfalso; omega
      · exact .inl ⟨by omega, by simp only [TR, T2, twiceP, x0, x1, x2, x3, x4, x5, x6, y0, y3]; omega⟩
      · exact .inl ⟨by omega, by simp only [TR, T2, twiceP, x0, x1, x2, x3, x4, x5, x6, y0, y3]; omega⟩
      · exact absurd rfl n2
      · exact .inr ⟨by omega, by simp only [TR, T2, twiceP, x0, x1, x2, x3, x4, x5, x6, y0, y3]; omega⟩
      · exact .inr ⟨by omega, by simp only [TR, T2, twiceP, x0, x1, x2, x3, x4, x5, x6, y0, y3]; omega⟩
      · exact absurd rfl n1
  · simp only [TR, T2, twiceP, x0, x1, x2, x3, x4, x5, x6, y0, y3] at f0 f1 f4 hc
    replace f0 := f0.resolve_left (by omega)
    replace f1 := f1.resolve_left (by omega)
    replace f4 := f4.resolve_left (by omega)
    refine ⟨true, true, ?_, ⟨?_, ?_⟩, ?_, ?_, ?_⟩
    · intro v hv a1 a2
      obtain rfl | rfl | rfl := (by omega : v = 0 ∨ v = 1 ∨ v = 2)
      · exfalso; simp only [Nat.reduceAdd, Nat.zero_add] at a1 a2; omega
      · exfalso; simp only [Nat.reduceAdd, Nat.zero_add] at a1 a2; omega
      · exact pos_c (by simp only [Nat.reduceAdd, Nat.zero_add, TR, T2, twiceP, x0, x1, x2, x3, x4, x5, x6, y0, y3]; omega)
    · intro v hv hv2 a1 a2
      obtain rfl | rfl | rfl := (by omega : v = 3 ∨ v = 4 ∨ v = 5)
      · exfalso; simp only [Nat.reduceAdd, Nat.zero_add] at a1 a2; omega
      · exact pos_c (by simp only [Nat.reduceAdd, Nat.zero_add, TR, T2, twiceP, x0, x1, x2, x3, x4, x5, x6, y0, y3]; omega)
      · exfalso; simp only [Nat.reduceAdd, Nat.zero_add] at a1 a2; omega
    · intro a1
      exfalso; simp only [Nat.reduceSub] at a1; omega
    · show locT (TR X H 2 3 4) (TR X H 3 6 4) (TR X H 3 2 6) (TR X H 3 6 2) (TR X H 3 4 6) = false
      exact loc_f (by simp only [TR, T2, twiceP, x0, x1, x2, x3, x4, x5, x6, y0, y3]; omega)
    · show locT (TR X H 5 6 0) (TR X H 6 3 0) (TR X H 6 5 3) (TR X H 6 3 5) (TR X H 6 0 3) = false
      exact loc_f (by simp only [TR, T2, twiceP, x0, x1, x2, x3, x4, x5, x6, y0, y3]; omega)
    · exact fun h => absurd h (by decide)
theorem w1_4_6 {X H : Nat → Int} (S : Sh1 X H) (W : WayR 7 X H 4 6) : Res 7 3 X H 4 6 := by
  obtain ⟨x0, x1, x2, x3, x4, x5, x6, y0, y1, y2, y3, y4, y5, y6⟩ := S
  have f0 : (0 < -(TR X H 0 1 6) ∧ 0 < TR X H 6 4 1) ∨ (-(TR X H 0 1 6) < 0 ∧ TR X H 6 4 1 < 0) := by
    have h0 : interP (X 4) (H 4) (X 6) (H 6) (X 0) (H 0) (X 1) (H 1) = false := W.fr 0 (by decide) (by decide) (by decide) (by decide) (by decide)
    have h := ns10 h0 (by omega) (by omega) (by omega) (by omega)
    rw [dl_2 (by omega), dr_1 (by omega)] at h
    exact h
  have f1 : (0 < TR X H 6 4 1 ∧ 0 < TR X H 6 4 2) ∨ (TR X H 6 4 1 < 0 ∧ TR X H 6 4 2 < 0) := by
    have h0 : interP (X 4) (H 4) (X 6) (H 6) (X 1) (H 1) (X 2) (H 2) = false := W.fr 1 (by decide) (by decide) (by decide) (by decide) (by decide)
    have h := ns10 h0 (by omega) (by omega) (by omega) (by omega)
    rw [dl_1 (by omega), dr_1 (by omega)] at h
    exact h
  have f2 : (0 < TR X H 6 4 2 ∧ 0 < -(TR X H 2 3 4)) ∨ (TR X H 6 4 2 < 0 ∧ -(TR X H 2 3 4) < 0) := by
    have h0 : interP (X 4) (H 4) (X 6) (H 6) (X 2) (H 2) (X 3) (H 3) = false := W.fr 2 (by decide) (by decide) (by decide) (by decide) (by decide)
    have h := ns10 h0 (by omega) (by omega) (by omega) (by omega)
    rw [dl_1 (by omega), dr_2 (by omega)] at h
    exact h
  have z1 : TR X H 4 5 6 ≠ 0 := W.s1 rfl
  clear W
  by_cases hc : 0 < TR X H 6 4 5
  · simp only [TR, T2, twiceP, x0, x1, x2, x3, x4, x5, x6, y0, y3] at f0 f1 f2 z1 hc
    replace f0 := f0.resolve_left (by omega)
    replace f1 := f1.resolve_left (by omega)
    replace f2 := f2.resolve_left (by omega)
    refine ⟨true, false, ?_, ⟨?_, ?_⟩, ?_, ?_, ?_⟩
    · intro v hv a1 a2
      obtain rfl | rfl | rfl := (by omega : v = 0 ∨ v = 1 ∨ v = 2)
      · exfalso; simp only [Nat.reduceAdd, Nat.zero_add] at a1 a2; omega
      · exact pos_c (by simp only [Nat.reduceAdd, Nat.zero_add, TR, T2, twiceP, x0, x1, x2, x3, x4, x5, x6, y0, y3]; omega)
      · exact pos_c (by simp only [Nat.reduceAdd, Nat.zero_add, TR, T2, twiceP, x0, x1, x2, x3, x4, x5, x6, y0, y3]; omega)
    · intro v hv hv2 a1 a2
      obtain rfl | rfl | rfl := (by omega : v = 3 ∨ v = 4 ∨ v = 5)
      · exfalso; simp only [Nat.reduceAdd, Nat.zero_add] at a1 a2; omega
      · exact neg_c (by simp only [Nat.reduceAdd, Nat.zero_add, TR, T2, twiceP, x0, x1, x2, x3, x4, x5, x6, y0, y3]; omega)
      · exact neg_c (by simp only [Nat.reduceAdd, Nat.zero_add, TR, T2, twiceP, x0, x1, x2, x3, x4, x5, x6, y0, y3]; omega)
    · intro a1
      exfalso; simp only [Nat.reduceSub] at a1; omega
    · show locT (TR X H 3 4 5) (TR X H 4 6 5) (TR X H 4 3 6) (TR X H 4 6 3) (TR X H 4 5 6) = true
      exact loc_t (by simp only [TR, T2, twiceP, x0, x1, x2, x3, x4, x5, x6, y0, y3]; omega)
    · show locT (TR X H 5 6 0) (TR X H 6 4 0) (TR X H 6 5 4) (TR X H 6 4 5) (TR X H 6 0 4) = true
      exact loc_t (by simp only [TR, T2, twiceP, x0, x1, x2, x3, x4, x5, x6, y0, y3]; omega)
    · refine fun _ => .inr <| .inl ⟨by omega, fun v hv n1 n2 a1 a2 => ?_⟩
      obtain rfl | rfl | rfl | rfl | rfl | rfl | rfl := (by omega : v = 0 ∨ v = 1 ∨ v = 2 ∨ v = 3 ∨ v = 4 ∨ v = 5 ∨ v = 6)
      · exfalso; omega
      · exact .inl ⟨by omega, by simp only [TR, T2, twiceP, x0, x1, x2, x3, x4, x5, x6, y0, y3]; omega⟩
      · exact .inl ⟨by omega, by simp only [TR, T2, twiceP, x0, x1, x2, x3, x4, x5, x6, y0, y3]; omega⟩
      · exfalso; omega
      · exact absurd rfl n2
      · exact .inr ⟨by omega, by simp only [TR, T2, twiceP, x0, x1, x2, x3, x4, x5, x6, y0, y3]; omega⟩
      · exact absurd rfl n1
  · simp only [TR, T2, twiceP, x0, x1, x2, x3, x4, x5, x6, y0, y3] at f0 f1 f2 z1 hc
    replace f0 := f0.resolve_left (by omega)
    replace f1 := f1.resolve_left (by omega)
    replace f2 := f2.resolve_left (by omega)
    refine ⟨true, true, ?_, ⟨?_, ?_⟩, ?_, ?_, ?_⟩
    · intro v hv a1 a2
      obtain rfl | rfl | rfl := (by omega : v = 0 ∨ v = 1 ∨ v = 2)
      · exfalso; simp only [Nat.reduceAdd, Nat.zero_add] at a1 a2; omega
      · exact pos_c (by simp only [Nat.reduceAdd, Nat.zero_add, TR, T2, twiceP, x0, x1, x2, x3, x4, x5, x6, y0, y3]; omega)
      · exact pos_c (by simp only [Nat.reduceAdd, Nat.zero_add, TR, T2, twiceP, x0, x1, x2, x3, x4, x5, x6, y0, y3]; omega)
    · intro v hv hv2 a1 a2
      obtain rfl | rfl | rfl := (by omega : v = 3 ∨ v = 4 ∨ v = 5)
      · exfalso; simp only [Nat.reduceAdd, Nat.zero_add] at a1 a2; omega
      · exact pos_c (by simp only [Nat.reduceAdd, Nat.zero_add, TR, T2, twiceP, x0, x1, x2, x3, x4, x5, x6, y0, y3]; omega)
      · exact pos_c (by simp only [Nat.reduceAdd, Nat.zero_add, TR, T2, twiceP, x0, x1, x2, x3, x4, x5, x6, y0, y3]; omega)
    · intro a1
      exfalso; simp only [Nat.reduceSub] at a1; omega
    · show locT (TR X H 3 4 5) (TR X H 4 6 5) (TR X H 4 3 6) (TR X H 4 6 3) (TR X H 4 5 6) = false
      exact loc_f (by simp only [TR, T2, twiceP, x0, x1, x2, x3, x4, x5, x6, y0, y3]; omega)
    · show locT (TR X H 5 6 0) (TR X H 6 4 0) (TR X H 6 5 4) (TR X H 6 4 5) (TR X H 6 0 4) = false
      exact loc_f (by simp only [TR, T2, twiceP, x0, x1, x2, x3, x4, x5, x6, y0, y3]; omega)
    · exact fun h => absurd h (by decide)
theorem shape1 {X H : Nat → Int} (S : Sh1 X H) {i j : Nat} (W : WayR 7 X H i j) : Res 7 3 X H i j := by
  have hap := W.ap
  unfold Apart at hap
  obtain rfl | rfl | rfl | rfl | rfl : i = 0 ∨ i = 1 ∨ i = 2 ∨ i = 3 ∨ i = 4 := by omega
  · obtain rfl | rfl | rfl | rfl : j = 2 ∨ j = 3 ∨ j = 4 ∨ j = 5 := by omega
    · exact w1_0_2 S W
    · exact w1_0_3 S W
    · exact w1_0_4 S W
    · exact w1_0_5 S W
  · obtain rfl | rfl | rfl | rfl : j = 3 ∨ j = 4 ∨ j = 5 ∨ j = 6 := by omega
    · exact w1_1_3 S W
    · exact w1_1_4 S W
    · exact w1_1_5 S W
    · exact w1_1_6 S W
  · obtain rfl | rfl | rfl : j = 4 ∨ j = 5 ∨ j = 6 := by omega
    · exact w1_2_4 S W
    · exact w1_2_5 S W
    · exact w1_2_6 S W
  · obtain rfl | rfl : j = 5 ∨ j = 6 := by omega
    · exact w1_3_5 S W
    · exact w1_3_6 S W
  · obtain rfl : j = 6 := by omega
    · exact w1_4_6 S W

def Sh2 (X H : Nat → Int) : Prop := X 0 = 0 ∧ X 1 = 1 ∧ X 2 = 2 ∧ X 3 = 4 ∧ X 4 = 2 ∧ X 5 = 1 ∧ H 0 = 0 ∧ H 1 < 0 ∧ H 2 < 0 ∧ H 3 = 0 ∧ 0 < H 4 ∧ 0 < H 5
theorem ring2 {X H : Nat → Int} (S : Sh2 X H) : Ring 6 3 X H := by
  obtain ⟨x0, x1, x2, x3, x4, x5, y0, y1, y2, y3, y4, y5⟩ := S
  refine ⟨by omega, by omega, x0, ?_, ?_, ?_, y0, y3, ?_, ?_⟩
  · intro v hv
    obtain rfl | rfl | rfl := (by omega : v = 0 ∨ v = 1 ∨ v = 2) <;> (simp only [Nat.reduceAdd, Nat.zero_add]; omega)
  · intro v hv hv2
    obtain rfl | rfl := (by omega : v = 3 ∨ v = 4) <;> (simp only [Nat.reduceAdd, Nat.zero_add]; omega)
  · simp only [Nat.reduceSub]; omega
  · intro v hv hv2
    obtain rfl | rfl := (by omega : v = 1 ∨ v = 2) <;> assumption
  · intro v hv hv2
    obtain rfl | rfl := (by omega : v = 4 ∨ v = 5) <;> assumption
theorem w2_0_2 {X H : Nat → Int} (S : Sh2 X H) (W : WayR 6 X H 0 2) : Res 6 3 X H 0 2 := by
  obtain ⟨x0, x1, x2, x3, x4, x5, y0, y1, y2, y3, y4, y5⟩ := S
  have f3 : (0 < TR X H 0 2 4 ∧ 0 < -(TR X H 4 3 2)) ∨ (TR X H 0 2 4 < 0 ∧ -(TR X H 4 3 2) < 0) := by
    have h0 : interP (X 0) (H 0) (X 2) (H 2) (X 3) (H 3) (X 4) (H 4) = false := W.fr 3 (by decide) (by decide) (by decide) (by decide) (by decide)
    have h := ns01 h0 (by omega) (by omega) (by omega) (by omega)
    rw [dl_1 (by omega), dr_2 (by omega)] at h
    exact h
  have f4 : (0 < TR X H 0 2 5 ∧ 0 < TR X H 0 2 4) ∨ (TR X H 0 2 5 < 0 ∧ TR X H 0 2 4 < 0) := by
    have h0 : interP (X 0) (H 0) (X 2) (H 2) (X 4) (H 4) (X 5) (H 5) = false := W.fr 4 (by decide) (by decide) (by decide) (by decide) (by decide)
    have h := ns01 h0 (by omega) (by omega) (by omega) (by omega)
    rw [dl_1 (by omega), dr_1 (by omega)] at h
    exact h
  have z1 : TR X H 0 1 2 ≠ 0 := W.s1 rfl
  clear W
  by_cases hc : TR X H 0 2 1 < 0
  · simp only [TR, T2, twiceP, x0, x1, x2, x3, x4, x5, y0, y3] at f3 f4 z1 hc
    replace f4 := f4.resolve_right (by omega)
    replace f3 := f3.resolve_right (by omega)
    refine ⟨true, false, ?_, ⟨?_, ?_⟩, ?_, ?_, ?_⟩
    · intro v hv a1 a2
      obtain rfl | rfl | rfl := (by omega : v = 0 ∨ v = 1 ∨ v = 2)
      · exact pos_c (by simp only [Nat.reduceAdd, Nat.zero_add, TR, T2, twiceP, x0, x1, x2, x3, x4, x5, y0, y3]; omega)
      · exact pos_c (by simp only [Nat.reduceAdd, Nat.zero_add, TR, T2, twiceP, x0, x1, x2, x3, x4, x5, y0, y3]; omega)
      · exfalso; simp only [Nat.reduceAdd, Nat.zero_add] at a1 a2; omega
    · intro v hv hv2 a1 a2
      obtain rfl | rfl := (by omega : v = 3 ∨ v = 4)
      · exfalso; simp only [Nat.reduceAdd, Nat.zero_add] at a1 a2; omega
      · exact neg_c (by simp only [Nat.reduceAdd, Nat.zero_add, TR, T2, twiceP, x0, x1, x2, x3, x4, x5, y0, y3]; omega)
    · intro a1
      exact neg_c (by simp only [Nat.reduceSub, TR, T2, twiceP, x0, x1, x2, x3, x4, x5, y0, y3]; omega)
    · show locT (TR X H 5 0 1) (TR X H 0 2 1) (TR X H 0 5 2) (TR X H 0 2 5) (TR X H 0 1 2) = true
      exact loc_t (by simp only [TR, T2, twiceP, x0, x1, x2, x3, x4, x5, y0, y3]; omega)
    · show locT (TR X H 1 2 3) (TR X H 2 0 3) (TR X H 2 1 0) (TR X H 2 0 1) (TR X H 2 3 0) = true
      exact loc_t (by simp only [TR, T2, twiceP, x0, x1, x2, x3, x4, x5, y0, y3]; omega)
    · refine fun _ => .inl ⟨by omega, fun v hv n1 n2 a1 a2 => ?_⟩
      obtain rfl | rfl | rfl | rfl | rfl | rfl := (by omega : v = 0 ∨ v = 1 ∨ v = 2 ∨ v = 3 ∨ v = 4 ∨ v = 5)
      · exact absurd rfl n1
      · exact .inl ⟨by omega, by simp only [TR, T2, twiceP, x0, x1, x2, x3, x4, x5, y0, y3]; omega⟩
      · exact absurd rfl n2
      · exfalso; omega
      · exact .inr ⟨by omega, by simp only [TR, T2, twiceP, x0, x1, x2, x3, x4, x5, y0, y3]; omega⟩
      · exact .inr ⟨by omega, by simp only [TR, T2, twiceP, x0, x1, x2, x3, x4, x5, y0, y3]; omega⟩
  · simp only [TR, T2, twiceP, x0, x1, x2, x3, x4, x5, y0, y3] at f3 f4 z1 hc
    replace f4 := f4.resolve_right (by omega)
    replace f3 := f3.resolve_right (by omega)
    refine ⟨false, false, ?_, ⟨?_, ?_⟩, ?_, ?_, ?_⟩
    · intro v hv a1 a2
      obtain rfl | rfl | rfl := (by omega : v = 0 ∨ v = 1 ∨ v = 2)
      · exact neg_c (by simp only [Nat.reduceAdd, Nat.zero_add, TR, T2, twiceP, x0, x1, x2, x3, x4, x5, y0, y3]; omega)
      · exact neg_c (by simp only [Nat.reduceAdd, Nat.zero_add, TR, T2, twiceP, x0, x1, x2, x3, x4, x5, y0, y3]; omega)
      · exfalso; simp only [Nat.reduceAdd, Nat.zero_add] at a1 a2; omega
    · intro v hv hv2 a1 a2
      obtain rfl | rfl := (by omega : v = 3 ∨ v = 4)
      · exfalso; simp only [Nat.reduceAdd, Nat.zero_add] at a1 a2; omega
      · exact neg_c (by simp only [Nat.reduceAdd, Nat.zero_add, TR, T2, twiceP, x0, x1, x2, x3, x4, x5, y0, y3]; omega)
    · intro a1
      exact neg_c (by simp only [Nat.reduceSub, TR, T2, twiceP, x0, x1, x2, x3, x4, x5, y0, y3]; omega)
    · show locT (TR X H 5 0 1) (TR X H 0 2 1) (TR X H 0 5 2) (TR X H 0 2 5) (TR X H 0 1 2) = false
      exact loc_f (by simp only [TR, T2, twiceP, x0, x1, x2, x3, x4, x5, y0, y3]; omega)
    · show locT (TR X H 1 2 3) (TR X H 2 0 3) (TR X H 2 1 0) (TR X H 2 0 1) (TR X H 2 3 0) = false
      exact loc_f (by simp only [TR, T2, twiceP, x0, x1, x2, x3, x4, x5, y0, y3]; omega)
    · exact fun h => absurd h (by decide)
theorem w2_0_3 {X H : Nat → Int} (S : Sh2 X H) (W : WayR 6 X H 0 3) : Res 6 3 X H 0 3 := by
  obtain ⟨x0, x1, x2, x3, x4, x5, y0, y1, y2, y3, y4, y5⟩ := S
  have f1 : (0 < TR X H 0 3 1 ∧ 0 < TR X H 0 3 2) ∨ (TR X H 0 3 1 < 0 ∧ TR X H 0 3 2 < 0) := by
    have h0 : interP (X 0) (H 0) (X 3) (H 3) (X 1) (H 1) (X 2) (H 2) = false := W.fr 1 (by decide) (by decide) (by decide) (by decide) (by decide)
    have h := ns00 h0 (by omega) (by omega) (by omega) (by omega)
    rw [dl_1 (by omega), dr_1 (by omega)] at h
    exact h
  have f4 : (0 < TR X H 0 3 5 ∧ 0 < TR X H 0 3 4) ∨ (TR X H 0 3 5 < 0 ∧ TR X H 0 3 4 < 0) := by
    have h0 : interP (X 0) (H 0) (X 3) (H 3) (X 4) (H 4) (X 5) (H 5) = false := W.fr 4 (by decide) (by decide) (by decide) (by decide) (by decide)
    have h := ns01 h0 (by omega) (by omega) (by omega) (by omega)
    rw [dl_1 (by omega), dr_1 (by omega)] at h
    exact h
  clear W
  simp only [TR, T2, twiceP, x0, x1, x2, x3, x4, x5, y0, y3] at f1 f4
  replace f4 := f4.resolve_right (by omega)
  replace f1 := f1.resolve_left (by omega)
  refine ⟨true, false, ?_, ⟨?_, ?_⟩, ?_, ?_, ?_⟩
  · intro v hv a1 a2
    obtain rfl | rfl | rfl := (by omega : v = 0 ∨ v = 1 ∨ v = 2)
    · exfalso; simp only [Nat.reduceAdd, Nat.zero_add] at a1 a2; omega
    · exact pos_c (by simp only [Nat.reduceAdd, Nat.zero_add, TR, T2, twiceP, x0, x1, x2, x3, x4, x5, y0, y3]; omega)
    · exact pos_c (by simp only [Nat.reduceAdd, Nat.zero_add, TR, T2, twiceP, x0, x1, x2, x3, x4, x5, y0, y3]; omega)
  · intro v hv hv2 a1 a2
    obtain rfl | rfl := (by omega : v = 3 ∨ v = 4)
    · exact neg_c (by simp only [Nat.reduceAdd, Nat.zero_add, TR, T2, twiceP, x0, x1, x2, x3, x4, x5, y0, y3]; omega)
    · exact neg_c (by simp only [Nat.reduceAdd, Nat.zero_add, TR, T2, twiceP, x0, x1, x2, x3, x4, x5, y0, y3]; omega)
  · intro a1
    exfalso; simp only [Nat.reduceSub] at a1; omega
  · show locT (TR X H 5 0 1) (TR X H 0 3 1) (TR X H 0 5 3) (TR X H 0 3 5) (TR X H 0 1 3) = true
    exact loc_t (by simp only [TR, T2, twiceP, x0, x1, x2, x3, x4, x5, y0, y3]; omega)
  · show locT (TR X H 2 3 4) (TR X H 3 0 4) (TR X H 3 2 0) (TR X H 3 0 2) (TR X H 3 4 0) = true
    exact loc_t (by simp only [TR, T2, twiceP, x0, x1, x2, x3, x4, x5, y0, y3]; omega)
  · refine fun _ => .inl ⟨by omega, fun v hv n1 n2 a1 a2 => ?_⟩
    obtain rfl | rfl | rfl | rfl | rfl | rfl := (by omega : v = 0 ∨ v = 1 ∨ v = 2 ∨ v = 3 ∨ v = 4 ∨ v = 5)
    · exact absurd rfl n1
    · exact .inl ⟨by omega, by simp only [TR, T2, twiceP, x0, x1, x2, x3, x4, x5, y0, y3]; omega⟩
    · exact .inl ⟨by omega, by simp only [TR, T2, twiceP, x0, x1, x2, x3, x4, x5, y0, y3]; omega⟩
    · exact absurd rfl n2
    · exact .inr ⟨by omega, by simp only [TR, T2, twiceP, x0, x1, x2, x3, x4, x5, y0, y3]; omega⟩
    · exact .inr ⟨by omega, by simp only [TR, T2, twiceP, x0, x1, x2, x3, x4, x5, y0, y3]; omega⟩
theorem w2_0_4 {X H : Nat → Int} (S : Sh2 X H) (W : WayR 6 X H 0 4) : Res 6 3 X H 0 4 := by
  obtain ⟨x0, x1, x2, x3, x4, x5, y0, y1, y2, y3, y4, y5⟩ := S
  have f1 : (0 < TR X H 0 4 1 ∧ 0 < TR X H 0 4 2) ∨ (TR X H 0 4 1 < 0 ∧ TR X H 0 4 2 < 0) := by
    have h0 : interP (X 0) (H 0) (X 4) (H 4) (X 1) (H 1) (X 2) (H 2) = false := W.fr 1 (by decide) (by decide) (by decide) (by decide) (by decide)
    have h := ns00 h0 (by omega) (by omega) (by omega) (by omega)
    rw [dl_1 (by omega), dr_1 (by omega)] at h
    exact h
  have f2 : (0 < TR X H 0 4 2 ∧ 0 < -(TR X H 2 3 4)) ∨ (TR X H 0 4 2 < 0 ∧ -(TR X H 2 3 4) < 0) := by
    have h0 : interP (X 0) (H 0) (X 4) (H 4) (X 2) (H 2) (X 3) (H 3) = false := W.fr 2 (by decide) (by decide) (by decide) (by decide) (by decide)
    have h := ns00 h0 (by omega) (by omega) (by omega) (by omega)
    rw [dl_1 (by omega), dr_2 (by omega)] at h
    exact h
  have z2 : TR X H 4 5 0 ≠ 0 := W.s2 rfl
  clear W
  by_cases hc : 0 < TR X H 0 4 5
  · simp only [TR, T2, twiceP, x0, x1, x2, x3, x4, x5, y0, y3] at f1 f2 z2 hc
    replace f1 := f1.resolve_left (by omega)
    replace f2 := f2.resolve_left (by omega)
    refine ⟨true, false, ?_, ⟨?_, ?_⟩, ?_, ?_, ?_⟩
    · intro v hv a1 a2
      obtain rfl | rfl | rfl := (by omega : v = 0 ∨ v = 1 ∨ v = 2)
      · exact pos_c (by simp only [Nat.reduceAdd, Nat.zero_add, TR, T2, twiceP, x0, x1, x2, x3, x4, x5, y0, y3]; omega)
      · exact pos_c (by simp only [Nat.reduceAdd, Nat.zero_add, TR, T2, twiceP, x0, x1, x2, x3, x4, x5, y0, y3]; omega)
      · exfalso; simp only [Nat.reduceAdd, Nat.zero_add] at a1 a2; omega
    · intro v hv hv2 a1 a2
      obtain rfl | rfl := (by omega : v = 3 ∨ v = 4)
      · exfalso; simp only [Nat.reduceAdd, Nat.zero_add] at a1 a2; omega
      · exact neg_c (by simp only [Nat.reduceAdd, Nat.zero_add, TR, T2, twiceP, x0, x1, x2, x3, x4, x5, y0, y3]; omega)
    · intro a1
      exact neg_c (by simp only [Nat.reduceSub, TR, T2, twiceP, x0, x1, x2, x3, x4, x5, y0, y3]; omega)
    · show locT (TR X H 5 0 1) (TR X H 0 4 1) (TR X H 0 5 4) (TR X H 0 4 5) (TR X H 0 1 4) = true
      exact loc_t (by simp only [TR, T2, twiceP, x0, x1, x2, x3, x4, x5, y0, y3]; omega)
    · show locT (TR X H 3 4 5) (TR X H 4 0 5) (TR X H 4 3 0) (TR X H 4 0 3) (TR X H 4 5 0) = true
      exact loc_t (by simp only [TR, T2, twiceP, x0, x1, x2, x3, x4, x5, y0, y3]; omega)
    · refine fun _ => .inl ⟨by omega, fun v hv n1 n2 a1 a2 => ?_⟩
      obtain rfl | rfl | rfl | rfl | rfl | rfl := (by omega : v = 0 ∨ v = 1 ∨ v = 2 ∨ v = 3 ∨ v = 4 ∨ v = 5)
      · exact absurd rfl n1
      · exact .inl ⟨by omega, by simp only [TR, T2, twiceP, x0, x1, x2, x3, x4, x5, y0, y3]; omega⟩
      · exact .inl ⟨by omega, by simp only [TR, T2, twiceP, x0, x1, x2, x3, x4, x5, y0, y3]; omega⟩
      · exfalso; omega
      · exact absurd rfl n2
      · exact .inr ⟨by omega, by simp only [TR, T2, twiceP, x0, x1, x2, x3, x4, x5, y0, y3]; omega⟩
  · simp only [TR, T2, twiceP, x0, x1, x2, x3, x4, x5, y0, y3] at f1 f2 z2 hc
    replace f1 := f1.resolve_left (by omega)
    replace f2 := f2.resolve_left (by omega)
    refine ⟨true, true, ?_, ⟨?_, ?_⟩, ?_, ?_, ?_⟩
    · intro v hv a1 a2
      obtain rfl | rfl | rfl := (by omega : v = 0 ∨ v = 1 ∨ v = 2)
      · exact pos_c (by simp only [Nat.reduceAdd, Nat.zero_add, TR, T2, twiceP, x0, x1, x2, x3, x4, x5, y0, y3]; omega)
      · exact pos_c (by simp only [Nat.reduceAdd, Nat.zero_add, TR, T2, twiceP, x0, x1, x2, x3, x4, x5, y0, y3]; omega)
      · exfalso; simp only [Nat.reduceAdd, Nat.zero_add] at a1 a2; omega
    · intro v hv hv2 a1 a2
      obtain rfl | rfl := (by omega : v = 3 ∨ v = 4)
      · exfalso; simp only [Nat.reduceAdd, Nat.zero_add] at a1 a2; omega
      · exact pos_c (by simp only [Nat.reduceAdd, Nat.zero_add, TR, T2, twiceP, x0, x1, x2, x3, x4, x5, y0, y3]; omega)
    · intro a1
      exact pos_c (by simp only [Nat.reduceSub, TR, T2, twiceP, x0, x1, x2, x3, x4, x5, y0, y3]; omega)
    · show locT (TR X H 5 0 1) (TR X H 0 4 1) (TR X H 0 5 4) (TR X H 0 4 5) (TR X H 0 1 4) = false
      exact loc_f (by simp only [TR, T2, twiceP, x0, x1, x2, x3, x4, x5, y0, y3]; omega)
    · show locT (TR X H 3 4 5) (TR X H 4 0 5) (TR X H 4 3 0) (TR X H 4 0 3) (TR X H 4 5 0) = false
      exact loc_f (by simp only [TR, T2, twiceP, x0, x1, x2, x3, x4, x5, y0, y3]; omega)
    · exact fun h => absurd h (by decide)
theorem w2_1_3 {X H : Nat → Int} (S : Sh2 X H) (W : WayR 6 X H 1 3) : Res 6 3 X H 1 3 := by
  obtain ⟨x0, x1, x2, x3, x4, x5, y0, y1, y2, y3, y4, y5⟩ := S
  have f4 : (0 < TR X H 1 3 5 ∧ 0 < TR X H 1 3 4) ∨ (TR X H 1 3 5 < 0 ∧ TR X H 1 3 4 < 0) := by
    have h0 : interP (X 1) (H 1) (X 3) (H 3) (X 4) (H 4) (X 5) (H 5) = false := W.fr 4 (by decide) (by decide) (by decide) (by decide) (by decide)
    have h := ns01 h0 (by omega) (by omega) (by omega) (by omega)
    rw [dl_1 (by omega), dr_1 (by omega)] at h
    exact h
  have f5 : (0 < -(TR X H 0 5 1) ∧ 0 < TR X H 1 3 5) ∨ (-(TR X H 0 5 1) < 0 ∧ TR X H 1 3 5 < 0) := by
    have h0 : interP (X 1) (H 1) (X 3) (H 3) (X 5) (H 5) (X 0) (H 0) = false := W.fr 5 (by decide) (by decide) (by decide) (by decide) (by decide)
    have h := ns01 h0 (by omega) (by omega) (by omega) (by omega)
    rw [dl_2 (by omega), dr_1 (by omega)] at h
    exact h
  have z1 : TR X H 1 2 3 ≠ 0 := W.s1 rfl
  clear W
  by_cases hc : TR X H 1 3 2 < 0
  · simp only [TR, T2, twiceP, x0, x1, x2, x3, x4, x5, y0, y3] at f4 f5 z1 hc
    replace f5 := f5.resolve_right (by omega)
    replace f4 := f4.resolve_right (by omega)
    refine ⟨true, false, ?_, ⟨?_, ?_⟩, ?_, ?_, ?_⟩
    · intro v hv a1 a2
      obtain rfl | rfl | rfl := (by omega : v = 0 ∨ v = 1 ∨ v = 2)
      · exfalso; simp only [Nat.reduceAdd, Nat.zero_add] at a1 a2; omega
      · exfalso; simp only [Nat.reduceAdd, Nat.zero_add] at a1 a2; omega
      · exact pos_c (by simp only [Nat.reduceAdd, Nat.zero_add, TR, T2, twiceP, x0, x1, x2, x3, x4, x5, y0, y3]; omega)
    · intro v hv hv2 a1 a2
      obtain rfl | rfl := (by omega : v = 3 ∨ v = 4)
      · exact neg_c (by simp only [Nat.reduceAdd, Nat.zero_add, TR, T2, twiceP, x0, x1, x2, x3, x4, x5, y0, y3]; omega)
      · exfalso; simp only [Nat.reduceAdd, Nat.zero_add] at a1 a2; omega
    · intro a1
      exfalso; simp only [Nat.reduceSub] at a1; omega
    · show locT (TR X H 0 1 2) (TR X H 1 3 2) (TR X H 1 0 3) (TR X H 1 3 0) (TR X H 1 2 3) = true
      exact loc_t (by simp only [TR, T2, twiceP, x0, x1, x2, x3, x4, x5, y0, y3]; omega)
    · show locT (TR X H 2 3 4) (TR X H 3 1 4) (TR X H 3 2 1) (TR X H 3 1 2) (TR X H 3 4 1) = true
      exact loc_t (by simp only [TR, T2, twiceP, x0, x1, x2, x3, x4, x5, y0, y3]; omega)
    · refine fun _ => .inl ⟨by omega, fun v hv n1 n2 a1 a2 => ?_⟩
      obtain rfl | rfl | rfl | rfl | rfl | rfl := (by omega : v = 0 ∨ v = 1 ∨ v = 2 ∨ v = 3 ∨ v = 4 ∨ v = 5)
      · exfalso; omega
      · exact absurd rfl n1
      · exact .inl ⟨by omega, by simp only [TR, T2, twiceP, x0, x1, x2, x3, x4, x5, y0, y3]; omega⟩
      · exact absurd rfl n2
      · exact .inr ⟨by omega, by simp only [TR, T2, twiceP, x0, x1, x2, x3, x4, x5, y0, y3]; omega⟩
      · exact .inr ⟨by omega, by simp only [TR, T2, twiceP, x0, x1, x2, x3, x4, x5, y0, y3]; omega⟩
  · simp only [TR, T2, twiceP, x0, x1, x2, x3, x4, x5, y0, y3] at f4 f5 z1 hc
    replace f5 := f5.resolve_right (by omega)
    replace f4 := f4.resolve_right (by omega)
    refine ⟨false, false, ?_, ⟨?_, ?_⟩, ?_, ?_, ?_⟩
    · intro v hv a1 a2
      obtain rfl | rfl | rfl := (by omega : v = 0 ∨ v = 1 ∨ v = 2)
      · exfalso; simp only [Nat.reduceAdd, Nat.zero_add] at a1 a2; omega
      · exfalso; simp only [Nat.reduceAdd, Nat.zero_add] at a1 a2; omega
      · exact neg_c (by simp only [Nat.reduceAdd, Nat.zero_add, TR, T2, twiceP, x0, x1, x2, x3, x4, x5, y0, y3]; omega)
    · intro v hv hv2 a1 a2
      obtain rfl | rfl := (by omega : v = 3 ∨ v = 4)
      · exact neg_c (by simp only [Nat.reduceAdd, Nat.zero_add, TR, T2, twiceP, x0, x1, x2, x3, x4, x5, y0, y3]; omega)
      · exfalso; simp only [Nat.reduceAdd, Nat.zero_add] at a1 a2; omega
    · intro a1
      exfalso; simp only [Nat.reduceSub] at a1; omega
    · show locT (TR X H 0 1 2) (TR X H 1 3 2) (TR X H 1 0 3) (TR X H 1 3 0) (TR X H 1 2 3) = false
      exact loc_f (by simp only [TR, T2, twiceP, x0, x1, x2, x3, x4, x5, y0, y3]; omega)
    · show locT (TR X H 2 3 4) (TR X H 3 1 4) (TR X H 3 2 1) (TR X H 3 1 2) (TR X H 3 4 1) = false
      exact loc_f (by simp only [TR, T2, twiceP, x0, x1, x2, x3, x4, x5, y0, y3]; omega)
    · exact fun h => absurd h (by decide)
theorem w2_1_4 {X H : Nat → Int} (S : Sh2 X H) (W : WayR 6 X H 1 4) : Res 6 3 X H 1 4 := by
  obtain ⟨x0, x1, x2, x3, x4, x5, y0, y1, y2, y3, y4, y5⟩ := S
  have f2 : (0 < TR X H 1 4 2 ∧ 0 < -(TR X H 2 3 4)) ∨ (TR X H 1 4 2 < 0 ∧ -(TR X H 2 3 4) < 0) := by
    have h0 : interP (X 1) (H 1) (X 4) (H 4) (X 2) (H 2) (X 3) (H 3) = false := W.fr 2 (by decide) (by decide) (by decide) (by decide) (by decide)
    have h := ns00 h0 (by omega) (by omega) (by omega) (by omega)
    rw [dl_1 (by omega), dr_2 (by omega)] at h
    exact h
  have f5 : (0 < -(TR X H 0 5 1) ∧ 0 < TR X H 1 4 5) ∨ (-(TR X H 0 5 1) < 0 ∧ TR X H 1 4 5 < 0) := by
    have h0 : interP (X 1) (H 1) (X 4) (H 4) (X 5) (H 5) (X 0) (H 0) = false := W.fr 5 (by decide) (by decide) (by decide) (by decide) (by decide)
    have h := ns01 h0 (by omega) (by omega) (by omega) (by omega)
    rw [dl_2 (by omega), dr_1 (by omega)] at h
    exact h
  clear W
  simp only [TR, T2, twiceP, x0, x1, x2, x3, x4, x5, y0, y3] at f2 f5
  replace f2 := f2.resolve_left (by omega)
  replace f5 := f5.resolve_right (by omega)
  refine ⟨true, false, ?_, ⟨?_, ?_⟩, ?_, ?_, ?_⟩
  · intro v hv a1 a2
    obtain rfl | rfl | rfl := (by omega : v = 0 ∨ v = 1 ∨ v = 2)
    · exfalso; simp only [Nat.reduceAdd, Nat.zero_add] at a1 a2; omega
    · exact pos_c (by simp only [Nat.reduceAdd, Nat.zero_add, TR, T2, twiceP, x0, x1, x2, x3, x4, x5, y0, y3]; omega)
    · exfalso; simp only [Nat.reduceAdd, Nat.zero_add] at a1 a2; omega
  · intro v hv hv2 a1 a2
    obtain rfl | rfl := (by omega : v = 3 ∨ v = 4)
    · exfalso; simp only [Nat.reduceAdd, Nat.zero_add] at a1 a2; omega
    · exact neg_c (by simp only [Nat.reduceAdd, Nat.zero_add, TR, T2, twiceP, x0, x1, x2, x3, x4, x5, y0, y3]; omega)
  · intro a1
    exfalso; simp only [Nat.reduceSub] at a1; omega
  · show locT (TR X H 0 1 2) (TR X H 1 4 2) (TR X H 1 0 4) (TR X H 1 4 0) (TR X H 1 2 4) = true
    exact loc_t (by simp only [TR, T2, twiceP, x0, x1, x2, x3, x4, x5, y0, y3]; omega)
  · show locT (TR X H 3 4 5) (TR X H 4 1 5) (TR X H 4 3 1) (TR X H 4 1 3) (TR X H 4 5 1) = true
    exact loc_t (by simp only [TR, T2, twiceP, x0, x1, x2, x3, x4, x5, y0, y3]; omega)
  · refine fun _ => .inl ⟨by omega, fun v hv n1 n2 a1 a2 => ?_⟩
    obtain rfl | rfl | rfl | rfl | rfl | rfl := (by omega : v = 0 ∨ v = 1 ∨ v = 2 ∨ v = 3 ∨ v = 4 ∨ v = 5)
    · exfalso; omega
    · exact absurd rfl n1
    · exact .inl ⟨by omega, by simp only [TR, T2, twiceP, x0, x1, x2, x3, x4, x5, y0, y3]; omega⟩
    · exfalso; omega
    · exact absurd rfl n2
    · exact .inr ⟨by omega, by simp only [TR, T2, twiceP, x0, x1, x2, x3, x4, x5, y0, y3]; omega⟩
theorem w2_1_5 {X H : Nat → Int} (S : Sh2 X H) (W : WayR 6 X H 1 5) : Res 6 3 X H 1 5 := by
  obtain ⟨x0, x1, x2, x3, x4, x5, y0, y1, y2, y3, y4, y5⟩ := S
  clear W
  refine ⟨true, false, ?_, ⟨?_, ?_⟩, ?_, ?_, ?_⟩
  · intro v hv a1 a2
    obtain rfl | rfl | rfl := (by omega : v = 0 ∨ v = 1 ∨ v = 2)
    · exact pos_c (by simp only [Nat.reduceAdd, Nat.zero_add, TR, T2, twiceP, x0, x1, x2, x3, x4, x5, y0, y3]; omega)
    · exact pos_c (by simp only [Nat.reduceAdd, Nat.zero_add, TR, T2, twiceP, x0, x1, x2, x3, x4, x5, y0, y3]; omega)
    · exfalso; simp only [Nat.reduceAdd, Nat.zero_add] at a1 a2; omega
  · intro v hv hv2 a1 a2
    obtain rfl | rfl := (by omega : v = 3 ∨ v = 4)
    · exfalso; simp only [Nat.reduceAdd, Nat.zero_add] at a1 a2; omega
    · exact neg_c (by simp only [Nat.reduceAdd, Nat.zero_add, TR, T2, twiceP, x0, x1, x2, x3, x4, x5, y0, y3]; omega)
  · intro a1
    exact neg_c (by simp only [Nat.reduceSub, TR, T2, twiceP, x0, x1, x2, x3, x4, x5, y0, y3]; omega)
  · show locT (TR X H 0 1 2) (TR X H 1 5 2) (TR X H 1 0 5) (TR X H 1 5 0) (TR X H 1 2 5) = true
    exact loc_t (by simp only [TR, T2, twiceP, x0, x1, x2, x3, x4, x5, y0, y3]; omega)
  · show locT (TR X H 4 5 0) (TR X H 5 1 0) (TR X H 5 4 1) (TR X H 5 1 4) (TR X H 5 0 1) = true
    exact loc_t (by simp only [TR, T2, twiceP, x0, x1, x2, x3, x4, x5, y0, y3]; omega)
  · exact fun _ => .inr (.inr ⟨by omega, by omega, by omega⟩)
theorem w2_2_4 {X H : Nat → Int} (S : Sh2 X H) (W : WayR 6 X H 2 4) : Res 6 3 X H 2 4 := by
  obtain ⟨x0, x1, x2, x3, x4, x5, y0, y1, y2, y3, y4, y5⟩ := S
  clear W
  refine ⟨true, false, ?_, ⟨?_, ?_⟩, ?_, ?_, ?_⟩
  · intro v hv a1 a2
    obtain rfl | rfl | rfl := (by omega : v = 0 ∨ v = 1 ∨ v = 2)
    · exfalso; simp only [Nat.reduceAdd, Nat.zero_add] at a1 a2; omega
    · exact pos_c (by simp only [Nat.reduceAdd, Nat.zero_add, TR, T2, twiceP, x0, x1, x2, x3, x4, x5, y0, y3]; omega)
    · exact pos_c (by simp only [Nat.reduceAdd, Nat.zero_add, TR, T2, twiceP, x0, x1, x2, x3, x4, x5, y0, y3]; omega)
  · intro v hv hv2 a1 a2
    obtain rfl | rfl := (by omega : v = 3 ∨ v = 4)
    · exact neg_c (by simp only [Nat.reduceAdd, Nat.zero_add, TR, T2, twiceP, x0, x1, x2, x3, x4, x5, y0, y3]; omega)
    · exact neg_c (by simp only [Nat.reduceAdd, Nat.zero_add, TR, T2, twiceP, x0, x1, x2, x3, x4, x5, y0, y3]; omega)
  · intro a1
    exfalso; simp only [Nat.reduceSub] at a1; omega
  · show locT (TR X H 1 2 3) (TR X H 2 4 3) (TR X H 2 1 4) (TR X H 2 4 1) (TR X H 2 3 4) = true
    exact loc_t (by simp only [TR, T2, twiceP, x0, x1, x2, x3, x4, x5, y0, y3]; omega)
  · show locT (TR X H 3 4 5) (TR X H 4 2 5) (TR X H 4 3 2) (TR X H 4 2 3) (TR X H 4 5 2) = true
    exact loc_t (by simp only [TR, T2, twiceP, x0, x1, x2, x3, x4, x5, y0, y3]; omega)
  · exact fun _ => .inr (.inr ⟨by omega, by omega, by omega⟩)
theorem w2_2_5 {X H : Nat → Int} (S : Sh2 X H) (W : WayR 6 X H 2 5) : Res 6 3 X H 2 5 := by
  obtain ⟨x0, x1, x2, x3, x4, x5, y0, y1, y2, y3, y4, y5⟩ := S
  have f0 : (0 < -(TR X H 0 1 5) ∧ 0 < TR X H 5 2 1) ∨ (-(TR X H 0 1 5) < 0 ∧ TR X H 5 2 1 < 0) := by
    have h0 : interP (X 2) (H 2) (X 5) (H 5) (X 0) (H 0) (X 1) (H 1) = false := W.fr 0 (by decide) (by decide) (by decide) (by decide) (by decide)
    have h := ns10 h0 (by omega) (by omega) (by omega) (by omega)
    rw [dl_2 (by omega), dr_1 (by omega)] at h
    exact h
  have f3 : (0 < TR X H 5 2 4 ∧ 0 < -(TR X H 4 3 2)) ∨ (TR X H 5 2 4 < 0 ∧ -(TR X H 4 3 2) < 0) := by
    have h0 : interP (X 2) (H 2) (X 5) (H 5) (X 3) (H 3) (X 4) (H 4) = false := W.fr 3 (by decide) (by decide) (by decide) (by decide) (by decide)
    have h := ns11 h0 (by omega) (by omega) (by omega) (by omega)
    rw [dl_1 (by omega), dr_2 (by omega)] at h
    exact h
  clear W
  simp only [TR, T2, twiceP, x0, x1, x2, x3, x4, x5, y0, y3] at f0 f3
  replace f3 := f3.resolve_right (by omega)
  replace f0 := f0.resolve_left (by omega)
  refine ⟨true, false, ?_, ⟨?_, ?_⟩, ?_, ?_, ?_⟩
  · intro v hv a1 a2
    obtain rfl | rfl | rfl := (by omega : v = 0 ∨ v = 1 ∨ v = 2)
    · exfalso; simp only [Nat.reduceAdd, Nat.zero_add] at a1 a2; omega
    · exact pos_c (by simp only [Nat.reduceAdd, Nat.zero_add, TR, T2, twiceP, x0, x1, x2, x3, x4, x5, y0, y3]; omega)
    · exfalso; simp only [Nat.reduceAdd, Nat.zero_add] at a1 a2; omega
  · intro v hv hv2 a1 a2
    obtain rfl | rfl := (by omega : v = 3 ∨ v = 4)
    · exfalso; simp only [Nat.reduceAdd, Nat.zero_add] at a1 a2; omega
    · exact neg_c (by simp only [Nat.reduceAdd, Nat.zero_add, TR, T2, twiceP, x0, x1, x2, x3, x4, x5, y0, y3]; omega)
  · intro a1
    exfalso; simp only [Nat.reduceSub] at a1; omega
  · show locT (TR X H 1 2 3) (TR X H 2 5 3) (TR X H 2 1 5) (TR X H 2 5 1) (TR X H 2 3 5) = true
    exact loc_t (by simp only [TR, T2, twiceP, x0, x1, x2, x3, x4, x5, y0, y3]; omega)
  · show locT (TR X H 4 5 0) (TR X H 5 2 0) (TR X H 5 4 2) (TR X H 5 2 4) (TR X H 5 0 2) = true
    exact loc_t (by simp only [TR, T2, twiceP, x0, x1, x2, x3, x4, x5, y0, y3]; omega)
  · refine fun _ => .inr <| .inl ⟨by omega, fun v hv n1 n2 a1 a2 => ?_⟩
    obtain rfl | rfl | rfl | rfl | rfl | rfl := (by omega : v = 0 ∨ v = 1 ∨ v = 2 ∨ v = 3 ∨ v = 4 ∨ v = 5)
    · exfalso; omega
    · exact .inl ⟨by omega, by simp only [TR, T2, twiceP, x0, x1, x2, x3, x4, x5, y0, y3]; omega⟩
    · exact absurd rfl n2
    · exfalso; omega
    · exact .inr ⟨by omega, by simp only [TR, T2, twiceP, x0, x1, x2, x3, x4, x5, y0, y3]; omega⟩
    · exact absurd rfl n1
theorem w2_3_5 {X H : Nat → Int} (S : Sh2 X H) (W : WayR 6 X H 3 5) : Res 6 3 X H 3 5 := by
  obtain ⟨x0, x1, x2, x3, x4, x5, y0, y1, y2, y3, y4, y5⟩ := S
  have f0 : (0 < -(TR X H 0 1 5) ∧ 0 < TR X H 5 3 1) ∨ (-(TR X H 0 1 5) < 0 ∧ TR X H 5 3 1 < 0) := by
    have h0 : interP (X 3) (H 3) (X 5) (H 5) (X 0) (H 0) (X 1) (H 1) = false := W.fr 0 (by decide) (by decide) (by decide) (by decide) (by decide)
    have h := ns10 h0 (by omega) (by omega) (by omega) (by omega)
    rw [dl_2 (by omega), dr_1 (by omega)] at h
    exact h
  have f1 : (0 < TR X H 5 3 1 ∧ 0 < TR X H 5 3 2) ∨ (TR X H 5 3 1 < 0 ∧ TR X H 5 3 2 < 0) := by
    have h0 : interP (X 3) (H 3) (X 5) (H 5) (X 1) (H 1) (X 2) (H 2) = false := W.fr 1 (by decide) (by decide) (by decide) (by decide) (by decide)
    have h := ns10 h0 (by omega) (by omega) (by omega) (by omega)
    rw [dl_1 (by omega), dr_1 (by omega)] at h
    exact h
  have z1 : TR X H 3 4 5 ≠ 0 := W.s1 rfl
  clear W
  by_cases hc : 0 < TR X H 5 3 4
  · simp only [TR, T2, twiceP, x0, x1, x2, x3, x4, x5, y0, y3] at f0 f1 z1 hc
    replace f0 := f0.resolve_left (by omega)
    replace f1 := f1.resolve_left (by omega)
    refine ⟨true, false, ?_, ⟨?_, ?_⟩, ?_, ?_, ?_⟩
    · intro v hv a1 a2
      obtain rfl | rfl | rfl := (by omega : v = 0 ∨ v = 1 ∨ v = 2)
      · exfalso; simp only [Nat.reduceAdd, Nat.zero_add] at a1 a2; omega
      · exfalso; simp only [Nat.reduceAdd, Nat.zero_add] at a1 a2; omega
      · exact pos_c (by simp only [Nat.reduceAdd, Nat.zero_add, TR, T2, twiceP, x0, x1, x2, x3, x4, x5, y0, y3]; omega)
    · intro v hv hv2 a1 a2
      obtain rfl | rfl := (by omega : v = 3 ∨ v = 4)
      · exact neg_c (by simp only [Nat.reduceAdd, Nat.zero_add, TR, T2, twiceP, x0, x1, x2, x3, x4, x5, y0, y3]; omega)
      · exfalso; simp only [Nat.reduceAdd, Nat.zero_add] at a1 a2; omega
    · intro a1
      exfalso; simp only [Nat.reduceSub] at a1; omega
    · show locT (TR X H 2 3 4) (TR X H 3 5 4) (TR X H 3 2 5) (TR X H 3 5 2) (TR X H 3 4 5) = true
      exact loc_t (by simp only [TR, T2, twiceP, x0, x1, x2, x3, x4, x5, y0, y3]; omega)
    · show locT (TR X H 4 5 0) (TR X H 5 3 0) (TR X H 5 4 3) (TR X H 5 3 4) (TR X H 5 0 3) = true
      exact loc_t (by simp only [TR, T2, twiceP, x0, x1, x2, x3, x4, x5, y0, y3]; omega)
    · refine fun _ => .inr <| .inl ⟨by omega, fun v hv n1 n2 a1 a2 => ?_⟩
      obtain rfl | rfl | rfl | rfl | rfl | rfl := (by omega : v = 0 ∨ v = 1 ∨ v = 2 ∨ v = 3 ∨ v = 4 ∨ v = 5)
      · exfalso; omega
      · exact .inl ⟨by omega, by simp only [TR, T2, twiceP, x0, x1, x2, x3, x4, x5, y0, y3]; omega⟩
      · exact .inl ⟨by omega, by simp only [TR, T2, twiceP, x0, x1, x2, x3, x4, x5, y0, y3]; omega⟩
      · exact absurd rfl n2
      · exact .inr ⟨by omega, by simp only [TR, T2, twiceP, x0, x1, x2, x3, x4, x5, y0, y3]; omega⟩
      · exact absurd rfl n1
  · simp only [TR, T2, twiceP, x0, x1, x2, x3, x4, x5, y0, y3] at f0 f1 z1 hc
    replace f0 := f0.resolve_left (by omega)
    replace f1 := f1.resolve_left (by omega)
    refine ⟨true, true, ?_, ⟨?_, ?_⟩, ?_, ?_, ?_⟩
    · intro v hv a1 a2
      obtain rfl | rfl | rfl := (by omega : v = 0 ∨ v = 1 ∨ v = 2)
      · exfalso; simp only [Nat.reduceAdd, Nat.zero_add] at a1 a2; omega
      · exfalso; simp only [Nat.reduceAdd, Nat.zero_add] at a1 a2; omega
      · exact pos_c (by simp only [Nat.reduceAdd, Nat.zero_add, TR, T2, twiceP, x0, x1, x2, x3, x4, x5, y0, y3]; omega)
    · intro v hv hv2 a1 a2
      obtain rfl | rfl := (by omega : v = 3 ∨ v = 4)
      · exact pos_c (by simp only [Nat.reduceAdd, Nat.zero_add, TR, T2, twiceP, x0, x1, x2, x3, x4, x5, y0, y3]; omega)
      · exfalso; simp only [Nat.reduceAdd, Nat.zero_add] at a1 a2; omega
    · intro a1
      exfalso; simp only [Nat.reduceSub] at a1; omega
    · show locT (TR X H 2 3 4) (TR X H 3 5 4) (TR X H 3 2 5) (TR X H 3 5 2) (TR X H 3 4 5) = false
      exact loc_f (by simp only [TR, T2, twiceP, x0, x1, x2, x3, x4, x5, y0, y3]; omega)
    · show locT (TR X H 4 5 0) (TR X H 5 3 0) (TR X H 5 4 3) (TR X H 5 3 4) (TR X H 5 0 3) = false
      exact loc_f (by simp only [TR, T2, twiceP, x0, x1, x2, x3, x4, x5, y0, y3]; omega)
    · exact fun h => absurd h (by decide)
theorem shape2 {X H : Nat → Int} (S : Sh2 X H) {i j : Nat} (W : WayR 6 X H i j) : Res 6 3 X H i j := by
  have hap := W.ap
  unfold Apart at hap
  obtain rfl | rfl | rfl | rfl : i = 0 ∨ i = 1 ∨ i = 2 ∨ i = 3 := by omega
  · obtain rfl | rfl | rfl : j = 2 ∨ j = 3 ∨ j = 4 := by omega
    · exact w2_0_2 S W
    · exact w2_0_3 S W
    · exact w2_0_4 S W
  · obtain rfl | rfl | rfl : j = 3 ∨ j = 4 ∨ j = 5 := by omega
    · exact w2_1_3 S W
    · exact w2_1_4 S W
    · exact w2_1_5 S W
  · obtain rfl | rfl : j = 4 ∨ j = 5 := by omega
    · exact w2_2_4 S W
    · exact w2_2_5 S W
  · obtain rfl : j = 5 := by omega
    · exact w2_3_5 S W

def Sh3 (X H : Nat → Int) : Prop := X 0 = 0 ∧ X 1 = 1 ∧ X 2 = 2 ∧ X 3 = 3 ∧ X 4 = 4 ∧ X 5 = 1 ∧ H 0 = 0 ∧ H 1 < 0 ∧ H 2 < 0 ∧ H 3 < 0 ∧ H 4 = 0 ∧ 0 < H 5
theorem ring3 {X H : Nat → Int} (S : Sh3 X H) : Ring 6 4 X H := by
  obtain ⟨x0, x1, x2, x3, x4, x5, y0, y1, y2, y3, y4, y5⟩ := S
  refine ⟨by omega, by omega, x0, ?_, ?_, ?_, y0, y4, ?_, ?_⟩
  · intro v hv
    obtain rfl | rfl | rfl | rfl := (by omega : v = 0 ∨ v = 1 ∨ v = 2 ∨ v = 3) <;> (simp only [Nat.reduceAdd, Nat.zero_add]; omega)
  · intro v hv hv2
    obtain rfl := (by omega : v = 4)
    (simp only [Nat.reduceAdd, Nat.zero_add]; omega)
  · simp only [Nat.reduceSub]; omega
  · intro v hv hv2
    obtain rfl | rfl | rfl := (by omega : v = 1 ∨ v = 2 ∨ v = 3) <;> assumption
  · intro v hv hv2
    obtain rfl := (by omega : v = 5)
    assumption
theorem w3_0_2 {X H : Nat → Int} (S : Sh3 X H) (W : WayR 6 X H 0 2) : Res 6 4 X H 0 2 := by
  obtain ⟨x0, x1, x2, x3, x4, x5, y0, y1, y2, y3, y4, y5⟩ := S
  have f4 : (0 < TR X H 0 2 5 ∧ 0 < -(TR X H 5 4 2)) ∨ (TR X H 0 2 5 < 0 ∧ -(TR X H 5 4 2) < 0) := by
    have h0 : interP (X 0) (H 0) (X 2) (H 2) (X 4) (H 4) (X 5) (H 5) = false := W.fr 4 (by decide) (by decide) (by decide) (by decide) (by decide)
    have h := ns01 h0 (by omega) (by omega) (by omega) (by omega)
    rw [dl_1 (by omega), dr_2 (by omega)] at h
    exact h
  have z1 : TR X H 0 1 2 ≠ 0 := W.s1 rfl
  clear W
  by_cases hc : TR X H 0 2 1 < 0
  · simp only [TR, T2, twiceP, x0, x1, x2, x3, x4, x5, y0, y4] at f4 z1 hc
    replace f4 := f4.resolve_right (by omega)
    refine ⟨true, false, ?_, ⟨?_, ?_⟩, ?_, ?_, ?_⟩
    · intro v hv a1 a2
      obtain rfl | rfl | rfl | rfl := (by omega : v = 0 ∨ v = 1 ∨ v = 2 ∨ v = 3)
      · exact pos_c (by simp only [Nat.reduceAdd, Nat.zero_add, TR, T2, twiceP, x0, x1, x2, x3, x4, x5, y0, y4]; omega)
      · exact pos_c (by simp only [Nat.reduceAdd, Nat.zero_add, TR, T2, twiceP, x0, x1, x2, x3, x4, x5, y0, y4]; omega)
      · exfalso; simp only [Nat.reduceAdd, Nat.zero_add] at a1 a2; omega
      · exfalso; simp only [Nat.reduceAdd, Nat.zero_add] at a1 a2; omega
    · intro v hv hv2 a1 a2
      obtain rfl := (by omega : v = 4)
      · exact neg_c (by simp only [Nat.reduceAdd, Nat.zero_add, TR, T2, twiceP, x0, x1, x2, x3, x4, x5, y0, y4]; omega)
    · intro a1
      exact neg_c (by simp only [Nat.reduceSub, TR, T2, twiceP, x0, x1, x2, x3, x4, x5, y0, y4]; omega)
    · show locT (TR X H 5 0 1) (TR X H 0 2 1) (TR X H 0 5 2) (TR X H 0 2 5) (TR X H 0 1 2) = true
      exact loc_t (by simp only [TR, T2, twiceP, x0, x1, x2, x3, x4, x5, y0, y4]; omega)
    · show locT (TR X H 1 2 3) (TR X H 2 0 3) (TR X H 2 1 0) (TR X H 2 0 1) (TR X H 2 3 0) = true
      exact loc_t (by simp only [TR, T2, twiceP, x0, x1, x2, x3, x4, x5, y0, y4]; omega)
    · refine fun _ => .inl ⟨by omega, fun v hv n1 n2 a1 a2 => ?_⟩
      obtain rfl | rfl | rfl | rfl | rfl | rfl := (by omega : v = 0 ∨ v = 1 ∨ v = 2 ∨ v = 3 ∨ v = 4 ∨ v = 5)
      · exact absurd rfl n1
      · exact .inl ⟨by omega, by simp only [TR, T2, twiceP, x0, x1, x2, x3, x4, x5, y0, y4]; omega⟩
      · exact absurd rfl n2
      · exfalso; omega
      · exfalso; omega
      · exact .inr ⟨by omega, by simp only [TR, T2, twiceP, x0, x1, x2, x3, x4, x5, y0, y4]; omega⟩
  · simp only [TR, T2, twiceP, x0, x1, x2, x3, x4, x5, y0, y4] at f4 z1 hc
    replace f4 := f4.resolve_right (by omega)
    refine ⟨false, false, ?_, ⟨?_, ?_⟩, ?_, ?_, ?_⟩
    · intro v hv a1 a2
      obtain rfl | rfl | rfl | rfl := (by omega : v = 0 ∨ v = 1 ∨ v = 2 ∨ v = 3)
      · exact neg_c (by simp only [Nat.reduceAdd, Nat.zero_add, TR, T2, twiceP, x0, x1, x2, x3, x4, x5, y0, y4]; omega)
      · exact neg_c (by simp only [Nat.reduceAdd, Nat.zero_add, TR, T2, twiceP, x0, x1, x2, x3, x4, x5, y0, y4]; omega)
      · exfalso; simp only [Nat.reduceAdd, Nat.zero_add] at a1 a2; omega
      · exfalso; simp only [Nat.reduceAdd, Nat.zero_add] at a1 a2; omega
    · intro v hv hv2 a1 a2
      obtain rfl := (by omega : v = 4)
      · exact neg_c (by simp only [Nat.reduceAdd, Nat.zero_add, TR, T2, twiceP, x0, x1, x2, x3, x4, x5, y0, y4]; omega)
    · intro a1
      exact neg_c (by simp only [Nat.reduceSub, TR, T2, twiceP, x0, x1, x2, x3, x4, x5, y0, y4]; omega)
    · show locT (TR X H 5 0 1) (TR X H 0 2 1) (TR X H 0 5 2) (TR X H 0 2 5) (TR X H 0 1 2) = false
      exact loc_f (by simp only [TR, T2, twiceP, x0, x1, x2, x3, x4, x5, y0, y4]; omega)
    · show locT (TR X H 1 2 3) (TR X H 2 0 3) (TR X H 2 1 0) (TR X H 2 0 1) (TR X H 2 3 0) = false
      exact loc_f (by simp only [TR, T2, twiceP, x0, x1, x2, x3, x4, x5, y0, y4]; omega)
    · exact fun h => absurd h (by decide)
theorem w3_0_3 {X H : Nat → Int} (S : Sh3 X H) (W : WayR 6 X H 0 3) : Res 6 4 X H 0 3 := by
  obtain ⟨x0, x1, x2, x3, x4, x5, y0, y1, y2, y3, y4, y5⟩ := S
  have f1 : (0 < TR X H 0 3 1 ∧ 0 < TR X H 0 3 2) ∨ (TR X H 0 3 1 < 0 ∧ TR X H 0 3 2 < 0) := by
    have h0 : interP (X 0) (H 0) (X 3) (H 3) (X 1) (H 1) (X 2) (H 2) = false := W.fr 1 (by decide) (by decide) (by decide) (by decide) (by decide)
    have h := ns00 h0 (by omega) (by omega) (by omega) (by omega)
    rw [dl_1 (by omega), dr_1 (by omega)] at h
    exact h
  have f4 : (0 < TR X H 0 3 5 ∧ 0 < -(TR X H 5 4 3)) ∨ (TR X H 0 3 5 < 0 ∧ -(TR X H 5 4 3) < 0) := by
    have h0 : interP (X 0) (H 0) (X 3) (H 3) (X 4) (H 4) (X 5) (H 5) = false := W.fr 4 (by decide) (by decide) (by decide) (by decide) (by decide)
    have h := ns01 h0 (by omega) (by omega) (by omega) (by omega)
    rw [dl_1 (by omega), dr_2 (by omega)] at h
    exact h
  clear W
  by_cases hc : TR X H 0 3 1 < 0
  · simp only [TR, T2, twiceP, x0, x1, x2, x3, x4, x5, y0, y4] at f1 f4 hc
    replace f1 := f1.resolve_left (by omega)
    replace f4 := f4.resolve_right (by omega)
    refine ⟨true, false, ?_, ⟨?_, ?_⟩, ?_, ?_, ?_⟩
    · intro v hv a1 a2
      obtain rfl | rfl | rfl | rfl := (by omega : v = 0 ∨ v = 1 ∨ v = 2 ∨ v = 3)
      · exfalso; simp only [Nat.reduceAdd, Nat.zero_add] at a1 a2; omega
      · exact pos_c (by simp only [Nat.reduceAdd, Nat.zero_add, TR, T2, twiceP, x0, x1, x2, x3, x4, x5, y0, y4]; omega)
      · exfalso; simp only [Nat.reduceAdd, Nat.zero_add] at a1 a2; omega
      · exfalso; simp only [Nat.reduceAdd, Nat.zero_add] at a1 a2; omega
    · intro v hv hv2 a1 a2
      obtain rfl := (by omega : v = 4)
      · exact neg_c (by simp only [Nat.reduceAdd, Nat.zero_add, TR, T2, twiceP, x0, x1, x2, x3, x4, x5, y0, y4]; omega)
    · intro a1
      exfalso; simp only [Nat.reduceSub] at a1; omega
    · show locT (TR X H 5 0 1) (TR X H 0 3 1) (TR X H 0 5 3) (TR X H 0 3 5) (TR X H 0 1 3) = true
      exact loc_t (by simp only [TR, T2, twiceP, x0, x1, x2, x3, x4, x5, y0, y4]; omega)
    · show locT (TR X H 2 3 4) (TR X H 3 0 4) (TR X H 3 2 0) (TR X H 3 0 2) (TR X H 3 4 0) = true
      exact loc_t (by simp only [TR, T2, twiceP, x0, x1, x2, x3, x4, x5, y0, y4]; omega)
    · refine fun _ => .inl ⟨by omega, fun v hv n1 n2 a1 a2 => ?_⟩
      obtain rfl | rfl | rfl | rfl | rfl | rfl := (by omega : v = 0 ∨ v = 1 ∨ v = 2 ∨ v = 3 ∨ v = 4 ∨ v = 5)
      · exact absurd rfl n1
      · exact .inl ⟨by omega, by simp only [TR, T2, twiceP, x0, x1, x2, x3, x4, x5, y0, y4]; omega⟩
      · exact .inl ⟨by omega, by simp only [TR, T2, twiceP, x0, x1, x2, x3, x4, x5, y0, y4]; omega⟩
      · exact absurd rfl n2
      · exfalso; omega
      · exact .inr ⟨by omega, by simp only [TR, T2, twiceP, x0, x1, x2, x3, x4, x5, y0, y4]; omega⟩
  · simp only [TR, T2, twiceP, x0, x1, x2, x3, x4, x5, y0, y4] at f1 f4 hc
    replace f1 := f1.resolve_right (by omega)
    replace f4 := f4.resolve_right (by omega)
    refine ⟨false, false, ?_, ⟨?_, ?_⟩, ?_, ?_, ?_⟩
    · intro v hv a1 a2
      obtain rfl | rfl | rfl | rfl := (by omega : v = 0 ∨ v = 1 ∨ v = 2 ∨ v = 3)
      · exfalso; simp only [Nat.reduceAdd, Nat.zero_add] at a1 a2; omega
      · exact neg_c (by simp only [Nat.reduceAdd, Nat.zero_add, TR, T2, twiceP, x0, x1, x2, x3, x4, x5, y0, y4]; omega)
      · exfalso; simp only [Nat.reduceAdd, Nat.zero_add] at a1 a2; omega
      · exfalso; simp only [Nat.reduceAdd, Nat.zero_add] at a1 a2; omega
    · intro v hv hv2 a1 a2
      obtain rfl := (by omega : v = 4)
      · exact neg_c (by simp only [Nat.reduceAdd, Nat.zero_add, TR, T2, twiceP, x0, x1, x2, x3, x4, x5, y0, y4]; omega)
    · intro a1
      exfalso; simp only [Nat.reduceSub] at a1; omega
    · show locT (TR X H 5 0 1) (TR X H 0 3 1) (TR X H 0 5 3) (TR X H 0 3 5) (TR X H 0 1 3) = false
      exact loc_f (by simp only [TR, T2, twiceP, x0, x1, x2, x3, x4, x5, y0, y4]; omega)
    · show locT (TR X H 2 3 4) (TR X H 3 0 4) (TR X H 3 2 0) (TR X H 3 0 2) (TR X H 3 4 0) = false
      exact loc_f (by simp only [TR, T2, twiceP, x0, x1, x2, x3, x4, x5, y0, y4]; omega)
    · exact fun h => absurd h (by decide)
theorem w3_0_4 {X H : Nat → Int} (S : Sh3 X H) (W : WayR 6 X H 0 4) : Res 6 4 X H 0 4 := by
  obtain ⟨x0, x1, x2, x3, x4, x5, y0, y1, y2, y3, y4, y5⟩ := S
  have f1 : (0 < TR X H 0 4 1 ∧ 0 < TR X H 0 4 2) ∨ (TR X H 0 4 1 < 0 ∧ TR X H 0 4 2 < 0) := by
    have h0 : interP (X 0) (H 0) (X 4) (H 4) (X 1) (H 1) (X 2) (H 2) = false := W.fr 1 (by decide) (by decide) (by decide) (by decide) (by decide)
    have h := ns00 h0 (by omega) (by omega) (by omega) (by omega)
    rw [dl_1 (by omega), dr_1 (by omega)] at h
    exact h
  have f2 : (0 < TR X H 0 4 2 ∧ 0 < TR X H 0 4 3) ∨ (TR X H 0 4 2 < 0 ∧ TR X H 0 4 3 < 0) := by
    have h0 : interP (X 0) (H 0) (X 4) (H 4) (X 2) (H 2) (X 3) (H 3) = false := W.fr 2 (by decide) (by decide) (by decide) (by decide) (by decide)
    have h := ns00 h0 (by omega) (by omega) (by omega) (by omega)
    rw [dl_1 (by omega), dr_1 (by omega)] at h
    exact h
  have z2 : TR X H 4 5 0 ≠ 0 := W.s2 rfl
  clear W
  simp only [TR, T2, twiceP, x0, x1, x2, x3, x4, x5, y0, y4] at f1 f2 z2
  replace f1 := f1.resolve_left (by omega)
  replace f2 := f2.resolve_left (by omega)
  refine ⟨true, false, ?_, ⟨?_, ?_⟩, ?_, ?_, ?_⟩
  · intro v hv a1 a2
    obtain rfl | rfl | rfl | rfl := (by omega : v = 0 ∨ v = 1 ∨ v = 2 ∨ v = 3)
    · exfalso; simp only [Nat.reduceAdd, Nat.zero_add] at a1 a2; omega
    · exact pos_c (by simp only [Nat.reduceAdd, Nat.zero_add, TR, T2, twiceP, x0, x1, x2, x3, x4, x5, y0, y4]; omega)
    · exact pos_c (by simp only [Nat.reduceAdd, Nat.zero_add, TR, T2, twiceP, x0, x1, x2, x3, x4, x5, y0, y4]; omega)
    · exfalso; simp only [Nat.reduceAdd, Nat.zero_add] at a1 a2; omega
  · intro v hv hv2 a1 a2
    obtain rfl := (by omega : v = 4)
    · exact neg_c (by simp only [Nat.reduceAdd, Nat.zero_add, TR, T2, twiceP, x0, x1, x2, x3, x4, x5, y0, y4]; omega)
  · intro a1
    exfalso; simp only [Nat.reduceSub] at a1; omega
  · show locT (TR X H 5 0 1) (TR X H 0 4 1) (TR X H 0 5 4) (TR X H 0 4 5) (TR X H 0 1 4) = true
    exact loc_t (by simp only [TR, T2, twiceP, x0, x1, x2, x3, x4, x5, y0, y4]; omega)
  · show locT (TR X H 3 4 5) (TR X H 4 0 5) (TR X H 4 3 0) (TR X H 4 0 3) (TR X H 4 5 0) = true
    exact loc_t (by simp only [TR, T2, twiceP, x0, x1, x2, x3, x4, x5, y0, y4]; omega)
  · refine fun _ => .inl ⟨by omega, fun v hv n1 n2 a1 a2 => ?_⟩
    obtain rfl | rfl | rfl | rfl | rfl | rfl := (by omega : v = 0 ∨ v = 1 ∨ v = 2 ∨ v = 3 ∨ v = 4 ∨ v = 5)
    · exact absurd rfl n1
    · exact .inl ⟨by omega, by simp only [TR, T2, twiceP, x0, x1, x2, x3, x4, x5, y0, y4]; omega⟩
    · exact .inl ⟨by omega, by simp only [TR, T2, twiceP, x0, x1, x2, x3, x4, x5, y0, y4]; omega⟩
    · exact .inl ⟨by omega, by simp only [TR, T2, twiceP, x0, x1, x2, x3, x4, x5, y0, y4]; omega⟩
    · exact absurd rfl n2
    · exact .inr ⟨by omega, by simp only [TR, T2, twiceP, x0, x1, x2, x3, x4, x5, y0, y4]; omega⟩
theorem w3_1_3 {X H : Nat → Int} (S : Sh3 X H) (W : WayR 6 X H 1 3) : Res 6 4 X H 1 3 := by
  obtain ⟨x0, x1, x2, x3, x4, x5, y0, y1, y2, y3, y4, y5⟩ := S
  have f4 : (0 < TR X H 1 3 5 ∧ 0 < -(TR X H 5 4 3)) ∨ (TR X H 1 3 5 < 0 ∧ -(TR X H 5 4 3) < 0) := by
    have h0 : interP (X 1) (H 1) (X 3) (H 3) (X 4) (H 4) (X 5) (H 5) = false := W.fr 4 (by decide) (by decide) (by decide) (by decide) (by decide)
    have h := ns01 h0 (by omega) (by omega) (by omega) (by omega)
    rw [dl_1 (by omega), dr_2 (by omega)] at h
    exact h
  have f5 : (0 < -(TR X H 0 5 1) ∧ 0 < TR X H 1 3 5) ∨ (-(TR X H 0 5 1) < 0 ∧ TR X H 1 3 5 < 0) := by
    have h0 : interP (X 1) (H 1) (X 3) (H 3) (X 5) (H 5) (X 0) (H 0) = false := W.fr 5 (by decide) (by decide) (by decide) (by decide) (by decide)
    have h := ns01 h0 (by omega) (by omega) (by omega) (by omega)
    rw [dl_2 (by omega), dr_1 (by omega)] at h
    exact h
  have z1 : TR X H 1 2 3 ≠ 0 := W.s1 rfl
  clear W
  by_cases hc : TR X H 1 3 2 < 0
  · simp only [TR, T2, twiceP, x0, x1, x2, x3, x4, x5, y0, y4] at f4 f5 z1 hc
    replace f5 := f5.resolve_right (by omega)
    replace f4 := f4.resolve_right (by omega)
    refine ⟨true, false, ?_, ⟨?_, ?_⟩, ?_, ?_, ?_⟩
    · intro v hv a1 a2
      obtain rfl | rfl | rfl | rfl := (by omega : v = 0 ∨ v = 1 ∨ v = 2 ∨ v = 3)
      · exfalso; simp only [Nat.reduceAdd, Nat.zero_add] at a1 a2; omega
      · exact pos_c (by simp only [Nat.reduceAdd, Nat.zero_add, TR, T2, twiceP, x0, x1, x2, x3, x4, x5, y0, y4]; omega)
      · exact pos_c (by simp only [Nat.reduceAdd, Nat.zero_add, TR, T2, twiceP, x0, x1, x2, x3, x4, x5, y0, y4]; omega)
      · exfalso; simp only [Nat.reduceAdd, Nat.zero_add] at a1 a2; omega
    · intro v hv hv2 a1 a2
      obtain rfl := (by omega : v = 4)
      · exact neg_c (by simp only [Nat.reduceAdd, Nat.zero_add, TR, T2, twiceP, x0, x1, x2, x3, x4, x5, y0, y4]; omega)
    · intro a1
      exfalso; simp only [Nat.reduceSub] at a1; omega
    · show locT (TR X H 0 1 2) (TR X H 1 3 2) (TR X H 1 0 3) (TR X H 1 3 0) (TR X H 1 2 3) = true
      exact loc_t (by simp only [TR, T2, twiceP, x0, x1, x2, x3, x4, x5, y0, y4]; omega)
    · show locT (TR X H 2 3 4) (TR X H 3 1 4) (TR X H 3 2 1) (TR X H 3 1 2) (TR X H 3 4 1) = true
      exact loc_t (by simp only [TR, T2, twiceP, x0, x1, x2, x3, x4, x5, y0, y4]; omega)
    · refine fun _ => .inl ⟨by omega, fun v hv n1 n2 a1 a2 => ?_⟩
      obtain rfl | rfl | rfl | rfl | rfl | rfl := (by omega : v = 0 ∨ v = 1 ∨ v = 2 ∨ v = 3 ∨ v = 4 ∨ v = 5)
      · exfalso; omega
      · exact absurd rfl n1
      · exact .inl ⟨by omega, by simp only [TR, T2, twiceP, x0, x1, x2, x3, x4, x5, y0, y4]; omega⟩
      · exact absurd rfl n2
      · exfalso; omega
      · exact .inr ⟨by omega, by simp only [TR, T2, twiceP, x0, x1, x2, x3, x4, x5, y0, y4]; omega⟩
  · simp only [TR, T2, twiceP, x0, x1, x2, x3, x4, x5, y0, y4] at f4 f5 z1 hc
    replace f5 := f5.resolve_right (by omega)
    replace f4 := f4.resolve_right (by omega)
    refine ⟨false, false, ?_, ⟨?_, ?_⟩, ?_, ?_, ?_⟩
    · intro v hv a1 a2
      obtain rfl | rfl | rfl | rfl := (by omega : v = 0 ∨ v = 1 ∨ v = 2 ∨ v = 3)
      · exfalso; simp only [Nat.reduceAdd, Nat.zero_add] at a1 a2; omega
      · exact neg_c (by simp only [Nat.reduceAdd, Nat.zero_add, TR, T2, twiceP, x0, x1, x2, x3, x4, x5, y0, y4]; omega)
      · exact neg_c (by simp only [Nat.reduceAdd, Nat.zero_add, TR, T2, twiceP, x0, x1, x2, x3, x4, x5, y0, y4]; omega)
      · exfalso; simp only [Nat.reduceAdd, Nat.zero_add] at a1 a2; omega
    · intro v hv hv2 a1 a2
      obtain rfl := (by omega : v = 4)
      · exact neg_c (by simp only [Nat.reduceAdd, Nat.zero_add, TR, T2, twiceP, x0, x1, x2, x3, x4, x5, y0, y4]; omega)
    · intro a1
      exfalso; simp only [Nat.reduceSub] at a1; omega
    · show locT (TR X H 0 1 2) (TR X H 1 3 2) (TR X H 1 0 3) (TR X H 1 3 0) (TR X H 1 2 3) = false
      exact loc_f (by simp only [TR, T2, twiceP, x0, x1, x2, x3, x4, x5, y0, y4]; omega)
    · show locT (TR X H 2 3 4) (TR X H 3 1 4) (TR X H 3 2 1) (TR X H 3 1 2) (TR X H 3 4 1) = false
      exact loc_f (by simp only [TR, T2, twiceP, x0, x1, x2, x3, x4, x5, y0, y4]; omega)
    · exact fun h => absurd h (by decide)
theorem w3_1_4 {X H : Nat → Int} (S : Sh3 X H) (W : WayR 6 X H 1 4) : Res 6 4 X H 1 4 := by
  obtain ⟨x0, x1, x2, x3, x4, x5, y0, y1, y2, y3, y4, y5⟩ := S
  have f2 : (0 < TR X H 1 4 2 ∧ 0 < TR X H 1 4 3) ∨ (TR X H 1 4 2 < 0 ∧ TR X H 1 4 3 < 0) := by
    have h0 : interP (X 1) (H 1) (X 4) (H 4) (X 2) (H 2) (X 3) (H 3) = false := W.fr 2 (by decide) (by decide) (by decide) (by decide) (by decide)
    have h := ns00 h0 (by omega) (by omega) (by omega) (by omega)
    rw [dl_1 (by omega), dr_1 (by omega)] at h
    exact h
  have f5 : (0 < -(TR X H 0 5 1) ∧ 0 < TR X H 1 4 5) ∨ (-(TR X H 0 5 1) < 0 ∧ TR X H 1 4 5 < 0) := by
    have h0 : interP (X 1) (H 1) (X 4) (H 4) (X 5) (H 5) (X 0) (H 0) = false := W.fr 5 (by decide) (by decide) (by decide) (by decide) (by decide)
    have h := ns01 h0 (by omega) (by omega) (by omega) (by omega)
    rw [dl_2 (by omega), dr_1 (by omega)] at h
    exact h
  clear W
  by_cases hc : TR X H 1 4 2 < 0
  · simp only [TR, T2, twiceP, x0, x1, x2, x3, x4, x5, y0, y4] at f2 f5 hc
    replace f5 := f5.resolve_right (by omega)
    replace f2 := f2.resolve_left (by omega)
    refine ⟨true, false, ?_, ⟨?_, ?_⟩, ?_, ?_, ?_⟩
    · intro v hv a1 a2
      obtain rfl | rfl | rfl | rfl := (by omega : v = 0 ∨ v = 1 ∨ v = 2 ∨ v = 3)
      · exfalso; simp only [Nat.reduceAdd, Nat.zero_add] at a1 a2; omega
      · exfalso; simp only [Nat.reduceAdd, Nat.zero_add] at a1 a2; omega
      · exact pos_c (by simp only [Nat.reduceAdd, Nat.zero_add, TR, T2, twiceP, x0, x1, x2, x3, x4, x5, y0, y4]; omega)
      · exfalso; simp only [Nat.reduceAdd, Nat.zero_add] at a1 a2; omega
    · intro v hv hv2 a1 a2
      obtain rfl := (by omega : v = 4)
      · exact neg_c (by simp only [Nat.reduceAdd, Nat.zero_add, TR, T2, twiceP, x0, x1, x2, x3, x4, x5, y0, y4]; omega)
    · intro a1
      exfalso; simp only [Nat.reduceSub] at a1; omega
    · show locT (TR X H 0 1 2) (TR X H 1 4 2) (TR X H 1 0 4) (TR X H 1 4 0) (TR X H 1 2 4) = true
      exact loc_t (by simp only [TR, T2, twiceP, x0, x1, x2, x3, x4, x5, y0, y4]; omega)
    · show locT (TR X H 3 4 5) (TR X H 4 1 5) (TR X H 4 3 1) (TR X H 4 1 3) (TR X H 4 5 1) = true
      exact loc_t (by simp only [TR, T2, twiceP, x0, x1, x2, x3, x4, x5, y0, y4]; omega)
    · refine fun _ => .inl ⟨by omega, fun v hv n1 n2 a1 a2 => ?_⟩
      obtain rfl | rfl | rfl | rfl | rfl | rfl := (by omega : v = 0 ∨ v = 1 ∨ v = 2 ∨ v = 3 ∨ v = 4 ∨ v = 5)
      · exfalso; omega
      · exact absurd rfl n1
      · exact .inl ⟨by omega, by simp only [TR, T2, twiceP, x0, x1, x2, x3, x4, x5, y0, y4]; omega⟩
      · exact .inl ⟨by omega, by simp only [TR, T2, twiceP, x0, x1, x2, x3, x4, x5, y0, y4]; omega⟩
      · exact absurd rfl n2
      · exact .inr ⟨by omega, by simp only [TR, T2, twiceP, x0, x1, x2, x3, x4, x5, y0, y4]; omega⟩
  · simp only [TR, T2, twiceP, x0, x1, x2, x3, x4, x5, y0, y4] at f2 f5 hc
    replace f5 := f5.resolve_right (by omega)
    replace f2 := f2.resolve_right (by omega)
    refine ⟨false, false, ?_, ⟨?_, ?_⟩, ?_, ?_, ?_⟩
    · intro v hv a1 a2
      obtain rfl | rfl | rfl | rfl := (by omega : v = 0 ∨ v = 1 ∨ v = 2 ∨ v = 3)
      · exfalso; simp only [Nat.reduceAdd, Nat.zero_add] at a1 a2; omega
      · exfalso; simp only [Nat.reduceAdd, Nat.zero_add] at a1 a2; omega
      · exact neg_c (by simp only [Nat.reduceAdd, Nat.zero_add, TR, T2, twiceP, x0, x1, x2, x3, x4, x5, y0, y4]; omega)
      · exfalso; simp only [Nat.reduceAdd, Nat.zero_add] at a1 a2; omega
    · intro v hv hv2 a1 a2
      obtain rfl := (by omega : v = 4)
      · exact neg_c (by simp only [Nat.reduceAdd, Nat.zero_add, TR, T2, twiceP, x0, x1, x2, x3, x4, x5, y0, y4]; omega)
    · intro a1
      exfalso; simp only [Nat.reduceSub] at a1; omega
    · show locT (TR X H 0 1 2) (TR X H 1 4 2) (TR X H 1 0 4) (TR X H 1 4 0) (TR X H 1 2 4) = false
      exact loc_f (by simp only [TR, T2, twiceP, x0, x1, x2, x3, x4, x5, y0, y4]; omega)
    · show locT (TR X H 3 4 5) (TR X H 4 1 5) (TR X H 4 3 1) (TR X H 4 1 3) (TR X H 4 5 1) = false
      exact loc_f (by simp only [TR, T2, twiceP, x0, x1, x2, x3, x4, x5, y0, y4]; omega)
    · exact fun h => absurd h (by decide)
theorem w3_1_5 {X H : Nat → Int} (S : Sh3 X H) (W : WayR 6 X H 1 5) : Res 6 4 X H 1 5 := by
  obtain ⟨x0, x1, x2, x3, x4, x5, y0, y1, y2, y3, y4, y5⟩ := S
  clear W
  refine ⟨true, false, ?_, ⟨?_, ?_⟩, ?_, ?_, ?_⟩
  · intro v hv a1 a2
    obtain rfl | rfl | rfl | rfl := (by omega : v = 0 ∨ v = 1 ∨ v = 2 ∨ v = 3)
    · exact pos_c (by simp only [Nat.reduceAdd, Nat.zero_add, TR, T2, twiceP, x0, x1, x2, x3, x4, x5, y0, y4]; omega)
    · exact pos_c (by simp only [Nat.reduceAdd, Nat.zero_add, TR, T2, twiceP, x0, x1, x2, x3, x4, x5, y0, y4]; omega)
    · exfalso; simp only [Nat.reduceAdd, Nat.zero_add] at a1 a2; omega
    · exfalso; simp only [Nat.reduceAdd, Nat.zero_add] at a1 a2; omega
  · intro v hv hv2 a1 a2
    obtain rfl := (by omega : v = 4)
    · exact neg_c (by simp only [Nat.reduceAdd, Nat.zero_add, TR, T2, twiceP, x0, x1, x2, x3, x4, x5, y0, y4]; omega)
  · intro a1
    exact neg_c (by simp only [Nat.reduceSub, TR, T2, twiceP, x0, x1, x2, x3, x4, x5, y0, y4]; omega)
  · show locT (TR X H 0 1 2) (TR X H 1 5 2) (TR X H 1 0 5) (TR X H 1 5 0) (TR X H 1 2 5) = true
    exact loc_t (by simp only [TR, T2, twiceP, x0, x1, x2, x3, x4, x5, y0, y4]; omega)
  · show locT (TR X H 4 5 0) (TR X H 5 1 0) (TR X H 5 4 1) (TR X H 5 1 4) (TR X H 5 0 1) = true
    exact loc_t (by simp only [TR, T2, twiceP, x0, x1, x2, x3, x4, x5, y0, y4]; omega)
  · exact fun _ => .inr (.inr ⟨by omega, by omega, by omega⟩)
theorem w3_2_4 {X H : Nat → Int} (S : Sh3 X H) (W : WayR 6 X H 2 4) : Res 6 4 X H 2 4 := by
  obtain ⟨x0, x1, x2, x3, x4, x5, y0, y1, y2, y3, y4, y5⟩ := S
  have z1 : TR X H 2 3 4 ≠ 0 := W.s1 rfl
  clear W
  by_cases hc : TR X H 2 4 3 < 0
  · simp only [TR, T2, twiceP, x0, x1, x2, x3, x4, x5, y0, y4] at z1 hc
    refine ⟨true, false, ?_, ⟨?_, ?_⟩, ?_, ?_, ?_⟩
    · intro v hv a1 a2
      obtain rfl | rfl | rfl | rfl := (by omega : v = 0 ∨ v = 1 ∨ v = 2 ∨ v = 3)
      · exfalso; simp only [Nat.reduceAdd, Nat.zero_add] at a1 a2; omega
      · exfalso; simp only [Nat.reduceAdd, Nat.zero_add] at a1 a2; omega
      · exact pos_c (by simp only [Nat.reduceAdd, Nat.zero_add, TR, T2, twiceP, x0, x1, x2, x3, x4, x5, y0, y4]; omega)
      · exact pos_c (by simp only [Nat.reduceAdd, Nat.zero_add, TR, T2, twiceP, x0, x1, x2, x3, x4, x5, y0, y4]; omega)
    · intro v hv hv2 a1 a2
      obtain rfl := (by omega : v = 4)
      · exact neg_c (by simp only [Nat.reduceAdd, Nat.zero_add, TR, T2, twiceP, x0, x1, x2, x3, x4, x5, y0, y4]; omega)
    · intro a1
      exfalso; simp only [Nat.reduceSub] at a1; omega
    · show locT (TR X H 1 2 3) (TR X H 2 4 3) (TR X H 2 1 4) (TR X H 2 4 1) (TR X H 2 3 4) = true
      exact loc_t (by simp only [TR, T2, twiceP, x0, x1, x2, x3, x4, x5, y0, y4]; omega)
    · show locT (TR X H 3 4 5) (TR X H 4 2 5) (TR X H 4 3 2) (TR X H 4 2 3) (TR X H 4 5 2) = true
      exact loc_t (by simp only [TR, T2, twiceP, x0, x1, x2, x3, x4, x5, y0, y4]; omega)
    · refine fun _ => .inl ⟨by omega, fun v hv n1 n2 a1 a2 => ?_⟩
      obtain rfl | rfl | rfl | rfl | rfl | rfl := (by omega : v = 0 ∨ v = 1 ∨ v = 2 ∨ v = 3 ∨ v = 4 ∨ v = 5)
      · exfalso; omega
      · exfalso; omega
      · exact absurd rfl n1
      · exact .inl ⟨by omega, by simp only [TR, T2, twiceP, x0, x1, x2, x3, x4, x5, y0, y4]; omega⟩
      · exact absurd rfl n2
      · exfalso; omega
  · simp only [TR, T2, twiceP, x0, x1, x2, x3, x4, x5, y0, y4] at z1 hc
    refine ⟨false, false, ?_, ⟨?_, ?_⟩, ?_, ?_, ?_⟩
    · intro v hv a1 a2
      obtain rfl | rfl | rfl | rfl := (by omega : v = 0 ∨ v = 1 ∨ v = 2 ∨ v = 3)
      · exfalso; simp only [Nat.reduceAdd, Nat.zero_add] at a1 a2; omega
      · exfalso; simp only [Nat.reduceAdd, Nat.zero_add] at a1 a2; omega
      · exact neg_c (by simp only [Nat.reduceAdd, Nat.zero_add, TR, T2, twiceP, x0, x1, x2, x3, x4, x5, y0, y4]; omega)
      · exact neg_c (by simp only [Nat.reduceAdd, Nat.zero_add, TR, T2, twiceP, x0, x1, x2, x3, x4, x5, y0, y4]; omega)
    · intro v hv hv2 a1 a2
      obtain rfl := (by omega : v = 4)
      · exact neg_c (by simp only [Nat.reduceAdd, Nat.zero_add, TR, T2, twiceP, x0, x1, x2, x3, x4, x5, y0, y4]; omega)
    · intro a1
      exfalso; simp only [Nat.reduceSub] at a1; omega
    · show locT (TR X H 1 2 3) (TR X H 2 4 3) (TR X H 2 1 4) (TR X H 2 4 1) (TR X H 2 3 4) = false
      exact loc_f (by simp only [TR, T2, twiceP, x0, x1, x2, x3, x4, x5, y0, y4]; omega)
    · show locT (TR X H 3 4 5) (TR X H 4 2 5) (TR X H 4 3 2) (TR X H 4 2 3) (TR X H 4 5 2) = false
      exact loc_f (by simp only [TR, T2, twiceP, x0, x1, x2, x3, x4, x5, y0, y4]; omega)
    · exact fun h => absurd h (by decide)
theorem w3_2_5 {X H : Nat → Int} (S : Sh3 X H) (W : WayR 6 X H 2 5) : Res 6 4 X H 2 5 := by
  obtain ⟨x0, x1, x2, x3, x4, x5, y0, y1, y2, y3, y4, y5⟩ := S
  have f0 : (0 < -(TR X H 0 1 5) ∧ 0 < TR X H 5 2 1) ∨ (-(TR X H 0 1 5) < 0 ∧ TR X H 5 2 1 < 0) := by
    have h0 : interP (X 2) (H 2) (X 5) (H 5) (X 0) (H 0) (X 1) (H 1) = false := W.fr 0 (by decide) (by decide) (by decide) (by decide) (by decide)
    have h := ns10 h0 (by omega) (by omega) (by omega) (by omega)
    rw [dl_2 (by omega), dr_1 (by omega)] at h
    exact h
  clear W
  simp only [TR, T2, twiceP, x0, x1, x2, x3, x4, x5, y0, y4] at f0
  replace f0 := f0.resolve_left (by omega)
  refine ⟨true, false, ?_, ⟨?_, ?_⟩, ?_, ?_, ?_⟩
  · intro v hv a1 a2
    obtain rfl | rfl | rfl | rfl := (by omega : v = 0 ∨ v = 1 ∨ v = 2 ∨ v = 3)
    · exfalso; simp only [Nat.reduceAdd, Nat.zero_add] at a1 a2; omega
    · exact pos_c (by simp only [Nat.reduceAdd, Nat.zero_add, TR, T2, twiceP, x0, x1, x2, x3, x4, x5, y0, y4]; omega)
    · exfalso; simp only [Nat.reduceAdd, Nat.zero_add] at a1 a2; omega
    · exfalso; simp only [Nat.reduceAdd, Nat.zero_add] at a1 a2; omega
  · intro v hv hv2 a1 a2
    obtain rfl := (by omega : v = 4)
    · exact neg_c (by simp only [Nat.reduceAdd, Nat.zero_add, TR, T2, twiceP, x0, x1, x2, x3, x4, x5, y0, y4]; omega)
  · intro a1
    exfalso; simp only [Nat.reduceSub] at a1; omega
  · show locT (TR X H 1 2 3) (TR X H 2 5 3) (TR X H 2 1 5) (TR X H 2 5 1) (TR X H 2 3 5) = true
    exact loc_t (by simp only [TR, T2, twiceP, x0, x1, x2, x3, x4, x5, y0, y4]; omega)
  · show locT (TR X H 4 5 0) (TR X H 5 2 0) (TR X H 5 4 2) (TR X H 5 2 4) (TR X H 5 0 2) = true
    exact loc_t (by simp only [TR, T2, twiceP, x0, x1, x2, x3, x4, x5, y0, y4]; omega)
  · refine fun _ => .inr <| .inl ⟨by omega, fun v hv n1 n2 a1 a2 => ?_⟩
    obtain rfl | rfl | rfl | rfl | rfl | rfl := (by omega : v = 0 ∨ v = 1 ∨ v = 2 ∨ v = 3 ∨ v = 4 ∨ v = 5)
    · exfalso; omega
    · exact .inl ⟨by omega, by simp only [TR, T2, twiceP, x0, x1, x2, x3, x4, x5, y0, y4]; omega⟩
    · exact absurd rfl n2
    · exfalso; omega
    · exfalso; omega
    · exact absurd rfl n1
theorem w3_3_5 {X H : Nat → Int} (S : Sh3 X H) (W : WayR 6 X H 3 5) : Res 6 4 X H 3 5 := by
  obtain ⟨x0, x1, x2, x3, x4, x5, y0, y1, y2, y3, y4, y5⟩ := S
  have f0 : (0 < -(TR X H 0 1 5) ∧ 0 < TR X H 5 3 1) ∨ (-(TR X H 0 1 5) < 0 ∧ TR X H 5 3 1 < 0) := by
    have h0 : interP (X 3) (H 3) (X 5) (H 5) (X 0) (H 0) (X 1) (H 1) = false := W.fr 0 (by decide) (by decide) (by decide) (by decide) (by decide)
    have h := ns10 h0 (by omega) (by omega) (by omega) (by omega)
    rw [dl_2 (by omega), dr_1 (by omega)] at h
    exact h
  have f1 : (0 < TR X H 5 3 1 ∧ 0 < TR X H 5 3 2) ∨ (TR X H 5 3 1 < 0 ∧ TR X H 5 3 2 < 0) := by
    have h0 : interP (X 3) (H 3) (X 5) (H 5) (X 1) (H 1) (X 2) (H 2) = false := W.fr 1 (by decide) (by decide) (by decide) (by decide) (by decide)
    have h := ns10 h0 (by omega) (by omega) (by omega) (by omega)
    rw [dl_1 (by omega), dr_1 (by omega)] at h
    exact h
  have z1 : TR X H 3 4 5 ≠ 0 := W.s1 rfl
  clear W
  simp only [TR, T2, twiceP, x0, x1, x2, x3, x4, x5, y0, y4] at f0 f1 z1
  replace f0 := f0.resolve_left (by omega)
  replace f1 := f1.resolve_left (by omega)
  refine ⟨true, false, ?_, ⟨?_, ?_⟩, ?_, ?_, ?_⟩
  · intro v hv a1 a2
    obtain rfl | rfl | rfl | rfl := (by omega : v = 0 ∨ v = 1 ∨ v = 2 ∨ v = 3)
    · exfalso; simp only [Nat.reduceAdd, Nat.zero_add] at a1 a2; omega
    · exact pos_c (by simp only [Nat.reduceAdd, Nat.zero_add, TR, T2, twiceP, x0, x1, x2, x3, x4, x5, y0, y4]; omega)
    · exact pos_c (by simp only [Nat.reduceAdd, Nat.zero_add, TR, T2, twiceP, x0, x1, x2, x3, x4, x5, y0, y4]; omega)
    · exfalso; simp only [Nat.reduceAdd, Nat.zero_add] at a1 a2; omega
  · intro v hv hv2 a1 a2
    obtain rfl := (by omega : v = 4)
    · exact neg_c (by simp only [Nat.reduceAdd, Nat.zero_add, TR, T2, twiceP, x0, x1, x2, x3, x4, x5, y0, y4]; omega)
  · intro a1
    exfalso; simp only [Nat.reduceSub] at a1; omega
  · show locT (TR X H 2 3 4) (TR X H 3 5 4) (TR X H 3 2 5) (TR X H 3 5 2) (TR X H 3 4 5) = true
    exact loc_t (by simp only [TR, T2, twiceP, x0, x1, x2, x3, x4, x5, y0, y4]; omega)
  · show locT (TR X H 4 5 0) (TR X H 5 3 0) (TR X H 5 4 3) (TR X H 5 3 4) (TR X H 5 0 3) = true
    exact loc_t (by simp only [TR, T2, twiceP, x0, x1, x2, x3, x4, x5, y0, y4]; omega)
  · refine fun _ => .inr <| .inl ⟨by omega, fun v hv n1 n2 a1 a2 => ?_⟩
    obtain rfl | rfl | rfl | rfl | rfl | rfl := (by omega : v = 0 ∨ v = 1 ∨ v = 2 ∨ v = 3 ∨ v = 4 ∨ v = 5)
    · exfalso; omega
    · exact .inl ⟨by omega, by simp only [TR, T2, twiceP, x0, x1, x2, x3, x4, x5, y0, y4]; omega⟩
    · exact .inl ⟨by omega, by simp only [TR, T2, twiceP, x0, x1, x2, x3, x4, x5, y0, y4]; omega⟩
    · exact absurd rfl n2
    · exfalso; omega
    · exact absurd rfl n1
theorem shape3 {X H : Nat → Int} (S : Sh3 X H) {i j : Nat} (W : WayR 6 X H i j) : Res 6 4 X H i j := by
  have hap := W.ap
  unfold Apart at hap
  obtain rfl | rfl | rfl | rfl : i = 0 ∨ i = 1 ∨ i = 2 ∨ i = 3 := by omega
  · obtain rfl | rfl | rfl : j = 2 ∨ j = 3 ∨ j = 4 := by omega
    · exact w3_0_2 S W
    · exact w3_0_3 S W
    · exact w3_0_4 S W
  · obtain rfl | rfl | rfl : j = 3 ∨ j = 4 ∨ j = 5 := by omega
    · exact w3_1_3 S W
    · exact w3_1_4 S W
    · exact w3_1_5 S W
  · obtain rfl | rfl : j = 4 ∨ j = 5 := by omega
    · exact w3_2_4 S W
    · exact w3_2_5 S W
  · obtain rfl : j = 5 := by omega
    · exact w3_3_5 S W

def Sh4 (X H : Nat → Int) : Prop := X 0 = 0 ∧ X 1 = 1 ∧ X 2 = 2 ∧ X 3 = 4 ∧ X 4 = 3 ∧ X 5 = 1 ∧ H 0 = 0 ∧ H 1 < 0 ∧ H 2 < 0 ∧ H 3 = 0 ∧ 0 < H 4 ∧ 0 < H 5
theorem ring4 {X H : Nat → Int} (S : Sh4 X H) : Ring 6 3 X H := by
  obtain ⟨x0, x1, x2, x3, x4, x5, y0, y1, y2, y3, y4, y5⟩ := S
  refine ⟨by omega, by omega, x0, ?_, ?_, ?_, y0, y3, ?_, ?_⟩
  · intro v hv
    obtain rfl | rfl | rfl := (by omega : v = 0 ∨ v = 1 ∨ v = 2) <;> (simp only [Nat.reduceAdd, Nat.zero_add]; omega)
  · intro v hv hv2
    obtain rfl | rfl := (by omega : v = 3 ∨ v = 4) <;> (simp only [Nat.reduceAdd, Nat.zero_add]; omega)
  · simp only [Nat.reduceSub]; omega
  · intro v hv hv2
    obtain rfl | rfl := (by omega : v = 1 ∨ v = 2) <;> assumption
  · intro v hv hv2
    obtain rfl | rfl := (by omega : v = 4 ∨ v = 5) <;> assumption
theorem w4_0_2 {X H : Nat → Int} (S : Sh4 X H) (W : WayR 6 X H 0 2) : Res 6 3 X H 0 2 := by
  obtain ⟨x0, x1, x2, x3, x4, x5, y0, y1, y2, y3, y4, y5⟩ := S
  have f4 : (0 < TR X H 0 2 5 ∧ 0 < -(TR X H 5 4 2)) ∨ (TR X H 0 2 5 < 0 ∧ -(TR X H 5 4 2) < 0) := by
    have h0 : interP (X 0) (H 0) (X 2) (H 2) (X 4) (H 4) (X 5) (H 5) = false := W.fr 4 (by decide) (by decide) (by decide) (by decide) (by decide)
    have h := ns01 h0 (by omega) (by omega) (by omega) (by omega)
    rw [dl_1 (by omega), dr_2 (by omega)] at h
    exact h
  have z1 : TR X H 0 1 2 ≠ 0 := W.s1 rfl
  clear W
  by_cases hc : TR X H 0 2 1 < 0
  · simp only [TR, T2, twiceP, x0, x1, x2, x3, x4, x5, y0, y3] at f4 z1 hc
    replace f4 := f4.resolve_right (by omega)
    refine ⟨true, false, ?_, ⟨?_, ?_⟩, ?_, ?_, ?_⟩
    · intro v hv a1 a2
      obtain rfl | rfl | rfl := (by omega : v = 0 ∨ v = 1 ∨ v = 2)
      · exact pos_c (by simp only [Nat.reduceAdd, Nat.zero_add, TR, T2, twiceP, x0, x1, x2, x3, x4, x5, y0, y3]; omega)
      · exact pos_c (by simp only [Nat.reduceAdd, Nat.zero_add, TR, T2, twiceP, x0, x1, x2, x3, x4, x5, y0, y3]; omega)
      · exfalso; simp only [Nat.reduceAdd, Nat.zero_add] at a1 a2; omega
    · intro v hv hv2 a1 a2
      obtain rfl | rfl := (by omega : v = 3 ∨ v = 4)
      · exfalso; simp only [Nat.reduceAdd, Nat.zero_add] at a1 a2; omega
      · exact neg_c (by simp only [Nat.reduceAdd, Nat.zero_add, TR, T2, twiceP, x0, x1, x2, x3, x4, x5, y0, y3]; omega)
    · intro a1
      exact neg_c (by simp only [Nat.reduceSub, TR, T2, twiceP, x0, x1, x2, x3, x4, x5, y0, y3]; omega)
    · show locT (TR X H 5 0 1) (TR X H 0 2 1) (TR X H 0 5 2) (TR X H 0 2 5) (TR X H 0 1 2) = true
      exact loc_t (by simp only [TR, T2, twiceP, x0, x1, x2, x3, x4, x5, y0, y3]; omega)
    · show locT (TR X H 1 2 3) (TR X H 2 0 3) (TR X H 2 1 0) (TR X H 2 0 1) (TR X H 2 3 0) = true
      exact loc_t (by simp only [TR, T2, twiceP, x0, x1, x2, x3, x4, x5, y0, y3]; omega)
    · refine fun _ => .inl ⟨by omega, fun v hv n1 n2 a1 a2 => ?_⟩
      obtain rfl | rfl | rfl | rfl | rfl | rfl := (by omega : v = 0 ∨ v = 1 ∨ v = 2 ∨ v = 3 ∨ v = 4 ∨ v = 5)
      · exact absurd rfl n1
      · exact .inl ⟨by omega, by simp only [TR, T2, twiceP, x0, x1, x2, x3, x4, x5, y0, y3]; omega⟩
      · exact absurd rfl n2
      · exfalso; omega
      · exfalso; omega
      · exact .inr ⟨by omega, by simp only [TR, T2, twiceP, x0, x1, x2, x3, x4, x5, y0, y3]; omega⟩
  · simp only [TR, T2, twiceP, x0, x1, x2, x3, x4, x5, y0, y3] at f4 z1 hc
    replace f4 := f4.resolve_right (by omega)
    refine ⟨false, false, ?_, ⟨?_, ?_⟩, ?_, ?_, ?_⟩
    · intro v hv a1 a2
      obtain rfl | rfl | rfl := (by omega : v = 0 ∨ v = 1 ∨ v = 2)
      · exact neg_c (by simp only [Nat.reduceAdd, Nat.zero_add, TR, T2, twiceP, x0, x1, x2, x3, x4, x5, y0, y3]; omega)
      · exact neg_c (by simp only [Nat.reduceAdd, Nat.zero_add, TR, T2, twiceP, x0, x1, x2, x3, x4, x5, y0, y3]; omega)
      · exfalso; simp only [Nat.reduceAdd, Nat.zero_add] at a1 a2; omega
    · intro v hv hv2 a1 a2
      obtain rfl | rfl := (by omega : v = 3 ∨ v = 4)
      · exfalso; simp only [Nat.reduceAdd, Nat.zero_add] at a1 a2; omega
      · exact neg_c (by simp only [Nat.reduceAdd, Nat.zero_add, TR, T2, twiceP, x0, x1, x2, x3, x4, x5, y0, y3]; omega)
    · intro a1
      exact neg_c (by simp only [Nat.reduceSub, TR, T2, twiceP, x0, x1, x2, x3, x4, x5, y0, y3]; omega)
    · show locT (TR X H 5 0 1) (TR X H 0 2 1) (TR X H 0 5 2) (TR X H 0 2 5) (TR X H 0 1 2) = false
      exact loc_f (by simp only [TR, T2, twiceP, x0, x1, x2, x3, x4, x5, y0, y3]; omega)
    · show locT (TR X H 1 2 3) (TR X H 2 0 3) (TR X H 2 1 0) (TR X H 2 0 1) (TR X H 2 3 0) = false
      exact loc_f (by simp only [TR, T2, twiceP, x0, x1, x2, x3, x4, x5, y0, y3]; omega)
    · exact fun h => absurd h (by decide)
theorem w4_0_3 {X H : Nat → Int} (S : Sh4 X H) (W : WayR 6 X H 0 3) : Res 6 3 X H 0 3 := by
  obtain ⟨x0, x1, x2, x3, x4, x5, y0, y1, y2, y3, y4, y5⟩ := S
  have f1 : (0 < TR X H 0 3 1 ∧ 0 < TR X H 0 3 2) ∨ (TR X H 0 3 1 < 0 ∧ TR X H 0 3 2 < 0) := by
    have h0 : interP (X 0) (H 0) (X 3) (H 3) (X 1) (H 1) (X 2) (H 2) = false := W.fr 1 (by decide) (by decide) (by decide) (by decide) (by decide)
    have h := ns00 h0 (by omega) (by omega) (by omega) (by omega)
    rw [dl_1 (by omega), dr_1 (by omega)] at h
    exact h
  have f4 : (0 < TR X H 0 3 5 ∧ 0 < TR X H 0 3 4) ∨ (TR X H 0 3 5 < 0 ∧ TR X H 0 3 4 < 0) := by
    have h0 : interP (X 0) (H 0) (X 3) (H 3) (X 4) (H 4) (X 5) (H 5) = false := W.fr 4 (by decide) (by decide) (by decide) (by decide) (by decide)
    have h := ns01 h0 (by omega) (by omega) (by omega) (by omega)
    rw [dl_1 (by omega), dr_1 (by omega)] at h
    exact h
  clear W
  simp only [TR, T2, twiceP, x0, x1, x2, x3, x4, x5, y0, y3] at f1 f4
  replace f4 := f4.resolve_right (by omega)
  replace f1 := f1.resolve_left (by omega)
  refine ⟨true, false, ?_, ⟨?_, ?_⟩, ?_, ?_, ?_⟩
  · intro v hv a1 a2
    obtain rfl | rfl | rfl := (by omega : v = 0 ∨ v = 1 ∨ v = 2)
    · exfalso; simp only [Nat.reduceAdd, Nat.zero_add] at a1 a2; omega
    · exact pos_c (by simp only [Nat.reduceAdd, Nat.zero_add, TR, T2, twiceP, x0, x1, x2, x3, x4, x5, y0, y3]; omega)
    · exact pos_c (by simp only [Nat.reduceAdd, Nat.zero_add, TR, T2, twiceP, x0, x1, x2, x3, x4, x5, y0, y3]; omega)
  · intro v hv hv2 a1 a2
    obtain rfl | rfl := (by omega : v = 3 ∨ v = 4)
    · exfalso; simp only [Nat.reduceAdd, Nat.zero_add] at a1 a2; omega
    · exact neg_c (by simp only [Nat.reduceAdd, Nat.zero_add, TR, T2, twiceP, x0, x1, x2, x3, x4, x5, y0, y3]; omega)
  · intro a1
    exfalso; simp only [Nat.reduceSub] at a1; omega
  · show locT (TR X H 5 0 1) (TR X H 0 3 1) (TR X H 0 5 3) (TR X H 0 3 5) (TR X H 0 1 3) = true
    exact loc_t (by simp only [TR, T2, twiceP, x0, x1, x2, x3, x4, x5, y0, y3]; omega)
  · show locT (TR X H 2 3 4) (TR X H 3 0 4) (TR X H 3 2 0) (TR X H 3 0 2) (TR X H 3 4 0) = true
    exact loc_t (by simp only [TR, T2, twiceP, x0, x1, x2, x3, x4, x5, y0, y3]; omega)
  · refine fun _ => .inl ⟨by omega, fun v hv n1 n2 a1 a2 => ?_⟩
    obtain rfl | rfl | rfl | rfl | rfl | rfl := (by omega : v = 0 ∨ v = 1 ∨ v = 2 ∨ v = 3 ∨ v = 4 ∨ v = 5)
    · exact absurd rfl n1
    · exact .inl ⟨by omega, by simp only [TR, T2, twiceP, x0, x1, x2, x3, x4, x5, y0, y3]; omega⟩
    · exact .inl ⟨by omega, by simp only [TR, T2, twiceP, x0, x1, x2, x3, x4, x5, y0, y3]; omega⟩
    · exact absurd rfl n2
    · exact .inr ⟨by omega, by simp only [TR, T2, twiceP, x0, x1, x2, x3, x4, x5, y0, y3]; omega⟩
    · exact .inr ⟨by omega, by simp only [TR, T2, twiceP, x0, x1, x2, x3, x4, x5, y0, y3]; omega⟩
theorem w4_0_4 {X H : Nat → Int} (S : Sh4 X H) (W : WayR 6 X H 0 4) : Res 6 3 X H 0 4 := by
  obtain ⟨x0, x1, x2, x3, x4, x5, y0, y1, y2, y3, y4, y5⟩ := S
  have f1 : (0 < TR X H 0 4 1 ∧ 0 < TR X H 0 4 2) ∨ (TR X H 0 4 1 < 0 ∧ TR X H 0 4 2 < 0) := by
    have h0 : interP (X 0) (H 0) (X 4) (H 4) (X 1) (H 1) (X 2) (H 2) = false := W.fr 1 (by decide) (by decide) (by decide) (by decide) (by decide)
    have h := ns00 h0 (by omega) (by omega) (by omega) (by omega)
    rw [dl_1 (by omega), dr_1 (by omega)] at h
    exact h
  have f2 : (0 < TR X H 0 4 2 ∧ 0 < -(TR X H 2 3 4)) ∨ (TR X H 0 4 2 < 0 ∧ -(TR X H 2 3 4) < 0) := by
    have h0 : interP (X 0) (H 0) (X 4) (H 4) (X 2) (H 2) (X 3) (H 3) = false := W.fr 2 (by decide) (by decide) (by decide) (by decide) (by decide)
    have h := ns00 h0 (by omega) (by omega) (by omega) (by omega)
    rw [dl_1 (by omega), dr_2 (by omega)] at h
    exact h
  have z2 : TR X H 4 5 0 ≠ 0 := W.s2 rfl
  clear W
  by_cases hc : 0 < TR X H 0 4 5
  · simp only [TR, T2, twiceP, x0, x1, x2, x3, x4, x5, y0, y3] at f1 f2 z2 hc
    replace f1 := f1.resolve_left (by omega)
    replace f2 := f2.resolve_left (by omega)
    refine ⟨true, false, ?_, ⟨?_, ?_⟩, ?_, ?_, ?_⟩
    · intro v hv a1 a2
      obtain rfl | rfl | rfl := (by omega : v = 0 ∨ v = 1 ∨ v = 2)
      · exfalso; simp only [Nat.reduceAdd, Nat.zero_add] at a1 a2; omega
      · exact pos_c (by simp only [Nat.reduceAdd, Nat.zero_add, TR, T2, twiceP, x0, x1, x2, x3, x4, x5, y0, y3]; omega)
      · exfalso; simp only [Nat.reduceAdd, Nat.zero_add] at a1 a2; omega
    · intro v hv hv2 a1 a2
      obtain rfl | rfl := (by omega : v = 3 ∨ v = 4)
      · exfalso; simp only [Nat.reduceAdd, Nat.zero_add] at a1 a2; omega
      · exact neg_c (by simp only [Nat.reduceAdd, Nat.zero_add, TR, T2, twiceP, x0, x1, x2, x3, x4, x5, y0, y3]; omega)
    · intro a1
      exfalso; simp only [Nat.reduceSub] at a1; omega
    · show locT (TR X H 5 0 1) (TR X H 0 4 1) (TR X H 0 5 4) (TR X H 0 4 5) (TR X H 0 1 4) = true
      exact loc_t (by simp only [TR, T2, twiceP, x0, x1, x2, x3, x4, x5, y0, y3]; omega)
    · show locT (TR X H 3 4 5) (TR X H 4 0 5) (TR X H 4 3 0) (TR X H 4 0 3) (TR X H 4 5 0) = true
      exact loc_t (by simp only [TR, T2, twiceP, x0, x1, x2, x3, x4, x5, y0, y3]; omega)
    · refine fun _ => .inl ⟨by omega, fun v hv n1 n2 a1 a2 => ?_⟩
      obtain rfl | rfl | rfl | rfl | rfl | rfl := (by omega : v = 0 ∨ v = 1 ∨ v = 2 ∨ v = 3 ∨ v = 4 ∨ v = 5)
      · exact absurd rfl n1
      · exact .inl ⟨by omega, by simp only [TR, T2, twiceP, x0, x1, x2, x3, x4, x5, y0, y3]; omega⟩
      · exact .inl ⟨by omega, by simp only [TR, T2, twiceP, x0, x1, x2, x3, x4, x5, y0, y3]; omega⟩
      · exfalso; omega
      · exact absurd rfl n2
      · exact .inr ⟨by omega, by simp only [TR, T2, twiceP, x0, x1, x2, x3, x4, x5, y0, y3]; omega⟩
  · simp only [TR, T2, twiceP, x0, x1, x2, x3, x4, x5, y0, y3] at f1 f2 z2 hc
    replace f1 := f1.resolve_left (by omega)
    replace f2 := f2.resolve_left (by omega)
    refine ⟨true, true, ?_, ⟨?_, ?_⟩, ?_, ?_, ?_⟩
    · intro v hv a1 a2
      obtain rfl | rfl | rfl := (by omega : v = 0 ∨ v = 1 ∨ v = 2)
      · exfalso; simp only [Nat.reduceAdd, Nat.zero_add] at a1 a2; omega
      · exact pos_c (by simp only [Nat.reduceAdd, Nat.zero_add, TR, T2, twiceP, x0, x1, x2, x3, x4, x5, y0, y3]; omega)
      · exfalso; simp only [Nat.reduceAdd, Nat.zero_add] at a1 a2; omega
    · intro v hv hv2 a1 a2
      obtain rfl | rfl := (by omega : v = 3 ∨ v = 4)
      · exfalso; simp only [Nat.reduceAdd, Nat.zero_add] at a1 a2; omega
      · exact pos_c (by simp only [Nat.reduceAdd, Nat.zero_add, TR, T2, twiceP, x0, x1, x2, x3, x4, x5, y0, y3]; omega)
    · intro a1
      exfalso; simp only [Nat.reduceSub] at a1; omega
    · show locT (TR X H 5 0 1) (TR X H 0 4 1) (TR X H 0 5 4) (TR X H 0 4 5) (TR X H 0 1 4) = false
      exact loc_f (by simp only [TR, T2, twiceP, x0, x1, x2, x3, x4, x5, y0, y3]; omega)
    · show locT (TR X H 3 4 5) (TR X H 4 0 5) (TR X H 4 3 0) (TR X H 4 0 3) (TR X H 4 5 0) = false
      exact loc_f (by simp only [TR, T2, twiceP, x0, x1, x2, x3, x4, x5, y0, y3]; omega)
    · exact fun h => absurd h (by decide)
theorem w4_1_3 {X H : Nat → Int} (S : Sh4 X H) (W : WayR 6 X H 1 3) : Res 6 3 X H 1 3 := by
  obtain ⟨x0, x1, x2, x3, x4, x5, y0, y1, y2, y3, y4, y5⟩ := S
  have f4 : (0 < TR X H 1 3 5 ∧ 0 < TR X H 1 3 4) ∨ (TR X H 1 3 5 < 0 ∧ TR X H 1 3 4 < 0) := by
    have h0 : interP (X 1) (H 1) (X 3) (H 3) (X 4) (H 4) (X 5) (H 5) = false := W.fr 4 (by decide) (by decide) (by decide) (by decide) (by decide)
    have h := ns01 h0 (by omega) (by omega) (by omega) (by omega)
    rw [dl_1 (by omega), dr_1 (by omega)] at h
    exact h
  have f5 : (0 < -(TR X H 0 5 1) ∧ 0 < TR X H 1 3 5) ∨ (-(TR X H 0 5 1) < 0 ∧ TR X H 1 3 5 < 0) := by
    have h0 : interP (X 1) (H 1) (X 3) (H 3) (X 5) (H 5) (X 0) (H 0) = false := W.fr 5 (by decide) (by decide) (by decide) (by decide) (by decide)
    have h := ns01 h0 (by omega) (by omega) (by omega) (by omega)
    rw [dl_2 (by omega), dr_1 (by omega)] at h
    exact h
  have z1 : TR X H 1 2 3 ≠ 0 := W.s1 rfl
  clear W
  by_cases hc : TR X H 1 3 2 < 0
  · simp only [TR, T2, twiceP, x0, x1, x2, x3, x4, x5, y0, y3] at f4 f5 z1 hc
    replace f5 := f5.resolve_right (by omega)
    replace f4 := f4.resolve_right (by omega)
    refine ⟨true, false, ?_, ⟨?_, ?_⟩, ?_, ?_, ?_⟩
    · intro v hv a1 a2
      obtain rfl | rfl | rfl := (by omega : v = 0 ∨ v = 1 ∨ v = 2)
      · exfalso; simp only [Nat.reduceAdd, Nat.zero_add] at a1 a2; omega
      · exfalso; simp only [Nat.reduceAdd, Nat.zero_add] at a1 a2; omega
      · exact pos_c (by simp only [Nat.reduceAdd, Nat.zero_add, TR, T2, twiceP, x0, x1, x2, x3, x4, x5, y0, y3]; omega)
    · intro v hv hv2 a1 a2
      obtain rfl | rfl := (by omega : v = 3 ∨ v = 4)
      · exfalso; simp only [Nat.reduceAdd, Nat.zero_add] at a1 a2; omega
      · exact neg_c (by simp only [Nat.reduceAdd, Nat.zero_add, TR, T2, twiceP, x0, x1, x2, x3, x4, x5, y0, y3]; omega)
    · intro a1
      exfalso; simp only [Nat.reduceSub] at a1; omega
    · show locT (TR X H 0 1 2) (TR X H 1 3 2) (TR X H 1 0 3) (TR X H 1 3 0) (TR X H 1 2 3) = true
      exact loc_t (by simp only [TR, T2, twiceP, x0, x1, x2, x3, x4, x5, y0, y3]; omega)
    · show locT (TR X H 2 3 4) (TR X H 3 1 4) (TR X H 3 2 1) (TR X H 3 1 2) (TR X H 3 4 1) = true
      exact loc_t (by simp only [TR, T2, twiceP, x0, x1, x2, x3, x4, x5, y0, y3]; omega)
    · refine fun _ => .inl ⟨by omega, fun v hv n1 n2 a1 a2 => ?_⟩
      obtain rfl | rfl | rfl | rfl | rfl | rfl := (by omega : v = 0 ∨ v = 1 ∨ v = 2 ∨ v = 3 ∨ v = 4 ∨ v = 5)
      · exfalso; omega
      · exact absurd rfl n1
      · exact .inl ⟨by omega, by simp only [TR, T2, twiceP, x0, x1, x2, x3, x4, x5, y0, y3]; omega⟩
      · exact absurd rfl n2
      · exact .inr ⟨by omega, by simp only [TR, T2, twiceP, x0, x1, x2, x3, x4, x5, y0, y3]; omega⟩
      · exact .inr ⟨by omega, by simp only [TR, T2, twiceP, x0, x1, x2, x3, x4, x5, y0, y3]; omega⟩
  · simp only [TR, T2, twiceP, x0, x1, x2, x3, x4, x5, y0, y3] at f4 f5 z1 hc
    replace f5 := f5.resolve_right (by omega)
    replace f4 := f4.resolve_right (by omega)
    refine ⟨false, false, ?_, ⟨?_, ?_⟩, ?_, ?_, ?_⟩
    · intro v hv a1 a2
      obtain rfl | rfl | rfl := (by omega : v = 0 ∨ v = 1 ∨ v = 2)
      · exfalso; simp only [Nat.reduceAdd, Nat.zero_add] at a1 a2; omega
      · exfalso; simp only [Nat.reduceAdd, Nat.zero_add] at a1 a2; omega
      · exact neg_c (by simp only [Nat.reduceAdd, Nat.zero_add, TR, T2, twiceP, x0, x1, x2, x3, x4, x5, y0, y3]; omega)
    · intro v hv hv2 a1 a2
      obtain rfl | rfl := (by omega : v = 3 ∨ v = 4)
      · exfalso; simp only [Nat.reduceAdd, Nat.zero_add] at a1 a2; omega
      · exact neg_c (by simp only [Nat.reduceAdd, Nat.zero_add, TR, T2, twiceP, x0, x1, x2, x3, x4, x5, y0, y3]; omega)
    · intro a1
      exfalso; simp only [Nat.reduceSub] at a1; omega
    · show locT (TR X H 0 1 2) (TR X H 1 3 2) (TR X H 1 0 3) (TR X H 1 3 0) (TR X H 1 2 3) = false
      exact loc_f (by simp only [TR, T2, twiceP, x0, x1, x2, x3, x4, x5, y0, y3]; omega)
    · show locT (TR X H 2 3 4) (TR X H 3 1 4) (TR X H 3 2 1) (TR X H 3 1 2) (TR X H 3 4 1) = false
      exact loc_f (by simp only [TR, T2, twiceP, x0, x1, x2, x3, x4, x5, y0, y3]; omega)
    · exact fun h => absurd h (by decide)
theorem w4_1_4 {X H : Nat → Int} (S : Sh4 X H) (W : WayR 6 X H 1 4) : Res 6 3 X H 1 4 := by
  obtain ⟨x0, x1, x2, x3, x4, x5, y0, y1, y2, y3, y4, y5⟩ := S
  have f2 : (0 < TR X H 1 4 2 ∧ 0 < -(TR X H 2 3 4)) ∨ (TR X H 1 4 2 < 0 ∧ -(TR X H 2 3 4) < 0) := by
    have h0 : interP (X 1) (H 1) (X 4) (H 4) (X 2) (H 2) (X 3) (H 3) = false := W.fr 2 (by decide) (by decide) (by decide) (by decide) (by decide)
    have h := ns00 h0 (by omega) (by omega) (by omega) (by omega)
    rw [dl_1 (by omega), dr_2 (by omega)] at h
    exact h
  have f5 : (0 < -(TR X H 0 5 1) ∧ 0 < TR X H 1 4 5) ∨ (-(TR X H 0 5 1) < 0 ∧ TR X H 1 4 5 < 0) := by
    have h0 : interP (X 1) (H 1) (X 4) (H 4) (X 5) (H 5) (X 0) (H 0) = false := W.fr 5 (by decide) (by decide) (by decide) (by decide) (by decide)
    have h := ns01 h0 (by omega) (by omega) (by omega) (by omega)
    rw [dl_2 (by omega), dr_1 (by omega)] at h
    exact h
  clear W
  simp only [TR, T2, twiceP, x0, x1, x2, x3, x4, x5, y0, y3] at f2 f5
  replace f2 := f2.resolve_left (by omega)
  replace f5 := f5.resolve_right (by omega)
  refine ⟨true, false, ?_, ⟨?_, ?_⟩, ?_, ?_, ?_⟩
  · intro v hv a1 a2
    obtain rfl | rfl | rfl := (by omega : v = 0 ∨ v = 1 ∨ v = 2)
    · exfalso; simp only [Nat.reduceAdd, Nat.zero_add] at a1 a2; omega
    · exact pos_c (by simp only [Nat.reduceAdd, Nat.zero_add, TR, T2, twiceP, x0, x1, x2, x3, x4, x5, y0, y3]; omega)
    · exact pos_c (by simp only [Nat.reduceAdd, Nat.zero_add, TR, T2, twiceP, x0, x1, x2, x3, x4, x5, y0, y3]; omega)
  · intro v hv hv2 a1 a2
    obtain rfl | rfl := (by omega : v = 3 ∨ v = 4)
    · exfalso; simp only [Nat.reduceAdd, Nat.zero_add] at a1 a2; omega
    · exact neg_c (by simp only [Nat.reduceAdd, Nat.zero_add, TR, T2, twiceP, x0, x1, x2, x3, x4, x5, y0, y3]; omega)
  · intro a1
    exfalso; simp only [Nat.reduceSub] at a1; omega
  · show locT (TR X H 0 1 2) (TR X H 1 4 2) (TR X H 1 0 4) (TR X H 1 4 0) (TR X H 1 2 4) = true
    exact loc_t (by simp only [TR, T2, twiceP, x0, x1, x2, x3, x4, x5, y0, y3]; omega)
  · show locT (TR X H 3 4 5) (TR X H 4 1 5) (TR X H 4 3 1) (TR X H 4 1 3) (TR X H 4 5 1) = true
    exact loc_t (by simp only [TR, T2, twiceP, x0, x1, x2, x3, x4, x5, y0, y3]; omega)
  · refine fun _ => .inl ⟨by omega, fun v hv n1 n2 a1 a2 => ?_⟩
    obtain rfl | rfl | rfl | rfl | rfl | rfl := (by omega : v = 0 ∨ v = 1 ∨ v = 2 ∨ v = 3 ∨ v = 4 ∨ v = 5)
    · exfalso; omega
    · exact absurd rfl n1
    · exact .inl ⟨by omega, by simp only [TR, T2, twiceP, x0, x1, x2, x3, x4, x5, y0, y3]; omega⟩
    · exfalso; omega
    · exact absurd rfl n2
    · exact .inr ⟨by omega, by simp only [TR, T2, twiceP, x0, x1, x2, x3, x4, x5, y0, y3]; omega⟩
theorem w4_1_5 {X H : Nat → Int} (S : Sh4 X H) (W : WayR 6 X H 1 5) : Res 6 3 X H 1 5 := by
  obtain ⟨x0, x1, x2, x3, x4, x5, y0, y1, y2, y3, y4, y5⟩ := S
  clear W
  refine ⟨true, false, ?_, ⟨?_, ?_⟩, ?_, ?_, ?_⟩
  · intro v hv a1 a2
    obtain rfl | rfl | rfl := (by omega : v = 0 ∨ v = 1 ∨ v = 2)
    · exact pos_c (by simp only [Nat.reduceAdd, Nat.zero_add, TR, T2, twiceP, x0, x1, x2, x3, x4, x5, y0, y3]; omega)
    · exact pos_c (by simp only [Nat.reduceAdd, Nat.zero_add, TR, T2, twiceP, x0, x1, x2, x3, x4, x5, y0, y3]; omega)
    · exfalso; simp only [Nat.reduceAdd, Nat.zero_add] at a1 a2; omega
  · intro v hv hv2 a1 a2
    obtain rfl | rfl := (by omega : v = 3 ∨ v = 4)
    · exfalso; simp only [Nat.reduceAdd, Nat.zero_add] at a1 a2; omega
    · exact neg_c (by simp only [Nat.reduceAdd, Nat.zero_add, TR, T2, twiceP, x0, x1, x2, x3, x4, x5, y0, y3]; omega)
  · intro a1
    exact neg_c (by simp only [Nat.reduceSub, TR, T2, twiceP, x0, x1, x2, x3, x4, x5, y0, y3]; omega)
  · show locT (TR X H 0 1 2) (TR X H 1 5 2) (TR X H 1 0 5) (TR X H 1 5 0) (TR X H 1 2 5) = true
    exact loc_t (by simp only [TR, T2, twiceP, x0, x1, x2, x3, x4, x5, y0, y3]; omega)
  · show locT (TR X H 4 5 0) (TR X H 5 1 0) (TR X H 5 4 1) (TR X H 5 1 4) (TR X H 5 0 1) = true
    exact loc_t (by simp only [TR, T2, twiceP, x0, x1, x2, x3, x4, x5, y0, y3]; omega)
  · exact fun _ => .inr (.inr ⟨by omega, by omega, by omega⟩)
theorem w4_2_4 {X H : Nat → Int} (S : Sh4 X H) (W : WayR 6 X H 2 4) : Res 6 3 X H 2 4 := by
  obtain ⟨x0, x1, x2, x3, x4, x5, y0, y1, y2, y3, y4, y5⟩ := S
  have z1 : TR X H 2 3 4 ≠ 0 := W.s1 rfl
  clear W
  simp only [TR, T2, twiceP, x0, x1, x2, x3, x4, x5, y0, y3] at z1
  refine ⟨true, false, ?_, ⟨?_, ?_⟩, ?_, ?_, ?_⟩
  · intro v hv a1 a2
    obtain rfl | rfl | rfl := (by omega : v = 0 ∨ v = 1 ∨ v = 2)
    · exfalso; simp only [Nat.reduceAdd, Nat.zero_add] at a1 a2; omega
    · exfalso; simp only [Nat.reduceAdd, Nat.zero_add] at a1 a2; omega
    · exact pos_c (by simp only [Nat.reduceAdd, Nat.zero_add, TR, T2, twiceP, x0, x1, x2, x3, x4, x5, y0, y3]; omega)
  · intro v hv hv2 a1 a2
    obtain rfl | rfl := (by omega : v = 3 ∨ v = 4)
    · exfalso; simp only [Nat.reduceAdd, Nat.zero_add] at a1 a2; omega
    · exact neg_c (by simp only [Nat.reduceAdd, Nat.zero_add, TR, T2, twiceP, x0, x1, x2, x3, x4, x5, y0, y3]; omega)
  · intro a1
    exfalso; simp only [Nat.reduceSub] at a1; omega
  · show locT (TR X H 1 2 3) (TR X H 2 4 3) (TR X H 2 1 4) (TR X H 2 4 1) (TR X H 2 3 4) = true
    exact loc_t (by simp only [TR, T2, twiceP, x0, x1, x2, x3, x4, x5, y0, y3]; omega)
  · show locT (TR X H 3 4 5) (TR X H 4 2 5) (TR X H 4 3 2) (TR X H 4 2 3) (TR X H 4 5 2) = true
    exact loc_t (by simp only [TR, T2, twiceP, x0, x1, x2, x3, x4, x5, y0, y3]; omega)
  · refine fun _ => .inl ⟨by omega, fun v hv n1 n2 a1 a2 => ?_⟩
    obtain rfl | rfl | rfl | rfl | rfl | rfl := (by omega : v = 0 ∨ v = 1 ∨ v = 2 ∨ v = 3 ∨ v = 4 ∨ v = 5)
    · exfalso; omega
    · exfalso; omega
    · exact absurd rfl n1
    · exfalso; omega
    · exact absurd rfl n2
    · exfalso; omega
theorem w4_2_5 {X H : Nat → Int} (S : Sh4 X H) (W : WayR 6 X H 2 5) : Res 6 3 X H 2 5 := by
  obtain ⟨x0, x1, x2, x3, x4, x5, y0, y1, y2, y3, y4, y5⟩ := S
  have f0 : (0 < -(TR X H 0 1 5) ∧ 0 < TR X H 5 2 1) ∨ (-(TR X H 0 1 5) < 0 ∧ TR X H 5 2 1 < 0) := by
    have h0 : interP (X 2) (H 2) (X 5) (H 5) (X 0) (H 0) (X 1) (H 1) = false := W.fr 0 (by decide) (by decide) (by decide) (by decide) (by decide)
    have h := ns10 h0 (by omega) (by omega) (by omega) (by omega)
    rw [dl_2 (by omega), dr_1 (by omega)] at h
    exact h
  clear W
  simp only [TR, T2, twiceP, x0, x1, x2, x3, x4, x5, y0, y3] at f0
  replace f0 := f0.resolve_left (by omega)
  refine ⟨true, false, ?_, ⟨?_, ?_⟩, ?_, ?_, ?_⟩
  · intro v hv a1 a2
    obtain rfl | rfl | rfl := (by omega : v = 0 ∨ v = 1 ∨ v = 2)
    · exfalso; simp only [Nat.reduceAdd, Nat.zero_add] at a1 a2; omega
    · exact pos_c (by simp only [Nat.reduceAdd, Nat.zero_add, TR, T2, twiceP, x0, x1, x2, x3, x4, x5, y0, y3]; omega)
    · exfalso; simp only [Nat.reduceAdd, Nat.zero_add] at a1 a2; omega
  · intro v hv hv2 a1 a2
    obtain rfl | rfl := (by omega : v = 3 ∨ v = 4)
    · exfalso; simp only [Nat.reduceAdd, Nat.zero_add] at a1 a2; omega
    · exact neg_c (by simp only [Nat.reduceAdd, Nat.zero_add, TR, T2, twiceP, x0, x1, x2, x3, x4, x5, y0, y3]; omega)
  · intro a1
    exfalso; simp only [Nat.reduceSub] at a1; omega
  · show locT (TR X H 1 2 3) (TR X H 2 5 3) (TR X H 2 1 5) (TR X H 2 5 1) (TR X H 2 3 5) = true
    exact loc_t (by simp only [TR, T2, twiceP, x0, x1, x2, x3, x4, x5, y0, y3]; omega)
  · show locT (TR X H 4 5 0) (TR X H 5 2 0) (TR X H 5 4 2) (TR X H 5 2 4) (TR X H 5 0 2) = true
    exact loc_t (by simp only [TR, T2, twiceP, x0, x1, x2, x3, x4, x5, y0, y3]; omega)
  · refine fun _ => .inr <| .inl ⟨by omega, fun v hv n1 n2 a1 a2 => ?_⟩
    obtain rfl | rfl | rfl | rfl | rfl | rfl := (by omega : v = 0 ∨ v = 1 ∨ v = 2 ∨ v = 3 ∨ v = 4 ∨ v = 5)
    · exfalso; omega
    · exact .inl ⟨by omega, by simp only [TR, T2, twiceP, x0, x1, x2, x3, x4, x5, y0, y3]; omega⟩
    · exact absurd rfl n2
    · exfalso; omega
    · exfalso; omega
    · exact absurd rfl n1
theorem w4_3_5 {X H : Nat → Int} (S : Sh4 X H) (W : WayR 6 X H 3 5) : Res 6 3 X H 3 5 := by
  obtain ⟨x0, x1, x2, x3, x4, x5, y0, y1, y2, y3, y4, y5⟩ := S
  have f0 : (0 < -(TR X H 0 1 5) ∧ 0 < TR X H 5 3 1) ∨ (-(TR X H 0 1 5) < 0 ∧ TR X H 5 3 1 < 0) := by
    have h0 : interP (X 3) (H 3) (X 5) (H 5) (X 0) (H 0) (X 1) (H 1) = false := W.fr 0 (by decide) (by decide) (by decide) (by decide) (by decide)
    have h := ns10 h0 (by omega) (by omega) (by omega) (by omega)
    rw [dl_2 (by omega), dr_1 (by omega)] at h
    exact h
  have f1 : (0 < TR X H 5 3 1 ∧ 0 < TR X H 5 3 2) ∨ (TR X H 5 3 1 < 0 ∧ TR X H 5 3 2 < 0) := by
    have h0 : interP (X 3) (H 3) (X 5) (H 5) (X 1) (H 1) (X 2) (H 2) = false := W.fr 1 (by decide) (by decide) (by decide) (by decide) (by decide)
    have h := ns10 h0 (by omega) (by omega) (by omega) (by omega)
    rw [dl_1 (by omega), dr_1 (by omega)] at h
    exact h
  have z1 : TR X H 3 4 5 ≠ 0 := W.s1 rfl
  clear W
  by_cases hc : 0 < TR X H 5 3 4
  · simp only [TR, T2, twiceP, x0, x1, x2, x3, x4, x5, y0, y3] at f0 f1 z1 hc
    replace f0 := f0.resolve_left (by omega)
    replace f1 := f1.resolve_left (by omega)
    refine ⟨true, false, ?_, ⟨?_, ?_⟩, ?_, ?_, ?_⟩
    · intro v hv a1 a2
      obtain rfl | rfl | rfl := (by omega : v = 0 ∨ v = 1 ∨ v = 2)
      · exfalso; simp only [Nat.reduceAdd, Nat.zero_add] at a1 a2; omega
      · exfalso; simp only [Nat.reduceAdd, Nat.zero_add] at a1 a2; omega
      · exact pos_c (by simp only [Nat.reduceAdd, Nat.zero_add, TR, T2, twiceP, x0, x1, x2, x3, x4, x5, y0, y3]; omega)
    · intro v hv hv2 a1 a2
      obtain rfl | rfl := (by omega : v = 3 ∨ v = 4)
      · exfalso; simp only [Nat.reduceAdd, Nat.zero_add] at a1 a2; omega
      · exact neg_c (by simp only [Nat.reduceAdd, Nat.zero_add, TR, T2, twiceP, x0, x1, x2, x3, x4, x5, y0, y3]; omega)
    · intro a1
      exfalso; simp only [Nat.reduceSub] at a1; omega
    · show locT (TR X H 2 3 4) (TR X H 3 5 4) (TR X H 3 2 5) (TR X H 3 5 2) (TR X H 3 4 5) = true
      exact loc_t (by simp only [TR, T2, twiceP, x0, x1, x2, x3, x4, x5, y0, y3]; omega)
    · show locT (TR X H 4 5 0) (TR X H 5 3 0) (TR X H 5 4 3) (TR X H 5 3 4) (TR X H 5 0 3) = true
      exact loc_t (by simp only [TR, T2, twiceP, x0, x1, x2, x3, x4, x5, y0, y3]; omega)
    · refine fun _ => .inr <| .inl ⟨by omega, fun v hv n1 n2 a1 a2 => ?_⟩
      obtain rfl | rfl | rfl | rfl | rfl | rfl := (by omega : v = 0 ∨ v = 1 ∨ v = 2 ∨ v = 3 ∨ v = 4 ∨ v = 5)
      · exfalso; omega
      · exact .inl ⟨by omega, by simp only [TR, T2, twiceP, x0, x1, x2, x3, x4, x5, y0, y3]; omega⟩
      · exact .inl ⟨by omega, by simp only [TR, T2, twiceP, x0, x1, x2, x3, x4, x5, y0, y3]; omega⟩
      · exact absurd rfl n2
      · exact .inr ⟨by omega, by simp only [TR, T2, twiceP, x0, x1, x2, x3, x4, x5, y0, y3]; omega⟩
      · exact absurd rfl n1
  · simp only [TR, T2, twiceP, x0, x1, x2, x3, x4, x5, y0, y3] at f0 f1 z1 hc
    replace f0 := f0.resolve_left (by omega)
    replace f1 := f1.resolve_left (by omega)
    refine ⟨true, true, ?_, ⟨?_, ?_⟩, ?_, ?_, ?_⟩
    · intro v hv a1 a2
      obtain rfl | rfl | rfl := (by omega : v = 0 ∨ v = 1 ∨ v = 2)
      · exfalso; simp only [Nat.reduceAdd, Nat.zero_add] at a1 a2; omega
      · exfalso; simp only [Nat.reduceAdd, Nat.zero_add] at a1 a2; omega
      · exact pos_c (by simp only [Nat.reduceAdd, Nat.zero_add, TR, T2, twiceP, x0, x1, x2, x3, x4, x5, y0, y3]; omega)
    · intro v hv hv2 a1 a2
      obtain rfl | rfl := (by omega : v = 3 ∨ v = 4)
      · exfalso; simp only [Nat.reduceAdd, Nat.zero_add] at a1 a2; omega
      · exact pos_c (by simp only [Nat.reduceAdd, Nat.zero_add, TR, T2, twiceP, x0, x1, x2, x3, x4, x5, y0, y3]; omega)
    · intro a1
      exfalso; simp only [Nat.reduceSub] at a1; omega
    · show locT (TR X H 2 3 4) (TR X H 3 5 4) (TR X H 3 2 5) (TR X H 3 5 2) (TR X H 3 4 5) = false
      exact loc_f (by simp only [TR, T2, twiceP, x0, x1, x2, x3, x4, x5, y0, y3]; omega)
    · show locT (TR X H 4 5 0) (TR X H 5 3 0) (TR X H 5 4 3) (TR X H 5 3 4) (TR X H 5 0 3) = false
      exact loc_f (by simp only [TR, T2, twiceP, x0, x1, x2, x3, x4, x5, y0, y3]; omega)
    · exact fun h => absurd h (by decide)
theorem shape4 {X H : Nat → Int} (S : Sh4 X H) {i j : Nat} (W : WayR 6 X H i j) : Res 6 3 X H i j := by
  have hap := W.ap
  unfold Apart at hap
  obtain rfl | rfl | rfl | rfl : i = 0 ∨ i = 1 ∨ i = 2 ∨ i = 3 := by omega
  · obtain rfl | rfl | rfl : j = 2 ∨ j = 3 ∨ j = 4 := by omega
    · exact w4_0_2 S W
    · exact w4_0_3 S W
    · exact w4_0_4 S W
  · obtain rfl | rfl | rfl : j = 3 ∨ j = 4 ∨ j = 5 := by omega
    · exact w4_1_3 S W
    · exact w4_1_4 S W
    · exact w4_1_5 S W
  · obtain rfl | rfl : j = 4 ∨ j = 5 := by omega
    · exact w4_2_4 S W
    · exact w4_2_5 S W
  · obtain rfl : j = 5 := by omega
    · exact w4_3_5 S W

def Sh5 (X H : Nat → Int) : Prop := X 0 = 0 ∧ X 1 = 1 ∧ X 2 = 3 ∧ X 3 = 4 ∧ X 4 = 2 ∧ X 5 = 1 ∧ H 0 = 0 ∧ H 1 < 0 ∧ H 2 < 0 ∧ H 3 = 0 ∧ 0 < H 4 ∧ 0 < H 5
theorem ring5 {X H : Nat → Int} (S : Sh5 X H) : Ring 6 3 X H := by
  obtain ⟨x0, x1, x2, x3, x4, x5, y0, y1, y2, y3, y4, y5⟩ := S
  refine ⟨by omega, by omega, x0, ?_, ?_, ?_, y0, y3, ?_, ?_⟩
  · intro v hv
    obtain rfl | rfl | rfl := (by omega : v = 0 ∨ v = 1 ∨ v = 2) <;> (simp only [Nat.reduceAdd, Nat.zero_add]; omega)
  · intro v hv hv2
    obtain rfl | rfl := (by omega : v = 3 ∨ v = 4) <;> (simp only [Nat.reduceAdd, Nat.zero_add]; omega)
  · simp only [Nat.reduceSub]; omega
  · intro v hv hv2
    obtain rfl | rfl := (by omega : v = 1 ∨ v = 2) <;> assumption
  · intro v hv hv2
    obtain rfl | rfl := (by omega : v = 4 ∨ v = 5) <;> assumption
theorem w5_0_2 {X H : Nat → Int} (S : Sh5 X H) (W : WayR 6 X H 0 2) : Res 6 3 X H 0 2 := by
  obtain ⟨x0, x1, x2, x3, x4, x5, y0, y1, y2, y3, y4, y5⟩ := S
  have f3 : (0 < TR X H 0 2 4 ∧ 0 < -(TR X H 4 3 2)) ∨ (TR X H 0 2 4 < 0 ∧ -(TR X H 4 3 2) < 0) := by
    have h0 : interP (X 0) (H 0) (X 2) (H 2) (X 3) (H 3) (X 4) (H 4) = false := W.fr 3 (by decide) (by decide) (by decide) (by decide) (by decide)
    have h := ns01 h0 (by omega) (by omega) (by omega) (by omega)
    rw [dl_1 (by omega), dr_2 (by omega)] at h
    exact h
  have f4 : (0 < TR X H 0 2 5 ∧ 0 < TR X H 0 2 4) ∨ (TR X H 0 2 5 < 0 ∧ TR X H 0 2 4 < 0) := by
    have h0 : interP (X 0) (H 0) (X 2) (H 2) (X 4) (H 4) (X 5) (H 5) = false := W.fr 4 (by decide) (by decide) (by decide) (by decide) (by decide)
    have h := ns01 h0 (by omega) (by omega) (by omega) (by omega)
    rw [dl_1 (by omega), dr_1 (by omega)] at h
    exact h
  have z1 : TR X H 0 1 2 ≠ 0 := W.s1 rfl
  clear W
  by_cases hc : TR X H 0 2 1 < 0
  · simp only [TR, T2, twiceP, x0, x1, x2, x3, x4, x5, y0, y3] at f3 f4 z1 hc
    replace f4 := f4.resolve_right (by omega)
    replace f3 := f3.resolve_right (by omega)
    refine ⟨true, false, ?_, ⟨?_, ?_⟩, ?_, ?_, ?_⟩
    · intro v hv a1 a2
      obtain rfl | rfl | rfl := (by omega : v = 0 ∨ v = 1 ∨ v = 2)
      · exfalso; simp only [Nat.reduceAdd, Nat.zero_add] at a1 a2; omega
      · exact pos_c (by simp only [Nat.reduceAdd, Nat.zero_add, TR, T2, twiceP, x0, x1, x2, x3, x4, x5, y0, y3]; omega)
      · exfalso; simp only [Nat.reduceAdd, Nat.zero_add] at a1 a2; omega
    · intro v hv hv2 a1 a2
      obtain rfl | rfl := (by omega : v = 3 ∨ v = 4)
      · exfalso; simp only [Nat.reduceAdd, Nat.zero_add] at a1 a2; omega
      · exact neg_c (by simp only [Nat.reduceAdd, Nat.zero_add, TR, T2, twiceP, x0, x1, x2, x3, x4, x5, y0, y3]; omega)
    · intro a1
      exfalso; simp only [Nat.reduceSub] at a1; omega
    · show locT (TR X H 5 0 1) (TR X H 0 2 1) (TR X H 0 5 2) (TR X H 0 2 5) (TR X H 0 1 2) = true
      exact loc_t (by simp only [TR, T2, twiceP, x0, x1, x2, x3, x4, x5, y0, y3]; omega)
    · show locT (TR X H 1 2 3) (TR X H 2 0 3) (TR X H 2 1 0) (TR X H 2 0 1) (TR X H 2 3 0) = true
      exact loc_t (by simp only [TR, T2, twiceP, x0, x1, x2, x3, x4, x5, y0, y3]; omega)
    · refine fun _ => .inl ⟨by omega, fun v hv n1 n2 a1 a2 => ?_⟩
      obtain rfl | rfl | rfl | rfl | rfl | rfl := (by omega : v = 0 ∨ v = 1 ∨ v = 2 ∨ v = 3 ∨ v = 4 ∨ v = 5)
      · exact absurd rfl n1
      · exact .inl ⟨by omega, by simp only [TR, T2, twiceP, x0, x1, x2, x3, x4, x5, y0, y3]; omega⟩
      · exact absurd rfl n2
      · exfalso; omega
      · exact .inr ⟨by omega, by simp only [TR, T2, twiceP, x0, x1, x2, x3, x4, x5, y0, y3]; omega⟩
      · exact .inr ⟨by omega, by simp only [TR, T2, twiceP, x0, x1, x2, x3, x4, x5, y0, y3]; omega⟩
  · simp only [TR, T2, twiceP, x0, x1, x2, x3, x4, x5, y0, y3] at f3 f4 z1 hc
    replace f4 := f4.resolve_right (by omega)
    replace f3 := f3.resolve_right (by omega)
    refine ⟨false, false, ?_, ⟨?_, ?_⟩, ?_, ?_, ?_⟩
    · intro v hv a1 a2
      obtain rfl | rfl | rfl := (by omega : v = 0 ∨ v = 1 ∨ v = 2)
      · exfalso; simp only [Nat.reduceAdd, Nat.zero_add] at a1 a2; omega
      · exact neg_c (by simp only [Nat.reduceAdd, Nat.zero_add, TR, T2, twiceP, x0, x1, x2, x3, x4, x5, y0, y3]; omega)
      · exfalso; simp only [Nat.reduceAdd, Nat.zero_add] at a1 a2; omega
    · intro v hv hv2 a1 a2
      obtain rfl | rfl := (by omega : v = 3 ∨ v = 4)
      · exfalso; simp only [Nat.reduceAdd, Nat.zero_add] at a1 a2; omega
      · exact neg_c (by simp only [Nat.reduceAdd, Nat.zero_add, TR, T2, twiceP, x0, x1, x2, x3, x4, x5, y0, y3]; omega)
    · intro a1
      exfalso; simp only [Nat.reduceSub] at a1; omega
    · show locT (TR X H 5 0 1) (TR X H 0 2 1) (TR X H 0 5 2) (TR X H 0 2 5) (TR X H 0 1 2) = false
      exact loc_f (by simp only [TR, T2, twiceP, x0, x1, x2, x3, x4, x5, y0, y3]; omega)
    · show locT (TR X H 1 2 3) (TR X H 2 0 3) (TR X H 2 1 0) (TR X H 2 0 1) (TR X H 2 3 0) = false
      exact loc_f (by simp only [TR, T2, twiceP, x0, x1, x2, x3, x4, x5, y0, y3]; omega)
    · exact fun h => absurd h (by decide)
theorem w5_0_3 {X H : Nat → Int} (S : Sh5 X H) (W : WayR 6 X H 0 3) : Res 6 3 X H 0 3 := by
  obtain ⟨x0, x1, x2, x3, x4, x5, y0, y1, y2, y3, y4, y5⟩ := S
  have f1 : (0 < TR X H 0 3 1 ∧ 0 < TR X H 0 3 2) ∨ (TR X H 0 3 1 < 0 ∧ TR X H 0 3 2 < 0) := by
    have h0 : interP (X 0) (H 0) (X 3) (H 3) (X 1) (H 1) (X 2) (H 2) = false := W.fr 1 (by decide) (by decide) (by decide) (by decide) (by decide)
    have h := ns00 h0 (by omega) (by omega) (by omega) (by omega)
    rw [dl_1 (by omega), dr_1 (by omega)] at h
    exact h
  have f4 : (0 < TR X H 0 3 5 ∧ 0 < TR X H 0 3 4) ∨ (TR X H 0 3 5 < 0 ∧ TR X H 0 3 4 < 0) := by
    have h0 : interP (X 0) (H 0) (X 3) (H 3) (X 4) (H 4) (X 5) (H 5) = false := W.fr 4 (by decide) (by decide) (by decide) (by decide) (by decide)
    have h := ns01 h0 (by omega) (by omega) (by omega) (by omega)
    rw [dl_1 (by omega), dr_1 (by omega)] at h
    exact h
  clear W
  simp only [TR, T2, twiceP, x0, x1, x2, x3, x4, x5, y0, y3] at f1 f4
  replace f4 := f4.resolve_right (by omega)
  replace f1 := f1.resolve_left (by omega)
  refine ⟨true, false, ?_, ⟨?_, ?_⟩, ?_, ?_, ?_⟩
  · intro v hv a1 a2
    obtain rfl | rfl | rfl := (by omega : v = 0 ∨ v = 1 ∨ v = 2)
    · exfalso; simp only [Nat.reduceAdd, Nat.zero_add] at a1 a2; omega
    · exact pos_c (by simp only [Nat.reduceAdd, Nat.zero_add, TR, T2, twiceP, x0, x1, x2, x3, x4, x5, y0, y3]; omega)
    · exfalso; simp only [Nat.reduceAdd, Nat.zero_add] at a1 a2; omega
  · intro v hv hv2 a1 a2
    obtain rfl | rfl := (by omega : v = 3 ∨ v = 4)
    · exact neg_c (by simp only [Nat.reduceAdd, Nat.zero_add, TR, T2, twiceP, x0, x1, x2, x3, x4, x5, y0, y3]; omega)
    · exact neg_c (by simp only [Nat.reduceAdd, Nat.zero_add, TR, T2, twiceP, x0, x1, x2, x3, x4, x5, y0, y3]; omega)
  · intro a1
    exfalso; simp only [Nat.reduceSub] at a1; omega
  · show locT (TR X H 5 0 1) (TR X H 0 3 1) (TR X H 0 5 3) (TR X H 0 3 5) (TR X H 0 1 3) = true
    exact loc_t (by simp only [TR, T2, twiceP, x0, x1, x2, x3, x4, x5, y0, y3]; omega)
  · show locT (TR X H 2 3 4) (TR X H 3 0 4) (TR X H 3 2 0) (TR X H 3 0 2) (TR X H 3 4 0) = true
    exact loc_t (by simp only [TR, T2, twiceP, x0, x1, x2, x3, x4, x5, y0, y3]; omega)
  · refine fun _ => .inl ⟨by omega, fun v hv n1 n2 a1 a2 => ?_⟩
    obtain rfl | rfl | rfl | rfl | rfl | rfl := (by omega : v = 0 ∨ v = 1 ∨ v = 2 ∨ v = 3 ∨ v = 4 ∨ v = 5)
    · exact absurd rfl n1
    · exact .inl ⟨by omega, by simp only [TR, T2, twiceP, x0, x1, x2, x3, x4, x5, y0, y3]; omega⟩
    · exact .inl ⟨by omega, by simp only [TR, T2, twiceP, x0, x1, x2, x3, x4, x5, y0, y3]; omega⟩
    · exact absurd rfl n2
    · exact .inr ⟨by omega, by simp only [TR, T2, twiceP, x0, x1, x2, x3, x4, x5, y0, y3]; omega⟩
    · exact .inr ⟨by omega, by simp only [TR, T2, twiceP, x0, x1, x2, x3, x4, x5, y0, y3]; omega⟩
theorem w5_0_4 {X H : Nat → Int} (S : Sh5 X H) (W : WayR 6 X H 0 4) : Res 6 3 X H 0 4 := by
  obtain ⟨x0, x1, x2, x3, x4, x5, y0, y1, y2, y3, y4, y5⟩ := S
  have f1 : (0 < TR X H 0 4 1 ∧ 0 < -(TR X H 1 2 4)) ∨ (TR X H 0 4 1 < 0 ∧ -(TR X H 1 2 4) < 0) := by
    have h0 : interP (X 0) (H 0) (X 4) (H 4) (X 1) (H 1) (X 2) (H 2) = false := W.fr 1 (by decide) (by decide) (by decide) (by decide) (by decide)
    have h := ns00 h0 (by omega) (by omega) (by omega) (by omega)
    rw [dl_1 (by omega), dr_2 (by omega)] at h
    exact h
  have z2 : TR X H 4 5 0 ≠ 0 := W.s2 rfl
  clear W
  by_cases hc : 0 < TR X H 0 4 5
  · simp only [TR, T2, twiceP, x0, x1, x2, x3, x4, x5, y0, y3] at f1 z2 hc
    replace f1 := f1.resolve_left (by omega)
    refine ⟨true, false, ?_, ⟨?_, ?_⟩, ?_, ?_, ?_⟩
    · intro v hv a1 a2
      obtain rfl | rfl | rfl := (by omega : v = 0 ∨ v = 1 ∨ v = 2)
      · exact pos_c (by simp only [Nat.reduceAdd, Nat.zero_add, TR, T2, twiceP, x0, x1, x2, x3, x4, x5, y0, y3]; omega)
      · exact pos_c (by simp only [Nat.reduceAdd, Nat.zero_add, TR, T2, twiceP, x0, x1, x2, x3, x4, x5, y0, y3]; omega)
      · exfalso; simp only [Nat.reduceAdd, Nat.zero_add] at a1 a2; omega
    · intro v hv hv2 a1 a2
      obtain rfl | rfl := (by omega : v = 3 ∨ v = 4)
      · exfalso; simp only [Nat.reduceAdd, Nat.zero_add] at a1 a2; omega
      · exact neg_c (by simp only [Nat.reduceAdd, Nat.zero_add, TR, T2, twiceP, x0, x1, x2, x3, x4, x5, y0, y3]; omega)
    · intro a1
      exact neg_c (by simp only [Nat.reduceSub, TR, T2, twiceP, x0, x1, x2, x3, x4, x5, y0, y3]; omega)
    · show locT (TR X H 5 0 1) (TR X H 0 4 1) (TR X H 0 5 4) (TR X H 0 4 5) (TR X H 0 1 4) = true
      exact loc_t (by simp only [TR, T2, twiceP, x0, x1, x2, x3, x4, x5, y0, y3]; omega)
    · show locT (TR X H 3 4 5) (TR X H 4 0 5) (TR X H 4 3 0) (TR X H 4 0 3) (TR X H 4 5 0) = true
      exact loc_t (by simp only [TR, T2, twiceP, x0, x1, x2, x3, x4, x5, y0, y3]; omega)
    · refine fun _ => .inl ⟨by omega, fun v hv n1 n2 a1 a2 => ?_⟩
      obtain rfl | rfl | rfl | rfl | rfl | rfl := (by omega : v = 0 ∨ v = 1 ∨ v = 2 ∨ v = 3 ∨ v = 4 ∨ v = 5)
      · exact absurd rfl n1
      · exact .inl ⟨by omega, by simp only [TR, T2, twiceP, x0, x1, x2, x3, x4, x5, y0, y3]; omega⟩
      · exfalso; omega
      · exfalso; omega
      · exact absurd rfl n2
      · exact .inr ⟨by omega, by simp only [TR, T2, twiceP, x0, x1, x2, x3, x4, x5, y0, y3]; omega⟩
  · simp only [TR, T2, twiceP, x0, x1, x2, x3, x4, x5, y0, y3] at f1 z2 hc
    replace f1 := f1.resolve_left (by omega)
    refine ⟨true, true, ?_, ⟨?_, ?_⟩, ?_, ?_, ?_⟩
    · intro v hv a1 a2
      obtain rfl | rfl | rfl := (by omega : v = 0 ∨ v = 1 ∨ v = 2)
      · exact pos_c (by simp only [Nat.reduceAdd, Nat.zero_add, TR, T2, twiceP, x0, x1, x2, x3, x4, x5, y0, y3]; omega)
      · exact pos_c (by simp only [Nat.reduceAdd, Nat.zero_add, TR, T2, twiceP, x0, x1, x2, x3, x4, x5, y0, y3]; omega)
      · exfalso; simp only [Nat.reduceAdd, Nat.zero_add] at a1 a2; omega
    · intro v hv hv2 a1 a2
      obtain rfl | rfl := (by omega : v = 3 ∨ v = 4)
      · exfalso; simp only [Nat.reduceAdd, Nat.zero_add] at a1 a2; omega
      · exact pos_c (by simp only [Nat.reduceAdd, Nat.zero_add, TR, T2, twiceP, x0, x1, x2, x3, x4, x5, y0, y3]; omega)
    · intro a1
      exact pos_c (by simp only [Nat.reduceSub, TR, T2, twiceP, x0, x1, x2, x3, x4, x5, y0, y3]; omega)
    · show locT (TR X H 5 0 1) (TR X H 0 4 1) (TR X H 0 5 4) (TR X H 0 4 5) (TR X H 0 1 4) = false
      exact loc_f (by simp only [TR, T2, twiceP, x0, x1, x2, x3, x4, x5, y0, y3]; omega)
    · show locT (TR X H 3 4 5) (TR X H 4 0 5) (TR X H 4 3 0) (TR X H 4 0 3) (TR X H 4 5 0) = false
      exact loc_f (by simp only [TR, T2, twiceP, x0, x1, x2, x3, x4, x5, y0, y3]; omega)
    · exact fun h => absurd h (by decide)
theorem w5_1_3 {X H : Nat → Int} (S : Sh5 X H) (W : WayR 6 X H 1 3) : Res 6 3 X H 1 3 := by
  obtain ⟨x0, x1, x2, x3, x4, x5, y0, y1, y2, y3, y4, y5⟩ := S
  have f4 : (0 < TR X H 1 3 5 ∧ 0 < TR X H 1 3 4) ∨ (TR X H 1 3 5 < 0 ∧ TR X H 1 3 4 < 0) := by
    have h0 : interP (X 1) (H 1) (X 3) (H 3) (X 4) (H 4) (X 5) (H 5) = false := W.fr 4 (by decide) (by decide) (by decide) (by decide) (by decide)
    have h := ns01 h0 (by omega) (by omega) (by omega) (by omega)
    rw [dl_1 (by omega), dr_1 (by omega)] at h
    exact h
  have f5 : (0 < -(TR X H 0 5 1) ∧ 0 < TR X H 1 3 5) ∨ (-(TR X H 0 5 1) < 0 ∧ TR X H 1 3 5 < 0) := by
    have h0 : interP (X 1) (H 1) (X 3) (H 3) (X 5) (H 5) (X 0) (H 0) = false := W.fr 5 (by decide) (by decide) (by decide) (by decide) (by decide)
    have h := ns01 h0 (by omega) (by omega) (by omega) (by omega)
    rw [dl_2 (by omega), dr_1 (by omega)] at h
    exact h
  have z1 : TR X H 1 2 3 ≠ 0 := W.s1 rfl
  clear W
  by_cases hc : TR X H 1 3 2 < 0
  · simp only [TR, T2, twiceP, x0, x1, x2, x3, x4, x5, y0, y3] at f4 f5 z1 hc
    replace f5 := f5.resolve_right (by omega)
    replace f4 := f4.resolve_right (by omega)
    refine ⟨true, false, ?_, ⟨?_, ?_⟩, ?_, ?_, ?_⟩
    · intro v hv a1 a2
      obtain rfl | rfl | rfl := (by omega : v = 0 ∨ v = 1 ∨ v = 2)
      · exfalso; simp only [Nat.reduceAdd, Nat.zero_add] at a1 a2; omega
      · exact pos_c (by simp only [Nat.reduceAdd, Nat.zero_add, TR, T2, twiceP, x0, x1, x2, x3, x4, x5, y0, y3]; omega)
      · exfalso; simp only [Nat.reduceAdd, Nat.zero_add] at a1 a2; omega
    · intro v hv hv2 a1 a2
      obtain rfl | rfl := (by omega : v = 3 ∨ v = 4)
      · exact neg_c (by simp only [Nat.reduceAdd, Nat.zero_add, TR, T2, twiceP, x0, x1, x2, x3, x4, x5, y0, y3]; omega)
      · exfalso; simp only [Nat.reduceAdd, Nat.zero_add] at a1 a2; omega
    · intro a1
      exfalso; simp only [Nat.reduceSub] at a1; omega
    · show locT (TR X H 0 1 2) (TR X H 1 3 2) (TR X H 1 0 3) (TR X H 1 3 0) (TR X H 1 2 3) = true
      exact loc_t (by simp only [TR, T2, twiceP, x0, x1, x2, x3, x4, x5, y0, y3]; omega)
    · show locT (TR X H 2 3 4) (TR X H 3 1 4) (TR X H 3 2 1) (TR X H 3 1 2) (TR X H 3 4 1) = true
      exact loc_t (by simp only [TR, T2, twiceP, x0, x1, x2, x3, x4, x5, y0, y3]; omega)
    · refine fun _ => .inl ⟨by omega, fun v hv n1 n2 a1 a2 => ?_⟩
      obtain rfl | rfl | rfl | rfl | rfl | rfl := (by omega : v = 0 ∨ v = 1 ∨ v = 2 ∨ v = 3 ∨ v = 4 ∨ v = 5)
      · exfalso; omega
      · exact absurd rfl n1
      · exact .inl ⟨by omega, by simp only [TR, T2, twiceP, x0, x1, x2, x3, x4, x5, y0, y3]; omega⟩
      · exact absurd rfl n2
      · exact .inr ⟨by omega, by simp only [TR, T2, twiceP, x0, x1, x2, x3, x4, x5, y0, y3]; omega⟩
      · exact .inr ⟨by omega, by simp only [TR, T2, twiceP, x0, x1, x2, x3, x4, x5, y0, y3]; omega⟩
  · simp only [TR, T2, twiceP, x0, x1, x2, x3, x4, x5, y0, y3] at f4 f5 z1 hc
    replace f5 := f5.resolve_right (by omega)
    replace f4 := f4.resolve_right (by omega)
    refine ⟨false, false, ?_, ⟨?_, ?_⟩, ?_, ?_, ?_⟩
    · intro v hv a1 a2
      obtain rfl | rfl | rfl := (by omega : v = 0 ∨ v = 1 ∨ v = 2)
      · exfalso; simp only [Nat.reduceAdd, Nat.zero_add] at a1 a2; omega
      · exact neg_c (by simp only [Nat.reduceAdd, Nat.zero_add, TR, T2, twiceP, x0, x1, x2, x3, x4, x5, y0, y3]; omega)
      · exfalso; simp only [Nat.reduceAdd, Nat.zero_add] at a1 a2; omega
    · intro v hv hv2 a1 a2
      obtain rfl | rfl := (by omega : v = 3 ∨ v = 4)
      · exact neg_c (by simp only [Nat.reduceAdd, Nat.zero_add, TR, T2, twiceP, x0, x1, x2, x3, x4, x5, y0, y3]; omega)
      · exfalso; simp only [Nat.reduceAdd, Nat.zero_add] at a1 a2; omega
    · intro a1
      exfalso; simp only [Nat.reduceSub] at a1; omega
    · show locT (TR X H 0 1 2) (TR X H 1 3 2) (TR X H 1 0 3) (TR X H 1 3 0) (TR X H 1 2 3) = false
      exact loc_f (by simp only [TR, T2, twiceP, x0, x1, x2, x3, x4, x5, y0, y3]; omega)
    · show locT (TR X H 2 3 4) (TR X H 3 1 4) (TR X H 3 2 1) (TR X H 3 1 2) (TR X H 3 4 1) = false
      exact loc_f (by simp only [TR, T2, twiceP, x0, x1, x2, x3, x4, x5, y0, y3]; omega)
    · exact fun h => absurd h (by decide)
theorem w5_1_4 {X H : Nat → Int} (S : Sh5 X H) (W : WayR 6 X H 1 4) : Res 6 3 X H 1 4 := by
  obtain ⟨x0, x1, x2, x3, x4, x5, y0, y1, y2, y3, y4, y5⟩ := S
  have f5 : (0 < -(TR X H 0 5 1) ∧ 0 < TR X H 1 4 5) ∨ (-(TR X H 0 5 1) < 0 ∧ TR X H 1 4 5 < 0) := by
    have h0 : interP (X 1) (H 1) (X 4) (H 4) (X 5) (H 5) (X 0) (H 0) = false := W.fr 5 (by decide) (by decide) (by decide) (by decide) (by decide)
    have h := ns01 h0 (by omega) (by omega) (by omega) (by omega)
    rw [dl_2 (by omega), dr_1 (by omega)] at h
    exact h
  clear W
  simp only [TR, T2, twiceP, x0, x1, x2, x3, x4, x5, y0, y3] at f5
  replace f5 := f5.resolve_right (by omega)
  refine ⟨true, false, ?_, ⟨?_, ?_⟩, ?_, ?_, ?_⟩
  · intro v hv a1 a2
    obtain rfl | rfl | rfl := (by omega : v = 0 ∨ v = 1 ∨ v = 2)
    · exfalso; simp only [Nat.reduceAdd, Nat.zero_add] at a1 a2; omega
    · exact pos_c (by simp only [Nat.reduceAdd, Nat.zero_add, TR, T2, twiceP, x0, x1, x2, x3, x4, x5, y0, y3]; omega)
    · exfalso; simp only [Nat.reduceAdd, Nat.zero_add] at a1 a2; omega
  · intro v hv hv2 a1 a2
    obtain rfl | rfl := (by omega : v = 3 ∨ v = 4)
    · exfalso; simp only [Nat.reduceAdd, Nat.zero_add] at a1 a2; omega
    · exact neg_c (by simp only [Nat.reduceAdd, Nat.zero_add, TR, T2, twiceP, x0, x1, x2, x3, x4, x5, y0, y3]; omega)
  · intro a1
    exfalso; simp only [Nat.reduceSub] at a1; omega
  · show locT (TR X H 0 1 2) (TR X H 1 4 2) (TR X H 1 0 4) (TR X H 1 4 0) (TR X H 1 2 4) = true
    exact loc_t (by simp only [TR, T2, twiceP, x0, x1, x2, x3, x4, x5, y0, y3]; omega)
  · show locT (TR X H 3 4 5) (TR X H 4 1 5) (TR X H 4 3 1) (TR X H 4 1 3) (TR X H 4 5 1) = true
    exact loc_t (by simp only [TR, T2, twiceP, x0, x1, x2, x3, x4, x5, y0, y3]; omega)
  · refine fun _ => .inl ⟨by omega, fun v hv n1 n2 a1 a2 => ?_⟩
    obtain rfl | rfl | rfl | rfl | rfl | rfl := (by omega : v = 0 ∨ v = 1 ∨ v = 2 ∨ v = 3 ∨ v = 4 ∨ v = 5)
    · exfalso; omega
    · exact absurd rfl n1
    · exfalso; omega
    · exfalso; omega
    · exact absurd rfl n2
    · exact .inr ⟨by omega, by simp only [TR, T2, twiceP, x0, x1, x2, x3, x4, x5, y0, y3]; omega⟩
theorem w5_1_5 {X H : Nat → Int} (S : Sh5 X H) (W : WayR 6 X H 1 5) : Res 6 3 X H 1 5 := by
  obtain ⟨x0, x1, x2, x3, x4, x5, y0, y1, y2, y3, y4, y5⟩ := S
  clear W
  refine ⟨true, false, ?_, ⟨?_, ?_⟩, ?_, ?_, ?_⟩
  · intro v hv a1 a2
    obtain rfl | rfl | rfl := (by omega : v = 0 ∨ v = 1 ∨ v = 2)
    · exact pos_c (by simp only [Nat.reduceAdd, Nat.zero_add, TR, T2, twiceP, x0, x1, x2, x3, x4, x5, y0, y3]; omega)
    · exact pos_c (by simp only [Nat.reduceAdd, Nat.zero_add, TR, T2, twiceP, x0, x1, x2, x3, x4, x5, y0, y3]; omega)
    · exfalso; simp only [Nat.reduceAdd, Nat.zero_add] at a1 a2; omega
  · intro v hv hv2 a1 a2
    obtain rfl | rfl := (by omega : v = 3 ∨ v = 4)
    · exfalso; simp only [Nat.reduceAdd, Nat.zero_add] at a1 a2; omega
    · exact neg_c (by simp only [Nat.reduceAdd, Nat.zero_add, TR, T2, twiceP, x0, x1, x2, x3, x4, x5, y0, y3]; omega)
  · intro a1
    exact neg_c (by simp only [Nat.reduceSub, TR, T2, twiceP, x0, x1, x2, x3, x4, x5, y0, y3]; omega)
  · show locT (TR X H 0 1 2) (TR X H 1 5 2) (TR X H 1 0 5) (TR X H 1 5 0) (TR X H 1 2 5) = true
    exact loc_t (by simp only [TR, T2, twiceP, x0, x1, x2, x3, x4, x5, y0, y3]; omega)
  · show locT (TR X H 4 5 0) (TR X H 5 1 0) (TR X H 5 4 1) (TR X H 5 1 4) (TR X H 5 0 1) = true
    exact loc_t (by simp only [TR, T2, twiceP, x0, x1, x2, x3, x4, x5, y0, y3]; omega)
  · exact fun _ => .inr (.inr ⟨by omega, by omega, by omega⟩)
theorem w5_2_4 {X H : Nat → Int} (S : Sh5 X H) (W : WayR 6 X H 2 4) : Res 6 3 X H 2 4 := by
  obtain ⟨x0, x1, x2, x3, x4, x5, y0, y1, y2, y3, y4, y5⟩ := S
  have z1 : TR X H 2 3 4 ≠ 0 := W.s1 rfl
  clear W
  simp only [TR, T2, twiceP, x0, x1, x2, x3, x4, x5, y0, y3] at z1
  refine ⟨true, false, ?_, ⟨?_, ?_⟩, ?_, ?_, ?_⟩
  · intro v hv a1 a2
    obtain rfl | rfl | rfl := (by omega : v = 0 ∨ v = 1 ∨ v = 2)
    · exfalso; simp only [Nat.reduceAdd, Nat.zero_add] at a1 a2; omega
    · exact pos_c (by simp only [Nat.reduceAdd, Nat.zero_add, TR, T2, twiceP, x0, x1, x2, x3, x4, x5, y0, y3]; omega)
    · exfalso; simp only [Nat.reduceAdd, Nat.zero_add] at a1 a2; omega
  · intro v hv hv2 a1 a2
    obtain rfl | rfl := (by omega : v = 3 ∨ v = 4)
    · exact neg_c (by simp only [Nat.reduceAdd, Nat.zero_add, TR, T2, twiceP, x0, x1, x2, x3, x4, x5, y0, y3]; omega)
    · exfalso; simp only [Nat.reduceAdd, Nat.zero_add] at a1 a2; omega
  · intro a1
    exfalso; simp only [Nat.reduceSub] at a1; omega
  · show locT (TR X H 1 2 3) (TR X H 2 4 3) (TR X H 2 1 4) (TR X H 2 4 1) (TR X H 2 3 4) = true
    exact loc_t (by simp only [TR, T2, twiceP, x0, x1, x2, x3, x4, x5, y0, y3]; omega)
  · show locT (TR X H 3 4 5) (TR X H 4 2 5) (TR X H 4 3 2) (TR X H 4 2 3) (TR X H 4 5 2) = true
    exact loc_t (by simp only [TR, T2, twiceP, x0, x1, x2, x3, x4, x5, y0, y3]; omega)
  · refine fun _ => .inr <| .inl ⟨by omega, fun v hv n1 n2 a1 a2 => ?_⟩
    obtain rfl | rfl | rfl | rfl | rfl | rfl := (by omega : v = 0 ∨ v = 1 ∨ v = 2 ∨ v = 3 ∨ v = 4 ∨ v = 5)
    · exfalso; omega
    · exfalso; omega
    · exact absurd rfl n2
    · exfalso; omega
    · exact absurd rfl n1
    · exfalso; omega
theorem w5_2_5 {X H : Nat → Int} (S : Sh5 X H) (W : WayR 6 X H 2 5) : Res 6 3 X H 2 5 := by
  obtain ⟨x0, x1, x2, x3, x4, x5, y0, y1, y2, y3, y4, y5⟩ := S
  have f0 : (0 < -(TR X H 0 1 5) ∧ 0 < TR X H 5 2 1) ∨ (-(TR X H 0 1 5) < 0 ∧ TR X H 5 2 1 < 0) := by
    have h0 : interP (X 2) (H 2) (X 5) (H 5) (X 0) (H 0) (X 1) (H 1) = false := W.fr 0 (by decide) (by decide) (by decide) (by decide) (by decide)
    have h := ns10 h0 (by omega) (by omega) (by omega) (by omega)
    rw [dl_2 (by omega), dr_1 (by omega)] at h
    exact h
  have f3 : (0 < TR X H 5 2 4 ∧ 0 < -(TR X H 4 3 2)) ∨ (TR X H 5 2 4 < 0 ∧ -(TR X H 4 3 2) < 0) := by
    have h0 : interP (X 2) (H 2) (X 5) (H 5) (X 3) (H 3) (X 4) (H 4) = false := W.fr 3 (by decide) (by decide) (by decide) (by decide) (by decide)
    have h := ns11 h0 (by omega) (by omega) (by omega) (by omega)
    rw [dl_1 (by omega), dr_2 (by omega)] at h
    exact h
  clear W
  simp only [TR, T2, twiceP, x0, x1, x2, x3, x4, x5, y0, y3] at f0 f3
  replace f3 := f3.resolve_right (by omega)
  replace f0 := f0.resolve_left (by omega)
  refine ⟨true, false, ?_, ⟨?_, ?_⟩, ?_, ?_, ?_⟩
  · intro v hv a1 a2
    obtain rfl | rfl | rfl := (by omega : v = 0 ∨ v = 1 ∨ v = 2)
    · exfalso; simp only [Nat.reduceAdd, Nat.zero_add] at a1 a2; omega
    · exact pos_c (by simp only [Nat.reduceAdd, Nat.zero_add, TR, T2, twiceP, x0, x1, x2, x3, x4, x5, y0, y3]; omega)
    · exfalso; simp only [Nat.reduceAdd, Nat.zero_add] at a1 a2; omega
  · intro v hv hv2 a1 a2
    obtain rfl | rfl := (by omega : v = 3 ∨ v = 4)
    · exact neg_c (by simp only [Nat.reduceAdd, Nat.zero_add, TR, T2, twiceP, x0, x1, x2, x3, x4, x5, y0, y3]; omega)
    · exact neg_c (by simp only [Nat.reduceAdd, Nat.zero_add, TR, T2, twiceP, x0, x1, x2, x3, x4, x5, y0, y3]; omega)
  · intro a1
    exfalso; simp only [Nat.reduceSub] at a1; omega
  · show locT (TR X H 1 2 3) (TR X H 2 5 3) (TR X H 2 1 5) (TR X H 2 5 1) (TR X H 2 3 5) = true
    exact loc_t (by simp only [TR, T2, twiceP, x0, x1, x2, x3, x4, x5, y0, y3]; omega)
  · show locT (TR X H 4 5 0) (TR X H 5 2 0) (TR X H 5 4 2) (TR X H 5 2 4) (TR X H 5 0 2) = true
    exact loc_t (by simp only [TR, T2, twiceP, x0, x1, x2, x3, x4, x5, y0, y3]; omega)
  · refine fun _ => .inr <| .inl ⟨by omega, fun v hv n1 n2 a1 a2 => ?_⟩
    obtain rfl | rfl | rfl | rfl | rfl | rfl := (by omega : v = 0 ∨ v = 1 ∨ v = 2 ∨ v = 3 ∨ v = 4 ∨ v = 5)
    · exfalso; omega
    · exact .inl ⟨by omega, by simp only [TR, T2, twiceP, x0, x1, x2, x3, x4, x5, y0, y3]; omega⟩
    · exact absurd rfl n2
    · exfalso; omega
    · exact .inr ⟨by omega, by simp only [TR, T2, twiceP, x0, x1, x2, x3, x4, x5, y0, y3]; omega⟩
    · exact absurd rfl n1
theorem w5_3_5 {X H : Nat → Int} (S : Sh5 X H) (W : WayR 6 X H 3 5) : Res 6 3 X H 3 5 := by
  obtain ⟨x0, x1, x2, x3, x4, x5, y0, y1, y2, y3, y4, y5⟩ := S
  have f0 : (0 < -(TR X H 0 1 5) ∧ 0 < TR X H 5 3 1) ∨ (-(TR X H 0 1 5) < 0 ∧ TR X H 5 3 1 < 0) := by
    have h0 : interP (X 3) (H 3) (X 5) (H 5) (X 0) (H 0) (X 1) (H 1) = false := W.fr 0 (by decide) (by decide) (by decide) (by decide) (by decide)
    have h := ns10 h0 (by omega) (by omega) (by omega) (by omega)
    rw [dl_2 (by omega), dr_1 (by omega)] at h
    exact h
  have f1 : (0 < TR X H 5 3 1 ∧ 0 < TR X H 5 3 2) ∨ (TR X H 5 3 1 < 0 ∧ TR X H 5 3 2 < 0) := by
    have h0 : interP (X 3) (H 3) (X 5) (H 5) (X 1) (H 1) (X 2) (H 2) = false := W.fr 1 (by decide) (by decide) (by decide) (by decide) (by decide)
    have h := ns10 h0 (by omega) (by omega) (by omega) (by omega)
    rw [dl_1 (by omega), dr_1 (by omega)] at h
    exact h
  have z1 : TR X H 3 4 5 ≠ 0 := W.s1 rfl
  clear W
  by_cases hc : 0 < TR X H 5 3 4
  · simp only [TR, T2, twiceP, x0, x1, x2, x3, x4, x5, y0, y3] at f0 f1 z1 hc
    replace f0 := f0.resolve_left (by omega)
    replace f1 := f1.resolve_left (by omega)
    refine ⟨true, false, ?_, ⟨?_, ?_⟩, ?_, ?_, ?_⟩
    · intro v hv a1 a2
      obtain rfl | rfl | rfl := (by omega : v = 0 ∨ v = 1 ∨ v = 2)
      · exfalso; simp only [Nat.reduceAdd, Nat.zero_add] at a1 a2; omega
      · exact pos_c (by simp only [Nat.reduceAdd, Nat.zero_add, TR, T2, twiceP, x0, x1, x2, x3, x4, x5, y0, y3]; omega)
      · exfalso; simp only [Nat.reduceAdd, Nat.zero_add] at a1 a2; omega
    · intro v hv hv2 a1 a2
      obtain rfl | rfl := (by omega : v = 3 ∨ v = 4)
      · exact neg_c (by simp only [Nat.reduceAdd, Nat.zero_add, TR, T2, twiceP, x0, x1, x2, x3, x4, x5, y0, y3]; omega)
      · exfalso; simp only [Nat.reduceAdd, Nat.zero_add] at a1 a2; omega
    · intro a1
      exfalso; simp only [Nat.reduceSub] at a1; omega
    · show locT (TR X H 2 3 4) (TR X H 3 5 4) (TR X H 3 2 5) (TR X H 3 5 2) (TR X H 3 4 5) = true
      exact loc_t (by simp only [TR, T2, twiceP, x0, x1, x2, x3, x4, x5, y0, y3]; omega)
    · show locT (TR X H 4 5 0) (TR X H 5 3 0) (TR X H 5 4 3) (TR X H 5 3 4) (TR X H 5 0 3) = true
      exact loc_t (by simp only [TR, T2, twiceP, x0, x1, x2, x3, x4, x5, y0, y3]; omega)
    · refine fun _ => .inr <| .inl ⟨by omega, fun v hv n1 n2 a1 a2 => ?_⟩
      obtain rfl | rfl | rfl | rfl | rfl | rfl := (by omega : v = 0 ∨ v = 1 ∨ v = 2 ∨ v = 3 ∨ v = 4 ∨ v = 5)
      · exfalso; omega
      · exact .inl ⟨by omega, by simp only [TR, T2, twiceP, x0, x1, x2, x3, x4, x5, y0, y3]; omega⟩
      · exact .inl ⟨by omega, by simp only [TR, T2, twiceP, x0, x1, x2, x3, x4, x5, y0, y3]; omega⟩
      · exact absurd rfl n2
      · exact .inr ⟨by omega, by simp only [TR, T2, twiceP, x0, x1, x2, x3, x4, x5, y0, y3]; omega⟩
      · exact absurd rfl n1
  · simp only [TR, T2, twiceP, x0, x1, x2, x3, x4, x5, y0, y3] at f0 f1 z1 hc
    replace f0 := f0.resolve_left (by omega)
    replace f1 := f1.resolve_left (by omega)
    refine ⟨true, true, ?_, ⟨?_, ?_⟩, ?_, ?_, ?_⟩
    · intro v hv a1 a2
      obtain rfl | rfl | rfl := (by omega : v = 0 ∨ v = 1 ∨ v = 2)
      · exfalso; simp only [Nat.reduceAdd, Nat.zero_add] at a1 a2; omega
      · exact pos_c (by simp only [Nat.reduceAdd, Nat.zero_add, TR, T2, twiceP, x0, x1, x2, x3, x4, x5, y0, y3]; omega)
      · exfalso; simp only [Nat.reduceAdd, Nat.zero_add] at a1 a2; omega
    · intro v hv hv2 a1 a2
      obtain rfl | rfl := (by omega : v = 3 ∨ v = 4)
      · exact pos_c (by simp only [Nat.reduceAdd, Nat.zero_add, TR, T2, twiceP, x0, x1, x2, x3, x4, x5, y0, y3]; omega)
      · exfalso; simp only [Nat.reduceAdd, Nat.zero_add] at a1 a2; omega
    · intro a1
      exfalso; simp only [Nat.reduceSub] at a1; omega
    · show locT (TR X H 2 3 4) (TR X H 3 5 4) (TR X H 3 2 5) (TR X H 3 5 2) (TR X H 3 4 5) = false
      exact loc_f (by simp only [TR, T2, twiceP, x0, x1, x2, x3, x4, x5, y0, y3]; omega)
    · show locT (TR X H 4 5 0) (TR X H 5 3 0) (TR X H 5 4 3) (TR X H 5 3 4) (TR X H 5 0 3) = false
      exact loc_f (by simp only [TR, T2, twiceP, x0, x1, x2, x3, x4, x5, y0, y3]; omega)
    · exact fun h => absurd h (by decide)
theorem shape5 {X H : Nat → Int} (S : Sh5 X H) {i j : Nat} (W : WayR 6 X H i j) : Res 6 3 X H i j := by
  have hap := W.ap
  unfold Apart at hap
  obtain rfl | rfl | rfl | rfl : i = 0 ∨ i = 1 ∨ i = 2 ∨ i = 3 := by omega
  · obtain rfl | rfl | rfl : j = 2 ∨ j = 3 ∨ j = 4 := by omega
    · exact w5_0_2 S W
    · exact w5_0_3 S W
    · exact w5_0_4 S W
  · obtain rfl | rfl | rfl : j = 3 ∨ j = 4 ∨ j = 5 := by omega
    · exact w5_1_3 S W
    · exact w5_1_4 S W
    · exact w5_1_5 S W
  · obtain rfl | rfl : j = 4 ∨ j = 5 := by omega
    · exact w5_2_4 S W
    · exact w5_2_5 S W
  · obtain rfl : j = 5 := by omega
    · exact w5_3_5 S W

def Sh6 (X H : Nat → Int) : Prop := X 0 = 0 ∧ X 1 = 1 ∧ X 2 = 4 ∧ X 3 = 3 ∧ X 4 = 2 ∧ X 5 = 1 ∧ H 0 = 0 ∧ H 1 < 0 ∧ H 2 = 0 ∧ 0 < H 3 ∧ 0 < H 4 ∧ 0 < H 5
theorem ring6 {X H : Nat → Int} (S : Sh6 X H) : Ring 6 2 X H := by
  obtain ⟨x0, x1, x2, x3, x4, x5, y0, y1, y2, y3, y4, y5⟩ := S
  refine ⟨by omega, by omega, x0, ?_, ?_, ?_, y0, y2, ?_, ?_⟩
  · intro v hv
    obtain rfl | rfl := (by omega : v = 0 ∨ v = 1) <;> (simp only [Nat.reduceAdd, Nat.zero_add]; omega)
  · intro v hv hv2
    obtain rfl | rfl | rfl := (by omega : v = 2 ∨ v = 3 ∨ v = 4) <;> (simp only [Nat.reduceAdd, Nat.zero_add]; omega)
  · simp only [Nat.reduceSub]; omega
  · intro v hv hv2
    obtain rfl := (by omega : v = 1)
    assumption
  · intro v hv hv2
    obtain rfl | rfl | rfl := (by omega : v = 3 ∨ v = 4 ∨ v = 5) <;> assumption
theorem w6_0_2 {X H : Nat → Int} (S : Sh6 X H) (W : WayR 6 X H 0 2) : Res 6 2 X H 0 2 := by
  obtain ⟨x0, x1, x2, x3, x4, x5, y0, y1, y2, y3, y4, y5⟩ := S
  have f3 : (0 < TR X H 0 2 4 ∧ 0 < TR X H 0 2 3) ∨ (TR X H 0 2 4 < 0 ∧ TR X H 0 2 3 < 0) := by
    have h0 : interP (X 0) (H 0) (X 2) (H 2) (X 3) (H 3) (X 4) (H 4) = false := W.fr 3 (by decide) (by decide) (by decide) (by decide) (by decide)
    have h := ns01 h0 (by omega) (by omega) (by omega) (by omega)
    rw [dl_1 (by omega), dr_1 (by omega)] at h
    exact h
  have f4 : (0 < TR X H 0 2 5 ∧ 0 < TR X H 0 2 4) ∨ (TR X H 0 2 5 < 0 ∧ TR X H 0 2 4 < 0) := by
    have h0 : interP (X 0) (H 0) (X 2) (H 2) (X 4) (H 4) (X 5) (H 5) = false := W.fr 4 (by decide) (by decide) (by decide) (by decide) (by decide)
    have h := ns01 h0 (by omega) (by omega) (by omega) (by omega)
    rw [dl_1 (by omega), dr_1 (by omega)] at h
    exact h
  have z1 : TR X H 0 1 2 ≠ 0 := W.s1 rfl
  clear W
  simp only [TR, T2, twiceP, x0, x1, x2, x3, x4, x5, y0, y2] at f3 f4 z1
  replace f3 := f3.resolve_right (by omega)
  replace f4 := f4.resolve_right (by omega)
  refine ⟨true, false, ?_, ⟨?_, ?_⟩, ?_, ?_, ?_⟩
  · intro v hv a1 a2
    obtain rfl | rfl := (by omega : v = 0 ∨ v = 1)
    · exfalso; simp only [Nat.reduceAdd, Nat.zero_add] at a1 a2; omega
    · exact pos_c (by simp only [Nat.reduceAdd, Nat.zero_add, TR, T2, twiceP, x0, x1, x2, x3, x4, x5, y0, y2]; omega)
  · intro v hv hv2 a1 a2
    obtain rfl | rfl | rfl := (by omega : v = 2 ∨ v = 3 ∨ v = 4)
    · exfalso; simp only [Nat.reduceAdd, Nat.zero_add] at a1 a2; omega
    · exact neg_c (by simp only [Nat.reduceAdd, Nat.zero_add, TR, T2, twiceP, x0, x1, x2, x3, x4, x5, y0, y2]; omega)
    · exact neg_c (by simp only [Nat.reduceAdd, Nat.zero_add, TR, T2, twiceP, x0, x1, x2, x3, x4, x5, y0, y2]; omega)
  · intro a1
    exfalso; simp only [Nat.reduceSub] at a1; omega
  · show locT (TR X H 5 0 1) (TR X H 0 2 1) (TR X H 0 5 2) (TR X H 0 2 5) (TR X H 0 1 2) = true
    exact loc_t (by simp only [TR, T2, twiceP, x0, x1, x2, x3, x4, x5, y0, y2]; omega)
  · show locT (TR X H 1 2 3) (TR X H 2 0 3) (TR X H 2 1 0) (TR X H 2 0 1) (TR X H 2 3 0) = true
    exact loc_t (by simp only [TR, T2, twiceP, x0, x1, x2, x3, x4, x5, y0, y2]; omega)
  · refine fun _ => .inl ⟨by omega, fun v hv n1 n2 a1 a2 => ?_⟩
    obtain rfl | rfl | rfl | rfl | rfl | rfl := (by omega : v = 0 ∨ v = 1 ∨ v = 2 ∨ v = 3 ∨ v = 4 ∨ v = 5)
    · exact absurd rfl n1
    · exact .inl ⟨by omega, by simp only [TR, T2, twiceP, x0, x1, x2, x3, x4, x5, y0, y2]; omega⟩
    · exact absurd rfl n2
    · exact .inr ⟨by omega, by simp only [TR, T2, twiceP, x0, x1, x2, x3, x4, x5, y0, y2]; omega⟩
    · exact .inr ⟨by omega, by simp only [TR, T2, twiceP, x0, x1, x2, x3, x4, x5, y0, y2]; omega⟩
    · exact .inr ⟨by omega, by simp only [TR, T2, twiceP, x0, x1, x2, x3, x4, x5, y0, y2]; omega⟩
theorem w6_0_3 {X H : Nat → Int} (S : Sh6 X H) (W : WayR 6 X H 0 3) : Res 6 2 X H 0 3 := by
  obtain ⟨x0, x1, x2, x3, x4, x5, y0, y1, y2, y3, y4, y5⟩ := S
  have f1 : (0 < TR X H 0 3 1 ∧ 0 < -(TR X H 1 2 3)) ∨ (TR X H 0 3 1 < 0 ∧ -(TR X H 1 2 3) < 0) := by
    have h0 : interP (X 0) (H 0) (X 3) (H 3) (X 1) (H 1) (X 2) (H 2) = false := W.fr 1 (by decide) (by decide) (by decide) (by decide) (by decide)
    have h := ns00 h0 (by omega) (by omega) (by omega) (by omega)
    rw [dl_1 (by omega), dr_2 (by omega)] at h
    exact h
  have f4 : (0 < TR X H 0 3 5 ∧ 0 < TR X H 0 3 4) ∨ (TR X H 0 3 5 < 0 ∧ TR X H 0 3 4 < 0) := by
    have h0 : interP (X 0) (H 0) (X 3) (H 3) (X 4) (H 4) (X 5) (H 5) = false := W.fr 4 (by decide) (by decide) (by decide) (by decide) (by decide)
    have h := ns01 h0 (by omega) (by omega) (by omega) (by omega)
    rw [dl_1 (by omega), dr_1 (by omega)] at h
    exact h
  clear W
  by_cases hc : 0 < TR X H 0 3 4
  · simp only [TR, T2, twiceP, x0, x1, x2, x3, x4, x5, y0, y2] at f1 f4 hc
    replace f1 := f1.resolve_left (by omega)
    replace f4 := f4.resolve_right (by omega)
    refine ⟨true, false, ?_, ⟨?_, ?_⟩, ?_, ?_, ?_⟩
    · intro v hv a1 a2
      obtain rfl | rfl := (by omega : v = 0 ∨ v = 1)
      · exfalso; simp only [Nat.reduceAdd, Nat.zero_add] at a1 a2; omega
      · exact pos_c (by simp only [Nat.reduceAdd, Nat.zero_add, TR, T2, twiceP, x0, x1, x2, x3, x4, x5, y0, y2]; omega)
    · intro v hv hv2 a1 a2
      obtain rfl | rfl | rfl := (by omega : v = 2 ∨ v = 3 ∨ v = 4)
      · exfalso; simp only [Nat.reduceAdd, Nat.zero_add] at a1 a2; omega
      · exfalso; simp only [Nat.reduceAdd, Nat.zero_add] at a1 a2; omega
      · exact neg_c (by simp only [Nat.reduceAdd, Nat.zero_add, TR, T2, twiceP, x0, x1, x2, x3, x4, x5, y0, y2]; omega)
    · intro a1
      exfalso; simp only [Nat.reduceSub] at a1; omega
    · show locT (TR X H 5 0 1) (TR X H 0 3 1) (TR X H 0 5 3) (TR X H 0 3 5) (TR X H 0 1 3) = true
      exact loc_t (by simp only [TR, T2, twiceP, x0, x1, x2, x3, x4, x5, y0, y2]; omega)
    · show locT (TR X H 2 3 4) (TR X H 3 0 4) (TR X H 3 2 0) (TR X H 3 0 2) (TR X H 3 4 0) = true
      exact loc_t (by simp only [TR, T2, twiceP, x0, x1, x2, x3, x4, x5, y0, y2]; omega)
    · refine fun _ => .inl ⟨by omega, fun v hv n1 n2 a1 a2 => ?_⟩
      obtain rfl | rfl | rfl | rfl | rfl | rfl := (by omega : v = 0 ∨ v = 1 ∨ v = 2 ∨ v = 3 ∨ v = 4 ∨ v = 5)
      · exact absurd rfl n1
      · exact .inl ⟨by omega, by simp only [TR, T2, twiceP, x0, x1, x2, x3, x4, x5, y0, y2]; omega⟩
      · exfalso; omega
      · exact absurd rfl n2
      · exact .inr ⟨by omega, by simp only [TR, T2, twiceP, x0, x1, x2, x3, x4, x5, y0, y2]; omega⟩
      · exact .inr ⟨by omega, by simp only [TR, T2, twiceP, x0, x1, x2, x3, x4, x5, y0, y2]; omega⟩
  · simp only [TR, T2, twiceP, x0, x1, x2, x3, x4, x5, y0, y2] at f1 f4 hc
    replace f1 := f1.resolve_left (by omega)
    replace f4 := f4.resolve_left (by omega)
    refine ⟨true, true, ?_, ⟨?_, ?_⟩, ?_, ?_, ?_⟩
    · intro v hv a1 a2
      obtain rfl | rfl := (by omega : v = 0 ∨ v = 1)
      · exfalso; simp only [Nat.reduceAdd, Nat.zero_add] at a1 a2; omega
      · exact pos_c (by simp only [Nat.reduceAdd, Nat.zero_add, TR, T2, twiceP, x0, x1, x2, x3, x4, x5, y0, y2]; omega)
    · intro v hv hv2 a1 a2
      obtain rfl | rfl | rfl := (by omega : v = 2 ∨ v = 3 ∨ v = 4)
      · exfalso; simp only [Nat.reduceAdd, Nat.zero_add] at a1 a2; omega
      · exfalso; simp only [Nat.reduceAdd, Nat.zero_add] at a1 a2; omega
      · exact pos_c (by simp only [Nat.reduceAdd, Nat.zero_add, TR, T2, twiceP, x0, x1, x2, x3, x4, x5, y0, y2]; omega)
    · intro a1
      exfalso; simp only [Nat.reduceSub] at a1; omega
    · show locT (TR X H 5 0 1) (TR X H 0 3 1) (TR X H 0 5 3) (TR X H 0 3 5) (TR X H 0 1 3) = false
      exact loc_f (by simp only [TR, T2, twiceP, x0, x1, x2, x3, x4, x5, y0, y2]; omega)
    · show locT (TR X H 2 3 4) (TR X H 3 0 4) (TR X H 3 2 0) (TR X H 3 0 2) (TR X H 3 4 0) = false
      exact loc_f (by simp only [TR, T2, twiceP, x0, x1, x2, x3, x4, x5, y0, y2]; omega)
    · exact fun h => absurd h (by decide)
theorem w6_0_4 {X H : Nat → Int} (S : Sh6 X H) (W : WayR 6 X H 0 4) : Res 6 2 X H 0 4 := by
  obtain ⟨x0, x1, x2, x3, x4, x5, y0, y1, y2, y3, y4, y5⟩ := S
  have f1 : (0 < TR X H 0 4 1 ∧ 0 < -(TR X H 1 2 4)) ∨ (TR X H 0 4 1 < 0 ∧ -(TR X H 1 2 4) < 0) := by
    have h0 : interP (X 0) (H 0) (X 4) (H 4) (X 1) (H 1) (X 2) (H 2) = false := W.fr 1 (by decide) (by decide) (by decide) (by decide) (by decide)
    have h := ns00 h0 (by omega) (by omega) (by omega) (by omega)
    rw [dl_1 (by omega), dr_2 (by omega)] at h
    exact h
  have z2 : TR X H 4 5 0 ≠ 0 := W.s2 rfl
  clear W
  by_cases hc : 0 < TR X H 0 4 5
  · simp only [TR, T2, twiceP, x0, x1, x2, x3, x4, x5, y0, y2] at f1 z2 hc
    replace f1 := f1.resolve_left (by omega)
    refine ⟨true, false, ?_, ⟨?_, ?_⟩, ?_, ?_, ?_⟩
    · intro v hv a1 a2
      obtain rfl | rfl := (by omega : v = 0 ∨ v = 1)
      · exact pos_c (by simp only [Nat.reduceAdd, Nat.zero_add, TR, T2, twiceP, x0, x1, x2, x3, x4, x5, y0, y2]; omega)
      · exact pos_c (by simp only [Nat.reduceAdd, Nat.zero_add, TR, T2, twiceP, x0, x1, x2, x3, x4, x5, y0, y2]; omega)
    · intro v hv hv2 a1 a2
      obtain rfl | rfl | rfl := (by omega : v = 2 ∨ v = 3 ∨ v = 4)
      · exfalso; simp only [Nat.reduceAdd, Nat.zero_add] at a1 a2; omega
      · exfalso; simp only [Nat.reduceAdd, Nat.zero_add] at a1 a2; omega
      · exact neg_c (by simp only [Nat.reduceAdd, Nat.zero_add, TR, T2, twiceP, x0, x1, x2, x3, x4, x5, y0, y2]; omega)
    · intro a1
      exact neg_c (by simp only [Nat.reduceSub, TR, T2, twiceP, x0, x1, x2, x3, x4, x5, y0, y2]; omega)
    · show locT (TR X H 5 0 1) (TR X H 0 4 1) (TR X H 0 5 4) (TR X H 0 4 5) (TR X H 0 1 4) = true
      exact loc_t (by simp only [TR, T2, twiceP, x0, x1, x2, x3, x4, x5, y0, y2]; omega)
    · show locT (TR X H 3 4 5) (TR X H 4 0 5) (TR X H 4 3 0) (TR X H 4 0 3) (TR X H 4 5 0) = true
      exact loc_t (by simp only [TR, T2, twiceP, x0, x1, x2, x3, x4, x5, y0, y2]; omega)
    · refine fun _ => .inl ⟨by omega, fun v hv n1 n2 a1 a2 => ?_⟩
      obtain rfl | rfl | rfl | rfl | rfl | rfl := (by omega : v = 0 ∨ v = 1 ∨ v = 2 ∨ v = 3 ∨ v = 4 ∨ v = 5)
      · exact absurd rfl n1
      · exact .inl ⟨by omega, by simp only [TR, T2, twiceP, x0, x1, x2, x3, x4, x5, y0, y2]; omega⟩
      · exfalso; omega
      · exfalso; omega
      · exact absurd rfl n2
      · exact .inr ⟨by omega, by simp only [TR, T2, twiceP, x0, x1, x2, x3, x4, x5, y0, y2]; omega⟩
  · simp only [TR, T2, twiceP, x0, x1, x2, x3, x4, x5, y0, y2] at f1 z2 hc
    replace f1 := f1.resolve_left (by omega)
    refine ⟨true, true, ?_, ⟨?_, ?_⟩, ?_, ?_, ?_⟩
    · intro v hv a1 a2
      obtain rfl | rfl := (by omega : v = 0 ∨ v = 1)
      · exact pos_c (by simp only [Nat.reduceAdd, Nat.zero_add, TR, T2, twiceP, x0, x1, x2, x3, x4, x5, y0, y2]; omega)
      · exact pos_c (by simp only [Nat.reduceAdd, Nat.zero_add, TR, T2, twiceP, x0, x1, x2, x3, x4, x5, y0, y2]; omega)
    · intro v hv hv2 a1 a2
      obtain rfl | rfl | rfl := (by omega : v = 2 ∨ v = 3 ∨ v = 4)
      · exfalso; simp only [Nat.reduceAdd, Nat.zero_add] at a1 a2; omega
      · exfalso; simp only [Nat.reduceAdd, Nat.zero_add] at a1 a2; omega
      · exact pos_c (by simp only [Nat.reduceAdd, Nat.zero_add, TR, T2, twiceP, x0, x1, x2, x3, x4, x5, y0, y2]; omega)
    · intro a1
      exact pos_c (by simp only [Nat.reduceSub, TR, T2, twiceP, x0, x1, x2, x3, x4, x5, y0, y2]; omega)
    · show locT (TR X H 5 0 1) (TR X H 0 4 1) (TR X H 0 5 4) (TR X H 0 4 5) (TR X H 0 1 4) = false
      exact loc_f (by simp only [TR, T2, twiceP, x0, x1, x2, x3, x4, x5, y0, y2]; omega)
    · show locT (TR X H 3 4 5) (TR X H 4 0 5) (TR X H 4 3 0) (TR X H 4 0 3) (TR X H 4 5 0) = false
      exact loc_f (by simp only [TR, T2, twiceP, x0, x1, x2, x3, x4, x5, y0, y2]; omega)
    · exact fun h => absurd h (by decide)
theorem w6_1_3 {X H : Nat → Int} (S : Sh6 X H) (W : WayR 6 X H 1 3) : Res 6 2 X H 1 3 := by
  obtain ⟨x0, x1, x2, x3, x4, x5, y0, y1, y2, y3, y4, y5⟩ := S
  have f4 : (0 < TR X H 1 3 5 ∧ 0 < TR X H 1 3 4) ∨ (TR X H 1 3 5 < 0 ∧ TR X H 1 3 4 < 0) := by
    have h0 : interP (X 1) (H 1) (X 3) (H 3) (X 4) (H 4) (X 5) (H 5) = false := W.fr 4 (by decide) (by decide) (by decide) (by decide) (by decide)
    have h := ns01 h0 (by omega) (by omega) (by omega) (by omega)
    rw [dl_1 (by omega), dr_1 (by omega)] at h
    exact h
  have f5 : (0 < -(TR X H 0 5 1) ∧ 0 < TR X H 1 3 5) ∨ (-(TR X H 0 5 1) < 0 ∧ TR X H 1 3 5 < 0) := by
    have h0 : interP (X 1) (H 1) (X 3) (H 3) (X 5) (H 5) (X 0) (H 0) = false := W.fr 5 (by decide) (by decide) (by decide) (by decide) (by decide)
    have h := ns01 h0 (by omega) (by omega) (by omega) (by omega)
    rw [dl_2 (by omega), dr_1 (by omega)] at h
    exact h
  have z1 : TR X H 1 2 3 ≠ 0 := W.s1 rfl
  clear W
  simp only [TR, T2, twiceP, x0, x1, x2, x3, x4, x5, y0, y2] at f4 f5 z1
  replace f5 := f5.resolve_right (by omega)
  replace f4 := f4.resolve_right (by omega)
  refine ⟨true, false, ?_, ⟨?_, ?_⟩, ?_, ?_, ?_⟩
  · intro v hv a1 a2
    obtain rfl | rfl := (by omega : v = 0 ∨ v = 1)
    · exfalso; simp only [Nat.reduceAdd, Nat.zero_add] at a1 a2; omega
    · exact pos_c (by simp only [Nat.reduceAdd, Nat.zero_add, TR, T2, twiceP, x0, x1, x2, x3, x4, x5, y0, y2]; omega)
  · intro v hv hv2 a1 a2
    obtain rfl | rfl | rfl := (by omega : v = 2 ∨ v = 3 ∨ v = 4)
    · exfalso; simp only [Nat.reduceAdd, Nat.zero_add] at a1 a2; omega
    · exact neg_c (by simp only [Nat.reduceAdd, Nat.zero_add, TR, T2, twiceP, x0, x1, x2, x3, x4, x5, y0, y2]; omega)
    · exact neg_c (by simp only [Nat.reduceAdd, Nat.zero_add, TR, T2, twiceP, x0, x1, x2, x3, x4, x5, y0, y2]; omega)
  · intro a1
    exfalso; simp only [Nat.reduceSub] at a1; omega
  · show locT (TR X H 0 1 2) (TR X H 1 3 2) (TR X H 1 0 3) (TR X H 1 3 0) (TR X H 1 2 3) = true
    exact loc_t (by simp only [TR, T2, twiceP, x0, x1, x2, x3, x4, x5, y0, y2]; omega)
  · show locT (TR X H 2 3 4) (TR X H 3 1 4) (TR X H 3 2 1) (TR X H 3 1 2) (TR X H 3 4 1) = true
    exact loc_t (by simp only [TR, T2, twiceP, x0, x1, x2, x3, x4, x5, y0, y2]; omega)
  · refine fun _ => .inl ⟨by omega, fun v hv n1 n2 a1 a2 => ?_⟩
    obtain rfl | rfl | rfl | rfl | rfl | rfl := (by omega : v = 0 ∨ v = 1 ∨ v = 2 ∨ v = 3 ∨ v = 4 ∨ v = 5)
    · exfalso; omega
    · exact absurd rfl n1
    · exfalso; omega
    · exact absurd rfl n2
    · exact .inr ⟨by omega, by simp only [TR, T2, twiceP, x0, x1, x2, x3, x4, x5, y0, y2]; omega⟩
    · exact .inr ⟨by omega, by simp only [TR, T2, twiceP, x0, x1, x2, x3, x4, x5, y0, y2]; omega⟩
theorem w6_1_4 {X H : Nat → Int} (S : Sh6 X H) (W : WayR 6 X H 1 4) : Res 6 2 X H 1 4 := by
  obtain ⟨x0, x1, x2, x3, x4, x5, y0, y1, y2, y3, y4, y5⟩ := S
  have f5 : (0 < -(TR X H 0 5 1) ∧ 0 < TR X H 1 4 5) ∨ (-(TR X H 0 5 1) < 0 ∧ TR X H 1 4 5 < 0) := by
    have h0 : interP (X 1) (H 1) (X 4) (H 4) (X 5) (H 5) (X 0) (H 0) = false := W.fr 5 (by decide) (by decide) (by decide) (by decide) (by decide)
    have h := ns01 h0 (by omega) (by omega) (by omega) (by omega)
    rw [dl_2 (by omega), dr_1 (by omega)] at h
    exact h
  clear W
  simp only [TR, T2, twiceP, x0, x1, x2, x3, x4, x5, y0, y2] at f5
  replace f5 := f5.resolve_right (by omega)
  refine ⟨true, false, ?_, ⟨?_, ?_⟩, ?_, ?_, ?_⟩
  · intro v hv a1 a2
    obtain rfl | rfl := (by omega : v = 0 ∨ v = 1)
    · exfalso; simp only [Nat.reduceAdd, Nat.zero_add] at a1 a2; omega
    · exact pos_c (by simp only [Nat.reduceAdd, Nat.zero_add, TR, T2, twiceP, x0, x1, x2, x3, x4, x5, y0, y2]; omega)
  · intro v hv hv2 a1 a2
    obtain rfl | rfl | rfl := (by omega : v = 2 ∨ v = 3 ∨ v = 4)
    · exfalso; simp only [Nat.reduceAdd, Nat.zero_add] at a1 a2; omega
    · exfalso; simp only [Nat.reduceAdd, Nat.zero_add] at a1 a2; omega
    · exact neg_c (by simp only [Nat.reduceAdd, Nat.zero_add, TR, T2, twiceP, x0, x1, x2, x3, x4, x5, y0, y2]; omega)
  · intro a1
    exfalso; simp only [Nat.reduceSub] at a1; omega
  · show locT (TR X H 0 1 2) (TR X H 1 4 2) (TR X H 1 0 4) (TR X H 1 4 0) (TR X H 1 2 4) = true
    exact loc_t (by simp only [TR, T2, twiceP, x0, x1, x2, x3, x4, x5, y0, y2]; omega)
  · show locT (TR X H 3 4 5) (TR X H 4 1 5) (TR X H 4 3 1) (TR X H 4 1 3) (TR X H 4 5 1) = true
    exact loc_t (by simp only [TR, T2, twiceP, x0, x1, x2, x3, x4, x5, y0, y2]; omega)
  · refine fun _ => .inl ⟨by omega, fun v hv n1 n2 a1 a2 => ?_⟩
    obtain rfl | rfl | rfl | rfl | rfl | rfl := (by omega : v = 0 ∨ v = 1 ∨ v = 2 ∨ v = 3 ∨ v = 4 ∨ v = 5)
    · exfalso; omega
    · exact absurd rfl n1
    · exfalso; omega
    · exfalso; omega
    · exact absurd rfl n2
    · exact .inr ⟨by omega, by simp only [TR, T2, twiceP, x0, x1, x2, x3, x4, x5, y0, y2]; omega⟩
theorem w6_1_5 {X H : Nat → Int} (S : Sh6 X H) (W : WayR 6 X H 1 5) : Res 6 2 X H 1 5 := by
  obtain ⟨x0, x1, x2, x3, x4, x5, y0, y1, y2, y3, y4, y5⟩ := S
  clear W
  refine ⟨true, false, ?_, ⟨?_, ?_⟩, ?_, ?_, ?_⟩
  · intro v hv a1 a2
    obtain rfl | rfl := (by omega : v = 0 ∨ v = 1)
    · exact pos_c (by simp only [Nat.reduceAdd, Nat.zero_add, TR, T2, twiceP, x0, x1, x2, x3, x4, x5, y0, y2]; omega)
    · exact pos_c (by simp only [Nat.reduceAdd, Nat.zero_add, TR, T2, twiceP, x0, x1, x2, x3, x4, x5, y0, y2]; omega)
  · intro v hv hv2 a1 a2
    obtain rfl | rfl | rfl := (by omega : v = 2 ∨ v = 3 ∨ v = 4)
    · exfalso; simp only [Nat.reduceAdd, Nat.zero_add] at a1 a2; omega
    · exfalso; simp only [Nat.reduceAdd, Nat.zero_add] at a1 a2; omega
    · exact neg_c (by simp only [Nat.reduceAdd, Nat.zero_add, TR, T2, twiceP, x0, x1, x2, x3, x4, x5, y0, y2]; omega)
  · intro a1
    exact neg_c (by simp only [Nat.reduceSub, TR, T2, twiceP, x0, x1, x2, x3, x4, x5, y0, y2]; omega)
  · show locT (TR X H 0 1 2) (TR X H 1 5 2) (TR X H 1 0 5) (TR X H 1 5 0) (TR X H 1 2 5) = true
    exact loc_t (by simp only [TR, T2, twiceP, x0, x1, x2, x3, x4, x5, y0, y2]; omega)
  · show locT (TR X H 4 5 0) (TR X H 5 1 0) (TR X H 5 4 1) (TR X H 5 1 4) (TR X H 5 0 1) = true
    exact loc_t (by simp only [TR, T2, twiceP, x0, x1, x2, x3, x4, x5, y0, y2]; omega)
  · exact fun _ => .inr (.inr ⟨by omega, by omega, by omega⟩)
theorem w6_2_4 {X H : Nat → Int} (S : Sh6 X H) (W : WayR 6 X H 2 4) : Res 6 2 X H 2 4 := by
  obtain ⟨x0, x1, x2, x3, x4, x5, y0, y1, y2, y3, y4, y5⟩ := S
  have z1 : TR X H 2 3 4 ≠ 0 := W.s1 rfl
  clear W
  by_cases hc : 0 < TR X H 4 2 3
  · simp only [TR, T2, twiceP, x0, x1, x2, x3, x4, x5, y0, y2] at z1 hc
    refine ⟨true, false, ?_, ⟨?_, ?_⟩, ?_, ?_, ?_⟩
    · intro v hv a1 a2
      obtain rfl | rfl := (by omega : v = 0 ∨ v = 1)
      · exfalso; simp only [Nat.reduceAdd, Nat.zero_add] at a1 a2; omega
      · exact pos_c (by simp only [Nat.reduceAdd, Nat.zero_add, TR, T2, twiceP, x0, x1, x2, x3, x4, x5, y0, y2]; omega)
    · intro v hv hv2 a1 a2
      obtain rfl | rfl | rfl := (by omega : v = 2 ∨ v = 3 ∨ v = 4)
      · exact neg_c (by simp only [Nat.reduceAdd, Nat.zero_add, TR, T2, twiceP, x0, x1, x2, x3, x4, x5, y0, y2]; omega)
      · exact neg_c (by simp only [Nat.reduceAdd, Nat.zero_add, TR, T2, twiceP, x0, x1, x2, x3, x4, x5, y0, y2]; omega)
      · exfalso; simp only [Nat.reduceAdd, Nat.zero_add] at a1 a2; omega
    · intro a1
      exfalso; simp only [Nat.reduceSub] at a1; omega
    · show locT (TR X H 1 2 3) (TR X H 2 4 3) (TR X H 2 1 4) (TR X H 2 4 1) (TR X H 2 3 4) = true
      exact loc_t (by simp only [TR, T2, twiceP, x0, x1, x2, x3, x4, x5, y0, y2]; omega)
    · show locT (TR X H 3 4 5) (TR X H 4 2 5) (TR X H 4 3 2) (TR X H 4 2 3) (TR X H 4 5 2) = true
      exact loc_t (by simp only [TR, T2, twiceP, x0, x1, x2, x3, x4, x5, y0, y2]; omega)
    · refine fun _ => .inr <| .inl ⟨by omega, fun v hv n1 n2 a1 a2 => ?_⟩
      obtain rfl | rfl | rfl | rfl | rfl | rfl := (by omega : v = 0 ∨ v = 1 ∨ v = 2 ∨ v = 3 ∨ v = 4 ∨ v = 5)
      · exfalso; omega
      · exfalso; omega
      · exact absurd rfl n2
      · exact .inr ⟨by omega, by simp only [TR, T2, twiceP, x0, x1, x2, x3, x4, x5, y0, y2]; omega⟩
      · exact absurd rfl n1
      · exfalso; omega
  · simp only [TR, T2, twiceP, x0, x1, x2, x3, x4, x5, y0, y2] at z1 hc
    refine ⟨true, true, ?_, ⟨?_, ?_⟩, ?_, ?_, ?_⟩
    · intro v hv a1 a2
      obtain rfl | rfl := (by omega : v = 0 ∨ v = 1)
      · exfalso; simp only [Nat.reduceAdd, Nat.zero_add] at a1 a2; omega
      · exact pos_c (by simp only [Nat.reduceAdd, Nat.zero_add, TR, T2, twiceP, x0, x1, x2, x3, x4, x5, y0, y2]; omega)
    · intro v hv hv2 a1 a2
      obtain rfl | rfl | rfl := (by omega : v = 2 ∨ v = 3 ∨ v = 4)
      · exact pos_c (by simp only [Nat.reduceAdd, Nat.zero_add, TR, T2, twiceP, x0, x1, x2, x3, x4, x5, y0, y2]; omega)
      · exact pos_c (by simp only [Nat.reduceAdd, Nat.zero_add, TR, T2, twiceP, x0, x1, x2, x3, x4, x5, y0, y2]; omega)
      · exfalso; simp only [Nat.reduceAdd, Nat.zero_add] at a1 a2; omega
    · intro a1
      exfalso; simp only [Nat.reduceSub] at a1; omega
    · show locT (TR X H 1 2 3) (TR X H 2 4 3) (TR X H 2 1 4) (TR X H 2 4 1) (TR X H 2 3 4) = false
      exact loc_f (by simp only [TR, T2, twiceP, x0, x1, x2, x3, x4, x5, y0, y2]; omega)
    · show locT (TR X H 3 4 5) (TR X H 4 2 5) (TR X H 4 3 2) (TR X H 4 2 3) (TR X H 4 5 2) = false
      exact loc_f (by simp only [TR, T2, twiceP, x0, x1, x2, x3, x4, x5, y0, y2]; omega)
    · exact fun h => absurd h (by decide)
theorem w6_2_5 {X H : Nat → Int} (S : Sh6 X H) (W : WayR 6 X H 2 5) : Res 6 2 X H 2 5 := by
  obtain ⟨x0, x1, x2, x3, x4, x5, y0, y1, y2, y3, y4, y5⟩ := S
  have f0 : (0 < -(TR X H 0 1 5) ∧ 0 < TR X H 5 2 1) ∨ (-(TR X H 0 1 5) < 0 ∧ TR X H 5 2 1 < 0) := by
    have h0 : interP (X 2) (H 2) (X 5) (H 5) (X 0) (H 0) (X 1) (H 1) = false := W.fr 0 (by decide) (by decide) (by decide) (by decide) (by decide)
    have h := ns10 h0 (by omega) (by omega) (by omega) (by omega)
    rw [dl_2 (by omega), dr_1 (by omega)] at h
    exact h
  have f3 : (0 < TR X H 5 2 4 ∧ 0 < TR X H 5 2 3) ∨ (TR X H 5 2 4 < 0 ∧ TR X H 5 2 3 < 0) := by
    have h0 : interP (X 2) (H 2) (X 5) (H 5) (X 3) (H 3) (X 4) (H 4) = false := W.fr 3 (by decide) (by decide) (by decide) (by decide) (by decide)
    have h := ns11 h0 (by omega) (by omega) (by omega) (by omega)
    rw [dl_1 (by omega), dr_1 (by omega)] at h
    exact h
  clear W
  by_cases hc : 0 < TR X H 5 2 3
  · simp only [TR, T2, twiceP, x0, x1, x2, x3, x4, x5, y0, y2] at f0 f3 hc
    replace f0 := f0.resolve_left (by omega)
    replace f3 := f3.resolve_right (by omega)
    refine ⟨true, false, ?_, ⟨?_, ?_⟩, ?_, ?_, ?_⟩
    · intro v hv a1 a2
      obtain rfl | rfl := (by omega : v = 0 ∨ v = 1)
      · exfalso; simp only [Nat.reduceAdd, Nat.zero_add] at a1 a2; omega
      · exact pos_c (by simp only [Nat.reduceAdd, Nat.zero_add, TR, T2, twiceP, x0, x1, x2, x3, x4, x5, y0, y2]; omega)
    · intro v hv hv2 a1 a2
      obtain rfl | rfl | rfl := (by omega : v = 2 ∨ v = 3 ∨ v = 4)
      · exfalso; simp only [Nat.reduceAdd, Nat.zero_add] at a1 a2; omega
      · exact neg_c (by simp only [Nat.reduceAdd, Nat.zero_add, TR, T2, twiceP, x0, x1, x2, x3, x4, x5, y0, y2]; omega)
      · exfalso; simp only [Nat.reduceAdd, Nat.zero_add] at a1 a2; omega
    · intro a1
      exfalso; simp only [Nat.reduceSub] at a1; omega
    · show locT (TR X H 1 2 3) (TR X H 2 5 3) (TR X H 2 1 5) (TR X H 2 5 1) (TR X H 2 3 5) = true
      exact loc_t (by simp only [TR, T2, twiceP, x0, x1, x2, x3, x4, x5, y0, y2]; omega)
    · show locT (TR X H 4 5 0) (TR X H 5 2 0) (TR X H 5 4 2) (TR X H 5 2 4) (TR X H 5 0 2) = true
      exact loc_t (by simp only [TR, T2, twiceP, x0, x1, x2, x3, x4, x5, y0, y2]; omega)
    · refine fun _ => .inr <| .inl ⟨by omega, fun v hv n1 n2 a1 a2 => ?_⟩
      obtain rfl | rfl | rfl | rfl | rfl | rfl := (by omega : v = 0 ∨ v = 1 ∨ v = 2 ∨ v = 3 ∨ v = 4 ∨ v = 5)
      · exfalso; omega
      · exact .inl ⟨by omega, by simp only [TR, T2, twiceP, x0, x1, x2, x3, x4, x5, y0, y2]; omega⟩
      · exact absurd rfl n2
      · exact .inr ⟨by omega, by simp only [TR, T2, twiceP, x0, x1, x2, x3, x4, x5, y0, y2]; omega⟩
      · exact .inr ⟨by omega, by simp only [TR, T2, twiceP, x0, x1, x2, x3, x4, x5, y0, y2]; omega⟩
      · exact absurd rfl n1
  · simp only [TR, T2, twiceP, x0, x1, x2, x3, x4, x5, y0, y2] at f0 f3 hc
    replace f0 := f0.resolve_left (by omega)
    replace f3 := f3.resolve_left (by omega)
    refine ⟨true, true, ?_, ⟨?_, ?_⟩, ?_, ?_, ?_⟩
    · intro v hv a1 a2
      obtain rfl | rfl := (by omega : v = 0 ∨ v = 1)
      · exfalso; simp only [Nat.reduceAdd, Nat.zero_add] at a1 a2; omega
      · exact pos_c (by simp only [Nat.reduceAdd, Nat.zero_add, TR, T2, twiceP, x0, x1, x2, x3, x4, x5, y0, y2]; omega)
    · intro v hv hv2 a1 a2
      obtain rfl | rfl | rfl := (by omega : v = 2 ∨ v = 3 ∨ v = 4)
      · exfalso; simp only [Nat.reduceAdd, Nat.zero_add] at a1 a2; omega
      · exact pos_c (by simp only [Nat.reduceAdd, Nat.zero_add, TR, T2, twiceP, x0, x1, x2, x3, x4, x5, y0, y2]; omega)
      · exfalso; simp only [Nat.reduceAdd, Nat.zero_add] at a1 a2; omega
    · intro a1
      exfalso; simp only [Nat.reduceSub] at a1; omega
    · show locT (TR X H 1 2 3) (TR X H 2 5 3) (TR X H 2 1 5) (TR X H 2 5 1) (TR X H 2 3 5) = false
      exact loc_f (by simp only [TR, T2, twiceP, x0, x1, x2, x3, x4, x5, y0, y2]; omega)
    · show locT (TR X H 4 5 0) (TR X H 5 2 0) (TR X H 5 4 2) (TR X H 5 2 4) (TR X H 5 0 2) = false
      exact loc_f (by simp only [TR, T2, twiceP, x0, x1, x2, x3, x4, x5, y0, y2]; omega)
    · exact fun h => absurd h (by decide)
theorem w6_3_5 {X H : Nat → Int} (S : Sh6 X H) (W : WayR 6 X H 3 5) : Res 6 2 X H 3 5 := by
  obtain ⟨x0, x1, x2, x3, x4, x5, y0, y1, y2, y3, y4, y5⟩ := S
  have f0 : (0 < -(TR X H 0 1 5) ∧ 0 < TR X H 5 3 1) ∨ (-(TR X H 0 1 5) < 0 ∧ TR X H 5 3 1 < 0) := by
    have h0 : interP (X 3) (H 3) (X 5) (H 5) (X 0) (H 0) (X 1) (H 1) = false := W.fr 0 (by decide) (by decide) (by decide) (by decide) (by decide)
    have h := ns10 h0 (by omega) (by omega) (by omega) (by omega)
    rw [dl_2 (by omega), dr_1 (by omega)] at h
    exact h
  have f1 : (0 < TR X H 5 3 1 ∧ 0 < -(TR X H 1 2 3)) ∨ (TR X H 5 3 1 < 0 ∧ -(TR X H 1 2 3) < 0) := by
    have h0 : interP (X 3) (H 3) (X 5) (H 5) (X 1) (H 1) (X 2) (H 2) = false := W.fr 1 (by decide) (by decide) (by decide) (by decide) (by decide)
    have h := ns10 h0 (by omega) (by omega) (by omega) (by omega)
    rw [dl_1 (by omega), dr_2 (by omega)] at h
    exact h
  have z1 : TR X H 3 4 5 ≠ 0 := W.s1 rfl
  clear W
  by_cases hc : 0 < TR X H 5 3 4
  · simp only [TR, T2, twiceP, x0, x1, x2, x3, x4, x5, y0, y2] at f0 f1 z1 hc
    replace f0 := f0.resolve_left (by omega)
    replace f1 := f1.resolve_left (by omega)
    refine ⟨true, false, ?_, ⟨?_, ?_⟩, ?_, ?_, ?_⟩
    · intro v hv a1 a2
      obtain rfl | rfl := (by omega : v = 0 ∨ v = 1)
      · exfalso; simp only [Nat.reduceAdd, Nat.zero_add] at a1 a2; omega
      · exact pos_c (by simp only [Nat.reduceAdd, Nat.zero_add, TR, T2, twiceP, x0, x1, x2, x3, x4, x5, y0, y2]; omega)
    · intro v hv hv2 a1 a2
      obtain rfl | rfl | rfl := (by omega : v = 2 ∨ v = 3 ∨ v = 4)
      · exfalso; simp only [Nat.reduceAdd, Nat.zero_add] at a1 a2; omega
      · exact neg_c (by simp only [Nat.reduceAdd, Nat.zero_add, TR, T2, twiceP, x0, x1, x2, x3, x4, x5, y0, y2]; omega)
      · exact neg_c (by simp only [Nat.reduceAdd, Nat.zero_add, TR, T2, twiceP, x0, x1, x2, x3, x4, x5, y0, y2]; omega)
    · intro a1
      exfalso; simp only [Nat.reduceSub] at a1; omega
    · show locT (TR X H 2 3 4) (TR X H 3 5 4) (TR X H 3 2 5) (TR X H 3 5 2) (TR X H 3 4 5) = true
      exact loc_t (by simp only [TR, T2, twiceP, x0, x1, x2, x3, x4, x5, y0, y2]; omega)
    · show locT (TR X H 4 5 0) (TR X H 5 3 0) (TR X H 5 4 3) (TR X H 5 3 4) (TR X H 5 0 3) = true
      exact loc_t (by simp only [TR, T2, twiceP, x0, x1, x2, x3, x4, x5, y0, y2]; omega)
    · refine fun _ => .inr <| .inl ⟨by omega, fun v hv n1 n2 a1 a2 => ?_⟩
      obtain rfl | rfl | rfl | rfl | rfl | rfl := (by omega : v = 0 ∨ v = 1 ∨ v = 2 ∨ v = 3 ∨ v = 4 ∨ v = 5)
      · exfalso; omega
      · exact .inl ⟨by omega, by simp only [TR, T2, twiceP, x0, x1, x2, x3, x4, x5, y0, y2]; omega⟩
      · exfalso; omega
      · exact absurd rfl n2
      · exact .inr ⟨by omega, by simp only [TR, T2, twiceP, x0, x1, x2, x3, x4, x5, y0, y2]; omega⟩
      · exact absurd rfl n1
  · simp only [TR, T2, twiceP, x0, x1, x2, x3, x4, x5, y0, y2] at f0 f1 z1 hc
    replace f0 := f0.resolve_left (by omega)
    replace f1 := f1.resolve_left (by omega)
    refine ⟨true, true, ?_, ⟨?_, ?_⟩, ?_, ?_, ?_⟩
    · intro v hv a1 a2
      obtain rfl | rfl := (by omega : v = 0 ∨ v = 1)
      · exfalso; simp only [Nat.reduceAdd, Nat.zero_add] at a1 a2; omega
      · exact pos_c (by simp only [Nat.reduceAdd, Nat.zero_add, TR, T2, twiceP, x0, x1, x2, x3, x4, x5, y0, y2]; omega)
    · intro v hv hv2 a1 a2
      obtain rfl | rfl | rfl := (by omega : v = 2 ∨ v = 3 ∨ v = 4)
      · exfalso; simp only [Nat.reduceAdd, Nat.zero_add] at a1 a2; omega
      · exact pos_c (by simp only [Nat.reduceAdd, Nat.zero_add, TR, T2, twiceP, x0, x1, x2, x3, x4, x5, y0, y2]; omega)
      · exact pos_c (by simp only [Nat.reduceAdd, Nat.zero_add, TR, T2, twiceP, x0, x1, x2, x3, x4, x5, y0, y2]; omega)
    · intro a1
      exfalso; simp only [Nat.reduceSub] at a1; omega
    · show locT (TR X H 2 3 4) (TR X H 3 5 4) (TR X H 3 2 5) (TR X H 3 5 2) (TR X H 3 4 5) = false
      exact loc_f (by simp only [TR, T2, twiceP, x0, x1, x2, x3, x4, x5, y0, y2]; omega)
    · show locT (TR X H 4 5 0) (TR X H 5 3 0) (TR X H 5 4 3) (TR X H 5 3 4) (TR X H 5 0 3) = false
      exact loc_f (by simp only [TR, T2, twiceP, x0, x1, x2, x3, x4, x5, y0, y2]; omega)
    · exact fun h => absurd h (by decide)
theorem shape6 {X H : Nat → Int} (S : Sh6 X H) {i j : Nat} (W : WayR 6 X H i j) : Res 6 2 X H i j := by
  have hap := W.ap
  unfold Apart at hap
  obtain rfl | rfl | rfl | rfl : i = 0 ∨ i = 1 ∨ i = 2 ∨ i = 3 := by omega
  · obtain rfl | rfl | rfl : j = 2 ∨ j = 3 ∨ j = 4 := by omega
    · exact w6_0_2 S W
    · exact w6_0_3 S W
    · exact w6_0_4 S W
  · obtain rfl | rfl | rfl : j = 3 ∨ j = 4 ∨ j = 5 := by omega
    · exact w6_1_3 S W
    · exact w6_1_4 S W
    · exact w6_1_5 S W
  · obtain rfl | rfl : j = 4 ∨ j = 5 := by omega
    · exact w6_2_4 S W
    · exact w6_2_5 S W
  · obtain rfl : j = 5 := by omega
    · exact w6_3_5 S W

def Sh7 (X H : Nat → Int) : Prop := X 0 = 0 ∧ X 1 = 1 ∧ X 2 = 2 ∧ X 3 = 3 ∧ X 4 = 4 ∧ X 5 = 2 ∧ H 0 = 0 ∧ H 1 < 0 ∧ H 2 < 0 ∧ H 3 < 0 ∧ H 4 = 0 ∧ 0 < H 5
theorem ring7 {X H : Nat → Int} (S : Sh7 X H) : Ring 6 4 X H := by
  obtain ⟨x0, x1, x2, x3, x4, x5, y0, y1, y2, y3, y4, y5⟩ := S
  refine ⟨by omega, by omega, x0, ?_, ?_, ?_, y0, y4, ?_, ?_⟩
  · intro v hv
    obtain rfl | rfl | rfl | rfl := (by omega : v = 0 ∨ v = 1 ∨ v = 2 ∨ v = 3) <;> (simp only [Nat.reduceAdd, Nat.zero_add]; omega)
  · intro v hv hv2
    obtain rfl := (by omega : v = 4)
    (simp only [Nat.reduceAdd, Nat.zero_add]; omega)
  · simp only [Nat.reduceSub]; omega
  · intro v hv hv2
    obtain rfl | rfl | rfl := (by omega : v = 1 ∨ v = 2 ∨ v = 3) <;> assumption
  · intro v hv hv2
    obtain rfl := (by omega : v = 5)
    assumption
theorem w7_0_2 {X H : Nat → Int} (S : Sh7 X H) (W : WayR 6 X H 0 2) : Res 6 4 X H 0 2 := by
  obtain ⟨x0, x1, x2, x3, x4, x5, y0, y1, y2, y3, y4, y5⟩ := S
  have f4 : (0 < TR X H 0 2 5 ∧ 0 < -(TR X H 5 4 2)) ∨ (TR X H 0 2 5 < 0 ∧ -(TR X H 5 4 2) < 0) := by
    have h0 : interP (X 0) (H 0) (X 2) (H 2) (X 4) (H 4) (X 5) (H 5) = false := W.fr 4 (by decide) (by decide) (by decide) (by decide) (by decide)
    have h := ns01 h0 (by omega) (by omega) (by omega) (by omega)
    rw [dl_1 (by omega), dr_2 (by omega)] at h
    exact h
  have z1 : TR X H 0 1 2 ≠ 0 := W.s1 rfl
  clear W
  by_cases hc : TR X H 0 2 1 < 0
  · simp only [TR, T2, twiceP, x0, x1, x2, x3, x4, x5, y0, y4] at f4 z1 hc
    replace f4 := f4.resolve_right (by omega)
    refine ⟨true, false, ?_, ⟨?_, ?_⟩, ?_, ?_, ?_⟩
    · intro v hv a1 a2
      obtain rfl | rfl | rfl | rfl := (by omega : v = 0 ∨ v = 1 ∨ v = 2 ∨ v = 3)
      · exact pos_c (by simp only [Nat.reduceAdd, Nat.zero_add, TR, T2, twiceP, x0, x1, x2, x3, x4, x5, y0, y4]; omega)
      · exact pos_c (by simp only [Nat.reduceAdd, Nat.zero_add, TR, T2, twiceP, x0, x1, x2, x3, x4, x5, y0, y4]; omega)
      · exfalso; simp only [Nat.reduceAdd, Nat.zero_add] at a1 a2; omega
      · exfalso; simp only [Nat.reduceAdd, Nat.zero_add] at a1 a2; omega
    · intro v hv hv2 a1 a2
      obtain rfl := (by omega : v = 4)
      · exfalso; simp only [Nat.reduceAdd, Nat.zero_add] at a1 a2; omega
    · intro a1
      exact neg_c (by simp only [Nat.reduceSub, TR, T2, twiceP, x0, x1, x2, x3, x4, x5, y0, y4]; omega)
    · show locT (TR X H 5 0 1) (TR X H 0 2 1) (TR X H 0 5 2) (TR X H 0 2 5) (TR X H 0 1 2) = true
      exact loc_t (by simp only [TR, T2, twiceP, x0, x1, x2, x3, x4, x5, y0, y4]; omega)
    · show locT (TR X H 1 2 3) (TR X H 2 0 3) (TR X H 2 1 0) (TR X H 2 0 1) (TR X H 2 3 0) = true
      exact loc_t (by simp only [TR, T2, twiceP, x0, x1, x2, x3, x4, x5, y0, y4]; omega)
    · refine fun _ => .inl ⟨by omega, fun v hv n1 n2 a1 a2 => ?_⟩
      obtain rfl | rfl | rfl | rfl | rfl | rfl := (by omega : v = 0 ∨ v = 1 ∨ v = 2 ∨ v = 3 ∨ v = 4 ∨ v = 5)
      · exact absurd rfl n1
      · exact .inl ⟨by omega, by simp only [TR, T2, twiceP, x0, x1, x2, x3, x4, x5, y0, y4]; omega⟩
      · exact absurd rfl n2
      · exfalso; omega
      · exfalso; omega
      · exact .inr ⟨by omega, by simp only [TR, T2, twiceP, x0, x1, x2, x3, x4, x5, y0, y4]; omega⟩
  · simp only [TR, T2, twiceP, x0, x1, x2, x3, x4, x5, y0, y4] at f4 z1 hc
    replace f4 := f4.resolve_right (by omega)
    refine ⟨false, false, ?_, ⟨?_, ?_⟩, ?_, ?_, ?_⟩
    · intro v hv a1 a2
      obtain rfl | rfl | rfl | rfl := (by omega : v = 0 ∨ v = 1 ∨ v = 2 ∨ v = 3)
      · exact neg_c (by simp only [Nat.reduceAdd, Nat.zero_add, TR, T2, twiceP, x0, x1, x2, x3, x4, x5, y0, y4]; omega)
      · exact neg_c (by simp only [Nat.reduceAdd, Nat.zero_add, TR, T2, twiceP, x0, x1, x2, x3, x4, x5, y0, y4]; omega)
      · exfalso; simp only [Nat.reduceAdd, Nat.zero_add] at a1 a2; omega
      · exfalso; simp only [Nat.reduceAdd, Nat.zero_add] at a1 a2; omega
    · intro v hv hv2 a1 a2
      obtain rfl := (by omega : v = 4)
      · exfalso; simp only [Nat.reduceAdd, Nat.zero_add] at a1 a2; omega
    · intro a1
      exact neg_c (by simp only [Nat.reduceSub, TR, T2, twiceP, x0, x1, x2, x3, x4, x5, y0, y4]; omega)
    · show locT (TR X H 5 0 1) (TR X H 0 2 1) (TR X H 0 5 2) (TR X H 0 2 5) (TR X H 0 1 2) = false
      exact loc_f (by simp only [TR, T2, twiceP, x0, x1, x2, x3, x4, x5, y0, y4]; omega)
    · show locT (TR X H 1 2 3) (TR X H 2 0 3) (TR X H 2 1 0) (TR X H 2 0 1) (TR X H 2 3 0) = false
      exact loc_f (by simp only [TR, T2, twiceP, x0, x1, x2, x3, x4, x5, y0, y4]; omega)
    · exact fun h => absurd h (by decide)
theorem w7_0_3 {X H : Nat → Int} (S : Sh7 X H) (W : WayR 6 X H 0 3) : Res 6 4 X H 0 3 := by
  obtain ⟨x0, x1, x2, x3, x4, x5, y0, y1, y2, y3, y4, y5⟩ := S
  have f1 : (0 < TR X H 0 3 1 ∧ 0 < TR X H 0 3 2) ∨ (TR X H 0 3 1 < 0 ∧ TR X H 0 3 2 < 0) := by
    have h0 : interP (X 0) (H 0) (X 3) (H 3) (X 1) (H 1) (X 2) (H 2) = false := W.fr 1 (by decide) (by decide) (by decide) (by decide) (by decide)
    have h := ns00 h0 (by omega) (by omega) (by omega) (by omega)
    rw [dl_1 (by omega), dr_1 (by omega)] at h
    exact h
  have f4 : (0 < TR X H 0 3 5 ∧ 0 < -(TR X H 5 4 3)) ∨ (TR X H 0 3 5 < 0 ∧ -(TR X H 5 4 3) < 0) := by
    have h0 : interP (X 0) (H 0) (X 3) (H 3) (X 4) (H 4) (X 5) (H 5) = false := W.fr 4 (by decide) (by decide) (by decide) (by decide) (by decide)
    have h := ns01 h0 (by omega) (by omega) (by omega) (by omega)
    rw [dl_1 (by omega), dr_2 (by omega)] at h
    exact h
  clear W
  by_cases hc : TR X H 0 3 1 < 0
  · simp only [TR, T2, twiceP, x0, x1, x2, x3, x4, x5, y0, y4] at f1 f4 hc
    replace f1 := f1.resolve_left (by omega)
    replace f4 := f4.resolve_right (by omega)
    refine ⟨true, false, ?_, ⟨?_, ?_⟩, ?_, ?_, ?_⟩
    · intro v hv a1 a2
      obtain rfl | rfl | rfl | rfl := (by omega : v = 0 ∨ v = 1 ∨ v = 2 ∨ v = 3)
      · exfalso; simp only [Nat.reduceAdd, Nat.zero_add] at a1 a2; omega
      · exact pos_c (by simp only [Nat.reduceAdd, Nat.zero_add, TR, T2, twiceP, x0, x1, x2, x3, x4, x5, y0, y4]; omega)
      · exfalso; simp only [Nat.reduceAdd, Nat.zero_add] at a1 a2; omega
      · exfalso; simp only [Nat.reduceAdd, Nat.zero_add] at a1 a2; omega
    · intro v hv hv2 a1 a2
      obtain rfl := (by omega : v = 4)
      · exfalso; simp only [Nat.reduceAdd, Nat.zero_add] at a1 a2; omega
    · intro a1
      exact neg_c (by simp only [Nat.reduceSub, TR, T2, twiceP, x0, x1, x2, x3, x4, x5, y0, y4]; omega)
    · show locT (TR X H 5 0 1) (TR X H 0 3 1) (TR X H 0 5 3) (TR X H 0 3 5) (TR X H 0 1 3) = true
      exact loc_t (by simp only [TR, T2, twiceP, x0, x1, x2, x3, x4, x5, y0, y4]; omega)
    · show locT (TR X H 2 3 4) (TR X H 3 0 4) (TR X H 3 2 0) (TR X H 3 0 2) (TR X H 3 4 0) = true
      exact loc_t (by simp only [TR, T2, twiceP, x0, x1, x2, x3, x4, x5, y0, y4]; omega)
    · refine fun _ => .inl ⟨by omega, fun v hv n1 n2 a1 a2 => ?_⟩
      obtain rfl | rfl | rfl | rfl | rfl | rfl := (by omega : v = 0 ∨ v = 1 ∨ v = 2 ∨ v = 3 ∨ v = 4 ∨ v = 5)
      · exact absurd rfl n1
      · exact .inl ⟨by omega, by simp only [TR, T2, twiceP, x0, x1, x2, x3, x4, x5, y0, y4]; omega⟩
      · exact .inl ⟨by omega, by simp only [TR, T2, twiceP, x0, x1, x2, x3, x4, x5, y0, y4]; omega⟩
      · exact absurd rfl n2
      · exfalso; omega
      · exact .inr ⟨by omega, by simp only [TR, T2, twiceP, x0, x1, x2, x3, x4, x5, y0, y4]; omega⟩
  · simp only [TR, T2, twiceP, x0, x1, x2, x3, x4, x5, y0, y4] at f1 f4 hc
    replace f1 := f1.resolve_right (by omega)
    replace f4 := f4.resolve_right (by omega)
    refine ⟨false, false, ?_, ⟨?_, ?_⟩, ?_, ?_, ?_⟩
    · intro v hv a1 a2
      obtain rfl | rfl | rfl | rfl := (by omega : v = 0 ∨ v = 1 ∨ v = 2 ∨ v = 3)
      · exfalso; simp only [Nat.reduceAdd, Nat.zero_add] at a1 a2; omega
      · exact neg_c (by simp only [Nat.reduceAdd, Nat.zero_add, TR, T2, twiceP, x0, x1, x2, x3, x4, x5, y0, y4]; omega)
      · exfalso; simp only [Nat.reduceAdd, Nat.zero_add] at a1 a2; omega
      · exfalso; simp only [Nat.reduceAdd, Nat.zero_add] at a1 a2; omega
    · intro v hv hv2 a1 a2
      obtain rfl := (by omega : v = 4)
      · exfalso; simp only [Nat.reduceAdd, Nat.zero_add] at a1 a2; omega
    · intro a1
      exact neg_c (by simp only [Nat.reduceSub, TR, T2, twiceP, x0, x1, x2, x3, x4, x5, y0, y4]; omega)
    · show locT (TR X H 5 0 1) (TR X H 0 3 1) (TR X H 0 5 3) (TR X H 0 3 5) (TR X H 0 1 3) = false
      exact loc_f (by simp only [TR, T2, twiceP, x0, x1, x2, x3, x4, x5, y0, y4]; omega)
    · show locT (TR X H 2 3 4) (TR X H 3 0 4) (TR X H 3 2 0) (TR X H 3 0 2) (TR X H 3 4 0) = false
      exact loc_f (by simp only [TR, T2, twiceP, x0, x1, x2, x3, x4, x5, y0, y4]; omega)
    · exact fun h => absurd h (by decide)
theorem w7_0_4 {X H : Nat → Int} (S : Sh7 X H) (W : WayR 6 X H 0 4) : Res 6 4 X H 0 4 := by
  obtain ⟨x0, x1, x2, x3, x4, x5, y0, y1, y2, y3, y4, y5⟩ := S
  have f1 : (0 < TR X H 0 4 1 ∧ 0 < TR X H 0 4 2) ∨ (TR X H 0 4 1 < 0 ∧ TR X H 0 4 2 < 0) := by
    have h0 : interP (X 0) (H 0) (X 4) (H 4) (X 1) (H 1) (X 2) (H 2) = false := W.fr 1 (by decide) (by decide) (by decide) (by decide) (by decide)
    have h := ns00 h0 (by omega) (by omega) (by omega) (by omega)
    rw [dl_1 (by omega), dr_1 (by omega)] at h
    exact h
  have f2 : (0 < TR X H 0 4 2 ∧ 0 < TR X H 0 4 3) ∨ (TR X H 0 4 2 < 0 ∧ TR X H 0 4 3 < 0) := by
    have h0 : interP (X 0) (H 0) (X 4) (H 4) (X 2) (H 2) (X 3) (H 3) = false := W.fr 2 (by decide) (by decide) (by decide) (by decide) (by decide)
    have h := ns00 h0 (by omega) (by omega) (by omega) (by omega)
    rw [dl_1 (by omega), dr_1 (by omega)] at h
    exact h
  have z2 : TR X H 4 5 0 ≠ 0 := W.s2 rfl
  clear W
  simp only [TR, T2, twiceP, x0, x1, x2, x3, x4, x5, y0, y4] at f1 f2 z2
  replace f1 := f1.resolve_left (by omega)
  replace f2 := f2.resolve_left (by omega)
  refine ⟨true, false, ?_, ⟨?_, ?_⟩, ?_, ?_, ?_⟩
  · intro v hv a1 a2
    obtain rfl | rfl | rfl | rfl := (by omega : v = 0 ∨ v = 1 ∨ v = 2 ∨ v = 3)
    · exfalso; simp only [Nat.reduceAdd, Nat.zero_add] at a1 a2; omega
    · exact pos_c (by simp only [Nat.reduceAdd, Nat.zero_add, TR, T2, twiceP, x0, x1, x2, x3, x4, x5, y0, y4]; omega)
    · exact pos_c (by simp only [Nat.reduceAdd, Nat.zero_add, TR, T2, twiceP, x0, x1, x2, x3, x4, x5, y0, y4]; omega)
    · exfalso; simp only [Nat.reduceAdd, Nat.zero_add] at a1 a2; omega
  · intro v hv hv2 a1 a2
    obtain rfl := (by omega : v = 4)
    · exact neg_c (by simp only [Nat.reduceAdd, Nat.zero_add, TR, T2, twiceP, x0, x1, x2, x3, x4, x5, y0, y4]; omega)
  · intro a1
    exact neg_c (by simp only [Nat.reduceSub, TR, T2, twiceP, x0, x1, x2, x3, x4, x5, y0, y4]; omega)
  · show locT (TR X H 5 0 1) (TR X H 0 4 1) (TR X H 0 5 4) (TR X H 0 4 5) (TR X H 0 1 4) = true
    exact loc_t (by simp only [TR, T2, twiceP, x0, x1, x2, x3, x4, x5, y0, y4]; omega)
  · show locT (TR X H 3 4 5) (TR X H 4 0 5) (TR X H 4 3 0) (TR X H 4 0 3) (TR X H 4 5 0) = true
    exact loc_t (by simp only [TR, T2, twiceP, x0, x1, x2, x3, x4, x5, y0, y4]; omega)
  · refine fun _ => .inl ⟨by omega, fun v hv n1 n2 a1 a2 => ?_⟩
    obtain rfl | rfl | rfl | rfl | rfl | rfl := (by omega : v = 0 ∨ v = 1 ∨ v = 2 ∨ v = 3 ∨ v = 4 ∨ v = 5)
    · exact absurd rfl n1
    · exact .inl ⟨by omega, by simp only [TR, T2, twiceP, x0, x1, x2, x3, x4, x5, y0, y4]; omega⟩
    · exact .inl ⟨by omega, by simp only [TR, T2, twiceP, x0, x1, x2, x3, x4, x5, y0, y4]; omega⟩
    · exact .inl ⟨by omega, by simp only [TR, T2, twiceP, x0, x1, x2, x3, x4, x5, y0, y4]; omega⟩
    · exact absurd rfl n2
    · exact .inr ⟨by omega, by simp only [TR, T2, twiceP, x0, x1, x2, x3, x4, x5, y0, y4]; omega⟩
theorem w7_1_3 {X H : Nat → Int} (S : Sh7 X H) (W : WayR 6 X H 1 3) : Res 6 4 X H 1 3 := by
  obtain ⟨x0, x1, x2, x3, x4, x5, y0, y1, y2, y3, y4, y5⟩ := S
  have f4 : (0 < TR X H 1 3 5 ∧ 0 < -(TR X H 5 4 3)) ∨ (TR X H 1 3 5 < 0 ∧ -(TR X H 5 4 3) < 0) := by
    have h0 : interP (X 1) (H 1) (X 3) (H 3) (X 4) (H 4) (X 5) (H 5) = false := W.fr 4 (by decide) (by decide) (by decide) (by decide) (by decide)
    have h := ns01 h0 (by omega) (by omega) (by omega) (by omega)
    rw [dl_1 (by omega), dr_2 (by omega)] at h
    exact h
  have f5 : (0 < -(TR X H 0 5 1) ∧ 0 < TR X H 1 3 5) ∨ (-(TR X H 0 5 1) < 0 ∧ TR X H 1 3 5 < 0) := by
    have h0 : interP (X 1) (H 1) (X 3) (H 3) (X 5) (H 5) (X 0) (H 0) = false := W.fr 5 (by decide) (by decide) (by decide) (by decide) (by decide)
    have h := ns01 h0 (by omega) (by omega) (by omega) (by omega)
    rw [dl_2 (by omega), dr_1 (by omega)] at h
    exact h
  have z1 : TR X H 1 2 3 ≠ 0 := W.s1 rfl
  clear W
  by_cases hc : TR X H 1 3 2 < 0
  · simp only [TR, T2, twiceP, x0, x1, x2, x3, x4, x5, y0, y4] at f4 f5 z1 hc
    replace f5 := f5.resolve_right (by omega)
    replace f4 := f4.resolve_right (by omega)
    refine ⟨true, false, ?_, ⟨?_, ?_⟩, ?_, ?_, ?_⟩
    · intro v hv a1 a2
      obtain rfl | rfl | rfl | rfl := (by omega : v = 0 ∨ v = 1 ∨ v = 2 ∨ v = 3)
      · exfalso; simp only [Nat.reduceAdd, Nat.zero_add] at a1 a2; omega
      · exact pos_c (by simp only [Nat.reduceAdd, Nat.zero_add, TR, T2, twiceP, x0, x1, x2, x3, x4, x5, y0, y4]; omega)
      · exact pos_c (by simp only [Nat.reduceAdd, Nat.zero_add, TR, T2, twiceP, x0, x1, x2, x3, x4, x5, y0, y4]; omega)
      · exfalso; simp only [Nat.reduceAdd, Nat.zero_add] at a1 a2; omega
    · intro v hv hv2 a1 a2
      obtain rfl := (by omega : v = 4)
      · exact neg_c (by simp only [Nat.reduceAdd, Nat.zero_add, TR, T2, twiceP, x0, x1, x2, x3, x4, x5, y0, y4]; omega)
    · intro a1
      exact neg_c (by simp only [Nat.reduceSub, TR, T2, twiceP, x0, x1, x2, x3, x4, x5, y0, y4]; omega)
    · show locT (TR X H 0 1 2) (TR X H 1 3 2) (TR X H 1 0 3) (TR X H 1 3 0) (TR X H 1 2 3) = true
      exact loc_t (by simp only [TR, T2, twiceP, x0, x1, x2, x3, x4, x5, y0, y4]; omega)
    · show locT (TR X H 2 3 4) (TR X H 3 1 4) (TR X H 3 2 1) (TR X H 3 1 2) (TR X H 3 4 1) = true
      exact loc_t (by simp only [TR, T2, twiceP, x0, x1, x2, x3, x4, x5, y0, y4]; omega)
    · refine fun _ => .inl ⟨by omega, fun v hv n1 n2 a1 a2 => ?_⟩
      obtain rfl | rfl | rfl | rfl | rfl | rfl := (by omega : v = 0 ∨ v = 1 ∨ v = 2 ∨ v = 3 ∨ v = 4 ∨ v = 5)
      · exfalso; omega
      · exact absurd rfl n1
      · exact .inl ⟨by omega, by simp only [TR, T2, twiceP, x0, x1, x2, x3, x4, x5, y0, y4]; omega⟩
      · exact absurd rfl n2
      · exfalso; omega
      · exact .inr ⟨by omega, by simp only [TR, T2, twiceP, x0, x1, x2, x3, x4, x5, y0, y4]; omega⟩
  · simp only [TR, T2, twiceP, x0, x1, x2, x3, x4, x5, y0, y4] at f4 f5 z1 hc
    replace f5 := f5.resolve_right (by omega)
    replace f4 := f4.resolve_right (by omega)
    refine ⟨false, false, ?_, ⟨?_, ?_⟩, ?_, ?_, ?_⟩
    · intro v hv a1 a2
      obtain rfl | rfl | rfl | rfl := (by omega : v = 0 ∨ v = 1 ∨ v = 2 ∨ v = 3)
      · exfalso; simp only [Nat.reduceAdd, Nat.zero_add] at a1 a2; omega
      · exact neg_c (by simp only [Nat.reduceAdd, Nat.zero_add, TR, T2, twiceP, x0, x1, x2, x3, x4, x5, y0, y4]; omega)
      · exact neg_c (by simp only [Nat.reduceAdd, Nat.zero_add, TR, T2, twiceP, x0, x1, x2, x3, x4, x5, y0, y4]; omega)
      · exfalso; simp only [Nat.reduceAdd, Nat.zero_add] at a1 a2; omega
    · intro v hv hv2 a1 a2
      obtain rfl := (by omega : v = 4)
      · exact neg_c (by simp only [Nat.reduceAdd, Nat.zero_add, TR, T2, twiceP, x0, x1, x2, x3, x4, x5, y0, y4]; omega)
    · intro a1
      exact neg_c (by simp only [Nat.reduceSub, TR, T2, twiceP, x0, x1, x2, x3, x4, x5, y0, y4]; omega)
    · show locT (TR X H 0 1 2) (TR X H 1 3 2) (TR X H 1 0 3) (TR X H 1 3 0) (TR X H 1 2 3) = false
      exact loc_f (by simp only [TR, T2, twiceP, x0, x1, x2, x3, x4, x5, y0, y4]; omega)
    · show locT (TR X H 2 3 4) (TR X H 3 1 4) (TR X H 3 2 1) (TR X H 3 1 2) (TR X H 3 4 1) = false
      exact loc_f (by simp only [TR, T2, twiceP, x0, x1, x2, x3, x4, x5, y0, y4]; omega)
    · exact fun h => absurd h (by decide)
theorem w7_1_4 {X H : Nat → Int} (S : Sh7 X H) (W : WayR 6 X H 1 4) : Res 6 4 X H 1 4 := by
  obtain ⟨x0, x1, x2, x3, x4, x5, y0, y1, y2, y3, y4, y5⟩ := S
  have f2 : (0 < TR X H 1 4 2 ∧ 0 < TR X H 1 4 3) ∨ (TR X H 1 4 2 < 0 ∧ TR X H 1 4 3 < 0) := by
    have h0 : interP (X 1) (H 1) (X 4) (H 4) (X 2) (H 2) (X 3) (H 3) = false := W.fr 2 (by decide) (by decide) (by decide) (by decide) (by decide)
    have h := ns00 h0 (by omega) (by omega) (by omega) (by omega)
    rw [dl_1 (by omega), dr_1 (by omega)] at h
    exact h
  have f5 : (0 < -(TR X H 0 5 1) ∧ 0 < TR X H 1 4 5) ∨ (-(TR X H 0 5 1) < 0 ∧ TR X H 1 4 5 < 0) := by
    have h0 : interP (X 1) (H 1) (X 4) (H 4) (X 5) (H 5) (X 0) (H 0) = false := W.fr 5 (by decide) (by decide) (by decide) (by decide) (by decide)
    have h := ns01 h0 (by omega) (by omega) (by omega) (by omega)
    rw [dl_2 (by omega), dr_1 (by omega)] at h
    exact h
  clear W
  by_cases hc : TR X H 1 4 2 < 0
  · simp only [TR, T2, twiceP, x0, x1, x2, x3, x4, x5, y0, y4] at f2 f5 hc
    replace f5 := f5.resolve_right (by omega)
    replace f2 := f2.resolve_left (by omega)
    refine ⟨true, false, ?_, ⟨?_, ?_⟩, ?_, ?_, ?_⟩
    · intro v hv a1 a2
      obtain rfl | rfl | rfl | rfl := (by omega : v = 0 ∨ v = 1 ∨ v = 2 ∨ v = 3)
      · exfalso; simp only [Nat.reduceAdd, Nat.zero_add] at a1 a2; omega
      · exfalso; simp only [Nat.reduceAdd, Nat.zero_add] at a1 a2; omega
      · exact pos_c (by simp only [Nat.reduceAdd, Nat.zero_add, TR, T2, twiceP, x0, x1, x2, x3, x4, x5, y0, y4]; omega)
      · exfalso; simp only [Nat.reduceAdd, Nat.zero_add] at a1 a2; omega
    · intro v hv hv2 a1 a2
      obtain rfl := (by omega : v = 4)
      · exact neg_c (by simp only [Nat.reduceAdd, Nat.zero_add, TR, T2, twiceP, x0, x1, x2, x3, x4, x5, y0, y4]; omega)
    · intro a1
      exfalso; simp only [Nat.reduceSub] at a1; omega
    · show locT (TR X H 0 1 2) (TR X H 1 4 2) (TR X H 1 0 4) (TR X H 1 4 0) (TR X H 1 2 4) = true
      exact loc_t (by simp only [TR, T2, twiceP, x0, x1, x2, x3, x4, x5, y0, y4]; omega)
    · show locT (TR X H 3 4 5) (TR X H 4 1 5) (TR X H 4 3 1) (TR X H 4 1 3) (TR X H 4 5 1) = true
      exact loc_t (by simp only [TR, T2, twiceP, x0, x1, x2, x3, x4, x5, y0, y4]; omega)
    · refine fun _ => .inl ⟨by omega, fun v hv n1 n2 a1 a2 => ?_⟩
      obtain rfl | rfl | rfl | rfl | rfl | rfl := (by omega : v = 0 ∨ v = 1 ∨ v = 2 ∨ v = 3 ∨ v = 4 ∨ v = 5)
      · exfalso; omega
      · exact absurd rfl n1
      · exact .inl ⟨by omega, by simp only [TR, T2, twiceP, x0, x1, x2, x3, x4, x5, y0, y4]; omega⟩
      · exact .inl ⟨by omega, by simp only [TR, T2, twiceP, x0, x1, x2, x3, x4, x5, y0, y4]; omega⟩
      · exact absurd rfl n2
      · exact .inr ⟨by omega, by simp only [TR, T2, twiceP, x0, x1, x2, x3, x4, x5, y0, y4]; omega⟩
  · simp only [TR, T2, twiceP, x0, x1, x2, x3, x4, x5, y0, y4] at f2 f5 hc
    replace f5 := f5.resolve_right (by omega)
    replace f2 := f2.resolve_right (by omega)
    refine ⟨false, false, ?_, ⟨?_, ?_⟩, ?_, ?_, ?_⟩
    · intro v hv a1 a2
      obtain rfl | rfl | rfl | rfl := (by omega : v = 0 ∨ v = 1 ∨ v = 2 ∨ v = 3)
      · exfalso; simp only [Nat.reduceAdd, Nat.zero_add] at a1 a2; omega
      · exfalso; simp only [Nat.reduceAdd, Nat.zero_add] at a1 a2; omega
      · exact neg_c (by simp only [Nat.reduceAdd, Nat.zero_add, TR, T2, twiceP, x0, x1, x2, x3, x4, x5, y0, y4]; omega)
      · exfalso; simp only [Nat.reduceAdd, Nat.zero_add] at a1 a2; omega
    · intro v hv hv2 a1 a2
      obtain rfl := (by omega : v = 4)
      · exact neg_c (by simp only [Nat.reduceAdd, Nat.zero_add, TR, T2, twiceP, x0, x1, x2, x3, x4, x5, y0, y4]; omega)
    · intro a1
      exfalso; simp only [Nat.reduceSub] at a1; omega
    · show locT (TR X H 0 1 2) (TR X H 1 4 2) (TR X H 1 0 4) (TR X H 1 4 0) (TR X H 1 2 4) = false
      exact loc_f (by simp only [TR, T2, twiceP, x0, x1, x2, x3, x4, x5, y0, y4]; omega)
    · show locT (TR X H 3 4 5) (TR X H 4 1 5) (TR X H 4 3 1) (TR X H 4 1 3) (TR X H 4 5 1) = false
      exact loc_f (by simp only [TR, T2, twiceP, x0, x1, x2, x3, x4, x5, y0, y4]; omega)
    · exact fun h => absurd h (by decide)
theorem w7_1_5 {X H : Nat → Int} (S : Sh7 X H) (W : WayR 6 X H 1 5) : Res 6 4 X H 1 5 := by
  obtain ⟨x0, x1, x2, x3, x4, x5, y0, y1, y2, y3, y4, y5⟩ := S
  have f2 : (0 < TR X H 1 5 2 ∧ 0 < -(TR X H 2 3 5)) ∨ (TR X H 1 5 2 < 0 ∧ -(TR X H 2 3 5) < 0) := by
    have h0 : interP (X 1) (H 1) (X 5) (H 5) (X 2) (H 2) (X 3) (H 3) = false := W.fr 2 (by decide) (by decide) (by decide) (by decide) (by decide)
    have h := ns00 h0 (by omega) (by omega) (by omega) (by omega)
    rw [dl_1 (by omega), dr_2 (by omega)] at h
    exact h
  have z2 : TR X H 5 0 1 ≠ 0 := W.s2 rfl
  clear W
  simp only [TR, T2, twiceP, x0, x1, x2, x3, x4, x5, y0, y4] at f2 z2
  replace f2 := f2.resolve_left (by omega)
  refine ⟨true, false, ?_, ⟨?_, ?_⟩, ?_, ?_, ?_⟩
  · intro v hv a1 a2
    obtain rfl | rfl | rfl | rfl := (by omega : v = 0 ∨ v = 1 ∨ v = 2 ∨ v = 3)
    · exfalso; simp only [Nat.reduceAdd, Nat.zero_add] at a1 a2; omega
    · exact pos_c (by simp only [Nat.reduceAdd, Nat.zero_add, TR, T2, twiceP, x0, x1, x2, x3, x4, x5, y0, y4]; omega)
    · exfalso; simp only [Nat.reduceAdd, Nat.zero_add] at a1 a2; omega
    · exfalso; simp only [Nat.reduceAdd, Nat.zero_add] at a1 a2; omega
  · intro v hv hv2 a1 a2
    obtain rfl := (by omega : v = 4)
    · exfalso; simp only [Nat.reduceAdd, Nat.zero_add] at a1 a2; omega
  · intro a1
    exact neg_c (by simp only [Nat.reduceSub, TR, T2, twiceP, x0, x1, x2, x3, x4, x5, y0, y4]; omega)
  · show locT (TR X H 0 1 2) (TR X H 1 5 2) (TR X H 1 0 5) (TR X H 1 5 0) (TR X H 1 2 5) = true
    exact loc_t (by simp only [TR, T2, twiceP, x0, x1, x2, x3, x4, x5, y0, y4]; omega)
  · show locT (TR X H 4 5 0) (TR X H 5 1 0) (TR X H 5 4 1) (TR X H 5 1 4) (TR X H 5 0 1) = true
    exact loc_t (by simp only [TR, T2, twiceP, x0, x1, x2, x3, x4, x5, y0, y4]; omega)
  · refine fun _ => .inl ⟨by omega, fun v hv n1 n2 a1 a2 => ?_⟩
    obtain rfl | rfl | rfl | rfl | rfl | rfl := (by omega : v = 0 ∨ v = 1 ∨ v = 2 ∨ v = 3 ∨ v = 4 ∨ v = 5)
    · exfalso; omega
    · exact absurd rfl n1
    · exact .inl ⟨by omega, by simp only [TR, T2, twiceP, x0, x1, x2, x3, x4, x5, y0, y4]; omega⟩
    · exfalso; omega
    · exfalso; omega
    · exact absurd rfl n2
theorem w7_2_4 {X H : Nat → Int} (S : Sh7 X H) (W : WayR 6 X H 2 4) : Res 6 4 X H 2 4 := by
  obtain ⟨x0, x1, x2, x3, x4, x5, y0, y1, y2, y3, y4, y5⟩ := S
  have f5 : (0 < -(TR X H 0 5 2) ∧ 0 < TR X H 2 4 5) ∨ (-(TR X H 0 5 2) < 0 ∧ TR X H 2 4 5 < 0) := by
    have h0 : interP (X 2) (H 2) (X 4) (H 4) (X 5) (H 5) (X 0) (H 0) = false := W.fr 5 (by decide) (by decide) (by decide) (by decide) (by decide)
    have h := ns01 h0 (by omega) (by omega) (by omega) (by omega)
    rw [dl_2 (by omega), dr_1 (by omega)] at h
    exact h
  have z1 : TR X H 2 3 4 ≠ 0 := W.s1 rfl
  clear W
  by_cases hc : TR X H 2 4 3 < 0
  · simp only [TR, T2, twiceP, x0, x1, x2, x3, x4, x5, y0, y4] at f5 z1 hc
    replace f5 := f5.resolve_right (by omega)
    refine ⟨true, false, ?_, ⟨?_, ?_⟩, ?_, ?_, ?_⟩
    · intro v hv a1 a2
      obtain rfl | rfl | rfl | rfl := (by omega : v = 0 ∨ v = 1 ∨ v = 2 ∨ v = 3)
      · exfalso; simp only [Nat.reduceAdd, Nat.zero_add] at a1 a2; omega
      · exfalso; simp only [Nat.reduceAdd, Nat.zero_add] at a1 a2; omega
      · exact pos_c (by simp only [Nat.reduceAdd, Nat.zero_add, TR, T2, twiceP, x0, x1, x2, x3, x4, x5, y0, y4]; omega)
      · exact pos_c (by simp only [Nat.reduceAdd, Nat.zero_add, TR, T2, twiceP, x0, x1, x2, x3, x4, x5, y0, y4]; omega)
    · intro v hv hv2 a1 a2
      obtain rfl := (by omega : v = 4)
      · exact neg_c (by simp only [Nat.reduceAdd, Nat.zero_add, TR, T2, twiceP, x0, x1, x2, x3, x4, x5, y0, y4]; omega)
    · intro a1
      exfalso; simp only [Nat.reduceSub] at a1; omega
    · show locT (TR X H 1 2 3) (TR X H 2 4 3) (TR X H 2 1 4) (TR X H 2 4 1) (TR X H 2 3 4) = true
      exact loc_t (by simp only [TR, T2, twiceP, x0, x1, x2, x3, x4, x5, y0, y4]; omega)
    · show locT (TR X H 3 4 5) (TR X H 4 2 5) (TR X H 4 3 2) (TR X H 4 2 3) (TR X H 4 5 2) = true
      exact loc_t (by simp only [TR, T2, twiceP, x0, x1, x2, x3, x4, x5, y0, y4]; omega)
    · refine fun _ => .inl ⟨by omega, fun v hv n1 n2 a1 a2 => ?_⟩
      obtain rfl | rfl | rfl | rfl | rfl | rfl := (by omega : v = 0 ∨ v = 1 ∨ v = 2 ∨ v = 3 ∨ v = 4 ∨ v = 5)
      · exfalso; omega
      · exfalso; omega
      · exact absurd rfl n1
      · exact .inl ⟨by omega, by simp only [TR, T2, twiceP, x0, x1, x2, x3, x4, x5, y0, y4]; omega⟩
      · exact absurd rfl n2
      · exact .inr ⟨by omega, by simp only [TR, T2, twiceP, x0, x1, x2, x3, x4, x5, y0, y4]; omega⟩
  · simp only [TR, T2, twiceP, x0, x1, x2, x3, x4, x5, y0, y4] at f5 z1 hc
    replace f5 := f5.resolve_right (by omega)
    refine ⟨false, false, ?_, ⟨?_, ?_⟩, ?_, ?_, ?_⟩
    · intro v hv a1 a2
      obtain rfl | rfl | rfl | rfl := (by omega : v = 0 ∨ v = 1 ∨ v = 2 ∨ v = 3)
      · exfalso; simp only [Nat.reduceAdd, Nat.zero_add] at a1 a2; omega
      · exfalso; simp only [Nat.reduceAdd, Nat.zero_add] at a1 a2; omega
      · exact neg_c (by simp only [Nat.reduceAdd, Nat.zero_add, TR, T2, twiceP, x0, x1, x2, x3, x4, x5, y0, y4]; omega)
      · exact neg_c (by simp only [Nat.reduceAdd, Nat.zero_add, TR, T2, twiceP, x0, x1, x2, x3, x4, x5, y0, y4]; omega)
    · intro v hv hv2 a1 a2
      obtain rfl := (by omega : v = 4)
      · exact neg_c (by simp only [Nat.reduceAdd, Nat.zero_add, TR, T2, twiceP, x0, x1, x2, x3, x4, x5, y0, y4]; omega)
    · intro a1
      exfalso; simp only [Nat.reduceSub] at a1; omega
    · show locT (TR X H 1 2 3) (TR X H 2 4 3) (TR X H 2 1 4) (TR X H 2 4 1) (TR X H 2 3 4) = false
      exact loc_f (by simp only [TR, T2, twiceP, x0, x1, x2, x3, x4, x5, y0, y4]; omega)
    · show locT (TR X H 3 4 5) (TR X H 4 2 5) (TR X H 4 3 2) (TR X H 4 2 3) (TR X H 4 5 2) = false
      exact loc_f (by simp only [TR, T2, twiceP, x0, x1, x2, x3, x4, x5, y0, y4]; omega)
    · exact fun h => absurd h (by decide)
theorem w7_2_5 {X H : Nat → Int} (S : Sh7 X H) (W : WayR 6 X H 2 5) : Res 6 4 X H 2 5 := by
  obtain ⟨x0, x1, x2, x3, x4, x5, y0, y1, y2, y3, y4, y5⟩ := S
  clear W
  refine ⟨true, false, ?_, ⟨?_, ?_⟩, ?_, ?_, ?_⟩
  · intro v hv a1 a2
    obtain rfl | rfl | rfl | rfl := (by omega : v = 0 ∨ v = 1 ∨ v = 2 ∨ v = 3)
    · exfalso; simp only [Nat.reduceAdd, Nat.zero_add] at a1 a2; omega
    · exact pos_c (by simp only [Nat.reduceAdd, Nat.zero_add, TR, T2, twiceP, x0, x1, x2, x3, x4, x5, y0, y4]; omega)
    · exact pos_c (by simp only [Nat.reduceAdd, Nat.zero_add, TR, T2, twiceP, x0, x1, x2, x3, x4, x5, y0, y4]; omega)
    · exfalso; simp only [Nat.reduceAdd, Nat.zero_add] at a1 a2; omega
  · intro v hv hv2 a1 a2
    obtain rfl := (by omega : v = 4)
    · exact neg_c (by simp only [Nat.reduceAdd, Nat.zero_add, TR, T2, twiceP, x0, x1, x2, x3, x4, x5, y0, y4]; omega)
  · intro a1
    exact neg_c (by simp only [Nat.reduceSub, TR, T2, twiceP, x0, x1, x2, x3, x4, x5, y0, y4]; omega)
  · show locT (TR X H 1 2 3) (TR X H 2 5 3) (TR X H 2 1 5) (TR X H 2 5 1) (TR X H 2 3 5) = true
    exact loc_t (by simp only [TR, T2, twiceP, x0, x1, x2, x3, x4, x5, y0, y4]; omega)
  · show locT (TR X H 4 5 0) (TR X H 5 2 0) (TR X H 5 4 2) (TR X H 5 2 4) (TR X H 5 0 2) = true
    exact loc_t (by simp only [TR, T2, twiceP, x0, x1, x2, x3, x4, x5, y0, y4]; omega)
  · exact fun _ => .inr (.inr ⟨by omega, by omega, by omega⟩)
theorem w7_3_5 {X H : Nat → Int} (S : Sh7 X H) (W : WayR 6 X H 3 5) : Res 6 4 X H 3 5 := by
  obtain ⟨x0, x1, x2, x3, x4, x5, y0, y1, y2, y3, y4, y5⟩ := S
  have f1 : (0 < -(TR X H 1 2 5) ∧ 0 < TR X H 5 3 2) ∨ (-(TR X H 1 2 5) < 0 ∧ TR X H 5 3 2 < 0) := by
    have h0 : interP (X 3) (H 3) (X 5) (H 5) (X 1) (H 1) (X 2) (H 2) = false := W.fr 1 (by decide) (by decide) (by decide) (by decide) (by decide)
    have h := ns10 h0 (by omega) (by omega) (by omega) (by omega)
    rw [dl_2 (by omega), dr_1 (by omega)] at h
    exact h
  have z1 : TR X H 3 4 5 ≠ 0 := W.s1 rfl
  clear W
  simp only [TR, T2, twiceP, x0, x1, x2, x3, x4, x5, y0, y4] at f1 z1
  replace f1 := f1.resolve_left (by omega)
  refine ⟨true, false, ?_, ⟨?_, ?_⟩, ?_, ?_, ?_⟩
  · intro v hv a1 a2
    obtain rfl | rfl | rfl | rfl := (by omega : v = 0 ∨ v = 1 ∨ v = 2 ∨ v = 3)
    · exfalso; simp only [Nat.reduceAdd, Nat.zero_add] at a1 a2; omega
    · exfalso; simp only [Nat.reduceAdd, Nat.zero_add] at a1 a2; omega
    · exact pos_c (by simp only [Nat.reduceAdd, Nat.zero_add, TR, T2, twiceP, x0, x1, x2, x3, x4, x5, y0, y4]; omega)
    · exfalso; simp only [Nat.reduceAdd, Nat.zero_add] at a1 a2; omega
  · intro v hv hv2 a1 a2
    obtain rfl := (by omega : v = 4)
    · exact neg_c (by simp only [Nat.reduceAdd, Nat.zero_add, TR, T2, twiceP, x0, x1, x2, x3, x4, x5, y0, y4]; omega)
  · intro a1
    exfalso; simp only [Nat.reduceSub] at a1; omega
  · show locT (TR X H 2 3 4) (TR X H 3 5 4) (TR X H 3 2 5) (TR X H 3 5 2) (TR X H 3 4 5) = true
    exact loc_t (by simp only [TR, T2, twiceP, x0, x1, x2, x3, x4, x5, y0, y4]; omega)
  · show locT (TR X H 4 5 0) (TR X H 5 3 0) (TR X H 5 4 3) (TR X H 5 3 4) (TR X H 5 0 3) = true
    exact loc_t (by simp only [TR, T2, twiceP, x0, x1, x2, x3, x4, x5, y0, y4]; omega)
  · refine fun _ => .inr <| .inl ⟨by omega, fun v hv n1 n2 a1 a2 => ?_⟩
    obtain rfl | rfl | rfl | rfl | rfl | rfl := (by omega : v = 0 ∨ v = 1 ∨ v = 2 ∨ v = 3 ∨ v = 4 ∨ v = 5)
    · exfalso; omega
    · exfalso; omega
    · exact .inl ⟨by omega, by simp only [TR, T2, twiceP, x0, x1, x2, x3, x4, x5, y0, y4]; omega⟩
    · exact absurd rfl n2
    · exfalso; omega
    · exact absurd rfl n1
theorem shape7 {X H : Nat → Int} (S : Sh7 X H) {i j : Nat} (W : WayR 6 X H i j) : Res 6 4 X H i j := by
  have hap := W.ap
  unfold Apart at hap
  obtain rfl | rfl | rfl | rfl : i = 0 ∨ i = 1 ∨ i = 2 ∨ i = 3 := by omega
  · obtain rfl | rfl | rfl : j = 2 ∨ j = 3 ∨ j = 4 := by omega
    · exact w7_0_2 S W
    · exact w7_0_3 S W
    · exact w7_0_4 S W
  · obtain rfl | rfl | rfl : j = 3 ∨ j = 4 ∨ j = 5 := by omega
    · exact w7_1_3 S W
    · exact w7_1_4 S W
    · exact w7_1_5 S W
  · obtain rfl | rfl : j = 4 ∨ j = 5 := by omega
    · exact w7_2_4 S W
    · exact w7_2_5 S W
  · obtain rfl : j = 5 := by omega
    · exact w7_3_5 S W

def Sh8 (X H : Nat → Int) : Prop := X 0 = 0 ∧ X 1 = 1 ∧ X 2 = 2 ∧ X 3 = 4 ∧ X 4 = 3 ∧ X 5 = 2 ∧ H 0 = 0 ∧ H 1 < 0 ∧ H 2 < 0 ∧ H 3 = 0 ∧ 0 < H 4 ∧ 0 < H 5
theorem ring8 {X H : Nat → Int} (S : Sh8 X H) : Ring 6 3 X H := by
  obtain ⟨x0, x1, x2, x3, x4, x5, y0, y1, y2, y3, y4, y5⟩ := S
  refine ⟨by omega, by omega, x0, ?_, ?_, ?_, y0, y3, ?_, ?_⟩
  · intro v hv
    obtain rfl | rfl | rfl := (by omega : v = 0 ∨ v = 1 ∨ v = 2) <;> (simp only [Nat.reduceAdd, Nat.zero_add]; omega)
  · intro v hv hv2
    obtain rfl | rfl := (by omega : v = 3 ∨ v = 4) <;> (simp only [Nat.reduceAdd, Nat.zero_add]; omega)
  · simp only [Nat.reduceSub]; omega
  · intro v hv hv2
    obtain rfl | rfl := (by omega : v = 1 ∨ v = 2) <;> assumption
  · intro v hv hv2
    obtain rfl | rfl := (by omega : v = 4 ∨ v = 5) <;> assumption
theorem w8_0_2 {X H : Nat → Int} (S : Sh8 X H) (W : WayR 6 X H 0 2) : Res 6 3 X H 0 2 := by
  obtain ⟨x0, x1, x2, x3, x4, x5, y0, y1, y2, y3, y4, y5⟩ := S
  have f4 : (0 < TR X H 0 2 5 ∧ 0 < -(TR X H 5 4 2)) ∨ (TR X H 0 2 5 < 0 ∧ -(TR X H 5 4 2) < 0) := by
    have h0 : interP (X 0) (H 0) (X 2) (H 2) (X 4) (H 4) (X 5) (H 5) = false := W.fr 4 (by decide) (by decide) (by decide) (by decide) (by decide)
    have h := ns01 h0 (by omega) (by omega) (by omega) (by omega)
    rw [dl_1 (by omega), dr_2 (by omega)] at h
    exact h
  have z1 : TR X H 0 1 2 ≠ 0 := W.s1 rfl
  clear W
  by_cases hc : TR X H 0 2 1 < 0
  · simp only [TR, T2, twiceP, x0, x1, x2, x3, x4, x5, y0, y3] at f4 z1 hc
    replace f4 := f4.resolve_right (by omega)
    refine ⟨true, false, ?_, ⟨?_, ?_⟩, ?_, ?_, ?_⟩
    · intro v hv a1 a2
      obtain rfl | rfl | rfl := (by omega : v = 0 ∨ v = 1 ∨ v = 2)
      · exact pos_c (by simp only [Nat.reduceAdd, Nat.zero_add, TR, T2, twiceP, x0, x1, x2, x3, x4, x5, y0, y3]; omega)
      · exact pos_c (by simp only [Nat.reduceAdd, Nat.zero_add, TR, T2, twiceP, x0, x1, x2, x3, x4, x5, y0, y3]; omega)
      · exfalso; simp only [Nat.reduceAdd, Nat.zero_add] at a1 a2; omega
    · intro v hv hv2 a1 a2
      obtain rfl | rfl := (by omega : v = 3 ∨ v = 4)
      · exfalso; simp only [Nat.reduceAdd, Nat.zero_add] at a1 a2; omega
      · exfalso; simp only [Nat.reduceAdd, Nat.zero_add] at a1 a2; omega
    · intro a1
      exact neg_c (by simp only [Nat.reduceSub, TR, T2, twiceP, x0, x1, x2, x3, x4, x5, y0, y3]; omega)
    · show locT (TR X H 5 0 1) (TR X H 0 2 1) (TR X H 0 5 2) (TR X H 0 2 5) (TR X H 0 1 2) = true
      exact loc_t (by simp only [TR, T2, twiceP, x0, x1, x2, x3, x4, x5, y0, y3]; omega)
    · show locT (TR X H 1 2 3) (TR X H 2 0 3) (TR X H 2 1 0) (TR X H 2 0 1) (TR X H 2 3 0) = true
      exact loc_t (by simp only [TR, T2, twiceP, x0, x1, x2, x3, x4, x5, y0, y3]; omega)
    · refine fun _ => .inl ⟨by omega, fun v hv n1 n2 a1 a2 => ?_⟩
      obtain rfl | rfl | rfl | rfl | rfl | rfl := (by omega : v = 0 ∨ v = 1 ∨ v = 2 ∨ v = 3 ∨ v = 4 ∨ v = 5)
      · exact absurd rfl n1
      · exact .inl ⟨by omega, by simp only [TR, T2, twiceP, x0, x1, x2, x3, x4, x5, y0, y3]; omega⟩
      · exact absurd rfl n2
      · exfalso; omega
      · exfalso; omega
      · exact .inr ⟨by omega, by simp only [TR, T2, twiceP, x0, x1, x2, x3, x4, x5, y0, y3]; omega⟩
  · simp only [TR, T2, twiceP, x0, x1, x2, x3, x4, x5, y0, y3] at f4 z1 hc
    replace f4 := f4.resolve_right (by omega)
    refine ⟨false, false, ?_, ⟨?_, ?_⟩, ?_, ?_, ?_⟩
    · intro v hv a1 a2
      obtain rfl | rfl | rfl := (by omega : v = 0 ∨ v = 1 ∨ v = 2)
      · exact neg_c (by simp only [Nat.reduceAdd, Nat.zero_add, TR, T2, twiceP, x0, x1, x2, x3, x4, x5, y0, y3]; omega)
      · exact neg_c (by simp only [Nat.reduceAdd, Nat.zero_add, TR, T2, twiceP, x0, x1, x2, x3, x4, x5, y0, y3]; omega)
      · exfalso; simp only [Nat.reduceAdd, Nat.zero_add] at a1 a2; omega
    · intro v hv hv2 a1 a2
      obtain rfl | rfl := (by omega : v = 3 ∨ v = 4)
      · exfalso; simp only [Nat.reduceAdd, Nat.zero_add] at a1 a2; omega
      · exfalso; simp only [Nat.reduceAdd, Nat.zero_add] at a1 a2; omega
    · intro a1
      exact neg_c (by simp only [Nat.reduceSub, TR, T2, twiceP, x0, x1, x2, x3, x4, x5, y0, y3]; omega)
    · show locT (TR X H 5 0 1) (TR X H 0 2 1) (TR X H 0 5 2) (TR X H 0 2 5) (TR X H 0 1 2) = false
      exact loc_f (by simp only [TR, T2, twiceP, x0, x1, x2, x3, x4, x5, y0, y3]; omega)
    · show locT (TR X H 1 2 3) (TR X H 2 0 3) (TR X H 2 1 0) (TR X H 2 0 1) (TR X H 2 3 0) = false
      exact loc_f (by simp only [TR, T2, twiceP, x0, x1, x2, x3, x4, x5, y0, y3]; omega)
    · exact fun h => absurd h (by decide)
theorem w8_0_3 {X H : Nat → Int} (S : Sh8 X H) (W : WayR 6 X H 0 3) : Res 6 3 X H 0 3 := by
  obtain ⟨x0, x1, x2, x3, x4, x5, y0, y1, y2, y3, y4, y5⟩ := S
  have f1 : (0 < TR X H 0 3 1 ∧ 0 < TR X H 0 3 2) ∨ (TR X H 0 3 1 < 0 ∧ TR X H 0 3 2 < 0) := by
    have h0 : interP (X 0) (H 0) (X 3) (H 3) (X 1) (H 1) (X 2) (H 2) = false := W.fr 1 (by decide) (by decide) (by decide) (by decide) (by decide)
    have h := ns00 h0 (by omega) (by omega) (by omega) (by omega)
    rw [dl_1 (by omega), dr_1 (by omega)] at h
    exact h
  have f4 : (0 < TR X H 0 3 5 ∧ 0 < TR X H 0 3 4) ∨ (TR X H 0 3 5 < 0 ∧ TR X H 0 3 4 < 0) := by
    have h0 : interP (X 0) (H 0) (X 3) (H 3) (X 4) (H 4) (X 5) (H 5) = false := W.fr 4 (by decide) (by decide) (by decide) (by decide) (by decide)
    have h := ns01 h0 (by omega) (by omega) (by omega) (by omega)
    rw [dl_1 (by omega), dr_1 (by omega)] at h
    exact h
  clear W
  simp only [TR, T2, twiceP, x0, x1, x2, x3, x4, x5, y0, y3] at f1 f4
  replace f4 := f4.resolve_right (by omega)
  replace f1 := f1.resolve_left (by omega)
  refine ⟨true, false, ?_, ⟨?_, ?_⟩, ?_, ?_, ?_⟩
  · intro v hv a1 a2
    obtain rfl | rfl | rfl := (by omega : v = 0 ∨ v = 1 ∨ v = 2)
    · exfalso; simp only [Nat.reduceAdd, Nat.zero_add] at a1 a2; omega
    · exact pos_c (by simp only [Nat.reduceAdd, Nat.zero_add, TR, T2, twiceP, x0, x1, x2, x3, x4, x5, y0, y3]; omega)
    · exact pos_c (by simp only [Nat.reduceAdd, Nat.zero_add, TR, T2, twiceP, x0, x1, x2, x3, x4, x5, y0, y3]; omega)
  · intro v hv hv2 a1 a2
    obtain rfl | rfl := (by omega : v = 3 ∨ v = 4)
    · exfalso; simp only [Nat.reduceAdd, Nat.zero_add] at a1 a2; omega
    · exact neg_c (by simp only [Nat.reduceAdd, Nat.zero_add, TR, T2, twiceP, x0, x1, x2, x3, x4, x5, y0, y3]; omega)
  · intro a1
    exact neg_c (by simp only [Nat.reduceSub, TR, T2, twiceP, x0, x1, x2, x3, x4, x5, y0, y3]; omega)
  · show locT (TR X H 5 0 1) (TR X H 0 3 1) (TR X H 0 5 3) (TR X H 0 3 5) (TR X H 0 1 3) = true
    exact loc_t (by simp only [TR, T2, twiceP, x0, x1, x2, x3, x4, x5, y0, y3]; omega)
  · show locT (TR X H 2 3 4) (TR X H 3 0 4) (TR X H 3 2 0) (TR X H 3 0 2) (TR X H 3 4 0) = true
    exact loc_t (by simp only [TR, T2, twiceP, x0, x1, x2, x3, x4, x5, y0, y3]; omega)
  · refine fun _ => .inl ⟨by omega, fun v hv n1 n2 a1 a2 => ?_⟩
    obtain rfl | rfl | rfl | rfl | rfl | rfl := (by omega : v = 0 ∨ v = 1 ∨ v = 2 ∨ v = 3 ∨ v = 4 ∨ v = 5)
    · exact absurd rfl n1
    · exact .inl ⟨by omega, by simp only [TR, T2, twiceP, x0, x1, x2, x3, x4, x5, y0, y3]; omega⟩
    · exact .inl ⟨by omega, by simp only [TR, T2, twiceP, x0, x1, x2, x3, x4, x5, y0, y3]; omega⟩
    · exact absurd rfl n2
    · exact .inr ⟨by omega, by simp only [TR, T2, twiceP, x0, x1, x2, x3, x4, x5, y0, y3]; omega⟩
    · exact .inr ⟨by omega, by simp only [TR, T2, twiceP, x0, x1, x2, x3, x4, x5, y0, y3]; omega⟩
theorem w8_0_4 {X H : Nat → Int} (S : Sh8 X H) (W : WayR 6 X H 0 4) : Res 6 3 X H 0 4 := by
  obtain ⟨x0, x1, x2, x3, x4, x5, y0, y1, y2, y3, y4, y5⟩ := S
  have f1 : (0 < TR X H 0 4 1 ∧ 0 < TR X H 0 4 2) ∨ (TR X H 0 4 1 < 0 ∧ TR X H 0 4 2 < 0) := by
    have h0 : interP (X 0) (H 0) (X 4) (H 4) (X 1) (H 1) (X 2) (H 2) = false := W.fr 1 (by decide) (by decide) (by decide) (by decide) (by decide)
    have h := ns00 h0 (by omega) (by omega) (by omega) (by omega)
    rw [dl_1 (by omega), dr_1 (by omega)] at h
    exact h
  have f2 : (0 < TR X H 0 4 2 ∧ 0 < -(TR X H 2 3 4)) ∨ (TR X H 0 4 2 < 0 ∧ -(TR X H 2 3 4) < 0) := by
    have h0 : interP (X 0) (H 0) (X 4) (H 4) (X 2) (H 2) (X 3) (H 3) = false := W.fr 2 (by decide) (by decide) (by decide) (by decide) (by decide)
    have h := ns00 h0 (by omega) (by omega) (by omega) (by omega)
    rw [dl_1 (by omega), dr_2 (by omega)] at h
    exact h
  have z2 : TR X H 4 5 0 ≠ 0 := W.s2 rfl
  clear W
  by_cases hc : 0 < TR X H 0 4 5
  · simp only [TR, T2, twiceP, x0, x1, x2, x3, x4, x5, y0, y3] at f1 f2 z2 hc
    replace f1 := f1.resolve_left (by omega)
    replace f2 := f2.resolve_left (by omega)
    refine ⟨true, false, ?_, ⟨?_, ?_⟩, ?_, ?_, ?_⟩
    · intro v hv a1 a2
      obtain rfl | rfl | rfl := (by omega : v = 0 ∨ v = 1 ∨ v = 2)
      · exfalso; simp only [Nat.reduceAdd, Nat.zero_add] at a1 a2; omega
      · exact pos_c (by simp only [Nat.reduceAdd, Nat.zero_add, TR, T2, twiceP, x0, x1, x2, x3, x4, x5, y0, y3]; omega)
      · exfalso; simp only [Nat.reduceAdd, Nat.zero_add] at a1 a2; omega
    · intro v hv hv2 a1 a2
      obtain rfl | rfl := (by omega : v = 3 ∨ v = 4)
      · exfalso; simp only [Nat.reduceAdd, Nat.zero_add] at a1 a2; omega
      · exfalso; simp only [Nat.reduceAdd, Nat.zero_add] at a1 a2; omega
    · intro a1
      exact neg_c (by simp only [Nat.reduceSub, TR, T2, twiceP, x0, x1, x2, x3, x4, x5, y0, y3]; omega)
    · show locT (TR X H 5 0 1) (TR X H 0 4 1) (TR X H 0 5 4) (TR X H 0 4 5) (TR X H 0 1 4) = true
      exact loc_t (by simp only [TR, T2, twiceP, x0, x1, x2, x3, x4, x5, y0, y3]; omega)
    · show locT (TR X H 3 4 5) (TR X H 4 0 5) (TR X H 4 3 0) (TR X H 4 0 3) (TR X H 4 5 0) = true
      exact loc_t (by simp only [TR, T2, twiceP, x0, x1, x2, x3, x4, x5, y0, y3]; omega)
    · refine fun _ => .inl ⟨by omega, fun v hv n1 n2 a1 a2 => ?_⟩
      obtain rfl | rfl | rfl | rfl | rfl | rfl := (by omega : v = 0 ∨ v = 1 ∨ v = 2 ∨ v = 3 ∨ v = 4 ∨ v = 5)
      · exact absurd rfl n1
      · exact .inl ⟨by omega, by simp only [TR, T2, twiceP, x0, x1, x2, x3, x4, x5, y0, y3]; omega⟩
      · exact .inl ⟨by omega, by simp only [TR, T2, twiceP, x0, x1, x2, x3, x4, x5, y0, y3]; omega⟩
      · exfalso; omega
      · exact absurd rfl n2
      · exact .inr ⟨by omega, by simp only [TR, T2, twiceP, x0, x1, x2, x3, x4, x5, y0, y3]; omega⟩
  · simp only [TR, T2, twiceP, x0, x1, x2, x3, x4, x5, y0, y3] at f1 f2 z2 hc
    replace f1 := f1.resolve_left (by omega)
    replace f2 := f2.resolve_left (by omega)
    refine ⟨true, true, ?_, ⟨?_, ?_⟩, ?_, ?_, ?_⟩
    · intro v hv a1 a2
      obtain rfl | rfl | rfl := (by omega : v = 0 ∨ v = 1 ∨ v = 2)
      · exfalso; simp only [Nat.reduceAdd, Nat.zero_add] at a1 a2; omega
      · exact pos_c (by simp only [Nat.reduceAdd, Nat.zero_add, TR, T2, twiceP, x0, x1, x2, x3, x4, x5, y0, y3]; omega)
      · exfalso; simp only [Nat.reduceAdd, Nat.zero_add] at a1 a2; omega
    · intro v hv hv2 a1 a2
      obtain rfl | rfl := (by omega : v = 3 ∨ v = 4)
      · exfalso; simp only [Nat.reduceAdd, Nat.zero_add] at a1 a2; omega
      · exfalso; simp only [Nat.reduceAdd, Nat.zero_add] at a1 a2; omega
    · intro a1
      exact pos_c (by simp only [Nat.reduceSub, TR, T2, twiceP, x0, x1, x2, x3, x4, x5, y0, y3]; omega)
    · show locT (TR X H 5 0 1) (TR X H 0 4 1) (TR X H 0 5 4) (TR X H 0 4 5) (TR X H 0 1 4) = false
      exact loc_f (by simp only [TR, T2, twiceP, x0, x1, x2, x3, x4, x5, y0, y3]; omega)
    · show locT (TR X H 3 4 5) (TR X H 4 0 5) (TR X H 4 3 0) (TR X H 4 0 3) (TR X H 4 5 0) = false
      exact loc_f (by simp only [TR, T2, twiceP, x0, x1, x2, x3, x4, x5, y0, y3]; omega)
    · exact fun h => absurd h (by decide)
theorem w8_1_3 {X H : Nat → Int} (S : Sh8 X H) (W : WayR 6 X H 1 3) : Res 6 3 X H 1 3 := by
  obtain ⟨x0, x1, x2, x3, x4, x5, y0, y1, y2, y3, y4, y5⟩ := S
  have f4 : (0 < TR X H 1 3 5 ∧ 0 < TR X H 1 3 4) ∨ (TR X H 1 3 5 < 0 ∧ TR X H 1 3 4 < 0) := by
    have h0 : interP (X 1) (H 1) (X 3) (H 3) (X 4) (H 4) (X 5) (H 5) = false := W.fr 4 (by decide) (by decide) (by decide) (by decide) (by decide)
    have h := ns01 h0 (by omega) (by omega) (by omega) (by omega)
    rw [dl_1 (by omega), dr_1 (by omega)] at h
    exact h
  have f5 : (0 < -(TR X H 0 5 1) ∧ 0 < TR X H 1 3 5) ∨ (-(TR X H 0 5 1) < 0 ∧ TR X H 1 3 5 < 0) := by
    have h0 : interP (X 1) (H 1) (X 3) (H 3) (X 5) (H 5) (X 0) (H 0) = false := W.fr 5 (by decide) (by decide) (by decide) (by decide) (by decide)
    have h := ns01 h0 (by omega) (by omega) (by omega) (by omega)
    rw [dl_2 (by omega), dr_1 (by omega)] at h
    exact h
  have z1 : TR X H 1 2 3 ≠ 0 := W.s1 rfl
  clear W
  by_cases hc : TR X H 1 3 2 < 0
  · simp only [TR, T2, twiceP, x0, x1, x2, x3, x4, x5, y0, y3] at f4 f5 z1 hc
    replace f5 := f5.resolve_right (by omega)
    replace f4 := f4.resolve_right (by omega)
    refine ⟨true, false, ?_, ⟨?_, ?_⟩, ?_, ?_, ?_⟩
    · intro v hv a1 a2
      obtain rfl | rfl | rfl := (by omega : v = 0 ∨ v = 1 ∨ v = 2)
      · exfalso; simp only [Nat.reduceAdd, Nat.zero_add] at a1 a2; omega
      · exfalso; simp only [Nat.reduceAdd, Nat.zero_add] at a1 a2; omega
      · exact pos_c (by simp only [Nat.reduceAdd, Nat.zero_add, TR, T2, twiceP, x0, x1, x2, x3, x4, x5, y0, y3]; omega)
    · intro v hv hv2 a1 a2
      obtain rfl | rfl := (by omega : v = 3 ∨ v = 4)
      · exfalso; simp only [Nat.reduceAdd, Nat.zero_add] at a1 a2; omega
      · exact neg_c (by simp only [Nat.reduceAdd, Nat.zero_add, TR, T2, twiceP, x0, x1, x2, x3, x4, x5, y0, y3]; omega)
    · intro a1
      exfalso; simp only [Nat.reduceSub] at a1; omega
    · show locT (TR X H 0 1 2) (TR X H 1 3 2) (TR X H 1 0 3) (TR X H 1 3 0) (TR X H 1 2 3) = true
      exact loc_t (by simp only [TR, T2, twiceP, x0, x1, x2, x3, x4, x5, y0, y3]; omega)
    · show locT (TR X H 2 3 4) (TR X H 3 1 4) (TR X H 3 2 1) (TR X H 3 1 2) (TR X H 3 4 1) = true
      exact loc_t (by simp only [TR, T2, twiceP, x0, x1, x2, x3, x4, x5, y0, y3]; omega)
    · refine fun _ => .inl ⟨by omega, fun v hv n1 n2 a1 a2 => ?_⟩
      obtain rfl | rfl | rfl | rfl | rfl | rfl := (by omega : v = 0 ∨ v = 1 ∨ v = 2 ∨ v = 3 ∨ v = 4 ∨ v = 5)
      · exfalso; omega
      · exact absurd rfl n1
      · exact .inl ⟨by omega, by simp only [TR, T2, twiceP, x0, x1, x2, x3, x4, x5, y0, y3]; omega⟩
      · exact absurd rfl n2
      · exact .inr ⟨by omega, by simp only [TR, T2, twiceP, x0, x1, x2, x3, x4, x5, y0, y3]; omega⟩
      · exact .inr ⟨by omega, by simp only [TR, T2, twiceP, x0, x1, x2, x3, x4, x5, y0, y3]; omega⟩
  · simp only [TR, T2, twiceP, x0, x1, x2, x3, x4, x5, y0, y3] at f4 f5 z1 hc
    replace f5 := f5.resolve_right (by omega)
    replace f4 := f4.resolve_right (by omega)
    refine ⟨false, false, ?_, ⟨?_, ?_⟩, ?_, ?_, ?_⟩
    · intro v hv a1 a2
      obtain rfl | rfl | rfl := (by omega : v = 0 ∨ v = 1 ∨ v = 2)
      · exfalso; simp only [Nat.reduceAdd, Nat.zero_add] at a1 a2; omega
      · exfalso; simp only [Nat.reduceAdd, Nat.zero_add] at a1 a2; omega
      · exact neg_c (by simp only [Nat.reduceAdd, Nat.zero_add, TR, T2, twiceP, x0, x1, x2, x3, x4, x5, y0, y3]; omega)
    · intro v hv hv2 a1 a2
      obtain rfl | rfl := (by omega : v = 3 ∨ v = 4)
      · exfalso; simp only [Nat.reduceAdd, Nat.zero_add] at a1 a2; omega
      · exact neg_c (by simp only [Nat.reduceAdd, Nat.zero_add, TR, T2, twiceP, x0, x1, x2, x3, x4, x5, y0, y3]; omega)
    · intro a1
      exfalso; simp only [Nat.reduceSub] at a1; omega
    · show locT (TR X H 0 1 2) (TR X H 1 3 2) (TR X H 1 0 3) (TR X H 1 3 0) (TR X H 1 2 3) = false
      exact loc_f (by simp only [TR, T2, twiceP, x0, x1, x2, x3, x4, x5, y0, y3]; omega)
    · show locT (TR X H 2 3 4) (TR X H 3 1 4) (TR X H 3 2 1) (TR X H 3 1 2) (TR X H 3 4 1) = false
      exact loc_f (by simp only [TR, T2, twiceP, x0, x1, x2, x3, x4, x5, y0, y3]; omega)
    · exact fun h => absurd h (by decide)
theorem w8_1_4 {X H : Nat → Int} (S : Sh8 X H) (W : WayR 6 X H 1 4) : Res 6 3 X H 1 4 := by
  obtain ⟨x0, x1, x2, x3, x4, x5, y0, y1, y2, y3, y4, y5⟩ := S
  have f2 : (0 < TR X H 1 4 2 ∧ 0 < -(TR X H 2 3 4)) ∨ (TR X H 1 4 2 < 0 ∧ -(TR X H 2 3 4) < 0) := by
    have h0 : interP (X 1) (H 1) (X 4) (H 4) (X 2) (H 2) (X 3) (H 3) = false := W.fr 2 (by decide) (by decide) (by decide) (by decide) (by decide)
    have h := ns00 h0 (by omega) (by omega) (by omega) (by omega)
    rw [dl_1 (by omega), dr_2 (by omega)] at h
    exact h
  have f5 : (0 < -(TR X H 0 5 1) ∧ 0 < TR X H 1 4 5) ∨ (-(TR X H 0 5 1) < 0 ∧ TR X H 1 4 5 < 0) := by
    have h0 : interP (X 1) (H 1) (X 4) (H 4) (X 5) (H 5) (X 0) (H 0) = false := W.fr 5 (by decide) (by decide) (by decide) (by decide) (by decide)
    have h := ns01 h0 (by omega) (by omega) (by omega) (by omega)
    rw [dl_2 (by omega), dr_1 (by omega)] at h
    exact h
  clear W
  simp only [TR, T2, twiceP, x0, x1, x2, x3, x4, x5, y0, y3] at f2 f5
  replace f2 := f2.resolve_left (by omega)
  replace f5 := f5.resolve_right (by omega)
  refine ⟨true, false, ?_, ⟨?_, ?_⟩, ?_, ?_, ?_⟩
  · intro v hv a1 a2
    obtain rfl | rfl | rfl := (by omega : v = 0 ∨ v = 1 ∨ v = 2)
    · exfalso; simp only [Nat.reduceAdd, Nat.zero_add] at a1 a2; omega
    · exact pos_c (by simp only [Nat.reduceAdd, Nat.zero_add, TR, T2, twiceP, x0, x1, x2, x3, x4, x5, y0, y3]; omega)
    · exact pos_c (by simp only [Nat.reduceAdd, Nat.zero_add, TR, T2, twiceP, x0, x1, x2, x3, x4, x5, y0, y3]; omega)
  · intro v hv hv2 a1 a2
    obtain rfl | rfl := (by omega : v = 3 ∨ v = 4)
    · exfalso; simp only [Nat.reduceAdd, Nat.zero_add] at a1 a2; omega
    · exact neg_c (by simp only [Nat.reduceAdd, Nat.zero_add, TR, T2, twiceP, x0, x1, x2, x3, x4, x5, y0, y3]; omega)
  · intro a1
    exact neg_c (by simp only [Nat.reduceSub, TR, T2, twiceP, x0, x1, x2, x3, x4, x5, y0, y3]; omega)
  · show locT (TR X H 0 1 2) (TR X H 1 4 2) (TR X H 1 0 4) (TR X H 1 4 0) (TR X H 1 2 4) = true
    exact loc_t (by simp only [TR, T2, twiceP, x0, x1, x2, x3, x4, x5, y0, y3]; omega)
  · show locT (TR X H 3 4 5) (TR X H 4 1 5) (TR X H 4 3 1) (TR X H 4 1 3) (TR X H 4 5 1) = true
    exact loc_t (by simp only [TR, T2, twiceP, x0, x1, x2, x3, x4, x5, y0, y3]; omega)
  · refine fun _ => .inl ⟨by omega, fun v hv n1 n2 a1 a2 => ?_⟩
    obtain rfl | rfl | rfl | rfl | rfl | rfl := (by omega : v = 0 ∨ v = 1 ∨ v = 2 ∨ v = 3 ∨ v = 4 ∨ v = 5)
    · exfalso; omega
    · exact absurd rfl n1
    · exact .inl ⟨by omega, by simp only [TR, T2, twiceP, x0, x1, x2, x3, x4, x5, y0, y3]; omega⟩
    · exfalso; omega
    · exact absurd rfl n2
    · exact .inr ⟨by omega, by simp only [TR, T2, twiceP, x0, x1, x2, x3, x4, x5, y0, y3]; omega⟩
theorem w8_1_5 {X H : Nat → Int} (S : Sh8 X H) (W : WayR 6 X H 1 5) : Res 6 3 X H 1 5 := by
  obtain ⟨x0, x1, x2, x3, x4, x5, y0, y1, y2, y3, y4, y5⟩ := S
  have f2 : (0 < TR X H 1 5 2 ∧ 0 < -(TR X H 2 3 5)) ∨ (TR X H 1 5 2 < 0 ∧ -(TR X H 2 3 5) < 0) := by
    have h0 : interP (X 1) (H 1) (X 5) (H 5) (X 2) (H 2) (X 3) (H 3) = false := W.fr 2 (by decide) (by decide) (by decide) (by decide) (by decide)
    have h := ns00 h0 (by omega) (by omega) (by omega) (by omega)
    rw [dl_1 (by omega), dr_2 (by omega)] at h
    exact h
  have z2 : TR X H 5 0 1 ≠ 0 := W.s2 rfl
  clear W
  simp only [TR, T2, twiceP, x0, x1, x2, x3, x4, x5, y0, y3] at f2 z2
  replace f2 := f2.resolve_left (by omega)
  refine ⟨true, false, ?_, ⟨?_, ?_⟩, ?_, ?_, ?_⟩
  · intro v hv a1 a2
    obtain rfl | rfl | rfl := (by omega : v = 0 ∨ v = 1 ∨ v = 2)
    · exfalso; simp only [Nat.reduceAdd, Nat.zero_add] at a1 a2; omega
    · exact pos_c (by simp only [Nat.reduceAdd, Nat.zero_add, TR, T2, twiceP, x0, x1, x2, x3, x4, x5, y0, y3]; omega)
    · exfalso; simp only [Nat.reduceAdd, Nat.zero_add] at a1 a2; omega
  · intro v hv hv2 a1 a2
    obtain rfl | rfl := (by omega : v = 3 ∨ v = 4)
    · exfalso; simp only [Nat.reduceAdd, Nat.zero_add] at a1 a2; omega
    · exfalso; simp only [Nat.reduceAdd, Nat.zero_add] at a1 a2; omega
  · intro a1
    exact neg_c (by simp only [Nat.reduceSub, TR, T2, twiceP, x0, x1, x2, x3, x4, x5, y0, y3]; omega)
  · show locT (TR X H 0 1 2) (TR X H 1 5 2) (TR X H 1 0 5) (TR X H 1 5 0) (TR X H 1 2 5) = true
    exact loc_t (by simp only [TR, T2, twiceP, x0, x1, x2, x3, x4, x5, y0, y3]; omega)
  · show locT (TR X H 4 5 0) (TR X H 5 1 0) (TR X H 5 4 1) (TR X H 5 1 4) (TR X H 5 0 1) = true
    exact loc_t (by simp only [TR, T2, twiceP, x0, x1, x2, x3, x4, x5, y0, y3]; omega)
  · refine fun _ => .inl ⟨by omega, fun v hv n1 n2 a1 a2 => ?_⟩
    obtain rfl | rfl | rfl | rfl | rfl | rfl := (by omega : v = 0 ∨ v = 1 ∨ v = 2 ∨ v = 3 ∨ v = 4 ∨ v = 5)
    · exfalso; omega
    · exact absurd rfl n1
    · exact .inl ⟨by omega, by simp only [TR, T2, twiceP, x0, x1, x2, x3, x4, x5, y0, y3]; omega⟩
    · exfalso; omega
    · exfalso; omega
    · exact absurd rfl n2
theorem w8_2_4 {X H : Nat → Int} (S : Sh8 X H) (W : WayR 6 X H 2 4) : Res 6 3 X H 2 4 := by
  obtain ⟨x0, x1, x2, x3, x4, x5, y0, y1, y2, y3, y4, y5⟩ := S
  have f5 : (0 < -(TR X H 0 5 2) ∧ 0 < TR X H 2 4 5) ∨ (-(TR X H 0 5 2) < 0 ∧ TR X H 2 4 5 < 0) := by
    have h0 : interP (X 2) (H 2) (X 4) (H 4) (X 5) (H 5) (X 0) (H 0) = false := W.fr 5 (by decide) (by decide) (by decide) (by decide) (by decide)
    have h := ns01 h0 (by omega) (by omega) (by omega) (by omega)
    rw [dl_2 (by omega), dr_1 (by omega)] at h
    exact h
  have z1 : TR X H 2 3 4 ≠ 0 := W.s1 rfl
  clear W
  simp only [TR, T2, twiceP, x0, x1, x2, x3, x4, x5, y0, y3] at f5 z1
  replace f5 := f5.resolve_right (by omega)
  refine ⟨true, false, ?_, ⟨?_, ?_⟩, ?_, ?_, ?_⟩
  · intro v hv a1 a2
    obtain rfl | rfl | rfl := (by omega : v = 0 ∨ v = 1 ∨ v = 2)
    · exfalso; simp only [Nat.reduceAdd, Nat.zero_add] at a1 a2; omega
    · exfalso; simp only [Nat.reduceAdd, Nat.zero_add] at a1 a2; omega
    · exact pos_c (by simp only [Nat.reduceAdd, Nat.zero_add, TR, T2, twiceP, x0, x1, x2, x3, x4, x5, y0, y3]; omega)
  · intro v hv hv2 a1 a2
    obtain rfl | rfl := (by omega : v = 3 ∨ v = 4)
    · exfalso; simp only [Nat.reduceAdd, Nat.zero_add] at a1 a2; omega
    · exact neg_c (by simp only [Nat.reduceAdd, Nat.zero_add, TR, T2, twiceP, x0, x1, x2, x3, x4, x5, y0, y3]; omega)
  · intro a1
    exfalso; simp only [Nat.reduceSub] at a1; omega
  · show locT (TR X H 1 2 3) (TR X H 2 4 3) (TR X H 2 1 4) (TR X H 2 4 1) (TR X H 2 3 4) = true
    exact loc_t (by simp only [TR, T2, twiceP, x0, x1, x2, x3, x4, x5, y0, y3]; omega)
  · show locT (TR X H 3 4 5) (TR X H 4 2 5) (TR X H 4 3 2) (TR X H 4 2 3) (TR X H 4 5 2) = true
    exact loc_t (by simp only [TR, T2, twiceP, x0, x1, x2, x3, x4, x5, y0, y3]; omega)
  · refine fun _ => .inl ⟨by omega, fun v hv n1 n2 a1 a2 => ?_⟩
    obtain rfl | rfl | rfl | rfl | rfl | rfl := (by omega : v = 0 ∨ v = 1 ∨ v = 2 ∨ v = 3 ∨ v = 4 ∨ v = 5)
    · exfalso; omega
    · exfalso; omega
    · exact absurd rfl n1
    · exfalso; omega
    · exact absurd rfl n2
    · exact .inr ⟨by omega, by simp only [TR, T2, twiceP, x0, x1, x2, x3, x4, x5, y0, y3]; omega⟩
theorem w8_2_5 {X H : Nat → Int} (S : Sh8 X H) (W : WayR 6 X H 2 5) : Res 6 3 X H 2 5 := by
  obtain ⟨x0, x1, x2, x3, x4, x5, y0, y1, y2, y3, y4, y5⟩ := S
  clear W
  refine ⟨true, false, ?_, ⟨?_, ?_⟩, ?_, ?_, ?_⟩
  · intro v hv a1 a2
    obtain rfl | rfl | rfl := (by omega : v = 0 ∨ v = 1 ∨ v = 2)
    · exfalso; simp only [Nat.reduceAdd, Nat.zero_add] at a1 a2; omega
    · exact pos_c (by simp only [Nat.reduceAdd, Nat.zero_add, TR, T2, twiceP, x0, x1, x2, x3, x4, x5, y0, y3]; omega)
    · exact pos_c (by simp only [Nat.reduceAdd, Nat.zero_add, TR, T2, twiceP, x0, x1, x2, x3, x4, x5, y0, y3]; omega)
  · intro v hv hv2 a1 a2
    obtain rfl | rfl := (by omega : v = 3 ∨ v = 4)
    · exfalso; simp only [Nat.reduceAdd, Nat.zero_add] at a1 a2; omega
    · exact neg_c (by simp only [Nat.reduceAdd, Nat.zero_add, TR, T2, twiceP, x0, x1, x2, x3, x4, x5, y0, y3]; omega)
  · intro a1
    exact neg_c (by simp only [Nat.reduceSub, TR, T2, twiceP, x0, x1, x2, x3, x4, x5, y0, y3]; omega)
  · show locT (TR X H 1 2 3) (TR X H 2 5 3) (TR X H 2 1 5) (TR X H 2 5 1) (TR X H 2 3 5) = true
    exact loc_t (by simp only [TR, T2, twiceP, x0, x1, x2, x3, x4, x5, y0, y3]; omega)
  · show locT (TR X H 4 5 0) (TR X H 5 2 0) (TR X H 5 4 2) (TR X H 5 2 4) (TR X H 5 0 2) = true
    exact loc_t (by simp only [TR, T2, twiceP, x0, x1, x2, x3, x4, x5, y0, y3]; omega)
  · exact fun _ => .inr (.inr ⟨by omega, by omega, by omega⟩)
theorem w8_3_5 {X H : Nat → Int} (S : Sh8 X H) (W : WayR 6 X H 3 5) : Res 6 3 X H 3 5 := by
  obtain ⟨x0, x1, x2, x3, x4, x5, y0, y1, y2, y3, y4, y5⟩ := S
  have f1 : (0 < -(TR X H 1 2 5) ∧ 0 < TR X H 5 3 2) ∨ (-(TR X H 1 2 5) < 0 ∧ TR X H 5 3 2 < 0) := by
    have h0 : interP (X 3) (H 3) (X 5) (H 5) (X 1) (H 1) (X 2) (H 2) = false := W.fr 1 (by decide) (by decide) (by decide) (by decide) (by decide)
    have h := ns10 h0 (by omega) (by omega) (by omega) (by omega)
    rw [dl_2 (by omega), dr_1 (by omega)] at h
    exact h
  have z1 : TR X H 3 4 5 ≠ 0 := W.s1 rfl
  clear W
  by_cases hc : 0 < TR X H 5 3 4
  · simp only [TR, T2, twiceP, x0, x1, x2, x3, x4, x5, y0, y3] at f1 z1 hc
    replace f1 := f1.resolve_left (by omega)
    refine ⟨true, false, ?_, ⟨?_, ?_⟩, ?_, ?_, ?_⟩
    · intro v hv a1 a2
      obtain rfl | rfl | rfl := (by omega : v = 0 ∨ v = 1 ∨ v = 2)
      · exfalso; simp only [Nat.reduceAdd, Nat.zero_add] at a1 a2; omega
      · exfalso; simp only [Nat.reduceAdd, Nat.zero_add] at a1 a2; omega
      · exact pos_c (by simp only [Nat.reduceAdd, Nat.zero_add, TR, T2, twiceP, x0, x1, x2, x3, x4, x5, y0, y3]; omega)
    · intro v hv hv2 a1 a2
      obtain rfl | rfl := (by omega : v = 3 ∨ v = 4)
      · exact neg_c (by simp only [Nat.reduceAdd, Nat.zero_add, TR, T2, twiceP, x0, x1, x2, x3, x4, x5, y0, y3]; omega)
      · exact neg_c (by simp only [Nat.reduceAdd, Nat.zero_add, TR, T2, twiceP, x0, x1, x2, x3, x4, x5, y0, y3]; omega)
    · intro a1
      exfalso; simp only [Nat.reduceSub] at a1; omega
    · show locT (TR X H 2 3 4) (TR X H 3 5 4) (TR X H 3 2 5) (TR X H 3 5 2) (TR X H 3 4 5) = true
      exact loc_t (by simp only [TR, T2, twiceP, x0, x1, x2, x3, x4, x5, y0, y3]; omega)
    · show locT (TR X H 4 5 0) (TR X H 5 3 0) (TR X H 5 4 3) (TR X H 5 3 4) (TR X H 5 0 3) = true
      exact loc_t (by simp only [TR, T2, twiceP, x0, x1, x2, x3, x4, x5, y0, y3]; omega)
    · refine fun _ => .inr <| .inl ⟨by omega, fun v hv n1 n2 a1 a2 => ?_⟩
      obtain rfl | rfl | rfl | rfl | rfl | rfl := (by omega : v = 0 ∨ v = 1 ∨ v = 2 ∨ v = 3 ∨ v = 4 ∨ v = 5)
      · exfalso; omega
      · exfalso; omega
      · exact .inl ⟨by omega, by simp only [TR, T2, twiceP, x0, x1, x2, x3, x4, x5, y0, y3]; omega⟩
      · exact absurd rfl n2
      · exact .inr ⟨by omega, by simp only [TR, T2, twiceP, x0, x1, x2, x3, x4, x5, y0, y3]; omega⟩
      · exact absurd rfl n1
  · simp only [TR, T2, twiceP, x0, x1, x2, x3, x4, x5, y0, y3] at f1 z1 hc
    replace f1 := f1.resolve_left (by omega)
    refine ⟨true, true, ?_, ⟨?_, ?_⟩, ?_, ?_, ?_⟩
    · intro v hv a1 a2
      obtain rfl | rfl | rfl := (by omega : v = 0 ∨ v = 1 ∨ v = 2)
      · exfalso; simp only [Nat.reduceAdd, Nat.zero_add] at a1 a2; omega
      · exfalso; simp only [Nat.reduceAdd, Nat.zero_add] at a1 a2; omega
      · exact pos_c (by simp only [Nat.reduceAdd, Nat.zero_add, TR, T2, twiceP, x0, x1, x2, x3, x4, x5, y0, y3]; omega)
    · intro v hv hv2 a1 a2
      obtain rfl | rfl := (by omega : v = 3 ∨ v = 4)
      · exact pos_c (by simp only [Nat.reduceAdd, Nat.zero_add, TR, T2, twiceP, x0, x1, x2, x3, x4, x5, y0, y3]; omega)
      · exact pos_c (by simp only [Nat.reduceAdd, Nat.zero_add, TR, T2, twiceP, x0, x1, x2, x3, x4, x5, y0, y3]; omega)
    · intro a1
      exfalso; simp only [Nat.reduceSub] at a1; omega
    · show locT (TR X H 2 3 4) (TR X H 3 5 4) (TR X H 3 2 5) (TR X H 3 5 2) (TR X H 3 4 5) = false
      exact loc_f (by simp only [TR, T2, twiceP, x0, x1, x2, x3, x4, x5, y0, y3]; omega)
    · show locT (TR X H 4 5 0) (TR X H 5 3 0) (TR X H 5 4 3) (TR X H 5 3 4) (TR X H 5 0 3) = false
      exact loc_f (by simp only [TR, T2, twiceP, x0, x1, x2, x3, x4, x5, y0, y3]; omega)
    · exact fun h => absurd h (by decide)
theorem shape8 {X H : Nat → Int} (S : Sh8 X H) {i j : Nat} (W : WayR 6 X H i j) : Res 6 3 X H i j := by
  have hap := W.ap
  unfold Apart at hap
  obtain rfl | rfl | rfl | rfl : i = 0 ∨ i = 1 ∨ i = 2 ∨ i = 3 := by omega
  · obtain rfl | rfl | rfl : j = 2 ∨ j = 3 ∨ j = 4 := by omega
    · exact w8_0_2 S W
    · exact w8_0_3 S W
    · exact w8_0_4 S W
  · obtain rfl | rfl | rfl : j = 3 ∨ j = 4 ∨ j = 5 := by omega
    · exact w8_1_3 S W
    · exact w8_1_4 S W
    · exact w8_1_5 S W
  · obtain rfl | rfl : j = 4 ∨ j = 5 := by omega
    · exact w8_2_4 S W
    · exact w8_2_5 S W
  · obtain rfl : j = 5 := by omega
    · exact w8_3_5 S W

def Sh9 (X H : Nat → Int) : Prop := X 0 = 0 ∧ X 1 = 1 ∧ X 2 = 2 ∧ X 3 = 3 ∧ X 4 = 4 ∧ H 0 = 0 ∧ H 1 < 0 ∧ H 2 < 0 ∧ H 3 < 0 ∧ H 4 = 0
theorem ring9 {X H : Nat → Int} (S : Sh9 X H) : Ring 5 4 X H := by
  obtain ⟨x0, x1, x2, x3, x4, y0, y1, y2, y3, y4⟩ := S
  refine ⟨by omega, by omega, x0, ?_, ?_, ?_, y0, y4, ?_, ?_⟩
  · intro v hv
    obtain rfl | rfl | rfl | rfl := (by omega : v = 0 ∨ v = 1 ∨ v = 2 ∨ v = 3) <;> (simp only [Nat.reduceAdd, Nat.zero_add]; omega)
  · intro v hv hv2
    omega
  · simp only [Nat.reduceSub]; omega
  · intro v hv hv2
    obtain rfl | rfl | rfl := (by omega : v = 1 ∨ v = 2 ∨ v = 3) <;> assumption
  · intro v hv hv2
    omega
theorem w9_0_2 {X H : Nat → Int} (S : Sh9 X H) (W : WayR 5 X H 0 2) : Res 5 4 X H 0 2 := by
  obtain ⟨x0, x1, x2, x3, x4, y0, y1, y2, y3, y4⟩ := S
  have z1 : TR X H 0 1 2 ≠ 0 := W.s1 rfl
  clear W
  by_cases hc : TR X H 0 2 1 < 0
  · simp only [TR, T2, twiceP, x0, x1, x2, x3, x4, y0, y4] at z1 hc
    refine ⟨true, false, ?_, ⟨?_, ?_⟩, ?_, ?_, ?_⟩
    · intro v hv a1 a2
      obtain rfl | rfl | rfl | rfl := (by omega : v = 0 ∨ v = 1 ∨ v = 2 ∨ v = 3)
      · exact pos_c (by simp only [Nat.reduceAdd, Nat.zero_add, TR, T2, twiceP, x0, x1, x2, x3, x4, y0, y4]; omega)
      · exact pos_c (by simp only [Nat.reduceAdd, Nat.zero_add, TR, T2, twiceP, x0, x1, x2, x3, x4, y0, y4]; omega)
      · exfalso; simp only [Nat.reduceAdd, Nat.zero_add] at a1 a2; omega
      · exfalso; simp only [Nat.reduceAdd, Nat.zero_add] at a1 a2; omega
    · intro v hv hv2 a1 a2
      omega
    · intro a1
      exact neg_c (by simp only [Nat.reduceSub, TR, T2, twiceP, x0, x1, x2, x3, x4, y0, y4]; omega)
    · show locT (TR X H 4 0 1) (TR X H 0 2 1) (TR X H 0 4 2) (TR X H 0 2 4) (TR X H 0 1 2) = true
      exact loc_t (by simp only [TR, T2, twiceP, x0, x1, x2, x3, x4, y0, y4]; omega)
    · show locT (TR X H 1 2 3) (TR X H 2 0 3) (TR X H 2 1 0) (TR X H 2 0 1) (TR X H 2 3 0) = true
      exact loc_t (by simp only [TR, T2, twiceP, x0, x1, x2, x3, x4, y0, y4]; omega)
    · refine fun _ => .inl ⟨by omega, fun v hv n1 n2 a1 a2 => ?_⟩
      obtain rfl | rfl | rfl | rfl | rfl := (by omega : v = 0 ∨ v = 1 ∨ v = 2 ∨ v = 3 ∨ v = 4)
      · exact absurd rfl n1
      · exact .inl ⟨by omega, by simp only [TR, T2, twiceP, x0, x1, x2, x3, x4, y0, y4]; omega⟩
      · exact absurd rfl n2
      · exfalso; omega
      · exfalso; omega
  · simp only [TR, T2, twiceP, x0, x1, x2, x3, x4, y0, y4] at z1 hc
    refine ⟨false, false, ?_, ⟨?_, ?_⟩, ?_, ?_, ?_⟩
    · intro v hv a1 a2
      obtain rfl | rfl | rfl | rfl := (by omega : v = 0 ∨ v = 1 ∨ v = 2 ∨ v = 3)
      · exact neg_c (by simp only [Nat.reduceAdd, Nat.zero_add, TR, T2, twiceP, x0, x1, x2, x3, x4, y0, y4]; omega)
      · exact neg_c (by simp only [Nat.reduceAdd, Nat.zero_add, TR, T2, twiceP, x0, x1, x2, x3, x4, y0, y4]; omega)
      · exfalso; simp only [Nat.reduceAdd, Nat.zero_add] at a1 a2; omega
      · exfalso; simp only [Nat.reduceAdd, Nat.zero_add] at a1 a2; omega
    · intro v hv hv2 a1 a2
      omega
    · intro a1
      exact neg_c (by simp only [Nat.reduceSub, TR, T2, twiceP, x0, x1, x2, x3, x4, y0, y4]; omega)
    · show locT (TR X H 4 0 1) (TR X H 0 2 1) (TR X H 0 4 2) (TR X H 0 2 4) (TR X H 0 1 2) = false
      exact loc_f (by simp only [TR, T2, twiceP, x0, x1, x2, x3, x4, y0, y4]; omega)
    · show locT (TR X H 1 2 3) (TR X H 2 0 3) (TR X H 2 1 0) (TR X H 2 0 1) (TR X H 2 3 0) = false
      exact loc_f (by simp only [TR, T2, twiceP, x0, x1, x2, x3, x4, y0, y4]; omega)
    · exact fun h => absurd h (by decide)
theorem w9_0_3 {X H : Nat → Int} (S : Sh9 X H) (W : WayR 5 X H 0 3) : Res 5 4 X H 0 3 := by
  obtain ⟨x0, x1, x2, x3, x4, y0, y1, y2, y3, y4⟩ := S
  have f1 : (0 < TR X H 0 3 1 ∧ 0 < TR X H 0 3 2) ∨ (TR X H 0 3 1 < 0 ∧ TR X H 0 3 2 < 0) := by
    have h0 : interP (X 0) (H 0) (X 3) (H 3) (X 1) (H 1) (X 2) (H 2) = false := W.fr 1 (by decide) (by decide) (by decide) (by decide) (by decide)
    have h := ns00 h0 (by omega) (by omega) (by omega) (by omega)
    rw [dl_1 (by omega), dr_1 (by omega)] at h
    exact h
  have z2 : TR X H 3 4 0 ≠ 0 := W.s2 rfl
  clear W
  by_cases hc : TR X H 0 3 1 < 0
  · simp only [TR, T2, twiceP, x0, x1, x2, x3, x4, y0, y4] at f1 z2 hc
    replace f1 := f1.resolve_left (by omega)
    refine ⟨true, false, ?_, ⟨?_, ?_⟩, ?_, ?_, ?_⟩
    · intro v hv a1 a2
      obtain rfl | rfl | rfl | rfl := (by omega : v = 0 ∨ v = 1 ∨ v = 2 ∨ v = 3)
      · exfalso; simp only [Nat.reduceAdd, Nat.zero_add] at a1 a2; omega
      · exact pos_c (by simp only [Nat.reduceAdd, Nat.zero_add, TR, T2, twiceP, x0, x1, x2, x3, x4, y0, y4]; omega)
      · exfalso; simp only [Nat.reduceAdd, Nat.zero_add] at a1 a2; omega
      · exfalso; simp only [Nat.reduceAdd, Nat.zero_add] at a1 a2; omega
    · intro v hv hv2 a1 a2
      omega
    · intro a1
      exact neg_c (by simp only [Nat.reduceSub, TR, T2, twiceP, x0, x1, x2, x3, x4, y0, y4]; omega)
    · show locT (TR X H 4 0 1) (TR X H 0 3 1) (TR X H 0 4 3) (TR X H 0 3 4) (TR X H 0 1 3) = true
      exact loc_t (by simp only [TR, T2, twiceP, x0, x1, x2, x3, x4, y0, y4]; omega)
    · show locT (TR X H 2 3 4) (TR X H 3 0 4) (TR X H 3 2 0) (TR X H 3 0 2) (TR X H 3 4 0) = true
      exact loc_t (by simp only [TR, T2, twiceP, x0, x1, x2, x3, x4, y0, y4]; omega)
    · refine fun _ => .inl ⟨by omega, fun v hv n1 n2 a1 a2 => ?_⟩
      obtain rfl | rfl | rfl | rfl | rfl := (by omega : v = 0 ∨ v = 1 ∨ v = 2 ∨ v = 3 ∨ v = 4)
      · exact absurd rfl n1
      · exact .inl ⟨by omega, by simp only [TR, T2, twiceP, x0, x1, x2, x3, x4, y0, y4]; omega⟩
      · exact .inl ⟨by omega, by simp only [TR, T2, twiceP, x0, x1, x2, x3, x4, y0, y4]; omega⟩
      · exact absurd rfl n2
      · exfalso; omega
  · simp only [TR, T2, twiceP, x0, x1, x2, x3, x4, y0, y4] at f1 z2 hc
    replace f1 := f1.resolve_right (by omega)
    refine ⟨false, false, ?_, ⟨?_, ?_⟩, ?_, ?_, ?_⟩
    · intro v hv a1 a2
      obtain rfl | rfl | rfl | rfl := (by omega : v = 0 ∨ v = 1 ∨ v = 2 ∨ v = 3)
      · exfalso; simp only [Nat.reduceAdd, Nat.zero_add] at a1 a2; omega
      · exact neg_c (by simp only [Nat.reduceAdd, Nat.zero_add, TR, T2, twiceP, x0, x1, x2, x3, x4, y0, y4]; omega)
      · exfalso; simp only [Nat.reduceAdd, Nat.zero_add] at a1 a2; omega
      · exfalso; simp only [Nat.reduceAdd, Nat.zero_add] at a1 a2; omega
    · intro v hv hv2 a1 a2
      omega
    · intro a1
      exact neg_c (by simp only [Nat.reduceSub, TR, T2, twiceP, x0, x1, x2, x3, x4, y0, y4]; omega)
    · show locT (TR X H 4 0 1) (TR X H 0 3 1) (TR X H 0 4 3) (TR X H 0 3 4) (TR X H 0 1 3) = false
      exact loc_f (by simp only [TR, T2, twiceP, x0, x1, x2, x3, x4, y0, y4]; omega)
    · show locT (TR X H 2 3 4) (TR X H 3 0 4) (TR X H 3 2 0) (TR X H 3 0 2) (TR X H 3 4 0) = false
      exact loc_f (by simp only [TR, T2, twiceP, x0, x1, x2, x3, x4, y0, y4]; omega)
    · exact fun h => absurd h (by decide)
theorem w9_1_3 {X H : Nat → Int} (S : Sh9 X H) (W : WayR 5 X H 1 3) : Res 5 4 X H 1 3 := by
  obtain ⟨x0, x1, x2, x3, x4, y0, y1, y2, y3, y4⟩ := S
  have f4 : (0 < -(TR X H 0 4 1) ∧ 0 < -(TR X H 0 4 3)) ∨ (-(TR X H 0 4 1) < 0 ∧ -(TR X H 0 4 3) < 0) := by
    have h0 : interP (X 1) (H 1) (X 3) (H 3) (X 4) (H 4) (X 0) (H 0) = false := W.fr 4 (by decide) (by decide) (by decide) (by decide) (by decide)
    have h := ns01 h0 (by omega) (by omega) (by omega) (by omega)
    rw [dl_2 (by omega), dr_2 (by omega)] at h
    exact h
  have z1 : TR X H 1 2 3 ≠ 0 := W.s1 rfl
  clear W
  by_cases hc : TR X H 1 3 2 < 0
  · simp only [TR, T2, twiceP, x0, x1, x2, x3, x4, y0, y4] at f4 z1 hc
    replace f4 := f4.resolve_right (by omega)
    refine ⟨true, false, ?_, ⟨?_, ?_⟩, ?_, ?_, ?_⟩
    · intro v hv a1 a2
      obtain rfl | rfl | rfl | rfl := (by omega : v = 0 ∨ v = 1 ∨ v = 2 ∨ v = 3)
      · exfalso; simp only [Nat.reduceAdd, Nat.zero_add] at a1 a2; omega
      · exact pos_c (by simp only [Nat.reduceAdd, Nat.zero_add, TR, T2, twiceP, x0, x1, x2, x3, x4, y0, y4]; omega)
      · exact pos_c (by simp only [Nat.reduceAdd, Nat.zero_add, TR, T2, twiceP, x0, x1, x2, x3, x4, y0, y4]; omega)
      · exfalso; simp only [Nat.reduceAdd, Nat.zero_add] at a1 a2; omega
    · intro v hv hv2 a1 a2
      omega
    · intro a1
      exact neg_c (by simp only [Nat.reduceSub, TR, T2, twiceP, x0, x1, x2, x3, x4, y0, y4]; omega)
    · show locT (TR X H 0 1 2) (TR X H 1 3 2) (TR X H 1 0 3) (TR X H 1 3 0) (TR X H 1 2 3) = true
      exact loc_t (by simp only [TR, T2, twiceP, x0, x1, x2, x3, x4, y0, y4]; omega)
    · show locT (TR X H 2 3 4) (TR X H 3 1 4) (TR X H 3 2 1) (TR X H 3 1 2) (TR X H 3 4 1) = true
      exact loc_t (by simp only [TR, T2, twiceP, x0, x1, x2, x3, x4, y0, y4]; omega)
    · refine fun _ => .inl ⟨by omega, fun v hv n1 n2 a1 a2 => ?_⟩
      obtain rfl | rfl | rfl | rfl | rfl := (by omega : v = 0 ∨ v = 1 ∨ v = 2 ∨ v = 3 ∨ v = 4)
      · exfalso; omega
      · exact absurd rfl n1
      · exact .inl ⟨by omega, by simp only [TR, T2, twiceP, x0, x1, x2, x3, x4, y0, y4]; omega⟩
      · exact absurd rfl n2
      · exfalso; omega
  · simp only [TR, T2, twiceP, x0, x1, x2, x3, x4, y0, y4] at f4 z1 hc
    replace f4 := f4.resolve_right (by omega)
    refine ⟨false, false, ?_, ⟨?_, ?_⟩, ?_, ?_, ?_⟩
    · intro v hv a1 a2
      obtain rfl | rfl | rfl | rfl := (by omega : v = 0 ∨ v = 1 ∨ v = 2 ∨ v = 3)
      · exfalso; simp only [Nat.reduceAdd, Nat.zero_add] at a1 a2; omega
      · exact neg_c (by simp only [Nat.reduceAdd, Nat.zero_add, TR, T2, twiceP, x0, x1, x2, x3, x4, y0, y4]; omega)
      · exact neg_c (by simp only [Nat.reduceAdd, Nat.zero_add, TR, T2, twiceP, x0, x1, x2, x3, x4, y0, y4]; omega)
      · exfalso; simp only [Nat.reduceAdd, Nat.zero_add] at a1 a2; omega
    · intro v hv hv2 a1 a2
      omega
    · intro a1
      exact neg_c (by simp only [Nat.reduceSub, TR, T2, twiceP, x0, x1, x2, x3, x4, y0, y4]; omega)
    · show locT (TR X H 0 1 2) (TR X H 1 3 2) (TR X H 1 0 3) (TR X H 1 3 0) (TR X H 1 2 3) = false
      exact loc_f (by simp only [TR, T2, twiceP, x0, x1, x2, x3, x4, y0, y4]; omega)
    · show locT (TR X H 2 3 4) (TR X H 3 1 4) (TR X H 3 2 1) (TR X H 3 1 2) (TR X H 3 4 1) = false
      exact loc_f (by simp only [TR, T2, twiceP, x0, x1, x2, x3, x4, y0, y4]; omega)
    · exact fun h => absurd h (by decide)
theorem w9_1_4 {X H : Nat → Int} (S : Sh9 X H) (W : WayR 5 X H 1 4) : Res 5 4 X H 1 4 := by
  obtain ⟨x0, x1, x2, x3, x4, y0, y1, y2, y3, y4⟩ := S
  have f2 : (0 < TR X H 1 4 2 ∧ 0 < TR X H 1 4 3) ∨ (TR X H 1 4 2 < 0 ∧ TR X H 1 4 3 < 0) := by
    have h0 : interP (X 1) (H 1) (X 4) (H 4) (X 2) (H 2) (X 3) (H 3) = false := W.fr 2 (by decide) (by decide) (by decide) (by decide) (by decide)
    have h := ns00 h0 (by omega) (by omega) (by omega) (by omega)
    rw [dl_1 (by omega), dr_1 (by omega)] at h
    exact h
  have z2 : TR X H 4 0 1 ≠ 0 := W.s2 rfl
  clear W
  by_cases hc : TR X H 1 4 2 < 0
  · simp only [TR, T2, twiceP, x0, x1, x2, x3, x4, y0, y4] at f2 z2 hc
    replace f2 := f2.resolve_left (by omega)
    refine ⟨true, false, ?_, ⟨?_, ?_⟩, ?_, ?_, ?_⟩
    · intro v hv a1 a2
      obtain rfl | rfl | rfl | rfl := (by omega : v = 0 ∨ v = 1 ∨ v = 2 ∨ v = 3)
      · exfalso; simp only [Nat.reduceAdd, Nat.zero_add] at a1 a2; omega
      · exfalso; simp only [Nat.reduceAdd, Nat.zero_add] at a1 a2; omega
      · exact pos_c (by simp only [Nat.reduceAdd, Nat.zero_add, TR, T2, twiceP, x0, x1, x2, x3, x4, y0, y4]; omega)
      · exfalso; simp only [Nat.reduceAdd, Nat.zero_add] at a1 a2; omega
    · intro v hv hv2 a1 a2
      omega
    · intro a1
      exact neg_c (by simp only [Nat.reduceSub, TR, T2, twiceP, x0, x1, x2, x3, x4, y0, y4]; omega)
    · show locT (TR X H 0 1 2) (TR X H 1 4 2) (TR X H 1 0 4) (TR X H 1 4 0) (TR X H 1 2 4) = true
      exact loc_t (by simp only [TR, T2, twiceP, x0, x1, x2, x3, x4, y0, y4]; omega)
    · show locT (TR X H 3 4 0) (TR X H 4 1 0) (TR X H 4 3 1) (TR X H 4 1 3) (TR X H 4 0 1) = true
      exact loc_t (by simp only [TR, T2, twiceP, x0, x1, x2, x3, x4, y0, y4]; omega)
    · refine fun _ => .inl ⟨by omega, fun v hv n1 n2 a1 a2 => ?_⟩
      obtain rfl | rfl | rfl | rfl | rfl := (by omega : v = 0 ∨ v = 1 ∨ v = 2 ∨ v = 3 ∨ v = 4)
      · exfalso; omega
      · exact absurd rfl n1
      · exact .inl ⟨by omega, by simp only [TR, T2, twiceP, x0, x1, x2, x3, x4, y0, y4]; omega⟩
      · exact .inl ⟨by omega, by simp only [TR, T2, twiceP, x0, x1, x2, x3, x4, y0, y4]; omega⟩
      · exact absurd rfl n2
  · simp only [TR, T2, twiceP, x0, x1, x2, x3, x4, y0, y4] at f2 z2 hc
    replace f2 := f2.resolve_right (by omega)
    refine ⟨false, false, ?_, ⟨?_, ?_⟩, ?_, ?_, ?_⟩
    · intro v hv a1 a2
      obtain rfl | rfl | rfl | rfl := (by omega : v = 0 ∨ v = 1 ∨ v = 2 ∨ v = 3)
      · exfalso; simp only [Nat.reduceAdd, Nat.zero_add] at a1 a2; omega
      · exfalso; simp only [Nat.reduceAdd, Nat.zero_add] at a1 a2; omega
      · exact neg_c (by simp only [Nat.reduceAdd, Nat.zero_add, TR, T2, twiceP, x0, x1, x2, x3, x4, y0, y4]; omega)
      · exfalso; simp only [Nat.reduceAdd, Nat.zero_add] at a1 a2; omega
    · intro v hv hv2 a1 a2
      omega
    · intro a1
      exact neg_c (by simp only [Nat.reduceSub, TR, T2, twiceP, x0, x1, x2, x3, x4, y0, y4]; omega)
    · show locT (TR X H 0 1 2) (TR X H 1 4 2) (TR X H 1 0 4) (TR X H 1 4 0) (TR X H 1 2 4) = false
      exact loc_f (by simp only [TR, T2, twiceP, x0, x1, x2, x3, x4, y0, y4]; omega)
    · show locT (TR X H 3 4 0) (TR X H 4 1 0) (TR X H 4 3 1) (TR X H 4 1 3) (TR X H 4 0 1) = false
      exact loc_f (by simp only [TR, T2, twiceP, x0, x1, x2, x3, x4, y0, y4]; omega)
    · exact fun h => absurd h (by decide)
theorem w9_2_4 {X H : Nat → Int} (S : Sh9 X H) (W : WayR 5 X H 2 4) : Res 5 4 X H 2 4 := by
  obtain ⟨x0, x1, x2, x3, x4, y0, y1, y2, y3, y4⟩ := S
  have z1 : TR X H 2 3 4 ≠ 0 := W.s1 rfl
  clear W
  by_cases hc : TR X H 2 4 3 < 0
  · simp only [TR, T2, twiceP, x0, x1, x2, x3, x4, y0, y4] at z1 hc
    refine ⟨true, false, ?_, ⟨?_, ?_⟩, ?_, ?_, ?_⟩
    · intro v hv a1 a2
      obtain rfl | rfl | rfl | rfl := (by omega : v = 0 ∨ v = 1 ∨ v = 2 ∨ v = 3)
      · exfalso; simp only [Nat.reduceAdd, Nat.zero_add] at a1 a2; omega
      · exfalso; simp only [Nat.reduceAdd, Nat.zero_add] at a1 a2; omega
      · exact pos_c (by simp only [Nat.reduceAdd, Nat.zero_add, TR, T2, twiceP, x0, x1, x2, x3, x4, y0, y4]; omega)
      · exact pos_c (by simp only [Nat.reduceAdd, Nat.zero_add, TR, T2, twiceP, x0, x1, x2, x3, x4, y0, y4]; omega)
    · intro v hv hv2 a1 a2
      omega
    · intro a1
      exact neg_c (by simp only [Nat.reduceSub, TR, T2, twiceP, x0, x1, x2, x3, x4, y0, y4]; omega)
    · show locT (TR X H 1 2 3) (TR X H 2 4 3) (TR X H 2 1 4) (TR X H 2 4 1) (TR X H 2 3 4) = true
      exact loc_t (by simp only [TR, T2, twiceP, x0, x1, x2, x3, x4, y0, y4]; omega)
    · show locT (TR X H 3 4 0) (TR X H 4 2 0) (TR X H 4 3 2) (TR X H 4 2 3) (TR X H 4 0 2) = true
      exact loc_t (by simp only [TR, T2, twiceP, x0, x1, x2, x3, x4, y0, y4]; omega)
    · refine fun _ => .inl ⟨by omega, fun v hv n1 n2 a1 a2 => ?_⟩
      obtain rfl | rfl | rfl | rfl | rfl := (by omega : v = 0 ∨ v = 1 ∨ v = 2 ∨ v = 3 ∨ v = 4)
      · exfalso; omega
      · exfalso; omega
      · exact absurd rfl n1
      · exact .inl ⟨by omega, by simp only [TR, T2, twiceP, x0, x1, x2, x3, x4, y0, y4]; omega⟩
      · exact absurd rfl n2
  · simp only [TR, T2, twiceP, x0, x1, x2, x3, x4, y0, y4] at z1 hc
    refine ⟨false, false, ?_, ⟨?_, ?_⟩, ?_, ?_, ?_⟩
    · intro v hv a1 a2
      obtain rfl | rfl | rfl | rfl := (by omega : v = 0 ∨ v = 1 ∨ v = 2 ∨ v = 3)
      · exfalso; simp only [Nat.reduceAdd, Nat.zero_add] at a1 a2; omega
      · exfalso; simp only [Nat.reduceAdd, Nat.zero_add] at a1 a2; omega
      · exact neg_c (by simp only [Nat.reduceAdd, Nat.zero_add, TR, T2, twiceP, x0, x1, x2, x3, x4, y0, y4]; omega)
      · exact neg_c (by simp only [Nat.reduceAdd, Nat.zero_add, TR, T2, twiceP, x0, x1, x2, x3, x4, y0, y4]; omega)
    · intro v hv hv2 a1 a2
      omega
    · intro a1
      exact neg_c (by simp only [Nat.reduceSub, TR, T2, twiceP, x0, x1, x2, x3, x4, y0, y4]; omega)
    · show locT (TR X H 1 2 3) (TR X H 2 4 3) (TR X H 2 1 4) (TR X H 2 4 1) (TR X H 2 3 4) = false
      exact loc_f (by simp only [TR, T2, twiceP, x0, x1, x2, x3, x4, y0, y4]; omega)
    · show locT (TR X H 3 4 0) (TR X H 4 2 0) (TR X H 4 3 2) (TR X H 4 2 3) (TR X H 4 0 2) = false
      exact loc_f (by simp only [TR, T2, twiceP, x0, x1, x2, x3, x4, y0, y4]; omega)
    · exact fun h => absurd h (by decide)
theorem shape9 {X H : Nat → Int} (S : Sh9 X H) {i j : Nat} (W : WayR 5 X H i j) : Res 5 4 X H i j := by
  have hap := W.ap
  unfold Apart at hap
  obtain rfl | rfl | rfl : i = 0 ∨ i = 1 ∨ i = 2 := by omega
  · obtain rfl | rfl : j = 2 ∨ j = 3 := by omega
    · exact w9_0_2 S W
    · exact w9_0_3 S W
  · obtain rfl | rfl : j = 3 ∨ j = 4 := by omega
    · exact w9_1_3 S W
    · exact w9_1_4 S W
  · obtain rfl : j = 4 := by omega
    · exact w9_2_4 S W

def Sh10 (X H : Nat → Int) : Prop := X 0 = 0 ∧ X 1 = 1 ∧ X 2 = 2 ∧ X 3 = 4 ∧ X 4 = 3 ∧ H 0 = 0 ∧ H 1 < 0 ∧ H 2 < 0 ∧ H 3 = 0 ∧ 0 < H 4
theorem ring10 {X H : Nat → Int} (S : Sh10 X H) : Ring 5 3 X H := by
  obtain ⟨x0, x1, x2, x3, x4, y0, y1, y2, y3, y4⟩ := S
  refine ⟨by omega, by omega, x0, ?_, ?_, ?_, y0, y3, ?_, ?_⟩
  · intro v hv
    obtain rfl | rfl | rfl := (by omega : v = 0 ∨ v = 1 ∨ v = 2) <;> (simp only [Nat.reduceAdd, Nat.zero_add]; omega)
  · intro v hv hv2
    obtain rfl := (by omega : v = 3)
    (simp only [Nat.reduceAdd, Nat.zero_add]; omega)
  · simp only [Nat.reduceSub]; omega
  · intro v hv hv2
    obtain rfl | rfl := (by omega : v = 1 ∨ v = 2) <;> assumption
  · intro v hv hv2
    obtain rfl := (by omega : v = 4)
    assumption
theorem w10_0_2 {X H : Nat → Int} (S : Sh10 X H) (W : WayR 5 X H 0 2) : Res 5 3 X H 0 2 := by
  obtain ⟨x0, x1, x2, x3, x4, y0, y1, y2, y3, y4⟩ := S
  have z1 : TR X H 0 1 2 ≠ 0 := W.s1 rfl
  clear W
  by_cases hc : TR X H 0 2 1 < 0
  · simp only [TR, T2, twiceP, x0, x1, x2, x3, x4, y0, y3] at z1 hc
    refine ⟨true, false, ?_, ⟨?_, ?_⟩, ?_, ?_, ?_⟩
    · intro v hv a1 a2
      obtain rfl | rfl | rfl := (by omega : v = 0 ∨ v = 1 ∨ v = 2)
      · exact pos_c (by simp only [Nat.reduceAdd, Nat.zero_add, TR, T2, twiceP, x0, x1, x2, x3, x4, y0, y3]; omega)
      · exact pos_c (by simp only [Nat.reduceAdd, Nat.zero_add, TR, T2, twiceP, x0, x1, x2, x3, x4, y0, y3]; omega)
      · exfalso; simp only [Nat.reduceAdd, Nat.zero_add] at a1 a2; omega
    · intro v hv hv2 a1 a2
      obtain rfl := (by omega : v = 3)
      · exfalso; simp only [Nat.reduceAdd, Nat.zero_add] at a1 a2; omega
    · intro a1
      exact neg_c (by simp only [Nat.reduceSub, TR, T2, twiceP, x0, x1, x2, x3, x4, y0, y3]; omega)
    · show locT (TR X H 4 0 1) (TR X H 0 2 1) (TR X H 0 4 2) (TR X H 0 2 4) (TR X H 0 1 2) = true
      exact loc_t (by simp only [TR, T2, twiceP, x0, x1, x2, x3, x4, y0, y3]; omega)
    · show locT (TR X H 1 2 3) (TR X H 2 0 3) (TR X H 2 1 0) (TR X H 2 0 1) (TR X H 2 3 0) = true
      exact loc_t (by simp only [TR, T2, twiceP, x0, x1, x2, x3, x4, y0, y3]; omega)
    · refine fun _ => .inl ⟨by omega, fun v hv n1 n2 a1 a2 => ?_⟩
      obtain rfl | rfl | rfl | rfl | rfl := (by omega : v = 0 ∨ v = 1 ∨ v = 2 ∨ v = 3 ∨ v = 4)
      · exact absurd rfl n1
      · exact .inl ⟨by omega, by simp only [TR, T2, twiceP, x0, x1, x2, x3, x4, y0, y3]; omega⟩
      · exact absurd rfl n2
      · exfalso; omega
      · exfalso; omega
  · simp only [TR, T2, twiceP, x0, x1, x2, x3, x4, y0, y3] at z1 hc
    refine ⟨false, false, ?_, ⟨?_, ?_⟩, ?_, ?_, ?_⟩
    · intro v hv a1 a2
      obtain rfl | rfl | rfl := (by omega : v = 0 ∨ v = 1 ∨ v = 2)
      · exact neg_c (by simp only [Nat.reduceAdd, Nat.zero_add, TR, T2, twiceP, x0, x1, x2, x3, x4, y0, y3]; omega)
      · exact neg_c (by simp only [Nat.reduceAdd, Nat.zero_add, TR, T2, twiceP, x0, x1, x2, x3, x4, y0, y3]; omega)
      · exfalso; simp only [Nat.reduceAdd, Nat.zero_add] at a1 a2; omega
    · intro v hv hv2 a1 a2
      obtain rfl := (by omega : v = 3)
      · exfalso; simp only [Nat.reduceAdd, Nat.zero_add] at a1 a2; omega
    · intro a1
      exact neg_c (by simp only [Nat.reduceSub, TR, T2, twiceP, x0, x1, x2, x3, x4, y0, y3]; omega)
    · show locT (TR X H 4 0 1) (TR X H 0 2 1) (TR X H 0 4 2) (TR X H 0 2 4) (TR X H 0 1 2) = false
      exact loc_f (by simp only [TR, T2, twiceP, x0, x1, x2, x3, x4, y0, y3]; omega)
    · show locT (TR X H 1 2 3) (TR X H 2 0 3) (TR X H 2 1 0) (TR X H 2 0 1) (TR X H 2 3 0) = false
      exact loc_f (by simp only [TR, T2, twiceP, x0, x1, x2, x3, x4, y0, y3]; omega)
    · exact fun h => absurd h (by decide)
theorem w10_0_3 {X H : Nat → Int} (S : Sh10 X H) (W : WayR 5 X H 0 3) : Res 5 3 X H 0 3 := by
  obtain ⟨x0, x1, x2, x3, x4, y0, y1, y2, y3, y4⟩ := S
  have f1 : (0 < TR X H 0 3 1 ∧ 0 < TR X H 0 3 2) ∨ (TR X H 0 3 1 < 0 ∧ TR X H 0 3 2 < 0) := by
    have h0 : interP (X 0) (H 0) (X 3) (H 3) (X 1) (H 1) (X 2) (H 2) = false := W.fr 1 (by decide) (by decide) (by decide) (by decide) (by decide)
    have h := ns00 h0 (by omega) (by omega) (by omega) (by omega)
    rw [dl_1 (by omega), dr_1 (by omega)] at h
    exact h
  have z2 : TR X H 3 4 0 ≠ 0 := W.s2 rfl
  clear W
  simp only [TR, T2, twiceP, x0, x1, x2, x3, x4, y0, y3] at f1 z2
  replace f1 := f1.resolve_left (by omega)
  refine ⟨true, false, ?_, ⟨?_, ?_⟩, ?_, ?_, ?_⟩
  · intro v hv a1 a2
    obtain rfl | rfl | rfl := (by omega : v = 0 ∨ v = 1 ∨ v = 2)
    · exfalso; simp only [Nat.reduceAdd, Nat.zero_add] at a1 a2; omega
    · exact pos_c (by simp only [Nat.reduceAdd, Nat.zero_add, TR, T2, twiceP, x0, x1, x2, x3, x4, y0, y3]; omega)
    · exact pos_c (by simp only [Nat.reduceAdd, Nat.zero_add, TR, T2, twiceP, x0, x1, x2, x3, x4, y0, y3]; omega)
  · intro v hv hv2 a1 a2
    obtain rfl := (by omega : v = 3)
    · exfalso; simp only [Nat.reduceAdd, Nat.zero_add] at a1 a2; omega
  · intro a1
    exact neg_c (by simp only [Nat.reduceSub, TR, T2, twiceP, x0, x1, x2, x3, x4, y0, y3]; omega)
  · show locT (TR X H 4 0 1) (TR X H 0 3 1) (TR X H 0 4 3) (TR X H 0 3 4) (TR X H 0 1 3) = true
    exact loc_t (by simp only [TR, T2, twiceP, x0, x1, x2, x3, x4, y0, y3]; omega)
  · show locT (TR X H 2 3 4) (TR X H 3 0 4) (TR X H 3 2 0) (TR X H 3 0 2) (TR X H 3 4 0) = true
    exact loc_t (by simp only [TR, T2, twiceP, x0, x1, x2, x3, x4, y0, y3]; omega)
  · refine fun _ => .inl ⟨by omega, fun v hv n1 n2 a1 a2 => ?_⟩
    obtain rfl | rfl | rfl | rfl | rfl := (by omega : v = 0 ∨ v = 1 ∨ v = 2 ∨ v = 3 ∨ v = 4)
    · exact absurd rfl n1
    · exact .inl ⟨by omega, by simp only [TR, T2, twiceP, x0, x1, x2, x3, x4, y0, y3]; omega⟩
    · exact .inl ⟨by omega, by simp only [TR, T2, twiceP, x0, x1, x2, x3, x4, y0, y3]; omega⟩
    · exact absurd rfl n2
    · exact .inr ⟨by omega, by simp only [TR, T2, twiceP, x0, x1, x2, x3, x4, y0, y3]; omega⟩
theorem w10_1_3 {X H : Nat → Int} (S : Sh10 X H) (W : WayR 5 X H 1 3) : Res 5 3 X H 1 3 := by
  obtain ⟨x0, x1, x2, x3, x4, y0, y1, y2, y3, y4⟩ := S
  have f4 : (0 < -(TR X H 0 4 1) ∧ 0 < TR X H 1 3 4) ∨ (-(TR X H 0 4 1) < 0 ∧ TR X H 1 3 4 < 0) := by
    have h0 : interP (X 1) (H 1) (X 3) (H 3) (X 4) (H 4) (X 0) (H 0) = false := W.fr 4 (by decide) (by decide) (by decide) (by decide) (by decide)
    have h := ns01 h0 (by omega) (by omega) (by omega) (by omega)
    rw [dl_2 (by omega), dr_1 (by omega)] at h
    exact h
  have z1 : TR X H 1 2 3 ≠ 0 := W.s1 rfl
  clear W
  by_cases hc : TR X H 1 3 2 < 0
  · simp only [TR, T2, twiceP, x0, x1, x2, x3, x4, y0, y3] at f4 z1 hc
    replace f4 := f4.resolve_right (by omega)
    refine ⟨true, false, ?_, ⟨?_, ?_⟩, ?_, ?_, ?_⟩
    · intro v hv a1 a2
      obtain rfl | rfl | rfl := (by omega : v = 0 ∨ v = 1 ∨ v = 2)
      · exfalso; simp only [Nat.reduceAdd, Nat.zero_add] at a1 a2; omega
      · exfalso; simp only [Nat.reduceAdd, Nat.zero_add] at a1 a2; omega
      · exact pos_c (by simp only [Nat.reduceAdd, Nat.zero_add, TR, T2, twiceP, x0, x1, x2, x3, x4, y0, y3]; omega)
    · intro v hv hv2 a1 a2
      obtain rfl := (by omega : v = 3)
      · exfalso; simp only [Nat.reduceAdd, Nat.zero_add] at a1 a2; omega
    · intro a1
      exact neg_c (by simp only [Nat.reduceSub, TR, T2, twiceP, x0, x1, x2, x3, x4, y0, y3]; omega)
    · show locT (TR X H 0 1 2) (TR X H 1 3 2) (TR X H 1 0 3) (TR X H 1 3 0) (TR X H 1 2 3) = true
      exact loc_t (by simp only [TR, T2, twiceP, x0, x1, x2, x3, x4, y0, y3]; omega)
    · show locT (TR X H 2 3 4) (TR X H 3 1 4) (TR X H 3 2 1) (TR X H 3 1 2) (TR X H 3 4 1) = true
      exact loc_t (by simp only [TR, T2, twiceP, x0, x1, x2, x3, x4, y0, y3]; omega)
    · refine fun _ => .inl ⟨by omega, fun v hv n1 n2 a1 a2 => ?_⟩
      obtain rfl | rfl | rfl | rfl | rfl := (by omega : v = 0 ∨ v = 1 ∨ v = 2 ∨ v = 3 ∨ v = 4)
      · exfalso; omega
      · exact absurd rfl n1
      · exact .inl ⟨by omega, by simp only [TR, T2, twiceP, x0, x1, x2, x3, x4, y0, y3]; omega⟩
      · exact absurd rfl n2
      · exact .inr ⟨by omega, by simp only [TR, T2, twiceP, x0, x1, x2, x3, x4, y0, y3]; omega⟩
  · simp only [TR, T2, twiceP, x0, x1, x2, x3, x4, y0, y3] at f4 z1 hc
    replace f4 := f4.resolve_right (by omega)
    refine ⟨false, false, ?_, ⟨?_, ?_⟩, ?_, ?_, ?_⟩
    · intro v hv a1 a2
      obtain rfl | rfl | rfl := (by omega : v = 0 ∨ v = 1 ∨ v = 2)
      · exfalso; simp only [Nat.reduceAdd, Nat.zero_add] at a1 a2; omega
      · exfalso; simp only [Nat.reduceAdd, Nat.zero_add] at a1 a2; omega
      · exact neg_c (by simp only [Nat.reduceAdd, Nat.zero_add, TR, T2, twiceP, x0, x1, x2, x3, x4, y0, y3]; omega)
    · intro v hv hv2 a1 a2
      obtain rfl := (by omega : v = 3)
      · exfalso; simp only [Nat.reduceAdd, Nat.zero_add] at a1 a2; omega
    · intro a1
      exact neg_c (by simp only [Nat.reduceSub, TR, T2, twiceP, x0, x1, x2, x3, x4, y0, y3]; omega)
    · show locT (TR X H 0 1 2) (TR X H 1 3 2) (TR X H 1 0 3) (TR X H 1 3 0) (TR X H 1 2 3) = false
      exact loc_f (by simp only [TR, T2, twiceP, x0, x1, x2, x3, x4, y0, y3]; omega)
    · show locT (TR X H 2 3 4) (TR X H 3 1 4) (TR X H 3 2 1) (TR X H 3 1 2) (TR X H 3 4 1) = false
      exact loc_f (by simp only [TR, T2, twiceP, x0, x1, x2, x3, x4, y0, y3]; omega)
    · exact fun h => absurd h (by decide)
theorem w10_1_4 {X H : Nat → Int} (S : Sh10 X H) (W : WayR 5 X H 1 4) : Res 5 3 X H 1 4 := by
  obtain ⟨x0, x1, x2, x3, x4, y0, y1, y2, y3, y4⟩ := S
  have f2 : (0 < TR X H 1 4 2 ∧ 0 < -(TR X H 2 3 4)) ∨ (TR X H 1 4 2 < 0 ∧ -(TR X H 2 3 4) < 0) := by
    have h0 : interP (X 1) (H 1) (X 4) (H 4) (X 2) (H 2) (X 3) (H 3) = false := W.fr 2 (by decide) (by decide) (by decide) (by decide) (by decide)
    have h := ns00 h0 (by omega) (by omega) (by omega) (by omega)
    rw [dl_1 (by omega), dr_2 (by omega)] at h
    exact h
  have z2 : TR X H 4 0 1 ≠ 0 := W.s2 rfl
  clear W
  simp only [TR, T2, twiceP, x0, x1, x2, x3, x4, y0, y3] at f2 z2
  replace f2 := f2.resolve_left (by omega)
  refine ⟨true, false, ?_, ⟨?_, ?_⟩, ?_, ?_, ?_⟩
  · intro v hv a1 a2
    obtain rfl | rfl | rfl := (by omega : v = 0 ∨ v = 1 ∨ v = 2)
    · exfalso; simp only [Nat.reduceAdd, Nat.zero_add] at a1 a2; omega
    · exact pos_c (by simp only [Nat.reduceAdd, Nat.zero_add, TR, T2, twiceP, x0, x1, x2, x3, x4, y0, y3]; omega)
    · exact pos_c (by simp only [Nat.reduceAdd, Nat.zero_add, TR, T2, twiceP, x0, x1, x2, x3, x4, y0, y3]; omega)
  · intro v hv hv2 a1 a2
    obtain rfl := (by omega : v = 3)
    · exfalso; simp only [Nat.reduceAdd, Nat.zero_add] at a1 a2; omega
  · intro a1
    exact neg_c (by simp only [Nat.reduceSub, TR, T2, twiceP, x0, x1, x2, x3, x4, y0, y3]; omega)
  · show locT (TR X H 0 1 2) (TR X H 1 4 2) (TR X H 1 0 4) (TR X H 1 4 0) (TR X H 1 2 4) = true
    exact loc_t (by simp only [TR, T2, twiceP, x0, x1, x2, x3, x4, y0, y3]; omega)
  · show locT (TR X H 3 4 0) (TR X H 4 1 0) (TR X H 4 3 1) (TR X H 4 1 3) (TR X H 4 0 1) = true
    exact loc_t (by simp only [TR, T2, twiceP, x0, x1, x2, x3, x4, y0, y3]; omega)
  · refine fun _ => .inl ⟨by omega, fun v hv n1 n2 a1 a2 => ?_⟩
    obtain rfl | rfl | rfl | rfl | rfl := (by omega : v = 0 ∨ v = 1 ∨ v = 2 ∨ v = 3 ∨ v = 4)
    · exfalso; omega
    · exact absurd rfl n1
    · exact .inl ⟨by omega, by simp only [TR, T2, twiceP, x0, x1, x2, x3, x4, y0, y3]; omega⟩
    · exfalso; omega
    · exact absurd rfl n2
theorem w10_2_4 {X H : Nat → Int} (S : Sh10 X H) (W : WayR 5 X H 2 4) : Res 5 3 X H 2 4 := by
  obtain ⟨x0, x1, x2, x3, x4, y0, y1, y2, y3, y4⟩ := S
  have z1 : TR X H 2 3 4 ≠ 0 := W.s1 rfl
  clear W
  simp only [TR, T2, twiceP, x0, x1, x2, x3, x4, y0, y3] at z1
  refine ⟨true, false, ?_, ⟨?_, ?_⟩, ?_, ?_, ?_⟩
  · intro v hv a1 a2
    obtain rfl | rfl | rfl := (by omega : v = 0 ∨ v = 1 ∨ v = 2)
    · exfalso; simp only [Nat.reduceAdd, Nat.zero_add] at a1 a2; omega
    · exfalso; simp only [Nat.reduceAdd, Nat.zero_add] at a1 a2; omega
    · exact pos_c (by simp only [Nat.reduceAdd, Nat.zero_add, TR, T2, twiceP, x0, x1, x2, x3, x4, y0, y3]; omega)
  · intro v hv hv2 a1 a2
    obtain rfl := (by omega : v = 3)
    · exfalso; simp only [Nat.reduceAdd, Nat.zero_add] at a1 a2; omega
  · intro a1
    exact neg_c (by simp only [Nat.reduceSub, TR, T2, twiceP, x0, x1, x2, x3, x4, y0, y3]; omega)
  · show locT (TR X H 1 2 3) (TR X H 2 4 3) (TR X H 2 1 4) (TR X H 2 4 1) (TR X H 2 3 4) = true
    exact loc_t (by simp only [TR, T2, twiceP, x0, x1, x2, x3, x4, y0, y3]; omega)
  · show locT (TR X H 3 4 0) (TR X H 4 2 0) (TR X H 4 3 2) (TR X H 4 2 3) (TR X H 4 0 2) = true
    exact loc_t (by simp only [TR, T2, twiceP, x0, x1, x2, x3, x4, y0, y3]; omega)
  · refine fun _ => .inl ⟨by omega, fun v hv n1 n2 a1 a2 => ?_⟩
    obtain rfl | rfl | rfl | rfl | rfl := (by omega : v = 0 ∨ v = 1 ∨ v = 2 ∨ v = 3 ∨ v = 4)
    · exfalso; omega
    · exfalso; omega
    · exact absurd rfl n1
    · exfalso; omega
    · exact absurd rfl n2
theorem shape10 {X H : Nat → Int} (S : Sh10 X H) {i j : Nat} (W : WayR 5 X H i j) : Res 5 3 X H i j := by
  have hap := W.ap
  unfold Apart at hap
  obtain rfl | rfl | rfl : i = 0 ∨ i = 1 ∨ i = 2 := by omega
  · obtain rfl | rfl : j = 2 ∨ j = 3 := by omega
    · exact w10_0_2 S W
    · exact w10_0_3 S W
  · obtain rfl | rfl : j = 3 ∨ j = 4 := by omega
    · exact w10_1_3 S W
    · exact w10_1_4 S W
  · obtain rfl : j = 4 := by omega
    · exact w10_2_4 S W

def Sh11 (X H : Nat → Int) : Prop := X 0 = 0 ∧ X 1 = 1 ∧ X 2 = 3 ∧ X 3 = 4 ∧ X 4 = 2 ∧ H 0 = 0 ∧ H 1 < 0 ∧ H 2 < 0 ∧ H 3 = 0 ∧ 0 < H 4
theorem ring11 {X H : Nat → Int} (S : Sh11 X H) : Ring 5 3 X H := by
  obtain ⟨x0, x1, x2, x3, x4, y0, y1, y2, y3, y4⟩ := S
  refine ⟨by omega, by omega, x0, ?_, ?_, ?_, y0, y3, ?_, ?_⟩
  · intro v hv
    obtain rfl | rfl | rfl := (by omega : v = 0 ∨ v = 1 ∨ v = 2) <;> (simp only [Nat.reduceAdd, Nat.zero_add]; omega)
  · intro v hv hv2
    obtain rfl := (by omega : v = 3)
    (simp only [Nat.reduceAdd, Nat.zero_add]; omega)
  · simp only [Nat.reduceSub]; omega
  · intro v hv hv2
    obtain rfl | rfl := (by omega : v = 1 ∨ v = 2) <;> assumption
  · intro v hv hv2
    obtain rfl := (by omega : v = 4)
    assumption
theorem w11_0_2 {X H : Nat → Int} (S : Sh11 X H) (W : WayR 5 X H 0 2) : Res 5 3 X H 0 2 := by
  obtain ⟨x0, x1, x2, x3, x4, y0, y1, y2, y3, y4⟩ := S
  have f3 : (0 < TR X H 0 2 4 ∧ 0 < -(TR X H 4 3 2)) ∨ (TR X H 0 2 4 < 0 ∧ -(TR X H 4 3 2) < 0) := by
    have h0 : interP (X 0) (H 0) (X 2) (H 2) (X 3) (H 3) (X 4) (H 4) = false := W.fr 3 (by decide) (by decide) (by decide) (by decide) (by decide)
    have h := ns01 h0 (by omega) (by omega) (by omega) (by omega)
    rw [dl_1 (by omega), dr_2 (by omega)] at h
    exact h
  have z1 : TR X H 0 1 2 ≠ 0 := W.s1 rfl
  clear W
  by_cases hc : TR X H 0 2 1 < 0
  · simp only [TR, T2, twiceP, x0, x1, x2, x3, x4, y0, y3] at f3 z1 hc
    replace f3 := f3.resolve_right (by omega)
    refine ⟨true, false, ?_, ⟨?_, ?_⟩, ?_, ?_, ?_⟩
    · intro v hv a1 a2
      obtain rfl | rfl | rfl := (by omega : v = 0 ∨ v = 1 ∨ v = 2)
      · exfalso; simp only [Nat.reduceAdd, Nat.zero_add] at a1 a2; omega
      · exact pos_c (by simp only [Nat.reduceAdd, Nat.zero_add, TR, T2, twiceP, x0, x1, x2, x3, x4, y0, y3]; omega)
      · exfalso; simp only [Nat.reduceAdd, Nat.zero_add] at a1 a2; omega
    · intro v hv hv2 a1 a2
      obtain rfl := (by omega : v = 3)
      · exfalso; simp only [Nat.reduceAdd, Nat.zero_add] at a1 a2; omega
    · intro a1
      exact neg_c (by simp only [Nat.reduceSub, TR, T2, twiceP, x0, x1, x2, x3, x4, y0, y3]; omega)
    · show locT (TR X H 4 0 1) (TR X H 0 2 1) (TR X H 0 4 2) (TR X H 0 2 4) (TR X H 0 1 2) = true
      exact loc_t (by simp only [TR, T2, twiceP, x0, x1, x2, x3, x4, y0, y3]; omega)
    · show locT (TR X H 1 2 3) (TR X H 2 0 3) (TR X H 2 1 0) (TR X H 2 0 1) (TR X H 2 3 0) = true
      exact loc_t (by simp only [TR, T2, twiceP, x0, x1, x2, x3, x4, y0, y3]; omega)
    · refine fun _ => .inl ⟨by omega, fun v hv n1 n2 a1 a2 => ?_⟩
      obtain rfl | rfl | rfl | rfl | rfl := (by omega : v = 0 ∨ v = 1 ∨ v = 2 ∨ v = 3 ∨ v = 4)
      · exact absurd rfl n1
      · exact .inl ⟨by omega, by simp only [TR, T2, twiceP, x0, x1, x2, x3, x4, y0, y3]; omega⟩
      · exact absurd rfl n2
      · exfalso; omega
      · exact .inr ⟨by omega, by simp only [TR, T2, twiceP, x0, x1, x2, x3, x4, y0, y3]; omega⟩
  · simp only [TR, T2, twiceP, x0, x1, x2, x3, x4, y0, y3] at f3 z1 hc
    replace f3 := f3.resolve_right (by omega)
    refine ⟨false, false, ?_, ⟨?_, ?_⟩, ?_, ?_, ?_⟩
    · intro v hv a1 a2
      obtain rfl | rfl | rfl := (by omega : v = 0 ∨ v = 1 ∨ v = 2)
      · exfalso; simp only [Nat.reduceAdd, Nat.zero_add] at a1 a2; omega
      · exact neg_c (by simp only [Nat.reduceAdd, Nat.zero_add, TR, T2, twiceP, x0, x1, x2, x3, x4, y0, y3]; omega)
      · exfalso; simp only [Nat.reduceAdd, Nat.zero_add] at a1 a2; omega
    · intro v hv hv2 a1 a2
      obtain rfl := (by omega : v = 3)
      · exfalso; simp only [Nat.reduceAdd, Nat.zero_add] at a1 a2; omega
    · intro a1
      exact neg_c (by simp only [Nat.reduceSub, TR, T2, twiceP, x0, x1, x2, x3, x4, y0, y3]; omega)
    · show locT (TR X H 4 0 1) (TR X H 0 2 1) (TR X H 0 4 2) (TR X H 0 2 4) (TR X H 0 1 2) = false
      exact loc_f (by simp only [TR, T2, twiceP, x0, x1, x2, x3, x4, y0, y3]; omega)
    · show locT (TR X H 1 2 3) (TR X H 2 0 3) (TR X H 2 1 0) (TR X H 2 0 1) (TR X H 2 3 0) = false
      exact loc_f (by simp only [TR, T2, twiceP, x0, x1, x2, x3, x4, y0, y3]; omega)
    · exact fun h => absurd h (by decide)
theorem w11_0_3 {X H : Nat → Int} (S : Sh11 X H) (W : WayR 5 X H 0 3) : Res 5 3 X H 0 3 := by
  obtain ⟨x0, x1, x2, x3, x4, y0, y1, y2, y3, y4⟩ := S
  have f1 : (0 < TR X H 0 3 1 ∧ 0 < TR X H 0 3 2) ∨ (TR X H 0 3 1 < 0 ∧ TR X H 0 3 2 < 0) := by
    have h0 : interP (X 0) (H 0) (X 3) (H 3) (X 1) (H 1) (X 2) (H 2) = false := W.fr 1 (by decide) (by decide) (by decide) (by decide) (by decide)
    have h := ns00 h0 (by omega) (by omega) (by omega) (by omega)
    rw [dl_1 (by omega), dr_1 (by omega)] at h
    exact h
  have z2 : TR X H 3 4 0 ≠ 0 := W.s2 rfl
  clear W
  simp only [TR, T2, twiceP, x0, x1, x2, x3, x4, y0, y3] at f1 z2
  replace f1 := f1.resolve_left (by omega)
  refine ⟨true, false, ?_, ⟨?_, ?_⟩, ?_, ?_, ?_⟩
  · intro v hv a1 a2
    obtain rfl | rfl | rfl := (by omega : v = 0 ∨ v = 1 ∨ v = 2)
    · exfalso; simp only [Nat.reduceAdd, Nat.zero_add] at a1 a2; omega
    · exact pos_c (by simp only [Nat.reduceAdd, Nat.zero_add, TR, T2, twiceP, x0, x1, x2, x3, x4, y0, y3]; omega)
    · exfalso; simp only [Nat.reduceAdd, Nat.zero_add] at a1 a2; omega
  · intro v hv hv2 a1 a2
    obtain rfl := (by omega : v = 3)
    · exact neg_c (by simp only [Nat.reduceAdd, Nat.zero_add, TR, T2, twiceP, x0, x1, x2, x3, x4, y0, y3]; omega)
  · intro a1
    exact neg_c (by simp only [Nat.reduceSub, TR, T2, twiceP, x0, x1, x2, x3, x4, y0, y3]; omega)
  · show locT (TR X H 4 0 1) (TR X H 0 3 1) (TR X H 0 4 3) (TR X H 0 3 4) (TR X H 0 1 3) = true
    exact loc_t (by simp only [TR, T2, twiceP, x0, x1, x2, x3, x4, y0, y3]; omega)
  · show locT (TR X H 2 3 4) (TR X H 3 0 4) (TR X H 3 2 0) (TR X H 3 0 2) (TR X H 3 4 0) = true
    exact loc_t (by simp only [TR, T2, twiceP, x0, x1, x2, x3, x4, y0, y3]; omega)
  · refine fun _ => .inl ⟨by omega, fun v hv n1 n2 a1 a2 => ?_⟩
    obtain rfl | rfl | rfl | rfl | rfl := (by omega : v = 0 ∨ v = 1 ∨ v = 2 ∨ v = 3 ∨ v = 4)
    · exact absurd rfl n1
    · exact .inl ⟨by omega, by simp only [TR, T2, twiceP, x0, x1, x2, x3, x4, y0, y3]; omega⟩
    · exact .inl ⟨by omega, by simp only [TR, T2, twiceP, x0, x1, x2, x3, x4, y0, y3]; omega⟩
    · exact absurd rfl n2
    · exact .inr ⟨by omega, by simp only [TR, T2, twiceP, x0, x1, x2, x3, x4, y0, y3]; omega⟩
theorem w11_1_3 {X H : Nat → Int} (S : Sh11 X H) (W : WayR 5 X H 1 3) : Res 5 3 X H 1 3 := by
  obtain ⟨x0, x1, x2, x3, x4, y0, y1, y2, y3, y4⟩ := S
  have f4 : (0 < -(TR X H 0 4 1) ∧ 0 < TR X H 1 3 4) ∨ (-(TR X H 0 4 1) < 0 ∧ TR X H 1 3 4 < 0) := by
    have h0 : interP (X 1) (H 1) (X 3) (H 3) (X 4) (H 4) (X 0) (H 0) = false := W.fr 4 (by decide) (by decide) (by decide) (by decide) (by decide)
    have h := ns01 h0 (by omega) (by omega) (by omega) (by omega)
    rw [dl_2 (by omega), dr_1 (by omega)] at h
    exact h
  have z1 : TR X H 1 2 3 ≠ 0 := W.s1 rfl
  clear W
  by_cases hc : TR X H 1 3 2 < 0
  · simp only [TR, T2, twiceP, x0, x1, x2, x3, x4, y0, y3] at f4 z1 hc
    replace f4 := f4.resolve_right (by omega)
    refine ⟨true, false, ?_, ⟨?_, ?_⟩, ?_, ?_, ?_⟩
    · intro v hv a1 a2
      obtain rfl | rfl | rfl := (by omega : v = 0 ∨ v = 1 ∨ v = 2)
      · exfalso; simp only [Nat.reduceAdd, Nat.zero_add] at a1 a2; omega
      · exact pos_c (by simp only [Nat.reduceAdd, Nat.zero_add, TR, T2, twiceP, x0, x1, x2, x3, x4, y0, y3]; omega)
      · exfalso; simp only [Nat.reduceAdd, Nat.zero_add] at a1 a2; omega
    · intro v hv hv2 a1 a2
      obtain rfl := (by omega : v = 3)
      · exact neg_c (by simp only [Nat.reduceAdd, Nat.zero_add, TR, T2, twiceP, x0, x1, x2, x3, x4, y0, y3]; omega)
    · intro a1
      exfalso; simp only [Nat.reduceSub] at a1; omega
    · show locT (TR X H 0 1 2) (TR X H 1 3 2) (TR X H 1 0 3) (TR X H 1 3 0) (TR X H 1 2 3) = true
      exact loc_t (by simp only [TR, T2, twiceP, x0, x1, x2, x3, x4, y0, y3]; omega)
    · show locT (TR X H 2 3 4) (TR X H 3 1 4) (TR X H 3 2 1) (TR X H 3 1 2) (TR X H 3 4 1) = true
      exact loc_t (by simp only [TR, T2, twiceP, x0, x1, x2, x3, x4, y0, y3]; omega)
    · refine fun _ => .inl ⟨by omega, fun v hv n1 n2 a1 a2 => ?_⟩
      obtain rfl | rfl | rfl | rfl | rfl := (by omega : v = 0 ∨ v = 1 ∨ v = 2 ∨ v = 3 ∨ v = 4)
      · exfalso; omega
      · exact absurd rfl n1
      · exact .inl ⟨by omega, by simp only [TR, T2, twiceP, x0, x1, x2, x3, x4, y0, y3]; omega⟩
      · exact absurd rfl n2
      · exact .inr ⟨by omega, by simp only [TR, T2, twiceP, x0, x1, x2, x3, x4, y0, y3]; omega⟩
  · simp only [TR, T2, twiceP, x0, x1, x2, x3, x4, y0, y3] at f4 z1 hc
    replace f4 := f4.resolve_right (by omega)
    refine ⟨false, false, ?_, ⟨?_, ?_⟩, ?_, ?_, ?_⟩
    · intro v hv a1 a2
      obtain rfl | rfl | rfl := (by omega : v = 0 ∨ v = 1 ∨ v = 2)
      · exfalso; simp only [Nat.reduceAdd, Nat.zero_add] at a1 a2; omega
      · exact neg_c (by simp only [Nat.reduceAdd, Nat.zero_add, TR, T2, twiceP, x0, x1, x2, x3, x4, y0, y3]; omega)
      · exfalso; simp only [Nat.reduceAdd, Nat.zero_add] at a1 a2; omega
    · intro v hv hv2 a1 a2
      obtain rfl := (by omega : v = 3)
      · exact neg_c (by simp only [Nat.reduceAdd, Nat.zero_add, TR, T2, twiceP, x0, x1, x2, x3, x4, y0, y3]; omega)
    · intro a1
      exfalso; simp only [Nat.reduceSub] at a1; omega
    · show locT (TR X H 0 1 2) (TR X H 1 3 2) (TR X H 1 0 3) (TR X H 1 3 0) (TR X H 1 2 3) = false
      exact loc_f (by simp only [TR, T2, twiceP, x0, x1, x2, x3, x4, y0, y3]; omega)
    · show locT (TR X H 2 3 4) (TR X H 3 1 4) (TR X H 3 2 1) (TR X H 3 1 2) (TR X H 3 4 1) = false
      exact loc_f (by simp only [TR, T2, twiceP, x0, x1, x2, x3, x4, y0, y3]; omega)
    · exact fun h => absurd h (by decide)
theorem w11_1_4 {X H : Nat → Int} (S : Sh11 X H) (W : WayR 5 X H 1 4) : Res 5 3 X H 1 4 := by
  obtain ⟨x0, x1, x2, x3, x4, y0, y1, y2, y3, y4⟩ := S
  have z2 : TR X H 4 0 1 ≠ 0 := W.s2 rfl
  clear W
  simp only [TR, T2, twiceP, x0, x1, x2, x3, x4, y0, y3] at z2
  refine ⟨true, false, ?_, ⟨?_, ?_⟩, ?_, ?_, ?_⟩
  · intro v hv a1 a2
    obtain rfl | rfl | rfl := (by omega : v = 0 ∨ v = 1 ∨ v = 2)
    · exfalso; simp only [Nat.reduceAdd, Nat.zero_add] at a1 a2; omega
    · exact pos_c (by simp only [Nat.reduceAdd, Nat.zero_add, TR, T2, twiceP, x0, x1, x2, x3, x4, y0, y3]; omega)
    · exfalso; simp only [Nat.reduceAdd, Nat.zero_add] at a1 a2; omega
  · intro v hv hv2 a1 a2
    obtain rfl := (by omega : v = 3)
    · exfalso; simp only [Nat.reduceAdd, Nat.zero_add] at a1 a2; omega
  · intro a1
    exact neg_c (by simp only [Nat.reduceSub, TR, T2, twiceP, x0, x1, x2, x3, x4, y0, y3]; omega)
  · show locT (TR X H 0 1 2) (TR X H 1 4 2) (TR X H 1 0 4) (TR X H 1 4 0) (TR X H 1 2 4) = true
    exact loc_t (by simp only [TR, T2, twiceP, x0, x1, x2, x3, x4, y0, y3]; omega)
  · show locT (TR X H 3 4 0) (TR X H 4 1 0) (TR X H 4 3 1) (TR X H 4 1 3) (TR X H 4 0 1) = true
    exact loc_t (by simp only [TR, T2, twiceP, x0, x1, x2, x3, x4, y0, y3]; omega)
  · refine fun _ => .inl ⟨by omega, fun v hv n1 n2 a1 a2 => ?_⟩
    obtain rfl | rfl | rfl | rfl | rfl := (by omega : v = 0 ∨ v = 1 ∨ v = 2 ∨ v = 3 ∨ v = 4)
    · exfalso; omega
    · exact absurd rfl n1
    · exfalso; omega
    · exfalso; omega
    · exact absurd rfl n2
theorem w11_2_4 {X H : Nat → Int} (S : Sh11 X H) (W : WayR 5 X H 2 4) : Res 5 3 X H 2 4 := by
  obtain ⟨x0, x1, x2, x3, x4, y0, y1, y2, y3, y4⟩ := S
  have z1 : TR X H 2 3 4 ≠ 0 := W.s1 rfl
  clear W
  simp only [TR, T2, twiceP, x0, x1, x2, x3, x4, y0, y3] at z1
  refine ⟨true, false, ?_, ⟨?_, ?_⟩, ?_, ?_, ?_⟩
  · intro v hv a1 a2
    obtain rfl | rfl | rfl := (by omega : v = 0 ∨ v = 1 ∨ v = 2)
    · exfalso; simp only [Nat.reduceAdd, Nat.zero_add] at a1 a2; omega
    · exact pos_c (by simp only [Nat.reduceAdd, Nat.zero_add, TR, T2, twiceP, x0, x1, x2, x3, x4, y0, y3]; omega)
    · exfalso; simp only [Nat.reduceAdd, Nat.zero_add] at a1 a2; omega
  · intro v hv hv2 a1 a2
    obtain rfl := (by omega : v = 3)
    · exact neg_c (by simp only [Nat.reduceAdd, Nat.zero_add, TR, T2, twiceP, x0, x1, x2, x3, x4, y0, y3]; omega)
  · intro a1
    exfalso; simp only [Nat.reduceSub] at a1; omega
  · show locT (TR X H 1 2 3) (TR X H 2 4 3) (TR X H 2 1 4) (TR X H 2 4 1) (TR X H 2 3 4) = true
    exact loc_t (by simp only [TR, T2, twiceP, x0, x1, x2, x3, x4, y0, y3]; omega)
  · show locT (TR X H 3 4 0) (TR X H 4 2 0) (TR X H 4 3 2) (TR X H 4 2 3) (TR X H 4 0 2) = true
    exact loc_t (by simp only [TR, T2, twiceP, x0, x1, x2, x3, x4, y0, y3]; omega)
  · refine fun _ => .inr <| .inl ⟨by omega, fun v hv n1 n2 a1 a2 => ?_⟩
    obtain rfl | rfl | rfl | rfl | rfl := (by omega : v = 0 ∨ v = 1 ∨ v = 2 ∨ v = 3 ∨ v = 4)
    · exfalso; omega
    · exfalso; omega
    · exact absurd rfl n2
    · exfalso; omega
    · exact absurd rfl n1
theorem shape11 {X H : Nat → Int} (S : Sh11 X H) {i j : Nat} (W : WayR 5 X H i j) : Res 5 3 X H i j := by
  have hap := W.ap
  unfold Apart at hap
  obtain rfl | rfl | rfl : i = 0 ∨ i = 1 ∨ i = 2 := by omega
  · obtain rfl | rfl : j = 2 ∨ j = 3 := by omega
    · exact w11_0_2 S W
    · exact w11_0_3 S W
  · obtain rfl | rfl : j = 3 ∨ j = 4 := by omega
    · exact w11_1_3 S W
    · exact w11_1_4 S W
  · obtain rfl : j = 4 := by omega
    · exact w11_2_4 S W

def Sh12 (X H : Nat → Int) : Prop := X 0 = 0 ∧ X 1 = 1 ∧ X 2 = 4 ∧ X 3 = 3 ∧ X 4 = 2 ∧ H 0 = 0 ∧ H 1 < 0 ∧ H 2 = 0 ∧ 0 < H 3 ∧ 0 < H 4
theorem ring12 {X H : Nat → Int} (S : Sh12 X H) : Ring 5 2 X H := by
  obtain ⟨x0, x1, x2, x3, x4, y0, y1, y2, y3, y4⟩ := S
  refine ⟨by omega, by omega, x0, ?_, ?_, ?_, y0, y2, ?_, ?_⟩
  · intro v hv
    obtain rfl | rfl := (by omega : v = 0 ∨ v = 1) <;> (simp only [Nat.reduceAdd, Nat.zero_add]; omega)
  · intro v hv hv2
    obtain rfl | rfl := (by omega : v = 2 ∨ v = 3) <;> (simp only [Nat.reduceAdd, Nat.zero_add]; omega)
  · simp only [Nat.reduceSub]; omega
  · intro v hv hv2
    obtain rfl := (by omega : v = 1)
    assumption
  · intro v hv hv2
    obtain rfl | rfl := (by omega : v = 3 ∨ v = 4) <;> assumption
theorem w12_0_2 {X H : Nat → Int} (S : Sh12 X H) (W : WayR 5 X H 0 2) : Res 5 2 X H 0 2 := by
  obtain ⟨x0, x1, x2, x3, x4, y0, y1, y2, y3, y4⟩ := S
  have f3 : (0 < TR X H 0 2 4 ∧ 0 < TR X H 0 2 3) ∨ (TR X H 0 2 4 < 0 ∧ TR X H 0 2 3 < 0) := by
    have h0 : interP (X 0) (H 0) (X 2) (H 2) (X 3) (H 3) (X 4) (H 4) = false := W.fr 3 (by decide) (by decide) (by decide) (by decide) (by decide)
    have h := ns01 h0 (by omega) (by omega) (by omega) (by omega)
    rw [dl_1 (by omega), dr_1 (by omega)] at h
    exact h
  have z1 : TR X H 0 1 2 ≠ 0 := W.s1 rfl
  clear W
  simp only [TR, T2, twiceP, x0, x1, x2, x3, x4, y0, y2] at f3 z1
  replace f3 := f3.resolve_right (by omega)
  refine ⟨true, false, ?_, ⟨?_, ?_⟩, ?_, ?_, ?_⟩
  · intro v hv a1 a2
    obtain rfl | rfl := (by omega : v = 0 ∨ v = 1)
    · exfalso; simp only [Nat.reduceAdd, Nat.zero_add] at a1 a2; omega
    · exact pos_c (by simp only [Nat.reduceAdd, Nat.zero_add, TR, T2, twiceP, x0, x1, x2, x3, x4, y0, y2]; omega)
  · intro v hv hv2 a1 a2
    obtain rfl | rfl := (by omega : v = 2 ∨ v = 3)
    · exfalso; simp only [Nat.reduceAdd, Nat.zero_add] at a1 a2; omega
    · exact neg_c (by simp only [Nat.reduceAdd, Nat.zero_add, TR, T2, twiceP, x0, x1, x2, x3, x4, y0, y2]; omega)
  · intro a1
    exact neg_c (by simp only [Nat.reduceSub, TR, T2, twiceP, x0, x1, x2, x3, x4, y0, y2]; omega)
  · show locT (TR X H 4 0 1) (TR X H 0 2 1) (TR X H 0 4 2) (TR X H 0 2 4) (TR X H 0 1 2) = true
    exact loc_t (by simp only [TR, T2, twiceP, x0, x1, x2, x3, x4, y0, y2]; omega)
  · show locT (TR X H 1 2 3) (TR X H 2 0 3) (TR X H 2 1 0) (TR X H 2 0 1) (TR X H 2 3 0) = true
    exact loc_t (by simp only [TR, T2, twiceP, x0, x1, x2, x3, x4, y0, y2]; omega)
  · refine fun _ => .inl ⟨by omega, fun v hv n1 n2 a1 a2 => ?_⟩
    obtain rfl | rfl | rfl | rfl | rfl := (by omega : v = 0 ∨ v = 1 ∨ v = 2 ∨ v = 3 ∨ v = 4)
    · exact absurd rfl n1
    · exact .inl ⟨by omega, by simp only [TR, T2, twiceP, x0, x1, x2, x3, x4, y0, y2]; omega⟩
    · exact absurd rfl n2
    · exact .inr ⟨by omega, by simp only [TR, T2, twiceP, x0, x1, x2, x3, x4, y0, y2]; omega⟩
    · exact .inr ⟨by omega, by simp only [TR, T2, twiceP, x0, x1, x2, x3, x4, y0, y2]; omega⟩
theorem w12_0_3 {X H : Nat → Int} (S : Sh12 X H) (W : WayR 5 X H 0 3) : Res 5 2 X H 0 3 := by
  obtain ⟨x0, x1, x2, x3, x4, y0, y1, y2, y3, y4⟩ := S
  have f1 : (0 < TR X H 0 3 1 ∧ 0 < -(TR X H 1 2 3)) ∨ (TR X H 0 3 1 < 0 ∧ -(TR X H 1 2 3) < 0) := by
    have h0 : interP (X 0) (H 0) (X 3) (H 3) (X 1) (H 1) (X 2) (H 2) = false := W.fr 1 (by decide) (by decide) (by decide) (by decide) (by decide)
    have h := ns00 h0 (by omega) (by omega) (by omega) (by omega)
    rw [dl_1 (by omega), dr_2 (by omega)] at h
    exact h
  have z2 : TR X H 3 4 0 ≠ 0 := W.s2 rfl
  clear W
  by_cases hc : 0 < TR X H 0 3 4
  · simp only [TR, T2, twiceP, x0, x1, x2, x3, x4, y0, y2] at f1 z2 hc
    replace f1 := f1.resolve_left (by omega)
    refine ⟨true, false, ?_, ⟨?_, ?_⟩, ?_, ?_, ?_⟩
    · intro v hv a1 a2
      obtain rfl | rfl := (by omega : v = 0 ∨ v = 1)
      · exfalso; simp only [Nat.reduceAdd, Nat.zero_add] at a1 a2; omega
      · exact pos_c (by simp only [Nat.reduceAdd, Nat.zero_add, TR, T2, twiceP, x0, x1, x2, x3, x4, y0, y2]; omega)
    · intro v hv hv2 a1 a2
      obtain rfl | rfl := (by omega : v = 2 ∨ v = 3)
      · exfalso; simp only [Nat.reduceAdd, Nat.zero_add] at a1 a2; omega
      · exfalso; simp only [Nat.reduceAdd, Nat.zero_add] at a1 a2; omega
    · intro a1
      exact neg_c (by simp only [Nat.reduceSub, TR, T2, twiceP, x0, x1, x2, x3, x4, y0, y2]; omega)
    · show locT (TR X H 4 0 1) (TR X H 0 3 1) (TR X H 0 4 3) (TR X H 0 3 4) (TR X H 0 1 3) = true
      exact loc_t (by simp only [TR, T2, twiceP, x0, x1, x2, x3, x4, y0, y2]; omega)
    · show locT (TR X H 2 3 4) (TR X H 3 0 4) (TR X H 3 2 0) (TR X H 3 0 2) (TR X H 3 4 0) = true
      exact loc_t (by simp only [TR, T2, twiceP, x0, x1, x2, x3, x4, y0, y2]; omega)
    · refine fun _ => .inl ⟨by omega, fun v hv n1 n2 a1 a2 => ?_⟩
      obtain rfl | rfl | rfl | rfl | rfl := (by omega : v = 0 ∨ v = 1 ∨ v = 2 ∨ v = 3 ∨ v = 4)
      · exact absurd rfl n1
      · exact .inl ⟨by omega, by simp only [TR, T2, twiceP, x0, x1, x2, x3, x4, y0, y2]; omega⟩
      · exfalso; omega
      · exact absurd rfl n2
      · exact .inr ⟨by omega, by simp only [TR, T2, twiceP, x0, x1, x2, x3, x4, y0, y2]; omega⟩
  · simp only [TR, T2, twiceP, x0, x1, x2, x3, x4, y0, y2] at f1 z2 hc
    replace f1 := f1.resolve_left (by omega)
    refine ⟨true, true, ?_, ⟨?_, ?_⟩, ?_, ?_, ?_⟩
    · intro v hv a1 a2
      obtain rfl | rfl := (by omega : v = 0 ∨ v = 1)
      · exfalso; simp only [Nat.reduceAdd, Nat.zero_add] at a1 a2; omega
      · exact pos_c (by simp only [Nat.reduceAdd, Nat.zero_add, TR, T2, twiceP, x0, x1, x2, x3, x4, y0, y2]; omega)
    · intro v hv hv2 a1 a2
      obtain rfl | rfl := (by omega : v = 2 ∨ v = 3)
      · exfalso; simp only [Nat.reduceAdd, Nat.zero_add] at a1 a2; omega
      · exfalso; simp only [Nat.reduceAdd, Nat.zero_add] at a1 a2; omega
    · intro a1
      exact pos_c (by simp only [Nat.reduceSub, TR, T2, twiceP, x0, x1, x2, x3, x4, y0, y2]; omega)
    · show locT (TR X H 4 0 1) (TR X H 0 3 1) (TR X H 0 4 3) (TR X H 0 3 4) (TR X H 0 1 3) = false
      exact loc_f (by simp only [TR, T2, twiceP, x0, x1, x2, x3, x4, y0, y2]; omega)
    · show locT (TR X H 2 3 4) (TR X H 3 0 4) (TR X H 3 2 0) (TR X H 3 0 2) (TR X H 3 4 0) = false
      exact loc_f (by simp only [TR, T2, twiceP, x0, x1, x2, x3, x4, y0, y2]; omega)
    · exact fun h => absurd h (by decide)
theorem w12_1_3 {X H : Nat → Int} (S : Sh12 X H) (W : WayR 5 X H 1 3) : Res 5 2 X H 1 3 := by
  obtain ⟨x0, x1, x2, x3, x4, y0, y1, y2, y3, y4⟩ := S
  have f4 : (0 < -(TR X H 0 4 1) ∧ 0 < TR X H 1 3 4) ∨ (-(TR X H 0 4 1) < 0 ∧ TR X H 1 3 4 < 0) := by
    have h0 : interP (X 1) (H 1) (X 3) (H 3) (X 4) (H 4) (X 0) (H 0) = false := W.fr 4 (by decide) (by decide) (by decide) (by decide) (by decide)
    have h := ns01 h0 (by omega) (by omega) (by omega) (by omega)
    rw [dl_2 (by omega), dr_1 (by omega)] at h
    exact h
  have z1 : TR X H 1 2 3 ≠ 0 := W.s1 rfl
  clear W
  simp only [TR, T2, twiceP, x0, x1, x2, x3, x4, y0, y2] at f4 z1
  replace f4 := f4.resolve_right (by omega)
  refine ⟨true, false, ?_, ⟨?_, ?_⟩, ?_, ?_, ?_⟩
  · intro v hv a1 a2
    obtain rfl | rfl := (by omega : v = 0 ∨ v = 1)
    · exfalso; simp only [Nat.reduceAdd, Nat.zero_add] at a1 a2; omega
    · exact pos_c (by simp only [Nat.reduceAdd, Nat.zero_add, TR, T2, twiceP, x0, x1, x2, x3, x4, y0, y2]; omega)
  · intro v hv hv2 a1 a2
    obtain rfl | rfl := (by omega : v = 2 ∨ v = 3)
    · exfalso; simp only [Nat.reduceAdd, Nat.zero_add] at a1 a2; omega
    · exact neg_c (by simp only [Nat.reduceAdd, Nat.zero_add, TR, T2, twiceP, x0, x1, x2, x3, x4, y0, y2]; omega)
  · intro a1
    exact neg_c (by simp only [Nat.reduceSub, TR, T2, twiceP, x0, x1, x2, x3, x4, y0, y2]; omega)
  · show locT (TR X H 0 1 2) (TR X H 1 3 2) (TR X H 1 0 3) (TR X H 1 3 0) (TR X H 1 2 3) = true
    exact loc_t (by simp only [TR, T2, twiceP, x0, x1, x2, x3, x4, y0, y2]; omega)
  · show locT (TR X H 2 3 4) (TR X H 3 1 4) (TR X H 3 2 1) (TR X H 3 1 2) (TR X H 3 4 1) = true
    exact loc_t (by simp only [TR, T2, twiceP, x0, x1, x2, x3, x4, y0, y2]; omega)
  · refine fun _ => .inl ⟨by omega, fun v hv n1 n2 a1 a2 => ?_⟩
    obtain rfl | rfl | rfl | rfl | rfl := (by omega : v = 0 ∨ v = 1 ∨ v = 2 ∨ v = 3 ∨ v = 4)
    · exfalso; omega
    · exact absurd rfl n1
    · exfalso; omega
    · exact absurd rfl n2
    · exact .inr ⟨by omega, by simp only [TR, T2, twiceP, x0, x1, x2, x3, x4, y0, y2]; omega⟩
theorem w12_1_4 {X H : Nat → Int} (S : Sh12 X H) (W : WayR 5 X H 1 4) : Res 5 2 X H 1 4 := by
  obtain ⟨x0, x1, x2, x3, x4, y0, y1, y2, y3, y4⟩ := S
  have z2 : TR X H 4 0 1 ≠ 0 := W.s2 rfl
  clear W
  simp only [TR, T2, twiceP, x0, x1, x2, x3, x4, y0, y2] at z2
  refine ⟨true, false, ?_, ⟨?_, ?_⟩, ?_, ?_, ?_⟩
  · intro v hv a1 a2
    obtain rfl | rfl := (by omega : v = 0 ∨ v = 1)
    · exfalso; simp only [Nat.reduceAdd, Nat.zero_add] at a1 a2; omega
    · exact pos_c (by simp only [Nat.reduceAdd, Nat.zero_add, TR, T2, twiceP, x0, x1, x2, x3, x4, y0, y2]; omega)
  · intro v hv hv2 a1 a2
    obtain rfl | rfl := (by omega : v = 2 ∨ v = 3)
    · exfalso; simp only [Nat.reduceAdd, Nat.zero_add] at a1 a2; omega
    · exfalso; simp only [Nat.reduceAdd, Nat.zero_add] at a1 a2; omega
  · intro a1
    exact neg_c (by simp only [Nat.reduceSub, TR, T2, twiceP, x0, x1, x2, x3, x4, y0, y2]; omega)
  · show locT (TR X H 0 1 2) (TR X H 1 4 2) (TR X H 1 0 4) (TR X H 1 4 0) (TR X H 1 2 4) = true
    exact loc_t (by simp only [TR, T2, twiceP, x0, x1, x2, x3, x4, y0, y2]; omega)
  · show locT (TR X H 3 4 0) (TR X H 4 1 0) (TR X H 4 3 1) (TR X H 4 1 3) (TR X H 4 0 1) = true
    exact loc_t (by simp only [TR, T2, twiceP, x0, x1, x2, x3, x4, y0, y2]; omega)
  · refine fun _ => .inl ⟨by omega, fun v hv n1 n2 a1 a2 => ?_⟩
    obtain rfl | rfl | rfl | rfl | rfl := (by omega : v = 0 ∨ v = 1 ∨ v = 2 ∨ v = 3 ∨ v = 4)
    · exfalso; omega
    · exact absurd rfl n1
    · exfalso; omega
    · exfalso; omega
    · exact absurd rfl n2
theorem w12_2_4 {X H : Nat → Int} (S : Sh12 X H) (W : WayR 5 X H 2 4) : Res 5 2 X H 2 4 := by
  obtain ⟨x0, x1, x2, x3, x4, y0, y1, y2, y3, y4⟩ := S
  have z1 : TR X H 2 3 4 ≠ 0 := W.s1 rfl
  clear W
  by_cases hc : 0 < TR X H 4 2 3
  · simp only [TR, T2, twiceP, x0, x1, x2, x3, x4, y0, y2] at z1 hc
    refine ⟨true, false, ?_, ⟨?_, ?_⟩, ?_, ?_, ?_⟩
    · intro v hv a1 a2
      obtain rfl | rfl := (by omega : v = 0 ∨ v = 1)
      · exfalso; simp only [Nat.reduceAdd, Nat.zero_add] at a1 a2; omega
      · exact pos_c (by simp only [Nat.reduceAdd, Nat.zero_add, TR, T2, twiceP, x0, x1, x2, x3, x4, y0, y2]; omega)
    · intro v hv hv2 a1 a2
      obtain rfl | rfl := (by omega : v = 2 ∨ v = 3)
      · exact neg_c (by simp only [Nat.reduceAdd, Nat.zero_add, TR, T2, twiceP, x0, x1, x2, x3, x4, y0, y2]; omega)
      · exact neg_c (by simp only [Nat.reduceAdd, Nat.zero_add, TR, T2, twiceP, x0, x1, x2, x3, x4, y0, y2]; omega)
    · intro a1
      exfalso; simp only [Nat.reduceSub] at a1; omega
    · show locT (TR X H 1 2 3) (TR X H 2 4 3) (TR X H 2 1 4) (TR X H 2 4 1) (TR X H 2 3 4) = true
      exact loc_t (by simp only [TR, T2, twiceP, x0, x1, x2, x3, x4, y0, y2]; omega)
    · show locT (TR X H 3 4 0) (TR X H 4 2 0) (TR X H 4 3 2) (TR X H 4 2 3) (TR X H 4 0 2) = true
      exact loc_t (by simp only [TR, T2, twiceP, x0, x1, x2, x3, x4, y0, y2]; omega)
    · refine fun _ => .inr <| .inl ⟨by omega, fun v hv n1 n2 a1 a2 => ?_⟩
      obtain rfl | rfl | rfl | rfl | rfl := (by omega : v = 0 ∨ v = 1 ∨ v = 2 ∨ v = 3 ∨ v = 4)
      · exfalso; omega
      · exfalso; omega
      · exact absurd rfl n2
      · exact .inr ⟨by omega, by simp only [TR, T2, twiceP, x0, x1, x2, x3, x4, y0, y2]; omega⟩
      · exact absurd rfl n1
  · simp only [TR, T2, twiceP, x0, x1, x2, x3, x4, y0, y2] at z1 hc
    refine ⟨true, true, ?_, ⟨?_, ?_⟩, ?_, ?_, ?_⟩
    · intro v hv a1 a2
      obtain rfl | rfl := (by omega : v = 0 ∨ v = 1)
      · exfalso; simp only [Nat.reduceAdd, Nat.zero_add] at a1 a2; omega
      · exact pos_c (by simp only [Nat.reduceAdd, Nat.zero_add, TR, T2, twiceP, x0, x1, x2, x3, x4, y0, y2]; omega)
    · intro v hv hv2 a1 a2
      obtain rfl | rfl := (by omega : v = 2 ∨ v = 3)
      · exact pos_c (by simp only [Nat.reduceAdd, Nat.zero_add, TR, T2, twiceP, x0, x1, x2, x3, x4, y0, y2]; omega)
      · exact pos_c (by simp only [Nat.reduceAdd, Nat.zero_add, TR, T2, twiceP, x0, x1, x2, x3, x4, y0, y2]; omega)
    · intro a1
      exfalso; simp only [Nat.reduceSub] at a1; omega
    · show locT (TR X H 1 2 3) (TR X H 2 4 3) (TR X H 2 1 4) (TR X H 2 4 1) (TR X H 2 3 4) = false
      exact loc_f (by simp only [TR, T2, twiceP, x0, x1, x2, x3, x4, y0, y2]; omega)
    · show locT (TR X H 3 4 0) (TR X H 4 2 0) (TR X H 4 3 2) (TR X H 4 2 3) (TR X H 4 0 2) = false
      exact loc_f (by simp only [TR, T2, twiceP, x0, x1, x2, x3, x4, y0, y2]; omega)
    · exact fun h => absurd h (by decide)
theorem shape12 {X H : Nat → Int} (S : Sh12 X H) {i j : Nat} (W : WayR 5 X H i j) : Res 5 2 X H i j := by
  have hap := W.ap
  unfold Apart at hap
  obtain rfl | rfl | rfl : i = 0 ∨ i = 1 ∨ i = 2 := by omega
  · obtain rfl | rfl : j = 2 ∨ j = 3 := by omega
    · exact w12_0_2 S W
    · exact w12_0_3 S W
  · obtain rfl | rfl : j = 3 ∨ j = 4 := by omega
    · exact w12_1_3 S W
    · exact w12_1_4 S W
  · obtain rfl : j = 4 := by omega
    · exact w12_2_4 S W

def Sh13 (X H : Nat → Int) : Prop := X 0 = 0 ∧ X 1 = 2 ∧ X 2 = 3 ∧ X 3 = 4 ∧ X 4 = 2 ∧ X 5 = 1 ∧ H 0 = 0 ∧ H 1 < 0 ∧ H 2 < 0 ∧ H 3 = 0 ∧ 0 < H 4 ∧ 0 < H 5
theorem ring13 {X H : Nat → Int} (S : Sh13 X H) : Ring 6 3 X H := by
  obtain ⟨x0, x1, x2, x3, x4, x5, y0, y1, y2, y3, y4, y5⟩ := S
  refine ⟨by omega, by omega, x0, ?_, ?_, ?_, y0, y3, ?_, ?_⟩
  · intro v hv
    obtain rfl | rfl | rfl := (by omega : v = 0 ∨ v = 1 ∨ v = 2) <;> (simp only [Nat.reduceAdd, Nat.zero_add]; omega)
  · intro v hv hv2
    obtain rfl | rfl := (by omega : v = 3 ∨ v = 4) <;> (simp only [Nat.reduceAdd, Nat.zero_add]; omega)
  · simp only [Nat.reduceSub]; omega
  · intro v hv hv2
    obtain rfl | rfl := (by omega : v = 1 ∨ v = 2) <;> assumption
  · intro v hv hv2
    obtain rfl | rfl := (by omega : v = 4 ∨ v = 5) <;> assumption
theorem w13_0_2 {X H : Nat → Int} (S : Sh13 X H) (W : WayR 6 X H 0 2) : Res 6 3 X H 0 2 := by
  obtain ⟨x0, x1, x2, x3, x4, x5, y0, y1, y2, y3, y4, y5⟩ := S
  have f3 : (0 < TR X H 0 2 4 ∧ 0 < -(TR X H 4 3 2)) ∨ (TR X H 0 2 4 < 0 ∧ -(TR X H 4 3 2) < 0) := by
    have h0 : interP (X 0) (H 0) (X 2) (H 2) (X 3) (H 3) (X 4) (H 4) = false := W.fr 3 (by decide) (by decide) (by decide) (by decide) (by decide)
    have h := ns01 h0 (by omega) (by omega) (by omega) (by omega)
    rw [dl_1 (by omega), dr_2 (by omega)] at h
    exact h
  have f4 : (0 < TR X H 0 2 5 ∧ 0 < TR X H 0 2 4) ∨ (TR X H 0 2 5 < 0 ∧ TR X H 0 2 4 < 0) := by
    have h0 : interP (X 0) (H 0) (X 2) (H 2) (X 4) (H 4) (X 5) (H 5) = false := W.fr 4 (by decide) (by decide) (by decide) (by decide) (by decide)
    have h := ns01 h0 (by omega) (by omega) (by omega) (by omega)
    rw [dl_1 (by omega), dr_1 (by omega)] at h
    exact h
  have z1 : TR X H 0 1 2 ≠ 0 := W.s1 rfl
  clear W
  by_cases hc : TR X H 0 2 1 < 0
  · simp only [TR, T2, twiceP, x0, x1, x2, x3, x4, x5, y0, y3] at f3 f4 z1 hc
    replace f4 := f4.resolve_right (by omega)
    replace f3 := f3.resolve_right (by omega)
    refine ⟨true, false, ?_, ⟨?_, ?_⟩, ?_, ?_, ?_⟩
    · intro v hv a1 a2
      obtain rfl | rfl | rfl := (by omega : v = 0 ∨ v = 1 ∨ v = 2)
      · exact pos_c (by simp only [Nat.reduceAdd, Nat.zero_add, TR, T2, twiceP, x0, x1, x2, x3, x4, x5, y0, y3]; omega)
      · exfalso; simp only [Nat.reduceAdd, Nat.zero_add] at a1 a2; omega
      · exfalso; simp only [Nat.reduceAdd, Nat.zero_add] at a1 a2; omega
    · intro v hv hv2 a1 a2
      obtain rfl | rfl := (by omega : v = 3 ∨ v = 4)
      · exfalso; simp only [Nat.reduceAdd, Nat.zero_add] at a1 a2; omega
      · exact neg_c (by simp only [Nat.reduceAdd, Nat.zero_add, TR, T2, twiceP, x0, x1, x2, x3, x4, x5, y0, y3]; omega)
    · intro a1
      exfalso; simp only [Nat.reduceSub] at a1; omega
    · show locT (TR X H 5 0 1) (TR X H 0 2 1) (TR X H 0 5 2) (TR X H 0 2 5) (TR X H 0 1 2) = true
      exact loc_t (by simp only [TR, T2, twiceP, x0, x1, x2, x3, x4, x5, y0, y3]; omega)
    · show locT (TR X H 1 2 3) (TR X H 2 0 3) (TR X H 2 1 0) (TR X H 2 0 1) (TR X H 2 3 0) = true
      exact loc_t (by simp only [TR, T2, twiceP, x0, x1, x2, x3, x4, x5, y0, y3]; omega)
    · refine fun _ => .inl ⟨by omega, fun v hv n1 n2 a1 a2 => ?_⟩
      obtain rfl | rfl | rfl | rfl | rfl | rfl := (by omega : v = 0 ∨ v = 1 ∨ v = 2 ∨ v = 3 ∨ v = 4 ∨ v = 5)
      · exact absurd rfl n1
      · exact .inl ⟨by omega, by simp only [TR, T2, twiceP, x0, x1, x2, x3, x4, x5, y0, y3]; omega⟩
      · exact absurd rfl n2
      · exfalso; omega
      · exact .inr ⟨by omega, by simp only [TR, T2, twiceP, x0, x1, x2, x3, x4, x5, y0, y3]; omega⟩
      · exact .inr ⟨by omega, by simp only [TR, T2, twiceP, x0, x1, x2, x3, x4, x5, y0, y3]; omega⟩
  · simp only [TR, T2, twiceP, x0, x1, x2, x3, x4, x5, y0, y3] at f3 f4 z1 hc
    replace f4 := f4.resolve_right (by omega)
    replace f3 := f3.resolve_right (by omega)
    refine ⟨false, false, ?_, ⟨?_, ?_⟩, ?_, ?_, ?_⟩
    · intro v hv a1 a2
      obtain rfl | rfl | rfl := (by omega : v = 0 ∨ v = 1 ∨ v = 2)
      · exact neg_c (by simp only [Nat.reduceAdd, Nat.zero_add, TR, T2, twiceP, x0, x1, x2, x3, x4, x5, y0, y3]; omega)
      · exfalso; simp only [Nat.reduceAdd, Nat.zero_add] at a1 a2; omega
      · exfalso; simp only [Nat.reduceAdd, Nat.zero_add] at a1 a2; omega
    · intro v hv hv2 a1 a2
      obtain rfl | rfl := (by omega : v = 3 ∨ v = 4)
      · exfalso; simp only [Nat.reduceAdd, Nat.zero_add] at a1 a2; omega
      · exact neg_c (by simp only [Nat.reduceAdd, Nat.zero_add, TR, T2, twiceP, x0, x1, x2, x3, x4, x5, y0, y3]; omega)
    · intro a1
      exfalso; simp only [Nat.reduceSub] at a1; omega
    · show locT (TR X H 5 0 1) (TR X H 0 2 1) (TR X H 0 5 2) (TR X H 0 2 5) (TR X H 0 1 2) = false
      exact loc_f (by simp only [TR, T2, twiceP, x0, x1, x2, x3, x4, x5, y0, y3]; omega)
    · show locT (TR X H 1 2 3) (TR X H 2 0 3) (TR X H 2 1 0) (TR X H 2 0 1) (TR X H 2 3 0) = false
      exact loc_f (by simp only [TR, T2, twiceP, x0, x1, x2, x3, x4, x5, y0, y3]; omega)
    · exact fun h => absurd h (by decide)
theorem w13_0_3 {X H : Nat → Int} (S : Sh13 X H) (W : WayR 6 X H 0 3) : Res 6 3 X H 0 3 := by
  obtain ⟨x0, x1, x2, x3, x4, x5, y0, y1, y2, y3, y4, y5⟩ := S
  have f1 : (0 < TR X H 0 3 1 ∧ 0 < TR X H 0 3 2) ∨ (TR X H 0 3 1 < 0 ∧ TR X H 0 3 2 < 0) := by
    have h0 : interP (X 0) (H 0) (X 3) (H 3) (X 1) (H 1) (X 2) (H 2) = false := W.fr 1 (by decide) (by decide) (by decide) (by decide) (by decide)
    have h := ns00 h0 (by omega) (by omega) (by omega) (by omega)
    rw [dl_1 (by omega), dr_1 (by omega)] at h
    exact h
  have f4 : (0 < TR X H 0 3 5 ∧ 0 < TR X H 0 3 4) ∨ (TR X H 0 3 5 < 0 ∧ TR X H 0 3 4 < 0) := by
    have h0 : interP (X 0) (H 0) (X 3) (H 3) (X 4) (H 4) (X 5) (H 5) = false := W.fr 4 (by decide) (by decide) (by decide) (by decide) (by decide)
    have h := ns01 h0 (by omega) (by omega) (by omega) (by omega)
    rw [dl_1 (by omega), dr_1 (by omega)] at h
    exact h
  clear W
  simp only [TR, T2, twiceP, x0, x1, x2, x3, x4, x5, y0, y3] at f1 f4
  replace f4 := f4.resolve_right (by omega)
  replace f1 := f1.resolve_left (by omega)
  refine ⟨true, false, ?_, ⟨?_, ?_⟩, ?_, ?_, ?_⟩
  · intro v hv a1 a2
    obtain rfl | rfl | rfl := (by omega : v = 0 ∨ v = 1 ∨ v = 2)
    · exact pos_c (by simp only [Nat.reduceAdd, Nat.zero_add, TR, T2, twiceP, x0, x1, x2, x3, x4, x5, y0, y3]; omega)
    · exact pos_c (by simp only [Nat.reduceAdd, Nat.zero_add, TR, T2, twiceP, x0, x1, x2, x3, x4, x5, y0, y3]; omega)
    · exfalso; simp only [Nat.reduceAdd, Nat.zero_add] at a1 a2; omega
  · intro v hv hv2 a1 a2
    obtain rfl | rfl := (by omega : v = 3 ∨ v = 4)
    · exact neg_c (by simp only [Nat.reduceAdd, Nat.zero_add, TR, T2, twiceP, x0, x1, x2, x3, x4, x5, y0, y3]; omega)
    · exact neg_c (by simp only [Nat.reduceAdd, Nat.zero_add, TR, T2, twiceP, x0, x1, x2, x3, x4, x5, y0, y3]; omega)
  · intro a1
    exfalso; simp only [Nat.reduceSub] at a1; omega
  · show locT (TR X H 5 0 1) (TR X H 0 3 1) (TR X H 0 5 3) (TR X H 0 3 5) (TR X H 0 1 3) = true
    exact loc_t (by simp only [TR, T2, twiceP, x0, x1, x2, x3, x4, x5, y0, y3]; omega)
  · show locT (TR X H 2 3 4) (TR X H 3 0 4) (TR X H 3 2 0) (TR X H 3 0 2) (TR X H 3 4 0) = true
    exact loc_t (by simp only [TR, T2, twiceP, x0, x1, x2, x3, x4, x5, y0, y3]; omega)
  · refine fun _ => .inl ⟨by omega, fun v hv n1 n2 a1 a2 => ?_⟩
    obtain rfl | rfl | rfl | rfl | rfl | rfl := (by omega : v = 0 ∨ v = 1 ∨ v = 2 ∨ v = 3 ∨ v = 4 ∨ v = 5)
    · exact absurd rfl n1
    · exact .inl ⟨by omega, by simp only [TR, T2, twiceP, x0, x1, x2, x3, x4, x5, y0, y3]; omega⟩
    · exact .inl ⟨by omega, by simp only [TR, T2, twiceP, x0, x1, x2, x3, x4, x5, y0, y3]; omega⟩
    · exact absurd rfl n2
    · exact .inr ⟨by omega, by simp only [TR, T2, twiceP, x0, x1, x2, x3, x4, x5, y0, y3]; omega⟩
    · exact .inr ⟨by omega, by simp only [TR, T2, twiceP, x0, x1, x2, x3, x4, x5, y0, y3]; omega⟩
theorem w13_0_4 {X H : Nat → Int} (S : Sh13 X H) (W : WayR 6 X H 0 4) : Res 6 3 X H 0 4 := by
  obtain ⟨x0, x1, x2, x3, x4, x5, y0, y1, y2, y3, y4, y5⟩ := S
  have f1 : (0 < TR X H 0 4 1 ∧ 0 < -(TR X H 1 2 4)) ∨ (TR X H 0 4 1 < 0 ∧ -(TR X H 1 2 4) < 0) := by
    have h0 : interP (X 0) (H 0) (X 4) (H 4) (X 1) (H 1) (X 2) (H 2) = false := W.fr 1 (by decide) (by decide) (by decide) (by decide) (by decide)
    have h := ns00 h0 (by omega) (by omega) (by omega) (by omega)
    rw [dl_1 (by omega), dr_2 (by omega)] at h
    exact h
  have z2 : TR X H 4 5 0 ≠ 0 := W.s2 rfl
  clear W
  by_cases hc : 0 < TR X H 0 4 5
  · simp only [TR, T2, twiceP, x0, x1, x2, x3, x4, x5, y0, y3] at f1 z2 hc
    replace f1 := f1.resolve_left (by omega)
    refine ⟨true, false, ?_, ⟨?_, ?_⟩, ?_, ?_, ?_⟩
    · intro v hv a1 a2
      obtain rfl | rfl | rfl := (by omega : v = 0 ∨ v = 1 ∨ v = 2)
      · exact pos_c (by simp only [Nat.reduceAdd, Nat.zero_add, TR, T2, twiceP, x0, x1, x2, x3, x4, x5, y0, y3]; omega)
      · exfalso; simp only [Nat.reduceAdd, Nat.zero_add] at a1 a2; omega
      · exfalso; simp only [Nat.reduceAdd, Nat.zero_add] at a1 a2; omega
    · intro v hv hv2 a1 a2
      obtain rfl | rfl := (by omega : v = 3 ∨ v = 4)
      · exfalso; simp only [Nat.reduceAdd, Nat.zero_add] at a1 a2; omega
      · exact neg_c (by simp only [Nat.reduceAdd, Nat.zero_add, TR, T2, twiceP, x0, x1, x2, x3, x4, x5, y0, y3]; omega)
    · intro a1
      exact neg_c (by simp only [Nat.reduceSub, TR, T2, twiceP, x0, x1, x2, x3, x4, x5, y0, y3]; omega)
    · show locT (TR X H 5 0 1) (TR X H 0 4 1) (TR X H 0 5 4) (TR X H 0 4 5) (TR X H 0 1 4) = true
      exact loc_t (by simp only [TR, T2, twiceP, x0, x1, x2, x3, x4, x5, y0, y3]; omega)
    · show locT (TR X H 3 4 5) (TR X H 4 0 5) (TR X H 4 3 0) (TR X H 4 0 3) (TR X H 4 5 0) = true
      exact loc_t (by simp only [TR, T2, twiceP, x0, x1, x2, x3, x4, x5, y0, y3]; omega)
    · refine fun _ => .inl ⟨by omega, fun v hv n1 n2 a1 a2 => ?_⟩
      obtain rfl | rfl | rfl | rfl | rfl | rfl := (by omega : v = 0 ∨ v = 1 ∨ v = 2 ∨ v = 3 ∨ v = 4 ∨ v = 5)
      · exact absurd rfl n1
      · exact .inl ⟨by omega, by simp only [TR, T2, twiceP, x0, x1, x2, x3, x4, x5, y0, y3]; omega⟩
      · exfalso; omega
      · exfalso; omega
      · exact absurd rfl n2
      · exact .inr ⟨by omega, by simp only [TR, T2, twiceP, x0, x1, x2, x3, x4, x5, y0, y3]; omega⟩
  · simp only [TR, T2, twiceP, x0, x1, x2, x3, x4, x5, y0, y3] at f1 z2 hc
    replace f1 := f1.resolve_left (by omega)
    refine ⟨true, true, ?_, ⟨?_, ?_⟩, ?_, ?_, ?_⟩
    · intro v hv a1 a2
      obtain rfl | rfl | rfl := (by omega : v = 0 ∨ v = 1 ∨ v = 2)
      · exact pos_c (by simp only [Nat.reduceAdd, Nat.zero_add, TR, T2, twiceP, x0, x1, x2, x3, x4, x5, y0, y3]; omega)
      · exfalso; simp only [Nat.reduceAdd, Nat.zero_add] at a1 a2; omega
      · exfalso; simp only [Nat.reduceAdd, Nat.zero_add] at a1 a2; omega
    · intro v hv hv2 a1 a2
      obtain rfl | rfl := (by omega : v = 3 ∨ v = 4)
      · exfalso; simp only [Nat.reduceAdd, Nat.zero_add] at a1 a2; omega
      · exact pos_c (by simp only [Nat.reduceAdd, Nat.zero_add, TR, T2, twiceP, x0, x1, x2, x3, x4, x5, y0, y3]; omega)
    · intro a1
      exact pos_c (by simp only [Nat.reduceSub, TR, T2, twiceP, x0, x1, x2, x3, x4, x5, y0, y3]; omega)
    · show locT (TR X H 5 0 1) (TR X H 0 4 1) (TR X H 0 5 4) (TR X H 0 4 5) (TR X H 0 1 4) = false
      exact loc_f (by simp only [TR, T2, twiceP, x0, x1, x2, x3, x4, x5, y0, y3]; omega)
    · show locT (TR X H 3 4 5) (TR X H 4 0 5) (TR X H 4 3 0) (TR X H 4 0 3) (TR X H 4 5 0) = false
      exact loc_f (by simp only [TR, T2, twiceP, x0, x1, x2, x3, x4, x5, y0, y3]; omega)
    · exact fun h => absurd h (by decide)
theorem w13_1_3 {X H : Nat → Int} (S : Sh13 X H) (W : WayR 6 X H 1 3) : Res 6 3 X H 1 3 := by
  obtain ⟨x0, x1, x2, x3, x4, x5, y0, y1, y2, y3, y4, y5⟩ := S
  have f4 : (0 < -(TR X H 5 4 1) ∧ 0 < TR X H 1 3 4) ∨ (-(TR X H 5 4 1) < 0 ∧ TR X H 1 3 4 < 0) := by
    have h0 : interP (X 1) (H 1) (X 3) (H 3) (X 4) (H 4) (X 5) (H 5) = false := W.fr 4 (by decide) (by decide) (by decide) (by decide) (by decide)
    have h := ns01 h0 (by omega) (by omega) (by omega) (by omega)
    rw [dl_2 (by omega), dr_1 (by omega)] at h
    exact h
  have z1 : TR X H 1 2 3 ≠ 0 := W.s1 rfl
  clear W
  by_cases hc : TR X H 1 3 2 < 0
  · simp only [TR, T2, twiceP, x0, x1, x2, x3, x4, x5, y0, y3] at f4 z1 hc
    replace f4 := f4.resolve_right (by omega)
    refine ⟨true, false, ?_, ⟨?_, ?_⟩, ?_, ?_, ?_⟩
    · intro v hv a1 a2
      obtain rfl | rfl | rfl := (by omega : v = 0 ∨ v = 1 ∨ v = 2)
      · exfalso; simp only [Nat.reduceAdd, Nat.zero_add] at a1 a2; omega
      · exact pos_c (by simp only [Nat.reduceAdd, Nat.zero_add, TR, T2, twiceP, x0, x1, x2, x3, x4, x5, y0, y3]; omega)
      · exact pos_c (by simp only [Nat.reduceAdd, Nat.zero_add, TR, T2, twiceP, x0, x1, x2, x3, x4, x5, y0, y3]; omega)
    · intro v hv hv2 a1 a2
      obtain rfl | rfl := (by omega : v = 3 ∨ v = 4)
      · exact neg_c (by simp only [Nat.reduceAdd, Nat.zero_add, TR, T2, twiceP, x0, x1, x2, x3, x4, x5, y0, y3]; omega)
      · exfalso; simp only [Nat.reduceAdd, Nat.zero_add] at a1 a2; omega
    · intro a1
      exfalso; simp only [Nat.reduceSub] at a1; omega
    · show locT (TR X H 0 1 2) (TR X H 1 3 2) (TR X H 1 0 3) (TR X H 1 3 0) (TR X H 1 2 3) = true
      exact loc_t (by simp only [TR, T2, twiceP, x0, x1, x2, x3, x4, x5, y0, y3]; omega)
    · show locT (TR X H 2 3 4) (TR X H 3 1 4) (TR X H 3 2 1) (TR X H 3 1 2) (TR X H 3 4 1) = true
      exact loc_t (by simp only [TR, T2, twiceP, x0, x1, x2, x3, x4, x5, y0, y3]; omega)
    · refine fun _ => .inl ⟨by omega, fun v hv n1 n2 a1 a2 => ?_⟩
      obtain rfl | rfl | rfl | rfl | rfl | rfl := (by omega : v = 0 ∨ v = 1 ∨ v = 2 ∨ v = 3 ∨ v = 4 ∨ v = 5)
      · exfalso; omega
      · exact absurd rfl n1
      · exact .inl ⟨by omega, by simp only [TR, T2, twiceP, x0, x1, x2, x3, x4, x5, y0, y3]; omega⟩
      · exact absurd rfl n2
      · exact .inr ⟨by omega, by simp only [TR, T2, twiceP, x0, x1, x2, x3, x4, x5, y0, y3]; omega⟩
      · exfalso; omega
  · simp only [TR, T2, twiceP, x0, x1, x2, x3, x4, x5, y0, y3] at f4 z1 hc
    replace f4 := f4.resolve_right (by omega)
    refine ⟨false, false, ?_, ⟨?_, ?_⟩, ?_, ?_, ?_⟩
    · intro v hv a1 a2
      obtain rfl | rfl | rfl := (by omega : v = 0 ∨ v = 1 ∨ v = 2)
      · exfalso; simp only [Nat.reduceAdd, Nat.zero_add] at a1 a2; omega
      · exact neg_c (by simp only [Nat.reduceAdd, Nat.zero_add, TR, T2, twiceP, x0, x1, x2, x3, x4, x5, y0, y3]; omega)
      · exact neg_c (by simp only [Nat.reduceAdd, Nat.zero_add, TR, T2, twiceP, x0, x1, x2, x3, x4, x5, y0, y3]; omega)
    · intro v hv hv2 a1 a2
      obtain rfl | rfl := (by omega : v = 3 ∨ v = 4)
      · exact neg_c (by simp only [Nat.reduceAdd, Nat.zero_add, TR, T2, twiceP, x0, x1, x2, x3, x4, x5, y0, y3]; omega)
      · exfalso; simp only [Nat.reduceAdd, Nat.zero_add] at a1 a2; omega
    · intro a1
      exfalso; simp only [Nat.reduceSub] at a1; omega
    · show locT (TR X H 0 1 2) (TR X H 1 3 2) (TR X H 1 0 3) (TR X H 1 3 0) (TR X H 1 2 3) = false
      exact loc_f (by simp only [TR, T2, twiceP, x0, x1, x2, x3, x4, x5, y0, y3]; omega)
    · show locT (TR X H 2 3 4) (TR X H 3 1 4) (TR X H 3 2 1) (TR X H 3 1 2) (TR X H 3 4 1) = false
      exact loc_f (by simp only [TR, T2, twiceP, x0, x1, x2, x3, x4, x5, y0, y3]; omega)
    · exact fun h => absurd h (by decide)
theorem w13_1_4 {X H : Nat → Int} (S : Sh13 X H) (W : WayR 6 X H 1 4) : Res 6 3 X H 1 4 := by
  obtain ⟨x0, x1, x2, x3, x4, x5, y0, y1, y2, y3, y4, y5⟩ := S
  clear W
  refine ⟨true, false, ?_, ⟨?_, ?_⟩, ?_, ?_, ?_⟩
  · intro v hv a1 a2
    obtain rfl | rfl | rfl := (by omega : v = 0 ∨ v = 1 ∨ v = 2)
    · exact pos_c (by simp only [Nat.reduceAdd, Nat.zero_add, TR, T2, twiceP, x0, x1, x2, x3, x4, x5, y0, y3]; omega)
    · exact pos_c (by simp only [Nat.reduceAdd, Nat.zero_add, TR, T2, twiceP, x0, x1, x2, x3, x4, x5, y0, y3]; omega)
    · exfalso; simp only [Nat.reduceAdd, Nat.zero_add] at a1 a2; omega
  · intro v hv hv2 a1 a2
    obtain rfl | rfl := (by omega : v = 3 ∨ v = 4)
    · exact neg_c (by simp only [Nat.reduceAdd, Nat.zero_add, TR, T2, twiceP, x0, x1, x2, x3, x4, x5, y0, y3]; omega)
    · exact neg_c (by simp only [Nat.reduceAdd, Nat.zero_add, TR, T2, twiceP, x0, x1, x2, x3, x4, x5, y0, y3]; omega)
  · intro a1
    exfalso; simp only [Nat.reduceSub] at a1; omega
  · show locT (TR X H 0 1 2) (TR X H 1 4 2) (TR X H 1 0 4) (TR X H 1 4 0) (TR X H 1 2 4) = true
    exact loc_t (by simp only [TR, T2, twiceP, x0, x1, x2, x3, x4, x5, y0, y3]; omega)
  · show locT (TR X H 3 4 5) (TR X H 4 1 5) (TR X H 4 3 1) (TR X H 4 1 3) (TR X H 4 5 1) = true
    exact loc_t (by simp only [TR, T2, twiceP, x0, x1, x2, x3, x4, x5, y0, y3]; omega)
  · exact fun _ => .inr (.inr ⟨by omega, by omega, by omega⟩)
theorem w13_1_5 {X H : Nat → Int} (S : Sh13 X H) (W : WayR 6 X H 1 5) : Res 6 3 X H 1 5 := by
  obtain ⟨x0, x1, x2, x3, x4, x5, y0, y1, y2, y3, y4, y5⟩ := S
  have f3 : (0 < TR X H 5 1 4 ∧ 0 < -(TR X H 4 3 1)) ∨ (TR X H 5 1 4 < 0 ∧ -(TR X H 4 3 1) < 0) := by
    have h0 : interP (X 1) (H 1) (X 5) (H 5) (X 3) (H 3) (X 4) (H 4) = false := W.fr 3 (by decide) (by decide) (by decide) (by decide) (by decide)
    have h := ns11 h0 (by omega) (by omega) (by omega) (by omega)
    rw [dl_1 (by omega), dr_2 (by omega)] at h
    exact h
  have z2 : TR X H 5 0 1 ≠ 0 := W.s2 rfl
  clear W
  simp only [TR, T2, twiceP, x0, x1, x2, x3, x4, x5, y0, y3] at f3 z2
  replace f3 := f3.resolve_right (by omega)
  refine ⟨true, false, ?_, ⟨?_, ?_⟩, ?_, ?_, ?_⟩
  · intro v hv a1 a2
    obtain rfl | rfl | rfl := (by omega : v = 0 ∨ v = 1 ∨ v = 2)
    · exact pos_c (by simp only [Nat.reduceAdd, Nat.zero_add, TR, T2, twiceP, x0, x1, x2, x3, x4, x5, y0, y3]; omega)
    · exfalso; simp only [Nat.reduceAdd, Nat.zero_add] at a1 a2; omega
    · exfalso; simp only [Nat.reduceAdd, Nat.zero_add] at a1 a2; omega
  · intro v hv hv2 a1 a2
    obtain rfl | rfl := (by omega : v = 3 ∨ v = 4)
    · exfalso; simp only [Nat.reduceAdd, Nat.zero_add] at a1 a2; omega
    · exact neg_c (by simp only [Nat.reduceAdd, Nat.zero_add, TR, T2, twiceP, x0, x1, x2, x3, x4, x5, y0, y3]; omega)
  · intro a1
    exfalso; simp only [Nat.reduceSub] at a1; omega
  · show locT (TR X H 0 1 2) (TR X H 1 5 2) (TR X H 1 0 5) (TR X H 1 5 0) (TR X H 1 2 5) = true
    exact loc_t (by simp only [TR, T2, twiceP, x0, x1, x2, x3, x4, x5, y0, y3]; omega)
  · show locT (TR X H 4 5 0) (TR X H 5 1 0) (TR X H 5 4 1) (TR X H 5 1 4) (TR X H 5 0 1) = true
    exact loc_t (by simp only [TR, T2, twiceP, x0, x1, x2, x3, x4, x5, y0, y3]; omega)
  · refine fun _ => .inr <| .inl ⟨by omega, fun v hv n1 n2 a1 a2 => ?_⟩
    obtain rfl | rfl | rfl | rfl | rfl | rfl := (by omega : v = 0 ∨ v = 1 ∨ v = 2 ∨ v = 3 ∨ v = 4 ∨ v = 5)
    · exfalso; omega
    · exact absurd rfl n2
    · exfalso; omega
    · exfalso; omega
    · exact .inr ⟨by omega, by simp only [TR, T2, twiceP, x0, x1, x2, x3, x4, x5, y0, y3]; omega⟩
    · exact absurd rfl n1
theorem w13_2_4 {X H : Nat → Int} (S : Sh13 X H) (W : WayR 6 X H 2 4) : Res 6 3 X H 2 4 := by
  obtain ⟨x0, x1, x2, x3, x4, x5, y0, y1, y2, y3, y4, y5⟩ := S
  have f0 : (0 < -(TR X H 0 1 4) ∧ 0 < TR X H 4 2 1) ∨ (-(TR X H 0 1 4) < 0 ∧ TR X H 4 2 1 < 0) := by
    have h0 : interP (X 2) (H 2) (X 4) (H 4) (X 0) (H 0) (X 1) (H 1) = false := W.fr 0 (by decide) (by decide) (by decide) (by decide) (by decide)
    have h := ns10 h0 (by omega) (by omega) (by omega) (by omega)
    rw [dl_2 (by omega), dr_1 (by omega)] at h
    exact h
  have z1 : TR X H 2 3 4 ≠ 0 := W.s1 rfl
  clear W
  simp only [TR, T2, twiceP, x0, x1, x2, x3, x4, x5, y0, y3] at f0 z1
  replace f0 := f0.resolve_left (by omega)
  refine ⟨true, false, ?_, ⟨?_, ?_⟩, ?_, ?_, ?_⟩
  · intro v hv a1 a2
    obtain rfl | rfl | rfl := (by omega : v = 0 ∨ v = 1 ∨ v = 2)
    · exfalso; simp only [Nat.reduceAdd, Nat.zero_add] at a1 a2; omega
    · exact pos_c (by simp only [Nat.reduceAdd, Nat.zero_add, TR, T2, twiceP, x0, x1, x2, x3, x4, x5, y0, y3]; omega)
    · exfalso; simp only [Nat.reduceAdd, Nat.zero_add] at a1 a2; omega
  · intro v hv hv2 a1 a2
    obtain rfl | rfl := (by omega : v = 3 ∨ v = 4)
    · exact neg_c (by simp only [Nat.reduceAdd, Nat.zero_add, TR, T2, twiceP, x0, x1, x2, x3, x4, x5, y0, y3]; omega)
    · exfalso; simp only [Nat.reduceAdd, Nat.zero_add] at a1 a2; omega
  · intro a1
    exfalso; simp only [Nat.reduceSub] at a1; omega
  · show locT (TR X H 1 2 3) (TR X H 2 4 3) (TR X H 2 1 4) (TR X H 2 4 1) (TR X H 2 3 4) = true
    exact loc_t (by simp only [TR, T2, twiceP, x0, x1, x2, x3, x4, x5, y0, y3]; omega)
  · show locT (TR X H 3 4 5) (TR X H 4 2 5) (TR X H 4 3 2) (TR X H 4 2 3) (TR X H 4 5 2) = true
    exact loc_t (by simp only [TR, T2, twiceP, x0, x1, x2, x3, x4, x5, y0, y3]; omega)
  · refine fun _ => .inr <| .inl ⟨by omega, fun v hv n1 n2 a1 a2 => ?_⟩
    obtain rfl | rfl | rfl | rfl | rfl | rfl := (by omega : v = 0 ∨ v = 1 ∨ v = 2 ∨ v = 3 ∨ v = 4 ∨ v = 5)
    · exfalso; omega
    · exact .inl ⟨by omega, by simp only [TR, T2, twiceP, x0, x1, x2, x3, x4, x5, y0, y3]; omega⟩
    · exact absurd rfl n2
    · exfalso; omega
    · exact absurd rfl n1
    · exfalso; omega
theorem w13_2_5 {X H : Nat → Int} (S : Sh13 X H) (W : WayR 6 X H 2 5) : Res 6 3 X H 2 5 := by
  obtain ⟨x0, x1, x2, x3, x4, x5, y0, y1, y2, y3, y4, y5⟩ := S
  have f0 : (0 < -(TR X H 0 1 5) ∧ 0 < TR X H 5 2 1) ∨ (-(TR X H 0 1 5) < 0 ∧ TR X H 5 2 1 < 0) := by
    have h0 : interP (X 2) (H 2) (X 5) (H 5) (X 0) (H 0) (X 1) (H 1) = false := W.fr 0 (by decide) (by decide) (by decide) (by decide) (by decide)
    have h := ns10 h0 (by omega) (by omega) (by omega) (by omega)
    rw [dl_2 (by omega), dr_1 (by omega)] at h
    exact h
  have f3 : (0 < TR X H 5 2 4 ∧ 0 < -(TR X H 4 3 2)) ∨ (TR X H 5 2 4 < 0 ∧ -(TR X H 4 3 2) < 0) := by
    have h0 : interP (X 2) (H 2) (X 5) (H 5) (X 3) (H 3) (X 4) (H 4) = false := W.fr 3 (by decide) (by decide) (by decide) (by decide) (by decide)
    have h := ns11 h0 (by omega) (by omega) (by omega) (by omega)
    rw [dl_1 (by omega), dr_2 (by omega)] at h
    exact h
  clear W
  simp only [TR, T2, twiceP, x0, x1, x2, x3, x4, x5, y0, y3] at f0 f3
  replace f3 := f3.resolve_right (by omega)
  replace f0 := f0.resolve_left (by omega)
  refine ⟨true, false, ?_, ⟨?_, ?_⟩, ?_, ?_, ?_⟩
  · intro v hv a1 a2
    obtain rfl | rfl | rfl := (by omega : v = 0 ∨ v = 1 ∨ v = 2)
    · exact pos_c (by simp only [Nat.reduceAdd, Nat.zero_add, TR, T2, twiceP, x0, x1, x2, x3, x4, x5, y0, y3]; omega)
    · exact pos_c (by simp only [Nat.reduceAdd, Nat.zero_add, TR, T2, twiceP, x0, x1, x2, x3, x4, x5, y0, y3]; omega)
    · exfalso; simp only [Nat.reduceAdd, Nat.zero_add] at a1 a2; omega
  · intro v hv hv2 a1 a2
    obtain rfl | rfl := (by omega : v = 3 ∨ v = 4)
    · exact neg_c (by simp only [Nat.reduceAdd, Nat.zero_add, TR, T2, twiceP, x0, x1, x2, x3, x4, x5, y0, y3]; omega)
    · exact neg_c (by simp only [Nat.reduceAdd, Nat.zero_add, TR, T2, twiceP, x0, x1, x2, x3, x4, x5, y0, y3]; omega)
  · intro a1
    exfalso; simp only [Nat.reduceSub] at a1; omega
  · show locT (TR X H 1 2 3) (TR X H 2 5 3) (TR X H 2 1 5) (TR X H 2 5 1) (TR X H 2 3 5) = true
    exact loc_t (by simp only [TR, T2, twiceP, x0, x1, x2, x3, x4, x5, y0, y3]; omega)
  · show locT (TR X H 4 5 0) (TR X H 5 2 0) (TR X H 5 4 2) (TR X H 5 2 4) (TR X H 5 0 2) = true
    exact loc_t (by simp only [TR, T2, twiceP, x0, x1, x2, x3, x4, x5, y0, y3]; omega)
  · refine fun _ => .inr <| .inl ⟨by omega, fun v hv n1 n2 a1 a2 => ?_⟩
    obtain rfl | rfl | rfl | rfl | rfl | rfl := (by omega : v = 0 ∨ v = 1 ∨ v = 2 ∨ v = 3 ∨ v = 4 ∨ v = 5)
    · exfalso; omega
    · exact .inl ⟨by omega, by simp only [TR, T2, twiceP, x0, x1, x2, x3, x4, x5, y0, y3]; omega⟩
    · exact absurd rfl n2
    · exfalso; omega
    · exact .inr ⟨by omega, by simp only [TR, T2, twiceP, x0, x1, x2, x3, x4, x5, y0, y3]; omega⟩
    · exact absurd rfl n1
theorem w13_3_5 {X H : Nat → Int} (S : Sh13 X H) (W : WayR 6 X H 3 5) : Res 6 3 X H 3 5 := by
  obtain ⟨x0, x1, x2, x3, x4, x5, y0, y1, y2, y3, y4, y5⟩ := S
  have f0 : (0 < -(TR X H 0 1 5) ∧ 0 < TR X H 5 3 1) ∨ (-(TR X H 0 1 5) < 0 ∧ TR X H 5 3 1 < 0) := by
    have h0 : interP (X 3) (H 3) (X 5) (H 5) (X 0) (H 0) (X 1) (H 1) = false := W.fr 0 (by decide) (by decide) (by decide) (by decide) (by decide)
    have h := ns10 h0 (by omega) (by omega) (by omega) (by omega)
    rw [dl_2 (by omega), dr_1 (by omega)] at h
    exact h
  have f1 : (0 < TR X H 5 3 1 ∧ 0 < TR X H 5 3 2) ∨ (TR X H 5 3 1 < 0 ∧ TR X H 5 3 2 < 0) := by
    have h0 : interP (X 3) (H 3) (X 5) (H 5) (X 1) (H 1) (X 2) (H 2) = false := W.fr 1 (by decide) (by decide) (by decide) (by decide) (by decide)
    have h := ns10 h0 (by omega) (by omega) (by omega) (by omega)
    rw [dl_1 (by omega), dr_1 (by omega)] at h
    exact h
  have z1 : TR X H 3 4 5 ≠ 0 := W.s1 rfl
  clear W
  by_cases hc : 0 < TR X H 5 3 4
  · simp only [TR, T2, twiceP, x0, x1, x2, x3, x4, x5, y0, y3] at f0 f1 z1 hc
    replace f0 := f0.resolve_left (by omega)
    replace f1 := f1.resolve_left (by omega)
    refine ⟨true, false, ?_, ⟨?_, ?_⟩, ?_, ?_, ?_⟩
    · intro v hv a1 a2
      obtain rfl | rfl | rfl := (by omega : v = 0 ∨ v = 1 ∨ v = 2)
      · exfalso; simp only [Nat.reduceAdd, Nat.zero_add] at a1 a2; omega
      · exact pos_c (by simp only [Nat.reduceAdd, Nat.zero_add, TR, T2, twiceP, x0, x1, x2, x3, x4, x5, y0, y3]; omega)
      · exfalso; simp only [Nat.reduceAdd, Nat.zero_add] at a1 a2; omega
    · intro v hv hv2 a1 a2
      obtain rfl | rfl := (by omega : v = 3 ∨ v = 4)
      · exact neg_c (by simp only [Nat.reduceAdd, Nat.zero_add, TR, T2, twiceP, x0, x1, x2, x3, x4, x5, y0, y3]; omega)
      · exfalso; simp only [Nat.reduceAdd, Nat.zero_add] at a1 a2; omega
    · intro a1
      exfalso; simp only [Nat.reduceSub] at a1; omega
    · show locT (TR X H 2 3 4) (TR X H 3 5 4) (TR X H 3 2 5) (TR X H 3 5 2) (TR X H 3 4 5) = true
      exact loc_t (by simp only [TR, T2, twiceP, x0, x1, x2, x3, x4, x5, y0, y3]; omega)
    · show locT (TR X H 4 5 0) (TR X H 5 3 0) (TR X H 5 4 3) (TR X H 5 3 4) (TR X H 5 0 3) = true
      exact loc_t (by simp only [TR, T2, twiceP, x0, x1, x2, x3, x4, x5, y0, y3]; omega)
    · refine fun _ => .inr <| .inl ⟨by omega, fun v hv n1 n2 a1 a2 => ?_⟩
      obtain rfl | rfl | rfl | rfl | rfl | rfl := (by omega : v = 0 ∨ v = 1 ∨ v = 2 ∨ v = 3 ∨ v = 4 ∨ v = 5)
      · exfalso; omega
      · exact .inl ⟨by omega, by simp only [TR, T2, twiceP, x0, x1, x2, x3, x4, x5, y0, y3]; omega⟩
      · exact .inl ⟨by omega, by simp only [TR, T2, twiceP, x0, x1, x2, x3, x4, x5, y0, y3]; omega⟩
      · exact absurd rfl n2
      · exact .inr ⟨by omega, by simp only [TR, T2, twiceP, x0, x1, x2, x3, x4, x5, y0, y3]; omega⟩
      · exact absurd rfl n1
  · simp only [TR, T2, twiceP, x0, x1, x2, x3, x4, x5, y0, y3] at f0 f1 z1 hc
    replace f0 := f0.resolve_left (by omega)
    replace f1 := f1.resolve_left (by omega)
    refine ⟨true, true, ?_, ⟨?_, ?_⟩, ?_, ?_, ?_⟩
    · intro v hv a1 a2
      obtain rfl | rfl | rfl := (by omega : v = 0 ∨ v = 1 ∨ v = 2)
      · exfalso; simp only [Nat.reduceAdd, Nat.zero_add] at a1 a2; omega
      · exact pos_c (by simp only [Nat.reduceAdd, Nat.zero_add, TR, T2, twiceP, x0, x1, x2, x3, x4, x5, y0, y3]; omega)
      · exfalso; simp only [Nat.reduceAdd, Nat.zero_add] at a1 a2; omega
    · intro v hv hv2 a1 a2
      obtain rfl | rfl := (by omega : v = 3 ∨ v = 4)
      · exact pos_c (by simp only [Nat.reduceAdd, Nat.zero_add, TR, T2, twiceP, x0, x1, x2, x3, x4, x5, y0, y3]; omega)
      · exfalso; simp only [Nat.reduceAdd, Nat.zero_add] at a1 a2; omega
    · intro a1
      exfalso; simp only [Nat.reduceSub] at a1; omega
    · show locT (TR X H 2 3 4) (TR X H 3 5 4) (TR X H 3 2 5) (TR X H 3 5 2) (TR X H 3 4 5) = false
      exact loc_f (by simp only [TR, T2, twiceP, x0, x1, x2, x3, x4, x5, y0, y3]; omega)
    · show locT (TR X H 4 5 0) (TR X H 5 3 0) (TR X H 5 4 3) (TR X H 5 3 4) (TR X H 5 0 3) = false
      exact loc_f (by simp only [TR, T2, twiceP, x0, x1, x2, x3, x4, x5, y0, y3]; omega)
    · exact fun h => absurd h (by decide)
theorem shape13 {X H : Nat → Int} (S : Sh13 X H) {i j : Nat} (W : WayR 6 X H i j) : Res 6 3 X H i j := by
  have hap := W.ap
  unfold Apart at hap
  obtain rfl | rfl | rfl | rfl : i = 0 ∨ i = 1 ∨ i = 2 ∨ i = 3 := by omega
  · obtain rfl | rfl | rfl : j = 2 ∨ j = 3 ∨ j = 4 := by omega
    · exact w13_0_2 S W
    · exact w13_0_3 S W
    · exact w13_0_4 S W
  · obtain rfl | rfl | rfl : j = 3 ∨ j = 4 ∨ j = 5 := by omega
    · exact w13_1_3 S W
    · exact w13_1_4 S W
    · exact w13_1_5 S W
  · obtain rfl | rfl : j = 4 ∨ j = 5 := by omega
    · exact w13_2_4 S W
    · exact w13_2_5 S W
  · obtain rfl : j = 5 := by omega
    · exact w13_3_5 S W

def Sh14 (X H : Nat → Int) : Prop := X 0 = 0 ∧ X 1 = 2 ∧ X 2 = 4 ∧ X 3 = 3 ∧ X 4 = 2 ∧ X 5 = 1 ∧ H 0 = 0 ∧ H 1 < 0 ∧ H 2 = 0 ∧ 0 < H 3 ∧ 0 < H 4 ∧ 0 < H 5
theorem ring14 {X H : Nat → Int} (S : Sh14 X H) : Ring 6 2 X H := by
  obtain ⟨x0, x1, x2, x3, x4, x5, y0, y1, y2, y3, y4, y5⟩ := S
  refine ⟨by omega, by omega, x0, ?_, ?_, ?_, y0, y2, ?_, ?_⟩
  · intro v hv
    obtain rfl | rfl := (by omega : v = 0 ∨ v = 1) <;> (simp only [Nat.reduceAdd, Nat.zero_add]; omega)
  · intro v hv hv2
    obtain rfl | rfl | rfl := (by omega : v = 2 ∨ v = 3 ∨ v = 4) <;> (simp only [Nat.reduceAdd, Nat.zero_add]; omega)
  · simp only [Nat.reduceSub]; omega
  · intro v hv hv2
    obtain rfl := (by omega : v = 1)
    assumption
  · intro v hv hv2
    obtain rfl | rfl | rfl := (by omega : v = 3 ∨ v = 4 ∨ v = 5) <;> assumption
theorem w14_0_2 {X H : Nat → Int} (S : Sh14 X H) (W : WayR 6 X H 0 2) : Res 6 2 X H 0 2 := by
  obtain ⟨x0, x1, x2, x3, x4, x5, y0, y1, y2, y3, y4, y5⟩ := S
  have f3 : (0 < TR X H 0 2 4 ∧ 0 < TR X H 0 2 3) ∨ (TR X H 0 2 4 < 0 ∧ TR X H 0 2 3 < 0) := by
    have h0 : interP (X 0) (H 0) (X 2) (H 2) (X 3) (H 3) (X 4) (H 4) = false := W.fr 3 (by decide) (by decide) (by decide) (by decide) (by decide)
    have h := ns01 h0 (by omega) (by omega) (by omega) (by omega)
    rw [dl_1 (by omega), dr_1 (by omega)] at h
    exact h
  have f4 : (0 < TR X H 0 2 5 ∧ 0 < TR X H 0 2 4) ∨ (TR X H 0 2 5 < 0 ∧ TR X H 0 2 4 < 0) := by
    have h0 : interP (X 0) (H 0) (X 2) (H 2) (X 4) (H 4) (X 5) (H 5) = false := W.fr 4 (by decide) (by decide) (by decide) (by decide) (by decide)
    have h := ns01 h0 (by omega) (by omega) (by omega) (by omega)
    rw [dl_1 (by omega), dr_1 (by omega)] at h
    exact h
  have z1 : TR X H 0 1 2 ≠ 0 := W.s1 rfl
  clear W
  simp only [TR, T2, twiceP, x0, x1, x2, x3, x4, x5, y0, y2] at f3 f4 z1
  replace f3 := f3.resolve_right (by omega)
  replace f4 := f4.resolve_right (by omega)
  refine ⟨true, false, ?_, ⟨?_, ?_⟩, ?_, ?_, ?_⟩
  · intro v hv a1 a2
    obtain rfl | rfl := (by omega : v = 0 ∨ v = 1)
    · exact pos_c (by simp only [Nat.reduceAdd, Nat.zero_add, TR, T2, twiceP, x0, x1, x2, x3, x4, x5, y0, y2]; omega)
    · exact pos_c (by simp only [Nat.reduceAdd, Nat.zero_add, TR, T2, twiceP, x0, x1, x2, x3, x4, x5, y0, y2]; omega)
  · intro v hv hv2 a1 a2
    obtain rfl | rfl | rfl := (by omega : v = 2 ∨ v = 3 ∨ v = 4)
    · exfalso; simp only [Nat.reduceAdd, Nat.zero_add] at a1 a2; omega
    · exact neg_c (by simp only [Nat.reduceAdd, Nat.zero_add, TR, T2, twiceP, x0, x1, x2, x3, x4, x5, y0, y2]; omega)
    · exact neg_c (by simp only [Nat.reduceAdd, Nat.zero_add, TR, T2, twiceP, x0, x1, x2, x3, x4, x5, y0, y2]; omega)
  · intro a1
    exfalso; simp only [Nat.reduceSub] at a1; omega
  · show locT (TR X H 5 0 1) (TR X H 0 2 1) (TR X H 0 5 2) (TR X H 0 2 5) (TR X H 0 1 2) = true
    exact loc_t (by simp only [TR, T2, twiceP, x0, x1, x2, x3, x4, x5, y0, y2]; omega)
  · show locT (TR X H 1 2 3) (TR X H 2 0 3) (TR X H 2 1 0) (TR X H 2 0 1) (TR X H 2 3 0) = true
    exact loc_t (by simp only [TR, T2, twiceP, x0, x1, x2, x3, x4, x5, y0, y2]; omega)
  · refine fun _ => .inl ⟨by omega, fun v hv n1 n2 a1 a2 => ?_⟩
    obtain rfl | rfl | rfl | rfl | rfl | rfl := (by omega : v = 0 ∨ v = 1 ∨ v = 2 ∨ v = 3 ∨ v = 4 ∨ v = 5)
    · exact absurd rfl n1
    · exact .inl ⟨by omega, by simp only [TR, T2, twiceP, x0, x1, x2, x3, x4, x5, y0, y2]; omega⟩
    · exact absurd rfl n2
    · exact .inr ⟨by omega, by simp only [TR, T2, twiceP, x0, x1, x2, x3, x4, x5, y0, y2]; omega⟩
    · exact .inr ⟨by omega, by simp only [TR, T2, twiceP, x0, x1, x2, x3, x4, x5, y0, y2]; omega⟩
    · exact .inr ⟨by omega, by simp only [TR, T2, twiceP, x0, x1, x2, x3, x4, x5, y0, y2]; omega⟩
theorem w14_0_3 {X H : Nat → Int} (S : Sh14 X H) (W : WayR 6 X H 0 3) : Res 6 2 X H 0 3 := by
  obtain ⟨x0, x1, x2, x3, x4, x5, y0, y1, y2, y3, y4, y5⟩ := S
  have f1 : (0 < TR X H 0 3 1 ∧ 0 < -(TR X H 1 2 3)) ∨ (TR X H 0 3 1 < 0 ∧ -(TR X H 1 2 3) < 0) := by
    have h0 : interP (X 0) (H 0) (X 3) (H 3) (X 1) (H 1) (X 2) (H 2) = false := W.fr 1 (by decide) (by decide) (by decide) (by decide) (by decide)
    have h := ns00 h0 (by omega) (by omega) (by omega) (by omega)
    rw [dl_1 (by omega), dr_2 (by omega)] at h
    exact h
  have f4 : (0 < TR X H 0 3 5 ∧ 0 < TR X H 0 3 4) ∨ (TR X H 0 3 5 < 0 ∧ TR X H 0 3 4 < 0) := by
    have h0 : interP (X 0) (H 0) (X 3) (H 3) (X 4) (H 4) (X 5) (H 5) = false := W.fr 4 (by decide) (by decide) (by decide) (by decide) (by decide)
    have h := ns01 h0 (by omega) (by omega) (by omega) (by omega)
    rw [dl_1 (by omega), dr_1 (by omega)] at h
    exact h
  clear W
  by_cases hc : 0 < TR X H 0 3 4
  · simp only [TR, T2, twiceP, x0, x1, x2, x3, x4, x5, y0, y2] at f1 f4 hc
    replace f4 := f4.resolve_right (by omega)
    replace f1 := f1.resolve_left (by omega)
    refine ⟨true, false, ?_, ⟨?_, ?_⟩, ?_, ?_, ?_⟩
    · intro v hv a1 a2
      obtain rfl | rfl := (by omega : v = 0 ∨ v = 1)
      · exact pos_c (by simp only [Nat.reduceAdd, Nat.zero_add, TR, T2, twiceP, x0, x1, x2, x3, x4, x5, y0, y2]; omega)
      · exfalso; simp only [Nat.reduceAdd, Nat.zero_add] at a1 a2; omega
    · intro v hv hv2 a1 a2
      obtain rfl | rfl | rfl := (by omega : v = 2 ∨ v = 3 ∨ v = 4)
      · exfalso; simp only [Nat.reduceAdd, Nat.zero_add] at a1 a2; omega
      · exfalso; simp only [Nat.reduceAdd, Nat.zero_add] at a1 a2; omega
      · exact neg_c (by simp only [Nat.reduceAdd, Nat.zero_add, TR, T2, twiceP, x0, x1, x2, x3, x4, x5, y0, y2]; omega)
    · intro a1
      exfalso; simp only [Nat.reduceSub] at a1; omega
    · show locT (TR X H 5 0 1) (TR X H 0 3 1) (TR X H 0 5 3) (TR X H 0 3 5) (TR X H 0 1 3) = true
      exact loc_t (by simp only [TR, T2, twiceP, x0, x1, x2, x3, x4, x5, y0, y2]; omega)
    · show locT (TR X H 2 3 4) (TR X H 3 0 4) (TR X H 3 2 0) (TR X H 3 0 2) (TR X H 3 4 0) = true
      exact loc_t (by simp only [TR, T2, twiceP, x0, x1, x2, x3, x4, x5, y0, y2]; omega)
    · refine fun _ => .inl ⟨by omega, fun v hv n1 n2 a1 a2 => ?_⟩
      obtain rfl | rfl | rfl | rfl | rfl | rfl := (by omega : v = 0 ∨ v = 1 ∨ v = 2 ∨ v = 3 ∨ v = 4 ∨ v = 5)
      · exact absurd rfl n1
      · exact .inl ⟨by omega, by simp only [TR, T2, twiceP, x0, x1, x2, x3, x4, x5, y0, y2]; omega⟩
      · exfalso; omega
      · exact absurd rfl n2
      · exact .inr ⟨by omega, by simp only [TR, T2, twiceP, x0, x1, x2, x3, x4, x5, y0, y2]; omega⟩
      · exact .inr ⟨by omega, by simp only [TR, T2, twiceP, x0, x1, x2, x3, x4, x5, y0, y2]; omega⟩
  · simp only [TR, T2, twiceP, x0, x1, x2, x3, x4, x5, y0, y2] at f1 f4 hc
    replace f4 := f4.resolve_left (by omega)
    replace f1 := f1.resolve_left (by omega)
    refine ⟨true, true, ?_, ⟨?_, ?_⟩, ?_, ?_, ?_⟩
    · intro v hv a1 a2
      obtain rfl | rfl := (by omega : v = 0 ∨ v = 1)
      · exact pos_c (by simp only [Nat.reduceAdd, Nat.zero_add, TR, T2, twiceP, x0, x1, x2, x3, x4, x5, y0, y2]; omega)
      · exfalso; simp only [Nat.reduceAdd, Nat.zero_add] at a1 a2; omega
    · intro v hv hv2 a1 a2
      obtain rfl | rfl | rfl := (by omega : v = 2 ∨ v = 3 ∨ v = 4)
      · exfalso; simp only [Nat.reduceAdd, Nat.zero_add] at a1 a2; omega
      · exfalso; simp only [Nat.reduceAdd, Nat.zero_add] at a1 a2; omega
      · exact pos_c (by simp only [Nat.reduceAdd, Nat.zero_add, TR, T2, twiceP, x0, x1, x2, x3, x4, x5, y0, y2]; omega)
    · intro a1
      exfalso; simp only [Nat.reduceSub] at a1; omega
    · show locT (TR X H 5 0 1) (TR X H 0 3 1) (TR X H 0 5 3) (TR X H 0 3 5) (TR X H 0 1 3) = false
      exact loc_f (by simp only [TR, T2, twiceP, x0, x1, x2, x3, x4, x5, y0, y2]; omega)
    · show locT (TR X H 2 3 4) (TR X H 3 0 4) (TR X H 3 2 0) (TR X H 3 0 2) (TR X H 3 4 0) = false
      exact loc_f (by simp only [TR, T2, twiceP, x0, x1, x2, x3, x4, x5, y0, y2]; omega)
    · exact fun h => absurd h (by decide)
theorem w14_0_4 {X H : Nat → Int} (S : Sh14 X H) (W : WayR 6 X H 0 4) : Res 6 2 X H 0 4 := by
  obtain ⟨x0, x1, x2, x3, x4, x5, y0, y1, y2, y3, y4, y5⟩ := S
  have f1 : (0 < TR X H 0 4 1 ∧ 0 < -(TR X H 1 2 4)) ∨ (TR X H 0 4 1 < 0 ∧ -(TR X H 1 2 4) < 0) := by
    have h0 : interP (X 0) (H 0) (X 4) (H 4) (X 1) (H 1) (X 2) (H 2) = false := W.fr 1 (by decide) (by decide) (by decide) (by decide) (by decide)
    have h := ns00 h0 (by omega) (by omega) (by omega) (by omega)
    rw [dl_1 (by omega), dr_2 (by omega)] at h
    exact h
  have z2 : TR X H 4 5 0 ≠ 0 := W.s2 rfl
  clear W
  by_cases hc : 0 < TR X H 0 4 5
  · simp only [TR, T2, twiceP, x0, x1, x2, x3, x4, x5, y0, y2] at f1 z2 hc
    replace f1 := f1.resolve_left (by omega)
    refine ⟨true, false, ?_, ⟨?_, ?_⟩, ?_, ?_, ?_⟩
    · intro v hv a1 a2
      obtain rfl | rfl := (by omega : v = 0 ∨ v = 1)
      · exact pos_c (by simp only [Nat.reduceAdd, Nat.zero_add, TR, T2, twiceP, x0, x1, x2, x3, x4, x5, y0, y2]; omega)
      · exfalso; simp only [Nat.reduceAdd, Nat.zero_add] at a1 a2; omega
    · intro v hv hv2 a1 a2
      obtain rfl | rfl | rfl := (by omega : v = 2 ∨ v = 3 ∨ v = 4)
      · exfalso; simp only [Nat.reduceAdd, Nat.zero_add] at a1 a2; omega
      · exfalso; simp only [Nat.reduceAdd, Nat.zero_add] at a1 a2; omega
      · exact neg_c (by simp only [Nat.reduceAdd, Nat.zero_add, TR, T2, twiceP, x0, x1, x2, x3, x4, x5, y0, y2]; omega)
    · intro a1
      exact neg_c (by simp only [Nat.reduceSub, TR, T2, twiceP, x0, x1, x2, x3, x4, x5, y0, y2]; omega)
    · show locT (TR X H 5 0 1) (TR X H 0 4 1) (TR X H 0 5 4) (TR X H 0 4 5) (TR X H 0 1 4) = true
      exact loc_t (by simp only [TR, T2, twiceP, x0, x1, x2, x3, x4, x5, y0, y2]; omega)
    · show locT (TR X H 3 4 5) (TR X H 4 0 5) (TR X H 4 3 0) (TR X H 4 0 3) (TR X H 4 5 0) = true
      exact loc_t (by simp only [TR, T2, twiceP, x0, x1, x2, x3, x4, x5, y0, y2]; omega)
    · refine fun _ => .inl ⟨by omega, fun v hv n1 n2 a1 a2 => ?_⟩
      obtain rfl | rfl | rfl | rfl | rfl | rfl := (by omega : v = 0 ∨ v = 1 ∨ v = 2 ∨ v = 3 ∨ v = 4 ∨ v = 5)
      · exact absurd rfl n1
      · exact .inl ⟨by omega, by simp only [TR, T2, twiceP, x0, x1, x2, x3, x4, x5, y0, y2]; omega⟩
      · exfalso; omega
      · exfalso; omega
      · exact absurd rfl n2
      · exact .inr ⟨by omega, by simp only [TR, T2, twiceP, x0, x1, x2, x3, x4, x5, y0, y2]; omega⟩
  · simp only [TR, T2, twiceP, x0, x1, x2, x3, x4, x5, y0, y2] at f1 z2 hc
    replace f1 := f1.resolve_left (by omega)
    refine ⟨true, true, ?_, ⟨?_, ?_⟩, ?_, ?_, ?_⟩
    · intro v hv a1 a2
      obtain rfl | rfl := (by omega : v = 0 ∨ v = 1)
      · exact pos_c (by simp only [Nat.reduceAdd, Nat.zero_add, TR, T2, twiceP, x0, x1, x2, x3, x4, x5, y0, y2]; omega)
      · exfalso; simp only [Nat.reduceAdd, Nat.zero_add] at a1 a2; omega
    · intro v hv hv2 a1 a2
      obtain rfl | rfl | rfl := (by omega : v = 2 ∨ v = 3 ∨ v = 4)
      · exfalso; simp only [Nat.reduceAdd, Nat.zero_add] at a1 a2; omega
      · exfalso; simp only [Nat.reduceAdd, Nat.zero_add] at a1 a2; omega
      · exact pos_c (by simp only [Nat.reduceAdd, Nat.zero_add, TR, T2, twiceP, x0, x1, x2, x3, x4, x5, y0, y2]; omega)
    · intro a1
      exact pos_c (by simp only [Nat.reduceSub, TR, T2, twiceP, x0, x1, x2, x3, x4, x5, y0, y2]; omega)
    · show locT (TR X H 5 0 1) (TR X H 0 4 1) (TR X H 0 5 4) (TR X H 0 4 5) (TR X H 0 1 4) = false
      exact loc_f (by simp only [TR, T2, twiceP, x0, x1, x2, x3, x4, x5, y0, y2]; omega)
    · show locT (TR X H 3 4 5) (TR X H 4 0 5) (TR X H 4 3 0) (TR X H 4 0 3) (TR X H 4 5 0) = false
      exact loc_f (by simp only [TR, T2, twiceP, x0, x1, x2, x3, x4, x5, y0, y2]; omega)
    · exact fun h => absurd h (by decide)
theorem w14_1_3 {X H : Nat → Int} (S : Sh14 X H) (W : WayR 6 X H 1 3) : Res 6 2 X H 1 3 := by
  obtain ⟨x0, x1, x2, x3, x4, x5, y0, y1, y2, y3, y4, y5⟩ := S
  have f4 : (0 < -(TR X H 5 4 1) ∧ 0 < TR X H 1 3 4) ∨ (-(TR X H 5 4 1) < 0 ∧ TR X H 1 3 4 < 0) := by
    have h0 : interP (X 1) (H 1) (X 3) (H 3) (X 4) (H 4) (X 5) (H 5) = false := W.fr 4 (by decide) (by decide) (by decide) (by decide) (by decide)
    have h := ns01 h0 (by omega) (by omega) (by omega) (by omega)
    rw [dl_2 (by omega), dr_1 (by omega)] at h
    exact h
  have z1 : TR X H 1 2 3 ≠ 0 := W.s1 rfl
  clear W
  simp only [TR, T2, twiceP, x0, x1, x2, x3, x4, x5, y0, y2] at f4 z1
  replace f4 := f4.resolve_right (by omega)
  refine ⟨true, false, ?_, ⟨?_, ?_⟩, ?_, ?_, ?_⟩
  · intro v hv a1 a2
    obtain rfl | rfl := (by omega : v = 0 ∨ v = 1)
    · exfalso; simp only [Nat.reduceAdd, Nat.zero_add] at a1 a2; omega
    · exact pos_c (by simp only [Nat.reduceAdd, Nat.zero_add, TR, T2, twiceP, x0, x1, x2, x3, x4, x5, y0, y2]; omega)
  · intro v hv hv2 a1 a2
    obtain rfl | rfl | rfl := (by omega : v = 2 ∨ v = 3 ∨ v = 4)
    · exfalso; simp only [Nat.reduceAdd, Nat.zero_add] at a1 a2; omega
    · exact neg_c (by simp only [Nat.reduceAdd, Nat.zero_add, TR, T2, twiceP, x0, x1, x2, x3, x4, x5, y0, y2]; omega)
    · exfalso; simp only [Nat.reduceAdd, Nat.zero_add] at a1 a2; omega
  · intro a1
    exfalso; simp only [Nat.reduceSub] at a1; omega
  · show locT (TR X H 0 1 2) (TR X H 1 3 2) (TR X H 1 0 3) (TR X H 1 3 0) (TR X H 1 2 3) = true
    exact loc_t (by simp only [TR, T2, twiceP, x0, x1, x2, x3, x4, x5, y0, y2]; omega)
  · show locT (TR X H 2 3 4) (TR X H 3 1 4) (TR X H 3 2 1) (TR X H 3 1 2) (TR X H 3 4 1) = true
    exact loc_t (by simp only [TR, T2, twiceP, x0, x1, x2, x3, x4, x5, y0, y2]; omega)
  · refine fun _ => .inl ⟨by omega, fun v hv n1 n2 a1 a2 => ?_⟩
    obtain rfl | rfl | rfl | rfl | rfl | rfl := (by omega : v = 0 ∨ v = 1 ∨ v = 2 ∨ v = 3 ∨ v = 4 ∨ v = 5)
    · exfalso; omega
    · exact absurd rfl n1
    · exfalso; omega
    · exact absurd rfl n2
    · exact .inr ⟨by omega, by simp only [TR, T2, twiceP, x0, x1, x2, x3, x4, x5, y0, y2]; omega⟩
    · exfalso; omega
theorem w14_1_4 {X H : Nat → Int} (S : Sh14 X H) (W : WayR 6 X H 1 4) : Res 6 2 X H 1 4 := by
  obtain ⟨x0, x1, x2, x3, x4, x5, y0, y1, y2, y3, y4, y5⟩ := S
  clear W
  refine ⟨true, false, ?_, ⟨?_, ?_⟩, ?_, ?_, ?_⟩
  · intro v hv a1 a2
    obtain rfl | rfl := (by omega : v = 0 ∨ v = 1)
    · exact pos_c (by simp only [Nat.reduceAdd, Nat.zero_add, TR, T2, twiceP, x0, x1, x2, x3, x4, x5, y0, y2]; omega)
    · exact pos_c (by simp only [Nat.reduceAdd, Nat.zero_add, TR, T2, twiceP, x0, x1, x2, x3, x4, x5, y0, y2]; omega)
  · intro v hv hv2 a1 a2
    obtain rfl | rfl | rfl := (by omega : v = 2 ∨ v = 3 ∨ v = 4)
    · exfalso; simp only [Nat.reduceAdd, Nat.zero_add] at a1 a2; omega
    · exact neg_c (by simp only [Nat.reduceAdd, Nat.zero_add, TR, T2, twiceP, x0, x1, x2, x3, x4, x5, y0, y2]; omega)
    · exact neg_c (by simp only [Nat.reduceAdd, Nat.zero_add, TR, T2, twiceP, x0, x1, x2, x3, x4, x5, y0, y2]; omega)
  · intro a1
    exfalso; simp only [Nat.reduceSub] at a1; omega
  · show locT (TR X H 0 1 2) (TR X H 1 4 2) (TR X H 1 0 4) (TR X H 1 4 0) (TR X H 1 2 4) = true
    exact loc_t (by simp only [TR, T2, twiceP, x0, x1, x2, x3, x4, x5, y0, y2]; omega)
  · show locT (TR X H 3 4 5) (TR X H 4 1 5) (TR X H 4 3 1) (TR X H 4 1 3) (TR X H 4 5 1) = true
    exact loc_t (by simp only [TR, T2, twiceP, x0, x1, x2, x3, x4, x5, y0, y2]; omega)
  · exact fun _ => .inr (.inr ⟨by omega, by omega, by omega⟩)
theorem w14_1_5 {X H : Nat → Int} (S : Sh14 X H) (W : WayR 6 X H 1 5) : Res 6 2 X H 1 5 := by
  obtain ⟨x0, x1, x2, x3, x4, x5, y0, y1, y2, y3, y4, y5⟩ := S
  have f3 : (0 < TR X H 5 1 4 ∧ 0 < -(TR X H 4 3 1)) ∨ (TR X H 5 1 4 < 0 ∧ -(TR X H 4 3 1) < 0) := by
    have h0 : interP (X 1) (H 1) (X 5) (H 5) (X 3) (H 3) (X 4) (H 4) = false := W.fr 3 (by decide) (by decide) (by decide) (by decide) (by decide)
    have h := ns11 h0 (by omega) (by omega) (by omega) (by omega)
    rw [dl_1 (by omega), dr_2 (by omega)] at h
    exact h
  have z2 : TR X H 5 0 1 ≠ 0 := W.s2 rfl
  clear W
  simp only [TR, T2, twiceP, x0, x1, x2, x3, x4, x5, y0, y2] at f3 z2
  replace f3 := f3.resolve_right (by omega)
  refine ⟨true, false, ?_, ⟨?_, ?_⟩, ?_, ?_, ?_⟩
  · intro v hv a1 a2
    obtain rfl | rfl := (by omega : v = 0 ∨ v = 1)
    · exact pos_c (by simp only [Nat.reduceAdd, Nat.zero_add, TR, T2, twiceP, x0, x1, x2, x3, x4, x5, y0, y2]; omega)
    · exfalso; simp only [Nat.reduceAdd, Nat.zero_add] at a1 a2; omega
  · intro v hv hv2 a1 a2
    obtain rfl | rfl | rfl := (by omega : v = 2 ∨ v = 3 ∨ v = 4)
    · exfalso; simp only [Nat.reduceAdd, Nat.zero_add] at a1 a2; omega
    · exfalso; simp only [Nat.reduceAdd, Nat.zero_add] at a1 a2; omega
    · exact neg_c (by simp only [Nat.reduceAdd, Nat.zero_add, TR, T2, twiceP, x0, x1, x2, x3, x4, x5, y0, y2]; omega)
  · intro a1
    exfalso; simp only [Nat.reduceSub] at a1; omega
  · show locT (TR X H 0 1 2) (TR X H 1 5 2) (TR X H 1 0 5) (TR X H 1 5 0) (TR X H 1 2 5) = true
    exact loc_t (by simp only [TR, T2, twiceP, x0, x1, x2, x3, x4, x5, y0, y2]; omega)
  · show locT (TR X H 4 5 0) (TR X H 5 1 0) (TR X H 5 4 1) (TR X H 5 1 4) (TR X H 5 0 1) = true
    exact loc_t (by simp only [TR, T2, twiceP, x0, x1, x2, x3, x4, x5, y0, y2]; omega)
  · refine fun _ => .inr <| .inl ⟨by omega, fun v hv n1 n2 a1 a2 => ?_⟩
    obtain rfl | rfl | rfl | rfl | rfl | rfl := (by omega : v = 0 ∨ v = 1 ∨ v = 2 ∨ v = 3 ∨ v = 4 ∨ v = 5)
    · exfalso; omega
    · exact absurd rfl n2
    · exfalso; omega
    · exfalso; omega
    · exact .inr ⟨by omega, by simp only [TR, T2, twiceP, x0, x1, x2, x3, x4, x5, y0, y2]; omega⟩
    · exact absurd rfl n1
theorem w14_2_4 {X H : Nat → Int} (S : Sh14 X H) (W : WayR 6 X H 2 4) : Res 6 2 X H 2 4 := by
  obtain ⟨x0, x1, x2, x3, x4, x5, y0, y1, y2, y3, y4, y5⟩ := S
  have f0 : (0 < -(TR X H 0 1 4) ∧ 0 < TR X H 4 2 1) ∨ (-(TR X H 0 1 4) < 0 ∧ TR X H 4 2 1 < 0) := by
    have h0 : interP (X 2) (H 2) (X 4) (H 4) (X 0) (H 0) (X 1) (H 1) = false := W.fr 0 (by decide) (by decide) (by decide) (by decide) (by decide)
    have h := ns10 h0 (by omega) (by omega) (by omega) (by omega)
    rw [dl_2 (by omega), dr_1 (by omega)] at h
    exact h
  have z1 : TR X H 2 3 4 ≠ 0 := W.s1 rfl
  clear W
  by_cases hc : 0 < TR X H 4 2 3
  · simp only [TR, T2, twiceP, x0, x1, x2, x3, x4, x5, y0, y2] at f0 z1 hc
    replace f0 := f0.resolve_left (by omega)
    refine ⟨true, false, ?_, ⟨?_, ?_⟩, ?_, ?_, ?_⟩
    · intro v hv a1 a2
      obtain rfl | rfl := (by omega : v = 0 ∨ v = 1)
      · exfalso; simp only [Nat.reduceAdd, Nat.zero_add] at a1 a2; omega
      · exact pos_c (by simp only [Nat.reduceAdd, Nat.zero_add, TR, T2, twiceP, x0, x1, x2, x3, x4, x5, y0, y2]; omega)
    · intro v hv hv2 a1 a2
      obtain rfl | rfl | rfl := (by omega : v = 2 ∨ v = 3 ∨ v = 4)
      · exact neg_c (by simp only [Nat.reduceAdd, Nat.zero_add, TR, T2, twiceP, x0, x1, x2, x3, x4, x5, y0, y2]; omega)
      · exact neg_c (by simp only [Nat.reduceAdd, Nat.zero_add, TR, T2, twiceP, x0, x1, x2, x3, x4, x5, y0, y2]; omega)
      · exfalso; simp only [Nat.reduceAdd, Nat.zero_add] at a1 a2; omega
    · intro a1
      exfalso; simp only [Nat.reduceSub] at a1; omega
    · show locT (TR X H 1 2 3) (TR X H 2 4 3) (TR X H 2 1 4) (TR X H 2 4 1) (TR X H 2 3 4) = true
      exact loc_t (by simp only [TR, T2, twiceP, x0, x1, x2, x3, x4, x5, y0, y2]; omega)
    · show locT (TR X H 3 4 5) (TR X H 4 2 5) (TR X H 4 3 2) (TR X H 4 2 3) (TR X H 4 5 2) = true
      exact loc_t (by simp only [TR, T2, twiceP, x0, x1, x2, x3, x4, x5, y0, y2]; omega)
    · refine fun _ => .inr <| .inl ⟨by omega, fun v hv n1 n2 a1 a2 => ?_⟩
      obtain rfl | rfl | rfl | rfl | rfl | rfl := (by omega : v = 0 ∨ v = 1 ∨ v = 2 ∨ v = 3 ∨ v = 4 ∨ v = 5)
      · exfalso; omega
      · exact .inl ⟨by omega, by simp only [TR, T2, twiceP, x0, x1, x2, x3, x4, x5, y0, y2]; omega⟩
      · exact absurd rfl n2
      · exact .inr ⟨by omega, by simp only [TR, T2, twiceP, x0, x1, x2, x3, x4, x5, y0, y2]; omega⟩
      · exact absurd rfl n1
      · exfalso; omega
  · simp only [TR, T2, twiceP, x0, x1, x2, x3, x4, x5, y0, y2] at f0 z1 hc
    replace f0 := f0.resolve_left (by omega)
    refine ⟨true, true, ?_, ⟨?_, ?_⟩, ?_, ?_, ?_⟩
    · intro v hv a1 a2
      obtain rfl | rfl := (by omega : v = 0 ∨ v = 1)
      · exfalso; simp only [Nat.reduceAdd, Nat.zero_add] at a1 a2; omega
      · exact pos_c (by simp only [Nat.reduceAdd, Nat.zero_add, TR, T2, twiceP, x0, x1, x2, x3, x4, x5, y0, y2]; omega)
    · intro v hv hv2 a1 a2
      obtain rfl | rfl | rfl := (by omega : v = 2 ∨ v = 3 ∨ v = 4)
      · exact pos_c (by simp only [Nat.reduceAdd, Nat.zero_add, TR, T2, twiceP, x0, x1, x2, x3, x4, x5, y0, y2]; omega)
      · exact pos_c (by simp only [Nat.reduceAdd, Nat.zero_add, TR, T2, twiceP, x0, x1, x2, x3, x4, x5, y0, y2]; omega)
      · exfalso; simp only [Nat.reduceAdd, Nat.zero_add] at a1 a2; omega
    · intro a1
      exfalso; simp only [Nat.reduceSub] at a1; omega
    · show locT (TR X H 1 2 3) (TR X H 2 4 3) (TR X H 2 1 4) (TR X H 2 4 1) (TR X H 2 3 4) = false
      exact loc_f (by simp only [TR, T2, twiceP, x0, x1, x2, x3, x4, x5, y0, y2]; omega)
    · show locT (TR X H 3 4 5) (TR X H 4 2 5) (TR X H 4 3 2) (TR X H 4 2 3) (TR X H 4 5 2) = false
      exact loc_f (by simp only [TR, T2, twiceP, x0, x1, x2, x3, x4, x5, y0, y2]; omega)
    · exact fun h => absurd h (by decide)
theorem w14_2_5 {X H : Nat → Int} (S : Sh14 X H) (W : WayR 6 X H 2 5) : Res 6 2 X H 2 5 := by
  obtain ⟨x0, x1, x2, x3, x4, x5, y0, y1, y2, y3, y4, y5⟩ := S
  have f0 : (0 < -(TR X H 0 1 5) ∧ 0 < TR X H 5 2 1) ∨ (-(TR X H 0 1 5) < 0 ∧ TR X H 5 2 1 < 0) := by
    have h0 : interP (X 2) (H 2) (X 5) (H 5) (X 0) (H 0) (X 1) (H 1) = false := W.fr 0 (by decide) (by decide) (by decide) (by decide) (by decide)
    have h := ns10 h0 (by omega) (by omega) (by omega) (by omega)
    rw [dl_2 (by omega), dr_1 (by omega)] at h
    exact h
  have f3 : (0 < TR X H 5 2 4 ∧ 0 < TR X H 5 2 3) ∨ (TR X H 5 2 4 < 0 ∧ TR X H 5 2 3 < 0) := by
    have h0 : interP (X 2) (H 2) (X 5) (H 5) (X 3) (H 3) (X 4) (H 4) = false := W.fr 3 (by decide) (by decide) (by decide) (by decide) (by decide)
    have h := ns11 h0 (by omega) (by omega) (by omega) (by omega)
    rw [dl_1 (by omega), dr_1 (by omega)] at h
    exact h
  clear W
  by_cases hc : 0 < TR X H 5 2 3
  · simp only [TR, T2, twiceP, x0, x1, x2, x3, x4, x5, y0, y2] at f0 f3 hc
    replace f0 := f0.resolve_left (by omega)
    replace f3 := f3.resolve_right (by omega)
    refine ⟨true, false, ?_, ⟨?_, ?_⟩, ?_, ?_, ?_⟩
    · intro v hv a1 a2
      obtain rfl | rfl := (by omega : v = 0 ∨ v = 1)
      · exfalso; simp only [Nat.reduceAdd, Nat.zero_add] at a1 a2; omega
      · exact pos_c (by simp only [Nat.reduceAdd, Nat.zero_add, TR, T2, twiceP, x0, x1, x2, x3, x4, x5, y0, y2]; omega)
    · intro v hv hv2 a1 a2
      obtain rfl | rfl | rfl := (by omega : v = 2 ∨ v = 3 ∨ v = 4)
      · exfalso; simp only [Nat.reduceAdd, Nat.zero_add] at a1 a2; omega
      · exact neg_c (by simp only [Nat.reduceAdd, Nat.zero_add, TR, T2, twiceP, x0, x1, x2, x3, x4, x5, y0, y2]; omega)
      · exfalso; simp only [Nat.reduceAdd, Nat.zero_add] at a1 a2; omega
    · intro a1
      exfalso; simp only [Nat.reduceSub] at a1; omega
    · show locT (TR X H 1 2 3) (TR X H 2 5 3) (TR X H 2 1 5) (TR X H 2 5 1) (TR X H 2 3 5) = true
      exact loc_t (by simp only [TR, T2, twiceP, x0, x1, x2, x3, x4, x5, y0, y2]; omega)
    · show locT (TR X H 4 5 0) (TR X H 5 2 0) (TR X H 5 4 2) (TR X H 5 2 4) (TR X H 5 0 2) = true
      exact loc_t (by simp only [TR, T2, twiceP, x0, x1, x2, x3, x4, x5, y0, y2]; omega)
    · refine fun _ => .inr <| .inl ⟨by omega, fun v hv n1 n2 a1 a2 => ?_⟩
      obtain rfl | rfl | rfl | rfl | rfl | rfl := (by omega : v = 0 ∨ v = 1 ∨ v = 2 ∨ v = 3 ∨ v = 4 ∨ v = 5)
      · exfalso; omega
      · exact .inl ⟨by omega, by simp only [TR, T2, twiceP, x0, x1, x2, x3, x4, x5, y0, y2]; omega⟩
      · exact absurd rfl n2
      · exact .inr ⟨by omega, by simp only [TR, T2, twiceP, x0, x1, x2, x3, x4, x5, y0, y2]; omega⟩
      · exact .inr ⟨by omega, by simp only [TR, T2, twiceP, x0, x1, x2, x3, x4, x5, y0, y2]; omega⟩
      · exact absurd rfl n1
  · simp only [TR, T2, twiceP, x0, x1, x2, x3, x4, x5, y0, y2] at f0 f3 hc
    replace f0 := f0.resolve_left (by omega)
    replace f3 := f3.resolve_left (by omega)
    refine ⟨true, true, ?_, ⟨?_, ?_⟩, ?_, ?_, ?_⟩
    · intro v hv a1 a2
      obtain rfl | rfl := (by omega : v = 0 ∨ v = 1)
      · exfalso; simp only [Nat.reduceAdd, Nat.zero_add] at a1 a2; omega
      · exact pos_c (by simp only [Nat.reduceAdd, Nat.zero_add, TR, T2, twiceP, x0, x1, x2, x3, x4, x5, y0, y2]; omega)
    · intro v hv hv2 a1 a2
      obtain rfl | rfl | rfl := (by omega : v = 2 ∨ v = 3 ∨ v = 4)
      · exfalso; simp only [Nat.reduceAdd, Nat.zero_add] at a1 a2; omega
      · exact pos_c (by simp only [Nat.reduceAdd, Nat.zero_add, TR, T2, twiceP, x0, x1, x2, x3, x4, x5, y0, y2]; omega)
      · exfalso; simp only [Nat.reduceAdd, Nat.zero_add] at a1 a2; omega
    · intro a1
      exfalso; simp only [Nat.reduceSub] at a1; omega
    · show locT (TR X H 1 2 3) (TR X H 2 5 3) (TR X H 2 1 5) (TR X H 2 5 1) (TR X H 2 3 5) = false
      exact loc_f (by simp only [TR, T2, twiceP, x0, x1, x2, x3, x4, x5, y0, y2]; omega)
    · show locT (TR X H 4 5 0) (TR X H 5 2 0) (TR X H 5 4 2) (TR X H 5 2 4) (TR X H 5 0 2) = false
      exact loc_f (by simp only [TR, T2, twiceP, x0, x1, x2, x3, x4, x5, y0, y2]; omega)
    · exact fun h => absurd h (by decide)
theorem w14_3_5 {X H : Nat → Int} (S : Sh14 X H) (W : WayR 6 X H 3 5) : Res 6 2 X H 3 5 := by
  obtain ⟨x0, x1, x2, x3, x4, x5, y0, y1, y2, y3, y4, y5⟩ := S
  have f0 : (0 < -(TR X H 0 1 5) ∧ 0 < TR X H 5 3 1) ∨ (-(TR X H 0 1 5) < 0 ∧ TR X H 5 3 1 < 0) := by
    have h0 : interP (X 3) (H 3) (X 5) (H 5) (X 0) (H 0) (X 1) (H 1) = false := W.fr 0 (by decide) (by decide) (by decide) (by decide) (by decide)
    have h := ns10 h0 (by omega) (by omega) (by omega) (by omega)
    rw [dl_2 (by omega), dr_1 (by omega)] at h
    exact h
  have f1 : (0 < TR X H 5 3 1 ∧ 0 < -(TR X H 1 2 3)) ∨ (TR X H 5 3 1 < 0 ∧ -(TR X H 1 2 3) < 0) := by
    have h0 : interP (X 3) (H 3) (X 5) (H 5) (X 1) (H 1) (X 2) (H 2) = false := W.fr 1 (by decide) (by decide) (by decide) (by decide) (by decide)
    have h := ns10 h0 (by omega) (by omega) (by omega) (by omega)
    rw [dl_1 (by omega), dr_2 (by omega)] at h
    exact h
  have z1 : TR X H 3 4 5 ≠ 0 := W.s1 rfl
  clear W
  by_cases hc : 0 < TR X H 5 3 4
  · simp only [TR, T2, twiceP, x0, x1, x2, x3, x4, x5, y0, y2] at f0 f1 z1 hc
    replace f0 := f0.resolve_left (by omega)
    replace f1 := f1.resolve_left (by omega)
    refine ⟨true, false, ?_, ⟨?_, ?_⟩, ?_, ?_, ?_⟩
    · intro v hv a1 a2
      obtain rfl | rfl := (by omega : v = 0 ∨ v = 1)
      · exact pos_c (by simp only [Nat.reduceAdd, Nat.zero_add, TR, T2, twiceP, x0, x1, x2, x3, x4, x5, y0, y2]; omega)
      · exact pos_c (by simp only [Nat.reduceAdd, Nat.zero_add, TR, T2, twiceP, x0, x1, x2, x3, x4, x5, y0, y2]; omega)
    · intro v hv hv2 a1 a2
      obtain rfl | rfl | rfl := (by omega : v = 2 ∨ v = 3 ∨ v = 4)
      · exfalso; simp only [Nat.reduceAdd, Nat.zero_add] at a1 a2; omega
      · exact neg_c (by simp only [Nat.reduceAdd, Nat.zero_add, TR, T2, twiceP, x0, x1, x2, x3, x4, x5, y0, y2]; omega)
      · exact neg_c (by simp only [Nat.reduceAdd, Nat.zero_add, TR, T2, twiceP, x0, x1, x2, x3, x4, x5, y0, y2]; omega)
    · intro a1
      exfalso; simp only [Nat.reduceSub] at a1; omega
    · show locT (TR X H 2 3 4) (TR X H 3 5 4) (TR X H 3 2 5) (TR X H 3 5 2) (TR X H 3 4 5) = true
      exact loc_t (by simp only [TR, T2, twiceP, x0, x1, x2, x3, x4, x5, y0, y2]; omega)
    · show locT (TR X H 4 5 0) (TR X H 5 3 0) (TR X H 5 4 3) (TR X H 5 3 4) (TR X H 5 0 3) = true
      exact loc_t (by simp only [TR, T2, twiceP, x0, x1, x2, x3, x4, x5, y0, y2]; omega)
    · refine fun _ => .inr <| .inl ⟨by omega, fun v hv n1 n2 a1 a2 => ?_⟩
      obtain rfl | rfl | rfl | rfl | rfl | rfl := (by omega : v = 0 ∨ v = 1 ∨ v = 2 ∨ v = 3 ∨ v = 4 ∨ v = 5)
      · exfalso; omega
      · exact .inl ⟨by omega, by simp only [TR, T2, twiceP, x0, x1, x2, x3, x4, x5, y0, y2]; omega⟩
      · exfalso; omega
      · exact absurd rfl n2
      · exact .inr ⟨by omega, by simp only [TR, T2, twiceP, x0, x1, x2, x3, x4, x5, y0, y2]; omega⟩
      · exact absurd rfl n1
  · simp only [TR, T2, twiceP, x0, x1, x2, x3, x4, x5, y0, y2] at f0 f1 z1 hc
    replace f0 := f0.resolve_left (by omega)
    replace f1 := f1.resolve_left (by omega)
    refine ⟨true, true, ?_, ⟨?_, ?_⟩, ?_, ?_, ?_⟩
    · intro v hv a1 a2
      obtain rfl | rfl := (by omega : v = 0 ∨ v = 1)
      · exact pos_c (by simp only [Nat.reduceAdd, Nat.zero_add, TR, T2, twiceP, x0, x1, x2, x3, x4, x5, y0, y2]; omega)
      · exact pos_c (by simp only [Nat.reduceAdd, Nat.zero_add, TR, T2, twiceP, x0, x1, x2, x3, x4, x5, y0, y2]; omega)
    · intro v hv hv2 a1 a2
      obtain rfl | rfl | rfl := (by omega : v = 2 ∨ v = 3 ∨ v = 4)
      · exfalso; simp only [Nat.reduceAdd, Nat.zero_add] at a1 a2; omega
      · exact pos_c (by simp only [Nat.reduceAdd, Nat.zero_add, TR, T2, twiceP, x0, x1, x2, x3, x4, x5, y0, y2]; omega)
      · exact pos_c (by simp only [Nat.reduceAdd, Nat.zero_add, TR, T2, twiceP, x0, x1, x2, x3, x4, x5, y0, y2]; omega)
    · intro a1
      exfalso; simp only [Nat.reduceSub] at a1; omega
    · show locT (TR X H 2 3 4) (TR X H 3 5 4) (TR X H 3 2 5) (TR X H 3 5 2) (TR X H 3 4 5) = false
      exact loc_f (by simp only [TR, T2, twiceP, x0, x1, x2, x3, x4, x5, y0, y2]; omega)
    · show locT (TR X H 4 5 0) (TR X H 5 3 0) (TR X H 5 4 3) (TR X H 5 3 4) (TR X H 5 0 3) = false
      exact loc_f (by simp only [TR, T2, twiceP, x0, x1, x2, x3, x4, x5, y0, y2]; omega)
    · exact fun h => absurd h (by decide)
theorem shape14 {X H : Nat → Int} (S : Sh14 X H) {i j : Nat} (W : WayR 6 X H i j) : Res 6 2 X H i j := by
  have hap := W.ap
  unfold Apart at hap
  obtain rfl | rfl | rfl | rfl : i = 0 ∨ i = 1 ∨ i = 2 ∨ i = 3 := by omega
  · obtain rfl | rfl | rfl : j = 2 ∨ j = 3 ∨ j = 4 := by omega
    · exact w14_0_2 S W
    · exact w14_0_3 S W
    · exact w14_0_4 S W
  · obtain rfl | rfl | rfl : j = 3 ∨ j = 4 ∨ j = 5 := by omega
    · exact w14_1_3 S W
    · exact w14_1_4 S W
    · exact w14_1_5 S W
  · obtain rfl | rfl : j = 4 ∨ j = 5 := by omega
    · exact w14_2_4 S W
    · exact w14_2_5 S W
  · obtain rfl : j = 5 := by omega
    · exact w14_3_5 S W

def Sh15 (X H : Nat → Int) : Prop := X 0 = 0 ∧ X 1 = 2 ∧ X 2 = 3 ∧ X 3 = 4 ∧ X 4 = 1 ∧ H 0 = 0 ∧ H 1 < 0 ∧ H 2 < 0 ∧ H 3 = 0 ∧ 0 < H 4
theorem ring15 {X H : Nat → Int} (S : Sh15 X H) : Ring 5 3 X H := by
  obtain ⟨x0, x1, x2, x3, x4, y0, y1, y2, y3, y4⟩ := S
  refine ⟨by omega, by omega, x0, ?_, ?_, ?_, y0, y3, ?_, ?_⟩
  · intro v hv
    obtain rfl | rfl | rfl := (by omega : v = 0 ∨ v = 1 ∨ v = 2) <;> (simp only [Nat.reduceAdd, Nat.zero_add]; omega)
  · intro v hv hv2
    obtain rfl := (by omega : v = 3)
    (simp only [Nat.reduceAdd, Nat.zero_add]; omega)
  · simp only [Nat.reduceSub]; omega
  · intro v hv hv2
    obtain rfl | rfl := (by omega : v = 1 ∨ v = 2) <;> assumption
  · intro v hv hv2
    obtain rfl := (by omega : v = 4)
    assumption
theorem w15_0_2 {X H : Nat → Int} (S : Sh15 X H) (W : WayR 5 X H 0 2) : Res 5 3 X H 0 2 := by
  obtain ⟨x0, x1, x2, x3, x4, y0, y1, y2, y3, y4⟩ := S
  have f3 : (0 < TR X H 0 2 4 ∧ 0 < -(TR X H 4 3 2)) ∨ (TR X H 0 2 4 < 0 ∧ -(TR X H 4 3 2) < 0) := by
    have h0 : interP (X 0) (H 0) (X 2) (H 2) (X 3) (H 3) (X 4) (H 4) = false := W.fr 3 (by decide) (by decide) (by decide) (by decide) (by decide)
    have h := ns01 h0 (by omega) (by omega) (by omega) (by omega)
    rw [dl_1 (by omega), dr_2 (by omega)] at h
    exact h
  have z1 : TR X H 0 1 2 ≠ 0 := W.s1 rfl
  clear W
  by_cases hc : TR X H 0 2 1 < 0
  · simp only [TR, T2, twiceP, x0, x1, x2, x3, x4, y0, y3] at f3 z1 hc
    replace f3 := f3.resolve_right (by omega)
    refine ⟨true, false, ?_, ⟨?_, ?_⟩, ?_, ?_, ?_⟩
    · intro v hv a1 a2
      obtain rfl | rfl | rfl := (by omega : v = 0 ∨ v = 1 ∨ v = 2)
      · exact pos_c (by simp only [Nat.reduceAdd, Nat.zero_add, TR, T2, twiceP, x0, x1, x2, x3, x4, y0, y3]; omega)
      · exfalso; simp only [Nat.reduceAdd, Nat.zero_add] at a1 a2; omega
      · exfalso; simp only [Nat.reduceAdd, Nat.zero_add] at a1 a2; omega
    · intro v hv hv2 a1 a2
      obtain rfl := (by omega : v = 3)
      · exact neg_c (by simp only [Nat.reduceAdd, Nat.zero_add, TR, T2, twiceP, x0, x1, x2, x3, x4, y0, y3]; omega)
    · intro a1
      exfalso; simp only [Nat.reduceSub] at a1; omega
    · show locT (TR X H 4 0 1) (TR X H 0 2 1) (TR X H 0 4 2) (TR X H 0 2 4) (TR X H 0 1 2) = true
      exact loc_t (by simp only [TR, T2, twiceP, x0, x1, x2, x3, x4, y0, y3]; omega)
    · show locT (TR X H 1 2 3) (TR X H 2 0 3) (TR X H 2 1 0) (TR X H 2 0 1) (TR X H 2 3 0) = true
      exact loc_t (by simp only [TR, T2, twiceP, x0, x1, x2, x3, x4, y0, y3]; omega)
    · refine fun _ => .inl ⟨by omega, fun v hv n1 n2 a1 a2 => ?_⟩
      obtain rfl | rfl | rfl | rfl | rfl := (by omega : v = 0 ∨ v = 1 ∨ v = 2 ∨ v = 3 ∨ v = 4)
      · exact absurd rfl n1
      · exact .inl ⟨by omega, by simp only [TR, T2, twiceP, x0, x1, x2, x3, x4, y0, y3]; omega⟩
      · exact absurd rfl n2
      · exfalso; omega
      · exact .inr ⟨by omega, by simp only [TR, T2, twiceP, x0, x1, x2, x3, x4, y0, y3]; omega⟩
  · simp only [TR, T2, twiceP, x0, x1, x2, x3, x4, y0, y3] at f3 z1 hc
    replace f3 := f3.resolve_right (by omega)
    refine ⟨false, false, ?_, ⟨?_, ?_⟩, ?_, ?_, ?_⟩
    · intro v hv a1 a2
      obtain rfl | rfl | rfl := (by omega : v = 0 ∨ v = 1 ∨ v = 2)
      · exact neg_c (by simp only [Nat.reduceAdd, Nat.zero_add, TR, T2, twiceP, x0, x1, x2, x3, x4, y0, y3]; omega)
      · exfalso; simp only [Nat.reduceAdd, Nat.zero_add] at a1 a2; omega
      · exfalso; simp only [Nat.reduceAdd, Nat.zero_add] at a1 a2; omega
    · intro v hv hv2 a1 a2
      obtain rfl := (by omega : v = 3)
      · exact neg_c (by simp only [Nat.reduceAdd, Nat.zero_add, TR, T2, twiceP, x0, x1, x2, x3, x4, y0, y3]; omega)
    · intro a1
      exfalso; simp only [Nat.reduceSub] at a1; omega
    · show locT (TR X H 4 0 1) (TR X H 0 2 1) (TR X H 0 4 2) (TR X H 0 2 4) (TR X H 0 1 2) = false
      exact loc_f (by simp only [TR, T2, twiceP, x0, x1, x2, x3, x4, y0, y3]; omega)
    · show locT (TR X H 1 2 3) (TR X H 2 0 3) (TR X H 2 1 0) (TR X H 2 0 1) (TR X H 2 3 0) = false
      exact loc_f (by simp only [TR, T2, twiceP, x0, x1, x2, x3, x4, y0, y3]; omega)
    · exact fun h => absurd h (by decide)
theorem w15_0_3 {X H : Nat → Int} (S : Sh15 X H) (W : WayR 5 X H 0 3) : Res 5 3 X H 0 3 := by
  obtain ⟨x0, x1, x2, x3, x4, y0, y1, y2, y3, y4⟩ := S
  have f1 : (0 < TR X H 0 3 1 ∧ 0 < TR X H 0 3 2) ∨ (TR X H 0 3 1 < 0 ∧ TR X H 0 3 2 < 0) := by
    have h0 : interP (X 0) (H 0) (X 3) (H 3) (X 1) (H 1) (X 2) (H 2) = false := W.fr 1 (by decide) (by decide) (by decide) (by decide) (by decide)
    have h := ns00 h0 (by omega) (by omega) (by omega) (by omega)
    rw [dl_1 (by omega), dr_1 (by omega)] at h
    exact h
  have z2 : TR X H 3 4 0 ≠ 0 := W.s2 rfl
  clear W
  simp only [TR, T2, twiceP, x0, x1, x2, x3, x4, y0, y3] at f1 z2
  replace f1 := f1.resolve_left (by omega)
  refine ⟨true, false, ?_, ⟨?_, ?_⟩, ?_, ?_, ?_⟩
  · intro v hv a1 a2
    obtain rfl | rfl | rfl := (by omega : v = 0 ∨ v = 1 ∨ v = 2)
    · exact pos_c (by simp only [Nat.reduceAdd, Nat.zero_add, TR, T2, twiceP, x0, x1, x2, x3, x4, y0, y3]; omega)
    · exact pos_c (by simp only [Nat.reduceAdd, Nat.zero_add, TR, T2, twiceP, x0, x1, x2, x3, x4, y0, y3]; omega)
    · exfalso; simp only [Nat.reduceAdd, Nat.zero_add] at a1 a2; omega
  · intro v hv hv2 a1 a2
    obtain rfl := (by omega : v = 3)
    · exact neg_c (by simp only [Nat.reduceAdd, Nat.zero_add, TR, T2, twiceP, x0, x1, x2, x3, x4, y0, y3]; omega)
  · intro a1
    exfalso; simp only [Nat.reduceSub] at a1; omega
  · show locT (TR X H 4 0 1) (TR X H 0 3 1) (TR X H 0 4 3) (TR X H 0 3 4) (TR X H 0 1 3) = true
    exact loc_t (by simp only [TR, T2, twiceP, x0, x1, x2, x3, x4, y0, y3]; omega)
  · show locT (TR X H 2 3 4) (TR X H 3 0 4) (TR X H 3 2 0) (TR X H 3 0 2) (TR X H 3 4 0) = true
    exact loc_t (by simp only [TR, T2, twiceP, x0, x1, x2, x3, x4, y0, y3]; omega)
  · refine fun _ => .inl ⟨by omega, fun v hv n1 n2 a1 a2 => ?_⟩
    obtain rfl | rfl | rfl | rfl | rfl := (by omega : v = 0 ∨ v = 1 ∨ v = 2 ∨ v = 3 ∨ v = 4)
    · exact absurd rfl n1
    · exact .inl ⟨by omega, by simp only [TR, T2, twiceP, x0, x1, x2, x3, x4, y0, y3]; omega⟩
    · exact .inl ⟨by omega, by simp only [TR, T2, twiceP, x0, x1, x2, x3, x4, y0, y3]; omega⟩
    · exact absurd rfl n2
    · exact .inr ⟨by omega, by simp only [TR, T2, twiceP, x0, x1, x2, x3, x4, y0, y3]; omega⟩
theorem w15_1_3 {X H : Nat → Int} (S : Sh15 X H) (W : WayR 5 X H 1 3) : Res 5 3 X H 1 3 := by
  obtain ⟨x0, x1, x2, x3, x4, y0, y1, y2, y3, y4⟩ := S
  have z1 : TR X H 1 2 3 ≠ 0 := W.s1 rfl
  clear W
  by_cases hc : TR X H 1 3 2 < 0
  · simp only [TR, T2, twiceP, x0, x1, x2, x3, x4, y0, y3] at z1 hc
    refine ⟨true, false, ?_, ⟨?_, ?_⟩, ?_, ?_, ?_⟩
    · intro v hv a1 a2
      obtain rfl | rfl | rfl := (by omega : v = 0 ∨ v = 1 ∨ v = 2)
      · exfalso; simp only [Nat.reduceAdd, Nat.zero_add] at a1 a2; omega
      · exact pos_c (by simp only [Nat.reduceAdd, Nat.zero_add, TR, T2, twiceP, x0, x1, x2, x3, x4, y0, y3]; omega)
      · exact pos_c (by simp only [Nat.reduceAdd, Nat.zero_add, TR, T2, twiceP, x0, x1, x2, x3, x4, y0, y3]; omega)
    · intro v hv hv2 a1 a2
      obtain rfl := (by omega : v = 3)
      · exact neg_c (by simp only [Nat.reduceAdd, Nat.zero_add, TR, T2, twiceP, x0, x1, x2, x3, x4, y0, y3]; omega)
    · intro a1
      exfalso; simp only [Nat.reduceSub] at a1; omega
    · show locT (TR X H 0 1 2) (TR X H 1 3 2) (TR X H 1 0 3) (TR X H 1 3 0) (TR X H 1 2 3) = true
      exact loc_t (by simp only [TR, T2, twiceP, x0, x1, x2, x3, x4, y0, y3]; omega)
    · show locT (TR X H 2 3 4) (TR X H 3 1 4) (TR X H 3 2 1) (TR X H 3 1 2) (TR X H 3 4 1) = true
      exact loc_t (by simp only [TR, T2, twiceP, x0, x1, x2, x3, x4, y0, y3]; omega)
    · refine fun _ => .inl ⟨by omega, fun v hv n1 n2 a1 a2 => ?_⟩
      obtain rfl | rfl | rfl | rfl | rfl := (by omega : v = 0 ∨ v = 1 ∨ v = 2 ∨ v = 3 ∨ v = 4)
      · exfalso; omega
      · exact absurd rfl n1
      · exact .inl ⟨by omega, by simp only [TR, T2, twiceP, x0, x1, x2, x3, x4, y0, y3]; omega⟩
      · exact absurd rfl n2
      · exfalso; omega
  · simp only [TR, T2, twiceP, x0, x1, x2, x3, x4, y0, y3] at z1 hc
    refine ⟨false, false, ?_, ⟨?_, ?_⟩, ?_, ?_, ?_⟩
    · intro v hv a1 a2
      obtain rfl | rfl | rfl := (by omega : v = 0 ∨ v = 1 ∨ v = 2)
      · exfalso; simp only [Nat.reduceAdd, Nat.zero_add] at a1 a2; omega
      · exact neg_c (by simp only [Nat.reduceAdd, Nat.zero_add, TR, T2, twiceP, x0, x1, x2, x3, x4, y0, y3]; omega)
      · exact neg_c (by simp only [Nat.reduceAdd, Nat.zero_add, TR, T2, twiceP, x0, x1, x2, x3, x4, y0, y3]; omega)
    · intro v hv hv2 a1 a2
      obtain rfl := (by omega : v = 3)
      · exact neg_c (by simp only [Nat.reduceAdd, Nat.zero_add, TR, T2, twiceP, x0, x1, x2, x3, x4, y0, y3]; omega)
    · intro a1
      exfalso; simp only [Nat.reduceSub] at a1; omega
    · show locT (TR X H 0 1 2) (TR X H 1 3 2) (TR X H 1 0 3) (TR X H 1 3 0) (TR X H 1 2 3) = false
      exact loc_f (by simp only [TR, T2, twiceP, x0, x1, x2, x3, x4, y0, y3]; omega)
    · show locT (TR X H 2 3 4) (TR X H 3 1 4) (TR X H 3 2 1) (TR X H 3 1 2) (TR X H 3 4 1) = false
      exact loc_f (by simp only [TR, T2, twiceP, x0, x1, x2, x3, x4, y0, y3]; omega)
    · exact fun h => absurd h (by decide)
theorem w15_1_4 {X H : Nat → Int} (S : Sh15 X H) (W : WayR 5 X H 1 4) : Res 5 3 X H 1 4 := by
  obtain ⟨x0, x1, x2, x3, x4, y0, y1, y2, y3, y4⟩ := S
  have z2 : TR X H 4 0 1 ≠ 0 := W.s2 rfl
  clear W
  simp only [TR, T2, twiceP, x0, x1, x2, x3, x4, y0, y3] at z2
  refine ⟨true, false, ?_, ⟨?_, ?_⟩, ?_, ?_, ?_⟩
  · intro v hv a1 a2
    obtain rfl | rfl | rfl := (by omega : v = 0 ∨ v = 1 ∨ v = 2)
    · exact pos_c (by simp only [Nat.reduceAdd, Nat.zero_add, TR, T2, twiceP, x0, x1, x2, x3, x4, y0, y3]; omega)
    · exfalso; simp only [Nat.reduceAdd, Nat.zero_add] at a1 a2; omega
    · exfalso; simp only [Nat.reduceAdd, Nat.zero_add] at a1 a2; omega
  · intro v hv hv2 a1 a2
    obtain rfl := (by omega : v = 3)
    · exact neg_c (by simp only [Nat.reduceAdd, Nat.zero_add, TR, T2, twiceP, x0, x1, x2, x3, x4, y0, y3]; omega)
  · intro a1
    exfalso; simp only [Nat.reduceSub] at a1; omega
  · show locT (TR X H 0 1 2) (TR X H 1 4 2) (TR X H 1 0 4) (TR X H 1 4 0) (TR X H 1 2 4) = true
    exact loc_t (by simp only [TR, T2, twiceP, x0, x1, x2, x3, x4, y0, y3]; omega)
  · show locT (TR X H 3 4 0) (TR X H 4 1 0) (TR X H 4 3 1) (TR X H 4 1 3) (TR X H 4 0 1) = true
    exact loc_t (by simp only [TR, T2, twiceP, x0, x1, x2, x3, x4, y0, y3]; omega)
  · refine fun _ => .inr <| .inl ⟨by omega, fun v hv n1 n2 a1 a2 => ?_⟩
    obtain rfl | rfl | rfl | rfl | rfl := (by omega : v = 0 ∨ v = 1 ∨ v = 2 ∨ v = 3 ∨ v = 4)
    · exfalso; omega
    · exact absurd rfl n2
    · exfalso; omega
    · exfalso; omega
    · exact absurd rfl n1
theorem w15_2_4 {X H : Nat → Int} (S : Sh15 X H) (W : WayR 5 X H 2 4) : Res 5 3 X H 2 4 := by
  obtain ⟨x0, x1, x2, x3, x4, y0, y1, y2, y3, y4⟩ := S
  have f0 : (0 < -(TR X H 0 1 4) ∧ 0 < TR X H 4 2 1) ∨ (-(TR X H 0 1 4) < 0 ∧ TR X H 4 2 1 < 0) := by
    have h0 : interP (X 2) (H 2) (X 4) (H 4) (X 0) (H 0) (X 1) (H 1) = false := W.fr 0 (by decide) (by decide) (by decide) (by decide) (by decide)
    have h := ns10 h0 (by omega) (by omega) (by omega) (by omega)
    rw [dl_2 (by omega), dr_1 (by omega)] at h
    exact h
  have z1 : TR X H 2 3 4 ≠ 0 := W.s1 rfl
  clear W
  simp only [TR, T2, twiceP, x0, x1, x2, x3, x4, y0, y3] at f0 z1
  replace f0 := f0.resolve_left (by omega)
  refine ⟨true, false, ?_, ⟨?_, ?_⟩, ?_, ?_, ?_⟩
  · intro v hv a1 a2
    obtain rfl | rfl | rfl := (by omega : v = 0 ∨ v = 1 ∨ v = 2)
    · exact pos_c (by simp only [Nat.reduceAdd, Nat.zero_add, TR, T2, twiceP, x0, x1, x2, x3, x4, y0, y3]; omega)
    · exact pos_c (by simp only [Nat.reduceAdd, Nat.zero_add, TR, T2, twiceP, x0, x1, x2, x3, x4, y0, y3]; omega)
    · exfalso; simp only [Nat.reduceAdd, Nat.zero_add] at a1 a2; omega
  · intro v hv hv2 a1 a2
    obtain rfl := (by omega : v = 3)
    · exact neg_c (by simp only [Nat.reduceAdd, Nat.zero_add, TR, T2, twiceP, x0, x1, x2, x3, x4, y0, y3]; omega)
  · intro a1
    exfalso; simp only [Nat.reduceSub] at a1; omega
  · show locT (TR X H 1 2 3) (TR X H 2 4 3) (TR X H 2 1 4) (TR X H 2 4 1) (TR X H 2 3 4) = true
    exact loc_t (by simp only [TR, T2, twiceP, x0, x1, x2, x3, x4, y0, y3]; omega)
  · show locT (TR X H 3 4 0) (TR X H 4 2 0) (TR X H 4 3 2) (TR X H 4 2 3) (TR X H 4 0 2) = true
    exact loc_t (by simp only [TR, T2, twiceP, x0, x1, x2, x3, x4, y0, y3]; omega)
  · refine fun _ => .inr <| .inl ⟨by omega, fun v hv n1 n2 a1 a2 => ?_⟩
    obtain rfl | rfl | rfl | rfl | rfl := (by omega : v = 0 ∨ v = 1 ∨ v = 2 ∨ v = 3 ∨ v = 4)
    · exfalso; omega
    · exact .inl ⟨by omega, by simp only [TR, T2, twiceP, x0, x1, x2, x3, x4, y0, y3]; omega⟩
    · exact absurd rfl n2
    · exfalso; omega
    · exact absurd rfl n1
theorem shape15 {X H : Nat → Int} (S : Sh15 X H) {i j : Nat} (W : WayR 5 X H i j) : Res 5 3 X H i j := by
  have hap := W.ap
  unfold Apart at hap
  obtain rfl | rfl | rfl : i = 0 ∨ i = 1 ∨ i = 2 := by omega
  · obtain rfl | rfl : j = 2 ∨ j = 3 := by omega
    · exact w15_0_2 S W
    · exact w15_0_3 S W
  · obtain rfl | rfl : j = 3 ∨ j = 4 := by omega
    · exact w15_1_3 S W
    · exact w15_1_4 S W
  · obtain rfl : j = 4 := by omega
    · exact w15_2_4 S W

def Sh16 (X H : Nat → Int) : Prop := X 0 = 0 ∧ X 1 = 2 ∧ X 2 = 4 ∧ X 3 = 3 ∧ X 4 = 1 ∧ H 0 = 0 ∧ H 1 < 0 ∧ H 2 = 0 ∧ 0 < H 3 ∧ 0 < H 4
theorem ring16 {X H : Nat → Int} (S : Sh16 X H) : Ring 5 2 X H := by
  obtain ⟨x0, x1, x2, x3, x4, y0, y1, y2, y3, y4⟩ := S
  refine ⟨by omega, by omega, x0, ?_, ?_, ?_, y0, y2, ?_, ?_⟩
  · intro v hv
    obtain rfl | rfl := (by omega : v = 0 ∨ v = 1) <;> (simp only [Nat.reduceAdd, Nat.zero_add]; omega)
  · intro v hv hv2
    obtain rfl | rfl := (by omega : v = 2 ∨ v = 3) <;> (simp only [Nat.reduceAdd, Nat.zero_add]; omega)
  · simp only [Nat.reduceSub]; omega
  · intro v hv hv2
    obtain rfl := (by omega : v = 1)
    assumption
  · intro v hv hv2
    obtain rfl | rfl := (by omega : v = 3 ∨ v = 4) <;> assumption
theorem w16_0_2 {X H : Nat → Int} (S : Sh16 X H) (W : WayR 5 X H 0 2) : Res 5 2 X H 0 2 := by
  obtain ⟨x0, x1, x2, x3, x4, y0, y1, y2, y3, y4⟩ := S
  have f3 : (0 < TR X H 0 2 4 ∧ 0 < TR X H 0 2 3) ∨ (TR X H 0 2 4 < 0 ∧ TR X H 0 2 3 < 0) := by
    have h0 : interP (X 0) (H 0) (X 2) (H 2) (X 3) (H 3) (X 4) (H 4) = false := W.fr 3 (by decide) (by decide) (by decide) (by decide) (by decide)
    have h := ns01 h0 (by omega) (by omega) (by omega) (by omega)
    rw [dl_1 (by omega), dr_1 (by omega)] at h
    exact h
  have z1 : TR X H 0 1 2 ≠ 0 := W.s1 rfl
  clear W
  simp only [TR, T2, twiceP, x0, x1, x2, x3, x4, y0, y2] at f3 z1
  replace f3 := f3.resolve_right (by omega)
  refine ⟨true, false, ?_, ⟨?_, ?_⟩, ?_, ?_, ?_⟩
  · intro v hv a1 a2
    obtain rfl | rfl := (by omega : v = 0 ∨ v = 1)
    · exact pos_c (by simp only [Nat.reduceAdd, Nat.zero_add, TR, T2, twiceP, x0, x1, x2, x3, x4, y0, y2]; omega)
    · exact pos_c (by simp only [Nat.reduceAdd, Nat.zero_add, TR, T2, twiceP, x0, x1, x2, x3, x4, y0, y2]; omega)
  · intro v hv hv2 a1 a2
    obtain rfl | rfl := (by omega : v = 2 ∨ v = 3)
    · exfalso; simp only [Nat.reduceAdd, Nat.zero_add] at a1 a2; omega
    · exact neg_c (by simp only [Nat.reduceAdd, Nat.zero_add, TR, T2, twiceP, x0, x1, x2, x3, x4, y0, y2]; omega)
  · intro a1
    exfalso; simp only [Nat.reduceSub] at a1; omega
  · show locT (TR X H 4 0 1) (TR X H 0 2 1) (TR X H 0 4 2) (TR X H 0 2 4) (TR X H 0 1 2) = true
    exact loc_t (by simp only [TR, T2, twiceP, x0, x1, x2, x3, x4, y0, y2]; omega)
  · show locT (TR X H 1 2 3) (TR X H 2 0 3) (TR X H 2 1 0) (TR X H 2 0 1) (TR X H 2 3 0) = true
    exact loc_t (by simp only [TR, T2, twiceP, x0, x1, x2, x3, x4, y0, y2]; omega)
  · refine fun _ => .inl ⟨by omega, fun v hv n1 n2 a1 a2 => ?_⟩
    obtain rfl | rfl | rfl | rfl | rfl := (by omega : v = 0 ∨ v = 1 ∨ v = 2 ∨ v = 3 ∨ v = 4)
    · exact absurd rfl n1
    · exact .inl ⟨by omega, by simp only [TR, T2, twiceP, x0, x1, x2, x3, x4, y0, y2]; omega⟩
    · exact absurd rfl n2
    · exact .inr ⟨by omega, by simp only [TR, T2, twiceP, x0, x1, x2, x3, x4, y0, y2]; omega⟩
    · exact .inr ⟨by omega, by simp only [TR, T2, twiceP, x0, x1, x2, x3, x4, y0, y2]; omega⟩
theorem w16_0_3 {X H : Nat → Int} (S : Sh16 X H) (W : WayR 5 X H 0 3) : Res 5 2 X H 0 3 := by
  obtain ⟨x0, x1, x2, x3, x4, y0, y1, y2, y3, y4⟩ := S
  have f1 : (0 < TR X H 0 3 1 ∧ 0 < -(TR X H 1 2 3)) ∨ (TR X H 0 3 1 < 0 ∧ -(TR X H 1 2 3) < 0) := by
    have h0 : interP (X 0) (H 0) (X 3) (H 3) (X 1) (H 1) (X 2) (H 2) = false := W.fr 1 (by decide) (by decide) (by decide) (by decide) (by decide)
    have h := ns00 h0 (by omega) (by omega) (by omega) (by omega)
    rw [dl_1 (by omega), dr_2 (by omega)] at h
    exact h
  have z2 : TR X H 3 4 0 ≠ 0 := W.s2 rfl
  clear W
  by_cases hc : 0 < TR X H 0 3 4
  · simp only [TR, T2, twiceP, x0, x1, x2, x3, x4, y0, y2] at f1 z2 hc
    replace f1 := f1.resolve_left (by omega)
    refine ⟨true, false, ?_, ⟨?_, ?_⟩, ?_, ?_, ?_⟩
    · intro v hv a1 a2
      obtain rfl | rfl := (by omega : v = 0 ∨ v = 1)
      · exact pos_c (by simp only [Nat.reduceAdd, Nat.zero_add, TR, T2, twiceP, x0, x1, x2, x3, x4, y0, y2]; omega)
      · exfalso; simp only [Nat.reduceAdd, Nat.zero_add] at a1 a2; omega
    · intro v hv hv2 a1 a2
      obtain rfl | rfl := (by omega : v = 2 ∨ v = 3)
      · exfalso; simp only [Nat.reduceAdd, Nat.zero_add] at a1 a2; omega
      · exact neg_c (by simp only [Nat.reduceAdd, Nat.zero_add, TR, T2, twiceP, x0, x1, x2, x3, x4, y0, y2]; omega)
    · intro a1
      exfalso; simp only [Nat.reduceSub] at a1; omega
    · show locT (TR X H 4 0 1) (TR X H 0 3 1) (TR X H 0 4 3) (TR X H 0 3 4) (TR X H 0 1 3) = true
      exact loc_t (by simp only [TR, T2, twiceP, x0, x1, x2, x3, x4, y0, y2]; omega)
    · show locT (TR X H 2 3 4) (TR X H 3 0 4) (TR X H 3 2 0) (TR X H 3 0 2) (TR X H 3 4 0) = true
      exact loc_t (by simp only [TR, T2, twiceP, x0, x1, x2, x3, x4, y0, y2]; omega)
    · refine fun _ => .inl ⟨by omega, fun v hv n1 n2 a1 a2 => ?_⟩
      obtain rfl | rfl | rfl | rfl | rfl := (by omega : v = 0 ∨ v = 1 ∨ v = 2 ∨ v = 3 ∨ v = 4)
      · exact absurd rfl n1
      · exact .inl ⟨by omega, by simp only [TR, T2, twiceP, x0, x1, x2, x3, x4, y0, y2]; omega⟩
      · exfalso; omega
      · exact absurd rfl n2
      · exact .inr ⟨by omega, by simp only [TR, T2, twiceP, x0, x1, x2, x3, x4, y0, y2]; omega⟩
  · simp only [TR, T2, twiceP, x0, x1, x2, x3, x4, y0, y2] at f1 z2 hc
    replace f1 := f1.resolve_left (by omega)
    refine ⟨true, true, ?_, ⟨?_, ?_⟩, ?_, ?_, ?_⟩
    · intro v hv a1 a2
      obtain rfl | rfl := (by omega : v = 0 ∨ v = 1)
      · exact pos_c (by simp only [Nat.reduceAdd, Nat.zero_add, TR, T2, twiceP, x0, x1, x2, x3, x4, y0, y2]; omega)
      · exfalso; simp only [Nat.reduceAdd, Nat.zero_add] at a1 a2; omega
    · intro v hv hv2 a1 a2
      obtain rfl | rfl := (by omega : v = 2 ∨ v = 3)
      · exfalso; simp only [Nat.reduceAdd, Nat.zero_add] at a1 a2; omega
      · exact pos_c (by simp only [Nat.reduceAdd, Nat.zero_add, TR, T2, twiceP, x0, x1, x2, x3, x4, y0, y2]; omega)
    · intro a1
      exfalso; simp only [Nat.reduceSub] at a1; omega
    · show locT (TR X H 4 0 1) (TR X H 0 3 1) (TR X H 0 4 3) (TR X H 0 3 4) (TR X H 0 1 3) = false
      exact loc_f (by simp only [TR, T2, twiceP, x0, x1, x2, x3, x4, y0, y2]; omega)
    · show locT (TR X H 2 3 4) (TR X H 3 0 4) (TR X H 3 2 0) (TR X H 3 0 2) (TR X H 3 4 0) = false
      exact loc_f (by simp only [TR, T2, twiceP, x0, x1, x2, x3, x4, y0, y2]; omega)
    · exact fun h => absurd h (by decide)
theorem w16_1_3 {X H : Nat → Int} (S : Sh16 X H) (W : WayR 5 X H 1 3) : Res 5 2 X H 1 3 := by
  obtain ⟨x0, x1, x2, x3, x4, y0, y1, y2, y3, y4⟩ := S
  have z1 : TR X H 1 2 3 ≠ 0 := W.s1 rfl
  clear W
  simp only [TR, T2, twiceP, x0, x1, x2, x3, x4, y0, y2] at z1
  refine ⟨true, false, ?_, ⟨?_, ?_⟩, ?_, ?_, ?_⟩
  · intro v hv a1 a2
    obtain rfl | rfl := (by omega : v = 0 ∨ v = 1)
    · exfalso; simp only [Nat.reduceAdd, Nat.zero_add] at a1 a2; omega
    · exact pos_c (by simp only [Nat.reduceAdd, Nat.zero_add, TR, T2, twiceP, x0, x1, x2, x3, x4, y0, y2]; omega)
  · intro v hv hv2 a1 a2
    obtain rfl | rfl := (by omega : v = 2 ∨ v = 3)
    · exfalso; simp only [Nat.reduceAdd, Nat.zero_add] at a1 a2; omega
    · exact neg_c (by simp only [Nat.reduceAdd, Nat.zero_add, TR, T2, twiceP, x0, x1, x2, x3, x4, y0, y2]; omega)
  · intro a1
    exfalso; simp only [Nat.reduceSub] at a1; omega
  · show locT (TR X H 0 1 2) (TR X H 1 3 2) (TR X H 1 0 3) (TR X H 1 3 0) (TR X H 1 2 3) = true
    exact loc_t (by simp only [TR, T2, twiceP, x0, x1, x2, x3, x4, y0, y2]; omega)
  · show locT (TR X H 2 3 4) (TR X H 3 1 4) (TR X H 3 2 1) (TR X H 3 1 2) (TR X H 3 4 1) = true
    exact loc_t (by simp only [TR, T2, twiceP, x0, x1, x2, x3, x4, y0, y2]; omega)
  · refine fun _ => .inl ⟨by omega, fun v hv n1 n2 a1 a2 => ?_⟩
    obtain rfl | rfl | rfl | rfl | rfl := (by omega : v = 0 ∨ v = 1 ∨ v = 2 ∨ v = 3 ∨ v = 4)
    · exfalso; omega
    · exact absurd rfl n1
    · exfalso; omega
    · exact absurd rfl n2
    · exfalso; omega
theorem w16_1_4 {X H : Nat → Int} (S : Sh16 X H) (W : WayR 5 X H 1 4) : Res 5 2 X H 1 4 := by
  obtain ⟨x0, x1, x2, x3, x4, y0, y1, y2, y3, y4⟩ := S
  have z2 : TR X H 4 0 1 ≠ 0 := W.s2 rfl
  clear W
  simp only [TR, T2, twiceP, x0, x1, x2, x3, x4, y0, y2] at z2
  refine ⟨true, false, ?_, ⟨?_, ?_⟩, ?_, ?_, ?_⟩
  · intro v hv a1 a2
    obtain rfl | rfl := (by omega : v = 0 ∨ v = 1)
    · exact pos_c (by simp only [Nat.reduceAdd, Nat.zero_add, TR, T2, twiceP, x0, x1, x2, x3, x4, y0, y2]; omega)
    · exfalso; simp only [Nat.reduceAdd, Nat.zero_add] at a1 a2; omega
  · intro v hv hv2 a1 a2
    obtain rfl | rfl := (by omega : v = 2 ∨ v = 3)
    · exfalso; simp only [Nat.reduceAdd, Nat.zero_add] at a1 a2; omega
    · exact neg_c (by simp only [Nat.reduceAdd, Nat.zero_add, TR, T2, twiceP, x0, x1, x2, x3, x4, y0, y2]; omega)
  · intro a1
    exfalso; simp only [Nat.reduceSub] at a1; omega
  · show locT (TR X H 0 1 2) (TR X H 1 4 2) (TR X H 1 0 4) (TR X H 1 4 0) (TR X H 1 2 4) = true
    exact loc_t (by simp only [TR, T2, twiceP, x0, x1, x2, x3, x4, y0, y2]; omega)
  · show locT (TR X H 3 4 0) (TR X H 4 1 0) (TR X H 4 3 1) (TR X H 4 1 3) (TR X H 4 0 1) = true
    exact loc_t (by simp only [TR, T2, twiceP, x0, x1, x2, x3, x4, y0, y2]; omega)
  · refine fun _ => .inr <| .inl ⟨by omega, fun v hv n1 n2 a1 a2 => ?_⟩
    obtain rfl | rfl | rfl | rfl | rfl := (by omega : v = 0 ∨ v = 1 ∨ v = 2 ∨ v = 3 ∨ v = 4)
    · exfalso; omega
    · exact absurd rfl n2
    · exfalso; omega
    · exfalso; omega
    · exact absurd rfl n1
theorem w16_2_4 {X H : Nat → Int} (S : Sh16 X H) (W : WayR 5 X H 2 4) : Res 5 2 X H 2 4 := by
  obtain ⟨x0, x1, x2, x3, x4, y0, y1, y2, y3, y4⟩ := S
  have f0 : (0 < -(TR X H 0 1 4) ∧ 0 < TR X H 4 2 1) ∨ (-(TR X H 0 1 4) < 0 ∧ TR X H 4 2 1 < 0) := by
    have h0 : interP (X 2) (H 2) (X 4) (H 4) (X 0) (H 0) (X 1) (H 1) = false := W.fr 0 (by decide) (by decide) (by decide) (by decide) (by decide)
    have h := ns10 h0 (by omega) (by omega) (by omega) (by omega)
    rw [dl_2 (by omega), dr_1 (by omega)] at h
    exact h
  have z1 : TR X H 2 3 4 ≠ 0 := W.s1 rfl
  clear W
  by_cases hc : 0 < TR X H 4 2 3
  · simp only [TR, T2, twiceP, x0, x1, x2, x3, x4, y0, y2] at f0 z1 hc
    replace f0 := f0.resolve_left (by omega)
    refine ⟨true, false, ?_, ⟨?_, ?_⟩, ?_, ?_, ?_⟩
    · intro v hv a1 a2
      obtain rfl | rfl := (by omega : v = 0 ∨ v = 1)
      · exfalso; simp only [Nat.reduceAdd, Nat.zero_add] at a1 a2; omega
      · exact pos_c (by simp only [Nat.reduceAdd, Nat.zero_add, TR, T2, twiceP, x0, x1, x2, x3, x4, y0, y2]; omega)
    · intro v hv hv2 a1 a2
      obtain rfl | rfl := (by omega : v = 2 ∨ v = 3)
      · exfalso; simp only [Nat.reduceAdd, Nat.zero_add] at a1 a2; omega
      · exact neg_c (by simp only [Nat.reduceAdd, Nat.zero_add, TR, T2, twiceP, x0, x1, x2, x3, x4, y0, y2]; omega)
    · intro a1
      exfalso; simp only [Nat.reduceSub] at a1; omega
    · show locT (TR X H 1 2 3) (TR X H 2 4 3) (TR X H 2 1 4) (TR X H 2 4 1) (TR X H 2 3 4) = true
      exact loc_t (by simp only [TR, T2, twiceP, x0, x1, x2, x3, x4, y0, y2]; omega)
    · show locT (TR X H 3 4 0) (TR X H 4 2 0) (TR X H 4 3 2) (TR X H 4 2 3) (TR X H 4 0 2) = true
      exact loc_t (by simp only [TR, T2, twiceP, x0, x1, x2, x3, x4, y0, y2]; omega)
    · refine fun _ => .inr <| .inl ⟨by omega, fun v hv n1 n2 a1 a2 => ?_⟩
      obtain rfl | rfl | rfl | rfl | rfl := (by omega : v = 0 ∨ v = 1 ∨ v = 2 ∨ v = 3 ∨ v = 4)
      · exfalso; omega
      · exact .inl ⟨by omega, by simp only [TR, T2, twiceP, x0, x1, x2, x3, x4, y0, y2]; omega⟩
      · exact absurd rfl n2
      · exact .inr ⟨by omega, by simp only [TR, T2, twiceP, x0, x1, x2, x3, x4, y0, y2]; omega⟩
      · exact absurd rfl n1
  · simp only [TR, T2, twiceP, x0, x1, x2, x3, x4, y0, y2] at f0 z1 hc
    replace f0 := f0.resolve_left (by omega)
    refine ⟨true, true, ?_, ⟨?_, ?_⟩, ?_, ?_, ?_⟩
    · intro v hv a1 a2
      obtain rfl | rfl := (by omega : v = 0 ∨ v = 1)
      · exfalso; simp only [Nat.reduceAdd, Nat.zero_add] at a1 a2; omega
      · exact pos_c (by simp only [Nat.reduceAdd, Nat.zero_add, TR, T2, twiceP, x0, x1, x2, x3, x4, y0, y2]; omega)
    · intro v hv hv2 a1 a2
      obtain rfl | rfl := (by omega : v = 2 ∨ v = 3)
      · exfalso; simp only [Nat.reduceAdd, Nat.zero_add] at a1 a2; omega
      · exact pos_c (by simp only [Nat.reduceAdd, Nat.zero_add, TR, T2, twiceP, x0, x1, x2, x3, x4, y0, y2]; omega)
    · intro a1
      exfalso; simp only [Nat.reduceSub] at a1; omega
    · show locT (TR X H 1 2 3) (TR X H 2 4 3) (TR X H 2 1 4) (TR X H 2 4 1) (TR X H 2 3 4) = false
      exact loc_f (by simp only [TR, T2, twiceP, x0, x1, x2, x3, x4, y0, y2]; omega)
    · show locT (TR X H 3 4 0) (TR X H 4 2 0) (TR X H 4 3 2) (TR X H 4 2 3) (TR X H 4 0 2) = false
      exact loc_f (by simp only [TR, T2, twiceP, x0, x1, x2, x3, x4, y0, y2]; omega)
    · exact fun h => absurd h (by decide)
theorem shape16 {X H : Nat → Int} (S : Sh16 X H) {i j : Nat} (W : WayR 5 X H i j) : Res 5 2 X H i j := by
  have hap := W.ap
  unfold Apart at hap
  obtain rfl | rfl | rfl : i = 0 ∨ i = 1 ∨ i = 2 := by omega
  · obtain rfl | rfl : j = 2 ∨ j = 3 := by omega
    · exact w16_0_2 S W
    · exact w16_0_3 S W
  · obtain rfl | rfl : j = 3 ∨ j = 4 := by omega
    · exact w16_1_3 S W
    · exact w16_1_4 S W
  · obtain rfl : j = 4 := by omega
    · exact w16_2_4 S W

def Sh17 (X H : Nat → Int) : Prop := X 0 = 0 ∧ X 1 = 3 ∧ X 2 = 4 ∧ X 3 = 2 ∧ X 4 = 1 ∧ H 0 = 0 ∧ H 1 < 0 ∧ H 2 = 0 ∧ 0 < H 3 ∧ 0 < H 4
theorem ring17 {X H : Nat → Int} (S : Sh17 X H) : Ring 5 2 X H := by
  obtain ⟨x0, x1, x2, x3, x4, y0, y1, y2, y3, y4⟩ := S
  refine ⟨by omega, by omega, x0, ?_, ?_, ?_, y0, y2, ?_, ?_⟩
  · intro v hv
    obtain rfl | rfl := (by omega : v = 0 ∨ v = 1) <;> (simp only [Nat.reduceAdd, Nat.zero_add]; omega)
  · intro v hv hv2
    obtain rfl | rfl := (by omega : v = 2 ∨ v = 3) <;> (simp only [Nat.reduceAdd, Nat.zero_add]; omega)
  · simp only [Nat.reduceSub]; omega
  · intro v hv hv2
    obtain rfl := (by omega : v = 1)
    assumption
  · intro v hv hv2
    obtain rfl | rfl := (by omega : v = 3 ∨ v = 4) <;> assumption
theorem w17_0_2 {X H : Nat → Int} (S : Sh17 X H) (W : WayR 5 X H 0 2) : Res 5 2 X H 0 2 := by
  obtain ⟨x0, x1, x2, x3, x4, y0, y1, y2, y3, y4⟩ := S
  have f3 : (0 < TR X H 0 2 4 ∧ 0 < TR X H 0 2 3) ∨ (TR X H 0 2 4 < 0 ∧ TR X H 0 2 3 < 0) := by
    have h0 : interP (X 0) (H 0) (X 2) (H 2) (X 3) (H 3) (X 4) (H 4) = false := W.fr 3 (by decide) (by decide) (by decide) (by decide) (by decide)
    have h := ns01 h0 (by omega) (by omega) (by omega) (by omega)
    rw [dl_1 (by omega), dr_1 (by omega)] at h
    exact h
  have z1 : TR X H 0 1 2 ≠ 0 := W.s1 rfl
  clear W
  simp only [TR, T2, twiceP, x0, x1, x2, x3, x4, y0, y2] at f3 z1
  replace f3 := f3.resolve_right (by omega)
  refine ⟨true, false, ?_, ⟨?_, ?_⟩, ?_, ?_, ?_⟩
  · intro v hv a1 a2
    obtain rfl | rfl := (by omega : v = 0 ∨ v = 1)
    · exact pos_c (by simp only [Nat.reduceAdd, Nat.zero_add, TR, T2, twiceP, x0, x1, x2, x3, x4, y0, y2]; omega)
    · exfalso; simp only [Nat.reduceAdd, Nat.zero_add] at a1 a2; omega
  · intro v hv hv2 a1 a2
    obtain rfl | rfl := (by omega : v = 2 ∨ v = 3)
    · exact neg_c (by simp only [Nat.reduceAdd, Nat.zero_add, TR, T2, twiceP, x0, x1, x2, x3, x4, y0, y2]; omega)
    · exact neg_c (by simp only [Nat.reduceAdd, Nat.zero_add, TR, T2, twiceP, x0, x1, x2, x3, x4, y0, y2]; omega)
  · intro a1
    exfalso; simp only [Nat.reduceSub] at a1; omega
  · show locT (TR X H 4 0 1) (TR X H 0 2 1) (TR X H 0 4 2) (TR X H 0 2 4) (TR X H 0 1 2) = true
    exact loc_t (by simp only [TR, T2, twiceP, x0, x1, x2, x3, x4, y0, y2]; omega)
  · show locT (TR X H 1 2 3) (TR X H 2 0 3) (TR X H 2 1 0) (TR X H 2 0 1) (TR X H 2 3 0) = true
    exact loc_t (by simp only [TR, T2, twiceP, x0, x1, x2, x3, x4, y0, y2]; omega)
  · refine fun _ => .inl ⟨by omega, fun v hv n1 n2 a1 a2 => ?_⟩
    obtain rfl | rfl | rfl | rfl | rfl := (by omega : v = 0 ∨ v = 1 ∨ v = 2 ∨ v = 3 ∨ v = 4)
    · exact absurd rfl n1
    · exact .inl ⟨by omega, by simp only [TR, T2, twiceP, x0, x1, x2, x3, x4, y0, y2]; omega⟩
    · exact absurd rfl n2
    · exact .inr ⟨by omega, by simp only [TR, T2, twiceP, x0, x1, x2, x3, x4, y0, y2]; omega⟩
    · exact .inr ⟨by omega, by simp only [TR, T2, twiceP, x0, x1, x2, x3, x4, y0, y2]; omega⟩
theorem w17_0_3 {X H : Nat → Int} (S : Sh17 X H) (W : WayR 5 X H 0 3) : Res 5 2 X H 0 3 := by
  obtain ⟨x0, x1, x2, x3, x4, y0, y1, y2, y3, y4⟩ := S
  have z2 : TR X H 3 4 0 ≠ 0 := W.s2 rfl
  clear W
  by_cases hc : 0 < TR X H 0 3 4
  · simp only [TR, T2, twiceP, x0, x1, x2, x3, x4, y0, y2] at z2 hc
    refine ⟨true, false, ?_, ⟨?_, ?_⟩, ?_, ?_, ?_⟩
    · intro v hv a1 a2
      obtain rfl | rfl := (by omega : v = 0 ∨ v = 1)
      · exact pos_c (by simp only [Nat.reduceAdd, Nat.zero_add, TR, T2, twiceP, x0, x1, x2, x3, x4, y0, y2]; omega)
      · exfalso; simp only [Nat.reduceAdd, Nat.zero_add] at a1 a2; omega
    · intro v hv hv2 a1 a2
      obtain rfl | rfl := (by omega : v = 2 ∨ v = 3)
      · exfalso; simp only [Nat.reduceAdd, Nat.zero_add] at a1 a2; omega
      · exact neg_c (by simp only [Nat.reduceAdd, Nat.zero_add, TR, T2, twiceP, x0, x1, x2, x3, x4, y0, y2]; omega)
    · intro a1
      exact neg_c (by simp only [Nat.reduceSub, TR, T2, twiceP, x0, x1, x2, x3, x4, y0, y2]; omega)
    · show locT (TR X H 4 0 1) (TR X H 0 3 1) (TR X H 0 4 3) (TR X H 0 3 4) (TR X H 0 1 3) = true
      exact loc_t (by simp only [TR, T2, twiceP, x0, x1, x2, x3, x4, y0, y2]; omega)
    · show locT (TR X H 2 3 4) (TR X H 3 0 4) (TR X H 3 2 0) (TR X H 3 0 2) (TR X H 3 4 0) = true
      exact loc_t (by simp only [TR, T2, twiceP, x0, x1, x2, x3, x4, y0, y2]; omega)
    · refine fun _ => .inl ⟨by omega, fun v hv n1 n2 a1 a2 => ?_⟩
      obtain rfl | rfl | rfl | rfl | rfl := (by omega : v = 0 ∨ v = 1 ∨ v = 2 ∨ v = 3 ∨ v = 4)
      · exact absurd rfl n1
      · exfalso; omega
      · exfalso; omega
      · exact absurd rfl n2
      · exact .inr ⟨by omega, by simp only [TR, T2, twiceP, x0, x1, x2, x3, x4, y0, y2]; omega⟩
  · simp only [TR, T2, twiceP, x0, x1, x2, x3, x4, y0, y2] at z2 hc
    refine ⟨true, true, ?_, ⟨?_, ?_⟩, ?_, ?_, ?_⟩
    · intro v hv a1 a2
      obtain rfl | rfl := (by omega : v = 0 ∨ v = 1)
      · exact pos_c (by simp only [Nat.reduceAdd, Nat.zero_add, TR, T2, twiceP, x0, x1, x2, x3, x4, y0, y2]; omega)
      · exfalso; simp only [Nat.reduceAdd, Nat.zero_add] at a1 a2; omega
    · intro v hv hv2 a1 a2
      obtain rfl | rfl := (by omega : v = 2 ∨ v = 3)
      · exfalso; simp only [Nat.reduceAdd, Nat.zero_add] at a1 a2; omega
      · exact pos_c (by simp only [Nat.reduceAdd, Nat.zero_add, TR, T2, twiceP, x0, x1, x2, x3, x4, y0, y2]; omega)
    · intro a1
      exact pos_c (by simp only [Nat.reduceSub, TR, T2, twiceP, x0, x1, x2, x3, x4, y0, y2]; omega)
    · show locT (TR X H 4 0 1) (TR X H 0 3 1) (TR X H 0 4 3) (TR X H 0 3 4) (TR X H 0 1 3) = false
      exact loc_f (by simp only [TR, T2, twiceP, x0, x1, x2, x3, x4, y0, y2]; omega)
    · show locT (TR X H 2 3 4) (TR X H 3 0 4) (TR X H 3 2 0) (TR X H 3 0 2) (TR X H 3 4 0) = false
      exact loc_f (by simp only [TR, T2, twiceP, x0, x1, x2, x3, x4, y0, y2]; omega)
    · exact fun h => absurd h (by decide)
theorem w17_1_3 {X H : Nat → Int} (S : Sh17 X H) (W : WayR 5 X H 1 3) : Res 5 2 X H 1 3 := by
  obtain ⟨x0, x1, x2, x3, x4, y0, y1, y2, y3, y4⟩ := S
  have z1 : TR X H 1 2 3 ≠ 0 := W.s1 rfl
  clear W
  simp only [TR, T2, twiceP, x0, x1, x2, x3, x4, y0, y2] at z1
  refine ⟨true, false, ?_, ⟨?_, ?_⟩, ?_, ?_, ?_⟩
  · intro v hv a1 a2
    obtain rfl | rfl := (by omega : v = 0 ∨ v = 1)
    · exact pos_c (by simp only [Nat.reduceAdd, Nat.zero_add, TR, T2, twiceP, x0, x1, x2, x3, x4, y0, y2]; omega)
    · exfalso; simp only [Nat.reduceAdd, Nat.zero_add] at a1 a2; omega
  · intro v hv hv2 a1 a2
    obtain rfl | rfl := (by omega : v = 2 ∨ v = 3)
    · exact neg_c (by simp only [Nat.reduceAdd, Nat.zero_add, TR, T2, twiceP, x0, x1, x2, x3, x4, y0, y2]; omega)
    · exfalso; simp only [Nat.reduceAdd, Nat.zero_add] at a1 a2; omega
  · intro a1
    exfalso; simp only [Nat.reduceSub] at a1; omega
  · show locT (TR X H 0 1 2) (TR X H 1 3 2) (TR X H 1 0 3) (TR X H 1 3 0) (TR X H 1 2 3) = true
    exact loc_t (by simp only [TR, T2, twiceP, x0, x1, x2, x3, x4, y0, y2]; omega)
  · show locT (TR X H 2 3 4) (TR X H 3 1 4) (TR X H 3 2 1) (TR X H 3 1 2) (TR X H 3 4 1) = true
    exact loc_t (by simp only [TR, T2, twiceP, x0, x1, x2, x3, x4, y0, y2]; omega)
  · refine fun _ => .inr <| .inl ⟨by omega, fun v hv n1 n2 a1 a2 => ?_⟩
    obtain rfl | rfl | rfl | rfl | rfl := (by omega : v = 0 ∨ v = 1 ∨ v = 2 ∨ v = 3 ∨ v = 4)
    · exfalso; omega
    · exact absurd rfl n2
    · exfalso; omega
    · exact absurd rfl n1
    · exfalso; omega
theorem w17_1_4 {X H : Nat → Int} (S : Sh17 X H) (W : WayR 5 X H 1 4) : Res 5 2 X H 1 4 := by
  obtain ⟨x0, x1, x2, x3, x4, y0, y1, y2, y3, y4⟩ := S
  have f2 : (0 < TR X H 4 1 3 ∧ 0 < -(TR X H 3 2 1)) ∨ (TR X H 4 1 3 < 0 ∧ -(TR X H 3 2 1) < 0) := by
    have h0 : interP (X 1) (H 1) (X 4) (H 4) (X 2) (H 2) (X 3) (H 3) = false := W.fr 2 (by decide) (by decide) (by decide) (by decide) (by decide)
    have h := ns11 h0 (by omega) (by omega) (by omega) (by omega)
    rw [dl_1 (by omega), dr_2 (by omega)] at h
    exact h
  have z2 : TR X H 4 0 1 ≠ 0 := W.s2 rfl
  clear W
  simp only [TR, T2, twiceP, x0, x1, x2, x3, x4, y0, y2] at f2 z2
  replace f2 := f2.resolve_right (by omega)
  refine ⟨true, false, ?_, ⟨?_, ?_⟩, ?_, ?_, ?_⟩
  · intro v hv a1 a2
    obtain rfl | rfl := (by omega : v = 0 ∨ v = 1)
    · exact pos_c (by simp only [Nat.reduceAdd, Nat.zero_add, TR, T2, twiceP, x0, x1, x2, x3, x4, y0, y2]; omega)
    · exfalso; simp only [Nat.reduceAdd, Nat.zero_add] at a1 a2; omega
  · intro v hv hv2 a1 a2
    obtain rfl | rfl := (by omega : v = 2 ∨ v = 3)
    · exact neg_c (by simp only [Nat.reduceAdd, Nat.zero_add, TR, T2, twiceP, x0, x1, x2, x3, x4, y0, y2]; omega)
    · exact neg_c (by simp only [Nat.reduceAdd, Nat.zero_add, TR, T2, twiceP, x0, x1, x2, x3, x4, y0, y2]; omega)
  · intro a1
    exfalso; simp only [Nat.reduceSub] at a1; omega
  · show locT (TR X H 0 1 2) (TR X H 1 4 2) (TR X H 1 0 4) (TR X H 1 4 0) (TR X H 1 2 4) = true
    exact loc_t (by simp only [TR, T2, twiceP, x0, x1, x2, x3, x4, y0, y2]; omega)
  · show locT (TR X H 3 4 0) (TR X H 4 1 0) (TR X H 4 3 1) (TR X H 4 1 3) (TR X H 4 0 1) = true
    exact loc_t (by simp only [TR, T2, twiceP, x0, x1, x2, x3, x4, y0, y2]; omega)
  · refine fun _ => .inr <| .inl ⟨by omega, fun v hv n1 n2 a1 a2 => ?_⟩
    obtain rfl | rfl | rfl | rfl | rfl := (by omega : v = 0 ∨ v = 1 ∨ v = 2 ∨ v = 3 ∨ v = 4)
    · exfalso; omega
    · exact absurd rfl n2
    · exfalso; omega
    · exact .inr ⟨by omega, by simp only [TR, T2, twiceP, x0, x1, x2, x3, x4, y0, y2]; omega⟩
    · exact absurd rfl n1
theorem w17_2_4 {X H : Nat → Int} (S : Sh17 X H) (W : WayR 5 X H 2 4) : Res 5 2 X H 2 4 := by
  obtain ⟨x0, x1, x2, x3, x4, y0, y1, y2, y3, y4⟩ := S
  have f0 : (0 < -(TR X H 0 1 4) ∧ 0 < TR X H 4 2 1) ∨ (-(TR X H 0 1 4) < 0 ∧ TR X H 4 2 1 < 0) := by
    have h0 : interP (X 2) (H 2) (X 4) (H 4) (X 0) (H 0) (X 1) (H 1) = false := W.fr 0 (by decide) (by decide) (by decide) (by decide) (by decide)
    have h := ns10 h0 (by omega) (by omega) (by omega) (by omega)
    rw [dl_2 (by omega), dr_1 (by omega)] at h
    exact h
  have z1 : TR X H 2 3 4 ≠ 0 := W.s1 rfl
  clear W
  by_cases hc : 0 < TR X H 4 2 3
  · simp only [TR, T2, twiceP, x0, x1, x2, x3, x4, y0, y2] at f0 z1 hc
    replace f0 := f0.resolve_left (by omega)
    refine ⟨true, false, ?_, ⟨?_, ?_⟩, ?_, ?_, ?_⟩
    · intro v hv a1 a2
      obtain rfl | rfl := (by omega : v = 0 ∨ v = 1)
      · exact pos_c (by simp only [Nat.reduceAdd, Nat.zero_add, TR, T2, twiceP, x0, x1, x2, x3, x4, y0, y2]; omega)
      · exfalso; simp only [Nat.reduceAdd, Nat.zero_add] at a1 a2; omega
    · intro v hv hv2 a1 a2
      obtain rfl | rfl := (by omega : v = 2 ∨ v = 3)
      · exact neg_c (by simp only [Nat.reduceAdd, Nat.zero_add, TR, T2, twiceP, x0, x1, x2, x3, x4, y0, y2]; omega)
      · exfalso; simp only [Nat.reduceAdd, Nat.zero_add] at a1 a2; omega
    · intro a1
      exfalso; simp only [Nat.reduceSub] at a1; omega
    · show locT (TR X H 1 2 3) (TR X H 2 4 3) (TR X H 2 1 4) (TR X H 2 4 1) (TR X H 2 3 4) = true
      exact loc_t (by simp only [TR, T2, twiceP, x0, x1, x2, x3, x4, y0, y2]; omega)
    · show locT (TR X H 3 4 0) (TR X H 4 2 0) (TR X H 4 3 2) (TR X H 4 2 3) (TR X H 4 0 2) = true
      exact loc_t (by simp only [TR, T2, twiceP, x0, x1, x2, x3, x4, y0, y2]; omega)
    · refine fun _ => .inr <| .inl ⟨by omega, fun v hv n1 n2 a1 a2 => ?_⟩
      obtain rfl | rfl | rfl | rfl | rfl := (by omega : v = 0 ∨ v = 1 ∨ v = 2 ∨ v = 3 ∨ v = 4)
      · exfalso; omega
      · exact .inl ⟨by omega, by simp only [TR, T2, twiceP, x0, x1, x2, x3, x4, y0, y2]; omega⟩
      · exact absurd rfl n2
      · exact .inr ⟨by omega, by simp only [TR, T2, twiceP, x0, x1, x2, x3, x4, y0, y2]; omega⟩
      · exact absurd rfl n1
  · simp only [TR, T2, twiceP, x0, x1, x2, x3, x4, y0, y2] at f0 z1 hc
    replace f0 := f0.resolve_left (by omega)
    refine ⟨true, true, ?_, ⟨?_, ?_⟩, ?_, ?_, ?_⟩
    · intro v hv a1 a2
      obtain rfl | rfl := (by omega : v = 0 ∨ v = 1)
      · exact pos_c (by simp only [Nat.reduceAdd, Nat.zero_add, TR, T2, twiceP, x0, x1, x2, x3, x4, y0, y2]; omega)
      · exfalso; simp only [Nat.reduceAdd, Nat.zero_add] at a1 a2; omega
    · intro v hv hv2 a1 a2
      obtain rfl | rfl := (by omega : v = 2 ∨ v = 3)
      · exact pos_c (by simp only [Nat.reduceAdd, Nat.zero_add, TR, T2, twiceP, x0, x1, x2, x3, x4, y0, y2]; omega)
      · exfalso; simp only [Nat.reduceAdd, Nat.zero_add] at a1 a2; omega
    · intro a1
      exfalso; simp only [Nat.reduceSub] at a1; omega
    · show locT (TR X H 1 2 3) (TR X H 2 4 3) (TR X H 2 1 4) (TR X H 2 4 1) (TR X H 2 3 4) = false
      exact loc_f (by simp only [TR, T2, twiceP, x0, x1, x2, x3, x4, y0, y2]; omega)
    · show locT (TR X H 3 4 0) (TR X H 4 2 0) (TR X H 4 3 2) (TR X H 4 2 3) (TR X H 4 0 2) = false
      exact loc_f (by simp only [TR, T2, twiceP, x0, x1, x2, x3, x4, y0, y2]; omega)
    · exact fun h => absurd h (by decide)
theorem shape17 {X H : Nat → Int} (S : Sh17 X H) {i j : Nat} (W : WayR 5 X H i j) : Res 5 2 X H i j := by
  have hap := W.ap
  unfold Apart at hap
  obtain rfl | rfl | rfl : i = 0 ∨ i = 1 ∨ i = 2 := by omega
  · obtain rfl | rfl : j = 2 ∨ j = 3 := by omega
    · exact w17_0_2 S W
    · exact w17_0_3 S W
  · obtain rfl | rfl : j = 3 ∨ j = 4 := by omega
    · exact w17_1_3 S W
    · exact w17_1_4 S W
  · obtain rfl : j = 4 := by omega
    · exact w17_2_4 S W

def Sh18 (X H : Nat → Int) : Prop := X 0 = 0 ∧ X 1 = 4 ∧ X 2 = 3 ∧ X 3 = 2 ∧ X 4 = 1 ∧ H 0 = 0 ∧ H 1 = 0 ∧ 0 < H 2 ∧ 0 < H 3 ∧ 0 < H 4
theorem ring18 {X H : Nat → Int} (S : Sh18 X H) : Ring 5 1 X H := by
  obtain ⟨x0, x1, x2, x3, x4, y0, y1, y2, y3, y4⟩ := S
  refine ⟨by omega, by omega, x0, ?_, ?_, ?_, y0, y1, ?_, ?_⟩
  · intro v hv
    obtain rfl := (by omega : v = 0)
    (simp only [Nat.reduceAdd, Nat.zero_add]; omega)
  · intro v hv hv2
    obtain rfl | rfl | rfl := (by omega : v = 1 ∨ v = 2 ∨ v = 3) <;> (simp only [Nat.reduceAdd, Nat.zero_add]; omega)
  · simp only [Nat.reduceSub]; omega
  · intro v hv hv2
    omega
  · intro v hv hv2
    obtain rfl | rfl | rfl := (by omega : v = 2 ∨ v = 3 ∨ v = 4) <;> assumption
theorem w18_0_2 {X H : Nat → Int} (S : Sh18 X H) (W : WayR 5 X H 0 2) : Res 5 1 X H 0 2 := by
  obtain ⟨x0, x1, x2, x3, x4, y0, y1, y2, y3, y4⟩ := S
  have f3 : (0 < TR X H 0 2 4 ∧ 0 < TR X H 0 2 3) ∨ (TR X H 0 2 4 < 0 ∧ TR X H 0 2 3 < 0) := by
    have h0 : interP (X 0) (H 0) (X 2) (H 2) (X 3) (H 3) (X 4) (H 4) = false := W.fr 3 (by decide) (by decide) (by decide) (by decide) (by decide)
    have h := ns01 h0 (by omega) (by omega) (by omega) (by omega)
    rw [dl_1 (by omega), dr_1 (by omega)] at h
    exact h
  have z1 : TR X H 0 1 2 ≠ 0 := W.s1 rfl
  clear W
  by_cases hc : 0 < TR X H 0 2 3
  · simp only [TR, T2, twiceP, x0, x1, x2, x3, x4, y0, y1] at f3 z1 hc
    replace f3 := f3.resolve_right (by omega)
    refine ⟨true, false, ?_, ⟨?_, ?_⟩, ?_, ?_, ?_⟩
    · intro v hv a1 a2
      obtain rfl := (by omega : v = 0)
      · exact pos_c (by simp only [Nat.reduceAdd, Nat.zero_add, TR, T2, twiceP, x0, x1, x2, x3, x4, y0, y1]; omega)
    · intro v hv hv2 a1 a2
      obtain rfl | rfl | rfl := (by omega : v = 1 ∨ v = 2 ∨ v = 3)
      · exfalso; simp only [Nat.reduceAdd, Nat.zero_add] at a1 a2; omega
      · exfalso; simp only [Nat.reduceAdd, Nat.zero_add] at a1 a2; omega
      · exact neg_c (by simp only [Nat.reduceAdd, Nat.zero_add, TR, T2, twiceP, x0, x1, x2, x3, x4, y0, y1]; omega)
    · intro a1
      exfalso; simp only [Nat.reduceSub] at a1; omega
    · show locT (TR X H 4 0 1) (TR X H 0 2 1) (TR X H 0 4 2) (TR X H 0 2 4) (TR X H 0 1 2) = true
      exact loc_t (by simp only [TR, T2, twiceP, x0, x1, x2, x3, x4, y0, y1]; omega)
    · show locT (TR X H 1 2 3) (TR X H 2 0 3) (TR X H 2 1 0) (TR X H 2 0 1) (TR X H 2 3 0) = true
      exact loc_t (by simp only [TR, T2, twiceP, x0, x1, x2, x3, x4, y0, y1]; omega)
    · refine fun _ => .inl ⟨by omega, fun v hv n1 n2 a1 a2 => ?_⟩
      obtain rfl | rfl | rfl | rfl | rfl := (by omega : v = 0 ∨ v = 1 ∨ v = 2 ∨ v = 3 ∨ v = 4)
      · exact absurd rfl n1
      · exfalso; omega
      · exact absurd rfl n2
      · exact .inr ⟨by omega, by simp only [TR, T2, twiceP, x0, x1, x2, x3, x4, y0, y1]; omega⟩
      · exact .inr ⟨by omega, by simp only [TR, T2, twiceP, x0, x1, x2, x3, x4, y0, y1]; omega⟩
  · simp only [TR, T2, twiceP, x0, x1, x2, x3, x4, y0, y1] at f3 z1 hc
    replace f3 := f3.resolve_left (by omega)
    refine ⟨true, true, ?_, ⟨?_, ?_⟩, ?_, ?_, ?_⟩
    · intro v hv a1 a2
      obtain rfl := (by omega : v = 0)
      · exact pos_c (by simp only [Nat.reduceAdd, Nat.zero_add, TR, T2, twiceP, x0, x1, x2, x3, x4, y0, y1]; omega)
    · intro v hv hv2 a1 a2
      obtain rfl | rfl | rfl := (by omega : v = 1 ∨ v = 2 ∨ v = 3)
      · exfalso; simp only [Nat.reduceAdd, Nat.zero_add] at a1 a2; omega
      · exfalso; simp only [Nat.reduceAdd, Nat.zero_add] at a1 a2; omega
      · exact pos_c (by simp only [Nat.reduceAdd, Nat.zero_add, TR, T2, twiceP, x0, x1, x2, x3, x4, y0, y1]; omega)
    · intro a1
      exfalso; simp only [Nat.reduceSub] at a1; omega
    · show locT (TR X H 4 0 1) (TR X H 0 2 1) (TR X H 0 4 2) (TR X H 0 2 4) (TR X H 0 1 2) = false
      exact loc_f (by simp only [TR, T2, twiceP, x0, x1, x2, x3, x4, y0, y1]; omega)
    · show locT (TR X H 1 2 3) (TR X H 2 0 3) (TR X H 2 1 0) (TR X H 2 0 1) (TR X H 2 3 0) = false
      exact loc_f (by simp only [TR, T2, twiceP, x0, x1, x2, x3, x4, y0, y1]; omega)
    · exact fun h => absurd h (by decide)
theorem w18_0_3 {X H : Nat → Int} (S : Sh18 X H) (W : WayR 5 X H 0 3) : Res 5 1 X H 0 3 := by
  obtain ⟨x0, x1, x2, x3, x4, y0, y1, y2, y3, y4⟩ := S
  have z2 : TR X H 3 4 0 ≠ 0 := W.s2 rfl
  clear W
  by_cases hc : 0 < TR X H 0 3 4
  · simp only [TR, T2, twiceP, x0, x1, x2, x3, x4, y0, y1] at z2 hc
    refine ⟨true, false, ?_, ⟨?_, ?_⟩, ?_, ?_, ?_⟩
    · intro v hv a1 a2
      obtain rfl := (by omega : v = 0)
      · exact pos_c (by simp only [Nat.reduceAdd, Nat.zero_add, TR, T2, twiceP, x0, x1, x2, x3, x4, y0, y1]; omega)
    · intro v hv hv2 a1 a2
      obtain rfl | rfl | rfl := (by omega : v = 1 ∨ v = 2 ∨ v = 3)
      · exfalso; simp only [Nat.reduceAdd, Nat.zero_add] at a1 a2; omega
      · exfalso; simp only [Nat.reduceAdd, Nat.zero_add] at a1 a2; omega
      · exact neg_c (by simp only [Nat.reduceAdd, Nat.zero_add, TR, T2, twiceP, x0, x1, x2, x3, x4, y0, y1]; omega)
    · intro a1
      exact neg_c (by simp only [Nat.reduceSub, TR, T2, twiceP, x0, x1, x2, x3, x4, y0, y1]; omega)
    · show locT (TR X H 4 0 1) (TR X H 0 3 1) (TR X H 0 4 3) (TR X H 0 3 4) (TR X H 0 1 3) = true
      exact loc_t (by simp only [TR, T2, twiceP, x0, x1, x2, x3, x4, y0, y1]; omega)
    · show locT (TR X H 2 3 4) (TR X H 3 0 4) (TR X H 3 2 0) (TR X H 3 0 2) (TR X H 3 4 0) = true
      exact loc_t (by simp only [TR, T2, twiceP, x0, x1, x2, x3, x4, y0, y1]; omega)
    · refine fun _ => .inl ⟨by omega, fun v hv n1 n2 a1 a2 => ?_⟩
      obtain rfl | rfl | rfl | rfl | rfl := (by omega : v = 0 ∨ v = 1 ∨ v = 2 ∨ v = 3 ∨ v = 4)
      · exact absurd rfl n1
      · exfalso; omega
      · exfalso; omega
      · exact absurd rfl n2
      · exact .inr ⟨by omega, by simp only [TR, T2, twiceP, x0, x1, x2, x3, x4, y0, y1]; omega⟩
  · simp only [TR, T2, twiceP, x0, x1, x2, x3, x4, y0, y1] at z2 hc
    refine ⟨true, true, ?_, ⟨?_, ?_⟩, ?_, ?_, ?_⟩
    · intro v hv a1 a2
      obtain rfl := (by omega : v = 0)
      · exact pos_c (by simp only [Nat.reduceAdd, Nat.zero_add, TR, T2, twiceP, x0, x1, x2, x3, x4, y0, y1]; omega)
    · intro v hv hv2 a1 a2
      obtain rfl | rfl | rfl := (by omega : v = 1 ∨ v = 2 ∨ v = 3)
      · exfalso; simp only [Nat.reduceAdd, Nat.zero_add] at a1 a2; omega
      · exfalso; simp only [Nat.reduceAdd, Nat.zero_add] at a1 a2; omega
      · exact pos_c (by simp only [Nat.reduceAdd, Nat.zero_add, TR, T2, twiceP, x0, x1, x2, x3, x4, y0, y1]; omega)
    · intro a1
      exact pos_c (by simp only [Nat.reduceSub, TR, T2, twiceP, x0, x1, x2, x3, x4, y0, y1]; omega)
    · show locT (TR X H 4 0 1) (TR X H 0 3 1) (TR X H 0 4 3) (TR X H 0 3 4) (TR X H 0 1 3) = false
      exact loc_f (by simp only [TR, T2, twiceP, x0, x1, x2, x3, x4, y0, y1]; omega)
    · show locT (TR X H 2 3 4) (TR X H 3 0 4) (TR X H 3 2 0) (TR X H 3 0 2) (TR X H 3 4 0) = false
      exact loc_f (by simp only [TR, T2, twiceP, x0, x1, x2, x3, x4, y0, y1]; omega)
    · exact fun h => absurd h (by decide)
theorem w18_1_3 {X H : Nat → Int} (S : Sh18 X H) (W : WayR 5 X H 1 3) : Res 5 1 X H 1 3 := by
  obtain ⟨x0, x1, x2, x3, x4, y0, y1, y2, y3, y4⟩ := S
  have z1 : TR X H 1 2 3 ≠ 0 := W.s1 rfl
  clear W
  by_cases hc : 0 < TR X H 3 1 2
  · simp only [TR, T2, twiceP, x0, x1, x2, x3, x4, y0, y1] at z1 hc
    refine ⟨true, false, ?_, ⟨?_, ?_⟩, ?_, ?_, ?_⟩
    · intro v hv a1 a2
      obtain rfl := (by omega : v = 0)
      · exact pos_c (by simp only [Nat.reduceAdd, Nat.zero_add, TR, T2, twiceP, x0, x1, x2, x3, x4, y0, y1]; omega)
    · intro v hv hv2 a1 a2
      obtain rfl | rfl | rfl := (by omega : v = 1 ∨ v = 2 ∨ v = 3)
      · exact neg_c (by simp only [Nat.reduceAdd, Nat.zero_add, TR, T2, twiceP, x0, x1, x2, x3, x4, y0, y1]; omega)
      · exact neg_c (by simp only [Nat.reduceAdd, Nat.zero_add, TR, T2, twiceP, x0, x1, x2, x3, x4, y0, y1]; omega)
      · exfalso; simp only [Nat.reduceAdd, Nat.zero_add] at a1 a2; omega
    · intro a1
      exfalso; simp only [Nat.reduceSub] at a1; omega
    · show locT (TR X H 0 1 2) (TR X H 1 3 2) (TR X H 1 0 3) (TR X H 1 3 0) (TR X H 1 2 3) = true
      exact loc_t (by simp only [TR, T2, twiceP, x0, x1, x2, x3, x4, y0, y1]; omega)
    · show locT (TR X H 2 3 4) (TR X H 3 1 4) (TR X H 3 2 1) (TR X H 3 1 2) (TR X H 3 4 1) = true
      exact loc_t (by simp only [TR, T2, twiceP, x0, x1, x2, x3, x4, y0, y1]; omega)
    · refine fun _ => .inr <| .inl ⟨by omega, fun v hv n1 n2 a1 a2 => ?_⟩
      obtain rfl | rfl | rfl | rfl | rfl := (by omega : v = 0 ∨ v = 1 ∨ v = 2 ∨ v = 3 ∨ v = 4)
      · exfalso; omega
      · exact absurd rfl n2
      · exact .inr ⟨by omega, by simp only [TR, T2, twiceP, x0, x1, x2, x3, x4, y0, y1]; omega⟩
      · exact absurd rfl n1
      · exfalso; omega
  · simp only [TR, T2, twiceP, x0, x1, x2, x3, x4, y0, y1] at z1 hc
    refine ⟨true, true, ?_, ⟨?_, ?_⟩, ?_, ?_, ?_⟩
    · intro v hv a1 a2
      obtain rfl := (by omega : v = 0)
      · exact pos_c (by simp only [Nat.reduceAdd, Nat.zero_add, TR, T2, twiceP, x0, x1, x2, x3, x4, y0, y1]; omega)
    · intro v hv hv2 a1 a2
      obtain rfl | rfl | rfl := (by omega : v = 1 ∨ v = 2 ∨ v = 3)
      · exact pos_c (by simp only [Nat.reduceAdd, Nat.zero_add, TR, T2, twiceP, x0, x1, x2, x3, x4, y0, y1]; omega)
      · exact pos_c (by simp only [Nat.reduceAdd, Nat.zero_add, TR, T2, twiceP, x0, x1, x2, x3, x4, y0, y1]; omega)
      · exfalso; simp only [Nat.reduceAdd, Nat.zero_add] at a1 a2; omega
    · intro a1
      exfalso; simp only [Nat.reduceSub] at a1; omega
    · show locT (TR X H 0 1 2) (TR X H 1 3 2) (TR X H 1 0 3) (TR X H 1 3 0) (TR X H 1 2 3) = false
      exact loc_f (by simp only [TR, T2, twiceP, x0, x1, x2, x3, x4, y0, y1]; omega)
    · show locT (TR X H 2 3 4) (TR X H 3 1 4) (TR X H 3 2 1) (TR X H 3 1 2) (TR X H 3 4 1) = false
      exact loc_f (by simp only [TR, T2, twiceP, x0, x1, x2, x3, x4, y0, y1]; omega)
    · exact fun h => absurd h (by decide)
theorem w18_1_4 {X H : Nat → Int} (S : Sh18 X H) (W : WayR 5 X H 1 4) : Res 5 1 X H 1 4 := by
  obtain ⟨x0, x1, x2, x3, x4, y0, y1, y2, y3, y4⟩ := S
  have f2 : (0 < TR X H 4 1 3 ∧ 0 < TR X H 4 1 2) ∨ (TR X H 4 1 3 < 0 ∧ TR X H 4 1 2 < 0) := by
    have h0 : interP (X 1) (H 1) (X 4) (H 4) (X 2) (H 2) (X 3) (H 3) = false := W.fr 2 (by decide) (by decide) (by decide) (by decide) (by decide)
    have h := ns11 h0 (by omega) (by omega) (by omega) (by omega)
    rw [dl_1 (by omega), dr_1 (by omega)] at h
    exact h
  have z2 : TR X H 4 0 1 ≠ 0 := W.s2 rfl
  clear W
  by_cases hc : 0 < TR X H 4 1 2
  · simp only [TR, T2, twiceP, x0, x1, x2, x3, x4, y0, y1] at f2 z2 hc
    replace f2 := f2.resolve_right (by omega)
    refine ⟨true, false, ?_, ⟨?_, ?_⟩, ?_, ?_, ?_⟩
    · intro v hv a1 a2
      obtain rfl := (by omega : v = 0)
      · exact pos_c (by simp only [Nat.reduceAdd, Nat.zero_add, TR, T2, twiceP, x0, x1, x2, x3, x4, y0, y1]; omega)
    · intro v hv hv2 a1 a2
      obtain rfl | rfl | rfl := (by omega : v = 1 ∨ v = 2 ∨ v = 3)
      · exfalso; simp only [Nat.reduceAdd, Nat.zero_add] at a1 a2; omega
      · exact neg_c (by simp only [Nat.reduceAdd, Nat.zero_add, TR, T2, twiceP, x0, x1, x2, x3, x4, y0, y1]; omega)
      · exfalso; simp only [Nat.reduceAdd, Nat.zero_add] at a1 a2; omega
    · intro a1
      exfalso; simp only [Nat.reduceSub] at a1; omega
    · show locT (TR X H 0 1 2) (TR X H 1 4 2) (TR X H 1 0 4) (TR X H 1 4 0) (TR X H 1 2 4) = true
      exact loc_t (by simp only [TR, T2, twiceP, x0, x1, x2, x3, x4, y0, y1]; omega)
    · show locT (TR X H 3 4 0) (TR X H 4 1 0) (TR X H 4 3 1) (TR X H 4 1 3) (TR X H 4 0 1) = true
      exact loc_t (by simp only [TR, T2, twiceP, x0, x1, x2, x3, x4, y0, y1]; omega)
    · refine fun _ => .inr <| .inl ⟨by omega, fun v hv n1 n2 a1 a2 => ?_⟩
      obtain rfl | rfl | rfl | rfl | rfl := (by omega : v = 0 ∨ v = 1 ∨ v = 2 ∨ v = 3 ∨ v = 4)
      · exfalso; omega
      · exact absurd rfl n2
      · exact .inr ⟨by omega, by simp only [TR, T2, twiceP, x0, x1, x2, x3, x4, y0, y1]; omega⟩
      · exact .inr ⟨by omega, by simp only [TR, T2, twiceP, x0, x1, x2, x3, x4, y0, y1]; omega⟩
      · exact absurd rfl n1
  · simp only [TR, T2, twiceP, x0, x1, x2, x3, x4, y0, y1] at f2 z2 hc
    replace f2 := f2.resolve_left (by omega)
    refine ⟨true, true, ?_, ⟨?_, ?_⟩, ?_, ?_, ?_⟩
    · intro v hv a1 a2
      obtain rfl := (by omega : v = 0)
      · exact pos_c (by simp only [Nat.reduceAdd, Nat.zero_add, TR, T2, twiceP, x0, x1, x2, x3, x4, y0, y1]; omega)
    · intro v hv hv2 a1 a2
      obtain rfl | rfl | rfl := (by omega : v = 1 ∨ v = 2 ∨ v = 3)
      · exfalso; simp only [Nat.reduceAdd, Nat.zero_add] at a1 a2; omega
      · exact pos_c (by simp only [Nat.reduceAdd, Nat.zero_add, TR, T2, twiceP, x0, x1, x2, x3, x4, y0, y1]; omega)
      · exfalso; simp only [Nat.reduceAdd, Nat.zero_add] at a1 a2; omega
    · intro a1
      exfalso; simp only [Nat.reduceSub] at a1; omega
    · show locT (TR X H 0 1 2) (TR X H 1 4 2) (TR X H 1 0 4) (TR X H 1 4 0) (TR X H 1 2 4) = false
      exact loc_f (by simp only [TR, T2, twiceP, x0, x1, x2, x3, x4, y0, y1]; omega)
    · show locT (TR X H 3 4 0) (TR X H 4 1 0) (TR X H 4 3 1) (TR X H 4 1 3) (TR X H 4 0 1) = false
      exact loc_f (by simp only [TR, T2, twiceP, x0, x1, x2, x3, x4, y0, y1]; omega)
    · exact fun h => absurd h (by decide)
theorem w18_2_4 {X H : Nat → Int} (S : Sh18 X H) (W : WayR 5 X H 2 4) : Res 5 1 X H 2 4 := by
  obtain ⟨x0, x1, x2, x3, x4, y0, y1, y2, y3, y4⟩ := S
  have f0 : (0 < -(TR X H 0 1 4) ∧ 0 < -(TR X H 0 1 2)) ∨ (-(TR X H 0 1 4) < 0 ∧ -(TR X H 0 1 2) < 0) := by
    have h0 : interP (X 2) (H 2) (X 4) (H 4) (X 0) (H 0) (X 1) (H 1) = false := W.fr 0 (by decide) (by decide) (by decide) (by decide) (by decide)
    have h := ns10 h0 (by omega) (by omega) (by omega) (by omega)
    rw [dl_2 (by omega), dr_2 (by omega)] at h
    exact h
  have z1 : TR X H 2 3 4 ≠ 0 := W.s1 rfl
  clear W
  by_cases hc : 0 < TR X H 4 2 3
  · simp only [TR, T2, twiceP, x0, x1, x2, x3, x4, y0, y1] at f0 z1 hc
    replace f0 := f0.resolve_left (by omega)
    refine ⟨true, false, ?_, ⟨?_, ?_⟩, ?_, ?_, ?_⟩
    · intro v hv a1 a2
      obtain rfl := (by omega : v = 0)
      · exact pos_c (by simp only [Nat.reduceAdd, Nat.zero_add, TR, T2, twiceP, x0, x1, x2, x3, x4, y0, y1]; omega)
    · intro v hv hv2 a1 a2
      obtain rfl | rfl | rfl := (by omega : v = 1 ∨ v = 2 ∨ v = 3)
      · exfalso; simp only [Nat.reduceAdd, Nat.zero_add] at a1 a2; omega
      · exact neg_c (by simp only [Nat.reduceAdd, Nat.zero_add, TR, T2, twiceP, x0, x1, x2, x3, x4, y0, y1]; omega)
      · exact neg_c (by simp only [Nat.reduceAdd, Nat.zero_add, TR, T2, twiceP, x0, x1, x2, x3, x4, y0, y1]; omega)
    · intro a1
      exfalso; simp only [Nat.reduceSub] at a1; omega
    · show locT (TR X H 1 2 3) (TR X H 2 4 3) (TR X H 2 1 4) (TR X H 2 4 1) (TR X H 2 3 4) = true
      exact loc_t (by simp only [TR, T2, twiceP, x0, x1, x2, x3, x4, y0, y1]; omega)
    · show locT (TR X H 3 4 0) (TR X H 4 2 0) (TR X H 4 3 2) (TR X H 4 2 3) (TR X H 4 0 2) = true
      exact loc_t (by simp only [TR, T2, twiceP, x0, x1, x2, x3, x4, y0, y1]; omega)
    · refine fun _ => .inr <| .inl ⟨by omega, fun v hv n1 n2 a1 a2 => ?_⟩
      obtain rfl | rfl | rfl | rfl | rfl := (by omega : v = 0 ∨ v = 1 ∨ v = 2 ∨ v = 3 ∨ v = 4)
      · exfalso; omega
      · exfalso; omega
      · exact absurd rfl n2
      · exact .inr ⟨by omega, by simp only [TR, T2, twiceP, x0, x1, x2, x3, x4, y0, y1]; omega⟩
      · exact absurd rfl n1
  · simp only [TR, T2, twiceP, x0, x1, x2, x3, x4, y0, y1] at f0 z1 hc
    replace f0 := f0.resolve_left (by omega)
    refine ⟨true, true, ?_, ⟨?_, ?_⟩, ?_, ?_, ?_⟩
    · intro v hv a1 a2
      obtain rfl := (by omega : v = 0)
      · exact pos_c (by simp only [Nat.reduceAdd, Nat.zero_add, TR, T2, twiceP, x0, x1, x2, x3, x4, y0, y1]; omega)
    · intro v hv hv2 a1 a2
      obtain rfl | rfl | rfl := (by omega : v = 1 ∨ v = 2 ∨ v = 3)
      · exfalso; simp only [Nat.reduceAdd, Nat.zero_add] at a1 a2; omega
      · exact pos_c (by simp only [Nat.reduceAdd, Nat.zero_add, TR, T2, twiceP, x0, x1, x2, x3, x4, y0, y1]; omega)
      · exact pos_c (by simp only [Nat.reduceAdd, Nat.zero_add, TR, T2, twiceP, x0, x1, x2, x3, x4, y0, y1]; omega)
    · intro a1
      exfalso; simp only [Nat.reduceSub] at a1; omega
    · show locT (TR X H 1 2 3) (TR X H 2 4 3) (TR X H 2 1 4) (TR X H 2 4 1) (TR X H 2 3 4) = false
      exact loc_f (by simp only [TR, T2, twiceP, x0, x1, x2, x3, x4, y0, y1]; omega)
    · show locT (TR X H 3 4 0) (TR X H 4 2 0) (TR X H 4 3 2) (TR X H 4 2 3) (TR X H 4 0 2) = false
      exact loc_f (by simp only [TR, T2, twiceP, x0, x1, x2, x3, x4, y0, y1]; omega)
    · exact fun h => absurd h (by decide)
theorem shape18 {X H : Nat → Int} (S : Sh18 X H) {i j : Nat} (W : WayR 5 X H i j) : Res 5 1 X H i j := by
  have hap := W.ap
  unfold Apart at hap
  obtain rfl | rfl | rfl : i = 0 ∨ i = 1 ∨ i = 2 := by omega
  · obtain rfl | rfl : j = 2 ∨ j = 3 := by omega
    · exact w18_0_2 S W
    · exact w18_0_3 S W
  · obtain rfl | rfl : j = 3 ∨ j = 4 := by omega
    · exact w18_1_3 S W
    · exact w18_1_4 S W
  · obtain rfl : j = 4 := by omega
    · exact w18_2_4 S W

end Mine
end

section
namespace Mine
theorem getD_tr {q : List (Int × Int)} {f : Int × Int → Int × Int} (h0 : f (0, 0) = (0, 0)) (i : Nat) : (q.map f).getD i (0, 0) = f (q.getD i (0, 0)) := by
  rw [List.getD_eq_getElem?_getD, List.getD_eq_getElem?_getD, List.getElem?_map]
  cases q[i]? with
  | none => exact h0.symm
  | some x => rfl
theorem corners_shape0 {ps : List (Int × Int)} (h : CornersP ps) (k : ∀ B A, Chains 3 B A → ∃ n M, (ringP B A).length = n ∧ Ring n M (px (ringP B A)) (py (ringP B A)) ∧ ∀ i j, WayR n (px (ringP B A)) (py (ringP B A)) i j → Res n M (px (ringP B A)) (py (ringP B A)) i j) :
    ∃ (n M : Nat) (X H : Nat → Int) (b : Bool) (s : Int), ps.length = n ∧ px ps = (fun i => trx b s (X i) (H i)) ∧ py ps = (fun i => trY b s (X i) (H i)) ∧ Ring n M X H ∧ ∀ i j, WayR n X H i j → Res n M X H i j := by
  obtain ⟨B, A, s, hC, h⟩ := h
  obtain ⟨n, M, hl, hR, hW⟩ := k B A hC
  have z : shr s (0, 0) = (0, 0) := by simp [shr]
  rcases h with rfl | rfl
  · refine ⟨n, M, _, _, false, s, by rw [List.length_map]; exact hl, ?_, ?_, hR, hW⟩
    · funext i; show (List.getD _ i (0, 0)).1 = _; rw [getD_tr z]; rfl
    · funext i; show (List.getD _ i (0, 0)).2 = _; rw [getD_tr z]; rfl
  · refine ⟨n, M, _, _, true, s, by rw [List.length_map, List.length_map]; exact hl, ?_, ?_, hR, hW⟩
    · funext i; show (List.getD _ i (0, 0)).1 = _; rw [getD_tr rfl, getD_tr z]; rfl
    · funext i; show (List.getD _ i (0, 0)).2 = _; rw [getD_tr rfl, getD_tr z]; rfl
theorem corners_shape {ps : List (Int × Int)} (h : CornersP ps) : ∃ (n M : Nat) (X H : Nat → Int) (b : Bool) (s : Int), ps.length = n ∧ px ps = (fun i => trx b s (X i) (H i)) ∧ py ps = (fun i => trY b s (X i) (H i)) ∧ Ring n M X H ∧ ∀ i j, WayR n X H i j → Res n M X H i j := by
  refine corners_shape0 h fun B A hC => ?_
  obtain ⟨B₁, A₁, B₂, A₂, ⟨b1, a1, hb1, ha1, c1⟩, ⟨b2, a2, hb2, ha2, c2⟩, ⟨b3, a3, hb3, ha3, c3⟩⟩ := hC
  rcases c1 with ⟨rfl, rfl⟩ | ⟨rfl, rfl⟩ | ⟨rfl, rfl⟩
  · rcases c2 with ⟨rfl, rfl⟩ | ⟨rfl, rfl⟩ | ⟨rfl, rfl⟩
    · rcases c3 with ⟨rfl, rfl⟩ | ⟨rfl, rfl⟩ | ⟨rfl, rfl, hl⟩
      · have S : Sh0 (px (ringP ((([] ++ [(1, b1)]) ++ [(2, b2)]) ++ [(3, b3)]) (([] ++ [(1, a1)]) ++ [(2, a2)]))) (py (ringP ((([] ++ [(1, b1)]) ++ [(2, b2)]) ++ [(3, b3)]) (([] ++ [(1, a1)]) ++ [(2, a2)]))) := ⟨rfl, rfl, rfl, rfl, rfl, rfl, rfl, rfl, (by show (b1 : Int) < 0; omega), (by show (b2 : Int) < 0; omega), (by show (b3 : Int) < 0; omega), rfl, (by show (0 : Int) < a2; omega), (by show (0 : Int) < a1; omega)⟩
        exact ⟨7, 4, rfl, ring0 S, fun i j W => shape0 S W⟩
      · have S : Sh1 (px (ringP (([] ++ [(1, b1)]) ++ [(2, b2)]) ((([] ++ [(1, a1)]) ++ [(2, a2)]) ++ [(3, a3)]))) (py (ringP (([] ++ [(1, b1)]) ++ [(2, b2)]) ((([] ++ [(1, a1)]) ++ [(2, a2)]) ++ [(3, a3)]))) := ⟨rfl, rfl, rfl, rfl, rfl, rfl, rfl, rfl, (by show (b1 : Int) < 0; omega), (by show (b2 : Int) < 0; omega), rfl, (by show (0 : Int) < a3; omega), (by show (0 : Int) < a2; omega), (by show (0 : Int) < a1; omega)⟩
        exact ⟨7, 3, rfl, ring1 S, fun i j W => shape1 S W⟩
      · have S : Sh2 (px (ringP (([] ++ [(1, b1)]) ++ [(2, b2)]) (([] ++ [(1, a1)]) ++ [(2, a2)]))) (py (ringP (([] ++ [(1, b1)]) ++ [(2, b2)]) (([] ++ [(1, a1)]) ++ [(2, a2)]))) := ⟨rfl, rfl, rfl, rfl, rfl, rfl, rfl, (by show (b1 : Int) < 0; omega), (by show (b2 : Int) < 0; omega), rfl, (by show (0 : Int) < a2; omega), (by show (0 : Int) < a1; omega)⟩
        exact ⟨6, 3, rfl, ring2 S, fun i j W => shape2 S W⟩
    · rcases c3 with ⟨rfl, rfl⟩ | ⟨rfl, rfl⟩ | ⟨rfl, rfl, hl⟩
      · have S : Sh3 (px (ringP ((([] ++ [(1, b1)]) ++ [(2, b2)]) ++ [(3, b3)]) ([] ++ [(1, a1)]))) (py (ringP ((([] ++ [(1, b1)]) ++ [(2, b2)]) ++ [(3, b3)]) ([] ++ [(1, a1)]))) := ⟨rfl, rfl, rfl, rfl, rfl, rfl, rfl, (by show (b1 : Int) < 0; omega), (by show (b2 : Int) < 0; omega), (by show (b3 : Int) < 0; omega), rfl, (by show (0 : Int) < a1; omega)⟩
        exact ⟨6, 4, rfl, ring3 S, fun i j W => shape3 S W⟩
      · have S : Sh4 (px (ringP (([] ++ [(1, b1)]) ++ [(2, b2)]) (([] ++ [(1, a1)]) ++ [(3, a3)]))) (py (ringP (([] ++ [(1, b1)]) ++ [(2, b2)]) (([] ++ [(1, a1)]) ++ [(3, a3)]))) := ⟨rfl, rfl, rfl, rfl, rfl, rfl, rfl, (by show (b1 : Int) < 0; omega), (by show (b2 : Int) < 0; omega), rfl, (by show (0 : Int) < a3; omega), (by show (0 : Int) < a1; omega)⟩
        exact ⟨6, 3, rfl, ring4 S, fun i j W => shape4 S W⟩
      · simp at hl
    · rcases c3 with ⟨rfl, rfl⟩ | ⟨rfl, rfl⟩ | ⟨rfl, rfl, hl⟩
      · have S : Sh5 (px (ringP (([] ++ [(1, b1)]) ++ [(3, b3)]) (([] ++ [(1, a1)]) ++ [(2, a2)]))) (py (ringP (([] ++ [(1, b1)]) ++ [(3, b3)]) (([] ++ [(1, a1)]) ++ [(2, a2)]))) := ⟨rfl, rfl, rfl, rfl, rfl, rfl, rfl, (by show (b1 : Int) < 0; omega), (by show (b3 : Int) < 0; omega), rfl, (by show (0 : Int) < a2; omega), (by show (0 : Int) < a1; omega)⟩
        exact ⟨6, 3, rfl, ring5 S, fun i j W => shape5 S W⟩
      · have S : Sh6 (px (ringP ([] ++ [(1, b1)]) ((([] ++ [(1, a1)]) ++ [(2, a2)]) ++ [(3, a3)]))) (py (ringP ([] ++ [(1, b1)]) ((([] ++ [(1, a1)]) ++ [(2, a2)]) ++ [(3, a3)]))) := ⟨rfl, rfl, rfl, rfl, rfl, rfl, rfl, (by show (b1 : Int) < 0; omega), rfl, (by show (0 : Int) < a3; omega), (by show (0 : Int) < a2; omega), (by show (0 : Int) < a1; omega)⟩
        exact ⟨6, 2, rfl, ring6 S, fun i j W => shape6 S W⟩
      · simp at hl
  · rcases c2 with ⟨rfl, rfl⟩ | ⟨rfl, rfl⟩ | ⟨rfl, rfl⟩
    · rcases c3 with ⟨rfl, rfl⟩ | ⟨rfl, rfl⟩ | ⟨rfl, rfl, hl⟩
      · have S : Sh7 (px (ringP ((([] ++ [(1, b1)]) ++ [(2, b2)]) ++ [(3, b3)]) ([] ++ [(2, a2)]))) (py (ringP ((([] ++ [(1, b1)]) ++ [(2, b2)]) ++ [(3, b3)]) ([] ++ [(2, a2)]))) := ⟨rfl, rfl, rfl, rfl, rfl, rfl, rfl, (by show (b1 : Int) < 0; omega), (by show (b2 : Int) < 0; omega), (by show (b3 : Int) < 0; omega), rfl, (by show (0 : Int) < a2; omega)⟩
        exact ⟨6, 4, rfl, ring7 S, fun i j W => shape7 S W⟩
      · have S : Sh8 (px (ringP (([] ++ [(1, b1)]) ++ [(2, b2)]) (([] ++ [(2, a2)]) ++ [(3, a3)]))) (py (ringP (([] ++ [(1, b1)]) ++ [(2, b2)]) (([] ++ [(2, a2)]) ++ [(3, a3)]))) := ⟨rfl, rfl, rfl, rfl, rfl, rfl, rfl, (by show (b1 : Int) < 0; omega), (by show (b2 : Int) < 0; omega), rfl, (by show (0 : Int) < a3; omega), (by show (0 : Int) < a2; omega)⟩
        exact ⟨6, 3, rfl, ring8 S, fun i j W => shape8 S W⟩
      · simp at hl
    · rcases c3 with ⟨rfl, rfl⟩ | ⟨rfl, rfl⟩ | ⟨rfl, rfl, hl⟩
      · have S : Sh9 (px (ringP ((([] ++ [(1, b1)]) ++ [(2, b2)]) ++ [(3, b3)]) [])) (py (ringP ((([] ++ [(1, b1)]) ++ [(2, b2)]) ++ [(3, b3)]) [])) := ⟨rfl, rfl, rfl, rfl, rfl, rfl, (by show (b1 : Int) < 0; omega), (by show (b2 : Int) < 0; omega), (by show (b3 : Int) < 0; omega), rfl⟩
        exact ⟨5, 4, rfl, ring9 S, fun i j W => shape9 S W⟩
      · have S : Sh10 (px (ringP (([] ++ [(1, b1)]) ++ [(2, b2)]) ([] ++ [(3, a3)]))) (py (ringP (([] ++ [(1, b1)]) ++ [(2, b2)]) ([] ++ [(3, a3)]))) := ⟨rfl, rfl, rfl, rfl, rfl, rfl, (by show (b1 : Int) < 0; omega), (by show (b2 : Int) < 0; omega), rfl, (by show (0 : Int) < a3; omega)⟩
        exact ⟨5, 3, rfl, ring10 S, fun i j W => shape10 S W⟩
      · simp at hl
    · rcases c3 with ⟨rfl, rfl⟩ | ⟨rfl, rfl⟩ | ⟨rfl, rfl, hl⟩
      · have S : Sh11 (px (ringP (([] ++ [(1, b1)]) ++ [(3, b3)]) ([] ++ [(2, a2)]))) (py (ringP (([] ++ [(1, b1)]) ++ [(3, b3)]) ([] ++ [(2, a2)]))) := ⟨rfl, rfl, rfl, rfl, rfl, rfl, (by show (b1 : Int) < 0; omega), (by show (b3 : Int) < 0; omega), rfl, (by show (0 : Int) < a2; omega)⟩
        exact ⟨5, 3, rfl, ring11 S, fun i j W => shape11 S W⟩
      · have S : Sh12 (px (ringP ([] ++ [(1, b1)]) (([] ++ [(2, a2)]) ++ [(3, a3)]))) (py (ringP ([] ++ [(1, b1)]) (([] ++ [(2, a2)]) ++ [(3, a3)]))) := ⟨rfl, rfl, rfl, rfl, rfl, rfl, (by show (b1 : Int) < 0; omega), rfl, (by show (0 : Int) < a3; omega), (by show (0 : Int) < a2; omega)⟩
        exact ⟨5, 2, rfl, ring12 S, fun i j W => shape12 S W⟩
      · simp at hl
  · rcases c2 with ⟨rfl, rfl⟩ | ⟨rfl, rfl⟩ | ⟨rfl, rfl⟩
    · rcases c3 with ⟨rfl, rfl⟩ | ⟨rfl, rfl⟩ | ⟨rfl, rfl, hl⟩
      · have S : Sh13 (px (ringP (([] ++ [(2, b2)]) ++ [(3, b3)]) (([] ++ [(1, a1)]) ++ [(2, a2)]))) (py (ringP (([] ++ [(2, b2)]) ++ [(3, b3)]) (([] ++ [(1, a1)]) ++ [(2, a2)]))) := ⟨rfl, rfl, rfl, rfl, rfl, rfl, rfl, (by show (b2 : Int) < 0; omega), (by show (b3 : Int) < 0; omega), rfl, (by show (0 : Int) < a2; omega), (by show (0 : Int) < a1; omega)⟩
        exact ⟨6, 3, rfl, ring13 S, fun i j W => shape13 S W⟩
      · have S : Sh14 (px (ringP ([] ++ [(2, b2)]) ((([] ++ [(1, a1)]) ++ [(2, a2)]) ++ [(3, a3)]))) (py (ringP ([] ++ [(2, b2)]) ((([] ++ [(1, a1)]) ++ [(2, a2)]) ++ [(3, a3)]))) := ⟨rfl, rfl, rfl, rfl, rfl, rfl, rfl, (by show (b2 : Int) < 0; omega), rfl, (by show (0 : Int) < a3; omega), (by show (0 : Int) < a2; omega), (by show (0 : Int) < a1; omega)⟩
        exact ⟨6, 2, rfl, ring14 S, fun i j W => shape14 S W⟩
      · simp at hl
    · rcases c3 with ⟨rfl, rfl⟩ | ⟨rfl, rfl⟩ | ⟨rfl, rfl, hl⟩
      · have S : Sh15 (px (ringP (([] ++ [(2, b2)]) ++ [(3, b3)]) ([] ++ [(1, a1)]))) (py (ringP (([] ++ [(2, b2)]) ++ [(3, b3)]) ([] ++ [(1, a1)]))) := ⟨rfl, rfl, rfl, rfl, rfl, rfl, (by show (b2 : Int) < 0; omega), (by show (b3 : Int) < 0; omega), rfl, (by show (0 : Int) < a1; omega)⟩
        exact ⟨5, 3, rfl, ring15 S, fun i j W => shape15 S W⟩
      · have S : Sh16 (px (ringP ([] ++ [(2, b2)]) (([] ++ [(1, a1)]) ++ [(3, a3)]))) (py (ringP ([] ++ [(2, b2)]) (([] ++ [(1, a1)]) ++ [(3, a3)]))) := ⟨rfl, rfl, rfl, rfl, rfl, rfl, (by show (b2 : Int) < 0; omega), rfl, (by show (0 : Int) < a3; omega), (by show (0 : Int) < a1; omega)⟩
        exact ⟨5, 2, rfl, ring16 S, fun i j W => shape16 S W⟩
      · simp at hl
    · rcases c3 with ⟨rfl, rfl⟩ | ⟨rfl, rfl⟩ | ⟨rfl, rfl, hl⟩
      · have S : Sh17 (px (ringP ([] ++ [(3, b3)]) (([] ++ [(1, a1)]) ++ [(2, a2)]))) (py (ringP ([] ++ [(3, b3)]) (([] ++ [(1, a1)]) ++ [(2, a2)]))) := ⟨rfl, rfl, rfl, rfl, rfl, rfl, (by show (b3 : Int) < 0; omega), rfl, (by show (0 : Int) < a2; omega), (by show (0 : Int) < a1; omega)⟩
        exact ⟨5, 2, rfl, ring17 S, fun i j W => shape17 S W⟩
      · have S : Sh18 (px (ringP [] ((([] ++ [(1, a1)]) ++ [(2, a2)]) ++ [(3, a3)]))) (py (ringP [] ((([] ++ [(1, a1)]) ++ [(2, a2)]) ++ [(3, a3)]))) := ⟨rfl, rfl, rfl, rfl, rfl, rfl, rfl, (by show (0 : Int) < a3; omega), (by show (0 : Int) < a2; omega), (by show (0 : Int) < a1; omega)⟩
        exact ⟨5, 1, rfl, ring18 S, fun i j W => shape18 S W⟩
      · simp at hl

end Mine
end

section
namespace Mine
/-- the corners are distinct -/
theorem corners_ne {ps : List (Int × Int)} (h : CornersP ps) {i j : Nat} (hi : i < ps.length) (hj : j < ps.length) (hij : i ≠ j) : px ps i ≠ px ps j ∨ py ps i ≠ py ps j := by
  obtain ⟨n, M, X, H, b, s, hn, hX, hY, R, _⟩ := corners_shape h
  rw [hX, hY]
  dsimp only
  have k := R.ne (hn ▸ hi) (hn ▸ hj) hij
  by_cases c : trx b s (X i) (H i) = trx b s (X j) (H j)
  · right
    intro d
    cases b
    · simp only [trx, trY, Bool.false_eq_true, if_false] at c d
      rw [c] at d
      omega
    · simp only [trx, trY, if_true] at c d
      rw [d] at c
      omega
  · exact .inl c
theorem skip_s1 {ps : List (Int × Int)} {i j : Nat} (h : skipB ps i j = false) (e : j = i + 2) : twiceP (px ps i) (py ps i) (px ps (i + 1)) (py ps (i + 1)) (px ps j) (py ps j) ≠ 0 := by
  intro z
  unfold skipB at h
  rw [decide_eq_true e, decide_eq_true z, Bool.and_self, Bool.true_or] at h
  cases h
theorem skip_s2 {ps : List (Int × Int)} {i j : Nat} (h : skipB ps i j = false) (e : j + 2 = i + ps.length) : twiceP (px ps j) (py ps j) (px ps ((j + 1) % ps.length)) (py ps ((j + 1) % ps.length)) (px ps i) (py ps i) ≠ 0 := by
  intro z
  unfold skipB at h
  rw [decide_eq_true e, decide_eq_true z, Bool.and_self, Bool.or_true] at h
  cases h
theorem metB_free {ps : List (Int × Int)} {i j : Nat} : ∀ {n k : Nat}, metB ps i j n = false → k < n → freeB ps.length i k = true → freeB ps.length j k = true → sideB ps i j k = false := by
  intro n
  induction n with
  | zero => intro k _ hk; omega
  | succ n ih =>
    intro k h hk h1 h2
    rw [metB, Bool.or_eq_false_iff] at h
    by_cases c : k = n
    · subst c
      rw [h1, h2] at h
      simpa using h.2
    · exact ih h.1 (by omega) h1 h2
theorem way_R {ps : List (Int × Int)} (h : CornersP ps) {n M : Nat} {X H : Nat → Int} {b : Bool} {s : Int} (hn : ps.length = n) (hX : px ps = fun i => trx b s (X i) (H i)) (hY : py ps = fun i => trY b s (X i) (H i)) (R : Ring n M X H)
    {i j : Nat} (hw : Way ps i j) : WayR n X H i j := by
  obtain ⟨hap, hs, hm⟩ := hw
  rw [hn] at hap
  have hi : i < n := by have := hap.1; have := hap.2.1; omega
  refine ⟨hap, fun e => ?_, fun e => ?_, fun k hk h1 h2 h3 h4 => ?_⟩
  · have := skip_s1 hs e
    rw [hX, hY] at this
    dsimp only at this
    rwa [T_tr] at this
  · have := skip_s2 hs (by omega)
    rw [hX, hY, hn] at this
    dsimp only at this
    rwa [T_tr] at this
  · have hf := metB_free hm (k := k) (by omega) (by unfold freeB; rw [hn]; exact decide_eq_true ⟨h1, h2⟩) (by unfold freeB; rw [hn]; exact decide_eq_true ⟨h3, h4⟩)
    have hk1 : (k + 1) % n < n := Nat.mod_lt _ (by omega)
    have hkk : k ≠ (k + 1) % n := mod_ne (by omega) hk
    unfold sideB at hf
    rw [← inter_meet (corners_ne h (by omega) (by have := hap.2.1; omega) (by have := hap.1; omega)) (corners_ne h (i := k) (j := (k + 1) % ps.length) (by omega) (by rw [hn]; exact hk1) (by rw [hn]; exact hkk)), hX, hY, hn] at hf
    dsimp only at hf
    rwa [interP_tr (R.ne hi hap.2.1 (by have := hap.1; omega)) (R.ne hk hk1 hkk)] at hf
theorem tr_add (b : Bool) (s x y x' y' : Int) : trx b s x y + trx b s x' y' = trx b s (x + x') (y + y') ∧ trY b s x y + trY b s x' y' = trY b s (x + x') (y + y') := by
  cases b <;> simp only [trx, trY, if_true, if_false, Bool.false_eq_true] <;> constructor <;> grind
theorem way_all {ps : List (Int × Int)} (h : CornersP ps) {n M : Nat} {X H : Nat → Int} {b : Bool} {s : Int} (hn : ps.length = n) (hX : px ps = fun i => trx b s (X i) (H i)) (hY : py ps = fun i => trY b s (X i) (H i)) (R : Ring n M X H)
    (hr : ∀ i j, WayR n X H i j → Res n M X H i j) {i j : Nat} (hw : Way ps i j) : locR n X H i j = wayB ps i j ∧ locR n X H j i = wayB ps i j ∧ (wayB ps i j = true → DG n X H i j) := by
  have W := way_R h hn hX hY R hw
  obtain ⟨aL, aU, hL, hU, l1, l2, hd⟩ := hr i j W
  have h1 := W.ap.1
  have hj := W.ap.2.1
  have hi : i < n := by omega
  have e : wayB ps i j = (aL != aU) := by
    unfold wayB
    rw [hn, hX, hY]
    dsimp only
    rw [(tr_add b s _ _ _ _).1, (tr_add b s _ _ _ _).2]
    refine parity R ?_ ?_ hL hU.1 hU.2
    · have := R.nn hi; have := R.pos (show 0 < j by omega) hj; omega
    · have := R.leM hi; have := R.leM hj; omega
  rw [e]
  exact ⟨l1, l2, hd⟩
theorem way_local1 {ps : List (Int × Int)} (h : CornersP ps) {i j : Nat} (hw : Way ps i j) :
    localP (px ps i) (py ps i) (px ps j) (py ps j) (px ps (prv ps.length i)) (py ps (prv ps.length i)) (px ps (nxt ps.length i)) (py ps (nxt ps.length i)) = wayB ps i j := by
  obtain ⟨n, M, X, H, b, s, hn, hX, hY, R, hr⟩ := corners_shape h
  rw [← (way_all h hn hX hY R hr hw).1, localT, hX, hY, hn]
  dsimp only
  simp only [T_tr]
  rfl
theorem way_local2 {ps : List (Int × Int)} (h : CornersP ps) {i j : Nat} (hw : Way ps i j) :
    localP (px ps j) (py ps j) (px ps i) (py ps i) (px ps (prv ps.length j)) (py ps (prv ps.length j)) (px ps (nxt ps.length j)) (py ps (nxt ps.length j)) = wayB ps i j := by
  obtain ⟨n, M, X, H, b, s, hn, hX, hY, R, hr⟩ := corners_shape h
  rw [← (way_all h hn hX hY R hr hw).2.1, localT, hX, hY, hn]
  dsimp only
  simp only [T_tr]
  rfl
theorem diag_cross {ps : List (Int × Int)} (h : CornersP ps) {i j k m : Nat} (h1 : Diag ps i j) (h2 : Diag ps k m) (hik : i < k) (hjk : j ≠ k) (hjm : j ≠ m) :
    interP (px ps i) (py ps i) (px ps j) (py ps j) (px ps k) (py ps k) (px ps m) (py ps m) = decide (k < j ∧ j < m) := by
  obtain ⟨n, M, X, H, b, s, hn, hX, hY, R, hr⟩ := corners_shape h
  have d1 := (way_all h hn hX hY R hr h1.1).2.2 h1.2
  have d2 := (way_all h hn hX hY R hr h2.1).2.2 h2.2
  obtain ⟨a1, a2, _⟩ := h1.1.1
  obtain ⟨b1, b2, _⟩ := h2.1.1
  rw [hn] at a2 b2
  rw [hX, hY]
  dsimp only
  rw [interP_tr (R.ne (by omega) a2 (by omega)) (R.ne (by omega) b2 (by omega))]
  exact diag_crossR R (by omega) a2 (by omega) b2 hik hjk hjm d1 d2
theorem sides_apart {ps : List (Int × Int)} (h : CornersP ps) {k m : Nat} (hk : Apart ps.length k m) :
    interP (px ps k) (py ps k) (px ps (k + 1)) (py ps (k + 1)) (px ps m) (py ps m) (px ps ((m + 1) % ps.length)) (py ps ((m + 1) % ps.length)) = false := by
  obtain ⟨n, M, X, H, b, s, hn, hX, hY, R, hr⟩ := corners_shape h
  rw [hn] at hk
  have h1 := hk.1
  have h2 := hk.2.1
  rw [hX, hY, hn]
  dsimp only
  rw [interP_tr (R.ne (by omega) (by omega) (by omega)) (R.ne h2 (Nat.mod_lt _ (by omega)) (mod_ne (by omega) h2))]
  exact sides_apartR R hk
end Mine
end

section
open PySem PySem.W PyProof.Rows PySem.Calls PyProof.V PySem.Spec
namespace Mine
theorem rev_no_len : typeLookup (.type "list_reverseiterator") "__len__" = pure none := by rw [typeLookup_type, builtinLookup_eq_fast]; kernel_rfl
theorem rev_has_hint : typeLookup (.type "list_reverseiterator") "__length_hint__" = pure (some (.builtin "list_reverseiterator.__length_hint__")) := by rw [typeLookup_type, builtinLookup_eq_fast]; kernel_rfl
section
variable {prog : Program} {w : World} {A : Around} {E : Value → Shared → Prop} {s : Shared} {r : Addr}
theorem rev_hint {Q : Bool → Shared → Prop} (hT : s.TypeIs (.ref r) "list_reverseiterator") (h : Q false s) : wpAny (model prog w) A (Builtin.List.listLengthHint (.ref r)) Q E s := by
  unfold Builtin.List.listLengthHint
  refine wpAny_bind (wpAny_specialOf hT rev_no_len ?_)
  show wpAny _ A (specialOf (Value.ref r) (Str.ofString "__length_hint__") >>= _) _ _ _
  refine wpAny_bind (wpAny_specialOf hT rev_has_hint ?_)
  generalize hid : ("list_reverseiterator.__length_hint__" : String) = id0
  wp_delta
  rw [show splitId id0 = some ("list_reverseiterator", "__length_hint__") from by subst hid; decide +kernel]
  subst hid
  refine wpAny_bind (wpAny_isInstance (T := "list_reverseiterator") (b := true) hT (by rw [isSubtype_type]; kernel_rfl) ?_)
  refine wpAny_ite_split (fun hab => absurd hab (by decide)) (fun _ => ?_)
  refine wpAny_ite_split (fun _ => ?_) (fun hab => absurd (by decide +kernel) hab)
  refine wpAny_ite_split (fun hab => absurd hab (by decide +kernel)) (fun _ => ?_)
  exact wpAny_pure h
theorem rev_extend {d S : Addr} {items : Array Value} {R : Result → Shared → Prop} (hh : A.handled = none) (hl : s.heap.IsList d items) (hr : s.heap.IsRevIter r d ((items.size : Int) - 1)) (hne : d ≠ r) (hSr : S ≠ r) (hSd : S ≠ d) (res : Value) (c₀ : Nat)
    (hS : s.heap.get? S = some { cls := .type "list", data := .seq #[] c₀ }) (hn : items.size ≤ sizeLine)
    (hR : ∀ h' tk acc' c', (∀ b o, b ≠ S → b ≠ r → s.heap.get? b = some o → h'.get? b = some o) → h'.get? S = some { cls := .type "list", dict := none, data := .seq acc' c', slots := #[] } → ItemsOf (fun i v => items[items.size - 1 - i]? = some v) acc' items.size → R (.ok (.ret res)) { s with heap := h', toks := tk }) :
    wpAny (model prog w) A.in1 (Builtin.List.listExtendWith (.ref S) (.ref r) res)
      (fun fin s' => match fin with | .done f => R (.ok f) s' | .again c' => c'.quiet = true ∧ codeAny (model prog w) A c' R s') (fun e s' => R (.error e) s') s := by
  have W := Walks.listRev (prog := prog) (w := w) (A := A.in1) hh r d hne items
  have hSf : S ∉ [r, d] := by simp only [List.mem_cons, List.not_mem_nil, or_false, not_or]; exact ⟨hSr, hSd⟩
  have st0 : ∀ h : Heap, (∀ b o, b ≠ S → s.heap.get? b = some o → h.get? b = some o) → (0 ≤ items.size ∧ h.IsRevIter r d ((items.size : Int) - 1 - ((0 : Nat) : Int)) ∧ h.IsList d items) := fun h k =>
    ⟨Nat.zero_le _, by simpa using hr.at fun o e => k _ o (Ne.symm hSr) e, hl.at fun o e => k _ o (Ne.symm hSd) e⟩
  have key : ∀ (h : Heap) (c₁ tk : Nat), (∀ b o, b ≠ S → s.heap.get? b = some o → h.get? b = some o) →
      h.get? S = some { cls := .type "list", data := .seq #[] c₁ } → codeAny (model prog w) A (.builtin "list.extend.loop" ⟨[.ref S, .ref r, res], []⟩) R { s with heap := h, toks := tk } := by
    intro h c₁ tk hk hS₁
    refine codeAny_extend_loopS W.toS hn S hSf res items.size 0 _ #[] c₁ rfl (Nat.zero_le _) (st0 h hk) hS₁ (ItemsOf.nil _) fun s' acc' c' hm hS' hacc => ?_
    rw [Moved.eq_with hm]
    refine hR s'.heap s'.toks acc' c' (fun b o hb hb2 e => hm.heap b o (fun hmem => ?_) (hk b o hb e)) hS' hacc
    rcases List.mem_cons.mp hmem with e' | hmem
    · exact hb e'
    · exact hb2 (List.mem_singleton.mp hmem)
  unfold Builtin.List.listExtendWith
  refine wpAny_bind (wpAny_typeOf (T := "list_reverseiterator") hr.typeIs ?_)
  have h1 : Builtin.List.listSameRef (.ref S) (.ref r) = false := by simp [Builtin.List.listSameRef, hSr]
  have h2 : (Value.type "list_reverseiterator" == Value.type "list") = false := by decide
  have h3 : (Value.type "list_reverseiterator" == Value.type "tuple") = false := by decide
  simp only [h1, h2, h3, Bool.or_false, Bool.false_eq_true, if_false]
  refine wpAny_bind (wpAny_pyIter_revIter hr ?_)
  refine wpAny_bind (wpAny_holding (rev_hint hr.typeIs ?_))
  refine wpAny_ite_split (fun _ => ?_) (fun _ => wpAny_pure ⟨plainId_quiet PySem.F.plain_extend_loop _, key _ c₀ _ (fun b o _ e => e) hS⟩)
  refine wpAny_bind (wpAny_rule ?_)
  refine wpAny_bind ?_
  show wpAny _ _ (updateSeq S (·.push .none) >>= fun _ => updateSeq S (·.pop)) _ _ _
  refine wpAny_bind (wpAny_updateSeq hS rfl ?_)
  have hS₂ := Heap.get?_update_self (Obj.mapSeq (·.push Value.none)) hS rfl
  refine wpAny_updateSeq (hz := by seq_fits) hS₂ rfl ?_
  have hS₃ := Heap.get?_update_self (Obj.mapSeq (·.pop)) hS₂ rfl
  exact wpAny_pure ⟨plainId_quiet PySem.F.plain_extend_loop _, key _ _ _ (fun b o hb e => (Heap.get?_update_other _ _ (Ne.symm hb)).trans ((Heap.get?_update_other _ _ (Ne.symm hb)).trans e)) hS₃⟩
theorem rev_list {d : Addr} {items : Array Value} {Q : Value → Shared → Prop} (hh : A.handled = none) (hl : s.heap.IsList d items) (hr : s.heap.IsRevIter r d ((items.size : Int) - 1)) (hne : d ≠ r) (hn : items.size ≤ sizeLine)
    (hQ : ∀ h' tk acc' c', (∀ b o, b ≠ r → s.heap.get? b = some o → h'.get? b = some o) → h'.get? s.heap.objs.size = some { cls := .type "list", dict := none, data := .seq acc' c', slots := #[] } → ItemsOf (fun i v => items[items.size - 1 - i]? = some v) acc' items.size → Q (.ref s.heap.objs.size) { s with heap := h', toks := tk }) :
    wpAny (model prog w) A (call (.type "list") [.ref r]) Q E s := by
  have ltd : d < s.heap.objs.size := by obtain ⟨_, e, _⟩ := hl; exact Heap.lt_size e
  have ltr : r < s.heap.objs.size := by obtain ⟨_, e, _⟩ := hr; exact Heap.lt_size e
  refine callType_codes (Q₁ := fun obj s₁ => obj = .ref s.heap.objs.size ∧ s₁ = { s with heap := s.heap.push { cls := .type "list", data := .seq #[] } }) PySem.F.called_list (PySem.F.typeCall_list_1 _) PySem.F.entry_list_init
    (code_list_new _ ⟨rfl, rfl⟩) fun obj s₁ h₁ => ?_
  obtain ⟨rfl, rfl⟩ := h₁
  have hS : (s.heap.push { cls := .type "list", data := .seq #[] }).get? s.heap.objs.size = some { cls := .type "list", data := .seq #[] } := Heap.get?_push_size _ rfl
  refine ⟨⟨_, hS, rfl⟩, PySem.F.args_list_init_2 _ _, ?_⟩
  show wpAny _ _ (do let old ← Builtin.List.listItems (.ref s.heap.objs.size); Builtin.List.listUpdate (.ref s.heap.objs.size) (fun _ => #[]); letGo old.toList.reverse; Builtin.List.listExtendWith (.ref s.heap.objs.size) (.ref r) .none) _ _ _
  refine wpAny_bind ?_
  unfold Builtin.List.listItems
  refine wpAny_bind (wpAny_seqItems hS rfl (wpAny_pure ?_))
  show wpAny _ _ (updateSeq s.heap.objs.size (fun _ => #[]) >>= fun _ => letGo (#[] : Array Value).toList.reverse >>= fun _ => Builtin.List.listExtendWith (.ref s.heap.objs.size) (.ref r) .none) _ _ _
  refine wpAny_bind (wpAny_updateSeq hS rfl ?_)
  have hS₂ := Heap.get?_update_self (Obj.mapSeq (fun _ => (#[] : Array Value))) hS rfl
  have oth : ∀ b o, s.heap.get? b = some o → ((s.heap.push { cls := .type "list", data := .seq #[] }).update s.heap.objs.size (Obj.mapSeq (fun _ => (#[] : Array Value)))).get? b = some o :=
    fun b o e => (Heap.get?_update_other _ _ (Nat.ne_of_gt (Heap.lt_size e))).trans (Heap.get?_push_of_some _ e)
  refine wpAny_bind (wpAny_letGo ?_)
  refine rev_extend (A := A.in1) hh (hl.at fun o e => oth _ o e) (hr.at fun o e => oth _ o e) hne (Nat.ne_of_gt ltr) (Nat.ne_of_gt ltd) .none _ hS₂ hn fun h' tk acc' c' hk hS' hacc => ?_
  exact ⟨rfl, hQ h' tk acc' c' (fun b o hb e => hk b o (Nat.ne_of_lt (Heap.lt_size e)) hb (oth b o e)) hS' hacc⟩
theorem rev_items {vs : List Value} {acc : Array Value} (h : ItemsOf (fun i v => vs.toArray[vs.toArray.size - 1 - i]? = some v) acc vs.toArray.size) : acc = vs.reverse.toArray := by
  obtain ⟨h1, h2⟩ := h
  have hsz : acc.size = vs.length := by simpa using h1
  apply Array.ext'
  rw [List.toList_toArray]
  apply List.ext_getElem?
  intro j
  by_cases hj : j < vs.length
  · have e1 : acc[j]? = some (acc[j]'(by omega)) := Array.getElem?_eq_getElem (by omega)
    have e2 := h2 j _ e1
    rw [Array.getElem?_toList, e1, List.getElem?_reverse hj]
    simpa using e2.symm
  · rw [List.getElem?_eq_none (by rw [Array.length_toList]; omega), List.getElem?_eq_none (by rw [List.length_reverse]; omega)]
theorem rev_N {h₀ : Heap} {L l D : Addr} {m : Str → Option Value} {vs : List Value} {n : Nat} {led : List (Addr × Obj)} {Q : Value → Shared → Prop} (hh : A.handled = none) (F : Fr h₀ L s.heap m)
    (N : News h₀ L s.heap ((D, revObj l ((vs.length : Int) - 1)) :: led)) (hm : (l, ({ cls := .type "list", data := .seq vs.toArray n } : Obj)) ∈ led) (hD : ∀ p ∈ led, p.1 < D) (hn : vs.length ≤ sizeLine)
    (h : ∀ D2 c h' tk, Fr h₀ L h' m → News h₀ L h' ((D2, ({ cls := .type "list", data := .seq vs.reverse.toArray c } : Obj)) :: led) → Q (.ref D2) { s with heap := h', toks := tk }) :
    wpAny (model prog w) A (call (.type "list") [.ref D]) Q E s := by
  have N1 := N _ (List.mem_cons_self)
  have Nl : News h₀ L s.heap led := fun p hp => N p (List.mem_cons_of_mem _ hp)
  have hl := News.isList Nl hm
  refine rev_list hh hl (r := D) ⟨_, N1.1, rfl, by simp [revObj]⟩ (Nat.ne_of_lt (hD _ hm)) (by simpa using hn) fun h' tk acc' c' hk hS hacc => ?_
  refine h s.heap.objs.size c' h' tk ⟨F.ns.at' fun o e => hk _ o (Ne.symm N1.2.1) e, fun b o e => hk b o (fun e2 => by rw [e2, N1.2.2] at e; cases e) (F.keep b o e), F.above⟩ fun p hp => ?_
  rcases List.mem_cons.mp hp with rfl | hp
  · refine ⟨by rw [hS, rev_items hacc], Nat.ne_of_gt F.ns.lt, ?_⟩
    exact next_is_new F
  · exact ⟨hk _ _ (Nat.ne_of_lt (hD p hp)) (Nl p hp).1, (Nl p hp).2⟩
end
end Mine
end

section
open PySem PySem.W PyProof.Rows
namespace Mine
theorem reset_M1 : True := by
  w_top off
  trivial
local macro_rules | `(tactic| k_room) => `(tactic| ktr_room)
local macro_rules | `(tactic| k_mem) => `(tactic| assumption)
local macro_rules | `(tactic| ktr_room) => `(tactic| ((try simp only [depth_under_make, depth_under_kw, depth_in1, depth_deeper, depth_caller]); (try dsimp only [ktrTop]); omega))
local macro_rules | `(tactic| ktr_units) => `(tactic| ((try simp only [units_in1, units_deeper, Around.mark_units, units_caller]); (try dsimp only [ktrTop]); omega))
local macro_rules | `(tactic| bits_by_make) => `(tactic| with_reducible assumption)
section
variable {w : World} {mean : ExcName → Option Value} {mg mb : Str → Option Value} {news : List (Addr × Obj)}

set_option maxRecDepth 100000 in
set_option maxHeartbeats 8000000 in
theorem sign_ok {num : Int} {t : Tok} :
    Claim PySem.Challenge.rw_fc0057_01.row.prog w (hd.heap_39 w.params) hd.view_39 (looseW hd.view_39 []) mean mg mb 77 1 news [.int num t] (fun v => ∃ t, v = .int (signP num) t) := by
  k_fill
  intro dp un gd cn cs a ccd cl outer A₀ base h₀ L m s Q E B F X N T hk hd hu hret
  refine wpAny_call ?_
  k_dflt cell_enter
  k_steps
  · have h1 := signP_lt (by assumption)
    exact hret _ _ _ ⟨_, by rw [signP, if_pos h1]⟩ (by assumption) (by assumption)
  · have h1 := signP_nlt (by assumption)
    have h2 := signP_gt (by assumption)
    exact hret _ _ _ ⟨_, by rw [signP, if_neg h1, if_pos h2]⟩ (by assumption) (by assumption)
  · have h1 := signP_nlt (by assumption)
    have h2 := signP_ngt (by assumption)
    exact hret _ _ _ ⟨_, by rw [signP, if_neg h1, if_neg h2]⟩ (by assumption) (by assumption)

set_option maxRecDepth 100000 in
set_option maxHeartbeats 8000000 in
theorem area_ok {p q r : Addr} {px py qx qy rx ry : Int} {p1 p2 q1 q2 r1 r2 : Value}
    (hp : IsNode news p px py p1 p2) (hq : IsNode news q qx qy q1 q2) (hr : IsNode news r rx ry r1 r2) :
    Claim PySem.Challenge.rw_fc0057_01.row.prog w (hd.heap_39 w.params) hd.view_39 (looseW hd.view_39 []) mean mg mb 70 1 news [.ref p, .ref q, .ref r]
      (fun v => ∃ t, v = .int (areaP px py qx qy rx ry) t) := by
  k_fill
  obtain ⟨⟨dp', hsp, ksp, ip, pp, txp, typ, z1, z2, z3, z4, mp1, mp2⟩, bpx, bpy⟩ := hp
  obtain ⟨⟨dq', hsq, ksq, iq, pq, txq, tyq, z5, z6, z7, z8, mq1, mq2⟩, bqx, bqy⟩ := hq
  obtain ⟨⟨dr', hsr, ksr, ir, pr, txr, tyr, z9, z10, z11, z12, mr1, mr2⟩, brx, bry⟩ := hr
  intro dp un gd cn cs a ccd cl outer A₀ base h₀ L m s Q E B F X N T hk hd hu hret
  refine wpAny_call ?_
  k_dflt cell_enter
  k_steps
  exact hret _ _ _ ⟨_, rfl⟩ (by assumption) (by assumption)

set_option maxRecDepth 100000 in
set_option maxHeartbeats 8000000 in
theorem onseg_ok {p q r : Addr} {px py qx qy rx ry : Int} {p1 p2 q1 q2 r1 r2 : Value}
    (hp : IsNode news p px py p1 p2) (hq : IsNode news q qx qy q1 q2) (hr : IsNode news r rx ry r1 r2) :
    Claim PySem.Challenge.rw_fc0057_01.row.prog w (hd.heap_39 w.params) hd.view_39 (looseW hd.view_39 []) mean mg mb 84 1 news [.ref p, .ref q, .ref r]
      (fun v => v = .bool (onSegP px py qx qy rx ry)) := by
  k_fill
  obtain ⟨⟨dp', hsp, ksp, ip, pp, txp, typ, z1, z2, z3, z4, mp1, mp2⟩, bpx, bpy⟩ := hp
  obtain ⟨⟨dq', hsq, ksq, iq, pq, txq, tyq, z5, z6, z7, z8, mq1, mq2⟩, bqx, bqy⟩ := hq
  obtain ⟨⟨dr', hsr, ksr, ir, pr, txr, tyr, z9, z10, z11, z12, mr1, mr2⟩, brx, bry⟩ := hr
  intro dp un gd cn cs a ccd cl outer A₀ base h₀ L m s Q E B F X N T hk hd hu hret
  refine wpAny_call ?_
  k_dflt cell_enter
  k_steps
  all_goals (refine hret _ _ _ ?_ (by assumption) (by assumption))
  all_goals (show Value.bool _ = Value.bool _; rw [Value.bool.injEq]; simp only [onSegP, decide_eq_decide]; omega)
local macro_rules | `(tactic| ktr_rel) => `(tactic| first | assumption | exact IsNode.mono (by assumption) (fun _ hp => List.Mem.tail _ hp))
local macro_rules | `(tactic| walk_at "call ref") => `(tactic| (k_here; k_dflt (refine' Claim.use (sign_ok) ?k1 ?k2 ?k3 ?k4 ?k5 ?k6 ?k7 ?k8 ?_; (case k1 => k_asm); (case k2 => k_asm); (case k3 => k_asm); (case k4 => k_asm); (case k5 => k_asm); (case k6 => first | exact rfl | assumption); (case k7 => ktr_room); (case k8 => ktr_units)); intro v9 h9 tk9 hR9 F9 N9; obtain ⟨t9, e9⟩ := hR9; subst e9; (try dsimp only); (try k_fold)))
local macro_rules | `(tactic| walk_at "call ref") => `(tactic| (k_here; k_dflt (refine' Claim.use (onseg_ok ?a1 ?a2 ?a3) ?k1 ?k2 ?k3 ?k4 ?k5 ?k6 ?k7 ?k8 ?_; (case k1 => k_asm); (case k2 => k_asm); (case k3 => k_asm); (case k4 => k_asm); (case k5 => k_asm); (case a1 => ktr_rel); (case a2 => ktr_rel); (case a3 => ktr_rel); (case k6 => first | exact rfl | assumption); (case k7 => ktr_room); (case k8 => ktr_units)); intro v9 h9 tk9 hR9 F9 N9; subst hR9; (try dsimp only); (try k_fold)))
local macro_rules | `(tactic| walk_at "call ref") => `(tactic| (k_here; k_dflt (refine' Claim.use (area_ok ?a1 ?a2 ?a3) ?k1 ?k2 ?k3 ?k4 ?k5 ?k6 ?k7 ?k8 ?_; (case k1 => k_asm); (case k2 => k_asm); (case k3 => k_asm); (case k4 => k_asm); (case k5 => k_asm); (case a1 => ktr_rel); (case a2 => ktr_rel); (case a3 => ktr_rel); (case k6 => first | exact rfl | assumption); (case k7 => ktr_room); (case k8 => ktr_units)); intro v9 h9 tk9 hR9 F9 N9; obtain ⟨t9, e9⟩ := hR9; subst e9; (try dsimp only); (try k_fold)))

set_option maxRecDepth 100000 in
set_option maxHeartbeats 8000000 in
theorem local_ok {a b p n : Addr} {ax ay bx yb px py nx ny : Int} {b1 b2 p1 p2 n1 n2 : Value}
    (ha : IsNode news a ax ay (.ref p) (.ref n)) (hb : IsNode news b bx yb b1 b2) (hp : IsNode news p px py p1 p2) (hn : IsNode news n nx ny n1 n2) :
    Claim PySem.Challenge.rw_fc0057_01.row.prog w (hd.heap_39 w.params) hd.view_39 (looseW hd.view_39 []) mean mg mb 105 2 news [.ref a, .ref b]
      (fun v => v = .bool (localP ax ay bx yb px py nx ny)) := by
  k_fill
  obtain ⟨⟨da', hsa, ksa, ia, pa, txa, tya, z1, z2, z3, z4, ma1, ma2⟩, bax, bay⟩ := id ha
  intro dp un gd cn cs a ccd cl outer A₀ base h₀ L m s Q E B F X N T hk hd hu hret
  refine wpAny_call ?_
  k_dflt cell_enter
  k_steps
  all_goals (refine hret _ _ _ ?_ (by assumption) (by assumption))
  all_goals (show Value.bool _ = Value.bool _; rw [Value.bool.injEq]; simp only [localP]; split <;> simp only [decide_eq_decide] <;> omega)

set_option maxRecDepth 100000 in
set_option maxHeartbeats 8000000 in
theorem inter_ok {p q r t : Addr} {px py qx qy rx ry tx ty : Int} {p1 p2 q1 q2 r1 r2 t1 t2 : Value}
    (hp : IsNode news p px py p1 p2) (hq : IsNode news q qx qy q1 q2) (hr : IsNode news r rx ry r1 r2) (ht : IsNode news t tx ty t1 t2) :
    Claim PySem.Challenge.rw_fc0057_01.row.prog w (hd.heap_39 w.params) hd.view_39 (looseW hd.view_39 []) mean mg mb 91 2 news [.ref p, .ref q, .ref r, .ref t]
      (fun v => v = .bool (interP px py qx qy rx ry tx ty)) := by
  k_fill
  intro dp un gd cn cs a ccd cl outer A₀ base h₀ L m s Q E B F X N T hk hd hu hret
  refine wpAny_call ?_
  k_dflt cell_enter
  k_steps
  all_goals (refine hret _ _ _ ?_ (by assumption) (by assumption))
  all_goals (show Value.bool _ = Value.bool _; refine congrArg Value.bool ?_; first
    | exact interP_t1 (by assumption) (by assumption) | exact interP_t2 (by assumption) (by assumption) | exact interP_t3 (by assumption) (by assumption)
    | exact interP_t4 (by assumption) (by assumption) | exact interP_t5 (by assumption) (by assumption)
    | (exfalso; omega)
    | exact interP_f (by first | exact .inl (by assumption) | exact .inr (by assumption)) (by first | exact .inl (by assumption) | exact .inr (by assumption)) (by first | exact .inl (by assumption) | exact .inr (by assumption)) (by first | exact .inl (by assumption) | exact .inr (by assumption)) (by first | exact .inl (by assumption) | exact .inr (by assumption)))
end
end Mine
end

section
open PySem PySem.W PyProof.Rows
namespace Mine
theorem reset_M2 : True := by
  w_top off
  trivial
local macro_rules | `(tactic| k_room) => `(tactic| ktr_room)
local macro_rules | `(tactic| k_mem) => `(tactic| assumption)
local macro_rules | `(tactic| ktr_room) => `(tactic| ((try simp only [depth_under_make, depth_under_kw, depth_in1, depth_deeper, depth_caller]); (try dsimp only [ktrTop]); omega))
local macro_rules | `(tactic| ktr_units) => `(tactic| ((try simp only [units_in1, units_deeper, Around.mark_units, units_caller]); (try dsimp only [ktrTop]); omega))
local macro_rules | `(tactic| bits_by_make) => `(tactic| with_reducible assumption)
section
variable {w : World} {mean : ExcName → Option Value} {mg mb : Str → Option Value} {news : List (Addr × Obj)}

set_option maxRecDepth 100000 in
set_option maxHeartbeats 8000000 in
theorem twice_ok {p q r : Addr} {px py qx qy rx ry : Int}
    (hp : IsPt 1200000 news p px py) (hq : IsPt 1200000 news q qx qy) (hr : IsPt 1200000 news r rx ry) :
    Claim PySem.Challenge.rw_fc0057_01.row.prog w (hd.heap_39 w.params) hd.view_39 (looseW hd.view_39 []) mean mg mb 119 1 news [.ref p, .ref q, .ref r]
      (fun v => ∃ t, v = .int (twiceP px py qx qy rx ry) t) := by
  k_fill
  obtain ⟨⟨txp, typ, np, mp⟩, bpx, bpy⟩ := hp
  obtain ⟨⟨txq, tyq, nq, mq⟩, bqx, bqy⟩ := hq
  obtain ⟨⟨txr, tyr, nr, mr⟩, brx, bry⟩ := hr
  intro dp un gd cn cs a ccd cl outer A₀ base h₀ L m s Q E B F X N T hk hd hu hret
  refine wpAny_call ?_
  k_dflt cell_enter
  k_steps
  exact hret _ _ _ ⟨_, rfl⟩ (by assumption) (by assumption)

set_option maxRecDepth 100000 in
set_option maxHeartbeats 8000000 in
theorem apart_ok {a b c d : Addr} {ax ay bx yb cx cy dx dy ri up : Int} {tr tu : Tok}
    (ha : IsPt 1100000 news a ax ay) (hb : IsPt 1100000 news b bx yb) (hc : IsPt 1100000 news c cx cy) (hd : IsPt 1100000 news d dx dy) 
    (bri : Builtin.Int.intBits ri ≤ 1100005) (bup : Builtin.Int.intBits up ≤ 1100005):
    Claim PySem.Challenge.rw_fc0057_01.row.prog w (Mine.hd.heap_39 w.params) Mine.hd.view_39 (looseW Mine.hd.view_39 []) mean mg mb 131 1 news [.int ri tr, .int up tu, .ref a, .ref b, .ref c, .ref d]
      (fun v => v = .bool (apartP ri up ax ay bx yb cx cy dx dy)) := by
  k_fill
  obtain ⟨⟨txa, tya, na, ma⟩, bax, bay⟩ := ha
  obtain ⟨⟨txb, tyb, nb, mb'⟩, bbx, bby⟩ := hb
  obtain ⟨⟨txc, tyc, nc, mc⟩, bcx, bcy⟩ := hc
  obtain ⟨⟨txd, tyd, nd, md⟩, bdx, bdy⟩ := hd
  intro dp un gd cn cs a ccd cl outer A₀ base h₀ L m s Q E B F X N T hk hd hu hret
  refine wpAny_call ?_
  k_dflt cell_enter
  k_steps
  all_goals (refine hret _ _ _ ?_ (by assumption) (cb_drop (by assumption) (fun p hp => .tail _ (.tail _ hp))))
  all_goals (show Value.bool _ = Value.bool _; refine congrArg Value.bool ?_; simp only [apartP]; first
    | (rw [eq_comm, decide_eq_true_eq]; omega) | (rw [eq_comm, decide_eq_false_iff_not]; omega) | (rw [decide_eq_decide]; omega))

local macro_rules | `(tactic| ktr_rel) => `(tactic| first | assumption | (refine IsPt.mono (by assumption) ?_; intro p hp; (repeat (first | exact hp | exact List.mem_append_left _ hp | refine List.Mem.tail _ ?_))))
local macro_rules | `(tactic| walk_at "call ref") => `(tactic| (k_here; k_dflt (refine' Claim.use (apart_ok ?a1 ?a2 ?a3 ?a4 ?b1 ?b2) ?k1 ?k2 ?k3 ?k4 ?k5 ?k6 ?k7 ?k8 ?_; (case k1 => k_asm); (case k2 => k_asm); (case k3 => k_asm); (case k4 => k_asm); (case k5 => k_asm); (case a1 => ktr_rel); (case a2 => ktr_rel); (case a3 => ktr_rel); (case a4 => ktr_rel); (case b1 => assumption); (case b2 => assumption); (case k6 => first | exact rfl | assumption); (case k7 => ktr_room); (case k8 => ktr_units)); intro v9 h9 tk9 hR9 F9 N9; subst hR9; (try dsimp only); (try k_fold)))

local macro_rules | `(tactic| walk_at "pyIter ref") => `(tactic| ((with_reducible show wpAny _ _ (pyIter (Value.ref _)) (fun it s₂ => TurnsAt _ _ _ _ _ _ _ _ _ it s₂) _ _); refine halt ?_))
set_option maxRecDepth 100000 in
set_option maxHeartbeats 8000000 in
theorem meet_ok {a b c d : Addr} {ax ay bx yb cx cy dx dy : Int}
    (ha : IsPt 1100000 news a ax ay) (hb : IsPt 1100000 news b bx yb) (hc : IsPt 1100000 news c cx cy) (hd : IsPt 1100000 news d dx dy) :
    Claim PySem.Challenge.rw_fc0057_01.row.prog w (Mine.hd.heap_39 w.params) Mine.hd.view_39 (looseW Mine.hd.view_39 []) mean mg mb 138 2 news [.ref a, .ref b, .ref c, .ref d]
      (fun v => v = .bool (meetP ax ay bx yb cx cy dx dy)) := by
  k_fill
  have e1 : Builtin.Int.intBits (bx - ax) ≤ 1100005 := Nat.le_trans (bits_sub hb.2.1 ha.2.1) (by decide)
  have e2 : Builtin.Int.intBits (yb - ay) ≤ 1100005 := Nat.le_trans (bits_sub hb.2.2 ha.2.2) (by decide)
  have e3 : Builtin.Int.intBits (dx - cx) ≤ 1100005 := Nat.le_trans (bits_sub hd.2.1 hc.2.1) (by decide)
  have e4 : Builtin.Int.intBits (dy - cy) ≤ 1100005 := Nat.le_trans (bits_sub hd.2.2 hc.2.2) (by decide)
  have e5 : Builtin.Int.intBits (-(yb - ay)) ≤ 1100005 := bits_neg e2
  have e6 : Builtin.Int.intBits (-(dy - cy)) ≤ 1100005 := bits_neg e4
  obtain ⟨⟨txa, tya, na, ma⟩, bax, bay⟩ := id ha
  obtain ⟨⟨txb, tyb, nb, mb'⟩, bbx, bby⟩ := id hb
  obtain ⟨⟨txc, tyc, nc, mc⟩, bcx, bcy⟩ := id hc
  obtain ⟨⟨txd, tyd, nd, md⟩, bdx, bdy⟩ := id hd
  intro dp un gd cn cs a ccd cl outer A₀ base h₀ L m s Q E B F X N T hk hd hu hret
  refine wpAny_call ?_
  k_dflt cell_enter
  k_steps
  refine Halt.on ?_
  rename Fr _ _ _ _ => lF
  rename News _ _ _ _ => lN
  refine tup_pure (σ := Unit) (fun i _ => ∀ j < i, apj ax ay bx yb cx cy dx dy j = false) (fun _ => []) [Str.ofString "right", Str.ofString "up"] rfl lF lN List.mem_cons_self () (fun p hp => nomatch hp) (fun j hj => absurd hj (Nat.not_lt_zero j)) ?turn ?done
  case turn =>
    intro i v st u h9 tk9 own hv ho hS F9 N9
    simp only [List.cons_append] at N9
    clear lF lN
    rcases i with _ | _ | _ | _ | i
    iterate 4
      · cases hv
        k_steps
        · have hf : meetP ax ay bx yb cx cy dx dy = false := by
            first | exact meetP_f (j := 0) (by decide) (by assumption) | exact meetP_f (j := 1) (by decide) (by assumption) | exact meetP_f (j := 2) (by decide) (by assumption) | exact meetP_f (j := 3) (by decide) (by assumption)
          exact hret _ _ _ (congrArg Value.bool hf.symm) (by assumption) (cb_drop (by assumption) (by intro p hp; (repeat (first | exact hp | exact List.mem_append_left _ hp | refine List.Mem.tail _ ?_))))
        · refine pure_end (by assumption) (by assumption) (fun p hp => by simpa only [List.cons_append] using hp) ho () (fun p hp => nomatch hp) ?_ (upto_succ hS (by assumption))
          intro z _ hj
          have h1 := hj (Str.ofString "right") (by simp)
          have h2 := hj (Str.ofString "up") (by simp)
          simp [shape, h1, h2]
    · cases hv
  case done =>
    intro st u h9 tk9 hS F9 N9
    clear lF lN
    k_steps
    exact hret _ _ _ (congrArg Value.bool (meetP_t hS).symm) (by assumption) (cb_drop (by assumption) (by intro p hp; (repeat (first | exact hp | refine List.Mem.tail _ ?_))))
end
end Mine
end

section
open PySem PySem.W PyProof.Rows
namespace Mine
theorem reset_M4 : True := by
  w_top off
  trivial
local macro_rules | `(tactic| k_room) => `(tactic| ktr_room)
local macro_rules | `(tactic| k_mem) => `(tactic| assumption)
local macro_rules | `(tactic| ktr_room) => `(tactic| ((try simp only [depth_under_make, depth_under_kw, depth_in1, depth_deeper, depth_caller]); (try dsimp only [ktrTop]); omega))
local macro_rules | `(tactic| ktr_units) => `(tactic| ((try simp only [units_in1, units_deeper, Around.mark_units, units_caller]); (try dsimp only [ktrTop]); omega))
local macro_rules | `(tactic| bits_by_make) => `(tactic| first | with_reducible assumption | exact Pts.bx (by assumption) (by first | assumption | exact ixn_lt (by omega) (by omega)) | exact Pts.bY (by assumption) (by first | assumption | exact ixn_lt (by omega) (by omega)))
-- p ∈ a written ledger that ends in one at hand
local macro_rules | `(tactic| tb_start) => `(tactic| (intro p hp; (repeat (first | exact hp | exact List.mem_append_left _ hp | refine List.Mem.tail _ ?_))))
local macro_rules | `(tactic| ktr_rel) => `(tactic| first | assumption | (refine IsPt.mono (by assumption) ?_; tb_start) | (refine RefList.mono (by assumption) ?_; tb_start) | (refine Pts.mono (by assumption) ?_; tb_start) | (refine (Pts.mono (by assumption) ?_) _ (by first | assumption | exact ixn_lt (by omega) (by omega)); tb_start) | (refine IsPt.up (B := 1100000) ((Pts.mono (by assumption) ?_) _ (by first | assumption | exact ixn_lt (by omega) (by omega))) (by decide); tb_start) | exact ⟨⟨_, _, _, by k_mem⟩, Nat.le_trans (by bits_by_make) (by decide), Nat.le_trans (by bits_by_make) (by decide)⟩)
local macro_rules | `(tactic| walk_at "pyIter ref") => `(tactic| ((with_reducible show wpAny _ _ (pyIter (Value.ref _)) (fun it s₂ => TurnsAt _ _ _ _ _ _ _ _ _ it s₂) _ _); refine halt ?_))
local macro_rules | `(tactic| walk_at "pyIter ref") => `(tactic| ((with_reducible show wpAny _ _ (pyIter (Value.ref _)) (fun it s₂ => LoopAtV _ _ _ _ _ _ _ _ _ it s₂) _ _); refine halt ?_))
local macro_rules | `(tactic| walk_at "exec For Name Call cons nil") => `(tactic| (k_here; (rename Fr _ _ _ _ => lF'); (with_unfolding_all refine' For_invVF lF' ?k1 ?k2 ?_; (case k1 => exact rfl); (case k2 => exact rfl); k_whole)))
local macro_rules | `(tactic| walk_at "call type:range") => `(tactic| (k_here; (rename Fr _ _ _ _ => F'); (rename News _ _ _ _ => N'); (first | (with_unfolding_all refine range1_rows F' N' ?_) | (with_unfolding_all refine range2_rows F' N' ?_)); intro _ _ _ _ _ hr9 _ _ _))
local macro_rules | `(tactic| walk_at "call builtin:len") => `(tactic| (k_here; (with_reducible show wpAny _ _ (call (Value.builtin "len") [Value.ref _]) _ _ _); k_dflt (refine' len_refs ?N ?l ?_; (case N => k_asm); (case l => ktr_rel)); intro t' tk'))
local macro_rules | `(tactic| walk_at "subscriptTail") => `(tactic| (k_here; (with_reducible show wpAny _ _ (subscriptTail _ _ (Value.ref _) (Value.int _ _)) _ _ _); k_dflt (refine' item_ix ?N ?l ?a ?b ?_ ?hs; (case N => k_asm); (case l => ktr_rel); (case a => omega); (case b => omega); (case hs => with_unfolding_all rfl))))
local macro_rules | `(tactic| walk_at "subscriptTail") => `(tactic| (k_here; (with_reducible show wpAny _ _ (subscriptTail _ _ (Value.ref _) (Value.int (Nat.cast _) _)) _ _ _); k_dflt (refine' item_at ?N ?l ?a ?_ ?hs; (case N => k_asm); (case l => ktr_rel); (case a => omega); (case hs => with_unfolding_all rfl))))
local macro_rules | `(tactic| walk_at "subscriptTail") => `(tactic| (k_here; (with_reducible show wpAny _ _ (subscriptTail _ _ (Value.ref _) (Value.int 0 _)) _ _ _); k_dflt (refine' item_pt0 ?N ?l ?_ ?hs; (case N => k_asm); (case l => ktr_rel); (case hs => with_unfolding_all rfl)); intro t9))
local macro_rules | `(tactic| walk_at "subscriptTail") => `(tactic| (k_here; (with_reducible show wpAny _ _ (subscriptTail _ _ (Value.ref _) (Value.int 1 _)) _ _ _); k_dflt (refine' item_pt1 ?N ?l ?_ ?hs; (case N => k_asm); (case l => ktr_rel); (case hs => with_unfolding_all rfl)); intro t9))
local macro_rules | `(tactic| walk_at "call ref") => `(tactic| (k_here; k_dflt (refine' Claim.use (twice_ok ?a1 ?a2 ?a3) ?k1 ?k2 ?k3 ?k4 ?k5 ?k6 ?k7 ?k8 ?_; (case k1 => k_asm); (case k2 => k_asm); (case k3 => k_asm); (case k4 => k_asm); (case k5 => k_asm); (case a1 => ktr_rel); (case a2 => ktr_rel); (case a3 => ktr_rel); (case k6 => first | exact rfl | assumption); (case k7 => ktr_room); (case k8 => ktr_units)); intro v9 h9 tk9 hR9 F9 N9; obtain ⟨t9, e9⟩ := hR9; subst e9; (try dsimp only); (try k_fold)))
local macro_rules | `(tactic| tb_rel) => `(tactic| (intro z hz hj; simp only [List.forall_mem_cons] at hz hj; simp [shape, hz, hj]; done))
section
variable {w : World} {mean : ExcName → Option Value} {mg mb : Str → Option Value} {news : List (Addr × Obj)}

set_option maxRecDepth 100000 in
set_option maxHeartbeats 8000000 in
theorem inside_ok {l a b : Addr} {C : Nat → Addr} {n : Nat} {X_1 Y : Nat → Int} {ax ay bx yb : Int}
    (hl : RefList news l C n) (hP : Pts 1100000 news n C X_1 Y) (ha : IsPt 1100000 news a ax ay) (hb : IsPt 1100000 news b bx yb) :
    Claim PySem.Challenge.rw_fc0057_01.row.prog w (Mine.hd.heap_39 w.params) Mine.hd.view_39 (looseW hd.view_39 []) mean mg mb 145 2 news [.ref l, .ref a, .ref b]
      (fun v => v = .bool (insP n X_1 Y (ax + bx) (ay + yb) n)) := by
  k_fill
  have hn0 := hl.1
  obtain ⟨_, bax, bay⟩ := id ha
  obtain ⟨_, bbx, bby⟩ := id hb
  intro dp un gd cn cs a ccd cl outer A₀ base h₀ L m s Q E B F X N T hk hd hu hret
  refine wpAny_call ?_
  k_dflt cell_enter
  k_steps
  refine Halt.on ?_
  rename Fr _ _ _ _ => lF
  rename News _ _ _ _ => lN
  rename IsRange _ _ _ _ _ _ _ _ => lR
  refine range_pure (σ := Bool) (n := n) (fun i st => st = insP n X_1 Y (ax + bx) (ay + yb) i) (fun st => [(Str.ofString "inside", .bool st)]) [Str.ofString "k", Str.ofString "c", Str.ofString "d"] rfl lR (small_one (by omega) (by omega) (by omega) (by omega)) (by rw [rangeSize_nat]; simp) lF lN false ?h1 rfl ?turn ?done
  case h1 => 
    intro p hp
    rw [List.mem_singleton.mp hp]
    with_unfolding_all rfl
  case turn =>
    intro i t st u h9 tk9 own hi ho hS F9 N9
    simp only [List.cons_append] at N9
    simp only [Int.zero_add] at F9
    clear lF lN lR
    k_steps
    all_goals first
      | (refine pure_end (by assumption) (by assumption) (by simp only [List.cons_append]; tb_start) ho (!st) (fx_cons (by with_unfolding_all rfl) fx_nil) (by tb_rel) ?_)
      | (refine pure_end (by assumption) (by assumption) (by simp only [List.cons_append]; tb_start) ho st (fx_cons (by with_unfolding_all rfl) fx_nil) (by tb_rel) ?_)
    all_goals (rw [insP, ← ixn_prev hi, hS])
    · rw [if_pos (crossB_t (by assumption) (by assumption))]
    · rw [if_neg (crossB_f (.inr (by assumption)))]
    · rw [if_neg (crossB_f (.inl (by assumption)))]
  case done =>
    intro st u h9 tk9 hS F9 N9
    clear lF lN lR
    k_steps
    subst hS
    exact hret _ _ _ rfl (by assumption) (cb_drop (by assumption) (by tb_start))
end
end Mine
end

section
open PySem PySem.W PyProof.Rows PySem.Calls PyProof.V PySem.Spec
namespace Mine
theorem Claim.weaken {prog : Program} {w : World} {K : Frag} {p : Program} {loose : List Str} {mean : ExcName → Option Value} {mg mb : Str → Option Value} {f : Addr} {D : Nat} {news : List (Addr × Obj)} {vs : List Value} {R R' : Value → Prop}
    (C : Claim prog w K p loose mean mg mb f D news vs R) (h : ∀ v, R v → R' v) : Claim prog w K p loose mean mg mb f D news vs R' := by
  intro dp un gd cn cs a ccd cl outer A₀ base h₀ L m s Q E B F X N T hk hd hu hret
  exact C dp un gd cn cs a ccd cl outer A₀ base h₀ L m s Q E B F X N T hk hd hu fun v h' tk' hR => hret v h' tk' (h v hR)
section
variable {w : World} {mean : ExcName → Option Value} {mg mb : Str → Option Value} {ps : List (Int × Int)} {V : Nat → Addr} {led led' : List (Addr × Obj)} {i j k e : Nat}
theorem side_ok1 (hps : CornersP ps) (hn : Nodes ps V led) (sub : ∀ p ∈ led, p ∈ led') (hi : i < ps.length) (hj : j < ps.length) (hk : k < ps.length) (he : e < ps.length) (hij : i ≠ j) (hke : k ≠ e) :
    Claim PySem.Challenge.rw_fc0057_01.row.prog w (hd.heap_39 w.params) hd.view_39 (looseW hd.view_39 []) mean mg mb 91 2 led' [.ref (V i), .ref (V j), .ref (V k), .ref (V e)]
      (fun v => v = .bool (meetP (px ps i) (py ps i) (px ps j) (py ps j) (px ps k) (py ps k) (px ps e) (py ps e))) :=
  (inter_ok (hn.at hi sub) (hn.at hj sub) (hn.at hk sub) (hn.at he sub)).weaken fun v h => by
    rw [h, inter_meet (corners_ne hps hi hj hij) (corners_ne hps hk he hke)]
theorem side_ok2 (hps : CornersP ps) (hn : Nodes ps V led) (sub : ∀ p ∈ led, p ∈ led') (hi : i < ps.length) (hj : j < ps.length) (hk : k < ps.length) (he : e < ps.length) (hij : i ≠ j) (hke : k ≠ e) :
    Claim PySem.Challenge.rw_fc0057_01.row.prog w (hd.heap_39 w.params) hd.view_39 (looseW hd.view_39 []) mean mg mb 91 2 led' [.ref (V k), .ref (V e), .ref (V i), .ref (V j)]
      (fun v => v = .bool (meetP (px ps i) (py ps i) (px ps j) (py ps j) (px ps k) (py ps k) (px ps e) (py ps e))) :=
  (inter_ok (hn.at hk sub) (hn.at he sub) (hn.at hi sub) (hn.at hj sub)).weaken fun v h => by
    rw [h, inter_meet (corners_ne hps hk he hke) (corners_ne hps hi hj hij), meet_swap]
theorem way_ok1 (hps : CornersP ps) (hn : Nodes ps V led) (sub : ∀ p ∈ led, p ∈ led') (hw : Way ps i j) :
    Claim PySem.Challenge.rw_fc0057_01.row.prog w (hd.heap_39 w.params) hd.view_39 (looseW hd.view_39 []) mean mg mb 105 2 led' [.ref (V i), .ref (V j)] (fun v => v = .bool (wayB ps i j)) :=
  have hj : j < ps.length := hw.1.2.1
  have hi : i < ps.length := by have := hw.1.1; omega
  (local_ok (hn.at hi sub) (hn.at hj sub) (hn.at (prv_lt hi) sub) (hn.at (nxt_lt hi) sub)).weaken fun v h => by rw [h, way_local1 hps hw]
theorem way_ok2 (hps : CornersP ps) (hn : Nodes ps V led) (sub : ∀ p ∈ led, p ∈ led') (hw : Way ps i j) :
    Claim PySem.Challenge.rw_fc0057_01.row.prog w (hd.heap_39 w.params) hd.view_39 (looseW hd.view_39 []) mean mg mb 105 2 led' [.ref (V j), .ref (V i)] (fun v => v = .bool (wayB ps i j)) :=
  have hj : j < ps.length := hw.1.2.1
  have hi : i < ps.length := by have := hw.1.1; omega
  (local_ok (hn.at hj sub) (hn.at hi sub) (hn.at (prv_lt hj) sub) (hn.at (nxt_lt hj) sub)).weaken fun v h => by rw [h, way_local2 hps hw]
theorem diag_ok {m : Nat} (hps : CornersP ps) (hn : Nodes ps V led) (sub : ∀ p ∈ led, p ∈ led') (h1 : Diag ps i j) (h2 : Diag ps k m) (hik : i < k) (hjk : j ≠ k) (hjm : j ≠ m) :
    Claim PySem.Challenge.rw_fc0057_01.row.prog w (hd.heap_39 w.params) hd.view_39 (looseW hd.view_39 []) mean mg mb 91 2 led' [.ref (V i), .ref (V j), .ref (V k), .ref (V m)]
      (fun v => v = .bool (decide (k < j ∧ j < m))) :=
  have hj : j < ps.length := h1.1.1.2.1
  have hi : i < ps.length := by have := h1.1.1.1; omega
  have hm : m < ps.length := h2.1.1.2.1
  have hk : k < ps.length := by have := h2.1.1.1; omega
  (inter_ok (hn.at hi sub) (hn.at hj sub) (hn.at hk sub) (hn.at hm sub)).weaken fun v h => by rw [h, diag_cross hps h1 h2 hik hjk hjm]
theorem apart_side {m : Nat} (hps : CornersP ps) (hn : Nodes ps V led) (sub : ∀ p ∈ led, p ∈ led') (hk : Apart ps.length k m) :
    Claim PySem.Challenge.rw_fc0057_01.row.prog w (hd.heap_39 w.params) hd.view_39 (looseW hd.view_39 []) mean mg mb 91 2 led' [.ref (V k), .ref (V (k + 1)), .ref (V m), .ref (V ((m + 1) % ps.length))]
      (fun v => v = .bool false) :=
  have hm : m < ps.length := hk.2.1
  have hk1 : k + 1 < ps.length := by have := hk.1; omega
  (inter_ok (hn.at (by omega) sub) (hn.at hk1 sub) (hn.at hm sub) (hn.at (Nat.mod_lt _ (by omega)) sub)).weaken fun v h => by rw [h, sides_apart hps hk]
theorem way_in {cl : Addr} {C : Nat → Addr} (hl : RefList led cl C ps.length) (hP : Pts 1100000 led ps.length C (px ps) (py ps)) (sub : ∀ p ∈ led, p ∈ led') (hi : i < ps.length) (hj : j < ps.length) :
    Claim PySem.Challenge.rw_fc0057_01.row.prog w (hd.heap_39 w.params) hd.view_39 (looseW hd.view_39 []) mean mg mb 145 2 led' [.ref cl, .ref (C i), .ref (C j)] (fun v => v = .bool (wayB ps i j)) :=
  inside_ok (hl.mono sub) (hP.mono sub) ((hP i hi).mono sub) ((hP j hj).mono sub)
end
end Mine
end

section
open PySem PySem.W PyProof.Rows
namespace Mine
local macro_rules | `(tactic| walk_at "never here") => `(tactic| fail "never")
theorem reset_M3 : True := by
  w_top off
  trivial
local macro_rules | `(tactic| k_room) => `(tactic| ktr_room)
local macro_rules | `(tactic| k_mem) => `(tactic| assumption)
local macro_rules | `(tactic| ktr_room) => `(tactic| ((try simp only [depth_under_make, depth_under_kw, depth_in1, depth_deeper, depth_caller]); (try dsimp only [ktrTop]); omega))
local macro_rules | `(tactic| ktr_units) => `(tactic| ((try simp only [units_in1, units_deeper, Around.mark_units, units_caller]); (try dsimp only [ktrTop]); omega))
local macro_rules | `(tactic| bits_by_make) => `(tactic| with_reducible assumption)
local macro_rules | `(tactic| walk_at "pyIter ref") => `(tactic| ((with_reducible show wpAny _ _ (pyIter (Value.ref _)) (fun it s₂ => TurnsAt _ _ _ _ _ _ _ _ _ it s₂) _ _); refine halt ?_))
local macro_rules | `(tactic| walk_at "exec For Name Tuple cons nil") => `(tactic| (k_here; (rename Fr _ _ _ _ => lF'); (with_unfolding_all refine' For_turns lF' ?_; k_whole)))
local macro_rules | `(tactic| tb_start) => `(tactic| (intro p hp; (repeat (first | exact hp | exact List.mem_append_left _ hp | refine List.Mem.tail _ ?_))))
local macro_rules | `(tactic| k_all) => `(tactic| assumption)
local macro_rules | `(tactic| tb_rel) => `(tactic| (intro z hz hj; simp only [List.forall_mem_cons] at hz hj; simp [shape, hz, hj]; done))
theorem bits_abs {x : Int} (h : Builtin.Int.intBits x ≤ 1048576) : Builtin.Int.intBits (if x < 0 then -x else x) ≤ 1048576 := Nat.le_trans (bits_ite (bits_neg h) h) (by decide)
theorem fmod3 (x : Int) : x.fmod 3 = 0 ∨ x.fmod 3 = 1 ∨ x.fmod 3 = 2 := by
  rw [Int.fmod_eq_emod_of_nonneg _ (by decide)]; omega
theorem fmod2 (x : Int) : x.fmod 2 = 0 ∨ x.fmod 2 = 1 := by
  rw [Int.fmod_eq_emod_of_nonneg _ (by decide)]; omega
theorem kind3 {x : Int} (h1 : (([0, 1] : List Int).any fun y => y == x.fmod 3) = false) (h2 : (([0, 2] : List Int).any fun y => y == x.fmod 3) = false) : False := by
  rcases fmod3 x with h | h | h <;> (rw [h] at h1 h2; revert h1 h2; decide)
theorem kindQt {x : Int} (h1 : (([0, 1] : List Int).any fun y => y == 1 + x.fmod 2) = true) (h2 : (([0, 2] : List Int).any fun y => y == 1 + x.fmod 2) = true) : False := by
  have h := fmod2 x
  rcases h with h | h <;> (rw [h] at h1 h2; revert h1 h2; decide)
theorem kindQf {x : Int} (h1 : (([0, 1] : List Int).any fun y => y == 1 + x.fmod 2) = false) (h2 : (([0, 2] : List Int).any fun y => y == 1 + x.fmod 2) = false) : False := by
  have h := fmod2 x
  rcases h with h | h <;> (rw [h] at h1 h2; revert h1 h2; decide)
local macro_rules | `(tactic| walk_at "call builtin:len") => `(tactic| (k_here; (with_reducible show wpAny _ _ (call (Value.builtin "len") [Value.ref _]) _ _ _); k_dflt (refine' len_led ?N ?l ?k ?_; (case N => k_asm); (case l => k_mem); (case k => omega)); intro t' tk'))
local macro_rules | `(tactic| walk_at "binaryOp Add ref ref") => `(tactic| (k_here; (with_reducible show wpAny _ _ (binaryOp Operator.Add (Value.ref _) (Value.ref _)) _ _ _); k_dflt (refine' add_led ?F ?N ?a ?b ?z ?_; (case F => k_asm); (case N => k_asm); (case a => k_mem); (case b => k_mem); (case z => ((simp only [refs, List.size_toArray, List.length_map, List.length_range, List.length_append, List.length_cons, List.length_nil, List.length_reverse, sizeLine_eq, Array.length_toList]); omega))); intro D' h' F' N' l1; (try k_lt l1); (try k_sweep)))
local macro_rules | `(tactic| walk_at "exec Assign cons ListComp") => `(tactic| (k_here; k_dflt (refine LCg.Assign_ListComp_U (F₀ := by k_asm) (by rfl) (by with_unfolding_all rfl) (by with_unfolding_all rfl) (by decide) (by rfl) (by decide) (by rfl) (by rfl) (by rfl) ?_)))
local macro_rules | `(tactic| walk_at "eval ListComp") => `(tactic| (k_here; k_dflt (refine LCg.ListComp_U (F₀ := by k_asm) (by with_unfolding_all rfl) (by decide) (by rfl) (by decide) (by rfl) ?_)))
local macro_rules | `(tactic| walk_at "CompSrc") => `(tactic| refine halt ?_)
local macro_rules | `(tactic| walk_at "call type:list") => `(tactic| (k_here; (with_reducible show wpAny _ _ (call (Value.type _) [Value.ref _]) _ _ _); k_dflt (refine' rev_N ?hh ?F ?N ?m ?d ?z ?_; (case hh => exact rfl); (case F => k_asm); (case N => k_asm); (case m => k_mem); (case d => exact tb_ltOf (by assumption)); (case z => ((simp only [refs, List.size_toArray, List.length_map, List.length_range, List.length_append, List.length_cons, List.length_nil, sizeLine_eq, Array.length_toList]); omega))); intro D' c' h' tk' F' N'))
local macro_rules | `(tactic| ktr_rel) => `(tactic| first | assumption | (refine IsPt.mono (by assumption) ?_; tb_start))
local macro_rules | `(tactic| walk_at "subscriptTail") => `(tactic| (k_here; (with_reducible show wpAny _ _ (subscriptTail _ _ (Value.ref _) (Value.int 0 _)) _ _ _); k_dflt (refine' item_pt0 ?N ?l ?_ ?hs; (case N => k_asm); (case l => ktr_rel); (case hs => with_unfolding_all rfl)); intro t9))
local macro_rules | `(tactic| walk_at "subscriptTail") => `(tactic| (k_here; (with_reducible show wpAny _ _ (subscriptTail _ _ (Value.ref _) (Value.int 1 _)) _ _ _); k_dflt (refine' item_pt1 ?N ?l ?_ ?hs; (case N => k_asm); (case l => ktr_rel); (case hs => with_unfolding_all rfl)); intro t9))
section
variable {w : World} {mean : ExcName → Option Value} {mg mb : Str → Option Value} {news : List (Addr × Obj)}

set_option maxRecDepth 100000 in
set_option maxHeartbeats 8000000 in
theorem corners_ok {l : Addr} {vs : List Value} {ns : List Int} (hI : IntsAre vs ns) (hlen : ns.length ≤ 63) (hL : (PyData.list (ns.map PyData.int)).layable0 = true) 
  (dp un : Nat) (gd : Option (List Code)) (cn : Str) (cs : Scope) (a : Addr) (ccd : Value) (cl : List (Str × Addr)) (outer : List Env) (A₀ : Around) (base h₀ : Heap) (L : Addr) (m : Str → Option Value) (s : Shared) (Q E : Value → Shared → Prop)
  (hl : base.IsList l vs.toArray)
  (B : Below A₀ base outer h₀) (F : Fr h₀ L s.heap m) (X : (Mine.hd.heap_39 w.params).In h₀) (N : News h₀ L s.heap []) (T : Top hd.view_39 (looseW hd.view_39 []) mean mg mb h₀) (hk : cs.kind = .function)
  (hd' : dp + 5 < recursionLimit) (hu : un + 8 * 5 < cLine)
  (hret : ∀ (D : Addr) (h' : Heap) (tk' : Nat) (led : List (Addr × Obj)) (C : Nat → Addr) (ps : List (Int × Int)) (n : Nat), CornersP ps → (D, listO (refs C ps.length) n) ∈ led → PtsL 1100000 led C ps → Fr h₀ L h' m → News h₀ L h' led → Q (.ref D) { s with heap := h', toks := tk' }) :
  wpAny (model PySem.Challenge.rw_fc0057_01.row.prog w) (ktrTop dp un gd cn cs L a ccd cl outer) (call (.ref 124) [.ref l]) Q E s := by
  revert X; k_fill; intro X
  refine wpAny_call ?_
  k_dflt (refine' code_defC ?k1 ?k2 ?k3 ?k4 ?k5 ?kA ?kF ?kK ?k6 ?k7 ?k8 ?k9 ?kB ?kD ?_ ?c2 ?c3 ?c4; (case kA => exact rfl); (case kF => exact rfl); (case kK => assumption); (case k1 => k_asm); (case k2 => k_asm); (case k3 => k_asm); (case k4 => k_asm); (case k5 => k_asm); (case k6 => k_is); (case k7 => k_is); (case k8 => k_room); (case k9 => exact BindsTo.of_eq rfl); (case kB => exact rfl); (case kD => decide +kernel); (case c2 => exact rfl); (case c3 => exact rfl); (case c4 => exact rfl); k_whole)
  intro g' L' h' tk' cells' FG' F' N' Y' B' X' T' l1
  (try k_lt l1); k_cells Y'; (try simp only [List.cons_append, List.nil_append] at N'); (try dsimp only); (try k_lift B'); (try k_fold)
  k_steps
  refine Halt.on ?_
  rename Fr _ _ _ _ => lF
  rename News _ _ _ _ => lN
  rename_i o' d1' bl _ l1a al _ l1b dd _ l1c _ _ _ kt _ l1d
  have e1 : bl ≠ al := by refine neN ?_; omega
  have lN2 := cb_drop lN (news := (bl, listO (refs (fun _ => 0) 0) 0) :: (al, listO (refs (fun _ => 0) 0) 0) :: (kt, tupO [.int 1 tk, .int 2 (tk + 1), .int 3 (tk + 1 + 1)] 0) :: [(L' + 1, o')]) (by
    intro p hp
    simp only [List.mem_cons, List.not_mem_nil, or_false] at hp ⊢
    rcases hp with h | h | h | h
    · exact .inr (.inr (.inr (.inl h)))
    · exact .inr (.inr (.inl h))
    · exact .inl h
    · exact .inr (.inr (.inr (.inr h))))
  refine tup_st (σ := List (Int × Int) × List (Int × Int)) (CornS bl al kt (L' + 1) _ o') (fun _ => []) [Str.ofString "k", Str.ofString "number", Str.ofString "kind"] rfl lF lN2 (.tail _ (.tail _ (.head _))) ?hk (.intro ([], []) (fun p hp => nomatch hp) (fun _ _ _ => rfl) ⟨⟨rfl, rfl⟩, Nat.le_refl 0, Nat.le_refl 0, fun _ => 0, fun _ => 0, 0, 0, [(kt, _), (L' + 1, o')], rfl, ?o1, ?o2, .nil, .nil, .head _, .tail _ (.head _)⟩) ?turn ?done
  case hk =>
    rintro i st nx ⟨_, _, _, Cb, Ca, nb, na, rest, rfl, _, _, _, _, hk, _⟩
    exact .tail _ (.tail _ hk)
  case o1 =>
    intro p hp
    simp only [List.mem_cons, List.not_mem_nil, or_false] at hp
    rcases hp with rfl | rfl <;> (refine neN ?_; (try dsimp only); omega)
  case o2 =>
    intro p hp
    simp only [List.mem_cons, List.not_mem_nil, or_false] at hp
    rcases hp with rfl | rfl <;> (refine neN ?_; (try dsimp only); omega)
  case turn =>
    rintro i v st u nx h9 tk9 own hv ho hio ⟨hC, lB, lA, Cb, Ca, nb, na, rest, rfl, hb, ha, hB, hA, hkt, hce⟩ F9 N9
    clear lF lN lN2
    simp only [List.cons_append] at N9
    have hrb : ∀ p ∈ rest ++ own, p.1 ≠ bl := fun p hp => (List.mem_append.mp hp).elim (hb p) (fun h => ho p h _ (.head _))
    have hra : ∀ p ∈ rest ++ own, p.1 ≠ al := fun p hp => (List.mem_append.mp hp).elim (ha p) (fun h => ho p h _ (.tail _ (.head _)))
    have z1 : (refs Cb st.1.length).toArray.size ≤ sizeLine := by
      have : i ≤ 3 := by rcases i with _ | _ | _ | i; iterate 3 (omega)
                         cases hv
      simp only [refs, List.size_toArray, List.length_map, List.length_range, sizeLine_eq]; omega
    have z2 : (refs Ca st.2.length).toArray.size ≤ sizeLine := by
      have : i ≤ 3 := by rcases i with _ | _ | _ | i; iterate 3 (omega)
                         cases hv
      simp only [refs, List.size_toArray, List.length_map, List.length_range, sizeLine_eq]; omega
    have bc := bits_cell hL
    have bv1 : ∀ j, Builtin.Int.intBits (-1 - if cellAt ns j 0 < 0 then -cellAt ns j 0 else cellAt ns j 0) ≤ 1048600 := fun j => Nat.le_trans (bits_sub (m := 64) (by decide) (bits_abs (bc j))) (by decide)
    have bv2 : ∀ j, Builtin.Int.intBits (1 + if cellAt ns j 0 < 0 then -cellAt ns j 0 else cellAt ns j 0) ≤ 1048600 := fun j => Nat.le_trans (bits_add (m := 64) (by decide) (bits_abs (bc j))) (by decide)
    have cv1 : ∀ j, (-1 - if cellAt ns j 0 < 0 then -cellAt ns j 0 else cellAt ns j 0) ≤ -1 := fun j => by split <;> omega
    have cv2 : ∀ j, 1 ≤ (1 + if cellAt ns j 0 < 0 then -cellAt ns j 0 else cellAt ns j 0) := fun j => by split <;> omega
    rcases i with _ | _ | _ | i
    · cases hv
      obtain ⟨q1, q2⟩ : st.1 = [] ∧ st.2 = [] := hC
      k_steps
      · exact corn_both (by assumption) (by assumption) e1 hio ho (fun _ h => .tail _ (.tail _ h)) (by tb_start) (by k_mem) (by k_mem) (by k_mem) (by k_mem) hb ha hkt hce hB hA (by decide) (bv1 _) (bv2 _) ⟨_, _, cv1 _, cv2 _, .inl ⟨by rw [q1], by rw [q2]⟩⟩ lB lA (by tb_rel)
      · exact corn_b (by assumption) (by assumption) e1 hio ho (fun _ h => .tail _ (.tail _ h)) (by tb_start) (by k_mem) (by k_mem) (by k_mem) hb ha hkt hce hB hA (by decide) (bv1 _) ⟨_, 1, cv1 _, by decide, .inr (.inl ⟨by rw [q1], by rw [q2]⟩)⟩ lB lA (by tb_rel)
      · exact corn_a (by assumption) (by assumption) e1 hio ho (fun _ h => .tail _ (.tail _ h)) (by tb_start) (by k_mem) (by k_mem) (by k_mem) hb ha hkt hce hB hA (by decide) (bv2 _) ⟨-1, _, by decide, cv2 _, .inr (.inr ⟨by rw [q1], by rw [q2]⟩)⟩ lB lA (by tb_rel)
      · exact (kind3 (by assumption) (by assumption)).elim
    · cases hv
      k_steps
      · exact corn_both (by assumption) (by assumption) e1 hio ho (fun _ h => .tail _ (.tail _ h)) (by tb_start) (by k_mem) (by k_mem) (by k_mem) (by k_mem) hb ha hkt hce hB hA (by decide) (bv1 _) (bv2 _) ⟨st.1, st.2, hC, _, _, cv1 _, cv2 _, .inl ⟨rfl, rfl⟩⟩ lB lA (by tb_rel)
      · exact corn_b (by assumption) (by assumption) e1 hio ho (fun _ h => .tail _ (.tail _ h)) (by tb_start) (by k_mem) (by k_mem) (by k_mem) hb ha hkt hce hB hA (by decide) (bv1 _) ⟨st.1, st.2, hC, _, 1, cv1 _, by decide, .inr (.inl ⟨rfl, rfl⟩)⟩ lB lA (by tb_rel)
      · exact corn_a (by assumption) (by assumption) e1 hio ho (fun _ h => .tail _ (.tail _ h)) (by tb_start) (by k_mem) (by k_mem) (by k_mem) hb ha hkt hce hB hA (by decide) (bv2 _) ⟨st.1, st.2, hC, -1, _, by decide, cv2 _, .inr (.inr ⟨rfl, rfl⟩)⟩ lB lA (by tb_rel)
      · exact (kind3 (by assumption) (by assumption)).elim
    · cases hv
      obtain ⟨B₁, A₁, p1, p2⟩ := hC
      k_steps
      all_goals first
        | exact (kindQt (by assumption) (by assumption)).elim
        | exact (kindQf (by assumption) (by assumption)).elim
        | exact corn_b (by assumption) (by assumption) e1 hio ho (fun _ h => .tail _ (.tail _ h)) (by tb_start) (by k_mem) (by k_mem) (by k_mem) hb ha hkt hce hB hA (by decide) (bv1 _) ⟨B₁, A₁, st.1, st.2, p1, p2, _, 1, cv1 _, by decide, .inl ⟨rfl, rfl⟩⟩ lB lA (by tb_rel)
        | exact corn_a (by assumption) (by assumption) e1 hio ho (fun _ h => .tail _ (.tail _ h)) (by tb_start) (by k_mem) (by k_mem) (by k_mem) hb ha hkt hce hB hA (by decide) (bv2 _) ⟨B₁, A₁, st.1, st.2, p1, p2, -1, _, by decide, cv2 _, .inr (.inl ⟨rfl, rfl⟩)⟩ lB lA (by tb_rel)
        | exact corn_0 (by assumption) (by assumption) e1 hio ho (fun _ h => .tail _ (.tail _ h)) (by tb_start) (by k_mem) (by k_mem) hb ha hkt hce hB hA ⟨B₁, A₁, st.1, st.2, p1, p2, -1, 1, by decide, by decide, .inr (.inr ⟨rfl, rfl, by omega⟩)⟩ lB lA (by tb_rel)
    · cases hv
  case done =>
    rintro st u nx h9 tk9 ⟨hC, lB, lA, Cb, Ca, nb, na, rest, rfl, hb, ha, hB, hA, hkt, hce⟩ F9 N9
    clear lF lN lN2
    change Chains 3 st.1 st.2 at hC
    change st.1.length ≤ 3 at lB
    change st.2.length ≤ 3 at lA
    have hs : ∀ p ∈ rest, p ∈ (bl, listO (refs Cb st.1.length) nb) :: (al, listO (refs Ca st.2.length) na) :: rest := fun p hp => .tail _ (.tail _ hp)
    have hnc : ∀ xs n, o' ≠ { cls := .type "tuple", data := .seq xs n } := fun xs n e => by rw [e] at d1'; cases d1'
    have hB2 := hB.less N9 hs (hs _ hce) hnc
    have hA2 := hA.less N9 hs (hs _ hce) hnc
    have N10 := cb_drop N9 (news := (L' + 1, o') :: (bl, listO (refs Cb st.1.length) nb) :: (al, listO (refs Ca st.2.length) na) :: lessA (L' + 1) rest) (by
      intro p hp
      rcases List.mem_cons.mp hp with rfl | hp
      · exact hs _ hce
      · rcases List.mem_cons.mp hp with rfl | hp
        · exact .head _
        · rcases List.mem_cons.mp hp with rfl | hp
          · exact .tail _ (.head _)
          · exact hs _ (lessA_sub _ hp))
    clear N9
    have hr1 : ∀ p ∈ lessA (L' + 1) rest, p.1 ≠ L' + 1 := lessA_ne
    k_steps
    refine Halt.on ?_
    rename Fr _ _ _ _ => lF
    rename News _ _ _ _ => lN
    have lB2 : PL 1048600 (lessA (L' + 1) rest) (refs Cb st.1.length) st.1 := .of hB2
    have lA2 : PL 1048600 (lessA (L' + 1) rest) (refs Ca st.2.length) st.2 := .of hA2
    refine LCg.CompSrc.ledger (by rfl) lF lN (.head _) ?hz ?_
    case hz =>
      simp only [refs, List.size_toArray, List.length_map, List.length_range, List.length_append, List.length_cons, List.length_nil, List.length_reverse, sizeLine_eq]
      omega
    intro gh
    have bs0 := bits_cell hL 0
    refine comp_map (B := 1048600) (B' := 1100000) (ps := [(0, 0)] ++ st.1 ++ [(4, 0)] ++ st.2.reverse) (fun p => (p.1, p.2 + cellAt ns 0 0 * p.1)) ?hp ?turn1 ?fin1
    case hp =>
      refine (((PL.cons ⟨⟨_, _, _, by k_mem⟩, by decide, by decide⟩ .nil).append (lB2.mono ?_)).append (.cons ⟨⟨_, _, _, by k_mem⟩, by decide, by decide⟩ .nil)).append (lA2.mono ?_).reverse
      · tb_start
      · tb_start
    case turn1 =>
      intro pa ppx ppy ys nx I oI C oC D m₂ h8 tk8 E' hmem hpt hsub hns hx8 F8 N8 off8 ne8
      clear lF lN
      have hce8 := hsub (L' + 1, _) (by k_mem)
      have hx0 := chains_x hC _ hmem
      have bx0 : Builtin.Int.intBits ppx ≤ 64 := intBits_le_64 (by have := hx0.1; dsimp only at this; omega) (by have := hx0.2; dsimp only at this; omega)
      have by0 := hpt.2.2
      k_steps
      exact el_end (by assumption) (by assumption) (by omega) (by omega) (by omega) off8 (.inr ⟨_, .tail _ (hsub _ (.head _)), rfl, _, rfl⟩) (Nat.le_trans bx0 (by decide)) (Nat.le_trans (bits_add by0 (bits_mul bs0 bx0)) (by decide)) rfl
    case fin1 =>
      intro ys nx hys hsub D h8 tk8 F8 N8 off8
      clear lF lN
      have hys2 : PL 1100000 ((D, LCg.lst ys) :: nx) ys (((ringP st.1 st.2).map (shr (cellAt ns 0 0)))) := hys.mono fun p hp => .tail _ hp
      (show wpAny _ _ _ _ _ _)
      k_steps
      · refine Halt.on ?_
        rename Fr _ _ _ _ => lF
        rename News _ _ _ _ => lN
        refine LCg.CompSrc.ledger (by rfl) lF lN (.head _) ?hz2 ?_
        case hz2 =>
          have := hys.length
          simp only [LCg.lst, List.size_toArray, this, sizeLine_eq, ringP, refs, List.length_map, List.length_append, List.length_cons, List.length_nil, List.length_reverse]
          omega
        intro gh
        refine comp_map (B := 1100000) (B' := 1100000) rot hys2 ?turn2 ?fin2
        case turn2 =>
          intro pa ppx ppy ys nx I oI C oC D m₂ h8 tk8 E' hmem hpt hsub hns hx8 F8 N8 off8 ne8
          clear lF lN
          k_steps
          exact el_end (by assumption) (by assumption) (by omega) (by omega) (by omega) off8 (.inr ⟨_, .tail _ (hsub _ (.head _)), rfl, _, rfl⟩) (bits_neg hpt.2.2) hpt.2.1 rfl
        case fin2 =>
          intro ys2 nx2 hy2 hs2 D2 h2 tk2 F2 N2 off2
          clear lF lN
          k_steps
          obtain ⟨C2, e2, hP2⟩ := hy2.to
          subst e2
          exact hret _ _ _ _ C2 _ _ ⟨st.1, st.2, _, hC, .inr rfl⟩ (.head _) (hP2.mono fun p hp => .tail _ hp) (by assumption) (by assumption)
      · obtain ⟨C2, e2, hP2⟩ := hys.to
        subst e2
        exact hret _ _ _ _ C2 _ _ ⟨st.1, st.2, _, hC, .inl rfl⟩ (.head _) (hP2.mono fun p hp => .tail _ hp) (by assumption) (by assumption)
end
end Mine
end

section
open PySem PySem.W PyProof.Rows
namespace Mine
theorem reset_M5 : True := by
  w_top off
  trivial
local macro_rules | `(tactic| k_room) => `(tactic| ktr_room)
local macro_rules | `(tactic| k_mem) => `(tactic| assumption)
local macro_rules | `(tactic| k_all) => `(tactic| assumption)
local macro_rules | `(tactic| ktr_room) => `(tactic| ((try simp only [depth_under_make, depth_under_kw, depth_in1, depth_deeper, depth_caller]); (try dsimp only [ktrTop]); omega))
local macro_rules | `(tactic| ktr_units) => `(tactic| ((try simp only [units_in1, units_deeper, Around.mark_units, units_caller]); (try dsimp only [ktrTop]); omega))
section
variable {w : World} {mean : ExcName → Option Value} {mg mb : Str → Option Value}
  {dp un : Nat} {gd : Option (List Code)} {cn : Str} {cs : Scope} {a : Addr} {ccd : Value} {cl : List (Str × Addr)} {outer : List Env} {A₀ : Around} {base h₀ : Heap} {L : Addr} {m : Str → Option Value} {s : Shared} {Q E : Value → Shared → Prop}
  {num : Int} {t : Tok} {pt pd : Addr} {x y : Int} {tx ty : Tok} {k0 k1 : Tok} {g0 g1 : Int} {rest : List (Addr × Obj)}

set_option maxRecDepth 100000 in
set_option maxHeartbeats 8000000 in
theorem insert_none (m1 : (pt, instObj 31 pd) ∈ rest) (m2 : (pd, dictOf [⟨g0, .str (Str.ofString "x") k0, .int x tx⟩, ⟨g1, .str (Str.ofString "y") k1, .int y ty⟩] 2) ∈ rest)
    (B : Below A₀ base outer h₀) (F : Fr h₀ L s.heap m) (X : (Mine.hd.heap_39 w.params).In h₀) (N : News h₀ L s.heap rest) (T : Top hd.view_39 (looseW hd.view_39 []) mean mg mb h₀) (hk : cs.kind = .function)
    (hd' : dp + 5 < recursionLimit) (hu : un + 8 * 5 < cLine)
    (hret : ∀ (v d : Addr) (hs : Nat → Int) (ks : Nat → Tok) (vi vp vz v8 v9 vs : Value) (h' : Heap) (tk' : Nat), Fr h₀ L h' m → News h₀ L h' ((v, instObj 59 d) :: (d, nodeObj hs ks vi vp x y tx ty (.ref v) (.ref v) vz v8 v9 vs) :: rest) → (∀ p ∈ rest, p.1 < d) → d < v → Q (.ref v) { s with heap := h', toks := tk' }) :
    wpAny (model PySem.Challenge.rw_fc0057_01.row.prog w) (ktrTop dp un gd cn cs L a ccd cl outer) (call (.ref 98) [.int num t, .ref pt, .none]) Q E s := by
  revert X; k_fill; intro X
  refine wpAny_call ?_
  k_dflt cell_enter
  k_steps
  exact hret _ _ (fun i => ([_, _, _, _, _, _, _, _, _, _] : List Int).getD i 0) (fun i => ([_, _, _, _, _, _, _, _, _, _] : List Tok).getD i 0) _ _ _ _ _ _ _ _ (by assumption) (by assumption) (by assumption) (by assumption)

set_option maxRecDepth 100000 in
set_option maxHeartbeats 8000000 in
theorem insert_two {l dl f df : Addr} {hs1 hs2 : Nat → Int} {ks1 ks2 : Nat → Tok} {i1 p1 z1 z2 z3 z4 i2 p2 z5 z6 z7 z8 lp fn : Value} {x1 y1 x2 y2 : Int} {tx1 ty1 tx2 ty2 : Tok}
    (m1 : (pt, instObj 31 pd) ∈ rest) (m2 : (pd, dictOf [⟨g0, .str (Str.ofString "x") k0, .int x tx⟩, ⟨g1, .str (Str.ofString "y") k1, .int y ty⟩] 2) ∈ rest)
    (e1 : @Ne Nat dl df) (e2 : @Ne Nat l dl) (e3 : @Ne Nat l df) (e4 : @Ne Nat f dl) (e5 : @Ne Nat f df) (r1 : ∀ p ∈ rest, p.1 ≠ dl) (r2 : ∀ p ∈ rest, p.1 ≠ df)
    (B : Below A₀ base outer h₀) (F : Fr h₀ L s.heap m) (X : (Mine.hd.heap_39 w.params).In h₀) 
    (N : News h₀ L s.heap ((dl, nodeObj hs1 ks1 i1 p1 x1 y1 tx1 ty1 lp (.ref f) z1 z2 z3 z4) :: (df, nodeObj hs2 ks2 i2 p2 x2 y2 tx2 ty2 (.ref l) fn z5 z6 z7 z8) :: (l, instObj 59 dl) :: (f, instObj 59 df) :: rest)) (T : Top hd.view_39 (looseW hd.view_39 []) mean mg mb h₀) (hk : cs.kind = .function)
    (hd' : dp + 5 < recursionLimit) (hu : un + 8 * 5 < cLine)
    (hret : ∀ (v d : Addr) (hs : Nat → Int) (ks : Nat → Tok) (vi vp vz v8 v9 vs : Value) (h' : Heap) (tk' : Nat), Fr h₀ L h' m → 
      News h₀ L h' ((v, instObj 59 d) :: (d, nodeObj hs ks vi vp x y tx ty (.ref l) (.ref f) vz v8 v9 vs) :: (dl, nodeObj hs1 ks1 i1 p1 x1 y1 tx1 ty1 lp (.ref v) z1 z2 z3 z4) :: (df, nodeObj hs2 ks2 i2 p2 x2 y2 tx2 ty2 (.ref v) fn z5 z6 z7 z8) :: (l, instObj 59 dl) :: (f, instObj 59 df) :: rest) →
      AllLt d ((dl, nodeObj hs1 ks1 i1 p1 x1 y1 tx1 ty1 lp (.ref f) z1 z2 z3 z4) :: (df, nodeObj hs2 ks2 i2 p2 x2 y2 tx2 ty2 (.ref l) fn z5 z6 z7 z8) :: (l, instObj 59 dl) :: (f, instObj 59 df) :: rest) → d < v → Q (.ref v) { s with heap := h', toks := tk' }) :
    wpAny (model PySem.Challenge.rw_fc0057_01.row.prog w) (ktrTop dp un gd cn cs L a ccd cl outer) (call (.ref 98) [.int num t, .ref pt, .ref l]) Q E s := by
  revert X; k_fill; intro X
  refine wpAny_call ?_
  k_dflt cell_enter
  k_steps
  exact hret _ _ (fun i => ([_, _, _, _, _, _, _, _, _, _] : List Int).getD i 0) (fun i => ([_, _, _, _, _, _, _, _, _, _] : List Tok).getD i 0) _ _ _ _ _ _ _ _ (by assumption) (by assumption) (by assumption) (by assumption)

set_option maxRecDepth 100000 in
set_option maxHeartbeats 8000000 in
theorem insert_one {l dl : Addr} {hs1 : Nat → Int} {ks1 : Nat → Tok} {i1 p1 z1 z2 z3 z4 : Value} {x1 y1 : Int} {tx1 ty1 : Tok}
    (m1 : (pt, instObj 31 pd) ∈ rest) (m2 : (pd, dictOf [⟨g0, .str (Str.ofString "x") k0, .int x tx⟩, ⟨g1, .str (Str.ofString "y") k1, .int y ty⟩] 2) ∈ rest)
    (e2 : @Ne Nat l dl) (r1 : ∀ p ∈ rest, p.1 ≠ dl)
    (B : Below A₀ base outer h₀) (F : Fr h₀ L s.heap m) (X : (Mine.hd.heap_39 w.params).In h₀) 
    (N : News h₀ L s.heap ((dl, nodeObj hs1 ks1 i1 p1 x1 y1 tx1 ty1 (.ref l) (.ref l) z1 z2 z3 z4) :: (l, instObj 59 dl) :: rest)) (T : Top hd.view_39 (looseW hd.view_39 []) mean mg mb h₀) (hk : cs.kind = .function)
    (hd' : dp + 5 < recursionLimit) (hu : un + 8 * 5 < cLine)
    (hret : ∀ (v d : Addr) (hs : Nat → Int) (ks : Nat → Tok) (vi vp vz v8 v9 vs : Value) (h' : Heap) (tk' : Nat), Fr h₀ L h' m → 
      News h₀ L h' ((v, instObj 59 d) :: (d, nodeObj hs ks vi vp x y tx ty (.ref l) (.ref l) vz v8 v9 vs) :: (dl, nodeObj hs1 ks1 i1 p1 x1 y1 tx1 ty1 (.ref v) (.ref v) z1 z2 z3 z4) :: (l, instObj 59 dl) :: rest) →
      AllLt d ((dl, nodeObj hs1 ks1 i1 p1 x1 y1 tx1 ty1 (.ref l) (.ref l) z1 z2 z3 z4) :: (l, instObj 59 dl) :: rest) → d < v → Q (.ref v) { s with heap := h', toks := tk' }) :
    wpAny (model PySem.Challenge.rw_fc0057_01.row.prog w) (ktrTop dp un gd cn cs L a ccd cl outer) (call (.ref 98) [.int num t, .ref pt, .ref l]) Q E s := by
  revert X; k_fill; intro X
  refine wpAny_call ?_
  k_dflt cell_enter
  k_steps
  exact hret _ _ (fun i => ([_, _, _, _, _, _, _, _, _, _] : List Int).getD i 0) (fun i => ([_, _, _, _, _, _, _, _, _, _] : List Tok).getD i 0) _ _ _ _ _ _ _ _ (by assumption) (by assumption) (by assumption) (by assumption)
end
end Mine
end

section
open PySem PySem.W PyProof.Rows
namespace Mine
theorem reset_M6 : True := by
  w_top off
  trivial
local macro_rules | `(tactic| k_room) => `(tactic| ktr_room)
local macro_rules | `(tactic| k_mem) => `(tactic| assumption)
local macro_rules | `(tactic| k_all) => `(tactic| assumption)
local macro_rules | `(tactic| ktr_room) => `(tactic| first | decide | ((try simp only [depth_under_make, depth_under_kw, depth_in1, depth_deeper, depth_caller]); (try dsimp only [ktrTop]); omega))
local macro_rules | `(tactic| ktr_units) => `(tactic| first | decide | ((try simp only [units_in1, units_deeper, Around.mark_units, units_caller]); (try dsimp only [ktrTop]); omega))
local macro_rules | `(tactic| tb_start) => `(tactic| (intro p hp; (repeat (first | exact hp | exact List.mem_append_left _ hp | refine List.Mem.tail _ ?_ | refine List.mem_append_left _ ?_))))
local macro_rules | `(tactic| ktr_rel) => `(tactic| first
  | (with_reducible assumption)
  | ((with_reducible show RefList _ _ _ _); refine RefList.mono (by with_reducible assumption) ?_; tb_start)
  | ((with_reducible show IsPt 1100000 _ _ _ _); refine Pts.at (by with_reducible assumption) (by first | assumption | omega | exact ixn_lt (by omega) (by omega)) ?_; tb_start)
  | ((with_reducible show IsPt 1200000 _ _ _ _); refine Pts.at2 (B := 1100000) (by with_reducible assumption) (by decide) (by first | assumption | omega | exact ixn_lt (by omega) (by omega)) ?_; tb_start)
  | ((with_reducible show IsNode _ _ _ _ _ _); refine Nodes.at (by with_reducible assumption) (by first | assumption | omega | exact prv_lt (by first | assumption | omega) | exact nxt_lt (by first | assumption | omega)) ?_; tb_start)
  | ((with_reducible show Pts _ _ _ _ _ _); refine Pts.mono (by with_reducible assumption) ?_; tb_start))
local macro_rules | `(tactic| walk_at "pyIter ref") => `(tactic| ((with_reducible show wpAny _ _ (pyIter (Value.ref _)) (fun it s₂ => TurnsAt _ _ _ _ _ _ _ _ _ it s₂) _ _); refine halt ?_))
local macro_rules | `(tactic| walk_at "pyIter ref") => `(tactic| ((with_reducible show wpAny _ _ (pyIter (Value.ref _)) (fun it s₂ => LoopAtV _ _ _ _ _ _ _ _ _ it s₂) _ _); refine halt ?_))
local macro_rules | `(tactic| walk_at "exec For Name Call cons nil") => `(tactic| (k_here; (rename Fr _ _ _ _ => lF'); (with_unfolding_all refine' For_invVF lF' ?k1 ?k2 ?_; (case k1 => exact rfl); (case k2 => exact rfl); k_whole)))
local macro_rules | `(tactic| walk_at "call type:range") => `(tactic| (k_here; (rename Fr _ _ _ _ => F'); (rename News _ _ _ _ => N'); (first | (with_unfolding_all refine range1_rows F' N' ?_) | (with_unfolding_all refine range2_rows F' N' ?_)); intro _ _ _ _ _ hr9 _ _ _))
local macro_rules | `(tactic| walk_at "call builtin:len") => `(tactic| (k_here; (with_reducible show wpAny _ _ (call (Value.builtin "len") [Value.ref _]) _ _ _); k_dflt (refine' len_led ?N ?l ?k ?_; (case N => k_asm); (case l => k_mem); (case k => omega)); intro t' tk'))
local macro_rules | `(tactic| walk_at "subscriptTail") => `(tactic| (k_here; (with_reducible show wpAny _ _ (subscriptTail _ _ (Value.ref _) (Value.int _ _)) _ _ _); k_dflt (refine' item_ix ?N ?l ?a ?b ?_ ?hs; (case N => k_asm); (case l => ktr_rel); (case a => omega); (case b => omega); (case hs => with_unfolding_all rfl))))
local macro_rules | `(tactic| walk_at "subscriptTail") => `(tactic| (k_here; (with_reducible show wpAny _ _ (subscriptTail _ _ (Value.ref _) (Value.int (Nat.cast _) _)) _ _ _); k_dflt (refine' item_at ?N ?l ?a ?_ ?hs; (case N => k_asm); (case l => ktr_rel); (case a => omega); (case hs => with_unfolding_all rfl))))
local macro_rules | `(tactic| walk_at "subscriptTail") => `(tactic| (k_here; (with_reducible show wpAny _ _ (subscriptTail _ _ (Value.ref _) (Value.int 0 _)) _ _ _); k_dflt (refine' item_pt0 ?N ?l ?_ ?hs; (case N => k_asm); (case l => ktr_rel); (case hs => with_unfolding_all rfl)); intro t9))
local macro_rules | `(tactic| walk_at "subscriptTail") => `(tactic| (k_here; (with_reducible show wpAny _ _ (subscriptTail _ _ (Value.ref _) (Value.int 1 _)) _ _ _); k_dflt (refine' item_pt1 ?N ?l ?_ ?hs; (case N => k_asm); (case l => ktr_rel); (case hs => with_unfolding_all rfl)); intro t9))
local macro_rules | `(tactic| walk_at "call ref") => `(tactic| (k_here; (with_reducible show wpAny _ _ (call (Value.ref 124) _) _ _ _); refine halt ?_))
local macro_rules | `(tactic| walk_at "call ref") => `(tactic| (k_here; (with_reducible show wpAny _ _ (call (Value.ref 98) _) _ _ _); refine halt ?_))
local macro_rules | `(tactic| tb_rel) => `(tactic| (intro z hz hj; simp only [List.forall_mem_cons] at hz hj; simp [shape, hz, hj]; done))
local macro_rules | `(tactic| walk_at "call builtin:list.append") => `(tactic| (k_here; (with_reducible show wpAny _ _ (call (Value.builtin _) [Value.ref _, _]) _ _ _); k_dflt (refine' append_mem ?F ?N ?hm ?hz ?_; (case F => k_asm); (case N => k_asm); (case hm => (repeat (first | exact List.Mem.head _ | exact List.mem_append_left _ (by with_reducible assumption) | refine List.Mem.tail _ ?_))); (case hz => (simp only [refs, List.length_map, List.length_range, sizeLine_eq]; omega))); intro h9 F9 N9))
local macro_rules | `(tactic| walk_at "eval IfExp") => `(tactic| ((with_reducible rename Halt (3 = 3) => hq9); refine halt ?_))
local macro_rules | `(tactic| walk_at "call ref") => `(tactic| (k_here; (with_reducible show wpAny _ _ (call (Value.ref 119) _) _ _ _); k_dflt (refine' Claim.use (twice_ok ?a1 ?a2 ?a3) ?k1 ?k2 ?k3 ?k4 ?k5 ?k6 ?k7 ?k8 ?_; (case k1 => k_asm); (case k2 => k_asm); (case k3 => k_asm); (case k4 => k_asm); (case k5 => k_asm); (case a1 => ktr_rel); (case a2 => ktr_rel); (case a3 => ktr_rel); (case k6 => first | exact rfl | assumption); (case k7 => ktr_room); (case k8 => ktr_units)); intro v9 h9 tk9 hR9 F9 N9; obtain ⟨t9, e9⟩ := hR9; subst e9; (try dsimp only); (try k_fold)))
local macro_rules | `(tactic| walk_at "call ref") => `(tactic| (k_here; (with_reducible show wpAny _ _ (call (Value.ref 138) _) _ _ _); k_dflt (refine' Claim.use (meet_ok ?a1 ?a2 ?a3 ?a4) ?k1 ?k2 ?k3 ?k4 ?k5 ?k6 ?k7 ?k8 ?_; (case k1 => k_asm); (case k2 => k_asm); (case k3 => k_asm); (case k4 => k_asm); (case k5 => k_asm); (case a1 => ktr_rel); (case a2 => ktr_rel); (case a3 => ktr_rel); (case a4 => ktr_rel); (case k6 => first | exact rfl | assumption); (case k7 => ktr_room); (case k8 => ktr_units)); intro v9 h9 tk9 hR9 F9 N9; subst hR9; (try dsimp only); (try k_fold)))
local macro_rules | `(tactic| walk_at "call ref") => `(tactic| (k_here; (with_reducible show wpAny _ _ (call (Value.ref 145) _) _ _ _); k_dflt (refine' Claim.use (way_in ?a1 ?a2 ?a3 ?a4 ?a5) ?k1 ?k2 ?k3 ?k4 ?k5 ?k6 ?k7 ?k8 ?_; (case k1 => k_asm); (case k2 => k_asm); (case k3 => k_asm); (case k4 => k_asm); (case k5 => k_asm); (case a1 => with_reducible assumption); (case a2 => with_reducible assumption); (case a3 => tb_start); (case a4 => omega); (case a5 => omega); (case k6 => first | exact rfl | assumption); (case k7 => ktr_room); (case k8 => ktr_units)); intro v9 h9 tk9 hR9 F9 N9; subst hR9; (try dsimp only); (try k_fold)))
local macro_rules | `(tactic| walk_at "call ref") => `(tactic| (k_here; (with_reducible show wpAny _ _ (call (Value.ref 105) _) _ _ _); k_dflt (refine' Claim.use (way_ok2 ?a1 ?a2 ?a3 ?a4) ?k1 ?k2 ?k3 ?k4 ?k5 ?k6 ?k7 ?k8 ?_; (case k1 => k_asm); (case k2 => k_asm); (case k3 => k_asm); (case k4 => k_asm); (case k5 => k_asm); (case a1 => with_reducible assumption); (case a2 => with_reducible assumption); (case a3 => tb_start); (case a4 => with_reducible assumption); (case k6 => first | exact rfl | assumption); (case k7 => ktr_room); (case k8 => ktr_units)); intro v9 h9 tk9 hR9 F9 N9; subst hR9; (try dsimp only); (try k_fold)))
local macro_rules | `(tactic| walk_at "call ref") => `(tactic| (k_here; (with_reducible show wpAny _ _ (call (Value.ref 105) _) _ _ _); k_dflt (refine' Claim.use (way_ok1 ?a1 ?a2 ?a3 ?a4) ?k1 ?k2 ?k3 ?k4 ?k5 ?k6 ?k7 ?k8 ?_; (case k1 => k_asm); (case k2 => k_asm); (case k3 => k_asm); (case k4 => k_asm); (case k5 => k_asm); (case a1 => with_reducible assumption); (case a2 => with_reducible assumption); (case a3 => tb_start); (case a4 => with_reducible assumption); (case k6 => first | exact rfl | assumption); (case k7 => ktr_room); (case k8 => ktr_units)); intro v9 h9 tk9 hR9 F9 N9; subst hR9; (try dsimp only); (try k_fold)))
local macro_rules | `(tactic| walk_at "isTrue BoolOp") => `(tactic| ((with_reducible show wpAny _ _ (isTrue (Expr.BoolOp BoolOp.Or [Expr.BoolOp BoolOp.And _ _, Expr.BoolOp BoolOp.And _ _] _) _ _) _ _ _); (fail_if_success (with_reducible rename Halt True => hq9)); refine halt ?_))
local macro_rules | `(tactic| walk_at "compareOp NotIn int ref") => `(tactic| (k_here; (with_reducible show wpAny _ _ (compareOp CmpOp.NotIn (Value.int _ _) (Value.ref _)) _ _ _); k_dflt (refine' notin_pair ?N ?hm ?_; (case N => k_asm); (case hm => exact List.Mem.head _))))
local macro_rules | `(tactic| walk_at "isTrue BoolOp") => `(tactic| ((with_reducible show wpAny _ _ (isTrue (Expr.BoolOp BoolOp.And _ _) _ _) _ _ _); (with_reducible rename Halt (2 = 2) => hq9); refine halt ?_))
local macro_rules | `(tactic| walk_at "call ref") => `(tactic| (k_here; (with_reducible show wpAny _ _ (call (Value.ref 91) _) _ _ _); refine halt ?_))
local macro_rules | `(tactic| walk_at "compareOp NotEq ref ref") => `(tactic| ((with_reducible rename Halt (1 = 1) => hq9); refine halt ?_))
local macro_rules | `(tactic| walk_at "call builtin:list.append") => `(tactic| ((with_reducible rename Halt (1 = 1) => hq9); refine halt ?_))
local macro_rules | `(tactic| walk_at "exec If") => `(tactic| ((with_reducible rename (Halt (1 = 1)) => hq9); refine halt ?_))
local macro_rules | `(tactic| walk_at "exec For Tuple Name cons nil") => `(tactic| (k_here; (rename Fr _ _ _ _ => lF'); (with_unfolding_all refine' For_turns lF' ?_; k_whole)))
local macro_rules | `(tactic| walk_at "CompSrcT") => `(tactic| ((with_reducible rename (Halt (6 = 6)) => hq9); refine halt ?_))
theorem refs_get {C : Nat → Addr} {n i : Nat} {v : Value} (h : (refs C n)[i]? = some v) : i < n ∧ v = .ref (C i) := by
  unfold refs at h
  rw [List.getElem?_map] at h
  by_cases c : i < n
  · rw [List.getElem?_range c] at h
    exact ⟨c, (Option.some.inj h).symm⟩
  · rw [List.getElem?_eq_none (by simpa using c)] at h
    cases h
theorem InnS.push {il : Addr} {base nx nx0 led : List (Addr × Obj)} {ps : List (Int × Int)} {L : List (Nat × Nat)} {bd : Nat} {T : Nat → Addr} {t : Addr} {i j n nb : Nat} {tx ty : Tok}
    (h2 : ∀ (t : Nat) (h : t < L.length), T t ≠ il ∧ ∃ tx ty n, (T t, tupO [.int (L[t].1 : Nat) tx, .int (L[t].2 : Nat) ty] n) ∈ nx0) (s2 : ∀ p ∈ nx0, p ∈ led)
    (h3 : ∀ p ∈ base, p ∈ nx ∧ p.1 ≠ il) (s3 : ∀ p ∈ nx, p ∈ led) (h4 : ∀ x ∈ L, Diag ps x.1 x.2) (h5 : L.length ≤ bd) (hn : t ≠ il) (hm : (t, tupO [.int (i : Nat) tx, .int (j : Nat) ty] n) ∈ led) (hd : Diag ps i j) :
    InnS il base ps (bd + 1) (L ++ [(i, j)]) ((il, listO (refs T L.length ++ [.ref t]) nb) :: lessA il led) := by
  refine InnS.add (T := T) (t := t) (.head _) (fun k hk => ?_) (fun p hp => ⟨.tail _ (lessA_mem (s3 p (h3 p hp).1) (h3 p hp).2), (h3 p hp).2⟩) h4 h5 hn (.tail _ (lessA_mem hm hn)) hd
  obtain ⟨e, tx, ty, n, hm⟩ := h2 k hk
  exact ⟨e, tx, ty, n, .tail _ (lessA_mem (s2 _ hm) e)⟩
theorem memN {h₀ h : Heap} {L : Addr} {led : List (Addr × Obj)} {p : Addr × Obj} (_ : News h₀ L h led) (h : p ∈ led) : p ∈ led := h
set_option maxRecDepth 100000 in
set_option maxHeartbeats 8000000 in
theorem law_holds : PySem.Challenge.rw_fc0057_01.Holds := by
  refine hd ?_
  k_go0
  k_steps
  refine Halt.on ?_
  rename Fr _ _ _ _ => lF
  rename News _ _ _ _ => lN
  rename IntsAre _ _ => hI
  rename (PyData.layable0 (PyData.list (List.map PyData.int _)) = true) => hL
  rename Heap.IsList _ _ _ => hl
  rename Top _ _ _ _ _ _ => hT
  rename Below _ _ _ _ => hB
  rename (¬ (63 : Int) < _) => h63
  rename Frag.In _ _ => hX
  refine corners_ok hI (by omega) hL _ _ _ _ _ _ _ _ _ _ _ _ _ _ _ _ _ hl hB lF hX lN hT rfl (by ktr_room) (by ktr_units) ?_
  intro cl h1 tk1 led C ps kc hps hcl hP F1 N1
  clear lF lN
  have hlen := corners_len hps
  k_steps
  refine Halt.on ?_
  rename Fr _ _ _ _ => lF
  rename News _ _ _ _ => lN
  rename IsRange _ _ _ _ _ _ _ _ => lR
  rename_i nl _ l1a D1 _ l1b _ _ _ _ _ _ _ _ _ _ _
  have lN2 := cb_drop lN (news := (nl, listO (refs (fun _ => 0) 0) 0) :: led) (by
    intro p hp
    rcases List.mem_cons.mp hp with rfl | hp
    · exact .tail _ (.head _)
    · exact .tail _ (.tail _ hp))
  have hcn : cl ≠ nl := Nat.ne_of_lt (l1a _ hcl)
  refine range_st (σ := (Nat → Addr) × (Nat → Addr) × Value) (n := ps.length) (BuildS ps C cl nl kc) (fun st => [(Str.ofString "node", st.2.2)]) [Str.ofString "k"] rfl lR (small_one (by omega) (by omega) (by omega) (by omega)) (by rw [rangeSize_nat]; simp) lF lN2 (.intro (fun _ => 0, fun _ => 0, .none) ?h1 (fun _ _ _ => rfl) ⟨rfl, 0, led, rfl, fun p hp => Nat.ne_of_lt (l1a p hp), hcl, hP, fun i hi => absurd hi (Nat.not_lt_zero i), fun i hi => absurd hi (Nat.not_lt_zero i)⟩) ?turn ?done
  case h1 => (intro p hp; rw [List.mem_singleton.mp hp]; with_unfolding_all rfl)
  case turn =>
    rintro i t ⟨V, Dd, nv⟩ u nx h9 tk9 own hi ho hio ⟨hnv, nb, rest, rfl, hrn, hcl, hP, hN, hinj⟩ F9 N9
    clear lF lN lN2 lR
    dsimp only at hnv hN hinj ho N9 F9
    simp only [Int.zero_add] at F9
    simp only [List.cons_append] at N9
    have hRL : RefList rest cl C ps.length := ⟨by omega, kc, hcl⟩
    have hPts : Pts 1100000 rest ps.length C (px ps) (py ps) := hP
    subst hnv
    k_steps
    refine Halt.on ?_
    rename Fr hT.heap _ _ _ => lF
    rename News hT.heap _ _ _ => lN
    rename (_ ∧ AllLt _ (rest ++ own)) => l1
    rename (@LT.lt Nat _ _ _) => l2
    rename ((hd.heap_39 _).In hT.heap) => lX
    rename_i pt pd _ _ _ _ _ _ _ _ _ _ _ _ _ _ _ _ _ _
    have hvd : ∀ a < i, ∀ b < i, V a ≠ Dd b := fun a ha b hb => by
      obtain ⟨_, _, _, _, _, _, _, _, _, _, g1, _⟩ := hN a ha
      obtain ⟨_, _, _, _, _, _, _, _, _, _, _, g2⟩ := hN b hb
      exact ne_of_cls lN (.tail _ (.tail _ (.tail _ (List.mem_append_left _ g1)))) (.tail _ (.tail _ (.tail _ (List.mem_append_left _ g2)))) (fun e => by cases e)
    have hli : (refs V i).length ≤ sizeLine := by simp only [refs, List.length_map, List.length_range, sizeLine_eq]; omega
    have hlt0 : ∀ p ∈ rest ++ own, p.1 < pd := tb_ltOf l1.2
    have N9i : Halt (News _ _ _ _) := cb_drop lN (news := rest ++ own) (by tb_start)
    have hpd : nl < pd := l1.1
    rcases i with _ | _ | i
    · refine insert_none (.head _) (.tail _ (.head _)) hB lF lX lN hT rfl (by ktr_room) (by ktr_units) ?_
      intro v d hs ks vi vp vz v8 v9 vs h2 tk2 F2 N2 hlt hdv
      have N2h : Halt (News _ _ _ _) := N2
      clear lF lN
      k_steps
      rename News hT.heap _ _ _ => lN
      rename Fr hT.heap _ _ _ => lF
      refine build_fin (V := V) (D := Dd) (d := d) lF lN hio ?g1a ?g2a ?g3a hcn ?g4a ?g5a ?g6a (by with_unfolding_all rfl) (by tb_rel)
      case g1a => exact fun p hp => .tail _ (.tail _ (.tail _ (.tail _ (.tail _ (List.mem_append_right _ hp)))))
      case g2a => exact fun p hp hc e => absurd e (ne_of_cls N2h hp (.tail _ (.tail _ (.tail _ (.tail _ (.head _))))) hc)
      case g3a => exact .tail _ (.tail _ (.tail _ (.tail _ (.tail _ (List.mem_append_left _ hcl)))))
      case g4a => exact hP.mono fun p hp => .tail _ (.tail _ (.tail _ (.tail _ (.tail _ (List.mem_append_left _ hp)))))
      case g5a =>
        intro j hj
        obtain rfl : j = 0 := by omega
        exact ⟨_, _, _, _, _, _, _, _, _, _, .head _, .tail _ (.head _)⟩
      case g6a => exact inj_snoc hinj (fun a ha => absurd ha (Nat.not_lt_zero a))
    · obtain ⟨hs1, ks1, i1, p1, tx1, ty1, z1, z2, z3, z4, a1, a2⟩ := hN 0 (by omega)
      have v0 : V 0 ≠ Dd 0 := hvd 0 (by omega) 0 (by omega)
      have lN3 := cb_drop lN (news := (Dd 0, nodeObj hs1 ks1 i1 p1 (px ps 0) (py ps 0) tx1 ty1 (.ref (V 0)) (.ref (V 0)) z1 z2 z3 z4) :: (V 0, instObj 59 (Dd 0)) :: (pt, _) :: (pd, _) :: (nl, listO (refs V 1) nb) :: lessA (Dd 0) (rest ++ own)) (by
        intro p hp
        simp only [List.mem_cons] at hp ⊢
        rcases hp with h | h | h | h | h | h
        · exact .inr (.inr (.inr (List.mem_append_left _ (h ▸ a2))))
        · exact .inr (.inr (.inr (List.mem_append_left _ (h ▸ a1))))
        · exact .inl h
        · exact .inr (.inl h)
        · exact .inr (.inr (.inl h))
        · exact .inr (.inr (.inr (lessA_sub p h))))
      have d0 : Dd 0 < pd := hlt0 _ (List.mem_append_left _ a2)
      refine insert_one (l := V 0) (dl := Dd 0) (.head _) (.tail _ (.head _)) v0 ?r1b hB lF lX lN3 hT rfl (by ktr_room) (by ktr_units) ?_
      case r1b =>
        intro p hp
        simp only [List.mem_cons] at hp
        rcases hp with h | h | h | h
        · rw [h]; exact Nat.ne_of_gt (Nat.lt_trans d0 l2)
        · rw [h]; exact Nat.ne_of_gt d0
        · rw [h]; exact (hrn _ a2).symm
        · exact lessA_ne p h
      intro v d hs ks vi vp vz v8 v9 vs h2 tk2 F2 N2 hlt hdv
      have N2h : Halt (News _ _ _ _) := N2
      clear lF lN lN3
      k_steps
      rename News hT.heap _ _ _ => lN
      rename Fr hT.heap _ _ _ => lF
      have hno : ∀ p ∈ own, p.1 ≠ Dd 0 := fun p hp e => ho p hp _ (.tail _ a2) e
      refine build_fin (V := V) (D := Dd) (d := d) lF lN hio ?g1b ?g2b ?g3b hcn ?g4b ?g5b ?g6b (by with_unfolding_all rfl) (by tb_rel)
      case g1b => exact fun p hp => .tail _ (.tail _ (.tail _ (.tail _ (.tail _ (.tail _ (.tail _ (lessA_mem (List.mem_append_right _ hp) (hno p hp))))))))
      case g2b => exact fun p hp hc e => absurd e (ne_of_cls N2h hp (.tail _ (.tail _ (.tail _ (.tail _ (.tail _ (.tail _ (.head _))))))) hc)
      case g3b => exact .tail _ (.tail _ (.tail _ (.tail _ (.tail _ (.tail _ (.tail _ (lessA_mem (List.mem_append_left _ hcl) (ne_of_cls N9i (List.mem_append_left _ hcl) (List.mem_append_left _ a2) (fun e => absurd (Value.type.inj e) (by decide))))))))))
      case g4b => exact (PtsL.less (hP.mono fun p hp => List.mem_append_left own hp) N9i (fun p hp => hp) (List.mem_append_left _ a2) (fun xs n e => absurd (congrArg Obj.cls e) (fun e => absurd (Value.type.inj e) (by decide)))).mono fun p hp => .tail _ (.tail _ (.tail _ (.tail _ (.tail _ (.tail _ (.tail _ hp))))))
      case g5b => exact nodes_one (X := px ps) (Y := py ps) ⟨_, _, _, _, _, _, _, _, _, _, .tail _ (.tail _ (.tail _ (.head _))), .tail _ (.tail _ (.head _))⟩ ⟨_, _, _, _, _, _, _, _, _, _, .head _, .tail _ (.head _)⟩
      case g6b => exact inj_snoc hinj fun a ha => (by obtain rfl : a = 0 := (by omega); exact tb_ltOf hlt _ (.head _))
    · obtain ⟨hs1, ks1, i1, p1, tx1, ty1, z1, z2, z3, z4, a1, a2⟩ := hN (i + 1) (by omega)
      obtain ⟨hs2, ks2, i2, p2, tx2, ty2, z5, z6, z7, z8, b1, b2⟩ := hN 0 (by omega)
      have en1 : nxt (i + 1 + 1) (i + 1) = 0 := by unfold nxt; simp
      have en2 : prv (i + 1 + 1) 0 = i + 1 := rfl
      rw [en1] at a2
      rw [en2] at b2
      have dd : Dd (i + 1) ≠ Dd 0 := hinj _ (by omega) _ (by omega) (by omega)
      have lN3 := cb_drop lN (news := (Dd (i + 1), nodeObj hs1 ks1 i1 p1 (px ps (i + 1)) (py ps (i + 1)) tx1 ty1 (.ref (V (prv (i + 1 + 1) (i + 1)))) (.ref (V 0)) z1 z2 z3 z4) :: (Dd 0, nodeObj hs2 ks2 i2 p2 (px ps 0) (py ps 0) tx2 ty2 (.ref (V (i + 1))) (.ref (V (nxt (i + 1 + 1) 0))) z5 z6 z7 z8) :: (V (i + 1), instObj 59 (Dd (i + 1))) :: (V 0, instObj 59 (Dd 0)) :: (pt, _) :: (pd, _) :: (nl, listO (refs V (i + 1 + 1)) nb) :: lessA (Dd (i + 1)) (lessA (Dd 0) (rest ++ own))) (by
        intro p hp
        simp only [List.mem_cons] at hp ⊢
        rcases hp with h | h | h | h | h | h | h | h
        · exact .inr (.inr (.inr (List.mem_append_left _ (h ▸ a2))))
        · exact .inr (.inr (.inr (List.mem_append_left _ (h ▸ b2))))
        · exact .inr (.inr (.inr (List.mem_append_left _ (h ▸ a1))))
        · exact .inr (.inr (.inr (List.mem_append_left _ (h ▸ b1))))
        · exact .inl h
        · exact .inr (.inl h)
        · exact .inr (.inr (.inl h))
        · exact .inr (.inr (.inr (lessA_sub p (lessA_sub p h)))))
      have d0 : Dd (i + 1) < pd := hlt0 _ (List.mem_append_left _ a2)
      have d1 : Dd 0 < pd := hlt0 _ (List.mem_append_left _ b2)
      refine insert_two (l := V (i + 1)) (dl := Dd (i + 1)) (f := V 0) (df := Dd 0) (.head _) (.tail _ (.head _)) dd (hvd _ (by omega) _ (by omega)) (hvd _ (by omega) _ (by omega)) (hvd _ (by omega) _ (by omega)) (hvd _ (by omega) _ (by omega)) ?r1 ?r2 hB lF lX lN3 hT rfl (by ktr_room) (by ktr_units) ?_
      case r1 =>
        intro p hp
        simp only [List.mem_cons] at hp
        rcases hp with h | h | h | h
        · rw [h]; exact Nat.ne_of_gt (Nat.lt_trans d0 l2)
        · rw [h]; exact Nat.ne_of_gt d0
        · rw [h]; exact (hrn _ a2).symm
        · exact lessA_ne p h
      case r2 =>
        intro p hp
        simp only [List.mem_cons] at hp
        rcases hp with h | h | h | h
        · rw [h]; exact Nat.ne_of_gt (Nat.lt_trans d1 l2)
        · rw [h]; exact Nat.ne_of_gt d1
        · rw [h]; exact (hrn _ b2).symm
        · exact lessA_ne p (lessA_sub p h)
      intro v d hs ks vi vp vz v8 v9 vs h2 tk2 F2 N2 hlt hdv
      have N2h : Halt (News _ _ _ _) := N2
      clear lF lN lN3
      k_steps
      rename News hT.heap _ _ _ => lN
      rename Fr hT.heap _ _ _ => lF
      have hno : ∀ p ∈ own, p.1 ≠ Dd 0 := fun p hp e => ho p hp _ (.tail _ b2) e
      have hno2 : ∀ p ∈ own, p.1 ≠ Dd (i + 1) := fun p hp e => ho p hp _ (.tail _ a2) e
      have sub3 : ∀ p ∈ rest ++ own, p.1 ≠ Dd (i + 1) → p.1 ≠ Dd 0 → p ∈ lessA (Dd (i + 1)) (lessA (Dd 0) (rest ++ own)) := fun p hp e1 e2 => lessA_mem (lessA_mem hp e2) e1
      refine build_fin (V := V) (D := Dd) (d := d) lF lN hio ?g1c ?g2c ?g3c hcn ?g4c ?g5c ?g6c (by with_unfolding_all rfl) (by tb_rel)
      case g1c => exact fun p hp => mem9 (lessA_mem (lessA_mem (List.mem_append_right _ hp) (hno p hp)) (hno2 p hp))
      case g2c => exact fun p hp hc e => absurd e (ne_of_cls N2h hp (.tail _ (.tail _ (.tail _ (.tail _ (.tail _ (.tail _ (.tail _ (.tail _ (.head _))))))))) hc)
      case g3c => exact mem9 (sub3 _ (List.mem_append_left _ hcl) (ne_of_cls N9i (List.mem_append_left _ hcl) (List.mem_append_left _ a2) (fun e => absurd (Value.type.inj e) (by decide))) (ne_of_cls N9i (List.mem_append_left _ hcl) (List.mem_append_left _ b2) (fun e => absurd (Value.type.inj e) (by decide))))
      case g4c =>
        intro j hj
        obtain ⟨⟨tx, ty, n, hm⟩, b⟩ := hP j hj
        exact ⟨⟨tx, ty, n, mem9 (sub3 _ (List.mem_append_left _ hm) (ne_of_cls N9i (List.mem_append_left _ hm) (List.mem_append_left _ a2) (fun e => absurd (Value.type.inj e) (by decide))) (ne_of_cls N9i (List.mem_append_left _ hm) (List.mem_append_left _ b2) (fun e => absurd (Value.type.inj e) (by decide))))⟩, b⟩
      case g5c =>
        exact nodes_two (X := px ps) (Y := py ps) (by omega) hN hinj hvd (fun p hp e1 e2 => mem9 (sub3 p (List.mem_append_left _ hp) e1 e2))
          ⟨_, _, _, _, _, _, _, _, _, _, .tail _ (.tail _ (.tail _ (.tail _ (.head _)))), .tail _ (.tail _ (.head _))⟩ ⟨_, _, _, _, _, _, _, _, _, _, .tail _ (.tail _ (.tail _ (.tail _ (.tail _ (.head _))))), .tail _ (.tail _ (.tail _ (.head _)))⟩ ⟨_, _, _, _, _, _, _, _, _, _, .head _, .tail _ (.head _)⟩
      case g6c =>
        refine inj_snoc hinj fun a ha => ?_
        by_cases c1 : a = i + 1
        · rw [c1]; exact tb_ltOf hlt _ (.head _)
        · by_cases c2 : a = 0
          · rw [c2]; exact tb_ltOf hlt _ (.tail _ (.head _))
          · obtain ⟨_, _, _, _, _, _, _, _, _, _, g1, g2⟩ := hN a ha
            exact tb_ltOf hlt _ (.tail _ (.tail _ (.tail _ (.tail _ (.tail _ (.tail _ (.tail _ (sub3 _ (List.mem_append_left _ g2) (hinj _ ha _ (by omega) (by omega)) (hinj _ ha _ (by omega) (by omega))))))))))
  case done =>
    rintro ⟨V, Dd, nv⟩ u nx h9 tk9 ⟨hnv, nb, rest, rfl, hrn, hcl, hP, hN, hinj⟩ F9 N9
    clear lF lN lN2 lR
    dsimp only at hnv hN hinj N9 F9
    clear hinj
    have hRL : RefList rest cl C ps.length := ⟨by omega, kc, hcl⟩
    have hPts : Pts 1100000 rest ps.length C (px ps) (py ps) := hP
    have hRV : RefList ((nl, listO (refs V ps.length) nb) :: rest) nl V ps.length := ⟨by omega, nb, .head _⟩
    have hsc : Scn ps C V cl nl ((nl, listO (refs V ps.length) nb) :: rest) := ⟨hRL.mono (fun p hp => .tail _ hp), hPts.mono (fun p hp => .tail _ hp), hRV, fun i hi => by
      obtain ⟨hs, ks, vi, vp, tx, ty, vz, v8, v9, vs, i1, i2⟩ := hN i hi
      exact ⟨⟨_, hs, ks, vi, vp, tx, ty, vz, v8, v9, vs, .tail _ i1, .tail _ i2⟩, hPts.bx hi, hPts.bY hi⟩⟩
    clear hRV hN hrn
    k_steps
    refine Halt.on ?_
    rename Fr _ _ _ _ => lF
    rename News _ _ _ _ => lN
    rename IsRange _ _ _ _ _ _ _ _ => lR
    rename (_ ∧ AllLt _ rest) => l1c
    rename_i il _ _ _ _ _ _ _ _ _ _ _ _
    have ilt : ∀ p ∈ (nl, listO (refs V ps.length) nb) :: rest, p.1 ≠ il := fun p hp => Nat.ne_of_lt (tb_ltOf (d := il) (by exact l1c) p hp)
    refine range_st (σ := List (Nat × Nat)) (n := ps.length) (fun i st nx => InnS il ((nl, listO (refs V ps.length) nb) :: rest) ps (10 * i) st nx) (fun _ => []) [Str.ofString "i", Str.ofString "j", Str.ofString "a", Str.ofString "b", Str.ofString "met", Str.ofString "k", Str.ofString "ends", Str.ofString "due", Str.ofString "told", Str.ofString "ways", Str.ofString "way"] rfl lR (small_one (by omega) (by omega) (by omega) (by omega)) (by rw [rangeSize_nat]; simp) lF lN (.intro [] (fun p hp => nomatch hp) (fun _ _ _ => rfl) ⟨⟨fun _ => 0, 0, .head _, fun t ht => absurd ht (Nat.not_lt_zero t)⟩, fun p hp => ⟨.tail _ hp, ilt p hp⟩, fun x hx => (nomatch hx), Nat.zero_le _⟩) ?turn2 ?done2
    case turn2 =>
      rintro i t st u nx h9 tk9 own hi ho hio hIn F9 N9
      clear lF lN lR
      simp only [Int.zero_add] at F9
      obtain ⟨sC, sP, sV, sN⟩ := hsc.mono fun p hp => (hIn.2.1 p hp).1
      have hq3 : Halt (3 = 3) := rfl
      k_steps
      refine Halt.on ?_
      rename Halt (3 = 3) => hq3
      clear hq3
      rename Fr _ _ _ _ => lF
      rename News _ _ _ _ => lN
      refine join_heap lF lN (fun v => ∃ t, v = .int (if i = 0 then (ps.length : Int) - 1 else ps.length) t) ?b1 ?_
      case b1 =>
        have hq : Halt True := True.intro
        k_steps
        · exact Halt.on ⟨_, _, rfl, ⟨_, by rw [if_neg (by omega)]⟩, by assumption, by assumption⟩
        · exact Halt.on ⟨_, _, rfl, ⟨_, by rw [if_pos (by omega)]⟩, by assumption, by assumption⟩
      rintro v2 h2 tk2 ⟨tb, rfl⟩ F2 N2
      clear lF lN
      k_steps
      refine Halt.on ?_
      rename Fr _ _ _ _ => lF
      rename News _ _ _ _ => lN
      rename IsRange _ _ _ _ _ _ _ _ => lR
      have hb9 : ∀ p ∈ (nl, listO (refs V ps.length) nb) :: rest, ∀ q ∈ own, q.1 ≠ p.1 := fun p hp q hq => ho q hq p (hIn.2.1 p hp).1
      refine range_st (σ := List (Nat × Nat)) (n := (if i = 0 then ps.length - 1 else ps.length) - (i + 2)) (fun jj st nx => InnS il (((nl, listO (refs V ps.length) nb) :: rest) ++ own) ps (10 * i + jj) st nx) (fun _ => []) [Str.ofString "j", Str.ofString "a", Str.ofString "b", Str.ofString "met", Str.ofString "k", Str.ofString "ends", Str.ofString "due", Str.ofString "told", Str.ofString "ways", Str.ofString "way"] rfl lR ?sm ?rs lF lN (.intro st (fun p hp => nomatch hp) (fun _ _ _ => rfl) (hIn.on ho)) ?turn3 ?done3
      case sm => exact small_one (by omega) (by omega) (by split <;> omega) (by split <;> omega)
      case rs => exact range_gap (by omega)
      case done3 =>
        rintro st3 u3 nx3 h3 tk3 hIn3 F3 N3
        clear lF lN lR
        k_steps
        exact in_end (by assumption) (by assumption) hIn3 (by split <;> omega) hio hb9 (by tb_rel)
      case turn3 =>
        rintro jj t3 st3 u3 nx3 h3 tk3 own3 hj ho3 hio3 hIn3 F3 N3
        clear lF lN lR
        obtain ⟨j, ej⟩ : ∃ j : Nat, i + 2 + jj = j := ⟨_, rfl⟩
        have ej2 : ((i : Int) + 2 + (jj : Int)) = (j : Int) := by omega
        have hAp : Apart ps.length i j := ⟨by omega, by split at hj <;> omega, by split at hj <;> omega⟩
        have hjn : j < ps.length := hAp.2.1
        simp only [ej2] at F3
        have hjj : jj ≤ 10 := by split at hj <;> omega
        clear sC sP sV sN ej2 hj ej
        obtain ⟨sC, sP, sV, sN⟩ := hsc.mono fun p hp => (hIn3.2.1 p (List.mem_append_left _ hp)).1
        k_steps
        refine Halt.on ?_
        rename Fr _ _ _ _ => lF
        rename News _ _ _ _ => lN
        refine join_heap lF lN (fun b => b = skipB ps i j) ?b2 ?_
        case b2 =>
          have hq : Halt True := True.intro
          k_steps
          all_goals first
            | (exfalso; omega)
            | exact Halt.on ⟨_, _, rfl, skip_t1 (by assumption) (by assumption), by assumption, by assumption⟩
            | exact Halt.on ⟨_, _, rfl, skip_t2 hjn (by assumption) (by assumption), by assumption, by assumption⟩
            | exact Halt.on ⟨_, _, rfl, skip_f hjn (by first | exact .inl (by assumption) | exact .inr (by assumption)) (by first | exact .inl (by assumption) | exact .inr (by assumption)), by assumption, by assumption⟩
        intro b4 h4 tk4 hb4 F4 N4
        clear lF lN
        have hb10 : ∀ p ∈ ((nl, listO (refs V ps.length) nb) :: rest) ++ own, ∀ q ∈ own3, q.1 ≠ p.1 := fun p hp q hq => ho3 q hq p (hIn3.2.1 p hp).1
        cases b4 with
        | true =>
          k_steps
          exact in_end (by assumption) (by assumption) ((hIn3.on ho3).mono (by tb_start)) (by omega) hio3 hb10 (by tb_rel)
        | false =>
          k_steps
          refine Halt.on ?_
          rename Fr _ _ _ _ => lF
          rename News _ _ _ _ => lN
          rename IsRange _ _ _ _ _ _ _ _ => lR
          refine range_pure (σ := Bool) (n := ps.length) (fun k st => st = metB ps i j k) (fun st => [(Str.ofString "met", .bool st)]) [Str.ofString "k", Str.ofString "ends", Str.ofString "due", Str.ofString "told"] rfl lR (small_one (by omega) (by omega) (by omega) (by omega)) (by rw [rangeSize_nat]; simp) lF lN false ?h1k rfl ?turn4 ?done4
          case h1k => (intro p hp; rw [List.mem_singleton.mp hp]; with_unfolding_all rfl)
          case turn4 =>
            rintro k t4 st4 u4 h5 tk5 own4 hk ho4 hst F5 N5
            clear lF lN lR
            simp only [Int.zero_add] at F5
            have hq2 : Halt (2 = 2) := rfl
            k_steps
            refine Halt.on ?_
            rename Halt (2 = 2) => hq2
            clear hq2
            rename Fr _ _ _ _ => lF
            rename News _ _ _ _ => lN
            obtain ⟨e, he⟩ : ∃ e : Nat, (k + 1) % ps.length = e := ⟨_, rfl⟩
            have hen : e < ps.length := he ▸ Nat.mod_lt _ (by omega)
            rw [fmod_cast, he] at lN
            have hke : k ≠ e := he ▸ mod_ne (by omega) hk
            have hij : i ≠ j := by have := hAp.1; omega
            have hB4 : Halt (Below _ _ _ _) := hB
            k_steps
            · refine Halt.on ?_
              rename Fr hT.heap _ _ _ => lF
              rename News hT.heap _ _ _ => lN
              rename ((hd.heap_39 _).In hT.heap) => lX
              refine' Claim.use (side_ok1 (i := i) (j := j) (k := k) (e := e) hps sN ?sub1 hi hjn hk hen hij hke) ?b1 ?f1 ?x1 ?n1 ?t1 ?kind1 ?room1 ?units1 ?_
              case b1 => exact hB
              case f1 => exact lF
              case x1 => exact lX
              case n1 => exact lN
              case t1 => exact hT
              case sub1 => tb_start
              case kind1 => first | exact rfl | assumption
              case room1 => ktr_room
              case units1 => ktr_units
              intro v6 h6 tk6 hv6 F6 N6
              subst hv6
              clear lF lN
              k_steps
              all_goals first
                | exact pure_end (by assumption) (by assumption) (by tb_start) ho4 st4 (fx_cons (by with_unfolding_all rfl) fx_nil) (by tb_rel) (met_t hst (by assumption))
                | exact pure_end (by assumption) (by assumption) (by tb_start) ho4 (meetP (px ps i) (py ps i) (px ps j) (py ps j) (px ps k) (py ps k) (px ps e) (py ps e)) (fx_cons (by with_unfolding_all rfl) fx_nil) (by tb_rel) (met_f hst (by assumption) he (by assumption) (by assumption))
            · refine Halt.on ?_
              rename Fr hT.heap _ _ _ => lF
              rename News hT.heap _ _ _ => lN
              rename ((hd.heap_39 _).In hT.heap) => lX
              refine' Claim.use (side_ok2 (i := i) (j := j) (k := k) (e := e) hps sN ?sub2 hi hjn hk hen hij hke) ?b22 ?f22 ?x22 ?n22 ?t22 ?kind2 ?room2 ?units2 ?_
              case b22 => exact hB
              case f22 => exact lF
              case x22 => exact lX
              case n22 => exact lN
              case t22 => exact hT
              case sub2 => tb_start
              case kind2 => first | exact rfl | assumption
              case room2 => ktr_room
              case units2 => ktr_units
              intro v6 h6 tk6 hv6 F6 N6
              subst hv6
              clear lF lN
              k_steps
              all_goals first
                | exact pure_end (by assumption) (by assumption) (by tb_start) ho4 st4 (fx_cons (by with_unfolding_all rfl) fx_nil) (by tb_rel) (met_t hst (by assumption))
                | exact pure_end (by assumption) (by assumption) (by tb_start) ho4 (meetP (px ps i) (py ps i) (px ps j) (py ps j) (px ps k) (py ps k) (px ps e) (py ps e)) (fx_cons (by with_unfolding_all rfl) fx_nil) (by tb_rel) (met_f hst (by assumption) he (by assumption) (by assumption))
            all_goals exact pure_end (by assumption) (by assumption) (by tb_start) ho4 st4 (fx_cons (by with_unfolding_all rfl) fx_nil) (by tb_rel) (met_n hst he (by first | exact .inl (by assumption) | exact .inr (by assumption)))
          case done4 =>
            rintro st4 u4 h5 tk5 hst F5 N5
            clear lF lN lR
            cases st4 with
            | true =>
              k_steps
              exact in_end (by assumption) (by assumption) ((hIn3.on ho3).mono (by tb_start)) (by omega) hio3 hb10 (by tb_rel)
            | false =>
              have hw : Way ps i j := ⟨hAp, hb4.symm, hst.symm⟩
              obtain ⟨⟨T3, nb3, hm3, hT3⟩, hb3, hd3, hl3⟩ := id hIn3
              have hz3 : (refs T3 st3.length).length ≤ sizeLine := by simp only [refs, List.length_map, List.length_range, sizeLine_eq]; omega
              k_steps
              k_steps
              refine LCg.CompEnd.intro (by assumption) (by assumption) _ (fun p hp => hp) (by assumption) (.inr ⟨_, .head _, rfl, _, rfl⟩) ?_
              k_steps
              refine LCg.CompEnd.intro (by assumption) (by assumption) _ (fun p hp => hp) (by assumption) (.inr ⟨_, .head _, rfl, _, rfl⟩) ?_
              have hq7 : Halt (1 = 1) := rfl
              k_steps
              refine Halt.on ?_
              rename Halt (1 = 1) => hq7
              clear hq7
              refine' ne_same ?xN ?xa ?xb ?xu ?_
              case xN => k_asm
              case xa => exact .tail _ (.head _)
              case xb => exact .head _
              case xu => ktr_units
              have hq7 : Halt (1 = 1) := rfl
              k_steps
              refine Halt.on ?_
              refine' ne_same ?yN ?ya ?yb ?yu ?_
              case yN => k_asm
              case ya => exact .tail _ (.tail _ (.tail _ (.head _)))
              case yb => exact .head _
              case yu => ktr_units
              k_steps
              refine Halt.on ?_
              rename Halt (1 = 1) => hq7
              clear hq7
              refine wpAny_If ?_
              rename Fr _ _ _ _ => lF
              rename News _ _ _ _ => lN
              refine join_heap lF lN (fun v => v = wayB ps i j) ?b5 ?_
              case b5 =>
                k_steps
                exact Halt.on ⟨_, _, rfl, rfl, by assumption, by assumption⟩
              clear lF lN
              rintro b5 h6 tk6 hv6 F6 N6
              cases b5 with
              | true =>
                have hm6 := memN N6 (p := (il, listO (refs T3 st3.length) nb3)) (.tail _ (.tail _ (.tail _ (.tail _ (.tail _ (List.mem_append_left _ hm3))))))
                have hq7 : Halt (1 = 1) := rfl
                k_steps
                refine Halt.on ?_
                rename Halt (1 = 1) => hq7
                clear hq7
                rename (_ ∧ _ ∧ _ ∧ _ ∧ _ ∧ AllLt _ (nx3 ++ own3)) => lD
                refine' append_mem ?zF ?zN ?zm hz3 ?_
                case zF => k_asm
                case zN => k_asm
                case zm => exact .tail _ hm6
                intro h7 F7 N7
                k_steps
                refine in_end (by assumption) (by assumption) (InnS.push hT3 (by tb_start) (hIn3.on ho3).2.1 (by tb_start) hd3 hl3 ?zn (.head _) ⟨hw, hv6.symm⟩) (by omega) hio3 hb10 (by tb_rel)
                case zn => exact Nat.ne_of_gt (tb_ltOf (by exact lD) _ hm6)
              | false =>
                k_steps
                exact in_end (by assumption) (by assumption) ((hIn3.on ho3).mono (by tb_start)) (by omega) hio3 hb10 (by tb_rel)
    case done2 =>
      rintro st5 u5 nx5 h5 tk5 hIn5 F5 N5
      clear lF lN lR
      obtain ⟨sC, sP, sV, sN⟩ := hsc.mono fun p hp => (hIn5.2.1 p hp).1
      obtain ⟨⟨T5, nb5, hm5, hT5⟩, hb5, hd5, hl5⟩ := id hIn5
      k_steps
      refine Halt.on ?_
      rename Fr _ _ _ _ => lF
      rename News _ _ _ _ => lN
      refine list_pure (σ := Unit) (fun _ _ => True) (fun _ => []) [Str.ofString "i", Str.ofString "j", Str.ofString "k", Str.ofString "m", Str.ofString "told"] rfl lF lN hm5 () (fun p hp => nomatch hp) True.intro ?turn5 ?done5
      case turn5 =>
        rintro i v _ u6 h6 tk6 own6 hv ho6 _ F6 N6
        obtain ⟨hi6, rfl⟩ := refs_get hv
        clear lF lN hv
        obtain ⟨e6, tx6, ty6, n6, hm6⟩ := hT5 i hi6
        have hD6 := hd5 _ (List.getElem_mem hi6)
        have hm6 := memN N6 (List.mem_append_left own6 hm6)
        generalize st5[i] = q6 at hD6 hm6
        obtain ⟨i1, j1⟩ := q6
        dsimp only at hD6 hm6
        k_steps
        refine Halt.on ?_
        rename Fr _ _ _ _ => lF
        rename News _ _ _ _ => lN
        refine list_pure (σ := Unit) (fun _ _ => True) (fun _ => []) [Str.ofString "k", Str.ofString "m", Str.ofString "told"] rfl lF lN (List.mem_append_left _ hm5) () (fun p hp => nomatch hp) True.intro ?turn6 ?done6
        case done6 =>
          rintro _ u7 h7 tk7 _ F7 N7
          clear lF lN
          k_steps
          exact pure_end (by assumption) (by assumption) (by tb_start) ho6 () fx_nil (by tb_rel) True.intro
        case turn6 =>
          rintro k v _ u7 h7 tk7 own7 hv ho7 _ F7 N7
          obtain ⟨hi7, rfl⟩ := refs_get hv
          clear lF lN hv
          obtain ⟨e7, tx7, ty7, n7, hm7⟩ := hT5 k hi7
          have hD7 := hd5 _ (List.getElem_mem hi7)
          have hm7 := memN N7 (List.mem_append_left own7 (List.mem_append_left own6 hm7))
          generalize st5[k] = q7 at hD7 hm7
          obtain ⟨k1, m1⟩ := q7
          dsimp only at hD7 hm7
          have hj1 : j1 < ps.length := hD6.1.1.2.1
          have hi1 : i1 < ps.length := Nat.lt_of_le_of_lt (Nat.le_trans (Nat.le_add_right _ 2) hD6.1.1.1) hj1
          have hm1 : m1 < ps.length := hD7.1.1.2.1
          have hk1 : k1 < ps.length := Nat.lt_of_le_of_lt (Nat.le_trans (Nat.le_add_right _ 2) hD7.1.1.1) hm1
          have hq7 : Halt (1 = 1) := rfl
          k_steps
          refine Halt.on ?_
          rename Halt (1 = 1) => hq7
          clear hq7
          refine wpAny_If ?_
          k_steps
          · refine Halt.on ?_
            rename Fr hT.heap _ _ _ => lF
            rename News hT.heap _ _ _ => lN
            rename ((hd.heap_39 _).In hT.heap) => lX
            refine' Claim.use (diag_ok hps sN ?sub5 hD6 hD7 ?lt5 ?nk5 ?nm5) ?b5 ?f5 ?x5 ?n5 ?t5 ?kind5 ?room5 ?units5 ?_
            case b5 => exact hB
            case f5 => exact lF
            case x5 => exact lX
            case n5 => exact lN
            case t5 => exact hT
            case sub5 => tb_start
            case lt5 => omega
            case nk5 => omega
            case nm5 => omega
            case kind5 => first | exact rfl | assumption
            case room5 => ktr_room
            case units5 => ktr_units
            intro v8 h8 tk8 hv8 F8 N8
            subst hv8
            clear lF lN
            k_steps
            all_goals exact pure_end (by assumption) (by assumption) (by tb_start) ho7 () fx_nil (by tb_rel) True.intro
          all_goals exact pure_end (by assumption) (by assumption) (by tb_start) ho7 () fx_nil (by tb_rel) True.intro
      case done5 =>
        rintro _ u6 h6 tk6 _ F6 N6
        clear lF lN
        k_steps
        refine Halt.on ?_
        rename Fr _ _ _ _ => lF
        rename News _ _ _ _ => lN
        rename IsRange _ _ _ _ _ _ _ _ => lR
        rename ∀ (p : Addr × Obj), p ∈ nx5 → _ => l1d
        obtain ⟨al, rfl⟩ := name_head lN
        refine range_st (σ := Nat) (n := ps.length) (fun i st nx => FalS al nx5 (10 * i) st nx) (fun _ => []) [Str.ofString "k", Str.ofString "m"] rfl lR (small_one (by omega) (by omega) (by omega) (by omega)) (by rw [rangeSize_nat]; simp) lF lN (.intro 0 (fun p hp => nomatch hp) (fun _ _ _ => rfl) ⟨⟨0, .head _⟩, fun p hp => ⟨.tail _ hp, Nat.ne_of_lt (l1d p hp)⟩, Nat.zero_le _⟩) ?turn7 ?done7
        case turn7 =>
          rintro k t st u nx h9 tk9 own hk ho hio hFa F9 N9
          clear lF lN lR
          simp only [Int.zero_add] at F9
          have hq3 : Halt (3 = 3) := rfl
          k_steps
          refine Halt.on ?_
          rename Halt (3 = 3) => hq3
          clear hq3
          rename Fr _ _ _ _ => lF
          rename News _ _ _ _ => lN
          refine join_heap lF lN (fun v => ∃ t, v = .int (if k = 0 then (ps.length : Int) - 1 else ps.length) t) ?b7 ?_
          case b7 =>
            have hq : Halt True := True.intro
            k_steps
            · exact Halt.on ⟨_, _, rfl, ⟨_, by rw [if_neg (by omega)]⟩, by assumption, by assumption⟩
            · exact Halt.on ⟨_, _, rfl, ⟨_, by rw [if_pos (by omega)]⟩, by assumption, by assumption⟩
          rintro v2 h2 tk2 ⟨tb, rfl⟩ F2 N2
          clear lF lN
          k_steps
          refine Halt.on ?_
          rename Fr _ _ _ _ => lF
          rename News _ _ _ _ => lN
          rename IsRange _ _ _ _ _ _ _ _ => lR
          have hb9 : ∀ p ∈ nx5, ∀ q ∈ own, q.1 ≠ p.1 := fun p hp q hq => ho q hq p (hFa.2.1 p hp).1
          refine range_st (σ := Nat) (n := (if k = 0 then ps.length - 1 else ps.length) - (k + 2)) (fun jj st nx => FalS al (nx5 ++ own) (10 * k + jj) st nx) (fun _ => []) [Str.ofString "m"] rfl lR ?sm7 ?rs7 lF lN (.intro st (fun p hp => nomatch hp) (fun _ _ _ => rfl) (hFa.on ho)) ?turn8 ?done8
          case sm7 => exact small_one (by omega) (by omega) (by split <;> omega) (by split <;> omega)
          case rs7 => exact range_gap (by omega)
          case done8 =>
            rintro st3 u3 nx3 h3 tk3 hIn3 F3 N3
            clear lF lN lR
            k_steps
            exact fal_end (by assumption) (by assumption) hIn3 (by split <;> omega) hio hb9 (by tb_rel)
          case turn8 =>
            rintro jj t3 st3 u3 nx3 h3 tk3 own3 hj ho3 hio3 hIn3 F3 N3
            clear lF lN lR
            obtain ⟨m, em⟩ : ∃ m : Nat, k + 2 + jj = m := ⟨_, rfl⟩
            have em2 : ((k : Int) + 2 + (jj : Int)) = (m : Int) := by omega
            have hAp : Apart ps.length k m := ⟨by omega, by split at hj <;> omega, by split at hj <;> omega⟩
            have hmn : m < ps.length := hAp.2.1
            have hk1n : k + 1 < ps.length := by have := hAp.1; omega
            have hjj : jj ≤ 10 := by split at hj <;> omega
            simp only [em2] at F3
            clear em2 hj em
            obtain ⟨⟨nb3, hm3⟩, hb3, hl3⟩ := id hIn3
            have hm3 := memN N3 (List.mem_append_left own3 hm3)
            obtain ⟨tC, tP, tV, tN⟩ := hsc.mono fun p hp => (hb3 p (List.mem_append_left _ (hb5 p hp).1)).1
            have hz3 : (List.replicate st3 (Value.bool false)).length ≤ sizeLine := by simp only [List.length_replicate, sizeLine_eq]; omega
            have hf0 : 0 ≤ ((m : Int) + 1).fmod (ps.length : Int) := by rw [fmod_cast]; exact Int.natCast_nonneg _
            have hf1 : ((m : Int) + 1).fmod (ps.length : Int) < (ps.length : Int) := by rw [fmod_cast]; exact Int.ofNat_lt.mpr (Nat.mod_lt _ (by omega))
            have hq7 : Halt (1 = 1) := rfl
            k_steps
            refine Halt.on ?_
            rename Fr hT.heap _ _ _ => lF
            rename News hT.heap _ _ _ => lN
            rename ((hd.heap_39 _).In hT.heap) => lX
            rw [ixn_s, fmod_cast, ixn_at]
            refine' Claim.use (apart_side hps tN ?sub7 hAp) ?b7 ?f7 ?x7 ?n7 ?t7 ?kind7 ?room7 ?units7 ?_
            case b7 => exact hB
            case f7 => exact lF
            case x7 => exact lX
            case n7 => exact lN
            case t7 => exact hT
            case sub7 => tb_start
            case kind7 => first | exact rfl | assumption
            case room7 => ktr_room
            case units7 => ktr_units
            intro v8 h8 tk8 hv8 F8 N8
            subst hv8
            clear lF lN
            k_steps
            refine Halt.on ?_
            refine' append_mem ?wF ?wN hm3 hz3 ?_
            case wF => k_asm
            case wN => k_asm
            intro h7 F7 N7
            k_steps
            exact fal_end (by assumption) (by assumption) (FalS.push (hIn3.on ho3).2.1 (fun p hp => hp) hl3) (by omega) hio3 (fun p hp q hq => ho3 q hq p (hb3 p hp).1) (by tb_rel)
        case done7 =>
          rintro st7 u7 nx7 h7 tk7 hIn7 F7 N7
          clear lF lN lR
          obtain ⟨⟨nb7, hm7⟩, hb7, hl7⟩ := id hIn7
          have hq6 : Halt (6 = 6) := rfl
          k_steps
          refine Halt.on ?_
          rename Halt (6 = 6) => hq6
          clear hq6
          rename Fr _ _ _ _ => lF
          rename News _ _ _ _ => lN
          refine LCt.CompSrcT.ledger (by rfl) lF lN hm7 ?hz7 ?_
          case hz7 =>
            simp only [List.size_toArray, List.length_replicate, sizeLine_eq]
            omega
          intro gh
          refine comp_none (.inr ⟨_, hm7, rfl, _, rfl⟩) ?turn9 ?fin9
          case turn9 =>
            intro I oI C oC D m₂ h8 tk8 E' hns hx8 F8 N8 off8 ne8
            clear lF lN
            k_steps
            exact Halt.on ⟨rfl, _, _, rfl, by assumption, by assumption⟩
          case fin9 =>
            intro D h8 tk8 F8 N8 off8
            clear lF lN
            k_steps
end Mine
end

theorem PySem.Challenge.cw_fc0057_01_holds : PySem.Challenge.rw_fc0057_01.Holds := by
  exact Mine.law_holds
