import PyProof.Rows.All
import Wide.All
import OpenK.AllK
import Wide.FinOn
import PySem.Challenge.RW_ez0119_01
open PySem PySem.W PyProof.Rows
set_option Elab.async false
namespace EzMine
set_option maxRecDepth 100000 in
set_option maxHeartbeats 8000000 in
open_top hd for PySem.Challenge.rw_ez0119_01
end EzMine

theorem EzMine.back_ab : True := by
  w_top off
  first | walk1 | trivial
open PySem PySem.W PyProof.Rows
set_option Elab.async false
namespace EzMine

/-! ## a number of few bits -/
def Sm (k : Nat) (x : Int) : Prop := x.natAbs < 2 ^ k
theorem Sm.mono {a b : Nat} {x : Int} (h : Sm a x) (hab : a ≤ b) : Sm b x := Nat.lt_of_lt_of_le h (Nat.pow_le_pow_right (by decide) hab)
theorem Sm.mul {a b : Nat} {x y : Int} (h : Sm a x) (g : Sm b y) : Sm (a + b) (x * y) := by
  unfold Sm at *
  rw [Int.natAbs_mul, Nat.pow_add]
  exact Nat.mul_lt_mul'' h g
theorem Sm.add {a b : Nat} {x y : Int} (h : Sm a x) (g : Sm b y) : Sm (max a b + 1) (x + y) := by
  have h' := h.mono (Nat.le_max_left a b)
  have g' := g.mono (Nat.le_max_right a b)
  unfold Sm at *
  have := Int.natAbs_add_le x y
  rw [Nat.pow_succ]
  omega
theorem Sm.neg {a : Nat} {x : Int} (h : Sm a x) : Sm a (-x) := by unfold Sm at *; rwa [Int.natAbs_neg]
theorem Sm.sub {a b : Nat} {x y : Int} (h : Sm a x) (g : Sm b y) : Sm (max a b + 1) (x - y) := by
  rw [Int.sub_eq_add_neg]; exact h.add g.neg
theorem Sm.shl {a b : Nat} {x : Int} {n : Nat} (h : Sm a x) (g : n ≤ b) : Sm (a + b) (x * 2 ^ n) := by
  unfold Sm at *
  rw [Int.natAbs_mul, Int.natAbs_pow, Nat.pow_add]
  refine Nat.lt_of_lt_of_le (Nat.mul_lt_mul_of_pos_right h (Nat.pow_pos (by decide))) (Nat.mul_le_mul_left _ ?_)
  exact Nat.pow_le_pow_right (by decide) g
theorem Sm.pow {a b : Nat} {x : Int} {n : Nat} (h : Sm a x) (g : n ≤ b) : Sm (a * b + 1) (x ^ n) := by
  unfold Sm at *
  rw [Int.natAbs_pow]
  have h1 : x.natAbs ^ n ≤ (2 ^ a) ^ n := Nat.pow_le_pow_left (Nat.le_of_lt h) n
  rw [← Nat.pow_mul] at h1
  have h2 : 2 ^ (a * n) ≤ 2 ^ (a * b) := Nat.pow_le_pow_right (by decide) (Nat.mul_le_mul_left a g)
  have h3 : 2 ^ (a * b) < 2 ^ (a * b + 1) := Nat.pow_lt_pow_right (by decide) (Nat.lt_succ_self _)
  omega
theorem Sm.fmod {b : Nat} {x y : Int} (g : Sm b y) (h : 0 < y) : Sm b (x.fmod y) := by
  unfold Sm at *
  have h1 := Int.fmod_nonneg_of_pos x h
  have h2 := Int.fmod_lt_of_pos x h
  omega
theorem Sm.fdiv {a : Nat} {x y : Int} (g : Sm a x) (h : 0 < y) : Sm a (x.fdiv y) := by
  unfold Sm at *
  rw [Int.fdiv_eq_ediv_of_nonneg x (Int.le_of_lt h)]
  refine Nat.lt_of_le_of_lt ?_ g
  exact Int.natAbs_ediv_le_natAbs x y
theorem Sm.intBits {k : Nat} {x : Int} (h : Sm k x) : Builtin.Int.intBits x ≤ k := by
  unfold Builtin.Int.intBits Sm at *
  split
  · exact Nat.zero_le _
  · rename_i hx
    have hx' : x.natAbs ≠ 0 := by
      intro h0
      rw [Int.natAbs_eq_zero] at h0
      subst h0
      exact hx rfl
    exact (Nat.log2_lt hx').mpr h
theorem Sm.mulOk {a b : Nat} {x y : Int} (h : Sm a x) (g : Sm b y) (hab : a + b ≤ 134217728) : IntMulOk x y := by
  have h1 := h.intBits
  have h2 := g.intBits
  have h3 : Builtin.Int.intTooBig (Builtin.Int.intBits x + Builtin.Int.intBits y) = false := by
    unfold Builtin.Int.intTooBig
    refine decide_eq_false ?_
    rw [bitsLine_eq]
    omega
  unfold IntMulOk
  rw [h3, Bool.and_false]
  exact Bool.false_ne_true
theorem Sm.pylong {b : Nat} {x y : Int} (g : Sm b y) (hb : b ≤ 9000) : Builtin.divisionGoesByPylong x y = false := by
  refine PyProof.noPylong_of_log2 ?_
  by_cases h0 : y.natAbs = 0
  · rw [h0]; decide
  · exact (Nat.log2_lt h0).mpr (Nat.lt_of_lt_of_le g (Nat.pow_le_pow_right (by decide) hb))

/-! ## contracts -/
/-- a tree, run from a frame of a def with room for k frames: it ends in a value that R tells, what it made lies on the ledger -/
def EzC (k : Nat) (news : List (Addr × Obj)) (t : Sem Value) (R : Value → List (Addr × Obj) → Prop) : Prop :=
  ∀ (prog : Program) (w : World) (p : Program) (loose : List PySem.Str) (mean : ExcName → Option Value) (mg mb : PySem.Str → Option Value)
    (dp un : Nat) (gd : Option (List Code)) (cn : PySem.Str) (cs : Scope) (a : Addr) (ccd : Value) (cl : List (PySem.Str × Addr)) (outer : List Env) (A₀ : Around) (base h₀ : Heap) (L : Addr) (m : PySem.Str → Option Value) (s : Shared) (Q E : Value → Shared → Prop),
    Below A₀ base outer h₀ → Fr h₀ L s.heap m → (hd.heap_39 w.params).In h₀ → News h₀ L s.heap news → Top p loose mean mg mb h₀ → cs.kind = .function → dp + k < recursionLimit → un + 16 * k < cLine →
    (∀ v new h' tk', R v new → (∀ q ∈ new, AllLt q.1 news) → Fr h₀ L h' m → News h₀ L h' (new ++ news) → Q v { s with heap := h', toks := tk' }) →
    wpAny (model prog w) (ktrTop dp un gd cn cs L a ccd cl outer) t Q E s

theorem EzC.use {k : Nat} {news : List (Addr × Obj)} {t : Sem Value} {R : Value → List (Addr × Obj) → Prop} (c : EzC k news t R)
    {prog : Program} {w : World} {p : Program} {loose : List PySem.Str} {mean : ExcName → Option Value} {mg mb : PySem.Str → Option Value}
    {dp un : Nat} {gd : Option (List Code)} {cn : PySem.Str} {cs : Scope} {a : Addr} {ccd : Value} {cl : List (PySem.Str × Addr)} {outer : List Env} {A₀ : Around} {base h₀ : Heap} {L : Addr} {m : PySem.Str → Option Value} {s : Shared} {Q E : Value → Shared → Prop}
    (B : Below A₀ base outer h₀) (F : Fr h₀ L s.heap m) (X : (hd.heap_39 w.params).In h₀) (N : News h₀ L s.heap news) (T : Top p loose mean mg mb h₀) (hk : cs.kind = .function) (hd : dp + k < recursionLimit) (hu : un + 16 * k < cLine)
    (h : ∀ v new h' tk', R v new → (∀ q ∈ new, AllLt q.1 news) → Fr h₀ L h' m → News h₀ L h' (new ++ news) → Q v { s with heap := h', toks := tk' }) :
    wpAny (model prog w) (ktrTop dp un gd cn cs L a ccd cl outer) t Q E s := c _ _ _ _ _ _ _ _ _ _ _ _ _ _ _ _ _ _ _ _ _ _ _ _ B F X N T hk hd hu h

theorem news_drop {h₀ h : Heap} {L : Addr} {news news' : List (Addr × Obj)} (N : News h₀ L h news') (hs : ∀ p ∈ news, p ∈ news') : News h₀ L h news := fun p hp => N p (hs p hp)

def isInt (x : Int) (v : Value) (new : List (Addr × Obj)) : Prop := new = [] ∧ ∃ t, v = .int x t
def isBool (x : Bool) (v : Value) (new : List (Addr × Obj)) : Prop := new = [] ∧ v = .bool x
def isStr (x : PySem.Str) (v : Value) (new : List (Addr × Obj)) : Prop := new = [] ∧ ∃ t, v = .str x t


theorem isInt.mk {x y : Int} {t : Tok} (h : y = x) : isInt x (.int y t) [] := ⟨rfl, t, by rw [h]⟩
theorem isBool.mk {x y : Bool} (h : y = x) : isBool x (.bool y) [] := ⟨rfl, by rw [h]⟩
theorem isStr.mk {x y : PySem.Str} {t : Tok} (h : y = x) : isStr x (.str y t) [] := ⟨rfl, t, by rw [h]⟩
def isDbl (x y : Int) (v : Value) (new : List (Addr × Obj)) : Prop :=
  ∃ a d h1 h2 k1 k2 t u, v = .ref a ∧ new = [(a, instObj 109 d), (d, dictOf [⟨h1, .str (PySem.Str.ofString "n") k1, .int x t⟩, ⟨h2, .str (PySem.Str.ofString "d") k2, .int y u⟩] 2)]
theorem isDbl.mk {x y x' y' : Int} {a d : Addr} {h1 h2 : Int} {k1 k2 t u : Tok} (h : x' = x) (g : y' = y) :
    isDbl x y (.ref a) [(a, instObj 109 d), (d, dictOf [⟨h1, .str (PySem.Str.ofString "n") k1, .int x' t⟩, ⟨h2, .str (PySem.Str.ofString "d") k2, .int y' u⟩] 2)] := ⟨a, d, h1, h2, k1, k2, t, u, rfl, by rw [h, g]⟩
theorem allLt_trans {d x : Addr} {l : List (Addr × Obj)} (h : AllLt d l) (g : @LT.lt Nat _ d x) : AllLt x l := allLt_of fun p hp => Nat.lt_trans (ktn_ltOf h p hp) g
theorem ord_nil {l : List (Addr × Obj)} : ∀ q ∈ ([] : List (Addr × Obj)), AllLt q.1 l := fun _ h => nomatch h
theorem ord_cons {l r : List (Addr × Obj)} {a : Addr} {o : Obj} (h : AllLt a l) (g : ∀ q ∈ r, AllLt q.1 l) : ∀ q ∈ (a, o) :: r, AllLt q.1 l := fun q hq => by
  rcases List.mem_cons.mp hq with rfl | hq
  · exact h
  · exact g q hq
theorem mem_of {α : Type} {a : α} {l : List α} (h : a ∈ l) : List.Mem a l := h
def isRef (x : Addr) (v : Value) (new : List (Addr × Obj)) : Prop := new = [] ∧ v = .ref x
theorem ite_dneg {P a b : Prop} [Decidable P] (hc : ¬ P) (h : b) : if decide P = true then a else b := by rw [if_neg (by rwa [decide_eq_true_eq])]; exact h
theorem ite_bne {x y : Int} {a b : Prop} (hc : x ≠ y) (h : a) : if (x != y) = true then a else b := by rw [if_pos (by simpa using hc)]; exact h
theorem ite_beq {x y : Int} {a b : Prop} (hc : x ≠ y) (h : b) : if (x == y) = true then a else b := by rw [if_neg (by simpa using hc)]; exact h
theorem ite_dpos {P a b : Prop} [Decidable P] (hc : P) (h : a) : if decide P = true then a else b := by rw [if_pos (by rwa [decide_eq_true_eq])]; exact h
theorem sub_same {l : List (Addr × Obj)} : ∀ p ∈ l, p ∈ l := fun _ h => h
theorem sub_tail {l r : List (Addr × Obj)} {q : Addr × Obj} (h : ∀ p ∈ l, p ∈ r) : ∀ p ∈ l, p ∈ q :: r := fun p hp => .tail _ (h p hp)
theorem sub_cons {l r : List (Addr × Obj)} {q : Addr × Obj} (h : ∀ p ∈ l, p ∈ r) (g : q ∈ r) : ∀ p ∈ q :: l, p ∈ r := fun p hp => by
  rcases List.mem_cons.mp hp with rfl | hp
  · exact g
  · exact h p hp
theorem Sm.lit {x : Int} (h : decide (x.natAbs < 2 ^ 64) = true) : Sm 64 x := by unfold Sm; exact of_decide_eq_true h
theorem Sm.lit4 {x : Int} (h : decide (x.natAbs < 2 ^ 4) = true) : Sm 4 x := by unfold Sm; exact of_decide_eq_true h
theorem Sm.of_lt {x : Int} (h : -(2 ^ 64 : Int) < x) (g : x < 2 ^ 64) : Sm 64 x := by unfold Sm; omega

section
variable {prog : Program} {w : World} {A : Around} {E : Value → Shared → Prop} {s : Shared} {a b : Int} {t u : Tok} {Q : Value → Shared → Prop} {i j : Nat}
theorem ez_mul (h1 : Sm i a) (h2 : Sm j b) (h3 : i + j ≤ 134217728) (h : Q (.int (a * b) s.toks) { s with toks := s.toks + 1 }) : wpAny (model prog w) A (binaryOp .Mult (.int a t) (.int b u)) Q E s :=
  mul_int h (h1.mulOk h2 h3)
theorem ez_shl (h0 : 0 ≤ b) (h1 : Sm i a) (h2 : (i : Int) + b ≤ 134217728) (h : Q (.int (a * 2 ^ b.toNat) s.toks) { s with toks := s.toks + 1 }) : wpAny (model prog w) A (binaryOp .LShift (.int a t) (.int b u)) Q E s :=
  lshift_int h0 (by have := h1.intBits; omega) h
theorem ez_fdiv (h0 : 0 < b) (h1 : Sm i b) (h2 : i ≤ 9000) (h : Q (.int (a.fdiv b) s.toks) { s with toks := s.toks + 1 }) : wpAny (model prog w) A (binaryOp .FloorDiv (.int a t) (.int b u)) Q E s :=
  floordiv_int (by omega) h (.inl (h1.pylong h2))
theorem ez_divmod {h₀ : Heap} {L : Addr} {m : PySem.Str → Option Value} {news : List (Addr × Obj)} (F : Fr h₀ L s.heap m) (N : News h₀ L s.heap news) (h0 : 0 < b) (h1 : Sm i b) (h2 : i ≤ 9000)
    (h : ∀ h', Fr h₀ L h' m → News h₀ L h' ((s.heap.objs.size, { cls := .type "tuple", data := .seq #[.int (a.fdiv b) s.toks, .int (a.fmod b) (s.toks + 1)] }) :: news) →
      Q (.ref s.heap.objs.size) { s with toks := s.toks + 1 + 1, heap := h' }) :
    wpAny (model prog w) A (call (.builtin "divmod") [.int a t, .int b u]) Q E s := divmod_N F N (by omega) h (.inl (h1.pylong h2))
theorem ez_max {h₀ : Heap} {L : Addr} {m : PySem.Str → Option Value} {news : List (Addr × Obj)} (hh : A.handled = none) (F : Fr h₀ L s.heap m) (N : News h₀ L s.heap news)
    (h : ∀ h' tk t', Fr h₀ L h' m → News h₀ L h' news → Q (.int (max a b) t') { s with heap := h', toks := tk }) :
    wpAny (model prog w) A (call (.builtin "max") [.int a t, .int b u]) Q E s :=
  max_two_N hh F N fun h' tk F' N' => by
    have := h h' tk (if b > a then u else t) F' N'
    have e : max a b = if b > a then b else a := by omega
    rwa [e] at this
theorem ez_min {h₀ : Heap} {L : Addr} {m : PySem.Str → Option Value} {news : List (Addr × Obj)} (hh : A.handled = none) (F : Fr h₀ L s.heap m) (N : News h₀ L s.heap news)
    (h : ∀ h' tk t', Fr h₀ L h' m → News h₀ L h' news → Q (.int (min a b) t') { s with heap := h', toks := tk }) :
    wpAny (model prog w) A (call (.builtin "min") [.int a t, .int b u]) Q E s :=
  min_two_N hh F N fun h' tk F' N' => by
    have := h h' tk (if b < a then u else t) F' N'
    have e : min a b = if b < a then b else a := by omega
    rwa [e] at this
theorem ez_abs (h : ∀ u tk, Q (.int (a.natAbs : Int) u) { s with toks := tk }) : wpAny (model prog w) A (call (.builtin "abs") [.int a t]) Q E s :=
  call_abs_int fun u tk => by
    have := h u tk
    have e : (a.natAbs : Int) = if a < 0 then -a else a := by omega
    rwa [e] at this
end
theorem Sm.natAbs {a : Nat} {x : Int} (h : Sm a x) : Sm a (x.natAbs : Int) := by unfold Sm at *; rwa [Int.natAbs_natCast]
def isTup2 (x y : Int) (v : Value) (new : List (Addr × Obj)) : Prop := ∃ a t u, v = .ref a ∧ new = [(a, ({ cls := .type "tuple", data := .seq #[.int x t, .int y u] } : Obj))]
theorem isTup2.mk {x y x' y' : Int} {a : Addr} {t u : Tok} (h : x' = x) (g : y' = y) : isTup2 x y (.ref a) [(a, ({ cls := .type "tuple", data := .seq #[.int x' t, .int y' u] } : Obj))] := ⟨a, t, u, rfl, by rw [h, g]⟩

section
variable {k : Nat} {news : List (Addr × Obj)} {t : Sem Value} {prog : Program} {w : World} {p : Program} {loose : List PySem.Str} {mean : ExcName → Option Value} {mg mb : PySem.Str → Option Value}
    {dp un : Nat} {gd : Option (List Code)} {cn : PySem.Str} {cs : Scope} {a : Addr} {ccd : Value} {cl : List (PySem.Str × Addr)} {outer : List Env} {A₀ : Around} {base h₀ : Heap} {L : Addr} {m : PySem.Str → Option Value} {s : Shared} {Q E : Value → Shared → Prop}
theorem EzC.useInt {x : Int} (c : EzC k news t (isInt x))
    (B : Below A₀ base outer h₀) (F : Fr h₀ L s.heap m) (X : (hd.heap_39 w.params).In h₀) (N : News h₀ L s.heap news) (T : Top p loose mean mg mb h₀) (hk : cs.kind = .function) (hd : dp + k < recursionLimit) (hu : un + 16 * k < cLine)
    (h : ∀ t h' tk', Fr h₀ L h' m → News h₀ L h' (news) → Q (.int x t) { s with heap := h', toks := tk' }) :
    wpAny (model prog w) (ktrTop dp un gd cn cs L a ccd cl outer) t Q E s := c.use B F X N T hk hd hu fun v new h' tk' R O F' N' => by
  obtain ⟨rfl, t, rfl⟩ := R
  exact h _ h' tk' F' N'
theorem EzC.useStr {x : PySem.Str} (c : EzC k news t (isStr x))
    (B : Below A₀ base outer h₀) (F : Fr h₀ L s.heap m) (X : (hd.heap_39 w.params).In h₀) (N : News h₀ L s.heap news) (T : Top p loose mean mg mb h₀) (hk : cs.kind = .function) (hd : dp + k < recursionLimit) (hu : un + 16 * k < cLine)
    (h : ∀ t h' tk', Fr h₀ L h' m → News h₀ L h' (news) → Q (.str x t) { s with heap := h', toks := tk' }) :
    wpAny (model prog w) (ktrTop dp un gd cn cs L a ccd cl outer) t Q E s := c.use B F X N T hk hd hu fun v new h' tk' R O F' N' => by
  obtain ⟨rfl, t, rfl⟩ := R
  exact h _ h' tk' F' N'
theorem EzC.useBool {x : Bool} (c : EzC k news t (isBool x))
    (B : Below A₀ base outer h₀) (F : Fr h₀ L s.heap m) (X : (hd.heap_39 w.params).In h₀) (N : News h₀ L s.heap news) (T : Top p loose mean mg mb h₀) (hk : cs.kind = .function) (hd : dp + k < recursionLimit) (hu : un + 16 * k < cLine)
    (h : ∀  h' tk', Fr h₀ L h' m → News h₀ L h' (news) → Q (.bool x) { s with heap := h', toks := tk' }) :
    wpAny (model prog w) (ktrTop dp un gd cn cs L a ccd cl outer) t Q E s := c.use B F X N T hk hd hu fun v new h' tk' R O F' N' => by
  obtain ⟨rfl, rfl⟩ := R
  exact h  h' tk' F' N'
theorem EzC.useTup2 {x y : Int} (c : EzC k news t (isTup2 x y))
    (B : Below A₀ base outer h₀) (F : Fr h₀ L s.heap m) (X : (hd.heap_39 w.params).In h₀) (N : News h₀ L s.heap news) (T : Top p loose mean mg mb h₀) (hk : cs.kind = .function) (hd : dp + k < recursionLimit) (hu : un + 16 * k < cLine)
    (h : ∀ d t u h' tk', AllLt d news → Fr h₀ L h' m → News h₀ L h' ((d, ({ cls := .type "tuple", data := .seq #[.int x t, .int y u] } : Obj)) :: news) → Q (.ref d) { s with heap := h', toks := tk' }) :
    wpAny (model prog w) (ktrTop dp un gd cn cs L a ccd cl outer) t Q E s := c.use B F X N T hk hd hu fun v new h' tk' R O F' N' => by
  obtain ⟨d, t, u, rfl, rfl⟩ := R
  exact h _ _ _ h' tk' (O _ (.head _)) F' N'
theorem EzC.useDbl {x y : Int} (c : EzC k news t (isDbl x y))
    (B : Below A₀ base outer h₀) (F : Fr h₀ L s.heap m) (X : (hd.heap_39 w.params).In h₀) (N : News h₀ L s.heap news) (T : Top p loose mean mg mb h₀) (hk : cs.kind = .function) (hd : dp + k < recursionLimit) (hu : un + 16 * k < cLine)
    (h : ∀ x9 d h1 h2 k1 k2 t u h' tk', AllLt x9 news → AllLt d news → Fr h₀ L h' m → News h₀ L h' ((x9, instObj 109 d) :: (d, dictOf [⟨h1, .str (PySem.Str.ofString "n") k1, .int x t⟩, ⟨h2, .str (PySem.Str.ofString "d") k2, .int y u⟩] 2) :: news) → Q (.ref x9) { s with heap := h', toks := tk' }) :
    wpAny (model prog w) (ktrTop dp un gd cn cs L a ccd cl outer) t Q E s := c.use B F X N T hk hd hu fun v new h' tk' R O F' N' => by
  obtain ⟨x9, d, h1, h2, k1, k2, t, u, rfl, rfl⟩ := R
  exact h x9 d h1 h2 k1 k2 t u h' tk' (O _ (.head _)) (O _ (.tail _ (.head _))) F' N'
theorem EzC.useRef {x : Addr} (c : EzC k news t (isRef x))
    (B : Below A₀ base outer h₀) (F : Fr h₀ L s.heap m) (X : (hd.heap_39 w.params).In h₀) (N : News h₀ L s.heap news) (T : Top p loose mean mg mb h₀) (hk : cs.kind = .function) (hd : dp + k < recursionLimit) (hu : un + 16 * k < cLine)
    (h : ∀ h' tk', Fr h₀ L h' m → News h₀ L h' news → Q (.ref x) { s with heap := h', toks := tk' }) :
    wpAny (model prog w) (ktrTop dp un gd cn cs L a ccd cl outer) t Q E s := c.use B F X N T hk hd hu fun v new h' tk' R O F' N' => by
  obtain ⟨rfl, rfl⟩ := R
  exact h h' tk' F' N'
end
section
variable {prog : Program} {w : World} {A : Around} {E : Value → Shared → Prop} {s : Shared} {K : Frag} {x C L f : Addr} {h₀ : Heap} {m : PySem.Str → Option Value} {ox : Obj} {od : Option Obj}
/-- no in-place slot in a class over object alone -/
theorem ez_noInplace {h : Heap} {nm : String} {add : Bool} {cd : ClassData} (X : K.In h) (hc : clsIn K C = some cd) (hm : cd.mro = [.ref C, .type "object"]) (h1 : findIn K (.ref C) (dunderI nm) = some none) (h2 : findIn K (.type "object") (dunderI nm) = some none) :
    Looks (model prog w) h (fillsInplaceSlot (.ref C) nm add) false := by
  intro A Q E s k q
  have X' : K.In s.heap := X.keeps k
  have Lm : Looks (model prog w) s.heap (mroOf (.ref C)) cd.mro := (looks_clsIn X' hc).andThen (f := fun cd => pure cd.mro) .now
  have La : Looks (model prog w) s.heap (typeLookup (.ref C) (dunderI nm)) none := looks_findIn X' h1
  have Lb : Looks (model prog w) s.heap (typeLookup (.type "object") (dunderI nm)) none := looks_findIn X' h2
  unfold fillsInplaceSlot
  refine wpAny_bind (Lm.here ?_)
  rw [hm, List.anyM_cons]
  refine wpAny_bind (wpAny_bind (La.here (wpAny_pure ?_)))
  rw [if_neg Bool.false_ne_true, List.anyM_cons]
  refine wpAny_bind (wpAny_bind (Lb.here (wpAny_pure ?_)))
  rw [if_neg Bool.false_ne_true]
  exact wpAny_pure q
/-- x /= n falls back to x / n -/
theorem ez_idiv {op : Operator} {T : String} {b : Value} {fo ro : Option Value} {cd : ClassData} {Q : Value → Shared → Prop} (F : Fr h₀ L s.heap m) (X₀ : K.In h₀) (I : InstAt s.heap x ox C od) (hb : typeOf b = pure (.type T)) (hc : clsIn K C = some cd) (hm : cd.mro = [.ref C, .type "object"])
    (hi : findIn K (.ref C) (dunderI op.info.2) = some none) (ho : findIn K (.type "object") (dunderI op.info.2) = some none)
    (hs : findIn K (.ref C) (PySem.dunder op.info.2) = some (some (.ref f))) (hf : isFn K (.ref f) = true) (hr : findIn K (.ref C) (dunderR op.info.2) = some none)
    (h1 : findIn K (.type T) (PySem.dunder op.info.2) = some fo) (h2 : findIn K (.type T) (dunderR op.info.2) = some ro) (hsub : subIn K (.type T) (.ref C) = some false)
    (h : wpAny (model prog w) A (call (.ref f) [.ref x, b]) (W.CmpBack Q) E s) : wpAny (model prog w) A (inplaceOp op (.ref x) b) Q E s := by
  have X := X₀.keeps F.keep
  have one := ksp_try X I hs hf h
  have L1 : Looks (model prog w) s.heap (typeOf (.ref x)) (.ref C) := I.type
  have L2 : Looks (model prog w) s.heap (typeOf b) (.type T) := Looks.of_pure hb
  have L3 : Looks (model prog w) s.heap (fillsNumberSlot (.ref C) op.info.2) true := fills_K X hc hm hs
  have L4 : Looks (model prog w) s.heap (fillsNumberSlot (.type T) op.info.2) _ := ksp_fillsT X h1 h2
  have L5 : Looks (model prog w) s.heap (isSubtype (.type T) (.ref C)) false := looks_subIn X hsub
  have L6 : Looks (model prog w) s.heap (numberSlotInPython (.ref C) op.info.2) true := ksp_inPy X hs hr (.inl rfl)
  have L7 : Looks (model prog w) s.heap (numberSlotInPython (.type T) op.info.2) false := Looks.of_pure rfl
  have L8 : Looks (model prog w) s.heap (typeLookup (.type T) (dunderR op.info.2)) ro := looks_findIn X h2
  have L9 : Looks (model prog w) s.heap (fillsInplaceSlot (.ref C) op.info.2 (op == .Add)) false := ez_noInplace X hc hm hi ho
  generalize ((fo.isSome && !isSeqSlot fo) || (ro.isSome && !isSeqSlot ro)) = right at L4
  have hne : (Value.ref C == Value.type T) = false := Bool.eq_false_iff.mpr fun q => by cases beq_iff_eq.mp q
  unfold inplaceOp
  refine wpAny_holding ?_
  refine wpAny_bind (L1.here (wpAny_bind (L9.here ?_)))
  rw [if_neg Bool.false_ne_true]
  refine wpAny_bind ?_
  unfold binaryOp1
  refine wpAny_bind (L1.here (wpAny_bind (L2.here (wpAny_bind (L3.here ?_)))))
  simp only [hne, Bool.false_eq_true, if_false]
  refine wpAny_bind (L4.here ?_)
  cases right with
  | false =>
    ksp_lk
    refine wpAny_mono one (fun r s' hr' => ?_) fun _ _ e => e
    obtain ⟨v, rfl, hq⟩ := hr'
    ksp_lk
    exact hq
  | true =>
    ksp_lk
    refine wpAny_mono one (fun r s' hr' => ?_) fun _ _ e => e
    obtain ⟨v, rfl, hq⟩ := hr'
    ksp_lk
    exact hq
end
/-! texts -/
theorem text_ge1 (a : Int) : 1 ≤ (PySem.Str.ofString (toString a)).length := by
  by_cases h : a < 0
  · have := len_text_neg h; omega
  · obtain ⟨m, rfl⟩ := Int.eq_ofNat_of_zero_le (show 0 ≤ a by omega)
    show 1 ≤ (PySem.Str.ofString (toString (Int.ofNat m))).length
    rw [text_ofNat]
    show 1 ≤ ((Nat.toDigits 10 m).map Char.toNat).toArray.size
    rw [List.size_toArray, List.length_map]
    exact Nat.length_toDigits_pos
theorem text_le {i : Nat} {a : Int} (h : Sm i a) (hi : i ≤ 1920) : (PySem.Str.ofString (toString a)).length ≤ 1921 := by
  rw [PySem.ofString_length]
  refine PySem.int_text_length_le (k := 1920) (by decide) ?_
  by_cases h0 : a.natAbs = 0
  · rw [h0]; decide
  · exact (Nat.log2_lt h0).mpr (Nat.lt_of_lt_of_le h (Nat.pow_le_pow_right (by decide) hi))
theorem lit_len0 : (PySem.Str.ofString "").length = 0 := by decide
theorem lit_dot : (PySem.Str.ofString ".").length = 1 := by decide
theorem lit_minus : (PySem.Str.ofString "-").length = 1 := by decide
theorem lit_blank : (PySem.Str.ofString " ").length = 1 := by decide
theorem lit_nought : (PySem.Str.ofString "0").length = 1 := by decide
section
variable {prog : Program} {w : World} {A : Around} {E : Value → Shared → Prop} {s : Shared} {x y : PySem.Str} {i : Int} {t u : Tok} {Q : Value → Shared → Prop} {a : Int} {k : Nat}
theorem ez_str (h1 : Sm k a) (h2 : k ≤ 1920) (h : 1 ≤ (PySem.Str.ofString (toString a)).length → (PySem.Str.ofString (toString a)).length ≤ 1921 → Q (.str (PySem.Str.ofString (toString a)) s.toks) { s with toks := s.toks + 1 }) :
    wpAny (model prog w) A (call (.type "str") [.int a t]) Q E s := by
  refine PySem.P.str_of_int ?_ (h (text_ge1 a) (text_le h1 h2))
  by_cases h0 : a.natAbs = 0
  · rw [h0]; decide
  · exact (Nat.log2_lt h0).mpr (Nat.lt_of_lt_of_le h1 (Nat.pow_le_pow_right (by decide) h2))
theorem pad_ok {i : Int} (h0 : -1000 ≤ i) (h1 : i ≤ 1000) : PadOk i = true := by
  unfold PadOk fitsSsize PySem.Builtin.Str.tooLong
  have e : ¬ i.toNat > sizeLine := by rw [PySem.sizeLine_eq]; omega
  simp [e]; omega
theorem ez_zfill (h0 : -1000 ≤ i) (h1 : i ≤ 1000) (h : ∀ t' k, ((Txt.zfill x i).length : Int) = max (x.length : Int) i → Q (.str (Txt.zfill x i) t') { s with toks := k }) :
    wpAny (model prog w) A (call (.builtin "str.zfill") [.str x t, .int i u]) Q E s :=
  PySem.SC.zfill (pad_ok h0 h1) fun t' k => h t' k (by
    have e := len_zfill x i
    by_cases c : (x.length : Int) < i
    · rw [if_pos (decide_eq_true c)] at e; omega
    · rw [if_neg (by simpa using c)] at e; omega)
theorem ez_item {value slice : PySem.Expr} (h0 : 0 ≤ i) (h1 : i < x.length) (h2 : i < 100000) (h : (Txt.item x i).length = 1 → Q (.str (Txt.item x i) s.toks) { s with toks := s.toks + 1 })
    (hs : subscripted slice false (.str x t) (.int i u) = operate [.str x t, .int i u] (getItem (.str x t) (.int i u)) := by with_unfolding_all rfl)
    (ht : ∀ r, letTemporaryGo value (.str x t) r = pure () := by intro _; with_unfolding_all rfl) :
    wpAny (model prog w) A (subscriptTail value slice (.str x t) (.int i u)) Q E s :=
  item_str (fitsSsize_of (N := 9223372036854775808) (by omega) (by omega) (Int.le_refl _)) (by omega) h1 (fun e => h (by omega)) hs ht
end
section
variable {M : Model} {A : Around} {E : Value → Shared → Prop} {s : Shared} {L : Addr} {h₀ : Heap} {m : PySem.Str → Option Value} {news : List (Addr × Obj)} {Q : Value → Shared → Prop}
/-- an empty list is made; a list that stood is still read -/
theorem ez_newNil {D : Addr} {arr : Array Value} (F : Fr h₀ L s.heap m) (N : News h₀ L s.heap news) (hl : s.heap.IsList D arr)
    (h : ∀ l h', Fr h₀ L h' m → News h₀ L h' ((l, listOf #[] 0) :: news) → h'.IsList D arr → h'.IsList l #[] → AllLt l news → Q (.ref l) { s with heap := h' }) :
    wpAny M A (newList []) Q E s :=
  wpAny_newObj_type (h s.heap.objs.size _ (F.push _) (N.push F _)
    (let ⟨o, ho, r⟩ := hl; ⟨o, Heap.get?_push_of_some _ ho, r⟩)
    (let N' := N.push F (listOf #[] 0); ⟨_, (N' _ (.head _)).1, rfl, _, rfl⟩)
    (allLt_of fun p hp => Heap.lt_size (N p hp).1)) (by show 0 ≤ sizeLine; exact Nat.zero_le _)
end
end EzMine

namespace EzMine
theorem back_ac : (PySem.Challenge.rw_ez0119_01 = PySem.Challenge.rw_ez0119_01) ∧ (hd.heap_39 = hd.heap_39) := by
  k_fill
  exact ⟨rfl, rfl⟩
theorem back_ad : True := by
  w_top off
  first | walk1 | trivial
/-! the walk's own lines -/
local macro_rules | `(tactic| walk_at "ez_sm0") => `(tactic| fail "ez_sm0")
local macro_rules | `(tactic| walk_at "ez_sm0") => `(tactic| ((with_reducible refine' Sm.pow (b := 1200) ?p9 ?q9); (case p9 => (walk_at "ez_sm0")); (case q9 => omega)))
local macro_rules | `(tactic| walk_at "ez_sm0") => `(tactic| ((with_reducible refine' Sm.pow (b := 330) ?p9 ?q9); (case p9 => (walk_at "ez_sm0")); (case q9 => omega)))
local macro_rules | `(tactic| walk_at "ez_sm0") => `(tactic| ((with_reducible refine' Sm.pow (b := 80) ?p9 ?q9); (case p9 => (walk_at "ez_sm0")); (case q9 => omega)))
local macro_rules | `(tactic| walk_at "ez_sm0") => `(tactic| ((with_reducible refine' Sm.fmod ?p9 ?q9); (case p9 => (walk_at "ez_sm0")); (case q9 => (walk_at "ez_pos"))))
local macro_rules | `(tactic| walk_at "ez_sm0") => `(tactic| ((with_reducible refine' Sm.fdiv ?p9 ?q9); (case p9 => (walk_at "ez_sm0")); (case q9 => (walk_at "ez_pos"))))
local macro_rules | `(tactic| walk_at "ez_sm0") => `(tactic| ((with_reducible refine' Sm.neg ?p9); (case p9 => (walk_at "ez_sm0"))))
local macro_rules | `(tactic| walk_at "ez_sm0") => `(tactic| ((with_reducible refine' Sm.sub ?p9 ?q9); (case p9 => (walk_at "ez_sm0")); (case q9 => (walk_at "ez_sm0"))))
local macro_rules | `(tactic| walk_at "ez_sm0") => `(tactic| ((with_reducible refine' Sm.add ?p9 ?q9); (case p9 => (walk_at "ez_sm0")); (case q9 => (walk_at "ez_sm0"))))
local macro_rules | `(tactic| walk_at "ez_sm0") => `(tactic| ((with_reducible refine' Sm.mul ?p9 ?q9); (case p9 => (walk_at "ez_sm0")); (case q9 => (walk_at "ez_sm0"))))
local macro_rules | `(tactic| walk_at "ez_sm0") => `(tactic| ((with_reducible refine' Sm.shl (b := 2200) ?p9 ?q9); (case p9 => (walk_at "ez_sm0")); (case q9 => omega)))
local macro_rules | `(tactic| walk_at "ez_sm0") => `(tactic| first | exact Sm.of_lt (by omega) (by omega) | fail "lt")
local macro_rules | `(tactic| walk_at "ez_sm0") => `(tactic| first | exact Sm.lit4 (by decide) | exact Sm.lit (by decide) | fail "lit")
local macro_rules | `(tactic| walk_at "ez_sm0") => `(tactic| with_reducible assumption)
local macro_rules | `(tactic| walk_at "binaryOp Mult int int") => `(tactic| (k_here; with_reducible refine' ez_mul ?h1 ?h2 ?h3 ?_; (case h1 => (walk_at "ez_sm0")); (case h2 => (walk_at "ez_sm0")); (case h3 => decide)))
local macro_rules | `(tactic| walk_at "binaryOp LShift int int") => `(tactic| (k_here; with_reducible refine' ez_shl ?h0 ?h1 ?h2 ?_; (case h0 => omega); (case h1 => (walk_at "ez_sm0")); (case h2 => omega)))
local macro_rules | `(tactic| walk_at "binaryOp FloorDiv int int") => `(tactic| (k_here; with_reducible refine' ez_fdiv ?h0 ?h1 ?h2 ?_; (case h0 => (walk_at "ez_pos")); (case h1 => (walk_at "ez_sm0")); (case h2 => decide)))
local macro_rules | `(tactic| walk_at "call builtin:divmod") => `(tactic| (k_here; (with_reducible show wpAny _ _ (call (Value.builtin _) [Value.int _ _, Value.int _ _]) _ _ _); refine' ez_divmod ?F ?N ?h0 ?h1 ?h2 ?_; (case F => k_asm); (case N => k_asm); (case h0 => (walk_at "ez_pos")); (case h1 => (walk_at "ez_sm0")); (case h2 => decide); intro h' F' N'; (try k_sweep)))
local macro_rules | `(tactic| walk_at "ez_room") => `(tactic| first | omega | ((dsimp only [ktrTop, Around.deeper, Around.in1]); omega) | ((simp only [depth_under_make, depth_under_kw, depth_in1, depth_deeper, depth_caller, units_in1, units_deeper, units_under_make, Around.mark_units, units_caller]); (try dsimp only [ktrTop]); omega) | fail "ez_room")
local macro_rules | `(tactic| walk_at "ez_sub") => `(tactic| first | exact sub_same | (refine sub_tail ?_; (walk_at "ez_sub")) | (refine sub_cons ?_ (by k_mem); (walk_at "ez_sub")))
local macro_rules | `(tactic| walk_at "ez_news") => `(tactic| (refine' news_drop ?n9 ?s9; (case n9 => k_asm); (case s9 => (walk_at "ez_sub"))))
local macro_rules | `(tactic| walk_at "ez_tidy") => `(tactic| ((try k_sweep); (try dsimp only); (try k_fold)))
local macro_rules | `(tactic| walk_at "ez_sm0") => `(tactic| ((with_reducible refine' Sm.natAbs ?p9); (case p9 => (walk_at "ez_sm0"))))
local macro_rules | `(tactic| walk_at "call builtin:max") => `(tactic| (k_here; (with_reducible show wpAny _ _ (call (Value.builtin _) [Value.int _ _, Value.int _ _]) _ _ _); k_dflt (refine' ez_max ?h ?F ?N ?_; (case h => exact rfl); (case F => k_asm); (case N => k_asm); k_whole); intro h' tk t' F' N'; (try k_sweep)))
local macro_rules | `(tactic| walk_at "call builtin:min") => `(tactic| (k_here; (with_reducible show wpAny _ _ (call (Value.builtin _) [Value.int _ _, Value.int _ _]) _ _ _); k_dflt (refine' ez_min ?h ?F ?N ?_; (case h => exact rfl); (case F => k_asm); (case N => k_asm); k_whole); intro h' tk t' F' N'; (try k_sweep)))
local macro_rules | `(tactic| walk_at "call builtin:abs") => `(tactic| ((with_reducible refine ez_abs ?_); intro _ _))
local macro_rules | `(tactic| walk_at "ez_pos") => `(tactic| first | omega | exact two_pow_pos _ | exact Int.pow_pos (by decide) | (refine Int.mul_pos ?_ ?_ <;> (walk_at "ez_pos")))
local macro_rules | `(tactic| walk_at "ez_small") => `(tactic| ((with_reducible refine' Sm.mono ?h9 ?l9); (case h9 => (walk_at "ez_sm0")); (case l9 => decide)))
local macro_rules | `(tactic| walk_at "ite") => `(tactic| (k_here; first | ((with_reducible refine ite_dneg ?c9 ?_); (case c9 => (walk_at "ez_no"))) | ((with_reducible refine ite_dpos ?c9 ?_); (case c9 => (walk_at "ez_yes"))) | ((with_reducible refine ite_bne ?c9 ?_); (case c9 => (walk_at "ez_yes"))) | ((with_reducible refine ite_beq ?c9 ?_); (case c9 => (walk_at "ez_no")))))
local macro_rules | `(tactic| walk_at "ez_yes") => `(tactic| with_reducible assumption)
local macro_rules | `(tactic| walk_at "ez_no") => `(tactic| with_reducible assumption)
local macro_rules | `(tactic| k_room) => `(tactic| (walk_at "ez_room"))
local macro_rules | `(tactic| ktr_room) => `(tactic| (walk_at "ez_room"))
local macro_rules | `(tactic| walk_at "ez_lt") => `(tactic| first | assumption | exact allLt_of (by assumption) | exact allLt_trans (allLt_of (by assumption)) (by assumption) | exact allLt_trans (by assumption) (by assumption) | (simp only [*]; done) | fail "ez_lt")
local macro_rules | `(tactic| walk_at "ez_ord") => `(tactic| first | exact ord_nil | ((refine' ord_cons ?a9 ?b9); (case a9 => (walk_at "ez_lt")); (case b9 => (walk_at "ez_ord"))))
local macro_rules | `(tactic| k_units) => `(tactic| (walk_at "ez_room"))
local macro_rules | `(tactic| walk_at "binaryOp Div ref") => `(tactic| (k_here; (with_reducible show wpAny _ _ (binaryOp Operator.Div (Value.ref _) (Value.ref _)) _ _ _); k_dflt (refine' binop_K ?k1 ?k2 ?k3 ?k4 ?k5 ?k6 ?k7 ?_; (case k1 => k_asm); (case k2 => k_asm); (case k3 => k_inst); (case k4 => k_typeOf); (case k5 => k_is); (case k6 => k_is); (case k7 => k_is); k_whole)))
local macro_rules | `(tactic| walk_at "inplaceOp Div ref") => `(tactic| (k_here; (with_reducible show wpAny _ _ (inplaceOp Operator.Div (Value.ref _) (Value.int _ _)) _ _ _); k_dflt (refine' ez_idiv ?k1 ?k2 ?k3 ?k4 ?k5 ?k6 ?k7 ?k8 ?k9 ?ka ?kb ?kc ?kd ?ke ?_; (case k1 => k_asm); (case k2 => k_asm); (case k3 => k_inst); (case k4 => exact rfl); (case k5 => k_is); (case k6 => exact rfl); (case k7 => k_is); (case k8 => k_is); (case k9 => k_is); (case ka => k_is); (case kb => k_is); (case kc => k_is); (case kd => k_is); (case ke => k_is); k_whole)))
local macro_rules | `(tactic| walk_at "call type:str") => `(tactic| (k_here; (with_reducible show wpAny _ _ (call (Value.type "str") [Value.int _ _]) _ _ _); (with_reducible refine' ez_str ?h1 ?h2 ?_; (case h1 => (walk_at "ez_sm0")); (case h2 => decide)); intro h8 h9))
local macro_rules | `(tactic| walk_at "call builtin:str.zfill") => `(tactic| (k_here; (with_reducible show wpAny _ _ (call (Value.builtin _) [Value.str _ _, Value.int _ _]) _ _ _); (with_reducible refine' ez_zfill ?h1 ?h2 ?_; (case h1 => omega); (case h2 => omega)); intro t8 k8 h8))
local macro_rules | `(tactic| walk_at "subscriptTail Name Constant str int") => `(tactic| (k_here; (with_reducible show wpAny _ _ (subscriptTail _ _ (Value.str _ _) (Value.int _ _)) _ _ _); refine' ez_item ?h0 ?h1 ?h2 ?_; (case h0 => omega); (case h1 => omega); (case h2 => omega); intro h8))
local macro_rules | `(tactic| walk_at "subscriptTail Name Call str int") => `(tactic| (k_here; (with_reducible show wpAny _ _ (subscriptTail _ _ (Value.str _ _) (Value.int _ _)) _ _ _); refine' ez_item ?h0 ?h1 ?h2 ?_; (case h0 => omega); (case h1 => omega); (case h2 => omega); intro h8))
local macro_rules | `(tactic| walk_at "ez_len") => `(tactic| ((try simp only [PySem.strLen_append, lit_len0, lit_dot, lit_minus, lit_blank, lit_nought, PySem.sizeLine_eq]); omega))
local macro_rules | `(tactic| walk_at "binaryOp Add str str") => `(tactic| (k_here; (with_reducible show wpAny _ _ (binaryOp Operator.Add (Value.str _ _) (Value.str _ _)) _ _ _); refine PyProof.Rows.add_str (hsz := ?z9) ?_; (case z9 => (walk_at "ez_len")); intro t8 k8))
local macro_rules | `(tactic| walk_at "subscriptTail Name Slice str ref") => `(tactic| (k_here; (with_reducible show wpAny _ _ (subscriptTail _ (Expr.Slice (some _) none none _) (Value.str _ _) (Value.ref _)) _ _ _); (with_reducible rename Fr _ _ _ _ => F'); (with_reducible rename News _ _ _ _ => N'); (refine slice_strN_sn_len (hsz := ?z9) (s := ⟨_, _, _, _, _⟩) F' N' ?_); (case z9 => (walk_at "ez_len")); intro h' t8 k8 F' N' h8; (try k_sweep)))

theorem back_ae : True := by
  w_top off
  first | walk1 | trivial
def rndI (n d : Int) : Int :=
  if 2 * n.fmod d > d ∨ (2 * n.fmod d = d ∧ (n.fdiv d).fmod 2 = 1) then n.fdiv d + 1 else n.fdiv d

def nearS0 (n d : Int) : Int := min (53 - (Builtin.Int.intBits (n.natAbs : Int) : Int) + (Builtin.Int.intBits d : Int)) 1074
def nearS (n d : Int) : Int := if d * 2 ^ (max (-nearS0 n d) 0 + 53).toNat ≤ (n.natAbs : Int) * 2 ^ (max (nearS0 n d) 0).toNat then nearS0 n d - 1 else nearS0 n d
def nearW (n d : Int) : Int := rndI (n * 2 ^ (max (nearS n d) 0).toNat) (d * 2 ^ (max (-nearS n d) 0).toNat)
def nearN (n d : Int) : Int := nearW n d * 2 ^ (max (-nearS n d) 0).toNat
def nearD (n d : Int) : Int := 1 * 2 ^ (max (nearS n d) 0).toNat

def dblN (n d : Int) : Int := if n = 0 ∨ d = 0 then n else nearN n d
def dblD (n d : Int) : Int := if n = 0 ∨ d = 0 then d else nearD n d
theorem rnd_near (n d : Int) (h : 0 < d) : 2 * n - d ≤ 2 * (d * rndI n d) ∧ 2 * (d * rndI n d) ≤ 2 * n + d := by
  have h1 := Int.mul_fdiv_add_fmod n d
  have h2 := Int.fmod_nonneg_of_pos n h
  have h3 := Int.fmod_lt_of_pos n h
  unfold rndI
  split
  · rename_i hc
    rw [Int.mul_add]
    rcases hc with hc | ⟨hc, _⟩ <;> constructor <;> omega
  · rename_i hc
    have : ¬ (2 * n.fmod d > d) := fun x => hc (.inl x)
    constructor <;> omega
theorem two_pow_pos (k : Nat) : (0 : Int) < 2 ^ k := Int.pow_pos (by decide)
theorem pow_le_pow2 {a b : Nat} (h : a ≤ b) : (2 : Int) ^ a ≤ 2 ^ b := by
  exact_mod_cast Nat.pow_le_pow_right (by decide) h
theorem lt_intBits (x : Int) : x.natAbs < 2 ^ (Builtin.Int.intBits x) := by
  unfold Builtin.Int.intBits
  split
  · rename_i h; have : x = 0 := by simpa using h
    subst this; decide
  · exact Nat.lt_log2_self
theorem intBits_le {x : Int} (h : x ≠ 0) : 2 ^ (Builtin.Int.intBits x - 1) ≤ x.natAbs := by
  unfold Builtin.Int.intBits
  split
  · rename_i h'; exact absurd (by simpa using h') h
  · rw [Nat.add_sub_cancel]; exact Nat.log2_self_le (by omega)
theorem intBits_pos {x : Int} (h : x ≠ 0) : 1 ≤ Builtin.Int.intBits x := by
  unfold Builtin.Int.intBits
  split
  · rename_i h'; exact absurd (by simpa using h') h
  · omega
theorem near_top (n d : Int) (h : 0 < d) : (n.natAbs : Int) * 2 ^ (max (nearS n d) 0).toNat < d * 2 ^ (max (-nearS n d) 0).toNat * 2 ^ 53 := by
  have hn := lt_intBits (n.natAbs : Int)
  have hd := intBits_le (x := d) (by omega)
  have hp := intBits_pos (x := d) (by omega)
  rw [Int.natAbs_natCast] at hn
  unfold nearS
  split
  · rename_i hc
    generalize hS : nearS0 n d = S at *
    unfold nearS0 at hS
    generalize Builtin.Int.intBits (n.natAbs : Int) = bn at *
    generalize Builtin.Int.intBits d = bd at *
    have hn' : (n.natAbs : Int) < 2 ^ bn := by exact_mod_cast hn
    have hd' : (2 : Int) ^ (bd - 1) ≤ d := by
      have : ((2 ^ (bd - 1) : Nat) : Int) ≤ (d.natAbs : Int) := by exact_mod_cast hd
      rw [Int.natAbs_of_nonneg (by omega)] at this
      exact_mod_cast this
    have hm : S = 53 - (bn : Int) + bd ∨ (S = 1074 ∧ 1074 ≤ 53 - (bn : Int) + bd) := by omega
    by_cases h1 : 1 ≤ S
    · -- x 2^S < 2^54
      have e1 : (max (S - 1) 0).toNat = (S - 1).toNat := by omega
      have e2 : (max (-(S - 1)) 0).toNat = 0 := by omega
      rw [e1, e2, Int.pow_zero, Int.mul_one]
      have h2 : (n.natAbs : Int) * 2 ^ (S - 1).toNat < 2 ^ bn * 2 ^ (S - 1).toNat := Int.mul_lt_mul_of_pos_right hn' (two_pow_pos _)
      rw [← Int.pow_add] at h2
      have h3 : (2 : Int) ^ (bn + (S - 1).toNat) ≤ 2 ^ ((bd - 1) + 53) := pow_le_pow2 (by omega)
      rw [Int.pow_add _ (bd - 1)] at h3
      have h4 : (2 : Int) ^ (bd - 1) * 2 ^ 53 ≤ d * 2 ^ 53 := Int.mul_le_mul_of_nonneg_right hd' (by decide)
      omega
    · have e1 : (max (S - 1) 0).toNat = 0 := by omega
      have e2 : (max (-(S - 1)) 0).toNat = (1 - S).toNat := by omega
      rw [e1, e2, Int.pow_zero, Int.mul_one, Int.mul_assoc, ← Int.pow_add]
      have h2 : (2 : Int) ^ (bd - 1) * 2 ^ ((1 - S).toNat + 53) ≤ d * 2 ^ ((1 - S).toNat + 53) := Int.mul_le_mul_of_nonneg_right hd' (Int.le_of_lt (two_pow_pos _))
      rw [← Int.pow_add] at h2
      have h3 : (2 : Int) ^ bn ≤ 2 ^ (bd - 1 + ((1 - S).toNat + 53)) := pow_le_pow2 (by omega)
      omega
  · rename_i hc
    have e : (max (-nearS0 n d) 0 + 53).toNat = (max (-nearS0 n d) 0).toNat + 53 := by omega
    rw [e, Int.pow_add, ← Int.mul_assoc] at hc
    omega

theorem near_fits {n d : Int} (h : 0 < d) (h1 : Sm 1000 n) (S : Int) (hS : nearS n d = S) :
    ¬ (1 * 2 ^ (1024 : Int).toNat ≤ ((rndI (n * 2 ^ (max S 0).toNat) (d * 2 ^ (max (-S) 0).toNat)).natAbs : Int) * 2 ^ (max (-S) 0).toNat) := by
  subst hS
  have ht := near_top n d h
  have hS : -950 ≤ nearS n d := by
    have b1 := h1.natAbs.intBits
    have hp := intBits_pos (x := d) (by omega)
    unfold nearS
    split <;> (unfold nearS0; omega)
  generalize nearS n d = S at *
  have hb : 0 < d * 2 ^ (max (-S) 0).toNat := Int.mul_pos h (two_pow_pos _)
  generalize d * 2 ^ (max (-S) 0).toNat = B at *
  have hr := rnd_near (n * 2 ^ (max S 0).toNat) B hb
  have e1 : (n * 2 ^ (max S 0).toNat).natAbs = n.natAbs * 2 ^ (max S 0).toNat := by rw [Int.natAbs_mul, Int.natAbs_pow]; rfl
  have ht' : ((n * 2 ^ (max S 0).toNat).natAbs : Int) < B * 2 ^ 53 := by rw [e1]; exact_mod_cast ht
  generalize n * 2 ^ (max S 0).toNat = A at *
  have hR : (rndI A B).natAbs ≤ 2 ^ 54 := by
    have h3 : -(B * 2 ^ 54) ≤ B * rndI A B := by omega
    have h4 : B * rndI A B ≤ B * 2 ^ 54 := by omega
    have h5 : rndI A B ≤ 2 ^ 54 := Int.le_of_mul_le_mul_left h4 hb
    have h6 : -(2 ^ 54) ≤ rndI A B := by
      rw [← Int.mul_neg] at h3
      exact Int.le_of_mul_le_mul_left h3 hb
    omega
  generalize rndI A B = R at *
  intro hc
  have h7 : (R.natAbs : Int) * 2 ^ (max (-S) 0).toNat ≤ 2 ^ 54 * 2 ^ 950 := by
    refine Int.le_trans (Int.mul_le_mul_of_nonneg_right (c := 2 ^ (max (-S) 0).toNat) (b := 2 ^ 54) (by exact_mod_cast hR) (Int.le_of_lt (two_pow_pos _))) ?_
    exact Int.mul_le_mul_of_nonneg_left (pow_le_pow2 (by omega)) (by decide)
  have h8 : (2 : Int) ^ 54 * 2 ^ 950 < 1 * 2 ^ (1024 : Int).toNat := by decide +kernel
  omega
theorem Sm.rnd {k : Nat} {n d : Int} (h : Sm k n) (h0 : 0 < d) : Sm (k + 2) (rndI n d) := by
  have hf := Sm.fdiv h h0
  unfold rndI
  split
  · exact (hf.add (b := 1) (y := 1) (by unfold Sm; decide)).mono (by omega)
  · exact hf.mono (by omega)
theorem nearS_le (n d : Int) : nearS n d ≤ 53 - (Builtin.Int.intBits (n.natAbs : Int) : Int) + (Builtin.Int.intBits d : Int) := by
  unfold nearS
  split <;> (unfold nearS0; omega)
theorem nearS_ge (n d : Int) : min (53 - (Builtin.Int.intBits (n.natAbs : Int) : Int) + (Builtin.Int.intBits d : Int)) 1074 - 1 ≤ nearS n d := by
  unfold nearS
  split <;> (unfold nearS0; omega)
theorem nearW_le (n d : Int) (h : 0 < d) : (nearW n d).natAbs ≤ 2 ^ 54 := by
  have ht := near_top n d h
  unfold nearW
  generalize nearS n d = S at *
  have hb : 0 < d * 2 ^ (max (-S) 0).toNat := Int.mul_pos h (two_pow_pos _)
  generalize d * 2 ^ (max (-S) 0).toNat = B at *
  have hr := rnd_near (n * 2 ^ (max S 0).toNat) B hb
  have e1 : (n * 2 ^ (max S 0).toNat).natAbs = n.natAbs * 2 ^ (max S 0).toNat := by rw [Int.natAbs_mul, Int.natAbs_pow]; rfl
  have ht' : ((n * 2 ^ (max S 0).toNat).natAbs : Int) < B * 2 ^ 53 := by rw [e1]; exact_mod_cast ht
  generalize n * 2 ^ (max S 0).toNat = A at *
  have h3 : -(B * 2 ^ 54) ≤ B * rndI A B := by omega
  have h4 : B * rndI A B ≤ B * 2 ^ 54 := by omega
  have h5 : rndI A B ≤ 2 ^ 54 := Int.le_of_mul_le_mul_left h4 hb
  have h6 : -(2 ^ 54) ≤ rndI A B := by
    rw [← Int.mul_neg] at h3
    exact Int.le_of_mul_le_mul_left h3 hb
  omega
theorem Sm.nearN {k : Nat} {n d : Int} (h1 : Sm k n) (h : 0 < d) (hk : k ≤ 1100) : Sm (max k 54 + 2) (nearN n d) := by
  have hw := nearW_le n d h
  have b1 := h1.natAbs.intBits
  have hp := intBits_pos (x := d) (by omega)
  have hs := nearS_ge n d
  unfold EzMine.nearN
  generalize nearW n d = W at *
  generalize nearS n d = S at *
  unfold Sm
  rw [Int.natAbs_mul, Int.natAbs_pow]
  show W.natAbs * 2 ^ _ < _
  have h2 : W.natAbs * 2 ^ (max (-S) 0).toNat ≤ 2 ^ 54 * 2 ^ (max (-S) 0).toNat := Nat.mul_le_mul_right _ hw
  rw [← Nat.pow_add] at h2
  have h3 : 2 ^ (54 + (max (-S) 0).toNat) < 2 ^ (max k 54 + 2) := Nat.pow_lt_pow_right (by decide) (by omega)
  omega
theorem Sm.nearD {j : Nat} {n d : Int} (h1 : Sm j d) : Sm (j + 54) (nearD n d) := by
  have b1 := h1.intBits
  have hs := nearS_le n d
  unfold EzMine.nearD
  generalize nearS n d = S at *
  unfold Sm
  rw [Int.one_mul, Int.natAbs_pow]
  exact Nat.pow_lt_pow_right (by decide) (by omega)
theorem Sm.dblN {k : Nat} {n d : Int} (h1 : Sm k n) (h : 0 < d) (hk : k ≤ 1100 := by decide) : Sm (max k 54 + 2) (dblN n d) := by
  unfold EzMine.dblN
  split
  · exact h1.mono (by omega)
  · exact h1.nearN h hk
theorem Sm.dblD {j : Nat} {n d : Int} (h1 : Sm j d) : Sm (j + 54) (dblD n d) := by
  unfold EzMine.dblD
  split
  · exact h1.mono (by omega)
  · exact h1.nearD
theorem nearD_pos (n d : Int) : 0 < nearD n d := by unfold nearD; rw [Int.one_mul]; exact two_pow_pos _
theorem dblD_pos {n d : Int} (h : 0 < d) : 0 < dblD n d := by
  unfold dblD
  split
  · exact h
  · exact nearD_pos n d
theorem pos_ne {x : Int} (h : 0 < x) : x ≠ 0 := by omega
local macro_rules | `(tactic| walk_at "ez_sm0") => `(tactic| ((with_reducible refine' Sm.rnd ?p9 ?q9); (case p9 => (walk_at "ez_sm0")); (case q9 => (walk_at "ez_pos"))))
local macro_rules | `(tactic| walk_at "ez_sm0") => `(tactic| ((with_reducible refine' Sm.dblN ?p9 ?q9 ?r9); (case p9 => (walk_at "ez_sm0")); (case q9 => (walk_at "ez_pos")); (case r9 => decide)))
local macro_rules | `(tactic| walk_at "ez_sm0") => `(tactic| ((with_reducible refine' Sm.dblD ?p9); (case p9 => (walk_at "ez_sm0"))))
local macro_rules | `(tactic| walk_at "ez_pos") => `(tactic| ((with_reducible refine dblD_pos ?_); (walk_at "ez_pos")))

theorem back_af : True := by
  w_top off
  first | walk1 | trivial
set_option maxRecDepth 100000 in
set_option maxHeartbeats 8000000 in
theorem c_rounded (news) (n d : Int) (t1 t2) (h0 : 0 < d) (_h1 : Sm 4000 n) (h2 : Sm 4000 d) : EzC 2 news (call (.ref 21) [.int n t1, .int d t2]) (isInt (rndI n d)) := by
  unfold EzC
  intros
  rename_i hret
  refine wpAny_call ?_
  k_dflt cell_enter
  k_steps
  all_goals (refine' hret _ [] _ _ (isInt.mk ?e9) ?O9 ?F9 ?N9; (case F9 => k_asm); (case N9 => (walk_at "ez_news")); (case O9 => (walk_at "ez_ord")); (case e9 => (unfold rndI; split <;> (first | rfl | (exfalso; omega)))))

local macro_rules | `(tactic| walk_at "call ref") => `(tactic| (k_here; (with_reducible show wpAny _ _ (call (Value.ref 21) [Value.int _ _, Value.int _ _]) _ _ _); k_dflt (refine' EzC.useInt (c_rounded _ _ _ _ _ ?h0 ?h1 ?h2) ?B9 ?F9 ?X9 ?N9 ?T9 ?k9 ?d9 ?u9 ?_; (case B9 => k_asm); (case F9 => k_asm); (case X9 => k_asm); (case N9 => k_asm); (case T9 => k_asm); (case k9 => first | exact rfl | assumption); (case d9 => (walk_at "ez_room")); (case u9 => (walk_at "ez_room")); (case h0 => (walk_at "ez_pos")); (case h1 => (walk_at "ez_small")); (case h2 => (walk_at "ez_small"))); intro t9 h' tk' F' N'; (walk_at "ez_tidy")))
local macro_rules | `(tactic| walk_at "ez_nearS") => `(tactic| k_dflt (first | exact if_pos (by assumption) | exact if_neg (by assumption) | fail "nearS"))
section
local macro_rules | `(tactic| walk_at "ez_no") => `(tactic| ((with_reducible refine near_fits ?h0 ?h1 _ ?h2); (case h0 => assumption); (case h1 => assumption); (case h2 => (walk_at "ez_nearS"))))
set_option maxRecDepth 100000 in
set_option maxHeartbeats 8000000 in
theorem c_nearest (news) (n d : Int) (t1 t2) (h0 : 0 < d) (h1 : Sm 1000 n) (h2 : Sm 1000 d) : EzC 4 news (call (.ref 28) [.int n t1, .int d t2]) (isTup2 (nearN n d) (nearD n d)) := by
  have b1 := h1.natAbs.intBits
  have b2 := h2.intBits
  unfold EzC
  intros
  rename_i hret
  refine wpAny_call ?_
  k_dflt cell_enter
  k_steps
  all_goals first | (have hS : nearS n d = nearS0 n d - 1 := if_pos (by assumption)) | (have hS : nearS n d = nearS0 n d := if_neg (by assumption)) | fail "no"
  all_goals (refine' hret _ [_] _ _ (isTup2.mk ?e9 ?f9) ?O9 ?F9 ?N9; (case F9 => k_asm); (case N9 => (walk_at "ez_news")); (case O9 => (walk_at "ez_ord")); (case e9 => (unfold nearN nearW; rw [hS]; rfl)); (case f9 => (unfold nearD; rw [hS]; rfl)))
end
theorem back_ag : True := by
  w_top off
  first | walk1 | trivial
local macro_rules | `(tactic| walk_at "call ref") => `(tactic| (k_here; (with_reducible show wpAny _ _ (call (Value.ref 28) [Value.int _ _, Value.int _ _]) _ _ _); k_dflt (refine' EzC.useTup2 (c_nearest _ _ _ _ _ ?h0 ?h1 ?h2) ?B9 ?F9 ?X9 ?N9 ?T9 ?k9 ?d9 ?u9 ?_; (case B9 => k_asm); (case F9 => k_asm); (case X9 => k_asm); (case N9 => k_asm); (case T9 => k_asm); (case k9 => first | exact rfl | assumption); (case d9 => (walk_at "ez_room")); (case u9 => (walk_at "ez_room")); (case h0 => (walk_at "ez_pos")); (case h1 => (walk_at "ez_small")); (case h2 => (walk_at "ez_small"))); intro d9 t9 u9 h' tk' l1 F' N'; (try simp only [AllLt, and_true] at l1); (walk_at "ez_tidy")))

theorem back_ah : True := by
  w_top off
  first | walk1 | trivial
set_option maxRecDepth 100000 in
set_option maxHeartbeats 8000000 in
theorem c_Double (news) (n d : Int) (t1 t2) (h0 : 0 < d) (h1 : Sm 1000 n) (h2 : Sm 1000 d) : EzC 6 news (call (.ref 109) [.int n t1, .int d t2]) (isDbl (dblN n d) (dblD n d)) := by
  unfold EzC
  intro prog w p loose mean mg mb dp un gd cn cs a ccd cl outer A₀ base h₀ L m s Q E B F X N T hk hd hu hret
  obtain ⟨ck, c1, c2, c3, c4⟩ := cs
  dsimp only at hk
  subst hk
  k_steps
  all_goals (refine' hret _ [_, _] _ _ (isDbl.mk ?e9 ?f9) ?O9 ?F9 ?N9; (case F9 => k_asm); (case N9 => (walk_at "ez_news")); (case O9 => (walk_at "ez_ord")); (case e9 => (simp [dblN, *])); (case f9 => (simp [dblD, *])))
set_option maxRecDepth 100000 in
set_option maxHeartbeats 8000000 in
theorem c_Double1 (news) (n : Int) (t1) (h1 : Sm 1000 n) : EzC 6 news (call (.ref 109) [.int n t1]) (isDbl (dblN n 1) (dblD n 1)) := by
  unfold EzC
  intro prog w p loose mean mg mb dp un gd cn cs a ccd cl outer A₀ base h₀ L m s Q E B F X N T hk hd hu hret
  obtain ⟨ck, c1, c2, c3, c4⟩ := cs
  dsimp only at hk
  subst hk
  k_steps
  all_goals (refine' hret _ [_, _] _ _ (isDbl.mk ?e9 ?f9) ?O9 ?F9 ?N9; (case F9 => k_asm); (case N9 => (walk_at "ez_news")); (case O9 => (walk_at "ez_ord")); (case e9 => (simp [dblN, *])); (case f9 => (simp [dblD, *])))
local macro_rules | `(tactic| walk_at "call ref") => `(tactic| (k_here; (with_reducible show wpAny _ _ (call (Value.ref 109) [Value.int _ _, Value.int _ _]) _ _ _); k_dflt (refine' EzC.useDbl (c_Double _ _ _ _ _ ?h0 ?h1 ?h2) ?B9 ?F9 ?X9 ?N9 ?T9 ?k9 ?d9 ?u9 ?_; (case B9 => k_asm); (case F9 => k_asm); (case X9 => k_asm); (case N9 => k_asm); (case T9 => k_asm); (case k9 => first | exact rfl | assumption); (case d9 => (walk_at "ez_room")); (case u9 => (walk_at "ez_room")); (case h0 => (walk_at "ez_pos")); (case h1 => (walk_at "ez_small")); (case h2 => (walk_at "ez_small"))); intro x9 d9 i9 j9 v9 w9 t9 u9 h' tk' l1 l2 F' N'; (try simp only [AllLt, and_true] at l1 l2); (walk_at "ez_tidy")))
local macro_rules | `(tactic| walk_at "call ref") => `(tactic| (k_here; (with_reducible show wpAny _ _ (call (Value.ref 109) [Value.int _ _]) _ _ _); k_dflt (refine' EzC.useDbl (c_Double1 _ _ _ ?h1) ?B9 ?F9 ?X9 ?N9 ?T9 ?k9 ?d9 ?u9 ?_; (case B9 => k_asm); (case F9 => k_asm); (case X9 => k_asm); (case N9 => k_asm); (case T9 => k_asm); (case k9 => first | exact rfl | assumption); (case d9 => (walk_at "ez_room")); (case u9 => (walk_at "ez_room")); (case h1 => (walk_at "ez_small"))); intro x9 d9 i9 j9 v9 w9 t9 u9 h' tk' l1 l2 F' N'; (try simp only [AllLt, and_true] at l1 l2); (walk_at "ez_tidy")))
local macro_rules | `(tactic| k_mem) => `(tactic| first | with_reducible assumption | ((with_reducible refine mem_of ?_); with_reducible assumption))

theorem back_ai : True := by
  w_top off
  first | walk1 | trivial
set_option maxRecDepth 100000 in
set_option maxHeartbeats 8000000 in
theorem c_parts_dbl (news) (n d : Int) (x dx h1 h2 k1 k2 t u) (m1 : (x, instObj 109 dx) ∈ news) (m2 : (dx, dictOf [⟨h1, .str (PySem.Str.ofString "n") k1, .int n t⟩, ⟨h2, .str (PySem.Str.ofString "d") k2, .int d u⟩] 2) ∈ news) :
    EzC 2 news (call (.ref 35) [.ref x]) (isTup2 n d) := by
  unfold EzC
  intro prog w p loose mean mg mb dp un gd cn cs a ccd cl outer A₀ base h₀ L m s Q E B F X N T hk hd hu hret
  obtain ⟨ck, c1, c2, c3, c4⟩ := cs
  dsimp only at hk
  subst hk
  k_steps
  all_goals (refine' hret _ [_] _ _ (isTup2.mk ?e9 ?f9) ?O9 ?F9 ?N9; (case F9 => k_asm); (case N9 => (walk_at "ez_news")); (case O9 => (walk_at "ez_ord")); (case e9 => rfl); (case f9 => rfl))
set_option maxRecDepth 100000 in
set_option maxHeartbeats 8000000 in
theorem c_parts_int (news) (n : Int) (t) : EzC 2 news (call (.ref 35) [.int n t]) (isTup2 n 1) := by
  unfold EzC
  intro prog w p loose mean mg mb dp un gd cn cs a ccd cl outer A₀ base h₀ L m s Q E B F X N T hk hd hu hret
  obtain ⟨ck, c1, c2, c3, c4⟩ := cs
  dsimp only at hk
  subst hk
  k_steps
  all_goals (refine' hret _ [_] _ _ (isTup2.mk ?e9 ?f9) ?O9 ?F9 ?N9; (case F9 => k_asm); (case N9 => (walk_at "ez_news")); (case O9 => (walk_at "ez_ord")); (case e9 => rfl); (case f9 => rfl))
local macro_rules | `(tactic| walk_at "call ref") => `(tactic| (k_here; (with_reducible show wpAny _ _ (call (Value.ref 35) [Value.ref _]) _ _ _); k_dflt (refine' EzC.useTup2 (c_parts_dbl _ _ _ _ _ _ _ _ _ _ _ ?m1 ?m2) ?B9 ?F9 ?X9 ?N9 ?T9 ?k9 ?d9 ?u9 ?_; (case B9 => k_asm); (case F9 => k_asm); (case X9 => k_asm); (case N9 => k_asm); (case T9 => k_asm); (case k9 => first | exact rfl | assumption); (case d9 => (walk_at "ez_room")); (case u9 => (walk_at "ez_room")); (case m1 => k_mem); (case m2 => k_mem)); intro d9 t9 u9 h' tk' l1 F' N'; (try simp only [AllLt, and_true] at l1); (walk_at "ez_tidy")))
local macro_rules | `(tactic| walk_at "call ref") => `(tactic| (k_here; (with_reducible show wpAny _ _ (call (Value.ref 35) [Value.int _ _]) _ _ _); k_dflt (refine' EzC.useTup2 (c_parts_int _ _ _) ?B9 ?F9 ?X9 ?N9 ?T9 ?k9 ?d9 ?u9 ?_; (case B9 => k_asm); (case F9 => k_asm); (case X9 => k_asm); (case N9 => k_asm); (case T9 => k_asm); (case k9 => first | exact rfl | assumption); (case d9 => (walk_at "ez_room")); (case u9 => (walk_at "ez_room"))); intro d9 t9 u9 h' tk' l1 F' N'; (try simp only [AllLt, and_true] at l1); (walk_at "ez_tidy")))
set_option maxRecDepth 100000 in
set_option maxHeartbeats 8000000 in
theorem c_isfinite_dbl (news) (n d : Int) (x dx h1 h2 k1 k2 t u) (m1 : (x, instObj 109 dx) ∈ news) (m2 : (dx, dictOf [⟨h1, .str (PySem.Str.ofString "n") k1, .int n t⟩, ⟨h2, .str (PySem.Str.ofString "d") k2, .int d u⟩] 2) ∈ news) (h0 : d ≠ 0) :
    EzC 4 news (call (.ref 134) [.ref x]) (isBool true) := by
  unfold EzC
  intro prog w p loose mean mg mb dp un gd cn cs a ccd cl outer A₀ base h₀ L m s Q E B F X N T hk hd hu hret
  obtain ⟨ck, c1, c2, c3, c4⟩ := cs
  dsimp only at hk
  subst hk
  k_steps
  all_goals (refine' hret _ [] _ _ (isBool.mk ?e9) ?O9 ?F9 ?N9; (case F9 => k_asm); (case N9 => (walk_at "ez_news")); (case O9 => (walk_at "ez_ord")); (case e9 => first | rfl | (simp; done) | (simp [*]; done) | (simp; omega) | fail "bool"))
set_option maxRecDepth 100000 in
set_option maxHeartbeats 8000000 in
theorem c_size (news) (n d : Int) (x dx h1 h2 k1 k2 t u) (m1 : (x, instObj 109 dx) ∈ news) (m2 : (dx, dictOf [⟨h1, .str (PySem.Str.ofString "n") k1, .int n t⟩, ⟨h2, .str (PySem.Str.ofString "d") k2, .int d u⟩] 2) ∈ news) (h0 : 0 < d) (s1 : Sm 1000 n) (s2 : Sm 1000 d) :
    EzC 8 news (call (.ref 57) [.ref x]) (isDbl (dblN n.natAbs d) (dblD n.natAbs d)) := by
  unfold EzC
  intro prog w p loose mean mg mb dp un gd cn cs a ccd cl outer A₀ base h₀ L m s Q E B F X N T hk hd hu hret
  obtain ⟨ck, c1, c2, c3, c4⟩ := cs
  dsimp only at hk
  subst hk
  k_steps
  all_goals (refine' hret _ [_, _] _ _ (isDbl.mk ?e9 ?f9) ?O9 ?F9 ?N9; (case F9 => k_asm); (case N9 => (walk_at "ez_news")); (case O9 => (walk_at "ez_ord")); (case e9 => rfl); (case f9 => rfl))
set_option maxRecDepth 100000 in
set_option maxHeartbeats 8000000 in
theorem c_gt (news) (n d b : Int) (tb) (x dx h1 h2 k1 k2 t u) (m1 : (x, instObj 109 dx) ∈ news) (m2 : (dx, dictOf [⟨h1, .str (PySem.Str.ofString "n") k1, .int n t⟩, ⟨h2, .str (PySem.Str.ofString "d") k2, .int d u⟩] 2) ∈ news) (s1 : Sm 1000 n) (s2 : Sm 1000 d) (s3 : Sm 1000 b) :
    EzC 8 news (compareOp CmpOp.Gt (.ref x) (.int b tb)) (isBool (decide (n * 1 > b * d))) := by
  unfold EzC
  intro prog w p loose mean mg mb dp un gd cn cs a ccd cl outer A₀ base h₀ L m s Q E B F X N T hk hd hu hret
  obtain ⟨ck, c1, c2, c3, c4⟩ := cs
  dsimp only at hk
  subst hk
  k_steps
  all_goals (refine' hret _ [] _ _ (isBool.mk ?e9) ?O9 ?F9 ?N9; (case F9 => k_asm); (case N9 => (walk_at "ez_news")); (case O9 => (walk_at "ez_ord")); (case e9 => first | rfl | (simp; done) | (simp [*]; done) | (simp; omega) | fail "bool"))
local macro_rules | `(tactic| walk_at "compareOp Gt ref") => `(tactic| (k_here; (with_reducible show wpAny _ _ (compareOp CmpOp.Gt (Value.ref _) (Value.int _ _)) _ _ _); k_dflt (refine' EzC.useBool (c_gt _ _ _ _ _ _ _ _ _ _ _ _ _ ?m1 ?m2 ?s1 ?s2 ?s3) ?B9 ?F9 ?X9 ?N9 ?T9 ?k9 ?d9 ?u9 ?_; (case B9 => k_asm); (case F9 => k_asm); (case X9 => k_asm); (case N9 => k_asm); (case T9 => k_asm); (case k9 => first | exact rfl | assumption); (case d9 => (walk_at "ez_room")); (case u9 => (walk_at "ez_room")); (case m1 => k_mem); (case m2 => k_mem); (case s1 => (walk_at "ez_small")); (case s2 => (walk_at "ez_small")); (case s3 => (walk_at "ez_small"))); intro h' tk' F' N'; (walk_at "ez_tidy")))
set_option maxRecDepth 100000 in
set_option maxHeartbeats 8000000 in
theorem c_lt (news) (n d b : Int) (tb) (x dx h1 h2 k1 k2 t u) (m1 : (x, instObj 109 dx) ∈ news) (m2 : (dx, dictOf [⟨h1, .str (PySem.Str.ofString "n") k1, .int n t⟩, ⟨h2, .str (PySem.Str.ofString "d") k2, .int d u⟩] 2) ∈ news) (s1 : Sm 1000 n) (s2 : Sm 1000 d) (s3 : Sm 1000 b) :
    EzC 8 news (compareOp CmpOp.Lt (.ref x) (.int b tb)) (isBool (decide (n * 1 < b * d))) := by
  unfold EzC
  intro prog w p loose mean mg mb dp un gd cn cs a ccd cl outer A₀ base h₀ L m s Q E B F X N T hk hd hu hret
  obtain ⟨ck, c1, c2, c3, c4⟩ := cs
  dsimp only at hk
  subst hk
  k_steps
  all_goals (refine' hret _ [] _ _ (isBool.mk ?e9) ?O9 ?F9 ?N9; (case F9 => k_asm); (case N9 => (walk_at "ez_news")); (case O9 => (walk_at "ez_ord")); (case e9 => first | rfl | (simp; done) | (simp [*]; done) | (simp; omega) | fail "bool"))
local macro_rules | `(tactic| walk_at "compareOp Lt ref") => `(tactic| (k_here; (with_reducible show wpAny _ _ (compareOp CmpOp.Lt (Value.ref _) (Value.int _ _)) _ _ _); k_dflt (refine' EzC.useBool (c_lt _ _ _ _ _ _ _ _ _ _ _ _ _ ?m1 ?m2 ?s1 ?s2 ?s3) ?B9 ?F9 ?X9 ?N9 ?T9 ?k9 ?d9 ?u9 ?_; (case B9 => k_asm); (case F9 => k_asm); (case X9 => k_asm); (case N9 => k_asm); (case T9 => k_asm); (case k9 => first | exact rfl | assumption); (case d9 => (walk_at "ez_room")); (case u9 => (walk_at "ez_room")); (case m1 => k_mem); (case m2 => k_mem); (case s1 => (walk_at "ez_small")); (case s2 => (walk_at "ez_small")); (case s3 => (walk_at "ez_small"))); intro h' tk' F' N'; (walk_at "ez_tidy")))
set_option maxRecDepth 100000 in
set_option maxHeartbeats 8000000 in
theorem c_ge (news) (n d b : Int) (tb) (x dx h1 h2 k1 k2 t u) (m1 : (x, instObj 109 dx) ∈ news) (m2 : (dx, dictOf [⟨h1, .str (PySem.Str.ofString "n") k1, .int n t⟩, ⟨h2, .str (PySem.Str.ofString "d") k2, .int d u⟩] 2) ∈ news) (s1 : Sm 1000 n) (s2 : Sm 1000 d) (s3 : Sm 1000 b) :
    EzC 8 news (compareOp CmpOp.GtE (.ref x) (.int b tb)) (isBool (decide (n * 1 ≥ b * d))) := by
  unfold EzC
  intro prog w p loose mean mg mb dp un gd cn cs a ccd cl outer A₀ base h₀ L m s Q E B F X N T hk hd hu hret
  obtain ⟨ck, c1, c2, c3, c4⟩ := cs
  dsimp only at hk
  subst hk
  k_steps
  all_goals (refine' hret _ [] _ _ (isBool.mk ?e9) ?O9 ?F9 ?N9; (case F9 => k_asm); (case N9 => (walk_at "ez_news")); (case O9 => (walk_at "ez_ord")); (case e9 => first | rfl | (simp; done) | (simp [*]; done) | (simp; omega) | fail "bool"))
local macro_rules | `(tactic| walk_at "compareOp GtE ref") => `(tactic| (k_here; (with_reducible show wpAny _ _ (compareOp CmpOp.GtE (Value.ref _) (Value.int _ _)) _ _ _); k_dflt (refine' EzC.useBool (c_ge _ _ _ _ _ _ _ _ _ _ _ _ _ ?m1 ?m2 ?s1 ?s2 ?s3) ?B9 ?F9 ?X9 ?N9 ?T9 ?k9 ?d9 ?u9 ?_; (case B9 => k_asm); (case F9 => k_asm); (case X9 => k_asm); (case N9 => k_asm); (case T9 => k_asm); (case k9 => first | exact rfl | assumption); (case d9 => (walk_at "ez_room")); (case u9 => (walk_at "ez_room")); (case m1 => k_mem); (case m2 => k_mem); (case s1 => (walk_at "ez_small")); (case s2 => (walk_at "ez_small")); (case s3 => (walk_at "ez_small"))); intro h' tk' F' N'; (walk_at "ez_tidy")))
local macro_rules | `(tactic| walk_at "call ref") => `(tactic| (k_here; (with_reducible show wpAny _ _ (call (Value.ref 134) [Value.ref _]) _ _ _); k_dflt (refine' EzC.useBool (c_isfinite_dbl _ _ _ _ _ _ _ _ _ _ _ ?m1 ?m2 ?h0) ?B9 ?F9 ?X9 ?N9 ?T9 ?k9 ?d9 ?u9 ?_; (case B9 => k_asm); (case F9 => k_asm); (case X9 => k_asm); (case N9 => k_asm); (case T9 => k_asm); (case k9 => first | exact rfl | assumption); (case d9 => (walk_at "ez_room")); (case u9 => (walk_at "ez_room")); (case m1 => k_mem); (case m2 => k_mem); (case h0 => (refine pos_ne ?_; (walk_at "ez_pos")))); intro h' tk' F' N'; (walk_at "ez_tidy")))
local macro_rules | `(tactic| walk_at "call ref") => `(tactic| (k_here; (with_reducible show wpAny _ _ (call (Value.ref 57) [Value.ref _]) _ _ _); k_dflt (refine' EzC.useDbl (c_size _ _ _ _ _ _ _ _ _ _ _ ?m1 ?m2 ?h0 ?s1 ?s2) ?B9 ?F9 ?X9 ?N9 ?T9 ?k9 ?d9 ?u9 ?_; (case B9 => k_asm); (case F9 => k_asm); (case X9 => k_asm); (case N9 => k_asm); (case T9 => k_asm); (case k9 => first | exact rfl | assumption); (case d9 => (walk_at "ez_room")); (case u9 => (walk_at "ez_room")); (case m1 => k_mem); (case m2 => k_mem); (case h0 => (walk_at "ez_pos")); (case s1 => (walk_at "ez_small")); (case s2 => (walk_at "ez_small"))); intro x9 d9 i9 j9 v9 w9 t9 u9 h' tk' l1 l2 F' N'; (try simp only [AllLt, and_true] at l1 l2); (walk_at "ez_tidy")))
set_option maxRecDepth 100000 in
set_option maxHeartbeats 8000000 in
theorem c_isfinite_int (news) (n : Int) (t) : EzC 4 news (call (.ref 134) [.int n t]) (isBool true) := by
  unfold EzC
  intro prog w p loose mean mg mb dp un gd cn cs a ccd cl outer A₀ base h₀ L m s Q E B F X N T hk hd hu hret
  obtain ⟨ck, c1, c2, c3, c4⟩ := cs
  dsimp only at hk
  subst hk
  k_steps
  all_goals (refine' hret _ [] _ _ (isBool.mk ?e9) ?O9 ?F9 ?N9; (case F9 => k_asm); (case N9 => (walk_at "ez_news")); (case O9 => (walk_at "ez_ord")); (case e9 => first | rfl | (simp; done) | (simp [*]; done) | (simp; omega) | fail "bool"))
local macro_rules | `(tactic| walk_at "call ref") => `(tactic| (k_here; (with_reducible show wpAny _ _ (call (Value.ref 134) [Value.int _ _]) _ _ _); k_dflt (refine' EzC.useBool (c_isfinite_int _ _ _) ?B9 ?F9 ?X9 ?N9 ?T9 ?k9 ?d9 ?u9 ?_; (case B9 => k_asm); (case F9 => k_asm); (case X9 => k_asm); (case N9 => k_asm); (case T9 => k_asm); (case k9 => first | exact rfl | assumption); (case d9 => (walk_at "ez_room")); (case u9 => (walk_at "ez_room"))); intro h' tk' F' N'; (walk_at "ez_tidy")))
set_option maxRecDepth 100000 in
set_option maxHeartbeats 8000000 in
theorem c_double_int (news) (n : Int) (t) (s1 : Sm 1000 n) : EzC 8 news (call (.ref 127) [.int n t]) (isDbl (dblN n 1) (dblD n 1)) := by
  unfold EzC
  intro prog w p loose mean mg mb dp un gd cn cs a ccd cl outer A₀ base h₀ L m s Q E B F X N T hk hd hu hret
  obtain ⟨ck, c1, c2, c3, c4⟩ := cs
  dsimp only at hk
  subst hk
  k_steps
  all_goals (refine' hret _ [_, _] _ _ (isDbl.mk ?e9 ?f9) ?O9 ?F9 ?N9; (case F9 => k_asm); (case N9 => (walk_at "ez_news")); (case O9 => (walk_at "ez_ord")); (case e9 => rfl); (case f9 => rfl))
local macro_rules | `(tactic| walk_at "call ref") => `(tactic| (k_here; (with_reducible show wpAny _ _ (call (Value.ref 127) [Value.int _ _]) _ _ _); k_dflt (refine' EzC.useDbl (c_double_int _ _ _ ?s1) ?B9 ?F9 ?X9 ?N9 ?T9 ?k9 ?d9 ?u9 ?_; (case B9 => k_asm); (case F9 => k_asm); (case X9 => k_asm); (case N9 => k_asm); (case T9 => k_asm); (case k9 => first | exact rfl | assumption); (case d9 => (walk_at "ez_room")); (case u9 => (walk_at "ez_room")); (case s1 => (walk_at "ez_small"))); intro x9 d9 i9 j9 v9 w9 t9 u9 h' tk' l1 l2 F' N'; (try simp only [AllLt, and_true] at l1 l2); (walk_at "ez_tidy")))
set_option maxRecDepth 100000 in
set_option maxHeartbeats 8000000 in
theorem c_double_dbl (news) (n d : Int) (x dx h1 h2 k1 k2 t u) (m1 : (x, instObj 109 dx) ∈ news) (m2 : (dx, dictOf [⟨h1, .str (PySem.Str.ofString "n") k1, .int n t⟩, ⟨h2, .str (PySem.Str.ofString "d") k2, .int d u⟩] 2) ∈ news) : EzC 2 news (call (.ref 127) [.ref x]) (isRef x) := by
  unfold EzC
  intro prog w p loose mean mg mb dp un gd cn cs a ccd cl outer A₀ base h₀ L m s Q E B F X N T hk hd hu hret
  obtain ⟨ck, c1, c2, c3, c4⟩ := cs
  dsimp only at hk
  subst hk
  k_steps
  all_goals (refine' hret _ [] _ _ ⟨rfl, rfl⟩ ?O9 ?F9 ?N9; (case F9 => k_asm); (case N9 => (walk_at "ez_news")); (case O9 => (walk_at "ez_ord")))
local macro_rules | `(tactic| walk_at "call ref") => `(tactic| (k_here; (with_reducible show wpAny _ _ (call (Value.ref 127) [Value.ref _]) _ _ _); k_dflt (refine' EzC.useRef (c_double_dbl _ _ _ _ _ _ _ _ _ _ _ ?m1 ?m2) ?B9 ?F9 ?X9 ?N9 ?T9 ?k9 ?d9 ?u9 ?_; (case B9 => k_asm); (case F9 => k_asm); (case X9 => k_asm); (case N9 => k_asm); (case T9 => k_asm); (case k9 => first | exact rfl | assumption); (case d9 => (walk_at "ez_room")); (case u9 => (walk_at "ez_room")); (case m1 => k_mem); (case m2 => k_mem)); intro h' tk' F' N'; (walk_at "ez_tidy")))

theorem back_aj : True := by
  w_top off
  first | walk1 | trivial
set_option maxRecDepth 100000 in
set_option maxHeartbeats 8000000 in
theorem c_div_int (news) (n d b : Int) (tb) (x dx h1 h2 k1 k2 t u) (m1 : (x, instObj 109 dx) ∈ news) (m2 : (dx, dictOf [⟨h1, .str (PySem.Str.ofString "n") k1, .int n t⟩, ⟨h2, .str (PySem.Str.ofString "d") k2, .int d u⟩] 2) ∈ news) (h0 : 0 < d) (b0 : 0 < b) (bn : dblN b 1 > 0) (s1 : Sm 300 n) (s2 : Sm 300 d) (s3 : Sm 300 b) :
    EzC 9 news (binaryOp Operator.Div (.ref x) (.int b tb)) (isDbl (dblN (n * dblD b 1) (d * dblN b 1)) (dblD (n * dblD b 1) (d * dblN b 1))) := by
  unfold EzC
  intro prog w p loose mean mg mb dp un gd cn cs a ccd cl outer A₀ base h₀ L m s Q E B F X N T hk hd hu hret
  obtain ⟨ck, c1, c2, c3, c4⟩ := cs
  dsimp only at hk
  subst hk
  k_steps
  all_goals (refine' hret _ [_, _] _ _ (isDbl.mk ?e9 ?f9) ?O9 ?F9 ?N9; (case F9 => k_asm); (case N9 => (walk_at "ez_news")); (case O9 => (walk_at "ez_ord")); (case e9 => rfl); (case f9 => rfl))
set_option maxRecDepth 100000 in
set_option maxHeartbeats 8000000 in
theorem c_div_dbl (news) (n d n2 d2 : Int) (x dx h1 h2 k1 k2 t u) (m1 : (x, instObj 109 dx) ∈ news) (m2 : (dx, dictOf [⟨h1, .str (PySem.Str.ofString "n") k1, .int n t⟩, ⟨h2, .str (PySem.Str.ofString "d") k2, .int d u⟩] 2) ∈ news) (y dy i1 i2 j1 j2 v z) (g1 : (y, instObj 109 dy) ∈ news) (g2 : (dy, dictOf [⟨i1, .str (PySem.Str.ofString "n") j1, .int n2 v⟩, ⟨i2, .str (PySem.Str.ofString "d") j2, .int d2 z⟩] 2) ∈ news) (h0 : 0 < d) (h0' : 0 < d2) (b0 : 0 < n2) (s1 : Sm 300 n) (s2 : Sm 300 d) (s3 : Sm 300 n2) (s4 : Sm 300 d2) :
    EzC 9 news (binaryOp Operator.Div (.ref x) (.ref y)) (isDbl (dblN (n * d2) (d * n2)) (dblD (n * d2) (d * n2))) := by
  unfold EzC
  intro prog w p loose mean mg mb dp un gd cn cs a ccd cl outer A₀ base h₀ L m s Q E B F X N T hk hd hu hret
  obtain ⟨ck, c1, c2, c3, c4⟩ := cs
  dsimp only at hk
  subst hk
  k_steps
  all_goals (refine' hret _ [_, _] _ _ (isDbl.mk ?e9 ?f9) ?O9 ?F9 ?N9; (case F9 => k_asm); (case N9 => (walk_at "ez_news")); (case O9 => (walk_at "ez_ord")); (case e9 => rfl); (case f9 => rfl))
set_option maxRecDepth 100000 in
set_option maxHeartbeats 8000000 in
theorem c_idiv_int (news) (n d b : Int) (tb) (x dx h1 h2 k1 k2 t u) (m1 : (x, instObj 109 dx) ∈ news) (m2 : (dx, dictOf [⟨h1, .str (PySem.Str.ofString "n") k1, .int n t⟩, ⟨h2, .str (PySem.Str.ofString "d") k2, .int d u⟩] 2) ∈ news) (h0 : 0 < d) (b0 : 0 < b) (bn : dblN b 1 > 0) (s1 : Sm 300 n) (s2 : Sm 300 d) (s3 : Sm 300 b) :
    EzC 9 news (inplaceOp Operator.Div (.ref x) (.int b tb)) (isDbl (dblN (n * dblD b 1) (d * dblN b 1)) (dblD (n * dblD b 1) (d * dblN b 1))) := by
  unfold EzC
  intro prog w p loose mean mg mb dp un gd cn cs a ccd cl outer A₀ base h₀ L m s Q E B F X N T hk hd hu hret
  obtain ⟨ck, c1, c2, c3, c4⟩ := cs
  dsimp only at hk
  subst hk
  k_steps
  all_goals (refine' hret _ [_, _] _ _ (isDbl.mk ?e9 ?f9) ?O9 ?F9 ?N9; (case F9 => k_asm); (case N9 => (walk_at "ez_news")); (case O9 => (walk_at "ez_ord")); (case e9 => rfl); (case f9 => rfl))
local macro_rules | `(tactic| walk_at "binaryOp Div ref") => `(tactic| (k_here; (with_reducible show wpAny _ _ (binaryOp Operator.Div (Value.ref _) (Value.int _ _)) _ _ _); k_dflt (refine' EzC.useDbl (c_div_int _ _ _ _ _ _ _ _ _ _ _ _ _ ?m1 ?m2 ?h0 ?b0 ?bn ?s1 ?s2 ?s3) ?B9 ?F9 ?X9 ?N9 ?T9 ?k9 ?d9 ?u9 ?_; (case B9 => k_asm); (case F9 => k_asm); (case X9 => k_asm); (case N9 => k_asm); (case T9 => k_asm); (case k9 => first | exact rfl | assumption); (case d9 => (walk_at "ez_room")); (case u9 => (walk_at "ez_room")); (case m1 => k_mem); (case m2 => k_mem); (case h0 => (walk_at "ez_pos")); (case b0 => (walk_at "ez_pos")); (case bn => (walk_at "ez_pos")); (case s1 => (walk_at "ez_small")); (case s2 => (walk_at "ez_small")); (case s3 => (walk_at "ez_small"))); intro x9 d9 i9 j9 v9 w9 t9 u9 h' tk' l1 l2 F' N'; (try simp only [AllLt, and_true] at l1 l2); (walk_at "ez_tidy")))
local macro_rules | `(tactic| walk_at "inplaceOp Div ref") => `(tactic| (k_here; (with_reducible show wpAny _ _ (inplaceOp Operator.Div (Value.ref _) (Value.int _ _)) _ _ _); k_dflt (refine' EzC.useDbl (c_idiv_int _ _ _ _ _ _ _ _ _ _ _ _ _ ?m1 ?m2 ?h0 ?b0 ?bn ?s1 ?s2 ?s3) ?B9 ?F9 ?X9 ?N9 ?T9 ?k9 ?d9 ?u9 ?_; (case B9 => k_asm); (case F9 => k_asm); (case X9 => k_asm); (case N9 => k_asm); (case T9 => k_asm); (case k9 => first | exact rfl | assumption); (case d9 => (walk_at "ez_room")); (case u9 => (walk_at "ez_room")); (case m1 => k_mem); (case m2 => k_mem); (case h0 => (walk_at "ez_pos")); (case b0 => (walk_at "ez_pos")); (case bn => (walk_at "ez_pos")); (case s1 => (walk_at "ez_small")); (case s2 => (walk_at "ez_small")); (case s3 => (walk_at "ez_small"))); intro x9 d9 i9 j9 v9 w9 t9 u9 h' tk' l1 l2 F' N'; (try simp only [AllLt, and_true] at l1 l2); (walk_at "ez_tidy")))
local macro_rules | `(tactic| walk_at "binaryOp Div ref") => `(tactic| (k_here; (with_reducible show wpAny _ _ (binaryOp Operator.Div (Value.ref _) (Value.ref _)) _ _ _); k_dflt (refine' EzC.useDbl (c_div_dbl _ _ _ _ _ _ _ _ _ _ _ _ _ ?m1 ?m2 _ _ _ _ _ _ _ _ ?g1 ?g2 ?h0 ?h1 ?b0 ?s1 ?s2 ?s3 ?s4) ?B9 ?F9 ?X9 ?N9 ?T9 ?k9 ?d9 ?u9 ?_; (case B9 => k_asm); (case F9 => k_asm); (case X9 => k_asm); (case N9 => k_asm); (case T9 => k_asm); (case k9 => first | exact rfl | assumption); (case d9 => (walk_at "ez_room")); (case u9 => (walk_at "ez_room")); (case m1 => k_mem); (case m2 => k_mem); (case g1 => k_mem); (case g2 => k_mem); (case h0 => (walk_at "ez_pos")); (case h1 => (walk_at "ez_pos")); (case b0 => (walk_at "ez_pos")); (case s1 => (walk_at "ez_small")); (case s2 => (walk_at "ez_small")); (case s3 => (walk_at "ez_small")); (case s4 => (walk_at "ez_small"))); intro x9 d9 i9 j9 v9 w9 t9 u9 h' tk' l1 l2 F' N'; (try simp only [AllLt, and_true] at l1 l2); (walk_at "ez_tidy")))
set_option maxRecDepth 100000 in
set_option maxHeartbeats 8000000 in
theorem c_quot_ii (news) (n b : Int) (tn tb) (b0 : 0 < b) (s1 : Sm 300 n) (s3 : Sm 300 b) :
    EzC 11 news (call (.ref 120) [.int n tn, .int b tb]) (isDbl (dblN n b) (dblD n b)) := by
  unfold EzC
  intro prog w p loose mean mg mb dp un gd cn cs a ccd cl outer A₀ base h₀ L m s Q E B F X N T hk hd hu hret
  obtain ⟨ck, c1, c2, c3, c4⟩ := cs
  dsimp only at hk
  subst hk
  k_steps
  all_goals (refine' hret _ [_, _] _ _ (isDbl.mk ?e9 ?f9) ?O9 ?F9 ?N9; (case F9 => k_asm); (case N9 => (walk_at "ez_news")); (case O9 => (walk_at "ez_ord")); (case e9 => rfl); (case f9 => rfl))
set_option maxRecDepth 100000 in
set_option maxHeartbeats 8000000 in
theorem c_quot_di (news) (n d b : Int) (tb) (x dx h1 h2 k1 k2 t u) (m1 : (x, instObj 109 dx) ∈ news) (m2 : (dx, dictOf [⟨h1, .str (PySem.Str.ofString "n") k1, .int n t⟩, ⟨h2, .str (PySem.Str.ofString "d") k2, .int d u⟩] 2) ∈ news) (h0 : 0 < d) (b0 : 0 < b) (bn : dblN b 1 > 0) (s1 : Sm 300 n) (s2 : Sm 300 d) (s3 : Sm 300 b) :
    EzC 11 news (call (.ref 120) [.ref x, .int b tb]) (isDbl (dblN (n * dblD b 1) (d * dblN b 1)) (dblD (n * dblD b 1) (d * dblN b 1))) := by
  unfold EzC
  intro prog w p loose mean mg mb dp un gd cn cs a ccd cl outer A₀ base h₀ L m s Q E B F X N T hk hd hu hret
  obtain ⟨ck, c1, c2, c3, c4⟩ := cs
  dsimp only at hk
  subst hk
  k_steps
  all_goals (refine' hret _ [_, _] _ _ (isDbl.mk ?e9 ?f9) ?O9 ?F9 ?N9; (case F9 => k_asm); (case N9 => (walk_at "ez_news")); (case O9 => (walk_at "ez_ord")); (case e9 => rfl); (case f9 => rfl))
set_option maxRecDepth 100000 in
set_option maxHeartbeats 8000000 in
theorem c_quot_dd (news) (n d n2 d2 : Int) (x dx h1 h2 k1 k2 t u) (m1 : (x, instObj 109 dx) ∈ news) (m2 : (dx, dictOf [⟨h1, .str (PySem.Str.ofString "n") k1, .int n t⟩, ⟨h2, .str (PySem.Str.ofString "d") k2, .int d u⟩] 2) ∈ news) (y dy i1 i2 j1 j2 v z) (g1 : (y, instObj 109 dy) ∈ news) (g2 : (dy, dictOf [⟨i1, .str (PySem.Str.ofString "n") j1, .int n2 v⟩, ⟨i2, .str (PySem.Str.ofString "d") j2, .int d2 z⟩] 2) ∈ news) (h0 : 0 < d) (h0' : 0 < d2) (b0 : 0 < n2) (s1 : Sm 300 n) (s2 : Sm 300 d) (s3 : Sm 300 n2) (s4 : Sm 300 d2) :
    EzC 11 news (call (.ref 120) [.ref x, .ref y]) (isDbl (dblN (n * d2) (d * n2)) (dblD (n * d2) (d * n2))) := by
  unfold EzC
  intro prog w p loose mean mg mb dp un gd cn cs a ccd cl outer A₀ base h₀ L m s Q E B F X N T hk hd hu hret
  obtain ⟨ck, c1, c2, c3, c4⟩ := cs
  dsimp only at hk
  subst hk
  k_steps
  all_goals (refine' hret _ [_, _] _ _ (isDbl.mk ?e9 ?f9) ?O9 ?F9 ?N9; (case F9 => k_asm); (case N9 => (walk_at "ez_news")); (case O9 => (walk_at "ez_ord")); (case e9 => rfl); (case f9 => rfl))
local macro_rules | `(tactic| walk_at "call ref") => `(tactic| (k_here; (with_reducible show wpAny _ _ (call (Value.ref 120) [Value.int _ _, Value.int _ _]) _ _ _); k_dflt (refine' EzC.useDbl (c_quot_ii _ _ _ _ _ ?b0 ?s1 ?s3) ?B9 ?F9 ?X9 ?N9 ?T9 ?k9 ?d9 ?u9 ?_; (case B9 => k_asm); (case F9 => k_asm); (case X9 => k_asm); (case N9 => k_asm); (case T9 => k_asm); (case k9 => first | exact rfl | assumption); (case d9 => (walk_at "ez_room")); (case u9 => (walk_at "ez_room")); (case b0 => (walk_at "ez_pos")); (case s1 => (walk_at "ez_small")); (case s3 => (walk_at "ez_small"))); intro x9 d9 i9 j9 v9 w9 t9 u9 h' tk' l1 l2 F' N'; (try simp only [AllLt, and_true] at l1 l2); (walk_at "ez_tidy")))
local macro_rules | `(tactic| walk_at "call ref") => `(tactic| (k_here; (with_reducible show wpAny _ _ (call (Value.ref 120) [Value.ref _, Value.int _ _]) _ _ _); k_dflt (refine' EzC.useDbl (c_quot_di _ _ _ _ _ _ _ _ _ _ _ _ _ ?m1 ?m2 ?h0 ?b0 ?bn ?s1 ?s2 ?s3) ?B9 ?F9 ?X9 ?N9 ?T9 ?k9 ?d9 ?u9 ?_; (case B9 => k_asm); (case F9 => k_asm); (case X9 => k_asm); (case N9 => k_asm); (case T9 => k_asm); (case k9 => first | exact rfl | assumption); (case d9 => (walk_at "ez_room")); (case u9 => (walk_at "ez_room")); (case m1 => k_mem); (case m2 => k_mem); (case h0 => (walk_at "ez_pos")); (case b0 => (walk_at "ez_pos")); (case bn => (walk_at "ez_pos")); (case s1 => (walk_at "ez_small")); (case s2 => (walk_at "ez_small")); (case s3 => (walk_at "ez_small"))); intro x9 d9 i9 j9 v9 w9 t9 u9 h' tk' l1 l2 F' N'; (try simp only [AllLt, and_true] at l1 l2); (walk_at "ez_tidy")))
local macro_rules | `(tactic| walk_at "call ref") => `(tactic| (k_here; (with_reducible show wpAny _ _ (call (Value.ref 120) [Value.ref _, Value.ref _]) _ _ _); k_dflt (refine' EzC.useDbl (c_quot_dd _ _ _ _ _ _ _ _ _ _ _ _ _ ?m1 ?m2 _ _ _ _ _ _ _ _ ?g1 ?g2 ?h0 ?h1 ?b0 ?s1 ?s2 ?s3 ?s4) ?B9 ?F9 ?X9 ?N9 ?T9 ?k9 ?d9 ?u9 ?_; (case B9 => k_asm); (case F9 => k_asm); (case X9 => k_asm); (case N9 => k_asm); (case T9 => k_asm); (case k9 => first | exact rfl | assumption); (case d9 => (walk_at "ez_room")); (case u9 => (walk_at "ez_room")); (case m1 => k_mem); (case m2 => k_mem); (case g1 => k_mem); (case g2 => k_mem); (case h0 => (walk_at "ez_pos")); (case h1 => (walk_at "ez_pos")); (case b0 => (walk_at "ez_pos")); (case s1 => (walk_at "ez_small")); (case s2 => (walk_at "ez_small")); (case s3 => (walk_at "ez_small")); (case s4 => (walk_at "ez_small"))); intro x9 d9 i9 j9 v9 w9 t9 u9 h' tk' l1 l2 F' N'; (try simp only [AllLt, and_true] at l1 l2); (walk_at "ez_tidy")))

theorem back_ak : True := by
  w_top off
  first | walk1 | trivial
/-- k is the power of ten of n / d -/
def WL (n d k : Int) : Prop := d * 10 ^ (max k 0).toNat ≤ n * 10 ^ (max (-k) 0).toNat ∧ n * 10 ^ (max (-k - 1) 0).toNat < d * 10 ^ (max (k + 1) 0).toNat
def upW (n d k : Int) : Prop := 0 ≤ k ∧ k ≤ 309 ∧ (k = 0 ∨ d * 10 ^ k.toNat ≤ n)
def dnW (n d k : Int) : Prop := -350 ≤ k ∧ k ≤ 309 ∧ (0 < k → d * 10 ^ k.toNat ≤ n) ∧ n * 10 ^ (max (-k - 1) 0).toNat < d * 10 ^ (max (k + 1) 0).toNat
theorem ten_pos (k : Nat) : (0 : Int) < 10 ^ k := Int.pow_pos (by decide)
theorem big_ten : (2 : Int) ^ 1000 < 10 ^ 302 := by decide +kernel
theorem up_start (n d : Int) : upW n d 0 := ⟨by decide, by decide, .inl rfl⟩
theorem up_step {n d k : Int} (h : upW n d k) (h1 : k < 309) (h2 : d * 10 ^ (k + 1).toNat ≤ n) : upW n d (k + 1) := by
  have := h.1
  exact ⟨by omega, by omega, .inr h2⟩
theorem Sm.le {k : Nat} {x : Int} (h : Sm k x) : x < 2 ^ k := by
  unfold Sm at h
  have : ((x.natAbs : Nat) : Int) < ((2 ^ k : Nat) : Int) := by exact_mod_cast h
  rw [Int.natCast_pow] at this
  have h3 : ((2 : Nat) : Int) ^ k = 2 ^ k := rfl
  omega
theorem ten_le {a b : Nat} (h : a ≤ b) : (10 : Int) ^ a ≤ 10 ^ b := by
  exact_mod_cast Nat.pow_le_pow_right (by decide) h
theorem dn_start_a {n d k : Int} (h0 : 0 < d) (s : Sm 1000 n) (h : upW n d k) (h1 : ¬ k < 309) : dnW n d k := by
  exfalso
  obtain ⟨h2, h3, h4⟩ := h
  have h5 : d * 10 ^ k.toNat ≤ n := h4.resolve_left (by omega)
  have h6 := s.le
  have h7 : (10 : Int) ^ 302 ≤ 10 ^ k.toNat := ten_le (by omega)
  have h8 : 1 * 10 ^ k.toNat ≤ d * 10 ^ k.toNat := Int.mul_le_mul_of_nonneg_right (by omega) (Int.le_of_lt (ten_pos _))
  have h9 := big_ten
  omega
theorem dn_start_b {n d k : Int} (h : upW n d k) (h1 : k < 309) (h2 : ¬ d * 10 ^ (k + 1).toNat ≤ n) : dnW n d k := by
  obtain ⟨h3, h4, h5⟩ := h
  refine ⟨by omega, by omega, fun h6 => h5.resolve_left (by omega), ?_⟩
  have e1 : (max (-k - 1) 0).toNat = 0 := by omega
  have e2 : (max (k + 1) 0).toNat = (k + 1).toNat := by omega
  rw [e1, e2, Int.pow_zero, Int.mul_one]
  omega
theorem dn_step {n d k : Int} (b0 : 0 < n) (s : Sm 1000 d) (h : dnW n d k) (h1 : k ≤ 0) (h2 : n * 10 ^ (-k).toNat < d) : dnW n d (k - 1) := by
  obtain ⟨h3, h4, h5, h6⟩ := h
  have h7 := s.le
  have h8 : 1 * 10 ^ (-k).toNat ≤ n * 10 ^ (-k).toNat := Int.mul_le_mul_of_nonneg_right (by omega) (Int.le_of_lt (ten_pos _))
  have h9 := big_ten
  have ha : -k < 302 := by
    refine Classical.byContradiction fun hc => ?_
    have hb : (10 : Int) ^ 302 ≤ 10 ^ (-k).toNat := ten_le (by omega)
    omega
  refine ⟨by omega, by omega, fun _ => by omega, ?_⟩
  have e1 : (max (-(k - 1) - 1) 0).toNat = (-k).toNat := by omega
  have e2 : (max (k - 1 + 1) 0).toNat = 0 := by omega
  rw [e1, e2, Int.pow_zero, Int.mul_one]
  exact h2
theorem dn_end_a {n d k : Int} (h : dnW n d k) (h1 : ¬ k ≤ 0) : WL n d k := by
  obtain ⟨h3, h4, h5, h6⟩ := h
  refine ⟨?_, h6⟩
  have e1 : (max k 0).toNat = k.toNat := by omega
  have e2 : (max (-k) 0).toNat = 0 := by omega
  rw [e1, e2, Int.pow_zero, Int.mul_one]
  exact h5 (by omega)
theorem dn_end_b {n d k : Int} (h : dnW n d k) (h1 : k ≤ 0) (h2 : ¬ n * 10 ^ (-k).toNat < d) : WL n d k := by
  obtain ⟨h3, h4, h5, h6⟩ := h
  refine ⟨?_, h6⟩
  have e1 : (max k 0).toNat = 0 := by omega
  have e2 : (max (-k) 0).toNat = (-k).toNat := by omega
  rw [e1, e2, Int.pow_zero, Int.mul_one]
  omega
theorem upW_b {n d k : Int} (h : upW n d k) : 0 ≤ k ∧ k ≤ 309 := ⟨h.1, h.2.1⟩
theorem dnW_b {n d k : Int} (h : dnW n d k) : -350 ≤ k ∧ k ≤ 309 := ⟨h.1, h.2.1⟩
local macro_rules | `(tactic| walk_at "ez_omega") => `(tactic| first | omega | ((have h9 := upW_b (by assumption)); omega) | ((have h9 := dnW_b (by assumption)); omega) | fail "ez_omega")
local macro_rules | `(tactic| walk_at "binaryOp Pow int int") => `(tactic| (k_here; with_reducible refine' pow_int_small ?h0 ?h1 ?h2 ?_; (case h0 => (walk_at "ez_omega")); (case h1 => (walk_at "ez_omega")); (case h2 => decide)))
local macro_rules | `(tactic| walk_at "ez_sm0") => `(tactic| ((with_reducible refine' Sm.pow (b := 366) ?p9 ?q9); (case p9 => (walk_at "ez_sm0")); (case q9 => (walk_at "ez_omega"))))
set_option maxRecDepth 100000 in
set_option maxHeartbeats 8000000 in
theorem c_whole_log (news) (n d : Int) (tb) (x dx h1 h2 k1 k2 t u) (m1 : (x, instObj 109 dx) ∈ news) (m2 : (dx, dictOf [⟨h1, .str (PySem.Str.ofString "n") k1, .int n t⟩, ⟨h2, .str (PySem.Str.ofString "d") k2, .int d u⟩] 2) ∈ news) (h0 : 0 < d) (b0 : 0 < n) (s1 : Sm 1000 n) (s2 : Sm 1000 d) :
    EzC 4 news (call (.ref 174) [.ref x, .int 10 tb]) (fun v new => ∃ k, isInt k v new ∧ WL n d k) := by
  unfold EzC
  intro prog w p loose mean mg mb dp un gd cn cs a ccd cl outer A₀ base h₀ L m s Q E B F X N T hk hd hu hret
  obtain ⟨ck, c1, c2, c3, c4⟩ := cs
  dsimp only at hk
  subst hk
  k_with "state" => first | exact up_start _ _ | exact up_step (by assumption) (by assumption) (by assumption) | exact dn_start_a (by assumption) (by assumption) (by assumption) (by assumption) | exact dn_start_b (by assumption) (by assumption) (by assumption) | exact dn_step (by assumption) (by assumption) (by assumption) (by assumption) (by assumption) | fail "state"
  k_with "measure" => first | omega | ((have h9 := dnW_b (by assumption)); omega) | fail "measure"
  k_with "exec While BoolOp cons nil" => k_while (fun _ k => upW n d k) (fun _ k => (309 - k).toNat) "k"
  k_with "exec While BoolOp cons nil" => k_while (fun _ k => dnW n d k) (fun _ k => (400 + k).toNat) "k"
  k_steps
  all_goals (refine' hret _ [] _ _ ⟨_, isInt.mk rfl, ?e9⟩ ?O9 ?F9 ?N9; (case F9 => k_asm); (case N9 => (walk_at "ez_news")); (case O9 => (walk_at "ez_ord")); (case e9 => first | exact dn_end_a (by assumption) (by assumption) | exact dn_end_b (by assumption) (by assumption) (by assumption) | fail "end"))
theorem WL_b {n d k : Int} (h0 : 0 < d) (b0 : 0 < n) (s1 : Sm 1000 n) (s2 : Sm 1000 d) (h : WL n d k) : -350 ≤ k ∧ k ≤ 309 := by
  obtain ⟨h1, h2⟩ := h
  have a := s1.le
  have b := s2.le
  have c := big_ten
  constructor
  · refine Classical.byContradiction fun hc => ?_
    have e1 : (max (-k - 1) 0).toNat = (-k - 1).toNat := by omega
    have e2 : (max (k + 1) 0).toNat = 0 := by omega
    rw [e1, e2, Int.pow_zero, Int.mul_one] at h2
    have hb : (10 : Int) ^ 302 ≤ 10 ^ (-k - 1).toNat := ten_le (by omega)
    have h8 : 1 * 10 ^ (-k - 1).toNat ≤ n * 10 ^ (-k - 1).toNat := Int.mul_le_mul_of_nonneg_right (by omega) (Int.le_of_lt (ten_pos _))
    omega
  · refine Classical.byContradiction fun hc => ?_
    have e1 : (max k 0).toNat = k.toNat := by omega
    have e2 : (max (-k) 0).toNat = 0 := by omega
    rw [e1, e2, Int.pow_zero, Int.mul_one] at h1
    have hb : (10 : Int) ^ 302 ≤ 10 ^ k.toNat := ten_le (by omega)
    have h8 : 1 * 10 ^ k.toNat ≤ d * 10 ^ k.toNat := Int.mul_le_mul_of_nonneg_right (by omega) (Int.le_of_lt (ten_pos _))
    omega
theorem EzC.useWL {k : Nat} {news : List (Addr × Obj)} {t : Sem Value} {n9 d9 : Int} (c : EzC k news t (fun v new => ∃ k, isInt k v new ∧ WL n9 d9 k)) {prog : Program} {w : World} {p : Program} {loose : List PySem.Str} {mean : ExcName → Option Value} {mg mb : PySem.Str → Option Value}
    {dp un : Nat} {gd : Option (List Code)} {cn : PySem.Str} {cs : Scope} {a : Addr} {ccd : Value} {cl : List (PySem.Str × Addr)} {outer : List Env} {A₀ : Around} {base h₀ : Heap} {L : Addr} {m : PySem.Str → Option Value} {s : Shared} {Q E : Value → Shared → Prop}
    (B : Below A₀ base outer h₀) (F : Fr h₀ L s.heap m) (X : (hd.heap_39 w.params).In h₀) (N : News h₀ L s.heap news) (T : Top p loose mean mg mb h₀) (hk : cs.kind = .function) (hd : dp + k < recursionLimit) (hu : un + 16 * k < cLine)
    (h : ∀ x t h' tk', WL n9 d9 x → Fr h₀ L h' m → News h₀ L h' news → Q (.int x t) { s with heap := h', toks := tk' }) :
    wpAny (model prog w) (ktrTop dp un gd cn cs L a ccd cl outer) t Q E s := c.use B F X N T hk hd hu fun v new h' tk' R O F' N' => by
  obtain ⟨x, ⟨rfl, t, rfl⟩, W⟩ := R
  exact h x t h' tk' W F' N'
theorem near_bot (n d : Int) (h : 0 < d) (hn0 : n ≠ 0) (hu : 53 - (Builtin.Int.intBits (n.natAbs : Int) : Int) + (Builtin.Int.intBits d : Int) ≤ 1074) :
    d * 2 ^ (max (-nearS n d) 0).toNat * 2 ^ 52 ≤ (n.natAbs : Int) * 2 ^ (max (nearS n d) 0).toNat := by
  have hS0 : nearS0 n d = 53 - (Builtin.Int.intBits (n.natAbs : Int) : Int) + (Builtin.Int.intBits d : Int) := by unfold nearS0; omega
  have hn := intBits_le (x := (n.natAbs : Int)) (by omega)
  have hn1 := intBits_pos (x := (n.natAbs : Int)) (by omega)
  have hd := lt_intBits d
  rw [Int.natAbs_natCast] at hn
  unfold nearS
  generalize nearS0 n d = S at *
  generalize Builtin.Int.intBits (n.natAbs : Int) = bn at *
  generalize Builtin.Int.intBits d = bd at *
  have hn' : (2 : Int) ^ (bn - 1) ≤ (n.natAbs : Int) := by exact_mod_cast hn
  have hd' : d < 2 ^ bd := by
    have : (d.natAbs : Int) < ((2 ^ bd : Nat) : Int) := by exact_mod_cast hd
    rw [Int.natAbs_of_nonneg (by omega)] at this
    exact_mod_cast this
  generalize (n.natAbs : Int) = N at *
  split
  · rename_i hc
    by_cases h1 : 1 ≤ S
    · have e1 : (max (S - 1) 0).toNat = (S - 1).toNat := by omega
      have e2 : (max (-(S - 1)) 0).toNat = 0 := by omega
      have e3 : (max S 0).toNat = (S - 1).toNat + 1 := by omega
      have e4 : (max (-S) 0 + 53).toNat = 53 := by omega
      have e5 : (2 : Int) ^ ((S - 1).toNat + 1) = 2 ^ (S - 1).toNat * 2 := Int.pow_succ _ _
      rw [e3, e4, e5, ← Int.mul_assoc] at hc
      rw [e1, e2, Int.pow_zero, Int.mul_one]
      omega
    · have e1 : (max (S - 1) 0).toNat = 0 := by omega
      have e2 : (max (-(S - 1)) 0).toNat + 52 = (max (-S) 0 + 53).toNat := by omega
      have e3 : (max S 0).toNat = 0 := by omega
      rw [e3] at hc
      rw [e1, Int.mul_assoc, ← Int.pow_add, e2]
      exact hc
  · by_cases h1 : 0 ≤ S
    · have e1 : (max S 0).toNat = S.toNat := by omega
      have e2 : (max (-S) 0).toNat = 0 := by omega
      rw [e1, e2, Int.pow_zero, Int.mul_one]
      have h2 : (2 : Int) ^ (bn - 1) * 2 ^ S.toNat ≤ N * 2 ^ S.toNat := Int.mul_le_mul_of_nonneg_right hn' (Int.le_of_lt (two_pow_pos _))
      rw [← Int.pow_add] at h2
      have h3 : bn - 1 + S.toNat = bd + 52 := by omega
      rw [h3, Int.pow_add] at h2
      have h4 : d * 2 ^ 52 ≤ 2 ^ bd * 2 ^ 52 := Int.mul_le_mul_of_nonneg_right (by omega) (by decide)
      omega
    · have e1 : (max S 0).toNat = 0 := by omega
      have e2 : (max (-S) 0).toNat = (-S).toNat := by omega
      rw [e1, e2, Int.pow_zero, Int.mul_one, Int.mul_assoc, ← Int.pow_add]
      have h2 : d * 2 ^ ((-S).toNat + 52) ≤ 2 ^ bd * 2 ^ ((-S).toNat + 52) := Int.mul_le_mul_of_nonneg_right (by omega) (Int.le_of_lt (two_pow_pos _))
      rw [← Int.pow_add] at h2
      have h3 : bd + ((-S).toNat + 52) = bn - 1 := by omega
      rw [h3] at h2
      omega
theorem nearW_ge (n d : Int) (h : 0 < d) (hn0 : 0 < n) (s : Sm 1000 d) : 2 ^ 52 ≤ nearW n d := by
  have b1 := s.intBits
  have hb := near_bot n d h (by omega) (by omega)
  unfold nearW
  generalize nearS n d = S at *
  have hB : 0 < d * 2 ^ (max (-S) 0).toNat := Int.mul_pos h (two_pow_pos _)
  generalize d * 2 ^ (max (-S) 0).toNat = B at *
  have hr := rnd_near (n * 2 ^ (max S 0).toNat) B hB
  have e1 : (n.natAbs : Int) = n := Int.natAbs_of_nonneg (by omega)
  rw [e1] at hb
  generalize n * 2 ^ (max S 0).toNat = A at *
  have h3 : B * (2 * 2 ^ 52 - 1) ≤ B * (2 * rndI A B) := by
    rw [Int.mul_sub, Int.mul_one, ← Int.mul_assoc, ← Int.mul_assoc]
    have e2 : B * 2 * 2 ^ 52 = 2 * (B * 2 ^ 52) := by omega
    have e3 : B * 2 * rndI A B = 2 * (B * rndI A B) := by rw [Int.mul_comm B 2, Int.mul_assoc]
    rw [e2, e3]
    omega
  have h4 := Int.le_of_mul_le_mul_left h3 hB
  omega
theorem nearN_pos {n d : Int} (h0 : 0 < d) (b0 : 0 < n) (s : Sm 1000 d) : 0 < nearN n d := by
  have h := nearW_ge n d h0 b0 s
  unfold nearN
  exact Int.mul_pos (by omega) (two_pow_pos _)
theorem dblN_pos {n d : Int} (h0 : 0 < d) (b0 : 0 < n) (s : Sm 1000 d) : 0 < dblN n d := by
  unfold dblN
  rw [if_neg (by omega)]
  exact nearN_pos h0 b0 s
local macro_rules | `(tactic| walk_at "ez_pos") => `(tactic| ((with_reducible refine' dblN_pos ?p9 ?q9 ?r9); (case p9 => (walk_at "ez_pos")); (case q9 => (walk_at "ez_pos")); (case r9 => (walk_at "ez_small"))))
local macro_rules | `(tactic| walk_at "call ref") => `(tactic| (k_here; (with_reducible show wpAny _ _ (call (Value.ref 174) [Value.ref _, Value.int _ _]) _ _ _); k_dflt (refine' EzC.useWL (c_whole_log _ _ _ _ _ _ _ _ _ _ _ _ ?m1 ?m2 ?h0 ?b0 ?s1 ?s2) ?B9 ?F9 ?X9 ?N9 ?T9 ?k9 ?d9 ?u9 ?_; (case B9 => k_asm); (case F9 => k_asm); (case X9 => k_asm); (case N9 => k_asm); (case T9 => k_asm); (case k9 => first | exact rfl | assumption); (case d9 => (walk_at "ez_room")); (case u9 => (walk_at "ez_room")); (case m1 => k_mem); (case m2 => k_mem); (case h0 => (walk_at "ez_pos")); (case b0 => (walk_at "ez_pos")); (case s1 => (walk_at "ez_small")); (case s2 => (walk_at "ez_small"))); intro k9 t9 h' tk' w9 F' N'; (have b9 := WL_b (by (walk_at "ez_pos")) (by (walk_at "ez_pos")) (by (walk_at "ez_small")) (by (walk_at "ez_small")) w9); (walk_at "ez_tidy")))

theorem back_al : True := by
  w_top off
  first | walk1 | trivial
def mantW (n d dg k : Int) : Int := rndI ((n.natAbs : Int) * 10 ^ (max (dg - k) 0).toNat) (d * 10 ^ (max (k - dg) 0).toNat)
def mantE (n d dg k : Int) : Int := if mantW n d dg k = 10 ^ (dg + 1).toNat then k + 1 else k
def mantV (n d dg k : Int) : Int := if mantW n d dg k = 10 ^ (dg + 1).toNat then 10 ^ dg.toNat else mantW n d dg k
def mantT (n dg v : Int) : PySem.Str :=
  ((if n < 0 then PySem.Str.ofString "-" else PySem.Str.ofString "") ++ Txt.item (Txt.zfill (PySem.Str.ofString (toString v)) (dg + 1)) 0) ++
    (if dg = 0 then PySem.Str.ofString "" else PySem.Str.ofString "." ++ Txt.slice (Txt.zfill (PySem.Str.ofString (toString v)) (dg + 1)) (some 1) none)
def isMant (T : PySem.Str) (E : Int) (v : Value) (new : List (Addr × Obj)) : Prop := ∃ a t u, v = .ref a ∧ new = [(a, ({ cls := .type "tuple", data := .seq #[.str T t, .int E u] } : Obj))]
theorem isMant.mk {T T' : PySem.Str} {E E' : Int} {a : Addr} {t u : Tok} (h : T' = T) (g : E' = E) : isMant T E (.ref a) [(a, ({ cls := .type "tuple", data := .seq #[.str T' t, .int E' u] } : Obj))] := ⟨a, t, u, rfl, by rw [h, g]⟩
local macro_rules | `(tactic| walk_at "ez_if") => `(tactic| first | rw [if_pos (by assumption)] | rw [if_neg (by assumption)] | fail "ez_if")
set_option maxRecDepth 100000 in
set_option maxHeartbeats 8000000 in
theorem c_mant (news) (n d dg : Int) (tb) (x dx h1 h2 k1 k2 t u) (m1 : (x, instObj 109 dx) ∈ news) (m2 : (dx, dictOf [⟨h1, .str (PySem.Str.ofString "n") k1, .int n t⟩, ⟨h2, .str (PySem.Str.ofString "d") k2, .int d u⟩] 2) ∈ news) (h0 : 0 < d) (b0 : n ≠ 0) (s1 : Sm 300 n) (s2 : Sm 300 d) (g0 : 0 ≤ dg) (g1 : dg ≤ 14) :
    EzC 10 news (call (.ref 181) [.ref x, .int dg tb]) (fun v new => ∃ k, WL (dblN n.natAbs d) (dblD n.natAbs d) k ∧ isMant (mantT n dg (mantV n d dg k)) (mantE n d dg k) v new) := by
  unfold EzC
  intro prog w p loose mean mg mb dp un gd cn cs a ccd cl outer A₀ base h₀ L m s Q E B F X N T hk hd hu hret
  obtain ⟨ck, c1, c2, c3, c4⟩ := cs
  dsimp only at hk
  subst hk
  k_steps
  all_goals (refine' hret _ [_] _ _ ⟨_, ?w9, isMant.mk ?e9 ?f9⟩ ?O9 ?F9 ?N9; (case F9 => k_asm); (case N9 => (walk_at "ez_news")); (case O9 => (walk_at "ez_ord")); (case w9 => assumption); (case e9 => first | (unfold mantT mantV mantW; (walk_at "ez_if"); (walk_at "ez_if"); (walk_at "ez_if"); done) | fail "text"); (case f9 => first | (unfold mantE mantW; (walk_at "ez_if"); done) | fail "text"))
theorem EzC.useMant {k : Nat} {news : List (Addr × Obj)} {t : Sem Value} {n9 d9 n d dg : Int} (c : EzC k news t (fun v new => ∃ k, WL n9 d9 k ∧ isMant (mantT n dg (mantV n d dg k)) (mantE n d dg k) v new)) {prog : Program} {w : World} {p : Program} {loose : List PySem.Str} {mean : ExcName → Option Value} {mg mb : PySem.Str → Option Value}
    {dp un : Nat} {gd : Option (List Code)} {cn : PySem.Str} {cs : Scope} {a : Addr} {ccd : Value} {cl : List (PySem.Str × Addr)} {outer : List Env} {A₀ : Around} {base h₀ : Heap} {L : Addr} {m : PySem.Str → Option Value} {s : Shared} {Q E : Value → Shared → Prop}
    (B : Below A₀ base outer h₀) (F : Fr h₀ L s.heap m) (X : (hd.heap_39 w.params).In h₀) (N : News h₀ L s.heap news) (T : Top p loose mean mg mb h₀) (hk : cs.kind = .function) (hd : dp + k < recursionLimit) (hu : un + 16 * k < cLine)
    (h : ∀ a t u k h' tk', WL n9 d9 k → AllLt a news → Fr h₀ L h' m → News h₀ L h' ((a, ({ cls := .type "tuple", data := .seq #[.str (mantT n dg (mantV n d dg k)) t, .int (mantE n d dg k) u] } : Obj)) :: news) → Q (.ref a) { s with heap := h', toks := tk' }) :
    wpAny (model prog w) (ktrTop dp un gd cn cs L a ccd cl outer) t Q E s := c.use B F X N T hk hd hu fun v new h' tk' R O F' N' => by
  obtain ⟨k, W, a, t, u, rfl, rfl⟩ := R
  exact h a t u k h' tk' W (O _ (.head _)) F' N'
local macro_rules | `(tactic| walk_at "call ref") => `(tactic| (k_here; (with_reducible show wpAny _ _ (call (Value.ref 181) [Value.ref _, Value.int _ _]) _ _ _); k_dflt (refine' EzC.useMant (c_mant _ _ _ _ _ _ _ _ _ _ _ _ _ ?m1 ?m2 ?h0 ?b0 ?s1 ?s2 ?g0 ?g1) ?B9 ?F9 ?X9 ?N9 ?T9 ?k9 ?d9 ?u9 ?_; (case B9 => k_asm); (case F9 => k_asm); (case X9 => k_asm); (case N9 => k_asm); (case T9 => k_asm); (case k9 => first | exact rfl | assumption); (case d9 => (walk_at "ez_room")); (case u9 => (walk_at "ez_room")); (case m1 => k_mem); (case m2 => k_mem); (case h0 => (walk_at "ez_pos")); (case b0 => first | assumption | omega | (refine pos_ne ?_; (walk_at "ez_pos"))); (case s1 => (walk_at "ez_small")); (case s2 => (walk_at "ez_small")); (case g0 => omega); (case g1 => omega)); intro d9 t9 u9 k9 h' tk' w9 l1 F' N'; (try simp only [AllLt, and_true] at l1); (walk_at "ez_tidy")))

theorem back_am : True := by
  w_top off
  first | walk1 | trivial
/-- all signs of x are the figures 0 to 9 -/
def Dig (x : PySem.Str) : Prop := ∀ c ∈ x.cps.toList, 48 ≤ c ∧ c ≤ 57
theorem plain_one {c : Nat} (h : 48 ≤ c ∧ c ≤ 57) : (Builtin.Str.occurrences (PySem.Str.ofString "0123456789") ⟨#[c]⟩ 0 (PySem.Str.length (PySem.Str.ofString "0123456789")) 1).isEmpty = false := by
  obtain ⟨h1, h2⟩ := h
  have : c = 48 ∨ c = 49 ∨ c = 50 ∨ c = 51 ∨ c = 52 ∨ c = 53 ∨ c = 54 ∨ c = 55 ∨ c = 56 ∨ c = 57 := by omega
  rcases this with rfl | rfl | rfl | rfl | rfl | rfl | rfl | rfl | rfl | rfl <;> decide +kernel
theorem plain_filter {x : PySem.Str} (h : Dig x) : List.filter (fun a => !!(Builtin.Str.occurrences (PySem.Str.ofString "0123456789") a 0 (PySem.Str.length (PySem.Str.ofString "0123456789")) 1).isEmpty) (signs x) = [] := by
  rw [List.filter_eq_nil_iff]
  intro a ha
  unfold signs at ha
  obtain ⟨c, hc, rfl⟩ := List.mem_map.mp ha
  rw [plain_one (h c hc)]
  decide
theorem plain_ints {x : PySem.Str} {ys : List Value} (h : Dig x) (hc : CarriedAll ys (List.map PyData.str (List.filter (fun a => !!(Builtin.Str.occurrences (PySem.Str.ofString "0123456789") a 0 (PySem.Str.length (PySem.Str.ofString "0123456789")) 1).isEmpty) (signs x)))) : IntsAre ys [] := by
  rw [plain_filter h] at hc
  exact IntsAre.ofCarried (ns := []) hc
theorem ne_empty {x : PySem.Str} (h : 1 ≤ x.length) : x ≠ PySem.Str.ofString "" := by
  rintro rfl
  exact absurd h (by decide)
theorem ite_sne {x y : PySem.Str} {a b : Prop} (hc : x ≠ y) (h : a) : if (x != y) = true then a else b := by rw [if_pos (by simpa using hc)]; exact h
section
local macro_rules | `(tactic| walk_at "ite") => `(tactic| (k_here; (with_reducible refine ite_sne ?c9 ?_); (case c9 => (refine ne_empty ?_; omega))))
local macro_rules | `(tactic| walk_at "newList") => `(tactic| (k_here; (with_reducible show wpAny _ _ (newList []) _ _ _); (with_reducible refine' ez_newNil ?F ?N ?l ?_; (case F => k_asm); (case N => k_asm); (case l => with_reducible assumption)); intro l' h' F' N' i9 j9 l1; (try k_sweep)))
local macro_rules | `(tactic| walk_at "compareOp Eq ref ref") => `(tactic| (k_here; (with_reducible show wpAny _ _ (compareOp CmpOp.Eq (Value.ref _) (Value.ref _)) _ _ _); (refine' eq_intsK ?k1 ?k2 ?k3 ?k4 ?k5 ?_; (case k1 => with_reducible assumption); (case k2 => exact plain_ints (by assumption) (by assumption)); (case k3 => with_reducible assumption); (case k4 => exact IntsAre.nil); (case k5 => (walk_at "ez_room")))))
set_option maxRecDepth 100000 in
set_option maxHeartbeats 8000000 in
theorem c_plain (news) (x : PySem.Str) (tf) (h0 : 1 ≤ x.length) (h1 : x.length ≤ 100) (h2 : Dig x) :
    EzC 5 news (call (.ref 153) [.str x tf]) (isBool true) := by
  unfold EzC
  intro prog w p loose mean mg mb dp un gd cn cs a ccd cl outer A₀ base h₀ L m s Q E B F X N T hk hd hu hret
  obtain ⟨ck, c1, c2, c3, c4⟩ := cs
  dsimp only at hk
  subst hk
  k_steps
  all_goals (refine' hret _ [] _ _ (isBool.mk ?e9) ?O9 ?F9 ?N9; (case F9 => k_asm); (case N9 => (walk_at "ez_news")); (case O9 => (walk_at "ez_ord")); (case e9 => rfl))
end
theorem back_an : True := by
  w_top off
  first | walk1 | trivial
local macro_rules | `(tactic| walk_at "call ref") => `(tactic| (k_here; (with_reducible show wpAny _ _ (call (Value.ref 153) [Value.str _ _]) _ _ _); k_dflt (refine' EzC.useBool (c_plain _ _ _ ?h0 ?h1 ?h2) ?B9 ?F9 ?X9 ?N9 ?T9 ?k9 ?d9 ?u9 ?_; (case B9 => k_asm); (case F9 => k_asm); (case X9 => k_asm); (case N9 => k_asm); (case T9 => k_asm); (case k9 => first | exact rfl | assumption); (case d9 => (walk_at "ez_room")); (case u9 => (walk_at "ez_room")); (case h2 => assumption); (case h0 => (walk_at "ez_len")); (case h1 => (walk_at "ez_len"))); intro h' tk' F' N'; (walk_at "ez_tidy")))

theorem back_ao : True := by
  w_top off
  first | walk1 | trivial
/-! rules for texts, each with the text that comes out -/
section
variable {prog : Program} {w : World} {A : Around} {E : Value → Shared → Prop} {s : Shared} {h₀ : Heap} {L : Addr} {m : PySem.Str → Option Value} {news : List (Addr × Obj)} {x y z z2 : PySem.Str} {t u v : Tok} {i : Int} {Q : Value → Shared → Prop}
theorem ez_split2 (F : Fr h₀ L s.heap m) (N : News h₀ L s.heap news) (hy : (y.length == 0) = false) (he : Txt.splitMax x y 1 = [z, z2]) (hl : x.length ≤ 100000)
    (h : ∀ D t1 t2 h' k, AllLt D news → Fr h₀ L h' m → News h₀ L h' ((D, listOf #[.str z t1, .str z2 t2] 0) :: news) → Q (.ref D) { s with heap := h', toks := k }) :
    wpAny (model prog w) A (call (.builtin "str.split") [.str x t, .str y u, .int 1 v]) Q E s :=
  splitN2A F N hy (by decide) (fun l h' k e _ _ _ F' N' => by
    rw [he] at e
    obtain ⟨t1, l1, rfl, e1⟩ := KSpl.cons_of e
    obtain ⟨t2, l2, rfl, e2⟩ := KSpl.cons_of e1
    cases KSpl.nil_of e2
    exact h _ t1 t2 h' k (allLt_of fun p hp => Heap.lt_size (N p hp).1) F' N') (by rw [PySem.sizeLine_eq]; omega)
theorem ez_lstripC (he : Txt.lstripChars x y = z) (hl : x.length ≤ 100000) (h : ∀ t' k, Q (.str z t') { s with toks := k }) : wpAny (model prog w) A (call (.builtin "str.lstrip") [.str x t, .str y u]) Q E s := by
  subst he
  exact PySem.SC.lstripChars h (by rw [PySem.sizeLine_eq]; omega)
theorem ez_strip (he : Txt.strip x = z) (hl : x.length ≤ 100000) (h : ∀ t' k, Q (.str z t') { s with toks := k }) : wpAny (model prog w) A (call (.builtin "str.strip") [.str x t]) Q E s := by
  subst he
  exact PyProof.Rows.SCL.strip (fun t' k _ => h t' k) (by rw [PySem.sizeLine_eq]; omega)
theorem ez_lower (he : Txt.lower x = z) (hl : x.length ≤ 100000) (h : Q (.str z s.toks) { s with toks := s.toks + 1 }) : wpAny (model prog w) A (call (.builtin "str.lower") [.str x t]) Q E s := by
  subst he
  exact PyProof.Rows.SCL.lower (by omega) (fun _ => h)
theorem ez_itemE {value slice : PySem.Expr} (he : Txt.item x i = z) (h0 : 0 ≤ i) (h1 : i < x.length) (h2 : i < 100000) (h : Q (.str z s.toks) { s with toks := s.toks + 1 })
    (hs : subscripted slice false (.str x t) (.int i u) = operate [.str x t, .int i u] (getItem (.str x t) (.int i u)) := by with_unfolding_all rfl)
    (ht : ∀ r, letTemporaryGo value (.str x t) r = pure () := by intro _; with_unfolding_all rfl) :
    wpAny (model prog w) A (subscriptTail value slice (.str x t) (.int i u)) Q E s := by
  subst he
  exact ez_item h0 h1 h2 (fun _ => h) hs ht
theorem ez_inE {b : Bool} (he : (!(Builtin.Str.occurrences x y 0 x.length 1).isEmpty) = b) (h : Q (.bool b) s) : wpAny (model prog w) A (compareOp .In (.str y u) (.str x t)) Q E s := by
  subst he
  exact PyProof.Rows.in_str h
theorem ez_truthy {Q : Bool → Shared → Prop} (hl : 1 ≤ x.length) (h2 : x.length ≤ 100000) (h : Q true { s with toks := s.toks + 1 + 1 }) : wpAny (model prog w) A (truthy (.str x t)) Q E s := by
  refine PySem.P.truthy_str (by omega) ?_
  have e : ((x.length : Int) != 0) = true := by simp; omega
  rw [e]
  exact h
theorem ez_falsy {Q : Bool → Shared → Prop} (hl : x.length = 0) (h : Q false { s with toks := s.toks + 1 + 1 }) : wpAny (model prog w) A (truthy (.str x t)) Q E s := by
  refine PySem.P.truthy_str (by omega) ?_
  have e : ((x.length : Int) != 0) = false := by simp; omega
  rw [e]
  exact h
theorem ez_slice_ns {value slice : PySem.Expr} {j : Int} {uj : Tok} (he : Txt.slice x none (some j) = z) (F : Fr h₀ L s.heap m) (N : News h₀ L s.heap news) (hl : x.length ≤ 100000) (h : ∀ h' t' k, Fr h₀ L h' m → News h₀ L h' news → Q (.str z t') { s with heap := h', toks := k })
    (hs : subscripted slice false (.str x t) (.ref s.heap.objs.size) = operate [.ref s.heap.objs.size, .str x t] (getItem (.str x t) (.ref s.heap.objs.size)) := by with_unfolding_all rfl)
    (ht : ∀ r, letTemporaryGo value (.str x t) r = pure () := by intro _; with_unfolding_all rfl) :
    wpAny (model prog w) A (subscriptTail value slice (.str x t) (.ref s.heap.objs.size)) Q E { s with heap := s.heap.push { cls := .type "slice", data := .fields #[.none, .int j uj, .none] } } := by
  subst he
  exact slice_strN_ns F N h hs ht (by rw [PySem.sizeLine_eq]; omega)
theorem ez_slice_sn {value slice : PySem.Expr} {j : Int} {uj : Tok} (he : Txt.slice x (some j) none = z) (F : Fr h₀ L s.heap m) (N : News h₀ L s.heap news) (hl : x.length ≤ 100000) (h : ∀ h' t' k, Fr h₀ L h' m → News h₀ L h' news → Q (.str z t') { s with heap := h', toks := k })
    (hs : subscripted slice false (.str x t) (.ref s.heap.objs.size) = operate [.ref s.heap.objs.size, .str x t] (getItem (.str x t) (.ref s.heap.objs.size)) := by with_unfolding_all rfl)
    (ht : ∀ r, letTemporaryGo value (.str x t) r = pure () := by intro _; with_unfolding_all rfl) :
    wpAny (model prog w) A (subscriptTail value slice (.str x t) (.ref s.heap.objs.size)) Q E { s with heap := s.heap.push { cls := .type "slice", data := .fields #[.int j uj, .none, .none] } } := by
  subst he
  exact slice_strN_sn F N h hs ht (by rw [PySem.sizeLine_eq]; omega)
end
theorem back_ap : True := by
  w_top off
  first | walk1 | trivial
/-! the form's text and its parts -/
def fmtF (dg : Int) : PySem.Str := PySem.Str.ofString "%." ++ PySem.Str.ofString (toString dg) ++ PySem.Str.ofString "f"
def restF (dg : Int) : PySem.Str := PySem.Str.ofString "." ++ PySem.Str.ofString (toString dg) ++ PySem.Str.ofString "f"
def specF (dg : Int) : PySem.Str := PySem.Str.ofString "." ++ PySem.Str.ofString (toString dg)
theorem six {P : Int → Prop} (h : P 0 ∧ P 1 ∧ P 2 ∧ P 3 ∧ P 4 ∧ P 5) {dg : Int} (g0 : 0 ≤ dg) (g1 : dg ≤ 5) : P dg := by
  have : dg = 0 ∨ dg = 1 ∨ dg = 2 ∨ dg = 3 ∨ dg = 4 ∨ dg = 5 := by omega
  rcases this with rfl | rfl | rfl | rfl | rfl | rfl
  · exact h.1
  · exact h.2.1
  · exact h.2.2.1
  · exact h.2.2.2.1
  · exact h.2.2.2.2.1
  · exact h.2.2.2.2.2
section
variable {dg : Int}
theorem fmt_split (g0 : 0 ≤ dg) (g1 : dg ≤ 5) : Txt.splitMax (fmtF dg) (PySem.Str.ofString "%") 1 = [PySem.Str.ofString "", restF dg] := six (P := fun dg => Txt.splitMax (fmtF dg) (PySem.Str.ofString "%") 1 = [PySem.Str.ofString "", restF dg]) (by decide +kernel) g0 g1
theorem fmt_lstrip (g0 : 0 ≤ dg) (g1 : dg ≤ 5) : Txt.lstripChars (restF dg) (PySem.Str.ofString "0123456789.") = PySem.Str.ofString "f" := six (P := fun dg => Txt.lstripChars (restF dg) (PySem.Str.ofString "0123456789.") = PySem.Str.ofString "f") (by decide +kernel) g0 g1
theorem fmt_len (g0 : 0 ≤ dg) (g1 : dg ≤ 5) : (fmtF dg).length = 4 := six (P := fun dg => (fmtF dg).length = 4) (by decide +kernel) g0 g1
theorem rest_len (g0 : 0 ≤ dg) (g1 : dg ≤ 5) : (restF dg).length = 3 := six (P := fun dg => (restF dg).length = 3) (by decide +kernel) g0 g1
theorem spec_len (g0 : 0 ≤ dg) (g1 : dg ≤ 5) : (specF dg).length = 2 := six (P := fun dg => (specF dg).length = 2) (by decide +kernel) g0 g1
theorem fmt_spec (g0 : 0 ≤ dg) (g1 : dg ≤ 5) : Txt.slice (restF dg) none (some (((restF dg).length : Int) - ((1 : Nat) : Int))) = specF dg := six (P := fun dg => Txt.slice (restF dg) none (some (((restF dg).length : Int) - ((1 : Nat) : Int))) = specF dg) (by decide +kernel) g0 g1
theorem fmt_tail (g0 : 0 ≤ dg) (g1 : dg ≤ 5) : Txt.slice (restF dg) (some (((specF dg).length : Int) + 1)) none = PySem.Str.ofString "" := six (P := fun dg => Txt.slice (restF dg) (some (((specF dg).length : Int) + 1)) none = PySem.Str.ofString "") (by decide +kernel) g0 g1
theorem fmt_kind (g0 : 0 ≤ dg) (g1 : dg ≤ 5) : Txt.item (restF dg) ((specF dg).length : Int) = PySem.Str.ofString "f" := six (P := fun dg => Txt.item (restF dg) ((specF dg).length : Int) = PySem.Str.ofString "f") (by decide +kernel) g0 g1
theorem fmt_di : (!(Builtin.Str.occurrences (PySem.Str.ofString "di") (PySem.Str.ofString "f") 0 (PySem.Str.ofString "di").length 1).isEmpty) = false := by decide +kernel
theorem fmt_dot (g0 : 0 ≤ dg) (g1 : dg ≤ 5) : (!(Builtin.Str.occurrences (specF dg) (PySem.Str.ofString ".") 0 (specF dg).length 1).isEmpty) = true := six (P := fun dg => (!(Builtin.Str.occurrences (specF dg) (PySem.Str.ofString ".") 0 (specF dg).length 1).isEmpty) = true) (by decide +kernel) g0 g1
theorem fmt_part (g0 : 0 ≤ dg) (g1 : dg ≤ 5) : Txt.partition (specF dg) (PySem.Str.ofString ".") = (PySem.Str.ofString "", PySem.Str.ofString ".", PySem.Str.ofString (toString dg)) := six (P := fun dg => Txt.partition (specF dg) (PySem.Str.ofString ".") = (PySem.Str.ofString "", PySem.Str.ofString ".", PySem.Str.ofString (toString dg))) (by decide +kernel) g0 g1
theorem fmt_num (g0 : 0 ≤ dg) (g1 : dg ≤ 5) : (PySem.Str.ofString (toString dg)).length = 1 := six (P := fun dg => (PySem.Str.ofString (toString dg)).length = 1) (by decide +kernel) g0 g1
theorem fmt_part1 (g0 : 0 ≤ dg) (g1 : dg ≤ 5) : (Txt.partition (specF dg) (PySem.Str.ofString ".")).1 = PySem.Str.ofString "" := congrArg (·.1) (fmt_part g0 g1)
theorem fmt_part2 (g0 : 0 ≤ dg) (g1 : dg ≤ 5) : (Txt.partition (specF dg) (PySem.Str.ofString ".")).2.1 = PySem.Str.ofString "." := congrArg (·.2.1) (fmt_part g0 g1)
theorem fmt_part3 (g0 : 0 ≤ dg) (g1 : dg ≤ 5) : (Txt.partition (specF dg) (PySem.Str.ofString ".")).2.2 = PySem.Str.ofString (toString dg) := congrArg (·.2.2) (fmt_part g0 g1)
theorem fmt_int (g0 : 0 ≤ dg) (g1 : dg ≤ 5) : PySem.intText? (PySem.Str.ofString (toString dg)) = some dg := KIN.num_reads g0 (by omega)
end
theorem back_aq : True := by
  w_top off
  first | walk1 | trivial

theorem back_ar : True := by
  w_top off
  first | walk1 | trivial
def laidS (dg M : Int) : PySem.Str := PySem.Str.ofString (toString (M.fdiv (10 ^ dg.toNat))) ++ (if dg = 0 then PySem.Str.ofString "" else PySem.Str.ofString "." ++ Txt.zfill (PySem.Str.ofString (toString (M.fmod (10 ^ dg.toNat)))) dg)
def laidT (n d dg : Int) : PySem.Str := PySem.Str.ofString "" ++ (if n < 0 then PySem.Str.ofString "-" else PySem.Str.ofString "") ++ laidS dg (rndI ((n.natAbs : Int) * 10 ^ dg.toNat) d) ++ PySem.Str.ofString ""
section
local macro_rules | `(tactic| walk_at "ez_eq") => `(tactic| with_reducible assumption)
local macro_rules | `(tactic| walk_at "ez_fl") => `(tactic| omega)
local macro_rules | `(tactic| walk_at "call builtin:str.split") => `(tactic| (k_here; (with_reducible show wpAny _ _ (call (Value.builtin "str.split") [Value.str _ _, Value.str _ _, Value.int _ _]) _ _ _); (refine' ez_split2 ?F ?N ?y ?e ?l ?_; (case F => k_asm); (case N => k_asm); (case y => decide); (case e => (walk_at "ez_eq")); (case l => (walk_at "ez_fl"))); intro D' t1' t2' h' k' l1 F' N'; (try simp only [AllLt, and_true] at l1); (try k_sweep)))
local macro_rules | `(tactic| walk_at "call builtin:str.lstrip") => `(tactic| (k_here; (with_reducible show wpAny _ _ (call (Value.builtin "str.lstrip") [Value.str _ _, Value.str _ _]) _ _ _); (refine' ez_lstripC ?e ?l ?_; (case e => (walk_at "ez_eq")); (case l => (walk_at "ez_fl"))); intro t' k'))
local macro_rules | `(tactic| walk_at "subscriptTail Name Constant str int") => `(tactic| (k_here; (with_reducible show wpAny _ _ (subscriptTail _ _ (Value.str _ _) (Value.int _ _)) _ _ _); refine' ez_itemE ?e ?h0 ?h1 ?h2 ?_; (case e => (walk_at "ez_eq")); (case h0 => omega); (case h1 => (walk_at "ez_fl")); (case h2 => (walk_at "ez_fl"))))
local macro_rules | `(tactic| walk_at "subscriptTail Name Call str int") => `(tactic| (k_here; (with_reducible show wpAny _ _ (subscriptTail _ _ (Value.str _ _) (Value.int _ _)) _ _ _); refine' ez_itemE ?e ?h0 ?h1 ?h2 ?_; (case e => (walk_at "ez_eq")); (case h0 => omega); (case h1 => (walk_at "ez_fl")); (case h2 => (walk_at "ez_fl"))))
local macro_rules | `(tactic| walk_at "subscriptTail Name Slice str ref") => `(tactic| (k_here; (with_reducible show wpAny _ _ (subscriptTail _ (Expr.Slice none (some _) none _) (Value.str _ _) (Value.ref _)) _ _ _); (with_reducible rename Fr _ _ _ _ => kF); (with_reducible rename News _ _ _ _ => kN); (refine' ez_slice_ns (s := ⟨_, _, _, _, _⟩) ?e kF kN ?l ?_; (case e => (walk_at "ez_eq")); (case l => (walk_at "ez_fl"))); intro h' t8 k8 F' N'; (try k_sweep)))
local macro_rules | `(tactic| walk_at "subscriptTail Name Slice str ref") => `(tactic| (k_here; (with_reducible show wpAny _ _ (subscriptTail _ (Expr.Slice (some _) none none _) (Value.str _ _) (Value.ref _)) _ _ _); (with_reducible rename Fr _ _ _ _ => kF); (with_reducible rename News _ _ _ _ => kN); (refine' ez_slice_sn (s := ⟨_, _, _, _, _⟩) ?e kF kN ?l ?_; (case e => (walk_at "ez_eq")); (case l => (walk_at "ez_fl"))); intro h' t8 k8 F' N'; (try k_sweep)))
local macro_rules | `(tactic| walk_at "compareOp In str str") => `(tactic| (k_here; (refine' ez_inE ?e ?_; (case e => (walk_at "ez_eq")))))
local macro_rules | `(tactic| walk_at "call builtin:str.partition") => `(tactic| (k_here; (with_reducible show wpAny _ _ (call (Value.builtin "str.partition") [Value.str _ _, Value.str _ _]) _ _ _); (refine' KXpa.partition ?F ?N ?y ?e1 ?e2 ?e3 ?l ?_; (case F => k_asm); (case N => k_asm); (case y => decide); (case e1 => with_reducible assumption); (case e2 => with_reducible assumption); (case e3 => with_reducible assumption); (case l => ((rw [PySem.sizeLine_eq]); (walk_at "ez_fl")))); intro D' ta tb tc h' k' F' N' l1; (try k_lt l1); (try k_sweep)))
local macro_rules | `(tactic| walk_at "call type:int") => `(tactic| (k_here; (with_reducible show wpAny _ _ (call (Value.type "int") [Value.str _ _]) _ _ _); (refine' KIN.call_text ?e ?l ?_; (case e => (walk_at "ez_eq")); (case l => omega))))
local macro_rules | `(tactic| walk_at "call builtin:len") => `(tactic| (k_here; (with_reducible show wpAny _ _ (call (Value.builtin "len") [Value.str _ _]) _ _ _); (refine PyProof.Rows.len_str ?hfit ?_; (case hfit => (walk_at "ez_fl")))))
local macro_rules | `(tactic| walk_at "truthy str") => `(tactic| (k_here; (with_reducible show wpAny _ _ (truthy (Value.str _ _)) _ _ _); (refine' ez_truthy ?h0 ?h1 ?_; (case h0 => omega); (case h1 => omega))))
set_option maxRecDepth 100000 in
set_option maxHeartbeats 8000000 in
theorem c_laid (news) (n d dg : Int) (tf) (x dx h1 h2 k1 k2 t u) (m1 : (x, instObj 109 dx) ∈ news) (m2 : (dx, dictOf [⟨h1, .str (PySem.Str.ofString "n") k1, .int n t⟩, ⟨h2, .str (PySem.Str.ofString "d") k2, .int d u⟩] 2) ∈ news) (h0 : 0 < d) (s1 : Sm 330 n) (s2 : Sm 330 d) (g0 : 0 ≤ dg) (g1 : dg ≤ 5) :
    EzC 5 news (call (.ref 167) [.str (fmtF dg) tf, .ref x]) (isStr (laidT n d dg)) := by
  have f1 := fmt_split g0 g1
  have f2 := fmt_lstrip g0 g1
  have f3 := fmt_spec g0 g1
  have f4 := fmt_tail g0 g1
  have f5 := fmt_kind g0 g1
  have f6 := fmt_di
  have f7 := fmt_dot g0 g1
  have f8 := fmt_int g0 g1
  have f9 := fmt_part1 g0 g1
  have fa := fmt_part2 g0 g1
  have fb := fmt_part3 g0 g1
  have fc := fmt_len g0 g1
  have fd := rest_len g0 g1
  have fe := spec_len g0 g1
  have ff := fmt_num g0 g1
  generalize fmtF dg = xF at *
  generalize restF dg = xR at *
  generalize specF dg = xS at *
  generalize PySem.Str.ofString (toString dg) = xD at *
  unfold EzC
  intro prog w p loose mean mg mb dp un gd cn cs a ccd cl outer A₀ base h₀ L m s Q E B F X N T hk hd hu hret
  obtain ⟨ck, c1, c2, c3, c4⟩ := cs
  dsimp only at hk
  subst hk
  k_steps
  all_goals (refine' hret _ [] _ _ (isStr.mk ?e9) ?O9 ?F9 ?N9; (case F9 => k_asm); (case N9 => (walk_at "ez_news")); (case O9 => (walk_at "ez_ord")); (case e9 => (unfold laidT laidS; (walk_at "ez_if"); (walk_at "ez_if"); done)))
end
theorem back_as : True := by
  w_top off
  first | walk1 | trivial
local macro_rules | `(tactic| walk_at "call ref") => `(tactic| (k_here; (with_reducible show wpAny _ _ (call (Value.ref 167) [Value.str (fmtF _) _, Value.ref _]) _ _ _); k_dflt (refine' EzC.useStr (c_laid _ _ _ _ _ _ _ _ _ _ _ _ _ ?m1 ?m2 ?h0 ?s1 ?s2 ?g0 ?g1) ?B9 ?F9 ?X9 ?N9 ?T9 ?k9 ?d9 ?u9 ?_; (case B9 => k_asm); (case F9 => k_asm); (case X9 => k_asm); (case N9 => k_asm); (case T9 => k_asm); (case k9 => first | exact rfl | assumption); (case d9 => (walk_at "ez_room")); (case u9 => (walk_at "ez_room")); (case m1 => k_mem); (case m2 => k_mem); (case h0 => (walk_at "ez_pos")); (case s1 => (walk_at "ez_small")); (case s2 => (walk_at "ez_small")); (case g0 => omega); (case g1 => omega)); intro t9 h' tk' F' N'; (walk_at "ez_tidy")))

theorem back_at : True := by
  w_top off
  first | walk1 | trivial
theorem ite_sbeq {x y : PySem.Str} {a b : Prop} (hc : x ≠ y) (h : b) : if (x == y) = true then a else b := by rw [if_neg (by simpa using hc)]; exact h
theorem ite_sany {x y z : PySem.Str} {a b : Prop} (h1 : z ≠ x) (h2 : z ≠ y) (h : b) : if (List.any [x, y] fun v => v == z) = true then a else b := by
  rw [if_neg]
  · exact h
  · simp only [List.any_cons, List.any_nil, Bool.or_false, Bool.or_eq_true, beq_iff_eq, not_or]
    exact ⟨fun e => h1 e.symm, fun e => h2 e.symm⟩
section
local macro_rules | `(tactic| walk_at "ite") => `(tactic| (k_here; (with_reducible refine ite_sany ?c9 ?d9 ?_); (case c9 => with_reducible assumption); (case d9 => with_reducible assumption)))
local macro_rules | `(tactic| walk_at "ite") => `(tactic| (k_here; (with_reducible refine ite_sbeq ?c9 ?_); (case c9 => with_reducible assumption)))
local macro_rules | `(tactic| walk_at "call builtin:str.strip") => `(tactic| (k_here; (with_reducible show wpAny _ _ (call (Value.builtin "str.strip") [Value.str _ _]) _ _ _); (refine' ez_strip ?e ?l ?_; (case e => with_reducible assumption); (case l => omega)); intro t' k'))
local macro_rules | `(tactic| walk_at "call builtin:str.lower") => `(tactic| (k_here; (with_reducible show wpAny _ _ (call (Value.builtin "str.lower") [Value.str _ _]) _ _ _); (refine' ez_lower ?e ?l ?_; (case e => with_reducible assumption); (case l => omega))))
local macro_rules | `(tactic| walk_at "subscriptTail Name Slice str ref") => `(tactic| (k_here; (with_reducible show wpAny _ _ (subscriptTail _ (Expr.Slice none (some _) none _) (Value.str _ _) (Value.ref _)) _ _ _); (with_reducible rename Fr _ _ _ _ => kF); (with_reducible rename News _ _ _ _ => kN); (refine' ez_slice_ns (s := ⟨_, _, _, _, _⟩) ?e kF kN ?l ?_; (case e => with_reducible assumption); (case l => omega)); intro h' t8 k8 F' N'; (try k_sweep)))
local macro_rules | `(tactic| walk_at "call builtin:str.partition") => `(tactic| (k_here; (with_reducible show wpAny _ _ (call (Value.builtin "str.partition") [Value.str _ _, Value.str _ _]) _ _ _); (refine' KXpa.partition ?F ?N ?y ?e1 ?e2 ?e3 ?l ?_; (case F => k_asm); (case N => k_asm); (case y => decide); (case e1 => with_reducible assumption); (case e2 => with_reducible assumption); (case e3 => with_reducible assumption); (case l => ((rw [PySem.sizeLine_eq]); omega))); intro D' ta tb tc h' k' F' N' l1; (try k_lt l1); (try k_sweep)))
local macro_rules | `(tactic| walk_at "call type:int") => `(tactic| (k_here; (with_reducible show wpAny _ _ (call (Value.type "int") [Value.str _ _]) _ _ _); (refine' KIN.call_text ?e ?l ?_; (case e => with_reducible assumption); (case l => first | assumption | omega))))
local macro_rules | `(tactic| walk_at "call builtin:len") => `(tactic| (k_here; (with_reducible show wpAny _ _ (call (Value.builtin "len") [Value.str _ _]) _ _ _); (refine PyProof.Rows.len_str ?hfit ?_; (case hfit => omega))))
local macro_rules | `(tactic| walk_at "call ref") => `(tactic| (k_here; (with_reducible show wpAny _ _ (call (Value.ref 109) [Value.int _ _, Value.int _ _]) _ _ _); k_dflt (refine' EzC.useDbl (c_Double _ _ _ _ _ ?h0 ?h1 ?h2) ?B9 ?F9 ?X9 ?N9 ?T9 ?k9 ?d9 ?u9 ?_; (case B9 => k_asm); (case F9 => k_asm); (case X9 => k_asm); (case N9 => k_asm); (case T9 => k_asm); (case k9 => first | exact rfl | assumption); (case d9 => (walk_at "ez_room")); (case u9 => (walk_at "ez_room")); (case h0 => (walk_at "ez_pos")); (case h1 => (with_reducible refine' Sm.mono ?h9 ?l9; (case h9 => (with_reducible assumption)); (case l9 => decide))); (case h2 => (with_reducible refine' Sm.mono ?h9 ?l9; (case h9 => (with_reducible assumption)); (case l9 => decide)))); intro x9 d9 i9 j9 v9 w9 t9 u9 h' tk' l1 l2 F' N'; (try simp only [AllLt, and_true] at l1 l2); (walk_at "ez_tidy")))
set_option maxRecDepth 100000 in
set_option maxHeartbeats 8000000 in
theorem c_read0 (news) (x xH xW xD xP : PySem.Str) (M : Int) (tx) (g1 : xP.length ≤ 5) (s1 : Sm 100 M)
    (r0 : x.length ≤ 100) (r1 : Txt.strip x = x) (r2 : Txt.lower x = x) (r3 : Txt.slice x none (some 1) = xH) (r4 : xH ≠ PySem.Str.ofString "-") (r5 : xH ≠ PySem.Str.ofString "+")
    (r6 : x ≠ PySem.Str.ofString "inf") (r7 : x ≠ PySem.Str.ofString "infinity") (r8 : x ≠ PySem.Str.ofString "nan")
    (p1 : (Txt.partition x (PySem.Str.ofString "e")).1 = x) (p2 : (Txt.partition x (PySem.Str.ofString "e")).2.1 = PySem.Str.ofString "") (p3 : (Txt.partition x (PySem.Str.ofString "e")).2.2 = PySem.Str.ofString "")
    (q1 : (Txt.partition x (PySem.Str.ofString ".")).1 = xW) (q2 : (Txt.partition x (PySem.Str.ofString ".")).2.1 = xD) (q3 : (Txt.partition x (PySem.Str.ofString ".")).2.2 = xP)
    (d1 : Dig (xW ++ xP)) (d2 : 1 ≤ xW.length) (d4 : xW.length + xP.length ≤ 100) (i1 : PySem.intText? (xW ++ xP) = some M) (i2 : (xW ++ xP).length ≤ 640) :
    EzC 12 news (call (.ref 160) [.str x tx]) (isDbl (dblN M (10 ^ xP.length)) (dblD M (10 ^ xP.length))) := by
  have t0 : 1 * M * 10 ^ (max (0 - (xP.length : Int)) 0).toNat = M := by
    rw [show (max (0 - (xP.length : Int)) 0).toNat = 0 by omega]
    omega
  have t1 : Sm 100 (1 * M * 10 ^ (max (0 - (xP.length : Int)) 0).toNat) := by rw [t0]; exact s1
  have t3 : (10 : Int) ^ (max (-(0 - (xP.length : Int))) 0).toNat = 10 ^ xP.length := by rw [show (max (-(0 - (xP.length : Int))) 0).toNat = xP.length by omega]
  have t4 : Sm 100 ((10 : Int) ^ (max (-(0 - (xP.length : Int))) 0).toNat) := by
    rw [t3]
    exact (Sm.pow (a := 4) (b := 5) (Sm.lit4 (by decide)) g1).mono (by decide)
  unfold EzC
  intro prog w p loose mean mg mb dp un gd cn cs a ccd cl outer A₀ base h₀ L m s Q E B F X N T hk hd hu hret
  obtain ⟨ck, c1, c2, c3, c4⟩ := cs
  dsimp only at hk
  subst hk
  k_steps
  all_goals (refine' hret _ [_, _] _ _ (isDbl.mk ?e9 ?f9) ?O9 ?F9 ?N9; (case F9 => k_asm); (case N9 => (walk_at "ez_news")); (case O9 => (walk_at "ez_ord")); (case e9 => rw [t0, t3]); (case f9 => rw [t0, t3]))
end
theorem back_au : True := by
  w_top off
  first | walk1 | trivial

theorem back_av : True := by
  w_top off
  first | walk1 | trivial
/-! numbers as texts: plain lists of signs -/
section
open PySem.NumText PyProof.Rows PySem.Builtin.Str
def digs (m : Nat) : List Nat := (Nat.toDigits 10 m).map Char.toNat
def pk : Nat → Nat → List Nat
  | 0, _ => []
  | k + 1, r => pk k (r / 10) ++ [48 + r % 10]
theorem digit_char : ∀ d : Nat, d < 10 → (Nat.digitChar d).toNat = 48 + d := by decide
theorem digs_lt {m : Nat} (h : m < 10) : digs m = [48 + m] := by
  unfold digs
  rw [Nat.toDigits_of_lt_base h]
  show [(Nat.digitChar m).toNat] = _
  rw [digit_char m h]
theorem digs_step {m : Nat} (h : 10 ≤ m) : digs m = digs (m / 10) ++ [48 + m % 10] := by
  have hm : m % 10 < 10 := Nat.mod_lt m (by decide)
  have t : Nat.toDigits 10 (m / 10) ++ Nat.toDigits 10 (m % 10) = Nat.toDigits 10 (10 * (m / 10) + m % 10) := Nat.toDigits_append_toDigits (by decide) (by omega) hm
  rw [Nat.div_add_mod] at t
  rw [← digs_lt hm]
  unfold digs
  rw [← t, List.map_append]
theorem digs_all (m : Nat) : AllDigits (digs m) := by
  intro c hc
  obtain ⟨ch, hch, e⟩ := List.mem_map.mp hc
  have r := digit_range (Nat.isDigit_of_mem_toDigits (by decide) (by decide) hch)
  rw [← e]
  exact r
theorem digs_pos (m : Nat) : 1 ≤ (digs m).length := by
  unfold digs
  rw [List.length_map]
  exact toDigits_len_ge 10 m
theorem pk_len : ∀ (k r : Nat), (pk k r).length = k
  | 0, _ => rfl
  | k + 1, r => by simp [pk, pk_len k]
theorem pk_all : ∀ (k r : Nat), AllDigits (pk k r)
  | 0, _ => by intro c hc; simp [pk] at hc
  | k + 1, r => by
    intro c hc
    rcases List.mem_append.mp hc with hc | hc
    · exact pk_all k _ c hc
    · rw [List.mem_singleton.mp hc]; omega
theorem pk_zero : ∀ k : Nat, pk k 0 = List.replicate k 48
  | 0 => rfl
  | k + 1 => by
    show pk k (0 / 10) ++ [48 + 0 % 10] = _
    rw [Nat.zero_div, pk_zero k, List.replicate_succ']
theorem pk_pad : ∀ (k r : Nat), r < 10 ^ (k + 1) → List.replicate (k + 1 - (digs r).length) 48 ++ digs r = pk (k + 1) r ∧ (digs r).length ≤ k + 1
  | 0, r, h => by
    rw [digs_lt (by omega)]
    refine ⟨?_, by simp⟩
    show _ = [] ++ [48 + r % 10]
    rw [Nat.mod_eq_of_lt (by omega)]
    simp
  | k + 1, r, h => by
    by_cases h1 : r < 10
    · rw [digs_lt h1]
      refine ⟨?_, by simp⟩
      show _ = pk (k + 1) (r / 10) ++ [48 + r % 10]
      rw [Nat.mod_eq_of_lt h1, Nat.div_eq_of_lt h1, pk_zero]
      simp
    · have h2 : r / 10 < 10 ^ (k + 1) := by rw [Nat.pow_succ] at h; omega
      obtain ⟨a, b⟩ := pk_pad k (r / 10) h2
      rw [digs_step (by omega)]
      refine ⟨?_, by simp; omega⟩
      show _ = pk (k + 1) (r / 10) ++ [48 + r % 10]
      rw [← a, List.length_append, List.length_singleton, ← List.append_assoc]
      rw [show k + 1 + 1 - ((digs (r / 10)).length + 1) = k + 1 - (digs (r / 10)).length by omega]
theorem digs_cut : ∀ (k M : Nat), 10 ^ k ≤ M → digs M = digs (M / 10 ^ k) ++ pk k (M % 10 ^ k)
  | 0, M, _ => by simp [pk]
  | k + 1, M, h => by
    have hp : 0 < 10 ^ k := Nat.pow_pos (by decide)
    have h10 : 10 ≤ M := by rw [Nat.pow_succ] at h; omega
    have h1 : 10 ^ k ≤ M / 10 := by rw [Nat.pow_succ] at h; omega
    rw [digs_step h10, digs_cut k (M / 10) h1, List.append_assoc]
    show _ = _ ++ (pk k (M % 10 ^ (k + 1) / 10) ++ [48 + M % 10 ^ (k + 1) % 10])
    have e1 : M % 10 ^ (k + 1) / 10 = M / 10 % 10 ^ k := by rw [Nat.pow_succ, Nat.mul_comm, Nat.mod_mul_right_div_self]
    have e2 : M % 10 ^ (k + 1) % 10 = M % 10 := Nat.mod_mod_of_dvd _ ⟨10 ^ k, by rw [Nat.pow_succ, Nat.mul_comm]⟩
    have e3 : M / 10 ^ (k + 1) = M / 10 / 10 ^ k := by rw [Nat.div_div_eq_div_mul, Nat.pow_succ, Nat.mul_comm]
    rw [e1, e2, e3]
theorem digs_rj (k M : Nat) : List.replicate (k + 1 - (digs M).length) 48 ++ digs M = digs (M / 10 ^ k) ++ pk k (M % 10 ^ k) := by
  by_cases h : 10 ^ k ≤ M
  · rw [digs_cut k M h]
    have := digs_pos (M / 10 ^ k)
    rw [List.length_append, pk_len, show k + 1 - ((digs (M / 10 ^ k)).length + k) = 0 by omega]
    rfl
  · rw [Nat.div_eq_of_lt (by omega), Nat.mod_eq_of_lt (by omega), digs_lt (m := 0) (by decide)]
    cases k with
    | zero =>
      have : M = 0 := by simp at h; exact h
      subst this
      rfl
    | succ k =>
      obtain ⟨a, b⟩ := pk_pad k M (by omega)
      rw [← a, show k + 1 + 1 - (digs M).length = (k + 1 - (digs M).length) + 1 by omega, List.replicate_succ]
      rfl
theorem val_pk (A : List Nat) : ∀ (k r : Nat), r < 10 ^ k → digitsVal (A ++ pk k r) = digitsVal A * 10 ^ k + r
  | 0, r, h => by
    simp at h
    subst h
    simp [pk]
  | k + 1, r, h => by
    show digitsVal (A ++ (pk k (r / 10) ++ [48 + r % 10])) = _
    have h2 : r / 10 < 10 ^ k := by rw [Nat.pow_succ] at h; omega
    rw [← List.append_assoc, digitsVal_snoc, val_pk A k _ h2, Nat.pow_succ, Nat.add_sub_cancel_left, ← Nat.mul_assoc]
    omega
/-! the texts -/
theorem cps_num (m : Nat) : (PySem.Str.ofString (toString ((m : Nat) : Int))).cps.toList = digs m := KIN.signs_num m
theorem str_ext {x y : PySem.Str} (h : x.cps.toList = y.cps.toList) : x = y := by
  cases x; cases y
  exact congrArg PySem.Str.mk (Array.toList_inj.mp h)
theorem cps_app (x y : PySem.Str) : (x ++ y).cps.toList = x.cps.toList ++ y.cps.toList := by rw [PySem.Str.cps_append, Array.toList_append]
theorem len_list (x : PySem.Str) : x.length = x.cps.toList.length := by simp [PySem.Str.length]
theorem cps_zfill (r k : Nat) : (Txt.zfill (PySem.Str.ofString (toString ((r : Nat) : Int))) (k : Int)).cps.toList = List.replicate (k - (digs r).length) 48 ++ digs r := by
  have e := cps_num r
  have hl := len_list (PySem.Str.ofString (toString ((r : Nat) : Int)))
  rw [e] at hl
  unfold Txt.zfill
  split
  · rename_i h
    rw [hl] at h
    rw [e, show k - (digs r).length = 0 by omega]
    rfl
  · rename_i h
    rw [hl] at h ⊢
    have h0 : (PySem.Str.ofString (toString ((r : Nat) : Int))).cps[0]? = (digs r)[0]? := by rw [← e]; simp
    have hz : zfilled (PySem.Str.ofString (toString ((r : Nat) : Int))) ((k : Int).toNat - (digs r).length) = padded (PySem.Str.ofString (toString ((r : Nat) : Int))) ((k : Int).toNat - (digs r).length) 0 48 := by
      unfold zfilled
      rw [h0]
      have hp := digs_pos r
      cases hd : digs r with
      | nil => rw [hd] at hp; simp at hp
      | cons c l =>
        have := digs_all r c (by rw [hd]; exact List.mem_cons_self ..)
        simp only [List.getElem?_cons_zero]
        split
        · rename_i hc; cases hc; omega
        · rename_i hc; cases hc; omega
        · rfl
    rw [hz]
    unfold padded
    simp
    exact e
theorem fdiv_nat (m k : Nat) : ((m : Int)).fdiv (10 ^ k) = ((m / 10 ^ k : Nat) : Int) := by
  rw [Int.fdiv_eq_ediv_of_nonneg _ (Int.le_of_lt (Int.pow_pos (by decide)))]
  simp
theorem fmod_nat (m k : Nat) : ((m : Int)).fmod (10 ^ k) = ((m % 10 ^ k : Nat) : Int) := by
  rw [Int.fmod_eq_emod_of_nonneg _ (Int.le_of_lt (Int.pow_pos (by decide)))]
  simp
theorem cps_laid (m k : Nat) : (laidS (k : Int) (m : Int)).cps.toList = digs (m / 10 ^ k) ++ (if k = 0 then [] else 46 :: pk k (m % 10 ^ k)) := by
  unfold laidS
  rw [Int.toNat_natCast, fdiv_nat, fmod_nat, cps_app, cps_num]
  congr 1
  cases k with
  | zero => simp; rfl
  | succ k =>
    rw [if_neg (by omega), if_neg (by omega), cps_app, cps_zfill, (pk_pad k (m % 10 ^ (k + 1)) (Nat.mod_lt _ (Nat.pow_pos (by decide)))).1]
    rfl
/-! the first place of a sign -/
theorem occ_still (x y : PySem.Str) (hi : Nat) (l2 : List Nat) : ∀ (l : List Nat) (k : Nat), (∀ i ∈ l, ¬ (i + y.length ≤ hi ∧ subAt x y i = true)) → (forIn (m := Id) (l ++ l2) ((#[] : Array Nat), k) (StrLaws.occBody x y hi 1)).run = (forIn (m := Id) l2 ((#[] : Array Nat), k) (StrLaws.occBody x y hi 1)).run
  | [], _, _ => rfl
  | a :: l, k, h => by
    rw [List.cons_append, List.forIn_cons]
    have c : StrLaws.occBody x y hi 1 a ((#[] : Array Nat), k) = pure (ForInStep.yield (#[], k)) := by
      unfold StrLaws.occBody
      rw [if_neg fun c => h a (List.mem_cons_self ..) ⟨c.1.2, c.2⟩]
    rw [c]
    exact occ_still x y hi l2 l k fun i hi' => h i (List.mem_cons_of_mem _ hi')
theorem occ_full (x y : PySem.Str) (hi : Nat) : ∀ (l : List Nat) (st : Array Nat × Nat), st.1.size = 1 → (forIn (m := Id) l st (StrLaws.occBody x y hi 1)).run = st
  | [], _, _ => rfl
  | a :: l, st, h => by
    rw [List.forIn_cons]
    unfold StrLaws.occBody
    rw [if_neg fun c => by have := c.1.1.1; omega]
    exact occ_full x y hi l st h
theorem occ_first {x y : PySem.Str} {j : Nat} (h1 : j + y.length ≤ x.length) (h2 : subAt x y j = true) (hb : ∀ i, i < j → ¬ (i + y.length ≤ x.length ∧ subAt x y i = true)) : occurrences x y 0 x.length 1 = [j] := by
  rw [StrLaws.occ_eq]
  have e : List.range' 0 (x.length + 1 - 0) = List.range' 0 j ++ j :: List.range' (j + 1) (x.length - j) := by
    rw [show x.length + 1 - 0 = j + (x.length - j + 1) by omega, ← List.range'_append_1, Nat.zero_add, List.range'_succ]
  rw [e, occ_still x y x.length _ (List.range' 0 j) 0 fun i hi => hb i (by simp [List.mem_range'] at hi; omega), List.forIn_cons]
  have c : StrLaws.occBody x y x.length 1 j ((#[] : Array Nat), 0) = pure (ForInStep.yield (#[j], j + y.length)) := by
    unfold StrLaws.occBody
    rw [if_pos ⟨⟨⟨by simp, Nat.zero_le _⟩, h1⟩, h2⟩]
    rfl
  rw [c]
  show (forIn (m := Id) (List.range' (j + 1) (x.length - j)) ((#[j] : Array Nat), j + y.length) (StrLaws.occBody x y x.length 1)).run.fst.toList = [j]
  rw [occ_full x y x.length _ _ rfl]
theorem occ_sign {x : PySem.Str} {c : Nat} {A P : List Nat} (h : x.cps.toList = A ++ c :: P) (hA : c ∉ A) : occurrences x ⟨#[c]⟩ 0 x.length 1 = [A.length] := by
  have k := (StrLaws.subAt_one x c A.length).mpr (by rw [h]; simp)
  refine occ_first k.1 k.2 fun i hi hc => ?_
  have := (StrLaws.subAt_one x c i).mp hc
  rw [h, List.getElem?_append_left hi] at this
  exact hA (List.mem_of_getElem? this)
theorem occ_no {x : PySem.Str} {c : Nat} (h : c ∉ x.cps.toList) : occurrences x ⟨#[c]⟩ 0 x.length 1 = [] := by
  have := StrLaws.found_one x c
  rw [decide_eq_false h] at this
  cases hx : occurrences x ⟨#[c]⟩ 0 x.length 1 with
  | nil => rfl
  | cons a l => rw [hx] at this; simp at this
theorem part_no {x : PySem.Str} {c : Nat} (h : c ∉ x.cps.toList) : Txt.partition x ⟨#[c]⟩ = (x, PySem.Str.empty, PySem.Str.empty) := by
  unfold Txt.partition
  rw [occ_no h]
theorem part_sign {x : PySem.Str} {c : Nat} {A P : List Nat} (h : x.cps.toList = A ++ c :: P) (hA : c ∉ A) :
    (Txt.partition x ⟨#[c]⟩).1.cps.toList = A ∧ (Txt.partition x ⟨#[c]⟩).2.2.cps.toList = P := by
  unfold Txt.partition
  rw [occ_sign h hA]
  have hl := len_list x
  rw [h] at hl
  constructor
  · show (strSub x 0 A.length).cps.toList = A
    rw [StrLaws.strSub_toList, h]
    simp
  · show (strSub x (A.length + (⟨#[c]⟩ : PySem.Str).length) x.length).cps.toList = P
    rw [StrLaws.strSub_toList, h, hl]
    show (List.drop (A.length + 1) (A ++ c :: P)).take ((A ++ c :: P).length - (A.length + 1)) = P
    rw [List.drop_append, List.drop_eq_nil_of_le (by omega), List.length_append, List.length_cons, show A.length + 1 - A.length = 1 by omega, show A.length + (P.length + 1) - (A.length + 1) = P.length by omega]
    simp
theorem dot_eq : PySem.Str.ofString "." = ⟨#[46]⟩ := rfl
theorem e_eq : PySem.Str.ofString "e" = ⟨#[101]⟩ := rfl
theorem slice_head {x : PySem.Str} {c : Nat} {l : List Nat} (h : x.cps.toList = c :: l) : Txt.slice x none (some 1) = ⟨#[c]⟩ := by
  have e := PySem.StrLaws.sliceText_to (x := x) (j := 1) ⟨by decide, by rw [h]; simp; omega⟩
  have e2 : Txt.slice x none (some 1) = PySem.StrLaws.sliceText x none (some 1) := rfl
  rw [e2, e, h]
  rfl
theorem head_ne {x : PySem.Str} {c : Nat} {l : List Nat} {y : PySem.Str} {c' : Nat} {l' : List Nat} (h : x.cps.toList = c :: l) (h' : y.cps.toList = c' :: l') (n : c ≠ c') : x ≠ y := by
  rintro rfl
  rw [h] at h'
  exact n (List.cons.inj h').1
theorem Sm_of20 {x : Int} (h : 0 ≤ x) (g : x < 10 ^ 20) : Sm 100 x := by unfold Sm; omega
theorem c_read_laid (news) (m k : Nat) (tx) (hk : k ≤ 5) (s1 : m < 10 ^ 20) :
    EzC 12 news (call (.ref 160) [.str (laidS (k : Int) (m : Int)) tx]) (isDbl (dblN m (10 ^ k)) (dblD m (10 ^ k))) := by
  have hL := cps_laid m k
  have hq : m / 10 ^ k < 10 ^ 20 := Nat.lt_of_le_of_lt (Nat.div_le_self _ _) s1
  have hql : (digs (m / 10 ^ k)).length ≤ 20 := by
    unfold digs
    rw [List.length_map]
    exact digits10_le (by decide) hq
  have hqp := digs_pos (m / 10 ^ k)
  have hqa := digs_all (m / 10 ^ k)
  have hpa := pk_all k (m % 10 ^ k)
  have hpl := pk_len k (m % 10 ^ k)
  have hv := val_pk (digs (m / 10 ^ k)) k (m % 10 ^ k) (Nat.mod_lt _ (Nat.pow_pos (by decide)))
  have hdv : digitsVal (digs (m / 10 ^ k)) = m / 10 ^ k := KIN.val_back _
  rw [hdv, Nat.mul_comm, Nat.div_add_mod] at hv
  have hvr : digs (m / 10 ^ k) ++ pk k (m % 10 ^ k) = digs (m / 10 ^ k) ++ pk k (m % 10 ^ k) := rfl
  generalize digs (m / 10 ^ k) = A at *
  generalize pk k (m % 10 ^ k) = P at *
  generalize laidS (k : Int) (m : Int) = x at *
  have hx : ∀ c ∈ x.cps.toList, c = 46 ∨ (48 ≤ c ∧ c ≤ 57) := by
    intro c hc
    rw [hL] at hc
    rcases List.mem_append.mp hc with hc | hc
    · exact .inr (hqa c hc)
    · split at hc
      · simp at hc
      · rcases List.mem_cons.mp hc with hc | hc
        · exact .inl hc
        · exact .inr (hpa c hc)
  have still : KXs.Still x := fun c hc => by have := hx c hc; omega
  obtain ⟨c, l, hA⟩ : ∃ c l, A = c :: l := by
    cases A with
    | nil => simp at hqp
    | cons c l => exact ⟨c, l, rfl⟩
  have hcd := hqa c (by rw [hA]; exact List.mem_cons_self ..)
  obtain ⟨l2, hx2⟩ : ∃ l2, x.cps.toList = c :: l2 := ⟨_, by rw [hL, hA]; rfl⟩
  have hxl : x.length ≤ 100 := by
    rw [len_list, hL, List.length_append]
    split
    · simp; omega
    · rw [List.length_cons]; omega
  have hno : (46 : Nat) ∉ A := fun h => by have := hqa _ h; omega
  have he : (101 : Nat) ∉ x.cps.toList := fun h => by have := hx _ h; omega
  have pe := part_no he
  rw [← e_eq] at pe
  obtain ⟨xW, xD, xP, hp, hW, hP⟩ : ∃ xW xD xP, Txt.partition x (PySem.Str.ofString ".") = (xW, xD, xP) ∧ xW.cps.toList = A ∧ xP.cps.toList = P := by
    by_cases h0 : k = 0
    · rw [if_pos h0, List.append_nil] at hL
      have hP0 : P = [] := List.length_eq_zero_iff.mp (by omega)
      have p := part_no (x := x) (c := 46) (by rw [hL]; exact hno)
      rw [← dot_eq] at p
      exact ⟨_, _, _, p, hL, by rw [hP0]; rfl⟩
    · rw [if_neg h0] at hL
      have p := part_sign hL hno
      rw [← dot_eq] at p
      exact ⟨_, _, _, rfl, p.1, p.2⟩
  have hWl := len_list xW
  have hPl := len_list xP
  rw [hW] at hWl
  rw [hP] at hPl
  have hcat : (xW ++ xP).cps.toList = A ++ P := by rw [cps_app, hW, hP]
  have hdig : AllDigits (xW ++ xP).cps.toList := by
    intro c hc
    rw [hcat] at hc
    rcases List.mem_append.mp hc with hc | hc
    · exact hqa c hc
    · exact hpa c hc
  have hcl := len_list (xW ++ xP)
  rw [hcat, List.length_append] at hcl
  have hi : PySem.intText? (xW ++ xP) = some (m : Int) := by
    rw [intText_digits hdig (by rw [hcat, hA]; simp) (by omega), hcat, hv]
  have r := c_read0 news x ⟨#[c]⟩ xW xD xP m tx (by omega) (by
      have : (m : Int) < 10 ^ 20 := by exact_mod_cast s1
      exact Sm_of20 (by omega) this) hxl (KXs.strip_still still) (KXs.lower_still still) (slice_head hx2) (head_ne (x := ⟨#[c]⟩) (y := PySem.Str.ofString "-") (c := c) (l := []) (c' := 45) (l' := []) rfl rfl (by omega)) (head_ne (x := ⟨#[c]⟩) (y := PySem.Str.ofString "+") (c := c) (l := []) (c' := 43) (l' := []) rfl rfl (by omega))
    (head_ne hx2 (c' := 105) (l' := [110, 102]) rfl (by omega)) (head_ne hx2 (c' := 105) (l' := [110, 102, 105, 110, 105, 116, 121]) rfl (by omega)) (head_ne hx2 (c' := 110) (l' := [97, 110]) rfl (by omega))
    (by rw [pe]) (by rw [pe]; rfl) (by rw [pe]; rfl) (by rw [hp]) (by rw [hp]) (by rw [hp]) hdig (by omega) (by omega) hi (by omega)
  rw [show xP.length = k by omega] at r
  exact r
end
theorem back_aw : True := by
  w_top off
  first | walk1 | trivial
theorem laidT_pos {n d dg : Int} (h : 0 ≤ n) : laidT n d dg = laidS dg (rndI ((n.natAbs : Int) * 10 ^ dg.toNat) d) := by
  unfold laidT
  rw [if_neg (by omega)]
  apply str_ext
  rw [cps_app, cps_app, cps_app]
  show [] ++ [] ++ _ ++ [] = _
  simp
def rdN (n d dg : Int) : Int := rndI ((n.natAbs : Int) * 10 ^ dg.toNat) d
theorem rnd_nonneg {n d : Int} (h : 0 ≤ n) (hd : 0 < d) : 0 ≤ rndI n d := by
  have := Int.fdiv_nonneg h (Int.le_of_lt hd)
  unfold rndI
  split <;> omega
theorem c_read_text (news) (n d dg : Int) (tx) (h0 : 0 ≤ n) (hd : 0 < d) (g0 : 0 ≤ dg) (g1 : dg ≤ 5) (s1 : rdN n d dg < 10 ^ 20) :
    EzC 12 news (call (.ref 160) [.str (laidT n d dg) tx]) (isDbl (dblN (rdN n d dg) (10 ^ dg.toNat)) (dblD (rdN n d dg) (10 ^ dg.toNat))) := by
  rw [laidT_pos h0]
  have hp : 0 ≤ rdN n d dg := rnd_nonneg (Int.mul_nonneg (Int.natCast_nonneg _) (Int.le_of_lt (Int.pow_pos (by decide)))) hd
  obtain ⟨m, hm⟩ := Int.eq_ofNat_of_zero_le hp
  obtain ⟨k, hk⟩ := Int.eq_ofNat_of_zero_le g0
  subst hk
  have e : rndI ((n.natAbs : Int) * 10 ^ (k : Int).toNat) d = m := hm
  rw [e]
  rw [hm] at s1 ⊢
  exact c_read_laid news m k tx (by omega) (by exact_mod_cast s1)
local macro_rules | `(tactic| walk_at "call ref") => `(tactic| (k_here; (with_reducible show wpAny _ _ (call (Value.ref 160) [Value.str (laidT _ _ _) _]) _ _ _); k_dflt (refine' EzC.useDbl (c_read_text _ _ _ _ _ ?h0 ?hd ?g0 ?g1 ?s1) ?B9 ?F9 ?X9 ?N9 ?T9 ?k9 ?d9 ?u9 ?_; (case B9 => k_asm); (case F9 => k_asm); (case X9 => k_asm); (case N9 => k_asm); (case T9 => k_asm); (case k9 => first | exact rfl | assumption); (case d9 => (walk_at "ez_room")); (case u9 => (walk_at "ez_room")); (case h0 => (walk_at "ez_nn")); (case hd => (walk_at "ez_pos")); (case g0 => omega); (case g1 => omega); (case s1 => with_reducible assumption)); intro x9 d9 i9 j9 v9 w9 t9 u9 h' tk' l1 l2 F' N'; (try simp only [AllLt, and_true] at l1 l2); (walk_at "ez_tidy")))
theorem EzC.useMantE {k : Nat} {news : List (Addr × Obj)} {t : Sem Value} {n9 d9 n d dg E9 : Int} (c : EzC k news t (fun v new => ∃ k, WL n9 d9 k ∧ isMant (mantT n dg (mantV n d dg k)) (mantE n d dg k) v new)) (hE : ∀ k, WL n9 d9 k → mantE n d dg k = E9) {prog : Program} {w : World} {p : Program} {loose : List PySem.Str} {mean : ExcName → Option Value} {mg mb : PySem.Str → Option Value}
    {dp un : Nat} {gd : Option (List Code)} {cn : PySem.Str} {cs : Scope} {a : Addr} {ccd : Value} {cl : List (PySem.Str × Addr)} {outer : List Env} {A₀ : Around} {base h₀ : Heap} {L : Addr} {m : PySem.Str → Option Value} {s : Shared} {Q E : Value → Shared → Prop}
    (B : Below A₀ base outer h₀) (F : Fr h₀ L s.heap m) (X : (hd.heap_39 w.params).In h₀) (N : News h₀ L s.heap news) (T : Top p loose mean mg mb h₀) (hk : cs.kind = .function) (hd : dp + k < recursionLimit) (hu : un + 16 * k < cLine)
    (h : ∀ a t u x h' tk', AllLt a news → Fr h₀ L h' m → News h₀ L h' ((a, ({ cls := .type "tuple", data := .seq #[.str x t, .int E9 u] } : Obj)) :: news) → Q (.ref a) { s with heap := h', toks := tk' }) :
    wpAny (model prog w) (ktrTop dp un gd cn cs L a ccd cl outer) t Q E s := c.use B F X N T hk hd hu fun v new h' tk' R O F' N' => by
  obtain ⟨k, W, a, t, u, rfl, rfl⟩ := R
  rw [hE k W] at N'
  exact h a t u _ h' tk' (O _ (.head _)) F' N'
theorem dblN_nn {n d : Int} (h : 0 ≤ n) (hd : 0 < d) : 0 ≤ dblN n d := by
  unfold dblN
  split
  · exact h
  · unfold nearN nearW
    exact Int.mul_nonneg (rnd_nonneg (Int.mul_nonneg h (Int.le_of_lt (two_pow_pos _))) (Int.mul_pos hd (two_pow_pos _))) (Int.le_of_lt (two_pow_pos _))
local macro_rules | `(tactic| walk_at "ez_nn") => `(tactic| first | exact Int.natCast_nonneg _ | (refine dblN_nn ?_ ?_; (walk_at "ez_nn"); (walk_at "ez_pos")) | omega)

theorem back_ax : True := by
  w_top off
  first | walk1 | trivial
/-! joins: a part of the walk is walked by itself, its end told by a structure -/
section
variable {W : Value → List (Addr × Obj) → Prop} {h₀ : Heap} {L : Addr} {m : PySem.Str → Option Value} {news : List (Addr × Obj)} {M : Model} {A : Around} {s : Shared}
structure CutV (W : Value → List (Addr × Obj) → Prop) (h₀ : Heap) (L : Addr) (m : PySem.Str → Option Value) (news : List (Addr × Obj)) (s : Shared) (v : Value) (s' : Shared) : Prop where
  here : ∃ new h' tk', W v new ∧ (∀ q ∈ new, AllLt q.1 news) ∧ s' = { s with heap := h', toks := tk' } ∧ Fr h₀ L h' m ∧ News h₀ L h' (new ++ news)
structure CutS (x : PySem.Str) (W : Value → List (Addr × Obj) → Prop) (h₀ : Heap) (L : Addr) (m : PySem.Str → Option Value) (news : List (Addr × Obj)) (s : Shared) (f : Flow) (s' : Shared) : Prop where
  next : f = .next
  here : ∃ v new h' tk', W v new ∧ (∀ q ∈ new, AllLt q.1 news) ∧ s' = { s with heap := h', toks := tk' } ∧ Fr h₀ L h' (fun y => if y = x then some v else m y) ∧ News h₀ L h' (new ++ news)
theorem CutV.intro {v : Value} (new : List (Addr × Obj)) (h' : Heap) (tk' : Nat) (hW : W v new) (O : ∀ q ∈ new, AllLt q.1 news) (F : Fr h₀ L h' m) (N : News h₀ L h' (new ++ news)) : CutV W h₀ L m news s v { s with heap := h', toks := tk' } := ⟨⟨new, h', tk', hW, O, rfl, F, N⟩⟩
theorem CutS.intro {x : PySem.Str} {v : Value} (new : List (Addr × Obj)) (h' : Heap) (tk' : Nat) (F : Fr h₀ L h' (fun y => if y = x then some v else m y)) (N : News h₀ L h' (new ++ news)) (O : ∀ q ∈ new, AllLt q.1 news) (hW : W v new) : CutS x W h₀ L m news s .next { s with heap := h', toks := tk' } := ⟨rfl, ⟨v, new, h', tk', hW, O, rfl, F, N⟩⟩
/-- a part that is walked after the rest -/
structure Later (P : Prop) : Prop where
  now : P
def CutInt (_ : Int) : Prop := True
def CutDbl (_ _ : Int) : Prop := True
theorem cut_int {t : Sem Value} {Q Ex : Value → Shared → Prop} {e : Int} (_c : CutInt e) (_F : Fr h₀ L s.heap m) (_N : News h₀ L s.heap news) (h1 : Later (wpAny M A t (CutV (isInt e) h₀ L m news s) Ex s))
    (h2 : ∀ t h' tk', Fr h₀ L h' m → News h₀ L h' news → Q (.int e t) { s with heap := h', toks := tk' }) : wpAny M A t Q Ex s := by
  refine wpAny_mono h1.now (fun v s' c => ?_) fun _ _ h => h
  obtain ⟨new, h', tk', ⟨rfl, t, rfl⟩, _, rfl, F', N'⟩ := c.here
  exact h2 t h' tk' F' N'
theorem cut_dbl {t : Sem Value} {Q Ex : Value → Shared → Prop} {x y : Int} (_c : CutDbl x y) (_F : Fr h₀ L s.heap m) (_N : News h₀ L s.heap news) (h1 : Later (wpAny M A t (CutV (isDbl x y) h₀ L m news s) Ex s))
    (h2 : ∀ a d h1 h2 k1 k2 t u h' tk', AllLt a news → AllLt d news → Fr h₀ L h' m → News h₀ L h' ((a, instObj 109 d) :: (d, dictOf [⟨h1, .str (PySem.Str.ofString "n") k1, .int x t⟩, ⟨h2, .str (PySem.Str.ofString "d") k2, .int y u⟩] 2) :: news) → Q (.ref a) { s with heap := h', toks := tk' }) : wpAny M A t Q Ex s := by
  refine wpAny_mono h1.now (fun v s' c => ?_) fun _ _ h => h
  obtain ⟨new, h', tk', R, O, rfl, F', N'⟩ := c.here
  obtain ⟨a, d, h1, h2', k1, k2, t, u, rfl, rfl⟩ := R
  exact h2 a d h1 h2' k1 k2 t u h' tk' (O _ (.head _)) (O _ (.tail _ (.head _))) F' N'
theorem cut_bool {t : Sem Value} {Q Ex : Value → Shared → Prop} {b : Bool} (_F : Fr h₀ L s.heap m) (_N : News h₀ L s.heap news) (h1 : Later (wpAny M A t (CutV (isBool b) h₀ L m news s) Ex s))
    (h2 : ∀ h' tk', Fr h₀ L h' m → News h₀ L h' news → Q (.bool b) { s with heap := h', toks := tk' }) : wpAny M A t Q Ex s := by
  refine wpAny_mono h1.now (fun v s' c => ?_) fun _ _ h => h
  obtain ⟨new, h', tk', ⟨rfl, rfl⟩, _, rfl, F', N'⟩ := c.here
  exact h2 h' tk' F' N'
theorem cut_str {x : PySem.Str} {st : Stmt} {env : Env} {Q : Flow → Shared → Prop} {Ex : Value → Shared → Prop} {T : PySem.Str} (_F : Fr h₀ L s.heap m) (_N : News h₀ L s.heap news) (h1 : wpAny M A (exec st env) (CutS x (isStr T) h₀ L m news s) Ex s)
    (h2 : ∀ t h' tk', Fr h₀ L h' (fun y => if y = x then some (.str T t) else m y) → News h₀ L h' news → Q .next { s with heap := h', toks := tk' }) : wpAny M A (exec st env) Q Ex s := by
  refine wpAny_mono h1 (fun v s' c => ?_) fun _ _ h => h
  obtain ⟨rfl, v, new, h', tk', ⟨rfl, t, rfl⟩, _, rfl, F', N'⟩ := c
  exact h2 t h' tk' F' N'
@[irreducible] def ordA (i : Int) : PySem.Str := Txt.item (PySem.Str.ofString "kMGTPEZYRQ") i
@[irreducible] def ordB (i : Int) : PySem.Str := Txt.item (PySem.Str.ofString "mμnpfazyrq") i
def ordT (e : Int) : PySem.Str := if e ≥ 3 then ordA (e.fdiv 3 - 1) else if e < 0 then ordB ((-e - 1).fdiv 3) else PySem.Str.ofString ""
section
variable {prog : Program} {w : World} {A : Around} {E : Value → Shared → Prop} {s : Shared} {t u : Tok} {i : Int} {Q : Value → Shared → Prop}
theorem ez_ordA {value slice : PySem.Expr} (h0 : 0 ≤ i) (h1 : i ≤ 9) (h : Q (.str (ordA i) s.toks) { s with toks := s.toks + 1 })
    (hs : subscripted slice false (.str (PySem.Str.ofString "kMGTPEZYRQ") t) (.int i u) = operate [.str (PySem.Str.ofString "kMGTPEZYRQ") t, .int i u] (getItem (.str (PySem.Str.ofString "kMGTPEZYRQ") t) (.int i u)) := by with_unfolding_all rfl)
    (ht : ∀ r, letTemporaryGo value (.str (PySem.Str.ofString "kMGTPEZYRQ") t) r = pure () := by intro _; with_unfolding_all rfl) :
    wpAny (model prog w) A (subscriptTail value slice (.str (PySem.Str.ofString "kMGTPEZYRQ") t) (.int i u)) Q E s := by
  have hl : (PySem.Str.ofString "kMGTPEZYRQ").length = 10 := by decide +kernel
  refine ez_itemE (z := ordA i) (by unfold ordA; rfl) h0 (by rw [hl]; omega) (by omega) h hs ht
theorem ez_ordB {value slice : PySem.Expr} (h0 : 0 ≤ i) (h1 : i ≤ 9) (h : Q (.str (ordB i) s.toks) { s with toks := s.toks + 1 })
    (hs : subscripted slice false (.str (PySem.Str.ofString "mμnpfazyrq") t) (.int i u) = operate [.str (PySem.Str.ofString "mμnpfazyrq") t, .int i u] (getItem (.str (PySem.Str.ofString "mμnpfazyrq") t) (.int i u)) := by with_unfolding_all rfl)
    (ht : ∀ r, letTemporaryGo value (.str (PySem.Str.ofString "mμnpfazyrq") t) r = pure () := by intro _; with_unfolding_all rfl) :
    wpAny (model prog w) A (subscriptTail value slice (.str (PySem.Str.ofString "mμnpfazyrq") t) (.int i u)) Q E s := by
  have hl : (PySem.Str.ofString "mμnpfazyrq").length = 10 := by decide +kernel
  refine ez_itemE (z := ordB i) (by unfold ordB; rfl) h0 (by rw [hl]; omega) (by omega) h hs ht
end
theorem back_ay : True := by
  w_top off
  first | walk1 | trivial
def spaceT (u o : PySem.Str) : PySem.Str := if (u.length = 0 ∧ o.length = 0) ∨ u = PySem.Str.ofString "°" ∨ u = PySem.Str.ofString "′" ∨ u = PySem.Str.ofString "″" then PySem.Str.ofString "" else PySem.Str.ofString " "
theorem space_1 {u o : PySem.Str} (h : (List.any [PySem.Str.ofString "°", PySem.Str.ofString "′", PySem.Str.ofString "″"] fun x => x == u) = true) : PySem.Str.ofString "" = spaceT u o := by
  unfold spaceT
  rw [if_pos]
  simp only [List.any_cons, List.any_nil, Bool.or_false, Bool.or_eq_true, beq_iff_eq] at h
  rcases h with h | h | h
  · exact .inr (.inl h.symm)
  · exact .inr (.inr (.inl h.symm))
  · exact .inr (.inr (.inr h.symm))
theorem space_2 {u o : PySem.Str} (h : (List.any [PySem.Str.ofString "°", PySem.Str.ofString "′", PySem.Str.ofString "″"] fun x => x == u) = false) (g : (u.length : Int) ≠ 0 ∨ (o.length : Int) ≠ 0) : PySem.Str.ofString " " = spaceT u o := by
  unfold spaceT
  rw [if_neg]
  simp only [List.any_cons, List.any_nil, Bool.or_false, Bool.or_eq_false_iff, beq_eq_false_iff_ne] at h
  rintro (⟨h1, h2⟩ | h1 | h1 | h1)
  · omega
  · exact h.1 h1.symm
  · exact h.2.1 h1.symm
  · exact h.2.2 h1.symm
theorem space_3 {u o : PySem.Str} (h : (u.length : Int) = 0) (g : (o.length : Int) = 0) : PySem.Str.ofString "" = spaceT u o := by
  unfold spaceT
  rw [if_pos (.inl ⟨by omega, by omega⟩)]
theorem cut_ord {st : Stmt} {env : Env} {Q : Flow → Shared → Prop} {Ex : Value → Shared → Prop} {e : Int} {te : Tok} (he : m (PySem.Str.ofString "exponent") = some (.int e te)) (F : Fr h₀ L s.heap m) (N : News h₀ L s.heap news) (h1 : wpAny M A (exec st env) (CutS (PySem.Str.ofString "ordinal_") (isStr (ordT e)) h₀ L m news s) Ex s)
    (h2 : ∀ t h' tk', Fr h₀ L h' (fun y => if y = PySem.Str.ofString "ordinal_" then some (.str (ordT e) t) else m y) → News h₀ L h' news → Q .next { s with heap := h', toks := tk' }) : wpAny M A (exec st env) Q Ex s := cut_str F N h1 h2
theorem cut_space {st : Stmt} {env : Env} {Q : Flow → Shared → Prop} {Ex : Value → Shared → Prop} {u o : PySem.Str} {tu to : Tok} (hu : m (PySem.Str.ofString "unit") = some (.str u tu)) (ho : m (PySem.Str.ofString "ordinal_") = some (.str o to)) (F : Fr h₀ L s.heap m) (N : News h₀ L s.heap news) (h1 : wpAny M A (exec st env) (CutS (PySem.Str.ofString "space") (isStr (spaceT u o)) h₀ L m news s) Ex s)
    (h2 : ∀ t h' tk', Fr h₀ L h' (fun y => if y = PySem.Str.ofString "space" then some (.str (spaceT u o) t) else m y) → News h₀ L h' news → Q .next { s with heap := h', toks := tk' }) : wpAny M A (exec st env) Q Ex s := cut_str F N h1 h2
end
theorem back_az : True := by
  w_top off
  first | walk1 | trivial
theorem fmt_eq {dg : Int} : PySem.Str.empty ++ PySem.Str.ofString "%." ++ PySem.Str.ofString (toString dg) ++ PySem.Str.ofString "f" = fmtF dg := by rw [PySem.Str.empty_append]; rfl

theorem back_ba : True := by
  w_top off
  first | walk1 | trivial
section
local macro_rules | `(tactic| walk_at "call ref") => `(tactic| (k_here; (with_reducible show wpAny _ _ (call (Value.ref 181) [Value.ref _, Value.int _ _]) _ _ _); k_dflt (refine' EzC.useMantE (c_mant _ _ _ _ _ _ _ _ _ _ _ _ _ ?m1 ?m2 ?h0 ?b0 ?s1 ?s2 ?g0 ?g1) ?hE ?B9 ?F9 ?X9 ?N9 ?T9 ?k9 ?d9 ?u9 ?_; (case B9 => k_asm); (case F9 => k_asm); (case X9 => k_asm); (case N9 => k_asm); (case T9 => k_asm); (case k9 => first | exact rfl | assumption); (case d9 => (walk_at "ez_room")); (case u9 => (walk_at "ez_room")); (case m1 => k_mem); (case m2 => k_mem); (case hE => with_reducible assumption); (case h0 => (walk_at "ez_pos")); (case b0 => first | assumption | omega | (refine pos_ne ?_; (walk_at "ez_pos"))); (case s1 => (walk_at "ez_small")); (case s2 => (walk_at "ez_small")); (case g0 => omega); (case g1 => omega)); intro d9 t9 u9 x9 h' tk' l1 F' N'; (try simp only [AllLt, and_true] at l1); (walk_at "ez_tidy")))
local macro_rules | `(tactic| walk_at "call ref") => `(tactic| (k_here; (try dsimp only); (with_reducible show wpAny _ _ (call (Value.ref 57) [Value.ref _]) _ _ _); k_dflt (refine' EzC.useDbl (c_size _ _ _ _ _ _ _ _ _ _ _ ?m1 ?m2 ?h0 ?s1 ?s2) ?B9 ?F9 ?X9 ?N9 ?T9 ?k9 ?d9 ?u9 ?_; (case B9 => k_asm); (case F9 => k_asm); (case X9 => k_asm); (case N9 => k_asm); (case T9 => k_asm); (case k9 => first | exact rfl | assumption); (case d9 => (walk_at "ez_room")); (case u9 => (walk_at "ez_room")); (case m1 => k_mem); (case m2 => k_mem); (case h0 => (walk_at "ez_pos")); (case s1 => (walk_at "ez_small")); (case s2 => (walk_at "ez_small"))); intro x9 d9 i9 j9 v9 w9 t9 u9 h' tk' l1 l2 F' N'; (try simp only [AllLt, and_true] at l1 l2); (walk_at "ez_tidy")))
local macro_rules | `(tactic| walk_at "eval IfExp") => `(tactic| (k_here; (with_reducible show wpAny _ _ (eval (Expr.IfExp (Expr.BoolOp _ _ _) _ _ _) _) _ _ _); (fail_if_success (with_reducible show wpAny _ _ _ (CutV _ _ _ _ _ _) _ _)); (refine' cut_int ?c9 ?F9 ?N9 ?_ (fun t9 h' tk' F' N' => ?_); (case c9 => with_reducible assumption); (case F9 => k_asm); (case N9 => k_asm); (all_goals (try (walk_at "ez_tidy"))))))
local macro_rules | `(tactic| walk_at "eval Call") => `(tactic| (k_here; (with_reducible show wpAny _ _ (eval (Expr.Call (Expr.Name (PySem.Str.ofString "quotient") _) _ _ _) _) _ _ _); (fail_if_success (with_reducible show wpAny _ _ _ (CutV _ _ _ _ _ _) _ _)); (refine' cut_dbl ?c9 ?F9 ?N9 ?_ (fun x9 d9 i9 j9 v9 w9 t9 u9 h' tk' l1 l2 F' N' => ?_); (case c9 => with_reducible assumption); (case F9 => k_asm); (case N9 => k_asm); (all_goals (try simp only [AllLt, and_true] at l1 l2)); (all_goals (try (walk_at "ez_tidy"))))))
local macro_rules | `(tactic| walk_at "eval Call") => `(tactic| (k_here; (with_reducible show wpAny _ _ (eval (Expr.Call (Expr.Name (PySem.Str.ofString "isfinite") _) _ _ _) _) _ _ _); (fail_if_success (with_reducible show wpAny _ _ _ (CutV _ _ _ _ _ _) _ _)); (refine' cut_bool (b := true) ?F9 ?N9 ?_ (fun h' tk' F' N' => ?_); (case F9 => k_asm); (case N9 => k_asm); (all_goals (try (walk_at "ez_tidy"))))))
local macro_rules | `(tactic| walk_at "exec If") => `(tactic| (k_here; (with_reducible show wpAny _ _ (exec (Stmt.If (Expr.Compare _ [CmpOp.GtE] _ _) [Stmt.Assign [Expr.Name (PySem.Str.ofString "ordinal_") _] _ _] _ _) _) _ _ _); (fail_if_success (with_reducible show wpAny _ _ _ (CutS _ _ _ _ _ _ _) _ _)); (refine' cut_ord ?e9 ?F9 ?N9 ?_ (fun t9 h' tk' F' N' => ?_); (case F9 => k_asm); (case e9 => k_dflt (exact rfl)); (case N9 => k_asm); (all_goals (try (walk_at "ez_tidy"))))))
local macro_rules | `(tactic| walk_at "exec If") => `(tactic| (k_here; (with_reducible show wpAny _ _ (exec (Stmt.If _ [Stmt.Assign [Expr.Name (PySem.Str.ofString "space") _] _ _] _ _) _) _ _ _); (fail_if_success (with_reducible show wpAny _ _ _ (CutS _ _ _ _ _ _ _) _ _)); (refine' cut_space ?e9 ?f9 ?F9 ?N9 ?_ (fun t9 h' tk' F' N' => ?_); (case F9 => k_asm); (case e9 => k_dflt (exact rfl)); (case f9 => k_dflt (exact rfl)); (case N9 => k_asm); (all_goals (try (walk_at "ez_tidy"))))))
local macro_rules | `(tactic| walk_at "CutS") => `(tactic| (k_here; (with_reducible show CutS (PySem.Str.ofString "ordinal_") _ _ _ _ _ _ _ _); (refine' CutS.intro [] _ _ (by first | k_asm | fail "F") (by walk_at "ez_news") (by first | (intro q hq; cases hq) | fail "O") (isStr.mk (by first | (unfold ordT; first | rw [if_pos (by omega)] | rw [if_neg (by omega), if_pos (by omega)] | rw [if_neg (by omega), if_neg (by omega)]) | fail "ord")))))
local macro_rules | `(tactic| walk_at "CutS") => `(tactic| (k_here; (with_reducible show CutS (PySem.Str.ofString "space") _ _ _ _ _ _ _ _); (refine' CutS.intro [] _ _ (by first | k_asm | fail "F") (by walk_at "ez_news") (by first | (intro q hq; cases hq) | fail "O") (isStr.mk (by first | (walk_at "ez_space") | fail "space")))))
local macro_rules | `(tactic| walk_at "ez_space") => `(tactic| first | exact space_1 (by assumption) | exact space_2 (by assumption) (.inl (by assumption)) | exact space_2 (by assumption) (.inr (by assumption)) | exact space_3 (by assumption) (by assumption))
local macro_rules | `(tactic| walk_at "subscriptTail Constant str BinOp str int") => `(tactic| (k_here; (with_reducible show wpAny _ _ (subscriptTail _ _ (Value.str (PySem.Str.ofString "kMGTPEZYRQ") _) (Value.int _ _)) _ _ _); (refine' ez_ordA ?h0 ?h1 ?_; (case h0 => (walk_at "ez_fd")); (case h1 => (walk_at "ez_fd")))))
local macro_rules | `(tactic| walk_at "subscriptTail Constant str BinOp str int") => `(tactic| (k_here; (with_reducible show wpAny _ _ (subscriptTail _ _ (Value.str (PySem.Str.ofString "mμnpfazyrq") _) (Value.int _ _)) _ _ _); (refine' ez_ordB ?h0 ?h1 ?_; (case h0 => (walk_at "ez_fd")); (case h1 => (walk_at "ez_fd")))))
local macro_rules | `(tactic| walk_at "storeName") => `(tactic| (dsimp only; walk1))
local macro_rules | `(tactic| walk_at "ez_fd") => `(tactic| ((simp only [Int.fdiv_eq_ediv_of_nonneg _ (show (0 : Int) ≤ 3 by decide)] at *); omega))
local macro_rules | `(tactic| walk_at "call ref") => `(tactic| (k_here; (with_reducible show wpAny _ _ (call (Value.ref 167) [Value.str (_ ++ _) _, Value.ref _]) _ _ _); rw [fmt_eq]; k_dflt (refine' EzC.useStr (c_laid _ _ _ _ _ _ _ _ _ _ _ _ _ ?m1 ?m2 ?h0 ?s1 ?s2 ?g0 ?g1) ?B9 ?F9 ?X9 ?N9 ?T9 ?k9 ?d9 ?u9 ?_; (case B9 => k_asm); (case F9 => k_asm); (case X9 => k_asm); (case N9 => k_asm); (case T9 => k_asm); (case k9 => first | exact rfl | assumption); (case d9 => (walk_at "ez_room")); (case u9 => (walk_at "ez_room")); (case m1 => k_mem); (case m2 => k_mem); (case h0 => (walk_at "ez_pos")); (case s1 => (walk_at "ez_small")); (case s2 => (walk_at "ez_small")); (case g0 => omega); (case g1 => omega)); intro t9 h' tk' F' N'; (walk_at "ez_tidy")))
local macro_rules | `(tactic| walk_at "ez_sm0") => `(tactic| ((with_reducible refine' Sm.pow (b := 33) ?p9 ?q9); (case p9 => (walk_at "ez_sm0")); (case q9 => omega)))
local macro_rules | `(tactic| walk_at "ez_sm0") => `(tactic| ((with_reducible refine' Sm.pow (b := 3) ?p9 ?q9); (case p9 => (walk_at "ez_sm0")); (case q9 => omega)))
local macro_rules | `(tactic| walk_at "ez_sm0") => `(tactic| with_reducible assumption)
local macro_rules | `(tactic| walk_at "ez_pos") => `(tactic| with_reducible assumption)
set_option maxRecDepth 100000 in
set_option maxHeartbeats 8000000 in
theorem c_met3 (news) (v0 : Value) (E P N1 D1 : Int) (U TT : PySem.Str) (tu tp) (p1 : 1 ≤ P) (p2 : P ≤ 6) (e1 : -30 ≤ E) (e2 : E < 30) (ce : CutInt E) (cd : CutDbl N1 D1)
    (hb1 : -10 ≤ E.fdiv 3) (hb2 : E.fdiv 3 ≤ 9) (f1 : 0 ≤ E.fmod 3) (f2 : E.fmod 3 ≤ 2) (hc1 : E.fdiv 3 ≤ (E + 1).fdiv 3) (hc2 : (E + 1).fdiv 3 ≤ E.fdiv 3 + 1) (f3 : 0 ≤ (E + 1).fmod 3) (f4 : (E + 1).fmod 3 ≤ 2)
    (ul : U.length ≤ 5) (l1 : (laidT N1 D1 (max 0 (P - E.fmod 3 - 1))).length ≤ 100) (l2 : (laidT (dblN (N1 * dblD (10 ^ ((E + 1).fdiv 3 * 3 - E.fdiv 3 * 3).toNat) 1) (D1 * dblN (10 ^ ((E + 1).fdiv 3 * 3 - E.fdiv 3 * 3).toNat) 1)) (dblD (N1 * dblD (10 ^ ((E + 1).fdiv 3 * 3 - E.fdiv 3 * 3).toNat) 1) (D1 * dblN (10 ^ ((E + 1).fdiv 3 * 3 - E.fdiv 3 * 3).toNat) 1)) (max 0 (P - (E + 1).fmod 3 - 1))).length ≤ 100) (o1 : (ordT E).length ≤ 1) (o2 : (ordT (E + 1)).length ≤ 1) (o3 : (spaceT U (ordT E)).length ≤ 1) (o4 : (spaceT U (ordT (E + 1))).length ≤ 1)
    (v1 : Sm 160 N1) (v2 : Sm 160 D1) (v3 : 0 < D1) (rd : (rdN (dblN N1.natAbs D1) (dblD N1.natAbs D1) (max 0 (P - E.fmod 3 - 1))) < 10 ^ 20) (rs : Sm 100 (rdN (dblN N1.natAbs D1) (dblD N1.natAbs D1) (max 0 (P - E.fmod 3 - 1))))
    (t1 : dblN (rdN (dblN N1.natAbs D1) (dblD N1.natAbs D1) (max 0 (P - E.fmod 3 - 1))) (10 ^ (max 0 (P - E.fmod 3 - 1)).toNat) * 1 ≥ 10 ^ (E.fmod 3 + 1).toNat * dblD (rdN (dblN N1.natAbs D1) (dblD N1.natAbs D1) (max 0 (P - E.fmod 3 - 1))) (10 ^ (max 0 (P - E.fmod 3 - 1)).toNat) → PySem.Str.empty ++ laidT (dblN (N1 * dblD (10 ^ ((E + 1).fdiv 3 * 3 - E.fdiv 3 * 3).toNat) 1) (D1 * dblN (10 ^ ((E + 1).fdiv 3 * 3 - E.fdiv 3 * 3).toNat) 1)) (dblD (N1 * dblD (10 ^ ((E + 1).fdiv 3 * 3 - E.fdiv 3 * 3).toNat) 1) (D1 * dblN (10 ^ ((E + 1).fdiv 3 * 3 - E.fdiv 3 * 3).toNat) 1)) (max 0 (P - (E + 1).fmod 3 - 1)) ++ spaceT U (ordT (E + 1)) ++ ordT (E + 1) ++ U = TT) (t2 : ¬ (dblN (rdN (dblN N1.natAbs D1) (dblD N1.natAbs D1) (max 0 (P - E.fmod 3 - 1))) (10 ^ (max 0 (P - E.fmod 3 - 1)).toNat) * 1 ≥ 10 ^ (E.fmod 3 + 1).toNat * dblD (rdN (dblN N1.natAbs D1) (dblD N1.natAbs D1) (max 0 (P - E.fmod 3 - 1))) (10 ^ (max 0 (P - E.fmod 3 - 1)).toNat)) → PySem.Str.empty ++ laidT N1 D1 (max 0 (P - E.fmod 3 - 1)) ++ spaceT U (ordT E) ++ ordT E ++ U = TT)
    (hv : (∃ n t, v0 = .int n t ∧ Sm 200 n ∧ (n = 0 → E = 0) ∧ (n = 0 ∨ dblN n 1 ≠ 0) ∧ (∀ k, WL (dblN (Int.natAbs (dblN (Int.natAbs (dblN n 1)) (dblD n 1))) (dblD (Int.natAbs (dblN n 1)) (dblD n 1))) (dblD (Int.natAbs (dblN (Int.natAbs (dblN n 1)) (dblD n 1))) (dblD (Int.natAbs (dblN n 1)) (dblD n 1))) k → mantE (dblN (Int.natAbs (dblN n 1)) (dblD n 1)) (dblD (Int.natAbs (dblN n 1)) (dblD n 1)) 14 k = E) ∧ 0 ≤ E.fdiv 3 * 3 ∧ dblN n (10 ^ (E.fdiv 3 * 3).toNat) = N1 ∧ dblD n (10 ^ (E.fdiv 3 * 3).toNat) = D1)
      ∨ (∃ n d x dx h1 h2 k1 k2 t u, v0 = .ref x ∧ (x, instObj 109 dx) ∈ news ∧ (dx, dictOf [⟨h1, .str (PySem.Str.ofString "n") k1, .int n t⟩, ⟨h2, .str (PySem.Str.ofString "d") k2, .int d u⟩] 2) ∈ news ∧ 0 < d ∧ Sm 200 n ∧ Sm 200 d ∧ (n = 0 → E = 0) ∧ (∀ k, WL (dblN (Int.natAbs (dblN (Int.natAbs (n)) (d))) (dblD (Int.natAbs (n)) (d))) (dblD (Int.natAbs (dblN (Int.natAbs (n)) (d))) (dblD (Int.natAbs (n)) (d))) k → mantE (dblN (Int.natAbs (n)) (d)) (dblD (Int.natAbs (n)) (d)) 14 k = E) ∧ (0 ≤ E.fdiv 3 * 3 → dblN (n * dblD (10 ^ (E.fdiv 3 * 3).toNat) 1) (d * dblN (10 ^ (E.fdiv 3 * 3).toNat) 1) = N1 ∧ dblD (n * dblD (10 ^ (E.fdiv 3 * 3).toNat) 1) (d * dblN (10 ^ (E.fdiv 3 * 3).toNat) 1) = D1) ∧ (E.fdiv 3 * 3 < 0 → dblN (n * dblD 1 (10 ^ (-(E.fdiv 3 * 3)).toNat)) (d * dblN 1 (10 ^ (-(E.fdiv 3 * 3)).toNat)) = N1 ∧ dblD (n * dblD 1 (10 ^ (-(E.fdiv 3 * 3)).toNat)) (d * dblN 1 (10 ^ (-(E.fdiv 3 * 3)).toNat)) = D1))) :
    EzC 16 news (call (.ref 205) [v0, .str U tu, .int P tp]) (isStr TT) := by
  unfold EzC
  intro prog w p loose mean mg mb dp un gd cn cs a ccd cl outer A₀ base h₀ L m s Q E B F X N T hk hd hu hret
  obtain ⟨ck, c1, c2, c3, c4⟩ := cs
  dsimp only at hk
  subst hk
  k_steps
  all_goals first
    | (with_reducible show Later (wpAny _ _ _ (CutV (isBool _) _ _ _ _ _) _ _)); (refine ⟨?_⟩); (rcases hv with ⟨n, t, rfl, s1, z0, y0, hE, q0, q1⟩ | ⟨n, d, x, dx, h1, h2, k1, k2, t, u, rfl, m1, m2, h0, s1, s2, z0, hE, q1, q2⟩) <;> k_steps
    | (with_reducible show Later (wpAny _ _ _ (CutV (isInt _) _ _ _ _ _) _ _)); (refine ⟨?_⟩); (rcases hv with ⟨n, t, rfl, s1, z0, y0, hE, q0, q1⟩ | ⟨n, d, x, dx, h1, h2, k1, k2, t, u, rfl, m1, m2, h0, s1, s2, z0, hE, q1, q2⟩) <;> k_steps
    | (with_reducible show Later (wpAny _ _ _ (CutV (isDbl _ _) _ _ _ _ _) _ _)); (refine ⟨?_⟩); (rcases hv with ⟨n, t, rfl, s1, z0, y0, hE, q0, q1⟩ | ⟨n, d, x, dx, h1, h2, k1, k2, t, u, rfl, m1, m2, h0, s1, s2, z0, hE, q1, q2⟩) <;> k_steps
    | skip
  all_goals first
    | (with_reducible show CutV (isBool _) _ _ _ _ _ _ _); (refine' CutV.intro [] _ _ (isBool.mk ?e9) ?O9 ?F9 ?N9; (case F9 => k_asm); (case N9 => (walk_at "ez_news")); (case O9 => (walk_at "ez_ord")); (case e9 => with_reducible rfl))
    | (with_reducible show CutV (isInt _) _ _ _ _ _ _ _); (refine' CutV.intro [] _ _ (isInt.mk ?e9) ?O9 ?F9 ?N9; (case F9 => k_asm); (case N9 => (walk_at "ez_news")); (case O9 => (walk_at "ez_ord")); (case e9 => first | with_reducible rfl | exact (z0 (by omega)).symm))
    | (with_reducible show CutV (isDbl _ _) _ _ _ _ _ _ _); (refine' CutV.intro [_, _] _ _ (isDbl.mk ?e9 ?f9) ?O9 ?F9 ?N9; (case F9 => k_asm); (case N9 => (walk_at "ez_news")); (case O9 => (walk_at "ez_ord")); (case e9 => first | with_reducible exact q1.1 | exact (q1 (by omega)).1 | exact (q2 (by omega)).1); (case f9 => first | with_reducible exact q1.2 | exact (q1 (by omega)).2 | exact (q2 (by omega)).2))
    | (refine' hret _ [] _ _ (isStr.mk ?e9) ?O9 ?F9 ?N9; (case F9 => k_asm); (case N9 => (walk_at "ez_news")); (case O9 => (walk_at "ez_ord")); (case e9 => first | with_reducible exact t1 (by with_reducible assumption) | with_reducible exact t2 (by with_reducible assumption)))
set_option maxRecDepth 100000 in
set_option maxHeartbeats 8000000 in
theorem c_met2 (news) (v0 : Value) (E N1 D1 : Int) (U TT : PySem.Str) (tu) (e1 : -30 ≤ E) (e2 : E < 30) (ce : CutInt E) (cd : CutDbl N1 D1)
    (hb1 : -10 ≤ E.fdiv 3) (hb2 : E.fdiv 3 ≤ 9) (f1 : 0 ≤ E.fmod 3) (f2 : E.fmod 3 ≤ 2) (hc1 : E.fdiv 3 ≤ (E + 1).fdiv 3) (hc2 : (E + 1).fdiv 3 ≤ E.fdiv 3 + 1) (f3 : 0 ≤ (E + 1).fmod 3) (f4 : (E + 1).fmod 3 ≤ 2)
    (ul : U.length ≤ 5) (l1 : (laidT N1 D1 (max 0 (3 - E.fmod 3 - 1))).length ≤ 100) (l2 : (laidT (dblN (N1 * dblD (10 ^ ((E + 1).fdiv 3 * 3 - E.fdiv 3 * 3).toNat) 1) (D1 * dblN (10 ^ ((E + 1).fdiv 3 * 3 - E.fdiv 3 * 3).toNat) 1)) (dblD (N1 * dblD (10 ^ ((E + 1).fdiv 3 * 3 - E.fdiv 3 * 3).toNat) 1) (D1 * dblN (10 ^ ((E + 1).fdiv 3 * 3 - E.fdiv 3 * 3).toNat) 1)) (max 0 (3 - (E + 1).fmod 3 - 1))).length ≤ 100) (o1 : (ordT E).length ≤ 1) (o2 : (ordT (E + 1)).length ≤ 1) (o3 : (spaceT U (ordT E)).length ≤ 1) (o4 : (spaceT U (ordT (E + 1))).length ≤ 1)
    (v1 : Sm 160 N1) (v2 : Sm 160 D1) (v3 : 0 < D1) (rd : (rdN (dblN N1.natAbs D1) (dblD N1.natAbs D1) (max 0 (3 - E.fmod 3 - 1))) < 10 ^ 20) (rs : Sm 100 (rdN (dblN N1.natAbs D1) (dblD N1.natAbs D1) (max 0 (3 - E.fmod 3 - 1))))
    (t1 : dblN (rdN (dblN N1.natAbs D1) (dblD N1.natAbs D1) (max 0 (3 - E.fmod 3 - 1))) (10 ^ (max 0 (3 - E.fmod 3 - 1)).toNat) * 1 ≥ 10 ^ (E.fmod 3 + 1).toNat * dblD (rdN (dblN N1.natAbs D1) (dblD N1.natAbs D1) (max 0 (3 - E.fmod 3 - 1))) (10 ^ (max 0 (3 - E.fmod 3 - 1)).toNat) → PySem.Str.empty ++ laidT (dblN (N1 * dblD (10 ^ ((E + 1).fdiv 3 * 3 - E.fdiv 3 * 3).toNat) 1) (D1 * dblN (10 ^ ((E + 1).fdiv 3 * 3 - E.fdiv 3 * 3).toNat) 1)) (dblD (N1 * dblD (10 ^ ((E + 1).fdiv 3 * 3 - E.fdiv 3 * 3).toNat) 1) (D1 * dblN (10 ^ ((E + 1).fdiv 3 * 3 - E.fdiv 3 * 3).toNat) 1)) (max 0 (3 - (E + 1).fmod 3 - 1)) ++ spaceT U (ordT (E + 1)) ++ ordT (E + 1) ++ U = TT) (t2 : ¬ (dblN (rdN (dblN N1.natAbs D1) (dblD N1.natAbs D1) (max 0 (3 - E.fmod 3 - 1))) (10 ^ (max 0 (3 - E.fmod 3 - 1)).toNat) * 1 ≥ 10 ^ (E.fmod 3 + 1).toNat * dblD (rdN (dblN N1.natAbs D1) (dblD N1.natAbs D1) (max 0 (3 - E.fmod 3 - 1))) (10 ^ (max 0 (3 - E.fmod 3 - 1)).toNat)) → PySem.Str.empty ++ laidT N1 D1 (max 0 (3 - E.fmod 3 - 1)) ++ spaceT U (ordT E) ++ ordT E ++ U = TT)
    (hv : (∃ n t, v0 = .int n t ∧ Sm 200 n ∧ (n = 0 → E = 0) ∧ (n = 0 ∨ dblN n 1 ≠ 0) ∧ (∀ k, WL (dblN (Int.natAbs (dblN (Int.natAbs (dblN n 1)) (dblD n 1))) (dblD (Int.natAbs (dblN n 1)) (dblD n 1))) (dblD (Int.natAbs (dblN (Int.natAbs (dblN n 1)) (dblD n 1))) (dblD (Int.natAbs (dblN n 1)) (dblD n 1))) k → mantE (dblN (Int.natAbs (dblN n 1)) (dblD n 1)) (dblD (Int.natAbs (dblN n 1)) (dblD n 1)) 14 k = E) ∧ 0 ≤ E.fdiv 3 * 3 ∧ dblN n (10 ^ (E.fdiv 3 * 3).toNat) = N1 ∧ dblD n (10 ^ (E.fdiv 3 * 3).toNat) = D1)
      ∨ (∃ n d x dx h1 h2 k1 k2 t u, v0 = .ref x ∧ (x, instObj 109 dx) ∈ news ∧ (dx, dictOf [⟨h1, .str (PySem.Str.ofString "n") k1, .int n t⟩, ⟨h2, .str (PySem.Str.ofString "d") k2, .int d u⟩] 2) ∈ news ∧ 0 < d ∧ Sm 200 n ∧ Sm 200 d ∧ (n = 0 → E = 0) ∧ (∀ k, WL (dblN (Int.natAbs (dblN (Int.natAbs (n)) (d))) (dblD (Int.natAbs (n)) (d))) (dblD (Int.natAbs (dblN (Int.natAbs (n)) (d))) (dblD (Int.natAbs (n)) (d))) k → mantE (dblN (Int.natAbs (n)) (d)) (dblD (Int.natAbs (n)) (d)) 14 k = E) ∧ (0 ≤ E.fdiv 3 * 3 → dblN (n * dblD (10 ^ (E.fdiv 3 * 3).toNat) 1) (d * dblN (10 ^ (E.fdiv 3 * 3).toNat) 1) = N1 ∧ dblD (n * dblD (10 ^ (E.fdiv 3 * 3).toNat) 1) (d * dblN (10 ^ (E.fdiv 3 * 3).toNat) 1) = D1) ∧ (E.fdiv 3 * 3 < 0 → dblN (n * dblD 1 (10 ^ (-(E.fdiv 3 * 3)).toNat)) (d * dblN 1 (10 ^ (-(E.fdiv 3 * 3)).toNat)) = N1 ∧ dblD (n * dblD 1 (10 ^ (-(E.fdiv 3 * 3)).toNat)) (d * dblN 1 (10 ^ (-(E.fdiv 3 * 3)).toNat)) = D1))) :
    EzC 16 news (call (.ref 205) [v0, .str U tu]) (isStr TT) := by
  unfold EzC
  intro prog w p loose mean mg mb dp un gd cn cs a ccd cl outer A₀ base h₀ L m s Q E B F X N T hk hd hu hret
  obtain ⟨ck, c1, c2, c3, c4⟩ := cs
  dsimp only at hk
  subst hk
  k_steps
  all_goals first
    | (with_reducible show Later (wpAny _ _ _ (CutV (isBool _) _ _ _ _ _) _ _)); (refine ⟨?_⟩); (rcases hv with ⟨n, t, rfl, s1, z0, y0, hE, q0, q1⟩ | ⟨n, d, x, dx, h1, h2, k1, k2, t, u, rfl, m1, m2, h0, s1, s2, z0, hE, q1, q2⟩) <;> k_steps
    | (with_reducible show Later (wpAny _ _ _ (CutV (isInt _) _ _ _ _ _) _ _)); (refine ⟨?_⟩); (rcases hv with ⟨n, t, rfl, s1, z0, y0, hE, q0, q1⟩ | ⟨n, d, x, dx, h1, h2, k1, k2, t, u, rfl, m1, m2, h0, s1, s2, z0, hE, q1, q2⟩) <;> k_steps
    | (with_reducible show Later (wpAny _ _ _ (CutV (isDbl _ _) _ _ _ _ _) _ _)); (refine ⟨?_⟩); (rcases hv with ⟨n, t, rfl, s1, z0, y0, hE, q0, q1⟩ | ⟨n, d, x, dx, h1, h2, k1, k2, t, u, rfl, m1, m2, h0, s1, s2, z0, hE, q1, q2⟩) <;> k_steps
    | skip
  all_goals first
    | (with_reducible show CutV (isBool _) _ _ _ _ _ _ _); (refine' CutV.intro [] _ _ (isBool.mk ?e9) ?O9 ?F9 ?N9; (case F9 => k_asm); (case N9 => (walk_at "ez_news")); (case O9 => (walk_at "ez_ord")); (case e9 => with_reducible rfl))
    | (with_reducible show CutV (isInt _) _ _ _ _ _ _ _); (refine' CutV.intro [] _ _ (isInt.mk ?e9) ?O9 ?F9 ?N9; (case F9 => k_asm); (case N9 => (walk_at "ez_news")); (case O9 => (walk_at "ez_ord")); (case e9 => first | with_reducible rfl | exact (z0 (by omega)).symm))
    | (with_reducible show CutV (isDbl _ _) _ _ _ _ _ _ _); (refine' CutV.intro [_, _] _ _ (isDbl.mk ?e9 ?f9) ?O9 ?F9 ?N9; (case F9 => k_asm); (case N9 => (walk_at "ez_news")); (case O9 => (walk_at "ez_ord")); (case e9 => first | with_reducible exact q1.1 | exact (q1 (by omega)).1 | exact (q2 (by omega)).1); (case f9 => first | with_reducible exact q1.2 | exact (q1 (by omega)).2 | exact (q2 (by omega)).2))
    | (refine' hret _ [] _ _ (isStr.mk ?e9) ?O9 ?F9 ?N9; (case F9 => k_asm); (case N9 => (walk_at "ez_news")); (case O9 => (walk_at "ez_ord")); (case e9 => first | with_reducible exact t1 (by with_reducible assumption) | with_reducible exact t2 (by with_reducible assumption)))
end
theorem back_bb : True := by
  w_top off
  first | walk1 | trivial

theorem back_bc : True := by
  w_top off
  first | walk1 | trivial
/-! str.translate over the table of the small figures -/
section
open PySem.Builtin PySem.Builtin.Str PySem.Spec PyProof.V PySem.F
def supL : List (Int × Value) := [(48, .str (PySem.Str.ofString "⁰") 426), (49, .str (PySem.Str.ofString "¹") 428), (50, .str (PySem.Str.ofString "²") 430), (51, .str (PySem.Str.ofString "³") 432), (52, .str (PySem.Str.ofString "⁴") 434), (53, .str (PySem.Str.ofString "⁵") 436), (54, .str (PySem.Str.ofString "⁶") 438), (55, .str (PySem.Str.ofString "⁷") 440), (56, .str (PySem.Str.ofString "⁸") 442), (57, .str (PySem.Str.ofString "⁹") 444), (45, .str (PySem.Str.ofString "⁻") 446)]
def supS (c : Nat) : PySem.Str := match valueAt supL (c : Int) with
  | some (.str z _) => z
  | _ => PySem.Str.empty
def SupC (c : Nat) : Prop := c = 45 ∨ (48 ≤ c ∧ c ≤ 57)
theorem sup_at {c : Nat} (h : SupC c) : ∃ t, valueAt supL (c : Int) = some (.str (supS c) t) ∧ (supS c).length = 1 ∧ (supS c).cps.all (· < 128) = false := by
  have : c = 45 ∨ c = 48 ∨ c = 49 ∨ c = 50 ∨ c = 51 ∨ c = 52 ∨ c = 53 ∨ c = 54 ∨ c = 55 ∨ c = 56 ∨ c = 57 := by unfold SupC at h; omega
  rcases this with rfl | rfl | rfl | rfl | rfl | rfl | rfl | rfl | rfl | rfl | rfl <;> exact ⟨_, rfl, by decide +kernel, by decide +kernel⟩
theorem sup_dict {prog : Program} {w : World} {h : Heap} (X : (hd.heap_39 w.params).In h) : h.DictOf (intKind prog w) 182 supL := by
  refine Heap.dictOf_iff.mpr ⟨_, X 182 _ rfl, _, _, ⟨rfl, rfl, rfl⟩, rfl, ?_, ?_, by decide +kernel⟩
  · intro e he
    simp only [List.mem_toArray, List.mem_cons, List.not_mem_nil, or_false] at he
    rcases he with rfl | rfl | rfl | rfl | rfl | rfl | rfl | rfl | rfl | rfl | rfl <;> exact ⟨_, intKind_is prog w _ _, by rw [show (intKind prog w).hash = hashInt from rfl]; decide +kernel⟩
  · exact Pairs.cons (intKind_is prog w _ _) rfl (Pairs.cons (intKind_is prog w _ _) rfl (Pairs.cons (intKind_is prog w _ _) rfl (Pairs.cons (intKind_is prog w _ _) rfl (Pairs.cons (intKind_is prog w _ _) rfl (Pairs.cons (intKind_is prog w _ _) rfl (Pairs.cons (intKind_is prog w _ _) rfl (Pairs.cons (intKind_is prog w _ _) rfl (Pairs.cons (intKind_is prog w _ _) rfl (Pairs.cons (intKind_is prog w _ _) rfl (Pairs.cons (intKind_is prog w _ _) rfl Pairs.nil))))))))))
variable {prog : Program} {w : World} {A : Around} {E : Value → Shared → Prop} {s : Shared}
theorem sup_look {c : Nat} {Q : Mapped → Shared → Prop} (X : (hd.heap_39 w.params).In s.heap) (hc : SupC c) (h : ∀ k, Q (.text (supS c)) { s with toks := k }) : wpAny (model prog w) A (tableLookup (.ref 182) c) Q E s := by
  obtain ⟨t, hv, _, _⟩ := sup_at hc
  unfold tableLookup
  refine wpAny_bind (wpAny_attempt (wpAny_bind (wpAny_mkInt ?_)))
  refine wpAny_getItem_of (knd := intKind prog w) (intKind_is prog w _ _) (sup_dict (prog := prog) X).mapOf hv ?_
  show wpAny _ _ (asInt? (.str (supS c) t) >>= _) _ _ _
  refine wpAny_bind ?_
  show wpAny _ _ (do notAStandIn (.str (supS c) t); pure none) _ _ _
  refine wpAny_bind (wpAny_pure ?_)
  refine wpAny_pure ?_
  show wpAny _ _ (asStr? (.str (supS c) t) >>= _) _ _ _
  refine wpAny_bind (wpAny_pure ?_)
  exact wpAny_pure (h _)
def supT (l : List Nat) : PySem.Str := ⟨(l.map supS).foldl (fun acc p => acc ++ p.cps) #[]⟩
theorem supT_len {l : List Nat} (h : ∀ c ∈ l, SupC c) : (supT l).length = l.length := by
  have key : ∀ (l : List Nat) (a : Array Nat), (∀ c ∈ l, SupC c) → ((l.map supS).foldl (fun acc p => acc ++ p.cps) a).size = a.size + l.length := by
    intro l
    induction l with
    | nil => intro a _; rfl
    | cons c l ih =>
      intro a h
      obtain ⟨_, _, h1, _⟩ := sup_at (h c (List.mem_cons_self ..))
      rw [List.map_cons, List.foldl_cons, ih _ fun d hd => h d (List.mem_cons_of_mem _ hd), Array.size_append, List.length_cons]
      have : (supS c).cps.size = 1 := h1
      omega
  have := key l #[] h
  simp at this
  show Array.size _ = _
  simpa [supT] using this
theorem ez_translate {x : PySem.Str} {t : Tok} {Q : Value → Shared → Prop} (X : (hd.heap_39 w.params).In s.heap) (hx : ∀ c ∈ x.cps.toList, SupC c) (hl : 1 ≤ x.length) (hl2 : x.length ≤ 100)
    (h : ∀ t' k, Q (.str (supT x.cps.toList) t') { s with toks := k }) : wpAny (model prog w) A (call (.builtin "str.translate") [.str x t, .ref 182]) Q E s := by
  refine wpAny_call_entry slot_str_translate ?_ entry_str_translate ?_ (args_str_translate_2 _ _)
  · exact typeIs_str _ _ _
  unfold Builtin.«str.translate»
  refine wpAny_bind ?_
  show wpAny _ _ (do let (self, x) ← selfAndOne "str.translate" ⟨[.str x t, .ref 182], []⟩; pure (self, ← textOf self, x)) _ _ _
  refine wpAny_bind (wpAny_pure ?_)
  refine wpAny_bind (wpAny_pure ?_)
  refine wpAny_pure ?_
  show wpAny _ _ (if (x.length == 0) = true then _ else _) _ _ _
  rw [if_neg (by simp; omega)]
  dsimp only
  refine wpAny_bind (wpAny_forIn_array' _ (fun rest b s' => ∃ done k fast, x.cps.toList = done ++ rest ∧ s' = { s with toks := k } ∧ b = ((done.map supS).reverse, done.length, fast, [], false)) _ ?_ ?_ _ _ ⟨[], s.toks, _, rfl, rfl, rfl⟩)
  · rintro c rest b s' ⟨done, k, fast, hdn, rfl, rfl⟩
    have hc : SupC c := hx c (by rw [hdn]; simp)
    have hlen := len_list x
    rw [hdn, List.length_append, List.length_cons] at hlen
    have hdl : tooLong done.length = false := by unfold tooLong sizeLine; simp; omega
    dsimp only
    rw [if_neg (by rw [hdl]; decide)]
    obtain ⟨_, _, h1, h2⟩ := sup_at hc
    have hg : ((supS c).length == 1 && (supS c).cps.all fun x => decide (x < 128)) = false := by rw [h2]; simp
    have inv : ∀ k', ∃ done' k'' fast, x.cps.toList = done' ++ rest ∧ ({ s with toks := k' } : Shared) = { s with toks := k'' } ∧ (supS c :: (List.map supS done).reverse, done.length + (supS c).length, false, ([] : List (Nat × Option Nat)), false) = ((done'.map supS).reverse, done'.length, fast, [], false) := fun k' => ⟨done ++ [c], k', false, by rw [hdn]; simp, rfl, by rw [h1]; simp⟩
    cases fast
    · rw [if_neg (by decide), if_neg (by decide)]
      refine wpAny_bind (sup_look X hc fun k' => ?_)
      exact wpAny_pure (inv _)
    · rw [if_pos rfl]
      show wpAny _ _ (tableLookup (.ref 182) c >>= _) _ _ _
      refine wpAny_bind (sup_look X hc fun k' => ?_)
      (try dsimp only)
      rw [hg]
      refine wpAny_bind (wpAny_pure ?_)
      (try dsimp only)
      refine wpAny_bind (wpAny_rule ?_)
      rw [if_neg (by decide)]
      refine wpAny_bind (sup_look X hc fun k' => ?_)
      exact wpAny_pure (inv _)
  · rintro b s' ⟨done, k, fast, hdn, rfl, rfl⟩
    rw [List.append_nil] at hdn
    have hlen := len_list x
    rw [hdn] at hlen
    have hdl : tooLong done.length = false := by unfold tooLong sizeLine; simp; omega
    dsimp only
    rw [if_neg (by rw [hdl]; decide), List.reverse_reverse]
    refine wpAny_bind (wpAny_mkStr ?_ ?_)
    · refine wpAny_pure ⟨_, rfl, ?_⟩
      have := h k (k + 1)
      rw [hdn] at this
      exact this
    · show (supT done).length ≤ _
      rw [supT_len fun c hc => hx c (by rw [hdn]; exact hc), PySem.sizeLine_eq]
      omega
end
theorem back_bd : True := by
  w_top off
  first | walk1 | trivial

theorem back_be : True := by
  w_top off
  first | walk1 | trivial
section
theorem EzC.useMantTE {k : Nat} {news : List (Addr × Obj)} {t : Sem Value} {n9 d9 n d dg E9 : Int} {T9 : PySem.Str} (c : EzC k news t (fun v new => ∃ k, WL n9 d9 k ∧ isMant (mantT n dg (mantV n d dg k)) (mantE n d dg k) v new)) (hE : ∀ k, WL n9 d9 k → mantE n d dg k = E9 ∧ mantT n dg (mantV n d dg k) = T9) {prog : Program} {w : World} {p : Program} {loose : List PySem.Str} {mean : ExcName → Option Value} {mg mb : PySem.Str → Option Value}
    {dp un : Nat} {gd : Option (List Code)} {cn : PySem.Str} {cs : Scope} {a : Addr} {ccd : Value} {cl : List (PySem.Str × Addr)} {outer : List Env} {A₀ : Around} {base h₀ : Heap} {L : Addr} {m : PySem.Str → Option Value} {s : Shared} {Q E : Value → Shared → Prop}
    (B : Below A₀ base outer h₀) (F : Fr h₀ L s.heap m) (X : (hd.heap_39 w.params).In h₀) (N : News h₀ L s.heap news) (T : Top p loose mean mg mb h₀) (hk : cs.kind = .function) (hd : dp + k < recursionLimit) (hu : un + 16 * k < cLine)
    (h : ∀ a t u h' tk', AllLt a news → Fr h₀ L h' m → News h₀ L h' ((a, ({ cls := .type "tuple", data := .seq #[.str T9 t, .int E9 u] } : Obj)) :: news) → Q (.ref a) { s with heap := h', toks := tk' }) :
    wpAny (model prog w) (ktrTop dp un gd cn cs L a ccd cl outer) t Q E s := c.use B F X N T hk hd hu fun v new h' tk' R O F' N' => by
  obtain ⟨k, W, a, t, u, rfl, rfl⟩ := R
  rw [(hE k W).1, (hE k W).2] at N'
  exact h a t u h' tk' (O _ (.head _)) F' N'
section
variable {M : Model} {A : Around} {E : Value → Shared → Prop} {s : Shared}
theorem ez_mtrans {x : PySem.Str} {t : Tok} {pl : Sem Bool} {Q : Value × List Value → Shared → Prop} (h : Q (.builtin "str.translate", [.str x t]) s) : wpAny M A (getMethod (.str x t) (PySem.Str.ofString "translate") pl) Q E s := by
  with_reducible exact GM.of (.str x t) (typeIs_str _ _ _) F.slot_str_translate F.type_str_translate GM.noRef h
end
theorem back_bf : True := by
  w_top off
  first | walk1 | trivial
theorem ez_addS {prog : Program} {w : World} {A : Around} {E : Value → Shared → Prop} {s : Shared} {x y : PySem.Str} {t u : Tok} {Q : Value → Shared → Prop} (h : ∀ t' k, Q (.str (x ++ y) t') { s with toks := k }) (hsz : x.length + y.length ≤ sizeLine) : wpAny (model prog w) A (binaryOp .Add (.str x t) (.str y u)) Q E s := PySem.SB.add h hsz
def sciT (T : PySem.Str) (E : Int) : PySem.Str := T ++ PySem.Str.ofString " x 10" ++ supT (PySem.Str.ofString (toString E)).cps.toList
theorem sciT_len {T : PySem.Str} {E : Int} (h1 : T.length ≤ 100) (h2 : (supT (PySem.Str.ofString (toString E)).cps.toList).length ≤ 100) : (sciT T E).length ≤ 300 := by
  unfold sciT
  rw [PySem.Str.length_append, PySem.Str.length_append]
  have : (PySem.Str.ofString " x 10").length = 5 := by decide +kernel
  omega
local macro_rules | `(tactic| walk_at "call ref") => `(tactic| (k_here; (with_reducible show wpAny _ _ (call (Value.ref 181) [Value.ref _, Value.int _ _]) _ _ _); k_dflt (refine' EzC.useMantTE (c_mant _ _ _ _ _ _ _ _ _ _ _ _ _ ?m1 ?m2 ?h0 ?b0 ?s1 ?s2 ?g0 ?g1) ?hE ?B9 ?F9 ?X9 ?N9 ?T9 ?k9 ?d9 ?u9 ?_; (case B9 => k_asm); (case F9 => k_asm); (case X9 => k_asm); (case N9 => k_asm); (case T9 => k_asm); (case k9 => first | exact rfl | assumption); (case d9 => (walk_at "ez_room")); (case u9 => (walk_at "ez_room")); (case m1 => k_mem); (case m2 => k_mem); (case hE => with_reducible assumption); (case h0 => (walk_at "ez_pos")); (case b0 => first | assumption | omega | (refine pos_ne ?_; (walk_at "ez_pos"))); (case s1 => (walk_at "ez_small")); (case s2 => (walk_at "ez_small")); (case g0 => omega); (case g1 => omega)); intro d9 t9 u9  h' tk' l1 F' N'; (try simp only [AllLt, and_true] at l1); (walk_at "ez_tidy")))
local macro_rules | `(tactic| walk_at "call ref") => `(tactic| (k_here; (try dsimp only); (with_reducible show wpAny _ _ (call (Value.ref 57) [Value.ref _]) _ _ _); k_dflt (refine' EzC.useDbl (c_size _ _ _ _ _ _ _ _ _ _ _ ?m1 ?m2 ?h0 ?s1 ?s2) ?B9 ?F9 ?X9 ?N9 ?T9 ?k9 ?d9 ?u9 ?_; (case B9 => k_asm); (case F9 => k_asm); (case X9 => k_asm); (case N9 => k_asm); (case T9 => k_asm); (case k9 => first | exact rfl | assumption); (case d9 => (walk_at "ez_room")); (case u9 => (walk_at "ez_room")); (case m1 => k_mem); (case m2 => k_mem); (case h0 => (walk_at "ez_pos")); (case s1 => (walk_at "ez_small")); (case s2 => (walk_at "ez_small"))); intro x9 d9 i9 j9 v9 w9 t9 u9 h' tk' l1 l2 F' N'; (try simp only [AllLt, and_true] at l1 l2); (walk_at "ez_tidy")))
local macro_rules | `(tactic| walk_at "getMethod str") => `(tactic| (k_here; (with_reducible show wpAny _ _ (getMethod (Value.str _ _) (PySem.Str.ofString "translate") _) _ _ _); (refine ez_mtrans ?_)))
local macro_rules | `(tactic| walk_at "call builtin:str.translate") => `(tactic| (k_here; (with_reducible show wpAny _ _ (call (Value.builtin "str.translate") [Value.str _ _, Value.ref 182]) _ _ _); (refine' ez_translate ?X ?h0 ?h1 ?h2 (fun t' k' => ?_); (case X => k_in); (case h0 => with_reducible assumption); (case h1 => omega); (case h2 => omega))))
local macro_rules | `(tactic| walk_at "storeName") => `(tactic| (dsimp only; walk1))
local macro_rules | `(tactic| walk_at "ez_sm0") => `(tactic| with_reducible assumption)
local macro_rules | `(tactic| walk_at "ez_pos") => `(tactic| with_reducible assumption)
set_option maxRecDepth 100000 in
set_option maxHeartbeats 8000000 in
theorem c_sci_int (news) (n dg E : Int) (T1 : PySem.Str) (tn td) (n0 : n ≠ 0) (y0 : dblN n 1 ≠ 0) (s1 : Sm 250 n) (g0 : 0 ≤ dg) (g1 : dg ≤ 5) (tx1 : ∀ c ∈ (PySem.Str.ofString (toString E)).cps.toList, SupC c) (tx2 : 1 ≤ (PySem.Str.ofString (toString E)).length) (tx3 : (PySem.Str.ofString (toString E)).length ≤ 100) (tx4 : (supT (PySem.Str.ofString (toString E)).cps.toList).length ≤ 100) (tx5 : T1.length ≤ 100) (tx6 : Sm 100 E) (hE : ∀ k, WL (dblN (Int.natAbs (dblN n 1)) (dblD n 1)) (dblD (Int.natAbs (dblN n 1)) (dblD n 1)) k → mantE (dblN n 1) (dblD n 1) dg k = E ∧ mantT (dblN n 1) dg (mantV (dblN n 1) (dblD n 1) dg k) = T1) :
    EzC 14 news (call (.ref 197) [.int n tn, .int dg td]) (isStr (sciT T1 E)) := by
  unfold EzC
  intro prog w p loose mean mg mb dp un gd cn cs a ccd cl outer A₀ base h₀ L m s Q E B F X N T hk hd hu hret
  obtain ⟨ck, c1, c2, c3, c4⟩ := cs
  dsimp only at hk
  subst hk
  k_steps
  all_goals (refine' hret _ [] _ _ (isStr.mk ?e9) ?O9 ?F9 ?N9; (case F9 => k_asm); (case N9 => (walk_at "ez_news")); (case O9 => (walk_at "ez_ord")); (case e9 => rfl))
set_option maxRecDepth 100000 in
set_option maxHeartbeats 8000000 in
theorem c_sci_dbl (news) (n d dg E : Int) (T1 : PySem.Str) (td) (x dx h1 h2 k1 k2 t u) (m1 : (x, instObj 109 dx) ∈ news) (m2 : (dx, dictOf [⟨h1, .str (PySem.Str.ofString "n") k1, .int n t⟩, ⟨h2, .str (PySem.Str.ofString "d") k2, .int d u⟩] 2) ∈ news) (n0 : n ≠ 0) (h0 : 0 < d) (s1 : Sm 250 n) (s2 : Sm 260 d) (g0 : 0 ≤ dg) (g1 : dg ≤ 5) (tx1 : ∀ c ∈ (PySem.Str.ofString (toString E)).cps.toList, SupC c) (tx2 : 1 ≤ (PySem.Str.ofString (toString E)).length) (tx3 : (PySem.Str.ofString (toString E)).length ≤ 100) (tx4 : (supT (PySem.Str.ofString (toString E)).cps.toList).length ≤ 100) (tx5 : T1.length ≤ 100) (tx6 : Sm 100 E) (hE : ∀ k, WL (dblN (Int.natAbs (n)) (d)) (dblD (Int.natAbs (n)) (d)) k → mantE (n) (d) dg k = E ∧ mantT (n) dg (mantV (n) (d) dg k) = T1) :
    EzC 14 news (call (.ref 197) [.ref x, .int dg td]) (isStr (sciT T1 E)) := by
  unfold EzC
  intro prog w p loose mean mg mb dp un gd cn cs a ccd cl outer A₀ base h₀ L m s Q E B F X N T hk hd hu hret
  obtain ⟨ck, c1, c2, c3, c4⟩ := cs
  dsimp only at hk
  subst hk
  k_steps
  all_goals (refine' hret _ [] _ _ (isStr.mk ?e9) ?O9 ?F9 ?N9; (case F9 => k_asm); (case N9 => (walk_at "ez_news")); (case O9 => (walk_at "ez_ord")); (case e9 => rfl))
local macro_rules | `(tactic| walk_at "call ref") => `(tactic| (k_here; (with_reducible show wpAny _ _ (call (Value.ref 197) [Value.int _ _, Value.int _ _]) _ _ _); k_dflt (refine' EzC.useStr (c_sci_int _ _ _ _ _ _ _ ?n0 ?y0 ?s1 ?g0 ?g1 ?a1 ?a2 ?a3 ?a4 ?a5 ?a6 ?hE) ?B9 ?F9 ?X9 ?N9 ?T9 ?k9 ?d9 ?u9 ?_; (case B9 => k_asm); (case F9 => k_asm); (case X9 => k_asm); (case N9 => k_asm); (case T9 => k_asm); (case k9 => first | exact rfl | assumption); (case d9 => (walk_at "ez_room")); (case u9 => (walk_at "ez_room")); (case hE => with_reducible assumption); (case n0 => with_reducible assumption); (case y0 => with_reducible assumption); (case s1 => (walk_at "ez_small")); (case g0 => omega); (case g1 => omega); (case a1 => with_reducible assumption); (case a2 => with_reducible assumption); (case a3 => with_reducible assumption); (case a4 => with_reducible assumption); (case a5 => with_reducible assumption); (case a6 => with_reducible assumption)); intro t9 h' tk' F' N'; (walk_at "ez_tidy")))
local macro_rules | `(tactic| walk_at "call ref") => `(tactic| (k_here; (with_reducible show wpAny _ _ (call (Value.ref 197) [Value.ref _, Value.int _ _]) _ _ _); k_dflt (refine' EzC.useStr (c_sci_dbl _ _ _ _ _ _ _ _ _ _ _ _ _ _ _ ?m1 ?m2 ?n0 ?h0 ?s1 ?s2 ?g0 ?g1 ?a1 ?a2 ?a3 ?a4 ?a5 ?a6 ?hE) ?B9 ?F9 ?X9 ?N9 ?T9 ?k9 ?d9 ?u9 ?_; (case B9 => k_asm); (case F9 => k_asm); (case X9 => k_asm); (case N9 => k_asm); (case T9 => k_asm); (case k9 => first | exact rfl | assumption); (case d9 => (walk_at "ez_room")); (case u9 => (walk_at "ez_room")); (case m1 => k_mem); (case m2 => k_mem); (case hE => with_reducible assumption); (case n0 => with_reducible assumption); (case h0 => with_reducible assumption); (case s1 => (walk_at "ez_small")); (case s2 => (walk_at "ez_small")); (case g0 => omega); (case g1 => omega); (case a1 => with_reducible assumption); (case a2 => with_reducible assumption); (case a3 => with_reducible assumption); (case a4 => with_reducible assumption); (case a5 => with_reducible assumption); (case a6 => with_reducible assumption)); intro t9 h' tk' F' N'; (walk_at "ez_tidy")))
section
local macro_rules | `(tactic| walk_at "binaryOp Add str str") => `(tactic| (k_here; (with_reducible show wpAny _ _ (binaryOp Operator.Add (Value.str (sciT _ _) _) (Value.str _ _)) _ _ _); (refine ez_addS ?_ (by rw [PySem.sizeLine_eq]; omega)); intro t9 k9))
local macro_rules | `(tactic| walk_at "call ref") => `(tactic| (k_here; (with_reducible show wpAny _ _ (call (Value.ref 181) [Value.ref _, Value.int _ _]) _ _ _); k_dflt (refine' EzC.useMantE (c_mant _ _ _ _ _ _ _ _ _ _ _ _ _ ?m1 ?m2 ?h0 ?b0 ?s1 ?s2 ?g0 ?g1) ?hE ?B9 ?F9 ?X9 ?N9 ?T9 ?k9 ?d9 ?u9 ?_; (case B9 => k_asm); (case F9 => k_asm); (case X9 => k_asm); (case N9 => k_asm); (case T9 => k_asm); (case k9 => first | exact rfl | assumption); (case d9 => (walk_at "ez_room")); (case u9 => (walk_at "ez_room")); (case m1 => k_mem); (case m2 => k_mem); (case hE => with_reducible assumption); (case h0 => (walk_at "ez_pos")); (case b0 => first | assumption | omega | (refine pos_ne ?_; (walk_at "ez_pos"))); (case s1 => (walk_at "ez_small")); (case s2 => (walk_at "ez_small")); (case g0 => omega); (case g1 => omega)); intro d9 t9 u9 x9 h' tk' l1 F' N'; (try simp only [AllLt, and_true] at l1); (walk_at "ez_tidy")))
set_option maxRecDepth 100000 in
set_option maxHeartbeats 8000000 in
theorem c_met_great (news) (n P E F9 : Int) (T1 U : PySem.Str) (tn td tu) (n0 : n < 0) (n1 : n ≠ 0) (y0 : dblN n 1 ≠ 0) (s1 : Sm 250 n) (g0 : 1 ≤ P) (g1 : P ≤ 6) (ul : U.length ≤ 5) (fe : F9 ≥ 33) (tx1 : ∀ c ∈ (PySem.Str.ofString (toString E)).cps.toList, SupC c) (tx2 : 1 ≤ (PySem.Str.ofString (toString E)).length) (tx3 : (PySem.Str.ofString (toString E)).length ≤ 100) (tx4 : (supT (PySem.Str.ofString (toString E)).cps.toList).length ≤ 100) (tx5 : T1.length ≤ 100) (tx6 : Sm 100 E) (hE : ∀ k, WL (dblN (Int.natAbs (dblN n 1)) (dblD n 1)) (dblD (Int.natAbs (dblN n 1)) (dblD n 1)) k → mantE (dblN n 1) (dblD n 1) (P - 1) k = E ∧ mantT (dblN n 1) (P - 1) (mantV (dblN n 1) (dblD n 1) (P - 1) k) = T1)
    (hF : ∀ k, WL (dblN (Int.natAbs (dblN (Int.natAbs (dblN n 1)) (dblD n 1))) (dblD (Int.natAbs (dblN n 1)) (dblD n 1))) (dblD (Int.natAbs (dblN (Int.natAbs (dblN n 1)) (dblD n 1))) (dblD (Int.natAbs (dblN n 1)) (dblD n 1))) k → mantE (dblN (Int.natAbs (dblN n 1)) (dblD n 1)) (dblD (Int.natAbs (dblN n 1)) (dblD n 1)) 14 k = F9) :
    EzC 16 news (call (.ref 205) [.int n tn, .str U tu, .int P td]) (isStr (sciT T1 E ++ U)) := by
  have sl := sciT_len tx5 tx4
  unfold EzC
  intro prog w p loose mean mg mb dp un gd cn cs a ccd cl outer A₀ base h₀ L m s Q E B F X N T hk hd hu hret
  obtain ⟨ck, c1, c2, c3, c4⟩ := cs
  dsimp only at hk
  subst hk
  k_steps
  all_goals (refine' hret _ [] _ _ (isStr.mk ?e9) ?O9 ?F9 ?N9; (case F9 => k_asm); (case N9 => (walk_at "ez_news")); (case O9 => (walk_at "ez_ord")); (case e9 => rfl))
set_option maxRecDepth 100000 in
set_option maxHeartbeats 8000000 in
theorem c_met_small (news) (n d P E F9 : Int) (T1 U : PySem.Str) (td tu) (x dx h1 h2 k1 k2 t u) (m1 : (x, instObj 109 dx) ∈ news) (m2 : (dx, dictOf [⟨h1, .str (PySem.Str.ofString "n") k1, .int n t⟩, ⟨h2, .str (PySem.Str.ofString "d") k2, .int d u⟩] 2) ∈ news) (n0 : 0 < n) (n1 : n ≠ 0) (h0 : 0 < d) (s1 : Sm 250 n) (s2 : Sm 260 d) (s3 : Sm 260 (dblD (Int.natAbs n) d)) (g0 : 1 ≤ P) (g1 : P ≤ 6) (ul : U.length ≤ 5) (fe : F9 < -30) (tx1 : ∀ c ∈ (PySem.Str.ofString (toString E)).cps.toList, SupC c) (tx2 : 1 ≤ (PySem.Str.ofString (toString E)).length) (tx3 : (PySem.Str.ofString (toString E)).length ≤ 100) (tx4 : (supT (PySem.Str.ofString (toString E)).cps.toList).length ≤ 100) (tx5 : T1.length ≤ 100) (tx6 : Sm 100 E) (hE : ∀ k, WL (dblN (Int.natAbs (n)) (d)) (dblD (Int.natAbs (n)) (d)) k → mantE (n) (d) (P - 1) k = E ∧ mantT (n) (P - 1) (mantV (n) (d) (P - 1) k) = T1)
    (hF : ∀ k, WL (dblN (Int.natAbs (dblN (Int.natAbs n) d)) (dblD (Int.natAbs n) d)) (dblD (Int.natAbs (dblN (Int.natAbs n) d)) (dblD (Int.natAbs n) d)) k → mantE (dblN (Int.natAbs n) d) (dblD (Int.natAbs n) d) 14 k = F9) :
    EzC 16 news (call (.ref 205) [.ref x, .str U tu, .int P td]) (isStr (sciT T1 E ++ U)) := by
  have sl := sciT_len tx5 tx4
  unfold EzC
  intro prog w p loose mean mg mb dp un gd cn cs a ccd cl outer A₀ base h₀ L m s Q E B F X N T hk hd hu hret
  obtain ⟨ck, c1, c2, c3, c4⟩ := cs
  dsimp only at hk
  subst hk
  k_steps
  all_goals (refine' hret _ [] _ _ (isStr.mk ?e9) ?O9 ?F9 ?N9; (case F9 => k_asm); (case N9 => (walk_at "ez_news")); (case O9 => (walk_at "ez_ord")); (case e9 => rfl))
end
theorem back_bg : True := by
  w_top off
  first | walk1 | trivial
end
theorem back_bh : True := by
  w_top off
  first | walk1 | trivial

theorem back_bi : True := by
  w_top off
  first | walk1 | trivial
def lnP (n d : Int) : Int := (n * 2 ^ (200 : Int).toNat).fdiv d
def lnK (n d : Int) : Int := (Builtin.Int.intBits (lnP n d) : Int) - 53
def lnB (n d : Int) : Int := 1 * 2 ^ (lnK n d).toNat
def lnH (n d : Int) : Int := if 2 * (lnP n d).fmod (lnB n d) > lnB n d ∨ (2 * (lnP n d).fmod (lnB n d) = lnB n d ∧ ((n * 2 ^ (200 : Int).toNat).fmod d > 0 ∨ ((lnP n d).fdiv (lnB n d)).fmod 2 = 1)) then (lnP n d).fdiv (lnB n d) + 1 else (lnP n d).fdiv (lnB n d)
def lnN (n d : Int) : Int := lnH n d * 2 ^ (lnK n d).toNat
section
local macro_rules | `(tactic| walk_at "storeName") => `(tactic| (dsimp only; walk1))
local macro_rules | `(tactic| walk_at "ite") => `(tactic| (dsimp only; walk1))
local macro_rules | `(tactic| walk_at "compareOp Eq int int") => `(tactic| (dsimp only; walk1))
local macro_rules | `(tactic| walk_at "compareOp Gt int int") => `(tactic| (dsimp only; walk1))
local macro_rules | `(tactic| walk_at "compareOp Lt int int") => `(tactic| (dsimp only; walk1))
local macro_rules | `(tactic| walk_at "compareOp GtE int int") => `(tactic| (dsimp only; walk1))
local macro_rules | `(tactic| walk_at "binaryOp Mult int int") => `(tactic| (dsimp only; walk1))
local macro_rules | `(tactic| walk_at "binaryOp Sub int int") => `(tactic| (dsimp only; walk1))
set_option maxRecDepth 100000 in
set_option maxHeartbeats 8000000 in
theorem c_lnear (news) (n d : Int) (tn td) (h0 : 0 < d) (n0 : 0 < n) (s1 : Sm 520 n) (s2 : Sm 520 d) (kk : 0 ≤ (Builtin.Int.intBits ((n * 2 ^ (200 : Int).toNat).fdiv d) : Int) - 53) (k2 : (Builtin.Int.intBits ((n * 2 ^ (200 : Int).toNat).fdiv d) : Int) - 53 ≤ 700) :
    EzC 3 news (call (.ref 212) [.int n tn, .int d td]) (isTup2 (lnN n d) (1 * 2 ^ (200 : Int).toNat)) := by
  unfold EzC
  intro prog w p loose mean mg mb dp un gd cn cs a ccd cl outer A₀ base h₀ L m s Q E B F X N T hk hd hu hret
  obtain ⟨ck, c1, c2, c3, c4⟩ := cs
  dsimp only at hk
  subst hk
  k_steps
  all_goals (refine' hret _ [_] _ _ (isTup2.mk ?e9 ?f9) ?O9 ?F9 ?N9; (case F9 => k_asm); (case N9 => (walk_at "ez_news")); (case O9 => (walk_at "ez_ord")); (case e9 => (unfold lnN lnH lnB lnK lnP; first | (rw [if_pos (.inl (by assumption))]; done) | (rw [if_pos (.inr ⟨by assumption, .inl (by assumption)⟩)]; done) | (rw [if_pos (.inr ⟨by assumption, .inr (by assumption)⟩)]; done) | (rw [if_neg (fun h => by rcases h with h | ⟨h, h' | h'⟩ <;> contradiction)]; done))); (case f9 => rfl))
set_option maxRecDepth 100000 in
set_option maxHeartbeats 8000000 in
theorem c_lput (news) (n d dg : Int) (tn td tg) (h0 : 0 < d) (s1 : Sm 600 n) (s2 : Sm 600 d) (g0 : 0 ≤ dg) (g1 : dg ≤ 5) :
    EzC 3 news (call (.ref 219) [.int n tn, .int d td, .int dg tg]) (isInt (rndI (n * 10 ^ dg.toNat) d)) := by
  unfold EzC
  intro prog w p loose mean mg mb dp un gd cn cs a ccd cl outer A₀ base h₀ L m s Q E B F X N T hk hd hu hret
  obtain ⟨ck, c1, c2, c3, c4⟩ := cs
  dsimp only at hk
  subst hk
  have ed := Int.mul_fdiv_add_fmod (n * 10 ^ dg.toNat) d
  rw [Int.mul_comm] at ed
  k_steps
  all_goals (refine' hret _ [] _ _ (isInt.mk ?e9) ?O9 ?F9 ?N9; (case F9 => k_asm); (case N9 => (walk_at "ez_news")); (case O9 => (walk_at "ez_ord")); (case e9 => (unfold rndI; first | (rw [if_pos (.inl (by omega))]; done) | (rw [if_pos (.inr ⟨by omega, by assumption⟩)]; done) | (rw [if_neg (fun h => by rcases h with h | ⟨h, h'⟩ <;> first | contradiction | omega)]; done))))
local macro_rules | `(tactic| walk_at "storeName") => `(tactic| (simp only [‹Txt.rjustF _ _ _ = _›]; walk1))
local macro_rules | `(tactic| walk_at "ez_eq") => `(tactic| with_reducible assumption)
local macro_rules | `(tactic| walk_at "ez_fl") => `(tactic| omega)
local macro_rules | `(tactic| walk_at "subscriptTail Name Slice str ref") => `(tactic| (k_here; (with_reducible show wpAny _ _ (subscriptTail _ (Expr.Slice none (some _) none _) (Value.str _ _) (Value.ref _)) _ _ _); (with_reducible rename Fr _ _ _ _ => kF); (with_reducible rename News _ _ _ _ => kN); (refine' ez_slice_ns (s := ⟨_, _, _, _, _⟩) ?e kF kN ?l ?_; (case e => (walk_at "ez_eq")); (case l => (walk_at "ez_fl"))); intro h' t8 k8 F' N'; (try k_sweep)))
local macro_rules | `(tactic| walk_at "subscriptTail Name Slice str ref") => `(tactic| (k_here; (with_reducible show wpAny _ _ (subscriptTail _ (Expr.Slice (some _) none none _) (Value.str _ _) (Value.ref _)) _ _ _); (with_reducible rename Fr _ _ _ _ => kF); (with_reducible rename News _ _ _ _ => kN); (refine' ez_slice_sn (s := ⟨_, _, _, _, _⟩) ?e kF kN ?l ?_; (case e => (walk_at "ez_eq")); (case l => (walk_at "ez_fl"))); intro h' t8 k8 F' N'; (try k_sweep)))
local macro_rules | `(tactic| walk_at "call builtin:len") => `(tactic| (k_here; (with_reducible show wpAny _ _ (call (Value.builtin "len") [Value.str _ _]) _ _ _); (refine PyProof.Rows.len_str ?hfit ?_; (case hfit => (walk_at "ez_fl")))))
set_option maxRecDepth 100000 in
set_option maxHeartbeats 8000000 in
theorem c_ltext0 (news) (m dg : Int) (xW xA xP : PySem.Str) (tm tg) (h0 : 0 ≤ m) (s1 : Sm 100 m) (g0 : 0 ≤ dg) (g1 : dg ≤ 5)
    (r1 : Txt.rjustF (PySem.Str.ofString (toString m)) (dg + 1) ((PySem.Str.ofString "0").cps.getD 0 0) = xW) (r2 : xW.length ≤ 100) (r3 : Txt.slice xW none (some ((xW.length : Int) - dg)) = xA) (r4 : Txt.slice xW (some ((xW.length : Int) - dg)) none = xP) (r5 : xA.length ≤ 100) (r6 : xP.length ≤ 100) (TT : PySem.Str)
    (r7 : dg = 0 → xA ++ PySem.Str.ofString "" = TT) (r8 : dg ≠ 0 → xA ++ (PySem.Str.ofString "." ++ xP) = TT) :
    EzC 3 news (call (.ref 226) [.int m tm, .int dg tg]) (isStr TT) := by
  unfold EzC
  intro prog w p loose mean mg mb dp un gd cn cs a ccd cl outer A₀ base h₀ L m s Q E B F X N T hk hd hu hret
  obtain ⟨ck, c1, c2, c3, c4⟩ := cs
  dsimp only at hk
  subst hk
  k_steps
  all_goals (refine' hret _ [] _ _ (isStr.mk ?e9) ?O9 ?F9 ?N9; (case F9 => k_asm); (case N9 => (walk_at "ez_news")); (case O9 => (walk_at "ez_ord")); (case e9 => first | exact r7 (by assumption) | exact r8 (by assumption)))
end
theorem back_bj : True := by
  w_top off
  first | walk1 | trivial
theorem cps_rjust (m k : Nat) : (Txt.rjustF (PySem.Str.ofString (toString (m : Int))) ((k : Int) + 1) ((PySem.Str.ofString "0").cps.getD 0 0)).cps.toList = digs (m / 10 ^ k) ++ pk k (m % 10 ^ k) := by
  rw [← digs_rj]
  have e := cps_num m
  have hl := len_list (PySem.Str.ofString (toString (m : Int)))
  rw [e] at hl
  have e0 : (PySem.Str.ofString "0").cps.getD 0 0 = 48 := rfl
  rw [e0]
  unfold Txt.rjustF
  rw [hl]
  split
  · rw [e, show k + 1 - (digs m).length = 0 by omega]
    rfl
  · unfold Builtin.Str.padded
    rw [show ((k : Int) + 1).toNat = k + 1 by omega]
    simp
    exact e
theorem slice_to {x : PySem.Str} {A P : List Nat} (h : x.cps.toList = A ++ P) {j : Int} (hj : j = A.length) : (Txt.slice x none (some j)).cps.toList = A := by
  subst hj
  have e := PySem.StrLaws.sliceText_to (x := x) (j := (A.length : Int)) ⟨by omega, by rw [h]; simp; omega⟩
  have e2 : Txt.slice x none (some (A.length : Int)) = PySem.StrLaws.sliceText x none (some (A.length : Int)) := rfl
  rw [e2, e, h]
  simp
theorem slice_from {x : PySem.Str} {A P : List Nat} (h : x.cps.toList = A ++ P) {j : Int} (hj : j = A.length) : (Txt.slice x (some j) none).cps.toList = P := by
  subst hj
  have e := PySem.StrLaws.sliceText_from (x := x) (i := (A.length : Int)) ⟨by omega, by rw [h]; simp; omega⟩
  have e2 : Txt.slice x (some (A.length : Int)) none = PySem.StrLaws.sliceText x (some (A.length : Int)) none := rfl
  have e3 : ((x.cps.toList.length : Int) - (A.length : Int)).toNat = P.length := by rw [h, List.length_append]; omega
  rw [e2, e, e3, h]
  simp
theorem c_ltext (news) (m dg : Int) (tm tg) (h0 : 0 ≤ m) (s1 : m < 10 ^ 20) (g0 : 0 ≤ dg) (g1 : dg ≤ 5) : EzC 3 news (call (.ref 226) [.int m tm, .int dg tg]) (isStr (laidS dg m)) := by
  obtain ⟨m, rfl⟩ := Int.eq_ofNat_of_zero_le h0
  obtain ⟨k, rfl⟩ := Int.eq_ofNat_of_zero_le g0
  have s1' : m < 10 ^ 20 := by exact_mod_cast s1
  have hq : m / 10 ^ k < 10 ^ 20 := Nat.lt_of_le_of_lt (Nat.div_le_self _ _) s1'
  have hql : (digs (m / 10 ^ k)).length ≤ 20 := by
    unfold digs
    rw [List.length_map]
    exact digits10_le (by decide) hq
  have hpl := pk_len k (m % 10 ^ k)
  have hW := cps_rjust m k
  have hL := cps_laid m k
  generalize digs (m / 10 ^ k) = A at *
  generalize pk k (m % 10 ^ k) = P at *
  generalize hx : Txt.rjustF (PySem.Str.ofString (toString (m : Int))) ((k : Int) + 1) ((PySem.Str.ofString "0").cps.getD 0 0) = xW at *
  have hWl := len_list xW
  rw [hW, List.length_append] at hWl
  have a1 := slice_to hW (j := (xW.length : Int) - k) (by omega)
  have a2 := slice_from hW (j := (xW.length : Int) - k) (by omega)
  refine c_ltext0 news m k xW _ _ tm tg (by omega) (Sm_of20 (by omega) (by exact_mod_cast s1)) (by omega) g1 hx (by omega) rfl rfl (by rw [len_list, a1]; omega) (by rw [len_list, a2]; omega) _ (fun h => ?_) fun h => ?_
  · apply str_ext
    rw [cps_app, a1, hL, if_pos (by omega)]
    rfl
  · apply str_ext
    rw [cps_app, cps_app, a1, a2, hL, if_neg (by omega)]
    rfl
local macro_rules | `(tactic| walk_at "call ref") => `(tactic| (k_here; (with_reducible show wpAny _ _ (call (Value.ref 226) [Value.int _ _, Value.int _ _]) _ _ _); k_dflt (refine' EzC.useStr (c_ltext _ _ _ _ _ ?h0 ?s1 ?g0 ?g1) ?B9 ?F9 ?X9 ?N9 ?T9 ?k9 ?d9 ?u9 ?_; (case B9 => k_asm); (case F9 => k_asm); (case X9 => k_asm); (case N9 => k_asm); (case T9 => k_asm); (case k9 => first | exact rfl | assumption); (case d9 => (walk_at "ez_room")); (case u9 => (walk_at "ez_room")); (case h0 => with_reducible assumption); (case s1 => with_reducible assumption); (case g0 => omega); (case g1 => omega)); intro t9 h' tk' F' N'; (walk_at "ez_tidy")))

theorem back_bk : True := by
  w_top off
  first | walk1 | trivial
def LnOK (n d : Int) : Prop := 0 < d ∧ 0 < n ∧ Sm 520 n ∧ Sm 520 d ∧ 0 ≤ (Builtin.Int.intBits ((n * 2 ^ (200 : Int).toNat).fdiv d) : Int) - 53 ∧ (Builtin.Int.intBits ((n * 2 ^ (200 : Int).toNat).fdiv d) : Int) - 53 ≤ 700
theorem c_lnear' (news) (n d : Int) (tn td) (h : LnOK n d) : EzC 3 news (call (.ref 212) [.int n tn, .int d td]) (isTup2 (lnN n d) (1 * 2 ^ (200 : Int).toNat)) := c_lnear news n d tn td h.1 h.2.1 h.2.2.1 h.2.2.2.1 h.2.2.2.2.1 h.2.2.2.2.2
@[irreducible] def ordC (i : Int) : PySem.Str := Txt.item (PySem.Str.ofString "qryzafpnμm kMGTPEZYRQ") i
def prefT (p : Int) : PySem.Str := if p - p.fmod 3 ≠ 0 then ordC ((p - p.fmod 3).fdiv 3 + 10) else PySem.Str.ofString ""
def blankT (u o : PySem.Str) : PySem.Str := if (u = PySem.Str.ofString "°" ∨ u = PySem.Str.ofString "′" ∨ u = PySem.Str.ofString "″") ∨ o ++ u = PySem.Str.ofString "" then PySem.Str.ofString "" else PySem.Str.ofString " "
section
variable {prog : Program} {w : World} {A : Around} {E : Value → Shared → Prop} {s : Shared} {t u : Tok} {i : Int} {Q : Value → Shared → Prop}
theorem ez_ordC {value slice : PySem.Expr} (h0 : 0 ≤ i) (h1 : i ≤ 20) (h : Q (.str (ordC i) s.toks) { s with toks := s.toks + 1 })
    (hs : subscripted slice false (.str (PySem.Str.ofString "qryzafpnμm kMGTPEZYRQ") t) (.int i u) = operate [.str (PySem.Str.ofString "qryzafpnμm kMGTPEZYRQ") t, .int i u] (getItem (.str (PySem.Str.ofString "qryzafpnμm kMGTPEZYRQ") t) (.int i u)) := by with_unfolding_all rfl)
    (ht : ∀ r, letTemporaryGo value (.str (PySem.Str.ofString "qryzafpnμm kMGTPEZYRQ") t) r = pure () := by intro _; with_unfolding_all rfl) :
    wpAny (model prog w) A (subscriptTail value slice (.str (PySem.Str.ofString "qryzafpnμm kMGTPEZYRQ") t) (.int i u)) Q E s := by
  have hl : (PySem.Str.ofString "qryzafpnμm kMGTPEZYRQ").length = 21 := by decide +kernel
  refine ez_itemE (z := ordC i) (by unfold ordC; rfl) h0 (by rw [hl]; omega) (by omega) h hs ht
end
theorem back_bl : True := by
  w_top off
  first | walk1 | trivial
section
variable {h₀ : Heap} {L : Addr} {m : PySem.Str → Option Value} {news : List (Addr × Obj)} {M : Model} {A : Around} {s : Shared}
theorem cut_strV {t : Sem Value} {Q Ex : Value → Shared → Prop} {T : PySem.Str} (_F : Fr h₀ L s.heap m) (_N : News h₀ L s.heap news) (h1 : wpAny M A t (CutV (isStr T) h₀ L m news s) Ex s)
    (h2 : ∀ t h' tk', Fr h₀ L h' m → News h₀ L h' news → Q (.str T t) { s with heap := h', toks := tk' }) : wpAny M A t Q Ex s := by
  refine wpAny_mono h1 (fun v s' c => ?_) fun _ _ h => h
  obtain ⟨new, h', tk', ⟨rfl, t, rfl⟩, _, rfl, F', N'⟩ := c.here
  exact h2 t h' tk' F' N'
theorem cut_pref {t : Sem Value} {Q Ex : Value → Shared → Prop} {p : Int} {tp : Tok} (_hp : m (PySem.Str.ofString "power") = some (.int p tp)) (F : Fr h₀ L s.heap m) (N : News h₀ L s.heap news) (h1 : wpAny M A t (CutV (isStr (prefT p)) h₀ L m news s) Ex s)
    (h2 : ∀ t h' tk', Fr h₀ L h' m → News h₀ L h' news → Q (.str (prefT p) t) { s with heap := h', toks := tk' }) : wpAny M A t Q Ex s := cut_strV F N h1 h2
theorem cut_blank {t : Sem Value} {Q Ex : Value → Shared → Prop} {u o : PySem.Str} {tu to : Tok} (_hu : m (PySem.Str.ofString "unit") = some (.str u tu)) (_ho : m (PySem.Str.ofString "prefix") = some (.str o to)) (F : Fr h₀ L s.heap m) (N : News h₀ L s.heap news) (h1 : wpAny M A t (CutV (isStr (blankT u o)) h₀ L m news s) Ex s)
    (h2 : ∀ t h' tk', Fr h₀ L h' m → News h₀ L h' news → Q (.str (blankT u o) t) { s with heap := h', toks := tk' }) : wpAny M A t Q Ex s := cut_strV F N h1 h2
end
theorem back_bm : True := by
  w_top off
  first | walk1 | trivial
def NewsIs (_ : List (Addr × Obj)) : Prop := True
theorem ez_unrEnd {h₀ h' : Heap} {L i D : Addr} {o T : Obj} {news all : List (Addr × Obj)} {tk : Nat} {m' : PySem.Str → Option Value} {s₁ : Shared} {R : (PySem.Str → Option Value) → List (Addr × Obj) → Prop} (_mk : NewsIs news) (F : Fr h₀ L h' m') (N : News h₀ L h' all)
    (hI : (i, o) ∈ all) (hD : (D, T) ∈ all) (hs : ∀ p ∈ news, p ∈ all) (l0 : @LT.lt Nat _ D i) (l1 : AllLt i news) (r : R m' ((D, T) :: news)) : UnrEndW h₀ L s₁ [(i, o)] (fun m' n' => SubL [(D, T)] n' ∧ R m' n') { s₁ with heap := h', toks := tk } := by
  refine ⟨h', tk, m', (D, T) :: news, rfl, F, ?_, ?_, ⟨List.mem_cons_self .., trivial⟩, r⟩
  · intro p hp
    rcases List.mem_cons.mp hp with rfl | hp
    · exact N _ hI
    · rcases List.mem_cons.mp hp with rfl | hp
      · exact N _ hD
      · exact N _ (hs p hp)
  · intro p hp q hq
    rw [List.mem_singleton.mp hq]
    rcases List.mem_cons.mp hp with rfl | hp
    · exact Nat.ne_of_lt l0
    · exact Nat.ne_of_lt (ktn_ltOf l1 p hp)
theorem blank_1 {u o : PySem.Str} (h : (List.any [PySem.Str.ofString "°", PySem.Str.ofString "′", PySem.Str.ofString "″"] fun x => x == u) = true) : PySem.Str.ofString "" = blankT u o := by
  unfold blankT
  rw [if_pos]
  simp only [List.any_cons, List.any_nil, Bool.or_false, Bool.or_eq_true, beq_iff_eq] at h
  rcases h with h | h | h
  · exact .inl (.inl h.symm)
  · exact .inl (.inr (.inl h.symm))
  · exact .inl (.inr (.inr h.symm))
theorem blank_2 {u o : PySem.Str} (h : (o ++ u == PySem.Str.ofString "") = true) : PySem.Str.ofString "" = blankT u o := by
  unfold blankT
  rw [if_pos (.inr (by simpa using h))]
theorem blank_3 {u o : PySem.Str} (h : (List.any [PySem.Str.ofString "°", PySem.Str.ofString "′", PySem.Str.ofString "″"] fun x => x == u) = false) (g : (o ++ u == PySem.Str.ofString "") = false) : PySem.Str.ofString " " = blankT u o := by
  have g : o ++ u ≠ PySem.Str.ofString "" := by simpa using g
  unfold blankT
  rw [if_neg]
  simp only [List.any_cons, List.any_nil, Bool.or_false, Bool.or_eq_false_iff, beq_eq_false_iff_ne] at h
  rintro ((h1 | h1 | h1) | h1)
  · exact h.1 h1.symm
  · exact h.2.1 h1.symm
  · exact h.2.2 h1.symm
  · exact g h1
local macro_rules | `(tactic| walk_at "call ref") => `(tactic| (k_here; (with_reducible show wpAny _ _ (call (Value.ref 212) [Value.int _ _, Value.int _ _]) _ _ _); k_dflt (refine' EzC.useTup2 (c_lnear' _ _ _ _ _ ?h0) ?B9 ?F9 ?X9 ?N9 ?T9 ?k9 ?d9 ?u9 ?_; (case B9 => k_asm); (case F9 => k_asm); (case X9 => k_asm); (case N9 => k_asm); (case T9 => k_asm); (case k9 => first | exact rfl | assumption); (case d9 => (walk_at "ez_room")); (case u9 => (walk_at "ez_room")); (case h0 => with_reducible assumption)); intro d9 t9 u9 h' tk' l1 F' N'; (try simp only [AllLt, and_true] at l1); (walk_at "ez_tidy")))
local macro_rules | `(tactic| walk_at "call ref") => `(tactic| (k_here; (with_reducible show wpAny _ _ (call (Value.ref 219) [Value.int _ _, Value.int _ _, Value.int _ _]) _ _ _); k_dflt (refine' EzC.useInt (c_lput _ _ _ _ _ _ _ ?h0 ?s1 ?s2 ?g0 ?g1) ?B9 ?F9 ?X9 ?N9 ?T9 ?k9 ?d9 ?u9 ?_; (case B9 => k_asm); (case F9 => k_asm); (case X9 => k_asm); (case N9 => k_asm); (case T9 => k_asm); (case k9 => first | exact rfl | assumption); (case d9 => (walk_at "ez_room")); (case u9 => (walk_at "ez_room")); (case h0 => (walk_at "ez_pos")); (case s1 => (walk_at "ez_small")); (case s2 => (walk_at "ez_small")); (case g0 => omega); (case g1 => omega)); intro t9 h' tk' F' N'; (walk_at "ez_tidy")))
section
local macro_rules | `(tactic| walk_at "storeName") => `(tactic| (dsimp only; walk1))
local macro_rules | `(tactic| walk_at "ite") => `(tactic| (dsimp only; walk1))
local macro_rules | `(tactic| walk_at "compareOp Eq int int") => `(tactic| (dsimp only; walk1))
local macro_rules | `(tactic| walk_at "compareOp Gt int int") => `(tactic| (dsimp only; walk1))
local macro_rules | `(tactic| walk_at "compareOp Lt int int") => `(tactic| (dsimp only; walk1))
local macro_rules | `(tactic| walk_at "compareOp GtE int int") => `(tactic| (dsimp only; walk1))
local macro_rules | `(tactic| walk_at "binaryOp Mult int int") => `(tactic| (dsimp only; walk1))
local macro_rules | `(tactic| walk_at "binaryOp Sub int int") => `(tactic| (dsimp only; walk1))
local macro_rules | `(tactic| walk_at "eval IfExp") => `(tactic| (k_here; (with_reducible show wpAny _ _ (eval (Expr.IfExp (Expr.Compare _ [CmpOp.NotEq] _ _) _ _ _) _) _ _ _); (fail_if_success (with_reducible show wpAny _ _ _ (CutV _ _ _ _ _ _) _ _)); (refine' cut_pref ?e9 ?F9 ?N9 ?_ (fun t9 h' tk' F' N' => ?_); (case F9 => k_asm); (case e9 => k_dflt (exact rfl)); (case N9 => k_asm); (all_goals (try (walk_at "ez_tidy"))))))
local macro_rules | `(tactic| walk_at "eval IfExp") => `(tactic| (k_here; (with_reducible show wpAny _ _ (eval (Expr.IfExp (Expr.BoolOp _ _ _) _ _ _) _) _ _ _); (fail_if_success (with_reducible show wpAny _ _ _ (CutV _ _ _ _ _ _) _ _)); (refine' cut_blank ?e9 ?f9 ?F9 ?N9 ?_ (fun t9 h' tk' F' N' => ?_); (case F9 => k_asm); (case e9 => k_dflt (exact rfl)); (case f9 => k_dflt (exact rfl)); (case N9 => k_asm); (all_goals (try (walk_at "ez_tidy"))))))
local macro_rules | `(tactic| walk_at "pyIter ref") => `(tactic| (k_here; (with_reducible show wpAny _ _ (pyIter (Value.ref _)) (fun it s₂ => TurnsAt _ _ _ _ _ _ _ _ _ it s₂) _ _); ((rename Fr _ _ _ _ => lF'); (rename News _ _ _ _ => lN'); (with_unfolding_all refine iter_tupTurns (vs := [Value.int _ _, Value.int _ _]) (by rfl) lF' lN' (List.mem_cons_self ..) (by rfl) (by rfl) ?_); clear lF'; intro i' l1; (try k_lt l1))))
local macro_rules | `(tactic| walk_at "UnrEndW") => `(tactic| (k_here; (refine' ez_unrEnd ?mk ?F ?N ?hI ?hD ?hs ?l0 ?l1 ?_; (case mk => with_reducible assumption); (case F => k_asm); (case N => k_asm); (case hI => k_mem); (case hD => k_mem); (case hs => (walk_at "ez_sub")); (case l0 => omega); (case l1 => (walk_at "ez_lt")))))
local macro_rules | `(tactic| walk_at "CutV") => `(tactic| (k_here; (with_reducible show CutV (isStr _) _ _ _ _ _ _ _); (refine' CutV.intro [] _ _ (isStr.mk (by first | (walk_at "ez_cut") | fail "T")) (by first | (intro q hq; cases hq) | fail "O") (by first | k_asm | fail "F") (by walk_at "ez_news"))))
local macro_rules | `(tactic| walk_at "ez_cut") => `(tactic| first | exact blank_1 (by assumption) | exact blank_2 (by assumption) | exact blank_3 (by assumption) (by assumption) | (unfold prefT; first | (rw [if_pos (by assumption)]; done) | (rw [if_neg (by assumption)]; done) | (rw [if_pos (by omega)]; done) | (rw [if_neg (by omega)]; done)))
local macro_rules | `(tactic| walk_at "subscriptTail Constant str BinOp str int") => `(tactic| (k_here; (with_reducible show wpAny _ _ (subscriptTail _ _ (Value.str (PySem.Str.ofString "qryzafpnμm kMGTPEZYRQ") _) (Value.int _ _)) _ _ _); (refine' ez_ordC ?h0 ?h1 ?_; (case h0 => (walk_at "ez_fd")); (case h1 => (walk_at "ez_fd")))))
local macro_rules | `(tactic| walk_at "ez_fd") => `(tactic| omega)
local macro_rules | `(tactic| walk_at "ez_sm0") => `(tactic| ((with_reducible refine' Sm.pow (b := 33) ?p9 ?q9); (case p9 => (walk_at "ez_sm0")); (case q9 => omega)))
local macro_rules | `(tactic| walk_at "ez_sm0") => `(tactic| with_reducible assumption)
local macro_rules | `(tactic| walk_at "ez_pos") => `(tactic| with_reducible assumption)
set_option maxRecDepth 100000 in
set_option maxHeartbeats 8000000 in
theorem c_lsaidT (news) (E top low P : Int) (U TT : PySem.Str) (te tt tw tu tq) (t0 : top ≠ 0) (l0 : 0 < low) (p1 : 1 ≤ P) (p2 : P ≤ 6) (e1 : -30 ≤ E) (e2 : E ≤ 29) (ul : U.length ≤ 5) (ok1 : LnOK (10 ^ (max (E - E.fmod 3) 0).toNat) (10 ^ (max (-(E - E.fmod 3)) 0).toNat)) (ok2 : LnOK (10 ^ (max (E + 1 - (E + 1).fmod 3) 0).toNat) (10 ^ (max (-(E + 1 - (E + 1).fmod 3)) 0).toNat)) (ok3 : LnOK (top * 1) (1 * (10 ^ (max (E - E.fmod 3) 0).toNat))) (ok4 : LnOK (top * 1) (1 * (10 ^ (max (E + 1 - (E + 1).fmod 3) 0).toNat))) (m1 : Sm 300 (lnN (top * 1) (1 * (10 ^ (max (E - E.fmod 3) 0).toNat)))) (m2 : Sm 300 (lnN (top * 1) (1 * (10 ^ (max (E + 1 - (E + 1).fmod 3) 0).toNat)))) (a1 : 0 ≤ (rndI (lnN (top * 1) (1 * (10 ^ (max (E - E.fmod 3) 0).toNat)) * 10 ^ (max 0 (P - E.fmod 3 - 1)).toNat) (1 * 2 ^ (200 : Int).toNat))) (a2 : (rndI (lnN (top * 1) (1 * (10 ^ (max (E - E.fmod 3) 0).toNat)) * 10 ^ (max 0 (P - E.fmod 3 - 1)).toNat) (1 * 2 ^ (200 : Int).toNat)) < 10 ^ 20) (a3 : 0 ≤ (rndI (lnN (top * 1) (1 * (10 ^ (max (E + 1 - (E + 1).fmod 3) 0).toNat)) * 10 ^ (max 0 (P - (E + 1).fmod 3 - 1)).toNat) (1 * 2 ^ (200 : Int).toNat))) (a4 : (rndI (lnN (top * 1) (1 * (10 ^ (max (E + 1 - (E + 1).fmod 3) 0).toNat)) * 10 ^ (max 0 (P - (E + 1).fmod 3 - 1)).toNat) (1 * 2 ^ (200 : Int).toNat)) < 10 ^ 20) (tp : Sm 110 top) (tl : Sm 110 low) (tn : Sm 300 (lnN top low)) (tc1 : Sm 300 (lnN (10 ^ (max (E - E.fmod 3) 0).toNat) (10 ^ (max (-(E - E.fmod 3)) 0).toNat))) (tc2 : Sm 300 (lnN (10 ^ (max (E + 1 - (E + 1).fmod 3) 0).toNat) (10 ^ (max (-(E + 1 - (E + 1).fmod 3)) 0).toNat))) (hb1 : -30 ≤ E - E.fmod 3) (hb2 : E - E.fmod 3 ≤ 30) (f1 : 0 ≤ E.fmod 3) (f2 : E.fmod 3 ≤ 2) (f3 : 0 ≤ (E + 1).fmod 3) (f4 : (E + 1).fmod 3 ≤ 2) (j1 : 0 ≤ (E - E.fmod 3).fdiv 3 + 10) (j2 : (E - E.fmod 3).fdiv 3 + 10 ≤ 20) (j3 : 0 ≤ (E + 1 - (E + 1).fmod 3).fdiv 3 + 10) (j4 : (E + 1 - (E + 1).fmod 3).fdiv 3 + 10 ≤ 20) (q1 : (prefT E).length ≤ 1) (q2 : (prefT (E + 1)).length ≤ 1) (q3 : (blankT U (prefT E)).length ≤ 1) (q4 : (blankT U (prefT (E + 1))).length ≤ 1)
    (len1 : (laidS (max 0 (P - E.fmod 3 - 1)) (rndI (lnN (top * 1) (1 * (10 ^ (max (E - E.fmod 3) 0).toNat)) * 10 ^ (max 0 (P - E.fmod 3 - 1)).toNat) (1 * 2 ^ (200 : Int).toNat))).length ≤ 100) (len2 : (laidS (max 0 (P - (E + 1).fmod 3 - 1)) (rndI (lnN (top * 1) (1 * (10 ^ (max (E + 1 - (E + 1).fmod 3) 0).toNat)) * 10 ^ (max 0 (P - (E + 1).fmod 3 - 1)).toNat) (1 * 2 ^ (200 : Int).toNat))).length ≤ 100) (r1 : (rndI (lnN (top * 1) (1 * (10 ^ (max (E - E.fmod 3) 0).toNat)) * 10 ^ (max 0 (P - E.fmod 3 - 1)).toNat) (1 * 2 ^ (200 : Int).toNat)) < 10 ^ (E.fmod 3 + 1 + (max 0 (P - E.fmod 3 - 1))).toNat → laidS (max 0 (P - E.fmod 3 - 1)) (rndI (lnN (top * 1) (1 * (10 ^ (max (E - E.fmod 3) 0).toNat)) * 10 ^ (max 0 (P - E.fmod 3 - 1)).toNat) (1 * 2 ^ (200 : Int).toNat)) ++ blankT U (prefT E) ++ prefT E ++ U = TT) (r2 : ¬ ((rndI (lnN (top * 1) (1 * (10 ^ (max (E - E.fmod 3) 0).toNat)) * 10 ^ (max 0 (P - E.fmod 3 - 1)).toNat) (1 * 2 ^ (200 : Int).toNat)) < 10 ^ (E.fmod 3 + 1 + (max 0 (P - E.fmod 3 - 1))).toNat) → laidS (max 0 (P - (E + 1).fmod 3 - 1)) (rndI (lnN (top * 1) (1 * (10 ^ (max (E + 1 - (E + 1).fmod 3) 0).toNat)) * 10 ^ (max 0 (P - (E + 1).fmod 3 - 1)).toNat) (1 * 2 ^ (200 : Int).toNat)) ++ blankT U (prefT (E + 1)) ++ prefT (E + 1) ++ U = TT) :
    EzC 6 news (call (.ref 233) [.int E te, .int top tt, .int low tw, .str U tu, .int P tq, .bool true]) (isStr TT) := by
  have mk9 : NewsIs news := trivial
  have big : Sm 202 (1 * 2 ^ (200 : Int).toNat) := by unfold Sm; decide +kernel
  unfold EzC
  intro prog w p loose mean mg mb dp un gd cn cs a ccd cl outer A₀ base h₀ L m s Q E B F X N T hk hd hu hret
  obtain ⟨ck, c1, c2, c3, c4⟩ := cs
  dsimp only at hk
  subst hk
  k_steps
  all_goals (refine' hret _ [] _ _ (isStr.mk ?e9) ?O9 ?F9 ?N9; (case F9 => k_asm); (case N9 => (walk_at "ez_news")); (case O9 => (walk_at "ez_ord")); (case e9 => first | with_reducible exact r1 (by with_reducible assumption) | with_reducible exact r2 (by with_reducible assumption)))
set_option maxRecDepth 100000 in
set_option maxHeartbeats 8000000 in
theorem c_lsaidF (news) (E top low P : Int) (U TT : PySem.Str) (te tt tw tu tq) (t0 : top ≠ 0) (l0 : 0 < low) (p1 : 1 ≤ P) (p2 : P ≤ 6) (e1 : -30 ≤ E) (e2 : E ≤ 29) (ul : U.length ≤ 5) (ok0 : LnOK top low) (ok1 : LnOK (10 ^ (max (E - E.fmod 3) 0).toNat) (10 ^ (max (-(E - E.fmod 3)) 0).toNat)) (ok2 : LnOK (10 ^ (max (E + 1 - (E + 1).fmod 3) 0).toNat) (10 ^ (max (-(E + 1 - (E + 1).fmod 3)) 0).toNat)) (ok3 : LnOK (lnN top low * (1 * 2 ^ (200 : Int).toNat)) ((1 * 2 ^ (200 : Int).toNat) * lnN (10 ^ (max (E - E.fmod 3) 0).toNat) (10 ^ (max (-(E - E.fmod 3)) 0).toNat))) (ok4 : LnOK (lnN top low * (1 * 2 ^ (200 : Int).toNat)) ((1 * 2 ^ (200 : Int).toNat) * lnN (10 ^ (max (E + 1 - (E + 1).fmod 3) 0).toNat) (10 ^ (max (-(E + 1 - (E + 1).fmod 3)) 0).toNat))) (m1 : Sm 300 (lnN (lnN top low * (1 * 2 ^ (200 : Int).toNat)) ((1 * 2 ^ (200 : Int).toNat) * lnN (10 ^ (max (E - E.fmod 3) 0).toNat) (10 ^ (max (-(E - E.fmod 3)) 0).toNat)))) (m2 : Sm 300 (lnN (lnN top low * (1 * 2 ^ (200 : Int).toNat)) ((1 * 2 ^ (200 : Int).toNat) * lnN (10 ^ (max (E + 1 - (E + 1).fmod 3) 0).toNat) (10 ^ (max (-(E + 1 - (E + 1).fmod 3)) 0).toNat)))) (a1 : 0 ≤ (rndI (lnN (lnN top low * (1 * 2 ^ (200 : Int).toNat)) ((1 * 2 ^ (200 : Int).toNat) * lnN (10 ^ (max (E - E.fmod 3) 0).toNat) (10 ^ (max (-(E - E.fmod 3)) 0).toNat)) * 10 ^ (max 0 (P - E.fmod 3 - 1)).toNat) (1 * 2 ^ (200 : Int).toNat))) (a2 : (rndI (lnN (lnN top low * (1 * 2 ^ (200 : Int).toNat)) ((1 * 2 ^ (200 : Int).toNat) * lnN (10 ^ (max (E - E.fmod 3) 0).toNat) (10 ^ (max (-(E - E.fmod 3)) 0).toNat)) * 10 ^ (max 0 (P - E.fmod 3 - 1)).toNat) (1 * 2 ^ (200 : Int).toNat)) < 10 ^ 20) (a3 : 0 ≤ (rndI (lnN (lnN top low * (1 * 2 ^ (200 : Int).toNat)) ((1 * 2 ^ (200 : Int).toNat) * lnN (10 ^ (max (E + 1 - (E + 1).fmod 3) 0).toNat) (10 ^ (max (-(E + 1 - (E + 1).fmod 3)) 0).toNat)) * 10 ^ (max 0 (P - (E + 1).fmod 3 - 1)).toNat) (1 * 2 ^ (200 : Int).toNat))) (a4 : (rndI (lnN (lnN top low * (1 * 2 ^ (200 : Int).toNat)) ((1 * 2 ^ (200 : Int).toNat) * lnN (10 ^ (max (E + 1 - (E + 1).fmod 3) 0).toNat) (10 ^ (max (-(E + 1 - (E + 1).fmod 3)) 0).toNat)) * 10 ^ (max 0 (P - (E + 1).fmod 3 - 1)).toNat) (1 * 2 ^ (200 : Int).toNat)) < 10 ^ 20) (tp : Sm 110 top) (tl : Sm 110 low) (tn : Sm 300 (lnN top low)) (tc1 : Sm 300 (lnN (10 ^ (max (E - E.fmod 3) 0).toNat) (10 ^ (max (-(E - E.fmod 3)) 0).toNat))) (tc2 : Sm 300 (lnN (10 ^ (max (E + 1 - (E + 1).fmod 3) 0).toNat) (10 ^ (max (-(E + 1 - (E + 1).fmod 3)) 0).toNat))) (hb1 : -30 ≤ E - E.fmod 3) (hb2 : E - E.fmod 3 ≤ 30) (f1 : 0 ≤ E.fmod 3) (f2 : E.fmod 3 ≤ 2) (f3 : 0 ≤ (E + 1).fmod 3) (f4 : (E + 1).fmod 3 ≤ 2) (j1 : 0 ≤ (E - E.fmod 3).fdiv 3 + 10) (j2 : (E - E.fmod 3).fdiv 3 + 10 ≤ 20) (j3 : 0 ≤ (E + 1 - (E + 1).fmod 3).fdiv 3 + 10) (j4 : (E + 1 - (E + 1).fmod 3).fdiv 3 + 10 ≤ 20) (q1 : (prefT E).length ≤ 1) (q2 : (prefT (E + 1)).length ≤ 1) (q3 : (blankT U (prefT E)).length ≤ 1) (q4 : (blankT U (prefT (E + 1))).length ≤ 1)
    (len1 : (laidS (max 0 (P - E.fmod 3 - 1)) (rndI (lnN (lnN top low * (1 * 2 ^ (200 : Int).toNat)) ((1 * 2 ^ (200 : Int).toNat) * lnN (10 ^ (max (E - E.fmod 3) 0).toNat) (10 ^ (max (-(E - E.fmod 3)) 0).toNat)) * 10 ^ (max 0 (P - E.fmod 3 - 1)).toNat) (1 * 2 ^ (200 : Int).toNat))).length ≤ 100) (len2 : (laidS (max 0 (P - (E + 1).fmod 3 - 1)) (rndI (lnN (lnN top low * (1 * 2 ^ (200 : Int).toNat)) ((1 * 2 ^ (200 : Int).toNat) * lnN (10 ^ (max (E + 1 - (E + 1).fmod 3) 0).toNat) (10 ^ (max (-(E + 1 - (E + 1).fmod 3)) 0).toNat)) * 10 ^ (max 0 (P - (E + 1).fmod 3 - 1)).toNat) (1 * 2 ^ (200 : Int).toNat))).length ≤ 100) (r1 : (rndI (lnN (lnN top low * (1 * 2 ^ (200 : Int).toNat)) ((1 * 2 ^ (200 : Int).toNat) * lnN (10 ^ (max (E - E.fmod 3) 0).toNat) (10 ^ (max (-(E - E.fmod 3)) 0).toNat)) * 10 ^ (max 0 (P - E.fmod 3 - 1)).toNat) (1 * 2 ^ (200 : Int).toNat)) < 10 ^ (E.fmod 3 + 1 + (max 0 (P - E.fmod 3 - 1))).toNat → laidS (max 0 (P - E.fmod 3 - 1)) (rndI (lnN (lnN top low * (1 * 2 ^ (200 : Int).toNat)) ((1 * 2 ^ (200 : Int).toNat) * lnN (10 ^ (max (E - E.fmod 3) 0).toNat) (10 ^ (max (-(E - E.fmod 3)) 0).toNat)) * 10 ^ (max 0 (P - E.fmod 3 - 1)).toNat) (1 * 2 ^ (200 : Int).toNat)) ++ blankT U (prefT E) ++ prefT E ++ U = TT) (r2 : ¬ ((rndI (lnN (lnN top low * (1 * 2 ^ (200 : Int).toNat)) ((1 * 2 ^ (200 : Int).toNat) * lnN (10 ^ (max (E - E.fmod 3) 0).toNat) (10 ^ (max (-(E - E.fmod 3)) 0).toNat)) * 10 ^ (max 0 (P - E.fmod 3 - 1)).toNat) (1 * 2 ^ (200 : Int).toNat)) < 10 ^ (E.fmod 3 + 1 + (max 0 (P - E.fmod 3 - 1))).toNat) → laidS (max 0 (P - (E + 1).fmod 3 - 1)) (rndI (lnN (lnN top low * (1 * 2 ^ (200 : Int).toNat)) ((1 * 2 ^ (200 : Int).toNat) * lnN (10 ^ (max (E + 1 - (E + 1).fmod 3) 0).toNat) (10 ^ (max (-(E + 1 - (E + 1).fmod 3)) 0).toNat)) * 10 ^ (max 0 (P - (E + 1).fmod 3 - 1)).toNat) (1 * 2 ^ (200 : Int).toNat)) ++ blankT U (prefT (E + 1)) ++ prefT (E + 1) ++ U = TT) :
    EzC 6 news (call (.ref 233) [.int E te, .int top tt, .int low tw, .str U tu, .int P tq, .bool false]) (isStr TT) := by
  have mk9 : NewsIs news := trivial
  have big : Sm 202 (1 * 2 ^ (200 : Int).toNat) := by unfold Sm; decide +kernel
  unfold EzC
  intro prog w p loose mean mg mb dp un gd cn cs a ccd cl outer A₀ base h₀ L m s Q E B F X N T hk hd hu hret
  obtain ⟨ck, c1, c2, c3, c4⟩ := cs
  dsimp only at hk
  subst hk
  k_steps
  all_goals (refine' hret _ [] _ _ (isStr.mk ?e9) ?O9 ?F9 ?N9; (case F9 => k_asm); (case N9 => (walk_at "ez_news")); (case O9 => (walk_at "ez_ord")); (case e9 => first | with_reducible exact r1 (by with_reducible assumption) | with_reducible exact r2 (by with_reducible assumption)))
end
theorem back_bn : True := by
  w_top off
  first | walk1 | trivial

theorem back_bo : True := by
  w_top off
  first | walk1 | trivial
def zeroT (P : Int) (U : PySem.Str) : PySem.Str := PySem.Str.ofString "0" ++ (if P > 1 then PySem.Str.ofString "." ++ Txt.mul (PySem.Str.ofString "0") (P - 1) else PySem.Str.ofString "") ++ (if (List.any [PySem.Str.ofString "V", PySem.Str.ofString "Hz"] fun x => x == U) = true then PySem.Str.ofString " " else PySem.Str.ofString "") ++ U
section
local macro_rules | `(tactic| walk_at "storeName") => `(tactic| (dsimp only; walk1))
local macro_rules | `(tactic| walk_at "ite") => `(tactic| (dsimp only; walk1))
set_option maxRecDepth 100000 in
set_option maxHeartbeats 8000000 in
theorem c_lsaidZ (news) (E low P : Int) (b : Bool) (U : PySem.Str) (te tt tw tu tq) (p1 : 1 ≤ P) (p2 : P ≤ 6) (ul : U.length ≤ 5) :
    EzC 6 news (call (.ref 233) [.int E te, .int 0 tt, .int low tw, .str U tu, .int P tq, .bool b]) (isStr (zeroT P U)) := by
  unfold EzC
  intro prog w p loose mean mg mb dp un gd cn cs a ccd cl outer A₀ base h₀ L m s Q E B F X N T hk hd hu hret
  obtain ⟨ck, c1, c2, c3, c4⟩ := cs
  dsimp only at hk
  subst hk
  k_steps
  all_goals (refine' hret _ [] _ _ (isStr.mk ?e9) ?O9 ?F9 ?N9; (case F9 => k_asm); (case N9 => (walk_at "ez_news")); (case O9 => (walk_at "ez_ord")); (case e9 => (unfold zeroT; (first | rw [if_pos (by omega)] | rw [if_neg (by omega)]); (first | rw [if_pos ‹_ = true›] | rw [if_neg (by rw [‹List.any _ _ = false›]; decide)]))))
end
theorem back_bp : True := by
  w_top off
  first | walk1 | trivial

theorem back_bq : True := by
  w_top off
  first | walk1 | trivial
/-! the law's row: the first twelve of the script's ints and twelve noughts -/
theorem ints_cons {k : Nat} {vs : List Value} {ns : List Int} (h : IntsAre vs ns) (hl : k + 1 ≤ ns.length) : ∃ a t vs' ns', vs = .int a t :: vs' ∧ IntsAre vs' ns' ∧ k ≤ ns'.length := by
  cases h with
  | nil => simp at hl
  | cons n t h => exact ⟨n, t, _, _, rfl, h, by simp at hl; omega⟩
theorem ints12 {vs : List Value} {ns : List Int} (h : IntsAre vs ns) (hl : 12 ≤ ns.length) : ∃ a0 a1 a2 a3 a4 a5 a6 a7 a8 a9 a10 a11 t0 t1 t2 t3 t4 t5 t6 t7 t8 t9 t10 t11,
    vs.take 12 = [.int a0 t0, .int a1 t1, .int a2 t2, .int a3 t3, .int a4 t4, .int a5 t5, .int a6 t6, .int a7 t7, .int a8 t8, .int a9 t9, .int a10 t10, .int a11 t11] := by
  obtain ⟨a0, t0, _, _, rfl, h, hl⟩ := ints_cons h hl
  obtain ⟨a1, t1, _, _, rfl, h, hl⟩ := ints_cons h hl
  obtain ⟨a2, t2, _, _, rfl, h, hl⟩ := ints_cons h hl
  obtain ⟨a3, t3, _, _, rfl, h, hl⟩ := ints_cons h hl
  obtain ⟨a4, t4, _, _, rfl, h, hl⟩ := ints_cons h hl
  obtain ⟨a5, t5, _, _, rfl, h, hl⟩ := ints_cons h hl
  obtain ⟨a6, t6, _, _, rfl, h, hl⟩ := ints_cons h hl
  obtain ⟨a7, t7, _, _, rfl, h, hl⟩ := ints_cons h hl
  obtain ⟨a8, t8, _, _, rfl, h, hl⟩ := ints_cons h hl
  obtain ⟨a9, t9, _, _, rfl, h, hl⟩ := ints_cons h hl
  obtain ⟨a10, t10, _, _, rfl, h, hl⟩ := ints_cons h hl
  obtain ⟨a11, t11, _, _, rfl, h, hl⟩ := ints_cons h hl
  exact ⟨a0, a1, a2, a3, a4, a5, a6, a7, a8, a9, a10, a11, t0, t1, t2, t3, t4, t5, t6, t7, t8, t9, t10, t11, rfl⟩
theorem pick12 {vs : List Value} (h : 12 ≤ vs.length) : slicePick vs.toArray none (some 12) none = (vs.take 12).toArray := by
  have e : slicePick vs.toArray none (some 12) none = slicePick vs.toArray (some ((0 : Nat) : Int)) (some ((12 : Nat) : Int)) none := by
    unfold slicePick sliceBounds
    have : max (0 : Int) (min 0 (vs.length : Int)) = 0 := by omega
    simp [this]
  rw [e, slicePick_run _ _ _ (by simpa using h) (by decide)]
  simp
def rowOf (a0 a1 a2 a3 a4 a5 a6 a7 a8 a9 a10 a11 : Int) (t0 t1 t2 t3 t4 t5 t6 t7 t8 t9 t10 t11 : Tok) : Obj := { cls := .type "list", data := .seq #[.int a0 t0, .int a1 t1, .int a2 t2, .int a3 t3, .int a4 t4, .int a5 t5, .int a6 t6, .int a7 t7, .int a8 t8, .int a9 t9, .int a10 t10, .int a11 t11] }
theorem ez_row {prog : Program} {w : World} {A : Around} {E : Value → Shared → Prop} {s : Shared} {h₀ : Heap} {L : Addr} {m : PySem.Str → Option Value} {news : List (Addr × Obj)} {value slice : PySem.Expr} {l : Addr} {vs : List Value} {ns : List Int} {n : Nat} {t : Tok} {Q : Value → Shared → Prop}
    (F : Fr h₀ L s.heap m) (N : News h₀ L s.heap news) (hm : (l, W.listOf vs.toArray n) ∈ news) (hI : IntsAre vs ns) (hl : 12 ≤ ns.length) (hl2 : ns.length ≤ 1000)
    (h : ∀ D h' a0 a1 a2 a3 a4 a5 a6 a7 a8 a9 a10 a11 t0 t1 t2 t3 t4 t5 t6 t7 t8 t9 t10 t11, Fr h₀ L h' m → News h₀ L h' [(D, rowOf a0 a1 a2 a3 a4 a5 a6 a7 a8 a9 a10 a11 t0 t1 t2 t3 t4 t5 t6 t7 t8 t9 t10 t11)] → Q (.ref D) { s with heap := h' })
    (hs : subscripted slice false (.ref l) (.ref s.heap.objs.size) = operate [.ref s.heap.objs.size, .ref l] (getItem (.ref l) (.ref s.heap.objs.size)) := by with_unfolding_all rfl)
    (ht : ∀ r, letTemporaryGo value (.ref l) r = pure () := by intro _; with_unfolding_all rfl) :
    wpAny (model prog w) A (subscriptTail value slice (.ref l) (.ref s.heap.objs.size)) Q E { s with heap := s.heap.push { cls := .type "slice", data := .fields #[.none, .int 12 t, .none] } } := by
  have hv : vs.length = ns.length := hI.length
  obtain ⟨a0, a1, a2, a3, a4, a5, a6, a7, a8, a9, a10, a11, t0, t1, t2, t3, t4, t5, t6, t7, t8, t9, t10, t11, e⟩ := ints12 hI hl
  refine slice_list F N ⟨_, (N _ hm).1, rfl, _, rfl⟩ .none (.int 12 t) (fun h' F' N' => ?_) hs ht (by rw [PySem.sizeLine_eq]; simp; omega)
  rw [pick12 (by omega), e] at N'
  refine h _ h' a0 a1 a2 a3 a4 a5 a6 a7 a8 a9 a10 a11 t0 t1 t2 t3 t4 t5 t6 t7 t8 t9 t10 t11 F' fun p hp => N' p ?_
  rw [List.mem_singleton.mp hp]
  exact List.mem_cons_self ..
theorem ez_row' {prog : Program} {w : World} {A : Around} {E : Value → Shared → Prop} {s : Shared} {h₀ : Heap} {L : Addr} {m : PySem.Str → Option Value} {news : List (Addr × Obj)} {value slice : PySem.Expr} {l : Addr} {vs : List Value} {ns : List Int} {n : Nat} {t : Tok} {Q : Value → Shared → Prop}
    (F : Fr h₀ L s.heap m) (N : News h₀ L s.heap news) (hm : (l, W.listOf vs.toArray n) ∈ news) (hI : IntsAre vs ns) (hl : 12 ≤ ns.length) (hl2 : ns.length ≤ 1000)
    (h : ∀ D h' a0 a1 a2 a3 a4 a5 a6 a7 a8 a9 a10 a11 t0 t1 t2 t3 t4 t5 t6 t7 t8 t9 t10 t11, Fr h₀ L h' m → News h₀ L h' [(D, rowOf a0 a1 a2 a3 a4 a5 a6 a7 a8 a9 a10 a11 t0 t1 t2 t3 t4 t5 t6 t7 t8 t9 t10 t11)] → Q (.ref D) { s with heap := h' })
    (hs : subscripted slice false (.ref l) (.ref s.heap.objs.size) = operate [.ref s.heap.objs.size, .ref l] (getItem (.ref l) (.ref s.heap.objs.size)) := by with_unfolding_all rfl) :
    wpAny (model prog w) A (subscriptTail value slice (.ref l) (.ref s.heap.objs.size)) Q E { s with heap := s.heap.push { cls := .type "slice", data := .fields #[.none, .int 12 t, .none] } } :=
  kba_turn (value' := .Name (PySem.Str.ofString "x") ⟨0, 0, 0, 0⟩) (fun _ => rfl) (ez_row F N hm hI hl hl2 h hs (fun _ => rfl))

theorem back_br : True := by
  w_top off
  first | walk1 | trivial
/-! the nearest double depends on the ratio alone -/
theorem rnd_scale {k n d : Int} (hk : 0 < k) (hd : 0 < d) : rndI (k * n) (k * d) = rndI n d := by
  have hkd : 0 < k * d := Int.mul_pos hk hd
  have e1 : (k * n).fdiv (k * d) = n.fdiv d := by
    rw [Int.fdiv_eq_ediv_of_nonneg _ (Int.le_of_lt hkd), Int.fdiv_eq_ediv_of_nonneg _ (Int.le_of_lt hd), Int.mul_ediv_mul_of_pos _ _ hk]
  have e2 : (k * n).fmod (k * d) = k * n.fmod d := by
    rw [Int.fmod_eq_emod_of_nonneg _ (Int.le_of_lt hkd), Int.fmod_eq_emod_of_nonneg _ (Int.le_of_lt hd), Int.mul_emod_mul_of_pos _ _ hk]
  unfold rndI
  rw [e1, e2]
  have a1 : 2 * (k * n.fmod d) > k * d ↔ 2 * n.fmod d > d := by
    rw [show 2 * (k * n.fmod d) = k * (2 * n.fmod d) by rw [Int.mul_left_comm]]
    exact ⟨fun h => Int.lt_of_mul_lt_mul_left h (Int.le_of_lt hk), fun h => Int.mul_lt_mul_of_pos_left h hk⟩
  have a2 : 2 * (k * n.fmod d) = k * d ↔ 2 * n.fmod d = d := by
    rw [show 2 * (k * n.fmod d) = k * (2 * n.fmod d) by rw [Int.mul_left_comm]]
    exact ⟨fun h => Int.eq_of_mul_eq_mul_left (by omega) h, fun h => by rw [h]⟩
  simp only [a1, a2]
theorem rnd_ratio {n d n' d' : Int} (hd : 0 < d) (hd' : 0 < d') (h : n * d' = n' * d) : rndI n d = rndI n' d' := by
  rw [← rnd_scale (k := d') hd' hd, ← rnd_scale (k := d) (n := n') hd hd', Int.mul_comm d' n, h, Int.mul_comm n' d, Int.mul_comm d' d]
theorem pow2_lt {a b : Nat} (h : (2 : Int) ^ a < 2 ^ b) : a < b := by
  have : (2 : Nat) ^ a < 2 ^ b := by exact_mod_cast h
  exact (Nat.pow_lt_pow_iff_right (by decide)).mp this
/-- a shift under which n / d has 53 binary digits ahead of the point is one at most -/
theorem shift_le {n d n' d' : Int} {a b a' b' : Nat} (hd : 0 < d) (hd' : 0 < d') (hn : 0 < n) (h : n * d' = n' * d) (bot : d * 2 ^ b * 2 ^ 52 ≤ n * 2 ^ a) (top : n' * 2 ^ a' < d' * 2 ^ b' * 2 ^ 53) : b + a' ≤ a + b' := by
  have p : (0 : Int) < d' * 2 ^ a' := Int.mul_pos hd' (two_pow_pos _)
  have q : (0 : Int) < d * 2 ^ a := Int.mul_pos hd (two_pow_pos _)
  have h1 := Int.mul_le_mul_of_nonneg_right bot (Int.le_of_lt p)
  have h2 := Int.mul_lt_mul_of_pos_right top q
  have e1 : n * 2 ^ a * (d' * 2 ^ a') = n' * 2 ^ a' * (d * 2 ^ a) := by
    rw [show n * 2 ^ a * (d' * 2 ^ a') = (n * d') * (2 ^ a * 2 ^ a') by simp only [Int.mul_assoc, Int.mul_left_comm, Int.mul_comm], h]
    simp only [Int.mul_assoc, Int.mul_left_comm, Int.mul_comm]
  have h3 : d * 2 ^ b * 2 ^ 52 * (d' * 2 ^ a') < d' * 2 ^ b' * 2 ^ 53 * (d * 2 ^ a) := by omega
  have e2 : d * 2 ^ b * 2 ^ 52 * (d' * 2 ^ a') = (d * d') * 2 ^ (b + a' + 52) := by
    rw [Int.pow_add, Int.pow_add]; simp only [Int.mul_assoc, Int.mul_left_comm, Int.mul_comm]
  have e3 : d' * 2 ^ b' * 2 ^ 53 * (d * 2 ^ a) = (d * d') * 2 ^ (a + b' + 53) := by
    rw [Int.pow_add, Int.pow_add]; simp only [Int.mul_assoc, Int.mul_left_comm, Int.mul_comm]
  rw [e2, e3] at h3
  have := pow2_lt (Int.lt_of_mul_lt_mul_left h3 (Int.le_of_lt (Int.mul_pos hd hd')))
  omega
theorem nearS_ratio {n d n' d' : Int} (hd : 0 < d) (hd' : 0 < d') (hn : 0 < n) (s : Sm 1000 d) (s' : Sm 1000 d') (h : n * d' = n' * d) : nearS n d = nearS n' d' := by
  have hn' : 0 < n' := by
    have : 0 < n' * d := by rw [← h]; exact Int.mul_pos hn hd'
    exact Int.lt_of_mul_lt_mul_right (a := d) (by rw [Int.zero_mul]; exact this) (Int.le_of_lt hd)
  have b1 := s.intBits
  have b2 := s'.intBits
  have t1 := near_top n d hd
  have t2 := near_top n' d' hd'
  have p1 := intBits_pos (x := (n.natAbs : Int)) (by omega)
  have p2 := intBits_pos (x := (n'.natAbs : Int)) (by omega)
  have o1 := near_bot n d hd (by omega) (by omega)
  have o2 := near_bot n' d' hd' (by omega) (by omega)
  rw [Int.natAbs_of_nonneg (by omega)] at t1 o1
  rw [Int.natAbs_of_nonneg (by omega)] at t2 o2
  have c1 := shift_le hd hd' hn h o1 t2
  have c2 := shift_le hd' hd hn' h.symm o2 t1
  omega
theorem near_ratio {n d n' d' : Int} (hd : 0 < d) (hd' : 0 < d') (hn : 0 < n) (s : Sm 1000 d) (s' : Sm 1000 d') (h : n * d' = n' * d) : nearN n d = nearN n' d' ∧ nearD n d = nearD n' d' := by
  have e := nearS_ratio hd hd' hn s s' h
  have w : nearW n d = nearW n' d' := by
    unfold nearW
    rw [e]
    refine rnd_ratio (Int.mul_pos hd (two_pow_pos _)) (Int.mul_pos hd' (two_pow_pos _)) ?_
    rw [show n * 2 ^ (max (nearS n' d') 0).toNat * (d' * 2 ^ (max (-nearS n' d') 0).toNat) = (n * d') * (2 ^ (max (nearS n' d') 0).toNat * 2 ^ (max (-nearS n' d') 0).toNat) by simp only [Int.mul_assoc, Int.mul_left_comm, Int.mul_comm], h]
    simp only [Int.mul_assoc, Int.mul_left_comm, Int.mul_comm]
  unfold nearN nearD
  rw [w, e]
  exact ⟨rfl, rfl⟩
theorem dbl_ratio {n d n' d' : Int} (hd : 0 < d) (hd' : 0 < d') (hn : 0 < n) (s : Sm 1000 d) (s' : Sm 1000 d') (h : n * d' = n' * d) : dblN n d = dblN n' d' ∧ dblD n d = dblD n' d' := by
  have hn' : 0 < n' := by
    have : 0 < n' * d := by rw [← h]; exact Int.mul_pos hn hd'
    exact Int.lt_of_mul_lt_mul_right (a := d) (by rw [Int.zero_mul]; exact this) (Int.le_of_lt hd)
  unfold dblN dblD
  rw [if_neg (by omega), if_neg (by omega), if_neg (by omega), if_neg (by omega)]
  exact near_ratio hd hd' hn s s' h
/-- the error of a double: 2 ^ 53 parts of its size -/
theorem near_err {n d : Int} (hd : 0 < d) (hn : 0 < n) (s : Sm 1000 d) :
    (n * nearD n d - d * nearN n d) * 2 ^ 53 ≤ n * nearD n d ∧ (d * nearN n d - n * nearD n d) * 2 ^ 53 ≤ n * nearD n d := by
  have b1 := s.intBits
  have p1 := intBits_pos (x := (n.natAbs : Int)) (by omega)
  have o1 := near_bot n d hd (by omega) (by omega)
  rw [Int.natAbs_of_nonneg (by omega)] at o1
  unfold nearN nearD nearW
  generalize nearS n d = S at *
  have hb : 0 < d * 2 ^ (max (-S) 0).toNat := Int.mul_pos hd (two_pow_pos _)
  have hr := rnd_near (n * 2 ^ (max S 0).toNat) _ hb
  generalize rndI (n * 2 ^ (max S 0).toNat) (d * 2 ^ (max (-S) 0).toNat) = R at *
  rw [Int.one_mul]
  have e : d * (R * 2 ^ (max (-S) 0).toNat) = d * 2 ^ (max (-S) 0).toNat * R := by rw [Int.mul_assoc, Int.mul_comm R]
  rw [e]
  generalize n * 2 ^ (max S 0).toNat = X at *
  generalize d * 2 ^ (max (-S) 0).toNat = Y at *
  generalize Y * R = Z at *
  omega

theorem back_bs : True := by
  w_top off
  first | walk1 | trivial
/-! the nearest double of a double; the law's own nearest -/
theorem rnd_exact {q B : Int} (hB : 0 < B) : rndI (q * B) B = q := by
  unfold rndI
  have e1 : (q * B).fmod B = 0 := Int.mul_fmod_left q B
  have e2 : (q * B).fdiv B = q := by rw [Int.fdiv_eq_ediv_of_nonneg _ (Int.le_of_lt hB), Int.mul_ediv_cancel _ (by omega)]
  rw [e1, e2, if_neg (by omega)]
theorem near_exact {n d q : Int} (hd : 0 < d) (h : n * 2 ^ (max (nearS n d) 0).toNat = q * (d * 2 ^ (max (-nearS n d) 0).toNat)) : nearN n d * d = n * nearD n d := by
  unfold nearN nearD nearW
  rw [h, rnd_exact (Int.mul_pos hd (two_pow_pos _)), Int.one_mul, h]
  simp only [Int.mul_assoc, Int.mul_left_comm, Int.mul_comm]
theorem nearW_le53 {n d : Int} (hd : 0 < d) (hn : 0 < n) : nearW n d ≤ 2 ^ 53 := by
  have t := near_top n d hd
  rw [Int.natAbs_of_nonneg (by omega)] at t
  unfold nearW
  have hb : 0 < d * 2 ^ (max (-nearS n d) 0).toNat := Int.mul_pos hd (two_pow_pos _)
  have hr := (rnd_near (n * 2 ^ (max (nearS n d) 0).toNat) _ hb).2
  generalize n * 2 ^ (max (nearS n d) 0).toNat = X at *
  generalize d * 2 ^ (max (-nearS n d) 0).toNat = Y at *
  refine Int.le_of_lt_add_one (Int.lt_of_mul_lt_mul_left (a := Y) ?_ (Int.le_of_lt hb))
  have : Y * (2 ^ 53 + 1) = Y * 2 ^ 53 + Y := by rw [Int.mul_add, Int.mul_one]
  omega
theorem near_idem {n d : Int} (hd : 0 < d) (hn : 0 < n) (s : Sm 900 n) (s2 : Sm 900 d) : nearN (nearN n d) (nearD n d) * nearD n d = nearN n d * nearD (nearN n d) (nearD n d) := by
  have hD := nearD_pos n d
  have hN := nearN_pos hd hn (s2.mono (by decide))
  have sD : Sm 1000 (nearD n d) := s2.nearD.mono (by decide)
  have b1 := sD.intBits
  have p1 := intBits_pos (x := ((nearN n d).natAbs : Int)) (by omega)
  have o := near_bot (nearN n d) (nearD n d) hD (by omega) (by omega)
  rw [Int.natAbs_of_nonneg (by omega)] at o
  have w1 := nearW_le53 hd hn
  suffices H : ∃ q, nearN n d * 2 ^ (max (nearS (nearN n d) (nearD n d)) 0).toNat = q * (nearD n d * 2 ^ (max (-nearS (nearN n d) (nearD n d)) 0).toNat) by
    obtain ⟨q, H⟩ := H
    exact near_exact hD H
  generalize (max (nearS (nearN n d) (nearD n d)) 0).toNat = a' at *
  generalize (max (-nearS (nearN n d) (nearD n d)) 0).toNat = b' at *
  unfold nearN nearD at *
  generalize (max (nearS n d) 0).toNat = a at *
  generalize (max (-nearS n d) 0).toNat = b at *
  generalize nearW n d = W at *
  rw [Int.one_mul] at *
  have e1 : (2 : Int) ^ a * 2 ^ b' * 2 ^ 52 = 2 ^ (a + b' + 52) := by rw [Int.pow_add, Int.pow_add]
  have e2 : W * 2 ^ b * 2 ^ a' = W * 2 ^ (b + a') := by rw [Int.pow_add, Int.mul_assoc]
  rw [e1, e2] at o
  have o2 : (2 : Int) ^ (a + b' + 52) ≤ 2 ^ 53 * 2 ^ (b + a') := Int.le_trans o (Int.mul_le_mul_of_nonneg_right w1 (Int.le_of_lt (two_pow_pos _)))
  rw [← Int.pow_add] at o2
  have o3 : a + b' + 52 < 53 + (b + a') + 1 := pow2_lt (by
    have : (2 : Int) ^ (53 + (b + a')) < 2 ^ (53 + (b + a') + 1) := by
      rw [Int.pow_succ]
      have := two_pow_pos (53 + (b + a'))
      omega
    omega)
  by_cases hc : a + b' ≤ b + a'
  · refine ⟨W * 2 ^ (b + a' - (a + b')), ?_⟩
    rw [e2, ← Int.pow_add, Int.mul_assoc, ← Int.pow_add, show b + a' - (a + b') + (a + b') = b + a' by omega]
  · have hab : a + b' = b + a' + 1 := by omega
    have hW : W = 2 ^ 53 := by
      rw [show a + b' + 52 = 53 + (b + a') by omega, Int.pow_add] at o
      have := Int.le_of_mul_le_mul_right o (two_pow_pos _)
      omega
    refine ⟨2 ^ 52, ?_⟩
    rw [e2, hW, ← Int.pow_add, ← Int.pow_add, ← Int.pow_add, show 53 + (b + a') = 52 + (a + b') by omega]

theorem back_bt : True := by
  w_top off
  first | walk1 | trivial
theorem dvd_two {K : Nat} (h : 1 ≤ K) : ∃ x : Int, (2 : Int) ^ K = 2 * x := ⟨2 ^ (K - 1), by rw [show K = K - 1 + 1 by omega, Int.pow_succ, Nat.add_sub_cancel]; omega⟩
/-- the law's rounding is rounding: of the places and what is behind them -/
theorem sticky {n d Y : Int} (hd : 0 < d) (hY : 0 < Y) (ev : ∃ x, Y = 2 * x) :
    (if 2 * (n.fdiv d).fmod Y > Y ∨ (2 * (n.fdiv d).fmod Y = Y ∧ (n.fmod d > 0 ∨ ((n.fdiv d).fdiv Y).fmod 2 = 1)) then (n.fdiv d).fdiv Y + 1 else (n.fdiv d).fdiv Y) = rndI n (d * Y) := by
  have hdY : 0 < d * Y := Int.mul_pos hd hY
  have e1 : n.fdiv (d * Y) = (n.fdiv d).fdiv Y := by
    rw [Int.fdiv_eq_ediv_of_nonneg _ (Int.le_of_lt hdY), Int.fdiv_eq_ediv_of_nonneg _ (Int.le_of_lt hd), Int.fdiv_eq_ediv_of_nonneg _ (Int.le_of_lt hY), Int.ediv_ediv_of_nonneg (Int.le_of_lt hd)]
  have a1 := Int.mul_fdiv_add_fmod n d
  have a2 := Int.mul_fdiv_add_fmod (n.fdiv d) Y
  have a3 := Int.mul_fdiv_add_fmod n (d * Y)
  rw [e1] at a3
  have r1 := Int.fmod_nonneg_of_pos n hd
  have r2 := Int.fmod_lt_of_pos n hd
  have r3 := Int.fmod_nonneg_of_pos (n.fdiv d) hY
  have r4 := Int.fmod_lt_of_pos (n.fdiv d) hY
  have e2 : n.fmod (d * Y) = d * (n.fdiv d).fmod Y + n.fmod d := by
    have : d * (Y * ((n.fdiv d).fdiv Y) + (n.fdiv d).fmod Y) + n.fmod d = n := by rw [a2]; exact a1
    rw [Int.mul_add, ← Int.mul_assoc] at this
    omega
  unfold rndI
  rw [e1, e2]
  obtain ⟨x, hx⟩ := ev
  generalize (n.fdiv d).fmod Y = t at *
  generalize n.fmod d = r at *
  generalize (n.fdiv d).fdiv Y = h at *
  have k1 : t > x → d * (x + 1) ≤ d * t := fun hh => Int.mul_le_mul_of_nonneg_left (by omega) (Int.le_of_lt hd)
  have k2 : t < x → d * t ≤ d * (x - 1) := fun hh => Int.mul_le_mul_of_nonneg_left (by omega) (Int.le_of_lt hd)
  rw [Int.mul_add, Int.mul_one] at k1
  rw [Int.mul_sub, Int.mul_one] at k2
  have eY : d * Y = 2 * (d * x) := by rw [hx, Int.mul_left_comm]
  rw [eY]
  subst hx
  rcases Int.lt_trichotomy t x with hc | hc | hc
  · have := k2 hc
    rw [if_neg (by rintro (h1 | ⟨h1, _⟩) <;> omega), if_neg (by rintro (h1 | ⟨h1, _⟩) <;> omega)]
  · subst hc
    by_cases hr : r > 0
    · rw [if_pos (.inr ⟨rfl, .inl hr⟩), if_pos (.inl (by omega))]
    · have : r = 0 := by omega
      subst this
      by_cases hh : h.fmod 2 = 1
      · rw [if_pos (.inr ⟨rfl, .inr hh⟩), if_pos (.inr ⟨by omega, hh⟩)]
      · rw [if_neg (by rintro (h1 | ⟨_, h1 | h1⟩) <;> first | omega | exact hh h1), if_neg (by rintro (h1 | ⟨_, h1⟩) <;> first | omega | exact hh h1)]
  · have := k1 hc
    rw [if_pos (.inl (by omega)), if_pos (.inl (by omega))]
theorem lnH_rnd {n d : Int} (hd : 0 < d) (hk : 1 ≤ lnK n d) : lnH n d = rndI (n * 2 ^ (200 : Int).toNat) (d * lnB n d) := by
  unfold lnH lnP lnB
  rw [Int.one_mul]
  exact sticky hd (two_pow_pos _) (dvd_two (by omega))
theorem lnear_near {n d : Int} (hd : 0 < d) (hn : 0 < n) (s : Sm 1000 d) (hk : 1 ≤ lnK n d) : lnN n d * nearD n d = nearN n d * (1 * 2 ^ (200 : Int).toNat) := by
  have e := lnH_rnd hd hk
  have hP : 0 < lnP n d := by
    rcases Int.lt_trichotomy (lnP n d) 0 with h | h | h
    · have : 0 ≤ lnP n d := by unfold lnP; exact Int.fdiv_nonneg (Int.mul_nonneg (Int.le_of_lt hn) (Int.le_of_lt (two_pow_pos _))) (Int.le_of_lt hd)
      omega
    · unfold lnK at hk
      rw [h] at hk
      exact absurd hk (by decide)
    · exact h
  have b1 := lt_intBits (lnP n d)
  have b2 := intBits_le (x := lnP n d) (by omega)
  have hKe : Builtin.Int.intBits (lnP n d) = 53 + (lnK n d).toNat := by unfold lnK at *; omega
  rw [hKe] at b1 b2
  have a1 := Int.mul_fdiv_add_fmod (n * 2 ^ (200 : Int).toNat) d
  have r1 := Int.fmod_nonneg_of_pos (n * 2 ^ (200 : Int).toNat) hd
  have r2 := Int.fmod_lt_of_pos (n * 2 ^ (200 : Int).toNat) hd
  have e3 : (n * 2 ^ (200 : Int).toNat).fdiv d = lnP n d := rfl
  rw [e3] at a1
  unfold lnN
  rw [e]
  unfold lnB
  generalize (lnK n d).toNat = K at *
  have c1 : lnP n d < 2 ^ (53 + K) := by
    have : ((lnP n d).natAbs : Int) < ((2 ^ (53 + K) : Nat) : Int) := by exact_mod_cast b1
    rw [Int.natAbs_of_nonneg (by omega)] at this
    exact_mod_cast this
  have c2 : (2 : Int) ^ (52 + K) ≤ lnP n d := by
    have : ((2 ^ (53 + K - 1) : Nat) : Int) ≤ ((lnP n d).natAbs : Int) := by exact_mod_cast b2
    rw [Int.natAbs_of_nonneg (by omega), show 53 + K - 1 = 52 + K by omega] at this
    exact_mod_cast this
  generalize lnP n d = P at *
  have top : n * 2 ^ (200 : Int).toNat < d * 2 ^ K * 2 ^ 53 := by
    have h1 : d * (P + 1) ≤ d * 2 ^ (53 + K) := Int.mul_le_mul_of_nonneg_left (by omega) (Int.le_of_lt hd)
    rw [Int.mul_add, Int.mul_one, Int.add_comm 53 K |> fun _ => show (2 : Int) ^ (53 + K) = 2 ^ K * 2 ^ 53 by rw [Int.pow_add, Int.mul_comm], ← Int.mul_assoc] at h1
    omega
  have bot : d * 2 ^ K * 2 ^ 52 ≤ n * 2 ^ (200 : Int).toNat := by
    have h1 : d * 2 ^ (52 + K) ≤ d * P := Int.mul_le_mul_of_nonneg_left c2 (Int.le_of_lt hd)
    rw [show (2 : Int) ^ (52 + K) = 2 ^ K * 2 ^ 52 by rw [Int.pow_add, Int.mul_comm], ← Int.mul_assoc] at h1
    omega
  have b3 := s.intBits
  have t1 := near_top n d hd
  have p1 := intBits_pos (x := (n.natAbs : Int)) (by omega)
  have o1 := near_bot n d hd (by omega) (by omega)
  rw [Int.natAbs_of_nonneg (by omega)] at t1 o1
  have s1 := shift_le hd hd hn rfl o1 top
  have s2 := shift_le hd hd hn rfl bot t1
  unfold nearN nearD nearW
  generalize (max (nearS n d) 0).toNat = a at *
  generalize (max (-nearS n d) 0).toNat = b at *
  have hab : b + (200 : Int).toNat = a + K := by omega
  have w : rndI (n * 2 ^ (200 : Int).toNat) (d * (1 * 2 ^ K)) = rndI (n * 2 ^ a) (d * 2 ^ b) := by
    refine rnd_ratio (Int.mul_pos hd (by rw [Int.one_mul]; exact two_pow_pos _)) (Int.mul_pos hd (two_pow_pos _)) ?_
    rw [Int.one_mul, show n * 2 ^ (200 : Int).toNat * (d * 2 ^ b) = n * d * 2 ^ (b + (200 : Int).toNat) by rw [Int.pow_add]; simp only [Int.mul_assoc, Int.mul_left_comm, Int.mul_comm], hab, Int.pow_add]
    simp only [Int.mul_assoc, Int.mul_left_comm, Int.mul_comm]
  rw [w]
  generalize rndI (n * 2 ^ a) (d * 2 ^ b) = W at *
  rw [Int.one_mul, Int.one_mul, Int.mul_assoc, Int.mul_assoc, ← Int.pow_add, ← Int.pow_add, Nat.add_comm K a, ← hab]

theorem back_bu : True := by
  w_top off
  first | walk1 | trivial
/-! a text's number against a power of ten -/
theorem thr_exact : nearN 10 1 ≥ 10 * nearD 10 1 ∧ nearN 100 1 ≥ 100 * nearD 100 1 ∧ nearN 1000 1 ≥ 1000 * nearD 1000 1 := by decide +kernel
theorem thr {M K d : Int} (hd : 0 < d) (sd : Sm 1000 d) (hK : K = 10 ∨ K = 100 ∨ K = 1000) (hKd : K * d ≤ 10 ^ 9) (hM : 0 ≤ M) : dblN M d * 1 ≥ K * dblD M d ↔ K * d ≤ M := by
  have K0 : 0 < K := by omega
  rw [Int.mul_one]
  by_cases m0 : M = 0
  · subst m0
    unfold dblN dblD
    rw [if_pos (.inl rfl), if_pos (.inl rfl)]
  have M0 : 0 < M := by omega
  by_cases hq : M = K * d
  · have r := dbl_ratio (n := M) (d := d) (n' := K) (d' := 1) hd (by decide) M0 sd ((Sm.lit4 (by decide)).mono (by decide)) (by rw [hq]; omega)
    rw [r.1, r.2]
    have : dblN K 1 = nearN K 1 ∧ dblD K 1 = nearD K 1 := by
      unfold dblN dblD
      rw [if_neg (by omega), if_neg (by omega)]
      exact ⟨rfl, rfl⟩
    rw [this.1, this.2]
    obtain ⟨t1, t2, t3⟩ := thr_exact
    constructor
    · intro _; omega
    · intro _
      rcases hK with rfl | rfl | rfl
      · exact t1
      · exact t2
      · exact t3
  have e : dblN M d = nearN M d ∧ dblD M d = nearD M d := by
    unfold dblN dblD
    rw [if_neg (by omega), if_neg (by omega)]
    exact ⟨rfl, rfl⟩
  rw [e.1, e.2]
  have hD := nearD_pos M d
  obtain ⟨e1, e2⟩ := near_err hd M0 sd
  generalize nearN M d = N at *
  generalize nearD M d = D at *
  constructor
  · intro h
    refine Int.not_lt.mp fun hlt => ?_
    have h1 : d * (K * D) ≤ d * N := Int.mul_le_mul_of_nonneg_left h (Int.le_of_lt hd)
    have h2 : M * D ≤ (K * d - 1) * D := Int.mul_le_mul_of_nonneg_right (by omega) (Int.le_of_lt hD)
    have h3 : K * d * D ≤ 10 ^ 9 * D := Int.mul_le_mul_of_nonneg_right hKd (Int.le_of_lt hD)
    rw [Int.sub_mul, Int.one_mul] at h2
    rw [show d * (K * D) = K * d * D by rw [Int.mul_left_comm, Int.mul_assoc]] at h1
    generalize K * d * D = X at *
    generalize M * D = Y at *
    generalize d * N = Z at *
    omega
  · intro h
    refine Int.not_lt.mp fun hlt => ?_
    have h1 : d * N ≤ d * (K * D - 1) := Int.mul_le_mul_of_nonneg_left (by omega) (Int.le_of_lt hd)
    have h2 : (K * d + 1) * D ≤ M * D := Int.mul_le_mul_of_nonneg_right (by omega) (Int.le_of_lt hD)
    have h3 : K * d * D ≤ 10 ^ 9 * D := Int.mul_le_mul_of_nonneg_right hKd (Int.le_of_lt hD)
    rw [Int.add_mul, Int.one_mul] at h2
    rw [Int.mul_sub, Int.mul_one, show d * (K * D) = K * d * D by rw [Int.mul_left_comm, Int.mul_assoc]] at h1
    generalize K * d * D = X at *
    generalize M * D = Y at *
    generalize d * N = Z at *
    omega

theorem back_bv : True := by
  w_top off
  first | walk1 | trivial
/-! the two ways of saying the prefix and the blank are one -/
theorem ord_pref_all : ∀ i : Fin 61, ordT ((i.val : Int) - 30) = prefT ((i.val : Int) - 30) ∧ (ordT ((i.val : Int) - 30)).length ≤ 1 := by decide +kernel
theorem ord_pref {e : Int} (h1 : -30 ≤ e) (h2 : e ≤ 30) : ordT e = prefT e ∧ (ordT e).length ≤ 1 := by
  have := ord_pref_all ⟨(e + 30).toNat, by omega⟩
  rw [show (((e + 30).toNat : Nat) : Int) - 30 = e by omega] at this
  exact this
theorem app_empty {x y : PySem.Str} : x ++ y = PySem.Str.ofString "" ↔ y.length = 0 ∧ x.length = 0 := by
  constructor
  · intro h
    have := congrArg PySem.Str.length h
    rw [PySem.Str.length_append] at this
    have e : (PySem.Str.ofString "").length = 0 := by decide +kernel
    omega
  · rintro ⟨h1, h2⟩
    apply str_ext
    rw [cps_app]
    rw [len_list] at h1 h2
    rw [List.length_eq_zero_iff.mp h1, List.length_eq_zero_iff.mp h2]
    rfl
theorem space_blank (u o : PySem.Str) : spaceT u o = blankT u o := by
  unfold spaceT blankT
  have : ((u.length = 0 ∧ o.length = 0) ∨ u = PySem.Str.ofString "°" ∨ u = PySem.Str.ofString "′" ∨ u = PySem.Str.ofString "″") ↔ ((u = PySem.Str.ofString "°" ∨ u = PySem.Str.ofString "′" ∨ u = PySem.Str.ofString "″") ∨ o ++ u = PySem.Str.ofString "") := by
    rw [app_empty]
    exact ⟨fun h => h.elim .inr .inl, fun h => h.elim .inr .inl⟩
  simp only [this]
theorem space_len (u o : PySem.Str) : (spaceT u o).length ≤ 1 := by
  have a : (PySem.Str.ofString "").length = 0 := by decide +kernel
  have b : (PySem.Str.ofString " ").length = 1 := by decide +kernel
  unfold spaceT
  split <;> omega
theorem laidT_sign (n d dg : Int) : laidT n d dg = (if n < 0 then PySem.Str.ofString "-" else PySem.Str.ofString "") ++ laidS dg (rdN n d dg) := by
  unfold laidT rdN
  apply str_ext
  rw [cps_app, cps_app, cps_app, cps_app]
  show [] ++ _ ++ _ ++ [] = _
  simp

theorem back_bw : True := by
  w_top off
  first | walk1 | trivial
/-! the power of ten with an offset: no sign counts -/
theorem WL_off {n d k : Int} (hk : -400 ≤ k) (h : WL n d k) : d * 10 ^ (k + 400).toNat ≤ n * 10 ^ 400 ∧ n * 10 ^ 400 < d * 10 ^ (k + 401).toNat := by
  obtain ⟨h1, h2⟩ := h
  constructor
  · have m := Int.mul_le_mul_of_nonneg_right h1 (Int.le_of_lt (ten_pos (400 - (max (-k) 0).toNat)))
    rw [Int.mul_assoc, Int.mul_assoc, ← Int.pow_add, ← Int.pow_add] at m
    rw [show (max k 0).toNat + (400 - (max (-k) 0).toNat) = (k + 400).toNat by omega, show (max (-k) 0).toNat + (400 - (max (-k) 0).toNat) = 400 by omega] at m
    exact m
  · by_cases hk4 : k = -400
    · subst hk4
      have e : (max (-(-400 : Int) - 1) 0).toNat = 399 := by decide
      have e2 : (max (-400 + 1 : Int) 0).toNat = 0 := by decide
      rw [e, e2, Int.pow_zero, Int.mul_one] at h2
      rw [show (-400 + 401 : Int).toNat = 1 by decide, show (400 : Nat) = 399 + 1 by decide, Int.pow_succ, ← Int.mul_assoc, Int.pow_one]
      omega
    · have m := Int.mul_lt_mul_of_pos_right h2 (ten_pos (400 - (max (-k - 1) 0).toNat))
      rw [Int.mul_assoc, Int.mul_assoc, ← Int.pow_add, ← Int.pow_add] at m
      rw [show (max (k + 1) 0).toNat + (400 - (max (-k - 1) 0).toNat) = (k + 401).toNat by omega, show (max (-k - 1) 0).toNat + (400 - (max (-k - 1) 0).toNat) = 400 by omega] at m
      exact m
theorem pow10_le {a b : Nat} (h : a ≤ b) : (10 : Int) ^ a ≤ 10 ^ b := by exact_mod_cast Nat.pow_le_pow_right (by decide) h
theorem pow10_lt {a b : Nat} (h : (10 : Int) ^ a < 10 ^ b) : a < b := by
  have : (10 : Nat) ^ a < 10 ^ b := by exact_mod_cast h
  exact (Nat.pow_lt_pow_iff_right (by decide)).mp this
/-- one power of ten alone -/
theorem WL_one {n d k k' : Int} (hd : 0 < d) (b : -400 ≤ k) (b' : -400 ≤ k') (h : WL n d k) (h' : WL n d k') : k = k' := by
  obtain ⟨h1, h2⟩ := WL_off b h
  obtain ⟨g1, g2⟩ := WL_off b' h'
  have a := pow10_lt (Int.lt_of_mul_lt_mul_left (Int.lt_of_le_of_lt h1 g2) (Int.le_of_lt hd))
  have c := pow10_lt (Int.lt_of_mul_lt_mul_left (Int.lt_of_le_of_lt g1 h2) (Int.le_of_lt hd))
  omega

theorem back_bx : True := by
  w_top off
  first | walk1 | trivial
theorem mantW_off {n d dg k : Int} (hn : 0 ≤ n) (hd : 0 < d) (h1 : -400 ≤ k - dg) : mantW n d dg k = rndI (n * 10 ^ 400) (d * 10 ^ (k - dg + 400).toNat) := by
  unfold mantW
  rw [Int.natAbs_of_nonneg hn]
  refine rnd_ratio (Int.mul_pos hd (ten_pos _)) (Int.mul_pos hd (ten_pos _)) ?_
  rw [show n * 10 ^ (max (dg - k) 0).toNat * (d * 10 ^ (k - dg + 400).toNat) = n * d * 10 ^ ((max (dg - k) 0).toNat + (k - dg + 400).toNat) by rw [Int.pow_add]; simp only [Int.mul_assoc, Int.mul_left_comm, Int.mul_comm], show (max (dg - k) 0).toNat + (k - dg + 400).toNat = 400 + (max (k - dg) 0).toNat by omega, Int.pow_add]
  simp only [Int.mul_assoc, Int.mul_left_comm, Int.mul_comm]
/-- a whole number near enough is the one rounded to -/
theorem rnd_is {n d q : Int} (hd : 0 < d) (h1 : 2 * (d * q) - d < 2 * n) (h2 : 2 * n < 2 * (d * q) + d) : rndI n d = q := by
  obtain ⟨a, b⟩ := rnd_near n d hd
  have c1 : d * (rndI n d) < d * (q + 1) := by rw [Int.mul_add, Int.mul_one]; omega
  have c2 : d * q < d * (rndI n d + 1) := by rw [Int.mul_add, Int.mul_one]; omega
  have e1 := Int.lt_of_mul_lt_mul_left c1 (Int.le_of_lt hd)
  have e2 := Int.lt_of_mul_lt_mul_left c2 (Int.le_of_lt hd)
  omega
/-- the power that mantissa_and_power finds: of a double N / D near to n0 / d0 = I * 10 ^ (E - 14), I a whole number of 15 digits and a multiple of 10^5 -/
theorem mantE_is {N D J E k : Int} (hN : 0 < N) (hD : 0 < D) (e1 : -100 ≤ E) (e2 : E ≤ 200) (hJ1 : 10 ^ 14 ≤ J) (hJ2 : J ≤ 10 ^ 15 - 10 ^ 5)
    (c1 : (N * 10 ^ 400 - D * J * 10 ^ (E + 386).toNat) * 2 ^ 52 ≤ D * J * 10 ^ (E + 386).toNat) (c2 : (D * J * 10 ^ (E + 386).toNat - N * 10 ^ 400) * 2 ^ 52 ≤ D * J * 10 ^ (E + 386).toNat)
    (kb : -400 ≤ k - 14) (h : WL N D k) : mantE N D 14 k = E := by
  obtain ⟨h1, h2⟩ := WL_off (by omega) h
  have ew := mantW_off (dg := 14) (Int.le_of_lt hN) hD kb
  have hT := ten_pos (E + 386).toNat
  -- the value in units of D * 10 ^ (E + 386)
  have hu : 0 < D * 10 ^ (E + 386).toNat := Int.mul_pos hD hT
  have eU : D * J * 10 ^ (E + 386).toNat = D * 10 ^ (E + 386).toNat * J := by simp only [Int.mul_assoc, Int.mul_left_comm, Int.mul_comm]
  rw [eU] at c1 c2
  have hkE : k ≤ E ∧ E - 1 ≤ k := by
    constructor
    · refine Int.not_lt.mp fun hc => ?_
      have g : D * 10 ^ (E + 401).toNat ≤ D * 10 ^ (k + 400).toNat := Int.mul_le_mul_of_nonneg_left (pow10_le (by omega)) (Int.le_of_lt hD)
      rw [show (E + 401).toNat = (E + 386).toNat + 15 by omega, Int.pow_add, ← Int.mul_assoc] at g
      have j : D * 10 ^ (E + 386).toNat * J ≤ D * 10 ^ (E + 386).toNat * (10 ^ 15 - 10 ^ 5) := Int.mul_le_mul_of_nonneg_left hJ2 (Int.le_of_lt hu)
      generalize D * 10 ^ (E + 386).toNat = u at *
      generalize u * J = z at *
      generalize N * 10 ^ 400 = x at *
      omega
    · refine Int.not_lt.mp fun hc => ?_
      have g : D * 10 ^ (k + 401).toNat ≤ D * 10 ^ (E + 399).toNat := Int.mul_le_mul_of_nonneg_left (pow10_le (by omega)) (Int.le_of_lt hD)
      rw [show (E + 399).toNat = (E + 386).toNat + 13 by omega, Int.pow_add, ← Int.mul_assoc] at g
      have j : D * 10 ^ (E + 386).toNat * 10 ^ 14 ≤ D * 10 ^ (E + 386).toNat * J := Int.mul_le_mul_of_nonneg_left hJ1 (Int.le_of_lt hu)
      generalize D * 10 ^ (E + 386).toNat = u at *
      generalize u * J = z at *
      generalize N * 10 ^ 400 = x at *
      omega
  have jl : D * 10 ^ (E + 386).toNat * J ≤ D * 10 ^ (E + 386).toNat * (10 ^ 15 - 10 ^ 5) := Int.mul_le_mul_of_nonneg_left hJ2 (Int.le_of_lt hu)
  have jg : D * 10 ^ (E + 386).toNat * 10 ^ 14 ≤ D * 10 ^ (E + 386).toNat * J := Int.mul_le_mul_of_nonneg_left hJ1 (Int.le_of_lt hu)
  unfold mantE
  by_cases hk : k = E
  · subst hk
    have w : mantW N D 14 k = J := by
      rw [ew, show (k - 14 + 400).toNat = (k + 386).toNat by omega]
      refine rnd_is hu ?_ ?_
      · generalize D * 10 ^ (k + 386).toNat = u at *
        generalize u * J = z at *
        generalize N * 10 ^ 400 = x at *
        omega
      · generalize D * 10 ^ (k + 386).toNat = u at *
        generalize u * J = z at *
        generalize N * 10 ^ 400 = x at *
        omega
    rw [w, if_neg]
    rw [show ((14 : Int) + 1).toNat = 15 by decide]
    omega
  · have hk1 : k = E - 1 := by omega
    subst hk1
    -- the value lies below 10 ^ E, the number does not: it is 10 ^ E
    have hv : D * 10 ^ (E + 385).toNat > 0 := Int.mul_pos hD (ten_pos _)
    have e10 : D * 10 ^ (E + 386).toNat = 10 * (D * 10 ^ (E + 385).toNat) := by
      rw [show (E + 386).toNat = (E + 385).toNat + 1 by omega, Int.pow_succ]; simp only [Int.mul_assoc, Int.mul_left_comm, Int.mul_comm]
    have e400 : D * 10 ^ (E - 1 + 401).toNat = D * 10 ^ (E + 386).toNat * 10 ^ 14 := by
      rw [show (E - 1 + 401).toNat = (E + 386).toNat + 14 by omega, Int.pow_add, Int.mul_assoc]
    rw [e400] at h2
    have w : mantW N D 14 (E - 1) = 10 ^ 15 := by
      rw [ew, show (E - 1 - 14 + 400).toNat = (E + 385).toNat by omega]
      have jj : J = 10 ^ 14 := by
        refine Int.le_antisymm (Int.not_lt.mp fun hc => ?_) hJ1
        have j2 : D * 10 ^ (E + 386).toNat * (10 ^ 14 + 1) ≤ D * 10 ^ (E + 386).toNat * J := Int.mul_le_mul_of_nonneg_left (by omega) (Int.le_of_lt hu)
        generalize D * 10 ^ (E + 386).toNat = u at *
        generalize u * J = z at *
        generalize N * 10 ^ 400 = x at *
        omega
      subst jj
      rw [e10] at c1 c2 h2
      refine rnd_is hv ?_ ?_
      · generalize D * 10 ^ (E + 385).toNat = u at *
        generalize N * 10 ^ 400 = x at *
        omega
      · generalize D * 10 ^ (E + 385).toNat = u at *
        generalize N * 10 ^ 400 = x at *
        omega
    rw [w, if_pos (by rfl)]
    omega

theorem back_by : True := by
  w_top off
  first | walk1 | trivial
theorem err_c {n0 d0 N D X : Int} (hd : 0 < d0) (hn : 0 < n0) (s : Sm 1000 d0) (hD : 0 < D) (hX : d0 * X = n0 * 10 ^ 400) (hr : N * nearD n0 d0 = nearN n0 d0 * D) :
    (N * 10 ^ 400 - D * X) * 2 ^ 52 ≤ D * X ∧ (D * X - N * 10 ^ 400) * 2 ^ 52 ≤ D * X := by
  obtain ⟨e1, e2⟩ := near_err hd hn s
  have hD1 := nearD_pos n0 d0
  generalize nearD n0 d0 = D1 at *
  generalize nearN n0 d0 = N1 at *
  have hp : 0 < d0 * D1 := Int.mul_pos hd hD1
  have hT : (0 : Int) < D * 10 ^ 400 := Int.mul_pos hD (ten_pos _)
  have f1 : d0 * D1 * (N * 10 ^ 400) = d0 * N1 * (D * 10 ^ 400) := by
    rw [show d0 * D1 * (N * 10 ^ 400) = d0 * (N * D1) * 10 ^ 400 by simp only [Int.mul_assoc, Int.mul_left_comm, Int.mul_comm], hr]
    simp only [Int.mul_assoc, Int.mul_left_comm, Int.mul_comm]
  have f2 : d0 * D1 * (D * X) = n0 * D1 * (D * 10 ^ 400) := by
    rw [show d0 * D1 * (D * X) = D1 * D * (d0 * X) by simp only [Int.mul_assoc, Int.mul_left_comm, Int.mul_comm], hX]
    simp only [Int.mul_assoc, Int.mul_left_comm, Int.mul_comm]
  have hnD : 0 < n0 * D1 := Int.mul_pos hn hD1
  constructor
  · refine Int.le_of_mul_le_mul_left (a := d0 * D1) ?_ hp
    rw [← Int.mul_assoc, Int.mul_sub, f1, f2, ← Int.sub_mul, Int.mul_right_comm]
    refine Int.mul_le_mul_of_nonneg_right ?_ (Int.le_of_lt hT)
    generalize n0 * D1 = x at *
    generalize d0 * N1 = y at *
    omega
  · refine Int.le_of_mul_le_mul_left (a := d0 * D1) ?_ hp
    rw [← Int.mul_assoc, Int.mul_sub, f1, f2, ← Int.sub_mul, Int.mul_right_comm]
    refine Int.mul_le_mul_of_nonneg_right ?_ (Int.le_of_lt hT)
    generalize n0 * D1 = x at *
    generalize d0 * N1 = y at *
    omega

theorem back_bz : True := by
  w_top off
  first | walk1 | trivial
/-! the double as the program has it: of n / d with n > 0 -/
theorem dbl_near {n d : Int} (hd : 0 < d) (hn : 0 < n) : dblN n d = nearN n d ∧ dblD n d = nearD n d := by
  unfold dblN dblD
  rw [if_neg (by omega), if_neg (by omega)]
  exact ⟨rfl, rfl⟩
theorem dbl_idem {n d : Int} (hd : 0 < d) (hn : 0 < n) (s : Sm 900 n) (s2 : Sm 900 d) : dblN (dblN n d) (dblD n d) * dblD n d = dblN n d * dblD (dblN n d) (dblD n d) := by
  have e := dbl_near hd hn
  rw [e.1, e.2]
  have e2 := dbl_near (nearD_pos n d) (nearN_pos hd hn (s2.mono (by decide)))
  rw [e2.1, e2.2]
  exact near_idem hd hn s s2
/-- the double of a pair in the ratio of a double has that ratio too -/
theorem dbl_of_ratio {n d N D : Int} (hd : 0 < d) (hn : 0 < n) (hD : 0 < D) (hN : 0 < N) (s : Sm 900 n) (s2 : Sm 900 d) (sD : Sm 1000 D) (h : N * dblD n d = dblN n d * D) : dblN N D * dblD n d = dblN n d * dblD N D := by
  have e := dbl_near hd hn
  have p1 := nearD_pos n d
  have p2 := nearN_pos hd hn (s2.mono (by decide))
  rw [e.1, e.2] at h ⊢
  have r := dbl_ratio hD p1 hN sD (s2.nearD.mono (by decide)) (n' := nearN n d) h
  rw [r.1, r.2]
  have i := dbl_idem hd hn s s2
  rw [e.1, e.2] at i
  exact i

theorem back_ca : True := by
  w_top off
  first | walk1 | trivial
theorem WL_ratio {n d n' d' k : Int} (hd : 0 < d) (hd' : 0 < d') (h : n * d' = n' * d) (w : WL n d k) : WL n' d' k := by
  obtain ⟨h1, h2⟩ := w
  constructor
  · have m := Int.mul_le_mul_of_nonneg_right h1 (Int.le_of_lt hd')
    refine Int.le_of_mul_le_mul_left (a := d) ?_ hd
    rw [show d * (d' * 10 ^ (max k 0).toNat) = d * 10 ^ (max k 0).toNat * d' by simp only [Int.mul_assoc, Int.mul_left_comm, Int.mul_comm], show d * (n' * 10 ^ (max (-k) 0).toNat) = n * 10 ^ (max (-k) 0).toNat * d' by rw [Int.mul_right_comm n, h]; simp only [Int.mul_assoc, Int.mul_left_comm, Int.mul_comm]]
    exact m
  · have m := Int.mul_lt_mul_of_pos_right h2 hd'
    refine Int.lt_of_mul_lt_mul_left (a := d) ?_ (Int.le_of_lt hd)
    rw [show d * (d' * 10 ^ (max (k + 1) 0).toNat) = d * 10 ^ (max (k + 1) 0).toNat * d' by simp only [Int.mul_assoc, Int.mul_left_comm, Int.mul_comm], show d * (n' * 10 ^ (max (-k - 1) 0).toNat) = n * 10 ^ (max (-k - 1) 0).toNat * d' by rw [Int.mul_right_comm n, h]; simp only [Int.mul_assoc, Int.mul_left_comm, Int.mul_comm]]
    exact m

theorem back_cb : True := by
  w_top off
  first | walk1 | trivial
theorem exp_dbl {n0 d0 J E N D k : Int} (hd : 0 < d0) (hn : 0 < n0) (s : Sm 1000 d0) (e1 : -100 ≤ E) (e2 : E ≤ 200) (hJ1 : 10 ^ 14 ≤ J) (hJ2 : J ≤ 10 ^ 15 - 10 ^ 5) (hX : d0 * (J * 10 ^ (E + 386).toNat) = n0 * 10 ^ 400)
    (hN : 0 < N) (hD : 0 < D) (hr : N * dblD n0 d0 = dblN n0 d0 * D) (kb : -386 ≤ k) (w : WL N D k) : mantE N D 14 k = E := by
  have e := dbl_near hd hn
  rw [e.1, e.2] at hr
  have c := err_c hd hn s hD hX hr
  refine mantE_is hN hD e1 e2 hJ1 hJ2 ?_ ?_ (by omega) w
  · rw [Int.mul_assoc]; exact c.1
  · rw [Int.mul_assoc]; exact c.2

theorem back_cc : True := by
  w_top off
  first | walk1 | trivial
theorem digs_bounds {n : Nat} (h : 0 < n) : 10 ^ ((digs n).length - 1) ≤ n ∧ n < 10 ^ (digs n).length := by
  have hp := digs_pos n
  have hl : (digs n).length = (Nat.toDigits 10 n).length := by unfold digs; rw [List.length_map]
  rw [hl] at hp ⊢
  constructor
  · refine Nat.not_lt.mp fun hc => ?_
    by_cases h1 : (Nat.toDigits 10 n).length = 1
    · rw [h1] at hc
      simp at hc
      omega
    · have := digits10_le (k := (Nat.toDigits 10 n).length - 1) (by omega) hc
      omega
  · refine Nat.not_le.mp fun hc => ?_
    have := digits10_ge hc
    omega
theorem num_len (n : Nat) : (PySem.Str.ofString (toString (n : Int))).length = (digs n).length := by rw [len_list, cps_num]
theorem J_bounds {n : Nat} (h : 0 < n) (h9 : n ≤ 10 ^ 9) : 1 ≤ (digs n).length ∧ (digs n).length ≤ 10 ∧ 10 ^ 14 ≤ n * 10 ^ (15 - (digs n).length) ∧ n * 10 ^ (15 - (digs n).length) ≤ 10 ^ 15 - 10 ^ 5 := by
  obtain ⟨b1, b2⟩ := digs_bounds h
  have p := digs_pos n
  have l : (digs n).length ≤ 10 := by
    unfold digs
    rw [List.length_map]
    exact digits10_le (by decide) (by omega)
  generalize (digs n).length = L at *
  have : L = 1 ∨ L = 2 ∨ L = 3 ∨ L = 4 ∨ L = 5 ∨ L = 6 ∨ L = 7 ∨ L = 8 ∨ L = 9 ∨ L = 10 := by omega
  rcases this with rfl | rfl | rfl | rfl | rfl | rfl | rfl | rfl | rfl | rfl <;> (simp at b1 b2 ⊢; omega)

theorem back_cd : True := by
  w_top off
  first | walk1 | trivial
theorem rnd_neg {n d : Int} (hd : 0 < d) : rndI (-n) d = -rndI n d := by
  have a1 := Int.mul_fdiv_add_fmod n d
  have r1 := Int.fmod_nonneg_of_pos n hd
  have r2 := Int.fmod_lt_of_pos n hd
  have a2 := Int.mul_fdiv_add_fmod (-n) d
  have s1 := Int.fmod_nonneg_of_pos (-n) hd
  have s2 := Int.fmod_lt_of_pos (-n) hd
  unfold rndI
  generalize n.fdiv d = q at *
  generalize (-n).fdiv d = p at *
  generalize n.fmod d = r at *
  generalize (-n).fmod d = t at *
  have e : d * (p + q) = -(r + t) := by rw [Int.mul_add]; omega
  have k1 : p + q < 1 := Int.lt_of_mul_lt_mul_left (a := d) (by rw [e]; omega) (Int.le_of_lt hd)
  have k2 : -2 < p + q := Int.lt_of_mul_lt_mul_left (a := d) (by rw [e]; omega) (Int.le_of_lt hd)
  have k3 : p + q = 0 ∨ p + q = -1 := by omega
  have m (x : Int) : x.fmod 2 = x % 2 := Int.fmod_eq_emod_of_nonneg _ (by decide)
  rw [m, m]
  rcases k3 with k | k
  · rw [k] at e
    have hr : r = 0 := by omega
    have ht : t = 0 := by omega
    subst hr ht
    rw [if_neg (by omega), if_neg (by omega)]
    omega
  · rw [k] at e
    have : t = d - r := by omega
    subst this
    split <;> split <;> omega
theorem nearS_neg (n d : Int) : nearS (-n) d = nearS n d := by unfold nearS nearS0; rw [Int.natAbs_neg]
theorem dbl_neg {n d : Int} (hd : 0 < d) : dblN (-n) d = -dblN n d ∧ dblD (-n) d = dblD n d := by
  unfold dblN dblD
  by_cases h : n = 0 ∨ d = 0
  · rw [if_pos h, if_pos (by omega), if_pos h, if_pos (by omega)]
    exact ⟨rfl, rfl⟩
  · rw [if_neg h, if_neg (by omega), if_neg h, if_neg (by omega)]
    unfold nearN nearD nearW
    rw [nearS_neg, Int.neg_mul, rnd_neg (Int.mul_pos hd (two_pow_pos _)), Int.neg_mul]
    exact ⟨rfl, rfl⟩

theorem back_ce : True := by
  w_top off
  first | walk1 | trivial
/-! a ratio near to another: a / b is at least l / m of c / d -/
def G (l m a b c d : Int) : Prop := l * (c * b) ≤ m * (a * d)
theorem mul_le_mul' {a b c d : Int} (h : a ≤ b) (g : c ≤ d) (hb : 0 ≤ b) (hc : 0 ≤ c) : a * c ≤ b * d := Int.le_trans (Int.mul_le_mul_of_nonneg_right h hc) (Int.mul_le_mul_of_nonneg_left g hb)
theorem G.trans {l m a b c d l' m' e f : Int} (h : G l m a b c d) (g : G l' m' c d e f) (hl : 0 ≤ l) (hm : 0 ≤ m) (hl' : 0 ≤ l') (ha : 0 < a) (hb : 0 < b) (hc : 0 < c) (hd : 0 < d) (he : 0 < e) (hf : 0 < f) : G (l * l') (m * m') a b e f := by
  unfold G at *
  have p : 0 < c * d := Int.mul_pos hc hd
  have k := mul_le_mul' h g (Int.mul_nonneg hm (Int.le_of_lt (Int.mul_pos ha hd))) (Int.mul_nonneg hl' (Int.le_of_lt (Int.mul_pos he hd)))
  refine Int.le_of_mul_le_mul_left (a := c * d) ?_ p
  rw [show c * d * (l * l' * (e * b)) = l * (c * b) * (l' * (e * d)) by simp only [Int.mul_assoc, Int.mul_left_comm, Int.mul_comm], show c * d * (m * m' * (a * f)) = m * (a * d) * (m' * (c * f)) by simp only [Int.mul_assoc, Int.mul_left_comm, Int.mul_comm]]
  exact k
theorem G.mul {l m a b c d l' m' a' b' c' d' : Int} (h : G l m a b c d) (g : G l' m' a' b' c' d') (hm : 0 ≤ m) (hl' : 0 ≤ l') (ha : 0 < a) (hd : 0 < d) (hb' : 0 < b') (hc' : 0 < c') : G (l * l') (m * m') (a * a') (b * b') (c * c') (d * d') := by
  unfold G at *
  have k := mul_le_mul' h g (Int.mul_nonneg hm (Int.le_of_lt (Int.mul_pos ha hd))) (Int.mul_nonneg hl' (Int.le_of_lt (Int.mul_pos hc' hb')))
  rw [show l * l' * (c * c' * (b * b')) = l * (c * b) * (l' * (c' * b')) by simp only [Int.mul_assoc, Int.mul_left_comm, Int.mul_comm], show m * m' * (a * a' * (d * d')) = m * (a * d) * (m' * (a' * d')) by simp only [Int.mul_assoc, Int.mul_left_comm, Int.mul_comm]]
  exact k
theorem G.inv {l m a b c d : Int} (h : G l m a b c d) : G l m d c b a := by
  unfold G at *
  rwa [Int.mul_comm b c, Int.mul_comm d a]
theorem G.weak {l m l' m' a b c d : Int} (h : G l m a b c d) (k : l' * m ≤ l * m') (hm : 0 < m) (hm' : 0 ≤ m') (hb : 0 < b) (hc : 0 < c) : G l' m' a b c d := by
  unfold G at *
  have h1 := Int.mul_le_mul_of_nonneg_right k (Int.le_of_lt (Int.mul_pos hc hb))
  have h2 := Int.mul_le_mul_of_nonneg_left h hm'
  refine Int.le_of_mul_le_mul_left (a := m) ?_ hm
  rw [show m * (l' * (c * b)) = l' * m * (c * b) by simp only [Int.mul_assoc, Int.mul_left_comm, Int.mul_comm], show m * (m' * (a * d)) = m' * (m * (a * d)) by simp only [Int.mul_assoc, Int.mul_left_comm, Int.mul_comm]]
  refine Int.le_trans h1 ?_
  rw [show l * m' * (c * b) = m' * (l * (c * b)) by simp only [Int.mul_assoc, Int.mul_left_comm, Int.mul_comm]]
  exact h2
/-- within one part of 2 ^ j of each other -/
structure Cl (j : Nat) (a b c d : Int) : Prop where
  fst : G (2 ^ j - 1) (2 ^ j) a b c d
  snd : G (2 ^ j - 1) (2 ^ j) c d a b
  pa : 0 < a
  pb : 0 < b
  pc : 0 < c
  pd : 0 < d
theorem Cl.symm {j : Nat} {a b c d : Int} (h : Cl j a b c d) : Cl j c d a b := ⟨h.snd, h.fst, h.pc, h.pd, h.pa, h.pb⟩
theorem pow2_ge1 (j : Nat) : (0 : Int) ≤ 2 ^ j - 1 := by have := two_pow_pos j; omega
theorem weak2 (j : Nat) : ((2 : Int) ^ j - 1) * (2 ^ (j + 1) * 2 ^ (j + 1)) ≤ (2 ^ (j + 1) - 1) * (2 ^ (j + 1) - 1) * 2 ^ j := by
  have := two_pow_pos j
  rw [Int.pow_succ]
  generalize (2 : Int) ^ j = x at *
  grind
theorem Cl.trans {j : Nat} {a b c d e f : Int} (h : Cl (j + 1) a b c d) (g : Cl (j + 1) c d e f) : Cl j a b e f := by
  have p := two_pow_pos (j + 1)
  have q := pow2_ge1 (j + 1)
  have r := two_pow_pos j
  refine ⟨?_, ?_, h.pa, h.pb, g.pc, g.pd⟩
  · exact (h.fst.trans g.fst q (Int.le_of_lt p) q h.pa h.pb h.pc h.pd g.pc g.pd).weak (weak2 j) (Int.mul_pos p p) (Int.le_of_lt r) h.pb g.pc
  · exact (g.snd.trans h.snd q (Int.le_of_lt p) q g.pc g.pd h.pc h.pd h.pa h.pb).weak (weak2 j) (Int.mul_pos p p) (Int.le_of_lt r) g.pd h.pa
theorem Cl.mul {j : Nat} {a b c d a' b' c' d' : Int} (h : Cl (j + 1) a b c d) (g : Cl (j + 1) a' b' c' d') : Cl j (a * a') (b * b') (c * c') (d * d') := by
  have p := two_pow_pos (j + 1)
  have q := pow2_ge1 (j + 1)
  have r := two_pow_pos j
  have m1 := Int.mul_pos h.pa g.pa
  have m2 := Int.mul_pos h.pb g.pb
  have m3 := Int.mul_pos h.pc g.pc
  have m4 := Int.mul_pos h.pd g.pd
  refine ⟨?_, ?_, m1, m2, m3, m4⟩
  · exact (h.fst.mul g.fst (Int.le_of_lt p) q h.pa h.pd g.pb g.pc).weak (weak2 j) (Int.mul_pos p p) (Int.le_of_lt r) m2 m3
  · exact (h.snd.mul g.snd (Int.le_of_lt p) q h.pc h.pb g.pd g.pa).weak (weak2 j) (Int.mul_pos p p) (Int.le_of_lt r) m4 m1
theorem Cl.inv {j : Nat} {a b c d : Int} (h : Cl j a b c d) : Cl j b a d c := ⟨h.snd.inv, h.fst.inv, h.pb, h.pa, h.pd, h.pc⟩
theorem Cl.ratio {j : Nat} {a b c d : Int} (h : a * d = c * b) (ha : 0 < a) (hb : 0 < b) (hc : 0 < c) (hd : 0 < d) : Cl j a b c d := by
  have p := two_pow_pos j
  have q : (2 : Int) ^ j - 1 ≤ 2 ^ j := by omega
  refine ⟨?_, ?_, ha, hb, hc, hd⟩ <;> unfold G
  · rw [h]; exact Int.mul_le_mul_of_nonneg_right q (Int.le_of_lt (Int.mul_pos hc hb))
  · rw [h]; exact Int.mul_le_mul_of_nonneg_right q (Int.le_of_lt (Int.mul_pos hc hb))
theorem Cl.weak {j : Nat} {a b c d : Int} (h : Cl (j + 1) a b c d) : Cl j a b c d := h.trans (Cl.ratio rfl h.pc h.pd h.pc h.pd)
theorem Cl.near {n d : Int} (hd : 0 < d) (hn : 0 < n) (s : Sm 1000 d) : Cl 52 (nearN n d) (nearD n d) n d := by
  obtain ⟨e1, e2⟩ := near_err hd hn s
  have p1 := nearN_pos hd hn s
  have p2 := nearD_pos n d
  have m1 := Int.mul_pos hn p2
  refine ⟨?_, ?_, p1, p2, hn, hd⟩ <;> unfold G
  · rw [Int.mul_comm (nearN n d) d]
    generalize n * nearD n d = x at *
    generalize d * nearN n d = y at *
    omega
  · rw [Int.mul_comm (nearN n d) d]
    generalize n * nearD n d = x at *
    generalize d * nearN n d = y at *
    omega
theorem Cl.dbl {n d : Int} (hd : 0 < d) (hn : 0 < n) (s : Sm 1000 d) : Cl 52 (dblN n d) (dblD n d) n d := by
  have e := dbl_near hd hn
  rw [e.1, e.2]
  exact Cl.near hd hn s

theorem back_cf : True := by
  w_top off
  first | walk1 | trivial
/-! the law's double and the program's: one value -/
theorem Cl.left {j : Nat} {a b c d a' b' : Int} (h : Cl j a b c d) (e : a' * b = a * b') (ha : 0 < a') (hb : 0 < b') : Cl j a' b' c d := by
  have p := two_pow_pos j
  refine ⟨?_, ?_, ha, hb, h.pc, h.pd⟩
  · have k := Int.mul_le_mul_of_nonneg_left h.fst (Int.le_of_lt hb)
    refine Int.le_of_mul_le_mul_left (a := b) ?_ h.pb
    rw [show b * ((2 ^ j - 1) * (c * b')) = b' * ((2 ^ j - 1) * (c * b)) by simp only [Int.mul_assoc, Int.mul_left_comm, Int.mul_comm], show b * (2 ^ j * (a' * d)) = 2 ^ j * d * (a' * b) by simp only [Int.mul_assoc, Int.mul_left_comm, Int.mul_comm], e, show 2 ^ j * d * (a * b') = b' * (2 ^ j * (a * d)) by simp only [Int.mul_assoc, Int.mul_left_comm, Int.mul_comm]]
    exact k
  · have k := Int.mul_le_mul_of_nonneg_left h.snd (Int.le_of_lt hb)
    refine Int.le_of_mul_le_mul_left (a := b) ?_ h.pb
    rw [show b * (2 ^ j * (c * b')) = b' * (2 ^ j * (c * b)) by simp only [Int.mul_assoc, Int.mul_left_comm, Int.mul_comm], show b * ((2 ^ j - 1) * (a' * d)) = (2 ^ j - 1) * d * (a' * b) by simp only [Int.mul_assoc, Int.mul_left_comm, Int.mul_comm], e, show (2 ^ j - 1) * d * (a * b') = b' * ((2 ^ j - 1) * (a * d)) by simp only [Int.mul_assoc, Int.mul_left_comm, Int.mul_comm]]
    exact k
theorem Cl.coarse {j : Nat} {a b c d : Int} (h : Cl (j + 1) a b c d) : a * d ≤ 2 * (c * b) ∧ c * b ≤ 2 * (a * d) := by
  have f := h.fst
  have g := h.snd
  have p := two_pow_pos j
  have q := Int.mul_pos h.pc h.pb
  have r := Int.mul_pos h.pa h.pd
  unfold G at f g
  rw [Int.pow_succ] at f g
  generalize (2 : Int) ^ j = x at *
  generalize c * b = y at *
  generalize a * d = z at *
  constructor
  · refine Int.not_lt.mp fun hc => ?_
    have k : (x * 2 - 1) * (2 * y + 1) ≤ (x * 2 - 1) * z := Int.mul_le_mul_of_nonneg_left (by omega) (by omega)
    have k2 : 1 * y ≤ x * y := Int.mul_le_mul_of_nonneg_right (by omega) (by omega)
    grind
  · refine Int.not_lt.mp fun hc => ?_
    have k : (x * 2 - 1) * (2 * z + 1) ≤ (x * 2 - 1) * y := Int.mul_le_mul_of_nonneg_left (by omega) (by omega)
    have k2 : 1 * z ≤ x * z := Int.mul_le_mul_of_nonneg_right (by omega) (by omega)
    grind
theorem T_pos : (0 : Int) < 1 * 2 ^ (200 : Int).toNat := by decide +kernel
theorem T_sm : Sm 202 (1 * 2 ^ (200 : Int).toNat) := by unfold Sm; decide +kernel
theorem ln_ok {n d : Int} (hd : 0 < d) (hn : 0 < n) (s : Sm 520 n) (s' : Sm 520 d) (lo : d ≤ n * 2 ^ 110) (hi : n ≤ d * 2 ^ 110) : LnOK n d ∧ 1 ≤ lnK n d ∧ 0 < lnN n d := by
  have eT : (200 : Int).toNat = 200 := rfl
  have a1 := Int.mul_fdiv_add_fmod (n * 2 ^ (200 : Int).toNat) d
  have r1 := Int.fmod_nonneg_of_pos (n * 2 ^ (200 : Int).toNat) hd
  have r2 := Int.fmod_lt_of_pos (n * 2 ^ (200 : Int).toNat) hd
  have hP : lnP n d = (n * 2 ^ (200 : Int).toNat).fdiv d := rfl
  rw [← hP] at a1
  have p1 : 2 ^ 90 ≤ lnP n d := by
    refine Int.le_of_lt_add_one (Int.lt_of_mul_lt_mul_left (a := d) ?_ (Int.le_of_lt hd))
    rw [Int.mul_add, Int.mul_one]
    rw [eT] at *
    omega
  have p2 : lnP n d ≤ 2 ^ 310 := by
    refine Int.le_of_mul_le_mul_left (a := d) ?_ hd
    rw [eT] at *
    omega
  have b1 := lt_intBits (lnP n d)
  have b2 : Builtin.Int.intBits (lnP n d) ≤ 311 := by
    refine Sm.intBits ?_
    unfold Sm
    omega
  have b3 : 90 < Builtin.Int.intBits (lnP n d) := by
    refine Nat.lt_of_not_le fun hc => ?_
    have : 2 ^ Builtin.Int.intBits (lnP n d) ≤ 2 ^ 90 := Nat.pow_le_pow_right (by decide) hc
    omega
  have hk : 1 ≤ lnK n d := by unfold lnK; omega
  refine ⟨⟨hd, hn, s, s', ?_, ?_⟩, hk, ?_⟩
  · rw [← hP]; omega
  · rw [← hP]; omega
  · have e := lnH_rnd hd hk
    unfold lnN
    refine Int.mul_pos ?_ (two_pow_pos _)
    have g : (lnP n d).fdiv (lnB n d) ≤ lnH n d := by unfold lnH; split <;> omega
    have hB : 0 < lnB n d := by unfold lnB; rw [Int.one_mul]; exact two_pow_pos _
    have c1 := intBits_le (x := lnP n d) (by omega)
    have hKe : Builtin.Int.intBits (lnP n d) - 1 = 52 + (lnK n d).toNat := by unfold lnK at *; omega
    rw [hKe] at c1
    have c2 : lnB n d ≤ lnP n d := by
      unfold lnB
      rw [Int.one_mul]
      have : (2 : Nat) ^ (lnK n d).toNat ≤ 2 ^ (52 + (lnK n d).toNat) := Nat.pow_le_pow_right (by decide) (by omega)
      have e3 : ((2 ^ (lnK n d).toNat : Nat) : Int) ≤ ((lnP n d).natAbs : Int) := by exact_mod_cast Nat.le_trans this c1
      rw [Int.natAbs_of_nonneg (by omega)] at e3
      exact_mod_cast e3
    have c3 : 1 ≤ (lnP n d).fdiv (lnB n d) := by
      rw [Int.fdiv_eq_ediv_of_nonneg _ (Int.le_of_lt hB)]
      exact (Int.le_ediv_iff_mul_le hB).mpr (by omega)
    omega
theorem Cl.ln {n d : Int} (hd : 0 < d) (hn : 0 < n) (s : Sm 1000 d) (hk : 1 ≤ lnK n d) (h0 : 0 < lnN n d) : Cl 52 (lnN n d) (1 * 2 ^ (200 : Int).toNat) n d :=
  (Cl.near hd hn s).left (lnear_near hd hn s hk) h0 T_pos
theorem near_small {n d K J : Int} (hd : 0 < d) (hn : 0 < n) (s : Sm 1000 d) (J0 : 0 < J) (lo : nearD n d ≤ J * nearN n d) (hi : nearN n d ≤ K * nearD n d) (K0 : 0 ≤ K) : nearD n d ≤ J * 2 ^ 53 ∧ nearN n d ≤ K * (J * 2 ^ 53) := by
  have w := nearW_le53 hd hn
  have w2 := nearW_ge n d hd hn s
  have c : nearD n d ≤ J * 2 ^ 53 := by
    by_cases h : nearS n d ≤ 0
    · unfold nearD
      rw [show (max (nearS n d) 0).toNat = 0 by omega]
      have : 1 * 2 ^ 53 ≤ J * 2 ^ 53 := Int.mul_le_mul_of_nonneg_right (by omega) (by decide)
      omega
    · have e : nearN n d = nearW n d := by
        unfold nearN
        rw [show (max (-nearS n d) 0).toNat = 0 by omega, Int.pow_zero, Int.mul_one]
      rw [e] at lo
      exact Int.le_trans lo (Int.mul_le_mul_of_nonneg_left w (Int.le_of_lt J0))
  exact ⟨c, Int.le_trans hi (Int.mul_le_mul_of_nonneg_left c K0)⟩
/-- what is shown of a value: LN / 2 ^ 200 is the law's, N / D the program's, X / Y the true one -/
structure Val (LN N D X Y : Int) : Prop where
  eq : LN * D = N * (1 * 2 ^ (200 : Int).toNat)
  cl : Cl 47 N D X Y
  sN : Sm 160 N
  sD : Sm 160 D
  sL : Sm 300 LN
  pL : 0 < LN
  idem : dblN N D * D = N * dblD N D
theorem val_of {n d X Y : Int} (hd : 0 < d) (hn : 0 < n) (s : Sm 520 n) (s' : Sm 520 d) (cl : Cl 50 n d X Y) (lo : Y ≤ 10 * X) (hi : X ≤ 1000 * Y) : Val (lnN n d) (dblN n d) (dblD n d) X Y ∧ LnOK n d := by
  have pX := cl.pc
  have pY := cl.pd
  obtain ⟨f1, f2⟩ := cl.coarse
  have hlo : d ≤ n * 20 := by
    refine Int.le_of_mul_le_mul_left (a := Y) ?_ pY
    have := Int.mul_le_mul_of_nonneg_right lo (Int.le_of_lt hd)
    rw [show 10 * X * d = 10 * (X * d) by rw [Int.mul_assoc]] at this
    rw [show Y * (n * 20) = 20 * (n * Y) by grind]
    omega
  have hhi : n ≤ d * 2000 := by
    refine Int.le_of_mul_le_mul_left (a := Y) ?_ pY
    have := Int.mul_le_mul_of_nonneg_right hi (Int.le_of_lt hd)
    rw [show 1000 * Y * d = 1000 * (Y * d) by rw [Int.mul_assoc]] at this
    rw [show Y * (d * 2000) = 2000 * (Y * d) by grind, Int.mul_comm Y n]
    omega
  have ok := ln_ok hd hn s s' (by omega) (by omega)
  have sd : Sm 1000 d := s'.mono (by decide)
  have e := dbl_near hd hn
  have cn := Cl.near hd hn sd
  have cL := Cl.ln hd hn sd ok.2.1 ok.2.2
  have pN := nearN_pos hd hn sd
  have pD := nearD_pos n d
  obtain ⟨g1, g2⟩ := cn.coarse
  have nlo : nearD n d ≤ 40 * nearN n d := by
    refine Int.le_of_mul_le_mul_left (a := n) ?_ hn
    have := Int.mul_le_mul_of_nonneg_left hlo (Int.le_of_lt pN)
    rw [show nearN n d * (n * 20) = 20 * (n * nearN n d) by grind] at this
    rw [show n * (40 * nearN n d) = 40 * (n * nearN n d) by grind]
    omega
  have nhi : nearN n d ≤ 4000 * nearD n d := by
    refine Int.le_of_mul_le_mul_left (a := d) ?_ hd
    have := Int.mul_le_mul_of_nonneg_right hhi (Int.le_of_lt pD)
    rw [show d * 2000 * nearD n d = 2000 * (d * nearD n d) by grind] at this
    rw [show d * (4000 * nearD n d) = 4000 * (d * nearD n d) by grind, Int.mul_comm d]
    omega
  obtain ⟨b1, b2⟩ := near_small hd hn sd (by decide) nlo nhi (by decide)
  obtain ⟨l1, l2⟩ := cL.coarse
  have lhi : lnN n d ≤ 4000 * (1 * 2 ^ (200 : Int).toNat) := by
    refine Int.le_of_mul_le_mul_left (a := d) ?_ hd
    have := Int.mul_le_mul_of_nonneg_right hhi (Int.le_of_lt T_pos)
    rw [show d * 2000 * (1 * 2 ^ (200 : Int).toNat) = 2000 * (d * (1 * 2 ^ (200 : Int).toNat)) by rw [Int.mul_comm d 2000, Int.mul_assoc]] at this
    rw [Int.mul_left_comm d 4000, Int.mul_comm d (lnN n d)]
    omega
  have h0 := ok.2.2
  have eT : (200 : Int).toNat = 200 := rfl
  refine ⟨⟨?_, ?_, ?_, ?_, ?_, h0, ?_⟩, ok.1⟩
  · rw [e.1, e.2]; exact lnear_near hd hn sd ok.2.1
  · rw [e.1, e.2]; exact ((cn.weak.weak.trans cl)).weak.weak
  · rw [e.1]; unfold Sm; omega
  · rw [e.2]; unfold Sm; omega
  · unfold Sm
    rw [eT] at lhi
    omega
  · have i : dblN (dblN n d) (dblD n d) * dblD n d = dblN n d * dblD (dblN n d) (dblD n d) := by
      have q := dbl_near (n := nearN n d) (d := nearD n d) pD pN
      rw [e.1, e.2, q.1, q.2]
      exact near_idem hd hn (s.mono (by decide)) (s'.mono (by decide))
    exact i

theorem back_cg : True := by
  w_top off
  first | walk1 | trivial
/-! what follows of a value: the digits, the test, the texts -/
theorem laid_len {m dg : Int} (h0 : 0 ≤ m) (h1 : m < 10 ^ 20) (g0 : 0 ≤ dg) (g1 : dg ≤ 5) : (laidS dg m).length ≤ 99 := by
  obtain ⟨m, rfl⟩ := Int.eq_ofNat_of_zero_le h0
  obtain ⟨k, rfl⟩ := Int.eq_ofNat_of_zero_le g0
  have s1' : m < 10 ^ 20 := by exact_mod_cast h1
  have hq : m / 10 ^ k < 10 ^ 20 := Nat.lt_of_le_of_lt (Nat.div_le_self _ _) s1'
  have hql : (digs (m / 10 ^ k)).length ≤ 20 := by
    unfold digs
    rw [List.length_map]
    exact digits10_le (by decide) hq
  have hpl := pk_len k (m % 10 ^ k)
  have hL := cps_laid m k
  have hl := len_list (laidS (k : Int) (m : Int))
  rw [hL, List.length_append] at hl
  rw [hl]
  split
  · simp; omega
  · rw [List.length_cons]; omega
theorem tens {P : Nat → Prop} (h : P 0 ∧ P 1 ∧ P 2 ∧ P 3 ∧ P 4 ∧ P 5) {k : Nat} (g : k ≤ 5) : P k := by
  obtain ⟨h0, h1, h2, h3, h4, h5⟩ := h
  have : k = 0 ∨ k = 1 ∨ k = 2 ∨ k = 3 ∨ k = 4 ∨ k = 5 := by omega
  rcases this with rfl | rfl | rfl | rfl | rfl | rfl <;> assumption
theorem ten5 {k : Nat} (g : k ≤ 5) : (10 : Int) ^ k ≤ 10 ^ 5 := pow10_le g
theorem Val.rd {LN N D X Y dg : Int} (v : Val LN N D X Y) : rndI (LN * 10 ^ dg.toNat) (1 * 2 ^ (200 : Int).toNat) = rdN N D dg ∧ rdN (dblN N D) (dblD N D) dg = rdN N D dg := by
  have pN := v.cl.pa
  have pD := v.cl.pb
  have p1 : 0 < dblN N D := dblN_pos pD pN (v.sD.mono (by decide))
  have p2 : 0 < dblD N D := dblD_pos pD
  unfold rdN
  rw [Int.natAbs_of_nonneg (Int.le_of_lt pN), Int.natAbs_of_nonneg (Int.le_of_lt p1)]
  constructor
  · refine rnd_ratio T_pos pD ?_
    rw [Int.mul_right_comm, v.eq, Int.mul_right_comm]
  · refine rnd_ratio p2 pD ?_
    rw [Int.mul_right_comm, v.idem, Int.mul_right_comm]
theorem Val.rd_b {LN N D X Y dg : Int} (v : Val LN N D X Y) (hi : X ≤ 1000 * Y) (g0 : 0 ≤ dg) (g1 : dg ≤ 5) : 0 ≤ rdN N D dg ∧ rdN N D dg < 10 ^ 20 := by
  have pN := v.cl.pa
  have pD := v.cl.pb
  have pY := v.cl.pd
  obtain ⟨f1, f2⟩ := v.cl.coarse
  have hhi : N ≤ D * 2000 := by
    refine Int.le_of_mul_le_mul_left (a := Y) ?_ pY
    have := Int.mul_le_mul_of_nonneg_right hi (Int.le_of_lt pD)
    rw [show 1000 * Y * D = 1000 * (Y * D) by rw [Int.mul_assoc]] at this
    rw [show Y * (D * 2000) = 2000 * (Y * D) by grind, Int.mul_comm Y N]
    omega
  unfold rdN
  rw [Int.natAbs_of_nonneg (Int.le_of_lt pN)]
  have pT := ten_pos dg.toNat
  have t5 : (10 : Int) ^ dg.toNat ≤ 10 ^ 5 := ten5 (by omega)
  refine ⟨rnd_nonneg (Int.mul_nonneg (Int.le_of_lt pN) (Int.le_of_lt pT)) pD, ?_⟩
  have r := (rnd_near (N * 10 ^ dg.toNat) D pD).2
  have k : N * 10 ^ dg.toNat ≤ D * 2000 * 10 ^ 5 := mul_le_mul' hhi t5 (by omega) (Int.le_of_lt pT)
  generalize rndI (N * 10 ^ dg.toNat) D = R at *
  generalize N * 10 ^ dg.toNat = Z at *
  refine Int.lt_of_mul_lt_mul_left (a := D) ?_ (Int.le_of_lt pD)
  omega
theorem thr_tens {M r dg : Int} (hM : 0 ≤ M) (r0 : 0 ≤ r) (r2 : r ≤ 2) (g0 : 0 ≤ dg) (g1 : dg ≤ 5) :
    dblN M (10 ^ dg.toNat) * 1 ≥ 10 ^ (r + 1).toNat * dblD M (10 ^ dg.toNat) ↔ ¬ M < 10 ^ (r + 1 + dg).toNat := by
  have pT := ten_pos dg.toNat
  have t5 : (10 : Int) ^ dg.toNat ≤ 10 ^ 5 := ten5 (by omega)
  have e : (10 : Int) ^ (r + 1 + dg).toNat = 10 ^ (r + 1).toNat * 10 ^ dg.toNat := by rw [← Int.pow_add]; congr 1; omega
  have hK : (10 : Int) ^ (r + 1).toNat = 10 ∨ (10 : Int) ^ (r + 1).toNat = 100 ∨ (10 : Int) ^ (r + 1).toNat = 1000 := by
    have : r = 0 ∨ r = 1 ∨ r = 2 := by omega
    rcases this with rfl | rfl | rfl
    · exact .inl rfl
    · exact .inr (.inl rfl)
    · exact .inr (.inr rfl)
  have s : Sm 1000 (10 ^ dg.toNat) := by
    refine Sm.mono (a := 64) ?_ (by decide)
    refine Sm.of_lt ?_ ?_ <;> omega
  have b : (10 : Int) ^ (r + 1).toNat * 10 ^ dg.toNat ≤ 10 ^ 9 := by
    have : (10 : Int) ^ (r + 1).toNat * 10 ^ dg.toNat ≤ 1000 * 10 ^ 5 := mul_le_mul' (by omega) t5 (by decide) (Int.le_of_lt pT)
    omega
  rw [thr pT s hK b hM, e]
  omega
/-! the sign -/
theorem rdN_neg (n d dg : Int) : rdN (-n) d dg = rdN n d dg := by unfold rdN; rw [Int.natAbs_neg]
theorem laid_pos {n d dg : Int} (h : 0 ≤ n) : laidT n d dg = PySem.Str.ofString "" ++ laidS dg (rdN n d dg) := by rw [laidT_sign, if_neg (by omega)]
theorem laid_neg {n d dg : Int} (h : 0 < n) : laidT (-n) d dg = PySem.Str.ofString "-" ++ laidS dg (rdN n d dg) := by rw [laidT_sign, if_pos (by omega), rdN_neg]
/-! the next power's bucket is the same -/
theorem one_one : dblN 1 1 = dblD 1 1 ∧ 0 < dblN 1 1 := by decide +kernel
theorem thousand : dblN 1000 1 = 1000 * dblD 1000 1 ∧ 0 < dblD 1000 1 := by decide +kernel
theorem Val.same {LN N D X Y dg : Int} (v : Val LN N D X Y) : rdN (dblN (N * dblD 1 1) (D * dblN 1 1)) (dblD (N * dblD 1 1) (D * dblN 1 1)) dg = rdN N D dg := by
  have pN := v.cl.pa
  have pD := v.cl.pb
  obtain ⟨o1, o2⟩ := one_one
  have sq : Sm 64 (dblN 1 1) := by unfold Sm; decide +kernel
  rw [← o1]
  have q := Int.mul_pos pN o2
  have q' := Int.mul_pos pD o2
  have r := dbl_ratio (n := N * dblN 1 1) (d := D * dblN 1 1) (n' := N) (d' := D) q' pD q ((v.sD.mul sq).mono (by decide)) (v.sD.mono (by decide)) (by grind)
  rw [r.1, r.2]
  exact v.rd.2
/-! the next power's bucket is the next: both are put right to one -/
theorem rd_one {N D X Y dg K : Int} (cl : Cl 40 N D X Y) (g0 : 0 ≤ dg) (g1 : dg ≤ 5) (lo : (20 * 10 ^ dg.toNat - 2) * Y ≤ 20 * 10 ^ dg.toNat * X) (hi : 10 ^ 11 * X ≤ (10 ^ 11 + 1) * Y) (hK : K = dg) : rdN N D dg = 10 ^ K.toNat := by
  subst hK
  have pN := cl.pa
  have pD := cl.pb
  have pX := cl.pc
  have pY := cl.pd
  unfold rdN
  rw [Int.natAbs_of_nonneg (Int.le_of_lt pN)]
  have pT := ten_pos K.toNat
  have t5 : (10 : Int) ^ K.toNat ≤ 10 ^ 5 := ten5 (by omega)
  have f := cl.fst
  have g := cl.snd
  unfold G at f g
  generalize (10 : Int) ^ K.toNat = T at *
  -- all in units of D * Y
  have lo2 := Int.mul_le_mul_of_nonneg_right lo (Int.le_of_lt pD)
  have hi2 := Int.mul_le_mul_of_nonneg_right hi (Int.le_of_lt pD)
  have pZ := Int.mul_pos pD pY
  have f2 := Int.mul_le_mul_of_nonneg_left f (Int.le_of_lt pT)
  have g2 := Int.mul_le_mul_of_nonneg_left g (Int.le_of_lt pT)
  refine rnd_is pD ?_ ?_
  · refine Int.lt_of_mul_lt_mul_left (a := Y) ?_ (Int.le_of_lt pY)
    have t6 : T * (D * Y) ≤ 10 ^ 5 * (D * Y) := Int.mul_le_mul_of_nonneg_right t5 (Int.le_of_lt pZ)
    have e1 : Y * (2 * (D * T) - D) = 2 * (T * (D * Y)) - D * Y := by grind
    have e2 : Y * (2 * (N * T)) = 2 * (T * (N * Y)) := by grind
    have e3 : T * ((2 ^ 40 - 1) * (X * D)) = (2 ^ 40 - 1) * (T * (X * D)) := Int.mul_left_comm ..
    have e4 : T * (2 ^ 40 * (N * Y)) = 2 ^ 40 * (T * (N * Y)) := Int.mul_left_comm ..
    have e5 : (20 * T - 2) * Y * D = 20 * (T * (D * Y)) - 2 * (D * Y) := by grind
    have e6 : 20 * T * X * D = 20 * (T * (X * D)) := by grind
    rw [e1, e2]
    rw [e3, e4] at f2
    rw [e5, e6] at lo2
    generalize T * (X * D) = x at *
    generalize T * (N * Y) = n at *
    generalize T * (D * Y) = t at *
    generalize D * Y = z at *
    omega
  · refine Int.lt_of_mul_lt_mul_left (a := Y) ?_ (Int.le_of_lt pY)
    have t6 : T * (D * Y) ≤ 10 ^ 5 * (D * Y) := Int.mul_le_mul_of_nonneg_right t5 (Int.le_of_lt pZ)
    have hi3 := Int.mul_le_mul_of_nonneg_left hi2 (Int.le_of_lt pT)
    have e1 : Y * (2 * (D * T) + D) = 2 * (T * (D * Y)) + D * Y := by grind
    have e2 : Y * (2 * (N * T)) = 2 * (T * (N * Y)) := by grind
    have e3 : T * (2 ^ 40 * (X * D)) = 2 ^ 40 * (T * (X * D)) := Int.mul_left_comm ..
    have e4 : T * ((2 ^ 40 - 1) * (N * Y)) = (2 ^ 40 - 1) * (T * (N * Y)) := Int.mul_left_comm ..
    have e5 : T * (10 ^ 11 * X * D) = 10 ^ 11 * (T * (X * D)) := by grind
    have e6 : T * ((10 ^ 11 + 1) * Y * D) = (10 ^ 11 + 1) * (T * (D * Y)) := by grind
    rw [e1, e2]
    rw [e4, e3] at g2
    rw [e5, e6] at hi3
    generalize T * (X * D) = x at *
    generalize T * (N * Y) = n at *
    generalize T * (D * Y) = t at *
    generalize D * Y = z at *
    omega

theorem back_ch : True := by
  w_top off
  first | walk1 | trivial
/-! the two chains of doubles: the law's and the program's -/
theorem Cl.right {j : Nat} {a b c d c' d' : Int} (h : Cl j a b c d) (e : c' * d = c * d') (hc : 0 < c') (hd : 0 < d') : Cl j a b c' d' := (h.symm.left e hc hd).symm
theorem Val.right {LN N D X Y X' Y' : Int} (v : Val LN N D X Y) (e : X' * Y = X * Y') (hc : 0 < X') (hd : 0 < Y') : Val LN N D X' Y' := ⟨v.eq, v.cl.right e hc hd, v.sN, v.sD, v.sL, v.pL, v.idem⟩
theorem sm_30 {x : Int} (h : 0 < x) (g : x ≤ 10 ^ 30) : Sm 100 x := by unfold Sm; omega
theorem ln_30 {n d : Int} (hn : 0 < n) (hd : 0 < d) (gn : n ≤ 10 ^ 30) (gd : d ≤ 10 ^ 30) : LnOK n d ∧ 1 ≤ lnK n d ∧ 0 < lnN n d ∧ Sm 300 (lnN n d) := by
  have ok := ln_ok hd hn ((sm_30 hn gn).mono (by decide)) ((sm_30 hd gd).mono (by decide)) (by omega) (by omega)
  refine ⟨ok.1, ok.2.1, ok.2.2, ?_⟩
  have f := (Cl.ln hd hn ((sm_30 hd gd).mono (by decide)) ok.2.1 ok.2.2).snd
  unfold G at f
  have k : lnN n d * 1 ≤ lnN n d * d := Int.mul_le_mul_of_nonneg_left (by omega) (Int.le_of_lt ok.2.2)
  have k2 : n * (1 * 2 ^ (200 : Int).toNat) ≤ 10 ^ 30 * (1 * 2 ^ (200 : Int).toNat) := Int.mul_le_mul_of_nonneg_right gn (Int.le_of_lt T_pos)
  rw [show (200 : Int).toNat = 200 from rfl] at *
  have h0 := ok.2.2
  unfold Sm
  generalize lnN n d * d = y at *
  generalize n * (1 * 2 ^ 200) = z at *
  omega
theorem chain_flt {top low c e : Int} (t0 : 0 < top) (l0 : 0 < low) (c0 : 0 < c) (e0 : 0 < e) (t1 : top ≤ 10 ^ 30) (l1 : low ≤ 10 ^ 30) (c1 : c ≤ 10 ^ 30) (e1 : e ≤ 10 ^ 30) (lo : low * c ≤ 10 * (top * e)) (hi : top * e ≤ 1000 * (low * c)) :
    LnOK (lnN top low * (1 * 2 ^ (200 : Int).toNat)) ((1 * 2 ^ (200 : Int).toNat) * lnN c e) ∧
    Val (lnN (lnN top low * (1 * 2 ^ (200 : Int).toNat)) ((1 * 2 ^ (200 : Int).toNat) * lnN c e)) (dblN (dblN top low * dblD c e) (dblD top low * dblN c e)) (dblD (dblN top low * dblD c e) (dblD top low * dblN c e)) (top * e) (low * c) := by
  obtain ⟨_, a2, a3, a4⟩ := ln_30 t0 l0 t1 l1
  obtain ⟨_, b2, b3, b4⟩ := ln_30 c0 e0 c1 e1
  have sl := sm_30 l0 l1
  have se := sm_30 e0 e1
  have sc := sm_30 c0 c1
  have k1 := Cl.ln l0 t0 (sl.mono (by decide)) a2 a3
  have k2 := Cl.ln e0 c0 (se.mono (by decide)) b2 b3
  have k := (k1.mul k2.inv).weak
  have v := val_of (Int.mul_pos T_pos b3) (Int.mul_pos a3 T_pos) ((a4.mul T_sm).mono (by decide)) ((T_sm.mul b4).mono (by decide)) k lo hi
  refine ⟨v.2, ?_⟩
  have p1 := dblN_pos l0 t0 (sl.mono (by decide))
  have p2 := dblD_pos (n := top) l0
  have p3 := dblN_pos e0 c0 (se.mono (by decide))
  have p4 := dblD_pos (n := c) e0
  have r := dbl_ratio (n := lnN top low * (1 * 2 ^ (200 : Int).toNat)) (d := (1 * 2 ^ (200 : Int).toNat) * lnN c e) (n' := dblN top low * dblD c e) (d' := dblD top low * dblN c e)
    (Int.mul_pos T_pos b3) (Int.mul_pos p2 p3) (Int.mul_pos a3 T_pos) ((T_sm.mul b4).mono (by decide)) ((sl.dblD.mul (sc.dblN e0)).mono (by decide)) (by
      have x1 := lnear_near l0 t0 (sl.mono (by decide)) a2
      have x2 := lnear_near e0 c0 (se.mono (by decide)) b2
      have d1 := dbl_near l0 t0
      have d2 := dbl_near e0 c0
      rw [d1.1, d1.2, d2.1, d2.2]
      generalize nearN top low = N at *
      generalize nearD top low = D at *
      generalize nearN c e = C at *
      generalize nearD c e = F at *
      generalize lnN top low = a at *
      generalize lnN c e = b at *
      generalize (1 * 2 ^ (200 : Int).toNat : Int) = T at *
      rw [show a * T * (D * C) = (a * D) * (T * C) by grind, x1, show N * F * (T * b) = (b * F) * (N * T) by grind, x2]
      grind)
  rw [← r.1, ← r.2]
  exact v.1
theorem chain_int {top c : Int} (t0 : 0 < top) (c0 : 0 < c) (t1 : top ≤ 10 ^ 30) (c1 : c ≤ 10 ^ 30) (lo : c ≤ 10 * top) (hi : top ≤ 1000 * c) :
    LnOK (top * 1) (1 * c) ∧ Val (lnN (top * 1) (1 * c)) (dblN top c) (dblD top c) top c := by
  rw [Int.mul_one, Int.one_mul]
  have st := sm_30 t0 t1
  have sc := sm_30 c0 c1
  have v := val_of c0 t0 (st.mono (by decide)) (sc.mono (by decide)) (Cl.ratio rfl t0 c0 t0 c0) lo hi
  exact ⟨v.2, v.1⟩
theorem Val.next {LN N D X Y dg dg' : Int} (v : Val LN N D X Y) (hi : X ≤ 1000 * Y) (g0 : 0 ≤ dg) (g1 : dg ≤ 3) (g2 : 0 ≤ dg') (g3 : dg' ≤ 5) (g4 : dg' ≤ dg + 2) (hM : 10 ^ (3 + dg).toNat ≤ rdN N D dg) :
    rdN (dblN (N * dblD 1000 1) (D * dblN 1000 1)) (dblD (N * dblD 1000 1) (D * dblN 1000 1)) dg' = 10 ^ dg'.toNat ∧ ∀ LN' N' D', Val LN' N' D' X (1000 * Y) → rdN N' D' dg' = 10 ^ dg'.toNat := by
  have pN := v.cl.pa
  have pD := v.cl.pb
  have pX := v.cl.pc
  have pY := v.cl.pd
  have hlo : (20 * 10 ^ dg'.toNat - 2) * (1000 * Y) ≤ 20 * 10 ^ dg'.toNat * X := by
    unfold rdN at hM
    rw [Int.natAbs_of_nonneg (Int.le_of_lt pN)] at hM
    have r := (rnd_near (N * 10 ^ dg.toNat) D pD).2
    have f := v.cl.snd
    unfold G at f
    have hM2 := Int.mul_le_mul_of_nonneg_left hM (Int.le_of_lt pD)
    rw [show (3 + dg).toNat = dg.toNat + 3 by omega, Int.pow_add] at hM2
    have hT : (10 : Int) ^ dg'.toNat ≤ 10 ^ dg.toNat * 100 := by
      have := pow10_le (a := dg'.toNat) (b := dg.toNat + 2) (by omega)
      rwa [Int.pow_add] at this
    have pT := ten_pos dg.toNat
    have t3 : (10 : Int) ^ dg.toNat ≤ 10 ^ 3 := pow10_le (by omega)
    have pT' := ten_pos dg'.toNat
    generalize (10 : Int) ^ dg.toNat = T at *
    generalize (10 : Int) ^ dg'.toNat = T' at *
    generalize rndI (N * T) D = M at *
    -- true: X / Y at least (1 - 2^-47) (1000 - 1 / (2 T))
    have s1 : D * (2000 * T - 1) ≤ 2 * (N * T) := by
      rw [show D * (2000 * T - 1) = 2 * (D * (T * 10 ^ 3)) - D by grind]
      omega
    have s2 := Int.mul_le_mul_of_nonneg_right s1 (Int.le_of_lt pY)
    have s3 := Int.mul_le_mul_of_nonneg_left f (Int.le_of_lt pT)
    -- in units of D * Y
    have s4 : (2 ^ 47 - 1) * (D * (2000 * T - 1) * Y) ≤ (2 ^ 47 - 1) * (2 * (N * T) * Y) := Int.mul_le_mul_of_nonneg_left s2 (by decide)
    have s5 : (2 ^ 47 - 1) * ((2000 * T - 1) * Y) ≤ 2 ^ 48 * (T * X) := by
      refine Int.le_of_mul_le_mul_left (a := D) ?_ pD
      rw [show D * ((2 ^ 47 - 1) * ((2000 * T - 1) * Y)) = (2 ^ 47 - 1) * (D * (2000 * T - 1) * Y) by grind, show D * (2 ^ 48 * (T * X)) = 2 * (T * (2 ^ 47 * (X * D))) by grind]
      rw [show (2 ^ 47 - 1) * (2 * (N * T) * Y) = 2 * (T * ((2 ^ 47 - 1) * (N * Y))) by grind] at s4
      omega
    -- the claim, T times
    refine Int.le_of_mul_le_mul_left (a := T) ?_ pT
    rw [show T * ((20 * T' - 2) * (1000 * Y)) = 20000 * (T * T' * Y) - 2000 * (T * Y) by grind, show T * (20 * T' * X) = 20 * (T' * (T * X)) by grind]
    have s6 := Int.mul_le_mul_of_nonneg_left s5 (Int.le_of_lt pT')
    rw [show T' * ((2 ^ 47 - 1) * ((2000 * T - 1) * Y)) = (2 ^ 47 - 1) * (2000 * (T * T' * Y) - T' * Y) by grind, show T' * (2 ^ 48 * (T * X)) = 2 ^ 48 * (T' * (T * X)) by grind] at s6
    have s7 : T' * Y ≤ T * 100 * Y := Int.mul_le_mul_of_nonneg_right hT (Int.le_of_lt pY)
    rw [show T * 100 * Y = 100 * (T * Y) by grind] at s7
    have s8 : T * T' * Y ≤ T * (T * 100) * Y := Int.mul_le_mul_of_nonneg_right (Int.mul_le_mul_of_nonneg_left hT (Int.le_of_lt pT)) (Int.le_of_lt pY)
    have s9 : T * (T * 100) * Y ≤ 10 ^ 3 * (T * 100) * Y := Int.mul_le_mul_of_nonneg_right (Int.mul_le_mul_of_nonneg_right t3 (by omega)) (Int.le_of_lt pY)
    rw [show 10 ^ 3 * (T * 100) * Y = 100000 * (T * Y) by grind] at s9
    have s10 := Int.le_trans s8 s9
    have pTY := Int.mul_pos pT pY
    clear s1 s2 s3 s4 s5 s8 s9 r f hM2 hM hT t3
    generalize T * T' * Y = a at *
    generalize T' * (T * X) = b at *
    generalize T * Y = u at *
    generalize T' * Y = q at *
    omega
  have hhi : 10 ^ 11 * X ≤ (10 ^ 11 + 1) * (1000 * Y) := by omega
  have h1000 := thousand
  have p3 : 0 < dblN 1000 1 := by omega
  constructor
  · have sq : Sm 64 (dblN 1000 1) := by unfold Sm; decide +kernel
    have a := Cl.dbl (n := N * dblD 1000 1) (d := D * dblN 1000 1) (Int.mul_pos pD p3) (Int.mul_pos pN h1000.2) ((v.sD.mul sq).mono (by decide))
    have b : Cl 46 (N * 1) (D * 1000) (X * 1) (Y * 1000) := v.cl.mul (Cl.ratio rfl (by decide) (by decide) (by decide) (by decide))
    have b2 : Cl 46 (N * dblD 1000 1) (D * dblN 1000 1) X (1000 * Y) := (b.left (by rw [h1000.1]; grind) (Int.mul_pos pN h1000.2) (Int.mul_pos pD p3)).right (by grind) pX (by omega)
    have k : Cl 45 _ _ _ _ := (a.weak.weak.weak.weak.weak.weak).trans b2
    exact rd_one k.weak.weak.weak.weak.weak g2 g3 hlo hhi rfl
  · intro LN' N' D' w
    exact rd_one w.cl.weak.weak.weak.weak.weak.weak.weak g2 g3 hlo hhi rfl

theorem back_ci : True := by
  w_top off
  first | walk1 | trivial
/-! a turn: the text that the law says and the one that metric gives -/
def dgOf (P e : Int) : Int := max 0 (P - e.fmod 3 - 1)
def partT (P : Int) (U : PySem.Str) (e m : Int) : PySem.Str := laidS (dgOf P e) m ++ blankT U (prefT e) ++ prefT e ++ U
def mOf (LN P e : Int) : Int := rndI (LN * 10 ^ (dgOf P e).toNat) (1 * 2 ^ (200 : Int).toNat)
def saidL (LN LN' P E : Int) (U : PySem.Str) : PySem.Str := if mOf LN P E < 10 ^ (E.fmod 3 + 1 + dgOf P E).toNat then partT P U E (mOf LN P E) else partT P U (E + 1) (mOf LN' P (E + 1))
def sgnT (s : Int) : PySem.Str := if s < 0 then PySem.Str.ofString "-" else PySem.Str.ofString ""
def tstP (N1 D1 E P : Int) : Prop := dblN (rdN (dblN N1.natAbs D1) (dblD N1.natAbs D1) (max 0 (P - E.fmod 3 - 1))) (10 ^ (max 0 (P - E.fmod 3 - 1)).toNat) * 1 ≥ 10 ^ (E.fmod 3 + 1).toNat * dblD (rdN (dblN N1.natAbs D1) (dblD N1.natAbs D1) (max 0 (P - E.fmod 3 - 1))) (10 ^ (max 0 (P - E.fmod 3 - 1)).toNat)
def n2N (N1 D1 E : Int) : Int := dblN (N1 * dblD (10 ^ ((E + 1).fdiv 3 * 3 - E.fdiv 3 * 3).toNat) 1) (D1 * dblN (10 ^ ((E + 1).fdiv 3 * 3 - E.fdiv 3 * 3).toNat) 1)
def n2D (N1 D1 E : Int) : Int := dblD (N1 * dblD (10 ^ ((E + 1).fdiv 3 * 3 - E.fdiv 3 * 3).toNat) 1) (D1 * dblN (10 ^ ((E + 1).fdiv 3 * 3 - E.fdiv 3 * 3).toNat) 1)
theorem fmod3 (e : Int) : e.fmod 3 = e % 3 := Int.fmod_eq_emod_of_nonneg _ (by decide)
theorem fdiv3 (e : Int) : e.fdiv 3 = e / 3 := Int.fdiv_eq_ediv_of_nonneg _ (by decide)
theorem abs_sgn {s x : Int} (hs : s = 1 ∨ s = -1) (h : 0 ≤ x) : ((s * x).natAbs : Int) = x := by rcases hs with rfl | rfl <;> omega
theorem dbl_sgn {s n d : Int} (hs : s = 1 ∨ s = -1) (hd : 0 < d) : dblN (s * n) d = s * dblN n d ∧ dblD (s * n) d = dblD n d := by
  rcases hs with rfl | rfl
  · rw [Int.one_mul, Int.one_mul]; exact ⟨rfl, rfl⟩
  · have := dbl_neg (n := n) hd
    rw [show (-1 : Int) * n = -n by omega, show (-1 : Int) * dblN n d = -dblN n d by omega]
    exact this
theorem laid_sgn {s x D dg : Int} (hs : s = 1 ∨ s = -1) (h : 0 < x) : laidT (s * x) D dg = sgnT s ++ laidS dg (rdN x D dg) := by
  unfold sgnT
  rcases hs with rfl | rfl
  · rw [Int.one_mul, if_neg (by decide)]; exact laid_pos (Int.le_of_lt h)
  · rw [show (-1 : Int) * x = -x by omega, if_pos (by decide)]; exact laid_neg h
theorem dgOf_b {P e : Int} (p1 : 1 ≤ P) (p2 : P ≤ 6) : 0 ≤ dgOf P e ∧ dgOf P e ≤ 5 := by
  unfold dgOf
  rw [fmod3]
  omega
theorem tst_iff {s E P LN N D X Y : Int} (hs : s = 1 ∨ s = -1) (v : Val LN N D X Y) (hi : X ≤ 1000 * Y) (p1 : 1 ≤ P) (p2 : P ≤ 6) : tstP (s * N) D E P ↔ ¬ mOf LN P E < 10 ^ (E.fmod 3 + 1 + dgOf P E).toNat := by
  have g := dgOf_b (e := E) p1 p2
  have f0 : 0 ≤ E.fmod 3 ∧ E.fmod 3 ≤ 2 := by rw [fmod3]; omega
  unfold tstP
  rw [abs_sgn hs (Int.le_of_lt v.cl.pa)]
  show dblN (rdN (dblN N D) (dblD N D) (dgOf P E)) (10 ^ (dgOf P E).toNat) * 1 ≥ _ * dblD (rdN (dblN N D) (dblD N D) (dgOf P E)) (10 ^ (dgOf P E).toNat) ↔ _
  unfold mOf
  rw [v.rd.2, v.rd.1]
  exact thr_tens (v.rd_b hi g.1 g.2).1 f0.1 f0.2 g.1 g.2
theorem join_text (s x b o U : PySem.Str) : PySem.Str.empty ++ (s ++ x) ++ b ++ o ++ U = s ++ (x ++ b ++ o ++ U) := by
  apply str_ext
  simp only [cps_app, List.append_assoc]
  rfl
theorem met_t2 {s E P LN LN' N D X Y : Int} {U : PySem.Str} (hs : s = 1 ∨ s = -1) (v : Val LN N D X Y) (hi : X ≤ 1000 * Y) (p1 : 1 ≤ P) (p2 : P ≤ 6) (e1 : -30 ≤ E) (e2 : E ≤ 29) (h : ¬ tstP (s * N) D E P) :
    PySem.Str.empty ++ laidT (s * N) D (max 0 (P - E.fmod 3 - 1)) ++ spaceT U (ordT E) ++ ordT E ++ U = sgnT s ++ saidL LN LN' P E U := by
  rw [tst_iff hs v hi p1 p2] at h
  have h := Classical.not_not.mp h
  unfold saidL partT
  rw [if_pos h, laid_sgn hs v.cl.pa, space_blank, (ord_pref e1 (by omega)).1]
  have : mOf LN P E = rdN N D (dgOf P E) := v.rd.1
  rw [this]
  exact join_text _ _ _ _ _
theorem met_t1 {s E P LN LN' N D N' D' X Y : Int} {U : PySem.Str} (hs : s = 1 ∨ s = -1) (v : Val LN N D X Y) (hi : X ≤ 1000 * Y) (p1 : 1 ≤ P) (p2 : P ≤ 6) (e1 : -30 ≤ E) (e2 : E ≤ 29) (w : E.fmod 3 = 2 → Val LN' N' D' X (1000 * Y)) (w' : E.fmod 3 ≠ 2 → LN' = LN) (h : tstP (s * N) D E P) :
    PySem.Str.empty ++ laidT (n2N (s * N) D E) (n2D (s * N) D E) (max 0 (P - (E + 1).fmod 3 - 1)) ++ spaceT U (ordT (E + 1)) ++ ordT (E + 1) ++ U = sgnT s ++ saidL LN LN' P E U := by
  rw [tst_iff hs v hi p1 p2] at h
  have pN := v.cl.pa
  have pD := v.cl.pb
  have o1 := one_one
  have o2 := thousand
  have g := dgOf_b (e := E) p1 p2
  have g' := dgOf_b (e := E + 1) p1 p2
  unfold saidL partT n2N n2D
  rw [if_neg h, Int.mul_assoc, space_blank, (ord_pref (by omega) (by omega)).1]
  by_cases hE : E.fmod 3 = 2
  · have k : ((E + 1).fdiv 3 * 3 - E.fdiv 3 * 3).toNat = 3 := by rw [fdiv3, fdiv3]; rw [fmod3] at hE; omega
    rw [k, show (10 : Int) ^ 3 = 1000 from rfl]
    have p3 : 0 < D * dblN 1000 1 := Int.mul_pos pD (by omega)
    have p4 : 0 < N * dblD 1000 1 := Int.mul_pos pN o2.2
    have r := dbl_sgn (n := N * dblD 1000 1) hs p3
    have s1 : Sm 1000 (D * dblN 1000 1) := (v.sD.mul (b := 64) (by unfold Sm; decide +kernel)).mono (by decide)
    rw [r.1, r.2, laid_sgn hs (dblN_pos p3 p4 s1)]
    have hg : dgOf P E ≤ 3 ∧ dgOf P (E + 1) ≤ dgOf P E + 2 := by
      unfold dgOf
      rw [fmod3] at *
      rw [fmod3]
      omega
    have x := v.next hi g.1 hg.1 g'.1 g'.2 hg.2 (by
      have : mOf LN P E = rdN N D (dgOf P E) := v.rd.1
      rw [this, hE, show (2 : Int) + 1 + dgOf P E = 3 + dgOf P E by omega] at h
      omega)
    have y := x.2 _ _ _ (w hE)
    have : mOf LN' P (E + 1) = rdN N' D' (dgOf P (E + 1)) := (w hE).rd.1
    rw [this, y, show max 0 (P - (E + 1).fmod 3 - 1) = dgOf P (E + 1) from rfl, x.1]
    exact join_text _ _ _ _ _
  · have k : ((E + 1).fdiv 3 * 3 - E.fdiv 3 * 3).toNat = 0 := by rw [fdiv3, fdiv3]; rw [fmod3] at hE; omega
    rw [k, Int.pow_zero, w' hE]
    have p3 : 0 < D * dblN 1 1 := Int.mul_pos pD o1.2
    have p4 : 0 < N * dblD 1 1 := Int.mul_pos pN (by omega)
    have r := dbl_sgn (n := N * dblD 1 1) hs p3
    have s1 : Sm 1000 (D * dblN 1 1) := (v.sD.mul (b := 64) (by unfold Sm; decide +kernel)).mono (by decide)
    rw [r.1, r.2, laid_sgn hs (dblN_pos p3 p4 s1), v.same]
    have : mOf LN P (E + 1) = rdN N D (dgOf P (E + 1)) := v.rd.1
    rw [this]
    exact join_text _ _ _ _ _
theorem met_len {s E P LN N D X Y : Int} (hs : s = 1 ∨ s = -1) (v : Val LN N D X Y) (hi : X ≤ 1000 * Y) (p1 : 1 ≤ P) (p2 : P ≤ 6) : (laidT (s * N) D (max 0 (P - E.fmod 3 - 1))).length ≤ 100 := by
  have g := dgOf_b (e := E) p1 p2
  have b := v.rd_b hi g.1 g.2
  rw [laid_sgn hs v.cl.pa, PySem.Str.length_append]
  have := laid_len b.1 b.2 g.1 g.2
  have hsg : (sgnT s).length ≤ 1 := by
    unfold sgnT
    have a : (PySem.Str.ofString "").length = 0 := by decide +kernel
    have b : (PySem.Str.ofString "-").length = 1 := by decide +kernel
    split <;> omega
  show (sgnT s).length + (laidS (dgOf P E) (rdN N D (dgOf P E))).length ≤ 100
  omega

theorem back_cj : True := by
  w_top off
  first | walk1 | trivial
/-! the law's numbers -/
def cB (k : Int) : Int := 10 ^ (max k 0).toNat
def eB (k : Int) : Int := 10 ^ (max (-k) 0).toNat
def bkt (e : Int) : Int := e - e.fmod 3
def eE (n p : Int) : Int := ((PySem.Str.ofString (toString n)).length : Int) - 1 + p
def lnV (b : Bool) (top low k : Int) : Int := match b with
  | true => lnN (top * 1) (1 * cB k)
  | false => lnN (lnN top low * (1 * 2 ^ (200 : Int).toNat)) ((1 * 2 ^ (200 : Int).toNat) * lnN (cB k) (eB k))
def vN (b : Bool) (top low k : Int) : Int := match b with
  | true => dblN top (cB k)
  | false => dblN (dblN top low * dblD (cB k) (eB k)) (dblD top low * dblN (cB k) (eB k))
def vD (b : Bool) (top low k : Int) : Int := match b with
  | true => dblD top (cB k)
  | false => dblD (dblN top low * dblD (cB k) (eB k)) (dblD top low * dblN (cB k) (eB k))
def lnO (b : Bool) (top low k : Int) : Prop := match b with
  | true => LnOK (top * 1) (1 * cB k)
  | false => LnOK (lnN top low * (1 * 2 ^ (200 : Int).toNat)) ((1 * 2 ^ (200 : Int).toNat) * lnN (cB k) (eB k))
def UnitOK (U : PySem.Str) : Prop := U ∈ [PySem.Str.ofString "", PySem.Str.ofString "V", PySem.Str.ofString "Hz", PySem.Str.ofString "°", PySem.Str.ofString "′", PySem.Str.ofString "″"]
def TL (n p P : Int) (U : PySem.Str) (b : Bool) : PySem.Str := if n = 0 then zeroT P U else saidL (lnV b (n * cB p) (eB p) (bkt (eE n p))) (lnV b (n * cB p) (eB p) (bkt (eE n p + 1))) P (eE n p) U
theorem bkt_b (e : Int) : e - 2 ≤ bkt e ∧ bkt e ≤ e ∧ bkt e = e.fdiv 3 * 3 := by unfold bkt; rw [fmod3, fdiv3]; omega
theorem cB_pos (k : Int) : 0 < cB k := ten_pos _
theorem eB_pos (k : Int) : 0 < eB k := ten_pos _
theorem cB_le {k : Int} (h : k ≤ 30) : cB k ≤ 10 ^ 30 := pow10_le (by omega)
theorem eB_le {k : Int} (h : -30 ≤ k) : eB k ≤ 10 ^ 30 := pow10_le (by omega)
theorem eE_b {n p : Int} (h1 : 1 ≤ n) (h2 : n ≤ 10 ^ 9) : ∃ L : Nat, 1 ≤ L ∧ L ≤ 10 ∧ eE n p = (L : Int) - 1 + p ∧ 10 ^ (L - 1) ≤ n ∧ n < 10 ^ L ∧ 10 ^ 14 ≤ n * 10 ^ (15 - L) ∧ n * 10 ^ (15 - L) ≤ 10 ^ 15 - 10 ^ 5 ∧ (L = 10 → n = 10 ^ 9) := by
  obtain ⟨m, rfl⟩ := Int.eq_ofNat_of_zero_le (show 0 ≤ n by omega)
  have m1 : 0 < m := by omega
  have m2 : m ≤ 10 ^ 9 := by omega
  obtain ⟨b1, b2⟩ := digs_bounds m1
  obtain ⟨j1, j2, j3, j4⟩ := J_bounds m1 m2
  have e := num_len m
  refine ⟨(digs m).length, j1, j2, ?_, by exact_mod_cast b1, by exact_mod_cast b2, by exact_mod_cast j3, ?_, ?_⟩
  · unfold eE; rw [e]
  · have : ((m * 10 ^ (15 - (digs m).length) : Nat) : Int) ≤ ((10 ^ 15 - 10 ^ 5 : Nat) : Int) := by exact_mod_cast j4
    rw [show ((10 ^ 15 - 10 ^ 5 : Nat) : Int) = 10 ^ 15 - 10 ^ 5 by decide +kernel, Int.natCast_mul, Int.natCast_pow] at this
    exact this
  · intro h
    rw [h] at b1
    have : m = 10 ^ 9 := by omega
    rw [this]
    rfl
theorem eE_range {n p : Int} (h1 : 1 ≤ n) (h2 : n ≤ 10 ^ 9) (p1 : -30 ≤ p) (p2 : p ≤ 20) : -30 ≤ eE n p ∧ eE n p ≤ 29 ∧ p ≤ eE n p := by
  obtain ⟨L, l1, l2, e, _⟩ := eE_b (p := p) h1 h2
  omega
/-- the true value at a bucket -/
theorem true_b {n p k : Int} (h1 : 1 ≤ n) (h2 : n ≤ 10 ^ 9) (k1 : k ≤ eE n p + 1) (k2 : eE n p - 2 ≤ k) : eB p * cB k ≤ 10 * (n * cB p * eB k) ∧ n * cB p * eB k ≤ 1000 * (eB p * cB k) := by
  obtain ⟨L, l1, l2, e, b1, b2, _⟩ := eE_b (p := p) h1 h2
  rw [e] at k1 k2
  unfold cB eB
  rw [← Int.pow_add, Int.mul_assoc, ← Int.pow_add]
  have pf := ten_pos ((max p 0).toNat + (max (-k) 0).toNat)
  constructor
  · have a := Int.mul_le_mul_of_nonneg_right b1 (Int.le_of_lt pf)
    rw [← Int.pow_add] at a
    have c := pow10_le (a := (max (-p) 0).toNat + (max k 0).toNat) (b := 1 + (L - 1 + ((max p 0).toNat + (max (-k) 0).toNat))) (by omega)
    rw [Int.pow_add _ 1] at c
    generalize n * 10 ^ ((max p 0).toNat + (max (-k) 0).toNat) = z at *
    generalize (10 : Int) ^ (L - 1 + ((max p 0).toNat + (max (-k) 0).toNat)) = y at *
    omega
  · have a := Int.mul_le_mul_of_nonneg_right (Int.le_of_lt b2) (Int.le_of_lt pf)
    rw [← Int.pow_add] at a
    have c := pow10_le (b := 3 + ((max (-p) 0).toNat + (max k 0).toNat)) (a := L + ((max p 0).toNat + (max (-k) 0).toNat)) (by omega)
    rw [Int.pow_add _ 3] at c
    generalize n * 10 ^ ((max p 0).toNat + (max (-k) 0).toNat) = z at *
    generalize (10 : Int) ^ (L + ((max p 0).toNat + (max (-k) 0).toNat)) = y at *
    omega
theorem top_b {n p : Int} (h1 : 1 ≤ n) (h2 : n ≤ 10 ^ 9) (p2 : p ≤ 20) : 0 < n * cB p ∧ n * cB p ≤ 10 ^ 29 := by
  have a : cB p ≤ 10 ^ 20 := pow10_le (by omega)
  have b := cB_pos p
  refine ⟨Int.mul_pos (by omega) b, ?_⟩
  have := mul_le_mul' h2 a (by decide) (Int.le_of_lt b)
  omega
theorem nums_val {n p k : Int} {b : Bool} (h1 : 1 ≤ n) (h2 : n ≤ 10 ^ 9) (p1 : -30 ≤ p) (p2 : p ≤ 20) (hb : b = true → 0 ≤ p) (k1 : k ≤ eE n p + 1) (k2 : eE n p - 2 ≤ k) (k3 : -30 ≤ k) (k4 : p ≤ k ∨ 0 ≤ k ∨ b = false) (k5 : b = true → 0 ≤ k) :
    lnO b (n * cB p) (eB p) k ∧ Val (lnV b (n * cB p) (eB p) k) (vN b (n * cB p) (eB p) k) (vD b (n * cB p) (eB p) k) (n * cB p * eB k) (eB p * cB k) := by
  have r := eE_range h1 h2 p1 p2
  have t := top_b h1 h2 p2
  obtain ⟨lo, hi⟩ := true_b h1 h2 k1 k2
  cases b with
  | true =>
    have e1 : eB p = 1 := by unfold eB; rw [show (max (-p) 0).toNat = 0 by have := hb rfl; omega, Int.pow_zero]
    have e2 : eB k = 1 := by unfold eB; rw [show (max (-k) 0).toNat = 0 by have := k5 rfl; omega, Int.pow_zero]
    rw [e1, e2, Int.mul_one, Int.one_mul] at lo hi ⊢
    exact chain_int t.1 (cB_pos k) (by omega) (cB_le (by omega)) lo hi
  | false =>
    exact chain_flt t.1 (eB_pos p) (cB_pos k) (eB_pos k) (by omega) (eB_le p1) (cB_le (by omega)) (eB_le (by omega)) lo hi
theorem next_true {n p k : Int} : n * cB p * eB k * (eB p * cB (k + 3)) = n * cB p * eB (k + 3) * (1000 * (eB p * cB k)) := by
  have e : eB k * cB (k + 3) = 1000 * (eB (k + 3) * cB k) := by
    unfold eB cB
    rw [← Int.pow_add, ← Int.pow_add, show (1000 : Int) = 10 ^ 3 from rfl, ← Int.pow_add]
    congr 1
    omega
  rw [show n * cB p * eB k * (eB p * cB (k + 3)) = n * cB p * eB p * (eB k * cB (k + 3)) by grind, e]
  grind
theorem zero_all : ∀ i : Fin 6, ∀ U ∈ [PySem.Str.ofString "", PySem.Str.ofString "V", PySem.Str.ofString "Hz", PySem.Str.ofString "°", PySem.Str.ofString "′", PySem.Str.ofString "″"],
    PySem.Str.empty ++ (PySem.Str.ofString "" ++ laidS (max 0 ((i.val : Int) + 1 - (0 : Int).fmod 3 - 1)) 0) ++ spaceT U (ordT 0) ++ ordT 0 ++ U = PySem.Str.ofString "" ++ zeroT ((i.val : Int) + 1) U := by decide +kernel
theorem zero_text {P : Int} {U : PySem.Str} (p1 : 1 ≤ P) (p2 : P ≤ 6) (u : UnitOK U) : PySem.Str.empty ++ (PySem.Str.ofString "" ++ laidS (max 0 (P - (0 : Int).fmod 3 - 1)) 0) ++ spaceT U (ordT 0) ++ ordT 0 ++ U = PySem.Str.ofString "" ++ zeroT P U := by
  have := zero_all ⟨(P - 1).toNat, by omega⟩ U u
  rw [show (((P - 1).toNat : Nat) : Int) + 1 = P by omega] at this
  exact this
theorem unit_len {U : PySem.Str} (u : UnitOK U) : U.length ≤ 5 := by
  have h : ∀ U ∈ [PySem.Str.ofString "", PySem.Str.ofString "V", PySem.Str.ofString "Hz", PySem.Str.ofString "°", PySem.Str.ofString "′", PySem.Str.ofString "″"], U.length ≤ 5 := by decide +kernel
  exact h U u
theorem rd_bnd {N D dg : Int} (hN : 0 ≤ N) (hD : 0 < D) (h : N ≤ D * 8000) (g1 : dg ≤ 5) : 0 ≤ rdN N D dg ∧ rdN N D dg < 10 ^ 20 := by
  unfold rdN
  rw [Int.natAbs_of_nonneg hN]
  have pT := ten_pos dg.toNat
  have t5 : (10 : Int) ^ dg.toNat ≤ 10 ^ 5 := ten5 (by omega)
  refine ⟨rnd_nonneg (Int.mul_nonneg hN (Int.le_of_lt pT)) hD, ?_⟩
  have r := (rnd_near (N * 10 ^ dg.toNat) D hD).2
  have k : N * 10 ^ dg.toNat ≤ D * 8000 * 10 ^ 5 := mul_le_mul' h t5 (by omega) (Int.le_of_lt pT)
  generalize rndI (N * 10 ^ dg.toNat) D = R at *
  generalize N * 10 ^ dg.toNat = Z at *
  refine Int.lt_of_mul_lt_mul_left (a := D) ?_ (Int.le_of_lt hD)
  omega
theorem Val.hi {LN N D X Y : Int} (v : Val LN N D X Y) (hi : X ≤ 1000 * Y) : N ≤ D * 2000 := by
  obtain ⟨f1, f2⟩ := v.cl.coarse
  have pD := v.cl.pb
  refine Int.le_of_mul_le_mul_left (a := Y) ?_ v.cl.pd
  have := Int.mul_le_mul_of_nonneg_right hi (Int.le_of_lt pD)
  rw [show 1000 * Y * D = 1000 * (Y * D) by rw [Int.mul_assoc]] at this
  rw [show Y * (D * 2000) = 2000 * (Y * D) by grind, Int.mul_comm Y N]
  omega
theorem laid_len2 {s N D dg : Int} (hs : s = 1 ∨ s = -1) (hN : 0 < N) (hD : 0 < D) (h : N ≤ D * 8000) (g0 : 0 ≤ dg) (g1 : dg ≤ 5) : (laidT (s * N) D dg).length ≤ 100 := by
  have b := rd_bnd (Int.le_of_lt hN) hD h g1
  rw [laid_sgn hs hN, PySem.Str.length_append]
  have := laid_len b.1 b.2 g0 g1
  have hsg : (sgnT s).length ≤ 1 := by
    unfold sgnT
    have a : (PySem.Str.ofString "").length = 0 := by decide +kernel
    have b : (PySem.Str.ofString "-").length = 1 := by decide +kernel
    split <;> omega
  omega
theorem met_len2 {s E P LN N D X Y : Int} (hs : s = 1 ∨ s = -1) (v : Val LN N D X Y) (hi : X ≤ 1000 * Y) (p1 : 1 ≤ P) (p2 : P ≤ 6) : (laidT (n2N (s * N) D E) (n2D (s * N) D E) (max 0 (P - (E + 1).fmod 3 - 1))).length ≤ 100 := by
  have pN := v.cl.pa
  have pD := v.cl.pb
  have o1 := one_one
  have o2 := thousand
  have g' := dgOf_b (e := E + 1) p1 p2
  have h := v.hi hi
  have key : ∀ c d : Int, 0 < c → 0 < d → d ≤ c → Sm 64 c → (laidT (dblN (s * (N * d)) (D * c)) (dblD (s * (N * d)) (D * c)) (dgOf P (E + 1))).length ≤ 100 := by
    intro c d hc hd hdc sc
    have p3 : 0 < D * c := Int.mul_pos pD hc
    have p4 : 0 < N * d := Int.mul_pos pN hd
    have r := dbl_sgn (n := N * d) hs p3
    have s1 : Sm 1000 (D * c) := (v.sD.mul sc).mono (by decide)
    have q1 := dblN_pos p3 p4 s1
    have q2 := dblD_pos (n := N * d) p3
    rw [r.1, r.2]
    refine laid_len2 hs q1 q2 ?_ g'.1 g'.2
    have cl := (Cl.dbl p3 p4 s1).coarse
    have a : N * d ≤ D * 2000 * c := mul_le_mul' h hdc (by omega) (Int.le_of_lt hd)
    refine Int.le_of_mul_le_mul_left (a := D * c) ?_ p3
    have a2 := Int.mul_le_mul_of_nonneg_right a (Int.le_of_lt q2)
    rw [show D * 2000 * c * dblD (N * d) (D * c) = 2000 * (D * c * dblD (N * d) (D * c)) by grind] at a2
    rw [show D * c * (dblD (N * d) (D * c) * 8000) = 8000 * (D * c * dblD (N * d) (D * c)) by grind, Int.mul_comm (D * c) (dblN _ _)]
    have q3 := Int.mul_pos p3 q2
    omega
  unfold n2N n2D
  rw [Int.mul_assoc]
  have k : ((E + 1).fdiv 3 * 3 - E.fdiv 3 * 3).toNat = 0 ∨ ((E + 1).fdiv 3 * 3 - E.fdiv 3 * 3).toNat = 3 := by rw [fdiv3, fdiv3]; omega
  rcases k with k | k <;> rw [k]
  · exact key _ _ o1.2 (by show 0 < dblD 1 1; omega) (by show dblD 1 1 ≤ dblN 1 1; omega) (by unfold Sm; decide +kernel)
  · exact key _ _ (by show 0 < dblN 1000 1; omega) o2.2 (by show dblD 1000 1 ≤ dblN 1000 1; omega) (by unfold Sm; decide +kernel)
/-! the exponent that metric finds -/
theorem exp_num {n p : Int} (h1 : 1 ≤ n) (h2 : n ≤ 10 ^ 9) (p1 : -61 ≤ p) (p2 : p ≤ 62) (k : Int)
    (w : WL (dblN (dblN (dblN (n * cB p) (eB p)) (dblD (n * cB p) (eB p))) (dblD (dblN (n * cB p) (eB p)) (dblD (n * cB p) (eB p)))) (dblD (dblN (dblN (n * cB p) (eB p)) (dblD (n * cB p) (eB p))) (dblD (dblN (n * cB p) (eB p)) (dblD (n * cB p) (eB p)))) k) :
    mantE (dblN (dblN (n * cB p) (eB p)) (dblD (n * cB p) (eB p))) (dblD (dblN (n * cB p) (eB p)) (dblD (n * cB p) (eB p))) 14 k = eE n p := by
  obtain ⟨L, l1, l2, e, b1, b2, j1, j2, _⟩ := eE_b (p := p) h1 h2
  have c0 := cB_pos p
  have e0 := eB_pos p
  have c1 : cB p ≤ 10 ^ 62 := pow10_le (by omega)
  have e1 : eB p ≤ 10 ^ 61 := pow10_le (by omega)
  have t0 : 0 < n * cB p := Int.mul_pos (by omega) c0
  have t1 : n * cB p ≤ 10 ^ 71 := by have := mul_le_mul' h2 c1 (by decide) (Int.le_of_lt c0); omega
  have st : Sm 236 (n * cB p) := by unfold Sm; omega
  have sl : Sm 203 (eB p) := by unfold Sm; omega
  have hX : eB p * (n * 10 ^ (15 - L) * 10 ^ (eE n p + 386).toNat) = n * cB p * 10 ^ 400 := by
    rw [e]
    unfold eB cB
    rw [Int.mul_assoc, Int.mul_left_comm, ← Int.pow_add, ← Int.pow_add, Int.mul_assoc, ← Int.pow_add]
    congr 2
    omega
  have n1 := dblN_pos e0 t0 (sl.mono (by decide))
  have d1 := dblD_pos (n := n * cB p) e0
  have sn1 := st.dblN e0 (by decide)
  have sd1 := sl.dblD (n := n * cB p)
  have n2 := dblN_pos d1 n1 (sd1.mono (by decide))
  have d2 := dblD_pos (n := dblN (n * cB p) (eB p)) d1
  have sn2 := sn1.dblN d1 (by decide)
  have sd2 := sd1.dblD (n := dblN (n * cB p) (eB p))
  have i1 := dbl_idem e0 t0 (st.mono (by decide)) (sl.mono (by decide))
  have i2 := dbl_of_ratio e0 t0 d2 n2 (st.mono (by decide)) (sl.mono (by decide)) (sd2.mono (by decide)) i1
  have n3 := dblN_pos d2 n2 (sd2.mono (by decide))
  have d3 := dblD_pos (n := dblN (dblN (n * cB p) (eB p)) (dblD (n * cB p) (eB p))) d2
  have i3 : dblN (dblN (dblN (n * cB p) (eB p)) (dblD (n * cB p) (eB p))) (dblD (dblN (n * cB p) (eB p)) (dblD (n * cB p) (eB p))) * dblD (dblN (n * cB p) (eB p)) (dblD (n * cB p) (eB p)) = dblN (dblN (n * cB p) (eB p)) (dblD (n * cB p) (eB p)) * dblD (dblN (dblN (n * cB p) (eB p)) (dblD (n * cB p) (eB p))) (dblD (dblN (n * cB p) (eB p)) (dblD (n * cB p) (eB p))) := by
    have q := dbl_ratio (n := dblN (dblN (n * cB p) (eB p)) (dblD (n * cB p) (eB p))) (d := dblD (dblN (n * cB p) (eB p)) (dblD (n * cB p) (eB p))) (n' := dblN (n * cB p) (eB p)) (d' := dblD (n * cB p) (eB p)) d2 d1 n2 (sd2.mono (by decide)) (sd1.mono (by decide)) i1
    rw [q.1, q.2]
  have w2 := WL_ratio d3 d2 i3 w
  have kb := WL_b d2 n2 (sn2.mono (by decide)) (sd2.mono (by decide)) w2
  exact exp_dbl e0 t0 (sl.mono (by decide)) (by omega) (by omega) j1 j2 hX n2 d2 i1 (by omega) w2

theorem back_ck : True := by
  w_top off
  first | walk1 | trivial
/-! a turn's contracts -/
def HvP (news : List (Addr × Obj)) (v0 : Value) (E N1 D1 : Int) : Prop := (∃ n t, v0 = .int n t ∧ Sm 200 n ∧ (n = 0 → E = 0) ∧ (n = 0 ∨ dblN n 1 ≠ 0) ∧ (∀ k, WL (dblN (Int.natAbs (dblN (Int.natAbs (dblN n 1)) (dblD n 1))) (dblD (Int.natAbs (dblN n 1)) (dblD n 1))) (dblD (Int.natAbs (dblN (Int.natAbs (dblN n 1)) (dblD n 1))) (dblD (Int.natAbs (dblN n 1)) (dblD n 1))) k → mantE (dblN (Int.natAbs (dblN n 1)) (dblD n 1)) (dblD (Int.natAbs (dblN n 1)) (dblD n 1)) 14 k = E) ∧ 0 ≤ E.fdiv 3 * 3 ∧ dblN n (10 ^ (E.fdiv 3 * 3).toNat) = N1 ∧ dblD n (10 ^ (E.fdiv 3 * 3).toNat) = D1)
      ∨ (∃ n d x dx h1 h2 k1 k2 t u, v0 = .ref x ∧ (x, instObj 109 dx) ∈ news ∧ (dx, dictOf [⟨h1, .str (PySem.Str.ofString "n") k1, .int n t⟩, ⟨h2, .str (PySem.Str.ofString "d") k2, .int d u⟩] 2) ∈ news ∧ 0 < d ∧ Sm 200 n ∧ Sm 200 d ∧ (n = 0 → E = 0) ∧ (∀ k, WL (dblN (Int.natAbs (dblN (Int.natAbs (n)) (d))) (dblD (Int.natAbs (n)) (d))) (dblD (Int.natAbs (dblN (Int.natAbs (n)) (d))) (dblD (Int.natAbs (n)) (d))) k → mantE (dblN (Int.natAbs (n)) (d)) (dblD (Int.natAbs (n)) (d)) 14 k = E) ∧ (0 ≤ E.fdiv 3 * 3 → dblN (n * dblD (10 ^ (E.fdiv 3 * 3).toNat) 1) (d * dblN (10 ^ (E.fdiv 3 * 3).toNat) 1) = N1 ∧ dblD (n * dblD (10 ^ (E.fdiv 3 * 3).toNat) 1) (d * dblN (10 ^ (E.fdiv 3 * 3).toNat) 1) = D1) ∧ (E.fdiv 3 * 3 < 0 → dblN (n * dblD 1 (10 ^ (-(E.fdiv 3 * 3)).toNat)) (d * dblN 1 (10 ^ (-(E.fdiv 3 * 3)).toNat)) = N1 ∧ dblD (n * dblD 1 (10 ^ (-(E.fdiv 3 * 3)).toNat)) (d * dblN 1 (10 ^ (-(E.fdiv 3 * 3)).toNat)) = D1))
theorem hv_int {news : List (Addr × Obj)} {n p s : Int} {t : Tok} (hs : s = 1 ∨ s = -1) (h1 : 1 ≤ n) (h2 : n ≤ 10 ^ 9) (p1 : 0 ≤ p) (p2 : p ≤ 20) : HvP news (.int (s * (n * cB p)) t) (eE n p) (s * vN true (n * cB p) (eB p) (bkt (eE n p))) (vD true (n * cB p) (eB p) (bkt (eE n p))) := by
  have e1 : eB p = 1 := by unfold eB; rw [show (max (-p) 0).toNat = 0 by omega, Int.pow_zero]
  have T := top_b h1 h2 p2
  have r := eE_range h1 h2 (by omega) p2
  have bk := bkt_b (eE n p)
  have ex := exp_num h1 h2 (show -61 ≤ p by omega) (show p ≤ 62 by omega)
  rw [e1] at ex
  have f : 0 ≤ (eE n p).fdiv 3 * 3 := by rw [fdiv3]; omega
  have c : cB (bkt (eE n p)) = 10 ^ ((eE n p).fdiv 3 * 3).toNat := by unfold cB; rw [bk.2.2, show max ((eE n p).fdiv 3 * 3) 0 = (eE n p).fdiv 3 * 3 by omega]
  have st := sm_30 T.1 (by omega)
  have q := dbl_sgn (n := n * cB p) (d := 1) hs (by decide)
  have pt := dblN_pos (d := 1) (by decide) T.1 (by unfold Sm; decide +kernel)
  have pd := dblD_pos (n := n * cB p) (d := 1) (by decide)
  have pt2 := dblN_pos pd pt (((show Sm 4 (1 : Int) by unfold Sm; decide).dblD).mono (by decide))
  refine .inl ⟨_, t, rfl, ?_, ?_, ?_, ?_, f, ?_, ?_⟩
  · unfold Sm; rcases hs with rfl | rfl <;> omega
  · intro h; rcases hs with rfl | rfl <;> omega
  · right; rw [q.1]; intro h; rcases hs with rfl | rfl <;> omega
  · rw [q.1, q.2, abs_sgn hs (Int.le_of_lt pt), Int.natAbs_of_nonneg (Int.le_of_lt pt2)]
    exact ex
  · show _ = s * dblN (n * cB p) (cB _)
    rw [c]
    exact (dbl_sgn hs (ten_pos _)).1
  · show _ = dblD (n * cB p) (cB _)
    rw [c]
    exact (dbl_sgn hs (ten_pos _)).2
theorem hv_dbl {news : List (Addr × Obj)} {n p s : Int} {x dx h1 h2 k1 k2 t u} (hs : s = 1 ∨ s = -1) (a1 : 1 ≤ n) (a2 : n ≤ 10 ^ 9) (p1 : -30 ≤ p) (p2 : p ≤ 20) (m1 : (x, instObj 109 dx) ∈ news)
    (m2 : (dx, dictOf [⟨h1, .str (PySem.Str.ofString "n") k1, .int (dblN (s * (n * cB p)) (eB p)) t⟩, ⟨h2, .str (PySem.Str.ofString "d") k2, .int (dblD (s * (n * cB p)) (eB p)) u⟩] 2) ∈ news) :
    HvP news (.ref x) (eE n p) (s * vN false (n * cB p) (eB p) (bkt (eE n p))) (vD false (n * cB p) (eB p) (bkt (eE n p))) := by
  have T := top_b a1 a2 p2
  have r := eE_range a1 a2 p1 p2
  have bk := bkt_b (eE n p)
  have ex := exp_num a1 a2 (show -61 ≤ p by omega) (show p ≤ 62 by omega)
  have f : (eE n p).fdiv 3 * 3 ≤ 29 := by rw [fdiv3]; omega
  have st := sm_30 T.1 (by omega)
  have l0 := eB_pos p
  have sl := sm_30 l0 (eB_le p1)
  have q := dbl_sgn (n := n * cB p) hs l0
  have pt := dblN_pos l0 T.1 (sl.mono (by decide))
  have pd := dblD_pos (n := n * cB p) l0
  have sd := sl.dblD (n := n * cB p)
  have sn := st.dblN l0 (by decide)
  have pt2 := dblN_pos pd pt (sd.mono (by decide))
  rw [q.1, q.2] at m2
  have pc := dblN_pos (eB_pos (bkt (eE n p))) (cB_pos (bkt (eE n p))) ((sm_30 (eB_pos (bkt (eE n p))) (eB_le (by omega))).mono (by decide))
  refine .inr ⟨_, _, x, dx, h1, h2, k1, k2, t, u, rfl, m1, m2, pd, ?_, ?_, ?_, ?_, ?_, ?_⟩
  · exact (show Sm 103 (s * dblN (n * cB p) (eB p)) by rcases hs with rfl | rfl; (· rw [Int.one_mul]; exact sn.mono (by decide)); rw [show (-1 : Int) * dblN (n * cB p) (eB p) = -dblN (n * cB p) (eB p) by omega]; exact sn.neg.mono (by decide)).mono (by decide)
  · exact sd.mono (by decide)
  · intro h; rcases hs with rfl | rfl <;> omega
  · rw [abs_sgn hs (Int.le_of_lt pt), Int.natAbs_of_nonneg (Int.le_of_lt pt2)]
    exact ex
  · intro h
    have c : cB (bkt (eE n p)) = 10 ^ ((eE n p).fdiv 3 * 3).toNat := by unfold cB; rw [bk.2.2, show max ((eE n p).fdiv 3 * 3) 0 = (eE n p).fdiv 3 * 3 by omega]
    have e : eB (bkt (eE n p)) = 1 := by unfold eB; rw [bk.2.2, show (max (-((eE n p).fdiv 3 * 3)) 0).toNat = 0 by omega, Int.pow_zero]
    show dblN _ _ = s * dblN (dblN (n * cB p) (eB p) * dblD (cB _) (eB _)) (dblD (n * cB p) (eB p) * dblN (cB _) (eB _)) ∧ dblD _ _ = dblD (dblN (n * cB p) (eB p) * dblD (cB _) (eB _)) (dblD (n * cB p) (eB p) * dblN (cB _) (eB _))
    rw [← c]
    rw [e] at pc ⊢
    rw [Int.mul_assoc]
    exact dbl_sgn hs (Int.mul_pos pd pc)
  · intro h
    have c : cB (bkt (eE n p)) = 1 := by unfold cB; rw [bk.2.2, show (max ((eE n p).fdiv 3 * 3) 0).toNat = 0 by omega, Int.pow_zero]
    have e : eB (bkt (eE n p)) = 10 ^ (-((eE n p).fdiv 3 * 3)).toNat := by unfold eB; rw [bk.2.2, show max (-((eE n p).fdiv 3 * 3)) 0 = -((eE n p).fdiv 3 * 3) by omega]
    show dblN _ _ = s * dblN (dblN (n * cB p) (eB p) * dblD (cB _) (eB _)) (dblD (n * cB p) (eB p) * dblN (cB _) (eB _)) ∧ dblD _ _ = dblD (dblN (n * cB p) (eB p) * dblD (cB _) (eB _)) (dblD (n * cB p) (eB p) * dblN (cB _) (eB _))
    rw [← e]
    rw [c] at pc ⊢
    rw [Int.mul_assoc]
    exact dbl_sgn hs (Int.mul_pos pd pc)
theorem hv_int0 {news : List (Addr × Obj)} {t : Tok} : HvP news (.int 0 t) 0 0 1 := by
  refine .inl ⟨0, t, rfl, by unfold Sm; decide, fun _ => rfl, .inl rfl, ?_, by decide, by decide +kernel, by decide +kernel⟩
  intro k w
  exfalso
  have e : dblN (Int.natAbs (dblN (Int.natAbs (dblN 0 1)) (dblD 0 1))) (dblD (Int.natAbs (dblN 0 1)) (dblD 0 1)) = 0 := by decide +kernel
  have e2 : dblD (Int.natAbs (dblN (Int.natAbs (dblN 0 1)) (dblD 0 1))) (dblD (Int.natAbs (dblN 0 1)) (dblD 0 1)) = 1 := by decide +kernel
  rw [e, e2] at w
  have := w.1
  rw [Int.zero_mul, Int.one_mul] at this
  have := ten_pos (max k 0).toNat
  omega
theorem dbl_zero (d : Int) : dblN 0 d = 0 ∧ dblD 0 d = d := by unfold dblN dblD; rw [if_pos (.inl rfl), if_pos (.inl rfl)]; exact ⟨rfl, rfl⟩
theorem hv_dbl0 {news : List (Addr × Obj)} {d : Int} {x dx h1 h2 k1 k2 t u} (d0 : 0 < d) (d1 : d ≤ 10 ^ 30) (m1 : (x, instObj 109 dx) ∈ news)
    (m2 : (dx, dictOf [⟨h1, .str (PySem.Str.ofString "n") k1, .int 0 t⟩, ⟨h2, .str (PySem.Str.ofString "d") k2, .int d u⟩] 2) ∈ news) : HvP news (.ref x) 0 0 (d * dblN 1 1) := by
  refine .inr ⟨0, d, x, dx, h1, h2, k1, k2, t, u, rfl, m1, m2, d0, by unfold Sm; decide, (sm_30 d0 d1).mono (by decide), fun _ => rfl, ?_, ?_, ?_⟩
  · intro k w
    exfalso
    rw [show ((Int.natAbs 0 : Nat) : Int) = 0 from rfl, (dbl_zero d).1, (dbl_zero d).2, show ((Int.natAbs 0 : Nat) : Int) = 0 from rfl, (dbl_zero d).1, (dbl_zero d).2] at w
    have := w.1
    rw [Int.zero_mul] at this
    have := Int.mul_pos d0 (ten_pos (max k 0).toNat)
    omega
  · intro _
    rw [Int.zero_mul]
    exact dbl_zero _
  · intro h
    exact absurd h (by decide)
theorem rdN_zero {D dg : Int} (h : 0 < D) : rdN 0 D dg = 0 := by
  unfold rdN
  rw [show ((Int.natAbs 0 : Nat) : Int) = 0 from rfl, Int.zero_mul]
  exact rnd_is h (by omega) (by omega)
theorem tst_zero {D P : Int} (h : 0 < D) : ¬ tstP 0 D 0 P := by
  unfold tstP
  rw [show ((Int.natAbs 0 : Nat) : Int) = 0 from rfl, (dbl_zero D).1, (dbl_zero D).2, rdN_zero h, (dbl_zero _).1, (dbl_zero _).2]
  have := Int.mul_pos (ten_pos ((0 : Int).fmod 3 + 1).toNat) (ten_pos (max 0 (P - (0 : Int).fmod 3 - 1)).toNat)
  omega
theorem t_met3 (news) (v0 : Value) (n p s : Int) (P : Int) (U : PySem.Str) (b : Bool) (tu tp) (hs : s = 1 ∨ s = -1) (h1 : 1 ≤ n) (h2 : n ≤ 10 ^ 9) (g1 : -30 ≤ p) (g2 : p ≤ 20) (p1 : 1 ≤ P) (p2 : P ≤ 6) (hb : b = true → 0 ≤ p) (u : UnitOK U)
    (hv : HvP news v0 (eE n p) (s * vN b (n * cB p) (eB p) (bkt (eE n p))) (vD b (n * cB p) (eB p) (bkt (eE n p)))) :
    EzC 16 news (call (.ref 205) [v0, .str U tu, .int P tp]) (isStr (sgnT s ++ TL n p P U b)) := by
  have r := eE_range h1 h2 g1 g2
  have bk := bkt_b (eE n p)
  have bk' := bkt_b (eE n p + 1)
  have tb := (true_b (p := p) (k := bkt (eE n p)) h1 h2 (by omega) (by omega)).2
  have m3 : ∀ x : Int, x.fdiv 3 = x / 3 := fdiv3
  have bd : b = true → 0 ≤ eE n p := fun h => by have := hb h; omega
  have b0 : 0 ≤ eE n p → 0 ≤ bkt (eE n p) := fun h => by rw [bk.2.2, fdiv3]; omega
  have b0' : 0 ≤ eE n p → 0 ≤ bkt (eE n p + 1) := fun h => by rw [bk'.2.2, fdiv3]; omega
  have kb : -30 ≤ bkt (eE n p) := by rw [bk.2.2, fdiv3]; omega
  have kb' : -30 ≤ bkt (eE n p + 1) := by rw [bk'.2.2, fdiv3]; omega
  have v := (nums_val (b := b) (k := bkt (eE n p)) h1 h2 g1 g2 hb (by omega) (by omega) kb (by cases b with | false => exact .inr (.inr rfl) | true => exact .inr (.inl (b0 (bd rfl)))) (fun h => b0 (bd h))).2
  have v' := (nums_val (b := b) (k := bkt (eE n p + 1)) h1 h2 g1 g2 hb (by omega) (by omega) kb' (by cases b with | false => exact .inr (.inr rfl) | true => exact .inr (.inl (b0' (bd rfl)))) (fun h => b0' (bd h))).2
  have tl : TL n p P U b = saidL (lnV b (n * cB p) (eB p) (bkt (eE n p))) (lnV b (n * cB p) (eB p) (bkt (eE n p + 1))) P (eE n p) U := by unfold TL; rw [if_neg (by omega)]
  rw [tl]
  have d0 := dgOf_b (P := P) (e := eE n p) p1 p2
  have rb := v.rd_b tb d0.1 d0.2
  have pN := v.cl.pa
  have rdd : rdN (dblN (s * vN b (n * cB p) (eB p) (bkt (eE n p))).natAbs (vD b (n * cB p) (eB p) (bkt (eE n p)))) (dblD (s * vN b (n * cB p) (eB p) (bkt (eE n p))).natAbs (vD b (n * cB p) (eB p) (bkt (eE n p)))) (max 0 (P - (eE n p).fmod 3 - 1)) = rdN (vN b (n * cB p) (eB p) (bkt (eE n p))) (vD b (n * cB p) (eB p) (bkt (eE n p))) (dgOf P (eE n p)) := by
    rw [abs_sgn hs (Int.le_of_lt pN)]
    exact v.rd.2
  refine c_met3 news v0 (eE n p) P (s * vN b (n * cB p) (eB p) (bkt (eE n p))) (vD b (n * cB p) (eB p) (bkt (eE n p))) U _ tu tp p1 p2 r.1 (by omega) trivial trivial (by rw [fdiv3]; omega) (by rw [fdiv3]; omega) (by rw [fmod3]; omega) (by rw [fmod3]; omega) (by rw [fdiv3, fdiv3]; omega) (by rw [fdiv3, fdiv3]; omega) (by rw [fmod3]; omega) (by rw [fmod3]; omega)
    (unit_len u) (met_len hs v tb p1 p2) (met_len2 hs v tb p1 p2) (ord_pref (by omega) (by omega)).2 (ord_pref (by omega) (by omega)).2 (space_len _ _) (space_len _ _)
    (by have := v.sN; unfold Sm at *; rcases hs with rfl | rfl <;> omega) v.sD v.cl.pb (by rw [rdd]; exact rb.2) (by rw [rdd]; exact Sm_of20 rb.1 rb.2)
    (fun h => met_t1 (N' := vN b (n * cB p) (eB p) (bkt (eE n p + 1))) (D' := vD b (n * cB p) (eB p) (bkt (eE n p + 1))) hs v tb p1 p2 r.1 r.2.1 (fun h2 => ?w) (fun h2 => ?w') h) (fun h => met_t2 hs v tb p1 p2 r.1 r.2.1 h) hv
  case w =>
    have e : bkt (eE n p + 1) = bkt (eE n p) + 3 := by rw [bk.2.2, bk'.2.2, fdiv3, fdiv3]; rw [fmod3] at h2; omega
    rw [e] at v' ⊢
    exact v'.right next_true v.cl.pc (by have := v.cl.pd; omega)
  case w' =>
    have e : bkt (eE n p + 1) = bkt (eE n p) := by rw [bk.2.2, bk'.2.2, fdiv3, fdiv3]; rw [fmod3] at h2; omega
    rw [e]
theorem t_met30 (news) (v0 : Value) (D : Int) (P : Int) (U : PySem.Str) (tu tp) (p1 : 1 ≤ P) (p2 : P ≤ 6) (u : UnitOK U) (hv : HvP news v0 0 0 D) (d0 : 0 < D) (sd : Sm 160 D) :
    EzC 16 news (call (.ref 205) [v0, .str U tu, .int P tp]) (isStr (PySem.Str.ofString "" ++ zeroT P U)) := by
  have g := dgOf_b (P := P) (e := 0) p1 p2
  have g' := dgOf_b (P := P) (e := 1) p1 p2
  have l (D dg : Int) (h : 0 < D) : laidT 0 D dg = PySem.Str.ofString "" ++ laidS dg 0 := by rw [laid_pos (by decide), rdN_zero h]
  have ll (D dg : Int) (h : 0 < D) (g0 : 0 ≤ dg) (g1 : dg ≤ 5) : (laidT 0 D dg).length ≤ 100 := by
    rw [l D dg h, PySem.Str.length_append]
    have := laid_len (m := 0) (by decide) (by decide) g0 g1
    have a : (PySem.Str.ofString "").length = 0 := by decide +kernel
    omega
  have rdd : rdN (dblN (Int.natAbs 0) D) (dblD (Int.natAbs 0) D) (max 0 (P - (0 : Int).fmod 3 - 1)) = 0 := by
    rw [show ((Int.natAbs 0 : Nat) : Int) = 0 from rfl, (dbl_zero D).1, (dbl_zero D).2]
    exact rdN_zero d0
  refine c_met3 news v0 0 P 0 D U _ tu tp p1 p2 (by decide) (by decide) trivial trivial (by decide) (by decide) (by decide) (by decide) (by decide) (by decide) (by decide) (by decide) (unit_len u) (ll _ _ d0 g.1 g.2) ?l2 (by decide +kernel) (by decide +kernel) (space_len _ _) (space_len _ _) (by unfold Sm; decide) sd d0
    (by rw [rdd]; decide) (by rw [rdd]; unfold Sm; decide) (fun h => absurd h (tst_zero d0)) (fun _ => by rw [l _ _ d0]; exact zero_text p1 p2 u) hv
  case l2 =>
    rw [Int.zero_mul, (dbl_zero _).1, (dbl_zero _).2]
    exact ll _ _ (Int.mul_pos d0 (dblN_pos (by decide) (ten_pos _) (by unfold Sm; decide +kernel))) g'.1 g'.2
theorem t_met2 (news) (v0 : Value) (n p s : Int) (U : PySem.Str) (b : Bool) (tu) (hs : s = 1 ∨ s = -1) (h1 : 1 ≤ n) (h2 : n ≤ 10 ^ 9) (g1 : -30 ≤ p) (g2 : p ≤ 20) (hb : b = true → 0 ≤ p) (u : UnitOK U)
    (hv : HvP news v0 (eE n p) (s * vN b (n * cB p) (eB p) (bkt (eE n p))) (vD b (n * cB p) (eB p) (bkt (eE n p)))) :
    EzC 16 news (call (.ref 205) [v0, .str U tu]) (isStr (sgnT s ++ TL n p 3 U b)) := by
  have r := eE_range h1 h2 g1 g2
  have bk := bkt_b (eE n p)
  have bk' := bkt_b (eE n p + 1)
  have tb := (true_b (p := p) (k := bkt (eE n p)) h1 h2 (by omega) (by omega)).2
  have m3 : ∀ x : Int, x.fdiv 3 = x / 3 := fdiv3
  have bd : b = true → 0 ≤ eE n p := fun h => by have := hb h; omega
  have b0 : 0 ≤ eE n p → 0 ≤ bkt (eE n p) := fun h => by rw [bk.2.2, fdiv3]; omega
  have b0' : 0 ≤ eE n p → 0 ≤ bkt (eE n p + 1) := fun h => by rw [bk'.2.2, fdiv3]; omega
  have kb : -30 ≤ bkt (eE n p) := by rw [bk.2.2, fdiv3]; omega
  have kb' : -30 ≤ bkt (eE n p + 1) := by rw [bk'.2.2, fdiv3]; omega
  have v := (nums_val (b := b) (k := bkt (eE n p)) h1 h2 g1 g2 hb (by omega) (by omega) kb (by cases b with | false => exact .inr (.inr rfl) | true => exact .inr (.inl (b0 (bd rfl)))) (fun h => b0 (bd h))).2
  have v' := (nums_val (b := b) (k := bkt (eE n p + 1)) h1 h2 g1 g2 hb (by omega) (by omega) kb' (by cases b with | false => exact .inr (.inr rfl) | true => exact .inr (.inl (b0' (bd rfl)))) (fun h => b0' (bd h))).2
  have tl : TL n p 3 U b = saidL (lnV b (n * cB p) (eB p) (bkt (eE n p))) (lnV b (n * cB p) (eB p) (bkt (eE n p + 1))) 3 (eE n p) U := by unfold TL; rw [if_neg (by omega)]
  rw [tl]
  have d0 := dgOf_b (P := 3) (e := eE n p) (by decide) (by decide)
  have rb := v.rd_b tb d0.1 d0.2
  have pN := v.cl.pa
  have rdd : rdN (dblN (s * vN b (n * cB p) (eB p) (bkt (eE n p))).natAbs (vD b (n * cB p) (eB p) (bkt (eE n p)))) (dblD (s * vN b (n * cB p) (eB p) (bkt (eE n p))).natAbs (vD b (n * cB p) (eB p) (bkt (eE n p)))) (max 0 (3 - (eE n p).fmod 3 - 1)) = rdN (vN b (n * cB p) (eB p) (bkt (eE n p))) (vD b (n * cB p) (eB p) (bkt (eE n p))) (dgOf 3 (eE n p)) := by
    rw [abs_sgn hs (Int.le_of_lt pN)]
    exact v.rd.2
  refine c_met2 news v0 (eE n p) (s * vN b (n * cB p) (eB p) (bkt (eE n p))) (vD b (n * cB p) (eB p) (bkt (eE n p))) U _ tu r.1 (by omega) trivial trivial (by rw [fdiv3]; omega) (by rw [fdiv3]; omega) (by rw [fmod3]; omega) (by rw [fmod3]; omega) (by rw [fdiv3, fdiv3]; omega) (by rw [fdiv3, fdiv3]; omega) (by rw [fmod3]; omega) (by rw [fmod3]; omega)
    (unit_len u) (met_len hs v tb (by decide) (by decide)) (met_len2 hs v tb (by decide) (by decide)) (ord_pref (by omega) (by omega)).2 (ord_pref (by omega) (by omega)).2 (space_len _ _) (space_len _ _)
    (by have := v.sN; unfold Sm at *; rcases hs with rfl | rfl <;> omega) v.sD v.cl.pb (by rw [rdd]; exact rb.2) (by rw [rdd]; exact Sm_of20 rb.1 rb.2)
    (fun h => met_t1 (N' := vN b (n * cB p) (eB p) (bkt (eE n p + 1))) (D' := vD b (n * cB p) (eB p) (bkt (eE n p + 1))) hs v tb (by decide) (by decide) r.1 r.2.1 (fun h2 => ?w) (fun h2 => ?w') h) (fun h => met_t2 hs v tb (by decide) (by decide) r.1 r.2.1 h) hv
  case w =>
    have e : bkt (eE n p + 1) = bkt (eE n p) + 3 := by rw [bk.2.2, bk'.2.2, fdiv3, fdiv3]; rw [fmod3] at h2; omega
    rw [e] at v' ⊢
    exact v'.right next_true v.cl.pc (by have := v.cl.pd; omega)
  case w' =>
    have e : bkt (eE n p + 1) = bkt (eE n p) := by rw [bk.2.2, bk'.2.2, fdiv3, fdiv3]; rw [fmod3] at h2; omega
    rw [e]
theorem t_met20 (news) (v0 : Value) (D : Int) (U : PySem.Str) (tu) (u : UnitOK U) (hv : HvP news v0 0 0 D) (d0 : 0 < D) (sd : Sm 160 D) :
    EzC 16 news (call (.ref 205) [v0, .str U tu]) (isStr (PySem.Str.ofString "" ++ zeroT 3 U)) := by
  have g := dgOf_b (P := 3) (e := 0) (by decide) (by decide)
  have g' := dgOf_b (P := 3) (e := 1) (by decide) (by decide)
  have l (D dg : Int) (h : 0 < D) : laidT 0 D dg = PySem.Str.ofString "" ++ laidS dg 0 := by rw [laid_pos (by decide), rdN_zero h]
  have ll (D dg : Int) (h : 0 < D) (g0 : 0 ≤ dg) (g1 : dg ≤ 5) : (laidT 0 D dg).length ≤ 100 := by
    rw [l D dg h, PySem.Str.length_append]
    have := laid_len (m := 0) (by decide) (by decide) g0 g1
    have a : (PySem.Str.ofString "").length = 0 := by decide +kernel
    omega
  have rdd : rdN (dblN (Int.natAbs 0) D) (dblD (Int.natAbs 0) D) (max 0 (3 - (0 : Int).fmod 3 - 1)) = 0 := by
    rw [show ((Int.natAbs 0 : Nat) : Int) = 0 from rfl, (dbl_zero D).1, (dbl_zero D).2]
    exact rdN_zero d0
  refine c_met2 news v0 0 0 D U _ tu (by decide) (by decide) trivial trivial (by decide) (by decide) (by decide) (by decide) (by decide) (by decide) (by decide) (by decide) (unit_len u) (ll _ _ d0 g.1 g.2) ?l2 (by decide +kernel) (by decide +kernel) (space_len _ _) (space_len _ _) (by unfold Sm; decide) sd d0
    (by rw [rdd]; decide) (by rw [rdd]; unfold Sm; decide) (fun h => absurd h (tst_zero d0)) (fun _ => by rw [l _ _ d0]; exact zero_text (by decide) (by decide) u) hv
  case l2 =>
    rw [Int.zero_mul, (dbl_zero _).1, (dbl_zero _).2]
    exact ll _ _ (Int.mul_pos d0 (dblN_pos (by decide) (ten_pos _) (by unfold Sm; decide +kernel))) g'.1 g'.2

theorem back_cl : True := by
  w_top off
  first | walk1 | trivial
/-! what the law says of a number -/
theorem t_saidT (news) (n p P : Int) (U : PySem.Str) (te tt tw tu tq) (h1 : 1 ≤ n) (h2 : n ≤ 10 ^ 9) (g1 : -30 ≤ p) (g2 : p ≤ 20) (p1 : 1 ≤ P) (p2 : P ≤ 6) (hb : true = true → 0 ≤ p) (u : UnitOK U) :
    EzC 6 news (call (.ref 233) [.int (eE n p) te, .int (n * cB p) tt, .int (eB p) tw, .str U tu, .int P tq, .bool true]) (isStr (TL n p P U true)) := by
  have r := eE_range h1 h2 g1 g2
  have bk := bkt_b (eE n p)
  have bk' := bkt_b (eE n p + 1)
  have T := top_b h1 h2 g2
  have l0 := eB_pos p
  have tb := (true_b (p := p) (k := bkt (eE n p)) h1 h2 (by omega) (by omega)).2
  have tb' := (true_b (p := p) (k := bkt (eE n p + 1)) h1 h2 (by omega) (by omega)).2
  have bd : true = true → 0 ≤ eE n p := fun h => by have := hb h; omega
  have b0 : 0 ≤ eE n p → 0 ≤ bkt (eE n p) := fun h => by rw [bk.2.2, fdiv3]; omega
  have b0' : 0 ≤ eE n p → 0 ≤ bkt (eE n p + 1) := fun h => by rw [bk'.2.2, fdiv3]; omega
  have kb : -30 ≤ bkt (eE n p) := by rw [bk.2.2, fdiv3]; omega
  have kb' : -30 ≤ bkt (eE n p + 1) := by rw [bk'.2.2, fdiv3]; omega
  have ku : bkt (eE n p) ≤ 30 := by omega
  have ku' : bkt (eE n p + 1) ≤ 30 := by omega
  obtain ⟨o3, v⟩ := nums_val (b := true) (k := bkt (eE n p)) h1 h2 g1 g2 hb (by omega) (by omega) kb (.inr (.inl (b0 (bd rfl)))) (fun h => b0 (bd h))
  obtain ⟨o4, v'⟩ := nums_val (b := true) (k := bkt (eE n p + 1)) h1 h2 g1 g2 hb (by omega) (by omega) kb' (.inr (.inl (b0' (bd rfl)))) (fun h => b0' (bd h))
  have tl : TL n p P U true = saidL (lnV true (n * cB p) (eB p) (bkt (eE n p))) (lnV true (n * cB p) (eB p) (bkt (eE n p + 1))) P (eE n p) U := by unfold TL; rw [if_neg (by omega)]
  rw [tl]
  have d0 := dgOf_b (P := P) (e := eE n p) p1 p2
  have d1 := dgOf_b (P := P) (e := eE n p + 1) p1 p2
  have rb := v.rd_b tb d0.1 d0.2
  have rb' := v'.rd_b tb' d1.1 d1.2
  rw [← v.rd.1] at rb
  rw [← v'.rd.1] at rb'
  have c1 := ln_30 (cB_pos (bkt (eE n p))) (eB_pos (bkt (eE n p))) (cB_le ku) (eB_le kb)
  have c2 := ln_30 (cB_pos (bkt (eE n p + 1))) (eB_pos (bkt (eE n p + 1))) (cB_le ku') (eB_le kb')
  have q1 := ord_pref (e := eE n p) (by omega) (by omega)
  have q2 := ord_pref (e := eE n p + 1) (by omega) (by omega)
  have fm (x : Int) : 0 ≤ x.fmod 3 ∧ x.fmod 3 ≤ 2 := by rw [fmod3]; omega
  have fj (x : Int) (h : -30 ≤ bkt x) (h' : bkt x ≤ 30) : 0 ≤ (x - x.fmod 3).fdiv 3 + 10 ∧ (x - x.fmod 3).fdiv 3 + 10 ≤ 20 := by show 0 ≤ (bkt x).fdiv 3 + 10 ∧ (bkt x).fdiv 3 + 10 ≤ 20; rw [fdiv3]; omega
  exact c_lsaidT news (eE n p) (n * cB p) (eB p) P U _ te tt tw tu tq (by omega) l0 p1 p2 r.1 r.2.1 (unit_len u) c1.1 c2.1 o3 o4 v.sL v'.sL rb.1 rb.2 rb'.1 rb'.2
    ((sm_30 T.1 (by omega)).mono (by decide)) ((sm_30 l0 (eB_le g1)).mono (by decide)) (ln_30 T.1 l0 (by omega) (eB_le g1)).2.2.2 c1.2.2.2 c2.2.2.2 kb ku (fm _).1 (fm _).2 (fm _).1 (fm _).2 (fj _ kb ku).1 (fj _ kb ku).2 (fj _ kb' ku').1 (fj _ kb' ku').2
    (q1.1 ▸ q1.2) (q2.1 ▸ q2.2) (space_blank U _ ▸ space_len U _) (space_blank U _ ▸ space_len U _) (Nat.le_succ_of_le (laid_len rb.1 rb.2 d0.1 d0.2)) (Nat.le_succ_of_le (laid_len rb'.1 rb'.2 d1.1 d1.2)) (fun h => (if_pos h).symm) (fun h => (if_neg h).symm)
theorem t_saidF (news) (n p P : Int) (U : PySem.Str) (te tt tw tu tq) (h1 : 1 ≤ n) (h2 : n ≤ 10 ^ 9) (g1 : -30 ≤ p) (g2 : p ≤ 20) (p1 : 1 ≤ P) (p2 : P ≤ 6) (hb : false = true → 0 ≤ p) (u : UnitOK U) :
    EzC 6 news (call (.ref 233) [.int (eE n p) te, .int (n * cB p) tt, .int (eB p) tw, .str U tu, .int P tq, .bool false]) (isStr (TL n p P U false)) := by
  have r := eE_range h1 h2 g1 g2
  have bk := bkt_b (eE n p)
  have bk' := bkt_b (eE n p + 1)
  have T := top_b h1 h2 g2
  have l0 := eB_pos p
  have tb := (true_b (p := p) (k := bkt (eE n p)) h1 h2 (by omega) (by omega)).2
  have tb' := (true_b (p := p) (k := bkt (eE n p + 1)) h1 h2 (by omega) (by omega)).2
  have bd : false = true → 0 ≤ eE n p := fun h => by have := hb h; omega
  have b0 : 0 ≤ eE n p → 0 ≤ bkt (eE n p) := fun h => by rw [bk.2.2, fdiv3]; omega
  have b0' : 0 ≤ eE n p → 0 ≤ bkt (eE n p + 1) := fun h => by rw [bk'.2.2, fdiv3]; omega
  have kb : -30 ≤ bkt (eE n p) := by rw [bk.2.2, fdiv3]; omega
  have kb' : -30 ≤ bkt (eE n p + 1) := by rw [bk'.2.2, fdiv3]; omega
  have ku : bkt (eE n p) ≤ 30 := by omega
  have ku' : bkt (eE n p + 1) ≤ 30 := by omega
  obtain ⟨o3, v⟩ := nums_val (b := false) (k := bkt (eE n p)) h1 h2 g1 g2 hb (by omega) (by omega) kb (.inr (.inr rfl)) (fun h => b0 (bd h))
  obtain ⟨o4, v'⟩ := nums_val (b := false) (k := bkt (eE n p + 1)) h1 h2 g1 g2 hb (by omega) (by omega) kb' (.inr (.inr rfl)) (fun h => b0' (bd h))
  have tl : TL n p P U false = saidL (lnV false (n * cB p) (eB p) (bkt (eE n p))) (lnV false (n * cB p) (eB p) (bkt (eE n p + 1))) P (eE n p) U := by unfold TL; rw [if_neg (by omega)]
  rw [tl]
  have d0 := dgOf_b (P := P) (e := eE n p) p1 p2
  have d1 := dgOf_b (P := P) (e := eE n p + 1) p1 p2
  have rb := v.rd_b tb d0.1 d0.2
  have rb' := v'.rd_b tb' d1.1 d1.2
  rw [← v.rd.1] at rb
  rw [← v'.rd.1] at rb'
  have c1 := ln_30 (cB_pos (bkt (eE n p))) (eB_pos (bkt (eE n p))) (cB_le ku) (eB_le kb)
  have c2 := ln_30 (cB_pos (bkt (eE n p + 1))) (eB_pos (bkt (eE n p + 1))) (cB_le ku') (eB_le kb')
  have q1 := ord_pref (e := eE n p) (by omega) (by omega)
  have q2 := ord_pref (e := eE n p + 1) (by omega) (by omega)
  have fm (x : Int) : 0 ≤ x.fmod 3 ∧ x.fmod 3 ≤ 2 := by rw [fmod3]; omega
  have fj (x : Int) (h : -30 ≤ bkt x) (h' : bkt x ≤ 30) : 0 ≤ (x - x.fmod 3).fdiv 3 + 10 ∧ (x - x.fmod 3).fdiv 3 + 10 ≤ 20 := by show 0 ≤ (bkt x).fdiv 3 + 10 ∧ (bkt x).fdiv 3 + 10 ≤ 20; rw [fdiv3]; omega
  exact c_lsaidF news (eE n p) (n * cB p) (eB p) P U _ te tt tw tu tq (by omega) l0 p1 p2 r.1 r.2.1 (unit_len u) (ln_30 T.1 l0 (by omega) (eB_le g1)).1 c1.1 c2.1 o3 o4 v.sL v'.sL rb.1 rb.2 rb'.1 rb'.2
    ((sm_30 T.1 (by omega)).mono (by decide)) ((sm_30 l0 (eB_le g1)).mono (by decide)) (ln_30 T.1 l0 (by omega) (eB_le g1)).2.2.2 c1.2.2.2 c2.2.2.2 kb ku (fm _).1 (fm _).2 (fm _).1 (fm _).2 (fj _ kb ku).1 (fj _ kb ku).2 (fj _ kb' ku').1 (fj _ kb' ku').2
    (q1.1 ▸ q1.2) (q2.1 ▸ q2.2) (space_blank U _ ▸ space_len U _) (space_blank U _ ▸ space_len U _) (Nat.le_succ_of_le (laid_len rb.1 rb.2 d0.1 d0.2)) (Nat.le_succ_of_le (laid_len rb'.1 rb'.2 d1.1 d1.2)) (fun h => (if_pos h).symm) (fun h => (if_neg h).symm)
theorem t_said (news) (n p P : Int) (U : PySem.Str) (b : Bool) (te tt tw tu tq) (h1 : 0 ≤ n) (h2 : n ≤ 10 ^ 9) (g1 : -30 ≤ p) (g2 : p ≤ 20) (p1 : 1 ≤ P) (p2 : P ≤ 6) (hb : b = true → 0 ≤ p) (u : UnitOK U) :
    EzC 6 news (call (.ref 233) [.int (((PySem.Str.ofString (toString n)).length : Int) - 1 + p) te, .int (n * 10 ^ (max p 0).toNat) tt, .int (10 ^ (max (-p) 0).toNat) tw, .str U tu, .int P tq, .bool b]) (isStr (TL n p P U b)) := by
  by_cases h0 : n = 0
  · subst h0
    rw [Int.zero_mul]
    exact c_lsaidZ news _ _ P b U te tt tw tu tq p1 p2 (unit_len u)
  · cases b with
    | true => exact t_saidT news n p P U te tt tw tu tq (by omega) h2 g1 g2 p1 p2 hb u
    | false => exact t_saidF news n p P U te tt tw tu tq (by omega) h2 g1 g2 p1 p2 hb u
theorem t_m3i (news) (n p s : Int) (P : Int) (U : PySem.Str) (t) (tu tp) (hn : s = 1 ∨ (s = -1 ∧ 0 < n)) (h1 : 0 ≤ n) (h2 : n ≤ 10 ^ 9) (g1 : 0 ≤ p) (g2 : p ≤ 20) (p1 : 1 ≤ P) (p2 : P ≤ 6) (u : UnitOK U) :
    EzC 16 news (call (.ref 205) [.int (s * (n * 10 ^ (max p 0).toNat)) t, .str U tu, .int P tp]) (isStr (sgnT s ++ TL n p P U true)) := by
  have hs : s = 1 ∨ s = -1 := by omega
  by_cases h0 : n = 0
  · subst h0
    have tl : TL 0 p P U true = zeroT P U := if_pos rfl
    rw [tl]
    have hs1 : s = 1 := hn.resolve_right (by omega)
    subst hs1
    rw [Int.zero_mul, Int.mul_zero]
    exact t_met30 news _ 1 P U tu tp p1 p2 u hv_int0 (by decide) (by unfold Sm; decide)
  · exact t_met3 news _ n p s P U true tu tp hs (by omega) h2 (by omega) g2 p1 p2 (fun h => g1) u (hv_int hs (by omega) h2 g1 g2)
theorem t_m2i (news) (n p s : Int) (U : PySem.Str) (t) (tu) (hn : s = 1 ∨ (s = -1 ∧ 0 < n)) (h1 : 0 ≤ n) (h2 : n ≤ 10 ^ 9) (g1 : 0 ≤ p) (g2 : p ≤ 20) (u : UnitOK U) :
    EzC 16 news (call (.ref 205) [.int (s * (n * 10 ^ (max p 0).toNat)) t, .str U tu]) (isStr (sgnT s ++ TL n p 3 U true)) := by
  have hs : s = 1 ∨ s = -1 := by omega
  by_cases h0 : n = 0
  · subst h0
    have tl : TL 0 p 3 U true = zeroT 3 U := if_pos rfl
    rw [tl]
    have hs1 : s = 1 := hn.resolve_right (by omega)
    subst hs1
    rw [Int.zero_mul, Int.mul_zero]
    exact t_met20 news _ 1 U tu u hv_int0 (by decide) (by unfold Sm; decide)
  · exact t_met2 news _ n p s U true tu hs (by omega) h2 (by omega) g2 (fun h => g1) u (hv_int hs (by omega) h2 g1 g2)
theorem t_m3d (news) (n p s : Int) (P : Int) (U : PySem.Str) (x dx k1 k2 k3 k4 t v) (m1 : (x, instObj 109 dx) ∈ news) (m2 : (dx, dictOf [⟨k1, .str (PySem.Str.ofString "n") k2, .int (dblN (s * (n * 10 ^ (max p 0).toNat)) (10 ^ (max (-p) 0).toNat)) t⟩, ⟨k3, .str (PySem.Str.ofString "d") k4, .int (dblD (s * (n * 10 ^ (max p 0).toNat)) (10 ^ (max (-p) 0).toNat)) v⟩] 2) ∈ news) (tu tp) (hn : s = 1 ∨ (s = -1 ∧ 0 < n)) (h1 : 0 ≤ n) (h2 : n ≤ 10 ^ 9) (g1 : -30 ≤ p) (g2 : p ≤ 20) (p1 : 1 ≤ P) (p2 : P ≤ 6) (u : UnitOK U) :
    EzC 16 news (call (.ref 205) [.ref x, .str U tu, .int P tp]) (isStr (sgnT s ++ TL n p P U false)) := by
  have hs : s = 1 ∨ s = -1 := by omega
  by_cases h0 : n = 0
  · subst h0
    have tl : TL 0 p P U false = zeroT P U := if_pos rfl
    rw [tl]
    have e1 := dbl_zero (10 ^ (max (-p) 0).toNat)
    have hs1 : s = 1 := hn.resolve_right (by omega)
    subst hs1
    rw [Int.zero_mul, Int.mul_zero, e1.1, e1.2] at m2
    have hv := hv_dbl0 (eB_pos p) (eB_le g1) m1 m2
    exact t_met30 news _ _ P U tu tp p1 p2 u hv (Int.mul_pos (eB_pos p) one_one.2) (((sm_30 (eB_pos p) (eB_le g1)).mul (show Sm 60 (dblN 1 1) by unfold Sm; decide +kernel)).mono (by decide))
  · exact t_met3 news _ n p s P U false tu tp hs (by omega) h2 g1 g2 p1 p2 (fun h => absurd h (by decide)) u (hv_dbl hs (by omega) h2 g1 g2 m1 m2)
theorem t_m2d (news) (n p s : Int) (U : PySem.Str) (x dx k1 k2 k3 k4 t v) (m1 : (x, instObj 109 dx) ∈ news) (m2 : (dx, dictOf [⟨k1, .str (PySem.Str.ofString "n") k2, .int (dblN (s * (n * 10 ^ (max p 0).toNat)) (10 ^ (max (-p) 0).toNat)) t⟩, ⟨k3, .str (PySem.Str.ofString "d") k4, .int (dblD (s * (n * 10 ^ (max p 0).toNat)) (10 ^ (max (-p) 0).toNat)) v⟩] 2) ∈ news) (tu) (hn : s = 1 ∨ (s = -1 ∧ 0 < n)) (h1 : 0 ≤ n) (h2 : n ≤ 10 ^ 9) (g1 : -30 ≤ p) (g2 : p ≤ 20) (u : UnitOK U) :
    EzC 16 news (call (.ref 205) [.ref x, .str U tu]) (isStr (sgnT s ++ TL n p 3 U false)) := by
  have hs : s = 1 ∨ s = -1 := by omega
  by_cases h0 : n = 0
  · subst h0
    have tl : TL 0 p 3 U false = zeroT 3 U := if_pos rfl
    rw [tl]
    have e1 := dbl_zero (10 ^ (max (-p) 0).toNat)
    have hs1 : s = 1 := hn.resolve_right (by omega)
    subst hs1
    rw [Int.zero_mul, Int.mul_zero, e1.1, e1.2] at m2
    have hv := hv_dbl0 (eB_pos p) (eB_le g1) m1 m2
    exact t_met20 news _ _ U tu u hv (Int.mul_pos (eB_pos p) one_one.2) (((sm_30 (eB_pos p) (eB_le g1)).mul (show Sm 60 (dblN 1 1) by unfold Sm; decide +kernel)).mono (by decide))
  · exact t_met2 news _ n p s U false tu hs (by omega) h2 g1 g2 (fun h => absurd h (by decide)) u (hv_dbl hs (by omega) h2 g1 g2 m1 m2)

theorem back_cm : True := by
  w_top off
  first | walk1 | trivial
/-! scientific: the texts' facts -/
theorem exp_signs (E : Int) : (PySem.Str.ofString (toString E)).cps.toList = (if E < 0 then [45] else []) ++ digs E.natAbs := by
  by_cases h : E < 0
  · rw [if_pos h, PyProof.Rows.toString_neg h]
    have e : (0 : Int) - E = ((E.natAbs : Nat) : Int) := by omega
    rw [e, ← cps_num, signs_ofString, signs_ofString, String.toList_append, List.map_append]
    rfl
  · rw [if_neg h]
    have e : E = ((E.natAbs : Nat) : Int) := by omega
    conv => lhs; rw [e]
    rw [cps_num]
    rfl
theorem exp_text {E : Int} (h1 : -400 ≤ E) (h2 : E ≤ 400) : (∀ c ∈ (PySem.Str.ofString (toString E)).cps.toList, SupC c) ∧ 1 ≤ (PySem.Str.ofString (toString E)).length ∧ (PySem.Str.ofString (toString E)).length ≤ 100 ∧ (supT (PySem.Str.ofString (toString E)).cps.toList).length ≤ 100 := by
  have hs := exp_signs E
  have hl := len_list (PySem.Str.ofString (toString E))
  have dl : (digs E.natAbs).length ≤ 3 := by
    unfold digs
    rw [List.length_map]
    exact digits10_le (by decide) (by omega)
  have dp := digs_pos E.natAbs
  have da := digs_all E.natAbs
  have a : ∀ c ∈ (PySem.Str.ofString (toString E)).cps.toList, SupC c := by
    intro c hc
    rw [hs] at hc
    rcases List.mem_append.mp hc with hc | hc
    · split at hc
      · exact .inl (List.mem_singleton.mp hc)
      · simp at hc
    · exact .inr (da c hc)
  have ln : (PySem.Str.ofString (toString E)).cps.toList.length ≤ 4 ∧ 1 ≤ (PySem.Str.ofString (toString E)).cps.toList.length := by
    rw [hs, List.length_append]
    split <;> simp <;> omega
  refine ⟨a, by omega, by omega, ?_⟩
  rw [supT_len a]
  omega
theorem mantW_b {n d n' d' dg k : Int} (hd : 0 < d) (hd' : 0 < d') (r : n' * d = (n.natAbs : Int) * d') (g0 : 0 ≤ dg) (g1 : dg ≤ 5) (k0 : -350 ≤ k) (w : WL n' d' k) : 0 ≤ mantW n d dg k ∧ mantW n d dg k ≤ 10 ^ (dg + 1).toNat := by
  have w2 := WL_ratio hd' hd r w
  obtain ⟨h1, h2⟩ := WL_off (by omega) w2
  have e : mantW n d dg k = mantW (n.natAbs : Int) d dg k := by unfold mantW; rw [Int.natAbs_natCast]
  rw [e, mantW_off (Int.natCast_nonneg _) hd (by omega)]
  have hp := Int.mul_pos hd (ten_pos (k - dg + 400).toNat)
  refine ⟨rnd_nonneg (Int.mul_nonneg (Int.natCast_nonneg _) (Int.le_of_lt (ten_pos _))) hp, ?_⟩
  have r := (rnd_near ((n.natAbs : Int) * 10 ^ 400) (d * 10 ^ (k - dg + 400).toNat) hp).2
  rw [show (k + 401).toNat = (k - dg + 400).toNat + (dg + 1).toNat by omega, Int.pow_add, ← Int.mul_assoc] at h2
  generalize d * 10 ^ (k - dg + 400).toNat = u at *
  generalize rndI ((n.natAbs : Int) * 10 ^ 400) u = R at *
  generalize (n.natAbs : Int) * 10 ^ 400 = x at *
  generalize (10 : Int) ^ (dg + 1).toNat = T at *
  refine Int.le_of_lt_add_one (Int.lt_of_mul_lt_mul_left (a := u) ?_ (Int.le_of_lt hp))
  rw [Int.mul_add, Int.mul_one]
  omega
theorem mantV_b {n d n' d' dg k : Int} (hd : 0 < d) (hd' : 0 < d') (r : n' * d = (n.natAbs : Int) * d') (g0 : 0 ≤ dg) (g1 : dg ≤ 5) (k0 : -350 ≤ k) (w : WL n' d' k) : 0 ≤ mantV n d dg k ∧ mantV n d dg k ≤ 10 ^ 6 := by
  have b := mantW_b hd hd' r g0 g1 k0 w
  have t : (10 : Int) ^ (dg + 1).toNat ≤ 10 ^ 6 := pow10_le (by omega)
  have t2 : (10 : Int) ^ dg.toNat ≤ 10 ^ 6 := pow10_le (by omega)
  have p := ten_pos dg.toNat
  unfold mantV
  split <;> omega
theorem mantT_len {n dg v : Int} (g0 : 0 ≤ dg) (g1 : dg ≤ 5) (v0 : 0 ≤ v) (v1 : v ≤ 10 ^ 6) : (mantT n dg v).length ≤ 100 := by
  obtain ⟨m, rfl⟩ := Int.eq_ofNat_of_zero_le v0
  obtain ⟨k, rfl⟩ := Int.eq_ofNat_of_zero_le g0
  have dl : (digs m).length ≤ 10 := by
    unfold digs
    rw [List.length_map]
    exact digits10_le (by decide) (by omega)
  have dp := digs_pos m
  have z := cps_zfill m (k + 1)
  rw [Int.natCast_add] at z
  have z : (Txt.zfill (PySem.Str.ofString (toString (m : Int))) ((k : Int) + 1)).cps.toList = List.replicate (k + 1 - (digs m).length) 48 ++ digs m := z
  unfold mantT
  generalize hZ : Txt.zfill (PySem.Str.ofString (toString (m : Int))) ((k : Int) + 1) = Z at *
  have lz : Z.cps.toList.length ≤ 20 ∧ 1 ≤ Z.cps.toList.length := by
    rw [z, List.length_append, List.length_replicate]
    omega
  obtain ⟨c, l, hc⟩ : ∃ c l, Z.cps.toList = c :: l := by
    cases h : Z.cps.toList with
    | nil => rw [h] at lz; simp at lz
    | cons c l => exact ⟨c, l, rfl⟩
  have hs := slice_from (x := Z) (A := [c]) (P := l) hc (j := 1) rfl
  have ls := len_list (Txt.slice Z (some 1) none)
  rw [hs] at ls
  rw [hc, List.length_cons] at lz
  have a0 : (PySem.Str.ofString "").length = 0 := by decide +kernel
  have a1 : (PySem.Str.ofString "-").length = 1 := by decide +kernel
  have a2 : (PySem.Str.ofString ".").length = 1 := by decide +kernel
  have a3 : (Txt.item Z 0).length = 1 := rfl
  rw [PySem.Str.length_append, PySem.Str.length_append]
  split <;> split <;> (try rw [PySem.Str.length_append]) <;> omega
/-- what scientific gives: one text, one power -/
theorem sci_ex {n d dg : Int} (hd : 0 < d) (hn : n ≠ 0) (g0 : 0 ≤ dg) (g1 : dg ≤ 5) (s : Sm 900 n) (s2 : Sm 900 d) (r : dblN n.natAbs d * d = (n.natAbs : Int) * dblD n.natAbs d) :
    ∃ E T1, (∀ k, WL (dblN n.natAbs d) (dblD n.natAbs d) k → mantE n d dg k = E ∧ mantT n dg (mantV n d dg k) = T1) ∧ (∀ c ∈ (PySem.Str.ofString (toString E)).cps.toList, SupC c) ∧ 1 ≤ (PySem.Str.ofString (toString E)).length ∧ (PySem.Str.ofString (toString E)).length ≤ 100 ∧ (supT (PySem.Str.ofString (toString E)).cps.toList).length ≤ 100 ∧ T1.length ≤ 100 ∧ Sm 100 E := by
  have sn : Sm 900 ((n.natAbs : Nat) : Int) := s.natAbs
  have n1 : 0 < ((n.natAbs : Nat) : Int) := by omega
  have p1 := dblN_pos hd n1 (s2.mono (by decide))
  have p2 := dblD_pos (n := (n.natAbs : Int)) hd
  by_cases h : ∃ k, WL (dblN n.natAbs d) (dblD n.natAbs d) k
  · obtain ⟨k0, w0⟩ := h
    have kb := WL_b p2 p1 ((sn.dblN hd (by decide)).mono (by decide)) ((s2.dblD).mono (by decide)) w0
    have eb : -400 ≤ mantE n d dg k0 ∧ mantE n d dg k0 ≤ 400 := by unfold mantE; split <;> omega
    have x := exp_text eb.1 eb.2
    have mv := mantV_b hd p2 r g0 g1 kb.1 w0
    refine ⟨mantE n d dg k0, mantT n dg (mantV n d dg k0), ?_, x.1, x.2.1, x.2.2.1, x.2.2.2, mantT_len g0 g1 mv.1 mv.2, by unfold Sm; omega⟩
    intro k w
    have kb2 := WL_b p2 p1 ((sn.dblN hd (by decide)).mono (by decide)) ((s2.dblD).mono (by decide)) w
    have e := WL_one p2 (by omega) (by omega) w w0
    rw [e]
    exact ⟨rfl, rfl⟩
  · have x := exp_text (E := 0) (by decide) (by decide)
    exact ⟨0, PySem.Str.ofString "", fun k w => absurd ⟨k, w⟩ h, x.1, x.2.1, x.2.2.1, x.2.2.2, by decide +kernel, by unfold Sm; decide⟩

theorem back_cn : True := by
  w_top off
  first | walk1 | trivial
/-! the too great and the too small -/
theorem t_great (g q P : Int) (U : PySem.Str) (g1 : 1 ≤ g) (g2 : g ≤ 1000) (q1 : 33 ≤ q) (q2 : q ≤ 62) (p1 : 1 ≤ P) (p2 : P ≤ 6) (u : UnitOK U) :
    ∃ S : PySem.Str, S.length ≤ 300 ∧ (∀ news tn td tu, EzC 16 news (call (.ref 205) [.int (-(g * 10 ^ q.toNat)) tn, .str U tu, .int P td]) (isStr (S ++ U))) ∧ (∀ news tn td, EzC 14 news (call (.ref 197) [.int (-(g * 10 ^ q.toNat)) tn, .int (P - 1) td]) (isStr S)) := by
  have ex := exp_num (n := g) (p := q) g1 (by omega) (by omega) q2
  have e1 : eB q = 1 := by unfold eB; rw [show (max (-q) 0).toNat = 0 by omega, Int.pow_zero]
  have e2 : cB q = 10 ^ q.toNat := by unfold cB; rw [show max q 0 = q by omega]
  rw [e1, e2] at ex
  obtain ⟨L, l1, l2, eL, _⟩ := eE_b (n := g) (p := q) g1 (by omega)
  have t0 : 0 < g * 10 ^ q.toNat := Int.mul_pos (by omega) (ten_pos _)
  have t1 : g * 10 ^ q.toNat ≤ 1000 * 10 ^ 62 := mul_le_mul' g2 (pow10_le (by omega)) (by decide) (Int.le_of_lt (ten_pos _))
  generalize g * 10 ^ q.toNat = z at *
  have sz : Sm 220 z := by unfold Sm; omega
  have s1 : Sm 4 (1 : Int) := by unfold Sm; decide
  have q0 := dbl_neg (n := z) (d := 1) (by decide)
  have pN := dblN_pos (n := z) (d := 1) (by decide) t0 (s1.mono (by decide))
  have pD := dblD_pos (n := z) (d := 1) (by decide)
  have i := dbl_idem (n := z) (d := 1) (by decide) t0 (sz.mono (by decide)) (s1.mono (by decide))
  have sN := sz.dblN (d := 1) (by decide) (by decide)
  have sD := s1.dblD (n := z)
  have pN2 := dblN_pos pD pN (sD.mono (by decide))
  obtain ⟨E, T1, hE, x1, x2, x3, x4, x5, x6⟩ := sci_ex (n := dblN (-z) 1) (d := dblD (-z) 1) (dg := P - 1) (by rw [q0.2]; exact pD) (by rw [q0.1]; omega) (by omega) (by omega) (by rw [q0.1]; exact sN.neg.mono (by decide)) (by rw [q0.2]; exact sD.mono (by decide))
    (by rw [q0.1, q0.2, Int.natAbs_neg, Int.natAbs_of_nonneg (Int.le_of_lt pN)]; exact i)
  have sn : Sm 250 (-z) := sz.neg.mono (by decide)
  have y0 : dblN (-z) 1 ≠ 0 := by rw [q0.1]; omega
  refine ⟨sciT T1 E, sciT_len x5 x4, fun news tn td tu => ?_, fun news tn td => ?_⟩
  · refine c_met_great news (-z) P E (eE g q) T1 U tn td tu (by omega) (by omega) y0 sn p1 p2 (unit_len u) (by omega) x1 x2 x3 x4 x5 x6 hE ?_
    rw [q0.1, q0.2, Int.natAbs_neg, Int.natAbs_of_nonneg (Int.le_of_lt pN), Int.natAbs_of_nonneg (Int.le_of_lt pN2)]
    exact ex
  · exact c_sci_int news (-z) (P - 1) E T1 tn td (by omega) y0 sn (by omega) (by omega) x1 x2 x3 x4 x5 x6 hE
theorem t_small (r q P : Int) (U : PySem.Str) (r1 : 1 ≤ r) (r2 : r ≤ 9) (q1 : 31 ≤ q) (q2 : q ≤ 60) (p1 : 1 ≤ P) (p2 : P ≤ 6) (u : UnitOK U) :
    ∃ S : PySem.Str, S.length ≤ 300 ∧ (∀ news x dx h1 h2 k1 k2 t v td tu, (x, instObj 109 dx) ∈ news → (dx, dictOf [⟨h1, .str (PySem.Str.ofString "n") k1, .int (dblN r (10 ^ q.toNat)) t⟩, ⟨h2, .str (PySem.Str.ofString "d") k2, .int (dblD r (10 ^ q.toNat)) v⟩] 2) ∈ news →
      EzC 16 news (call (.ref 205) [.ref x, .str U tu, .int P td]) (isStr (S ++ U))) ∧ (∀ news x dx h1 h2 k1 k2 t v td, (x, instObj 109 dx) ∈ news → (dx, dictOf [⟨h1, .str (PySem.Str.ofString "n") k1, .int (dblN r (10 ^ q.toNat)) t⟩, ⟨h2, .str (PySem.Str.ofString "d") k2, .int (dblD r (10 ^ q.toNat)) v⟩] 2) ∈ news → EzC 14 news (call (.ref 197) [.ref x, .int (P - 1) td]) (isStr S)) := by
  have ex := exp_num (n := r) (p := -q) r1 (by omega) (by omega) (by omega)
  have e1 : cB (-q) = 1 := by unfold cB; rw [show (max (-q) 0).toNat = 0 by omega, Int.pow_zero]
  have e2 : eB (-q) = 10 ^ q.toNat := by unfold eB; rw [show max (- -q) 0 = q by omega]
  rw [e1, e2, Int.mul_one] at ex
  obtain ⟨L, l1, l2, eL, bL, _⟩ := eE_b (n := r) (p := -q) r1 (by omega)
  have hL : L = 1 := by
    have : (10 : Int) ^ (L - 1) < 10 ^ 1 := by omega
    have := pow10_lt this
    omega
  have l0 : (0 : Int) < 10 ^ q.toNat := ten_pos _
  have lq : (10 : Int) ^ q.toNat ≤ 10 ^ 60 := pow10_le (by omega)
  generalize (10 : Int) ^ q.toNat = y at *
  have sy : Sm 200 y := by unfold Sm; omega
  have sr : Sm 4 r := by unfold Sm; omega
  have pN := dblN_pos l0 (show 0 < r by omega) (sy.mono (by decide))
  have pD := dblD_pos (n := r) l0
  have i := dbl_idem l0 (show 0 < r by omega) (sr.mono (by decide)) (sy.mono (by decide))
  have sN := sr.dblN l0 (by decide)
  have sD := sy.dblD (n := r)
  have pN2 := dblN_pos pD pN (sD.mono (by decide))
  have ab : ((dblN r y).natAbs : Int) = dblN r y := Int.natAbs_of_nonneg (Int.le_of_lt pN)
  have s3 : Sm 260 (dblD (dblN r y) (dblD r y)) := by
    have c1 := (Cl.dbl l0 (show 0 < r by omega) (sy.mono (by decide))).coarse
    have c2 := (Cl.dbl pD pN (sD.mono (by decide))).coarse
    have e := dbl_near pD pN
    have a1 : dblD r y ≤ 2 * 10 ^ 60 * dblN r y := by
      have k1 : 1 * dblD r y ≤ r * dblD r y := Int.mul_le_mul_of_nonneg_right r1 (Int.le_of_lt pD)
      have k2 : dblN r y * y ≤ dblN r y * 10 ^ 60 := Int.mul_le_mul_of_nonneg_left lq (Int.le_of_lt pN)
      omega
    have pD2 := dblD_pos (n := dblN r y) pD
    have a2 : dblD (dblN r y) (dblD r y) ≤ 4 * 10 ^ 60 * dblN (dblN r y) (dblD r y) := by
      refine Int.le_of_mul_le_mul_left (a := dblN r y) ?_ pN
      have k2 := Int.mul_le_mul_of_nonneg_left a1 (Int.le_of_lt pN2)
      rw [show dblN r y * (4 * 10 ^ 60 * dblN (dblN r y) (dblD r y)) = 2 * (dblN (dblN r y) (dblD r y) * (2 * 10 ^ 60 * dblN r y)) by grind]
      omega
    have a3 : dblN (dblN r y) (dblD r y) ≤ 100 * dblD (dblN r y) (dblD r y) := by
      have k0 : dblN r y ≤ 18 * dblD r y := by
        have k1 : r * dblD r y ≤ 9 * dblD r y := Int.mul_le_mul_of_nonneg_right r2 (Int.le_of_lt pD)
        have k2 : dblN r y * 1 ≤ dblN r y * y := Int.mul_le_mul_of_nonneg_left (by omega) (Int.le_of_lt pN)
        omega
      refine Int.le_of_mul_le_mul_left (a := dblD r y) ?_ pD
      have k3 := Int.mul_le_mul_of_nonneg_right k0 (Int.le_of_lt pD2)
      rw [show 18 * dblD r y * dblD (dblN r y) (dblD r y) = 18 * (dblD r y * dblD (dblN r y) (dblD r y)) by grind] at k3
      rw [show dblD r y * (100 * dblD (dblN r y) (dblD r y)) = 100 * (dblD r y * dblD (dblN r y) (dblD r y)) by grind, Int.mul_comm (dblD r y) (dblN _ _)]
      have := Int.mul_pos pD pD2
      omega
    rw [e.1, e.2] at a2 a3
    have b := (near_small pD pN (sD.mono (by decide)) (J := 4 * 10 ^ 60) (K := 100) (by decide) a2 a3 (by decide)).1
    rw [e.2]
    have := nearD_pos (dblN r y) (dblD r y)
    unfold Sm
    omega
  obtain ⟨E, T1, hE, x1, x2, x3, x4, x5, x6⟩ := sci_ex (n := dblN r y) (d := dblD r y) (dg := P - 1) pD (by omega) (by omega) (by omega) (sN.mono (by decide)) (sD.mono (by decide)) (by rw [ab]; exact i)
  refine ⟨sciT T1 E, sciT_len x5 x4, fun news x dx h1 h2 k1 k2 t v td tu m1 m2 => ?_, fun news x dx h1 h2 k1 k2 t v td m1 m2 => ?_⟩
  · refine c_met_small news (dblN r y) (dblD r y) P E (eE r (-q)) T1 U td tu x dx h1 h2 k1 k2 t v m1 m2 pN (by omega) pD (sN.mono (by decide)) (sD.mono (by decide)) (by rw [ab]; exact s3) p1 p2 (unit_len u) (by omega) x1 x2 x3 x4 x5 x6 hE ?_
    rw [ab, Int.natAbs_of_nonneg (Int.le_of_lt pN2)]
    exact ex
  · exact c_sci_dbl news (dblN r y) (dblD r y) (P - 1) E T1 td x dx h1 h2 k1 k2 t v m1 m2 (by omega) pD (sN.mono (by decide)) (sD.mono (by decide)) (by omega) (by omega) x1 x2 x3 x4 x5 x6 hE

theorem back_co : True := by
  w_top off
  first | walk1 | trivial
/-! the law's own items: the unit, the row -/
section
variable {prog : Program} {w : World} {A : Around} {E : Value → Shared → Prop} {s : Shared} {h₀ : Heap} {L : Addr} {news : List (Addr × Obj)} {value slice : PySem.Expr} {l : Addr} {i : Int} {u : Tok} {Q : Value → Shared → Prop}
theorem unit_at {i : Int} (h0 : 0 ≤ i) (h1 : i < 7) : UnitOK ([PySem.Str.ofString "", PySem.Str.ofString "", PySem.Str.ofString "V", PySem.Str.ofString "Hz", PySem.Str.ofString "°", PySem.Str.ofString "′", PySem.Str.ofString "″"].getD i.toNat PySem.Str.empty) := by
  have h : ∀ k : Fin 7, ([PySem.Str.ofString "", PySem.Str.ofString "", PySem.Str.ofString "V", PySem.Str.ofString "Hz", PySem.Str.ofString "°", PySem.Str.ofString "′", PySem.Str.ofString "″"].getD k.val PySem.Str.empty) ∈ [PySem.Str.ofString "", PySem.Str.ofString "V", PySem.Str.ofString "Hz", PySem.Str.ofString "°", PySem.Str.ofString "′", PySem.Str.ofString "″"] := by decide +kernel
  exact h ⟨i.toNat, by omega⟩
theorem ez_unit {m : PySem.Str → Option Value} {b0 b1 b2 b3 b4 b5 b6 : Tok} (_F : Fr h₀ L s.heap m) (N : News h₀ L s.heap news) (hm : (l, ({ cls := .type "tuple", data := .seq #[.str (PySem.Str.ofString "") b0, .str (PySem.Str.ofString "") b1, .str (PySem.Str.ofString "V") b2, .str (PySem.Str.ofString "Hz") b3, .str (PySem.Str.ofString "°") b4, .str (PySem.Str.ofString "′") b5, .str (PySem.Str.ofString "″") b6] } : Obj)) ∈ news)
    (h0 : 0 ≤ i) (h1 : i < 7) (h : ∀ U t', UnitOK U → Q (.str U t') s)
    (hs : subscripted slice false (.ref l) (.int i u) = operate [.ref l, .int i u] (getItem (.ref l) (.int i u)) := by with_unfolding_all rfl) :
    wpAny (model prog w) A (subscriptTail value slice (.ref l) (.int i u)) Q E s :=
  KTb.item_tup (vs := [.str (PySem.Str.ofString "") b0, .str (PySem.Str.ofString "") b1, .str (PySem.Str.ofString "V") b2, .str (PySem.Str.ofString "Hz") b3, .str (PySem.Str.ofString "°") b4, .str (PySem.Str.ofString "′") b5, .str (PySem.Str.ofString "″") b6])
    (ws := [PySem.Str.ofString "", PySem.Str.ofString "", PySem.Str.ofString "V", PySem.Str.ofString "Hz", PySem.Str.ofString "°", PySem.Str.ofString "′", PySem.Str.ofString "″"]) ⟨_, (N _ hm).1, rfl, _, rfl⟩
    (.cons _ _ (.cons _ _ (.cons _ _ (.cons _ _ (.cons _ _ (.cons _ _ (.cons _ _ .nil))))))) h0 (by simpa using h1) (by omega) (fun t' _ => h _ t' (unit_at h0 h1)) hs
theorem ez_rowItem {m : PySem.Str → Option Value} {a0 a1 a2 a3 a4 a5 a6 a7 a8 a9 a10 a11 : Int} {t0 t1 t2 t3 t4 t5 t6 t7 t8 t9 t10 t11 : Tok} (_F : Fr h₀ L s.heap m) (N : News h₀ L s.heap news) (hm : (l, rowOf a0 a1 a2 a3 a4 a5 a6 a7 a8 a9 a10 a11 t0 t1 t2 t3 t4 t5 t6 t7 t8 t9 t10 t11) ∈ news)
    (h0 : 0 ≤ i) (h1 : i ≤ 11) (h : ∀ x t', Q (.int x t') s)
    (hs : subscripted slice false (.ref l) (.int i u) = operate [.ref l, .int i u] (getItem (.ref l) (.int i u)) := by with_unfolding_all rfl) :
    wpAny (model prog w) A (subscriptTail value slice (.ref l) (.int i u)) Q E s := by
  have key : ∀ j : Nat, j < 12 → ∃ x t', [Value.int a0 t0, .int a1 t1, .int a2 t2, .int a3 t3, .int a4 t4, .int a5 t5, .int a6 t6, .int a7 t7, .int a8 t8, .int a9 t9, .int a10 t10, .int a11 t11][j]? = some (.int x t') := by
    intro j hj
    have : j = 0 ∨ j = 1 ∨ j = 2 ∨ j = 3 ∨ j = 4 ∨ j = 5 ∨ j = 6 ∨ j = 7 ∨ j = 8 ∨ j = 9 ∨ j = 10 ∨ j = 11 := by omega
    rcases this with rfl | rfl | rfl | rfl | rfl | rfl | rfl | rfl | rfl | rfl | rfl | rfl <;> exact ⟨_, _, rfl⟩
  obtain ⟨x, t', hx⟩ := key i.toNat (by omega)
  have hl : s.heap.IsList l #[Value.int a0 t0, .int a1 t1, .int a2 t2, .int a3 t3, .int a4 t4, .int a5 t5, .int a6 t6, .int a7 t7, .int a8 t8, .int a9 t9, .int a10 t10, .int a11 t11] := ⟨_, (N _ hm).1, rfl, _, rfl⟩
  exact tail_any hl.typeIs slot_list_getitem.lookup (wpAny_getItem_list hl h0 (by omega) (by simpa using hx) (h x t')) hs
end
theorem back_cp : True := by
  w_top off
  first | walk1 | trivial

theorem back_cq : True := by
  w_top off
  first | walk1 | trivial
/-! the law's loop and its joins -/
section
variable {prog : Program} {w : World} {A : Around} {E : Value → Shared → Prop} {h₀ : Heap} {env : Env} {target : PySem.Expr} {body : List Stmt} {Q : Flow → Shared → Prop} {s : Shared} {I ax D L : Addr} {P : Int} {tP tU b1 b2 b3 : Tok} {U : PySem.Str} {lo ro : Obj} {m0 : PySem.Str → Option Value} {news : List (Addr × Obj)}
structure TurnEnd (h₀ : Heap) (L : Addr) (P : Int) (tP : Tok) (U : PySem.Str) (tU : Tok) (D : Addr) (all : List (Addr × Obj)) (s₁ : Shared) (f : Flow) (s' : Shared) : Prop where
  next : f = .next
  here : ∃ h' tk' m', s' = { s₁ with heap := h', toks := tk' } ∧ Fr h₀ L h' m' ∧ m' (PySem.Str.ofString "precision") = some (.int P tP) ∧ m' (PySem.Str.ofString "unit") = some (.str U tU) ∧ m' (PySem.Str.ofString "row") = some (.ref D) ∧ News h₀ L h' all
theorem TurnEnd.intro {h' : Heap} {tk' : Nat} {m' : PySem.Str → Option Value} {all new : List (Addr × Obj)} {s₁ : Shared} (F : Fr h₀ L h' m') (N : News h₀ L h' new) (hs : ∀ p ∈ all, p ∈ new) (h1 : m' (PySem.Str.ofString "precision") = some (.int P tP)) (h2 : m' (PySem.Str.ofString "unit") = some (.str U tU)) (h3 : m' (PySem.Str.ofString "row") = some (.ref D)) :
    TurnEnd h₀ L P tP U tU D all s₁ .next { s₁ with heap := h', toks := tk' } := ⟨rfl, h', tk', m', rfl, F, h1, h2, h3, news_drop N hs⟩
theorem lawM_eq {m' : PySem.Str → Option Value} (h1 : m' (PySem.Str.ofString "precision") = some (.int P tP)) (h2 : m' (PySem.Str.ofString "unit") = some (.str U tU)) (h3 : m' (PySem.Str.ofString "row") = some (.ref D)) : (fun y => if y = PySem.Str.ofString "precision" then some (.int P tP) else if y = PySem.Str.ofString "unit" then some (.str U tU) else if y = PySem.Str.ofString "row" then some (.ref D) else m' y) = m' := by
  funext y
  by_cases c1 : y = PySem.Str.ofString "precision"
  · rw [if_pos c1, c1, h1]
  · rw [if_neg c1]
    by_cases c2 : y = PySem.Str.ofString "unit"
    · rw [if_pos c2, c2, h2]
    · rw [if_neg c2]
      by_cases c3 : y = PySem.Str.ofString "row"
      · rw [if_pos c3, c3, h3]
      · rw [if_neg c3]
def TurnH (prog : Program) (w : World) (A : Around) (E : Value → Shared → Prop) (h₀ : Heap) (env : Env) (target : PySem.Expr) (body : List Stmt) (s : Shared) (I ax D : Addr) (P : Int) (tP tU : Tok) (U : PySem.Str) (lo ro : Obj) : Prop :=
  ∀ (kk : Int) (tk0 : Tok) (m0 : PySem.Str → Option Value) (h : Heap) (tk : Nat) (o : Obj), (1 ≤ kk ∧ kk ≤ 7) → Fr h₀ env.locals h (fun y => if y = PySem.Str.ofString "precision" then some (.int P tP) else if y = PySem.Str.ofString "unit" then some (.str U tU) else if y = PySem.Str.ofString "row" then some (.ref D) else m0 y) → News h₀ env.locals h [(I, o), (ax, lo), (D, ro)] →
    wpAny (model prog w) A (assign target env (.int kk tk0)) (fun _ s₂ => wpAny (model prog w) A (execs body env) (TurnEnd h₀ env.locals P tP U tU D [(I, o), (ax, lo), (D, ro)] { s with heap := h, toks := tk }) E s₂) E { s with heap := h, toks := tk }
theorem turn_post {s₁ : Shared} {o : Obj} {f : Flow} {s' : Shared} {R : (PySem.Str → Option Value) → List (Addr × Obj) → Prop} (hD : @LT.lt Nat _ D I) (hax : @LT.lt Nat _ ax I)
    (t : TurnEnd h₀ L P tP U tU D [(I, o), (ax, lo), (D, ro)] s₁ f s') (r : ∀ m' : PySem.Str → Option Value, R (fun y => if y = PySem.Str.ofString "precision" then some (.int P tP) else if y = PySem.Str.ofString "unit" then some (.str U tU) else if y = PySem.Str.ofString "row" then some (.ref D) else m' y) [(ax, lo), (D, ro)]) : UnrPostW h₀ L s₁ [(I, o)] (fun m' n' => SubL [(ax, lo)] n' ∧ R m' n') Q f s' := by
  obtain ⟨rfl, h', tk', m', rfl, F, h1, h2, h3, N⟩ := t
  refine ⟨h', tk', m', [(ax, lo), (D, ro)], rfl, F, N, ?_, ⟨List.mem_cons_self .., trivial⟩, ?_⟩
  · intro p hp q hq
    rw [List.mem_singleton.mp hq]
    rcases List.mem_cons.mp hp with rfl | hp
    · exact Nat.ne_of_lt hax
    · rw [List.mem_singleton.mp hp]; exact Nat.ne_of_lt hD
  · have := r m'
    rwa [lawM_eq h1 h2 h3] at this
theorem items3 (hr : (D, ro) ∈ news) (hx : (ax, lo) ∈ news) (hI : ∀ p ∈ news, @LT.lt Nat _ p.1 I) (H : TurnH prog w A E h₀ env target body s I ax D P tP tU U lo ro)
    (fin : ∀ (m0 : PySem.Str → Option Value) h tk, Fr h₀ env.locals h (fun y => if y = PySem.Str.ofString "precision" then some (.int P tP) else if y = PySem.Str.ofString "unit" then some (.str U tU) else if y = PySem.Str.ofString "row" then some (.ref D) else m0 y) → News h₀ env.locals h [(ax, lo), (D, ro)] → Q .next { s with heap := h, toks := tk }) :
    ItemsRest prog w A E h₀ env target body Q s [(I, "tuple_iterator")] [(ax, lo)] [.val (.int 1 b1), .val (.int 4 b2), .val (.int 7 b3)] (fun y => if y = PySem.Str.ofString "precision" then some (.int P tP) else if y = PySem.Str.ofString "unit" then some (.str U tU) else if y = PySem.Str.ofString "row" then some (.ref D) else m0 y) news := by
  have hD := hI _ hr
  have hax := hI _ hx
  have one : ∀ (kk : Int) (b : Tok) (r : List Itm) (m0 : PySem.Str → Option Value) (nw : List (Addr × Obj)), (1 ≤ kk ∧ kk ≤ 7) → (D, ro) ∈ nw → (ax, lo) ∈ nw → (∀ m' : PySem.Str → Option Value, ItemsRest prog w A E h₀ env target body Q s [(I, "tuple_iterator")] [(ax, lo)] r (fun y => if y = PySem.Str.ofString "precision" then some (.int P tP) else if y = PySem.Str.ofString "unit" then some (.str U tU) else if y = PySem.Str.ofString "row" then some (.ref D) else m' y) [(ax, lo), (D, ro)]) →
      ItemsRest prog w A E h₀ env target body Q s [(I, "tuple_iterator")] [(ax, lo)] (.val (.int kk b) :: r) (fun y => if y = PySem.Str.ofString "precision" then some (.int P tP) else if y = PySem.Str.ofString "unit" then some (.str U tU) else if y = PySem.Str.ofString "row" then some (.ref D) else m0 y) nw := by
    intro kk b r m0 nw hk g1 g2 rest
    refine ItemsRest.val fun h tk F => AllObj.cons fun o _ => AllObj.nil fun N => ?_
    have N' : News h₀ env.locals h [(I, o), (ax, lo), (D, ro)] := by
      refine news_drop N fun p hp => ?_
      rcases List.mem_cons.mp hp with rfl | hp
      · exact List.mem_append_left _ (List.mem_cons_self ..)
      · rcases List.mem_cons.mp hp with rfl | hp
        · exact List.mem_append_right _ g2
        · rw [List.mem_singleton.mp hp]; exact List.mem_append_right _ g1
    refine wpAny_mono (H kk b m0 h tk o hk F N') (fun _ s₂ h₂ => wpAny_mono h₂ (fun f s₃ t => ?_) fun _ _ e => e) fun _ _ e => e
    exact turn_post hD hax t rest
  have z : ∀ m' : PySem.Str → Option Value, ItemsRest prog w A E h₀ env target body Q s [(I, "tuple_iterator")] [(ax, lo)] [] (fun y => if y = PySem.Str.ofString "precision" then some (.int P tP) else if y = PySem.Str.ofString "unit" then some (.str U tU) else if y = PySem.Str.ofString "row" then some (.ref D) else m' y) [(ax, lo), (D, ro)] := fun m' => ItemsRest.zero fun h tk F N => fin m' h tk F N
  have mD : (D, ro) ∈ [(ax, lo), (D, ro)] := List.mem_cons_of_mem _ (List.mem_cons_self ..)
  have mx : (ax, lo) ∈ [(ax, lo), (D, ro)] := List.mem_cons_self ..
  exact one 1 b1 _ m0 _ (by decide) hr hx fun m1 => one 4 b2 _ m1 _ (by decide) mD mx fun m2 => one 7 b3 _ m2 _ (by decide) mD mx z
theorem for3 (hh : A.handled = none) (F : Fr h₀ env.locals s.heap (fun y => if y = PySem.Str.ofString "precision" then some (.int P tP) else if y = PySem.Str.ofString "unit" then some (.str U tU) else if y = PySem.Str.ofString "row" then some (.ref D) else m0 y)) (N : News h₀ env.locals s.heap news) (hm : (ax, ({ cls := .type "tuple", data := .seq #[.int 1 b1, .int 4 b2, .int 7 b3] } : Obj)) ∈ news) (hr : (D, ro) ∈ news)
    (H : Later (∀ I, (∀ p ∈ news, @LT.lt Nat _ p.1 I) → TurnH prog w A E h₀ env target body s I ax D P tP tU U { cls := .type "tuple", data := .seq #[.int 1 b1, .int 4 b2, .int 7 b3] } ro))
    (fin : ∀ (m0 : PySem.Str → Option Value) h tk, Fr h₀ env.locals h (fun y => if y = PySem.Str.ofString "precision" then some (.int P tP) else if y = PySem.Str.ofString "unit" then some (.str U tU) else if y = PySem.Str.ofString "row" then some (.ref D) else m0 y) → News h₀ env.locals h [(ax, { cls := .type "tuple", data := .seq #[.int 1 b1, .int 4 b2, .int 7 b3] }), (D, ro)] → Q .next { s with heap := h, toks := tk }) :
    wpAny (model prog w) A (pyIter (.ref ax)) (fun it s₂ => TurnsAt prog w A h₀ env target body Q E it s₂) E s :=
  iter_tupTurns (vs := [.int 1 b1, .int 4 b2, .int 7 b3]) hh F N hm rfl rfl fun I hI => items3 hr hm hI (H.now I hI) fin
end
theorem back_cr : True := by
  w_top off
  first | walk1 | trivial
/-! joins of a turn -/
def isRng (lo hi : Int) (v : Value) (new : List (Addr × Obj)) : Prop := new = [] ∧ ∃ x t, v = .int x t ∧ lo ≤ x ∧ x ≤ hi
theorem isRng.mk {lo hi x : Int} {t : Tok} (h : lo ≤ x ∧ x ≤ hi) : isRng lo hi (.int x t) [] := ⟨rfl, x, t, rfl, h⟩
def isSgn (n : Int) (v : Value) (new : List (Addr × Obj)) : Prop := new = [] ∧ ∃ x t, v = .int x t ∧ (x = 1 ∨ (x = -1 ∧ 0 < n))
theorem isSgn.mk {n x : Int} {t : Tok} (h : x = 1 ∨ (x = -1 ∧ 0 < n)) : isSgn n (.int x t) [] := ⟨rfl, x, t, rfl, h⟩
def isWhl (p : Int) (v : Value) (new : List (Addr × Obj)) : Prop := new = [] ∧ ∃ b, v = .bool b ∧ (b = true → 0 ≤ p)
theorem isWhl.mk {p : Int} {b : Bool} (h : b = true → 0 ≤ p) : isWhl p (.bool b) [] := ⟨rfl, b, rfl, h⟩
section
variable {h₀ : Heap} {L : Addr} {m : PySem.Str → Option Value} {news : List (Addr × Obj)} {M : Model} {A : Around} {s : Shared} {t : Sem Value} {Q Ex : Value → Shared → Prop}
theorem cut_rng (lo hi : Int) (_F : Fr h₀ L s.heap m) (_N : News h₀ L s.heap news) (h1 : wpAny M A t (CutV (isRng lo hi) h₀ L m news s) Ex s)
    (h2 : ∀ x t h' tk', lo ≤ x → x ≤ hi → Fr h₀ L h' m → News h₀ L h' news → Q (.int x t) { s with heap := h', toks := tk' }) : wpAny M A t Q Ex s := by
  refine wpAny_mono h1 (fun v s' c => ?_) fun _ _ h => h
  obtain ⟨new, h', tk', ⟨rfl, x, t, rfl, a, b⟩, _, rfl, F', N'⟩ := c.here
  exact h2 x t h' tk' a b F' N'
theorem cut_sgn {n : Int} {tn : Tok} (_hn : m (PySem.Str.ofString "n") = some (.int n tn)) (_F : Fr h₀ L s.heap m) (_N : News h₀ L s.heap news) (h1 : wpAny M A t (CutV (isSgn n) h₀ L m news s) Ex s)
    (h2 : ∀ x t h' tk', (x = 1 ∨ (x = -1 ∧ 0 < n)) → Fr h₀ L h' m → News h₀ L h' news → Q (.int x t) { s with heap := h', toks := tk' }) : wpAny M A t Q Ex s := by
  refine wpAny_mono h1 (fun v s' c => ?_) fun _ _ h => h
  obtain ⟨new, h', tk', ⟨rfl, x, t, rfl, a⟩, _, rfl, F', N'⟩ := c.here
  exact h2 x t h' tk' a F' N'
theorem cut_whl {p : Int} {tp : Tok} (_hp : m (PySem.Str.ofString "power") = some (.int p tp)) (_F : Fr h₀ L s.heap m) (_N : News h₀ L s.heap news) (h1 : wpAny M A t (CutV (isWhl p) h₀ L m news s) Ex s)
    (h2 : ∀ b h' tk', (b = true → 0 ≤ p) → Fr h₀ L h' m → News h₀ L h' news → Q (.bool b) { s with heap := h', toks := tk' }) : wpAny M A t Q Ex s := by
  refine wpAny_mono h1 (fun v s' c => ?_) fun _ _ h => h
  obtain ⟨new, h', tk', ⟨rfl, b, rfl, a⟩, _, rfl, F', N'⟩ := c.here
  exact h2 b h' tk' a F' N'
theorem cut_sgnT {x : Int} {tx : Tok} (_hx : m (PySem.Str.ofString "sign") = some (.int x tx)) (F : Fr h₀ L s.heap m) (N : News h₀ L s.heap news) (h1 : wpAny M A t (CutV (isStr (sgnT x)) h₀ L m news s) Ex s)
    (h2 : ∀ t h' tk', Fr h₀ L h' m → News h₀ L h' news → Q (.str (sgnT x) t) { s with heap := h', toks := tk' }) : wpAny M A t Q Ex s := cut_strV F N h1 h2
theorem cut_n {st : Stmt} {env : Env} {Q : Flow → Shared → Prop} {n : Int} {tn : Tok} (hn : m (PySem.Str.ofString "n") = some (.int n tn)) (_F : Fr h₀ L s.heap m) (_N : News h₀ L s.heap news) (h1 : wpAny M A (exec st env) (CutS (PySem.Str.ofString "n") (isRng 0 1000000000) h₀ L m news s) Ex s)
    (h2 : ∀ x t h' tk', 0 ≤ x → x ≤ 1000000000 → Fr h₀ L h' (fun y => if y = PySem.Str.ofString "n" then some (.int x t) else m y) → News h₀ L h' news → Q .next { s with heap := h', toks := tk' }) : wpAny M A (exec st env) Q Ex s := by
  refine wpAny_mono h1 (fun v s' c => ?_) fun _ _ h => h
  obtain ⟨rfl, v, new, h', tk', ⟨rfl, x, t, rfl, a, b⟩, _, rfl, F', N'⟩ := c
  exact h2 x t h' tk' a b F' N'
theorem CutS.stay {x : PySem.Str} {v : Value} {W : Value → List (Addr × Obj) → Prop} (hx : m x = some v) (h' : Heap) (tk' : Nat) (F : Fr h₀ L h' m) (N : News h₀ L h' news) (hW : W v []) : CutS x W h₀ L m news s .next { s with heap := h', toks := tk' } := by
  refine ⟨rfl, ⟨v, [], h', tk', hW, ord_nil, rfl, ?_, N⟩⟩
  have e : (fun y => if y = x then some v else m y) = m := by
    funext y
    by_cases c : y = x
    · rw [if_pos c, c, hx]
    · rw [if_neg c]
  rw [e]
  exact F
structure CutN (h₀ : Heap) (L : Addr) (m : PySem.Str → Option Value) (news : List (Addr × Obj)) (s : Shared) (f : Flow) (s' : Shared) : Prop where
  next : f = .next
  here : ∃ h' tk', s' = { s with heap := h', toks := tk' } ∧ Fr h₀ L h' m ∧ News h₀ L h' news
theorem CutN.intro {h' : Heap} {tk' : Nat} (F : Fr h₀ L h' m) (N : News h₀ L h' news) : CutN h₀ L m news s .next { s with heap := h', toks := tk' } := ⟨rfl, h', tk', rfl, F, N⟩
theorem cut_none {st : Stmt} {env : Env} {Q : Flow → Shared → Prop} (_F : Fr h₀ L s.heap m) (_N : News h₀ L s.heap news) (h1 : wpAny M A (exec st env) (CutN h₀ L m news s) Ex s)
    (h2 : ∀ h' tk', Fr h₀ L h' m → News h₀ L h' news → Q .next { s with heap := h', toks := tk' }) : wpAny M A (exec st env) Q Ex s := by
  refine wpAny_mono h1 (fun v s' c => ?_) fun _ _ h => h
  obtain ⟨rfl, h', tk', rfl, F', N'⟩ := c
  exact h2 h' tk' F' N'
end
theorem back_cs : True := by
  w_top off
  first | walk1 | trivial
theorem ite_sself {x y : PySem.Str} {a b : Prop} (hc : x = y) (h : b) : if (x != y) = true then a else b := by rw [if_neg (by simpa using hc)]; exact h
theorem n_two {n : Int} : 0 ≤ 10 ^ (n.fmod 9 + 1).toNat - (n.fdiv 9).fmod 3 ∧ 10 ^ (n.fmod 9 + 1).toNat - (n.fdiv 9).fmod 3 ≤ 1000000000 := by
  have h1 := Int.fmod_nonneg_of_pos n (b := 9) (by decide)
  have h2 := Int.fmod_lt_of_pos n (b := 9) (by decide)
  have h3 := Int.fmod_nonneg_of_pos (n.fdiv 9) (b := 3) (by decide)
  have h4 := Int.fmod_lt_of_pos (n.fdiv 9) (b := 3) (by decide)
  have a : (10 : Int) ^ 1 ≤ 10 ^ (n.fmod 9 + 1).toNat := pow10_le (by omega)
  have b : (10 : Int) ^ (n.fmod 9 + 1).toNat ≤ 10 ^ 9 := pow10_le (by omega)
  omega
theorem n_three {n P : Int} (p1 : 1 ≤ P) (p2 : P ≤ 6) : 0 ≤ (n.fmod 9 + 1) * 10 ^ P.toNat + (n.fdiv 9).fmod (10 ^ (P - 1).toNat) * 10 + 5 ∧ (n.fmod 9 + 1) * 10 ^ P.toNat + (n.fdiv 9).fmod (10 ^ (P - 1).toNat) * 10 + 5 ≤ 1000000000 := by
  have h1 := Int.fmod_nonneg_of_pos n (b := 9) (by decide)
  have h2 := Int.fmod_lt_of_pos n (b := 9) (by decide)
  have h3 := Int.fmod_nonneg_of_pos (n.fdiv 9) (b := 10 ^ (P - 1).toNat) (ten_pos _)
  have h4 := Int.fmod_lt_of_pos (n.fdiv 9) (b := 10 ^ (P - 1).toNat) (ten_pos _)
  have a : (10 : Int) ^ P.toNat ≤ 10 ^ 6 := pow10_le (by omega)
  have b : (10 : Int) ^ (P - 1).toNat ≤ 10 ^ 5 := pow10_le (by omega)
  have c := Int.mul_nonneg (show 0 ≤ n.fmod 9 + 1 by omega) (Int.le_of_lt (ten_pos P.toNat))
  have d : (n.fmod 9 + 1) * 10 ^ P.toNat ≤ 9 * 10 ^ 6 := mul_le_mul' (by omega) a (by decide) (Int.le_of_lt (ten_pos _))
  omega
theorem n_zero {x : Int} : 0 ≤ ((x.natAbs : Nat) : Int).fmod 1000000000 ∧ ((x.natAbs : Nat) : Int).fmod 1000000000 ≤ 1000000000 := by
  have h1 := Int.fmod_nonneg_of_pos ((x.natAbs : Nat) : Int) (b := 1000000000) (by decide)
  have h2 := Int.fmod_lt_of_pos ((x.natAbs : Nat) : Int) (b := 1000000000) (by decide)
  omega

theorem back_ct : True := by
  w_top off
  first | walk1 | trivial
/-! lengths, the ends' texts, small rules -/
theorem zero_len : ∀ i : Fin 6, ∀ U ∈ [PySem.Str.ofString "", PySem.Str.ofString "V", PySem.Str.ofString "Hz", PySem.Str.ofString "°", PySem.Str.ofString "′", PySem.Str.ofString "″"], (zeroT ((i.val : Int) + 1) U).length ≤ 200 := by decide +kernel
theorem part_len {P e m : Int} {U : PySem.Str} (u : UnitOK U) (p1 : 1 ≤ P) (p2 : P ≤ 6) (e1 : -30 ≤ e) (e2 : e ≤ 30) (m0 : 0 ≤ m) (m1 : m < 10 ^ 20) : (partT P U e m).length ≤ 200 := by
  have d := dgOf_b (P := P) (e := e) p1 p2
  have a := laid_len m0 m1 d.1 d.2
  have b := unit_len u
  have c := ord_pref e1 e2
  have c2 := c.2
  rw [c.1] at c2
  have f := space_len U (prefT e)
  rw [space_blank] at f
  unfold partT
  rw [PySem.Str.length_append, PySem.Str.length_append, PySem.Str.length_append]
  omega
theorem TL_len {n p P : Int} {U : PySem.Str} {b : Bool} (h1 : 0 ≤ n) (h2 : n ≤ 10 ^ 9) (g1 : -30 ≤ p) (g2 : p ≤ 20) (p1 : 1 ≤ P) (p2 : P ≤ 6) (hb : b = true → 0 ≤ p) (u : UnitOK U) : (TL n p P U b).length ≤ 200 := by
  by_cases h0 : n = 0
  · unfold TL
    rw [if_pos h0]
    have := zero_len ⟨(P - 1).toNat, by omega⟩ U u
    rw [show (((P - 1).toNat : Nat) : Int) + 1 = P by omega] at this
    exact this
  · have h1 : 1 ≤ n := by omega
    have r := eE_range h1 h2 g1 g2
    have bk := bkt_b (eE n p)
    have bk' := bkt_b (eE n p + 1)
    have tb := (true_b (p := p) (k := bkt (eE n p)) h1 h2 (by omega) (by omega)).2
    have tb' := (true_b (p := p) (k := bkt (eE n p + 1)) h1 h2 (by omega) (by omega)).2
    have bd : b = true → 0 ≤ eE n p := fun h => by have := hb h; omega
    have b0 : 0 ≤ eE n p → 0 ≤ bkt (eE n p) := fun h => by rw [bk.2.2, fdiv3]; omega
    have b0' : 0 ≤ eE n p → 0 ≤ bkt (eE n p + 1) := fun h => by rw [bk'.2.2, fdiv3]; omega
    have kb : -30 ≤ bkt (eE n p) := by rw [bk.2.2, fdiv3]; omega
    have kb' : -30 ≤ bkt (eE n p + 1) := by rw [bk'.2.2, fdiv3]; omega
    have v := (nums_val (b := b) (k := bkt (eE n p)) h1 h2 g1 g2 hb (by omega) (by omega) kb (by cases b with | false => exact .inr (.inr rfl) | true => exact .inr (.inl (b0 (bd rfl)))) (fun h => b0 (bd h))).2
    have v' := (nums_val (b := b) (k := bkt (eE n p + 1)) h1 h2 g1 g2 hb (by omega) (by omega) kb' (by cases b with | false => exact .inr (.inr rfl) | true => exact .inr (.inl (b0' (bd rfl)))) (fun h => b0' (bd h))).2
    have d0 := dgOf_b (P := P) (e := eE n p) p1 p2
    have d1 := dgOf_b (P := P) (e := eE n p + 1) p1 p2
    have rb := v.rd_b tb d0.1 d0.2
    have rb' := v'.rd_b tb' d1.1 d1.2
    rw [← v.rd.1] at rb
    rw [← v'.rd.1] at rb'
    unfold TL
    rw [if_neg h0]
    unfold saidL
    split
    · exact part_len u p1 p2 (by omega) (by omega) rb.1 rb.2
    · exact part_len u p1 p2 (by omega) (by omega) rb'.1 rb'.2
theorem sgnT_len (s : Int) : (sgnT s).length ≤ 1 := by
  unfold sgnT
  have a : (PySem.Str.ofString "").length = 0 := by decide +kernel
  have b : (PySem.Str.ofString "-").length = 1 := by decide +kernel
  split <;> omega
theorem sgn_TL {s n p P : Int} {U : PySem.Str} {b : Bool} (h1 : 0 ≤ n) (h2 : n ≤ 1000000000) (g1 : -30 ≤ p) (g2 : p ≤ 20) (p1 : 1 ≤ P) (p2 : P ≤ 6) (hb : b = true → 0 ≤ p) (u : UnitOK U) : (sgnT s).length + (TL n p P U b).length ≤ sizeLine := by
  have := TL_len (b := b) h1 (by omega) g1 g2 p1 p2 hb u
  have := sgnT_len s
  rw [PySem.sizeLine_eq]
  omega
noncomputable def greatS (g q P : Int) (U : PySem.Str) : PySem.Str := Classical.epsilon fun S : PySem.Str => S.length ≤ 300 ∧ (∀ news tn td tu, EzC 16 news (call (.ref 205) [.int (-(g * 10 ^ q.toNat)) tn, .str U tu, .int P td]) (isStr (S ++ U))) ∧ (∀ news tn td, EzC 14 news (call (.ref 197) [.int (-(g * 10 ^ q.toNat)) tn, .int (P - 1) td]) (isStr S))
theorem great_all {g q P : Int} {U : PySem.Str} (g1 : 1 ≤ g) (g2 : g ≤ 1000) (q1 : 33 ≤ q) (q2 : q ≤ 62) (p1 : 1 ≤ P) (p2 : P ≤ 6) (u : UnitOK U) : (greatS g q P U).length ≤ 300 ∧ (∀ news tn td tu, EzC 16 news (call (.ref 205) [.int (-(g * 10 ^ q.toNat)) tn, .str U tu, .int P td]) (isStr (greatS g q P U ++ U))) ∧ (∀ news tn td, EzC 14 news (call (.ref 197) [.int (-(g * 10 ^ q.toNat)) tn, .int (P - 1) td]) (isStr (greatS g q P U))) :=
  Classical.epsilon_spec (p := fun S : PySem.Str => S.length ≤ 300 ∧ (∀ news tn td tu, EzC 16 news (call (.ref 205) [.int (-(g * 10 ^ q.toNat)) tn, .str U tu, .int P td]) (isStr (S ++ U))) ∧ (∀ news tn td, EzC 14 news (call (.ref 197) [.int (-(g * 10 ^ q.toNat)) tn, .int (P - 1) td]) (isStr S))) (t_great g q P U g1 g2 q1 q2 p1 p2 u)
theorem great_m (news) (g q P : Int) (U : PySem.Str) (tn td tu) (g1 : 1 ≤ g) (g2 : g ≤ 1000) (q1 : 33 ≤ q) (q2 : q ≤ 62) (p1 : 1 ≤ P) (p2 : P ≤ 6) (u : UnitOK U) : EzC 16 news (call (.ref 205) [.int (-(g * 10 ^ q.toNat)) tn, .str U tu, .int P td]) (isStr (greatS g q P U ++ U)) := (great_all g1 g2 q1 q2 p1 p2 u).2.1 news tn td tu
theorem great_s (news) (g q P : Int) (U : PySem.Str) (tn td) (g1 : 1 ≤ g) (g2 : g ≤ 1000) (q1 : 33 ≤ q) (q2 : q ≤ 62) (p1 : 1 ≤ P) (p2 : P ≤ 6) (u : UnitOK U) : EzC 14 news (call (.ref 197) [.int (-(g * 10 ^ q.toNat)) tn, .int (P - 1) td]) (isStr (greatS g q P U)) := (great_all g1 g2 q1 q2 p1 p2 u).2.2 news tn td
noncomputable def smallS (r q P : Int) (U : PySem.Str) : PySem.Str := Classical.epsilon fun S : PySem.Str => S.length ≤ 300 ∧ (∀ news x dx h1 h2 k1 k2 t v td tu, (x, instObj 109 dx) ∈ news → (dx, dictOf [⟨h1, .str (PySem.Str.ofString "n") k1, .int (dblN r (10 ^ q.toNat)) t⟩, ⟨h2, .str (PySem.Str.ofString "d") k2, .int (dblD r (10 ^ q.toNat)) v⟩] 2) ∈ news →
      EzC 16 news (call (.ref 205) [.ref x, .str U tu, .int P td]) (isStr (S ++ U))) ∧ (∀ news x dx h1 h2 k1 k2 t v td, (x, instObj 109 dx) ∈ news → (dx, dictOf [⟨h1, .str (PySem.Str.ofString "n") k1, .int (dblN r (10 ^ q.toNat)) t⟩, ⟨h2, .str (PySem.Str.ofString "d") k2, .int (dblD r (10 ^ q.toNat)) v⟩] 2) ∈ news → EzC 14 news (call (.ref 197) [.ref x, .int (P - 1) td]) (isStr S))
theorem small_all {r q P : Int} {U : PySem.Str} (r1 : 1 ≤ r) (r2 : r ≤ 9) (q1 : 31 ≤ q) (q2 : q ≤ 60) (p1 : 1 ≤ P) (p2 : P ≤ 6) (u : UnitOK U) : (smallS r q P U).length ≤ 300 ∧ (∀ news x dx h1 h2 k1 k2 t v td tu, (x, instObj 109 dx) ∈ news → (dx, dictOf [⟨h1, .str (PySem.Str.ofString "n") k1, .int (dblN r (10 ^ q.toNat)) t⟩, ⟨h2, .str (PySem.Str.ofString "d") k2, .int (dblD r (10 ^ q.toNat)) v⟩] 2) ∈ news →
      EzC 16 news (call (.ref 205) [.ref x, .str U tu, .int P td]) (isStr (smallS r q P U ++ U))) ∧ (∀ news x dx h1 h2 k1 k2 t v td, (x, instObj 109 dx) ∈ news → (dx, dictOf [⟨h1, .str (PySem.Str.ofString "n") k1, .int (dblN r (10 ^ q.toNat)) t⟩, ⟨h2, .str (PySem.Str.ofString "d") k2, .int (dblD r (10 ^ q.toNat)) v⟩] 2) ∈ news → EzC 14 news (call (.ref 197) [.ref x, .int (P - 1) td]) (isStr (smallS r q P U))) :=
  Classical.epsilon_spec (p := fun S : PySem.Str => S.length ≤ 300 ∧ (∀ news x dx h1 h2 k1 k2 t v td tu, (x, instObj 109 dx) ∈ news → (dx, dictOf [⟨h1, .str (PySem.Str.ofString "n") k1, .int (dblN r (10 ^ q.toNat)) t⟩, ⟨h2, .str (PySem.Str.ofString "d") k2, .int (dblD r (10 ^ q.toNat)) v⟩] 2) ∈ news →
      EzC 16 news (call (.ref 205) [.ref x, .str U tu, .int P td]) (isStr (S ++ U))) ∧ (∀ news x dx h1 h2 k1 k2 t v td, (x, instObj 109 dx) ∈ news → (dx, dictOf [⟨h1, .str (PySem.Str.ofString "n") k1, .int (dblN r (10 ^ q.toNat)) t⟩, ⟨h2, .str (PySem.Str.ofString "d") k2, .int (dblD r (10 ^ q.toNat)) v⟩] 2) ∈ news → EzC 14 news (call (.ref 197) [.ref x, .int (P - 1) td]) (isStr S))) (t_small r q P U r1 r2 q1 q2 p1 p2 u)
theorem small_m (news) (r q P : Int) (U : PySem.Str) (td tu) (x dx h1 h2 k1 k2 t v) (m1 : (x, instObj 109 dx) ∈ news) (m2 : (dx, dictOf [⟨h1, .str (PySem.Str.ofString "n") k1, .int (dblN r (10 ^ q.toNat)) t⟩, ⟨h2, .str (PySem.Str.ofString "d") k2, .int (dblD r (10 ^ q.toNat)) v⟩] 2) ∈ news)
    (r1 : 1 ≤ r) (r2 : r ≤ 9) (q1 : 31 ≤ q) (q2 : q ≤ 60) (p1 : 1 ≤ P) (p2 : P ≤ 6) (u : UnitOK U) : EzC 16 news (call (.ref 205) [.ref x, .str U tu, .int P td]) (isStr (smallS r q P U ++ U)) := (small_all r1 r2 q1 q2 p1 p2 u).2.1 news x dx h1 h2 k1 k2 t v td tu m1 m2
theorem small_s (news) (r q P : Int) (U : PySem.Str) (td) (x dx h1 h2 k1 k2 t v) (m1 : (x, instObj 109 dx) ∈ news) (m2 : (dx, dictOf [⟨h1, .str (PySem.Str.ofString "n") k1, .int (dblN r (10 ^ q.toNat)) t⟩, ⟨h2, .str (PySem.Str.ofString "d") k2, .int (dblD r (10 ^ q.toNat)) v⟩] 2) ∈ news)
    (r1 : 1 ≤ r) (r2 : r ≤ 9) (q1 : 31 ≤ q) (q2 : q ≤ 60) (p1 : 1 ≤ P) (p2 : P ≤ 6) (u : UnitOK U) : EzC 14 news (call (.ref 197) [.ref x, .int (P - 1) td]) (isStr (smallS r q P U)) := (small_all r1 r2 q1 q2 p1 p2 u).2.2 news x dx h1 h2 k1 k2 t v td m1 m2
theorem great_len {g q P : Int} {U : PySem.Str} (g1 : 1 ≤ g) (g2 : g ≤ 1000) (q1 : 33 ≤ q) (q2 : q ≤ 62) (p1 : 1 ≤ P) (p2 : P ≤ 6) (u : UnitOK U) : (greatS g q P U).length + U.length ≤ sizeLine := by
  have := (great_all g1 g2 q1 q2 p1 p2 u).1
  have := unit_len u
  rw [PySem.sizeLine_eq]
  omega
theorem small_len {r q P : Int} {U : PySem.Str} (r1 : 1 ≤ r) (r2 : r ≤ 9) (q1 : 31 ≤ q) (q2 : q ≤ 60) (p1 : 1 ≤ P) (p2 : P ≤ 6) (u : UnitOK U) : (smallS r q P U).length + U.length ≤ sizeLine := by
  have := (small_all r1 r2 q1 q2 p1 p2 u).1
  have := unit_len u
  rw [PySem.sizeLine_eq]
  omega
section
variable {prog : Program} {w : World} {A : Around} {E : Value → Shared → Prop} {s : Shared} {x y : PySem.Str} {t u : Tok} {Q : Value → Shared → Prop}
theorem ez_seq (hc : x = y) (h : Q (.bool true) s) : wpAny (model prog w) A (compareOp .Eq (.str x t) (.str y u)) Q E s := by
  refine PyProof.Rows.eq_str ?_
  rw [beq_iff_eq.mpr hc]
  exact h
theorem ez_sne (hc : x = y) (h : Q (.bool false) s) : wpAny (model prog w) A (compareOp .NotEq (.str x t) (.str y u)) Q E s := by
  refine PyProof.Rows.ne_str ?_
  have : (x != y) = false := by simp [hc]
  rw [this]
  exact h
end
theorem back_cu : True := by
  w_top off
  first | walk1 | trivial
theorem rngA {x k c lo hi : Int} (hk : 0 < k) (h1 : lo ≤ c) (h2 : k - 1 + c ≤ hi) : lo ≤ x.fmod k + c ∧ x.fmod k + c ≤ hi := by
  have a := Int.fmod_nonneg_of_pos x hk
  have b := Int.fmod_lt_of_pos x hk
  omega
theorem rngB {x k c lo hi : Int} (hk : 0 < k) (h1 : lo ≤ c) (h2 : c + (k - 1) ≤ hi) : lo ≤ c + x.fmod k ∧ c + x.fmod k ≤ hi := by
  have a := Int.fmod_nonneg_of_pos x hk
  have b := Int.fmod_lt_of_pos x hk
  omega
theorem rngC {x k c lo hi : Int} (hk : 0 < k) (h1 : lo ≤ -c) (h2 : k - 1 - c ≤ hi) : lo ≤ x.fmod k - c ∧ x.fmod k - c ≤ hi := by
  have a := Int.fmod_nonneg_of_pos x hk
  have b := Int.fmod_lt_of_pos x hk
  omega
theorem rngD {x k lo hi : Int} (hk : 0 < k) (h1 : lo ≤ 0) (h2 : k - 1 ≤ hi) : lo ≤ x.fmod k ∧ x.fmod k ≤ hi := by
  have a := Int.fmod_nonneg_of_pos x hk
  have b := Int.fmod_lt_of_pos x hk
  omega

theorem back_cv : True := by
  w_top off
  first | walk1 | trivial
section
local macro_rules | `(tactic| walk_at "subscriptTail BinOp Name Add BinOp Slice ref ref") => `(tactic| ((with_reducible rename Fr _ _ _ _ => kF); (with_reducible rename News _ _ _ _ => kN); dsimp only; (with_reducible refine' ez_row' (s := ⟨_, _, _, _, _⟩) kF kN ?m ?i ?l ?l2 (fun D h' a0 a1 a2 a3 a4 a5 a6 a7 a8 a9 a10 a11 t0 t1 t2 t3 t4 t5 t6 t7 t8 t9 t10 t11 F' N' => ?_)); (case m => k_mem); (case i => assumption); (case l => (simp; done)); (case l2 => (simp; omega)); (try k_sweep)))
local macro_rules | `(tactic| walk_at "storeName") => `(tactic| (dsimp only; walk1))
local macro_rules | `(tactic| walk_at "ite") => `(tactic| (dsimp only; walk1))
local macro_rules | `(tactic| walk_at "compareOp Eq int int") => `(tactic| (dsimp only; walk1))
local macro_rules | `(tactic| walk_at "compareOp Gt int int") => `(tactic| (dsimp only; walk1))
local macro_rules | `(tactic| walk_at "compareOp Lt int int") => `(tactic| (dsimp only; walk1))
local macro_rules | `(tactic| walk_at "compareOp GtE int int") => `(tactic| (dsimp only; walk1))
local macro_rules | `(tactic| walk_at "binaryOp Mult int int") => `(tactic| (dsimp only; walk1))
local macro_rules | `(tactic| walk_at "binaryOp Sub int int") => `(tactic| (dsimp only; walk1))
local macro_rules | `(tactic| walk_at "binaryOp FloorDiv int int") => `(tactic| (dsimp only; walk1))
local macro_rules | `(tactic| walk_at "binaryOp Mod int int") => `(tactic| (dsimp only; walk1))
local macro_rules | `(tactic| walk_at "binaryOp Pow int int") => `(tactic| (dsimp only; walk1))
local macro_rules | `(tactic| walk_at "subscriptTail") => `(tactic| (dsimp only; walk1))
local macro_rules | `(tactic| walk_at "exec For Name Tuple cons nil") => `(tactic| (dsimp only; walk1))
local macro_rules | `(tactic| walk_at "subscriptTail Name Constant ref int") => `(tactic| (k_here; (with_reducible rename Fr _ _ _ _ => kF); (with_reducible rename News _ _ _ _ => kN); k_dflt (refine' ez_rowItem kF kN ?m ?h0 ?h1 ?_; (case m => k_mem); (case h0 => (walk_at "ez_fd")); (case h1 => (walk_at "ez_fd"))); intro x9 t9))
local macro_rules | `(tactic| walk_at "subscriptTail Name BinOp ref int") => `(tactic| (k_here; (with_reducible rename Fr _ _ _ _ => kF); (with_reducible rename News _ _ _ _ => kN); k_dflt (refine' ez_rowItem kF kN ?m ?h0 ?h1 ?_; (case m => k_mem); (case h0 => (walk_at "ez_fd")); (case h1 => (walk_at "ez_fd"))); intro x9 t9))
local macro_rules | `(tactic| walk_at "subscriptTail Name Name ref int") => `(tactic| (k_here; (with_reducible rename Fr _ _ _ _ => kF); (with_reducible rename News _ _ _ _ => kN); k_dflt (refine' ez_rowItem kF kN ?m ?h0 ?h1 ?_; (case m => k_mem); (case h0 => (walk_at "ez_fd")); (case h1 => (walk_at "ez_fd"))); intro x9 t9))
local macro_rules | `(tactic| walk_at "subscriptTail Tuple cons BinOp ref int") => `(tactic| (k_here; (with_reducible rename Fr _ _ _ _ => kF); (with_reducible rename News _ _ _ _ => kN); k_dflt (refine' ez_unit kF kN ?m ?h0 ?h1 ?_; (case m => k_mem); (case h0 => (walk_at "ez_fm")); (case h1 => (walk_at "ez_fm"))); intro U9 t9 hu9))
local macro_rules | `(tactic| walk_at "ez_fd") => `(tactic| omega)
local macro_rules | `(tactic| walk_at "ez_fm") => `(tactic| first | exact Int.fmod_nonneg_of_pos _ (by decide) | exact Int.fmod_lt_of_pos _ (by decide))
local macro_rules | `(tactic| walk_at "eval BinOp") => `(tactic| (k_here; (with_reducible show wpAny _ _ (eval (Expr.BinOp (Expr.BinOp (Expr.Subscript (Expr.Name (PySem.Str.ofString "row") _) (Expr.Constant (Const.int 0) _ _) _) Operator.Mod (Expr.Constant (Const.int 6) _ _) _) Operator.Add (Expr.Constant (Const.int 1) _ _) _) _) _ _ _); (fail_if_success (with_reducible show wpAny _ _ _ (CutV _ _ _ _ _ _) _ _)); (refine' cut_rng (1) 6 ?F9 ?N9 ?_ (fun x9 t9 h' tk' a9 b9 F' N' => ?_); (case F9 => k_asm); (case N9 => k_asm); (all_goals (try (walk_at "ez_tidy"))))))
local macro_rules | `(tactic| walk_at "eval BinOp") => `(tactic| (k_here; (with_reducible show wpAny _ _ (eval (Expr.BinOp (Expr.Call (Expr.Name (PySem.Str.ofString "abs") _) _ _ _) Operator.Mod _ _) _) _ _ _); (fail_if_success (with_reducible show wpAny _ _ _ (CutV _ _ _ _ _ _) _ _)); (refine' cut_rng (0) 1000000000 ?F9 ?N9 ?_ (fun x9 t9 h' tk' a9 b9 F' N' => ?_); (case F9 => k_asm); (case N9 => k_asm); (all_goals (try (walk_at "ez_tidy"))))))
local macro_rules | `(tactic| walk_at "eval BinOp") => `(tactic| (k_here; (with_reducible show wpAny _ _ (eval (Expr.BinOp (Expr.BinOp (Expr.Subscript (Expr.Name (PySem.Str.ofString "row") _) (Expr.Constant (Const.int 10) _ _) _) Operator.Mod (Expr.Constant (Const.int 1000) _ _) _) Operator.Add (Expr.Constant (Const.int 1) _ _) _) _) _ _ _); (fail_if_success (with_reducible show wpAny _ _ _ (CutV _ _ _ _ _ _) _ _)); (refine' cut_rng (1) 1000 ?F9 ?N9 ?_ (fun x9 t9 h' tk' a9 b9 F' N' => ?_); (case F9 => k_asm); (case N9 => k_asm); (all_goals (try (walk_at "ez_tidy"))))))
local macro_rules | `(tactic| walk_at "eval BinOp") => `(tactic| (k_here; (with_reducible show wpAny _ _ (eval (Expr.BinOp (Expr.BinOp (Expr.Subscript (Expr.Name (PySem.Str.ofString "row") _) (Expr.Constant (Const.int 10) _ _) _) Operator.Mod (Expr.Constant (Const.int 9) _ _) _) Operator.Add (Expr.Constant (Const.int 1) _ _) _) _) _ _ _); (fail_if_success (with_reducible show wpAny _ _ _ (CutV _ _ _ _ _ _) _ _)); (refine' cut_rng (1) 9 ?F9 ?N9 ?_ (fun x9 t9 h' tk' a9 b9 F' N' => ?_); (case F9 => k_asm); (case N9 => k_asm); (all_goals (try (walk_at "ez_tidy"))))))
local macro_rules | `(tactic| walk_at "eval BinOp") => `(tactic| (k_here; (with_reducible show wpAny _ _ (eval (Expr.BinOp (Expr.Constant (Const.int 33) _ _) Operator.Add (Expr.BinOp (Expr.Subscript (Expr.Name (PySem.Str.ofString "row") _) (Expr.Constant (Const.int 11) _ _) _) Operator.Mod (Expr.Constant (Const.int 30) _ _) _) _) _) _ _ _); (fail_if_success (with_reducible show wpAny _ _ _ (CutV _ _ _ _ _ _) _ _)); (refine' cut_rng (33) 62 ?F9 ?N9 ?_ (fun x9 t9 h' tk' a9 b9 F' N' => ?_); (case F9 => k_asm); (case N9 => k_asm); (all_goals (try (walk_at "ez_tidy"))))))
local macro_rules | `(tactic| walk_at "eval BinOp") => `(tactic| (k_here; (with_reducible show wpAny _ _ (eval (Expr.BinOp (Expr.Constant (Const.int 31) _ _) Operator.Add (Expr.BinOp (Expr.Subscript (Expr.Name (PySem.Str.ofString "row") _) (Expr.Constant (Const.int 11) _ _) _) Operator.Mod (Expr.Constant (Const.int 30) _ _) _) _) _) _ _ _); (fail_if_success (with_reducible show wpAny _ _ _ (CutV _ _ _ _ _ _) _ _)); (refine' cut_rng (31) 60 ?F9 ?N9 ?_ (fun x9 t9 h' tk' a9 b9 F' N' => ?_); (case F9 => k_asm); (case N9 => k_asm); (all_goals (try (walk_at "ez_tidy"))))))
local macro_rules | `(tactic| walk_at "eval IfExp") => `(tactic| (k_here; (with_reducible show wpAny _ _ (eval (Expr.IfExp (Expr.BinOp _ _ _ _) _ _ _) _) _ _ _); (fail_if_success (with_reducible show wpAny _ _ _ (CutV _ _ _ _ _ _) _ _)); (refine' cut_rng (-30) 20 ?F9 ?N9 ?_ (fun x9 t9 h' tk' a9 b9 F' N' => ?_); (case F9 => k_asm); (case N9 => k_asm); (all_goals (try (walk_at "ez_tidy"))))))
local macro_rules | `(tactic| walk_at "eval IfExp") => `(tactic| (k_here; (with_reducible show wpAny _ _ (eval (Expr.IfExp (Expr.BoolOp _ _ _) (Expr.UnaryOp _ _ _) _ _) _) _ _ _); (fail_if_success (with_reducible show wpAny _ _ _ (CutV _ _ _ _ _ _) _ _)); (refine' cut_sgn ?e9 ?F9 ?N9 ?_ (fun x9 t9 h' tk' s9 F' N' => ?_); (case F9 => k_asm); (case e9 => k_dflt (exact rfl)); (case N9 => k_asm); (all_goals (try (walk_at "ez_tidy"))))))
local macro_rules | `(tactic| walk_at "eval IfExp") => `(tactic| (k_here; (with_reducible show wpAny _ _ (eval (Expr.IfExp (Expr.Compare (Expr.Name (PySem.Str.ofString "sign") _) _ _ _) _ _ _) _) _ _ _); (fail_if_success (with_reducible show wpAny _ _ _ (CutV _ _ _ _ _ _) _ _)); (refine' cut_sgnT ?e9 ?F9 ?N9 ?_ (fun t9 h' tk' F' N' => ?_); (case F9 => k_asm); (case e9 => k_dflt (exact rfl)); (case N9 => k_asm); (all_goals (try (walk_at "ez_tidy"))))))
local macro_rules | `(tactic| walk_at "eval BoolOp") => `(tactic| (k_here; (with_reducible show wpAny _ _ (eval (Expr.BoolOp _ (Expr.Compare (Expr.Name (PySem.Str.ofString "power") _) _ _ _ :: _) _) _) _ _ _); (fail_if_success (with_reducible show wpAny _ _ _ (CutV _ _ _ _ _ _) _ _)); (refine' cut_whl ?e9 ?F9 ?N9 ?_ (fun b9 h' tk' w9 F' N' => ?_); (case F9 => k_asm); (case e9 => k_dflt (exact rfl)); (case N9 => k_asm); (all_goals (try (walk_at "ez_tidy"))); (rotate_left; cases b9 <;> ((try simp only [forall_const, reduceCtorEq, false_implies] at w9); (try (walk_at "ez_tidy")))))))
local macro_rules | `(tactic| walk_at "exec If") => `(tactic| (k_here; (with_reducible show wpAny _ _ (exec (Stmt.If _ [Stmt.Assign [Expr.Name (PySem.Str.ofString "n") _] _ _] _ _) _) _ _ _); (fail_if_success (with_reducible show wpAny _ _ _ (CutS _ _ _ _ _ _ _) _ _)); (refine' cut_n ?e9 ?F9 ?N9 ?_ (fun x9 t9 h' tk' a9 b9 F' N' => ?_); (case F9 => k_asm); (case e9 => k_dflt (exact rfl)); (case N9 => k_asm); (all_goals (try (walk_at "ez_tidy"))))))
local macro_rules | `(tactic| walk_at "exec If") => `(tactic| (k_here; (with_reducible show wpAny _ _ (exec (Stmt.If (Expr.BoolOp _ _ _) [Stmt.Return _ _] _ _) _) _ _ _); (fail_if_success (with_reducible show wpAny _ _ _ (CutN _ _ _ _ _) _ _)); (refine' cut_none ?F9 ?N9 ?_ (fun h' tk' F' N' => ?_); (case F9 => k_asm); (case N9 => k_asm); (all_goals (try (walk_at "ez_tidy"))))))
local macro_rules | `(tactic| walk_at "CutV") => `(tactic| (k_here; (with_reducible show CutV (isRng _ _) _ _ _ _ _ _ _); (refine' CutV.intro [] _ _ (isRng.mk (by first | (walk_at "ez_rng") | fail "rng")) (by first | (intro q hq; cases hq) | fail "O") (by first | k_asm | fail "F") (by walk_at "ez_news"))))
local macro_rules | `(tactic| walk_at "CutV") => `(tactic| (k_here; (with_reducible show CutV (isSgn _) _ _ _ _ _ _ _); (refine' CutV.intro [] _ _ (isSgn.mk (by first | omega | fail "sgn")) (by first | (intro q hq; cases hq) | fail "O") (by first | k_asm | fail "F") (by walk_at "ez_news"))))
local macro_rules | `(tactic| walk_at "CutV") => `(tactic| (k_here; (with_reducible show CutV (isWhl _) _ _ _ _ _ _ _); (refine' CutV.intro [] _ _ (isWhl.mk (by first | exact of_decide_eq_true | (intro hh; cases hh; done) | (intro _; omega) | fail "whl")) (by first | (intro q hq; cases hq) | fail "O") (by first | k_asm | fail "F") (by walk_at "ez_news"))))
local macro_rules | `(tactic| walk_at "CutV") => `(tactic| (k_here; (with_reducible show CutV (isStr (sgnT _)) _ _ _ _ _ _ _); (refine' CutV.intro [] _ _ (isStr.mk (by first | (unfold sgnT; first | (rw [if_pos (by assumption)]; done) | (rw [if_neg (by assumption)]; done) | (rw [if_pos (by omega)]; done) | (rw [if_neg (by omega)]; done)) | fail "sgnT")) (by first | (intro q hq; cases hq) | fail "O") (by first | k_asm | fail "F") (by walk_at "ez_news"))))
local macro_rules | `(tactic| walk_at "ez_rng") => `(tactic| first | exact n_zero | exact n_two | exact n_three (by assumption) (by assumption) | exact rngA (by decide) (by decide) (by decide) | exact rngB (by decide) (by decide) (by decide) | exact rngC (by decide) (by decide) (by decide) | exact rngD (by decide) (by decide) (by decide) | omega)
local macro_rules | `(tactic| walk_at "CutS") => `(tactic| (k_here; (with_reducible show CutS (PySem.Str.ofString "n") _ _ _ _ _ _ _ _); (refine' CutS.stay ?e9 _ _ ?f9 ?n9 ?w9; (case e9 => k_dflt (exact rfl)); (case f9 => k_asm); (case n9 => (walk_at "ez_news")); (case w9 => exact isRng.mk (by omega)))))
local macro_rules | `(tactic| walk_at "CutS") => `(tactic| (k_here; (with_reducible show CutS (PySem.Str.ofString "n") _ _ _ _ _ _ _ _); (refine' CutS.intro [] _ _ (by first | k_asm | fail "F") (by walk_at "ez_news") (by first | (intro q hq; cases hq) | fail "O") (isRng.mk (by first | (walk_at "ez_rng") | fail "rng")))))
local macro_rules | `(tactic| walk_at "CutN") => `(tactic| (k_here; (with_reducible show CutN _ _ _ _ _ _ _); (refine' CutN.intro (by first | k_asm | fail "F") (by walk_at "ez_news"))))
local macro_rules | `(tactic| walk_at "pyIter ref") => `(tactic| (k_here; (with_reducible show wpAny _ _ (pyIter (Value.ref _)) (fun it s₂ => TurnsAt _ _ _ _ _ _ _ _ _ it s₂) _ _); (rename Fr _ _ _ _ => lF'); (rename News _ _ _ _ => lN'); k_dflt (refine' for3 ?hh lF' lN' ?hm ?hr ⟨fun I9 j9 => ?_⟩ (fun m9 h' tk' F' N' => ?_); (case hh => exact rfl); (case hm => k_mem); (case hr => k_mem)); (clear lF' lN'); (first | (unfold TurnH; intro kk9 t9 m9 h' tk' o9 hk9 F' N'; obtain ⟨hk8, hk7⟩ := hk9) | fail "H"); (all_goals (try (walk_at "ez_tidy")))))
local macro_rules | `(tactic| walk_at "TurnEnd") => `(tactic| (k_here; (with_reducible show TurnEnd _ _ _ _ _ _ _ _ _ _ _); (refine' TurnEnd.intro (by first | k_asm | fail "F") (by first | k_asm | fail "N") ?s9 ?a9 ?b9 ?c9; (case s9 => (walk_at "ez_sub")); (case a9 => k_dflt (exact rfl)); (case b9 => k_dflt (exact rfl)); (case c9 => k_dflt (exact rfl)))))
local macro_rules | `(tactic| walk_at "call ref") => `(tactic| (k_here; (with_reducible show wpAny _ _ (call (Value.ref 233) [Value.int _ _, Value.int _ _, Value.int _ _, Value.str _ _, Value.int _ _, Value.bool _]) _ _ _); k_dflt (refine' EzC.useStr (t_said _ _ _ _ _ _ _ _ _ _ _ ?h1 ?h2 ?g1 ?g2 ?p1 ?p2 ?hb ?u) ?B9 ?F9 ?X9 ?N9 ?T9 ?k9 ?d9 ?u9 ?_; (case B9 => k_asm); (case F9 => k_asm); (case X9 => k_asm); (case N9 => k_asm); (case T9 => k_asm); (case k9 => first | exact rfl | assumption); (case d9 => (walk_at "ez_room")); (case u9 => (walk_at "ez_room")); (case h1 => first | omega | assumption); (case h2 => first | omega | assumption); (case g1 => first | omega | assumption); (case g2 => first | omega | assumption); (case p1 => first | omega | assumption); (case p2 => first | omega | assumption); (case hb => first | assumption | (intro _; omega) | (intro hh; cases hh)); (case u => assumption)); intro t9 h' tk' F' N'; (walk_at "ez_tidy")))
local macro_rules | `(tactic| walk_at "call ref") => `(tactic| (k_here; (with_reducible show wpAny _ _ (call (Value.ref 205) [Value.int _ _, Value.str _ _, Value.int _ _]) _ _ _); k_dflt (refine' EzC.useStr (t_m3i _ _ _ _ _ _ _ _ _ ?hn ?h1 ?h2 ?g1 ?g2 ?p1 ?p2 ?u) ?B9 ?F9 ?X9 ?N9 ?T9 ?k9 ?d9 ?u9 ?_; (case B9 => k_asm); (case F9 => k_asm); (case X9 => k_asm); (case N9 => k_asm); (case T9 => k_asm); (case k9 => first | exact rfl | assumption); (case d9 => (walk_at "ez_room")); (case u9 => (walk_at "ez_room")); (case hn => first | omega | assumption); (case h1 => first | omega | assumption); (case h2 => first | omega | assumption); (case g1 => first | omega | assumption); (case g2 => first | omega | assumption); (case p1 => first | omega | assumption); (case p2 => first | omega | assumption); (case u => assumption)); intro t9 h' tk' F' N'; (walk_at "ez_tidy")))
local macro_rules | `(tactic| walk_at "call ref") => `(tactic| (k_here; (with_reducible show wpAny _ _ (call (Value.ref 205) [Value.int _ _, Value.str _ _]) _ _ _); k_dflt (refine' EzC.useStr (t_m2i _ _ _ _ _ _ _ ?hn ?h1 ?h2 ?g1 ?g2 ?u) ?B9 ?F9 ?X9 ?N9 ?T9 ?k9 ?d9 ?u9 ?_; (case B9 => k_asm); (case F9 => k_asm); (case X9 => k_asm); (case N9 => k_asm); (case T9 => k_asm); (case k9 => first | exact rfl | assumption); (case d9 => (walk_at "ez_room")); (case u9 => (walk_at "ez_room")); (case hn => first | omega | assumption); (case h1 => first | omega | assumption); (case h2 => first | omega | assumption); (case g1 => first | omega | assumption); (case g2 => first | omega | assumption); (case u => assumption)); intro t9 h' tk' F' N'; (walk_at "ez_tidy")))
local macro_rules | `(tactic| walk_at "call ref") => `(tactic| (k_here; (with_reducible show wpAny _ _ (call (Value.ref 205) [Value.ref _, Value.str _ _, Value.int _ _]) _ _ _); k_dflt (refine' EzC.useStr (t_m3d _ _ _ _ _ _ _ _ _ _ _ _ _ _ ?m1 ?m2 _ _ ?hn ?h1 ?h2 ?g1 ?g2 ?p1 ?p2 ?u) ?B9 ?F9 ?X9 ?N9 ?T9 ?k9 ?d9 ?u9 ?_; (case B9 => k_asm); (case F9 => k_asm); (case X9 => k_asm); (case N9 => k_asm); (case T9 => k_asm); (case k9 => first | exact rfl | assumption); (case d9 => (walk_at "ez_room")); (case u9 => (walk_at "ez_room")); (case m1 => k_mem); (case m2 => k_mem); (case hn => first | omega | assumption); (case h1 => first | omega | assumption); (case h2 => first | omega | assumption); (case g1 => first | omega | assumption); (case g2 => first | omega | assumption); (case p1 => first | omega | assumption); (case p2 => first | omega | assumption); (case u => assumption)); intro t9 h' tk' F' N'; (walk_at "ez_tidy")))
local macro_rules | `(tactic| walk_at "call ref") => `(tactic| (k_here; (with_reducible show wpAny _ _ (call (Value.ref 205) [Value.ref _, Value.str _ _]) _ _ _); k_dflt (refine' EzC.useStr (t_m2d _ _ _ _ _ _ _ _ _ _ _ _ _ ?m1 ?m2 _ ?hn ?h1 ?h2 ?g1 ?g2 ?u) ?B9 ?F9 ?X9 ?N9 ?T9 ?k9 ?d9 ?u9 ?_; (case B9 => k_asm); (case F9 => k_asm); (case X9 => k_asm); (case N9 => k_asm); (case T9 => k_asm); (case k9 => first | exact rfl | assumption); (case d9 => (walk_at "ez_room")); (case u9 => (walk_at "ez_room")); (case m1 => k_mem); (case m2 => k_mem); (case hn => first | omega | assumption); (case h1 => first | omega | assumption); (case h2 => first | omega | assumption); (case g1 => first | omega | assumption); (case g2 => first | omega | assumption); (case u => assumption)); intro t9 h' tk' F' N'; (walk_at "ez_tidy")))
local macro_rules | `(tactic| walk_at "call ref") => `(tactic| (k_here; (with_reducible show wpAny _ _ (call (Value.ref 205) [Value.int (-_) _, Value.str _ _, Value.int _ _]) _ _ _); k_dflt (refine' EzC.useStr (great_m _ _ _ _ _ _ _ _ ?g1 ?g2 ?q1 ?q2 ?p1 ?p2 ?u) ?B9 ?F9 ?X9 ?N9 ?T9 ?k9 ?d9 ?u9 ?_; (case B9 => k_asm); (case F9 => k_asm); (case X9 => k_asm); (case N9 => k_asm); (case T9 => k_asm); (case k9 => first | exact rfl | assumption); (case d9 => (walk_at "ez_room")); (case u9 => (walk_at "ez_room")); (case g1 => first | omega | assumption); (case g2 => first | omega | assumption); (case q1 => first | omega | assumption); (case q2 => first | omega | assumption); (case p1 => first | omega | assumption); (case p2 => first | omega | assumption); (case u => assumption)); intro t9 h' tk' F' N'; (walk_at "ez_tidy")))
local macro_rules | `(tactic| walk_at "call ref") => `(tactic| (k_here; (with_reducible show wpAny _ _ (call (Value.ref 197) [Value.int (-_) _, Value.int _ _]) _ _ _); k_dflt (refine' EzC.useStr (great_s _ _ _ _ _ _ _ ?g1 ?g2 ?q1 ?q2 ?p1 ?p2 ?u) ?B9 ?F9 ?X9 ?N9 ?T9 ?k9 ?d9 ?u9 ?_; (case B9 => k_asm); (case F9 => k_asm); (case X9 => k_asm); (case N9 => k_asm); (case T9 => k_asm); (case k9 => first | exact rfl | assumption); (case d9 => (walk_at "ez_room")); (case u9 => (walk_at "ez_room")); (case g1 => first | omega | assumption); (case g2 => first | omega | assumption); (case q1 => first | omega | assumption); (case q2 => first | omega | assumption); (case p1 => first | omega | assumption); (case p2 => first | omega | assumption); (case u => assumption)); intro t9 h' tk' F' N'; (walk_at "ez_tidy")))
local macro_rules | `(tactic| walk_at "call ref") => `(tactic| (k_here; (with_reducible show wpAny _ _ (call (Value.ref 205) [Value.ref _, Value.str _ _, Value.int _ _]) _ _ _); k_dflt (refine' EzC.useStr (small_m _ _ _ _ _ _ _ _ _ _ _ _ _ _ _ ?m1 ?m2 ?g1 ?g2 ?q1 ?q2 ?p1 ?p2 ?u) ?B9 ?F9 ?X9 ?N9 ?T9 ?k9 ?d9 ?u9 ?_; (case B9 => k_asm); (case F9 => k_asm); (case X9 => k_asm); (case N9 => k_asm); (case T9 => k_asm); (case k9 => first | exact rfl | assumption); (case d9 => (walk_at "ez_room")); (case u9 => (walk_at "ez_room")); (case m1 => k_mem); (case m2 => k_mem); (case g1 => first | omega | assumption); (case g2 => first | omega | assumption); (case q1 => first | omega | assumption); (case q2 => first | omega | assumption); (case p1 => first | omega | assumption); (case p2 => first | omega | assumption); (case u => assumption)); intro t9 h' tk' F' N'; (walk_at "ez_tidy")))
local macro_rules | `(tactic| walk_at "call ref") => `(tactic| (k_here; (with_reducible show wpAny _ _ (call (Value.ref 197) [Value.ref _, Value.int _ _]) _ _ _); k_dflt (refine' EzC.useStr (small_s _ _ _ _ _ _ _ _ _ _ _ _ _ _ ?m1 ?m2 ?g1 ?g2 ?q1 ?q2 ?p1 ?p2 ?u) ?B9 ?F9 ?X9 ?N9 ?T9 ?k9 ?d9 ?u9 ?_; (case B9 => k_asm); (case F9 => k_asm); (case X9 => k_asm); (case N9 => k_asm); (case T9 => k_asm); (case k9 => first | exact rfl | assumption); (case d9 => (walk_at "ez_room")); (case u9 => (walk_at "ez_room")); (case m1 => k_mem); (case m2 => k_mem); (case g1 => first | omega | assumption); (case g2 => first | omega | assumption); (case q1 => first | omega | assumption); (case q2 => first | omega | assumption); (case p1 => first | omega | assumption); (case p2 => first | omega | assumption); (case u => assumption)); intro t9 h' tk' F' N'; (walk_at "ez_tidy")))
local macro_rules | `(tactic| walk_at "binaryOp Add str str") => `(tactic| (k_here; (with_reducible show wpAny _ _ (binaryOp Operator.Add (Value.str _ _) (Value.str _ _)) _ _ _); (refine ez_addS ?_ (by first | exact sgn_TL (by omega) (by omega) (by omega) (by omega) (by omega) (by omega) (by first | assumption | (intro _; omega) | (intro hh; cases hh)) (by assumption) | exact great_len (by omega) (by omega) (by omega) (by omega) (by omega) (by omega) (by assumption) | exact small_len (by omega) (by omega) (by omega) (by omega) (by omega) (by omega) (by assumption) | fail "size")); intro t9 k9))
local macro_rules | `(tactic| walk_at "compareOp NotEq str str") => `(tactic| (k_here; (with_reducible refine ez_sne ?h9 ?_); (case h9 => first | with_reducible rfl | (walk_at "ez_three"))))
local macro_rules | `(tactic| walk_at "compareOp Eq str str") => `(tactic| (k_here; (with_reducible refine ez_seq ?h9 ?_); (case h9 => with_reducible rfl)))
local macro_rules | `(tactic| walk_at "ez_three") => `(tactic| (simp only [*]; done))
local macro_rules | `(tactic| walk_at "ez_sm0") => `(tactic| with_reducible assumption)
local macro_rules | `(tactic| walk_at "ez_sm0") => `(tactic| ((with_reducible refine' Sm.pow (b := 62) ?p9 ?q9); (case p9 => (walk_at "ez_sm0")); (case q9 => omega)))
local macro_rules | `(tactic| walk_at "ez_sm0") => `(tactic| ((with_reducible refine' Sm.pow (b := 30) ?p9 ?q9); (case p9 => (walk_at "ez_sm0")); (case q9 => omega)))
local macro_rules | `(tactic| walk_at "ez_omega") => `(tactic| omega)
local macro_rules | `(tactic| walk_at "ez_room") => `(tactic| (with_unfolding_all decide))
set_option maxRecDepth 100000 in
set_option maxHeartbeats 8000000 in
theorem law_holds : PySem.Challenge.rw_ez0119_01.Holds := EzMine.hd (by
  w_strict (k_go0; (all_goals try k_fold)
            k_steps))
end
theorem back_cw : True := by
  w_top off
  first | walk1 | trivial

end EzMine
theorem PySem.Challenge.cw_ez0119_01_holds : PySem.Challenge.rw_ez0119_01.Holds := by
  exact EzMine.law_holds
