import PyProof.Rows.All
import Wide.All
import OpenK.AllK
import Wide.FinOn
import PySem.Challenge.RW_aj5009_01
open PySem PySem.W PyProof.Rows
set_option Elab.async false
set_option linter.all false
namespace Mine
set_option maxRecDepth 100000 in
set_option maxHeartbeats 8000000 in
open_top hd for PySem.Challenge.rw_aj5009_01
section
theorem fillK : (hd.heap_39 = hd.heap_39) ∧ PySem.Challenge.rw_aj5009_01 = PySem.Challenge.rw_aj5009_01 := by
  k_fill
  exact ⟨rfl, rfl⟩

def trailF (n : Int) : Int := if n = 0 then 0 else (Builtin.Int.intBits (Builtin.bitAnd n (-n)) : Int) - 1

abbrev Led := List (Addr × Obj)

def Sub (a b : Led) : Prop := ∀ p ∈ a, p ∈ b
theorem Sub.rfl {a : Led} : Sub a a := fun _ h => h
theorem Sub.cons {a b : Led} {x : Addr × Obj} (h : Sub a b) : Sub a (x :: b) := fun p hp => .tail _ (h p hp)
theorem Sub.trans {a b c : Led} (h : Sub a b) (k : Sub b c) : Sub a c := fun p hp => k p (h p hp)

structure MP where
  sg : Int
  man : Int
  ex : Int
  bc : Int
  deriving DecidableEq

theorem MP.ext4 {a b c d a' b' c' d' : Int} (h1 : a = a') (h2 : b = b') (h3 : c = c') (h4 : d = d') : (⟨a, b, c, d⟩ : MP) = ⟨a', b', c', d'⟩ := by rw [h1, h2, h3, h4]

def fzero : MP := ⟨0, 0, 0, 0⟩

inductive Rnd where
  | f | c | n | d | u
  deriving DecidableEq
def rndS : Rnd → Str
  | .f => Str.ofString "f"
  | .c => Str.ofString "c"
  | .n => Str.ofString "n"
  | .d => Str.ofString "d"
  | .u => Str.ofString "u"

def tupO (q : MP) (t1 t2 t3 t4 : Tok) (c : Nat) : Obj := { cls := .type "tuple", data := .seq #[.int q.sg t1, .int q.man t2, .int q.ex t3, .int q.bc t4] c }

def TupH (w : World) (nw : Led) (D : Addr) (q : MP) : Prop :=
  ∃ (t1 t2 t3 t4 : Tok) (c : Nat), (D, tupO q t1 t2 t3 t4 c) ∈ nw ∨ (hd.heap_39 w.params).lookup D = some (tupO q t1 t2 t3 t4 c)

theorem TupH.sub {w : World} {a b : Led} {D : Addr} {q : MP} (hs : Sub a b) (H : TupH w a D q) : TupH w b D q := by
  obtain ⟨t1, t2, t3, t4, c, H⟩ := H
  exact ⟨t1, t2, t3, t4, c, H.imp (hs _) id⟩
theorem TupH.cons {w : World} {a : Led} {x : Addr × Obj} {D : Addr} {q : MP} (H : TupH w a D q) : TupH w (x :: a) D q := H.sub (Sub.cons Sub.rfl)
theorem TupH.fzero (w : World) (nw : Led) : TupH w nw 56 fzero := ⟨255, 187, 256, 257, 0, .inr (by k_is)⟩
theorem TupH.fnan (w : World) (nw : Led) : TupH w nw 57 ⟨0, 0, -123, -1⟩ := ⟨259, 187, 261, 263, 0, .inr (by k_is)⟩
theorem TupH.finf (w : World) (nw : Led) : TupH w nw 58 ⟨0, 0, -456, -2⟩ := ⟨265, 187, 267, 269, 0, .inr (by k_is)⟩
theorem TupH.fninf (w : World) (nw : Led) : TupH w nw 59 ⟨1, 0, -789, -3⟩ := ⟨271, 187, 273, 275, 0, .inr (by k_is)⟩
theorem TupH.here {w : World} {nw : Led} {D : Addr} {q : MP} {a b c d : Int} {t1 t2 t3 t4 : Tok} {n : Nat} (e : q = ⟨a, b, c, d⟩) (h : (D, ({ cls := .type "tuple", data := .seq #[.int a t1, .int b t2, .int c t3, .int d t4] n } : Obj)) ∈ nw) : TupH w nw D q := by
  subst e
  exact ⟨t1, t2, t3, t4, n, .inl h⟩
theorem TupH.as {w : World} {nw : Led} {D : Addr} {q q' : MP} (e : q = q') (h : TupH w nw D q') : TupH w nw D q := e ▸ h
theorem TupH.at {w : World} {nw : Led} {D : Addr} {q : MP} {h₀ h : Heap} {L : Addr} {m : Str → Option Value} (H : TupH w nw D q) (F : Fr h₀ L h m) (N : News h₀ L h nw) (X : (hd.heap_39 w.params).In h₀) :
    ∃ (t1 t2 t3 t4 : Tok), IsTup h D #[.int q.sg t1, .int q.man t2, .int q.ex t3, .int q.bc t4] := by
  obtain ⟨t1, t2, t3, t4, c, H⟩ := H
  refine ⟨t1, t2, t3, t4, ?_⟩
  rcases H with H | H
  · exact ⟨_, (N _ H).1, rfl, c, rfl⟩
  · exact ⟨_, F.keep _ _ (X _ _ H), rfl, c, rfl⟩
def mpData (q : MP) : PyData := .tuple [.int q.sg, .int q.man, .int q.ex, .int q.bc]
theorem TupH.reads {w : World} {nw : Led} {D : Addr} {q : MP} {h₀ h : Heap} {L : Addr} {m : Str → Option Value} (H : TupH w nw D q) (F : Fr h₀ L h m) (N : News h₀ L h nw) (X : (hd.heap_39 w.params).In h₀) :
    ∃ as, Reads h (.ref D) (mpData q) as := by
  obtain ⟨t1, t2, t3, t4, o, ho, hc, n, hd⟩ := H.at F N X
  exact ⟨_, reads_tuple_at ho hc hd (.cons (.int _ _) (.cons (.int _ _) (.cons (.int _ _) (.cons (.int _ _) .nil))))⟩
theorem mpData_eqv (a b : MP) : PyData.eqv (mpData a) (mpData b) = decide (a = b) := by
  obtain ⟨a1, a2, a3, a4⟩ := a
  obtain ⟨b1, b2, b3, b4⟩ := b
  simp only [mpData, PyData.eqv, PyData.eqvAll, MP.mk.injEq]
  by_cases h1 : a1 = b1 <;> by_cases h2 : a2 = b2 <;> by_cases h3 : a3 = b3 <;> by_cases h4 : a4 = b4 <;> simp [h1, h2, h3, h4]
theorem mpData_shaped (a : MP) : SeqAt.shaped (mpData a) = true := by
  simp [mpData, SeqAt.shaped, PyData.canLay0, PyData.canLayAll0, PyData.depth, PyData.depthAll]

def Tl (w : World) (f : Addr) (vs : List Value) (k : Nat) (news : Led) (ok : Led → Value → Prop) : Prop :=
  ∀ (p : Program) (loose : List Str) (mean : ExcName → Option Value) (mg mb : Str → Option Value)
    (dp un : Nat) (gd : Option (List Code)) (cn : Str) (cs : Scope) (a : Addr) (ccd : Value) (cl : List (Str × Addr)) (outer : List Env) (A₀ : Around) (base h₀ : Heap) (L : Addr) (m : Str → Option Value) (s : Shared)
    (Q E : Value → Shared → Prop),
    Below A₀ base outer h₀ → Fr h₀ L s.heap m → (hd.heap_39 w.params).In h₀ → News h₀ L s.heap news → Top p loose mean mg mb h₀ → cs.kind = .function → dp + k < recursionLimit → un + 8 * k + 100 < cLine →
    (∀ r nw' h' tk', Fr h₀ L h' m → News h₀ L h' nw' → Sub news nw' → ok nw' r → Q r { s with heap := h', toks := tk' }) →
    wpAny (model PySem.Challenge.rw_aj5009_01.row.prog w) (ktrTop dp un gd cn cs L a ccd cl outer) (call (.ref f) vs) Q E s

theorem Tl.use {w : World} {f : Addr} {vs : List Value} {k : Nat} {news : Led} {ok : Led → Value → Prop} (C : Tl w f vs k news ok)
    {p : Program} {loose : List Str} {mean : ExcName → Option Value} {mg mb : Str → Option Value}
    {dp un : Nat} {gd : Option (List Code)} {cn : Str} {cs : Scope} {a : Addr} {ccd : Value} {cl : List (Str × Addr)} {outer : List Env} {A₀ : Around} {base h₀ : Heap} {L : Addr} {m : Str → Option Value} {s : Shared}
    {Q E : Value → Shared → Prop}
    (B : Below A₀ base outer h₀) (F : Fr h₀ L s.heap m) (X : (hd.heap_39 w.params).In h₀) (N : News h₀ L s.heap news) (T : Top p loose mean mg mb h₀) (hk : cs.kind = .function) (hd : dp + k < recursionLimit) (hu : un + 8 * k + 100 < cLine)
    (ret : ∀ r nw' h' tk', Fr h₀ L h' m → News h₀ L h' nw' → Sub news nw' → ok nw' r → Q r { s with heap := h', toks := tk' }) :
    wpAny (model PySem.Challenge.rw_aj5009_01.row.prog w) (ktrTop dp un gd cn cs L a ccd cl outer) (call (.ref f) vs) Q E s :=
  C _ _ _ _ _ _ _ _ _ _ _ _ _ _ _ _ _ _ _ _ _ _ B F X N T hk hd hu ret

section
variable {prog : Program} {w : World} {A : Around} {E : Value → Shared → Prop} {s : Shared} {a b n : Int} {t u : Tok} {Q : Value → Shared → Prop}
theorem band_L (h : ∀ x, x = Builtin.bitAnd a b → Q (.int x s.toks) { s with toks := s.toks + 1 }) : wpAny (model prog w) A (binaryOp .BitAnd (.int a t) (.int b u)) Q E s := and_int (h _ rfl)
theorem bxor_L (h : ∀ x, x = Builtin.bitXor a b → Q (.int x s.toks) { s with toks := s.toks + 1 }) : wpAny (model prog w) A (binaryOp .BitXor (.int a t) (.int b u)) Q E s := xor_int (h _ rfl)
theorem ibxor_L (h : ∀ x, x = Builtin.bitXor a b → Q (.int x s.toks) { s with toks := s.toks + 1 }) : wpAny (model prog w) A (inplaceOp .BitXor (.int a t) (.int b u)) Q E s := ixor_int (h _ rfl)
theorem rsh_L (hn : 0 ≤ n) (h : ∀ x, x = a.fdiv (2 ^ n.toNat) → Q (.int x s.toks) { s with toks := s.toks + 1 }) : wpAny (model prog w) A (binaryOp .RShift (.int a t) (.int n u)) Q E s := rshift_int hn (h _ rfl)
theorem irsh_L (hn : 0 ≤ n) (h : ∀ x, x = a.fdiv (2 ^ n.toNat) → Q (.int x s.toks) { s with toks := s.toks + 1 }) : wpAny (model prog w) A (inplaceOp .RShift (.int a t) (.int n u)) Q E s := irshift_int hn (h _ rfl)
theorem lsh_L {k : Nat} (hb : Builtin.Int.intBits a ≤ k) (hn : 0 ≤ n) (hsz : (k : Int) + n ≤ 2 ^ 27) (h : ∀ x, x = a * 2 ^ n.toNat → Q (.int x s.toks) { s with toks := s.toks + 1 }) : wpAny (model prog w) A (binaryOp .LShift (.int a t) (.int n u)) Q E s := lshift_int hn (by omega) (h _ rfl)
theorem ilsh_L {k : Nat} (hb : Builtin.Int.intBits a ≤ k) (hn : 0 ≤ n) (hsz : (k : Int) + n ≤ 2 ^ 27) (h : ∀ x, x = a * 2 ^ n.toNat → Q (.int x s.toks) { s with toks := s.toks + 1 }) : wpAny (model prog w) A (inplaceOp .LShift (.int a t) (.int n u)) Q E s := ilshift_int hn (by omega) (h _ rfl)
theorem bits_L (h : ∀ x, x = (Builtin.Int.intBits a : Int) → Q (.int x s.toks) { s with toks := s.toks + 1 }) : wpAny (model prog w) A (call (.builtin "int.bit_length") [.int a t]) Q E s := call_int_bit_length (h _ rfl)
theorem mul_L (hm : IntMulOk a b) (h : ∀ x, x = a * b → Q (.int x s.toks) { s with toks := s.toks + 1 }) : wpAny (model prog w) A (binaryOp .Mult (.int a t) (.int b u)) Q E s := mul_int (h _ rfl) hm
theorem imul_L (hm : IntMulOk a b) (h : ∀ x, x = a * b → Q (.int x s.toks) { s with toks := s.toks + 1 }) : wpAny (model prog w) A (inplaceOp .Mult (.int a t) (.int b u)) Q E s := imul_int (h _ rfl) hm
theorem div_L (hb : b ≠ 0) (hp : Builtin.divisionGoesByPylong a b = false) (h : ∀ x, x = a.fdiv b → Q (.int x s.toks) { s with toks := s.toks + 1 }) : wpAny (model prog w) A (binaryOp .FloorDiv (.int a t) (.int b u)) Q E s := floordiv_int hb (h _ rfl) (.inl hp)
theorem mod_L (hb : b ≠ 0) (h : ∀ x, x = a.fmod b → Q (.int x s.toks) { s with toks := s.toks + 1 }) : wpAny (model prog w) A (binaryOp .Mod (.int a t) (.int b u)) Q E s := mod_int' hb (h _ rfl)
theorem pow_L (hn : 0 ≤ n) (hsz : (Builtin.Int.intBits a : Int) * n ≤ 2 ^ 27) (h : ∀ x, x = a ^ n.toNat → Q (.int x s.toks) { s with toks := s.toks + 1 }) : wpAny (model prog w) A (binaryOp .Pow (.int a t) (.int n u)) Q E s := pow_int hn hsz (h _ rfl)
end

section
variable {prog : Program} {w : World} {A : Around} {E : Value → Shared → Prop} {s : Shared} {env : Env} {h₀ : Heap} {L : Addr} {m : Str → Option Value} {news : Led}
theorem unpackH {elts : List Expr} {k} {pos : Pos} {D : Addr} {q : MP} {Q : Unit → Shared → Prop} (F : Fr h₀ L s.heap m) (N : News h₀ L s.heap news) (X : (hd.heap_39 w.params).In h₀) (H : TupH w news D q)
    (hh : A.handled = none) (hn : (assignEach elts env).length = 4) (hstar : (assignEach elts env).findIdx? (·.1) = none)
    (h : ∀ h' t1 t2 t3 t4, Fr h₀ L h' m → News h₀ L h' news → wpAny (model prog w) A (assignInOrder ((assignEach elts env).map (·.2)) [.int q.sg t1, .int q.man t2, .int q.ex t3, .int q.bc t4]) Q E { s with heap := h' }) :
    wpAny (model prog w) A (assign (.Tuple elts k pos) env (.ref D)) Q E s := by
  obtain ⟨t1, t2, t3, t4, ht⟩ := H.at F N X
  exact unpackN_ F N ht hh hn hstar fun h' F' N' => h h' _ _ _ _ F' N'
def mpAt (q : MP) (k : Int) : Int := if k = 0 then q.sg else if k = 1 then q.man else if k = 2 then q.ex else q.bc
theorem itemH {value slice : Expr} {D : Addr} {k : Int} {u : Tok} {q : MP} {x : Int} {Q : Value → Shared → Prop} (F : Fr h₀ L s.heap m) (N : News h₀ L s.heap news) (X : (hd.heap_39 w.params).In h₀) (H : TupH w news D q)
    (hk : 0 ≤ k ∧ k < 4) (hx : x = mpAt q k) (h : ∀ t, Q (.int x t) s) (hs : subscripted slice false (.ref D) (.int k u) = operate [.ref D, .int k u] (getItem (.ref D) (.int k u)) := by with_unfolding_all rfl) :
    wpAny (model prog w) A (subscriptTail value slice (.ref D) (.int k u)) Q E s := by
  obtain ⟨t1, t2, t3, t4, ht⟩ := H.at F N X
  have hk' : k = 0 ∨ k = 1 ∨ k = 2 ∨ k = 3 := by omega
  rcases hk' with rfl | rfl | rfl | rfl
  · exact item_tupleT (l := [.int q.sg t1, .int q.man t2, .int q.ex t3, .int q.bc t4]) (j := 0) ht (by decide) (by decide) (by rfl) (by rfl) (by rw [hx] at h; exact h t1) hs
  · exact item_tupleT (l := [.int q.sg t1, .int q.man t2, .int q.ex t3, .int q.bc t4]) (j := 1) ht (by decide) (by decide) (by rfl) (by rfl) (by rw [hx] at h; exact h t2) hs
  · exact item_tupleT (l := [.int q.sg t1, .int q.man t2, .int q.ex t3, .int q.bc t4]) (j := 2) ht (by decide) (by decide) (by rfl) (by rfl) (by rw [hx] at h; exact h t3) hs
  · exact item_tupleT (l := [.int q.sg t1, .int q.man t2, .int q.ex t3, .int q.bc t4]) (j := 3) ht (by decide) (by decide) (by rfl) (by rfl) (by rw [hx] at h; exact h t4) hs
theorem eqH {D D' : Addr} {q q' : MP} {Q : Value → Shared → Prop} (F : Fr h₀ L s.heap m) (N : News h₀ L s.heap news) (X : (hd.heap_39 w.params).In h₀) (H : TupH w news D q) (H' : TupH w news D' q') (hu : A.units + 64 < cLine)
    (h : Q (.bool (decide (q = q'))) s) : wpAny (model prog w) A (compareOp .Eq (.ref D) (.ref D')) Q E s := by
  obtain ⟨as, r⟩ := H.reads F N X
  obtain ⟨as', r'⟩ := H'.reads F N X
  exact eq_dataH r r' (mpData_shaped _) (mpData_shaped _) hu (by rw [mpData_eqv]; exact h)
theorem neH {D D' : Addr} {q q' : MP} {Q : Value → Shared → Prop} (F : Fr h₀ L s.heap m) (N : News h₀ L s.heap news) (X : (hd.heap_39 w.params).In h₀) (H : TupH w news D q) (H' : TupH w news D' q') (hu : A.units + 64 < cLine)
    (h : Q (.bool (!decide (q = q'))) s) : wpAny (model prog w) A (compareOp .NotEq (.ref D) (.ref D')) Q E s := by
  obtain ⟨as, r⟩ := H.reads F N X
  obtain ⟨as', r'⟩ := H'.reads F N X
  exact ne_dataH r r' (mpData_shaped _) (mpData_shaped _) hu (by rw [mpData_eqv]; exact h)
end

section
variable {P Q : Prop}
theorem pr_ine_t {a b : Int} (h : a ≠ b) (hp : P) : if (a != b) = true then P else Q := by rw [if_pos (by simpa using h)]; exact hp
theorem pr_ine_f {a b : Int} (h : a = b) (hp : Q) : if (a != b) = true then P else Q := by rw [if_neg (by simpa using h)]; exact hp
theorem pr_ieq_t {a b : Int} (h : a = b) (hp : P) : if (a == b) = true then P else Q := by rw [if_pos (by simpa using h)]; exact hp
theorem pr_ieq_f {a b : Int} (h : a ≠ b) (hp : Q) : if (a == b) = true then P else Q := by rw [if_neg (by simpa using h)]; exact hp
theorem pr_dec_t {c : Prop} [Decidable c] (h : c) (hp : P) : if decide c = true then P else Q := by rw [if_pos (by simpa using h)]; exact hp
theorem pr_dec_f {c : Prop} [Decidable c] (h : ¬ c) (hp : Q) : if decide c = true then P else Q := by rw [if_neg (by simpa using h)]; exact hp
theorem pr_ndec_t {c : Prop} [Decidable c] (h : ¬ c) (hp : P) : if (!decide c) = true then P else Q := by rw [if_pos (by simpa using h)]; exact hp
theorem pr_ndec_f {c : Prop} [Decidable c] (h : c) (hp : Q) : if (!decide c) = true then P else Q := by rw [if_neg (by simpa using h)]; exact hp
theorem sp_dec {c : Prop} [Decidable c] (h1 : c → P) (h2 : ¬ c → Q) : if decide c = true then P else Q := by
  by_cases h : c
  · exact pr_dec_t h (h1 h)
  · exact pr_dec_f h (h2 h)
theorem sp_ndec {c : Prop} [Decidable c] (h1 : ¬ c → P) (h2 : c → Q) : if (!decide c) = true then P else Q := by
  by_cases h : c
  · exact pr_ndec_f h (h2 h)
  · exact pr_ndec_t h (h1 h)
theorem sp_ine {a b : Int} (h1 : a ≠ b → P) (h2 : a = b → Q) : if (a != b) = true then P else Q := by
  by_cases h : a = b
  · exact pr_ine_f h (h2 h)
  · exact pr_ine_t h (h1 h)
theorem sp_ieq {a b : Int} (h1 : a = b → P) (h2 : a ≠ b → Q) : if (a == b) = true then P else Q := by
  by_cases h : a = b
  · exact pr_ieq_t h (h1 h)
  · exact pr_ieq_f h (h2 h)
end

theorem intBits_one : Builtin.Int.intBits 1 ≤ 1 := by decide +kernel

theorem MP.eq_of {q q' : MP} (h1 : q.sg = q'.sg) (h2 : q.man = q'.man) (h3 : q.ex = q'.ex) (h4 : q.bc = q'.bc) : q = q' := by
  cases q; cases q'; simp_all
/-- a number as normalize leaves it -/
def Wf (q : MP) : Prop := (q.sg = 0 ∨ q.sg = 1) ∧ 0 ≤ q.man ∧ q.bc = (Builtin.Int.intBits q.man : Int) ∧ (q.man = 0 → q.sg = 0 ∧ q.ex = 0 ∧ q.bc = 0) ∧ (q.man = 0 ∨ q.man % 2 = 1)
def Sm (N : Int) (q : MP) : Prop := q.bc ≤ N ∧ -N ≤ q.ex ∧ q.ex ≤ N
def negF (q : MP) : MP := if q.man = 0 then q else ⟨1 - q.sg, q.man, q.ex, q.bc⟩
def absF (q : MP) : MP := if q.sg = 0 then q else ⟨0, q.man, q.ex, q.bc⟩
def signF (q : MP) : Int := if q.man = 0 then 0 else if q.sg = 0 then 1 else -1
def shiftF (q : MP) (n : Int) : MP := if q.man = 0 then q else ⟨q.sg, q.man, q.ex + n, q.bc⟩
/-- the rounding step: what is left of man -/
def cutF (sign man n : Int) (r : Rnd) : Int :=
  match r with
  | .n => if Builtin.bitAnd (man.fdiv (2 ^ (n - 1).toNat)) 1 ≠ 0 ∧ (Builtin.bitAnd (man.fdiv (2 ^ (n - 1).toNat)) 2 ≠ 0 ∨ Builtin.bitAnd man (1 * 2 ^ (n - 1).toNat - 1) ≠ 0)
      then (man.fdiv (2 ^ (n - 1).toNat)).fdiv (2 ^ (1 : Int).toNat) + 1 else (man.fdiv (2 ^ (n - 1).toNat)).fdiv (2 ^ (1 : Int).toNat)
  | .f => if sign = 0 then man.fdiv (2 ^ n.toNat) else -((-man).fdiv (2 ^ n.toNat))
  | .c => if sign = 0 then -((-man).fdiv (2 ^ n.toNat)) else man.fdiv (2 ^ n.toNat)
  | .d => man.fdiv (2 ^ n.toNat)
  | .u => -((-man).fdiv (2 ^ n.toNat))
/-- the stripping step -/
def stripF (sign man exp bc : Int) : MP :=
  if Builtin.bitAnd man 1 = 0 then ⟨sign, man.fdiv (2 ^ (trailF man).toNat), exp + trailF man, if man.fdiv (2 ^ (trailF man).toNat) = 1 then 1 else bc - trailF man⟩
  else ⟨sign, man, exp, if man = 1 then 1 else bc⟩
def normF (sign man exp bc prec : Int) (r : Rnd) : MP :=
  if man = 0 then fzero else if 0 < bc - prec then stripF sign (cutF sign man (bc - prec) r) (exp + (bc - prec)) prec else stripF sign man exp bc
def fme0N (s m exp : Int) : MP :=
  if m = 0 then fzero else if Builtin.bitAnd m 1 = 0 then (if Builtin.bitAnd m 2 ≠ 0 then ⟨s, m.fdiv (2 ^ (1 : Int).toNat), exp + 1, (Builtin.Int.intBits m : Int) - 1⟩
    else ⟨s, m.fdiv (2 ^ (trailF m).toNat), exp + trailF m, (Builtin.Int.intBits m : Int) - trailF m⟩) else ⟨s, m, exp, (Builtin.Int.intBits m : Int)⟩
def fme0 (man exp : Int) : MP := if man < 0 then fme0N 1 (-man) exp else fme0N 0 man exp
def fmeF (man exp prec : Int) (r : Rnd) : MP := if man < 0 then normF 1 (-man) exp (Builtin.Int.intBits (-man) : Int) prec r else normF 0 man exp (Builtin.Int.intBits man : Int) prec r

theorem fac_pos {x a k : Int} (hx : x = a * 2 ^ k.toNat) (ha : 0 < a) : 0 < x := by
  subst hx
  exact Int.mul_pos ha (Int.pow_pos (by decide))
end
section
/-- the frame as two written lists: the names, and what stands there -/
def fm : List Str → List (Option Value) → Str → Option Value
  | x :: ns, v :: vs, y => if y = x then v else fm ns vs y
  | _, _, _ => none
/-- at this name stands this value -/
inductive At : List Str → List (Option Value) → Str → Value → Prop
  | here {x : Str} {ns : List Str} {v : Value} {vs : List (Option Value)} : At (x :: ns) (some v :: vs) x v
  | there {x y : Str} {ns : List Str} {v : Value} {w : Option Value} {vs : List (Option Value)} : At ns vs x v → At (y :: ns) (w :: vs) x v
inductive Put : List Str → List (Option Value) → Str → Value → List (Option Value) → Prop
  | here {x : Str} {ns : List Str} {v : Value} {w : Option Value} {vs : List (Option Value)} : Put (x :: ns) (w :: vs) x v (some v :: vs)
  | there {x y : Str} {ns : List Str} {v : Value} {w : Option Value} {vs vs' : List (Option Value)} : Put ns vs x v vs' → Put (y :: ns) (w :: vs) x v (w :: vs')
/-- the first names are the arguments, in their order -/
inductive Bnd : List Str → List (Option Value) → List (Str × Value) → Prop
  | rest {ns : List Str} {vs : List (Option Value)} (h : ∀ v ∈ vs, v = none) : Bnd ns vs []
  | cons {x : Str} {v : Value} {ns : List Str} {vs : List (Option Value)} {bs : List (Str × Value)} : Bnd ns vs bs → Bnd (x :: ns) (some v :: vs) ((x, v) :: bs)
def loB (cs : Scope) (ns : List Str) : Bool := cs.kind == .function && decide ns.Nodup && ns.all fun x => cs.names.lookup x == some .local && !(x == ("__debug__" : Str))
/-- these are names of the def's own, each once -/
def Lo (cs : Scope) (ns : List Str) : Prop := loB cs ns = true
theorem Lo.out {cs : Scope} {ns : List Str} (K : Lo cs ns) : cs.kind = .function ∧ ns.Nodup ∧ ∀ x ∈ ns, cs.names.lookup x = some .local ∧ (x == ("__debug__" : Str)) = false := by
  simp only [Lo, loB, Bool.and_eq_true, List.all_eq_true, decide_eq_true_eq, beq_iff_eq, Bool.not_eq_true'] at K
  exact ⟨K.1.1, K.1.2, K.2⟩
theorem At.mem {ns : List Str} {vs : List (Option Value)} {x : Str} {v : Value} (h : At ns vs x v) : x ∈ ns := by
  induction h with
  | here => exact .head _
  | there _ ih => exact .tail _ ih
theorem At.get {ns : List Str} {vs : List (Option Value)} {x : Str} {v : Value} (h : At ns vs x v) (nd : ns.Nodup) : fm ns vs x = some v := by
  induction h with
  | here => exact if_pos rfl
  | there h ih =>
    rw [List.nodup_cons] at nd
    rename_i x z _ _ _ _
    have hne : x ≠ z := fun e => nd.1 (e ▸ h.mem)
    exact (if_neg hne).trans (ih nd.2)
theorem Put.mem {ns : List Str} {vs vs' : List (Option Value)} {x : Str} {v : Value} (h : Put ns vs x v vs') : x ∈ ns := by
  induction h with
  | here => exact .head _
  | there _ ih => exact .tail _ ih
theorem Put.put {ns : List Str} {vs vs' : List (Option Value)} {x : Str} {v : Value} (h : Put ns vs x v vs') (nd : ns.Nodup) : (fun y => if y = x then some v else fm ns vs y) = fm ns vs' := by
  induction h with
  | here =>
    funext y
    dsimp only [fm]
    split <;> rfl
  | @there x z ns v w vs vs' h ih =>
    rw [List.nodup_cons] at nd
    have i := ih nd.2
    funext y
    have iy := congrFun i y
    try dsimp only at iy
    dsimp only [fm]
    by_cases e : y = x
    · subst e
      rw [if_pos rfl, if_neg (fun (e : y = z) => nd.1 (e ▸ h.mem)), ← iy, if_pos rfl]
    · rw [if_neg e] at iy ⊢
      rw [iy]
theorem fm_none : ∀ (ns : List Str) (vs : List (Option Value)), (∀ v ∈ vs, v = none) → ∀ y, fm ns vs y = none
  | [], _, _, _ => by unfold fm; rfl
  | _ :: _, [], _, _ => by unfold fm; rfl
  | x :: ns, v :: vs, h, y => by
    dsimp only [fm]
    split
    · exact h v (.head _)
    · exact fm_none ns vs (fun v hv => h v (.tail _ hv)) y
theorem Bnd.sub {ns : List Str} {vs : List (Option Value)} {bs : List (Str × Value)} (h : Bnd ns vs bs) : ∀ p ∈ bs, p.1 ∈ ns := by
  induction h with
  | rest => intro p hp; cases hp
  | cons _ ih =>
    intro p hp
    rcases List.mem_cons.mp hp with rfl | hp
    · exact .head _
    · exact .tail _ (ih p hp)
theorem Bnd.look {ns : List Str} {vs : List (Option Value)} {bs : List (Str × Value)} (h : Bnd ns vs bs) (nd : ns.Nodup) : (fun y => bs.reverse.lookup y) = fm ns vs := by
  induction h with
  | rest h => funext y; rw [fm_none _ _ h]; rfl
  | @cons x v ns vs bs h ih =>
    rw [List.nodup_cons] at nd
    have i := ih nd.2
    funext y
    have iy := congrFun i y
    try dsimp only at iy
    dsimp only [fm]
    rw [List.reverse_cons, List.lookup_append, iy]
    by_cases e : y = x
    · subst e
      rw [if_pos rfl]
      have hn : fm ns vs y = none := by
        rw [← iy]
        exact List.lookup_eq_none_iff.mpr fun p hp => by
          have := h.sub p (List.mem_reverse.mp hp)
          simp only [bne_iff_ne, ne_eq, beq_eq_false_iff_ne]
          intro e
          exact nd.1 (e ▸ this)
      rw [hn, Option.none_or, List.lookup_cons, beq_self_eq_true]
    · rw [if_neg e, List.lookup_cons]
      have : (y == x) = false := by simpa using e
      rw [this]
      exact Option.or_none
section
variable {M : Model} {A : Around} {E : Value → Shared → Prop} {s : Shared} {h₀ : Heap} {L a : Addr} {cn : Str} {cs : Scope} {ccd : Value} {ns : List Str} {vs vs' : List (Option Value)} {x : Str} {v : Value} {news : Led}
theorem nameF {pos : Pos} {Q : Value → Shared → Prop} (K : Lo cs ns) (F : Fr h₀ L s.heap (fm ns vs)) (T : At ns vs x v) (h : Q v s) : wpAny M A (eval (.Name x pos) (envOf cn cs L a ccd)) Q E s :=
  wpAny_Name (wpAny_loadName_local (env := envOf cn cs L a ccd) K.out.1 (K.out.2.2 x T.mem).1 F.ns (T.get K.out.2.1) h) (K.out.2.2 x T.mem).2
theorem loadF {Q : Value → Shared → Prop} (K : Lo cs ns) (F : Fr h₀ L s.heap (fm ns vs)) (T : At ns vs x v) (h : Q v s) : wpAny M A (loadName (envOf cn cs L a ccd) x) Q E s :=
  wpAny_loadName_local (env := envOf cn cs L a ccd) K.out.1 (K.out.2.2 x T.mem).1 F.ns (T.get K.out.2.1) h
theorem storeF {Q : Unit → Shared → Prop} (K : Lo cs ns) (F : Fr h₀ L s.heap (fm ns vs)) (N : News h₀ L s.heap news) (T : Put ns vs x v vs')
    (h : ∀ h', Fr h₀ L h' (fm ns vs') → News h₀ L h' news → Q () { s with heap := h', toks := s.toks + 1 }) : wpAny M A (storeName (envOf cn cs L a ccd) x v) Q E s := by
  have e := T.put K.out.2.1
  refine storeX_L (cl := []) F N (fun h' F' N' => h h' (by rw [← e]; exact F') N') K.out.1 (K.out.2.2 x T.mem).1
end
section
variable {p : Program} {w : World} {loose : List Str} {mean : ExcName → Option Value} {mg mb : Str → Option Value} {A₀ A : Around} {s : Shared} {base h₀ : Heap} {outer : List Env} {L : Addr} {m : Str → Option Value} {news : Led} {K : Frag} {prog : Program}
theorem enterF {ns : List Str} {vs : List (Option Value)} {env : Env} {R : Result → Shared → Prop} {name qual : Str} {params : Arguments} {body : List Stmt} {scope : Scope} {dV kV doc pm cdv ct oc : Value} {an od : Option Addr} {osl : Array (Option Value)} {f : Addr} {args : Args} {binds : List (Str × Value)}
    (Z : Bnd ns vs binds) (B : Below A₀ base outer h₀) (F : Fr h₀ L s.heap m) (X₀ : K.In h₀) (N : News h₀ L s.heap news) (T : Top p loose mean mg mb h₀) (hA : A.frames = some (env :: outer)) (hf : env.frame = some L) (hke : env.scope.kind = .function)
    (ho : K.lookup f = some ⟨oc, od, .func (fnOf name qual params body scope dV kV doc pm an cdv ct), osl⟩) (hcd : codeIn K cdv qual = true) (hroom : A.depth < recursionLimit)
    (hbind : BindsTo s (fnOf name qual params body scope dV kV doc pm an cdv ct) args binds) (hlo : Lo scope ns)
    (h : ∀ g L' h₁ tk, Fr h₀ L g m → Fr g L' h₁ (fm ns vs) → News g L' h₁ news → Below A base (env :: outer) g → K.In g → Top p loose mean mg mb g → Lo scope ns →
      wpAny (model prog w) (A.deeper (envOf qual scope L' f cdv)) (execs body (envOf qual scope L' f cdv))
        (fun fl s' => LeaveK h₀ L m g R (match fl with | .ret v => v | _ => .none) s')
        (fun e s' => wpAny (model prog w) (A.deeper (envOf qual scope L' f cdv)) (leaving (envOf qual scope L' f cdv) e) (fun _ s'' => R (.error e) s'') (fun e' s'' => R (.error e') s'') s')
        { s with heap := h₁, toks := tk })
    (hco : scope.isCoroutine = false) (hgen : scope.isGenerator = false)
    (hcell : (scope.names.all fun x => x.2 != .cell) = true) : codeAny (model prog w) A (.call (.ref f) args) R s := by
  obtain ⟨l1, l2, l3⟩ := hlo.out
  refine code_def B F X₀ N T hA hf hke ho hcd hroom hbind (fun y hy => (l3 _ (Z.sub y hy)).1) (fun g L' h₁ FG F' N' B' X' T' => ?_) hco hgen l1 (fun x hx => by
    have := List.all_eq_true.mp hcell x hx
    simpa using this)
  rw [Z.look l2] at F'
  exact h g L' h₁ _ FG F' N' B' X' T' hlo
end
section
variable {M : Model} {A : Around} {E : Value → Shared → Prop} {s : Shared} {env : Env} {st : Stmt} {g : Heap} {L : Addr} {ns : List Str} {vs : List (Option Value)} {news : Led} {Q : Flow → Shared → Prop}
/-- the ways behind a statement meet: of the frame only V is known -/
theorem joinF {V : List (Option Value) → Prop} (_ : Fr g L s.heap (fm ns vs)) (_ : News g L s.heap news)
    (h1 : ∀ QQ EE, (∀ h tk vs', Fr g L h (fm ns vs') → News g L h news → V vs' → QQ Flow.next { s with heap := h, toks := tk }) → wpAny M A (exec st env) QQ EE s)
    (h2 : ∀ h tk vs', Fr g L h (fm ns vs') → News g L h news → V vs' → Q Flow.next { s with heap := h, toks := tk }) : wpAny M A (exec st env) Q E s := h1 Q E h2
end
theorem add_binds {w : World} {fd fd' : FuncData} {oc oc' : Value} {od od' : Option Addr} {osl osl' : Array (Option Value)} {f : Addr} (h : (hd.heap_39 w.params).lookup f = some ⟨oc, od, .func fd, osl⟩) (h' : (hd.heap_39 w.params).lookup f = some ⟨oc', od', .func fd', osl'⟩) : fd = fd' := by
  rw [h] at h'
  cases h'
  rfl
/-- however the call is made, its names are bound so -/
def BindsSo (w : World) (f : Addr) (vs : List Value) (binds : List (Str × Value)) : Prop :=
  ∀ (s : Shared) (fd : FuncData) (oc : Value) (od : Option Addr) (osl : Array (Option Value)), (hd.heap_39 w.params).In s.heap → (hd.heap_39 w.params).lookup f = some ⟨oc, od, .func fd, osl⟩ → BindsTo s fd ⟨vs, []⟩ binds
section
variable {P Q : Prop}
theorem pr_tt (hp : P) : if true = true then P else Q := hp
theorem pr_ff (hp : Q) : if false = true then P else Q := hp
theorem pr_b_t {c : Bool} (h : c = true) (hp : P) : if c = true then P else Q := by rw [if_pos h]; exact hp
theorem pr_b_f {c : Bool} (h : c = false) (hp : Q) : if c = true then P else Q := by rw [h]; exact hp
end
section
variable {M : Model} {A : Around} {E : Value → Shared → Prop} {s : Shared} {env : Env} {st : Stmt} {g : Heap} {L : Addr} {ns : List Str} {vs : List (Option Value)} {news : Led} {Q : Flow → Shared → Prop}
/-- the ways meet where two ints have been told, of which R holds -/
theorem joinI {R : Int → Int → Prop} (i j : Nat) (_ : Fr g L s.heap (fm ns vs)) (_ : News g L s.heap news)
    (h1 : ∀ QQ EE, (∀ h tk M tM S tS, Fr g L h (fm ns ((vs.set i (some (.int M tM))).set j (some (.int S tS)))) → News g L h news → R M S → QQ Flow.next { s with heap := h, toks := tk }) → wpAny M A (exec st env) QQ EE s)
    (h2 : ∀ h tk M tM S tS, Fr g L h (fm ns ((vs.set i (some (.int M tM))).set j (some (.int S tS)))) → News g L h news → R M S → Q Flow.next { s with heap := h, toks := tk }) : wpAny M A (exec st env) Q E s := h1 Q E h2
/-- the statement returns a tuple, or goes on with one more name -/
theorem joinRet {w : World} {C : Prop} {q : MP} (j : Nat) (_ : Fr g L s.heap (fm ns vs)) (_ : News g L s.heap news)
    (h1 : ∀ QQ EE, (∀ h tk dv, Fr g L h (fm ns (vs.set j dv)) → News g L h news → ¬ C → QQ Flow.next { s with heap := h, toks := tk }) →
      (∀ D h tk vs' nw', Fr g L h (fm ns vs') → News g L h nw' → Sub news nw' → TupH w nw' D q → C → QQ (Flow.ret (.ref D)) { s with heap := h, toks := tk }) → wpAny M A (exec st env) QQ EE s)
    (h2 : ∀ h tk dv, Fr g L h (fm ns (vs.set j dv)) → News g L h news → ¬ C → Q Flow.next { s with heap := h, toks := tk })
    (h3 : ∀ D h tk vs' nw', Fr g L h (fm ns vs') → News g L h nw' → Sub news nw' → TupH w nw' D q → C → Q (Flow.ret (.ref D)) { s with heap := h, toks := tk }) : wpAny M A (exec st env) Q E s := h1 Q E h2 h3
end
section
variable {dp un K k : Nat} {gd : Option (List Code)} {cn : Str} {cs : Scope} {L a : Addr} {ccd : Value} {cl : List (Str × Addr)} {outer : List Env}
theorem room_K (h : dp + K < recursionLimit) (e : 1 + k ≤ K) : (ktrTop dp un gd cn cs L a ccd cl outer).depth + 1 + k < recursionLimit := by
  show dp + 1 + k < recursionLimit
  omega
theorem room_0 (h : dp + K < recursionLimit) : (ktrTop dp un gd cn cs L a ccd cl outer).depth < recursionLimit := by
  show dp < recursionLimit
  omega
theorem units_K (h : un + 8 * K + 100 < cLine) (e : 3 + 8 * k ≤ 8 * K) : (ktrTop dp un gd cn cs L a ccd cl outer).units + 3 + 8 * k + 100 < cLine := by
  show un + 3 + 8 * k + 100 < cLine
  omega
end
/-- a written def's own word of a name -/
def isK (cs : Scope) (x : Str) (k : NameKind) : Bool := cs.kind == .function && cs.names.lookup x == some k && !(x == ("__debug__" : Str))
theorem isK.out {cs : Scope} {x : Str} {k : NameKind} (h : isK cs x k = true) : cs.kind = .function ∧ cs.names.lookup x = some k ∧ (x == ("__debug__" : Str)) = false := by
  simpa only [isK, Bool.and_eq_true, beq_iff_eq, Bool.not_eq_true', and_assoc] using h
inductive CAt : List (Str × Addr) → Str → Addr → Prop
  | here {x : Str} {c : Addr} {r : List (Str × Addr)} : CAt ((x, c) :: r) x c
  | there {x y : Str} {c d : Addr} {r : List (Str × Addr)} : CAt r x c → CAt ((y, d) :: r) x c
theorem CAt.mem {cl : List (Str × Addr)} {x : Str} {c : Addr} (h : CAt cl x c) : x ∈ cl.map (·.1) := by
  induction h with
  | here => exact .head _
  | there _ ih => exact .tail _ ih
theorem CAt.get {cl : List (Str × Addr)} {x : Str} {c : Addr} (h : CAt cl x c) (nd : (cl.map (·.1)).Nodup) : cl.lookup x = some c := by
  induction h with
  | here => rw [List.lookup_cons, beq_self_eq_true]
  | @there x y c d r h ih =>
    rw [List.map_cons, List.nodup_cons] at nd
    have hne : x ≠ y := fun e => nd.1 (e ▸ h.mem)
    have : (x == y) = false := by simpa using hne
    rw [List.lookup_cons, this]
    exact ih nd.2
/-- where a def's cells lie -/
def CellsIs (cs : Scope) (L : Addr) (cl : List (Str × Addr)) : Prop := cellsFrom (L + 1) cs.names [] = cl ∧ (cl.map (·.1)).Nodup
section
variable {M : Model} {A : Around} {E : Value → Shared → Prop} {s : Shared} {K : Frag} {h₀ : Heap} {L a c : Addr} {m mg mb : Str → Option Value} {cn : Str} {cs : Scope} {ccd : Value} {cl : List (Str × Addr)} {p : Program} {loose : List Str}
  {x : Str} {pos : Pos} {v : Value} {Q : Value → Shared → Prop} {news : Led} {o : Obj}
theorem nameG (F : Fr h₀ L s.heap m) (X : K.In h₀) (T : TopRead p loose mg mb h₀) (e : nsIn K mainGlobals x = some (some v)) (hx : isK cs x .globalImplicit = true) (h : Q v s) : wpAny M A (eval (.Name x pos) (envOf cn cs L a ccd)) Q E s :=
  nameX_K (cl := []) F X T e h (isK.out hx).1 (isK.out hx).2.1 (isK.out hx).2.2
theorem nameGC (F : Fr h₀ L s.heap m) (X : K.In h₀) (T : TopRead p loose mg mb h₀) (e : nsIn K mainGlobals x = some (some v)) (hx : isK cs x .globalImplicit = true) (h : Q v s) : wpAny M A (eval (.Name x pos) (envOfC cn cs L a ccd)) Q E s :=
  nameX_K (cl := cellsFrom (L + 1) cs.names []) F X T e h (isK.out hx).1 (isK.out hx).2.1 (isK.out hx).2.2
theorem nameLC (F : Fr h₀ L s.heap m) (hv : m x = some v) (hx : isK cs x .local = true) (h : Q v s) : wpAny M A (eval (.Name x pos) (envOfC cn cs L a ccd)) Q E s :=
  nameX_L (cl := cellsFrom (L + 1) cs.names []) F hv h (isK.out hx).1 (isK.out hx).2.1 (isK.out hx).2.2
theorem nameCC (C : CellsIs cs L cl) (N : News h₀ L s.heap news) (T : CAt cl x c) (hm : (c, o) ∈ news) (hd : o.data = .cell (some v)) (hx : isK cs x .cell = true) (h : Q v s) : wpAny M A (eval (.Name x pos) (envOfC cn cs L a ccd)) Q E s :=
  nameX_C (cl := cellsFrom (L + 1) cs.names []) N (by rw [C.1]; exact T.get C.2) hm hd h (isK.out hx).1 (isK.out hx).2.1 (isK.out hx).2.2
theorem startC {α : Type} {T : Sem α} {Q : α → Shared → Prop} {x1 x2 x3 x4 x5 x6 : Str} (hc : cellsFrom (L + 1) cs.names [] = [(x6, L + 1 + 1 + 1 + 1 + 1 + 1), (x5, L + 1 + 1 + 1 + 1 + 1), (x4, L + 1 + 1 + 1 + 1), (x3, L + 1 + 1 + 1), (x2, L + 1 + 1), (x1, L + 1)])
    (hn : [x6, x5, x4, x3, x2, x1].Nodup) (h : CellsIs cs L [(x6, L + 1 + 1 + 1 + 1 + 1 + 1), (x5, L + 1 + 1 + 1 + 1 + 1), (x4, L + 1 + 1 + 1 + 1), (x3, L + 1 + 1 + 1), (x2, L + 1 + 1), (x1, L + 1)] → wpAny M (A.deeper (envOfC cn cs L a ccd)) T Q E s) :
    wpAny M (A.deeper (envOfC cn cs L a ccd)) T Q E s := h ⟨hc, hn⟩
end
theorem cell_some {o : Obj} {v : Option Value} (h : o.data = .cell v) : ∃ v, o.data = .cell v := ⟨v, h⟩
end
section
local macro_rules | `(tactic| walk_at "binaryOp BitAnd int int") => `(tactic| (k_here; with_reducible (refine band_L ?_); intro x9 hx9))
local macro_rules | `(tactic| walk_at "binaryOp BitXor int int") => `(tactic| (k_here; with_reducible (refine bxor_L ?_); intro x9 hx9))
local macro_rules | `(tactic| walk_at "inplaceOp BitXor int int") => `(tactic| (k_here; with_reducible (refine ibxor_L ?_); intro x9 hx9))
local macro_rules | `(tactic| walk_at "binaryOp RShift int int") => `(tactic| (k_here; with_reducible (refine rsh_L ?k1 ?_); (case k1 => omega); intro x9 hx9))
local macro_rules | `(tactic| walk_at "inplaceOp RShift int int") => `(tactic| (k_here; with_reducible (refine irsh_L ?k1 ?_); (case k1 => omega); intro x9 hx9))
local macro_rules | `(tactic| k_extra "bitsle") => `(tactic| first | with_reducible assumption | with_reducible exact intBits_one | exact intBits_one | exact Nat.le_refl _)
local macro_rules | `(tactic| walk_at "binaryOp LShift int int") => `(tactic| (k_here; with_reducible (refine' lsh_L ?k0 ?k1 ?k2 ?_); (case k0 => k_dflt (k_extra "bitsle")); (case k1 => k_dflt omega); (case k2 => k_dflt omega); intro x9 hx9; (try (have px9 := fac_pos hx9 (by k_dflt omega)))))
local macro_rules | `(tactic| walk_at "inplaceOp LShift int int") => `(tactic| (k_here; with_reducible (refine' ilsh_L ?k0 ?k1 ?k2 ?_); (case k0 => k_dflt (k_extra "bitsle")); (case k1 => k_dflt omega); (case k2 => k_dflt omega); intro x9 hx9; (try (have px9 := fac_pos hx9 (by k_dflt omega)))))
local macro_rules | `(tactic| walk_at "call builtin:int.bit_length") => `(tactic| (k_here; with_reducible (refine bits_L ?_); intro x9 hx9))
local macro_rules | `(tactic| k_extra "mulok") => `(tactic| first | assumption | fail "mulok")
local macro_rules | `(tactic| walk_at "binaryOp Mult int int") => `(tactic| (k_here; with_reducible (refine mul_L ?k0 ?_); (case k0 => k_extra "mulok"); intro x9 hx9))
local macro_rules | `(tactic| walk_at "inplaceOp Mult int int") => `(tactic| (k_here; with_reducible (refine imul_L ?k0 ?_); (case k0 => k_extra "mulok"); intro x9 hx9))
local macro_rules | `(tactic| k_extra "tuph") => `(tactic| first | with_reducible assumption | exact TupH.fzero _ _ | exact TupH.fnan _ _ | exact TupH.finf _ _ | exact TupH.fninf _ _ | ((with_reducible (refine' TupH.cons ?hh)); (case hh => k_extra "tuph")) | ((with_reducible (refine' TupH.sub ?hs ?hh)); (case hs => with_reducible assumption); (case hh => k_extra "tuph")) | fail "tuph")
local macro_rules | `(tactic| k_extra "subl") => `(tactic| first | exact Sub.rfl | with_reducible assumption | (with_reducible refine Sub.cons ?_; k_extra "subl") | (with_reducible refine' Sub.trans ?hh ?hs; (case hs => with_reducible assumption); (case hh => k_extra "subl")) | fail "subl")
local macro_rules | `(tactic| walk_at "assign Tuple") => `(tactic| (k_here; (with_reducible show wpAny _ _ (assign (Expr.Tuple _ _ _) _ (Value.ref _)) _ _ _); k_dflt (refine' unpackH ?F ?N ?X ?H ?k1 ?k2 ?k3 ?_; (case F => k_asm); (case N => k_asm); (case X => k_asm); (case H => k_extra "tuph"); (case k1 => exact rfl); (case k2 => exact rfl); (case k3 => exact rfl)); intro h' t1' t2' t3' t4' F' N'; (try k_sweep)))
local macro_rules | `(tactic| walk_at "subscriptTail") => `(tactic| (k_here; (with_reducible show wpAny _ _ (subscriptTail _ _ (Value.ref _) (Value.int _ _)) _ _ _); k_dflt (refine' itemH ?F ?N ?X ?H ?k1 ?k2 ?_ ?k3; (case F => k_asm); (case N => k_asm); (case X => k_asm); (case H => k_extra "tuph"); (case k1 => decide); (case k2 => exact rfl); (case k3 => with_unfolding_all rfl)); intro t1'))
local macro_rules | `(tactic| k_extra "units64") => `(tactic| first | omega | exact Nat.le_of_ble_eq_true rfl | ((try dsimp only [ktrTop, Around.deeper, Around.in1]); omega))
local macro_rules | `(tactic| walk_at "compareOp Eq ref ref") => `(tactic| (k_here; (with_reducible show wpAny _ _ (compareOp CmpOp.Eq (Value.ref _) (Value.ref _)) _ _ _); k_dflt (refine' eqH ?F ?N ?X ?H ?H' ?u ?_; (case F => k_asm); (case N => k_asm); (case X => k_asm); (case H => k_extra "tuph"); (case H' => k_extra "tuph"); (case u => k_extra "units64"))))
local macro_rules | `(tactic| walk_at "compareOp NotEq ref ref") => `(tactic| (k_here; (with_reducible show wpAny _ _ (compareOp CmpOp.NotEq (Value.ref _) (Value.ref _)) _ _ _); k_dflt (refine' neH ?F ?N ?X ?H ?H' ?u ?_; (case F => k_asm); (case N => k_asm); (case X => k_asm); (case H => k_extra "tuph"); (case H' => k_extra "tuph"); (case u => k_extra "units64"))))
local macro_rules | `(tactic| k_extra "mysteps") => `(tactic| repeat' (first | (k_unfold; (try dsimp only)) | (walk1; try dsimp only) | (dsimp only; walk1) | fail "no step"))
local macro_rules | `(tactic| k_extra "kroom") => `(tactic| first | exact room_K (by with_reducible assumption) (by decide) | exact room_0 (by with_reducible assumption) | decide +kernel | omega | ktr_room)
local macro_rules | `(tactic| k_extra "kunits") => `(tactic| first | exact units_K (by with_reducible assumption) (by decide) | decide +kernel | omega | ktr_units)
local macro_rules | `(tactic| k_extra "letters") => `(tactic| repeat (first
  | (rename (_ = Int.fdiv _ _) => hz; subst hz) | (rename (_ = Builtin.bitAnd _ _) => hz; subst hz) | (rename (_ = trailF _) => hz; subst hz) | (rename (_ = Builtin.bitXor _ _) => hz; subst hz)
  | (rename (_ = ((Builtin.Int.intBits _ : Nat) : Int)) => hz; subst hz) | (rename ((_ : Int) = _ * _) => hz; subst hz) | (rename ((_ : Int) = _ ^ _) => hz; subst hz) | (rename (_ = Int.fmod _ _) => hz; subst hz)))
local macro_rules | `(tactic| k_extra "dec") => `(tactic| first
  | with_reducible assumption
  | omega
  | k_dflt (intro hmp; (have e1 := congrArg MP.sg hmp); (have e2 := congrArg MP.man hmp); (have e3 := congrArg MP.ex hmp); (dsimp only [fzero] at e1 e2 e3); omega)
  | k_dflt (refine MP.eq_of ?_ ?_ ?_ ?_ <;> (dsimp only [fzero]; omega))
  | fail "dec")
local macro_rules | `(tactic| walk_at "ite") => `(tactic| (k_here; first
  | (with_reducible refine pr_tt ?_) | (with_reducible refine pr_ff ?_)
  | (with_reducible refine pr_ine_t ?_ ?_; (focus (k_extra "dec"))) | (with_reducible refine pr_ine_f ?_ ?_; (focus (k_extra "dec"))) | (with_reducible refine sp_ine ?_ ?_ <;> intro hif)
  | (with_reducible refine pr_ieq_t ?_ ?_; (focus (k_extra "dec"))) | (with_reducible refine pr_ieq_f ?_ ?_; (focus (k_extra "dec"))) | (with_reducible refine sp_ieq ?_ ?_ <;> intro hif)
  | (with_reducible refine pr_dec_t ?_ ?_; (focus (k_extra "dec"))) | (with_reducible refine pr_dec_f ?_ ?_; (focus (k_extra "dec"))) | (with_reducible refine sp_dec ?_ ?_ <;> intro hif)
  | (with_reducible refine pr_ndec_t ?_ ?_; (focus (k_extra "dec"))) | (with_reducible refine pr_ndec_f ?_ ?_; (focus (k_extra "dec"))) | (with_reducible refine sp_ndec ?_ ?_ <;> intro hif)
  | (k_closed; (with_reducible refine' pr_b_t ?hh ?_); (case hh => decide +kernel)) | (k_closed; (with_reducible refine' pr_b_f ?hh ?_); (case hh => decide +kernel))))
local macro_rules | `(tactic| k_extra "prem") => `(tactic| first | with_reducible assumption | omega)
local macro_rules | `(tactic| k_extra "tlargs") => `(tactic| (
  (case k1 => k_asm); (case k2 => k_asm); (case k3 => k_asm); (case k4 => k_asm); (case k5 => k_asm); (case kK => first | exact rfl | assumption); (case kd => k_extra "kroom"); (case ku => k_extra "kunits")))
local macro_rules | `(tactic| k_extra "tltup") => `(tactic| (intro r9 nw9 h9 tk9 F9 N9 S9 ho9; obtain ⟨D9, e9, H9⟩ := ho9; subst e9; (try dsimp only); (try k_sweep); (try k_fold)))
local macro_rules | `(tactic| k_extra "tlint") => `(tactic| (intro r9 nw9 h9 tk9 F9 N9 S9 ho9; obtain ⟨x9, t9, e9, hx9⟩ := ho9; subst e9; (try dsimp only); (try k_sweep); (try k_fold)))
local macro_rules | `(tactic| k_extra "rettup") => `(tactic| (
  rename (∀ r nw' h' tk', Fr _ _ h' _ → News _ _ h' nw' → Sub _ nw' → _ → _) => hret
  refine hret _ _ _ _ (by k_asm) (by k_asm) (by k_extra "subl") ⟨_, rfl, ?_⟩))
local macro_rules | `(tactic| k_extra "mite") => `(tactic| first
  | with_reducible rfl
  | (refine (if_pos ?_).trans ?_; (focus (k_extra "dec")); k_extra "mite")
  | (refine (if_neg ?_).trans ?_; (focus (k_extra "dec")); k_extra "mite")
  | (refine MP.ext4 ?_ ?_ ?_ ?_ <;> k_extra "mite")
  | omega
  | fail "mite")
local macro_rules | `(tactic| k_extra "tltr") => `(tactic| (intro r9 nw9 h9 tk9 F9 N9 S9 ho9; obtain ⟨x9, t9, e9, p9, hx9⟩ := ho9; subst e9; (try dsimp only); (try k_sweep); (try k_fold)))
local macro_rules | `(tactic| walk_at "And") => `(tactic| ((with_reducible show Frag.In _ _ ∧ _); k_dflt (refine' ⟨Frag.In.keeps ?k1 (Fr.keep ?k2), ?_⟩; (case k1 => with_reducible assumption); (case k2 => with_reducible assumption)); try dsimp only [List.nil_append, List.cons_append]))
local macro_rules | `(tactic| k_extra "tlargs2") => `(tactic| (
  (case k1 => k_asm); (case k3 => k_asm); (case k5 => k_asm); (case kK => first | exact rfl | assumption); (case kd => k_extra "kroom"); (case ku => k_extra "kunits")))
local macro_rules | `(tactic| k_extra "bnd") => `(tactic| first | (refine Bnd.cons ?_; k_extra "bnd") | exact Bnd.rest (by simp))
local macro_rules | `(tactic| walk_at "eval Name") => `(tactic| (k_here; (with_reducible refine' nameG ?F ?X ?T ?e ?b ?_); k_dflt (case F => k_asm); k_dflt (case X => k_asm); k_dflt (case T => k_asm); (case b => decide +kernel); (case e => k_is); k_whole))
local macro_rules | `(tactic| walk_at "eval Name") => `(tactic| (with_reducible (refine' nameF ?K ?F ?T ?_; (case K => assumption); (case F => assumption); (case T => repeat constructor))))
local macro_rules | `(tactic| walk_at "loadName") => `(tactic| (with_reducible (refine' loadF ?K ?F ?T ?_; (case K => assumption); (case F => assumption); (case T => repeat constructor))))
local macro_rules | `(tactic| walk_at "storeName") => `(tactic| (with_reducible (refine' storeF ?K ?F ?N ?T ?_; (case K => assumption); (case F => assumption); (case N => assumption); (case T => repeat constructor)); intro h' F' N'; (try k_sweep)))
local macro_rules | `(tactic| k_extra "bindsto") => `(tactic| first
  | ((rename BindsSo _ _ _ _ => hbs); exact hbs _ _ _ _ _ (by k_in) (by k_is))
  | exact BindsTo.of_eq rfl
  | exact binds_K (by k_in) rfl (by k_is) rfl rfl rfl
  | fail "bindsto")
local macro_rules | `(tactic| k_extra "myenterF") => `(tactic| (
  unfold Tl
  intro p loose mean mg mb dp un gd cn cs a ccd cl outer A₀ base h₀ L m s Q E B F X N T hk hd hu hret
  refine wpAny_call ?_
  (rename Bnd _ _ _ => hz)
  k_dflt (refine' enterF hz ?k1 ?k2 ?k3 ?k4 ?k5 ?kA ?kF ?kK ?k6 ?k7 ?k8 ?k9 ?kB ?_ ?c2 ?c3 ?c5; (case kA => exact rfl); (case kF => exact rfl); (case kK => assumption); (case k1 => k_asm); (case k2 => k_asm); (case k3 => k_asm); (case k4 => k_asm); (case k5 => k_asm); (case k6 => k_is); (case k7 => k_is); (case k8 => k_extra "kroom"); (case k9 => k_extra "bindsto"); (case kB => (show loB _ _ = true; decide +kernel)); (case c2 => exact rfl); (case c3 => exact rfl); (case c5 => decide +kernel); k_whole; clear hz; intro g' L' h' tk' FG' F' N' B' X' T' K'; (try dsimp only); (try k_fold))))
local macro_rules | `(tactic| walk_at "binaryOp BitAnd int int") => `(tactic| k_extra "my binaryOp BitAnd int int")
local macro_rules | `(tactic| walk_at "binaryOp FloorDiv int int") => `(tactic| k_extra "my binaryOp FloorDiv int int")
local macro_rules | `(tactic| walk_at "binaryOp LShift int int") => `(tactic| k_extra "my binaryOp LShift int int")
local macro_rules | `(tactic| walk_at "binaryOp Mod int int") => `(tactic| k_extra "my binaryOp Mod int int")
local macro_rules | `(tactic| walk_at "binaryOp Pow int int") => `(tactic| k_extra "my binaryOp Pow int int")
local macro_rules | `(tactic| walk_at "binaryOp RShift int int") => `(tactic| k_extra "my binaryOp RShift int int")
local macro_rules | `(tactic| walk_at "call builtin:divmod") => `(tactic| k_extra "my call builtin:divmod")
local macro_rules | `(tactic| walk_at "call builtin:max") => `(tactic| k_extra "my call builtin:max")
local macro_rules | `(tactic| walk_at "call ref") => `(tactic| k_extra "my call ref")
local macro_rules | `(tactic| walk_at "compareOp Eq int int") => `(tactic| k_extra "my compareOp Eq int int")
local macro_rules | `(tactic| walk_at "compareOp Eq ref ref") => `(tactic| k_extra "my compareOp Eq ref ref")
local macro_rules | `(tactic| walk_at "compareOp In ref ref") => `(tactic| k_extra "my compareOp In ref ref")
local macro_rules | `(tactic| walk_at "compareOp In str str") => `(tactic| k_extra "my compareOp In str str")
local macro_rules | `(tactic| walk_at "compareOp NotEq ref ref") => `(tactic| k_extra "my compareOp NotEq ref ref")
local macro_rules | `(tactic| walk_at "eval Call") => `(tactic| k_extra "my eval Call")
local macro_rules | `(tactic| walk_at "exec If") => `(tactic| k_extra "my exec If")
local macro_rules | `(tactic| k_extra "mysteps_if") => `(tactic| repeat' (((fail_if_success (with_reducible show wpAny _ _ (exec (Stmt.If _ _ _ _) _) _ _ _))); first | (k_unfold; (try dsimp only)) | (walk1; try dsimp only) | (dsimp only; walk1) | fail "no step"))
local macro_rules | `(tactic| walk_at "subscriptTail") => `(tactic| k_extra "my subscriptTail")
local macro_rules | `(tactic| k_extra "nz") => `(tactic| first | with_reducible assumption | k_dflt decide | exact Int.ne_of_gt (by with_reducible assumption) | k_dflt omega)
local macro_rules | `(tactic| k_extra "pz") => `(tactic| first | with_reducible assumption | k_dflt decide | k_dflt omega)
local macro_rules | `(tactic| walk_at "assign Tuple") => `(tactic| (k_here; (with_reducible show wpAny _ _ (assign (Expr.Tuple _ _ _) _ (Value.ref _)) _ _ _); k_dflt (refine' unpackN_ ?F ?N ?T ?k1 ?k2 ?k3 ?_; (case F => k_asm); (case N => k_asm); (case T => refine News.isTup (by k_asm) (by k_mem)); (case k1 => exact rfl); (case k2 => exact rfl); (case k3 => exact rfl)); intro h' F' N'; (try k_sweep)))
local macro_rules | `(tactic| walk_at "subscriptTail Name Constant ref int") => `(tactic| (k_here; (with_reducible show wpAny _ _ (subscriptTail _ _ (Value.ref _) (Value.int _ _)) _ _ _); k_dflt (refine' itemH ?F ?N ?X ?H ?k1 ?k2 ?_ ?k3; (case F => k_asm); (case N => k_asm); (case X => k_asm); (case H => k_extra "tuph"); (case k1 => decide); (case k2 => exact rfl); (case k3 => with_unfolding_all rfl)); intro t1'))
local macro_rules | `(tactic| walk_at "eval Name") => `(tactic| k_extra "my eval Name")
local macro_rules | `(tactic| walk_at "exec Assign cons ListComp") => `(tactic| k_extra "my exec Assign cons ListComp")
section
theorem fillK_W1a : (hd.heap_39 = hd.heap_39) ∧ PySem.Challenge.rw_aj5009_01 = PySem.Challenge.rw_aj5009_01 := by
  k_fill
  exact ⟨rfl, rfl⟩
theorem nat_and_pred (k : Nat) (h : k ≠ 0) : k &&& (k - 1) ≠ k := by
  intro e
  have := Nat.and_le_right (n := k) (m := k - 1)
  omega
theorem bitAnd_neg_ne {n : Int} (h : n ≠ 0) : Builtin.bitAnd n (-n) ≠ 0 := by
  unfold Builtin.bitAnd Builtin.bitNot
  by_cases h1 : 0 ≤ n
  · have h2 : ¬ 0 ≤ -n := by omega
    simp only [h1, h2, decide_true, decide_false]
    have e : (-(-n) - 1).toNat = n.toNat - 1 := by omega
    rw [e]
    have := nat_and_pred n.toNat (by omega)
    omega
  · have h2 : 0 ≤ -n := by omega
    simp only [h1, h2, decide_true, decide_false]
    have e : (-n - 1).toNat = (-n).toNat - 1 := by omega
    rw [e]
    have := nat_and_pred (-n).toNat (by omega)
    omega
theorem trailF_nonneg (n : Int) : 0 ≤ trailF n := by
  unfold trailF
  split
  · omega
  · rename_i h
    have := bitAnd_neg_ne h
    have h1 : 0 < Builtin.Int.intBits (Builtin.bitAnd n (-n)) := by
      unfold Builtin.Int.intBits
      rw [if_neg (by simpa using this)]
      omega
    omega

set_option maxRecDepth 100000 in
set_option maxHeartbeats 8000000 in
theorem c_trailing (w : World) (news : Led) (n : Int) (t : Tok) : Tl w 21 [.int n t] 1 news (fun _ r => ∃ x t, r = .int x t ∧ 0 ≤ x ∧ x = trailF n) := by
  have hz : Bnd [Str.ofString "n"] [some (.int n t)] [(Str.ofString "n", .int n t)] := by k_extra "bnd"
  k_extra "myenterF"
  k_extra "mysteps"
  all_goals (rename (∀ r nw' h' tk', Fr _ _ h' _ → News _ _ h' nw' → Sub _ nw' → _ → _) => hret; refine hret _ _ _ _ (by assumption) (by assumption) Sub.rfl ⟨_, _, rfl, ?_⟩; have h0 := trailF_nonneg n; subst_vars; unfold trailF at *; simp_all only [if_pos, if_neg, ne_eq, not_false_eq_true, and_self])

local macro_rules | `(tactic| k_extra "my call ref") => `(tactic| (k_here; (with_reducible show wpAny _ _ (call (Value.ref 21) [Value.int _ _]) _ _ _); k_dflt (refine' Tl.use (c_trailing _ _ _ _) ?k1 ?k2 ?k3 ?k4 ?k5 ?kK ?kd ?ku ?_; (case k1 => k_asm); (case k2 => k_asm); (case k3 => k_asm); (case k4 => k_asm); (case k5 => k_asm); (case kK => first | exact rfl | assumption); (case kd => k_extra "kroom"); (case ku => k_extra "kunits")); intro r9 nw9 h9 tk9 F9 N9 S9 ho9; obtain ⟨x9, t9, e9, p9, hx9⟩ := ho9; subst e9; (try dsimp only); (try k_sweep); (try k_fold)))
local macro_rules | `(tactic| k_extra "my subscriptTail") => `(tactic| (k_here; (with_reducible show wpAny _ _ (subscriptTail _ _ (Value.ref _) (Value.str _ _)) _ _ _); k_dflt (refine' topItem_K ?F ?X ?l ?k ?e ?_; (case F => k_asm); (case X => k_asm); (case l => k_is); (case k => k_keys); (case e => k_is))))
local macro_rules | `(tactic| k_extra "my subscriptTail") => `(tactic| (k_here; (with_reducible show wpAny _ _ (subscriptTail _ _ (Value.ref _) (Value.int _ _)) _ _ _); k_dflt (refine' topTup_K ?F ?X ?l ?a ?b ?c ?d ?_; (case F => k_asm); (case X => k_asm); (case l => k_is); (case a => decide); (case b => decide); (case c => rfl); (case d => rfl))))
local macro_rules | `(tactic| k_extra "my exec If") => `(tactic| (k_here; with_reducible refine wpAny_If ?_))

theorem cutN_up {sign man n : Int} (h1 : Builtin.bitAnd (man.fdiv (2 ^ (n - 1).toNat)) 1 ≠ 0) (h2 : Builtin.bitAnd (man.fdiv (2 ^ (n - 1).toNat)) 2 ≠ 0) : cutF sign man n .n = (man.fdiv (2 ^ (n - 1).toNat)).fdiv (2 ^ (1 : Int).toNat) + 1 := if_pos ⟨h1, .inl h2⟩
theorem cutN_up' {sign man n : Int} (h1 : Builtin.bitAnd (man.fdiv (2 ^ (n - 1).toNat)) 1 ≠ 0) (h2 : Builtin.bitAnd man (1 * 2 ^ (n - 1).toNat - 1) ≠ 0) : cutF sign man n .n = (man.fdiv (2 ^ (n - 1).toNat)).fdiv (2 ^ (1 : Int).toNat) + 1 := if_pos ⟨h1, .inr h2⟩
theorem cutN_down {sign man n : Int} (h1 : Builtin.bitAnd (man.fdiv (2 ^ (n - 1).toNat)) 1 = 0) : cutF sign man n .n = (man.fdiv (2 ^ (n - 1).toNat)).fdiv (2 ^ (1 : Int).toNat) := if_neg fun h => h.1 h1
theorem cutN_down' {sign man n : Int} (h1 : Builtin.bitAnd (man.fdiv (2 ^ (n - 1).toNat)) 2 = 0) (h2 : Builtin.bitAnd man (1 * 2 ^ (n - 1).toNat - 1) = 0) : cutF sign man n .n = (man.fdiv (2 ^ (n - 1).toNat)).fdiv (2 ^ (1 : Int).toNat) := if_neg fun h => h.2.elim (fun k => k h1) (fun k => k h2)
local macro_rules | `(tactic| k_extra "fincut") => `(tactic| (
  (rename (∀ h tk vs', Fr _ _ h (fm _ vs') → _ → _ → _) => hQQ)
  refine hQQ _ _ _ (by k_asm) (by k_asm) ⟨_, _, _, _, rfl, ?_⟩
  k_extra "letters"
  first
  | exact rfl
  | exact cutN_up (by assumption) (by assumption)
  | exact cutN_up' (by assumption) (by assumption)
  | exact cutN_down (by assumption)
  | exact cutN_down' (by assumption) (by assumption)
  | fail "fincut"))
set_option maxRecDepth 100000 in
set_option maxHeartbeats 8000000 in
theorem c_norm0 (w : World) (news : Led) (sign man exp bc prec : Int) (r : Rnd) (t1 t2 t3 t4 t5 t6 : Tok) (hs : sign = 0 ∨ sign = 1) (hb : bc < 1000000) (hp : 0 ≤ prec) :
    Tl w 71 [.int sign t1, .int man t2, .int exp t3, .int bc t4, .int prec t5, .str (rndS r) t6] 2 news (fun nw r' => ∃ D, r' = .ref D ∧ TupH w nw D (normF sign man exp bc prec r)) := by
  have hz : Bnd [Str.ofString "sign", Str.ofString "man", Str.ofString "exp", Str.ofString "bc", Str.ofString "prec", Str.ofString "rnd", Str.ofString "n", Str.ofString "t"] [some (.int sign t1), some (.int man t2), some (.int exp t3), some (.int bc t4), some (.int prec t5), some (.str (rndS r) t6), none, none] [(Str.ofString "sign", .int sign t1), (Str.ofString "man", .int man t2), (Str.ofString "exp", .int exp t3), (Str.ofString "bc", .int bc t4), (Str.ofString "prec", .int prec t5), (Str.ofString "rnd", .str (rndS r) t6)] := by k_extra "bnd"
  k_extra "myenterF"
  k_extra "mysteps_if"
  walk1
  k_extra "mysteps_if"
  · (rename (man ≠ 0) => hm)
    refine' joinF (V := fun vs' => ∃ M X Bc tM tX tB tn T, vs' = [some (.int sign t1), some (.int M tM), some (.int X tX), some (.int Bc tB), some (.int prec t5), some (.str (rndS r) t6), some (.int (bc - prec) tn), T] ∧ normF sign man exp bc prec r = stripF sign M X Bc) ?F ?N ?h1 ?h2
    (case F => k_asm)
    (case N => k_asm)
    case h1 =>
      intro QQ EE hQQ
      walk1
      k_extra "mysteps_if"
      · refine' joinF (V := fun vs' => ∃ M tM tn T, vs' = [some (.int sign t1), some (.int M tM), some (.int exp t3), some (.int bc t4), some (.int prec t5), some (.str (rndS r) t6), some (.int (bc - prec) tn), T] ∧ cutF sign man (bc - prec) r = M) ?F1 ?N1 ?h3 ?h4
        (case F1 => k_asm)
        (case N1 => k_asm)
        case h3 =>
          clear hQQ
          intro QQ EE hQQ
          cases r
          case n =>
            dsimp only [rndS] at *
            k_extra "mysteps"
            all_goals k_extra "fincut"
          all_goals
            dsimp only [rndS] at *
            rcases hs with hs | hs <;> subst hs
          all_goals k_extra "mysteps"
          all_goals k_extra "fincut"
        case h4 =>
          intro h' tk' vs' F' N' hV
          obtain ⟨M, tM, tn, T, rfl, hM⟩ := hV
          dsimp only
          try k_sweep
          k_extra "mysteps"
          refine hQQ _ _ _ (by k_asm) (by k_asm) ⟨_, _, _, _, _, _, _, _, rfl, ?_⟩
          unfold normF
          rw [if_neg (by assumption), if_pos (by assumption), hM]
      · refine hQQ _ _ _ (by k_asm) (by k_asm) ⟨_, _, _, _, _, _, _, _, rfl, ?_⟩
        unfold normF
        rw [if_neg (by assumption), if_neg (by assumption)]
    case h2 =>
      intro h' tk' vs' F' N' hV
      obtain ⟨M, X, Bc, tM, tX, tB, tn, T, rfl, hM⟩ := hV
      dsimp only
      try k_sweep
      k_extra "mysteps"
      all_goals (
        rename (∀ r nw' h' tk', Fr _ _ h' _ → News _ _ h' nw' → Sub _ nw' → _ → _) => hret
        refine hret _ _ _ _ (by k_asm) (by k_asm) (by k_extra "subl") ⟨_, rfl, ?_⟩
        refine TupH.here ?_ (by k_mem)
        refine hM.trans ?_
        k_extra "letters"
        dsimp only [stripF]
        k_extra "mite")
  · rename (∀ r nw' h' tk', Fr _ _ h' _ → News _ _ h' nw' → Sub _ nw' → _ → _) => hret
    refine hret _ _ _ _ (by k_asm) (by k_asm) (by k_extra "subl") ⟨_, rfl, ?_⟩
    refine TupH.as ?_ (TupH.fzero _ _)
    unfold normF
    rw [if_pos (by assumption)]
end
section
theorem fillK_W2 : (hd.heap_39 = hd.heap_39) ∧ PySem.Challenge.rw_aj5009_01 = PySem.Challenge.rw_aj5009_01 := by
  k_fill
  exact ⟨rfl, rfl⟩
local macro_rules | `(tactic| k_extra "prem") => `(tactic| first | with_reducible assumption | omega | (simp only [true_or, or_true]; done))
local macro_rules | `(tactic| k_extra "my call ref") => `(tactic| (k_here; (with_reducible show wpAny _ _ (call (Value.ref 71) [Value.int _ _, Value.int _ _, Value.int _ _, Value.int _ _, Value.int _ _, Value.str _ _]) _ _ _); k_dflt (refine' Tl.use (c_norm0 _ _ _ _ _ _ _ _ _ _ _ _ _ _ ?h0 ?h1 ?h2) ?k1 ?k2 ?k3 ?k4 ?k5 ?kK ?kd ?ku ?_; (case k2 => k_asm); (case k4 => k_asm); (case h0 => k_extra "prem"); (case h1 => k_extra "prem"); (case h2 => k_extra "prem"); k_extra "tlargs2"); k_extra "tltup"))
set_option maxRecDepth 100000 in
set_option maxHeartbeats 8000000 in
theorem c_norm (w : World) (news : Led) (sign man exp bc prec : Int) (r : Rnd) (t1 t2 t3 t4 t5 t6 : Tok) (hs : sign = 0 ∨ sign = 1) (h0 : 0 ≤ man) (hbc : bc = (Builtin.Int.intBits man : Int)) (hb : bc < 1000000) (hp : 0 ≤ prec) :
    Tl w 78 [.int sign t1, .int man t2, .int exp t3, .int bc t4, .int prec t5, .str (rndS r) t6] 3 news (fun nw r' => ∃ D, r' = .ref D ∧ TupH w nw D (normF sign man exp bc prec r)) := by
  have hz : Bnd [Str.ofString "sign", Str.ofString "man", Str.ofString "exp", Str.ofString "bc", Str.ofString "prec", Str.ofString "rnd"] [some (.int sign t1), some (.int man t2), some (.int exp t3), some (.int bc t4), some (.int prec t5), some (.str (rndS r) t6)] [(Str.ofString "sign", .int sign t1), (Str.ofString "man", .int man t2), (Str.ofString "exp", .int exp t3), (Str.ofString "bc", .int bc t4), (Str.ofString "prec", .int prec t5), (Str.ofString "rnd", .str (rndS r) t6)] := by k_extra "bnd"
  k_extra "myenterF"
  k_extra "mysteps"
  k_extra "rettup"
  k_extra "tuph"
end
section
theorem fillK_W3 : (hd.heap_39 = hd.heap_39) ∧ PySem.Challenge.rw_aj5009_01 = PySem.Challenge.rw_aj5009_01 := by
  k_fill
  exact ⟨rfl, rfl⟩

local macro_rules | `(tactic| k_extra "prem") => `(tactic| first | with_reducible assumption | ((with_reducible show TupH _ _ _ _); k_extra "tuph") | omega | fail "prem")
local macro_rules | `(tactic| k_extra "my call ref") => `(tactic| (k_here; (with_reducible show wpAny _ _ (call (Value.ref 78) [Value.int _ _, Value.int _ _, Value.int _ _, Value.int _ _, Value.int _ _, Value.str _ _]) _ _ _); k_dflt (refine' Tl.use (c_norm _ _ _ _ _ _ _ _ _ _ _ _ _ _ ?h0 ?h1 ?h2 ?h3 ?h4) ?k1 ?k2 ?k3 ?k4 ?k5 ?kK ?kd ?ku ?_; (case k2 => k_asm); (case k4 => k_asm); (case h0 => k_extra "prem"); (case h1 => k_extra "prem"); (case h2 => k_extra "prem"); (case h3 => k_extra "prem"); (case h4 => k_extra "prem"); k_extra "tlargs2"); k_extra "tltup"))
local macro_rules | `(tactic| k_extra "my call ref") => `(tactic| (k_here; (with_reducible show wpAny _ _ (call (Value.ref 21) [Value.int _ _]) _ _ _); k_dflt (refine' Tl.use (c_trailing _ _ _ _ ) ?k1 ?k2 ?k3 ?k4 ?k5 ?kK ?kd ?ku ?_; (case k2 => k_asm); (case k4 => k_asm);  k_extra "tlargs2"); k_extra "tltr"))
local macro_rules | `(tactic| k_extra "fin3") => `(tactic| (k_extra "rettup"; first
  | (refine TupH.as ?_ (by k_extra "tuph"); k_extra "mite")
  | (refine TupH.here ?_ (by k_mem); k_extra "letters"; k_extra "mite")
  | fail "fin3"))

set_option maxRecDepth 100000 in
set_option maxHeartbeats 8000000 in
theorem c_neg (w : World) (news : Led) (D : Addr) (q : MP) (H : TupH w news D q) (hw : Wf q) : Tl w 132 [.ref D] 1 news (fun nw r => ∃ D, r = .ref D ∧ TupH w nw D (negF q)) := by
  have hz : Bnd [Str.ofString "s", Str.ofString "prec", Str.ofString "rnd", Str.ofString "sign", Str.ofString "man", Str.ofString "exp", Str.ofString "bc"] [some (.ref D), some (.int 0 391), some (.str (rndS .d) 252), none, none, none, none] [(Str.ofString "s", .ref D), (Str.ofString "prec", .int 0 391), (Str.ofString "rnd", .str (rndS .d) 252)] := by k_extra "bnd"
  obtain ⟨hw1, hw2, hw3, hw4, hw5⟩ := hw
  unfold negF
  k_extra "myenterF"
  k_extra "mysteps"
  all_goals k_extra "fin3"
set_option maxRecDepth 100000 in
set_option maxHeartbeats 8000000 in
theorem c_abs (w : World) (news : Led) (D : Addr) (q : MP) (H : TupH w news D q) (hw : Wf q) : Tl w 140 [.ref D] 1 news (fun nw r => ∃ D, r = .ref D ∧ TupH w nw D (absF q)) := by
  have hz : Bnd [Str.ofString "s", Str.ofString "prec", Str.ofString "rnd", Str.ofString "sign", Str.ofString "man", Str.ofString "exp", Str.ofString "bc"] [some (.ref D), some (.int 0 405), some (.str (rndS .d) 252), none, none, none, none] [(Str.ofString "s", .ref D), (Str.ofString "prec", .int 0 405), (Str.ofString "rnd", .str (rndS .d) 252)] := by k_extra "bnd"
  obtain ⟨hw1, hw2, hw3, hw4, hw5⟩ := hw
  unfold absF
  k_extra "myenterF"
  k_extra "mysteps"
  all_goals k_extra "fin3"
set_option maxRecDepth 100000 in
set_option maxHeartbeats 8000000 in
theorem c_shift (w : World) (news : Led) (D : Addr) (q : MP) (n : Int) (t : Tok) (H : TupH w news D q) : Tl w 186 [.ref D, .int n t] 1 news (fun nw r => ∃ D, r = .ref D ∧ TupH w nw D (shiftF q n)) := by
  have hz : Bnd [Str.ofString "s", Str.ofString "n", Str.ofString "sign", Str.ofString "man", Str.ofString "exp", Str.ofString "bc"] [some (.ref D), some (.int n t), none, none, none, none] [(Str.ofString "s", .ref D), (Str.ofString "n", .int n t)] := by k_extra "bnd"
  unfold shiftF
  k_extra "myenterF"
  k_extra "mysteps"
  all_goals k_extra "fin3"
set_option maxRecDepth 100000 in
set_option maxHeartbeats 8000000 in
theorem c_pos (w : World) (news : Led) (D : Addr) (q : MP) (prec : Int) (r : Rnd) (t u : Tok) (H : TupH w news D q) (hw : Wf q) (hb : q.bc < 1000000) (hp : 0 < prec) : Tl w 124 [.ref D, .int prec t, .str (rndS r) u] 4 news (fun nw r' => ∃ D, r' = .ref D ∧ TupH w nw D (normF q.sg q.man q.ex q.bc prec r)) := by
  have hz : Bnd [Str.ofString "s", Str.ofString "prec", Str.ofString "rnd", Str.ofString "sign", Str.ofString "man", Str.ofString "exp", Str.ofString "bc"] [some (.ref D), some (.int prec t), some (.str (rndS r) u), none, none, none, none] [(Str.ofString "s", .ref D), (Str.ofString "prec", .int prec t), (Str.ofString "rnd", .str (rndS r) u)] := by k_extra "bnd"
  obtain ⟨hw1, hw2, hw3, hw4, hw5⟩ := hw
  k_extra "myenterF"
  k_extra "mysteps"
  all_goals k_extra "fin3"
set_option maxRecDepth 100000 in
set_option maxHeartbeats 8000000 in
theorem c_sign (w : World) (news : Led) (D : Addr) (q : MP) (H : TupH w news D q) (hw : Wf q) : Tl w 147 [.ref D] 1 news (fun nw r => ∃ x t, r = .int x t ∧ x = signF q) := by
  have hz : Bnd [Str.ofString "s", Str.ofString "sign", Str.ofString "man", Str.ofString "exp", Str.ofString "bc"] [some (.ref D), none, none, none, none] [(Str.ofString "s", .ref D)] := by k_extra "bnd"
  obtain ⟨hw1, hw2, hw3, hw4, hw5⟩ := hw
  obtain ⟨sg, man, ex, bc⟩ := q
  dsimp only at hw1 hw2 hw3 hw4 hw5
  unfold signF
  rcases hw1 with hw1 | hw1 <;> subst hw1
  all_goals k_extra "myenterF"
  all_goals k_extra "mysteps"
  all_goals (
    rename (∀ r nw' h' tk', Fr _ _ h' _ → News _ _ h' nw' → Sub _ nw' → _ → _) => hret
    refine hret _ _ _ _ (by k_asm) (by k_asm) (by k_extra "subl") ⟨_, _, rfl, ?_⟩
    (try k_extra "letters")
    symm
    dsimp only
    first
    | k_extra "mite"
    | (refine (if_neg ?_).trans ?_; (focus (k_extra "dec")); first | decide | (simp; done))
    | (refine (if_neg ?_).trans ?_; (focus (k_extra "dec")); refine (if_pos ?_).trans ?_; (focus (k_extra "dec")); first | decide | (simp; done)))
end
section
theorem fillK_P2 : (hd.heap_39 = hd.heap_39) ∧ PySem.Challenge.rw_aj5009_01 = PySem.Challenge.rw_aj5009_01 := by
  k_fill
  exact ⟨rfl, rfl⟩
open PySem.Builtin.Int (intBits)
theorem intBits_neg (x : Int) : Builtin.Int.intBits (-x) = Builtin.Int.intBits x := by
  unfold Builtin.Int.intBits
  by_cases h : x = 0
  · subst h; rfl
  · rw [if_neg (by simpa using h), if_neg (by simpa using h), Int.natAbs_neg]
theorem bits_shl {x a k : Int} {m K : Nat} (hx : x = a * 2 ^ k.toNat) (ha : Builtin.Int.intBits a ≤ m) (hk : k ≤ K) : Builtin.Int.intBits x ≤ m + K := by
  subst hx
  have h1 : (a * 2 ^ k.toNat).natAbs = a.natAbs * 2 ^ k.toNat := by
    rw [Int.natAbs_mul, Int.natAbs_pow]; rfl
  refine intBits_le ?_
  have h2 := natAbs_lt_pow_bits a
  have h3 : 2 ^ Builtin.Int.intBits a ≤ 2 ^ m := Nat.pow_le_pow_right (by decide) ha
  rw [h1, Nat.pow_add]
  have h4 : 2 ^ k.toNat ≤ 2 ^ K := Nat.pow_le_pow_right (by decide) (by omega)
  calc a.natAbs * 2 ^ k.toNat < 2 ^ m * 2 ^ k.toNat := Nat.mul_lt_mul_of_pos_right (by omega) (Nat.pow_pos (by decide))
    _ ≤ 2 ^ m * 2 ^ K := Nat.mul_le_mul_left _ h4
theorem bits_addC {x y : Int} {m : Nat} (hx : Builtin.Int.intBits x ≤ m) (hy : Builtin.Int.intBits y ≤ m) : Builtin.Int.intBits (x + y) ≤ m + 1 := by
  refine intBits_le ?_
  have h1 := natAbs_lt_pow_bits x
  have h2 := natAbs_lt_pow_bits y
  have h3 : 2 ^ Builtin.Int.intBits x ≤ 2 ^ m := Nat.pow_le_pow_right (by decide) hx
  have h4 : 2 ^ Builtin.Int.intBits y ≤ 2 ^ m := Nat.pow_le_pow_right (by decide) hy
  rw [Nat.pow_succ]
  omega
theorem bits_subC {x y : Int} {m : Nat} (hx : Builtin.Int.intBits x ≤ m) (hy : Builtin.Int.intBits y ≤ m) : Builtin.Int.intBits (x - y) ≤ m + 1 := by
  rw [Int.sub_eq_add_neg]
  exact bits_addC hx (by rw [intBits_neg]; exact hy)
theorem bits_negC {x : Int} {m : Nat} (hx : Builtin.Int.intBits x ≤ m) : Builtin.Int.intBits (-x) ≤ m := by rw [intBits_neg]; exact hx
theorem bits_mulC {x a b : Int} {m n : Nat} (hx : x = a * b) (ha : Builtin.Int.intBits a ≤ m) (hb : Builtin.Int.intBits b ≤ n) : Builtin.Int.intBits x ≤ m + n := by
  subst hx
  refine intBits_le ?_
  have h1 := natAbs_lt_pow_bits a
  have h2 := natAbs_lt_pow_bits b
  have h3 : 2 ^ Builtin.Int.intBits a ≤ 2 ^ m := Nat.pow_le_pow_right (by decide) ha
  have h4 : 2 ^ Builtin.Int.intBits b ≤ 2 ^ n := Nat.pow_le_pow_right (by decide) hb
  rw [Int.natAbs_mul, Nat.pow_add]
  exact Nat.mul_lt_mul'' (by omega) (by omega)
theorem bits_mono {x : Int} {m n : Nat} (h : Builtin.Int.intBits x ≤ m) (hn : m ≤ n) : Builtin.Int.intBits x ≤ n := Nat.le_trans h hn
theorem lt_of_bits {x y : Int} {n : Nat} (hx : x = (Builtin.Int.intBits y : Int)) (hb : Builtin.Int.intBits y ≤ n) (hn : n < 1000000) : x < 1000000 := by omega
theorem mulok_le {a b : Int} {m n : Nat} (ha : Builtin.Int.intBits a ≤ m) (hb : Builtin.Int.intBits b ≤ n) (h : m + n ≤ 134217728) : IntMulOk a b := by
  have hc : Builtin.Int.intTooBig (Builtin.Int.intBits a + Builtin.Int.intBits b) = false := by
    unfold Builtin.Int.intTooBig bitsLine
    exact decide_eq_false (by omega)
  unfold IntMulOk
  rw [hc]
  simp
theorem Wf.bits {q : MP} {N : Int} (h : Wf q) (k : Sm N q) {n : Nat} (hn : N ≤ n) : Builtin.Int.intBits q.man ≤ n := by
  have := h.2.2.1
  have := k.1
  omega
theorem xor01 {a b : Int} (ha : a = 0 ∨ a = 1) (hb : b = 0 ∨ b = 1) : Builtin.bitXor a b = 0 ∨ Builtin.bitXor a b = 1 := by
  rcases ha with rfl | rfl <;> rcases hb with rfl | rfl <;> decide
theorem bits_addM {x y : Int} {m n : Nat} (hx : Builtin.Int.intBits x ≤ m) (hy : Builtin.Int.intBits y ≤ n) : Builtin.Int.intBits (x + y) ≤ max m n + 1 :=
  bits_addC (bits_mono hx (by omega)) (bits_mono hy (by omega))
theorem bits_subM {x y : Int} {m n : Nat} (hx : Builtin.Int.intBits x ≤ m) (hy : Builtin.Int.intBits y ≤ n) : Builtin.Int.intBits (x - y) ≤ max m n + 1 :=
  bits_subC (bits_mono hx (by omega)) (bits_mono hy (by omega))
theorem bits_one1 : Builtin.Int.intBits 1 ≤ 1 := by decide +kernel
/-- a signed size -/
def sv (s m : Int) : Int := if s = 0 then m else -m
def orP (p b : Int) : Int := if p = 0 then b else p
def addN (S e prec : Int) (r : Rnd) : MP :=
  if 0 ≤ S then normF 0 S e (Builtin.Int.intBits S : Int) (orP prec (Builtin.Int.intBits S : Int)) r
  else normF 1 (-S) e (Builtin.Int.intBits (-S) : Int) (orP prec (Builtin.Int.intBits (-S) : Int)) r
def pertF (s ts m e prec : Int) (r : Rnd) : MP :=
  if ts = s then normF s (m * 2 ^ (prec + 4).toNat + 1) (e - (prec + 4)) (Builtin.Int.intBits (m * 2 ^ (prec + 4).toNat + 1) : Int) prec r
  else normF s (m * 2 ^ (prec + 4).toNat - 1) (e - (prec + 4)) (Builtin.Int.intBits (m * 2 ^ (prec + 4).toNat - 1) : Int) prec r
def addF (a b : MP) (ts prec : Int) (r : Rnd) : MP :=
  if a.man = 0 then (if b.man = 0 then fzero else normF ts b.man b.ex b.bc (orP prec b.bc) r)
  else if b.man = 0 then normF a.sg a.man a.ex a.bc (orP prec a.bc) r
  else if 0 < a.ex - b.ex then
    (if 100 < a.ex - b.ex ∧ prec ≠ 0 ∧ prec + 4 < a.bc + a.ex - b.bc - b.ex then pertF a.sg ts a.man a.ex prec r
     else addN (sv a.sg (a.man * 2 ^ (a.ex - b.ex).toNat) + sv ts b.man) b.ex prec r)
  else if a.ex - b.ex < 0 then
    (if a.ex - b.ex < -100 ∧ prec ≠ 0 ∧ prec + 4 < b.bc + b.ex - a.bc - a.ex then pertF ts a.sg b.man b.ex prec r
     else addN (sv a.sg a.man + sv ts (b.man * 2 ^ (-(a.ex - b.ex)).toNat)) a.ex prec r)
  else addN (sv a.sg a.man + sv ts b.man) b.ex prec r
theorem normF_as {s s' m m' e e' b b' p p' : Int} {r : Rnd} (h1 : s = s') (h2 : m = m') (h3 : e = e') (h4 : b = b') (h5 : p = p') : normF s m e b p r = normF s' m' e' b' p' r := by
  rw [h1, h2, h3, h4, h5]
/-- said of a sign; not open to omega's splits -/
def B01 (x : Int) : Prop := x = 0 ∨ x = 1
theorem B01.zero : B01 0 := .inl rfl
theorem B01.one : B01 1 := .inr rfl
theorem B01.out {x : Int} (h : B01 x) : x = 0 ∨ x = 1 := h
theorem B01.xor {a b : Int} (ha : B01 a) (hb : B01 b) : B01 (Builtin.bitXor a b) := xor01 ha hb
theorem B01.xorL {a b x : Int} (ha : B01 a) (hb : B01 b) (hx : x = Builtin.bitXor a b) : B01 x := hx ▸ xor01 ha hb
theorem Wf.zero {q : MP} (h : Wf q) (e : q.man = 0) : q = fzero := MP.eq_of (h.2.2.2.1 e).1 e (h.2.2.2.1 e).2.1 (h.2.2.2.1 e).2.2
theorem Wf.b01 {q : MP} (h : Wf q) : B01 q.sg := h.1
theorem Wf.pos {q : MP} (h : Wf q) (e : q.man ≠ 0) : 0 < q.man := by have := h.2.1; omega
theorem c_normB (w : World) (news : Led) (sign man exp bc prec : Int) (r : Rnd) (t1 t2 t3 t4 t5 t6 : Tok) (hs : B01 sign) (h0 : 0 ≤ man) (hbc : bc = (Builtin.Int.intBits man : Int)) (hb : bc < 1000000) (hp : 0 ≤ prec) :
    Tl w 78 [.int sign t1, .int man t2, .int exp t3, .int bc t4, .int prec t5, .str (rndS r) t6] 3 news (fun nw r' => ∃ D, r' = .ref D ∧ TupH w nw D (normF sign man exp bc prec r)) := c_norm w news sign man exp bc prec r t1 t2 t3 t4 t5 t6 hs h0 hbc hb hp
end
section
theorem fillK_W4 : (hd.heap_39 = hd.heap_39) ∧ PySem.Challenge.rw_aj5009_01 = PySem.Challenge.rw_aj5009_01 := by
  k_fill
  exact ⟨rfl, rfl⟩
local macro_rules | `(tactic| k_extra "prem") => `(tactic| first | with_reducible assumption | ((with_reducible show TupH _ _ _ _); k_extra "tuph") | omega | fail "prem")
local macro_rules | `(tactic| k_extra "my call ref") => `(tactic| (k_here; (with_reducible show wpAny _ _ (call (Value.ref 78) [Value.int _ _, Value.int _ _, Value.int _ _, Value.int _ _, Value.int _ _, Value.str _ _]) _ _ _); k_dflt (refine' Tl.use (c_norm _ _ _ _ _ _ _ _ _ _ _ _ _ _ ?h0 ?h1 ?h2 ?h3 ?h4) ?k1 ?k2 ?k3 ?k4 ?k5 ?kK ?kd ?ku ?_; (case k2 => k_asm); (case k4 => k_asm); (case h0 => k_extra "prem"); (case h1 => k_extra "prem"); (case h2 => k_extra "prem"); (case h3 => k_extra "prem"); (case h4 => k_extra "prem"); k_extra "tlargs2"); k_extra "tltup"))
local macro_rules | `(tactic| k_extra "my call ref") => `(tactic| (k_here; (with_reducible show wpAny _ _ (call (Value.ref 21) [Value.int _ _]) _ _ _); k_dflt (refine' Tl.use (c_trailing _ _ _ _ ) ?k1 ?k2 ?k3 ?k4 ?k5 ?kK ?kd ?ku ?_; (case k2 => k_asm); (case k4 => k_asm);  k_extra "tlargs2"); k_extra "tltr"))
local macro_rules | `(tactic| k_extra "fin4") => `(tactic| (k_extra "rettup"; first
  | (k_extra "tuph")
  | (refine TupH.as ?_ (by k_extra "tuph"); k_extra "letters"; (try dsimp only [fme0, fme0N, fmeF]); k_extra "mite")
  | (refine TupH.here ?_ (by k_mem); k_extra "letters"; (try dsimp only [fme0, fme0N, fmeF]); k_extra "mite")
  | fail "fin4"))

set_option maxRecDepth 100000 in
set_option maxHeartbeats 8000000 in
theorem c_fme0 (w : World) (news : Led) (man exp : Int) (sr : Str) (t1 t2 t3 t4 : Tok) : Tl w 86 [.int man t1, .int exp t2, .int 0 t3, .str sr t4] 4 news (fun nw r => ∃ D, r = .ref D ∧ TupH w nw D (fme0 man exp)) := by
  have hz : Bnd [Str.ofString "man", Str.ofString "exp", Str.ofString "prec", Str.ofString "rnd", Str.ofString "sign", Str.ofString "bc", Str.ofString "t"] [some (.int man t1), some (.int exp t2), some (.int 0 t3), some (.str sr t4), none, none, none] [(Str.ofString "man", .int man t1), (Str.ofString "exp", .int exp t2), (Str.ofString "prec", .int 0 t3), (Str.ofString "rnd", .str sr t4)] := by k_extra "bnd"
  k_extra "myenterF"
  k_extra "mysteps"
  all_goals k_extra "fin4"
set_option maxRecDepth 100000 in
set_option maxHeartbeats 8000000 in
theorem c_fme (w : World) (news : Led) (man exp prec : Int) (r : Rnd) (t1 t2 t3 t4 : Tok) (hp : 0 < prec) (hb : (Builtin.Int.intBits man : Int) < 1000000) : Tl w 86 [.int man t1, .int exp t2, .int prec t3, .str (rndS r) t4] 4 news (fun nw r' => ∃ D, r' = .ref D ∧ TupH w nw D (fmeF man exp prec r)) := by
  have hz : Bnd [Str.ofString "man", Str.ofString "exp", Str.ofString "prec", Str.ofString "rnd", Str.ofString "sign", Str.ofString "bc", Str.ofString "t"] [some (.int man t1), some (.int exp t2), some (.int prec t3), some (.str (rndS r) t4), none, none, none] [(Str.ofString "man", .int man t1), (Str.ofString "exp", .int exp t2), (Str.ofString "prec", .int prec t3), (Str.ofString "rnd", .str (rndS r) t4)] := by k_extra "bnd"
  have hbn := intBits_neg man
  k_extra "myenterF"
  k_extra "mysteps"
  all_goals k_extra "fin4"
local macro_rules | `(tactic| k_extra "my call ref") => `(tactic| (k_here; (with_reducible show wpAny _ _ (call (Value.ref 86) [Value.int _ _, Value.int _ _, Value.int _ _, Value.str _ _]) _ _ _); k_dflt (refine' Tl.use (c_fme0 _ _ _ _ _ _ _ _ _ ) ?k1 ?k2 ?k3 ?k4 ?k5 ?kK ?kd ?ku ?_; (case k2 => k_asm); (case k4 => k_asm);  k_extra "tlargs2"); k_extra "tltup"))
set_option maxRecDepth 100000 in
set_option maxHeartbeats 8000000 in
theorem c_int (w : World) (news : Led) (n : Int) (t1 : Tok) : Tl w 94 [.int n t1] 5 news (fun nw r => ∃ D, r = .ref D ∧ TupH w nw D (fme0 n 0)) := by
  have hz : Bnd [Str.ofString "n", Str.ofString "prec", Str.ofString "rnd"] [some (.int n t1), some (.int 0 330), some (.str (rndS .d) 252)] [(Str.ofString "n", .int n t1), (Str.ofString "prec", .int 0 330), (Str.ofString "rnd", .str (rndS .d) 252)] := by k_extra "bnd"
  k_extra "myenterF"
  k_extra "mysteps"
  k_extra "fin4"
end
section
theorem fillK_W5 : (hd.heap_39 = hd.heap_39) ∧ PySem.Challenge.rw_aj5009_01 = PySem.Challenge.rw_aj5009_01 := by
  k_fill
  exact ⟨rfl, rfl⟩
local macro_rules | `(tactic| k_extra "my exec If") => `(tactic| (k_here; with_reducible refine wpAny_If ?_))
local macro_rules | `(tactic| k_extra "bits") => `(tactic| first
  | with_reducible assumption
  | exact bits_one1
  | (with_reducible (refine' bits_shl (K := 200100) ?e0 ?e1 ?e2); (case e0 => with_reducible assumption); (case e1 => k_extra "bits"); (case e2 => k_dflt omega))
  | (with_reducible (refine' bits_negC ?bx); (case bx => k_extra "bits"))
  | (with_reducible (refine' bits_addM ?bx ?bw); (case bx => k_extra "bits"); (case bw => k_extra "bits"))
  | (with_reducible (refine' bits_subM ?bx ?bw); (case bx => k_extra "bits"); (case bw => k_extra "bits"))
  | fail "bits")
local macro_rules | `(tactic| k_extra "prem") => `(tactic| first
  | with_reducible assumption
  | with_reducible exact B01.zero
  | with_reducible exact B01.one
  | (with_reducible (refine' B01.xorL ?xa ?xb ?xc); (case xc => with_reducible assumption); (case xa => with_reducible assumption); (case xb => with_reducible assumption))
  | ((with_reducible show TupH _ _ _ _); k_extra "tuph")
  | omega
  | k_dflt ((rename (_ = ((Builtin.Int.intBits _ : Nat) : Int)) => hz); refine' lt_of_bits hz ?b ?c; (case b => k_extra "bits"); (case c => omega))
  | fail "prem")
local macro_rules | `(tactic| k_extra "my call ref") => `(tactic| (k_here; (with_reducible show wpAny _ _ (call (Value.ref 78) [Value.int _ _, Value.int _ _, Value.int _ _, Value.int _ _, Value.int _ _, Value.str _ _]) _ _ _); k_dflt (refine' Tl.use (c_normB _ _ _ _ _ _ _ _ _ _ _ _ _ _ ?h0 ?h1 ?h2 ?h3 ?h4) ?k1 ?k2 ?k3 ?k4 ?k5 ?kK ?kd ?ku ?_; (case k2 => k_asm); (case k4 => k_asm); (case h0 => k_extra "prem"); (case h1 => k_extra "prem"); (case h2 => k_extra "prem"); (case h3 => k_extra "prem"); (case h4 => k_extra "prem"); k_extra "tlargs2"); k_extra "tltup"))
theorem addN_pos {S e prec m b p s : Int} {r : Rnd} (hs : s = 0) (hS : S = m) (h0 : 0 ≤ m) (hb : b = (Builtin.Int.intBits m : Int)) (hp : p = orP prec b) : addN S e prec r = normF s m e b p r := by
  subst hS; subst hb; subst hp; subst hs
  unfold addN
  rw [if_pos h0]
theorem addN_neg {S e prec m b p s : Int} {r : Rnd} (hs : s = 1) (hS : S = -m) (h0 : 0 < m) (hb : b = (Builtin.Int.intBits m : Int)) (hp : p = orP prec b) : addN S e prec r = normF s m e b p r := by
  have e1 : -S = m := by omega
  subst hs; subst hb; subst hp
  unfold addN
  rw [if_neg (by omega), e1]
local macro_rules | `(tactic| k_extra "mite5") => `(tactic| first
  | with_reducible rfl
  | (refine (if_pos ?_).trans ?_; (focus (k_extra "dec")); k_extra "mite5")
  | (refine (if_neg ?_).trans ?_; (focus (k_extra "dec")); k_extra "mite5")
  | (refine addN_pos ?_ ?_ ?_ ?_ ?_ <;> first | with_reducible rfl | omega | (unfold orP; split <;> omega) | fail "mite5")
  | (refine addN_neg ?_ ?_ ?_ ?_ ?_ <;> first | with_reducible rfl | omega | (unfold orP; split <;> omega) | fail "mite5")
  | (refine normF_as ?_ ?_ ?_ ?_ ?_ <;> first | with_reducible rfl | omega | (unfold orP; split <;> omega) | fail "mite5")
  | fail "mite5")

abbrev addB (D D' : Addr) (prec sub : Int) (r : Rnd) (t u v : Tok) : List (Str × Value) := [(Str.ofString "s", .ref D), (Str.ofString "t", .ref D'), (Str.ofString "prec", .int prec t), (Str.ofString "rnd", .str (rndS r) u), (Str.ofString "_sub", .int sub v)]

/-- X is the signed size of S and m -/
def SumC (X m S : Int) : Prop := ((S = 0 ∧ X = m) ∨ (S = 1 ∧ 0 < m ∧ X = -m)) ∧ 0 ≤ m
def SumS (X m S : Int) : Prop := SumC X m S ∧ Builtin.Int.intBits m ≤ 400000
theorem SumS.facts {X m S : Int} (h : SumS X m S) : B01 S ∧ 0 ≤ m ∧ Builtin.Int.intBits m ≤ 400000 := ⟨h.1.1.imp (·.1) (·.1), h.1.2, h.2⟩
section
variable {s ts x y : Int}
theorem sum_1 (hs : B01 s) (e : s = ts) (hx : 0 < x) (hy : 0 < y) : SumC (sv s x + sv ts y) (y + x) s := by
  subst e
  refine ⟨?_, by omega⟩
  rcases hs with rfl | rfl
  · exact .inl ⟨rfl, by unfold sv; rw [if_pos rfl, if_pos rfl]; omega⟩
  · exact .inr ⟨rfl, by omega, by unfold sv; rw [if_neg (by decide), if_neg (by decide)]; omega⟩
theorem sum_2 (hs : B01 s) (e : s = ts) (hx : 0 < x) (hy : 0 < y) : SumC (sv s x + sv ts y) (x + y) s := by
  have h := sum_1 hs e hx hy
  rwa [Int.add_comm y x] at h
theorem sv_b (hs : B01 s) (ht : B01 ts) (e : s ≠ ts) (e1 : s ≠ 0) : sv s x + sv ts y = y - x := by
  rcases hs with rfl | rfl
  · exact absurd rfl e1
  · rcases ht with rfl | rfl
    · unfold sv; rw [if_neg (by decide), if_pos rfl]; omega
    · exact absurd rfl e
theorem sv_a (_ : B01 s) (ht : B01 ts) (e : s ≠ ts) (e1 : s = 0) : sv s x + sv ts y = x - y := by
  subst e1
  rcases ht with rfl | rfl
  · exact absurd rfl e
  · unfold sv; rw [if_pos rfl, if_neg (by decide)]; omega
theorem sv_a' (hs : B01 s) (ht : B01 ts) (e : s ≠ ts) (e1 : ts ≠ 0) : sv s x + sv ts y = x - y :=
  sv_a hs ht e (hs.resolve_right fun h => ht.elim e1 fun k => e (h.trans k.symm))
theorem sv_b' (hs : B01 s) (ht : B01 ts) (e : s ≠ ts) (e1 : ts = 0) : sv s x + sv ts y = y - x := sv_b hs ht e fun h => e (h.trans e1.symm)
theorem sum_p {X m : Int} (e : X = m) (h : 0 ≤ m) : SumC X m 0 := ⟨.inl ⟨rfl, e⟩, h⟩
theorem sum_n {X m : Int} (e : X = m) (h : m < 0) : SumC X (-m) 1 := ⟨.inr ⟨rfl, by omega, by omega⟩, by omega⟩
theorem addN_sum {X m S e prec b p : Int} {r : Rnd} (h : SumS X m S) (hb : b = (Builtin.Int.intBits m : Int)) (hp : p = orP prec b) : addN X e prec r = normF S m e b p r := by
  obtain ⟨⟨h | h, h0⟩, _⟩ := h
  · exact addN_pos h.1 h.2 h0 hb hp
  · exact addN_neg h.1 h.2.2 h.2.1 hb hp
theorem orP_n {prec b : Int} (h : prec ≠ 0) : prec = orP prec b := (if_neg h).symm
theorem orP_z {prec b : Int} (h : prec = 0) : b = orP prec b := (if_pos h).symm
variable {a b : MP} {prec : Int} {r : Rnd}
theorem addF_pert (na : a.man ≠ 0) (nb : b.man ≠ 0) (h : 0 < a.ex - b.ex) (c : 100 < a.ex - b.ex ∧ prec ≠ 0 ∧ prec + 4 < a.bc + a.ex - b.bc - b.ex) : addF a b ts prec r = pertF a.sg ts a.man a.ex prec r := by
  unfold addF; rw [if_neg na, if_neg nb, if_pos h, if_pos c]
theorem addF_pos (na : a.man ≠ 0) (nb : b.man ≠ 0) (h : 0 < a.ex - b.ex) (c : ¬ (100 < a.ex - b.ex ∧ prec ≠ 0 ∧ prec + 4 < a.bc + a.ex - b.bc - b.ex)) :
    addF a b ts prec r = addN (sv a.sg (a.man * 2 ^ (a.ex - b.ex).toNat) + sv ts b.man) b.ex prec r := by
  unfold addF; rw [if_neg na, if_neg nb, if_pos h, if_neg c]
theorem addF_pert' (na : a.man ≠ 0) (nb : b.man ≠ 0) (h : a.ex - b.ex < 0) (c : a.ex - b.ex < -100 ∧ prec ≠ 0 ∧ prec + 4 < b.bc + b.ex - a.bc - a.ex) : addF a b ts prec r = pertF ts a.sg b.man b.ex prec r := by
  unfold addF; rw [if_neg na, if_neg nb, if_neg (by omega), if_pos h, if_pos c]
theorem addF_neg (na : a.man ≠ 0) (nb : b.man ≠ 0) (h : a.ex - b.ex < 0) (c : ¬ (a.ex - b.ex < -100 ∧ prec ≠ 0 ∧ prec + 4 < b.bc + b.ex - a.bc - a.ex)) :
    addF a b ts prec r = addN (sv a.sg a.man + sv ts (b.man * 2 ^ (-(a.ex - b.ex)).toNat)) a.ex prec r := by
  unfold addF; rw [if_neg na, if_neg nb, if_neg (by omega), if_pos h, if_neg c]
theorem addF_mid (na : a.man ≠ 0) (nb : b.man ≠ 0) (h : a.ex - b.ex = 0) : addF a b ts prec r = addN (sv a.sg a.man + sv ts b.man) b.ex prec r := by
  unfold addF; rw [if_neg na, if_neg nb, if_neg (by omega), if_neg (by omega)]
end

local macro_rules | `(tactic| k_extra "svside") => `(tactic| (
  (case s1 => with_reducible assumption); (case s2 => with_reducible assumption); (case s3 => first | assumption | omega); (case s4 => first | assumption | omega)))
local macro_rules | `(tactic| k_extra "sv") => `(tactic| first
  | ((refine' sv_b ?s1 ?s2 ?s3 ?s4); k_extra "svside")
  | ((refine' sv_a ?s1 ?s2 ?s3 ?s4); k_extra "svside")
  | ((refine' sv_b' ?s1 ?s2 ?s3 ?s4); k_extra "svside")
  | ((refine' sv_a' ?s1 ?s2 ?s3 ?s4); k_extra "svside")
  | fail "sv")
local macro_rules | `(tactic| k_extra "finS") => `(tactic| (
  (rename (∀ h tk M tM S tS, Fr _ _ h (fm _ _) → _ → _ → _) => hQQ)
  refine' hQQ _ _ _ _ _ _ ?f1 ?f2 (And.intro ?f3 ?f4)
  (case f1 => k_asm)
  (case f2 => k_asm)
  (case f4 => (refine' bits_mono ?bt ?bu; (case bt => k_extra "bits"); (case bu => decide)))
  clear hQQ
  k_extra "letters"
  first
  | ((refine' sum_1 ?s1 ?s2 ?s3 ?s4); (case s1 => with_reducible assumption); (case s2 => first | assumption | omega); (case s3 => assumption); (case s4 => assumption))
  | ((refine' sum_2 ?s1 ?s2 ?s3 ?s4); (case s1 => with_reducible assumption); (case s2 => first | assumption | omega); (case s3 => assumption); (case s4 => assumption))
  | ((refine' sum_p ?e1 ?e2); (case e1 => k_extra "sv"); (case e2 => omega))
  | ((refine' sum_n ?e1 ?e2); (case e1 => k_extra "sv"); (case e2 => omega))
  | fail "finS"))
local macro_rules | `(tactic| k_extra "finCR") => `(tactic| first
  | ((rename (∀ h tk dv, Fr _ _ h (fm _ (List.set _ _ dv)) → _ → _ → _) => hQQ);
     refine' hQQ _ _ _ ?f1 ?f2 ?f3; (case f1 => k_asm); (case f2 => k_asm); (case f3 => omega))
  | ((rename (∀ D h tk vs' nw', Fr _ _ h (fm _ vs') → _ → _ → _ → _ → _) => hRR);
     refine' hRR _ _ _ _ _ ?f1 ?f2 ?f3 (TupH.as ?f4 ?f5) ?f6; (case f1 => k_asm); (case f2 => k_asm); (case f3 => k_extra "subl"); (case f5 => k_extra "tuph"); (case f6 => omega);
     (case f4 => (clear hRR; k_extra "letters"; unfold pertF; k_extra "mite5")))
  | fail "finCR")
local macro_rules | `(tactic| k_extra "finA") => `(tactic| (
  (rename (∀ r nw' h' tk', Fr _ _ h' _ → News _ _ h' nw' → Sub _ nw' → _ → _) => hret)
  refine' hret _ _ _ _ ?f1 ?f2 ?f3 ⟨_, rfl, TupH.as ?f4 ?f5⟩
  (case f1 => k_asm)
  (case f2 => k_asm)
  (case f3 => k_extra "subl")
  (case f5 => k_extra "tuph")
  clear hret
  (rename (addF _ _ _ _ _ = _) => hA)
  refine hA.trans ?_
  first
  | exact addN_sum (by with_reducible assumption) (by with_reducible assumption) (orP_n (by assumption))
  | exact addN_sum (by with_reducible assumption) (by with_reducible assumption) (orP_z (by assumption))
  | exact rfl
  | fail "finA"))
set_option maxRecDepth 100000 in
set_option maxHeartbeats 8000000 in
theorem c_addN (w : World) (news : Led) (vs : List Value) (D D' : Addr) (a b : MP) (prec sub : Int) (r : Rnd) (t u v : Tok) (hbs : BindsSo w 155 vs (addB D D' prec sub r t u v)) (H : TupH w news D a) (H' : TupH w news D' b) (ha : Wf a) (hb : Wf b) (sa : Sm 100000 a) (sb : Sm 100000 b) (hp : 0 ≤ prec) (hp' : prec ≤ 100000) (hsub : B01 sub) (na : a.man ≠ 0) (nb : b.man ≠ 0) :
    Tl w 155 vs 4 news (fun nw r' => ∃ D, r' = .ref D ∧ TupH w nw D (addF a b (Builtin.bitXor b.sg sub) prec r)) := by
  have hz : Bnd [Str.ofString "s", Str.ofString "t", Str.ofString "prec", Str.ofString "rnd", Str.ofString "_sub", Str.ofString "ssign", Str.ofString "sman", Str.ofString "sexp", Str.ofString "sbc", Str.ofString "tsign", Str.ofString "tman", Str.ofString "texp", Str.ofString "tbc", Str.ofString "offset", Str.ofString "delta", Str.ofString "man", Str.ofString "bc"] [some (.ref D), some (.ref D'), some (.int prec t), some (.str (rndS r) u), some (.int sub v), none, none, none, none, none, none, none, none, none, none, none, none] [(Str.ofString "s", .ref D), (Str.ofString "t", .ref D'), (Str.ofString "prec", .int prec t), (Str.ofString "rnd", .str (rndS r) u), (Str.ofString "_sub", .int sub v)] := by k_extra "bnd"
  have ba : Builtin.Int.intBits a.man ≤ 100000 := ha.bits sa (by omega)
  have bb : Builtin.Int.intBits b.man ≤ 100000 := hb.bits sb (by omega)
  have pa := ha.pos na
  have pb := hb.pos nb
  have ba1 := ha.b01
  have bb1 := hb.b01
  have bx1 := bb1.xor hsub
  clear ha hb
  obtain ⟨sa1, sa2, sa3⟩ := sa
  obtain ⟨sb1, sb2, sb3⟩ := sb
  k_extra "myenterF"
  k_extra "mysteps_if"
  walk1
  k_extra "mysteps_if"
  walk1
  k_extra "mysteps_if"
  · (rename (a.ex - b.ex ≠ 0) => hne)
    walk1
    k_extra "mysteps_if"
    · (rename (0 < a.ex - b.ex) => hof)
      refine' joinRet (w := w) (C := 100 < a.ex - b.ex ∧ prec ≠ 0 ∧ prec + 4 < a.bc + a.ex - b.bc - b.ex) (q := pertF a.sg (Builtin.bitXor b.sg sub) a.man a.ex prec r) 14 ?Fp ?Np ?p1 ?p2 ?p3
      (case Fp => k_asm)
      (case Np => k_asm)
      case p1 =>
        intro QQ EE hQQ hRR
        k_extra "mysteps"
        all_goals k_extra "finCR"
      case p2 =>
        intro h' tk' dv F' N' hC
        dsimp only [List.set] at F'
        dsimp only
        try k_sweep
        k_extra "mysteps_if"
        have hA := addF_pos (ts := Builtin.bitXor b.sg sub) (r := r) na nb hof hC
        refine' joinI (R := fun M S => SumS (sv a.sg (a.man * 2 ^ (a.ex - b.ex).toNat) + sv (Builtin.bitXor b.sg sub) b.man) M S) 15 5 ?Fps ?Nps ?ps1 ?ps2
        (case Fps => k_asm)
        (case Nps => k_asm)
        case ps1 =>
          clear hA
          intro QQ EE hQQ
          k_extra "mysteps"
          all_goals k_extra "finS"
        case ps2 =>
          intro h' tk' M tM S tS F' N' hR
          obtain ⟨hR1, hR2, hR3⟩ := hR.facts
          dsimp only [List.set] at F'
          dsimp only
          try k_sweep
          k_extra "mysteps"
          all_goals k_extra "finA"
      case p3 =>
        intro D9 h' tk' vs' nw' F' N' S' H9 hC
        have hA := addF_pert (ts := Builtin.bitXor b.sg sub) (r := r) na nb hof hC
        dsimp only
        try k_sweep
        k_extra "mysteps"
        all_goals k_extra "finA"
    · have hof : a.ex - b.ex < 0 := by omega
      walk1
      k_extra "mysteps_if"
      refine' joinRet (w := w) (C := a.ex - b.ex < -100 ∧ prec ≠ 0 ∧ prec + 4 < b.bc + b.ex - a.bc - a.ex) (q := pertF (Builtin.bitXor b.sg sub) a.sg b.man b.ex prec r) 14 ?Fn ?Nn ?n1 ?n2 ?n3
      (case Fn => k_asm)
      (case Nn => k_asm)
      case n1 =>
        intro QQ EE hQQ hRR
        k_extra "mysteps"
        all_goals k_extra "finCR"
      case n2 =>
        intro h' tk' dv F' N' hC
        dsimp only [List.set] at F'
        dsimp only
        try k_sweep
        k_extra "mysteps_if"
        have hA := addF_neg (ts := Builtin.bitXor b.sg sub) (r := r) na nb hof hC
        refine' joinI (R := fun M S => SumS (sv a.sg a.man + sv (Builtin.bitXor b.sg sub) (b.man * 2 ^ (-(a.ex - b.ex)).toNat)) M S) 15 5 ?Fns ?Nns ?ns1 ?ns2
        (case Fns => k_asm)
        (case Nns => k_asm)
        case ns1 =>
          clear hA
          intro QQ EE hQQ
          k_extra "mysteps"
          all_goals k_extra "finS"
        case ns2 =>
          intro h' tk' M tM S tS F' N' hR
          obtain ⟨hR1, hR2, hR3⟩ := hR.facts
          dsimp only [List.set] at F'
          dsimp only
          try k_sweep
          k_extra "mysteps"
          all_goals k_extra "finA"
      case n3 =>
        intro D9 h' tk' vs' nw' F' N' S' H9 hC
        have hA := addF_pert' (ts := Builtin.bitXor b.sg sub) (r := r) na nb hof hC
        dsimp only
        try k_sweep
        k_extra "mysteps"
        all_goals k_extra "finA"
  · (rename (a.ex - b.ex = 0) => hof)
    k_extra "mysteps_if"
    have hA := addF_mid (ts := Builtin.bitXor b.sg sub) (prec := prec) (r := r) na nb hof
    refine' joinI (R := fun M S => SumS (sv a.sg a.man + sv (Builtin.bitXor b.sg sub) b.man) M S) 15 5 ?Fz ?Nz ?z1 ?z2
    (case Fz => k_asm)
    (case Nz => k_asm)
    case z1 =>
      clear hA
      intro QQ EE hQQ
      k_extra "mysteps"
      all_goals k_extra "finS"
    case z2 =>
      intro h' tk' M tM S tS F' N' hR
      obtain ⟨hR1, hR2, hR3⟩ := hR.facts
      dsimp only [List.set] at F'
      dsimp only
      try k_sweep
      k_extra "mysteps"
      all_goals k_extra "finA"
end
local macro_rules | `(tactic| k_extra "my exec If") => `(tactic| (k_here; with_reducible refine wpAny_If ?_))
local macro_rules | `(tactic| k_extra "bits") => `(tactic| first
  | with_reducible assumption
  | exact bits_one1
  | (with_reducible (refine' bits_shl (K := 200100) ?e0 ?e1 ?e2); (case e0 => with_reducible assumption); (case e1 => k_extra "bits"); (case e2 => k_dflt omega))
  | (with_reducible (refine' bits_negC ?bx); (case bx => k_extra "bits"))
  | (with_reducible (refine' bits_addM ?bx ?bw); (case bx => k_extra "bits"); (case bw => k_extra "bits"))
  | (with_reducible (refine' bits_subM ?bx ?bw); (case bx => k_extra "bits"); (case bw => k_extra "bits"))
  | fail "bits")
local macro_rules | `(tactic| k_extra "prem") => `(tactic| first
  | with_reducible assumption
  | with_reducible exact B01.zero
  | with_reducible exact B01.one
  | (with_reducible (refine' B01.xorL ?xa ?xb ?xc); (case xc => with_reducible assumption); (case xa => with_reducible assumption); (case xb => with_reducible assumption))
  | ((with_reducible show TupH _ _ _ _); k_extra "tuph")
  | omega
  | k_dflt ((rename (_ = ((Builtin.Int.intBits _ : Nat) : Int)) => hz); refine' lt_of_bits hz ?b ?c; (case b => k_extra "bits"); (case c => omega))
  | fail "prem")
local macro_rules | `(tactic| k_extra "mite5") => `(tactic| first
  | with_reducible rfl
  | (refine (if_pos ?_).trans ?_; (focus (k_extra "dec")); k_extra "mite5")
  | (refine (if_neg ?_).trans ?_; (focus (k_extra "dec")); k_extra "mite5")
  | (refine addN_pos ?_ ?_ ?_ ?_ ?_ <;> first | with_reducible rfl | omega | (unfold orP; split <;> omega) | fail "mite5")
  | (refine addN_neg ?_ ?_ ?_ ?_ ?_ <;> first | with_reducible rfl | omega | (unfold orP; split <;> omega) | fail "mite5")
  | (refine normF_as ?_ ?_ ?_ ?_ ?_ <;> first | with_reducible rfl | omega | (unfold orP; split <;> omega) | fail "mite5")
  | fail "mite5")
section
theorem fillK_W5c : (hd.heap_39 = hd.heap_39) ∧ PySem.Challenge.rw_aj5009_01 = PySem.Challenge.rw_aj5009_01 := by
  k_fill
  exact ⟨rfl, rfl⟩
local macro_rules | `(tactic| k_extra "my call ref") => `(tactic| (k_here; (with_reducible show wpAny _ _ (call (Value.ref 78) [Value.int _ _, Value.int _ _, Value.int _ _, Value.int _ _, Value.int _ _, Value.str _ _]) _ _ _); k_dflt (refine' Tl.use (c_normB _ _ _ _ _ _ _ _ _ _ _ _ _ _ ?h0 ?h1 ?h2 ?h3 ?h4) ?k1 ?k2 ?k3 ?k4 ?k5 ?kK ?kd ?ku ?_; (case k2 => k_asm); (case k4 => k_asm); (case h0 => k_extra "prem"); (case h1 => k_extra "prem"); (case h2 => k_extra "prem"); (case h3 => k_extra "prem"); (case h4 => k_extra "prem"); k_extra "tlargs2"); k_extra "tltup"))
local macro_rules | `(tactic| k_extra "my call ref") => `(tactic| (k_here; (with_reducible show wpAny _ _ (call (Value.ref 132) [Value.ref _]) _ _ _); k_dflt (refine' Tl.use (c_neg _ _ _ _ ?h0 ?h1) ?k1 ?k2 ?k3 ?k4 ?k5 ?kK ?kd ?ku ?_; (case k2 => k_asm); (case k4 => k_asm); (case h0 => k_extra "prem"); (case h1 => k_extra "prem"); k_extra "tlargs2"); k_extra "tltup"))
set_option maxRecDepth 100000 in
set_option maxHeartbeats 8000000 in
theorem c_add0a (w : World) (news : Led) (vs : List Value) (D D' : Addr) (a b : MP) (prec sub : Int) (r : Rnd) (t u v : Tok) (hbs : BindsSo w 155 vs (addB D D' prec sub r t u v)) (H : TupH w news D a) (H' : TupH w news D' b) (ha : Wf a) (hb : Wf b) (sb : Sm 100000 b) (hp : 0 ≤ prec) (hp' : prec ≤ 100000) (hsub : B01 sub) (na : a.man = 0) :
    Tl w 155 vs 4 news (fun nw r' => ∃ D, r' = .ref D ∧ TupH w nw D (addF a b (Builtin.bitXor b.sg sub) prec r)) := by
  have hz : Bnd [Str.ofString "s", Str.ofString "t", Str.ofString "prec", Str.ofString "rnd", Str.ofString "_sub", Str.ofString "ssign", Str.ofString "sman", Str.ofString "sexp", Str.ofString "sbc", Str.ofString "tsign", Str.ofString "tman", Str.ofString "texp", Str.ofString "tbc", Str.ofString "offset", Str.ofString "delta", Str.ofString "man", Str.ofString "bc"] [some (.ref D), some (.ref D'), some (.int prec t), some (.str (rndS r) u), some (.int sub v), none, none, none, none, none, none, none, none, none, none, none, none] [(Str.ofString "s", .ref D), (Str.ofString "t", .ref D'), (Str.ofString "prec", .int prec t), (Str.ofString "rnd", .str (rndS r) u), (Str.ofString "_sub", .int sub v)] := by k_extra "bnd"
  have e := ha.zero na
  subst e
  have bb1 := hb.b01
  have hw := hb
  obtain ⟨hb1, hb2, hb3, hb4, hb5⟩ := hb
  clear hb1 hb5
  obtain ⟨sb1, sb2, sb3⟩ := sb
  dsimp only [fzero] at H
  k_extra "myenterF"
  k_extra "mysteps"
  all_goals (
    rename (∀ r nw' h' tk', Fr _ _ h' _ → News _ _ h' nw' → Sub _ nw' → _ → _) => hret
    refine hret _ _ _ _ (by k_asm) (by k_asm) (by k_extra "subl") ⟨_, rfl, ?_⟩
    refine TupH.as ?_ (by k_extra "tuph")
    k_extra "letters"
    clear hret
    dsimp only [addF, fzero, negF]
    first
    | k_extra "mite5"
    | (have ez := hw.zero (by omega); subst ez; dsimp only [fzero]; simp only [eq_self, if_true]))
set_option maxRecDepth 100000 in
set_option maxHeartbeats 8000000 in
theorem c_add0b (w : World) (news : Led) (vs : List Value) (D D' : Addr) (a b : MP) (prec sub : Int) (r : Rnd) (t u v : Tok) (hbs : BindsSo w 155 vs (addB D D' prec sub r t u v)) (H : TupH w news D a) (H' : TupH w news D' b) (ha : Wf a) (hb : Wf b) (sa : Sm 100000 a) (hp : 0 ≤ prec) (hp' : prec ≤ 100000) (hsub : B01 sub) (na : a.man ≠ 0) (nb : b.man = 0) :
    Tl w 155 vs 4 news (fun nw r' => ∃ D, r' = .ref D ∧ TupH w nw D (addF a b (Builtin.bitXor b.sg sub) prec r)) := by
  have hz : Bnd [Str.ofString "s", Str.ofString "t", Str.ofString "prec", Str.ofString "rnd", Str.ofString "_sub", Str.ofString "ssign", Str.ofString "sman", Str.ofString "sexp", Str.ofString "sbc", Str.ofString "tsign", Str.ofString "tman", Str.ofString "texp", Str.ofString "tbc", Str.ofString "offset", Str.ofString "delta", Str.ofString "man", Str.ofString "bc"] [some (.ref D), some (.ref D'), some (.int prec t), some (.str (rndS r) u), some (.int sub v), none, none, none, none, none, none, none, none, none, none, none, none] [(Str.ofString "s", .ref D), (Str.ofString "t", .ref D'), (Str.ofString "prec", .int prec t), (Str.ofString "rnd", .str (rndS r) u), (Str.ofString "_sub", .int sub v)] := by k_extra "bnd"
  have e := hb.zero nb
  have ba1 := ha.b01
  have pa := ha.pos na
  obtain ⟨ha1, ha2, ha3, ha4, ha5⟩ := ha
  clear ha1 ha4 ha5
  obtain ⟨sa1, sa2, sa3⟩ := sa
  subst e
  dsimp only [fzero] at H'
  have wz : Wf ⟨0, 0, 0, 0⟩ := ⟨.inl rfl, Int.le_refl _, by decide, fun _ => ⟨rfl, rfl, rfl⟩, .inl rfl⟩
  k_extra "myenterF"
  k_extra "mysteps"
  all_goals (
    rename (∀ r nw' h' tk', Fr _ _ h' _ → News _ _ h' nw' → Sub _ nw' → _ → _) => hret
    refine hret _ _ _ _ (by k_asm) (by k_asm) (by k_extra "subl") ⟨_, rfl, ?_⟩
    refine TupH.as ?_ (by k_extra "tuph")
    k_extra "letters"
    clear hret
    dsimp only [addF, fzero, negF]
    k_extra "mite5")
end
section
theorem fillK_W6 : (hd.heap_39 = hd.heap_39) ∧ PySem.Challenge.rw_aj5009_01 = PySem.Challenge.rw_aj5009_01 := by
  k_fill
  exact ⟨rfl, rfl⟩
theorem c_add (w : World) (news : Led) (vs : List Value) (D D' : Addr) (a b : MP) (prec sub : Int) (r : Rnd) (t u v : Tok) (hbs : BindsSo w 155 vs (addB D D' prec sub r t u v)) (H : TupH w news D a) (H' : TupH w news D' b) (ha : Wf a) (hb : Wf b) (sa : Sm 100000 a) (sb : Sm 100000 b) (hp : 0 ≤ prec) (hp' : prec ≤ 100000) (hsub : B01 sub) :
    Tl w 155 vs 4 news (fun nw r' => ∃ D, r' = .ref D ∧ TupH w nw D (addF a b (Builtin.bitXor b.sg sub) prec r)) := by
  by_cases na : a.man = 0
  · exact c_add0a w news vs D D' a b prec sub r t u v hbs H H' ha hb sb hp hp' hsub na
  · by_cases nb : b.man = 0
    · exact c_add0b w news vs D D' a b prec sub r t u v hbs H H' ha hb sa hp hp' hsub na nb
    · exact c_addN w news vs D D' a b prec sub r t u v hbs H H' ha hb sa sb hp hp' hsub na nb
theorem bs_add2 (w : World) (D D' : Addr) : BindsSo w 155 [.ref D, .ref D'] (addB D D' 0 0 .d 430 252 431) := by
  intro s fd oc od osl X h
  have e := add_binds h (by k_is)
  subst e
  exact binds_K X rfl (by k_is) rfl rfl rfl
theorem bs_add4 (w : World) (D D' : Addr) (prec : Int) (r : Rnd) (t u : Tok) : BindsSo w 155 [.ref D, .ref D', .int prec t, .str (rndS r) u] (addB D D' prec 0 r t u 431) := by
  intro s fd oc od osl X h
  have e := add_binds h (by k_is)
  subst e
  exact binds_K X rfl (by k_is) rfl rfl rfl
theorem bs_add5 (w : World) (D D' : Addr) (prec sub : Int) (r : Rnd) (t u v : Tok) : BindsSo w 155 [.ref D, .ref D', .int prec t, .str (rndS r) u, .int sub v] (addB D D' prec sub r t u v) := by
  intro s fd oc od osl X h
  have e := add_binds h (by k_is)
  subst e
  exact binds_K X rfl (by k_is) rfl rfl rfl
theorem c_add2 (w : World) (news : Led) (D D' : Addr) (a b : MP) (H : TupH w news D a) (H' : TupH w news D' b) (ha : Wf a) (hb : Wf b) (sa : Sm 100000 a) (sb : Sm 100000 b) :
    Tl w 155 [.ref D, .ref D'] 4 news (fun nw r' => ∃ D, r' = .ref D ∧ TupH w nw D (addF a b (Builtin.bitXor b.sg 0) 0 .d)) :=
  c_add w news _ D D' a b 0 0 .d 430 252 431 (bs_add2 w D D') H H' ha hb sa sb (Int.le_refl _) (by decide) B01.zero
theorem c_add4 (w : World) (news : Led) (D D' : Addr) (a b : MP) (prec : Int) (r : Rnd) (t u : Tok) (H : TupH w news D a) (H' : TupH w news D' b) (ha : Wf a) (hb : Wf b) (sa : Sm 100000 a) (sb : Sm 100000 b) (hp : 0 ≤ prec) (hp' : prec ≤ 100000) :
    Tl w 155 [.ref D, .ref D', .int prec t, .str (rndS r) u] 4 news (fun nw r' => ∃ D, r' = .ref D ∧ TupH w nw D (addF a b (Builtin.bitXor b.sg 0) prec r)) :=
  c_add w news _ D D' a b prec 0 r t u 431 (bs_add4 w D D' prec r t u) H H' ha hb sa sb hp hp' B01.zero
theorem c_add5 (w : World) (news : Led) (D D' : Addr) (a b : MP) (prec sub : Int) (r : Rnd) (t u v : Tok) (H : TupH w news D a) (H' : TupH w news D' b) (ha : Wf a) (hb : Wf b) (sa : Sm 100000 a) (sb : Sm 100000 b) (hp : 0 ≤ prec) (hp' : prec ≤ 100000) (hsub : B01 sub) :
    Tl w 155 [.ref D, .ref D', .int prec t, .str (rndS r) u, .int sub v] 4 news (fun nw r' => ∃ D, r' = .ref D ∧ TupH w nw D (addF a b (Builtin.bitXor b.sg sub) prec r)) :=
  c_add w news _ D D' a b prec sub r t u v (bs_add5 w D D' prec sub r t u v) H H' ha hb sa sb hp hp' hsub
end
section
theorem fillK_W6b : (hd.heap_39 = hd.heap_39) ∧ PySem.Challenge.rw_aj5009_01 = PySem.Challenge.rw_aj5009_01 := by
  k_fill
  exact ⟨rfl, rfl⟩
local macro_rules | `(tactic| k_extra "my call ref") => `(tactic| (k_here; (with_reducible show wpAny _ _ (call (Value.ref 155) [Value.ref _, Value.ref _, Value.int _ _, Value.str _ _, Value.int _ _]) _ _ _); k_dflt (refine' Tl.use (c_add5 _ _ _ _ _ _ _ _ _ _ _ _ ?h0 ?h1 ?h2 ?h3 ?h4 ?h5 ?h6 ?h7 ?h8) ?k1 ?k2 ?k3 ?k4 ?k5 ?kK ?kd ?ku ?_; (case k2 => k_asm); (case k4 => k_asm); (case h0 => k_extra "prem"); (case h1 => k_extra "prem"); (case h2 => k_extra "prem"); (case h3 => k_extra "prem"); (case h4 => k_extra "prem"); (case h5 => k_extra "prem"); (case h6 => k_extra "prem"); (case h7 => k_extra "prem"); (case h8 => k_extra "prem"); k_extra "tlargs2"); k_extra "tltup"))
set_option maxRecDepth 100000 in
set_option maxHeartbeats 8000000 in
theorem c_sub4 (w : World) (news : Led) (D D' : Addr) (a b : MP) (prec : Int) (r : Rnd) (t u : Tok) (H : TupH w news D a) (H' : TupH w news D' b) (ha : Wf a) (hb : Wf b) (sa : Sm 100000 a) (sb : Sm 100000 b) (hp : 0 ≤ prec) (hp' : prec ≤ 100000) :
    Tl w 163 [.ref D, .ref D', .int prec t, .str (rndS r) u] 5 news (fun nw r' => ∃ D, r' = .ref D ∧ TupH w nw D (addF a b (Builtin.bitXor b.sg 1) prec r)) := by
  have hz : Bnd [Str.ofString "s", Str.ofString "t", Str.ofString "prec", Str.ofString "rnd"] [some (.ref D), some (.ref D'), some (.int prec t), some (.str (rndS r) u)] [(Str.ofString "s", .ref D), (Str.ofString "t", .ref D'), (Str.ofString "prec", .int prec t), (Str.ofString "rnd", .str (rndS r) u)] := by k_extra "bnd"
  k_extra "myenterF"
  k_extra "mysteps"
  k_extra "rettup"
  k_extra "tuph"
theorem rndS_d : rndS .d = (⟨#[100]⟩ : Str) := by decide
theorem c_add5d (w : World) (news : Led) (D D' : Addr) (a b : MP) (prec sub : Int) (t u v : Tok) (H : TupH w news D a) (H' : TupH w news D' b) (ha : Wf a) (hb : Wf b) (sa : Sm 100000 a) (sb : Sm 100000 b) (hp : 0 ≤ prec) (hp' : prec ≤ 100000) (hsub : B01 sub) :
    Tl w 155 [.ref D, .ref D', .int prec t, .str ⟨#[100]⟩ u, .int sub v] 4 news (fun nw r' => ∃ D, r' = .ref D ∧ TupH w nw D (addF a b (Builtin.bitXor b.sg sub) prec .d)) := by
  have := c_add5 w news D D' a b prec sub .d t u v H H' ha hb sa sb hp hp' hsub
  rw [rndS_d] at this
  exact this
local macro_rules | `(tactic| k_extra "my call ref") => `(tactic| (k_here; (with_reducible show wpAny _ _ (call (Value.ref 155) [Value.ref _, Value.ref _, Value.int _ _, Value.str _ _, Value.int _ _]) _ _ _); k_dflt (refine' Tl.use (c_add5d _ _ _ _ _ _ _ _ _ _ _ ?h0 ?h1 ?h2 ?h3 ?h4 ?h5 ?h6 ?h7 ?h8) ?k1 ?k2 ?k3 ?k4 ?k5 ?kK ?kd ?ku ?_; (case k2 => k_asm); (case k4 => k_asm); (case h0 => k_extra "prem"); (case h1 => k_extra "prem"); (case h2 => k_extra "prem"); (case h3 => k_extra "prem"); (case h4 => k_extra "prem"); (case h5 => k_extra "prem"); (case h6 => k_extra "prem"); (case h7 => k_extra "prem"); (case h8 => k_extra "prem"); k_extra "tlargs2"); k_extra "tltup"))
set_option maxRecDepth 100000 in
set_option maxHeartbeats 8000000 in
theorem c_sub2 (w : World) (news : Led) (D D' : Addr) (a b : MP) (H : TupH w news D a) (H' : TupH w news D' b) (ha : Wf a) (hb : Wf b) (sa : Sm 100000 a) (sb : Sm 100000 b) :
    Tl w 163 [.ref D, .ref D'] 5 news (fun nw r' => ∃ D, r' = .ref D ∧ TupH w nw D (addF a b (Builtin.bitXor b.sg 1) 0 .d)) := by
  have hz : Bnd [Str.ofString "s", Str.ofString "t", Str.ofString "prec", Str.ofString "rnd"] [some (.ref D), some (.ref D'), some (.int 0 455), some (.str (rndS .d) 252)] [(Str.ofString "s", .ref D), (Str.ofString "t", .ref D'), (Str.ofString "prec", .int 0 455), (Str.ofString "rnd", .str (rndS .d) 252)] := by k_extra "bnd"
  k_extra "myenterF"
  k_extra "mysteps"
  k_extra "rettup"
  k_extra "tuph"
end
local macro_rules | `(tactic| k_extra "bits") => `(tactic| (with_reducible (refine' bits_mulC ?e0 ?e1 ?e2); (case e0 => with_reducible assumption); (case e1 => k_extra "bits"); (case e2 => k_extra "bits")))
local macro_rules | `(tactic| k_extra "prem") => `(tactic| ((with_reducible show Builtin.Int.intBits _ ≤ 999999); refine' bits_mono ?ba ?bb; (case ba => k_dflt (k_extra "bits")); (case bb => k_dflt omega)))
local macro_rules | `(tactic| k_extra "prem") => `(tactic| ((with_reducible show B01 _); (refine' B01.xorL ?xa B01.one ?xc); (case xc => with_reducible assumption); (case xa => with_reducible assumption)))
section
theorem fillK_W7 : (hd.heap_39 = hd.heap_39) ∧ PySem.Challenge.rw_aj5009_01 = PySem.Challenge.rw_aj5009_01 := by
  k_fill
  exact ⟨rfl, rfl⟩
theorem c_normE (w : World) (news : Led) (sign man exp bc prec : Int) (r : Rnd) (t1 t2 t3 t4 t5 t6 : Tok) (hs : B01 sign) (h0 : 0 ≤ man) (hbc : bc = (Builtin.Int.intBits man : Int)) (hb : Builtin.Int.intBits man ≤ 999999) (hp : 0 ≤ prec) :
    Tl w 78 [.int sign t1, .int man t2, .int exp t3, .int bc t4, .int prec t5, .str (rndS r) t6] 3 news (fun nw r' => ∃ D, r' = .ref D ∧ TupH w nw D (normF sign man exp bc prec r)) := c_norm w news sign man exp bc prec r t1 t2 t3 t4 t5 t6 hs h0 hbc (by omega) hp
def mulF (a b : MP) (prec : Int) (r : Rnd) : MP :=
  if a.man * b.man = 0 then fzero
  else if prec = 0 then ⟨Builtin.bitXor a.sg b.sg, a.man * b.man, a.ex + b.ex, (Builtin.Int.intBits (a.man * b.man) : Int)⟩
  else normF (Builtin.bitXor a.sg b.sg) (a.man * b.man) (a.ex + b.ex) (Builtin.Int.intBits (a.man * b.man) : Int) prec r
local macro_rules | `(tactic| k_extra "my call ref") => `(tactic| (k_here; (with_reducible show wpAny _ _ (call (Value.ref 78) [Value.int _ _, Value.int _ _, Value.int _ _, Value.int _ _, Value.int _ _, Value.str _ _]) _ _ _); k_dflt (refine' Tl.use (c_normE _ _ _ _ _ _ _ _ _ _ _ _ _ _ ?h0 ?h1 ?h2 ?h3 ?h4) ?k1 ?k2 ?k3 ?k4 ?k5 ?kK ?kd ?ku ?_; (case k2 => k_asm); (case k4 => k_asm); (case h0 => k_extra "prem"); (case h1 => k_extra "prem"); (case h2 => k_extra "prem"); (case h3 => k_extra "prem"); (case h4 => k_extra "prem"); k_extra "tlargs2"); k_extra "tltup"))
abbrev mulB (D D' : Addr) (prec : Int) (r : Rnd) (t u : Tok) : List (Str × Value) := [(Str.ofString "s", .ref D), (Str.ofString "t", .ref D'), (Str.ofString "prec", .int prec t), (Str.ofString "rnd", .str (rndS r) u)]
local macro_rules | `(tactic| k_extra "fin7") => `(tactic| (
    rename (∀ r nw' h' tk', Fr _ _ h' _ → News _ _ h' nw' → Sub _ nw' → _ → _) => hret
    refine hret _ _ _ _ (by k_asm) (by k_asm) (by k_extra "subl") ⟨_, rfl, ?_⟩
    clear hret
    first
    | (refine TupH.as ?_ (by k_extra "tuph"); k_extra "letters"; (try dsimp only [mulF, fzero]); k_extra "mite5")
    | (refine TupH.here ?_ (by k_mem); k_extra "letters"; (try dsimp only [mulF, fzero]); k_extra "mite5")
    | fail "fin7"))
set_option maxRecDepth 100000 in
set_option maxHeartbeats 8000000 in
theorem c_mulN (w : World) (news : Led) (vs : List Value) (D D' : Addr) (a b : MP) (prec : Int) (r : Rnd) (t u : Tok) (hbs : BindsSo w 171 vs (mulB D D' prec r t u)) (H : TupH w news D a) (H' : TupH w news D' b) (ha : Wf a) (hb : Wf b) (sa : Sm 100000 a) (sb : Sm 100000 b) (hp : 0 ≤ prec) (hp' : prec ≤ 100000) (na : a.man ≠ 0) (nb : b.man ≠ 0) :
    Tl w 171 vs 4 news (fun nw r' => ∃ D, r' = .ref D ∧ TupH w nw D (mulF a b prec r)) := by
  have hz : Bnd [Str.ofString "s", Str.ofString "t", Str.ofString "prec", Str.ofString "rnd", Str.ofString "ssign", Str.ofString "sman", Str.ofString "sexp", Str.ofString "sbc", Str.ofString "tsign", Str.ofString "tman", Str.ofString "texp", Str.ofString "tbc", Str.ofString "sign", Str.ofString "man", Str.ofString "bc", Str.ofString "s_special", Str.ofString "t_special"] [some (.ref D), some (.ref D'), some (.int prec t), some (.str (rndS r) u), none, none, none, none, none, none, none, none, none, none, none, none, none] [(Str.ofString "s", .ref D), (Str.ofString "t", .ref D'), (Str.ofString "prec", .int prec t), (Str.ofString "rnd", .str (rndS r) u)] := by k_extra "bnd"
  have ba : Builtin.Int.intBits a.man ≤ 100000 := ha.bits sa (by omega)
  have bb : Builtin.Int.intBits b.man ≤ 100000 := hb.bits sb (by omega)
  have pm := Int.mul_pos (ha.pos na) (hb.pos nb)
  have ba1 := ha.b01
  have bb1 := hb.b01
  have hmk : IntMulOk a.man b.man := mulok_le ba bb (by decide)
  clear ha hb sa sb
  k_extra "myenterF"
  k_extra "mysteps"
  all_goals k_extra "fin7"
set_option maxRecDepth 100000 in
set_option maxHeartbeats 8000000 in
theorem c_mul0a (w : World) (news : Led) (vs : List Value) (D D' : Addr) (a b : MP) (prec : Int) (r : Rnd) (t u : Tok) (hbs : BindsSo w 171 vs (mulB D D' prec r t u)) (H : TupH w news D a) (H' : TupH w news D' b) (ha : Wf a) (hb : Wf b) (na : a.man = 0) :
    Tl w 171 vs 4 news (fun nw r' => ∃ D, r' = .ref D ∧ TupH w nw D (mulF a b prec r)) := by
  have hz : Bnd [Str.ofString "s", Str.ofString "t", Str.ofString "prec", Str.ofString "rnd", Str.ofString "ssign", Str.ofString "sman", Str.ofString "sexp", Str.ofString "sbc", Str.ofString "tsign", Str.ofString "tman", Str.ofString "texp", Str.ofString "tbc", Str.ofString "sign", Str.ofString "man", Str.ofString "bc", Str.ofString "s_special", Str.ofString "t_special"] [some (.ref D), some (.ref D'), some (.int prec t), some (.str (rndS r) u), none, none, none, none, none, none, none, none, none, none, none, none, none] [(Str.ofString "s", .ref D), (Str.ofString "t", .ref D'), (Str.ofString "prec", .int prec t), (Str.ofString "rnd", .str (rndS r) u)] := by k_extra "bnd"
  have e := ha.zero na
  subst e
  obtain ⟨hb1, hb2, hb3, hb4, hb5⟩ := hb
  clear hb1 hb5
  have hmk : IntMulOk 0 b.man := IntMulOk.of_left (by decide)
  dsimp only [fzero] at H
  k_extra "myenterF"
  k_extra "mysteps"
  all_goals k_extra "fin7"
set_option maxRecDepth 100000 in
set_option maxHeartbeats 8000000 in
theorem c_mul0b (w : World) (news : Led) (vs : List Value) (D D' : Addr) (a b : MP) (prec : Int) (r : Rnd) (t u : Tok) (hbs : BindsSo w 171 vs (mulB D D' prec r t u)) (H : TupH w news D a) (H' : TupH w news D' b) (ha : Wf a) (hb : Wf b) (nb : b.man = 0) :
    Tl w 171 vs 4 news (fun nw r' => ∃ D, r' = .ref D ∧ TupH w nw D (mulF a b prec r)) := by
  have hz : Bnd [Str.ofString "s", Str.ofString "t", Str.ofString "prec", Str.ofString "rnd", Str.ofString "ssign", Str.ofString "sman", Str.ofString "sexp", Str.ofString "sbc", Str.ofString "tsign", Str.ofString "tman", Str.ofString "texp", Str.ofString "tbc", Str.ofString "sign", Str.ofString "man", Str.ofString "bc", Str.ofString "s_special", Str.ofString "t_special"] [some (.ref D), some (.ref D'), some (.int prec t), some (.str (rndS r) u), none, none, none, none, none, none, none, none, none, none, none, none, none] [(Str.ofString "s", .ref D), (Str.ofString "t", .ref D'), (Str.ofString "prec", .int prec t), (Str.ofString "rnd", .str (rndS r) u)] := by k_extra "bnd"
  have e := hb.zero nb
  subst e
  obtain ⟨hb1, hb2, hb3, hb4, hb5⟩ := ha
  clear hb1 hb5
  have hmk : IntMulOk a.man 0 := IntMulOk.of_right (by decide)
  dsimp only [fzero] at H'
  k_extra "myenterF"
  k_extra "mysteps"
  all_goals k_extra "fin7"
theorem c_mul (w : World) (news : Led) (vs : List Value) (D D' : Addr) (a b : MP) (prec : Int) (r : Rnd) (t u : Tok) (hbs : BindsSo w 171 vs (mulB D D' prec r t u)) (H : TupH w news D a) (H' : TupH w news D' b) (ha : Wf a) (hb : Wf b) (sa : Sm 100000 a) (sb : Sm 100000 b) (hp : 0 ≤ prec) (hp' : prec ≤ 100000) :
    Tl w 171 vs 4 news (fun nw r' => ∃ D, r' = .ref D ∧ TupH w nw D (mulF a b prec r)) := by
  by_cases na : a.man = 0
  · exact c_mul0a w news vs D D' a b prec r t u hbs H H' ha hb na
  · by_cases nb : b.man = 0
    · exact c_mul0b w news vs D D' a b prec r t u hbs H H' ha hb nb
    · exact c_mulN w news vs D D' a b prec r t u hbs H H' ha hb sa sb hp hp' na nb
theorem bs_mul2 (w : World) (D D' : Addr) : BindsSo w 171 [.ref D, .ref D'] (mulB D D' 0 .d 466 252) := by
  intro s fd oc od osl X h
  have e := add_binds h (by k_is)
  subst e
  exact binds_K X rfl (by k_is) rfl rfl rfl
theorem bs_mul4 (w : World) (D D' : Addr) (prec : Int) (r : Rnd) (t u : Tok) : BindsSo w 171 [.ref D, .ref D', .int prec t, .str (rndS r) u] (mulB D D' prec r t u) := by
  intro s fd oc od osl X h
  have e := add_binds h (by k_is)
  subst e
  exact binds_K X rfl (by k_is) rfl rfl rfl
theorem c_mul2 (w : World) (news : Led) (D D' : Addr) (a b : MP) (H : TupH w news D a) (H' : TupH w news D' b) (ha : Wf a) (hb : Wf b) (sa : Sm 100000 a) (sb : Sm 100000 b) :
    Tl w 171 [.ref D, .ref D'] 4 news (fun nw r' => ∃ D, r' = .ref D ∧ TupH w nw D (mulF a b 0 .d)) :=
  c_mul w news _ D D' a b 0 .d 466 252 (bs_mul2 w D D') H H' ha hb sa sb (Int.le_refl _) (by decide)
theorem c_mul4 (w : World) (news : Led) (D D' : Addr) (a b : MP) (prec : Int) (r : Rnd) (t u : Tok) (H : TupH w news D a) (H' : TupH w news D' b) (ha : Wf a) (hb : Wf b) (sa : Sm 100000 a) (sb : Sm 100000 b) (hp : 0 ≤ prec) (hp' : prec ≤ 100000) :
    Tl w 171 [.ref D, .ref D', .int prec t, .str (rndS r) u] 4 news (fun nw r' => ∃ D, r' = .ref D ∧ TupH w nw D (mulF a b prec r)) :=
  c_mul w news _ D D' a b prec r t u (bs_mul4 w D D' prec r t u) H H' ha hb sa sb hp hp'
end
section
theorem fillK_W8 : (hd.heap_39 = hd.heap_39) ∧ PySem.Challenge.rw_aj5009_01 = PySem.Challenge.rw_aj5009_01 := by
  k_fill
  exact ⟨rfl, rfl⟩
local macro_rules | `(tactic| k_extra "my call ref") => `(tactic| (k_here; (with_reducible show wpAny _ _ (call (Value.ref 78) [Value.int _ _, Value.int _ _, Value.int _ _, Value.int _ _, Value.int _ _, Value.str _ _]) _ _ _); k_dflt (refine' Tl.use (c_normE _ _ _ _ _ _ _ _ _ _ _ _ _ _ ?h0 ?h1 ?h2 ?h3 ?h4) ?k1 ?k2 ?k3 ?k4 ?k5 ?kK ?kd ?ku ?_; (case k2 => k_asm); (case k4 => k_asm); (case h0 => k_extra "prem"); (case h1 => k_extra "prem"); (case h2 => k_extra "prem"); (case h3 => k_extra "prem"); (case h4 => k_extra "prem"); k_extra "tlargs2"); k_extra "tltup"))
local macro_rules | `(tactic| k_extra "my call ref") => `(tactic| (k_here; (with_reducible show wpAny _ _ (call (Value.ref 171) [Value.ref _, Value.ref _, Value.int _ _, Value.str _ _]) _ _ _); k_dflt (refine' Tl.use (c_mul4 _ _ _ _ _ _ _ _ _ _ ?h0 ?h1 ?h2 ?h3 ?h4 ?h5 ?h6 ?h7) ?k1 ?k2 ?k3 ?k4 ?k5 ?kK ?kd ?ku ?_; (case k2 => k_asm); (case k4 => k_asm); (case h0 => k_extra "prem"); (case h1 => k_extra "prem"); (case h2 => k_extra "prem"); (case h3 => k_extra "prem"); (case h4 => k_extra "prem"); (case h5 => k_extra "prem"); (case h6 => k_extra "prem"); (case h7 => k_extra "prem"); k_extra "tlargs2"); k_extra "tltup"))
local macro_rules | `(tactic| k_extra "my call ref") => `(tactic| (k_here; (with_reducible show wpAny _ _ (call (Value.ref 94) [Value.int _ _]) _ _ _); k_dflt (refine' Tl.use (c_int _ _ _ _ ) ?k1 ?k2 ?k3 ?k4 ?k5 ?kK ?kd ?ku ?_; (case k2 => k_asm); (case k4 => k_asm);  k_extra "tlargs2"); k_extra "tltup"))
def mulIntF (a : MP) (n prec : Int) (r : Rnd) : MP :=
  if a.man = 0 then fzero else if n = 0 then fzero
  else if n < 0 then normF (Builtin.bitXor a.sg 1) (a.man * -n) a.ex (Builtin.Int.intBits (a.man * -n) : Int) prec r
  else normF a.sg (a.man * n) a.ex (Builtin.Int.intBits (a.man * n) : Int) prec r
theorem bits_pos {m : Int} (h : 0 < m) : 2 ^ (Builtin.Int.intBits m - 1) ≤ m.natAbs ∧ m.natAbs < 2 ^ Builtin.Int.intBits m ∧ 0 < Builtin.Int.intBits m := by
  have e : Builtin.Int.intBits m = m.natAbs.log2 + 1 := by
    unfold Builtin.Int.intBits
    rw [if_neg (by simp; omega)]
  rw [e]
  refine ⟨?_, Nat.lt_log2_self, by omega⟩
  rw [Nat.add_sub_cancel]
  exact Nat.log2_self_le (by omega)
theorem bits_eq {m : Int} {k : Nat} (h : 0 < m) (h1 : 2 ^ k ≤ m.natAbs) (h2 : m.natAbs < 2 ^ (k + 1)) : Builtin.Int.intBits m = k + 1 := by
  have e : Builtin.Int.intBits m = m.natAbs.log2 + 1 := by
    unfold Builtin.Int.intBits
    rw [if_neg (by simp; omega)]
  rw [e]
  have a := (Nat.le_log2 (n := m.natAbs) (k := k) (by omega)).mpr h1
  have b := (Nat.log2_lt (n := m.natAbs) (k := k + 1) (by omega)).mpr h2
  omega
/-- the length of a product, as mpf_mul_int reckons it -/
theorem mulint_bits {m n : Int} (hm : 0 < m) (hn : 0 < n) : (Builtin.Int.intBits m : Int) + ((Builtin.Int.intBits n : Int) - 1) + (m * n).fdiv (2 ^ ((Builtin.Int.intBits m : Int) + ((Builtin.Int.intBits n : Int) - 1)).toNat) = (Builtin.Int.intBits (m * n) : Int) := by
  obtain ⟨a1, a2, a3⟩ := bits_pos hm
  obtain ⟨b1, b2, b3⟩ := bits_pos hn
  generalize hp : Builtin.Int.intBits m = p at *
  generalize hq : Builtin.Int.intBits n = q at *
  obtain ⟨p, rfl⟩ : ∃ p', p = p' + 1 := ⟨p - 1, by omega⟩
  obtain ⟨q, rfl⟩ : ∃ q', q = q' + 1 := ⟨q - 1, by omega⟩
  simp only [Nat.add_sub_cancel] at a1 b1
  have e1 : (((p + 1 : Nat) : Int) + (((q + 1 : Nat) : Int) - 1)).toNat = p + q + 1 := by omega
  rw [e1]
  have hpos : 0 < m * n := Int.mul_pos hm hn
  have hab : (m * n).natAbs = m.natAbs * n.natAbs := Int.natAbs_mul _ _
  have lo : 2 ^ (p + q) ≤ (m * n).natAbs := by rw [hab, Nat.pow_add]; exact Nat.mul_le_mul a1 b1
  have hi : (m * n).natAbs < 2 ^ (p + q + 1 + 1) := by
    rw [hab, show p + q + 1 + 1 = (p + 1) + (q + 1) by omega, Nat.pow_add]
    exact Nat.mul_lt_mul'' a2 b2
  have hM : m * n = ((m * n).natAbs : Int) := by omega
  have hP : (2 : Int) ^ (p + q + 1) = ((2 ^ (p + q + 1) : Nat) : Int) := two_pow_cast _
  rw [Nat.pow_succ] at hi
  have hpp : 0 < 2 ^ (p + q + 1) := Nat.pow_pos (by decide)
  by_cases c : (m * n).natAbs < 2 ^ (p + q + 1)
  · rw [bits_eq hpos lo c]
    have : (m * n).fdiv (2 ^ (p + q + 1)) = 0 := by
      rw [Int.fdiv_eq_ediv_of_nonneg _ (by omega)]
      exact Int.ediv_eq_zero_of_lt (by omega) (by omega)
    rw [this]
    omega
  · rw [bits_eq (k := p + q + 1) hpos (by omega) (by rw [Nat.pow_succ]; omega)]
    have : (m * n).fdiv (2 ^ (p + q + 1)) = 1 := by
      rw [Int.fdiv_eq_ediv_of_nonneg _ (by omega), hP, hM]
      rw [← Int.natCast_ediv]
      have : (m * n).natAbs / 2 ^ (p + q + 1) = 1 := by
        refine Nat.div_eq_of_lt_le ?_ ?_ <;> omega
      rw [this]; rfl
    rw [this]
    omega
local macro_rules | `(tactic| k_extra "prem") => `(tactic| ((with_reducible show ((_ : Int) = ((Builtin.Int.intBits _ : Nat) : Int))); k_extra "letters"; with_reducible assumption))
local macro_rules | `(tactic| k_extra "fin8") => `(tactic| (
    rename (∀ r nw' h' tk', Fr _ _ h' _ → News _ _ h' nw' → Sub _ nw' → _ → _) => hret
    refine hret _ _ _ _ (by k_asm) (by k_asm) (by k_extra "subl") ⟨_, rfl, ?_⟩
    clear hret
    first
    | (refine TupH.as ?_ (by k_extra "tuph"); k_extra "letters"; (try dsimp only [mulIntF, mulF, fzero]); k_extra "mite5")
    | fail "fin8"))
set_option maxRecDepth 100000 in
set_option maxHeartbeats 8000000 in
theorem c_mulintN (w : World) (news : Led) (D : Addr) (a : MP) (n prec : Int) (r : Rnd) (t u v : Tok) (H : TupH w news D a) (ha : Wf a) (sa : Sm 100000 a) (hn : Builtin.Int.intBits n ≤ 1000) (hp : 0 ≤ prec) (na : a.man ≠ 0) :
    Tl w 179 [.ref D, .int n t, .int prec u, .str (rndS r) v] 6 news (fun nw r' => ∃ D, r' = .ref D ∧ TupH w nw D (mulIntF a n prec r)) := by
  have hz : Bnd [Str.ofString "s", Str.ofString "n", Str.ofString "prec", Str.ofString "rnd", Str.ofString "sign", Str.ofString "man", Str.ofString "exp", Str.ofString "bc"] [some (.ref D), some (.int n t), some (.int prec u), some (.str (rndS r) v), none, none, none, none] [(Str.ofString "s", .ref D), (Str.ofString "n", .int n t), (Str.ofString "prec", .int prec u), (Str.ofString "rnd", .str (rndS r) v)] := by k_extra "bnd"
  have ba : Builtin.Int.intBits a.man ≤ 100000 := ha.bits sa (by omega)
  have pa := ha.pos na
  have bn' : Builtin.Int.intBits (-n) ≤ 1000 := bits_negC hn
  have ba1 := ha.b01
  have hmk : IntMulOk a.man n := mulok_le ba hn (by decide)
  have hmk' : IntMulOk a.man (-n) := mulok_le ba bn' (by decide)
  have hbc := ha.2.2.1
  clear ha sa
  by_cases hz : n = 0
  · clear hmk hmk'
    k_extra "myenterF"
    k_extra "mysteps"
    all_goals k_extra "fin8"
  · by_cases hs : n < 0
    · have hb := mulint_bits pa (show 0 < -n by omega)
      rw [← hbc] at hb
      have hq := Int.mul_pos pa (show 0 < -n by omega)
      have b1 := (bits_pos pa).2.2
      have b2 := (bits_pos (show 0 < -n by omega)).2.2
      k_extra "myenterF"
      k_extra "mysteps"
      all_goals k_extra "fin8"
    · have hb := mulint_bits pa (show 0 < n by omega)
      rw [← hbc] at hb
      have hq := Int.mul_pos pa (show 0 < n by omega)
      have b1 := (bits_pos pa).2.2
      have b2 := (bits_pos (show 0 < n by omega)).2.2
      k_extra "myenterF"
      k_extra "mysteps"
      all_goals k_extra "fin8"
end
section
theorem fillK_P9 : (hd.heap_39 = hd.heap_39) ∧ PySem.Challenge.rw_aj5009_01 = PySem.Challenge.rw_aj5009_01 := by
  k_fill
  exact ⟨rfl, rfl⟩

theorem fac_nonneg {x a k : Int} (hx : x = a * 2 ^ k.toNat) (ha : 0 ≤ a) : 0 ≤ x := by
  subst hx
  exact Int.mul_nonneg ha (Int.le_of_lt (Int.pow_pos (by decide)))
theorem fdiv_nn {q x y : Int} (hq : q = x.fdiv y) (hx : 0 ≤ x) (hy : 0 < y) : 0 ≤ q := by
  subst hq
  rw [Int.fdiv_eq_ediv_of_nonneg _ (Int.le_of_lt hy)]
  exact Int.ediv_nonneg hx (Int.le_of_lt hy)
theorem bits_fdivC {q x y : Int} {m : Nat} (hq : q = x.fdiv y) (hx : Builtin.Int.intBits x ≤ m) : Builtin.Int.intBits q ≤ m := by
  subst hq
  have h1 : (x.fdiv y).natAbs ≤ x.natAbs := natAbs_fdiv_le x y
  have h2 := natAbs_lt_pow_bits x
  have h3 : 2 ^ Builtin.Int.intBits x ≤ 2 ^ m := Nat.pow_le_pow_right (by decide) hx
  exact intBits_le (by omega)
theorem noPy {x y : Int} (h : Builtin.Int.intBits y ≤ 9000) : Builtin.divisionGoesByPylong x y = false := by
  refine PyProof.noPylong_of_log2 ?_
  unfold Builtin.Int.intBits at h
  split at h
  · rename_i e
    have : y = 0 := by simpa using e
    subst this
    decide +kernel
  · omega
section
variable {prog : Program} {w : World} {A : Around} {E : Value → Shared → Prop} {s : Shared} {a b : Int} {t u : Tok} {Q : Value → Shared → Prop}
theorem divmod_L {h₀ : Heap} {L : Addr} {m : Str → Option Value} {news : List (Addr × Obj)} (F : Fr h₀ L s.heap m) (N : News h₀ L s.heap news) (hb : b ≠ 0) (hp : Builtin.divisionGoesByPylong a b = false)
    (h : ∀ h' x y, x = a.fdiv b → y = a.fmod b → Fr h₀ L h' m → News h₀ L h' ((s.heap.objs.size, { cls := .type "tuple", data := .seq #[.int x s.toks, .int y (s.toks + 1)] }) :: news) →
      Q (.ref s.heap.objs.size) { s with toks := s.toks + 1 + 1, heap := h' }) :
    wpAny (model prog w) A (call (.builtin "divmod") [.int a t, .int b u]) Q E s := divmod_N F N hb (fun h' F' N' => h h' _ _ rfl rfl F' N') (.inl hp)
end
def quotN (s x y e prec : Int) (r : Rnd) : MP :=
  if x.fmod y = 0 then normF s (x.fdiv y) e (Builtin.Int.intBits (x.fdiv y) : Int) prec r
  else normF s (x.fdiv y * 2 ^ (1 : Int).toNat + 1) (e - 1) (Builtin.Int.intBits (x.fdiv y * 2 ^ (1 : Int).toNat + 1) : Int) prec r
def divF (a b : MP) (prec : Int) (r : Rnd) : MP :=
  if a.man = 0 then fzero
  else if b.man = 1 then normF (Builtin.bitXor a.sg b.sg) a.man (a.ex - b.ex) a.bc prec r
  else if prec - a.bc + b.bc + 5 < 5 then quotN (Builtin.bitXor a.sg b.sg) (a.man * 2 ^ (5 : Int).toNat) b.man (a.ex - b.ex - 5) prec r
  else quotN (Builtin.bitXor a.sg b.sg) (a.man * 2 ^ (prec - a.bc + b.bc + 5).toNat) b.man (a.ex - b.ex - (prec - a.bc + b.bc + 5)) prec r
def rdivF (n : Int) (b : MP) (prec : Int) (r : Rnd) : MP :=
  if n = 0 then fzero
  else if n < 0 then quotN (Builtin.bitXor b.sg 1) (-n * 2 ^ (prec + b.bc + 5).toNat) b.man (-b.ex - (prec + b.bc + 5)) prec r
  else quotN b.sg (n * 2 ^ (prec + b.bc + 5).toNat) b.man (-b.ex - (prec + b.bc + 5)) prec r
end
local macro_rules | `(tactic| k_extra "bits") => `(tactic| (with_reducible (refine' bits_fdivC ?e0 ?e1); (case e0 => with_reducible assumption); (case e1 => k_extra "bits")))
local macro_rules | `(tactic| k_extra "my binaryOp LShift int int") => `(tactic| (k_here; with_reducible (refine' lsh_L ?k0 ?k1 ?k2 ?_); (case k0 => k_dflt (k_extra "bits")); (case k1 => k_dflt omega); (case k2 => k_dflt omega); intro x9 hx9; first | (have px9 := fac_pos hx9 (by k_dflt omega)) | (have px9 := fac_nonneg hx9 (by k_dflt omega)) | skip))
local macro_rules | `(tactic| k_extra "my call builtin:divmod") => `(tactic| (k_here; k_dflt (refine' divmod_L ?F ?N ?hb ?hp ?_; (case F => k_asm); (case N => k_asm); (case hb => omega); (case hp => first | with_reducible assumption | (refine noPy ?_; with_reducible assumption) | (refine noPy (bits_mono (by with_reducible assumption) ?_); decide))); intro h' x9 y9 hx9 hy9 F' N'; (have px9 := fdiv_nn hx9 (by k_dflt omega) (by k_dflt omega)); (try k_sweep)))
local macro_rules | `(tactic| k_extra "dec") => `(tactic| k_dflt (refine MP.eq_of ?_ ?_ ?_ ?_ <;> first | rfl | (dsimp only [fzero]; omega)))
section
theorem fillK_W9 : (hd.heap_39 = hd.heap_39) ∧ PySem.Challenge.rw_aj5009_01 = PySem.Challenge.rw_aj5009_01 := by
  k_fill
  exact ⟨rfl, rfl⟩
local macro_rules | `(tactic| k_extra "my call ref") => `(tactic| (k_here; (with_reducible show wpAny _ _ (call (Value.ref 78) [Value.int _ _, Value.int _ _, Value.int _ _, Value.int _ _, Value.int _ _, Value.str _ _]) _ _ _); k_dflt (refine' Tl.use (c_normE _ _ _ _ _ _ _ _ _ _ _ _ _ _ ?h0 ?h1 ?h2 ?h3 ?h4) ?k1 ?k2 ?k3 ?k4 ?k5 ?kK ?kd ?ku ?_; (case k2 => k_asm); (case k4 => k_asm); (case h0 => k_extra "prem"); (case h1 => k_extra "prem"); (case h2 => k_extra "prem"); (case h3 => k_extra "prem"); (case h4 => k_extra "prem"); k_extra "tlargs2"); k_extra "tltup"))
local macro_rules | `(tactic| k_extra "fin9") => `(tactic| (
    rename (∀ r nw' h' tk', Fr _ _ h' _ → News _ _ h' nw' → Sub _ nw' → _ → _) => hret
    refine hret _ _ _ _ (by k_asm) (by k_asm) (by k_extra "subl") ⟨_, rfl, ?_⟩
    clear hret
    first
    | (refine TupH.as ?_ (by k_extra "tuph"); k_extra "letters"; dsimp only [divF, rdivF, quotN, fzero]; k_extra "mite5")
    | fail "fin9"))
set_option maxRecDepth 100000 in
set_option maxHeartbeats 8000000 in
theorem c_divN (w : World) (news : Led) (D D' : Addr) (a b : MP) (prec : Int) (r : Rnd) (t u : Tok) (H : TupH w news D a) (H' : TupH w news D' b) (ha : Wf a) (hb : Wf b) (sa : Sm 5000 a) (sb : Sm 5000 b) (hp : 0 < prec) (hp' : prec ≤ 5000) (na : a.man ≠ 0) (nb : b.man ≠ 0) :
    Tl w 194 [.ref D, .ref D', .int prec t, .str (rndS r) u] 4 news (fun nw r' => ∃ D, r' = .ref D ∧ TupH w nw D (divF a b prec r)) := by
  have hz : Bnd [Str.ofString "s", Str.ofString "t", Str.ofString "prec", Str.ofString "rnd", Str.ofString "ssign", Str.ofString "sman", Str.ofString "sexp", Str.ofString "sbc", Str.ofString "tsign", Str.ofString "tman", Str.ofString "texp", Str.ofString "tbc", Str.ofString "s_special", Str.ofString "t_special", Str.ofString "sign", Str.ofString "extra", Str.ofString "quot", Str.ofString "rem", Str.ofString "bc"] [some (.ref D), some (.ref D'), some (.int prec t), some (.str (rndS r) u), none, none, none, none, none, none, none, none, none, none, none, none, none, none, none] [(Str.ofString "s", .ref D), (Str.ofString "t", .ref D'), (Str.ofString "prec", .int prec t), (Str.ofString "rnd", .str (rndS r) u)] := by k_extra "bnd"
  have ba : Builtin.Int.intBits a.man ≤ 5000 := ha.bits sa (by omega)
  have bb : Builtin.Int.intBits b.man ≤ 5000 := hb.bits sb (by omega)
  have pa := ha.pos na
  have pb := hb.pos nb
  have ba1 := ha.b01
  have bb1 := hb.b01
  have bx1 := ba1.xor bb1
  have ha3 := ha.2.2.1
  have hb3 := hb.2.2.1
  clear ha hb sa sb
  k_extra "myenterF"
  k_extra "mysteps"
  all_goals k_extra "fin9"
end
section
theorem fillK_W10 : (hd.heap_39 = hd.heap_39) ∧ PySem.Challenge.rw_aj5009_01 = PySem.Challenge.rw_aj5009_01 := by
  k_fill
  exact ⟨rfl, rfl⟩
local macro_rules | `(tactic| k_extra "my call ref") => `(tactic| (k_here; (with_reducible show wpAny _ _ (call (Value.ref 78) [Value.int _ _, Value.int _ _, Value.int _ _, Value.int _ _, Value.int _ _, Value.str _ _]) _ _ _); k_dflt (refine' Tl.use (c_normE _ _ _ _ _ _ _ _ _ _ _ _ _ _ ?h0 ?h1 ?h2 ?h3 ?h4) ?k1 ?k2 ?k3 ?k4 ?k5 ?kK ?kd ?ku ?_; (case k2 => k_asm); (case k4 => k_asm); (case h0 => k_extra "prem"); (case h1 => k_extra "prem"); (case h2 => k_extra "prem"); (case h3 => k_extra "prem"); (case h4 => k_extra "prem"); k_extra "tlargs2"); k_extra "tltup"))
local macro_rules | `(tactic| k_extra "my call ref") => `(tactic| (k_here; (with_reducible show wpAny _ _ (call (Value.ref 94) [Value.int _ _]) _ _ _); k_dflt (refine' Tl.use (c_int _ _ _ _ ) ?k1 ?k2 ?k3 ?k4 ?k5 ?kK ?kd ?ku ?_; (case k2 => k_asm); (case k4 => k_asm);  k_extra "tlargs2"); k_extra "tltup"))
local macro_rules | `(tactic| k_extra "my call ref") => `(tactic| (k_here; (with_reducible show wpAny _ _ (call (Value.ref 171) [Value.ref _, Value.ref _, Value.int _ _, Value.str _ _]) _ _ _); k_dflt (refine' Tl.use (c_mul4 _ _ _ _ _ _ _ _ _ _ ?h0 ?h1 ?h2 ?h3 ?h4 ?h5 ?h6 ?h7) ?k1 ?k2 ?k3 ?k4 ?k5 ?kK ?kd ?ku ?_; (case k2 => k_asm); (case k4 => k_asm); (case h0 => k_extra "prem"); (case h1 => k_extra "prem"); (case h2 => k_extra "prem"); (case h3 => k_extra "prem"); (case h4 => k_extra "prem"); (case h5 => k_extra "prem"); (case h6 => k_extra "prem"); (case h7 => k_extra "prem"); k_extra "tlargs2"); k_extra "tltup"))
local macro_rules | `(tactic| k_extra "fin9") => `(tactic| (
    rename (∀ r nw' h' tk', Fr _ _ h' _ → News _ _ h' nw' → Sub _ nw' → _ → _) => hret
    refine hret _ _ _ _ (by k_asm) (by k_asm) (by k_extra "subl") ⟨_, rfl, ?_⟩
    clear hret
    first
    | (refine TupH.as ?_ (by k_extra "tuph"); k_extra "letters"; dsimp only [divF, rdivF, quotN, mulIntF, mulF, fzero]; k_extra "mite5")
    | fail "fin9"))
set_option maxRecDepth 100000 in
set_option maxHeartbeats 8000000 in
theorem c_div0 (w : World) (news : Led) (D D' : Addr) (a b : MP) (prec : Int) (r : Rnd) (t u : Tok) (H : TupH w news D a) (H' : TupH w news D' b) (ha : Wf a) (na : a.man = 0) (nb : b.man ≠ 0) :
    Tl w 194 [.ref D, .ref D', .int prec t, .str (rndS r) u] 4 news (fun nw r' => ∃ D, r' = .ref D ∧ TupH w nw D (divF a b prec r)) := by
  have hz : Bnd [Str.ofString "s", Str.ofString "t", Str.ofString "prec", Str.ofString "rnd", Str.ofString "ssign", Str.ofString "sman", Str.ofString "sexp", Str.ofString "sbc", Str.ofString "tsign", Str.ofString "tman", Str.ofString "texp", Str.ofString "tbc", Str.ofString "s_special", Str.ofString "t_special", Str.ofString "sign", Str.ofString "extra", Str.ofString "quot", Str.ofString "rem", Str.ofString "bc"] [some (.ref D), some (.ref D'), some (.int prec t), some (.str (rndS r) u), none, none, none, none, none, none, none, none, none, none, none, none, none, none, none] [(Str.ofString "s", .ref D), (Str.ofString "t", .ref D'), (Str.ofString "prec", .int prec t), (Str.ofString "rnd", .str (rndS r) u)] := by k_extra "bnd"
  have e := ha.zero na
  subst e
  dsimp only [fzero] at H
  k_extra "myenterF"
  k_extra "mysteps"
  all_goals k_extra "fin9"
theorem c_div (w : World) (news : Led) (D D' : Addr) (a b : MP) (prec : Int) (r : Rnd) (t u : Tok) (H : TupH w news D a) (H' : TupH w news D' b) (ha : Wf a) (hb : Wf b) (sa : Sm 5000 a) (sb : Sm 5000 b) (hp : 0 < prec) (hp' : prec ≤ 5000) (nb : b.man ≠ 0) :
    Tl w 194 [.ref D, .ref D', .int prec t, .str (rndS r) u] 4 news (fun nw r' => ∃ D, r' = .ref D ∧ TupH w nw D (divF a b prec r)) := by
  by_cases na : a.man = 0
  · exact c_div0 w news D D' a b prec r t u H H' ha na nb
  · exact c_divN w news D D' a b prec r t u H H' ha hb sa sb hp hp' na nb
local macro_rules | `(tactic| k_extra "my call ref") => `(tactic| (k_here; (with_reducible show wpAny _ _ (call (Value.ref 194) [Value.ref _, Value.ref _, Value.int _ _, Value.str _ _]) _ _ _); k_dflt (refine' Tl.use (c_div _ _ _ _ _ _ _ _ _ _ ?h0 ?h1 ?h2 ?h3 ?h4 ?h5 ?h6 ?h7 ?h8) ?k1 ?k2 ?k3 ?k4 ?k5 ?kK ?kd ?ku ?_; (case k2 => k_asm); (case k4 => k_asm); (case h0 => k_extra "prem"); (case h1 => k_extra "prem"); (case h2 => k_extra "prem"); (case h3 => k_extra "prem"); (case h4 => k_extra "prem"); (case h5 => k_extra "prem"); (case h6 => k_extra "prem"); (case h7 => k_extra "prem"); (case h8 => k_extra "prem"); k_extra "tlargs2"); k_extra "tltup"))
set_option maxRecDepth 100000 in
set_option maxHeartbeats 8000000 in
theorem c_rat (w : World) (news : Led) (p q prec : Int) (r : Rnd) (t1 t2 t u : Tok) (ha : Wf (fme0 p 0)) (hb : Wf (fme0 q 0)) (sa : Sm 5000 (fme0 p 0)) (sb : Sm 5000 (fme0 q 0)) (hp : 0 < prec) (hp' : prec ≤ 5000) (nb : (fme0 q 0).man ≠ 0) :
    Tl w 102 [.int p t1, .int q t2, .int prec t, .str (rndS r) u] 6 news (fun nw r' => ∃ D, r' = .ref D ∧ TupH w nw D (divF (fme0 p 0) (fme0 q 0) prec r)) := by
  have hz : Bnd [Str.ofString "p", Str.ofString "q", Str.ofString "prec", Str.ofString "rnd"] [some (.int p t1), some (.int q t2), some (.int prec t), some (.str (rndS r) u)] [(Str.ofString "p", .int p t1), (Str.ofString "q", .int q t2), (Str.ofString "prec", .int prec t), (Str.ofString "rnd", .str (rndS r) u)] := by k_extra "bnd"
  k_extra "myenterF"
  k_extra "mysteps"
  k_extra "rettup"
  k_extra "tuph"
theorem fme00 : fme0 0 0 = fzero := by decide
theorem Wf_fzero : Wf fzero := ⟨.inl rfl, Int.le_refl _, by decide, fun _ => ⟨rfl, rfl, rfl⟩, .inl rfl⟩
theorem Wf_fme00 : Wf (fme0 0 0) := by rw [fme00]; exact Wf_fzero
set_option maxRecDepth 100000 in
set_option maxHeartbeats 8000000 in
theorem c_mulint0 (w : World) (news : Led) (D : Addr) (a : MP) (n prec : Int) (r : Rnd) (t u v : Tok) (H : TupH w news D a) (ha : Wf a) (hn : Wf (fme0 n 0)) (sn : Sm 100000 (fme0 n 0)) (hp : 0 ≤ prec) (hp' : prec ≤ 100000) (na : a.man = 0) :
    Tl w 179 [.ref D, .int n t, .int prec u, .str (rndS r) v] 6 news (fun nw r' => ∃ D, r' = .ref D ∧ TupH w nw D (mulIntF a n prec r)) := by
  have hz : Bnd [Str.ofString "s", Str.ofString "n", Str.ofString "prec", Str.ofString "rnd", Str.ofString "sign", Str.ofString "man", Str.ofString "exp", Str.ofString "bc"] [some (.ref D), some (.int n t), some (.int prec u), some (.str (rndS r) v), none, none, none, none] [(Str.ofString "s", .ref D), (Str.ofString "n", .int n t), (Str.ofString "prec", .int prec u), (Str.ofString "rnd", .str (rndS r) v)] := by k_extra "bnd"
  have e := ha.zero na
  subst e
  have sz : Sm 100000 fzero := ⟨by decide, by decide, by decide⟩
  have nz : fzero.man = 0 := rfl
  clear na
  dsimp only [fzero] at nz H
  have hw : Wf ⟨0, 0, 0, 0⟩ := ha
  have hz : Sm 100000 ⟨0, 0, 0, 0⟩ := sz
  k_extra "myenterF"
  k_extra "mysteps"
  k_extra "rettup"
  refine TupH.as ?_ (by k_extra "tuph")
  simp only [mulIntF, mulF, fzero, if_true, Int.zero_mul]
set_option maxRecDepth 100000 in
set_option maxHeartbeats 8000000 in
theorem c_rdivN (w : World) (news : Led) (n : Int) (D : Addr) (b : MP) (prec : Int) (r : Rnd) (t u v : Tok) (H : TupH w news D b) (hb : Wf b) (sb : Sm 5000 b) (hn : Builtin.Int.intBits n ≤ 1000) (hp : 0 < prec) (hp' : prec ≤ 5000) (nb : b.man ≠ 0) (nn : n ≠ 0) :
    Tl w 202 [.int n t, .ref D, .int prec u, .str (rndS r) v] 6 news (fun nw r' => ∃ D, r' = .ref D ∧ TupH w nw D (rdivF n b prec r)) := by
  have hz : Bnd [Str.ofString "n", Str.ofString "t", Str.ofString "prec", Str.ofString "rnd", Str.ofString "sign", Str.ofString "man", Str.ofString "exp", Str.ofString "bc", Str.ofString "extra", Str.ofString "quot", Str.ofString "rem"] [some (.int n t), some (.ref D), some (.int prec u), some (.str (rndS r) v), none, none, none, none, none, none, none] [(Str.ofString "n", .int n t), (Str.ofString "t", .ref D), (Str.ofString "prec", .int prec u), (Str.ofString "rnd", .str (rndS r) v)] := by k_extra "bnd"
  have bb : Builtin.Int.intBits b.man ≤ 5000 := hb.bits sb (by omega)
  have bn' : Builtin.Int.intBits (-n) ≤ 1000 := bits_negC hn
  have pb := hb.pos nb
  have bb1 := hb.b01
  have hb3 := hb.2.2.1
  obtain ⟨sb1, sb2, sb3⟩ := sb
  clear hb
  k_extra "myenterF"
  k_extra "mysteps"
  all_goals k_extra "fin9"
set_option maxRecDepth 100000 in
set_option maxHeartbeats 8000000 in
theorem c_rdiv0 (w : World) (news : Led) (D : Addr) (b : MP) (prec : Int) (r : Rnd) (t u v : Tok) (H : TupH w news D b) (hb : Wf b) (sb : Sm 5000 b) (hp : 0 < prec) (hp' : prec ≤ 5000) (nb : b.man ≠ 0) :
    Tl w 202 [.int 0 t, .ref D, .int prec u, .str (rndS r) v] 6 news (fun nw r' => ∃ D, r' = .ref D ∧ TupH w nw D (rdivF 0 b prec r)) := by
  have hz : Bnd [Str.ofString "n", Str.ofString "t", Str.ofString "prec", Str.ofString "rnd", Str.ofString "sign", Str.ofString "man", Str.ofString "exp", Str.ofString "bc", Str.ofString "extra", Str.ofString "quot", Str.ofString "rem"] [some (.int 0 t), some (.ref D), some (.int prec u), some (.str (rndS r) v), none, none, none, none, none, none, none] [(Str.ofString "n", .int 0 t), (Str.ofString "t", .ref D), (Str.ofString "prec", .int prec u), (Str.ofString "rnd", .str (rndS r) v)] := by k_extra "bnd"
  have w0 := Wf_fme00
  have s0 : Sm 5000 (fme0 0 0) := by rw [fme00]; exact ⟨by decide, by decide, by decide⟩
  have m0 : (fme0 0 0).man = 0 := by rw [fme00]; rfl
  k_extra "myenterF"
  k_extra "mysteps"
  k_extra "rettup"
  refine TupH.as ?_ (by k_extra "tuph")
  simp only [rdivF, divF, fme00, fzero, if_true]
theorem c_mulint (w : World) (news : Led) (D : Addr) (a : MP) (n prec : Int) (r : Rnd) (t u v : Tok) (H : TupH w news D a) (ha : Wf a) (sa : Sm 100000 a) (hb : Builtin.Int.intBits n ≤ 1000) (hn : Wf (fme0 n 0)) (sn : Sm 100000 (fme0 n 0)) (hp : 0 ≤ prec) (hp' : prec ≤ 100000) :
    Tl w 179 [.ref D, .int n t, .int prec u, .str (rndS r) v] 6 news (fun nw r' => ∃ D, r' = .ref D ∧ TupH w nw D (mulIntF a n prec r)) := by
  by_cases na : a.man = 0
  · exact c_mulint0 w news D a n prec r t u v H ha hn sn hp hp' na
  · exact c_mulintN w news D a n prec r t u v H ha sa hb hp na
theorem c_rdiv (w : World) (news : Led) (n : Int) (D : Addr) (b : MP) (prec : Int) (r : Rnd) (t u v : Tok) (H : TupH w news D b) (hb : Wf b) (sb : Sm 5000 b) (hn : Builtin.Int.intBits n ≤ 1000) (hp : 0 < prec) (hp' : prec ≤ 5000) (nb : b.man ≠ 0) :
    Tl w 202 [.int n t, .ref D, .int prec u, .str (rndS r) v] 6 news (fun nw r' => ∃ D, r' = .ref D ∧ TupH w nw D (rdivF n b prec r)) := by
  by_cases nn : n = 0
  · subst nn
    exact c_rdiv0 w news D b prec r t u v H hb sb hp hp' nb
  · exact c_rdivN w news n D b prec r t u v H hb sb hn hp hp' nb nn
end
section
theorem fillK_P11 : (hd.heap_39 = hd.heap_39) ∧ PySem.Challenge.rw_aj5009_01 = PySem.Challenge.rw_aj5009_01 := by
  k_fill
  exact ⟨rfl, rfl⟩
/-- the square root, rounded down -/
def isqN : Nat → Nat
  | 0 => 0
  | n + 1 => if (isqN n + 1) * (isqN n + 1) ≤ n + 1 then isqN n + 1 else isqN n
theorem isqN_spec : ∀ n, isqN n * isqN n ≤ n ∧ n < (isqN n + 1) * (isqN n + 1)
  | 0 => by decide
  | n + 1 => by
    obtain ⟨h1, h2⟩ := isqN_spec n
    unfold isqN
    split
    · rename_i h
      refine ⟨h, ?_⟩
      have : (isqN n + 1 + 1) * (isqN n + 1 + 1) = (isqN n + 1) * (isqN n + 1) + 2 * (isqN n + 1) + 1 := by
        generalize isqN n + 1 = a
        rw [Nat.add_mul, Nat.mul_add]
        omega
      omega
    · rename_i h
      omega
def isq (x : Int) : Int := (isqN x.toNat : Int)
theorem isq_nonneg (x : Int) : 0 ≤ isq x := Int.natCast_nonneg _
theorem isq_spec {x : Int} (h : 0 ≤ x) : isq x * isq x ≤ x ∧ x < (isq x + 1) * (isq x + 1) := by
  obtain ⟨h1, h2⟩ := isqN_spec x.toNat
  unfold isq
  constructor
  · have : ((isqN x.toNat * isqN x.toNat : Nat) : Int) ≤ (x.toNat : Int) := Int.ofNat_le.mpr h1
    rw [Int.natCast_mul] at this
    omega
  · have : (x.toNat : Int) < (((isqN x.toNat + 1) * (isqN x.toNat + 1) : Nat) : Int) := Int.ofNat_lt.mpr h2
    rw [Int.natCast_mul] at this
    have e : ((isqN x.toNat + 1 : Nat) : Int) = (isqN x.toNat : Int) + 1 := by omega
    rw [e] at this
    omega
theorem sq_lt {a b : Int} (ha : 0 ≤ a) (hb : 0 ≤ b) (h : a * a < b * b) : a < b := by
  refine Int.not_le.mp fun k => ?_
  exact absurd h (Int.not_lt.mpr (Int.mul_le_mul k k hb ha))
theorem isq_unique {x r : Int} (h0 : 0 ≤ r) (h1 : r * r ≤ x) (h2 : x < (r + 1) * (r + 1)) : isq x = r := by
  have hx : 0 ≤ x := Int.le_trans (Int.mul_nonneg h0 h0) h1
  obtain ⟨a, b⟩ := isq_spec hx
  have c := isq_nonneg x
  have d : r < isq x + 1 := sq_lt h0 (by omega) (by omega)
  have e : isq x < r + 1 := sq_lt c (by omega) (by omega)
  omega
/-- a step of Newton's from above does not fall below the root -/
theorem newton_ge {x r y : Int} (hx : 0 < x) (hr : 0 < r) (hy : y = (r + x.fdiv r).fdiv (2 ^ (1 : Int).toNat)) : isq x ≤ y := by
  obtain ⟨a, b⟩ := isq_spec (Int.le_of_lt hx)
  have hs := isq_nonneg x
  generalize isq x = s at *
  rw [Int.fdiv_eq_ediv_of_nonneg _ (Int.le_of_lt hr)] at hy
  have e2 : (2 : Int) ^ (1 : Int).toNat = 2 := by decide
  rw [e2, Int.fdiv_eq_ediv_of_nonneg _ (by decide)] at hy
  have key : 2 * s - r ≤ x / r := by
    refine (Int.le_ediv_iff_mul_le hr).mpr ?_
    have q : 0 ≤ (r - s) * (r - s) := by
      rcases Int.le_total r s with h | h
      · have : (r - s) * (r - s) = (s - r) * (s - r) := by rw [← Int.neg_sub s r, Int.neg_mul_neg]
        rw [this]; exact Int.mul_nonneg (by omega) (by omega)
      · exact Int.mul_nonneg (by omega) (by omega)
    have e : (r - s) * (r - s) = r * r - 2 * (s * r) + s * s := by
      rw [Int.sub_mul, Int.mul_sub, Int.mul_sub, Int.mul_comm r s]
      omega
    rw [e] at q
    rw [Int.sub_mul, Int.mul_assoc]
    omega
  omega
theorem newton_stop {x r y : Int} (_hx : 0 < x) (hr : 0 < r) (hy : y = (r + x.fdiv r).fdiv (2 ^ (1 : Int).toNat)) (h : y ≥ r) : r * r ≤ x := by
  rw [Int.fdiv_eq_ediv_of_nonneg _ (Int.le_of_lt hr)] at hy
  have e2 : (2 : Int) ^ (1 : Int).toNat = 2 := by decide
  rw [e2, Int.fdiv_eq_ediv_of_nonneg _ (by decide)] at hy
  exact (Int.le_ediv_iff_mul_le hr).mp (by omega)
theorem isq_pos {x : Int} (hx : 0 < x) : 0 < isq x := by
  obtain ⟨a, b⟩ := isq_spec (Int.le_of_lt hx)
  have hs := isq_nonneg x
  refine Int.not_le.mp fun k => ?_
  have : isq x = 0 := by omega
  rw [this] at b
  omega
theorem isq_le_start {x k : Int} (hx : 0 < x) (hk : k = ((Builtin.Int.intBits x : Int) + 1).fdiv (2 ^ (1 : Int).toNat)) : isq x ≤ 1 * 2 ^ k.toNat := by
  obtain ⟨a, b⟩ := isq_spec (Int.le_of_lt hx)
  have hs := isq_nonneg x
  have e2 : (2 : Int) ^ (1 : Int).toNat = 2 := by decide
  rw [e2, Int.fdiv_eq_ediv_of_nonneg _ (by decide)] at hk
  have h1 := natAbs_lt_pow_bits x
  have h2 : 2 ^ Builtin.Int.intBits x ≤ 2 ^ (k.toNat + k.toNat) := Nat.pow_le_pow_right (by decide) (by omega)
  have h3 : x < ((2 ^ (k.toNat + k.toNat) : Nat) : Int) := by omega
  rw [Nat.pow_add, Int.natCast_mul, ← two_pow_cast] at h3
  have h4 : (0 : Int) < 2 ^ k.toNat := Int.pow_pos (by decide)
  have := sq_lt (a := isq x) (b := 2 ^ k.toNat) hs (by omega) (by omega)
  omega
def PairH (nw : Led) (D : Addr) (x y : Int) : Prop := ∃ (t u : Tok) (c : Nat), (D, ({ cls := .type "tuple", data := .seq #[.int x t, .int y u] c } : Obj)) ∈ nw
theorem bits_mono2 {x y : Int} (h0 : 0 ≤ x) (h : x ≤ y) {m : Nat} (hy : Builtin.Int.intBits y ≤ m) : Builtin.Int.intBits x ≤ m := by
  have h2 := natAbs_lt_pow_bits y
  have h3 : 2 ^ Builtin.Int.intBits y ≤ 2 ^ m := Nat.pow_le_pow_right (by decide) hy
  exact intBits_le (by omega)
theorem isq_le {x : Int} (h : 0 ≤ x) : isq x ≤ x := by
  obtain ⟨a, b⟩ := isq_spec h
  have hs := isq_nonneg x
  generalize isq x = s at *
  rcases Int.lt_or_le s 1 with h1 | h1
  · omega
  · have := Int.mul_le_mul_of_nonneg_left h1 hs
    omega
section
variable {prog : Program} {w : World} {A : Around} {E : Value → Shared → Prop} {s : Shared} {a b : Int} {t u : Tok} {Q : Value → Shared → Prop}
theorem divB_L (hb : b ≠ 0) (hp : Builtin.Int.intBits b ≤ 9000) (h : ∀ x, x = a.fdiv b → Q (.int x s.toks) { s with toks := s.toks + 1 }) : wpAny (model prog w) A (binaryOp .FloorDiv (.int a t) (.int b u)) Q E s := div_L hb (noPy hp) h
end
theorem half_bd {k b : Int} (h : k = b.fdiv (2 ^ (1 : Int).toNat)) : 2 * k ≤ b ∧ b ≤ 2 * k + 1 := by
  have e2 : (2 : Int) ^ (1 : Int).toNat = 2 := by decide
  rw [e2, Int.fdiv_eq_ediv_of_nonneg _ (by decide)] at h
  omega
def mapS (x r : Int) (t tr : Tok) (vy : Option Value) : Str → Option Value := fun z =>
  if z = Str.ofString "r" then some (.int r tr) else if z = Str.ofString "y" then vy else if z = Str.ofString "x" then some (.int x t) else none
theorem mapS_start (x r : Int) (t tr : Tok) : (fun y => if y = Str.ofString "r" then some (Value.int r tr) else List.lookup y [(Str.ofString "x", Value.int x t)]) = mapS x r t tr none := by
  funext z
  unfold mapS
  by_cases h1 : z = Str.ofString "r"
  · rw [if_pos h1, if_pos h1]
  · rw [if_neg h1, if_neg h1]
    by_cases h2 : z = Str.ofString "y"
    · subst h2; rfl
    · rw [if_neg h2]
      by_cases h3 : z = Str.ofString "x"
      · subst h3; rfl
      · rw [if_neg h3, List.lookup_cons, show (z == Str.ofString "x") = false by simpa using h3]
        rfl
theorem mapS_turn (x r r' : Int) (t tr tr' : Tok) (vy : Option Value) (v : Value) :
    (fun y => if y = Str.ofString "r" then some (Value.int r' tr') else if y = Str.ofString "y" then some v else mapS x r t tr vy y) = mapS x r' t tr' (some v) := by
  funext z
  unfold mapS
  by_cases h1 : z = Str.ofString "r" <;> by_cases h2 : z = Str.ofString "y" <;> simp [h1, h2]
theorem isq_done {x r : Int} (hx : 0 < x) (hr : 0 < r) (hi : isq x ≤ r) (h : r * r ≤ x) : isq x = r := by
  obtain ⟨a, b⟩ := isq_spec (Int.le_of_lt hx)
  have c := isq_nonneg x
  have d : r < isq x + 1 := sq_lt (by omega) (by omega) (by omega)
  omega
theorem PairH.here {nw : Led} {D : Addr} {x y a b : Int} {t u : Tok} {n : Nat} (e1 : x = a) (e2 : y = b) (h : (D, ({ cls := .type "tuple", data := .seq #[.int a t, .int b u] n } : Obj)) ∈ nw) : PairH nw D x y := by
  subst e1; subst e2
  exact ⟨t, u, n, h⟩
end
section
theorem fillK_W11 : (hd.heap_39 = hd.heap_39) ∧ PySem.Challenge.rw_aj5009_01 = PySem.Challenge.rw_aj5009_01 := by
  k_fill
  exact ⟨rfl, rfl⟩
local macro_rules | `(tactic| k_extra "tlone") => `(tactic| (intro r9 nw9 h9 tk9 F9 N9 S9 ho9; obtain ⟨t9, e9⟩ := ho9; subst e9; (try dsimp only); (try k_sweep); (try k_fold)))
local macro_rules | `(tactic| k_extra "tlpair") => `(tactic| (intro r9 nw9 h9 tk9 F9 N9 S9 ho9; obtain ⟨D9, e9, ⟨t9, u9, c9, H9⟩⟩ := ho9; subst e9; (try dsimp only); (try k_sweep); (try k_fold)))
local macro_rules | `(tactic| k_extra "my binaryOp FloorDiv int int") => `(tactic| (k_here; ((with_reducible (refine' divB_L ?h0 ?h1 ?_)); (case h0 => k_extra "nz"); (case h1 => k_extra "pybits")); intro x9 hx9))
local macro_rules | `(tactic| k_extra "pybits") => `(tactic| first | with_reducible assumption | decide +kernel)
local macro_rules | `(tactic| k_extra "mysteps_w") => `(tactic| repeat' (((fail_if_success (with_reducible show wpAny _ _ (exec (Stmt.While _ _ _ _) _) _ _ _))); first | (k_unfold; (try dsimp only)) | (walk1; try dsimp only) | (dsimp only; walk1) | fail "no step"))
local macro_rules | `(tactic| k_extra "my binaryOp RShift int int") => `(tactic| (k_here; with_reducible (refine rsh_L ?k1 ?_); (case k1 => k_dflt omega); intro x9 hx9; (try (have px9 := half_bd hx9))))
set_option maxRecDepth 100000 in
set_option maxHeartbeats 8000000 in
theorem c_isqs (w : World) (news : Led) (x : Int) (t : Tok) (hx : 0 ≤ x) (hb : Builtin.Int.intBits x ≤ 15000) :
    Tl w 28 [.int x t] 1 news (fun _ r => ∃ t, r = .int (isq x) t) := by
  unfold Tl
  intro p loose mean mg mb dp un gd cn cs a ccd cl outer A₀ base h₀ L m s Q E B F X N T hk hd hu hret
  refine wpAny_call ?_
  k_dflt (refine' code_def (binds := [(Str.ofString "x", .int x t)]) ?k1 ?k2 ?k3 ?k4 ?k5 ?kA ?kF ?kK ?k6 ?k7 ?k8 ?k9 ?kB ?_ ?c2 ?c3 ?c4 ?c5; (case kA => exact rfl); (case kF => exact rfl); (case kK => assumption); (case k1 => k_asm); (case k2 => k_asm); (case k3 => k_asm); (case k4 => k_asm); (case k5 => k_asm); (case k6 => k_is); (case k7 => k_is); (case k8 => k_extra "kroom"); (case k9 => exact BindsTo.of_eq rfl); (case c5 => decide); (case kB => exact locs rfl); (case c2 => exact rfl); (case c3 => exact rfl); (case c4 => exact rfl); k_whole; intro g' L' h' FG' F' N' B' X' T'; (try dsimp only); (try k_fold))
  replace F' : Fr g' L' h' (fun y => List.lookup y [(Str.ofString "x", .int x t)]) := F'
  have hbx : (Builtin.Int.intBits x : Int) ≤ 15000 := by omega
  k_extra "mysteps_w"
  all_goals first
  | (refine hret _ _ _ _ (by k_asm) (by k_asm) Sub.rfl ⟨t, ?_⟩; have e0 : x = 0 := by omega
     subst e0; rfl)
  | skip
  rename (_ = 1 * 2 ^ _) => hr0
  rename (0 < _) => pr0
  rename (_ = Int.fdiv _ _) => hk0
  rename (_ = ((Builtin.Int.intBits _ : Nat) : Int)) => hb0
  rename Fr g' L' _ _ => F2
  rename News g' L' _ _ => N2
  subst hb0
  have hst := isq_le_start (by omega) hk0
  rw [← hr0] at hst
  refine While_inv2 (fun n m₁ nx => nx = news ∧ ∃ (r : Int) (tr : Tok) (vy : Option Value), n = r.toNat ∧ 0 < r ∧ isq x ≤ r ∧ Builtin.Int.intBits r ≤ 9000 ∧ m₁ = mapS x r t tr vy) F2 N2 ⟨rfl, _, _, none, rfl, pr0, hst, ?_, mapS_start _ _ _ _⟩ ?_ ?_
  · exact bits_mono (bits_shl hr0 intBits_one (K := 8000) (by omega)) (by decide)
  · intro n m₁ nx h₁ tk₁ F₁ N₁ hJ
    obtain ⟨e1, r, tr, vy, e2, hr, hi, hbr, e3⟩ := hJ
    subst e1; subst e2; subst e3
    clear F2 N2 hr0 pr0 hst hk0
    k_extra "mysteps"
    all_goals (rename (_ = Int.fdiv _ _) => hy; rename (_ = Int.fdiv x _) => hq; have px : 0 < x := by omega)
    · subst hq
      have hrr := newton_stop px hr hy (by omega)
      have ed := isq_done px hr hi hrr
      dsimp only [WhileStep2]
      k_extra "mysteps"
      exact hret _ _ _ _ (by k_asm) (by k_asm) Sub.rfl ⟨_, by rw [ed]⟩
    · subst hq
      have hge := newton_ge px hr hy
      have hip := isq_pos px
      dsimp only [WhileStep2]
      refine ⟨_, _, _, _, _, rfl, by k_asm, by k_asm, ?_, rfl, _, _, _, rfl, by omega, hge, bits_mono2 (by omega) (by omega) hbr, mapS_turn _ _ _ _ _ _ _ _⟩
      omega
  · with_unfolding_all passes_own
local macro_rules | `(tactic| k_extra "my call ref") => `(tactic| (k_here; (with_reducible show wpAny _ _ (call (Value.ref 28) [Value.int _ _]) _ _ _); k_dflt (refine' Tl.use (c_isqs _ _ _ _ ?h0 ?h1) ?k1 ?k2 ?k3 ?k4 ?k5 ?kK ?kd ?ku ?_; (case k2 => k_asm); (case k4 => k_asm); (case h0 => k_extra "prem"); (case h1 => k_extra "prem"); k_extra "tlargs2"); k_extra "tlone"))
set_option maxRecDepth 100000 in
set_option maxHeartbeats 8000000 in
theorem c_sqrtrem (w : World) (news : Led) (x : Int) (t : Tok) (hx : 0 ≤ x) (hb : Builtin.Int.intBits x ≤ 15000) :
    Tl w 35 [.int x t] 2 news (fun nw r => ∃ D, r = .ref D ∧ PairH nw D (isq x) (x - isq x * isq x)) := by
  have hz : Bnd [Str.ofString "x", Str.ofString "y"] [some (.int x t), none] [(Str.ofString "x", .int x t)] := by k_extra "bnd"
  have bi : Builtin.Int.intBits (isq x) ≤ 15000 := bits_mono2 (isq_nonneg x) (isq_le hx) hb
  have hmk : IntMulOk (isq x) (isq x) := mulok_le bi bi (by decide)
  k_extra "myenterF"
  k_extra "mysteps"
  rename (∀ r nw' h' tk', Fr _ _ h' _ → News _ _ h' nw' → Sub _ nw' → _ → _) => hret
  refine hret _ _ _ _ (by k_asm) (by k_asm) (by k_extra "subl") ⟨_, rfl, ?_⟩
  refine PairH.here rfl ?_ (by k_mem)
  omega
local macro_rules | `(tactic| k_extra "my call ref") => `(tactic| (k_here; (with_reducible show wpAny _ _ (call (Value.ref 35) [Value.int _ _]) _ _ _); k_dflt (refine' Tl.use (c_sqrtrem _ _ _ _ ?h0 ?h1) ?k1 ?k2 ?k3 ?k4 ?k5 ?kK ?kd ?ku ?_; (case k2 => k_asm); (case k4 => k_asm); (case h0 => k_extra "prem"); (case h1 => k_extra "prem"); k_extra "tlargs2"); k_extra "tlpair"))
set_option maxRecDepth 100000 in
set_option maxHeartbeats 8000000 in
theorem c_isqrt (w : World) (news : Led) (x : Int) (t : Tok) (hx : 0 ≤ x) (hb : Builtin.Int.intBits x ≤ 15000) :
    Tl w 42 [.int x t] 3 news (fun _ r => ∃ t, r = .int (isq x) t) := by
  have hz : Bnd [Str.ofString "x"] [some (.int x t)] [(Str.ofString "x", .int x t)] := by k_extra "bnd"
  k_extra "myenterF"
  k_extra "mysteps"
  rename (∀ r nw' h' tk', Fr _ _ h' _ → News _ _ h' nw' → Sub _ nw' → _ → _) => hret
  exact hret _ _ _ _ (by k_asm) (by k_asm) (by k_extra "subl") ⟨_, rfl⟩
end
section
theorem fillK_P12 : (hd.heap_39 = hd.heap_39) ∧ PySem.Challenge.rw_aj5009_01 = PySem.Challenge.rw_aj5009_01 := by
  k_fill
  exact ⟨rfl, rfl⟩
def maxI (a b : Int) : Int := if b > a then b else a
theorem band1 {x a : Int} (h : x = Builtin.bitAnd a 1) : x = a % 2 := by rw [h, bitAnd_m1]
theorem bits_isq {x : Int} {m : Nat} (h0 : 0 ≤ x) (h : Builtin.Int.intBits x ≤ m) : Builtin.Int.intBits (isq x) ≤ m := bits_mono2 (isq_nonneg x) (isq_le h0) h
theorem lt_bits {x : Int} {n : Nat} (h : Builtin.Int.intBits x ≤ n) (hn : n < 1000000) : (Builtin.Int.intBits x : Int) < 1000000 := by omega
section
variable {prog : Program} {w : World} {A : Around} {E : Value → Shared → Prop} {s : Shared} {a b : Int} {t u : Tok} {Q : Value → Shared → Prop}
theorem in_fd {r : Rnd} (h : Q (.bool (decide (r = .f ∨ r = .d))) s) : wpAny (model prog w) A (compareOp .In (.str (rndS r) u) (.str (Str.ofString "fd") t)) Q E s := by
  refine PyProof.Rows.in_str ?_
  have e : (!(Builtin.Str.occurrences (Str.ofString "fd") (rndS r) 0 (Str.ofString "fd").length 1).isEmpty) = decide (r = .f ∨ r = .d) := by cases r <;> decide +kernel
  rw [e]
  exact h
theorem max_L {h₀ : Heap} {L : Addr} {m : Str → Option Value} {news : List (Addr × Obj)} (hh : A.handled = none) (F : Fr h₀ L s.heap m) (N : News h₀ L s.heap news)
    (h : ∀ h' tk x t', x = maxI a b → a ≤ x → (b ≤ x ∧ (x ≤ a ∨ x ≤ b)) → Fr h₀ L h' m → News h₀ L h' news → Q (.int x t') { s with heap := h', toks := tk }) :
    wpAny (model prog w) A (call (.builtin "max") [.int a t, .int b u]) Q E s :=
  max_two_N hh F N fun h' tk F' N' => h h' tk _ _ rfl (by split <;> omega) (by split <;> omega) F' N'
end
def shF (prec b : Int) : Int := maxI 4 (2 * prec - b + 4) + Builtin.bitAnd (maxI 4 (2 * prec - b + 4)) 1
def sqcF (m e b prec : Int) (r : Rnd) : MP :=
  if r = .f ∨ r = .d then fmeF (isq (m * 2 ^ (shF prec b).toNat)) ((e - shF prec b).fdiv 2) prec r
  else if m * 2 ^ (shF prec b).toNat - isq (m * 2 ^ (shF prec b).toNat) * isq (m * 2 ^ (shF prec b).toNat) = 0 then fmeF (isq (m * 2 ^ (shF prec b).toNat)) ((e - shF prec b).fdiv 2) prec r
  else fmeF (isq (m * 2 ^ (shF prec b).toNat) * 2 ^ (1 : Int).toNat + 1) ((e - (shF prec b + 2)).fdiv 2) prec r
def sqrtF (a : MP) (prec : Int) (r : Rnd) : MP :=
  if a.man = 0 then a
  else if Builtin.bitAnd a.ex 1 = 0 then (if a.man = 1 then normF 0 a.man (a.ex.fdiv 2) a.bc prec r else sqcF a.man a.ex a.bc prec r)
  else sqcF (a.man * 2 ^ (1 : Int).toNat) (a.ex - 1) (a.bc + 1) prec r
end
section
theorem fillK_W12 : (hd.heap_39 = hd.heap_39) ∧ PySem.Challenge.rw_aj5009_01 = PySem.Challenge.rw_aj5009_01 := by
  k_fill
  exact ⟨rfl, rfl⟩
local macro_rules | `(tactic| k_extra "tlone") => `(tactic| (intro r9 nw9 h9 tk9 F9 N9 S9 ho9; obtain ⟨t9, e9⟩ := ho9; subst e9; (try dsimp only); (try k_sweep); (try k_fold)))
local macro_rules | `(tactic| k_extra "tlpair") => `(tactic| (intro r9 nw9 h9 tk9 F9 N9 S9 ho9; obtain ⟨D9, e9, ⟨t9, u9, c9, H9⟩⟩ := ho9; subst e9; (try dsimp only); (try k_sweep); (try k_fold)))
local macro_rules | `(tactic| k_extra "my binaryOp FloorDiv int int") => `(tactic| (k_here; ((with_reducible (refine' divB_L ?h0 ?h1 ?_)); (case h0 => k_extra "nz"); (case h1 => k_extra "pybits")); intro x9 hx9))
local macro_rules | `(tactic| k_extra "pybits") => `(tactic| first | with_reducible assumption | decide +kernel)
local macro_rules | `(tactic| k_extra "mysteps_w") => `(tactic| repeat' (((fail_if_success (with_reducible show wpAny _ _ (exec (Stmt.While _ _ _ _) _) _ _ _))); first | (k_unfold; (try dsimp only)) | (walk1; try dsimp only) | (dsimp only; walk1) | fail "no step"))
local macro_rules | `(tactic| k_extra "my binaryOp RShift int int") => `(tactic| (k_here; with_reducible (refine rsh_L ?k1 ?_); (case k1 => k_dflt omega); intro x9 hx9; (try (have px9 := half_bd hx9))))
local macro_rules | `(tactic| k_extra "my binaryOp BitAnd int int") => `(tactic| (k_here; with_reducible (refine band_L ?_); intro x9 hx9; (try (have px9 := band1 hx9))))
local macro_rules | `(tactic| k_extra "bits") => `(tactic| (with_reducible (refine' bits_isq ?e0 ?e1); (case e0 => k_dflt omega); (case e1 => k_extra "bits")))
local macro_rules | `(tactic| k_extra "bits") => `(tactic| (with_reducible (refine' bits_shl (K := 3000) ?e0 ?e1 ?e2); (case e0 => with_reducible assumption); (case e1 => k_extra "bits"); (case e2 => k_dflt omega)))
local macro_rules | `(tactic| k_extra "prem") => `(tactic| ((with_reducible show Builtin.Int.intBits _ ≤ 15000); refine' bits_mono ?ba ?bb; (case ba => k_dflt (k_extra "bits")); (case bb => k_dflt omega)))
local macro_rules | `(tactic| k_extra "prem") => `(tactic| ((with_reducible show ((Builtin.Int.intBits _ : Nat) : Int) < 1000000); refine' lt_bits ?ba ?bb; (case ba => k_dflt (k_extra "bits")); (case bb => k_dflt omega)))
local macro_rules | `(tactic| k_extra "my call builtin:max") => `(tactic| (k_here; k_dflt (refine' max_L ?hh ?F ?N ?_; (case hh => exact rfl); (case F => k_asm); (case N => k_asm)); intro h' tk' x9 t9 hx9 ha9 hb9 F' N'; (try k_sweep)))
local macro_rules | `(tactic| k_extra "my compareOp In str str") => `(tactic| (k_here; with_reducible (refine in_fd ?_)))
local macro_rules | `(tactic| k_extra "my call ref") => `(tactic| (k_here; (with_reducible show wpAny _ _ (call (Value.ref 78) [Value.int _ _, Value.int _ _, Value.int _ _, Value.int _ _, Value.int _ _, Value.str _ _]) _ _ _); k_dflt (refine' Tl.use (c_normE _ _ _ _ _ _ _ _ _ _ _ _ _ _ ?h0 ?h1 ?h2 ?h3 ?h4) ?k1 ?k2 ?k3 ?k4 ?k5 ?kK ?kd ?ku ?_; (case k2 => k_asm); (case k4 => k_asm); (case h0 => k_extra "prem"); (case h1 => k_extra "prem"); (case h2 => k_extra "prem"); (case h3 => k_extra "prem"); (case h4 => k_extra "prem"); k_extra "tlargs2"); k_extra "tltup"))
local macro_rules | `(tactic| k_extra "my call ref") => `(tactic| (k_here; (with_reducible show wpAny _ _ (call (Value.ref 86) [Value.int _ _, Value.int _ _, Value.int _ _, Value.str _ _]) _ _ _); k_dflt (refine' Tl.use (c_fme _ _ _ _ _ _ _ _ _ _ ?h0 ?h1) ?k1 ?k2 ?k3 ?k4 ?k5 ?kK ?kd ?ku ?_; (case k2 => k_asm); (case k4 => k_asm); (case h0 => k_extra "prem"); (case h1 => k_extra "prem"); k_extra "tlargs2"); k_extra "tltup"))
local macro_rules | `(tactic| k_extra "my call ref") => `(tactic| (k_here; (with_reducible show wpAny _ _ (call (Value.ref 42) [Value.int _ _]) _ _ _); k_dflt (refine' Tl.use (c_isqrt _ _ _ _ ?h0 ?h1) ?k1 ?k2 ?k3 ?k4 ?k5 ?kK ?kd ?ku ?_; (case k2 => k_asm); (case k4 => k_asm); (case h0 => k_extra "prem"); (case h1 => k_extra "prem"); k_extra "tlargs2"); k_extra "tlone"))
local macro_rules | `(tactic| k_extra "my call ref") => `(tactic| (k_here; (with_reducible show wpAny _ _ (call (Value.ref 35) [Value.int _ _]) _ _ _); k_dflt (refine' Tl.use (c_sqrtrem _ _ _ _ ?h0 ?h1) ?k1 ?k2 ?k3 ?k4 ?k5 ?kK ?kd ?ku ?_; (case k2 => k_asm); (case k4 => k_asm); (case h0 => k_extra "prem"); (case h1 => k_extra "prem"); k_extra "tlargs2"); k_extra "tlpair"))
theorem fmeF_as {m m' e e' prec : Int} {r : Rnd} (h1 : m = m') (h2 : e = e') : fmeF m e prec r = fmeF m' e' prec r := by rw [h1, h2]
set_option maxRecDepth 100000 in
set_option maxHeartbeats 8000000 in
theorem c_sqrt (w : World) (news : Led) (D : Addr) (a : MP) (prec : Int) (r : Rnd) (t u : Tok) (H : TupH w news D a) (ha : Wf a) (sa : Sm 1000 a) (hp : 0 < prec) (hp' : prec ≤ 1000) (hs : a.sg = 0) :
    Tl w 210 [.ref D, .int prec t, .str (rndS r) u] 5 news (fun nw r' => ∃ D, r' = .ref D ∧ TupH w nw D (sqrtF a prec r)) := by
  have hz : Bnd [Str.ofString "s", Str.ofString "prec", Str.ofString "rnd", Str.ofString "sign", Str.ofString "man", Str.ofString "exp", Str.ofString "bc", Str.ofString "shift", Str.ofString "rem"] [some (.ref D), some (.int prec t), some (.str (rndS r) u), none, none, none, none, none, none] [(Str.ofString "s", .ref D), (Str.ofString "prec", .int prec t), (Str.ofString "rnd", .str (rndS r) u)] := by k_extra "bnd"
  have ba : Builtin.Int.intBits a.man ≤ 1000 := ha.bits sa (by omega)
  have b2 : Builtin.Int.intBits 2 ≤ 9000 := by decide +kernel
  have bq := ha.2.2.1
  have h0 := ha.2.1
  have b0 : B01 a.sg := ha.b01
  clear ha
  obtain ⟨sa1, sa2, sa3⟩ := sa
  k_extra "myenterF"
  k_extra "mysteps"
  all_goals (
    rename (∀ r nw' h' tk', Fr _ _ h' _ → News _ _ h' nw' → Sub _ nw' → _ → _) => hret
    refine hret _ _ _ _ (by k_asm) (by k_asm) (by k_extra "subl") ⟨_, rfl, ?_⟩
    clear hret
    refine TupH.as ?_ (by k_extra "tuph")
    (repeat (first | (rename (_ = maxI _ _) => hz; subst hz) | (rename (_ = Int.fdiv _ _) => hz; subst hz) | (rename ((_ : Int) = _ * _) => hz; subst hz) | (rename (_ = Builtin.bitAnd _ _) => hz; subst hz)))
    dsimp only [sqrtF, sqcF, shF]
    k_extra "mite5")
end
section
theorem fillK_P13 : (hd.heap_39 = hd.heap_39) ∧ PySem.Challenge.rw_aj5009_01 = PySem.Challenge.rw_aj5009_01 := by
  k_fill
  exact ⟨rfl, rfl⟩
def cmpF (a b : MP) : Int :=
  if a.man = 0 then -signF b
  else if b.man = 0 then signF a
  else if a.sg ≠ b.sg then (if a.sg = 0 then 1 else -1)
  else if a.ex = b.ex then
    (if a.man = b.man then 0 else if b.man < a.man then (if a.sg = 0 then 1 else -1) else (if a.sg = 0 then -1 else 1))
  else if a.sg = 0 then (if a.bc + a.ex < b.bc + b.ex then -1 else if b.bc + b.ex < a.bc + a.ex then 1 else if mpAt (addF a b (Builtin.bitXor b.sg 1) 5 .f) 0 = 0 then 1 else -1)
  else (if a.bc + a.ex < b.bc + b.ex then 1 else if b.bc + b.ex < a.bc + a.ex then -1 else if mpAt (addF a b (Builtin.bitXor b.sg 1) 5 .f) 0 = 0 then 1 else -1)
theorem rndS_f : rndS .f = (⟨#[102]⟩ : Str) := by decide
theorem c_sub4f (w : World) (news : Led) (D D' : Addr) (a b : MP) (prec : Int) (t u : Tok) (H : TupH w news D a) (H' : TupH w news D' b) (ha : Wf a) (hb : Wf b) (sa : Sm 100000 a) (sb : Sm 100000 b) (hp : 0 ≤ prec) (hp' : prec ≤ 100000) :
    Tl w 163 [.ref D, .ref D', .int prec t, .str ⟨#[102]⟩ u] 5 news (fun nw r' => ∃ D, r' = .ref D ∧ TupH w nw D (addF a b (Builtin.bitXor b.sg 1) prec .f)) := by
  have := c_sub4 w news D D' a b prec .f t u H H' ha hb sa sb hp hp'
  rw [rndS_f] at this
  exact this
end
section
theorem fillK_W13 : (hd.heap_39 = hd.heap_39) ∧ PySem.Challenge.rw_aj5009_01 = PySem.Challenge.rw_aj5009_01 := by
  k_fill
  exact ⟨rfl, rfl⟩
local macro_rules | `(tactic| k_extra "my call ref") => `(tactic| (k_here; (with_reducible show wpAny _ _ (call (Value.ref 147) [Value.ref _]) _ _ _); k_dflt (refine' Tl.use (c_sign _ _ _ _ ?h0 ?h1) ?k1 ?k2 ?k3 ?k4 ?k5 ?kK ?kd ?ku ?_; (case k2 => k_asm); (case k4 => k_asm); (case h0 => k_extra "prem"); (case h1 => k_extra "prem"); k_extra "tlargs2"); k_extra "tlint"))
local macro_rules | `(tactic| k_extra "my call ref") => `(tactic| (k_here; (with_reducible show wpAny _ _ (call (Value.ref 163) [Value.ref _, Value.ref _, Value.int _ _, Value.str _ _]) _ _ _); k_dflt (refine' Tl.use (c_sub4f _ _ _ _ _ _ _ _ _ ?h0 ?h1 ?h2 ?h3 ?h4 ?h5 ?h6 ?h7) ?k1 ?k2 ?k3 ?k4 ?k5 ?kK ?kd ?ku ?_; (case k2 => k_asm); (case k4 => k_asm); (case h0 => k_extra "prem"); (case h1 => k_extra "prem"); (case h2 => k_extra "prem"); (case h3 => k_extra "prem"); (case h4 => k_extra "prem"); (case h5 => k_extra "prem"); (case h6 => k_extra "prem"); (case h7 => k_extra "prem"); k_extra "tlargs2"); k_extra "tltup"))
local macro_rules | `(tactic| k_extra "fin13") => `(tactic| (
    rename (∀ r nw' h' tk', Fr _ _ h' _ → News _ _ h' nw' → Sub _ nw' → _ → _) => hret
    refine hret _ _ _ _ (by k_asm) (by k_asm) (by k_extra "subl") ⟨_, _, rfl, ?_⟩
    clear hret
    (try k_extra "letters")
    symm
    dsimp only [cmpF, fzero, mpAt] at *
    k_extra "mite"))
set_option maxRecDepth 100000 in
set_option maxHeartbeats 8000000 in
theorem c_cmp0 (w : World) (news : Led) (D D' : Addr) (a b : MP) (H : TupH w news D a) (H' : TupH w news D' b) (ha : Wf a) (hb : Wf b) (na : a.man = 0) :
    Tl w 109 [.ref D, .ref D'] 7 news (fun nw r => ∃ x t, r = .int x t ∧ x = cmpF a b) := by
  have hz : Bnd [Str.ofString "s", Str.ofString "t", Str.ofString "ssign", Str.ofString "sman", Str.ofString "sexp", Str.ofString "sbc", Str.ofString "tsign", Str.ofString "tman", Str.ofString "texp", Str.ofString "tbc", Str.ofString "a", Str.ofString "b", Str.ofString "delta"] [some (.ref D), some (.ref D'), none, none, none, none, none, none, none, none, none, none, none] [(Str.ofString "s", .ref D), (Str.ofString "t", .ref D')] := by k_extra "bnd"
  have e := ha.zero na
  subst e
  k_extra "myenterF"
  k_extra "mysteps"
  all_goals (
    rename (∀ r nw' h' tk', Fr _ _ h' _ → News _ _ h' nw' → Sub _ nw' → _ → _) => hret
    refine hret _ _ _ _ (by k_asm) (by k_asm) (by k_extra "subl") ⟨_, _, rfl, ?_⟩
    clear hret
    (rename (_ = signF _) => hz; subst hz)
    rfl)
set_option maxRecDepth 100000 in
set_option maxHeartbeats 8000000 in
theorem c_cmpb (w : World) (news : Led) (D D' : Addr) (a b : MP) (H : TupH w news D a) (H' : TupH w news D' b) (ha : Wf a) (hb : Wf b) (na : a.man ≠ 0) (nb : b.man = 0) :
    Tl w 109 [.ref D, .ref D'] 7 news (fun nw r => ∃ x t, r = .int x t ∧ x = cmpF a b) := by
  have hz : Bnd [Str.ofString "s", Str.ofString "t", Str.ofString "ssign", Str.ofString "sman", Str.ofString "sexp", Str.ofString "sbc", Str.ofString "tsign", Str.ofString "tman", Str.ofString "texp", Str.ofString "tbc", Str.ofString "a", Str.ofString "b", Str.ofString "delta"] [some (.ref D), some (.ref D'), none, none, none, none, none, none, none, none, none, none, none] [(Str.ofString "s", .ref D), (Str.ofString "t", .ref D')] := by k_extra "bnd"
  have e := hb.zero nb
  subst e
  k_extra "myenterF"
  k_extra "mysteps"
  all_goals (
    rename (∀ r nw' h' tk', Fr _ _ h' _ → News _ _ h' nw' → Sub _ nw' → _ → _) => hret
    refine hret _ _ _ _ (by k_asm) (by k_asm) (by k_extra "subl") ⟨_, _, rfl, ?_⟩
    clear hret
    (rename (_ = signF _) => hz; subst hz)
    symm
    unfold cmpF
    rw [if_neg na, if_pos nb])
set_option maxRecDepth 100000 in
set_option maxHeartbeats 8000000 in
theorem c_cmpN (w : World) (news : Led) (D D' : Addr) (a b : MP) (H : TupH w news D a) (H' : TupH w news D' b) (ha : Wf a) (hb : Wf b) (sa : Sm 100000 a) (sb : Sm 100000 b) (na : a.man ≠ 0) (nb : b.man ≠ 0) :
    Tl w 109 [.ref D, .ref D'] 7 news (fun nw r => ∃ x t, r = .int x t ∧ x = cmpF a b) := by
  have hz : Bnd [Str.ofString "s", Str.ofString "t", Str.ofString "ssign", Str.ofString "sman", Str.ofString "sexp", Str.ofString "sbc", Str.ofString "tsign", Str.ofString "tman", Str.ofString "texp", Str.ofString "tbc", Str.ofString "a", Str.ofString "b", Str.ofString "delta"] [some (.ref D), some (.ref D'), none, none, none, none, none, none, none, none, none, none, none] [(Str.ofString "s", .ref D), (Str.ofString "t", .ref D')] := by k_extra "bnd"
  k_extra "myenterF"
  k_extra "mysteps"
  all_goals (
    rename (∀ r nw' h' tk', Fr _ _ h' _ → News _ _ h' nw' → Sub _ nw' → _ → _) => hret
    refine hret _ _ _ _ (by k_asm) (by k_asm) (by k_extra "subl") ⟨_, _, rfl, ?_⟩
    clear hret
    symm
    dsimp only [cmpF]
    k_extra "mite")
theorem c_cmp (w : World) (news : Led) (D D' : Addr) (a b : MP) (H : TupH w news D a) (H' : TupH w news D' b) (ha : Wf a) (hb : Wf b) (sa : Sm 100000 a) (sb : Sm 100000 b) :
    Tl w 109 [.ref D, .ref D'] 7 news (fun nw r => ∃ x t, r = .int x t ∧ x = cmpF a b) := by
  by_cases na : a.man = 0
  · exact c_cmp0 w news D D' a b H H' ha hb na
  · by_cases nb : b.man = 0
    · exact c_cmpb w news D D' a b H H' ha hb na nb
    · exact c_cmpN w news D D' a b H H' ha hb sa sb na nb
local macro_rules | `(tactic| k_extra "my call ref") => `(tactic| (k_here; (with_reducible show wpAny _ _ (call (Value.ref 109) [Value.ref _, Value.ref _]) _ _ _); k_dflt (refine' Tl.use (c_cmp _ _ _ _ _ _ ?h0 ?h1 ?h2 ?h3 ?h4 ?h5) ?k1 ?k2 ?k3 ?k4 ?k5 ?kK ?kd ?ku ?_; (case k2 => k_asm); (case k4 => k_asm); (case h0 => k_extra "prem"); (case h1 => k_extra "prem"); (case h2 => k_extra "prem"); (case h3 => k_extra "prem"); (case h4 => k_extra "prem"); (case h5 => k_extra "prem"); k_extra "tlargs2"); k_extra "tlint"))
set_option maxRecDepth 100000 in
set_option maxHeartbeats 8000000 in
theorem c_le (w : World) (news : Led) (D D' : Addr) (a b : MP) (H : TupH w news D a) (H' : TupH w news D' b) (ha : Wf a) (hb : Wf b) (sa : Sm 100000 a) (sb : Sm 100000 b) :
    Tl w 116 [.ref D, .ref D'] 8 news (fun nw r => r = .bool (decide (cmpF a b ≤ 0))) := by
  have hz : Bnd [Str.ofString "s", Str.ofString "t"] [some (.ref D), some (.ref D')] [(Str.ofString "s", .ref D), (Str.ofString "t", .ref D')] := by k_extra "bnd"
  have ha4 := ha.2.2.2.1
  have hb4 := hb.2.2.2.1
  k_extra "myenterF"
  k_extra "mysteps"
  rename (∀ r nw' h' tk', Fr _ _ h' _ → News _ _ h' nw' → Sub _ nw' → _ → _) => hret
  refine hret _ _ _ _ (by k_asm) (by k_asm) (by k_extra "subl") ?_
  rename (_ = cmpF _ _) => hz
  subst hz
  rfl
end
section
theorem fillK_P14 : (hd.heap_39 = hd.heap_39) ∧ PySem.Challenge.rw_aj5009_01 = PySem.Challenge.rw_aj5009_01 := by
  k_fill
  exact ⟨rfl, rfl⟩
/-- as Tl, over the script's list, which lies in the ground -/
def TlS (w : World) (l : Addr) (ns : List Int) (f : Addr) (vs : List Value) (k : Nat) (news : Led) (ok : Led → Value → Prop) : Prop :=
  ∀ (p : Program) (loose : List Str) (mean : ExcName → Option Value) (mg mb : Str → Option Value)
    (dp un : Nat) (gd : Option (List Code)) (cn : Str) (cs : Scope) (a : Addr) (ccd : Value) (cl : List (Str × Addr)) (outer : List Env) (A₀ : Around) (base h₀ : Heap) (L : Addr) (m : Str → Option Value) (s : Shared) (us : List Value)
    (Q E : Value → Shared → Prop),
    Below A₀ base outer h₀ → Fr h₀ L s.heap m → (hd.heap_39 w.params).In h₀ → News h₀ L s.heap news → Top p loose mean mg mb h₀ → cs.kind = .function → dp + k < recursionLimit → un + 8 * k + 100 < cLine →
    base.IsList l us.toArray → IntsAre us ns → ns.length ≤ 63 →
    (∀ r nw' h' tk', Fr h₀ L h' m → News h₀ L h' nw' → Sub news nw' → ok nw' r → Q r { s with heap := h', toks := tk' }) →
    wpAny (model PySem.Challenge.rw_aj5009_01.row.prog w) (ktrTop dp un gd cn cs L a ccd cl outer) (call (.ref f) vs) Q E s
section
variable {prog : Program} {w : World} {A : Around} {E : Value → Shared → Prop} {s : Shared} {a b n : Int} {t u : Tok} {Q : Value → Shared → Prop}
theorem pow2_L (hn : 0 ≤ n) (hn2 : n ≤ 1000) (h : ∀ x, x = 2 ^ n.toNat → 0 < x → Q (.int x s.toks) { s with toks := s.toks + 1 }) : wpAny (model prog w) A (binaryOp .Pow (.int 2 t) (.int n u)) Q E s :=
  pow_int_small hn (by omega) (by decide) (h _ rfl (Int.pow_pos (by decide)))
end
theorem pow2_facts {x n : Int} (h : x = 2 ^ n.toNat) (h1 : 1 ≤ n) (h2 : n ≤ 30) : x ≤ 1073741824 ∧ x % 2 = 0 := by
  subst h
  obtain ⟨k, rfl⟩ : ∃ k : Nat, n = (k : Int) + 1 := ⟨(n - 1).toNat, by omega⟩
  have e : (((k : Int) + 1).toNat) = k + 1 := by omega
  rw [e, Int.pow_succ]
  have : (2 : Int) ^ k ≤ 2 ^ 29 := by
    rw [two_pow_cast, two_pow_cast]
    exact Int.ofNat_le.mpr (Nat.pow_le_pow_right (by decide) (by omega))
  have e2 : (2 : Int) ^ 29 = 536870912 := by decide
  omega
theorem pow2_29 {x n : Int} (h : x = 2 ^ n.toNat) (h1 : 1 ≤ n) (h2 : n ≤ 29) : x ≤ 536870912 ∧ x % 2 = 0 := by
  subst h
  obtain ⟨k, rfl⟩ : ∃ k : Nat, n = (k : Int) + 1 := ⟨(n - 1).toNat, by omega⟩
  have e : (((k : Int) + 1).toNat) = k + 1 := by omega
  rw [e, Int.pow_succ]
  have : (2 : Int) ^ k ≤ 2 ^ 28 := by
    rw [two_pow_cast, two_pow_cast]
    exact Int.ofNat_le.mpr (Nat.pow_le_pow_right (by decide) (by omega))
  have e2 : (2 : Int) ^ 28 = 268435456 := by decide
  omega
theorem fmod_facts {x a b : Int} (h : x = a.fmod b) (hb : 0 < b) : 0 ≤ x ∧ x < b ∧ x = a % b := by
  subst h
  rw [Int.fmod_eq_emod_of_nonneg _ (Int.le_of_lt hb)]
  exact ⟨Int.emod_nonneg _ (by omega), Int.emod_lt_of_pos _ hb, rfl⟩
theorem fdiv_facts {x a b : Int} (h : x = a.fdiv b) (hb : 0 < b) : x = a / b := by
  subst h
  rw [Int.fdiv_eq_ediv_of_nonneg _ (Int.le_of_lt hb)]
theorem raw_wf {sg man ex bc : Int} (hs : sg = 0 ∨ sg = 1) (h0 : 0 < man) (h1 : man < 1073741824) (h2 : man % 2 = 1) (hb : bc = (Builtin.Int.intBits man : Int)) (e1 : -90 ≤ ex) (e2 : ex ≤ 90) : Wf ⟨sg, man, ex, bc⟩ ∧ bc ≤ 30 := by
  refine ⟨⟨hs, Int.le_of_lt h0, hb, fun e => ?_, .inr h2⟩, ?_⟩
  · dsimp only at e; omega
  · have : Builtin.Int.intBits man ≤ 30 := intBits_le (by omega)
    omega
end
section
theorem fillK_W14 : (hd.heap_39 = hd.heap_39) ∧ PySem.Challenge.rw_aj5009_01 = PySem.Challenge.rw_aj5009_01 := by
  k_fill
  exact ⟨rfl, rfl⟩
local macro_rules | `(tactic| k_extra "my binaryOp Pow int int") => `(tactic| (k_here; ((with_reducible (refine' pow2_L ?h0 ?h1 ?_)); (case h0 => k_dflt (first | decide | omega)); (case h1 => k_dflt (first | decide | omega))); intro x9 hx9 px9; (try (have qx9 := pow2_29 hx9 (by k_dflt omega) (by k_dflt omega))); (try (have rx9 := pow2_facts hx9 (by k_dflt omega) (by k_dflt omega)))))
local macro_rules | `(tactic| k_extra "my binaryOp Mod int int") => `(tactic| (k_here; ((with_reducible (refine' mod_L ?h0 ?_)); (case h0 => k_extra "nz")); intro x9 hx9; (have px9 := fmod_facts hx9 (by k_extra "pz"))))
local macro_rules | `(tactic| k_extra "my binaryOp FloorDiv int int") => `(tactic| (k_here; ((with_reducible (refine' div_L ?h0 ?h1 ?_)); (case h0 => k_extra "nz"); (case h1 => k_dflt (first | exact noPylong_small (by decide) | k_extra "pyp"))); intro x9 hx9; (have px9 := fdiv_facts hx9 (by k_extra "pz"))))
local macro_rules | `(tactic| k_extra "pyp") => `(tactic| exact PyProof.noPylong_small (by k_dflt omega))
set_option maxRecDepth 100000 in
set_option maxHeartbeats 8000000 in
theorem c_raw (w : World) (news : Led) (rich : Int) (t1 t2 t3 : Tok) (h0 : 0 ≤ rich) :
    Tl w 224 [.int rich t1, .int 30 t2, .int 90 t3] 1 news (fun nw r => ∃ D, r = .ref D ∧ ∃ q, TupH w nw D q ∧ Wf q ∧ q.bc ≤ 30 ∧ -90 ≤ q.ex ∧ q.ex ≤ 90) := by
  have hz : Bnd [Str.ofString "rich", Str.ofString "bits", Str.ofString "spread", Str.ofString "kind", Str.ofString "e", Str.ofString "m", Str.ofString "man"] [some (.int rich t1), some (.int 30 t2), some (.int 90 t3), none, none, none, none] [(Str.ofString "rich", .int rich t1), (Str.ofString "bits", .int 30 t2), (Str.ofString "spread", .int 90 t3)] := by k_extra "bnd"
  have p16 : (2 : Int) ^ (16 : Int).toNat = 65536 := by decide
  k_extra "myenterF"
  k_extra "mysteps"
  all_goals (
    rename (∀ r nw' h' tk', Fr _ _ h' _ → News _ _ h' nw' → Sub _ nw' → _ → _) => hret
    refine hret _ _ _ _ (by k_asm) (by k_asm) (by k_extra "subl") ⟨_, rfl, ?_⟩
    clear hret
    first
    | exact ⟨fzero, TupH.here rfl (by k_mem), Wf_fzero, by decide, by decide, by decide⟩
    | (refine ⟨⟨_, _, _, _⟩, TupH.here rfl (by k_mem), ?_⟩
       refine (fun z => ⟨z.1, z.2, ?_, ?_⟩) (raw_wf ?_ ?_ ?_ ?_ ?_ ?_ ?_)
       all_goals first | with_reducible assumption | omega | (dsimp only; omega)))
end
section
theorem fillK_W15 : (hd.heap_39 = hd.heap_39) ∧ PySem.Challenge.rw_aj5009_01 = PySem.Challenge.rw_aj5009_01 := by
  k_fill
  exact ⟨rfl, rfl⟩
local macro_rules | `(tactic| k_extra "mulok") => `(tactic| exact IntMulOk.of_right (by decide))
local macro_rules | `(tactic| k_extra "mulok") => `(tactic| exact IntMulOk.of_left (by decide))
set_option maxRecDepth 100000 in
set_option maxHeartbeats 8000000 in
theorem c_mixed (w : World) (l : Addr) (ns : List Int) (news : Led) (k : Int) (t : Tok) (h0 : 0 ≤ k) (h1 : k < 63) :
    TlS w l ns 217 [.ref l, .int k t] 1 news (fun nw r => ∃ x t, r = .int x t ∧ 0 ≤ x) := by
  unfold TlS
  intro p loose mean mg mb dp un gd cn cs a ccd cl outer A₀ base h₀ L m s us Q E B F X N T hk hd hu hL hI hlen hret
  refine wpAny_call ?_

  k_dflt cell_enter
  k_extra "mysteps"
  all_goals (
    refine hret _ _ _ _ (by k_asm) (by k_asm) Sub.rfl ⟨_, _, rfl, ?_⟩
    clear hret
    have p64 : (0 : Int) < 2 ^ (64 : Int).toNat := Int.pow_pos (by decide)
    first | exact (fmod_facts rfl (Int.pow_pos (by decide))).1 | omega)
end
section
theorem fillK_L1 : (hd.heap_39 = hd.heap_39) ∧ PySem.Challenge.rw_aj5009_01 = PySem.Challenge.rw_aj5009_01 := by
  k_fill
  exact ⟨rfl, rfl⟩
/-! plain law, part 1: the trailing zeros -/
theorem nat_low (q : Nat) (hq : q % 2 = 1) : ∀ k, (q * 2 ^ k) &&& (q * 2 ^ k - 1) = (q - 1) * 2 ^ k
  | 0 => by
    rw [Nat.pow_zero, Nat.mul_one, Nat.mul_one]
    refine Nat.eq_of_testBit_eq fun i => ?_
    rw [Nat.testBit_and]
    cases i with
    | zero =>
      have h1 : (q - 1).testBit 0 = false := by rw [Nat.testBit_zero]; simp; omega
      rw [h1, Bool.and_false]
    | succ i =>
      rw [Nat.testBit_succ, Nat.testBit_succ, show (q - 1) / 2 = q / 2 by omega, Bool.and_self]
  | k + 1 => by
    have ih := nat_low q hq k
    have hb : 0 < q * 2 ^ k := Nat.mul_pos (by omega) (Nat.pow_pos (by decide))
    have e1 : q * 2 ^ (k + 1) = 2 * (q * 2 ^ k) := by rw [Nat.pow_succ, ← Nat.mul_assoc, Nat.mul_comm]
    have e2 : (q - 1) * 2 ^ (k + 1) = 2 * ((q - 1) * 2 ^ k) := by rw [Nat.pow_succ, ← Nat.mul_assoc, Nat.mul_comm]
    rw [e1, e2, ← ih]
    generalize q * 2 ^ k = b at *
    refine Nat.eq_of_testBit_eq fun i => ?_
    rw [Nat.testBit_and]
    cases i with
    | zero =>
      have h1 : (2 * b).testBit 0 = false := by rw [Nat.testBit_zero]; simp
      have h2 : (2 * (b &&& (b - 1))).testBit 0 = false := by rw [Nat.testBit_zero]; simp
      rw [h1, h2, Bool.false_and]
    | succ i =>
      rw [Nat.testBit_succ, Nat.testBit_succ, Nat.testBit_succ, show 2 * b / 2 = b by omega, show (2 * b - 1) / 2 = b - 1 by omega,
        show 2 * (b &&& (b - 1)) / 2 = b &&& (b - 1) by omega, Nat.testBit_and]
theorem odd_form : ∀ m : Nat, 0 < m → ∃ q k, q % 2 = 1 ∧ m = q * 2 ^ k := by
  intro m
  induction m using Nat.strongRecOn with
  | ind m ih =>
    intro h
    by_cases ho : m % 2 = 1
    · exact ⟨m, 0, ho, by rw [Nat.pow_zero, Nat.mul_one]⟩
    · obtain ⟨q, k, h1, h2⟩ := ih (m / 2) (by omega) (by omega)
      refine ⟨q, k + 1, h1, ?_⟩
      rw [Nat.pow_succ, ← Nat.mul_assoc, ← h2]
      omega
theorem bits_two_pow (k : Nat) : Builtin.Int.intBits (2 ^ k) = k + 1 := by
  have e : ((2 : Int) ^ k).natAbs = 2 ^ k := by rw [Int.natAbs_pow]; rfl
  refine bits_eq (Int.pow_pos (by decide)) (by omega) ?_
  rw [e, Nat.pow_succ]
  have : 0 < 2 ^ k := Nat.pow_pos (by decide)
  omega
/-- what trailing tells: an odd factor and a power of two -/
theorem trail_spec {m : Int} (h : 0 < m) : ∃ (q : Int) (k : Nat), trailF m = (k : Int) ∧ q % 2 = 1 ∧ 0 < q ∧ m = q * 2 ^ k := by
  obtain ⟨q, k, h1, h2⟩ := odd_form m.toNat (by omega)
  have h3 := nat_low q h1 k
  rw [← h2] at h3
  have e2 : ((2 ^ k : Nat) : Int) = (2 : Int) ^ k := (two_pow_cast k).symm
  have hm : m = (q : Int) * 2 ^ k := by
    have : ((m.toNat : Nat) : Int) = ((q * 2 ^ k : Nat) : Int) := by rw [h2]
    rw [Int.natCast_mul, e2] at this
    omega
  refine ⟨q, k, ?_, by omega, by omega, hm⟩
  unfold trailF
  rw [if_neg (by omega)]
  have hb : Builtin.bitAnd m (-m) = 2 ^ k := by
    unfold Builtin.bitAnd Builtin.bitNot
    have g2 : ¬ 0 ≤ -m := by omega
    simp only [Int.le_of_lt h, g2, decide_true, decide_false]
    have e : (-(-m) - 1).toNat = m.toNat - 1 := by omega
    rw [e, h3]
    have : ((q - 1) * 2 ^ k : Nat) + 2 ^ k = m.toNat := by
      rw [h2, Nat.sub_mul, Nat.one_mul]
      have : 2 ^ k ≤ q * 2 ^ k := Nat.le_mul_of_pos_left _ (by omega)
      omega
    omega
  rw [hb, bits_two_pow]
  omega
theorem bits_mul_pow {q : Int} {k : Nat} (h : 0 < q) : Builtin.Int.intBits (q * 2 ^ k) = Builtin.Int.intBits q + k := by
  obtain ⟨a, b, c⟩ := bits_pos h
  have e : (q * 2 ^ k).natAbs = q.natAbs * 2 ^ k := by rw [Int.natAbs_mul, Int.natAbs_pow]; rfl
  obtain ⟨p, hp⟩ : ∃ p, Builtin.Int.intBits q = p + 1 := ⟨Builtin.Int.intBits q - 1, by omega⟩
  rw [hp] at a b ⊢
  rw [Nat.add_sub_cancel] at a
  have h2 : 0 < 2 ^ k := Nat.pow_pos (by decide)
  rw [show p + 1 + k = (p + k) + 1 by omega]
  refine bits_eq (Int.mul_pos h (Int.pow_pos (by decide))) ?_ ?_
  · rw [e, Nat.pow_add]; exact Nat.mul_le_mul_right _ a
  · rw [e, show p + k + 1 = (p + 1) + k by omega, Nat.pow_add]; exact Nat.mul_lt_mul_of_pos_right b h2
theorem fdiv_pow_exact {q : Int} {k : Nat} : (q * 2 ^ k).fdiv (2 ^ k) = q := by
  have h2 : (0 : Int) < 2 ^ k := Int.pow_pos (by decide)
  rw [Int.fdiv_eq_ediv_of_nonneg _ (Int.le_of_lt h2)]
  exact Int.mul_ediv_cancel _ (by omega)
end
section
theorem fillK_L2 : (hd.heap_39 = hd.heap_39) ∧ PySem.Challenge.rw_aj5009_01 = PySem.Challenge.rw_aj5009_01 := by
  k_fill
  exact ⟨rfl, rfl⟩
/-! plain law, part 2: what normalize tells -/
theorem bitAnd_one (x : Int) : Builtin.bitAnd x 1 = x % 2 := bitAnd_m1 x
theorem bits_1 : (Builtin.Int.intBits 1 : Int) = 1 := by decide +kernel
/-- the stripping step on a size above nought -/
theorem strip_spec {sign man exp bc : Int} (hm : 0 < man) (hb : bc = (Builtin.Int.intBits man : Int) ∨ ∃ j : Nat, man = 2 ^ j) :
    ∃ (q : Int) (k : Nat), man = q * 2 ^ k ∧ q % 2 = 1 ∧ 0 < q ∧ stripF sign man exp bc = ⟨sign, q, exp + k, (Builtin.Int.intBits q : Int)⟩ := by
  obtain ⟨q, k, h1, h2, h3, h4⟩ := trail_spec hm
  have hq1 : (∃ j : Nat, man = 2 ^ j) → q = 1 := by
    rintro ⟨j, hj⟩
    rcases Nat.lt_or_ge j k with hjk | hjk
    · exfalso
      obtain ⟨d, rfl⟩ : ∃ d, k = j + 1 + d := ⟨k - j - 1, by omega⟩
      have e : q * 2 ^ (j + 1 + d) = 2 ^ j * (2 * (q * 2 ^ d)) := by
        rw [Int.pow_add, Int.pow_succ]
        simp only [Int.mul_comm, Int.mul_left_comm, Int.mul_assoc]
      rw [h4, e] at hj
      have hp : (2 : Int) ^ j ≠ 0 := Int.ne_of_gt (Int.pow_pos (by decide))
      have := Int.eq_of_mul_eq_mul_left hp (hj.trans (Int.mul_one _).symm)
      omega
    · obtain ⟨d, rfl⟩ : ∃ d, j = k + d := ⟨j - k, by omega⟩
      have hp : (2 : Int) ^ k ≠ 0 := Int.ne_of_gt (Int.pow_pos (by decide))
      rw [h4, Int.pow_add, Int.mul_comm q] at hj
      have hq := Int.eq_of_mul_eq_mul_left hp hj
      cases d with
      | zero => rw [hq]; rfl
      | succ d => rw [Int.pow_succ] at hq; omega
  refine ⟨q, k, h4, h2, h3, ?_⟩
  have hf : man.fdiv (2 ^ k) = q := by rw [h4]; exact fdiv_pow_exact
  have hbq : (Builtin.Int.intBits man : Int) = (Builtin.Int.intBits q : Int) + k := by
    rw [h4, bits_mul_pow h3]; omega
  unfold stripF
  rw [bitAnd_one, h1, Int.toNat_natCast, hf]
  by_cases hev : man % 2 = 0
  · rw [if_pos hev]
    refine MP.ext4 rfl rfl rfl ?_
    by_cases e1 : q = 1
    · rw [if_pos e1, e1, bits_1]
    · rw [if_neg e1]
      rcases hb with hb | hb
      · show bc - (k : Int) = (Builtin.Int.intBits q : Int)
        rw [hb, hbq]
        omega
      · exact absurd (hq1 hb) e1
  · rw [if_neg hev]
    have hk : k = 0 := by
      cases k with
      | zero => rfl
      | succ k =>
        exfalso
        rw [Int.pow_succ, ← Int.mul_assoc] at h4
        omega
    subst hk
    rw [Int.pow_zero, Int.mul_one] at h4
    subst h4
    refine MP.ext4 rfl rfl (by omega) ?_
    by_cases e1 : man = 1
    · rw [if_pos e1, e1, bits_1]
    · rw [if_neg e1]
      rcases hb with hb | hb
      · exact hb
      · exact absurd (hq1 hb) e1
theorem nat_and_two (t : Nat) : t &&& 2 = 2 * (t / 2 % 2) := by
  refine Nat.eq_of_testBit_eq fun i => ?_
  rw [Nat.testBit_and]
  cases i with
  | zero =>
    have h1 : (2 : Nat).testBit 0 = false := by decide
    have h2 : (2 * (t / 2 % 2)).testBit 0 = false := by rw [Nat.testBit_zero]; simp
    rw [h1, h2, Bool.and_false]
  | succ i =>
    rw [Nat.testBit_succ, Nat.testBit_succ, Nat.testBit_succ, show 2 * (t / 2 % 2) / 2 = t / 2 % 2 by omega, show 2 / 2 = 1 by omega, ← Nat.testBit_and, Nat.and_one_is_mod]
theorem bitAnd_nn {x y : Int} (hx : 0 ≤ x) (hy : 0 ≤ y) : Builtin.bitAnd x y = ((x.toNat &&& y.toNat : Nat) : Int) := by
  unfold Builtin.bitAnd
  simp only [hx, hy, decide_true]
theorem bitAnd_two {x : Int} (hx : 0 ≤ x) : Builtin.bitAnd x 2 = 2 * (x / 2 % 2) := by
  rw [bitAnd_nn hx (by decide)]
  have : (2 : Int).toNat = 2 := by decide
  rw [this, nat_and_two]
  omega
theorem bitAnd_mask {x : Int} (k : Nat) (hx : 0 ≤ x) : Builtin.bitAnd x (1 * 2 ^ k - 1) = x % 2 ^ k := by
  have hp : (0 : Int) < 2 ^ k := Int.pow_pos (by decide)
  rw [bitAnd_nn hx (by omega)]
  have e : ((1 : Int) * 2 ^ k - 1).toNat = 2 ^ k - 1 := by
    rw [Int.one_mul, two_pow_cast]; omega
  rw [e, Nat.and_two_pow_sub_one_eq_mod, Int.natCast_emod]
  rw [two_pow_cast]
  congr 1
  omega
theorem cut_down {m : Int} (N : Nat) : m.fdiv (2 ^ N) = m / 2 ^ N := Int.fdiv_eq_ediv_of_nonneg _ (Int.le_of_lt (Int.pow_pos (by decide)))
theorem cut_up {m : Int} (N : Nat) : -((-m).fdiv (2 ^ N)) = if m % 2 ^ N = 0 then m / 2 ^ N else m / 2 ^ N + 1 := by
  have hp : (0 : Int) < 2 ^ N := Int.pow_pos (by decide)
  rw [Int.fdiv_eq_ediv_of_nonneg _ (Int.le_of_lt hp)]
  generalize (2 : Int) ^ N = p at *
  have h1 := Int.emod_add_mul_ediv m p
  have h2 := Int.emod_nonneg m (Int.ne_of_gt hp)
  have h3 := Int.emod_lt_of_pos m hp
  have h4 := Int.emod_add_mul_ediv (-m) p
  have h5 := Int.emod_nonneg (-m) (Int.ne_of_gt hp)
  have h6 := Int.emod_lt_of_pos (-m) hp
  generalize m % p = r at *
  generalize m / p = a at *
  generalize (-m) % p = r' at *
  generalize (-m) / p = a' at *
  have hs : p * (a + a') = -(r + r') := by rw [Int.mul_add]; omega
  split
  · rename_i hr
    have : a + a' = 0 := by
      have hlt : p * (a + a') ≤ 0 := by omega
      have hgt : -p < p * (a + a') := by omega
      rcases Int.lt_trichotomy (a + a') 0 with h | h | h
      · have := Int.mul_le_mul_of_nonneg_left (show a + a' ≤ -1 by omega) (Int.le_of_lt hp)
        omega
      · exact h
      · have := Int.mul_le_mul_of_nonneg_left (show 1 ≤ a + a' by omega) (Int.le_of_lt hp)
        omega
    omega
  · rename_i hr
    have : a + a' = -1 := by
      rcases Int.lt_trichotomy (a + a') (-1) with h | h | h
      · have := Int.mul_le_mul_of_nonneg_left (show a + a' ≤ -2 by omega) (Int.le_of_lt hp)
        omega
      · exact h
      · have := Int.mul_le_mul_of_nonneg_left (show 0 ≤ a + a' by omega) (Int.le_of_lt hp)
        omega
    omega
end
section
theorem fillK_L3 : (hd.heap_39 = hd.heap_39) ∧ PySem.Challenge.rw_aj5009_01 = PySem.Challenge.rw_aj5009_01 := by
  k_fill
  exact ⟨rfl, rfl⟩
/-! plain law, part 3: the rounding step -/
/-- what is left of a size whose quotient by P is A, its rest R -/
def cutM (sg A R P : Int) (r : Rnd) : Int :=
  match r with
  | .d => A
  | .u => if R = 0 then A else A + 1
  | .f => if sg = 0 then A else (if R = 0 then A else A + 1)
  | .c => if sg = 0 then (if R = 0 then A else A + 1) else A
  | .n => if P < 2 * R ∨ (2 * R = P ∧ A % 2 = 1) then A + 1 else A
theorem cut_spec {sg m : Int} {N : Nat} (hm : 0 < m) (hN : 1 ≤ N) (r : Rnd) : cutF sg m (N : Int) r = cutM sg (m / 2 ^ N) (m % 2 ^ N) (2 ^ N) r := by
  have eN : ((N : Int)).toNat = N := Int.toNat_natCast N
  cases r
  case d => show m.fdiv (2 ^ (N : Int).toNat) = _; rw [eN, cut_down]; rfl
  case u => show -((-m).fdiv (2 ^ (N : Int).toNat)) = _; rw [eN, cut_up]; rfl
  case f =>
    show (if sg = 0 then m.fdiv (2 ^ (N : Int).toNat) else -((-m).fdiv (2 ^ (N : Int).toNat))) = _
    rw [eN, cut_down, cut_up]; rfl
  case c =>
    show (if sg = 0 then -((-m).fdiv (2 ^ (N : Int).toNat)) else m.fdiv (2 ^ (N : Int).toNat)) = _
    rw [eN, cut_up, cut_down]; rfl
  case n =>
    obtain ⟨j, rfl⟩ : ∃ j, N = j + 1 := ⟨N - 1, by omega⟩
    have e1 : (((j + 1 : Nat) : Int) - 1).toNat = j := by omega
    have e2 : ((1 : Int)).toNat = 1 := rfl
    have hp : (0 : Int) < 2 ^ j := Int.pow_pos (by decide)
    have hP : (2 : Int) ^ (j + 1) = 2 * 2 ^ j := by rw [Int.pow_succ, Int.mul_comm]
    show (if Builtin.bitAnd (m.fdiv (2 ^ (((j + 1 : Nat) : Int) - 1).toNat)) 1 ≠ 0 ∧ (Builtin.bitAnd (m.fdiv (2 ^ (((j + 1 : Nat) : Int) - 1).toNat)) 2 ≠ 0 ∨ Builtin.bitAnd m (1 * 2 ^ (((j + 1 : Nat) : Int) - 1).toNat - 1) ≠ 0)
      then (m.fdiv (2 ^ (((j + 1 : Nat) : Int) - 1).toNat)).fdiv (2 ^ (1 : Int).toNat) + 1 else (m.fdiv (2 ^ (((j + 1 : Nat) : Int) - 1).toNat)).fdiv (2 ^ (1 : Int).toNat)) = (if (2 : Int) ^ (j + 1) < 2 * (m % 2 ^ (j + 1)) ∨ (2 * (m % 2 ^ (j + 1)) = 2 ^ (j + 1) ∧ (m / 2 ^ (j + 1)) % 2 = 1) then m / 2 ^ (j + 1) + 1 else m / 2 ^ (j + 1))
    rw [e1, e2, cut_down, cut_down, bitAnd_one, bitAnd_mask j (Int.le_of_lt hm), Int.pow_one]
    have ht : 0 ≤ m / 2 ^ j := Int.ediv_nonneg (Int.le_of_lt hm) (Int.le_of_lt hp)
    rw [bitAnd_two ht, hP]
    generalize (2 : Int) ^ j = h at *
    have h1 := Int.emod_add_mul_ediv m h
    have h2 := Int.emod_nonneg m (Int.ne_of_gt hp)
    have h3 := Int.emod_lt_of_pos m hp
    generalize hr : m % h = r at *
    generalize hq : m / h = t at *
    have key : m / (2 * h) = t / 2 ∧ m % (2 * h) = r + h * (t % 2) := by
      have hh : 0 < 2 * h := by omega
      refine (Int.ediv_emod_unique hh).mpr ⟨?_, ?_, ?_⟩
      · have : t = 2 * (t / 2) + t % 2 := by omega
        have e : h * t = h * (2 * (t / 2)) + h * (t % 2) := by rw [← Int.mul_add, ← this]
        have e' : 2 * h * (t / 2) = h * (2 * (t / 2)) := by rw [Int.mul_comm 2 h, Int.mul_assoc]
        omega
      · rcases (by omega : t % 2 = 0 ∨ t % 2 = 1) with e | e <;> rw [e] <;> omega
      · rcases (by omega : t % 2 = 0 ∨ t % 2 = 1) with e | e <;> rw [e] <;> omega
    rw [key.1, key.2]
    rcases (by omega : t % 2 = 0 ∨ t % 2 = 1) with e | e
    · rw [if_neg (by omega), if_neg (by rw [e]; omega)]
    · by_cases c : t / 2 % 2 = 0
      · by_cases d : r = 0
        · rw [if_neg (by omega), if_neg (by rw [e]; omega)]
        · rw [if_pos (by omega), if_pos (by rw [e]; omega)]
      · rw [if_pos (by omega), if_pos (by rw [e]; omega)]
theorem cutM_or (sg A R P : Int) (r : Rnd) : cutM sg A R P r = A ∨ (cutM sg A R P r = A + 1 ∧ (0 ≤ R → 0 < P → R ≠ 0)) := by
  cases r <;> dsimp only [cutM] <;> (repeat' split) <;> omega
theorem bits_bound {m : Int} (h : 0 < m) : (2 : Int) ^ (Builtin.Int.intBits m - 1) ≤ m ∧ m < 2 ^ Builtin.Int.intBits m := by
  obtain ⟨a, b, _⟩ := bits_pos h
  rw [two_pow_cast, two_pow_cast]
  omega
/-- the quotient has as many digits as are asked for -/
theorem quot_bits {m : Int} {N P : Nat} (h : 0 < m) (hb : Builtin.Int.intBits m = N + P) (hP : 1 ≤ P) : (2 : Int) ^ (P - 1) ≤ m / 2 ^ N ∧ m / 2 ^ N < 2 ^ P := by
  obtain ⟨a, b⟩ := bits_bound h
  have hp : (0 : Int) < 2 ^ N := Int.pow_pos (by decide)
  rw [hb] at a b
  constructor
  · refine (Int.le_ediv_iff_mul_le hp).mpr ?_
    rw [← Int.pow_add, show P - 1 + N = N + P - 1 by omega]
    exact a
  · refine (Int.ediv_lt_iff_lt_mul hp).mpr ?_
    rw [← Int.pow_add, Nat.add_comm P N]
    exact b
theorem bits_of_range {m : Int} {P : Nat} (hP : 1 ≤ P) (h1 : (2 : Int) ^ (P - 1) ≤ m) (h2 : m < 2 ^ P) : Builtin.Int.intBits m = P := by
  have h0 : (0 : Int) < 2 ^ (P - 1) := Int.pow_pos (by decide)
  rw [two_pow_cast] at h1 h2
  obtain ⟨p, rfl⟩ : ∃ p, P = p + 1 := ⟨P - 1, by omega⟩
  rw [Nat.add_sub_cancel] at h1
  exact bits_eq (by rw [two_pow_cast] at h0; omega) (by omega) (by omega)
/-- normalize, in two cases -/
theorem norm_exact {s m e b p : Int} {r : Rnd} (hm : 0 < m) (hb : b = (Builtin.Int.intBits m : Int)) (h : b ≤ p) :
    ∃ (q : Int) (k : Nat), m = q * 2 ^ k ∧ q % 2 = 1 ∧ 0 < q ∧ normF s m e b p r = ⟨s, q, e + k, (Builtin.Int.intBits q : Int)⟩ := by
  obtain ⟨q, k, h1, h2, h3, h4⟩ := strip_spec (sign := s) (exp := e) hm (.inl hb)
  refine ⟨q, k, h1, h2, h3, ?_⟩
  unfold normF
  rw [if_neg (by omega), if_neg (by omega), h4]
theorem norm_cut {s m e b p : Int} {N P : Nat} {r : Rnd} (hm : 0 < m) (hb : b = (Builtin.Int.intBits m : Int)) (hN : 1 ≤ N) (hP : 1 ≤ P) (hp : p = (P : Int)) (hbn : b = (N : Int) + P) :
    ∃ (q : Int) (k : Nat), cutM s (m / 2 ^ N) (m % 2 ^ N) (2 ^ N) r = q * 2 ^ k ∧ q % 2 = 1 ∧ 0 < q ∧ normF s m e b p r = ⟨s, q, e + N + k, (Builtin.Int.intBits q : Int)⟩ := by
  have hbN : Builtin.Int.intBits m = N + P := by omega
  obtain ⟨a1, a2⟩ := quot_bits hm hbN hP
  have h0 : (0 : Int) < 2 ^ (P - 1) := Int.pow_pos (by decide)
  have e1 : b - p = (N : Int) := by omega
  have hc := cutM_or s (m / 2 ^ N) (m % 2 ^ N) (2 ^ N) r
  have hcp : 0 < cutM s (m / 2 ^ N) (m % 2 ^ N) (2 ^ N) r := by omega
  have hcb : p = (Builtin.Int.intBits (cutM s (m / 2 ^ N) (m % 2 ^ N) (2 ^ N) r) : Int) ∨ ∃ j : Nat, cutM s (m / 2 ^ N) (m % 2 ^ N) (2 ^ N) r = 2 ^ j := by
    by_cases hx : cutM s (m / 2 ^ N) (m % 2 ^ N) (2 ^ N) r = 2 ^ P
    · exact .inr ⟨P, hx⟩
    · left
      rw [bits_of_range hP (by omega) (by omega), hp]
  obtain ⟨q, k, h1, h2, h3, h4⟩ := strip_spec (sign := s) (exp := e + (b - p)) hcp hcb
  refine ⟨q, k, h1, h2, h3, ?_⟩
  unfold normF
  rw [if_neg (by omega), if_pos (by omega)]
  rw [e1, cut_spec hm hN r]
  rw [e1] at h4
  exact h4
end
section
theorem fillK_L4 : (hd.heap_39 = hd.heap_39) ∧ PySem.Challenge.rw_aj5009_01 = PySem.Challenge.rw_aj5009_01 := by
  k_fill
  exact ⟨rfl, rfl⟩
/-! plain law, part 4: what stands is well made -/
theorem bits_le_of {q : Int} {k : Nat} (h : 0 < q) : Builtin.Int.intBits q + k = Builtin.Int.intBits (q * 2 ^ k) ∧ 1 ≤ Builtin.Int.intBits q := ⟨(bits_mul_pow h).symm, (bits_pos h).2.2⟩
theorem Wf.mk' {s q e : Int} (hs : B01 s) (h : 0 < q) (ho : q % 2 = 1) : Wf ⟨s, q, e, (Builtin.Int.intBits q : Int)⟩ :=
  ⟨hs, Int.le_of_lt h, rfl, fun x => by dsimp only at x; omega, .inr ho⟩
theorem norm_wf {s m e b p : Int} {r : Rnd} (hs : B01 s) (hm : 0 < m) (hb : b = (Builtin.Int.intBits m : Int)) (hp : 1 ≤ p) :
    Wf (normF s m e b p r) ∧ 0 < (normF s m e b p r).man ∧ (normF s m e b p r).bc ≤ b ∧ e ≤ (normF s m e b p r).ex ∧ (normF s m e b p r).ex ≤ e + b ∧ (normF s m e b p r).sg = s := by
  by_cases h : b ≤ p
  · obtain ⟨q, k, h1, h2, h3, h4⟩ := norm_exact (s := s) (e := e) (r := r) hm hb h
    rw [h4]
    obtain ⟨c1, c2⟩ := bits_le_of (k := k) h3
    rw [← h1] at c1
    refine ⟨Wf.mk' hs h3 h2, h3, ?_, ?_, ?_, rfl⟩ <;> dsimp only <;> omega
  · obtain ⟨N, hN⟩ : ∃ N : Nat, b - p = (N : Int) := ⟨(b - p).toNat, by omega⟩
    obtain ⟨P, hP⟩ : ∃ P : Nat, p = (P : Int) := ⟨p.toNat, by omega⟩
    have hN1 : 1 ≤ N := by omega
    have hP1 : 1 ≤ P := by omega
    have hbn : b = (N : Int) + P := by omega
    obtain ⟨q, k, h1, h2, h3, h4⟩ := norm_cut (s := s) (e := e) (r := r) hm hb hN1 hP1 hP hbn
    have hbN : Builtin.Int.intBits m = N + P := by omega
    obtain ⟨a1, a2⟩ := quot_bits hm hbN hP1
    have hc := cutM_or s (m / 2 ^ N) (m % 2 ^ N) (2 ^ N) r
    rw [h4]
    obtain ⟨c1, c2⟩ := bits_le_of (k := k) h3
    rw [← h1] at c1
    have hcb : Builtin.Int.intBits (cutM s (m / 2 ^ N) (m % 2 ^ N) (2 ^ N) r) ≤ P + 1 := by
      have h0 : (0 : Int) < 2 ^ (P - 1) := Int.pow_pos (by decide)
      refine intBits_le ?_
      have e : ((2 ^ (P + 1) : Nat) : Int) = 2 * 2 ^ P := by rw [← two_pow_cast, Int.pow_succ, Int.mul_comm]
      omega
    refine ⟨Wf.mk' hs h3 h2, h3, ?_, ?_, ?_, rfl⟩ <;> dsimp only <;> omega
theorem Sm.mono {N M : Int} {q : MP} (h : Sm N q) (hN : N ≤ M) : Sm M q := ⟨by have := h.1; omega, by have := h.2.1; omega, by have := h.2.2; omega⟩
theorem Sm_fzero {N : Int} (h : 0 ≤ N) : Sm N fzero := ⟨h, by show -N ≤ 0; omega, h⟩
/-- a product without rounding -/
theorem mul0_wf {a b : MP} {r : Rnd} (ha : Wf a) (hb : Wf b) : Wf (mulF a b 0 r) := by
  unfold mulF
  by_cases h : a.man * b.man = 0
  · rw [if_pos h]; exact Wf_fzero
  · rw [if_neg h, if_pos rfl]
    have na : a.man ≠ 0 := fun e => h (by rw [e, Int.zero_mul])
    have nb : b.man ≠ 0 := fun e => h (by rw [e, Int.mul_zero])
    have oa : a.man % 2 = 1 := ha.2.2.2.2.resolve_left na
    have ob : b.man % 2 = 1 := hb.2.2.2.2.resolve_left nb
    refine Wf.mk' (ha.b01.xor hb.b01) (Int.mul_pos (ha.pos na) (hb.pos nb)) ?_
    rw [Int.mul_emod, oa, ob]
    decide
theorem mul0_sm {a b : MP} {r : Rnd} {M N : Int} (ha : Wf a) (hb : Wf b) (sa : Sm M a) (sb : Sm N b) (hM : 0 ≤ M) (hN : 0 ≤ N) : Sm (M + N) (mulF a b 0 r) := by
  unfold mulF
  by_cases h : a.man * b.man = 0
  · rw [if_pos h]; exact Sm_fzero (by omega)
  · rw [if_neg h, if_pos rfl]
    obtain ⟨a1, a2, a3⟩ := sa
    obtain ⟨b1, b2, b3⟩ := sb
    have := bits_mulC (m := M.toNat) (n := N.toNat) (rfl : a.man * b.man = a.man * b.man) (by have := ha.2.2.1; omega) (by have := hb.2.2.1; omega)
    refine ⟨?_, ?_, ?_⟩ <;> dsimp only <;> omega
theorem neg_wf {a : MP} (ha : Wf a) : Wf (negF a) := by
  unfold negF
  by_cases h : a.man = 0
  · rw [if_pos h]; exact ha
  · rw [if_neg h]
    obtain ⟨h1, h2, h3, h4, h5⟩ := ha
    exact ⟨by dsimp only; omega, h2, h3, fun e => absurd e h, h5⟩
theorem neg_sm {a : MP} {N : Int} (sa : Sm N a) : Sm N (negF a) := by
  unfold negF
  split
  · exact sa
  · exact sa
theorem abs_wf {a : MP} (ha : Wf a) : Wf (absF a) ∧ (absF a).sg = 0 := by
  unfold absF
  by_cases h : a.sg = 0
  · rw [if_pos h]; exact ⟨ha, h⟩
  · rw [if_neg h]
    obtain ⟨h1, h2, h3, h4, h5⟩ := ha
    exact ⟨⟨.inl rfl, h2, h3, fun e => absurd (h4 e).1 h, h5⟩, rfl⟩
theorem abs_sm {a : MP} {N : Int} (sa : Sm N a) : Sm N (absF a) := by
  unfold absF
  split
  · exact sa
  · exact sa
theorem shift_wf {a : MP} {n : Int} (ha : Wf a) : Wf (shiftF a n) := by
  unfold shiftF
  by_cases h : a.man = 0
  · rw [if_pos h]; exact ha
  · rw [if_neg h]
    obtain ⟨h1, h2, h3, h4, h5⟩ := ha
    exact ⟨h1, h2, h3, fun e => absurd e h, h5⟩
end
section
theorem fillK_L5 : (hd.heap_39 = hd.heap_39) ∧ PySem.Challenge.rw_aj5009_01 = PySem.Challenge.rw_aj5009_01 := by
  k_fill
  exact ⟨rfl, rfl⟩
/-! plain law, part 5: from_int, sums -/
theorem fme0N_spec {s m e : Int} (hm : 0 < m) : ∃ (q : Int) (k : Nat), m = q * 2 ^ k ∧ q % 2 = 1 ∧ 0 < q ∧ fme0N s m e = ⟨s, q, e + k, (Builtin.Int.intBits q : Int)⟩ := by
  unfold fme0N
  rw [if_neg (by omega), bitAnd_one, bitAnd_two (Int.le_of_lt hm)]
  by_cases h1 : m % 2 = 0
  · rw [if_pos h1]
    by_cases h2 : 2 * (m / 2 % 2) ≠ 0
    · rw [if_pos h2]
      have e1 : m = m / 2 * 2 ^ 1 := by rw [Int.pow_one]; omega
      have e2 : m.fdiv (2 ^ (1 : Int).toNat) = m / 2 := by
        have : (2 : Int) ^ (1 : Int).toNat = 2 := by decide
        rw [this, Int.fdiv_eq_ediv_of_nonneg _ (by decide)]
      have e3 := bits_mul_pow (q := m / 2) (k := 1) (by omega)
      rw [← e1] at e3
      refine ⟨m / 2, 1, e1, by omega, by omega, MP.ext4 rfl e2 rfl (by omega)⟩
    · rw [if_neg h2]
      obtain ⟨q, k, g1, g2, g3, g4⟩ := trail_spec hm
      have hf : m.fdiv (2 ^ k) = q := by rw [g4]; exact fdiv_pow_exact
      have e3 := bits_mul_pow (q := q) (k := k) g3
      rw [← g4] at e3
      refine ⟨q, k, g4, g2, g3, MP.ext4 rfl ?_ ?_ ?_⟩
      · rw [g1, Int.toNat_natCast, hf]
      · rw [g1]
      · rw [g1, e3]; omega
  · rw [if_neg h1]
    exact ⟨m, 0, by rw [Int.pow_zero, Int.mul_one], by omega, hm, MP.ext4 rfl rfl (by omega) rfl⟩
theorem fme0_wf (n : Int) : Wf (fme0 n 0) := by
  unfold fme0
  by_cases h : n < 0
  · rw [if_pos h]
    obtain ⟨q, k, h1, h2, h3, h4⟩ := fme0N_spec (s := 1) (e := 0) (show 0 < -n by omega)
    rw [h4]
    exact Wf.mk' B01.one h3 h2
  · rw [if_neg h]
    by_cases h0 : n = 0
    · subst h0; exact Wf_fzero
    · obtain ⟨q, k, h1, h2, h3, h4⟩ := fme0N_spec (s := 0) (e := 0) (show 0 < n by omega)
      rw [h4]
      exact Wf.mk' B01.zero h3 h2
theorem fme0_man {n : Int} (h : n ≠ 0) : (fme0 n 0).man ≠ 0 := by
  unfold fme0
  by_cases h1 : n < 0
  · rw [if_pos h1]
    obtain ⟨q, k, _, _, h3, h4⟩ := fme0N_spec (s := 1) (e := 0) (show 0 < -n by omega)
    rw [h4]; dsimp only; omega
  · rw [if_neg h1]
    obtain ⟨q, k, _, _, h3, h4⟩ := fme0N_spec (s := 0) (e := 0) (show 0 < n by omega)
    rw [h4]; dsimp only; omega
theorem fme0_sm {n : Int} {N : Nat} (hb : Builtin.Int.intBits n ≤ N) : Sm N (fme0 n 0) := by
  have key : ∀ s m, 0 < m → Builtin.Int.intBits m ≤ N → Sm N (fme0N s m 0) := by
    intro s m hm hbm
    obtain ⟨q, k, h1, h2, h3, h4⟩ := fme0N_spec (s := s) (e := 0) hm
    rw [h4]
    obtain ⟨c1, c2⟩ := bits_le_of (k := k) h3
    rw [← h1] at c1
    refine ⟨?_, ?_, ?_⟩ <;> dsimp only <;> omega
  unfold fme0
  by_cases h : n < 0
  · rw [if_pos h]; exact key _ _ (by omega) (by rw [intBits_neg]; exact hb)
  · rw [if_neg h]
    by_cases h0 : n = 0
    · subst h0; exact Sm_fzero (by omega)
    · exact key _ _ (by omega) hb
theorem orP_zero (b : Int) : orP 0 b = b := rfl
theorem orP_pos {p : Int} (b : Int) (h : p ≠ 0) : orP p b = p := by unfold orP; rw [if_neg h]
theorem normF_zero (s e b p : Int) (r : Rnd) : normF s 0 e b p r = fzero := by unfold normF; rw [if_pos rfl]
/-- a signed sum, rounded or not -/
theorem addN_wf {S e prec : Int} {r : Rnd} {N : Nat} (hp : 0 ≤ prec) (hb : Builtin.Int.intBits S ≤ N) :
    Wf (addN S e prec r) ∧ (S ≠ 0 → e ≤ (addN S e prec r).ex ∧ (addN S e prec r).ex ≤ e + N) ∧ (addN S e prec r).bc ≤ N ∧ (S = 0 → addN S e prec r = fzero) := by
  have orp : ∀ m : Int, 0 < m → 1 ≤ orP prec (Builtin.Int.intBits m : Int) := by
    intro m hm
    have := (bits_pos hm).2.2
    unfold orP
    split <;> omega
  unfold addN
  by_cases h : 0 ≤ S
  · rw [if_pos h]
    by_cases h0 : S = 0
    · subst h0
      rw [normF_zero]
      exact ⟨Wf_fzero, fun x => absurd rfl x, by show (0 : Int) ≤ N; omega, fun _ => rfl⟩
    · obtain ⟨a1, a2, a3, a4, a5, a6⟩ := norm_wf (e := e) (r := r) B01.zero (show 0 < S by omega) rfl (orp S (by omega))
      exact ⟨a1, fun _ => ⟨a4, by omega⟩, by omega, fun x => absurd x h0⟩
  · rw [if_neg h]
    obtain ⟨a1, a2, a3, a4, a5, a6⟩ := norm_wf (e := e) (r := r) B01.one (show 0 < -S by omega) rfl (orp (-S) (by omega))
    rw [intBits_neg] at a3 a5
    have e2 := intBits_neg S
    refine ⟨a1, fun _ => ⟨a4, ?_⟩, ?_, fun x => by omega⟩ <;> (rw [intBits_neg] at *; omega)
theorem sv_bits {s m : Int} {n : Nat} (h : Builtin.Int.intBits m ≤ n) : Builtin.Int.intBits (sv s m) ≤ n := by
  unfold sv
  split
  · exact h
  · rw [intBits_neg]; exact h
theorem Sm_of {q : MP} {N M e : Int} (h1 : q.bc ≤ M) (h2 : -M ≤ q.ex) (h3 : q.ex ≤ M) : Sm M q := ⟨h1, h2, h3⟩
theorem add_wf {a b : MP} {ts prec : Int} {r : Rnd} {N : Nat} (ha : Wf a) (hb : Wf b) (hts : B01 ts) (hp : 0 ≤ prec) (hp' : prec ≤ N) (sa : Sm N a) (sb : Sm N b) :
    Wf (addF a b ts prec r) ∧ Sm (8 * N + 20) (addF a b ts prec r) := by
  have ba := ha.bits sa (Int.le_refl _)
  have bb := hb.bits sb (Int.le_refl _)
  obtain ⟨sa1, sa2, sa3⟩ := sa
  obtain ⟨sb1, sb2, sb3⟩ := sb
  have one : ∀ (S e : Int), Builtin.Int.intBits S ≤ 3 * N + 1 → -N ≤ e → e ≤ N → Wf (addN S e prec r) ∧ Sm (8 * N + 20) (addN S e prec r) := by
    intro S e h1 h2 h3
    obtain ⟨w1, w2, w3, w4⟩ := addN_wf (e := e) (r := r) hp h1
    refine ⟨w1, ?_⟩
    by_cases h0 : S = 0
    · rw [w4 h0]; exact Sm_fzero (by omega)
    · obtain ⟨x1, x2⟩ := w2 h0
      exact ⟨by omega, by omega, by omega⟩
  have nrm : ∀ (s m e b p : Int), B01 s → 0 < m → b = (Builtin.Int.intBits m : Int) → 1 ≤ p → b ≤ 3 * N + 10 → -(2 * N + 5) ≤ e → e ≤ N → Wf (normF s m e b p r) ∧ Sm (8 * N + 20) (normF s m e b p r) := by
    intro s m e b p h1 h2 h3 h4 h5 h6 h7
    obtain ⟨a1, a2, a3, a4, a5, a6⟩ := norm_wf (e := e) (r := r) h1 h2 h3 h4
    exact ⟨a1, by omega, by omega, by omega⟩
  have orp : ∀ b : Int, 1 ≤ b → 1 ≤ orP prec b := by intro b h; unfold orP; split <;> omega
  have prt : ∀ (s t m e : Int), B01 s → 0 < m → Builtin.Int.intBits m ≤ N → -N ≤ e → e ≤ N → 1 ≤ prec → Wf (pertF s t m e prec r) ∧ Sm (8 * N + 20) (pertF s t m e prec r) := by
    intro s t m e h1 h2 h3 h4 h5 h6
    have hx : 0 < m * 2 ^ (prec + 4).toNat := Int.mul_pos h2 (Int.pow_pos (by decide))
    have hx2 : 2 ≤ m * 2 ^ (prec + 4).toNat := by
      obtain ⟨j, hj⟩ : ∃ j, (prec + 4).toNat = j + 1 := ⟨(prec + 4).toNat - 1, by omega⟩
      rw [hj, Int.pow_succ, ← Int.mul_assoc]
      have : 0 < m * 2 ^ j := Int.mul_pos h2 (Int.pow_pos (by decide))
      omega
    have hb1 : Builtin.Int.intBits (m * 2 ^ (prec + 4).toNat) ≤ N + (N + 4) := bits_shl rfl h3 (by omega)
    unfold pertF
    split
    · have := bits_addM hb1 bits_one1
      exact nrm _ _ _ _ _ h1 (by omega) rfl h6 (by omega) (by omega) (by omega)
    · have := bits_subM hb1 bits_one1
      exact nrm _ _ _ _ _ h1 (by omega) rfl h6 (by omega) (by omega) (by omega)
  unfold addF
  by_cases na : a.man = 0
  · rw [if_pos na]
    by_cases nb : b.man = 0
    · rw [if_pos nb]; exact ⟨Wf_fzero, Sm_fzero (by omega)⟩
    · rw [if_neg nb]
      have h1 := (bits_pos (hb.pos nb)).2.2
      have h2 := hb.2.2.1
      exact nrm _ _ _ _ _ hts (hb.pos nb) hb.2.2.1 (orp _ (by omega)) (by omega) (by omega) (by omega)
  · rw [if_neg na]
    by_cases nb : b.man = 0
    · rw [if_pos nb]
      have h1 := (bits_pos (ha.pos na)).2.2
      have h2 := ha.2.2.1
      exact nrm _ _ _ _ _ ha.b01 (ha.pos na) ha.2.2.1 (orp _ (by omega)) (by omega) (by omega) (by omega)
    · rw [if_neg nb]
      by_cases c1 : 0 < a.ex - b.ex
      · rw [if_pos c1]
        split
        · rename_i h
          exact prt _ _ _ _ ha.b01 (ha.pos na) ba (by omega) (by omega) (by omega)
        · refine one _ _ ?_ (by omega) (by omega)
          have h1 := sv_bits (s := a.sg) (bits_shl (K := 2 * N) (rfl : a.man * 2 ^ (a.ex - b.ex).toNat = _) ba (by omega))
          exact bits_mono (bits_addM h1 (sv_bits (s := ts) bb)) (by omega)
      · rw [if_neg c1]
        by_cases c2 : a.ex - b.ex < 0
        · rw [if_pos c2]
          split
          · rename_i h
            exact prt _ _ _ _ hts (hb.pos nb) bb (by omega) (by omega) (by omega)
          · refine one _ _ ?_ (by omega) (by omega)
            have h1 := sv_bits (s := ts) (bits_shl (K := 2 * N) (rfl : b.man * 2 ^ (-(a.ex - b.ex)).toNat = _) bb (by omega))
            exact bits_mono (bits_addM (sv_bits (s := a.sg) ba) h1) (by omega)
        · rw [if_neg c2]
          refine one _ _ ?_ (by omega) (by omega)
          exact bits_mono (bits_addM (sv_bits (s := a.sg) ba) (sv_bits (s := ts) bb)) (by omega)
end
section
theorem fillK_W16 : (hd.heap_39 = hd.heap_39) ∧ PySem.Challenge.rw_aj5009_01 = PySem.Challenge.rw_aj5009_01 := by
  k_fill
  exact ⟨rfl, rfl⟩
local macro_rules | `(tactic| k_extra "my call ref") => `(tactic| (k_here; (with_reducible show wpAny _ _ (call (Value.ref 155) [Value.ref _, Value.ref _, Value.int _ _, Value.str _ _]) _ _ _); k_dflt (refine' Tl.use (c_add4 _ _ _ _ _ _ _ _ _ _ ?h0 ?h1 ?h2 ?h3 ?h4 ?h5 ?h6 ?h7) ?k1 ?k2 ?k3 ?k4 ?k5 ?kK ?kd ?ku ?_; (case k2 => k_asm); (case k4 => k_asm); (case h0 => k_extra "prem"); (case h1 => k_extra "prem"); (case h2 => k_extra "prem"); (case h3 => k_extra "prem"); (case h4 => k_extra "prem"); (case h5 => k_extra "prem"); (case h6 => k_extra "prem"); (case h7 => k_extra "prem"); k_extra "tlargs2"); k_extra "tltup"))
local macro_rules | `(tactic| k_extra "my call ref") => `(tactic| (k_here; (with_reducible show wpAny _ _ (call (Value.ref 163) [Value.ref _, Value.ref _, Value.int _ _, Value.str _ _]) _ _ _); k_dflt (refine' Tl.use (c_sub4 _ _ _ _ _ _ _ _ _ _ ?h0 ?h1 ?h2 ?h3 ?h4 ?h5 ?h6 ?h7) ?k1 ?k2 ?k3 ?k4 ?k5 ?kK ?kd ?ku ?_; (case k2 => k_asm); (case k4 => k_asm); (case h0 => k_extra "prem"); (case h1 => k_extra "prem"); (case h2 => k_extra "prem"); (case h3 => k_extra "prem"); (case h4 => k_extra "prem"); (case h5 => k_extra "prem"); (case h6 => k_extra "prem"); (case h7 => k_extra "prem"); k_extra "tlargs2"); k_extra "tltup"))
local macro_rules | `(tactic| k_extra "my call ref") => `(tactic| (k_here; (with_reducible show wpAny _ _ (call (Value.ref 171) [Value.ref _, Value.ref _]) _ _ _); k_dflt (refine' Tl.use (c_mul2 _ _ _ _ _ _ ?h0 ?h1 ?h2 ?h3 ?h4 ?h5) ?k1 ?k2 ?k3 ?k4 ?k5 ?kK ?kd ?ku ?_; (case k2 => k_asm); (case k4 => k_asm); (case h0 => k_extra "prem"); (case h1 => k_extra "prem"); (case h2 => k_extra "prem"); (case h3 => k_extra "prem"); (case h4 => k_extra "prem"); (case h5 => k_extra "prem"); k_extra "tlargs2"); k_extra "tltup"))
local macro_rules | `(tactic| k_extra "my call ref") => `(tactic| (k_here; (with_reducible show wpAny _ _ (call (Value.ref 171) [Value.ref _, Value.ref _, Value.int _ _, Value.str _ _]) _ _ _); k_dflt (refine' Tl.use (c_mul4 _ _ _ _ _ _ _ _ _ _ ?h0 ?h1 ?h2 ?h3 ?h4 ?h5 ?h6 ?h7) ?k1 ?k2 ?k3 ?k4 ?k5 ?kK ?kd ?ku ?_; (case k2 => k_asm); (case k4 => k_asm); (case h0 => k_extra "prem"); (case h1 => k_extra "prem"); (case h2 => k_extra "prem"); (case h3 => k_extra "prem"); (case h4 => k_extra "prem"); (case h5 => k_extra "prem"); (case h6 => k_extra "prem"); (case h7 => k_extra "prem"); k_extra "tlargs2"); k_extra "tltup"))
local macro_rules | `(tactic| k_extra "my call ref") => `(tactic| (k_here; (with_reducible show wpAny _ _ (call (Value.ref 194) [Value.ref _, Value.ref _, Value.int _ _, Value.str _ _]) _ _ _); k_dflt (refine' Tl.use (c_div _ _ _ _ _ _ _ _ _ _ ?h0 ?h1 ?h2 ?h3 ?h4 ?h5 ?h6 ?h7 ?h8) ?k1 ?k2 ?k3 ?k4 ?k5 ?kK ?kd ?ku ?_; (case k2 => k_asm); (case k4 => k_asm); (case h0 => k_extra "prem"); (case h1 => k_extra "prem"); (case h2 => k_extra "prem"); (case h3 => k_extra "prem"); (case h4 => k_extra "prem"); (case h5 => k_extra "prem"); (case h6 => k_extra "prem"); (case h7 => k_extra "prem"); (case h8 => k_extra "prem"); k_extra "tlargs2"); k_extra "tltup"))
local macro_rules | `(tactic| k_extra "my call ref") => `(tactic| (k_here; (with_reducible show wpAny _ _ (call (Value.ref 140) [Value.ref _]) _ _ _); k_dflt (refine' Tl.use (c_abs _ _ _ _ ?h0 ?h1) ?k1 ?k2 ?k3 ?k4 ?k5 ?kK ?kd ?ku ?_; (case k2 => k_asm); (case k4 => k_asm); (case h0 => k_extra "prem"); (case h1 => k_extra "prem"); k_extra "tlargs2"); k_extra "tltup"))
local macro_rules | `(tactic| k_extra "my call ref") => `(tactic| (k_here; (with_reducible show wpAny _ _ (call (Value.ref 210) [Value.ref _, Value.int _ _, Value.str _ _]) _ _ _); k_dflt (refine' Tl.use (c_sqrt _ _ _ _ _ _ _ _ ?h0 ?h1 ?h2 ?h3 ?h4 ?h5) ?k1 ?k2 ?k3 ?k4 ?k5 ?kK ?kd ?ku ?_; (case k2 => k_asm); (case k4 => k_asm); (case h0 => k_extra "prem"); (case h1 => k_extra "prem"); (case h2 => k_extra "prem"); (case h3 => k_extra "prem"); (case h4 => k_extra "prem"); (case h5 => k_extra "prem"); k_extra "tlargs2"); k_extra "tltup"))
local macro_rules | `(tactic| k_extra "my call ref") => `(tactic| (k_here; (with_reducible show wpAny _ _ (call (Value.ref 179) [Value.ref _, Value.int _ _, Value.int _ _, Value.str _ _]) _ _ _); k_dflt (refine' Tl.use (c_mulint _ _ _ _ _ _ _ _ _ _ ?h0 ?h1 ?h2 ?h3 ?h4 ?h5 ?h6 ?h7) ?k1 ?k2 ?k3 ?k4 ?k5 ?kK ?kd ?ku ?_; (case k2 => k_asm); (case k4 => k_asm); (case h0 => k_extra "prem"); (case h1 => k_extra "prem"); (case h2 => k_extra "prem"); (case h3 => k_extra "prem"); (case h4 => k_extra "prem"); (case h5 => k_extra "prem"); (case h6 => k_extra "prem"); (case h7 => k_extra "prem"); k_extra "tlargs2"); k_extra "tltup"))
local macro_rules | `(tactic| k_extra "my call ref") => `(tactic| (k_here; (with_reducible show wpAny _ _ (call (Value.ref 202) [Value.int _ _, Value.ref _, Value.int _ _, Value.str _ _]) _ _ _); k_dflt (refine' Tl.use (c_rdiv _ _ _ _ _ _ _ _ _ _ ?h0 ?h1 ?h2 ?h3 ?h4 ?h5 ?h6) ?k1 ?k2 ?k3 ?k4 ?k5 ?kK ?kd ?ku ?_; (case k2 => k_asm); (case k4 => k_asm); (case h0 => k_extra "prem"); (case h1 => k_extra "prem"); (case h2 => k_extra "prem"); (case h3 => k_extra "prem"); (case h4 => k_extra "prem"); (case h5 => k_extra "prem"); (case h6 => k_extra "prem"); k_extra "tlargs2"); k_extra "tltup"))
local macro_rules | `(tactic| k_extra "my call ref") => `(tactic| (k_here; (with_reducible show wpAny _ _ (call (Value.ref 102) [Value.int _ _, Value.int _ _, Value.int _ _, Value.str _ _]) _ _ _); k_dflt (refine' Tl.use (c_rat _ _ _ _ _ _ _ _ _ _ ?h0 ?h1 ?h2 ?h3 ?h4 ?h5 ?h6) ?k1 ?k2 ?k3 ?k4 ?k5 ?kK ?kd ?ku ?_; (case k2 => k_asm); (case k4 => k_asm); (case h0 => k_extra "prem"); (case h1 => k_extra "prem"); (case h2 => k_extra "prem"); (case h3 => k_extra "prem"); (case h4 => k_extra "prem"); (case h5 => k_extra "prem"); (case h6 => k_extra "prem"); k_extra "tlargs2"); k_extra "tltup"))
local macro_rules | `(tactic| k_extra "my call ref") => `(tactic| (k_here; (with_reducible show wpAny _ _ (call (Value.ref 124) [Value.ref _, Value.int _ _, Value.str _ _]) _ _ _); k_dflt (refine' Tl.use (c_pos _ _ _ _ _ _ _ _ ?h0 ?h1 ?h2 ?h3) ?k1 ?k2 ?k3 ?k4 ?k5 ?kK ?kd ?ku ?_; (case k2 => k_asm); (case k4 => k_asm); (case h0 => k_extra "prem"); (case h1 => k_extra "prem"); (case h2 => k_extra "prem"); (case h3 => k_extra "prem"); k_extra "tlargs2"); k_extra "tltup"))
def doneF (kind : Int) (s t : MP) (n q prec : Int) (r : Rnd) : MP :=
  if kind = 0 then addF s t (Builtin.bitXor t.sg 0) prec r
  else if kind = 1 then addF s t (Builtin.bitXor t.sg 1) prec r
  else if kind = 2 then mulF s t prec r
  else if kind = 3 then divF s t prec r
  else if kind = 4 then sqrtF (absF s) prec r
  else if kind = 5 then mulIntF s n prec r
  else if kind = 6 then rdivF n t prec r
  else if kind = 7 then divF (fme0 n 0) (fme0 q 0) prec r
  else normF (mulF s t 0 .d).sg (mulF s t 0 .d).man (mulF s t 0 .d).ex (mulF s t 0 .d).bc prec r
set_option maxRecDepth 100000 in
set_option maxHeartbeats 8000000 in
theorem c_done (w : World) (news : Led) (kind : Int) (D D' : Addr) (s t : MP) (n q prec : Int) (r : Rnd) (t1 t2 t3 t4 t5 : Tok) (H : TupH w news D s) (H' : TupH w news D' t) (ws : Wf s) (wt : Wf t) (ss : Sm 400 s) (st : Sm 400 t)
    (hn : Builtin.Int.intBits n ≤ 60) (hq : Builtin.Int.intBits q ≤ 60) (q0 : q ≠ 0) (hp : 0 < prec) (hp' : prec ≤ 100) (n3 : kind = 3 → t.man ≠ 0) (n6 : kind = 6 → t.man ≠ 0) :
    Tl w 231 [.int kind t1, .ref D, .ref D', .int n t2, .int q t3, .int prec t4, .str (rndS r) t5] 9 news (fun nw r' => ∃ D, r' = .ref D ∧ TupH w nw D (doneF kind s t n q prec r)) := by
  have hz : Bnd [Str.ofString "kind", Str.ofString "s", Str.ofString "t", Str.ofString "n", Str.ofString "q", Str.ofString "prec", Str.ofString "rnd"] [some (.int kind t1), some (.ref D), some (.ref D'), some (.int n t2), some (.int q t3), some (.int prec t4), some (.str (rndS r) t5)] [(Str.ofString "kind", .int kind t1), (Str.ofString "s", .ref D), (Str.ofString "t", .ref D'), (Str.ofString "n", .int n t2), (Str.ofString "q", .int q t3), (Str.ofString "prec", .int prec t4), (Str.ofString "rnd", .str (rndS r) t5)] := by k_extra "bnd"
  have s100 : Sm 100000 s := ss.mono (by decide)
  have t100 : Sm 100000 t := st.mono (by decide)
  have s5 : Sm 5000 s := ss.mono (by decide)
  have t5' : Sm 5000 t := st.mono (by decide)
  have wa := (abs_wf ws).1
  have wa0 := (abs_wf ws).2
  have sa : Sm 1000 (absF s) := abs_sm (ss.mono (by decide))
  have wn := fme0_wf n
  have wq := fme0_wf q
  have sn5 : Sm 5000 (fme0 n 0) := (fme0_sm hn).mono (by decide)
  have sn100 : Sm 100000 (fme0 n 0) := (fme0_sm hn).mono (by decide)
  have sq5 : Sm 5000 (fme0 q 0) := (fme0_sm hq).mono (by decide)
  have mq := fme0_man q0
  have hn1 : Builtin.Int.intBits n ≤ 1000 := bits_mono hn (by decide)
  have wm : Wf (mulF s t 0 .d) := mul0_wf ws wt
  have bm : (mulF s t 0 .d).bc < 1000000 := by
    have := (mul0_sm (r := .d) ws wt ss st (by decide) (by decide)).1
    omega
  k_extra "myenterF"
  k_extra "mysteps"
  all_goals (
    rename (∀ r nw' h' tk', Fr _ _ h' _ → News _ _ h' nw' → Sub _ nw' → _ → _) => hret
    refine hret _ _ _ _ (by k_asm) (by k_asm) (by k_extra "subl") ⟨_, rfl, ?_⟩
    clear hret
    refine TupH.as ?_ (by k_extra "tuph")
    unfold doneF
    k_extra "mite")
end
section
theorem fillK_W17 : (hd.heap_39 = hd.heap_39) ∧ PySem.Challenge.rw_aj5009_01 = PySem.Challenge.rw_aj5009_01 := by
  k_fill
  exact ⟨rfl, rfl⟩
local macro_rules | `(tactic| k_extra "my call ref") => `(tactic| (k_here; (with_reducible show wpAny _ _ (call (Value.ref 155) [Value.ref _, Value.ref _]) _ _ _); k_dflt (refine' Tl.use (c_add2 _ _ _ _ _ _ ?h0 ?h1 ?h2 ?h3 ?h4 ?h5) ?k1 ?k2 ?k3 ?k4 ?k5 ?kK ?kd ?ku ?_; (case k2 => k_asm); (case k4 => k_asm); (case h0 => k_extra "prem"); (case h1 => k_extra "prem"); (case h2 => k_extra "prem"); (case h3 => k_extra "prem"); (case h4 => k_extra "prem"); (case h5 => k_extra "prem"); k_extra "tlargs2"); k_extra "tltup"))
local macro_rules | `(tactic| k_extra "my call ref") => `(tactic| (k_here; (with_reducible show wpAny _ _ (call (Value.ref 132) [Value.ref _]) _ _ _); k_dflt (refine' Tl.use (c_neg _ _ _ _ ?h0 ?h1) ?k1 ?k2 ?k3 ?k4 ?k5 ?kK ?kd ?ku ?_; (case k2 => k_asm); (case k4 => k_asm); (case h0 => k_extra "prem"); (case h1 => k_extra "prem"); k_extra "tlargs2"); k_extra "tltup"))
local macro_rules | `(tactic| k_extra "my call ref") => `(tactic| (k_here; (with_reducible show wpAny _ _ (call (Value.ref 140) [Value.ref _]) _ _ _); k_dflt (refine' Tl.use (c_abs _ _ _ _ ?h0 ?h1) ?k1 ?k2 ?k3 ?k4 ?k5 ?kK ?kd ?ku ?_; (case k2 => k_asm); (case k4 => k_asm); (case h0 => k_extra "prem"); (case h1 => k_extra "prem"); k_extra "tlargs2"); k_extra "tltup"))
local macro_rules | `(tactic| k_extra "my call ref") => `(tactic| (k_here; (with_reducible show wpAny _ _ (call (Value.ref 171) [Value.ref _, Value.ref _]) _ _ _); k_dflt (refine' Tl.use (c_mul2 _ _ _ _ _ _ ?h0 ?h1 ?h2 ?h3 ?h4 ?h5) ?k1 ?k2 ?k3 ?k4 ?k5 ?kK ?kd ?ku ?_; (case k2 => k_asm); (case k4 => k_asm); (case h0 => k_extra "prem"); (case h1 => k_extra "prem"); (case h2 => k_extra "prem"); (case h3 => k_extra "prem"); (case h4 => k_extra "prem"); (case h5 => k_extra "prem"); k_extra "tlargs2"); k_extra "tltup"))
local macro_rules | `(tactic| k_extra "my call ref") => `(tactic| (k_here; (with_reducible show wpAny _ _ (call (Value.ref 94) [Value.int _ _]) _ _ _); k_dflt (refine' Tl.use (c_int _ _ _ _ ) ?k1 ?k2 ?k3 ?k4 ?k5 ?kK ?kd ?ku ?_; (case k2 => k_asm); (case k4 => k_asm);  k_extra "tlargs2"); k_extra "tltup"))
local macro_rules | `(tactic| k_extra "my call ref") => `(tactic| (k_here; (with_reducible show wpAny _ _ (call (Value.ref 109) [Value.ref _, Value.ref _]) _ _ _); k_dflt (refine' Tl.use (c_cmp _ _ _ _ _ _ ?h0 ?h1 ?h2 ?h3 ?h4 ?h5) ?k1 ?k2 ?k3 ?k4 ?k5 ?kK ?kd ?ku ?_; (case k2 => k_asm); (case k4 => k_asm); (case h0 => k_extra "prem"); (case h1 => k_extra "prem"); (case h2 => k_extra "prem"); (case h3 => k_extra "prem"); (case h4 => k_extra "prem"); (case h5 => k_extra "prem"); k_extra "tlargs2"); k_extra "tlint"))
local macro_rules | `(tactic| k_extra "my call ref") => `(tactic| (k_here; (with_reducible show wpAny _ _ (call (Value.ref 147) [Value.ref _]) _ _ _); k_dflt (refine' Tl.use (c_sign _ _ _ _ ?h0 ?h1) ?k1 ?k2 ?k3 ?k4 ?k5 ?kK ?kd ?ku ?_; (case k2 => k_asm); (case k4 => k_asm); (case h0 => k_extra "prem"); (case h1 => k_extra "prem"); k_extra "tlargs2"); k_extra "tlint"))
local macro_rules | `(tactic| k_extra "mulok") => `(tactic| (refine IntMulOk.of_right ?_; (rename (_ = signF _) => hz); rw [hz]; with_reducible assumption))
def sideF (kind : Int) (s t : MP) (n q : Int) (m : MP) : Int :=
  if kind = 0 then cmpF (addF s t (Builtin.bitXor t.sg 0) 0 .d) m
  else if kind = 1 then cmpF (addF s (negF t) (Builtin.bitXor (negF t).sg 0) 0 .d) m
  else if kind = 3 then cmpF s (mulF m t 0 .d) * signF t
  else if kind = 4 then cmpF (absF s) (mulF m m 0 .d)
  else if kind = 5 then cmpF (mulF s (fme0 n 0) 0 .d) m
  else if kind = 6 then cmpF (fme0 n 0) (mulF m t 0 .d) * signF t
  else if kind = 7 then cmpF (fme0 n 0) (mulF m (fme0 q 0) 0 .d)
  else cmpF (mulF s t 0 .d) m
theorem sign_bits (t : MP) : Builtin.Int.intBits (signF t) ≤ 64 := by
  unfold signF
  split
  · decide
  · split <;> decide +kernel
set_option maxRecDepth 100000 in
set_option maxHeartbeats 8000000 in
theorem c_side (w : World) (news : Led) (kind : Int) (D D' M : Addr) (s t m : MP) (n q : Int) (t1 t2 t3 : Tok) (H : TupH w news D s) (H' : TupH w news D' t) (HM : TupH w news M m) (ws : Wf s) (wt : Wf t) (wm : Wf m) (ss : Sm 400 s) (st : Sm 400 t) (sm : Sm 10000 m)
    (hn : Builtin.Int.intBits n ≤ 60) (hq : Builtin.Int.intBits q ≤ 60) :
    Tl w 238 [.int kind t1, .ref D, .ref D', .int n t2, .int q t3, .ref M] 9 news (fun nw r' => ∃ x tk, r' = .int x tk ∧ x = sideF kind s t n q m) := by
  have hz : Bnd [Str.ofString "kind", Str.ofString "s", Str.ofString "t", Str.ofString "n", Str.ofString "q", Str.ofString "m"] [some (.int kind t1), some (.ref D), some (.ref D'), some (.int n t2), some (.int q t3), some (.ref M)] [(Str.ofString "kind", .int kind t1), (Str.ofString "s", .ref D), (Str.ofString "t", .ref D'), (Str.ofString "n", .int n t2), (Str.ofString "q", .int q t3), (Str.ofString "m", .ref M)] := by k_extra "bnd"
  have s100 : Sm 100000 s := ss.mono (by decide)
  have t100 : Sm 100000 t := st.mono (by decide)
  have m100 : Sm 100000 m := sm.mono (by decide)
  have wa := (abs_wf ws).1
  have sa : Sm 100000 (absF s) := abs_sm s100
  have wg := neg_wf wt
  have sg : Sm 100000 (negF t) := neg_sm t100
  have wn := fme0_wf n
  have wq := fme0_wf q
  have sn : Sm 60 (fme0 n 0) := fme0_sm hn
  have sq : Sm 60 (fme0 q 0) := fme0_sm hq
  have sn100 : Sm 100000 (fme0 n 0) := sn.mono (by decide)
  have sq100 : Sm 100000 (fme0 q 0) := sq.mono (by decide)
  obtain ⟨w1, u1⟩ := add_wf (N := 400) (prec := 0) (r := .d) ws wt (wt.b01.xor B01.zero) (by decide) (by decide) ss st
  have v1 := u1.mono (M := 100000) (by decide)
  obtain ⟨w2, u2⟩ := add_wf (N := 400) (prec := 0) (r := .d) ws wg (wg.b01.xor B01.zero) (by decide) (by decide) ss (neg_sm st)
  have v2 := u2.mono (M := 100000) (by decide)
  have w3 := mul0_wf (r := .d) wm wt
  have v3 := (mul0_sm (r := .d) wm wt sm st (by decide) (by decide)).mono (M := 100000) (by decide)
  have w4 := mul0_wf (r := .d) wm wm
  have v4 := (mul0_sm (r := .d) wm wm sm sm (by decide) (by decide)).mono (M := 100000) (by decide)
  have w5 := mul0_wf (r := .d) ws wn
  have v5 := (mul0_sm (r := .d) ws wn ss sn (by decide) (by decide)).mono (M := 100000) (by decide)
  have w7 := mul0_wf (r := .d) wm wq
  have v7 := (mul0_sm (r := .d) wm wq sm sq (by decide) (by decide)).mono (M := 100000) (by decide)
  have w8 := mul0_wf (r := .d) ws wt
  have v8 := (mul0_sm (r := .d) ws wt ss st (by decide) (by decide)).mono (M := 100000) (by decide)
  have hbs := sign_bits t
  k_extra "myenterF"
  k_extra "mysteps"
  all_goals (
    rename (∀ r nw' h' tk', Fr _ _ h' _ → News _ _ h' nw' → Sub _ nw' → _ → _) => hret
    refine hret _ _ _ _ (by k_asm) (by k_asm) (by k_extra "subl") ⟨_, _, rfl, ?_⟩
    clear hret
    symm
    (try (rename (_ = (_ : Int) * _) => hz; subst hz))
    (try (rename (_ = cmpF _ _) => hz; subst hz))
    (try (rename (_ = signF _) => hz; subst hz))
    unfold sideF
    k_extra "mite")
end
section
theorem fillK_W18 : (hd.heap_39 = hd.heap_39) ∧ PySem.Challenge.rw_aj5009_01 = PySem.Challenge.rw_aj5009_01 := by
  k_fill
  exact ⟨rfl, rfl⟩
local macro_rules | `(tactic| k_extra "my call ref") => `(tactic| (k_here; (with_reducible show wpAny _ _ (call (Value.ref 132) [Value.ref _]) _ _ _); k_dflt (refine' Tl.use (c_neg _ _ _ _ ?h0 ?h1) ?k1 ?k2 ?k3 ?k4 ?k5 ?kK ?kd ?ku ?_; (case k2 => k_asm); (case k4 => k_asm); (case h0 => k_extra "prem"); (case h1 => k_extra "prem"); k_extra "tlargs2"); k_extra "tltup"))
local macro_rules | `(tactic| k_extra "my call ref") => `(tactic| (k_here; (with_reducible show wpAny _ _ (call (Value.ref 231) [Value.int _ _, Value.ref _, Value.ref _, Value.int _ _, Value.int _ _, Value.int _ _, Value.str _ _]) _ _ _); k_dflt (refine' Tl.use (c_done _ _ _ _ _ _ _ _ _ _ _ _ _ _ _ _ ?h0 ?h1 ?h2 ?h3 ?h4 ?h5 ?h6 ?h7 ?h8 ?h9 ?h10 ?h11 ?h12) ?k1 ?k2 ?k3 ?k4 ?k5 ?kK ?kd ?ku ?_; (case k2 => k_asm); (case k4 => k_asm); (case h0 => k_extra "prem"); (case h1 => k_extra "prem"); (case h2 => k_extra "prem"); (case h3 => k_extra "prem"); (case h4 => k_extra "prem"); (case h5 => k_extra "prem"); (case h6 => k_extra "prem"); (case h7 => k_extra "prem"); (case h8 => k_extra "prem"); (case h9 => k_extra "prem"); (case h10 => k_extra "prem"); (case h11 => k_extra "prem"); (case h12 => k_extra "prem"); k_extra "tlargs2"); k_extra "tltup"))
def turnedF (kind : Int) (s t : MP) (n q prec : Int) (r : Rnd) : MP :=
  if (([5, 6, 7] : List Int).any fun x => x == kind) = true then doneF kind s t (-n) q prec r
  else if kind < 2 then doneF kind (negF s) (negF t) n q prec r
  else doneF kind (negF s) t n q prec r
set_option maxRecDepth 100000 in
set_option maxHeartbeats 8000000 in
theorem c_turned (w : World) (news : Led) (kind : Int) (D D' : Addr) (s t : MP) (n q prec : Int) (r : Rnd) (t1 t2 t3 t4 t5 : Tok) (H : TupH w news D s) (H' : TupH w news D' t) (ws : Wf s) (wt : Wf t) (ss : Sm 400 s) (st : Sm 400 t)
    (hn : Builtin.Int.intBits n ≤ 60) (hq : Builtin.Int.intBits q ≤ 60) (q0 : q ≠ 0) (hp : 0 < prec) (hp' : prec ≤ 100) (k0 : 0 ≤ kind) (k8 : kind ≤ 8) (n3 : kind = 3 → t.man ≠ 0) (n6 : kind = 6 → t.man ≠ 0) :
    Tl w 245 [.int kind t1, .ref D, .ref D', .int n t2, .int q t3, .int prec t4, .str (rndS r) t5] 10 news (fun nw r' => ∃ D, r' = .ref D ∧ TupH w nw D (turnedF kind s t n q prec r)) := by
  have hz : Bnd [Str.ofString "kind", Str.ofString "s", Str.ofString "t", Str.ofString "n", Str.ofString "q", Str.ofString "prec", Str.ofString "rnd"] [some (.int kind t1), some (.ref D), some (.ref D'), some (.int n t2), some (.int q t3), some (.int prec t4), some (.str (rndS r) t5)] [(Str.ofString "kind", .int kind t1), (Str.ofString "s", .ref D), (Str.ofString "t", .ref D'), (Str.ofString "n", .int n t2), (Str.ofString "q", .int q t3), (Str.ofString "prec", .int prec t4), (Str.ofString "rnd", .str (rndS r) t5)] := by k_extra "bnd"
  have hn2 : Builtin.Int.intBits (-n) ≤ 60 := bits_negC hn
  have wa := neg_wf ws
  have wb := neg_wf wt
  have sa : Sm 400 (negF s) := neg_sm ss
  have sb : Sm 400 (negF t) := neg_sm st
  have nm : (negF t).man = t.man := by unfold negF; split <;> rfl
  have n3b : kind = 3 → (negF t).man ≠ 0 := by rw [nm]; exact n3
  have n6b : kind = 6 → (negF t).man ≠ 0 := by rw [nm]; exact n6
  clear nm
  k_extra "myenterF"
  k_extra "mysteps"
  all_goals (
    rename (∀ r nw' h' tk', Fr _ _ h' _ → News _ _ h' nw' → Sub _ nw' → _ → _) => hret
    refine hret _ _ _ _ (by k_asm) (by k_asm) (by k_extra "subl") ⟨_, rfl, ?_⟩
    clear hret
    refine TupH.as ?_ (by k_extra "tuph")
    unfold turnedF
    first
    | ((rename (List.any _ _ = false) => hz); refine (if_neg (by rw [hz]; decide)).trans ?_; k_extra "mite")
    | k_extra "mite")
end
section
theorem fillK_L6 : (hd.heap_39 = hd.heap_39) ∧ PySem.Challenge.rw_aj5009_01 = PySem.Challenge.rw_aj5009_01 := by
  k_fill
  exact ⟨rfl, rfl⟩
/-! plain law, part 6: values, signs, what mpf_cmp tells -/
def p2 (e : Int) : Rat := (2 : Rat) ^ e
theorem p2_pos (e : Int) : 0 < p2 e := Rat.zpow_pos (by decide)
theorem p2_add (a b : Int) : p2 (a + b) = p2 a * p2 b := Rat.zpow_add (by decide) a b
theorem p2_nat (n : Nat) : p2 (n : Int) = (((2 : Int) ^ n : Int) : Rat) := by
  unfold p2
  rw [Rat.zpow_natCast, Rat.intCast_pow]
  rfl
theorem p2_toNat {a : Int} (h : 0 ≤ a) : (((2 : Int) ^ a.toNat : Int) : Rat) = p2 a := by
  rw [← p2_nat, Int.toNat_of_nonneg h]
theorem p2_zero : p2 0 = 1 := Rat.zpow_zero 2
theorem p2_one : p2 1 = 2 := Rat.zpow_one 2
theorem p2_split {a b : Int} (c : Int) (h : b = a + c) : p2 b = p2 a * p2 c := by rw [h, p2_add]
theorem p2_shift {a b : Int} (n : Nat) (h : b = a + n) : p2 b = p2 a * (((2 : Int) ^ n : Int) : Rat) := by rw [h, p2_add, p2_nat]
theorem p2_half (a : Int) : p2 a = p2 (a - 1) * 2 := by rw [p2_split (a := a - 1) (b := a) 1 (by omega), p2_one]
theorem one_le_pow2 (n : Nat) : (1 : Int) ≤ 2 ^ n := by
  have : (0 : Int) < 2 ^ n := Int.pow_pos (by decide)
  omega
theorem p2_le {a b : Int} (h : a ≤ b) : p2 a ≤ p2 b := by
  rw [p2_shift (b - a).toNat (show b = a + ((b - a).toNat : Int) by omega)]
  have h1 : ((1 : Int) : Rat) ≤ (((2 : Int) ^ (b - a).toNat : Int) : Rat) := Rat.intCast_le_intCast.mpr (one_le_pow2 _)
  have h2 := Rat.mul_le_mul_of_nonneg_left h1 (Rat.le_of_lt (p2_pos a))
  rw [Rat.intCast_one, Rat.mul_one] at h2
  exact h2
def sgR (x : Rat) : Int := if 0 < x then 1 else if x < 0 then -1 else 0
def sgI (x : Int) : Int := if 0 < x then 1 else if x < 0 then -1 else 0
theorem sgR_pos {x : Rat} (h : 0 < x) : sgR x = 1 := if_pos h
theorem sgR_ng {x : Rat} (h : x < 0) : sgR x = -1 := by unfold sgR; rw [if_neg (by grind), if_pos h]
theorem sgR_z {x : Rat} (h : x = 0) : sgR x = 0 := by subst h; rfl
theorem sgR_scale {x c : Rat} (h : 0 < c) : sgR (x * c) = sgR x := by
  unfold sgR
  simp only [Rat.mul_pos_iff_of_pos_right h, Rat.mul_neg_iff_of_pos_right h]
theorem sgR_neg (x : Rat) : sgR (-x) = -sgR x := by
  unfold sgR
  rcases (by grind : x < 0 ∨ x = 0 ∨ 0 < x) with h | h | h
  · rw [if_pos (by grind), if_neg (by grind), if_pos h]; rfl
  · subst h; rfl
  · rw [if_neg (by grind), if_pos (by grind), if_pos h]
theorem sgR_mul (x y : Rat) : sgR (x * y) = sgR x * sgR y := by
  rcases (by grind : y < 0 ∨ y = 0 ∨ 0 < y) with h | h | h
  · have e : x * y = -(x * -y) := by grind
    rw [e, sgR_neg, sgR_scale (by grind), sgR_ng h]
    omega
  · subst h; rw [Rat.mul_zero]; show (0 : Int) = sgR x * 0; omega
  · rw [sgR_scale h, sgR_pos h, Int.mul_one]
theorem sgR_int (n : Int) : sgR (n : Rat) = sgI n := by
  unfold sgR sgI
  simp only [Rat.intCast_pos, Rat.intCast_neg_iff]
theorem sgR_gt {x : Rat} : 0 < sgR x ↔ 0 < x := by
  unfold sgR
  split
  · simpa
  · split <;> simp_all
theorem sgR_lt {x : Rat} : sgR x < 0 ↔ x < 0 := by
  unfold sgR
  split
  · rename_i h; constructor
    · intro k; omega
    · intro k; grind
  · split <;> simp_all
/-- what a number stands for -/
def V (q : MP) : Rat := (sv q.sg q.man : Int) * p2 q.ex
theorem sv_neg {s m : Int} (hs : B01 s) : sv (1 - s) m = -sv s m := by
  rcases hs.out with rfl | rfl <;> simp [sv]
theorem sv_mul {s a b : Int} : sv s (a * b) = sv s a * b := by
  unfold sv; split
  · rfl
  · rw [Int.neg_mul]
theorem sv_zero (s : Int) : sv s 0 = 0 := by unfold sv; split <;> rfl
theorem V_zero {q : MP} (h : q.man = 0) : V q = 0 := by unfold V; rw [h, sv_zero, Rat.intCast_zero, Rat.zero_mul]
theorem signF_V {q : MP} (h : Wf q) : signF q = sgR (V q) := by
  unfold signF
  by_cases hm : q.man = 0
  · rw [if_pos hm, V_zero hm]; rfl
  · rw [if_neg hm]
    have hp := h.pos hm
    unfold V
    rw [sgR_scale (p2_pos _), sgR_int]
    rcases h.1 with e | e <;> rw [e] <;> unfold sv sgI
    · simp [hp]
    · simp; omega
theorem V_eq_zero {q : MP} (h : Wf q) (e : V q = 0) : q.man = 0 := by
  have h1 := signF_V h
  rw [e] at h1
  unfold signF at h1
  have : sgR 0 = 0 := rfl
  rw [this] at h1
  by_cases hm : q.man = 0
  · exact hm
  · rw [if_neg hm] at h1
    split at h1 <;> omega
theorem V_bound {q : MP} (h : Wf q) (hm : q.man ≠ 0) : p2 (q.bc + q.ex - 1) ≤ (q.man : Rat) * p2 q.ex ∧ (q.man : Rat) * p2 q.ex < p2 (q.bc + q.ex) := by
  have hp := h.pos hm
  obtain ⟨a, b⟩ := bits_bound hp
  have h1 := (bits_pos hp).2.2
  have h2 := h.2.2.1
  have e1 : p2 (q.bc + q.ex - 1) = (((2 : Int) ^ (Builtin.Int.intBits q.man - 1) : Int) : Rat) * p2 q.ex := by
    rw [← p2_nat, ← p2_add]; congr 1; omega
  have e2 : p2 (q.bc + q.ex) = (((2 : Int) ^ (Builtin.Int.intBits q.man) : Int) : Rat) * p2 q.ex := by
    rw [← p2_nat, ← p2_add]; congr 1; omega
  rw [e1, e2]
  exact ⟨Rat.mul_le_mul_of_nonneg_right (Rat.intCast_le_intCast.mpr a) (Rat.le_of_lt (p2_pos _)), Rat.mul_lt_mul_of_pos_right (Rat.intCast_lt_intCast.mpr b) (p2_pos _)⟩
theorem V_sv (s : Int) (m e : Int) : ((sv s m : Int) : Rat) * p2 e = if s = 0 then (m : Rat) * p2 e else -((m : Rat) * p2 e) := by
  unfold sv
  split
  · rfl
  · rw [Rat.intCast_neg, Rat.neg_mul]
theorem odd_eq {a b : Int} {j k : Nat} (ha : a % 2 = 1) (hb : b % 2 = 1) (h : a * 2 ^ j = b * 2 ^ k) : a = b ∧ j = k := by
  rcases Nat.lt_trichotomy j k with c | c | c
  · exfalso
    obtain ⟨d, rfl⟩ : ∃ d, k = j + 1 + d := ⟨k - j - 1, by omega⟩
    have e : b * 2 ^ (j + 1 + d) = 2 * (b * 2 ^ d) * 2 ^ j := by
      rw [Int.pow_add, Int.pow_succ]
      simp only [Int.mul_comm, Int.mul_left_comm, Int.mul_assoc]
    rw [e] at h
    have := Int.eq_of_mul_eq_mul_right (Int.ne_of_gt (Int.pow_pos (by decide))) h
    omega
  · subst c
    exact ⟨Int.eq_of_mul_eq_mul_right (Int.ne_of_gt (Int.pow_pos (by decide))) h, rfl⟩
  · exfalso
    obtain ⟨d, rfl⟩ : ∃ d, j = k + 1 + d := ⟨j - k - 1, by omega⟩
    have e : a * 2 ^ (k + 1 + d) = 2 * (a * 2 ^ d) * 2 ^ k := by
      rw [Int.pow_add, Int.pow_succ]
      simp only [Int.mul_comm, Int.mul_left_comm, Int.mul_assoc]
    rw [e] at h
    have := Int.eq_of_mul_eq_mul_right (Int.ne_of_gt (Int.pow_pos (by decide))) h
    omega
end
section
theorem fillK_L7 : (hd.heap_39 = hd.heap_39) ∧ PySem.Challenge.rw_aj5009_01 = PySem.Challenge.rw_aj5009_01 := by
  k_fill
  exact ⟨rfl, rfl⟩
/-! plain law, part 7: exact sums and products; mpf_cmp -/
theorem norm_V {s m e b p : Int} {r : Rnd} (hm : 0 < m) (hb : b = (Builtin.Int.intBits m : Int)) (h : b ≤ p) : V (normF s m e b p r) = (sv s m : Int) * p2 e := by
  obtain ⟨q, k, h1, h2, h3, h4⟩ := norm_exact (s := s) (e := e) (r := r) hm hb h
  rw [h4]
  show ((sv s q : Int) : Rat) * p2 (e + k) = _
  rw [h1, sv_mul, p2_add, p2_nat, Rat.intCast_mul]
  grind
theorem V_fzero : V fzero = 0 := V_zero rfl
theorem addN_V0 {S e : Int} {r : Rnd} : V (addN S e 0 r) = (S : Rat) * p2 e := by
  unfold addN
  rw [orP_zero, orP_zero]
  by_cases h : 0 ≤ S
  · rw [if_pos h]
    by_cases h0 : S = 0
    · subst h0
      rw [normF_zero, V_fzero, Rat.intCast_zero, Rat.zero_mul]
    · rw [norm_V (by omega) rfl (Int.le_refl _)]; rfl
  · rw [if_neg h, norm_V (by omega) rfl (Int.le_refl _)]
    show ((-(-S) : Int) : Rat) * p2 e = _
    rw [Int.neg_neg]
theorem addN_sg {S e p : Int} {r : Rnd} (hp : 1 ≤ p) (h : S ≠ 0) : (addN S e p r).sg = if 0 < S then 0 else 1 := by
  unfold addN
  rw [orP_pos _ (by omega), orP_pos _ (by omega)]
  by_cases h0 : 0 ≤ S
  · rw [if_pos h0, if_pos (by omega)]
    exact (norm_wf B01.zero (by omega) rfl hp).2.2.2.2.2
  · rw [if_neg h0, if_neg (by omega)]
    exact (norm_wf B01.one (by omega) rfl hp).2.2.2.2.2
theorem sum_up {sa ts ma mb ea eb : Int} (h : 0 ≤ ea - eb) : ((sv sa (ma * 2 ^ (ea - eb).toNat) + sv ts mb : Int) : Rat) * p2 eb = (sv sa ma : Int) * p2 ea + (sv ts mb : Int) * p2 eb := by
  have e := p2_shift (ea - eb).toNat (show ea = eb + ((ea - eb).toNat : Int) by omega)
  rw [Rat.intCast_add, sv_mul, Rat.intCast_mul, e]
  grind
theorem sum_dn {sa ts ma mb ea eb : Int} (h : ea - eb ≤ 0) : ((sv sa ma + sv ts (mb * 2 ^ (-(ea - eb)).toNat) : Int) : Rat) * p2 ea = (sv sa ma : Int) * p2 ea + (sv ts mb : Int) * p2 eb := by
  have e := p2_shift (-(ea - eb)).toNat (show eb = ea + ((-(ea - eb)).toNat : Int) by omega)
  rw [Rat.intCast_add, sv_mul, Rat.intCast_mul, e]
  grind
theorem sum_eq {sa ts ma mb ea eb : Int} (h : ea = eb) : ((sv sa ma + sv ts mb : Int) : Rat) * p2 eb = (sv sa ma : Int) * p2 ea + (sv ts mb : Int) * p2 eb := by
  rw [Rat.intCast_add, h]
  grind
theorem add_V {a b : MP} {ts : Int} {r : Rnd} (ha : Wf a) (hb : Wf b) : V (addF a b ts 0 r) = V a + (sv ts b.man : Int) * p2 b.ex := by
  unfold addF
  by_cases na : a.man = 0
  · rw [if_pos na, V_zero na]
    by_cases nb : b.man = 0
    · rw [if_pos nb, nb, sv_zero, V_fzero, Rat.intCast_zero]; grind
    · rw [if_neg nb, orP_zero, norm_V (hb.pos nb) hb.2.2.1 (Int.le_refl _)]; grind
  · rw [if_neg na]
    by_cases nb : b.man = 0
    · rw [if_pos nb, nb, sv_zero, orP_zero, norm_V (ha.pos na) ha.2.2.1 (Int.le_refl _), Rat.intCast_zero]
      unfold V; grind
    · rw [if_neg nb]
      by_cases c1 : 0 < a.ex - b.ex
      · rw [if_pos c1, if_neg (by simp), addN_V0, sum_up (Int.le_of_lt c1)]; rfl
      · rw [if_neg c1]
        by_cases c2 : a.ex - b.ex < 0
        · rw [if_pos c2, if_neg (by simp), addN_V0, sum_dn (Int.le_of_lt c2)]; rfl
        · rw [if_neg c2, addN_V0, sum_eq (show a.ex = b.ex by omega)]; rfl
theorem xor_zero {a : Int} (h : B01 a) : Builtin.bitXor a 0 = a := by rcases h.out with rfl | rfl <;> decide
theorem xor_one {a : Int} (h : B01 a) : Builtin.bitXor a 1 = 1 - a := by rcases h.out with rfl | rfl <;> decide
theorem add_V0 {a b : MP} {r : Rnd} (ha : Wf a) (hb : Wf b) : V (addF a b (Builtin.bitXor b.sg 0) 0 r) = V a + V b := by
  rw [add_V ha hb, xor_zero hb.b01]; rfl
theorem sub_V0 {a b : MP} {r : Rnd} (ha : Wf a) (hb : Wf b) : V (addF a b (Builtin.bitXor b.sg 1) 0 r) = V a - V b := by
  rw [add_V ha hb, xor_one hb.b01, sv_neg hb.b01, Rat.intCast_neg]
  unfold V; grind
theorem sv_xor {s t a b : Int} (hs : B01 s) (ht : B01 t) : sv (Builtin.bitXor s t) (a * b) = sv s a * sv t b := by
  rcases hs.out with rfl | rfl <;> rcases ht.out with rfl | rfl
  · rw [show Builtin.bitXor 0 0 = 0 by decide]; simp [sv]
  · rw [show Builtin.bitXor 0 1 = 1 by decide]; simp [sv, Int.mul_neg]
  · rw [show Builtin.bitXor 1 0 = 1 by decide]; simp [sv, Int.neg_mul]
  · rw [show Builtin.bitXor 1 1 = 0 by decide]; simp [sv, Int.neg_mul_neg]
theorem mul_V0 {a b : MP} {r : Rnd} (ha : Wf a) (hb : Wf b) : V (mulF a b 0 r) = V a * V b := by
  unfold mulF
  by_cases h : a.man * b.man = 0
  · rw [if_pos h, V_fzero]
    rcases Int.mul_eq_zero.mp h with e | e
    · rw [V_zero e, Rat.zero_mul]
    · rw [V_zero e, Rat.mul_zero]
  · rw [if_neg h, if_pos rfl]
    show ((sv (Builtin.bitXor a.sg b.sg) (a.man * b.man) : Int) : Rat) * p2 (a.ex + b.ex) = _
    rw [sv_xor ha.b01 hb.b01, Rat.intCast_mul, p2_add]
    unfold V
    grind
theorem neg_V {a : MP} (ha : Wf a) : V (negF a) = -V a := by
  unfold negF
  by_cases h : a.man = 0
  · rw [if_pos h, V_zero h]; rfl
  · rw [if_neg h]
    show ((sv (1 - a.sg) a.man : Int) : Rat) * p2 a.ex = _
    rw [sv_neg ha.b01, Rat.intCast_neg]
    unfold V; grind
theorem shift_V {a : MP} {n : Int} : V (shiftF a n) = V a * p2 n := by
  unfold shiftF
  by_cases h : a.man = 0
  · rw [if_pos h, V_zero h, Rat.zero_mul]
  · rw [if_neg h]
    show ((sv a.sg a.man : Int) : Rat) * p2 (a.ex + n) = _
    rw [p2_add]; unfold V; grind
theorem abs_V {a : MP} : V (absF a) = (a.man : Rat) * p2 a.ex := by
  unfold absF
  by_cases h : a.sg = 0
  · rw [if_pos h]; unfold V sv; rw [if_pos h]
  · rw [if_neg h]; rfl
theorem int_V (n : Int) : V (fme0 n 0) = (n : Rat) := by
  have key : ∀ s m : Int, 0 < m → V (fme0N s m 0) = (sv s m : Int) := by
    intro s m hm
    obtain ⟨q, k, h1, h2, h3, h4⟩ := fme0N_spec (s := s) (e := 0) hm
    rw [h4]
    show ((sv s q : Int) : Rat) * p2 (0 + k) = _
    rw [h1, sv_mul, Int.zero_add, p2_nat, Rat.intCast_mul]
  unfold fme0
  by_cases h : n < 0
  · rw [if_pos h, key _ _ (by omega)]; show ((-(-n) : Int) : Rat) = _; rw [Int.neg_neg]
  · rw [if_neg h]
    by_cases h0 : n = 0
    · subst h0; exact V_fzero
    · rw [key _ _ (by omega)]; rfl
theorem V_inj {a b : MP} (ha : Wf a) (hb : Wf b) (h : V a = V b) : a = b := by
  by_cases na : a.man = 0
  · have : V b = 0 := by rw [← h, V_zero na]
    rw [ha.zero na, hb.zero (V_eq_zero hb this)]
  by_cases nb : b.man = 0
  · have : V a = 0 := by rw [h, V_zero nb]
    exact absurd (V_eq_zero ha this) na
  have hsg : a.sg = b.sg := by
    have h1 := signF_V ha
    rw [h, ← signF_V hb] at h1
    unfold signF at h1
    rw [if_neg na, if_neg nb] at h1
    rcases ha.1 with e | e <;> rcases hb.1 with e' | e' <;> rw [e, e'] at h1 ⊢ <;> simp at h1
  have hv : (a.man : Rat) * p2 a.ex = (b.man : Rat) * p2 b.ex := by
    unfold V at h
    rw [V_sv, V_sv, hsg] at h
    split at h
    · exact h
    · grind
  have oa := ha.2.2.2.2.resolve_left na
  have ob := hb.2.2.2.2.resolve_left nb
  have key : ∃ j k : Nat, a.man * 2 ^ j = b.man * 2 ^ k ∧ (j = k → a.ex = b.ex) := by
    rcases Int.le_total a.ex b.ex with c | c
    · refine ⟨0, (b.ex - a.ex).toNat, ?_, by omega⟩
      rw [p2_shift (b.ex - a.ex).toNat (show b.ex = a.ex + ((b.ex - a.ex).toNat : Int) by omega)] at hv
      have e : (a.man : Rat) * p2 a.ex = ((b.man * 2 ^ (b.ex - a.ex).toNat : Int) : Rat) * p2 a.ex := by rw [Rat.intCast_mul]; grind
      have hp := p2_pos a.ex
      rw [Int.pow_zero, Int.mul_one]
      exact Rat.intCast_inj.mp (by
        have := congrArg (· * (p2 a.ex)⁻¹) e
        simp only [Rat.mul_assoc, Rat.mul_inv_cancel _ (Rat.ne_of_gt hp), Rat.mul_one] at this
        exact this)
    · refine ⟨(a.ex - b.ex).toNat, 0, ?_, by omega⟩
      rw [p2_shift (a.ex - b.ex).toNat (show a.ex = b.ex + ((a.ex - b.ex).toNat : Int) by omega)] at hv
      have e : ((a.man * 2 ^ (a.ex - b.ex).toNat : Int) : Rat) * p2 b.ex = (b.man : Rat) * p2 b.ex := by rw [Rat.intCast_mul]; grind
      have hp := p2_pos b.ex
      rw [Int.pow_zero, Int.mul_one]
      exact Rat.intCast_inj.mp (by
        have := congrArg (· * (p2 b.ex)⁻¹) e
        simp only [Rat.mul_assoc, Rat.mul_inv_cancel _ (Rat.ne_of_gt hp), Rat.mul_one] at this
        exact this)
  obtain ⟨j, k, e, f⟩ := key
  obtain ⟨e1, e2⟩ := odd_eq oa ob e
  refine MP.eq_of hsg e1 (f e2) ?_
  rw [ha.2.2.1, hb.2.2.1, e1]
/-- mpf_cmp tells the sign of the difference -/
theorem cmp_spec {a b : MP} (ha : Wf a) (hb : Wf b) : cmpF a b = sgR (V a - V b) := by
  unfold cmpF
  by_cases na : a.man = 0
  · rw [if_pos na, V_zero na, signF_V hb, ← sgR_neg]; congr 1; grind
  rw [if_neg na]
  by_cases nb : b.man = 0
  · rw [if_pos nb, V_zero nb, signF_V ha]; congr 1; grind
  rw [if_neg nb]
  have pa := ha.pos na
  have pb := hb.pos nb
  have va : 0 < (a.man : Rat) * p2 a.ex := Rat.mul_pos (Rat.intCast_pos.mpr pa) (p2_pos _)
  have vb : 0 < (b.man : Rat) * p2 b.ex := Rat.mul_pos (Rat.intCast_pos.mpr pb) (p2_pos _)
  have ea : V a = if a.sg = 0 then (a.man : Rat) * p2 a.ex else -((a.man : Rat) * p2 a.ex) := V_sv _ _ _
  have eb : V b = if b.sg = 0 then (b.man : Rat) * p2 b.ex else -((b.man : Rat) * p2 b.ex) := V_sv _ _ _
  by_cases c1 : a.sg ≠ b.sg
  · rw [if_pos c1]
    by_cases c2 : a.sg = 0
    · rw [if_pos c2] at ea ⊢
      rw [if_neg (by omega)] at eb
      rw [sgR_pos (by grind)]
    · rw [if_neg c2] at ea ⊢
      rw [if_pos (by have := ha.1; have := hb.1; omega)] at eb
      rw [sgR_ng (by grind)]
  rw [if_neg c1]
  have hsg : a.sg = b.sg := by omega
  by_cases c2 : a.ex = b.ex
  · rw [if_pos c2]
    have ed : V a - V b = ((sv a.sg a.man - sv b.sg b.man : Int) : Rat) * p2 a.ex := by
      unfold V; rw [Rat.intCast_sub, c2]; grind
    rw [ed, sgR_scale (p2_pos _), sgR_int]
    unfold sgI sv
    rw [← hsg]
    repeat' split
    all_goals omega
  rw [if_neg c2]
  obtain ⟨la, ua⟩ := V_bound ha na
  obtain ⟨lb, ub⟩ := V_bound hb nb
  have hS : ∀ x : MP, V x = V a - V b → (Wf x) → x.man ≠ 0 := by
    intro x hx wx h0
    rw [V_zero h0] at hx
    exact c2 (by rw [V_inj ha hb (by grind)])
  have last : a.bc + a.ex = b.bc + b.ex → mpAt (addF a b (Builtin.bitXor b.sg 1) 5 .f) 0 = if 0 < V a - V b then 0 else 1 := by
    intro he
    have h0 := sub_V0 (r := .f) ha hb
    have hval : ∀ (S e : Int), V (addN S e 0 .f) = V a - V b → mpAt (addN S e 5 .f) 0 = if 0 < V a - V b then 0 else 1 := by
      intro S e hv
      rw [addN_V0] at hv
      have hne : S ≠ 0 := by
        intro h; subst h
        rw [Rat.intCast_zero, Rat.zero_mul] at hv
        exact c2 (by rw [V_inj ha hb (by grind)])
      show (addN S e 5 .f).sg = _
      rw [addN_sg (by decide) hne, ← hv]
      simp only [Rat.mul_pos_iff_of_pos_right (p2_pos e), Rat.intCast_pos]
    unfold addF at h0 ⊢
    rw [if_neg na, if_neg nb] at h0 ⊢
    by_cases d1 : 0 < a.ex - b.ex
    · rw [if_pos d1, if_neg (by simp)] at h0
      rw [if_pos d1, if_neg (by omega)]
      exact hval _ _ h0
    · rw [if_neg d1, if_pos (by omega), if_neg (by simp)] at h0
      rw [if_neg d1, if_pos (by omega), if_neg (by omega)]
      exact hval _ _ h0
  have hne : V a - V b ≠ 0 := fun h => c2 (by rw [V_inj ha hb (by grind)])
  have less : a.bc + a.ex < b.bc + b.ex → (a.man : Rat) * p2 a.ex < (b.man : Rat) * p2 b.ex := by
    intro h
    have := p2_le (show a.bc + a.ex ≤ b.bc + b.ex - 1 by omega)
    grind
  have more : b.bc + b.ex < a.bc + a.ex → (b.man : Rat) * p2 b.ex < (a.man : Rat) * p2 a.ex := by
    intro h
    have := p2_le (show b.bc + b.ex ≤ a.bc + a.ex - 1 by omega)
    grind
  rw [← hsg] at eb
  have fin : (if mpAt (addF a b (Builtin.bitXor b.sg 1) 5 .f) 0 = 0 then (1 : Int) else -1) = sgR (V a - V b) ∨ a.bc + a.ex ≠ b.bc + b.ex := by
    by_cases he : a.bc + a.ex = b.bc + b.ex
    · left
      rw [last he]
      by_cases hp : 0 < V a - V b
      · rw [if_pos hp, if_pos rfl, sgR_pos hp]
      · rw [if_neg hp, if_neg (by decide), sgR_ng (by grind)]
    · exact .inr he
  by_cases c3 : a.sg = 0
  · rw [if_pos c3] at ea eb ⊢
    by_cases d1 : a.bc + a.ex < b.bc + b.ex
    · have := less d1
      rw [if_pos d1, sgR_ng (by grind)]
    · by_cases d2 : b.bc + b.ex < a.bc + a.ex
      · have := more d2
        rw [if_neg d1, if_pos d2, sgR_pos (by grind)]
      · rw [if_neg d1, if_neg d2]
        exact fin.resolve_right (by omega)
  · rw [if_neg c3] at ea eb ⊢
    by_cases d1 : a.bc + a.ex < b.bc + b.ex
    · have := less d1
      rw [if_pos d1, sgR_pos (by grind)]
    · by_cases d2 : b.bc + b.ex < a.bc + a.ex
      · have := more d2
        rw [if_neg d1, if_pos d2, sgR_ng (by grind)]
      · rw [if_neg d1, if_neg d2]
        exact fin.resolve_right (by omega)
end
section
theorem fillK_L8 : (hd.heap_39 = hd.heap_39) ∧ PySem.Challenge.rw_aj5009_01 = PySem.Challenge.rw_aj5009_01 := by
  k_fill
  exact ⟨rfl, rfl⟩
/-! plain law, part 8: what the law asks, shown of any five roundings of one number -/
def midF (lo hi : MP) : MP := shiftF (addF lo hi (Builtin.bitXor hi.sg 0) 0 .d) (-1)
def gapF (lo hi : MP) : MP := addF hi lo (Builtin.bitXor lo.sg 1) 0 .d
structure Apart (lo hi ne : MP) (prec mid : Int) : Prop where
  g1 : (gapF lo hi).man = 1
  g2 : 0 < signF hi → lo.ex + lo.bc - prec = (gapF lo hi).ex
  g2' : ¬ 0 < signF hi → hi.ex + hi.bc - prec = (gapF lo hi).ex
  g3 : (gapF lo hi).ex ≤ hi.ex
  g4 : (gapF lo hi).ex ≤ lo.ex
  m1 : 0 < mid → ne = hi
  m2 : mid < 0 → ne = lo
  m3 : mid = 0 → (ne = lo ∨ ne = hi) ∧ (gapF lo hi).ex < ne.ex
structure Parted (D : Rnd → MP) (S : MP → Int) (prec : Int) : Prop where
  le : cmpF (D .f) (D .c) ≤ 0
  lo : 0 < S (D .f)
  hi : S (D .c) < 0
  ap : Apart (D .f) (D .c) (D .n) prec (S (midF (D .f) (D .c)))
  du : (0 < signF (D .c) → D .d = D .f ∧ D .u = D .c) ∧ (¬ 0 < signF (D .c) → D .d = D .c ∧ D .u = D .f)
structure LawOK (D : Rnd → MP) (S : MP → Int) (prec : Int) : Prop where
  same : D .f = D .c → D .n = D .f ∧ D .d = D .f ∧ D .u = D .f ∧ S (D .f) = 0
  diff : D .f ≠ D .c → Parted D S prec
theorem law_zero {D : Rnd → MP} {S : MP → Int} {prec : Int} (h : ∀ r, D r = fzero) (hS : S fzero = 0) : LawOK D S prec :=
  ⟨fun _ => by simp only [h]; exact ⟨trivial, trivial, trivial, hS⟩, fun k => absurd (by rw [h, h]) k⟩
/-- a size, stripped -/
theorem strip_V {sg c g p : Int} (hs : B01 sg) (hc : 0 < c) (hp : p = (Builtin.Int.intBits c : Int) ∨ ∃ j : Nat, c = 2 ^ j) :
    Wf (stripF sg c g p) ∧ V (stripF sg c g p) = (sv sg c : Int) * p2 g ∧ (stripF sg c g p).sg = sg ∧ 0 < (stripF sg c g p).man ∧ g ≤ (stripF sg c g p).ex ∧
    (c % 2 = 0 → g < (stripF sg c g p).ex) ∧ (stripF sg c g p).ex + (stripF sg c g p).bc = g + (Builtin.Int.intBits c : Int) := by
  obtain ⟨q, k, h1, h2, h3, h4⟩ := strip_spec (sign := sg) (exp := g) hc hp
  rw [h4]
  obtain ⟨c1, c2⟩ := bits_le_of (k := k) h3
  rw [← h1] at c1
  refine ⟨Wf.mk' hs h3 h2, ?_, rfl, h3, by show g ≤ g + (k : Int); omega, ?_, by show g + (k : Int) + (Builtin.Int.intBits q : Int) = _; omega⟩
  · show ((sv sg q : Int) : Rat) * p2 (g + k) = _
    rw [h1, sv_mul, p2_add, p2_nat, Rat.intCast_mul]
    grind
  · intro he
    show g < g + (k : Int)
    cases k with
    | zero => rw [Int.pow_zero, Int.mul_one] at h1; omega
    | succ k => omega
theorem V_pow {x : MP} {g : Int} (hx : Wf x) (h : V x = p2 g) : x.man = 1 ∧ x.ex = g := by
  have w : Wf ⟨0, 1, g, (Builtin.Int.intBits 1 : Int)⟩ := Wf.mk' B01.zero (by decide) (by decide)
  have e : V ⟨0, 1, g, (Builtin.Int.intBits 1 : Int)⟩ = p2 g := by
    show (((1 : Int)) : Rat) * p2 g = p2 g
    rw [Rat.intCast_one, Rat.one_mul]
  have := V_inj hx w (by rw [h, e])
  rw [this]
  exact ⟨rfl, rfl⟩
theorem sgR_pos_iff {x : Rat} : sgR x = 0 ↔ x = 0 := by
  unfold sgR
  rcases (by grind : x < 0 ∨ x = 0 ∨ 0 < x) with h | h | h
  · rw [if_neg (by grind), if_pos h]; constructor
    · intro k; omega
    · intro k; grind
  · subst h; simp
  · rw [if_pos h]; constructor
    · intro k; omega
    · intro k; grind
theorem add0_wf {a b : MP} {ts : Int} (ha : Wf a) (hb : Wf b) (ht : B01 ts) : Wf (addF a b ts 0 .d) := by
  obtain ⟨N, hN⟩ : ∃ N : Nat, Sm N a ∧ Sm N b := by
    refine ⟨a.bc.toNat + a.ex.natAbs + b.bc.toNat + b.ex.natAbs, ⟨by omega, by omega, by omega⟩, ⟨by omega, by omega, by omega⟩⟩
  exact (add_wf (prec := 0) (r := .d) ha hb ht (by decide) (by omega) hN.1 hN.2).1
theorem scale_int {g G : Int} (h : G ≤ g) (c : Int) : (c : Rat) * p2 g = ((c * 2 ^ (g - G).toNat : Int) : Rat) * p2 G := by
  rw [p2_shift (g - G).toNat (show g = G + ((g - G).toNat : Int) by omega), Rat.intCast_mul]
  grind
theorem sv_pos {c : Int} {sg : Int} (h : sg = 0) : sv sg c = c := by unfold sv; rw [if_pos h]
theorem grid_nn {sg c : Int} {n : Nat} (hc : 0 ≤ c) : sg = 0 → 0 ≤ sv sg c * 2 ^ n := by
  intro h
  rw [sv_pos h]
  exact Int.mul_nonneg hc (Int.le_of_lt (Int.pow_pos (by decide)))
theorem mid_alg (a q P c r : Rat) : a * (q * P * 2) + r * (q * 2) - (a * 2 + c) * (q * P) = (r * 2 - c * P) * q := by grind
/-- the heart: five roundings of a size man * 2 ^ e that stands for what is asked on the grid of 2 ^ G -/
theorem law_ok {D : Rnd → MP} {S : MP → Int} {sg M E prec B G : Int} (hs : B01 sg) (hM : 0 < M) (hp : 1 ≤ prec) (hB : B = (Builtin.Int.intBits M : Int))
    (hD : ∀ r, D r = normF sg M E B prec r) (hG1 : B ≤ prec → G ≤ E) (hG2 : prec < B → G ≤ E + (B - prec) - 1)
    (hS : ∀ (m : MP) (j : Int), Wf m → V m = (j : Rat) * p2 G → (sg = 0 → 0 ≤ j) → S m = sgR ((sv sg M : Int) * p2 E - V m)) : LawOK D S prec := by
  by_cases h : B ≤ prec
  · have hT : ∀ r, D r = stripF sg M E B := by
      intro r
      rw [hD]
      unfold normF
      rw [if_neg (by omega), if_neg (by omega)]
    obtain ⟨t1, t2, t3, t4, t5, t6, t7⟩ := strip_V (g := E) hs hM (.inl hB)
    refine ⟨fun _ => ?_, fun k => absurd (by rw [hT, hT]) k⟩
    simp only [hT]
    refine ⟨trivial, trivial, trivial, ?_⟩
    rw [hS _ (sv sg M * 2 ^ (E - G).toNat) t1 (by rw [t2]; exact scale_int (hG1 h) _) (grid_nn (Int.le_of_lt hM)), t2]
    exact sgR_z (by grind)
  · obtain ⟨N, hN⟩ : ∃ N : Nat, B - prec = (N : Int) := ⟨(B - prec).toNat, by omega⟩
    obtain ⟨P, hP⟩ : ∃ P : Nat, prec = (P : Int) := ⟨prec.toNat, by omega⟩
    have hN1 : 1 ≤ N := by omega
    have hP1 : 1 ≤ P := by omega
    obtain ⟨a1, a2⟩ := quot_bits hM (show Builtin.Int.intBits M = N + P by omega) hP1
    have hp2 : (0 : Int) < 2 ^ N := Int.pow_pos (by decide)
    have hdm := Int.emod_add_mul_ediv M (2 ^ N)
    have hR0 := Int.emod_nonneg M (Int.ne_of_gt hp2)
    have hR1 := Int.emod_lt_of_pos M hp2
    have hA0 : 0 < M / 2 ^ N := by
      have : (0 : Int) < 2 ^ (P - 1) := Int.pow_pos (by decide)
      omega
    have hT : ∀ r, D r = stripF sg (cutM sg (M / 2 ^ N) (M % 2 ^ N) (2 ^ N) r) (E + N) prec := by
      intro r
      rw [hD]
      unfold normF
      rw [if_neg (by omega), if_pos (by omega), hN, cut_spec hM hN1 r]
    have hpg : p2 (E + N) = p2 E * ((2 ^ N : Int) : Rat) := p2_shift N rfl
    have hgp : 0 < p2 (E + N) := p2_pos _
    have hep : 0 < p2 E := p2_pos _
    generalize hA : M / 2 ^ N = A at *
    generalize hR : M % 2 ^ N = R at *
    obtain ⟨A1, A2, A3, A4, A5, A6, A7⟩ := strip_V (g := E + N) (p := prec) hs hA0 (.inl (by rw [bits_of_range hP1 a1 a2, hP]))
    obtain ⟨B1, B2, B3, B4, B5, B6, B7⟩ := strip_V (c := A + 1) (g := E + N) (p := prec) hs (by omega) (by
      by_cases hx : A + 1 = 2 ^ P
      · exact .inr ⟨P, hx⟩
      · exact .inl (by rw [bits_of_range hP1 (by omega) (by omega), hP]))
    rw [bits_of_range hP1 a1 a2, ← hP] at A7
    generalize htA : stripF sg A (E + N) prec = tA at *
    generalize htB : stripF sg (A + 1) (E + N) prec = tB at *
    have hMv : ((sv sg M : Int) : Rat) * p2 E = (sv sg A : Int) * p2 (E + N) + (sv sg R : Int) * p2 E := by
      rw [hpg]
      have : sv sg M = sv sg A * 2 ^ N + sv sg R := by
        rw [← hdm]; unfold sv; split
        · rw [Int.mul_comm]; omega
        · rw [Int.neg_mul, Int.mul_comm A]; omega
      rw [this, Rat.intCast_add, Rat.intCast_mul]
      grind
    have hGg : G ≤ E + N - 1 := by have := hG2 (by omega); omega
    have SA : S tA = sgR ((sv sg R : Int) * p2 E) := by
      rw [hS _ (sv sg A * 2 ^ (E + N - G).toNat) A1 (by rw [A2]; exact scale_int (by omega) _) (grid_nn (Int.le_of_lt hA0)), A2, hMv]
      congr 1; grind
    by_cases hR' : R = 0
    · have hT' : ∀ r, D r = tA := by
        intro r
        rw [hT, ← htA]
        congr 1
        have hlt : (0 : Int) < 2 ^ N := hp2
        cases r <;> dsimp only [cutM] <;> (repeat' split) <;> omega
      refine ⟨fun _ => ?_, fun k => absurd (by rw [hT', hT']) k⟩
      simp only [hT']
      refine ⟨trivial, trivial, trivial, ?_⟩
      rw [SA, hR', sv_zero]
      exact sgR_z (by rw [Rat.intCast_zero, Rat.zero_mul])
    · have hRp : 0 < R := by omega
      have vs1 : sg = 0 → V tB = V tA + p2 (E + N) := by
        intro e; rw [A2, B2, sv_pos e, sv_pos e, Rat.intCast_add, Rat.intCast_one]; grind
      have vs2 : sg ≠ 0 → V tA = V tB + p2 (E + N) := by
        intro e; rw [A2, B2]; unfold sv; rw [if_neg e, if_neg e, Rat.intCast_neg, Rat.intCast_neg, Rat.intCast_add, Rat.intCast_one]; grind
      have SB : S tB = sgR (((sv sg (R - 2 ^ N) : Int) : Rat) * p2 E) := by
        rw [hS _ (sv sg (A + 1) * 2 ^ (E + N - G).toNat) B1 (by rw [B2]; exact scale_int (by omega) _) (grid_nn (by omega)), B2, hMv, hpg]
        congr 1
        have e1 : sv sg (A + 1) = sv sg A + sv sg 1 := by unfold sv; split <;> omega
        have e2 : sv sg (R - 2 ^ N) = sv sg R - sv sg 1 * 2 ^ N := by
          rw [← sv_mul (s := sg) (a := 1), Int.one_mul]; unfold sv; split <;> omega
        rw [e1, e2, Rat.intCast_add, Rat.intCast_sub, Rat.intCast_mul]
        grind
      have SA' : S tA = if sg = 0 then 1 else -1 := by
        rw [SA, sgR_scale hep, sgR_int]; unfold sv sgI; repeat' split
        all_goals omega
      have SB' : S tB = if sg = 0 then -1 else 1 := by
        rw [SB, sgR_scale hep, sgR_int]; unfold sv sgI; repeat' split
        all_goals omega
      have gapw : ∀ a b : MP, Wf a → Wf b → V b = V a + p2 (E + N) → (gapF a b).man = 1 ∧ (gapF a b).ex = E + N := by
        intro a b wa wb hv
        refine V_pow (add0_wf wb wa (wa.b01.xor B01.one)) ?_
        show V (addF b a _ 0 .d) = _
        rw [sub_V0 wb wa, hv]; grind
      have midv : ∀ a b : MP, Wf a → Wf b → V a + V b = (sv sg (2 * A + 1) : Int) * p2 (E + N) → S (midF a b) = sgI (sv sg (2 * R - 2 ^ N)) := by
        intro a b wa wb hv
        have wm : Wf (midF a b) := shift_wf (add0_wf wa wb (wb.b01.xor B01.zero))
        have vm : V (midF a b) = ((sv sg (2 * A + 1) : Int) : Rat) * p2 (E + N - 1) := by
          show V (shiftF _ _) = _
          rw [shift_V, add_V0 wa wb, hv]
          have : p2 (E + N - 1) = p2 (E + N) * p2 (-1) := p2_split _ (by omega)
          rw [this]; grind
        rw [hS _ (sv sg (2 * A + 1) * 2 ^ (E + N - 1 - G).toNat) wm (by rw [vm]; exact scale_int hGg _) (grid_nn (by omega)), vm, hMv]
        have h1 : p2 (E + N) = p2 (E + N - 1) * 2 := p2_half _
        have h2 : p2 E = p2 (E - 1) * 2 := p2_half _
        have h3 : p2 (E + N - 1) = p2 (E - 1) * ((2 ^ N : Int) : Rat) := p2_shift N (by omega)
        have e1 : sv sg (2 * A + 1) = sv sg A * 2 + sv sg 1 := by unfold sv; split <;> omega
        have e2 : sv sg (2 * R - 2 ^ N) = sv sg R * 2 - sv sg 1 * 2 ^ N := by
          rw [← sv_mul (s := sg) (a := 1), Int.one_mul]; unfold sv; split <;> omega
        rw [← sgR_int, ← sgR_scale (x := ((sv sg (2 * R - 2 ^ N) : Int) : Rat)) (c := p2 (E - 1)) (p2_pos _)]
        congr 1
        have c2 : ((2 : Int) : Rat) = 2 := rfl
        rw [e1, e2, h1, h2, h3, Rat.intCast_add, Rat.intCast_sub, Rat.intCast_mul, Rat.intCast_mul, Rat.intCast_mul, c2]
        exact mid_alg _ _ _ _ _
      have sumv : V tA + V tB = (sv sg (2 * A + 1) : Int) * p2 (E + N) := by
        have e1 : sv sg (2 * A + 1) = sv sg A + sv sg (A + 1) := by unfold sv; split <;> omega
        rw [A2, B2, e1, Rat.intCast_add]; grind
      have hdn : D .d = tA := by rw [hT, ← htA]; rfl
      have hup : D .u = tB := by rw [hT, ← htB]; congr 1; show (if R = 0 then A else A + 1) = A + 1; rw [if_neg hR']
      have hne : (2 ^ N < 2 * R → D .n = tB) ∧ (2 * R < 2 ^ N → D .n = tA) ∧ (2 * R = 2 ^ N → (D .n = tA ∨ D .n = tB) ∧ E + N < (D .n).ex) := by
        have hc : cutM sg A R (2 ^ N) .n = if (2 : Int) ^ N < 2 * R ∨ (2 * R = 2 ^ N ∧ A % 2 = 1) then A + 1 else A := rfl
        rw [hT, hc]
        refine ⟨fun x => ?_, fun x => ?_, fun x => ?_⟩
        · rw [if_pos (.inl x), htB]
        · rw [if_neg (by omega), htA]
        · by_cases o : A % 2 = 1
          · rw [if_pos (.inr ⟨x, o⟩), htB]
            exact ⟨.inr rfl, B6 (by omega)⟩
          · rw [if_neg (by omega), htA]
            exact ⟨.inl rfl, A6 (by omega)⟩
      obtain ⟨n1, n2, n3⟩ := hne
      rcases hs.out with hs0 | hs1
      · have hlo : D .f = tA := by rw [hT, ← htA]; congr 1; show (if sg = 0 then A else _) = A; rw [if_pos hs0]
        have hhi : D .c = tB := by rw [hT, ← htB]; congr 1; show (if sg = 0 then (if R = 0 then A else A + 1) else A) = A + 1; rw [if_pos hs0, if_neg hR']
        have hv := vs1 hs0
        obtain ⟨q1, q2⟩ := gapw tA tB A1 B1 hv
        have hm := midv tA tB A1 B1 sumv
        rw [sv_pos hs0] at hm
        have sg1 : signF tB = 1 := by unfold signF; rw [if_neg (by omega), if_pos (by omega)]
        rw [if_pos hs0] at SA' SB'
        refine ⟨fun k => ?_, fun _ => ⟨?_, ?_, ?_, ⟨?_, ?_, ?_, ?_, ?_, ?_, ?_, ?_⟩, ?_, ?_⟩⟩ <;> rw [hlo, hhi] at *
        · exfalso; rw [k] at hv; grind
        · rw [cmp_spec A1 B1, hv, sgR_ng (by grind)]; decide
        · omega
        · omega
        · exact q1
        · intro _; rw [q2]; omega
        · intro k; exact absurd (by rw [sg1]; decide) k
        · omega
        · omega
        · intro k; rw [hm] at k; refine n1 ?_; unfold sgI at k; split at k
          · omega
          · split at k <;> omega
        · intro k; rw [hm] at k; refine n2 ?_; unfold sgI at k; split at k
          · omega
          · split at k <;> omega
        · intro k; rw [hm] at k; rw [q2]; refine n3 ?_; unfold sgI at k; split at k
          · omega
          · split at k <;> omega
        · intro _; exact ⟨hdn, hup⟩
        · intro k; exact absurd (by rw [sg1]; decide) k
      · have hs0 : sg ≠ 0 := by omega
        have hlo : D .f = tB := by rw [hT, ← htB]; congr 1; show (if sg = 0 then A else (if R = 0 then A else A + 1)) = A + 1; rw [if_neg hs0, if_neg hR']
        have hhi : D .c = tA := by rw [hT, ← htA]; congr 1; show (if sg = 0 then (if R = 0 then A else A + 1) else A) = A; rw [if_neg hs0]
        have hv := vs2 hs0
        obtain ⟨q1, q2⟩ := gapw tB tA B1 A1 hv
        have hm := midv tB tA B1 A1 (by rw [← sumv]; grind)
        have sg1 : signF tA = -1 := by unfold signF; rw [if_neg (by omega), if_neg (by omega)]
        rw [if_neg hs0] at SA' SB'
        unfold sv at hm
        rw [if_neg hs0] at hm
        refine ⟨fun k => ?_, fun _ => ⟨?_, ?_, ?_, ⟨?_, ?_, ?_, ?_, ?_, ?_, ?_, ?_⟩, ?_, ?_⟩⟩ <;> rw [hlo, hhi] at *
        · exfalso; rw [k] at hv; grind
        · rw [cmp_spec B1 A1, hv, sgR_ng (by grind)]; decide
        · omega
        · omega
        · exact q1
        · intro k; rw [sg1] at k; omega
        · intro _; rw [q2]; omega
        · omega
        · omega
        · intro k; rw [hm] at k; refine n2 ?_; unfold sgI at k; split at k
          · omega
          · split at k <;> omega
        · intro k; rw [hm] at k; refine n1 ?_; unfold sgI at k; split at k
          · omega
          · split at k <;> omega
        · intro k; rw [hm] at k; rw [q2]
          obtain ⟨x, y⟩ := n3 (by unfold sgI at k; split at k
                                  · omega
                                  · split at k <;> omega)
          exact ⟨x.symm, y⟩
        · intro k; rw [sg1] at k; omega
        · intro _; exact ⟨hdn, hup⟩
end
section
theorem fillK_L9 : (hd.heap_39 = hd.heap_39) ∧ PySem.Challenge.rw_aj5009_01 = PySem.Challenge.rw_aj5009_01 := by
  k_fill
  exact ⟨rfl, rfl⟩
/-! plain law, part 9: quotients, exact ones, roots -/
def flipR : Rnd → Rnd
  | .f => .c
  | .c => .f
  | .n => .n
  | .d => .d
  | .u => .u
theorem cut_neg {s m n : Int} (r : Rnd) (hs : B01 s) : cutF (1 - s) m n r = cutF s m n (flipR r) := by
  rcases hs.out with rfl | rfl <;> cases r <;> rfl
theorem norm_neg {s m e b p : Int} (r : Rnd) (hs : B01 s) (hm : 0 < m) (hb : b = (Builtin.Int.intBits m : Int)) (hp : 1 ≤ p) : normF (1 - s) m e b p r = negF (normF s m e b p (flipR r)) := by
  obtain ⟨_, h2, _, _, _, h6⟩ := norm_wf (e := e) (r := flipR r) hs hm hb hp
  have st : ∀ c e b : Int, stripF (1 - s) c e b = ⟨1 - s, (stripF s c e b).man, (stripF s c e b).ex, (stripF s c e b).bc⟩ := by
    intro c e b; unfold stripF; split <;> rfl
  unfold negF
  rw [if_neg (by omega), h6]
  unfold normF
  have hm0 : ¬ m = 0 := by omega
  by_cases h : 0 < b - p
  · simp only [if_neg hm0, if_pos h, cut_neg r hs, st]
  · simp only [if_neg hm0, if_neg h, st]
structure Core (D T : Rnd → MP) (S : MP → Int) (prec : Int) : Prop where
  law : LawOK D S prec
  wf : ∀ r, Wf (D r)
  sm : ∀ r, Sm 1000 (D r)
  turn : ∀ r, T r = negF (D (flipR r))
theorem core_zero {D T : Rnd → MP} {S : MP → Int} {prec : Int} (h : ∀ r, D r = fzero) (hT : ∀ r, T r = fzero) (hS : S fzero = 0) : Core D T S prec :=
  ⟨law_zero h hS, fun r => by rw [h]; exact Wf_fzero, fun r => by rw [h]; exact Sm_fzero (by decide), fun r => by rw [h, hT]; rfl⟩
theorem core_norm {D T : Rnd → MP} {S : MP → Int} {sg M E prec B : Int} (G : Int) (hs : B01 sg) (hM : 0 < M) (hp : 1 ≤ prec) (hB : B = (Builtin.Int.intBits M : Int))
    (hD : ∀ r, D r = normF sg M E B prec r) (hT : ∀ r, T r = normF (1 - sg) M E B prec r) (b1 : B ≤ 400) (b2 : -500 ≤ E) (b3 : E ≤ 500)
    (hG1 : B ≤ prec → G ≤ E) (hG2 : prec < B → G ≤ E + (B - prec) - 1)
    (hS : ∀ (m : MP) (j : Int), Wf m → V m = (j : Rat) * p2 G → (sg = 0 → 0 ≤ j) → S m = sgR ((sv sg M : Int) * p2 E - V m)) : Core D T S prec := by
  refine ⟨law_ok hs hM hp hB hD hG1 hG2 hS, fun r => ?_, fun r => ?_, fun r => ?_⟩
  · rw [hD]; exact (norm_wf hs hM hB hp).1
  · rw [hD]
    obtain ⟨_, _, h3, h4, h5, _⟩ := norm_wf (e := E) (r := r) hs hM hB hp
    exact ⟨by omega, by omega, by omega⟩
  · rw [hT, hD, norm_neg r hs hM hB hp]
/-- what stands for itself -/
theorem core_exact {D T : Rnd → MP} {S : MP → Int} {sg M E prec B : Int} (hs : B01 sg) (hM : 0 < M) (hp : 1 ≤ prec) (hB : B = (Builtin.Int.intBits M : Int))
    (hD : ∀ r, D r = normF sg M E B prec r) (hT : ∀ r, T r = normF (1 - sg) M E B prec r) (b1 : B ≤ 400) (b2 : -500 ≤ E) (b3 : E ≤ 500)
    (hS : ∀ m : MP, Wf m → S m = sgR ((sv sg M : Int) * p2 E - V m)) : Core D T S prec :=
  core_norm E hs hM hp hB hD hT b1 b2 b3 (fun _ => Int.le_refl _) (fun _ => by omega) (fun m _ w _ _ => hS m w)
theorem sgI_mul {a y : Int} (hy : 0 < y) : sgI (a * y) = sgI a := by
  unfold sgI
  rcases Int.lt_trichotomy a 0 with h | h | h
  · have := Int.mul_neg_of_neg_of_pos h hy
    rw [if_neg (by omega), if_pos this, if_neg (by omega), if_pos h]
  · subst h; rw [Int.zero_mul]
  · have := Int.mul_pos h hy
    rw [if_pos this, if_pos h]
theorem quot_sign {sg x y Q j : Int} (hs : B01 sg) (hy : 0 < y) (h1 : Q * y < x) (h2 : x < (Q + 1) * y) : sgI (sv sg x - j * y) = sgI (sv sg (2 * Q + 1) - 2 * j) := by
  have hy' := Int.le_of_lt hy
  rcases hs.out with rfl | rfl
  · show sgI (x - j * y) = sgI (2 * Q + 1 - 2 * j)
    rcases Int.lt_or_le Q j with h | h
    · have := Int.mul_le_mul_of_nonneg_right (show Q + 1 ≤ j by omega) hy'
      unfold sgI
      rw [if_neg (by omega), if_pos (by omega), if_neg (by omega), if_pos (by omega)]
    · have := Int.mul_le_mul_of_nonneg_right h hy'
      unfold sgI
      rw [if_pos (by omega), if_pos (by omega)]
  · show sgI (-x - j * y) = sgI (-(2 * Q + 1) - 2 * j)
    rcases Int.lt_or_le Q (-j) with h | h
    · have := Int.mul_le_mul_of_nonneg_right (show Q + 1 ≤ -j by omega) hy'
      rw [Int.neg_mul] at this
      unfold sgI
      rw [if_pos (by omega), if_pos (by omega)]
    · have := Int.mul_le_mul_of_nonneg_right h hy'
      rw [Int.neg_mul] at this
      unfold sgI
      rw [if_neg (by omega), if_pos (by omega), if_neg (by omega), if_pos (by omega)]
theorem sgR_grid {a j E : Int} : sgR ((a : Rat) * p2 E - (j : Rat) * p2 E) = sgI (a - j) := by
  rw [← sgR_int, ← sgR_scale (x := ((a - j : Int) : Rat)) (c := p2 E) (p2_pos _)]
  congr 1
  rw [Rat.intCast_sub]; grind
theorem sgR_grid2 {a j E : Int} : sgR ((a : Rat) * p2 (E - 1) - (j : Rat) * p2 E) = sgI (a - 2 * j) := by
  rw [← sgR_int, ← sgR_scale (x := ((a - 2 * j : Int) : Rat)) (c := p2 (E - 1)) (p2_pos _), p2_half E]
  congr 1
  rw [Rat.intCast_sub, Rat.intCast_mul]
  have : ((2 : Int) : Rat) = 2 := rfl
  rw [this]; grind
theorem bits_double {Q : Int} (h : 0 < Q) : Builtin.Int.intBits (Q * 2 + 1) = Builtin.Int.intBits Q + 1 := by
  obtain ⟨a, b, c⟩ := bits_pos h
  obtain ⟨p, hp⟩ : ∃ p, Builtin.Int.intBits Q = p + 1 := ⟨Builtin.Int.intBits Q - 1, by omega⟩
  rw [hp] at a b ⊢
  rw [Nat.add_sub_cancel] at a
  rw [Nat.pow_succ] at b
  refine bits_eq (by omega) ?_ ?_
  · rw [Nat.pow_succ]; omega
  · rw [Nat.pow_succ, Nat.pow_succ]; omega
theorem two_toNat : (2 : Int) ^ (1 : Int).toNat = 2 := by decide
/-- floor and a rest: what stands for a number between -/
theorem core_sticky {D T : Rnd → MP} {S : MP → Int} {sg Q E prec : Int} (hs : B01 sg) (hQ : 0 < Q) (hp : 1 ≤ prec)
    (hD : ∀ r, D r = normF sg (Q * 2 + 1) (E - 1) (Builtin.Int.intBits (Q * 2 + 1) : Int) prec r) (hT : ∀ r, T r = normF (1 - sg) (Q * 2 + 1) (E - 1) (Builtin.Int.intBits (Q * 2 + 1) : Int) prec r)
    (b0 : prec + 1 ≤ (Builtin.Int.intBits Q : Int)) (b1 : Builtin.Int.intBits Q ≤ 390) (b2 : -490 ≤ E) (b3 : E ≤ 490)
    (hS : ∀ (m : MP) (j : Int), Wf m → V m = (j : Rat) * p2 E → (sg = 0 → 0 ≤ j) → S m = sgI (sv sg (2 * Q + 1) - 2 * j)) : Core D T S prec := by
  have hb := bits_double hQ
  refine core_norm E hs (by omega) hp rfl hD hT (by omega) (by omega) (by omega) (by omega) (by omega) fun m j wm vm hj => ?_
  rw [hS m j wm vm hj, vm, sgR_grid2, Int.mul_comm 2 Q]
theorem core_quot {D T : Rnd → MP} {S : MP → Int} {sg x y E prec : Int} (hs : B01 sg) (hx : 0 < x) (hy : 0 < y) (hp : 1 ≤ prec)
    (hD : ∀ r, D r = quotN sg x y E prec r) (hT : ∀ r, T r = quotN (1 - sg) x y E prec r)
    (b0 : x % y = 0 ∨ prec + 1 ≤ (Builtin.Int.intBits (x / y) : Int)) (b1 : Builtin.Int.intBits x ≤ 390) (b2 : -490 ≤ E) (b3 : E ≤ 490)
    (hS : ∀ (m : MP) (j : Int), Wf m → V m = (j : Rat) * p2 E → S m = sgI (sv sg x - j * y)) : Core D T S prec := by
  have e1 : x.fdiv y = x / y := Int.fdiv_eq_ediv_of_nonneg _ (Int.le_of_lt hy)
  have e2 : x.fmod y = x % y := Int.fmod_eq_emod_of_nonneg _ (Int.le_of_lt hy)
  have h1 := Int.emod_add_mul_ediv x y
  have h2 := Int.emod_nonneg x (Int.ne_of_gt hy)
  have h3 := Int.emod_lt_of_pos x hy
  have hq0 : 0 ≤ x / y := Int.ediv_nonneg (Int.le_of_lt hx) (Int.le_of_lt hy)
  have hbq : Builtin.Int.intBits (x / y) ≤ 390 := bits_fdivC e1.symm b1
  have hm : x / y * y = y * (x / y) := Int.mul_comm _ _
  by_cases h : x % y = 0
  · have hpos : 0 < x / y := by
      rcases Int.lt_or_le 0 (x / y) with c | c
      · exact c
      · have : x / y = 0 := by omega
        rw [this, Int.mul_zero] at h1
        omega
    refine core_norm (sg := sg) (M := x / y) (E := E) (B := (Builtin.Int.intBits (x / y) : Int)) E hs hpos hp rfl (fun r => ?_) (fun r => ?_) (by omega) (by omega) (by omega) (by omega) (by omega) (fun m j wm vm _ => ?_)
    · rw [hD]; unfold quotN; rw [e2, e1, if_pos h]
    · rw [hT]; unfold quotN; rw [e2, e1, if_pos h]
    · rw [hS m j wm vm, vm, sgR_grid, ← sgI_mul (a := sv sg (x / y) - j) hy, Int.sub_mul, ← sv_mul, show x / y * y = x by omega]
  · have b0' := b0.resolve_left h
    have hpos : 0 < x / y := by
      rcases Int.lt_or_le 0 (x / y) with c | c
      · exact c
      · have e : x / y = 0 := by omega
        have : Builtin.Int.intBits (0 : Int) = 0 := by decide +kernel
        rw [e, this] at b0'
        omega
    refine core_sticky (Q := x / y) (E := E) hs hpos hp (fun r => ?_) (fun r => ?_) b0' hbq b2 b3 fun m j wm vm _ => ?_
    · rw [hD]; unfold quotN; rw [e2, e1, if_neg h, two_toNat]
    · rw [hT]; unfold quotN; rw [e2, e1, if_neg h, two_toNat]
    · rw [hS m j wm vm]
      refine quot_sign hs hy (by omega) ?_
      rw [Int.add_mul, Int.one_mul]; omega
end
section
theorem fillK_L10 : (hd.heap_39 = hd.heap_39) ∧ PySem.Challenge.rw_aj5009_01 = PySem.Challenge.rw_aj5009_01 := by
  k_fill
  exact ⟨rfl, rfl⟩
/-! plain law, part 10: the kinds 2, 3, 5 to 8 -/
theorem negF_parts {a : MP} (h : a.man ≠ 0) : (negF a).sg = 1 - a.sg ∧ (negF a).man = a.man ∧ (negF a).ex = a.ex ∧ (negF a).bc = a.bc := by
  unfold negF; rw [if_neg h]; exact ⟨rfl, rfl, rfl, rfl⟩
theorem negF_zero {a : MP} (h : a.man = 0) : negF a = a := by unfold negF; rw [if_pos h]
theorem xor_neg {a b : Int} (ha : B01 a) (hb : B01 b) : Builtin.bitXor (1 - a) b = 1 - Builtin.bitXor a b := by
  rcases ha.out with rfl | rfl <;> rcases hb.out with rfl | rfl <;> decide
theorem xor_comm01 {a b : Int} (ha : B01 a) (hb : B01 b) : Builtin.bitXor a b = Builtin.bitXor b a := by
  rcases ha.out with rfl | rfl <;> rcases hb.out with rfl | rfl <;> decide
theorem B01.neg {a : Int} (h : B01 a) : B01 (1 - a) := by rcases h.out with rfl | rfl <;> (first | exact B01.one | exact B01.zero)
/-- a product, rounded -/
theorem core_mul {D T : Rnd → MP} {S : MP → Int} {a b : MP} {prec : Int} (ha : Wf a) (hb : Wf b) (sa : Sm 200 a) (sb : Sm 200 b) (hp : 1 ≤ prec)
    (hD : ∀ r, D r = mulF a b prec r) (hT : ∀ r, T r = mulF (negF a) b prec r)
    (hS : ∀ m : MP, Wf m → S m = sgR (V a * V b - V m)) : Core D T S prec := by
  by_cases h : a.man * b.man = 0
  · refine core_zero (fun r => ?_) (fun r => ?_) ?_
    · rw [hD]; unfold mulF; rw [if_pos h]
    · rw [hT]; unfold mulF
      by_cases na : a.man = 0
      · rw [negF_zero na, if_pos h]
      · rw [(negF_parts na).2.1, if_pos h]
    · rw [hS _ Wf_fzero, V_fzero]
      rcases Int.mul_eq_zero.mp h with e | e
      · rw [V_zero e]; exact sgR_z (by grind)
      · rw [V_zero e]; exact sgR_z (by grind)
  · have na : a.man ≠ 0 := fun e => h (by rw [e, Int.zero_mul])
    have nb : b.man ≠ 0 := fun e => h (by rw [e, Int.mul_zero])
    have hbits := bits_mulC (m := 200) (n := 200) (rfl : a.man * b.man = a.man * b.man) (ha.bits sa (by decide)) (hb.bits sb (by decide))
    obtain ⟨n1, n2, n3, n4⟩ := negF_parts na
    refine core_exact (sg := Builtin.bitXor a.sg b.sg) (M := a.man * b.man) (E := a.ex + b.ex) (ha.b01.xor hb.b01) (Int.mul_pos (ha.pos na) (hb.pos nb)) hp rfl (fun r => ?_) (fun r => ?_) (by omega) (by have := sa.2; have := sb.2; omega) (by have := sa.2; have := sb.2; omega) fun m wm => ?_
    · rw [hD]; unfold mulF; rw [if_neg h, if_neg (by omega)]
    · rw [hT]; unfold mulF; rw [n1, n2, n3, if_neg h, if_neg (by omega), xor_neg ha.b01 hb.b01]
    · rw [hS m wm]
      congr 1
      rw [sv_xor ha.b01 hb.b01, Rat.intCast_mul, p2_add]
      unfold V; grind
theorem core_mulint {D T : Rnd → MP} {S : MP → Int} {a : MP} {n prec : Int} (ha : Wf a) (sa : Sm 200 a) (hn : Builtin.Int.intBits n ≤ 60) (hp : 1 ≤ prec)
    (hD : ∀ r, D r = mulIntF a n prec r) (hT : ∀ r, T r = mulIntF a (-n) prec r)
    (hS : ∀ m : MP, Wf m → S m = sgR (V a * n - V m)) : Core D T S prec := by
  by_cases na : a.man = 0
  · refine core_zero (fun r => ?_) (fun r => ?_) ?_
    · rw [hD]; unfold mulIntF; rw [if_pos na]
    · rw [hT]; unfold mulIntF; rw [if_pos na]
    · rw [hS _ Wf_fzero, V_fzero, V_zero na]; exact sgR_z (by grind)
  by_cases hn0 : n = 0
  · refine core_zero (fun r => ?_) (fun r => ?_) ?_
    · rw [hD]; unfold mulIntF; rw [if_neg na, if_pos hn0]
    · rw [hT]; unfold mulIntF; rw [if_neg na, if_pos (by omega)]
    · rw [hS _ Wf_fzero, V_fzero, hn0, Rat.intCast_zero]; exact sgR_z (by grind)
  have pa := ha.pos na
  have ba := ha.bits sa (show (200 : Int) ≤ (200 : Nat) by decide)
  have e1 := sa.2
  rcases Int.lt_or_le n 0 with c | c
  · have hb := bits_mulC (rfl : a.man * -n = a.man * -n) ba (show Builtin.Int.intBits (-n) ≤ 60 by rw [intBits_neg]; exact hn)
    refine core_exact (sg := Builtin.bitXor a.sg 1) (M := a.man * -n) (E := a.ex) (ha.b01.xor B01.one) (Int.mul_pos pa (by omega)) hp rfl (fun r => ?_) (fun r => ?_) (by omega) (by omega) (by omega) fun m wm => ?_
    · rw [hD]; unfold mulIntF; rw [if_neg na, if_neg hn0, if_pos c]
    · rw [hT]; unfold mulIntF; rw [if_neg na, if_neg (by omega), if_neg (by omega), xor_one ha.b01]
      congr 1; omega
    · rw [hS m wm]
      congr 1
      rw [sv_xor ha.b01 B01.one]
      unfold V
      show _ = ((sv a.sg a.man * -(-n) : Int) : Rat) * _ - _
      rw [Int.neg_neg, Rat.intCast_mul]; grind
  · have hb := bits_mulC (rfl : a.man * n = a.man * n) ba hn
    refine core_exact (sg := a.sg) (M := a.man * n) (E := a.ex) ha.b01 (Int.mul_pos pa (by omega)) hp rfl (fun r => ?_) (fun r => ?_) (by omega) (by omega) (by omega) fun m wm => ?_
    · rw [hD]; unfold mulIntF; rw [if_neg na, if_neg hn0, if_neg (by omega)]
    · rw [hT]; unfold mulIntF; rw [if_neg na, if_neg (by omega), if_pos (by omega), xor_one ha.b01, Int.neg_neg]
    · rw [hS m wm]
      congr 1
      rw [sv_mul, Rat.intCast_mul]
      unfold V; grind
/-- the sign of what is above, beside a product -/
theorem div_sign {x j sa : Int} {t : MP} {X Vm : Rat} {E : Int} (hs : B01 sa) (ht : Wf t) (nt : t.man ≠ 0) (hX : X = (sv sa x : Int) * p2 (E + t.ex)) (hm : Vm = (j : Rat) * p2 E) :
    sgR (X - Vm * V t) * signF t = sgI (sv (Builtin.bitXor sa t.sg) x - j * t.man) := by
  have pt := ht.pos nt
  have e : X - Vm * V t = ((sv sa x - j * sv t.sg t.man : Int) : Rat) * p2 (E + t.ex) := by
    rw [hX, hm, Rat.intCast_sub, Rat.intCast_mul, p2_add]; unfold V; grind
  rw [e, sgR_scale (p2_pos _), sgR_int]
  unfold signF
  rw [if_neg nt]
  rcases ht.b01.out with h | h
  · rw [h, if_pos rfl, Int.mul_one, xor_zero hs, sv_pos rfl]
  · rw [h, if_neg (by decide), xor_one hs, sv_neg hs]
    have : sv 1 t.man = -t.man := rfl
    rw [this, Int.mul_neg j]
    unfold sgI
    repeat' split
    all_goals omega
theorem quot_big {x y : Int} {K by' : Nat} (hy : 0 < y) (hb : Builtin.Int.intBits y ≤ by') (h : (2 : Int) ^ (K + by') ≤ x) : K + 1 ≤ Builtin.Int.intBits (x / y) := by
  have h1 := natAbs_lt_pow_bits y
  have h2 : 2 ^ Builtin.Int.intBits y ≤ 2 ^ by' := Nat.pow_le_pow_right (by decide) hb
  have h3 : y ≤ ((2 ^ by' : Nat) : Int) := by omega
  rw [← two_pow_cast] at h3
  have h4 : (2 : Int) ^ K ≤ x / y := by
    refine (Int.le_ediv_iff_mul_le hy).mpr ?_
    rw [Int.pow_add] at h
    have := Int.mul_le_mul_of_nonneg_left h3 (Int.le_of_lt (show (0 : Int) < 2 ^ K from Int.pow_pos (by decide)))
    omega
  have h5 := natAbs_lt_pow_bits (x / y)
  have h6 : (0 : Int) < 2 ^ K := Int.pow_pos (by decide)
  rw [two_pow_cast] at h4 h6
  refine Nat.lt_of_not_le fun hc => ?_
  have h7 : 2 ^ Builtin.Int.intBits (x / y) ≤ 2 ^ K := Nat.pow_le_pow_right (by decide) hc
  omega
theorem bits_low {a : Int} {k : Nat} (h : 0 < a) : (2 : Int) ^ (Builtin.Int.intBits a - 1 + k) ≤ a * 2 ^ k := by
  rw [Int.pow_add]
  exact Int.mul_le_mul_of_nonneg_right (bits_bound h).1 (Int.le_of_lt (Int.pow_pos (by decide)))
theorem core_div {D T : Rnd → MP} {S : MP → Int} {a b : MP} {prec : Int} (ha : Wf a) (hb : Wf b) (sa : Sm 200 a) (sb : Sm 100 b) (hp : 1 ≤ prec) (hp' : prec ≤ 80) (ea : a.bc ≤ 60) (nb : b.man ≠ 0)
    (hD : ∀ r, D r = divF a b prec r) (hT : ∀ r, T r = divF (negF a) b prec r)
    (hS : ∀ m : MP, Wf m → S m = sgR (V a - V m * V b) * signF b) : Core D T S prec := by
  by_cases na : a.man = 0
  · refine core_zero (fun r => ?_) (fun r => ?_) ?_
    · rw [hD]; unfold divF; rw [if_pos na]
    · rw [hT, negF_zero na]; unfold divF; rw [if_pos na]
    · rw [hS _ Wf_fzero, V_fzero, V_zero na, sgR_z (by grind), Int.zero_mul]
  have pa := ha.pos na
  have pb := hb.pos nb
  obtain ⟨n1, n2, n3, n4⟩ := negF_parts na
  have hxs := ha.b01.xor hb.b01
  have hab := ha.2.2.1
  have hbb := hb.2.2.1
  have one : 1 ≤ a.bc := by have := (bits_pos pa).2.2; omega
  have onb : 1 ≤ b.bc := by have := (bits_pos pb).2.2; omega
  obtain ⟨sa1, sa2, sa3⟩ := sa
  obtain ⟨sb1, sb2, sb3⟩ := sb
  -- the way by an extra
  have way : ∀ ex : Int, 0 ≤ ex → ex ≤ 300 → prec + b.bc + 5 ≤ a.bc + ex →
      (∀ r, D r = quotN (Builtin.bitXor a.sg b.sg) (a.man * 2 ^ ex.toNat) b.man (a.ex - b.ex - ex) prec r) →
      (∀ r, T r = quotN (1 - Builtin.bitXor a.sg b.sg) (a.man * 2 ^ ex.toNat) b.man (a.ex - b.ex - ex) prec r) → -490 ≤ a.ex - b.ex - ex → Core D T S prec := by
    intro ex h0 h1 h2 g1 g2 g3
    refine core_quot hxs (Int.mul_pos pa (Int.pow_pos (by decide))) pb hp g1 g2 (.inr ?_) ?_ (by omega) (by omega) fun m j wm vm => ?_
    · have h3 := bits_low (k := ex.toNat) pa
      have e : Builtin.Int.intBits a.man - 1 + ex.toNat = (Builtin.Int.intBits a.man - 1 + ex.toNat - Builtin.Int.intBits b.man) + Builtin.Int.intBits b.man := by omega
      rw [e] at h3
      have := quot_big pb (Nat.le_refl _) h3
      omega
    · rw [bits_mul_pow pa]; omega
    · rw [hS m wm]
      refine div_sign ha.b01 hb nb ?_ vm
      rw [sv_mul, Rat.intCast_mul, p2_toNat h0]
      unfold V
      rw [Rat.mul_assoc, ← p2_add]
      congr 2; omega
  by_cases hb1 : b.man = 1
  · refine core_quot (x := a.man) (y := 1) (E := a.ex - b.ex) hxs pa (by decide) hp (fun r => ?_) (fun r => ?_) (.inl (Int.emod_one _)) (by omega) (by omega) (by omega) fun m j wm vm => ?_
    · rw [hD]; unfold divF quotN
      rw [if_neg na, if_pos hb1, if_pos (by rw [Int.fmod_eq_emod_of_nonneg _ (by decide), Int.emod_one]), Int.fdiv_one, hab]
    · rw [hT]; unfold divF quotN
      rw [n1, n2, n3, n4, if_neg na, if_pos hb1, if_pos (by rw [Int.fmod_eq_emod_of_nonneg _ (by decide), Int.emod_one]), Int.fdiv_one, hab, xor_neg ha.b01 hb.b01]
    · rw [hS m wm, div_sign (x := a.man) (E := a.ex - b.ex) ha.b01 hb nb ?_ vm, hb1]
      unfold V; congr 2; omega
  · by_cases hc : prec - a.bc + b.bc + 5 < 5
    · refine way 5 (by decide) (by decide) (by omega) (fun r => ?_) (fun r => ?_) (by omega)
      · rw [hD]; unfold divF; rw [if_neg na, if_neg hb1, if_pos hc]
      · rw [hT]; unfold divF; rw [n1, n2, n3, n4, if_neg na, if_neg hb1, if_pos hc, xor_neg ha.b01 hb.b01]
    · refine way (prec - a.bc + b.bc + 5) (by omega) (by omega) (by omega) (fun r => ?_) (fun r => ?_) (by omega)
      · rw [hD]; unfold divF; rw [if_neg na, if_neg hb1, if_neg hc]
      · rw [hT]; unfold divF; rw [n1, n2, n3, n4, if_neg na, if_neg hb1, if_neg hc, xor_neg ha.b01 hb.b01]
theorem core_rdiv {D T : Rnd → MP} {S : MP → Int} {b : MP} {n prec : Int} (hb : Wf b) (sb : Sm 100 b) (hn : Builtin.Int.intBits n ≤ 60) (hp : 1 ≤ prec) (hp' : prec ≤ 80) (nb : b.man ≠ 0)
    (hD : ∀ r, D r = rdivF n b prec r) (hT : ∀ r, T r = rdivF (-n) b prec r)
    (hS : ∀ m : MP, Wf m → S m = sgR ((n : Rat) - V m * V b) * signF b) : Core D T S prec := by
  by_cases hn0 : n = 0
  · refine core_zero (fun r => ?_) (fun r => ?_) ?_
    · rw [hD]; unfold rdivF; rw [if_pos hn0]
    · rw [hT]; unfold rdivF; rw [if_pos (by omega)]
    · rw [hS _ Wf_fzero, V_fzero, hn0, Rat.intCast_zero, sgR_z (by grind), Int.zero_mul]
  have pb := hb.pos nb
  have hbb := hb.2.2.1
  have onb : 1 ≤ b.bc := by have := (bits_pos pb).2.2; omega
  obtain ⟨sb1, sb2, sb3⟩ := sb
  have way : ∀ (k sa : Int), 0 < k → B01 sa → sv sa k = n → Builtin.Int.intBits k ≤ 60 →
      (∀ r, D r = quotN (Builtin.bitXor sa b.sg) (k * 2 ^ (prec + b.bc + 5).toNat) b.man (-b.ex - (prec + b.bc + 5)) prec r) →
      (∀ r, T r = quotN (1 - Builtin.bitXor sa b.sg) (k * 2 ^ (prec + b.bc + 5).toNat) b.man (-b.ex - (prec + b.bc + 5)) prec r) → Core D T S prec := by
    intro k sa hk hs hv hbk g1 g2
    have onk := (bits_pos hk).2.2
    refine core_quot (hs.xor hb.b01) (Int.mul_pos hk (Int.pow_pos (by decide))) pb hp g1 g2 (.inr ?_) ?_ (by omega) (by omega) fun m j wm vm => ?_
    · have h3 := bits_low (k := (prec + b.bc + 5).toNat) hk
      have e : Builtin.Int.intBits k - 1 + (prec + b.bc + 5).toNat = (Builtin.Int.intBits k - 1 + (prec + b.bc + 5).toNat - Builtin.Int.intBits b.man) + Builtin.Int.intBits b.man := by omega
      rw [e] at h3
      have := quot_big pb (Nat.le_refl _) h3
      omega
    · rw [bits_mul_pow hk]; omega
    · rw [hS m wm]
      refine div_sign hs hb nb ?_ vm
      rw [sv_mul, hv, Rat.intCast_mul, p2_toNat (by omega), Rat.mul_assoc, ← p2_add, show prec + b.bc + 5 + (-b.ex - (prec + b.bc + 5) + b.ex) = 0 by omega, p2_zero, Rat.mul_one]
  rcases Int.lt_or_le n 0 with c | c
  · refine way (-n) 1 (by omega) B01.one (Int.neg_neg n) (by rw [intBits_neg]; exact hn) (fun r => ?_) (fun r => ?_)
    · rw [hD]; unfold rdivF; rw [if_neg hn0, if_pos c, xor_comm01 hb.b01 B01.one]
    · rw [hT]; unfold rdivF; rw [if_neg (by omega), if_neg (by omega), xor_comm01 B01.one hb.b01, xor_one hb.b01]
      congr 1; omega
  · refine way n 0 (by omega) B01.zero rfl hn (fun r => ?_) (fun r => ?_)
    · rw [hD]; unfold rdivF; rw [if_neg hn0, if_neg (by omega), xor_comm01 B01.zero hb.b01, xor_zero hb.b01]
    · rw [hT]; unfold rdivF; rw [if_neg (by omega), if_pos (by omega), Int.neg_neg, xor_comm01 B01.zero hb.b01, xor_zero hb.b01, xor_one hb.b01]
end
section
theorem fillK_L11 : (hd.heap_39 = hd.heap_39) ∧ PySem.Challenge.rw_aj5009_01 = PySem.Challenge.rw_aj5009_01 := by
  k_fill
  exact ⟨rfl, rfl⟩
/-! plain law, part 11: roots -/
theorem norm_down {Q E prec : Int} {r : Rnd} (hQ : 0 < Q) (hr : r = .f ∨ r = .d) (hb : prec < (Builtin.Int.intBits Q : Int)) :
    normF 0 Q E (Builtin.Int.intBits Q : Int) prec r = normF 0 (Q * 2 + 1) (E - 1) (Builtin.Int.intBits (Q * 2 + 1) : Int) prec r := by
  have h2 := bits_double hQ
  have hc : ∀ (m n : Int), cutF 0 m n r = m.fdiv (2 ^ n.toNat) := by
    intro m n; rcases hr with rfl | rfl <;> rfl
  have e1 : ((Builtin.Int.intBits (Q * 2 + 1) : Int) - prec).toNat = ((Builtin.Int.intBits Q : Int) - prec).toNat + 1 := by omega
  have e2 : (Q * 2 + 1).fdiv (2 ^ (((Builtin.Int.intBits Q : Int) - prec).toNat + 1)) = Q.fdiv (2 ^ ((Builtin.Int.intBits Q : Int) - prec).toNat) := by
    have e3 : (Q * 2 + 1) / 2 = Q := by omega
    rw [cut_down, cut_down, Int.pow_succ', ← Int.ediv_ediv_of_nonneg (show (0 : Int) ≤ 2 by decide), e3]
  unfold normF
  rw [if_neg (by omega), if_pos (by omega), if_neg (by omega), if_pos (by omega), hc, hc, e1, e2]
  congr 1; omega
theorem sq_sign0 {q j : Int} (hq : 0 < q) (hj : 0 ≤ j) : sgI (q * q - j * j) = sgI (q - j) := by
  have e : q * q - j * j = (q - j) * (q + j) := by
    rw [Int.sub_mul, Int.mul_add, Int.mul_add, Int.mul_comm j q]; omega
  rw [e, sgI_mul (by omega)]
theorem sq_sign1 {x q j : Int} (hq : 0 < q) (hj : 0 ≤ j) (h1 : q * q < x) (h2 : x < (q + 1) * (q + 1)) : sgI (x - j * j) = sgI (2 * q + 1 - 2 * j) := by
  rcases Int.lt_or_le q j with c | c
  · have := Int.mul_le_mul (show q + 1 ≤ j by omega) (show q + 1 ≤ j by omega) (by omega) hj
    unfold sgI
    rw [if_neg (by omega), if_pos (by omega), if_neg (by omega), if_pos (by omega)]
  · have := Int.mul_le_mul c c hj (by omega)
    unfold sgI
    rw [if_pos (by omega), if_pos (by omega)]
theorem fme_pos {m e p : Int} {r : Rnd} (h : 0 < m) : fmeF m e p r = normF 0 m e (Builtin.Int.intBits m : Int) p r := by unfold fmeF; rw [if_neg (by omega)]
theorem root_big {x : Int} {K : Nat} (h : (2 : Int) ^ (K + K) ≤ x) : (2 : Int) ^ K ≤ isq x := by
  have h0 : (0 : Int) < 2 ^ K := Int.pow_pos (by decide)
  have hx : 0 ≤ x := by
    have : (0 : Int) < 2 ^ (K + K) := Int.pow_pos (by decide)
    omega
  obtain ⟨a, b⟩ := isq_spec hx
  have hn := isq_nonneg x
  refine Int.not_lt.mp fun c => ?_
  have := Int.mul_le_mul (show isq x + 1 ≤ 2 ^ K by omega) (show isq x + 1 ≤ 2 ^ K by omega) (by omega) (Int.le_of_lt h0)
  rw [Int.pow_add] at h
  omega
structure CoreS (D : Rnd → MP) (S : MP → Int) (prec : Int) : Prop where
  law : LawOK D S prec
  wf : ∀ r, Wf (D r)
  sm : ∀ r, Sm 1000 (D r)
  pos : signF (D .f) = 1
theorem core_root {D : Rnd → MP} {S : MP → Int} {x E prec : Int} (hp : 1 ≤ prec) (hx : (2 : Int) ^ (prec.toNat + 1 + (prec.toNat + 1)) ≤ x)
    (hD : ∀ r, D r = if r = .f ∨ r = .d then fmeF (isq x) E prec r else if x - isq x * isq x = 0 then fmeF (isq x) E prec r else fmeF (isq x * 2 ^ (1 : Int).toNat + 1) (E - 1) prec r)
    (b1 : Builtin.Int.intBits x ≤ 390) (b2 : -490 ≤ E) (b3 : E ≤ 490)
    (hS : ∀ (m : MP) (j : Int), Wf m → V m = (j : Rat) * p2 E → 0 ≤ j → S m = sgI (x - j * j)) : CoreS D S prec := by
  have hr := root_big hx
  have h0 : (0 : Int) < 2 ^ (prec.toNat + 1) := Int.pow_pos (by decide)
  have hx0 : 0 < x := by
    have : (0 : Int) < 2 ^ (prec.toNat + 1 + (prec.toNat + 1)) := Int.pow_pos (by decide)
    omega
  obtain ⟨a, b⟩ := isq_spec (Int.le_of_lt hx0)
  have hq : 0 < isq x := by omega
  have hbq : Builtin.Int.intBits (isq x) ≤ 390 := bits_isq (Int.le_of_lt hx0) b1
  have hbl : prec + 1 ≤ (Builtin.Int.intBits (isq x) : Int) := by
    have h5 := natAbs_lt_pow_bits (isq x)
    rw [two_pow_cast] at hr
    refine Int.not_lt.mp fun hc => ?_
    have h7 : 2 ^ Builtin.Int.intBits (isq x) ≤ 2 ^ (prec.toNat + 1) := Nat.pow_le_pow_right (by decide) (by omega)
    omega
  have fin : ∀ {M E' : Int}, 0 < M → (∀ r, D r = normF 0 M E' (Builtin.Int.intBits M : Int) prec r) → signF (D .f) = 1 := by
    intro M E' hM h
    rw [h]
    obtain ⟨_, h2, _, _, _, h6⟩ := norm_wf (e := E') (r := .f) B01.zero hM rfl hp
    unfold signF
    rw [if_neg (by omega), if_pos h6]
  by_cases hz : x - isq x * isq x = 0
  · have hD' : ∀ r, D r = normF 0 (isq x) E (Builtin.Int.intBits (isq x) : Int) prec r := by
      intro r
      rw [hD, fme_pos hq, if_pos hz, ite_self]
    have c : Core D (fun r => normF (1 - 0) (isq x) E (Builtin.Int.intBits (isq x) : Int) prec r) S prec := by
      refine core_norm E B01.zero hq hp rfl hD' (fun r => rfl) (by omega) (by omega) (by omega) (by omega) (by omega) fun m j wm vm hj => ?_
      rw [hS m j wm vm (hj rfl), vm, sv_pos rfl, sgR_grid, ← sq_sign0 hq (hj rfl)]
      congr 1; omega
    exact ⟨c.law, c.wf, c.sm, fin hq hD'⟩
  · have hD' : ∀ r, D r = normF 0 (isq x * 2 + 1) (E - 1) (Builtin.Int.intBits (isq x * 2 + 1) : Int) prec r := by
      intro r
      rw [hD]
      by_cases hr : r = .f ∨ r = .d
      · rw [if_pos hr, fme_pos hq, norm_down hq hr (by omega)]
      · rw [if_neg hr, if_neg hz, two_toNat, fme_pos (by omega)]
    have c : Core D (fun r => normF (1 - 0) (isq x * 2 + 1) (E - 1) (Builtin.Int.intBits (isq x * 2 + 1) : Int) prec r) S prec := by
      refine core_sticky B01.zero hq hp hD' (fun r => rfl) hbl hbq b2 b3 fun m j wm vm hj => ?_
      rw [hS m j wm vm (hj rfl), sv_pos rfl]
      exact sq_sign1 hq (hj rfl) (by omega) b
    exact ⟨c.law, c.wf, c.sm, fin (by omega) hD'⟩
theorem sh_facts (prec b : Int) : 4 ≤ shF prec b ∧ 2 * prec - b + 4 ≤ shF prec b ∧ (shF prec b ≤ 5 ∨ shF prec b ≤ 2 * prec - b + 5) ∧ shF prec b % 2 = 0 := by
  unfold shF
  rw [bitAnd_one]
  unfold maxI
  split <;> omega
/-- a root of a number above nought -/
theorem core_sqrt {D : Rnd → MP} {S : MP → Int} {a : MP} {prec : Int} (ha : Wf a) (a0 : a.sg = 0) (na : a.man ≠ 0) (sa : Sm 200 a) (hp : 1 ≤ prec) (hp' : prec ≤ 80)
    (hD : ∀ r, D r = sqrtF a prec r) (hS : ∀ m : MP, Wf m → S m = sgR (V a - V m * V m)) : CoreS D S prec := by
  have pa := ha.pos na
  have hab := ha.2.2.1
  have one := (bits_pos pa).2.2
  obtain ⟨sa1, sa2, sa3⟩ := sa
  have way : ∀ m e : Int, 0 < m → Builtin.Int.intBits m ≤ 201 → e % 2 = 0 → V a = (m : Rat) * p2 e → -201 ≤ e → e ≤ 200 → (∀ r, D r = sqcF m e (Builtin.Int.intBits m : Int) prec r) → CoreS D S prec := by
    intro m e hm hbm he hv e1 e2 hd
    obtain ⟨s1, s2, s3, s4⟩ := sh_facts prec (Builtin.Int.intBits m : Int)
    unfold sqcF at hd
    generalize shF prec (Builtin.Int.intBits m : Int) = sh at *
    have f1 : (e - sh).fdiv 2 = (e - sh) / 2 := Int.fdiv_eq_ediv_of_nonneg _ (by decide)
    have f2 : (e - (sh + 2)).fdiv 2 = (e - sh) / 2 - 1 := by rw [Int.fdiv_eq_ediv_of_nonneg _ (by decide)]; omega
    rw [f1, f2] at hd
    have onm := (bits_pos hm).2.2
    refine core_root hp ?_ hd ?_ (by omega) (by omega) fun m' j wm vm hj => ?_
    · have h3 := bits_low (k := sh.toNat) hm
      refine Int.le_trans ?_ h3
      rw [two_pow_cast, two_pow_cast]
      exact Int.ofNat_le.mpr (Nat.pow_le_pow_right (by decide) (by omega))
    · rw [bits_mul_pow hm]; omega
    · rw [hS m' wm, vm, hv, ← sgR_int]
      have e4 : p2 e = (((2 : Int) ^ sh.toNat : Int) : Rat) * (p2 ((e - sh) / 2) * p2 ((e - sh) / 2)) := by
        rw [p2_toNat (by omega), ← p2_add, ← p2_add]; congr 1; omega
      rw [e4, ← sgR_scale (x := ((m * 2 ^ sh.toNat - j * j : Int) : Rat)) (c := p2 ((e - sh) / 2) * p2 ((e - sh) / 2)) (Rat.mul_pos (p2_pos _) (p2_pos _)), Rat.intCast_sub, Rat.intCast_mul, Rat.intCast_mul]
      congr 1
      grind
  have hva : V a = (a.man : Rat) * p2 a.ex := by unfold V; rw [sv_pos a0]
  by_cases he : a.ex % 2 = 0
  · by_cases h1 : a.man = 1
    · -- the root of a power of four
      have hD' : ∀ r, D r = normF 0 1 (a.ex / 2) (Builtin.Int.intBits 1 : Int) prec r := by
        intro r
        rw [hD]; unfold sqrtF
        rw [if_neg na, bitAnd_one, if_pos he, if_pos h1, Int.fdiv_eq_ediv_of_nonneg _ (by decide), hab, h1]
      have c : Core D (fun r => normF (1 - 0) 1 (a.ex / 2) (Builtin.Int.intBits 1 : Int) prec r) S prec := by
        have hb1 := bits_1
        refine core_norm (a.ex / 2) B01.zero (by decide) hp rfl hD' (fun r => rfl) (by omega) (by omega) (by omega) (by omega) (by omega) fun m j wm vm hj => ?_
        rw [hS m wm, vm, sv_pos rfl, sgR_grid, hva, h1, ← sq_sign0 (by decide) (hj rfl), ← sgR_int]
        have e4 : p2 a.ex = p2 (a.ex / 2) * p2 (a.ex / 2) := by rw [← p2_add]; congr 1; omega
        rw [e4, ← sgR_scale (x := ((1 * 1 - j * j : Int) : Rat)) (c := p2 (a.ex / 2) * p2 (a.ex / 2)) (Rat.mul_pos (p2_pos _) (p2_pos _)), Rat.intCast_sub, Rat.intCast_mul, Rat.intCast_mul]
        congr 1
        grind
      refine ⟨c.law, c.wf, c.sm, ?_⟩
      rw [hD']
      obtain ⟨_, h2, _, _, _, h6⟩ := norm_wf (e := a.ex / 2) (r := .f) B01.zero (show (0 : Int) < 1 by decide) rfl hp
      unfold signF
      rw [if_neg (by omega), if_pos h6]
    · refine way a.man a.ex pa (by omega) he hva (by omega) (by omega) fun r => ?_
      rw [hD]; unfold sqrtF
      rw [if_neg na, bitAnd_one, if_pos he, if_neg h1, hab]
  · have hb := bits_mul_pow (q := a.man) (k := 1) pa
    refine way (a.man * 2 ^ 1) (a.ex - 1) (by omega) (by omega) (by omega) ?_ (by omega) (by omega) fun r => ?_
    · rw [hva, p2_half a.ex, Rat.intCast_mul, Int.pow_one]
      have c2 : ((2 : Int) : Rat) = 2 := rfl
      rw [c2]; grind
    · rw [hD]; unfold sqrtF
      rw [if_neg na, bitAnd_one, if_neg he, hb, hab]
      rfl
end
section
theorem fillK_L12 : (hd.heap_39 = hd.heap_39) ∧ PySem.Challenge.rw_aj5009_01 = PySem.Challenge.rw_aj5009_01 := by
  k_fill
  exact ⟨rfl, rfl⟩
/-! plain law, part 12: sums -/
theorem core_addN {D T : Rnd → MP} {S : MP → Int} {S0 e prec : Int} (hp : 1 ≤ prec) (hb : Builtin.Int.intBits S0 ≤ 400) (e1 : -500 ≤ e) (e2 : e ≤ 500)
    (hD : ∀ r, D r = addN S0 e prec r) (hT : ∀ r, T r = addN (-S0) e prec r) (hS : ∀ m : MP, Wf m → S m = sgR ((S0 : Rat) * p2 e - V m)) : Core D T S prec := by
  rcases Int.lt_trichotomy S0 0 with c | c | c
  · refine core_exact (sg := 1) (M := -S0) (E := e) B01.one (by omega) hp rfl (fun r => ?_) (fun r => ?_) (by rw [intBits_neg]; omega) e1 e2 fun m wm => ?_
    · rw [hD]; unfold addN; rw [if_neg (by omega), orP_pos _ (by omega)]
    · rw [hT]; unfold addN; rw [if_pos (by omega), orP_pos _ (by omega)]; rfl
    · rw [hS m wm]
      show _ = sgR (((-(-S0) : Int) : Rat) * _ - _)
      rw [Int.neg_neg]
  · refine core_zero (fun r => ?_) (fun r => ?_) ?_
    · rw [hD, c]; unfold addN; rw [if_pos (by decide), normF_zero]
    · rw [hT, c]; unfold addN; rw [if_pos (by decide)]; exact normF_zero _ _ _ _ _
    · rw [hS _ Wf_fzero, V_fzero, c, Rat.intCast_zero]; exact sgR_z (by grind)
  · refine core_exact (sg := 0) (M := S0) (E := e) B01.zero c hp rfl (fun r => ?_) (fun r => ?_) (by omega) e1 e2 fun m wm => hS m wm
    · rw [hD]; unfold addN; rw [if_pos (by omega), orP_pos _ (by omega)]
    · rw [hT]; unfold addN; rw [if_neg (by omega), orP_pos _ (by omega), Int.neg_neg]; rfl
/-- a grid's point and a little -/
theorem sg_near {k : Int} {P d e : Rat} (hP : 0 < P) (hd : -P < d ∧ d < P) (he : -P < e ∧ e < P) (hde : sgR d = sgR e) : sgR ((k : Rat) * P + d) = sgR ((k : Rat) * P + e) := by
  rcases Int.lt_trichotomy k 0 with c | c | c
  · have h1 : (k : Rat) ≤ ((-1 : Int) : Rat) := Rat.intCast_le_intCast.mpr (by omega)
    have h2 := Rat.mul_le_mul_of_nonneg_right h1 (Rat.le_of_lt hP)
    have h3 : ((-1 : Int) : Rat) * P = -P := by rw [Rat.intCast_neg, Rat.intCast_one]; grind
    rw [h3] at h2
    rw [sgR_ng (by grind), sgR_ng (by grind)]
  · rw [c, Rat.intCast_zero, Rat.zero_mul, Rat.zero_add, Rat.zero_add, hde]
  · have h1 : ((1 : Int) : Rat) ≤ (k : Rat) := Rat.intCast_le_intCast.mpr (by omega)
    have h2 := Rat.mul_le_mul_of_nonneg_right h1 (Rat.le_of_lt hP)
    rw [Rat.intCast_one, Rat.one_mul] at h2
    rw [sgR_pos (by grind), sgR_pos (by grind)]
theorem sv_one (s : Int) : sv s 1 = if s = 0 then 1 else -1 := rfl
theorem pert_bits {m : Int} {K : Nat} (hm : 0 < m) (hK : 1 ≤ K) :
    Builtin.Int.intBits (m * 2 ^ K + 1) = Builtin.Int.intBits m + K ∧ Builtin.Int.intBits m + K - 1 ≤ Builtin.Int.intBits (m * 2 ^ K - 1) ∧ Builtin.Int.intBits (m * 2 ^ K - 1) ≤ Builtin.Int.intBits m + K := by
  obtain ⟨a, b⟩ := bits_bound hm
  have c := (bits_pos hm).2.2
  have hp : (0 : Int) < 2 ^ K := Int.pow_pos (by decide)
  have h2 : (2 : Int) ≤ 2 ^ K := by
    obtain ⟨j, rfl⟩ : ∃ j, K = j + 1 := ⟨K - 1, by omega⟩
    rw [Int.pow_succ]
    have := one_le_pow2 j
    omega
  have lo : (2 : Int) ^ (Builtin.Int.intBits m - 1 + K) ≤ m * 2 ^ K := bits_low hm
  have up : m * 2 ^ K + 2 ^ K ≤ 2 ^ (Builtin.Int.intBits m + K) := by
    rw [Int.pow_add]
    have := Int.mul_le_mul_of_nonneg_right (show m + 1 ≤ 2 ^ Builtin.Int.intBits m by omega) (Int.le_of_lt hp)
    rw [Int.add_mul, Int.one_mul] at this
    exact this
  have hmk : 2 ^ K ≤ m * 2 ^ K := by
    have := Int.mul_le_mul_of_nonneg_right (show 1 ≤ m by omega) (Int.le_of_lt hp)
    omega
  refine ⟨?_, ?_, ?_⟩
  · refine bits_of_range (by omega) ?_ (by omega)
    rw [show Builtin.Int.intBits m + K - 1 = Builtin.Int.intBits m - 1 + K by omega]
    omega
  · have h5 := natAbs_lt_pow_bits (m * 2 ^ K - 1)
    refine Nat.le_of_not_lt fun hc => ?_
    have h7 : 2 ^ Builtin.Int.intBits (m * 2 ^ K - 1) ≤ 2 ^ (Builtin.Int.intBits m - 1 + K - 1) := Nat.pow_le_pow_right (by decide) (by omega)
    have h8 : (2 : Int) ^ (Builtin.Int.intBits m - 1 + K) = 2 * 2 ^ (Builtin.Int.intBits m - 1 + K - 1) := by
      rw [← Int.pow_succ']; congr 1; omega
    have h9 := one_le_pow2 (Builtin.Int.intBits m - 1 + K - 1)
    rw [h8] at lo
    rw [two_pow_cast] at lo h9
    omega
  · refine intBits_le ?_
    rw [two_pow_cast (Builtin.Int.intBits m + K)] at up
    omega
/-- a sum with one far below the other -/
theorem core_pert {D T : Rnd → MP} {S : MP → Int} {s t m e prec : Int} {d : Rat} (hs : B01 s) (ht : B01 t) (hm : 0 < m) (hp : 1 ≤ prec) (hp' : prec ≤ 80) (hb : (Builtin.Int.intBits m : Int) ≤ prec) (e1 : -300 ≤ e) (e2 : e ≤ 300)
    (hD : ∀ r, D r = pertF s t m e prec r) (hT : ∀ r, T r = pertF (1 - s) (1 - t) m e prec r)
    (hd0 : 0 < d) (hd1 : d < p2 (e + (Builtin.Int.intBits m : Int) - prec - 5))
    (hS : ∀ x : MP, Wf x → S x = sgR ((sv s m : Int) * p2 e + (sv t 1 : Int) * d - V x)) : Core D T S prec := by
  obtain ⟨b1, b2, b3⟩ := pert_bits (K := (prec + 4).toNat) hm (by omega)
  have hbm := (bits_pos hm).2.2
  have hK : (((prec + 4).toNat : Nat) : Int) = prec + 4 := Int.toNat_of_nonneg (by omega)
  have hx : 0 < m * 2 ^ (prec + 4).toNat := Int.mul_pos hm (Int.pow_pos (by decide))
  have hx2 : 2 ≤ m * 2 ^ (prec + 4).toNat := by
    obtain ⟨j, hj⟩ : ∃ j, (prec + 4).toNat = j + 1 := ⟨(prec + 4).toNat - 1, by omega⟩
    rw [hj, Int.pow_succ, ← Int.mul_assoc]
    have : 0 < m * 2 ^ j := Int.mul_pos hm (Int.pow_pos (by decide))
    omega
  -- the two ways alike
  have go : ∀ (u : Int), (u = 1 ∨ u = -1) → sv s u = sv t 1 → (Builtin.Int.intBits (m * 2 ^ (prec + 4).toNat + u) : Int) ≤ (Builtin.Int.intBits m : Int) + prec + 4 → (Builtin.Int.intBits m : Int) + prec + 3 ≤ (Builtin.Int.intBits (m * 2 ^ (prec + 4).toNat + u) : Int) →
      (∀ r, D r = normF s (m * 2 ^ (prec + 4).toNat + u) (e - (prec + 4)) (Builtin.Int.intBits (m * 2 ^ (prec + 4).toNat + u) : Int) prec r) →
      (∀ r, T r = normF (1 - s) (m * 2 ^ (prec + 4).toNat + u) (e - (prec + 4)) (Builtin.Int.intBits (m * 2 ^ (prec + 4).toNat + u) : Int) prec r) → Core D T S prec := by
    intro u hu hsu h1 h2 hd ht'
    refine core_norm (e - (prec + 4) + ((Builtin.Int.intBits (m * 2 ^ (prec + 4).toNat + u) : Int) - prec) - 1) hs (by omega) hp rfl hd ht' (by omega) (by omega) (by omega) (by omega) (by omega) fun x j wx vx _ => ?_
    generalize (Builtin.Int.intBits (m * 2 ^ (prec + 4).toNat + u) : Int) = B at *
    generalize hG : e - (prec + 4) + (B - prec) - 1 = G at *
    have hGe : G ≤ e := by omega
    have hEG : e - (prec + 4) < G := by omega
    rw [hS x wx, vx]
    have hPp := p2_pos G
    have s1 : ((sv s m : Int) : Rat) * p2 e = ((sv s m * 2 ^ (e - G).toNat : Int) : Rat) * p2 G := scale_int hGe _
    have s2 : ((sv s (m * 2 ^ (prec + 4).toNat + u) : Int) : Rat) * p2 (e - (prec + 4)) = ((sv s m : Int) : Rat) * p2 e + ((sv t 1 : Int) : Rat) * p2 (e - (prec + 4)) := by
      have q1 : sv s (m * 2 ^ (prec + 4).toNat + u) = sv s m * 2 ^ (prec + 4).toNat + sv t 1 := by
        rw [← hsu, ← sv_mul]; unfold sv; split <;> omega
      have q2 : p2 e = p2 (e - (prec + 4)) * p2 (prec + 4) := p2_split _ (by omega)
      rw [q1, q2, Rat.intCast_add, Rat.intCast_mul, p2_toNat (by omega)]
      grind
    rw [s2, s1]
    have r1 : ∀ z : Rat, ((sv s m * 2 ^ (e - G).toNat : Int) : Rat) * p2 G + z - (j : Rat) * p2 G = ((sv s m * 2 ^ (e - G).toNat - j : Int) : Rat) * p2 G + z := by
      intro z; rw [Rat.intCast_sub]; grind
    rw [r1, r1]
    have hE := p2_pos (e - (prec + 4))
    have hE2 : p2 (e - (prec + 4)) < p2 G := by
      have q1 : p2 (e - (prec + 4) + 1) ≤ p2 G := p2_le (by omega)
      have q2 : p2 (e - (prec + 4) + 1) = p2 (e - (prec + 4)) * 2 := by rw [p2_add, p2_one]
      grind
    have hdG : d < p2 G := by
      have q1 := p2_le (show e + (Builtin.Int.intBits m : Int) - prec - 5 ≤ G by omega)
      grind
    rcases ht.out with t0 | t0
    · rw [t0, sv_pos rfl, Rat.intCast_one, Rat.one_mul, Rat.one_mul]
      exact sg_near hPp ⟨by grind, hdG⟩ ⟨by grind, hE2⟩ (by rw [sgR_pos hd0, sgR_pos hE])
    · have e3 : ((sv 1 1 : Int) : Rat) = -1 := rfl
      rw [t0, e3]
      exact sg_near hPp ⟨by grind, by grind⟩ ⟨by grind, by grind⟩ (by rw [sgR_ng (by grind), sgR_ng (by grind)])
  by_cases hts : t = s
  · refine go 1 (.inl rfl) (by rw [hts]) (by omega) (by omega) (fun r => ?_) (fun r => ?_)
    · rw [hD]; unfold pertF; rw [if_pos hts]
    · rw [hT]; unfold pertF; rw [if_pos (by omega)]
  · refine go (-1) (.inr rfl) ?_ (by rw [← Int.sub_eq_add_neg]; omega) (by rw [← Int.sub_eq_add_neg]; omega) (fun r => ?_) (fun r => ?_)
    · rcases hs.out with h | h <;> rcases ht.out with h' | h' <;> rw [h, h'] <;> first | rfl | (exfalso; omega)
    · rw [hD]; unfold pertF; rw [if_neg hts]; rfl
    · rw [hT]; unfold pertF; rw [if_neg (by omega)]; rfl
theorem sv_unit {t m e : Int} : ((sv t m : Int) : Rat) * p2 e = ((sv t 1 : Int) : Rat) * ((m : Rat) * p2 e) := by
  have : sv t m = sv t 1 * m := by rw [← sv_mul, Int.one_mul]
  rw [this, Rat.intCast_mul]; grind
theorem core_add {D T : Rnd → MP} {S : MP → Int} {a b : MP} {ts ts' prec : Int} (ha : Wf a) (hb : Wf b) (sa : Sm 200 a) (sb : Sm 200 b) (hts : B01 ts) (hts' : b.man ≠ 0 → ts' = 1 - ts) (hp : 1 ≤ prec) (hp' : prec ≤ 80)
    (ba : a.bc ≤ prec) (bb : b.bc ≤ prec) (hab : a.bc ≤ 30 ∧ b.bc ≤ 30 ∧ a.ex - b.ex ≤ 300 ∧ b.ex - a.ex ≤ 300)
    (hD : ∀ r, D r = addF a b ts prec r) (hT : ∀ r, T r = addF (negF a) (negF b) ts' prec r)
    (hS : ∀ m : MP, Wf m → S m = sgR (V a + (sv ts b.man : Int) * p2 b.ex - V m)) : Core D T S prec := by
  have a2 := sa.2
  have b2 := sb.2
  have hpne : prec ≠ 0 := by omega
  by_cases na : a.man = 0
  · rw [V_zero na] at hS
    rw [negF_zero na] at hT
    by_cases nb : b.man = 0
    · rw [negF_zero nb] at hT
      refine core_zero (fun r => ?_) (fun r => ?_) ?_
      · rw [hD]; unfold addF; rw [if_pos na, if_pos nb]
      · rw [hT]; unfold addF; rw [if_pos na, if_pos nb]
      · rw [hS _ Wf_fzero, V_fzero, nb, sv_zero, Rat.intCast_zero]; exact sgR_z (by grind)
    · obtain ⟨n1, n2, n3, n4⟩ := negF_parts nb
      refine core_exact (sg := ts) (M := b.man) (E := b.ex) (B := b.bc) hts (hb.pos nb) hp hb.2.2.1 (fun r => ?_) (fun r => ?_) (by omega) (by omega) (by omega) fun m wm => ?_
      · rw [hD]; unfold addF; rw [if_pos na, if_neg nb, orP_pos _ hpne]
      · rw [hT]; unfold addF; rw [n2, n3, n4, if_pos na, if_neg nb, orP_pos _ hpne, hts' nb]
      · rw [hS m wm]; congr 1; grind
  obtain ⟨k1, k2, k3, k4⟩ := negF_parts na
  by_cases nb : b.man = 0
  · rw [negF_zero nb] at hT
    refine core_exact (sg := a.sg) (M := a.man) (E := a.ex) (B := a.bc) ha.b01 (ha.pos na) hp ha.2.2.1 (fun r => ?_) (fun r => ?_) (by omega) (by omega) (by omega) fun m wm => ?_
    · rw [hD]; unfold addF; rw [if_neg na, if_pos nb, orP_pos _ hpne]
    · rw [hT]; unfold addF; rw [k1, k2, k3, k4, if_neg na, if_pos nb, orP_pos _ hpne]
    · rw [hS m wm, nb, sv_zero, Rat.intCast_zero]; congr 1; unfold V; grind
  obtain ⟨n1, n2, n3, n4⟩ := negF_parts nb
  have pa := ha.pos na
  have pb := hb.pos nb
  have hba := ha.2.2.1
  have hbb := hb.2.2.1
  have ua := (V_bound ha na).2
  have ub := (V_bound hb nb).2
  have va : 0 < (a.man : Rat) * p2 a.ex := Rat.mul_pos (Rat.intCast_pos.mpr pa) (p2_pos _)
  have vb : 0 < (b.man : Rat) * p2 b.ex := Rat.mul_pos (Rat.intCast_pos.mpr pb) (p2_pos _)
  have hT' : ∀ r, T r = addF ⟨1 - a.sg, a.man, a.ex, a.bc⟩ ⟨1 - b.sg, b.man, b.ex, b.bc⟩ (1 - ts) prec r := by
    intro r
    rw [hT, hts' nb]; unfold negF; rw [if_neg na, if_neg nb]
  have sgn : ∀ x : Int, sv (1 - a.sg) x = -sv a.sg x := fun x => sv_neg ha.b01
  have sgt : ∀ x : Int, sv (1 - ts) x = -sv ts x := fun x => sv_neg hts
  have bA : Builtin.Int.intBits a.man ≤ 30 := by omega
  have bB : Builtin.Int.intBits b.man ≤ 30 := by omega
  by_cases c1 : 0 < a.ex - b.ex
  · by_cases c2 : 100 < a.ex - b.ex ∧ prec ≠ 0 ∧ prec + 4 < a.bc + a.ex - b.bc - b.ex
    · refine core_pert (s := a.sg) (t := ts) (m := a.man) (e := a.ex) (d := (b.man : Rat) * p2 b.ex) ha.b01 hts pa hp hp' (by omega) (by omega) (by omega) (fun r => ?_) (fun r => ?_) vb ?_ fun m wm => ?_
      · rw [hD]; unfold addF; rw [if_neg na, if_neg nb, if_pos c1, if_pos c2]
      · rw [hT']; unfold addF; dsimp only; rw [if_neg na, if_neg nb, if_pos c1, if_pos c2]
      · have := p2_le (show b.bc + b.ex ≤ a.ex + (Builtin.Int.intBits a.man : Int) - prec - 5 by omega)
        grind
      · rw [hS m wm, ← sv_unit]; rfl
    · refine core_addN (S0 := sv a.sg (a.man * 2 ^ (a.ex - b.ex).toNat) + sv ts b.man) (e := b.ex) hp ?_ (by omega) (by omega) (fun r => ?_) (fun r => ?_) fun m wm => ?_
      · have h1 := sv_bits (s := a.sg) (bits_shl (K := 300) (rfl : a.man * 2 ^ (a.ex - b.ex).toNat = _) bA (by omega))
        exact bits_mono (bits_addM h1 (sv_bits (s := ts) bB)) (by omega)
      · rw [hD]; unfold addF; rw [if_neg na, if_neg nb, if_pos c1, if_neg c2]
      · rw [hT']; unfold addF; dsimp only; rw [if_neg na, if_neg nb, if_pos c1, if_neg c2, sgn, sgt, Int.neg_add]
      · rw [hS m wm, sum_up (Int.le_of_lt c1)]; rfl
  · by_cases c3 : a.ex - b.ex < 0
    · by_cases c2 : a.ex - b.ex < -100 ∧ prec ≠ 0 ∧ prec + 4 < b.bc + b.ex - a.bc - a.ex
      · refine core_pert (s := ts) (t := a.sg) (m := b.man) (e := b.ex) (d := (a.man : Rat) * p2 a.ex) hts ha.b01 pb hp hp' (by omega) (by omega) (by omega) (fun r => ?_) (fun r => ?_) va ?_ fun m wm => ?_
        · rw [hD]; unfold addF; rw [if_neg na, if_neg nb, if_neg c1, if_pos c3, if_pos c2]
        · rw [hT']; unfold addF; dsimp only; rw [if_neg na, if_neg nb, if_neg c1, if_pos c3, if_pos c2]
        · have := p2_le (show a.bc + a.ex ≤ b.ex + (Builtin.Int.intBits b.man : Int) - prec - 5 by omega)
          grind
        · rw [hS m wm, ← sv_unit]; congr 1; unfold V; grind
      · refine core_addN (S0 := sv a.sg a.man + sv ts (b.man * 2 ^ (-(a.ex - b.ex)).toNat)) (e := a.ex) hp ?_ (by omega) (by omega) (fun r => ?_) (fun r => ?_) fun m wm => ?_
        · have h1 := sv_bits (s := ts) (bits_shl (K := 300) (rfl : b.man * 2 ^ (-(a.ex - b.ex)).toNat = _) bB (by omega))
          exact bits_mono (bits_addM (sv_bits (s := a.sg) bA) h1) (by omega)
        · rw [hD]; unfold addF; rw [if_neg na, if_neg nb, if_neg c1, if_pos c3, if_neg c2]
        · rw [hT']; unfold addF; dsimp only; rw [if_neg na, if_neg nb, if_neg c1, if_pos c3, if_neg c2, sgn, sgt, Int.neg_add]
        · rw [hS m wm, sum_dn (Int.le_of_lt c3)]; rfl
    · refine core_addN (S0 := sv a.sg a.man + sv ts b.man) (e := b.ex) hp ?_ (by omega) (by omega) (fun r => ?_) (fun r => ?_) fun m wm => ?_
      · exact bits_mono (bits_addM (sv_bits (s := a.sg) bA) (sv_bits (s := ts) bB)) (by omega)
      · rw [hD]; unfold addF; rw [if_neg na, if_neg nb, if_neg c1, if_neg c3]
      · rw [hT']; unfold addF; dsimp only; rw [if_neg na, if_neg nb, if_neg c1, if_neg c3, sgn, sgt, Int.neg_add]
      · rw [hS m wm, sum_eq (show a.ex = b.ex by omega)]; rfl
end
section
theorem fillK_L13 : (hd.heap_39 = hd.heap_39) ∧ PySem.Challenge.rw_aj5009_01 = PySem.Challenge.rw_aj5009_01 := by
  k_fill
  exact ⟨rfl, rfl⟩
/-! plain law, part 13: all kinds -/
structure KindOK (kind : Int) (s t : MP) (n q prec : Int) : Prop where
  law : LawOK (fun r => doneF kind s t n q prec r) (fun m => sideF kind s t n q m) prec
  wf : ∀ r, Wf (doneF kind s t n q prec r)
  sm : ∀ r, Sm 1000 (doneF kind s t n q prec r)
  root : kind = 4 → signF (doneF kind s t n q prec .f) = signF (absF s)
  turn : kind ≠ 4 → ∀ r, turnedF kind s t n q prec r = negF (doneF kind s t n q prec (flipR r))
theorem KindOK.of {kind : Int} {s t : MP} {n q prec : Int} (k : kind ≠ 4) {D T : Rnd → MP} {S : MP → Int} (hD : ∀ r, doneF kind s t n q prec r = D r) (hT : ∀ r, turnedF kind s t n q prec r = T r) (hS : ∀ m, sideF kind s t n q m = S m) (c : Core D T S prec) : KindOK kind s t n q prec := by
  have e1 : (fun r => doneF kind s t n q prec r) = D := funext hD
  have e2 : (fun m => sideF kind s t n q m) = S := funext hS
  refine ⟨by rw [e1, e2]; exact c.law, fun r => by rw [hD]; exact c.wf r, fun r => by rw [hD]; exact c.sm r, fun h => absurd h k, fun _ r => by rw [hT, hD]; exact c.turn r⟩
theorem kind_ok {kind : Int} {s t : MP} {n q prec : Int} (ws : Wf s) (wt : Wf t) (bs : s.bc ≤ 30) (bt : t.bc ≤ 30) (es : -90 ≤ s.ex ∧ s.ex ≤ 90) (et : -180 ≤ t.ex ∧ t.ex ≤ 180) (est : s.ex - t.ex ≤ 300 ∧ t.ex - s.ex ≤ 300)
    (hn : Builtin.Int.intBits n ≤ 60) (hq : Builtin.Int.intBits q ≤ 60) (q0 : 0 < q) (hp : 30 ≤ prec) (hp' : prec ≤ 80) (k0 : 0 ≤ kind) (k8 : kind ≤ 8) (e3 : kind = 3 → t.man ≠ 0 ∧ -90 ≤ t.ex ∧ t.ex ≤ 90) (e6 : kind = 6 → t.man ≠ 0 ∧ -90 ≤ t.ex ∧ t.ex ≤ 90) : KindOK kind s t n q prec := by
  have s200 : Sm 200 s := ⟨by omega, by omega, by omega⟩
  have t200 : Sm 200 t := ⟨by omega, by omega, by omega⟩
  have t100 : (-90 ≤ t.ex ∧ t.ex ≤ 90) → Sm 100 t := fun h => ⟨by omega, by omega, by omega⟩
  have hp1 : 1 ≤ prec := by omega
  have wns := neg_wf ws
  have wnt := neg_wf wt
  rcases (by omega : kind = 0 ∨ kind = 1 ∨ kind = 2 ∨ kind = 3 ∨ kind = 4 ∨ kind = 5 ∨ kind = 6 ∨ kind = 7 ∨ kind = 8) with rfl | rfl | rfl | rfl | rfl | rfl | rfl | rfl | rfl
  · refine KindOK.of (by decide) (fun r => rfl) (fun r => rfl) (fun m => rfl) ?_
    refine core_add (ts := Builtin.bitXor t.sg 0) (ts' := Builtin.bitXor (negF t).sg 0) ws wt s200 t200 (wt.b01.xor B01.zero) (fun nb => ?_) hp1 hp' (by omega) (by omega) ⟨bs, bt, est⟩ (fun r => rfl) (fun r => rfl) fun m wm => ?_
    · rw [xor_zero wt.b01, xor_zero wnt.b01, (negF_parts nb).1]
    · show cmpF (addF s t (Builtin.bitXor t.sg 0) 0 .d) m = _
      rw [cmp_spec (add0_wf ws wt (wt.b01.xor B01.zero)) wm, add_V ws wt]
  · refine KindOK.of (by decide) (fun r => rfl) (fun r => rfl) (fun m => rfl) ?_
    refine core_add (ts := Builtin.bitXor t.sg 1) (ts' := Builtin.bitXor (negF t).sg 1) ws wt s200 t200 (wt.b01.xor B01.one) (fun nb => ?_) hp1 hp' (by omega) (by omega) ⟨bs, bt, est⟩ (fun r => rfl) (fun r => rfl) fun m wm => ?_
    · rw [xor_one wt.b01, xor_one wnt.b01, (negF_parts nb).1]
    · show cmpF (addF s (negF t) (Builtin.bitXor (negF t).sg 0) 0 .d) m = _
      rw [cmp_spec (add0_wf ws wnt (wnt.b01.xor B01.zero)) wm, add_V0 ws wnt, neg_V wt, xor_one wt.b01, sv_neg wt.b01, Rat.intCast_neg, Rat.neg_mul]
      rfl
  · refine KindOK.of (by decide) (fun r => rfl) (fun r => rfl) (fun m => rfl) ?_
    refine core_mul ws wt s200 t200 hp1 (fun r => rfl) (fun r => rfl) fun m wm => ?_
    show cmpF (mulF s t 0 .d) m = _
    rw [cmp_spec (mul0_wf ws wt) wm, mul_V0 ws wt]
  · obtain ⟨nt, et'⟩ := e3 rfl
    refine KindOK.of (by decide) (fun r => rfl) (fun r => rfl) (fun m => rfl) ?_
    refine core_div ws wt s200 (t100 et') hp1 hp' (by omega) nt (fun r => rfl) (fun r => rfl) fun m wm => ?_
    show cmpF s (mulF m t 0 .d) * signF t = _
    rw [cmp_spec ws (mul0_wf wm wt), mul_V0 wm wt]
  · -- the root
    obtain ⟨wa, a0⟩ := abs_wf ws
    have sa : Sm 200 (absF s) := abs_sm s200
    have hD : (fun r => doneF 4 s t n q prec r) = fun r => sqrtF (absF s) prec r := rfl
    have hS : (fun m => sideF 4 s t n q m) = fun m => cmpF (absF s) (mulF m m 0 .d) := rfl
    have am : (absF s).man = s.man := by unfold absF; split <;> rfl
    by_cases ns : s.man = 0
    · have e0 : ∀ r, sqrtF (absF s) prec r = fzero := by
        intro r; unfold sqrtF; rw [if_pos (by omega)]; exact wa.zero (by omega)
      refine ⟨?_, fun r => ?_, fun r => ?_, fun _ => ?_, fun h => absurd rfl h⟩
      · rw [hD, hS]
        refine law_zero e0 ?_
        rw [cmp_spec wa (mul0_wf Wf_fzero Wf_fzero), mul_V0 Wf_fzero Wf_fzero, V_fzero, V_zero (show (absF s).man = 0 by omega)]
        exact sgR_z (by grind)
      · show Wf (sqrtF (absF s) prec r); rw [e0]; exact Wf_fzero
      · show Sm 1000 (sqrtF (absF s) prec r); rw [e0]; exact Sm_fzero (by decide)
      · show signF (sqrtF (absF s) prec .f) = _
        rw [e0, wa.zero (by omega)]
    · have c : CoreS (fun r => sqrtF (absF s) prec r) (fun m => cmpF (absF s) (mulF m m 0 .d)) prec := by
        refine core_sqrt wa a0 (by omega) sa hp1 hp' (fun r => rfl) fun m wm => ?_
        rw [cmp_spec wa (mul0_wf wm wm), mul_V0 wm wm]
      refine ⟨by rw [hD, hS]; exact c.law, c.wf, c.sm, fun _ => ?_, fun h => absurd rfl h⟩
      show signF (sqrtF (absF s) prec .f) = _
      rw [c.pos]
      unfold signF; rw [if_neg (by omega), if_pos a0]
  · refine KindOK.of (by decide) (fun r => rfl) (fun r => rfl) (fun m => rfl) ?_
    refine core_mulint ws s200 hn hp1 (fun r => rfl) (fun r => rfl) fun m wm => ?_
    show cmpF (mulF s (fme0 n 0) 0 .d) m = _
    rw [cmp_spec (mul0_wf ws (fme0_wf n)) wm, mul_V0 ws (fme0_wf n), int_V]
  · obtain ⟨nt, et'⟩ := e6 rfl
    refine KindOK.of (by decide) (fun r => rfl) (fun r => rfl) (fun m => rfl) ?_
    refine core_rdiv wt (t100 et') hn hp1 hp' nt (fun r => rfl) (fun r => rfl) fun m wm => ?_
    show cmpF (fme0 n 0) (mulF m t 0 .d) * signF t = _
    rw [cmp_spec (fme0_wf n) (mul0_wf wm wt), mul_V0 wm wt, int_V]
  · have wn := fme0_wf n
    have wq := fme0_wf q
    have mq := fme0_man (show q ≠ 0 by omega)
    have snn : Sm 60 (fme0 n 0) := fme0_sm hn
    have sqq : Sm 60 (fme0 q 0) := fme0_sm hq
    have ng : fme0 (-n) 0 = negF (fme0 n 0) := V_inj (fme0_wf _) (neg_wf wn) (by rw [neg_V wn, int_V, int_V, Rat.intCast_neg])
    have sq1 : signF (fme0 q 0) = 1 := by rw [signF_V wq, int_V, sgR_int]; unfold sgI; rw [if_pos q0]
    refine KindOK.of (by decide) (fun r => rfl) (fun r => rfl) (fun m => rfl) ?_
    refine core_div wn wq (snn.mono (by decide)) (sqq.mono (by decide)) hp1 hp' snn.1 mq (fun r => rfl) (fun r => ?_) fun m wm => ?_
    · show divF (fme0 (-n) 0) (fme0 q 0) prec r = _
      rw [ng]
    · show cmpF (fme0 n 0) (mulF m (fme0 q 0) 0 .d) = _
      rw [cmp_spec wn (mul0_wf wm wq), mul_V0 wm wq, sq1, Int.mul_one]
  · have key : ∀ (a : MP), Wf a → ∀ r, normF (mulF a t 0 .d).sg (mulF a t 0 .d).man (mulF a t 0 .d).ex (mulF a t 0 .d).bc prec r = mulF a t prec r := by
      intro a wa r
      unfold mulF
      by_cases h : a.man * t.man = 0
      · rw [if_pos h, if_pos h]; exact normF_zero _ _ _ _ _
      · rw [if_neg h, if_neg h, if_pos rfl, if_neg (by omega)]
    refine KindOK.of (by decide) (D := fun r => mulF s t prec r) (T := fun r => mulF (negF s) t prec r) (fun r => key s ws r) (fun r => key (negF s) wns r) (fun m => rfl) ?_
    refine core_mul ws wt s200 t200 hp1 (fun r => rfl) (fun r => rfl) fun m wm => ?_
    show cmpF (mulF s t 0 .d) m = _
    rw [cmp_spec (mul0_wf ws wt) wm, mul_V0 ws wt]
end
section
theorem fillK_P19 : (hd.heap_39 = hd.heap_39) ∧ PySem.Challenge.rw_aj5009_01 = PySem.Challenge.rw_aj5009_01 := by
  k_fill
  exact ⟨rfl, rfl⟩
theorem mp_canLay (q : MP) : (mpData q).canLay0 = true := by simp [mpData, PyData.canLay0, PyData.canLayAll0]
theorem mp_depth (q : MP) : (mpData q).depth = 1 := by simp [mpData, PyData.depth, PyData.depthAll]
section
variable {prog : Program} {w : World} {A : Around} {E : Value → Shared → Prop} {s : Shared} {h₀ : Heap} {L : Addr} {m : Str → Option Value} {news : Led}
theorem inH {LA D D1 D2 : Addr} {q q1 q2 : MP} {n : Nat} {Q : Value → Shared → Prop} (F : Fr h₀ L s.heap m) (N : News h₀ L s.heap news) (X : (hd.heap_39 w.params).In h₀) (hL : (LA, W.listOf #[.ref D1, .ref D2] n) ∈ news)
    (H : TupH w news D q) (H1 : TupH w news D1 q1) (H2 : TupH w news D2 q2) (hin : q = q1 ∨ q = q2) (hu : A.units + 65 < cLine) (h : Q (.bool true) s) : wpAny (model prog w) A (compareOp .In (.ref D) (.ref LA)) Q E s := by
  obtain ⟨as, r⟩ := H.reads F N X
  obtain ⟨as1, r1⟩ := H1.reads F N X
  obtain ⟨as2, r2⟩ := H2.reads F N X
  have rl : Reads s.heap (.ref LA) (.list [mpData q1, mpData q2]) (LA :: (as1 ++ (as2 ++ []))) := reads_list_at (N.get hL) rfl rfl (.cons r1 (.cons r2 .nil))
  refine SeqAt.in_list_reads rl r ?_ (mp_canLay q) ?_ ?_
  · simp [PyData.canLayAll0, mp_canLay]
  · have := Nat.min_le_right (PyData.depthAll [mpData q1, mpData q2]) (mpData q).depth
    have := mp_depth q
    omega
  · have e : ([mpData q1, mpData q2].any fun y => PyData.eqv y (mpData q)) = true := by
      simp only [List.any_cons, List.any_nil, mpData_eqv]
      rcases hin with rfl | rfl <;> simp
    rw [e]
    exact h
theorem eqH_t {D D' : Addr} {q q' : MP} {Q : Value → Shared → Prop} (F : Fr h₀ L s.heap m) (N : News h₀ L s.heap news) (X : (hd.heap_39 w.params).In h₀) (H : TupH w news D q) (H' : TupH w news D' q') (he : q = q') (hu : A.units + 64 < cLine)
    (h : Q (.bool true) s) : wpAny (model prog w) A (compareOp .Eq (.ref D) (.ref D')) Q E s :=
  eqH F N X H H' hu (by rw [decide_eq_true he]; exact h)
theorem eqH_f {D D' : Addr} {q q' : MP} {Q : Value → Shared → Prop} (F : Fr h₀ L s.heap m) (N : News h₀ L s.heap news) (X : (hd.heap_39 w.params).In h₀) (H : TupH w news D q) (H' : TupH w news D' q') (he : q ≠ q') (hu : A.units + 64 < cLine)
    (h : Q (.bool false) s) : wpAny (model prog w) A (compareOp .Eq (.ref D) (.ref D')) Q E s :=
  eqH F N X H H' hu (by rw [decide_eq_false he]; exact h)
theorem neH_f {D D' : Addr} {q q' : MP} {Q : Value → Shared → Prop} (F : Fr h₀ L s.heap m) (N : News h₀ L s.heap news) (X : (hd.heap_39 w.params).In h₀) (H : TupH w news D q) (H' : TupH w news D' q') (he : q = q') (hu : A.units + 64 < cLine)
    (h : Q (.bool false) s) : wpAny (model prog w) A (compareOp .NotEq (.ref D) (.ref D')) Q E s :=
  neH F N X H H' hu (by rw [decide_eq_true he]; exact h)
end
end
section
theorem fillK_W19 : (hd.heap_39 = hd.heap_39) ∧ PySem.Challenge.rw_aj5009_01 = PySem.Challenge.rw_aj5009_01 := by
  k_fill
  exact ⟨rfl, rfl⟩
local macro_rules | `(tactic| k_extra "units65") => `(tactic| first | omega | exact Nat.le_of_ble_eq_true rfl | ((try dsimp only [ktrTop, Around.deeper, Around.in1]); omega))
local macro_rules | `(tactic| k_extra "my compareOp In ref ref") => `(tactic| (k_here; (with_reducible show wpAny _ _ (compareOp CmpOp.In (Value.ref _) (Value.ref _)) _ _ _); k_dflt (refine' inH ?F ?N ?X ?hL ?H ?H1 ?H2 ?hi ?u ?_; (case F => k_asm); (case N => k_asm); (case X => k_asm); (case hL => k_mem); (case H => k_extra "tuph"); (case H1 => k_extra "tuph"); (case H2 => k_extra "tuph"); (case hi => with_reducible assumption); (case u => k_extra "units65"))))
local macro_rules | `(tactic| k_extra "my compareOp Eq ref ref") => `(tactic| (k_here; (with_reducible show wpAny _ _ (compareOp CmpOp.Eq (Value.ref _) (Value.ref _)) _ _ _); k_dflt (refine' eqH_t ?F ?N ?X ?H ?H' ?e ?u ?_; (case F => k_asm); (case N => k_asm); (case X => k_asm); (case H => k_extra "tuph"); (case H' => k_extra "tuph"); (case e => with_reducible first | assumption | rfl); (case u => k_extra "units64"))))
local macro_rules | `(tactic| k_extra "my compareOp NotEq ref ref") => `(tactic| (k_here; (with_reducible show wpAny _ _ (compareOp CmpOp.NotEq (Value.ref _) (Value.ref _)) _ _ _); k_dflt (refine' neH_f ?F ?N ?X ?H ?H' ?e ?u ?_; (case F => k_asm); (case N => k_asm); (case X => k_asm); (case H => k_extra "tuph"); (case H' => k_extra "tuph"); (case e => with_reducible first | assumption | rfl); (case u => k_extra "units64"))))
local macro_rules | `(tactic| k_extra "my call ref") => `(tactic| (k_here; (with_reducible show wpAny _ _ (call (Value.ref 163) [Value.ref _, Value.ref _]) _ _ _); k_dflt (refine' Tl.use (c_sub2 _ _ _ _ _ _ ?h0 ?h1 ?h2 ?h3 ?h4 ?h5) ?k1 ?k2 ?k3 ?k4 ?k5 ?kK ?kd ?ku ?_; (case k2 => k_asm); (case k4 => k_asm); (case h0 => k_extra "prem"); (case h1 => k_extra "prem"); (case h2 => k_extra "prem"); (case h3 => k_extra "prem"); (case h4 => k_extra "prem"); (case h5 => k_extra "prem"); k_extra "tlargs2"); k_extra "tltup"))
local macro_rules | `(tactic| k_extra "my call ref") => `(tactic| (k_here; (with_reducible show wpAny _ _ (call (Value.ref 147) [Value.ref _]) _ _ _); k_dflt (refine' Tl.use (c_sign _ _ _ _ ?h0 ?h1) ?k1 ?k2 ?k3 ?k4 ?k5 ?kK ?kd ?ku ?_; (case k2 => k_asm); (case k4 => k_asm); (case h0 => k_extra "prem"); (case h1 => k_extra "prem"); k_extra "tlargs2"); k_extra "tlint"))
local macro_rules | `(tactic| k_extra "finap") => `(tactic| (
    rename (∀ r nw' h' tk', Fr _ _ h' _ → News _ _ h' nw' → Sub _ nw' → _ → _) => hret
    refine hret _ _ _ _ (by k_asm) (by k_asm) (by k_extra "subl") ?_
    first
    | rfl
    | exact congrArg Value.bool (decide_eq_true (by omega))
    | fail "finap"))
set_option maxRecDepth 100000 in
set_option maxHeartbeats 8000000 in
theorem c_apart (w : World) (news : Led) (D1 D2 D3 : Addr) (low high near : MP) (prec middle : Int) (t1 t2 : Tok) (H1 : TupH w news D1 low) (H2 : TupH w news D2 high) (H3 : TupH w news D3 near)
    (wl : Wf low) (wh : Wf high) (sl : Sm 100000 low) (sh : Sm 100000 high) (A : Apart low high near prec middle) :
    Tl w 252 [.ref D1, .ref D2, .ref D3, .int prec t1, .int middle t2] 8 news (fun nw r' => r' = .bool true) := by
  have hz : Bnd [Str.ofString "low", Str.ofString "high", Str.ofString "near", Str.ofString "prec", Str.ofString "middle", Str.ofString "gap", Str.ofString "small", Str.ofString "great"] [some (.ref D1), some (.ref D2), some (.ref D3), some (.int prec t1), some (.int middle t2), none, none, none] [(Str.ofString "low", .ref D1), (Str.ofString "high", .ref D2), (Str.ofString "near", .ref D3), (Str.ofString "prec", .int prec t1), (Str.ofString "middle", .int middle t2)] := by k_extra "bnd"
  obtain ⟨g1, g2, g2', g3, g4, m1, m2, m3⟩ := A
  unfold gapF at g1 g2 g2' g3 g4 m3
  have i1 : mpAt (addF high low (Builtin.bitXor low.sg 1) 0 .d) 1 = (addF high low (Builtin.bitXor low.sg 1) 0 .d).man := rfl
  have i2 : mpAt (addF high low (Builtin.bitXor low.sg 1) 0 .d) 2 = (addF high low (Builtin.bitXor low.sg 1) 0 .d).ex := rfl
  have i3 : mpAt low 2 = low.ex := rfl
  have i4 : mpAt low 3 = low.bc := rfl
  have i5 : mpAt high 2 = high.ex := rfl
  have i6 : mpAt near 2 = near.ex := rfl
  have i7 : mpAt high 3 = high.bc := rfl
  rcases Int.lt_trichotomy middle 0 with hm | hm | hm
  · have hne := m2 hm
    clear m1 m2 m3
    k_extra "myenterF"
    k_extra "mysteps"
    all_goals k_extra "finap"
  · obtain ⟨hne, hex⟩ := m3 hm
    clear m1 m2 m3
    k_extra "myenterF"
    k_extra "mysteps"
    all_goals k_extra "finap"
  · have hne := m1 hm
    clear m1 m2 m3
    k_extra "myenterF"
    k_extra "mysteps"
    all_goals k_extra "finap"
end
section
theorem fillK_P20 : (hd.heap_39 = hd.heap_39) ∧ PySem.Challenge.rw_aj5009_01 = PySem.Challenge.rw_aj5009_01 := by
  k_fill
  exact ⟨rfl, rfl⟩
theorem TlS.use {w : World} {l : Addr} {ns : List Int} {f : Addr} {vs : List Value} {k : Nat} {news : Led} {ok : Led → Value → Prop} (C : TlS w l ns f vs k news ok)
    {p : Program} {loose : List Str} {mean : ExcName → Option Value} {mg mb : Str → Option Value}
    {dp un : Nat} {gd : Option (List Code)} {cn : Str} {cs : Scope} {a : Addr} {ccd : Value} {cl : List (Str × Addr)} {outer : List Env} {A₀ : Around} {base h₀ : Heap} {L : Addr} {m : Str → Option Value} {s : Shared} {us : List Value}
    {Q E : Value → Shared → Prop}
    (B : Below A₀ base outer h₀) (F : Fr h₀ L s.heap m) (X : (hd.heap_39 w.params).In h₀) (N : News h₀ L s.heap news) (T : Top p loose mean mg mb h₀) (hk : cs.kind = .function) (hd : dp + k < recursionLimit) (hu : un + 8 * k + 100 < cLine)
    (hL : base.IsList l us.toArray) (hI : IntsAre us ns) (hlen : ns.length ≤ 63)
    (ret : ∀ r nw' h' tk', Fr h₀ L h' m → News h₀ L h' nw' → Sub news nw' → ok nw' r → Q r { s with heap := h', toks := tk' }) :
    wpAny (model PySem.Challenge.rw_aj5009_01.row.prog w) (ktrTop dp un gd cn cs L a ccd cl outer) (call (.ref f) vs) Q E s :=
  C _ _ _ _ _ _ _ _ _ _ _ _ _ _ _ _ _ _ _ _ _ _ _ B F X N T hk hd hu hL hI hlen ret
def ncb (p : Addr × Obj) : Bool := match p.2.data with | .cell _ => false | _ => true
def NotC (tl : Led) : Prop := ∀ p ∈ tl, ncb p = true
theorem NotC.nil : NotC [] := fun _ h => nomatch h
theorem NotC.filter (nw : Led) : NotC (nw.filter ncb) := fun _ h => (List.mem_filter.mp h).2
theorem NotC.cons {p : Addr × Obj} {tl : Led} (hp : ncb p = true) (h : NotC tl) : NotC (p :: tl) := fun q hq => by
  rcases List.mem_cons.mp hq with rfl | hq
  · exact hp
  · exact h q hq
theorem TupH.ncell {w : World} {nw : Led} {D : Addr} {q : MP} (H : TupH w nw D q) : TupH w (nw.filter ncb) D q := by
  obtain ⟨t1, t2, t3, t4, c, H⟩ := H
  exact ⟨t1, t2, t3, t4, c, H.imp (fun h => List.mem_filter.mpr ⟨h, rfl⟩) id⟩
theorem nsubl {h₀ h : Heap} {L : Addr} {a b : Led} (N : News h₀ L h b) (hs : Sub a b) : News h₀ L h a := fun p hp => N p (hs p hp)
theorem ncb_ne {h₀ h : Heap} {L c : Addr} {o : Obj} {nw : Led} (N : News h₀ L h nw) (hm : (c, o) ∈ nw) (hc : ∃ v, o.data = .cell v) {tl : Led} (hs : Sub tl nw) (nc : NotC tl) : ∀ p ∈ tl, p.1 ≠ c := by
  intro p hp e
  have h1 := (N p (hs p hp)).1
  have h2 := (N (c, o) hm).1
  rw [e] at h1
  have h3 : p.2 = o := Option.some.inj (h1.symm.trans h2)
  obtain ⟨v, hv⟩ := hc
  have h4 := nc p hp
  unfold ncb at h4
  rw [h3, hv] at h4
  cases h4
theorem Sub.filter {tl nw : Led} (nc : NotC tl) (hs : Sub tl nw) : Sub tl (nw.filter ncb) := fun p hp => List.mem_filter.mpr ⟨hs p hp, nc p hp⟩
theorem Sub.filtered (nw : Led) : Sub (nw.filter ncb) nw := fun _ hp => (List.mem_filter.mp hp).1
/-- what a tail is: no cells in it, none of the six -/
structure Tail (c1 c2 c3 c4 c5 c6 : Addr) (tl : Led) : Prop where
  nc : NotC tl
  n1 : ∀ p ∈ tl, p.1 ≠ c1
  n2 : ∀ p ∈ tl, p.1 ≠ c2
  n3 : ∀ p ∈ tl, p.1 ≠ c3
  n4 : ∀ p ∈ tl, p.1 ≠ c4
  n5 : ∀ p ∈ tl, p.1 ≠ c5
  n6 : ∀ p ∈ tl, p.1 ≠ c6
theorem Tail.nil {c1 c2 c3 c4 c5 c6 : Addr} : Tail c1 c2 c3 c4 c5 c6 [] := ⟨NotC.nil, List.forall_mem_nil _, List.forall_mem_nil _, List.forall_mem_nil _, List.forall_mem_nil _, List.forall_mem_nil _, List.forall_mem_nil _⟩
section
variable {h₀ h : Heap} {L c1 c2 c3 c4 c5 c6 : Addr} {o1 o2 o3 o4 o5 o6 : Obj} {tl : Led}
theorem Tail.mk6 {nw : Led} (N : News h₀ L h nw) (S : Sub ((c1, o1) :: (c2, o2) :: (c3, o3) :: (c4, o4) :: (c5, o5) :: (c6, o6) :: tl) nw)
    (x1 : ∃ v, o1.data = .cell v) (x2 : ∃ v, o2.data = .cell v) (x3 : ∃ v, o3.data = .cell v) (x4 : ∃ v, o4.data = .cell v) (x5 : ∃ v, o5.data = .cell v) (x6 : ∃ v, o6.data = .cell v) (T : Tail c1 c2 c3 c4 c5 c6 tl) :
    News h₀ L h ((c1, o1) :: (c2, o2) :: (c3, o3) :: (c4, o4) :: (c5, o5) :: (c6, o6) :: nw.filter ncb) ∧ Tail c1 c2 c3 c4 c5 c6 (nw.filter ncb) ∧ Sub tl (nw.filter ncb) := by
  have m1 := S (c1, o1) (by simp)
  have m2 := S (c2, o2) (by simp)
  have m3 := S (c3, o3) (by simp)
  have m4 := S (c4, o4) (by simp)
  have m5 := S (c5, o5) (by simp)
  have m6 := S (c6, o6) (by simp)
  have nc := NotC.filter nw
  have sf := Sub.filtered nw
  refine ⟨nsubl N fun p hp => ?_, ⟨nc, ncb_ne N m1 x1 sf nc, ncb_ne N m2 x2 sf nc, ncb_ne N m3 x3 sf nc, ncb_ne N m4 x4 sf nc, ncb_ne N m5 x5 sf nc, ncb_ne N m6 x6 sf nc⟩, Sub.filter T.nc fun p hp => S p (by simp [hp])⟩
  simp only [List.mem_cons] at hp
  rcases hp with rfl | rfl | rfl | rfl | rfl | rfl | hp
  · exact m1
  · exact m2
  · exact m3
  · exact m4
  · exact m5
  · exact m6
  · exact sf p hp
/-- an object at the front goes to the tail -/
theorem Tail.move {D : Addr} {o : Obj} (N : News h₀ L h ((D, o) :: (c1, o1) :: (c2, o2) :: (c3, o3) :: (c4, o4) :: (c5, o5) :: (c6, o6) :: tl)) (ho : ncb (D, o) = true)
    (x1 : ∃ v, o1.data = .cell v) (x2 : ∃ v, o2.data = .cell v) (x3 : ∃ v, o3.data = .cell v) (x4 : ∃ v, o4.data = .cell v) (x5 : ∃ v, o5.data = .cell v) (x6 : ∃ v, o6.data = .cell v) (T : Tail c1 c2 c3 c4 c5 c6 tl) :
    ∃ tl', News h₀ L h ((c1, o1) :: (c2, o2) :: (c3, o3) :: (c4, o4) :: (c5, o5) :: (c6, o6) :: tl') ∧ Tail c1 c2 c3 c4 c5 c6 tl' ∧ Sub tl tl' ∧ (D, o) ∈ tl' := by
  have sb : Sub ((c1, o1) :: (c2, o2) :: (c3, o3) :: (c4, o4) :: (c5, o5) :: (c6, o6) :: (D, o) :: tl) ((D, o) :: (c1, o1) :: (c2, o2) :: (c3, o3) :: (c4, o4) :: (c5, o5) :: (c6, o6) :: tl) := fun p hp => by
    simp only [List.mem_cons] at hp ⊢
    rcases hp with hp | hp | hp | hp | hp | hp | hp | hp <;> simp [hp]
  have nc := NotC.cons ho T.nc
  have st : Sub ((D, o) :: tl) ((D, o) :: (c1, o1) :: (c2, o2) :: (c3, o3) :: (c4, o4) :: (c5, o5) :: (c6, o6) :: tl) := fun p hp => by
    simp only [List.mem_cons] at hp ⊢
    rcases hp with hp | hp <;> simp [hp]
  obtain ⟨a, b, c⟩ := Tail.mk6 (tl := (D, o) :: tl) N sb x1 x2 x3 x4 x5 x6
    ⟨nc, ncb_ne N (sb (c1, o1) (by simp)) x1 st nc, ncb_ne N (sb (c2, o2) (by simp)) x2 st nc, ncb_ne N (sb (c3, o3) (by simp)) x3 st nc, ncb_ne N (sb (c4, o4) (by simp)) x4 st nc, ncb_ne N (sb (c5, o5) (by simp)) x5 st nc, ncb_ne N (sb (c6, o6) (by simp)) x6 st nc⟩
  exact ⟨_, a, b, fun p hp => c p (.tail _ hp), c _ (.head _)⟩
end
section
variable {w : World} {f : Addr} {vs : List Value} {k : Nat} {news : Led} {P : Value → Prop}
    {p : Program} {loose : List Str} {mean : ExcName → Option Value} {mg mb : Str → Option Value}
    {dp un : Nat} {gd : Option (List Code)} {cn : Str} {cs : Scope} {a : Addr} {ccd : Value} {cl : List (Str × Addr)} {outer : List Env} {A₀ : Around} {base h₀ : Heap} {L : Addr} {m : Str → Option Value} {s : Shared}
    {Q E : Value → Shared → Prop}
theorem Tl.useP (C : Tl w f vs k news (fun _ r => P r))
    (B : Below A₀ base outer h₀) (F : Fr h₀ L s.heap m) (X : (hd.heap_39 w.params).In h₀) (N : News h₀ L s.heap news) (T : Top p loose mean mg mb h₀) (hk : cs.kind = .function) (hd : dp + k < recursionLimit) (hu : un + 8 * k + 100 < cLine)
    (ret : ∀ r h' tk', Fr h₀ L h' m → News h₀ L h' news → P r → Q r { s with heap := h', toks := tk' }) :
    wpAny (model PySem.Challenge.rw_aj5009_01.row.prog w) (ktrTop dp un gd cn cs L a ccd cl outer) (call (.ref f) vs) Q E s :=
  C.use B F X N T hk hd hu fun r _ h' tk' F' N' S o => ret r h' tk' F' (nsubl N' S) o
theorem TlS.useP {l : Addr} {ns : List Int} {us : List Value} (C : TlS w l ns f vs k news (fun _ r => P r))
    (B : Below A₀ base outer h₀) (F : Fr h₀ L s.heap m) (X : (hd.heap_39 w.params).In h₀) (N : News h₀ L s.heap news) (T : Top p loose mean mg mb h₀) (hk : cs.kind = .function) (hd : dp + k < recursionLimit) (hu : un + 8 * k + 100 < cLine)
    (hL : base.IsList l us.toArray) (hI : IntsAre us ns) (hlen : ns.length ≤ 63)
    (ret : ∀ r h' tk', Fr h₀ L h' m → News h₀ L h' news → P r → Q r { s with heap := h', toks := tk' }) :
    wpAny (model PySem.Challenge.rw_aj5009_01.row.prog w) (ktrTop dp un gd cn cs L a ccd cl outer) (call (.ref f) vs) Q E s :=
  C.use B F X N T hk hd hu hL hI hlen fun r _ h' tk' F' N' S o => ret r h' tk' F' (nsubl N' S) o
/-- what is told of a value holds over any ledger that bears the same tuples -/
def Mono (w : World) (ok : Led → Value → Prop) : Prop := ∀ nw nw' r, (∀ D q, TupH w nw D q → TupH w nw' D q) → ok nw r → ok nw' r
theorem Tl.useC {c1 c2 c3 c4 c5 c6 : Addr} {o1 o2 o3 o4 o5 o6 : Obj} {tl : Led} {ok : Led → Value → Prop} (C : Tl w f vs k ((c1, o1) :: (c2, o2) :: (c3, o3) :: (c4, o4) :: (c5, o5) :: (c6, o6) :: tl) ok) (hm : Mono w ok)
    (x1 : ∃ v, o1.data = .cell v) (x2 : ∃ v, o2.data = .cell v) (x3 : ∃ v, o3.data = .cell v) (x4 : ∃ v, o4.data = .cell v) (x5 : ∃ v, o5.data = .cell v) (x6 : ∃ v, o6.data = .cell v) (Tt : Tail c1 c2 c3 c4 c5 c6 tl)
    (B : Below A₀ base outer h₀) (F : Fr h₀ L s.heap m) (X : (hd.heap_39 w.params).In h₀) (N : News h₀ L s.heap ((c1, o1) :: (c2, o2) :: (c3, o3) :: (c4, o4) :: (c5, o5) :: (c6, o6) :: tl)) (T : Top p loose mean mg mb h₀) (hk : cs.kind = .function) (hd : dp + k < recursionLimit) (hu : un + 8 * k + 100 < cLine)
    (ret : ∀ r tl' h' tk', Fr h₀ L h' m → News h₀ L h' ((c1, o1) :: (c2, o2) :: (c3, o3) :: (c4, o4) :: (c5, o5) :: (c6, o6) :: tl') → Tail c1 c2 c3 c4 c5 c6 tl' → Sub tl tl' → ok tl' r → Q r { s with heap := h', toks := tk' }) :
    wpAny (model PySem.Challenge.rw_aj5009_01.row.prog w) (ktrTop dp un gd cn cs L a ccd cl outer) (call (.ref f) vs) Q E s :=
  C.use B F X N T hk hd hu fun r nw h' tk' F' N' S o => by
    obtain ⟨n, t, u⟩ := Tail.mk6 N' S x1 x2 x3 x4 x5 x6 Tt
    exact ret r _ h' tk' F' n t u (hm _ _ _ (fun _ _ H => H.ncell) o)
end
theorem mono_tup {w : World} {q : MP} : Mono w (fun nw r' => ∃ D, r' = .ref D ∧ TupH w nw D q) := fun _ _ _ h ⟨D, e, H⟩ => ⟨D, e, h _ _ H⟩
theorem mono_raw {w : World} {P : MP → Prop} : Mono w (fun nw r' => ∃ D, r' = .ref D ∧ ∃ q, TupH w nw D q ∧ P q) := fun _ _ _ h ⟨D, e, q, H, r⟩ => ⟨D, e, q, h _ _ H, r⟩
theorem ndrop {h₀ h : Heap} {L : Addr} {x : Addr × Obj} {a : Led} (N : News h₀ L h (x :: a)) (_ : ncb x = true) : News h₀ L h a := fun p hp => N p (.tail _ hp)
/-- what t is behind the first question -/
def P1 (kind : Int) (t : MP) : Prop := Wf t ∧ t.bc ≤ 30 ∧ (-90 ≤ t.ex ∧ t.ex ≤ 90) ∧ (kind = 3 → t.man ≠ 0) ∧ (kind = 6 → t.man ≠ 0)
/-- what t is behind the second -/
def P2 (kind : Int) (s t : MP) : Prop := Wf t ∧ t.bc ≤ 30 ∧ (-180 ≤ t.ex ∧ t.ex ≤ 180) ∧ (s.ex - t.ex ≤ 300 ∧ t.ex - s.ex ≤ 300) ∧ (kind = 3 → t.man ≠ 0 ∧ -90 ≤ t.ex ∧ t.ex ≤ 90) ∧ (kind = 6 → t.man ≠ 0 ∧ -90 ≤ t.ex ∧ t.ex ≤ 90)
/-- the ways meet: the cell t holds a number -/
def JT (w : World) (h₀ : Heap) (L : Addr) (m : Str → Option Value) (s : Shared) (c1 c2 c3 c4 c5 c6 : Addr) (o1 o2 o4 o5 o6 : Obj) (tl : Led) (P : MP → Prop) (fl : Flow) (s' : Shared) : Prop :=
  fl = .next ∧ ∃ (h' : Heap) (tk : Nat) (D : Addr) (t : MP) (o : Obj) (tl' : Led), s' = { s with heap := h', toks := tk } ∧ Fr h₀ L h' m ∧
    News h₀ L h' ((c1, o1) :: (c2, o2) :: (c3, o) :: (c4, o4) :: (c5, o5) :: (c6, o6) :: tl') ∧ Tail c1 c2 c3 c4 c5 c6 tl' ∧ Sub tl tl' ∧ o.data = .cell (some (.ref D)) ∧ TupH w tl' D t ∧ P t
section
variable {M : Model} {A : Around} {T : Sem Flow} {w : World} {h₀ : Heap} {L : Addr} {m : Str → Option Value} {s : Shared} {c1 c2 c3 c4 c5 c6 : Addr} {o1 o2 o3 o4 o5 o6 : Obj} {tl : Led} {Q : Flow → Shared → Prop} {E : Value → Shared → Prop}
theorem joinT {P : MP → Prop} (_ : Fr h₀ L s.heap m) (_ : News h₀ L s.heap ((c1, o1) :: (c2, o2) :: (c3, o3) :: (c4, o4) :: (c5, o5) :: (c6, o6) :: tl))
    (h1 : ∀ QQ EE, (∀ fl s', JT w h₀ L m s c1 c2 c3 c4 c5 c6 o1 o2 o4 o5 o6 tl P fl s' → QQ fl s') → wpAny M A T QQ EE s)
    (h2 : ∀ (h' : Heap) (tk : Nat) (D : Addr) (t : MP) (o : Obj) (tl' : Led), Fr h₀ L h' m → News h₀ L h' ((c1, o1) :: (c2, o2) :: (c3, o) :: (c4, o4) :: (c5, o5) :: (c6, o6) :: tl') →
      Tail c1 c2 c3 c4 c5 c6 tl' → Sub tl tl' → o.data = .cell (some (.ref D)) → TupH w tl' D t → P t → Q .next { s with heap := h', toks := tk }) : wpAny M A T Q E s := by
  refine h1 Q E fun fl s' hh => ?_
  obtain ⟨rfl, h', tk, D, t, o, tl', rfl, a, b, c, d, e, f, g⟩ := hh
  exact h2 h' tk D t o tl' a b c d e f g
theorem joinT1 {kind : Int} {tk : Tok} (_ : (hd.heap_39 w.params).In h₀) (F : Fr h₀ L s.heap m) (N : News h₀ L s.heap ((c1, o1) :: (c2, o2) :: (c3, o3) :: (c4, o4) :: (c5, o5) :: (c6, o6) :: tl)) (_ : o6.data = .cell (some (.int kind tk)))
    (h1 : ∀ QQ EE, (∀ fl s', JT w h₀ L m s c1 c2 c3 c4 c5 c6 o1 o2 o4 o5 o6 tl (P1 kind) fl s' → QQ fl s') → wpAny M A T QQ EE s)
    (h2 : ∀ (h' : Heap) (tk : Nat) (D : Addr) (t : MP) (o : Obj) (tl' : Led), Fr h₀ L h' m → News h₀ L h' ((c1, o1) :: (c2, o2) :: (c3, o) :: (c4, o4) :: (c5, o5) :: (c6, o6) :: tl') →
      Tail c1 c2 c3 c4 c5 c6 tl' → Sub tl tl' → o.data = .cell (some (.ref D)) → TupH w tl' D t → P1 kind t → Q .next { s with heap := h', toks := tk }) : wpAny M A T Q E s := joinT F N h1 h2
theorem joinT2 {kind : Int} {tk : Tok} {Ds : Addr} {sm : MP} (_ : (hd.heap_39 w.params).In h₀) (F : Fr h₀ L s.heap m) (N : News h₀ L s.heap ((c1, o1) :: (c2, o2) :: (c3, o3) :: (c4, o4) :: (c5, o5) :: (c6, o6) :: tl)) (_ : o6.data = .cell (some (.int kind tk))) (_ : o4.data = .cell (some (.ref Ds))) (_ : TupH w tl Ds sm)
    (h1 : ∀ QQ EE, (∀ fl s', JT w h₀ L m s c1 c2 c3 c4 c5 c6 o1 o2 o4 o5 o6 tl (P2 kind sm) fl s' → QQ fl s') → wpAny M A T QQ EE s)
    (h2 : ∀ (h' : Heap) (tk : Nat) (D : Addr) (t : MP) (o : Obj) (tl' : Led), Fr h₀ L h' m → News h₀ L h' ((c1, o1) :: (c2, o2) :: (c3, o) :: (c4, o4) :: (c5, o5) :: (c6, o6) :: tl') →
      Tail c1 c2 c3 c4 c5 c6 tl' → Sub tl tl' → o.data = .cell (some (.ref D)) → TupH w tl' D t → P2 kind sm t → Q .next { s with heap := h', toks := tk }) : wpAny M A T Q E s := joinT F N h1 h2
end
theorem ndrop2 {h₀ h : Heap} {L : Addr} {x y : Addr × Obj} {a : Led} (N : News h₀ L h (x :: y :: a)) (_ : ncb y = true) : News h₀ L h (x :: a) := fun p hp => by
  rcases List.mem_cons.mp hp with rfl | hp
  · exact N _ (.head _)
  · exact N p (.tail _ (.tail _ hp))
theorem p1_const (kind : Int) : P1 kind ⟨1, 5, 0, 3⟩ := by
  have h : (Builtin.Int.intBits 5 : Int) = 3 := by decide +kernel
  refine ⟨⟨.inr rfl, by decide, h.symm, fun e => absurd e (by decide), .inr (by decide)⟩, by decide, ⟨by decide, by decide⟩, fun _ => by decide, fun _ => by decide⟩
theorem p1_not {kind : Int} {t : MP} (wt : Wf t) (b : t.bc ≤ 30) (x1 : -90 ≤ t.ex) (x2 : t.ex ≤ 90) (h : (([3, 6] : List Int).any fun x => x == kind) = false) : P1 kind t :=
  ⟨wt, b, ⟨x1, x2⟩, fun e => by rw [e] at h; exact absurd h (by decide), fun e => by rw [e] at h; exact absurd h (by decide)⟩
theorem p1_man {kind : Int} {t : MP} (wt : Wf t) (b : t.bc ≤ 30) (x1 : -90 ≤ t.ex) (x2 : t.ex ≤ 90) (h : mpAt t 1 ≠ 0) : P1 kind t := ⟨wt, b, ⟨x1, x2⟩, fun _ => h, fun _ => h⟩
theorem p2_same {kind : Int} {s t : MP} (h : P1 kind t) (x1 : -90 ≤ s.ex) (x2 : s.ex ≤ 90) : P2 kind s t := by
  obtain ⟨a, b, ⟨c1, c2⟩, d, e⟩ := h
  exact ⟨a, b, ⟨by omega, by omega⟩, ⟨by omega, by omega⟩, fun k => ⟨d k, c1, c2⟩, fun k => ⟨e k, c1, c2⟩⟩
theorem p2_new {kind x y : Int} {s t : MP} (h : P1 kind t) (x1 : -90 ≤ s.ex) (x2 : s.ex ≤ 90) (hk : kind < 3) (hm : 0 < mpAt t 1) (hx : 0 ≤ x ∧ x < 40) (hy : 0 ≤ y ∧ y < 5) : P2 kind s ⟨mpAt t 0, mpAt t 1, mpAt s 2 - (30 + x) + y, mpAt t 3⟩ := by
  obtain ⟨a, b, ⟨c1, c2⟩, d, e⟩ := h
  have e1 : mpAt s 2 = s.ex := rfl
  have e2 : mpAt t 1 = t.man := rfl
  rw [e2] at hm
  rw [e1]
  refine ⟨⟨a.1, a.2.1, a.2.2.1, fun z => ?_, a.2.2.2.2⟩, b, ⟨?_, ?_⟩, ⟨?_, ?_⟩, fun k => by omega, fun k => by omega⟩
  · exact absurd (show t.man = 0 from z) (by omega)
  all_goals dsimp only; omega
end
section
theorem fillK_P21 : (hd.heap_39 = hd.heap_39) ∧ PySem.Challenge.rw_aj5009_01 = PySem.Challenge.rw_aj5009_01 := by
  k_fill
  exact ⟨rfl, rfl⟩
/-! a comprehension whose elements call: one turn shown once, what stands between the turns a word of our own -/
section
variable {prog : Program} {w : World} {A : Around} {E : Value → Shared → Prop} {s : Shared} {h₀ : Heap} {L : Addr} {m : Str → Option Value} {env : Env}
def TurnOk (prog : Program) (w : World) (A : Around) (h₀ : Heap) (L : Addr) (m : Str → Option Value) (env : Env) (elt : Expr) (x : Str) (scope : Scope) (cl : List (Str × Addr)) (s : Shared) (n : Nat) (P : Nat → Value → Prop) (Inv : Nat → List Value → Led → Prop) : Prop :=
  ∀ (i : Nat) (v : Value) (ys : List Value) (news : Led) (I : Addr) (oI : Obj) (C : Addr) (oC : Obj) (D : Addr) (m₂ : Str → Option Value) (h : Heap) (tk : Nat) (QQ E' : Value → Shared → Prop),
    i < n → P i v → Inv i ys news → oI.cls ≠ .type "tuple" → LCg.NsObj oC m₂ → m₂ x = some v → Fr h₀ L h m → News h₀ L h ((I, oI) :: (C, oC) :: (D, LCg.lst ys) :: news) →
    (∀ p ∈ news, p.1 ≠ I ∧ p.1 ≠ C ∧ p.1 ≠ D) → (I ≠ C ∧ I ≠ D ∧ C ≠ D) →
    (∀ y h' tk' news', Fr h₀ L h' m → News h₀ L h' ((I, oI) :: (C, oC) :: (D, LCg.lst ys) :: news') → (∀ p ∈ news', p.1 ≠ I ∧ p.1 ≠ C ∧ p.1 ≠ D) → Inv (i + 1) (ys ++ [y]) news' → QQ y { s with heap := h', toks := tk' }) →
    wpAny (model prog w) A (eval elt (compEnvC scope cl C env)) QQ E' { s with heap := h, toks := tk }
theorem loop_go {elt iter : Expr} {x : Str} {px : Pos} {scope : Scope} {cl : List (Str × Addr)} {pos : Pos} {I : Addr} {fp : List Addr} {n : Nat} {P : Nat → Value → Prop} {St : Nat → Heap → Prop} {Inv : Nat → List Value → Led → Prop} {news : Led} {RR : Value → Addr → Result → Shared → Prop}
    (W : Walks prog w A I fp [I] n P St) (hsz : n ≤ sizeLine) (hIo : ∀ i h, St i h → ∃ o, h.get? I = some o ∧ o.cls ≠ .type "tuple")
    (hSt : ∀ i h h' o nw ys, St i h → h.get? I = some o → h'.get? I = some o → (∀ b o, h₀.get? b = some o → h'.get? b = some o) → News h₀ L h' nw → Inv i ys nw → St i h')
    (hcell : ∀ y ∈ scope.names, y.2 ≠ .cell) (hkind : scope.kind = .function) (hx : scope.names.lookup x = some .local) (hst : St 0 s.heap) (hfp : ∀ b ∈ fp, b < s.heap.objs.size)
    (F : Fr h₀ L s.heap m) (N : News h₀ L s.heap news) (off : ∀ p ∈ news, p.1 ≠ I) (hIL : L ≠ I) (hI₀ : h₀.get? I = none) (i0 : Inv 0 [] news)
    (turn : TurnOk prog w A h₀ L m env elt x scope cl s n P Inv)
    (fin : ∀ D C h tk m' ys nw, Fr h₀ L h m → News h₀ L h ((D, LCg.lst ys) :: nw) → (∀ p ∈ nw, p.1 ≠ D) → ys.length = n → Inv n ys nw → h.Ns C m' → h₀.get? C = none → h₀.get? D = none → C ≠ L → D ≠ L → C ≠ D → (∀ p ∈ nw, p.1 ≠ C) → RR (.ref D) C (.ok .next) { s with heap := h, toks := tk }) :
    wpAny (model prog w) A (newList []) (fun acc s₃ => wpAny (model prog w) A (newFunctionEnv scope env.globals cl [] env.qual none .none (some env)) (fun cenv s₄ =>
      codeAny (model prog w) A (.compStart (.ListComp elt [⟨.Name x px, iter, [], 0⟩] scope pos) 0 (.ref I) acc { cenv with scope := relabel scope env }) (RR acc cenv.locals) s₄) E s₃) E s := by
  refine wpAny_newObj_type (wpAny_newFunctionEnv hcell (by intro y hy; simp at hy) (fun g hns hsb => ?_) hkind)
  dsimp only at hns hsb ⊢
  -- the two new places: the list's, the names'
  obtain ⟨D, hD⟩ : ∃ D : Addr, D = s.heap.objs.size := ⟨_, rfl⟩
  obtain ⟨C, hC⟩ : ∃ C : Addr, C = (s.heap.push { cls := .type "list", dict := none, data := .seq ([] : List Value).toArray }).objs.size := ⟨_, rfl⟩
  have hCv : (C : Nat) = (D : Nat) + 1 := by rw [hC, hD, Heap.size_push]
  rw [← hC] at hns hsb ⊢
  rw [← hD]
  have lt_old : ∀ b o, s.heap.get? b = some o → @LT.lt Nat _ b D := fun b o e => by rw [hD]; exact Heap.lt_size e
  have kept : ∀ b o, s.heap.get? b = some o → g.get? b = some o := fun b o e => hsb.extBut b o (by
    intro q
    have z := lt_old b o e
    rw [q, hCv] at z
    omega) (Heap.get?_push_of_some _ (Heap.get?_push_of_some _ e))
  have none₀ : ∀ b : Addr, @LE.le Nat _ D b → h₀.get? b = none := fun b hb => by
    cases q : h₀.get? b with
    | none => rfl
    | some o =>
      have z := lt_old b o (F.keep b o q)
      omega
  have hL : @LT.lt Nat _ L D := by rw [hD]; exact F.ns.lt
  have hI : @LT.lt Nat _ I D := by rw [hD]; exact hfp I (W.sub I (List.mem_singleton.mpr rfl))
  have hfp' : ∀ b ∈ fp, @LT.lt Nat _ b D := fun b hb => by rw [hD]; exact hfp b hb
  have hD₀ := none₀ D (Nat.le_refl _)
  have hC₀ := none₀ C (by rw [hCv]; exact Nat.le_succ _)
  have hDL : D ≠ L := Ne.symm (Nat.ne_of_lt hL)
  have hCL : C ≠ L := by
    intro q
    have z2 : @Eq Nat L (D + 1) := q.symm.trans hCv
    have z3 : @LT.lt Nat _ (D + 1) D := z2 ▸ hL
    exact absurd z3 (Nat.not_lt.mpr (Nat.le_succ _))
  have hIC : I ≠ C := by intro q; have z := hI; rw [q, hCv] at z; omega
  have hID : I ≠ D := Nat.ne_of_lt hI
  have hCD : C ≠ D := fun q => by
    have z : @Eq Nat D (D + 1) := q.symm.trans hCv
    exact absurd z (Nat.ne_of_lt (Nat.lt_succ_self _))
  have hCf : C ∉ fp := fun hb => by have z := hfp' C hb; rw [hCv] at z; omega
  have hDf : D ∉ fp := fun hb => Nat.lt_irrefl _ (hfp' D hb)
  have hlist : g.get? D = some (LCg.lst []) := hsb.extBut D _ (Ne.symm hCD) (by rw [hD]; exact Heap.get?_push_of_some _ (Heap.get?_push_size _ rfl))
  have off0 : ∀ p ∈ news, p.1 ≠ I ∧ p.1 ≠ C ∧ p.1 ≠ D := fun p hp => by
    have z := lt_old p.1 p.2 (N p hp).1
    refine ⟨off p hp, fun q => ?_, Nat.ne_of_lt z⟩
    rw [q, hCv] at z; omega
  have st0 : St 0 g := W.frame _ _ _ hst fun b _ o e => kept b o e
  -- the loop
  have loop : ∀ s₃ : Shared, s₃ = { s with heap := g, toks := s.toks + ([] : List (Str × Value)).length } →
      codeAny (model prog w) A (.compLoop (.ListComp elt [⟨.Name x px, iter, [], 0⟩] scope pos) 0 (.ref I) (.ref D) (compEnvC scope cl C env)) (RR (.ref D) C) s₃ := by
    rintro s₃ rfl
    refine codeAny_compLoop_tests
      (fun k s' => ∃ (i : Nat) (ys : List Value) (nw : Led) (m' : Str → Option Value) (h' : Heap) (tk : Nat), s' = { s with heap := h', toks := tk } ∧ i ≤ n ∧ k + i = n + 1 ∧ ys.length = i ∧ St i h' ∧ Fr h₀ L h' m ∧ h'.Ns C m' ∧
        News h₀ L h' ((D, LCg.lst ys) :: nw) ∧ (∀ p ∈ nw, p.1 ≠ I ∧ p.1 ≠ C ∧ p.1 ≠ D) ∧ Inv i ys nw) ?_ (n + 1)
      ⟨0, [], news, _, g, _, rfl, Nat.zero_le _, rfl, rfl, st0, F.keeps kept, hns, ?_, off0, i0⟩
    · rintro k s' ⟨i, ys, nw, m', h', tk, rfl, hi, hk, hy, st, F', ns', N', of', iv⟩
      rcases Nat.lt_or_ge i n with hlt | hge
      · refine W.item i _ _ _ hlt st fun v h₂ tk₂ hv st₂ k₂ => ?_
        have n₂ : h₂.Ns C m' := ns'.at' fun o e => k₂ C o (by simpa using Ne.symm hIC) e
        have F₂ : Fr h₀ L h₂ m := LCg.fr_but F' k₂ hIL hI₀
        have N₂ : News h₀ L h₂ ((D, LCg.lst ys) :: nw) := LCg.news_but N' k₂ fun p hp => by
          rcases List.mem_cons.mp hp with rfl | hp
          · exact Ne.symm hID
          · exact (of' p hp).1
        refine wpAny_assign_Name (wpAny_storeName_local (lookup_relabel_local hx) n₂ (fun h₃ n₃ b₃ => ?_) (by simp [compEnvC, relabel, hkind]))
        refine wpAny_tests_nil ?_
        simp only [if_true]
        have st₃ : St (i + 1) h₃ := W.frame _ _ _ st₂ fun b hb o e => b₃.extBut b o (by intro q; exact hCf ((show b = C from q) ▸ hb)) e
        obtain ⟨oI, gI, tI⟩ := hIo _ _ st₃
        obtain ⟨oC, gC, nC⟩ := LCg.ns_obj n₃
        have F₃ : Fr h₀ L h₃ m := F₂.change b₃ hCL hC₀
        have N₃ : News h₀ L h₃ ((I, oI) :: (C, oC) :: (D, LCg.lst ys) :: nw) := fun p hp => by
          rcases List.mem_cons.mp hp with rfl | hp
          · exact ⟨gI, Ne.symm hIL, hI₀⟩
          rcases List.mem_cons.mp hp with rfl | hp
          · exact ⟨gC, hCL, hC₀⟩
          have z := N₂ p hp
          refine ⟨b₃.extBut p.1 p.2 ?_ z.1, z.2⟩
          rcases List.mem_cons.mp hp with rfl | hp
          · exact Ne.symm hCD
          · exact (of' p hp).2.1
        refine turn i v ys nw I oI C oC D _ h₃ _ _ _ hlt hv iv tI nC (by simp) F₃ N₃ of' ⟨hIC, hID, hCD⟩ fun y h₄ tk₄ nw₄ F₄ N₄ of₄ iv₄ => ?_
        have zI := (N₄ (I, oI) (.head _)).1
        have zC := (N₄ (C, oC) (.tail _ (.head _))).1
        have zD := (N₄ (D, LCg.lst ys) (.tail _ (.tail _ (.head _)))).1
        have N₅ : News h₀ L h₄ nw₄ := fun p hp => N₄ p (.tail _ (.tail _ (.tail _ hp)))
        have st₄ : St (i + 1) h₄ := hSt _ _ _ _ _ _ st₃ gI zI F₄.keep N₅ iv₄
        refine append_at (hsz := by show ys.toArray.size ≤ sizeLine; rw [List.size_toArray, hy]; exact Nat.le_trans hi hsz) zD fun h₅ b₅ d₅ => ?_
        refine ⟨k - 1, by omega, i + 1, ys ++ [y], nw₄, _, h₅, tk₄, rfl, hlt, by omega, by rw [List.length_append, List.length_singleton, hy], ?_, F₄.change b₅ hDL hD₀, (nC.ns zC).sameBut b₅ hCD, ?_, of₄, iv₄⟩
        · exact W.frame _ _ _ st₄ fun b hb o e => b₅.extBut b o (by intro q; exact hDf ((show b = D from q) ▸ hb)) e
        · intro p hp
          rcases List.mem_cons.mp hp with rfl | hp
          · exact ⟨d₅.trans (congrArg some (LCg.lst_snoc ys y)), hDL, hD₀⟩
          · exact ⟨b₅.extBut p.1 p.2 (of₄ p hp).2.2 (N₅ p hp).1, (N₅ p hp).2⟩
      · have hin : i = n := Nat.le_antisymm hi hge
        subst hin
        refine W.done _ _ _ st fun h₂ tk₂ k₂ => ?_
        have F₂ : Fr h₀ L h₂ m := LCg.fr_but F' k₂ hIL hI₀
        have N₂ : News h₀ L h₂ ((D, LCg.lst ys) :: nw) := LCg.news_but N' k₂ fun p hp => by
          rcases List.mem_cons.mp hp with rfl | hp
          · exact Ne.symm hID
          · exact (of' p hp).1
        exact fin D C h₂ tk₂ m' ys nw F₂ N₂ (fun p hp => (of' p hp).2.2) hy iv (ns'.at' fun o e => k₂ C o (by simpa using Ne.symm hIC) e) hC₀ hD₀ hCL hDL hCD (fun p hp => (of' p hp).2.1)
    · intro p hp
      rcases List.mem_cons.mp hp with rfl | hp
      · exact ⟨hlist, hDL, hD₀⟩
      · exact ⟨kept p.1 p.2 (N p hp).1, (N p hp).2⟩
  exact codeAny_compStart_list (loop _ rfl) (W.self 0 _ _ _ st0 (loop _ rfl))
theorem fin_plain {n : Nat} {Inv : Nat → List Value → Led → Prop} {Q : Value → Shared → Prop}
    (fin : ∀ D h tk ys nw, Fr h₀ L h m → News h₀ L h ((D, LCg.lst ys) :: nw) → (∀ p ∈ nw, p.1 ≠ D) → ys.length = n → Inv n ys nw → Q (.ref D) { s with heap := h, toks := tk }) :
    ∀ D C h tk m' ys nw, Fr h₀ L h m → News h₀ L h ((D, LCg.lst ys) :: nw) → (∀ p ∈ nw, p.1 ≠ D) → ys.length = n → Inv n ys nw → h.Ns C m' → h₀.get? C = none → h₀.get? D = none → C ≠ L → D ≠ L → C ≠ D → (∀ p ∈ nw, p.1 ≠ C) → compPost (model prog w) A E none Q (.ref D) C (.ok .next) { s with heap := h, toks := tk } := by
  intro D C h tk m' ys nw F N of hy iv ns hC₀ hD₀ hCL hDL hCD ofC
  refine ⟨m', ns, fun h₃ b₃ => fin D h₃ tk ys nw (F.change b₃ hCL hC₀) (fun p hp => ?_) of hy iv⟩
  refine ⟨b₃.extBut p.1 p.2 ?_ (N p hp).1, (N p hp).2⟩
  rcases List.mem_cons.mp hp with rfl | hp
  · exact Ne.symm hCD
  · exact ofC p hp
/-- over a written text -/
theorem comp_text {elt iter : Expr} {x : Str} {px : Pos} {scope : Scope} {cl : List (Str × Addr)} {pos : Pos} {Q : Value → Shared → Prop} (txt : Str) (Inv : Nat → List Value → Led → Prop)
    (hh : A.handled = none) (ha : txt.cps.all (· < 128) = true) (hsz : txt.cps.size ≤ sizeLine)
    (hclos : closureFor scope env = pure cl) (hcell : ∀ y ∈ scope.names, y.2 ≠ .cell) (hkind : scope.kind = .function)
    (hnames : ∀ y ∈ scope.names, y.2 = .local → scope.names.lookup y.1 = some .local) (hx : scope.names.lookup x = some .local)
    (h : wpAny (model prog w) A (eval iter env) (fun xv s₁ => ∃ t news, xv = .str txt t ∧ Fr h₀ L s₁.heap m ∧ News h₀ L s₁.heap news ∧ Inv 0 [] news ∧ TurnOk prog w A h₀ L m env elt x scope cl s₁ txt.cps.size (SignAt txt) Inv ∧
      (∀ D h tk ys nw, Fr h₀ L h m → News h₀ L h ((D, LCg.lst ys) :: nw) → (∀ p ∈ nw, p.1 ≠ D) → ys.length = txt.cps.size → Inv txt.cps.size ys nw → Q (.ref D) { s₁ with heap := h, toks := tk })) E s)
    (hs : ∀ x, foldedSetIterable iter env x = pure x := by intro _; rfl) :
    wpAny (model prog w) A (eval (.ListComp elt [⟨.Name x px, iter, [], 0⟩] scope pos) env) Q E s := by
  rw [eval_ListComp]
  refine wpAny_comprehension_free (use := none) rfl hs hclos hkind hnames (wpAny_mono h (fun xv s₁ h₁ => ?_) fun _ _ e => e)
  obtain ⟨t, news, rfl, F, N, i0, turn, fin⟩ := h₁
  refine wpAny_pyIter_ascii ha ?_
  have up : ∀ b o, s₁.heap.get? b = some o → (s₁.heap.push { cls := .type "str_ascii_iterator", data := .fields #[.str txt t, .int 0 0] }).get? b = some o := fun b o e => Heap.get?_push_of_some _ e
  refine loop_go (Walks.strAscii hh s₁.heap.objs.size txt t) hsz (fun i h st => ?_) (fun i h h' o nw ys st e e' _ _ _ => ?_) hcell hkind hx ⟨_, Heap.get?_push_size _ rfl, rfl, rfl⟩ (fun b hb => ?_)
    (F.keeps up) (N.grown up) (fun p hp => Nat.ne_of_lt (Heap.lt_size (N p hp).1)) (Nat.ne_of_lt F.ns.lt) (next_is_new F) i0 turn (fin_plain fin)
  · obtain ⟨o, e, c, _⟩ := st
    exact ⟨o, e, by rw [c]; decide⟩
  · obtain ⟨o', q, r⟩ := st
    rw [e] at q
    cases q
    exact ⟨o, e', r⟩
  · rw [List.mem_singleton.mp hb]
    show s₁.heap.objs.size < (s₁.heap.push _).objs.size
    rw [Heap.size_push]
    exact Nat.lt_succ_self _
/-- over a list that the call has made -/
theorem comp_list {elt iter : Expr} {x : Str} {px : Pos} {scope : Scope} {cl : List (Str × Addr)} {pos : Pos} {Q : Value → Shared → Prop} (its : Array Value) (k : Nat) (Inv : Addr → Nat → List Value → Led → Prop)
    (hh : A.handled = none) (hsz : its.size ≤ sizeLine) (hiv : ∀ ax i ys nw, Inv ax i ys nw → (ax, W.listOf its k) ∈ nw)
    (hclos : closureFor scope env = pure cl) (hcell : ∀ y ∈ scope.names, y.2 ≠ .cell) (hkind : scope.kind = .function)
    (hnames : ∀ y ∈ scope.names, y.2 = .local → scope.names.lookup y.1 = some .local) (hx : scope.names.lookup x = some .local)
    (h : wpAny (model prog w) A (eval iter env) (fun xv s₁ => ∃ ax news, xv = .ref ax ∧ Fr h₀ L s₁.heap m ∧ News h₀ L s₁.heap news ∧ Inv ax 0 [] news ∧ TurnOk prog w A h₀ L m env elt x scope cl s₁ its.size (fun i v => its[i]? = some v) (Inv ax) ∧
      (∀ D h tk ys nw, Fr h₀ L h m → News h₀ L h ((D, LCg.lst ys) :: nw) → (∀ p ∈ nw, p.1 ≠ D) → ys.length = its.size → Inv ax its.size ys nw → Q (.ref D) { s₁ with heap := h, toks := tk })) E s)
    (hs : ∀ x, foldedSetIterable iter env x = pure x := by intro _; rfl) :
    wpAny (model prog w) A (eval (.ListComp elt [⟨.Name x px, iter, [], 0⟩] scope pos) env) Q E s := by
  rw [eval_ListComp]
  refine wpAny_comprehension_free (use := none) rfl hs hclos hkind hnames (wpAny_mono h (fun xv s₁ h₁ => ?_) fun _ _ e => e)
  obtain ⟨ax, news, rfl, F, N, i0, turn, fin⟩ := h₁
  have isl : ∀ {h' : Heap} {nw : Led} {i ys}, News h₀ L h' nw → Inv ax i ys nw → h'.IsList ax its := fun N' iv => ⟨_, (N' _ (hiv _ _ _ _ iv)).1, rfl, k, rfl⟩
  have hl := isl N i0
  have hlt : ax < s₁.heap.objs.size := by obtain ⟨_, e, _⟩ := hl; exact Heap.lt_size e
  refine wpAny_pyIter_list hl ?_
  have up : ∀ b o, s₁.heap.get? b = some o → (s₁.heap.push { cls := .type "list_iterator", data := .fields #[.ref ax, .int 0 0] }).get? b = some o := fun b o e => Heap.get?_push_of_some _ e
  refine loop_go (Walks.list hh s₁.heap.objs.size ax (Nat.ne_of_lt hlt) its) hsz (fun i h st => ?_) (fun i h h' o nw ys st e e' _ N' iv => ?_) hcell hkind hx ⟨⟨_, Heap.get?_push_size _ rfl, rfl, rfl⟩, hl.push _⟩ (fun b hb => ?_)
    (F.keeps up) (N.grown up) (fun p hp => Nat.ne_of_lt (Heap.lt_size (N p hp).1)) (Nat.ne_of_lt F.ns.lt) (next_is_new F) i0 turn (fin_plain fin)
  · obtain ⟨⟨o, e, c, _⟩, _⟩ := st
    exact ⟨o, e, by rw [c]; decide⟩
  · obtain ⟨⟨o', q, r⟩, _⟩ := st
    rw [e] at q
    cases q
    exact ⟨⟨o, e', r⟩, isl N' iv⟩
  · show b < (s₁.heap.push _).objs.size
    rw [Heap.size_push]
    rcases List.mem_cons.mp hb with rfl | hb
    · exact Nat.lt_succ_self _
    · rw [List.mem_singleton.mp hb]; exact Nat.lt_succ_of_lt hlt
/-- the same, told to a name of the frame -/
theorem comp_list_to {elt iter : Expr} {x y : Str} {px py : Pos} {scope : Scope} {cl : List (Str × Addr)} {pos spos : Pos} {Q : Flow → Shared → Prop} (its : Array Value) (k : Nat) (Inv : Addr → Nat → List Value → Led → Prop)
    (hh : A.handled = none) (hsz : its.size ≤ sizeLine) (hiv : ∀ ax i ys nw, Inv ax i ys nw → (ax, W.listOf its k) ∈ nw) (hLe : env.locals = L)
    (hsw : swapsWith (.ListComp elt [⟨.Name x px, iter, [], 0⟩] scope pos) (some (.Name y py)) spos.line env = pure true)
    (hclos : closureFor scope env = pure cl) (hcell : ∀ y ∈ scope.names, y.2 ≠ .cell) (hkind : scope.kind = .function)
    (hnames : ∀ y ∈ scope.names, y.2 = .local → scope.names.lookup y.1 = some .local) (hx : scope.names.lookup x = some .local)
    (hy : env.kindOf y = some .local) (hp : (env.scope.kind == .class || (env.scope.kind == .module && env.locals != env.globals)) = false)
    (h : wpAny (model prog w) A (eval iter env) (fun xv s₁ => ∃ ax news, xv = .ref ax ∧ Fr h₀ L s₁.heap m ∧ News h₀ L s₁.heap news ∧ Inv ax 0 [] news ∧ TurnOk prog w A h₀ L m env elt x scope cl s₁ its.size (fun i v => its[i]? = some v) (Inv ax) ∧
      (∀ D h tk ys nw, Fr h₀ L h (fun z => if z = y then some (.ref D) else m z) → News h₀ L h ((D, LCg.lst ys) :: nw) → (∀ p ∈ nw, p.1 ≠ D) → ys.length = its.size → Inv ax its.size ys nw → Q .next { s₁ with heap := h, toks := tk })) E s)
    (hs : ∀ x, foldedSetIterable iter env x = pure x := by intro _; rfl) :
    wpAny (model prog w) A (exec (.Assign [.Name y py] (.ListComp elt [⟨.Name x px, iter, [], 0⟩] scope pos) spos) env) Q E s := by
  subst hLe
  rw [exec_Assign_Name_used _ _ _ _ hsw]
  refine wpAny_bind (wpAny_standAt (wpAny_bind ?_))
  show wpAny _ A (do let _ ← comprehension (.ListComp elt [⟨.Name x px, iter, [], 0⟩] scope pos) scope env _ (newList []) false (eval iter env) (some (assign (.Name y py) env))) _ _ s
  refine wpAny_bind (wpAny_mono (wpAny_comprehension_free (use := some (assign (.Name y py) env)) (Q := fun _ s' => Q .next s') rfl hs hclos hkind hnames
    (wpAny_mono h (fun xv s₁ h₁ => ?_) fun _ _ e => e)) (fun _ s' hq => wpAny_pure (wpAny_pure hq)) fun _ _ e => e)
  obtain ⟨ax, news, rfl, F, N, i0, turn, fin⟩ := h₁
  have isl : ∀ {h' : Heap} {nw : Led} {i ys}, News h₀ env.locals h' nw → Inv ax i ys nw → h'.IsList ax its := fun N' iv => ⟨_, (N' _ (hiv _ _ _ _ iv)).1, rfl, k, rfl⟩
  have hl := isl N i0
  have hlt : ax < s₁.heap.objs.size := by obtain ⟨_, e, _⟩ := hl; exact Heap.lt_size e
  refine wpAny_pyIter_list hl ?_
  have up : ∀ b o, s₁.heap.get? b = some o → (s₁.heap.push { cls := .type "list_iterator", data := .fields #[.ref ax, .int 0 0] }).get? b = some o := fun b o e => Heap.get?_push_of_some _ e
  refine loop_go (Walks.list hh s₁.heap.objs.size ax (Nat.ne_of_lt hlt) its) hsz (fun i h st => ?_) (fun i h h' o nw ys st e e' _ N' iv => ?_) hcell hkind hx ⟨⟨_, Heap.get?_push_size _ rfl, rfl, rfl⟩, hl.push _⟩ (fun b hb => ?_)
    (F.keeps up) (N.grown up) (fun p hp => Nat.ne_of_lt (Heap.lt_size (N p hp).1)) (Nat.ne_of_lt F.ns.lt) (next_is_new F) i0 turn ?_
  · obtain ⟨⟨o, e, c, _⟩, _⟩ := st
    exact ⟨o, e, by rw [c]; decide⟩
  · obtain ⟨⟨o', q, r⟩, _⟩ := st
    rw [e] at q
    cases q
    exact ⟨⟨o, e', r⟩, isl N' iv⟩
  · show b < (s₁.heap.push _).objs.size
    rw [Heap.size_push]
    rcases List.mem_cons.mp hb with rfl | hb
    · exact Nat.lt_succ_self _
    · rw [List.mem_singleton.mp hb]; exact Nat.lt_succ_of_lt hlt
  · intro D C h' tk m' ys nw F' N' of hyl iv ns hC₀ hD₀ hCL hDL hCD ofC
    show wpAny _ A (assign (.Name y py) env (.ref D)) _ _ _
    refine wpAny_assign_Name (wpAny_storeName_local hy F'.ns (fun g n₁ b₁ => ?_) hp)
    have F₁ := F'.set n₁ b₁
    have N₁ := N'.set b₁
    refine ⟨m', ns.sameBut b₁ hCL, fun g' b₂ => fin D g' _ ys nw (F₁.change b₂ hCL hC₀) (fun p hp => ?_) of hyl iv⟩
    refine ⟨b₂.extBut p.1 p.2 ?_ (N₁ p hp).1, (N₁ p hp).2⟩
    rcases List.mem_cons.mp hp with rfl | hp
    · exact Ne.symm hCD
    · exact ofC p hp
end
end
section
theorem fillK_P22 : (hd.heap_39 = hd.heap_39) ∧ PySem.Challenge.rw_aj5009_01 = PySem.Challenge.rw_aj5009_01 := by
  k_fill
  exact ⟨rfl, rfl⟩
/-- the values are numbers' places, one by one -/
def Vals (w : World) (tl : Led) : List Value → List MP → Prop
  | [], [] => True
  | v :: vs, q :: qs => (∃ D, v = .ref D ∧ TupH w tl D q) ∧ Vals w tl vs qs
  | [], _ :: _ => False
  | _ :: _, [] => False
theorem Vals.sub {w : World} {a b : Led} (hs : Sub a b) : ∀ {vs : List Value} {qs : List MP}, Vals w a vs qs → Vals w b vs qs
  | [], [], _ => trivial
  | _ :: _, _ :: _, ⟨⟨D, e, H⟩, r⟩ => ⟨⟨D, e, H.sub hs⟩, Vals.sub hs r⟩
theorem Vals.snoc {w : World} {a : Led} {D : Addr} {q : MP} (H : TupH w a D q) : ∀ {vs : List Value} {qs : List MP}, Vals w a vs qs → Vals w a (vs ++ [.ref D]) (qs ++ [q])
  | [], [], _ => ⟨⟨D, rfl, H⟩, trivial⟩
  | _ :: _, _ :: _, ⟨x, r⟩ => ⟨x, Vals.snoc H r⟩
theorem Vals.five {w : World} {a : Led} {vs : List Value} {q1 q2 q3 q4 q5 : MP} (h : Vals w a vs [q1, q2, q3, q4, q5]) :
    ∃ D1 D2 D3 D4 D5, vs = [.ref D1, .ref D2, .ref D3, .ref D4, .ref D5] ∧ TupH w a D1 q1 ∧ TupH w a D2 q2 ∧ TupH w a D3 q3 ∧ TupH w a D4 q4 ∧ TupH w a D5 q5 := by
  match vs, h with
  | [v1, v2, v3, v4, v5], ⟨⟨D1, e1, H1⟩, ⟨D2, e2, H2⟩, ⟨D3, e3, H3⟩, ⟨D4, e4, H4⟩, ⟨D5, e5, H5⟩, _⟩ =>
    subst e1; subst e2; subst e3; subst e4; subst e5
    exact ⟨D1, D2, D3, D4, D5, rfl, H1, H2, H3, H4, H5⟩
def Apt (fr tl : Led) : Prop := ∀ p ∈ tl, ∀ x ∈ fr, p.1 ≠ x.1
theorem Apt.nil {tl : Led} : Apt [] tl := fun _ _ _ h => nomatch h
def Ntup (fr : Led) : Prop := ∀ p ∈ fr, ∀ (vs : Array Value) (n : Nat), p.2.cls = .type "tuple" → p.2.data = .seq vs n → False
theorem Ntup.nil : Ntup [] := fun _ h => nomatch h
theorem Ntup.cls {p : Addr × Obj} {fr : Led} (h : p.2.cls ≠ .type "tuple") (r : Ntup fr) : Ntup (p :: fr) := fun q hq vs n e d => by
  rcases List.mem_cons.mp hq with rfl | hq
  · exact h e
  · exact r q hq vs n e d
theorem Ntup.ns {p : Addr × Obj} {fr : Led} {m : Str → Option Value} (h : LCg.NsObj p.2 m) (r : Ntup fr) : Ntup (p :: fr) := fun q hq vs n e d => by
  rcases List.mem_cons.mp hq with rfl | hq
  · obtain ⟨es, ep, hd, _⟩ := h
    rw [hd] at d; cases d
  · exact r q hq vs n e d
section
variable {h₀ h : Heap} {L c1 c2 c3 c4 c5 c6 : Addr} {o1 o2 o3 o4 o5 o6 : Obj} {tl fr : Led} {w : World}
theorem Tail.mkF {nw : Led} (N : News h₀ L h nw) (X : (hd.heap_39 w.params).In h₀) (S : Sub (fr ++ (c1, o1) :: (c2, o2) :: (c3, o3) :: (c4, o4) :: (c5, o5) :: (c6, o6) :: tl) nw)
    (x1 : ∃ v, o1.data = .cell v) (x2 : ∃ v, o2.data = .cell v) (x3 : ∃ v, o3.data = .cell v) (x4 : ∃ v, o4.data = .cell v) (x5 : ∃ v, o5.data = .cell v) (x6 : ∃ v, o6.data = .cell v) (T : Tail c1 c2 c3 c4 c5 c6 tl) (nt : Ntup fr) (ap : Apt fr tl) :
    ∃ tl', News h₀ L h (fr ++ (c1, o1) :: (c2, o2) :: (c3, o3) :: (c4, o4) :: (c5, o5) :: (c6, o6) :: tl') ∧ Tail c1 c2 c3 c4 c5 c6 tl' ∧ Apt fr tl' ∧ Sub tl tl' ∧ ∀ D q, TupH w nw D q → TupH w tl' D q := by
  have mc : ∀ p, p ∈ ((c1, o1) :: (c2, o2) :: (c3, o3) :: (c4, o4) :: (c5, o5) :: (c6, o6) :: tl) → p ∈ nw := fun p hp => S p (List.mem_append_right _ hp)
  have m1 := mc (c1, o1) (by simp)
  have m2 := mc (c2, o2) (by simp)
  have m3 := mc (c3, o3) (by simp)
  have m4 := mc (c4, o4) (by simp)
  have m5 := mc (c5, o5) (by simp)
  have m6 := mc (c6, o6) (by simp)
  have pick : ∀ p : Addr × Obj, p ∈ nw.filter (fun p => ncb p && fr.all (fun x => x.1 != p.1)) ↔ p ∈ nw ∧ ncb p = true ∧ ∀ x ∈ fr, p.1 ≠ x.1 := by
    intro p
    rw [List.mem_filter, Bool.and_eq_true, List.all_eq_true]
    refine ⟨fun ⟨a, b, c⟩ => ⟨a, b, fun x hx e => ?_⟩, fun ⟨a, b, c⟩ => ⟨a, b, fun x hx => ?_⟩⟩
    · have z := c x hx
      rw [e] at z
      simp at z
    · have z := c x hx
      simpa [bne_iff_ne] using Ne.symm z
  generalize nw.filter (fun p => ncb p && fr.all (fun x => x.1 != p.1)) = tl' at pick
  have nc : NotC tl' := fun p hp => ((pick p).mp hp).2.1
  have sf : Sub tl' nw := fun p hp => ((pick p).mp hp).1
  refine ⟨tl', nsubl N fun p hp => ?_, ⟨nc, ncb_ne N m1 x1 sf nc, ncb_ne N m2 x2 sf nc, ncb_ne N m3 x3 sf nc, ncb_ne N m4 x4 sf nc, ncb_ne N m5 x5 sf nc, ncb_ne N m6 x6 sf nc⟩,
    fun p hp x hx => ((pick p).mp hp).2.2 x hx, fun p hp => (pick p).mpr ⟨mc p (by simp [hp]), T.nc p hp, ap p hp⟩, fun D q H => ?_⟩
  · rcases List.mem_append.mp hp with hp | hp
    · exact S p (List.mem_append_left _ hp)
    · simp only [List.mem_cons] at hp
      rcases hp with rfl | rfl | rfl | rfl | rfl | rfl | hp
      · exact m1
      · exact m2
      · exact m3
      · exact m4
      · exact m5
      · exact m6
      · exact sf p hp
  · obtain ⟨t1, t2, t3, t4, c, H⟩ := H
    refine ⟨t1, t2, t3, t4, c, ?_⟩
    rcases H with H | H
    · refine .inl ((pick _).mpr ⟨H, rfl, fun x hx e => ?_⟩)
      have g1 := (N _ H).1
      have g2 := (N x (S x (List.mem_append_left _ hx))).1
      have e' : D = x.1 := e
      rw [e'] at g1
      have g3 : tupO q t1 t2 t3 t4 c = x.2 := Option.some.inj (g1.symm.trans g2)
      exact nt x hx _ _ (by rw [← g3]; rfl) (by rw [← g3]; rfl)
    · exact .inr H
/-- what stands between the turns: the front kept, the cells, a tail, the numbers told so far -/
def InvC (w : World) (fr : Led) (c1 c2 c3 c4 c5 c6 : Addr) (o1 o2 o3 o4 o5 o6 : Obj) (tl₀ : Led) (qs : List MP) (i : Nat) (ys : List Value) (nw : Led) : Prop :=
  ∃ tl, nw = fr ++ (c1, o1) :: (c2, o2) :: (c3, o3) :: (c4, o4) :: (c5, o5) :: (c6, o6) :: tl ∧ Tail c1 c2 c3 c4 c5 c6 tl ∧ Apt fr tl ∧ Sub tl₀ tl ∧ Vals w tl ys (qs.take i)
theorem InvC.start {tl₀ : Led} {qs : List MP} (T : Tail c1 c2 c3 c4 c5 c6 tl₀) (ap : Apt fr tl₀) : InvC w fr c1 c2 c3 c4 c5 c6 o1 o2 o3 o4 o5 o6 tl₀ qs 0 [] (fr ++ (c1, o1) :: (c2, o2) :: (c3, o3) :: (c4, o4) :: (c5, o5) :: (c6, o6) :: tl₀) :=
  ⟨tl₀, rfl, T, ap, Sub.rfl, trivial⟩
end
section
variable {w : World} {f : Addr} {vs : List Value} {k : Nat}
    {p : Program} {loose : List Str} {mean : ExcName → Option Value} {mg mb : Str → Option Value}
    {dp un : Nat} {gd : Option (List Code)} {cn : Str} {cs : Scope} {a : Addr} {ccd : Value} {cl : List (Str × Addr)} {outer : List Env} {A₀ : Around} {base h₀ : Heap} {L : Addr} {m : Str → Option Value} {s : Shared}
    {E : Value → Shared → Prop} {c1 c2 c3 c4 c5 c6 : Addr} {o1 o2 o3 o4 o5 o6 : Obj} {tl tl₀ fr : Led}
/-- the call in a turn ends the turn -/
theorem Tl.useT {I C D : Addr} {oI oC : Obj} {m₂ : Str → Option Value} {ys : List Value} {i : Nat} {qs : List MP} {q : MP} {QQ : Value → Shared → Prop}
    (Ct : Tl w f vs k ((I, oI) :: (C, oC) :: (D, LCg.lst ys) :: (fr ++ (c1, o1) :: (c2, o2) :: (c3, o3) :: (c4, o4) :: (c5, o5) :: (c6, o6) :: tl)) (fun nw r' => ∃ D, r' = .ref D ∧ TupH w nw D q))
    (x1 : ∃ v, o1.data = .cell v) (x2 : ∃ v, o2.data = .cell v) (x3 : ∃ v, o3.data = .cell v) (x4 : ∃ v, o4.data = .cell v) (x5 : ∃ v, o5.data = .cell v) (x6 : ∃ v, o6.data = .cell v)
    (Tt : Tail c1 c2 c3 c4 c5 c6 tl) (ap : Apt fr tl) (nt : Ntup fr) (s0 : Sub tl₀ tl) (V : Vals w tl ys (qs.take i)) (hq : qs[i]? = some q) (tI : oI.cls ≠ .type "tuple") (nC : LCg.NsObj oC m₂)
    (off : ∀ p ∈ (fr ++ (c1, o1) :: (c2, o2) :: (c3, o3) :: (c4, o4) :: (c5, o5) :: (c6, o6) :: tl), p.1 ≠ I ∧ p.1 ≠ C ∧ p.1 ≠ D)
    (hQQ : ∀ y h' tk' news', Fr h₀ L h' m → News h₀ L h' ((I, oI) :: (C, oC) :: (D, LCg.lst ys) :: news') → (∀ p ∈ news', p.1 ≠ I ∧ p.1 ≠ C ∧ p.1 ≠ D) → InvC w fr c1 c2 c3 c4 c5 c6 o1 o2 o3 o4 o5 o6 tl₀ qs (i + 1) (ys ++ [y]) news' → QQ y { s with heap := h', toks := tk' })
    (B : Below A₀ base outer h₀) (F : Fr h₀ L s.heap m) (X : (hd.heap_39 w.params).In h₀) (N : News h₀ L s.heap ((I, oI) :: (C, oC) :: (D, LCg.lst ys) :: (fr ++ (c1, o1) :: (c2, o2) :: (c3, o3) :: (c4, o4) :: (c5, o5) :: (c6, o6) :: tl)))
    (T : Top p loose mean mg mb h₀) (hk : cs.kind = .function) (hd : dp + k < recursionLimit) (hu : un + 8 * k + 100 < cLine) :
    wpAny (model PySem.Challenge.rw_aj5009_01.row.prog w) (ktrTop dp un gd cn cs L a ccd cl outer) (call (.ref f) vs) QQ E s :=
  Ct.use B F X N T hk hd hu fun r nw h' tk' F' N' S o => by
    obtain ⟨D', rfl, H⟩ := o
    have nt' : Ntup ((I, oI) :: (C, oC) :: (D, LCg.lst ys) :: fr) := .cls tI (.ns nC (.cls (by show Value.type "list" ≠ Value.type "tuple"; decide) nt))
    have ap' : Apt ((I, oI) :: (C, oC) :: (D, LCg.lst ys) :: fr) tl := fun p hp x hx => by
      have z := off p (List.mem_append_right _ (by simp [hp]))
      rcases List.mem_cons.mp hx with rfl | hx
      · exact z.1
      rcases List.mem_cons.mp hx with rfl | hx
      · exact z.2.1
      rcases List.mem_cons.mp hx with rfl | hx
      · exact z.2.2
      · exact ap p hp x hx
    obtain ⟨tl', N2, T2, A2, S2, K2⟩ := Tail.mkF (fr := (I, oI) :: (C, oC) :: (D, LCg.lst ys) :: fr) N' X S x1 x2 x3 x4 x5 x6 Tt nt' ap'
    refine hQQ _ h' tk' _ F' N2 (fun p hp => ?_) ⟨tl', rfl, T2, fun p hp x hx => A2 p hp x (.tail _ (.tail _ (.tail _ hx))), s0.trans S2, ?_⟩
    · have old : ∀ p', p' ∈ (fr ++ (c1, o1) :: (c2, o2) :: (c3, o3) :: (c4, o4) :: (c5, o5) :: (c6, o6) :: []) → p'.1 ≠ I ∧ p'.1 ≠ C ∧ p'.1 ≠ D := fun p' hp' => off p' (by
        simp only [List.mem_append, List.mem_cons, List.not_mem_nil, or_false] at hp' ⊢
        rcases hp' with z | z | z | z | z | z | z <;> simp [z])
      rcases List.mem_append.mp hp with z | z
      · exact old p (List.mem_append_left _ z)
      · simp only [List.mem_cons] at z
        rcases z with z | z | z | z | z | z | z
        · exact old p (by simp [z])
        · exact old p (by simp [z])
        · exact old p (by simp [z])
        · exact old p (by simp [z])
        · exact old p (by simp [z])
        · exact old p (by simp [z])
        · exact ⟨A2 p z (I, oI) (.head _), A2 p z (C, oC) (.tail _ (.head _)), A2 p z (D, LCg.lst ys) (.tail _ (.tail _ (.head _)))⟩
    · have e : qs.take (i + 1) = qs.take i ++ [q] := by
        rw [List.take_add_one, hq]; rfl
      rw [e]
      exact Vals.snoc (K2 _ _ H) (V.sub S2)
end
def rnds : List Rnd := [.f, .c, .n, .d, .u]
theorem sign_rnd {i : Nat} {v : Value} (h : SignAt (Str.ofString "fcndu") i v) (hi : i < 5) : ∃ (r : Rnd) (u : Tok), v = .str (rndS r) u ∧ rnds[i]? = some r := by
  obtain ⟨c, u, hc, rfl⟩ := h
  have key : ∀ (c' : Nat) (r : Rnd), (Str.ofString "fcndu").cps[i]? = some c' → (⟨#[c']⟩ : Str) = rndS r → rnds[i]? = some r → ∃ (r : Rnd) (u' : Tok), (Value.str ⟨#[c]⟩ u) = .str (rndS r) u' ∧ rnds[i]? = some r := by
    intro c' r h1 h2 h3
    rw [hc] at h1
    cases h1
    exact ⟨r, u, by rw [h2], h3⟩
  rcases (by omega : i = 0 ∨ i = 1 ∨ i = 2 ∨ i = 3 ∨ i = 4) with rfl | rfl | rfl | rfl | rfl
  · exact key 102 .f (by decide +kernel) (by decide +kernel) rfl
  · exact key 99 .c (by decide +kernel) (by decide +kernel) rfl
  · exact key 110 .n (by decide +kernel) (by decide +kernel) rfl
  · exact key 100 .d (by decide +kernel) (by decide +kernel) rfl
  · exact key 117 .u (by decide +kernel) (by decide +kernel) rfl
end
section
theorem fillK_P23 : (hd.heap_39 = hd.heap_39) ∧ PySem.Challenge.rw_aj5009_01 = PySem.Challenge.rw_aj5009_01 := by
  k_fill
  exact ⟨rfl, rfl⟩
section
variable {prog : Program} {w : World} {A : Around} {E : Value → Shared → Prop} {s : Shared} {h₀ : Heap} {L : Addr} {m : Str → Option Value} {env : Env} {c1 c2 c3 c4 c5 c6 : Addr} {o1 o2 o3 o4 o5 o6 : Obj} {tl fr : Led}
  {elt iter : Expr} {x : Str} {px : Pos} {scope : Scope} {cl : List (Str × Addr)} {pos : Pos} {Q : Value → Shared → Prop}
theorem comp_rnd (g : Rnd → MP) (F : Fr h₀ L s.heap m) (N : News h₀ L s.heap (fr ++ (c1, o1) :: (c2, o2) :: (c3, o3) :: (c4, o4) :: (c5, o5) :: (c6, o6) :: tl)) (Tt : Tail c1 c2 c3 c4 c5 c6 tl) (ap : Apt fr tl)
    (hh : A.handled = none) (hclos : closureFor scope env = pure cl) (hcell : ∀ y ∈ scope.names, y.2 ≠ .cell) (hkind : scope.kind = .function)
    (hnames : ∀ y ∈ scope.names, y.2 = .local → scope.names.lookup y.1 = some .local) (hx : scope.names.lookup x = some .local)
    (hit : ∀ QQ : Value → Shared → Prop, (∀ t tk, QQ (.str (Str.ofString "fcndu") t) { s with toks := tk }) → wpAny (model prog w) A (eval iter env) QQ E s)
    (turn : TurnOk prog w A h₀ L m env elt x scope cl s 5 (SignAt (Str.ofString "fcndu")) (InvC w fr c1 c2 c3 c4 c5 c6 o1 o2 o3 o4 o5 o6 tl (rnds.map g)))
    (fin : ∀ D h tk D1 D2 D3 D4 D5 tl', Fr h₀ L h m → News h₀ L h ((D, LCg.lst [.ref D1, .ref D2, .ref D3, .ref D4, .ref D5]) :: (fr ++ (c1, o1) :: (c2, o2) :: (c3, o3) :: (c4, o4) :: (c5, o5) :: (c6, o6) :: tl')) →
      (∀ p ∈ (fr ++ (c1, o1) :: (c2, o2) :: (c3, o3) :: (c4, o4) :: (c5, o5) :: (c6, o6) :: tl'), p.1 ≠ D) → Tail c1 c2 c3 c4 c5 c6 tl' → Apt fr tl' → Sub tl tl' →
      TupH w tl' D1 (g .f) → TupH w tl' D2 (g .c) → TupH w tl' D3 (g .n) → TupH w tl' D4 (g .d) → TupH w tl' D5 (g .u) → Q (.ref D) { s with heap := h, toks := tk })
    (hs : ∀ x, foldedSetIterable iter env x = pure x := by intro _; rfl) :
    wpAny (model prog w) A (eval (.ListComp elt [⟨.Name x px, iter, [], 0⟩] scope pos) env) Q E s := by
  have e5 : (Str.ofString "fcndu").cps.size = 5 := by decide +kernel
  refine comp_text (h₀ := h₀) (L := L) (m := m) (Str.ofString "fcndu") (InvC w fr c1 c2 c3 c4 c5 c6 o1 o2 o3 o4 o5 o6 tl (rnds.map g)) hh (by decide +kernel) (by rw [e5]; exact Nat.le_of_ble_eq_true rfl) hclos hcell hkind hnames hx (hit _ fun t tk => ?_) hs
  refine ⟨t, _, rfl, F, N, InvC.start Tt ap, by rw [e5]; exact turn, fun D h tk' ys nw F' N' of hy iv => ?_⟩
  rw [e5] at iv
  obtain ⟨tl', rfl, T', A', S', V'⟩ := iv
  obtain ⟨D1, D2, D3, D4, D5, rfl, H1, H2, H3, H4, H5⟩ := Vals.five (show Vals w tl' ys [g .f, g .c, g .n, g .d, g .u] from V')
  exact fin D h tk' D1 D2 D3 D4 D5 tl' F' N' of T' A' S' H1 H2 H3 H4 H5
theorem comp_done {kind prec n q : Int} {sm tm : MP} {Ds Dt : Addr} {u1 u2 u3 u4 : Tok}
    (_ : o6.data = .cell (some (.int kind u1))) (_ : o5.data = .cell (some (.int prec u2))) (_ : o4.data = .cell (some (.ref Ds))) (_ : o3.data = .cell (some (.ref Dt))) (_ : o2.data = .cell (some (.int n u3))) (_ : o1.data = .cell (some (.int q u4)))
    (_ : TupH w tl Ds sm) (_ : TupH w tl Dt tm) (F : Fr h₀ L s.heap m) (N : News h₀ L s.heap ((c1, o1) :: (c2, o2) :: (c3, o3) :: (c4, o4) :: (c5, o5) :: (c6, o6) :: tl)) (Tt : Tail c1 c2 c3 c4 c5 c6 tl)
    (hh : A.handled = none) (hclos : closureFor scope env = pure cl) (hcell : ∀ y ∈ scope.names, y.2 ≠ .cell) (hkind : scope.kind = .function)
    (hnames : ∀ y ∈ scope.names, y.2 = .local → scope.names.lookup y.1 = some .local) (hx : scope.names.lookup x = some .local)
    (hit : ∀ QQ : Value → Shared → Prop, (∀ t tk, QQ (.str (Str.ofString "fcndu") t) { s with toks := tk }) → wpAny (model prog w) A (eval iter env) QQ E s)
    (turn : TurnOk prog w A h₀ L m env elt x scope cl s 5 (SignAt (Str.ofString "fcndu")) (InvC w [] c1 c2 c3 c4 c5 c6 o1 o2 o3 o4 o5 o6 tl (rnds.map fun r => doneF kind sm tm n q prec r)))
    (fin : ∀ D h tk D1 D2 D3 D4 D5 tl', Fr h₀ L h m → News h₀ L h ((D, LCg.lst [.ref D1, .ref D2, .ref D3, .ref D4, .ref D5]) :: (c1, o1) :: (c2, o2) :: (c3, o3) :: (c4, o4) :: (c5, o5) :: (c6, o6) :: tl') →
      Tail c1 c2 c3 c4 c5 c6 tl' → Sub tl tl' →
      TupH w tl' D1 (doneF kind sm tm n q prec .f) → TupH w tl' D2 (doneF kind sm tm n q prec .c) → TupH w tl' D3 (doneF kind sm tm n q prec .n) → TupH w tl' D4 (doneF kind sm tm n q prec .d) → TupH w tl' D5 (doneF kind sm tm n q prec .u) → Q (.ref D) { s with heap := h, toks := tk })
    (hs : ∀ x, foldedSetIterable iter env x = pure x := by intro _; rfl) :
    wpAny (model prog w) A (eval (.ListComp elt [⟨.Name x px, iter, [], 0⟩] scope pos) env) Q E s :=
  comp_rnd (fr := []) (fun r => doneF kind sm tm n q prec r) F N Tt Apt.nil hh hclos hcell hkind hnames hx hit turn (fun D h tk D1 D2 D3 D4 D5 tl' F' N' _ T' _ S' => fin D h tk D1 D2 D3 D4 D5 tl' F' N' T' S') hs
theorem comp_turned {ax : Addr} {oa : Obj} {kind prec n q : Int} {sm tm : MP} {Ds Dt : Addr} {u1 u2 u3 u4 : Tok}
    (_ : o6.data = .cell (some (.int kind u1))) (_ : o5.data = .cell (some (.int prec u2))) (_ : o4.data = .cell (some (.ref Ds))) (_ : o3.data = .cell (some (.ref Dt))) (_ : o2.data = .cell (some (.int n u3))) (_ : o1.data = .cell (some (.int q u4)))
    (_ : TupH w tl Ds sm) (_ : TupH w tl Dt tm) (F : Fr h₀ L s.heap m) (N : News h₀ L s.heap ((ax, oa) :: (c1, o1) :: (c2, o2) :: (c3, o3) :: (c4, o4) :: (c5, o5) :: (c6, o6) :: tl)) (Tt : Tail c1 c2 c3 c4 c5 c6 tl) (ap : Apt [(ax, oa)] tl)
    (hh : A.handled = none) (hclos : closureFor scope env = pure cl) (hcell : ∀ y ∈ scope.names, y.2 ≠ .cell) (hkind : scope.kind = .function)
    (hnames : ∀ y ∈ scope.names, y.2 = .local → scope.names.lookup y.1 = some .local) (hx : scope.names.lookup x = some .local)
    (hit : ∀ QQ : Value → Shared → Prop, (∀ t tk, QQ (.str (Str.ofString "fcndu") t) { s with toks := tk }) → wpAny (model prog w) A (eval iter env) QQ E s)
    (turn : TurnOk prog w A h₀ L m env elt x scope cl s 5 (SignAt (Str.ofString "fcndu")) (InvC w [(ax, oa)] c1 c2 c3 c4 c5 c6 o1 o2 o3 o4 o5 o6 tl (rnds.map fun r => turnedF kind sm tm n q prec r)))
    (fin : ∀ D h tk D1 D2 D3 D4 D5 tl', Fr h₀ L h m → News h₀ L h ((D, LCg.lst [.ref D1, .ref D2, .ref D3, .ref D4, .ref D5]) :: (ax, oa) :: (c1, o1) :: (c2, o2) :: (c3, o3) :: (c4, o4) :: (c5, o5) :: (c6, o6) :: tl') →
      Tail c1 c2 c3 c4 c5 c6 tl' → Sub tl tl' →
      TupH w tl' D1 (turnedF kind sm tm n q prec .f) → TupH w tl' D2 (turnedF kind sm tm n q prec .c) → TupH w tl' D3 (turnedF kind sm tm n q prec .n) → TupH w tl' D4 (turnedF kind sm tm n q prec .d) → TupH w tl' D5 (turnedF kind sm tm n q prec .u) → Q (.ref D) { s with heap := h, toks := tk })
    (hs : ∀ x, foldedSetIterable iter env x = pure x := by intro _; rfl) :
    wpAny (model prog w) A (eval (.ListComp elt [⟨.Name x px, iter, [], 0⟩] scope pos) env) Q E s :=
  comp_rnd (fr := [(ax, oa)]) (fun r => turnedF kind sm tm n q prec r) F N Tt ap hh hclos hcell hkind hnames hx hit turn (fun D h tk D1 D2 D3 D4 D5 tl' F' N' _ T' _ S' => fin D h tk D1 D2 D3 D4 D5 tl' F' N' T' S') hs
theorem Vals.get {a : Led} {i : Nat} {v : Value} : ∀ {vs : List Value} {qs : List MP} {i : Nat}, Vals w a vs qs → vs[i]? = some v → ∃ D q, v = .ref D ∧ TupH w a D q ∧ qs[i]? = some q
  | [], [], _, _, e => by simp at e
  | _ :: _, q :: _, 0, ⟨⟨D, e1, H⟩, _⟩, e => by
    rw [List.getElem?_cons_zero] at e
    cases e
    exact ⟨D, q, e1, H, rfl⟩
  | _ :: vs, _ :: qs, i + 1, ⟨_, r⟩, e => by
    rw [List.getElem?_cons_succ] at e ⊢
    exact Vals.get (vs := vs) (qs := qs) (i := i) r e
theorem comp_neg {y : Str} {py : Pos} {spos : Pos} {Q : Flow → Shared → Prop} {Da Db Dc Dd De : Addr} {qa qb qc qd qe : MP}
    (H1 : TupH w tl Da qa) (H2 : TupH w tl Db qb) (H3 : TupH w tl Dc qc) (H4 : TupH w tl Dd qd) (H5 : TupH w tl De qe) (F : Fr h₀ L s.heap m) (N : News h₀ L s.heap ((c1, o1) :: (c2, o2) :: (c3, o3) :: (c4, o4) :: (c5, o5) :: (c6, o6) :: tl)) (Tt : Tail c1 c2 c3 c4 c5 c6 tl)
    (hh : A.handled = none) (hLe : env.locals = L) (hsw : swapsWith (.ListComp elt [⟨.Name x px, iter, [], 0⟩] scope pos) (some (.Name y py)) spos.line env = pure true) (hclos : closureFor scope env = pure cl) (hcell : ∀ y ∈ scope.names, y.2 ≠ .cell) (hkind : scope.kind = .function)
    (hnames : ∀ y ∈ scope.names, y.2 = .local → scope.names.lookup y.1 = some .local) (hx : scope.names.lookup x = some .local)
    (hy : env.kindOf y = some .local) (hp : (env.scope.kind == .class || (env.scope.kind == .module && env.locals != env.globals)) = false)
    (hit : ∀ QQ : Value → Shared → Prop, (∀ ax h tk, Fr h₀ L h m → News h₀ L h ((ax, W.listOf #[.ref Da, .ref Db, .ref Dc, .ref Dd, .ref De] 0) :: (c1, o1) :: (c2, o2) :: (c3, o3) :: (c4, o4) :: (c5, o5) :: (c6, o6) :: tl) → (∀ p ∈ tl, p.1 ≠ ax) → QQ (.ref ax) { s with heap := h, toks := tk }) → wpAny (model prog w) A (eval iter env) QQ E s)
    (turn : ∀ ax, TurnOk prog w A h₀ L m env elt x scope cl s 5 (fun i v => ∃ D q, v = .ref D ∧ TupH w tl D q ∧ [qa, qb, qc, qd, qe][i]? = some q) (InvC w [(ax, W.listOf #[.ref Da, .ref Db, .ref Dc, .ref Dd, .ref De] 0)] c1 c2 c3 c4 c5 c6 o1 o2 o3 o4 o5 o6 tl ([qa, qb, qc, qd, qe].map negF)))
    (fin : ∀ D h tk D1 D2 D3 D4 D5 tl', Fr h₀ L h (fun z => if z = y then some (.ref D) else m z) → News h₀ L h ((D, LCg.lst [.ref D1, .ref D2, .ref D3, .ref D4, .ref D5]) :: (c1, o1) :: (c2, o2) :: (c3, o3) :: (c4, o4) :: (c5, o5) :: (c6, o6) :: tl') →
      Tail c1 c2 c3 c4 c5 c6 tl' → (∀ p ∈ tl', p.1 ≠ D) → Sub tl tl' →
      TupH w tl' D1 (negF qa) → TupH w tl' D2 (negF qb) → TupH w tl' D3 (negF qc) → TupH w tl' D4 (negF qd) → TupH w tl' D5 (negF qe) → Q .next { s with heap := h, toks := tk })
    (hs : ∀ x, foldedSetIterable iter env x = pure x := by intro _; rfl) :
    wpAny (model prog w) A (exec (.Assign [.Name y py] (.ListComp elt [⟨.Name x px, iter, [], 0⟩] scope pos) spos) env) Q E s := by
  refine comp_list_to (h₀ := h₀) (L := L) (m := m) #[.ref Da, .ref Db, .ref Dc, .ref Dd, .ref De] 0 (fun ax => InvC w [(ax, W.listOf #[.ref Da, .ref Db, .ref Dc, .ref Dd, .ref De] 0)] c1 c2 c3 c4 c5 c6 o1 o2 o3 o4 o5 o6 tl ([qa, qb, qc, qd, qe].map negF)) hh
    (Nat.le_of_ble_eq_true rfl) (fun ax i ys nw iv => ?_) hLe hsw hclos hcell hkind hnames hx hy hp (hit _ fun ax h tk F' N' ne => ?_) hs
  · obtain ⟨tl', rfl, _⟩ := iv
    exact .head _
  have V : Vals w tl [.ref Da, .ref Db, .ref Dc, .ref Dd, .ref De] [qa, qb, qc, qd, qe] := ⟨⟨Da, rfl, H1⟩, ⟨Db, rfl, H2⟩, ⟨Dc, rfl, H3⟩, ⟨Dd, rfl, H4⟩, ⟨De, rfl, H5⟩, trivial⟩
  refine ⟨ax, _, rfl, F', N', InvC.start (fr := [(ax, W.listOf #[.ref Da, .ref Db, .ref Dc, .ref Dd, .ref De] 0)]) Tt (fun p hp x hx => by rw [List.mem_singleton.mp hx]; exact ne p hp), ?_, fun D h' tk' ys nw F2 N2 of hy iv => ?_⟩
  · intro i v ys news I oI C oC D m₂ h' tk' QQ E' hi hP
    exact turn ax i v ys news I oI C oC D m₂ h' tk' QQ E' hi (Vals.get (i := i) V (by rw [← hP]; exact (Array.getElem?_toList ..)))
  · obtain ⟨tl', rfl, T', A', S', V'⟩ := iv
    obtain ⟨D1, D2, D3, D4, D5, rfl, G1, G2, G3, G4, G5⟩ := Vals.five (show Vals w tl' ys [negF qa, negF qb, negF qc, negF qd, negF qe] from V')
    exact fin D h' tk' D1 D2 D3 D4 D5 tl' F2 (ndrop2 N2 rfl) T' (fun p hp => of p (List.mem_append_right _ (by simp [hp]))) S' G1 G2 G3 G4 G5
end
theorem bits60 {x : Int} (h1 : -1000000000000000 < x) (h2 : x < 1000000000000000) : Builtin.Int.intBits x ≤ 60 := intBits_le (by
  have : (2 : Nat) ^ 60 = 1152921504606846976 := by decide
  omega)
section
variable {h₀ h : Heap} {L c1 c2 c3 c4 c5 c6 : Addr} {o1 o2 o3 o4 o5 o6 : Obj} {tl : Led}
theorem kind_cells {kind prec n q : Int} {s t : MP} {u1 u2 u3 u4 : Tok} (_ : News h₀ L h ((c1, o1) :: (c2, o2) :: (c3, o3) :: (c4, o4) :: (c5, o5) :: (c6, o6) :: tl))
    (_ : o6.data = .cell (some (.int kind u1))) (_ : o5.data = .cell (some (.int prec u2))) (_ : o2.data = .cell (some (.int n u3))) (_ : o1.data = .cell (some (.int q u4)))
    (p2 : P2 kind s t) (ws : Wf s) (bs : s.bc ≤ 30) (x1 : -90 ≤ s.ex) (x2 : s.ex ≤ 90) (k0 : 0 ≤ kind) (k8 : kind < 9) (hp : 30 ≤ prec) (hp' : prec < 70)
    (hn1 : -1000000000000000 < n) (hn2 : n < 1000000000000000) (hq1 : 0 < q) (hq2 : q < 1000000000000000) :
    KindOK kind s t n q prec ∧ Wf t ∧ Sm 400 s ∧ Sm 400 t ∧ (kind = 3 → t.man ≠ 0) ∧ (kind = 6 → t.man ≠ 0) ∧ Builtin.Int.intBits n ≤ 60 ∧ Builtin.Int.intBits q ≤ 60 ∧ q ≠ 0 ∧ 0 < prec ∧ prec ≤ 100 ∧ 0 ≤ kind ∧ kind ≤ 8 ∧ Wf (absF s) := by
  obtain ⟨wt, bt, et, est, e3, e6⟩ := p2
  have hn := bits60 hn1 hn2
  have hq := bits60 (show -1000000000000000 < q by omega) hq2
  exact ⟨kind_ok ws wt bs bt ⟨x1, x2⟩ et est hn hq hq1 hp (by omega) k0 (by omega) (fun h => ⟨(e3 h).1, (e3 h).2⟩) (fun h => ⟨(e6 h).1, (e6 h).2⟩), wt, ⟨by omega, by omega, by omega⟩, ⟨by omega, by omega, by omega⟩, fun h => (e3 h).1, fun h => (e6 h).1, hn, hq, by omega, by omega, by omega, k0, by omega, (abs_wf ws).1⟩
end
end
section
theorem fillK_P24 : (hd.heap_39 = hd.heap_39) ∧ PySem.Challenge.rw_aj5009_01 = PySem.Challenge.rw_aj5009_01 := by
  k_fill
  exact ⟨rfl, rfl⟩
def JE (h₀ : Heap) (L : Addr) (m : Str → Option Value) (s : Shared) (c1 c2 c3 c4 c5 c6 : Addr) (o1 o2 o3 o4 o5 o6 : Obj) (tl : Led) (fl : Flow) (s' : Shared) : Prop :=
  fl = .next ∧ ∃ (h' : Heap) (tk : Nat) (mv : Option Value) (tl' : Led), s' = { s with heap := h', toks := tk } ∧ Fr h₀ L h' (fun y => if y = Str.ofString "middle" then mv else m y) ∧
    News h₀ L h' ((c1, o1) :: (c2, o2) :: (c3, o3) :: (c4, o4) :: (c5, o5) :: (c6, o6) :: tl') ∧ Tail c1 c2 c3 c4 c5 c6 tl' ∧ Sub tl tl'
theorem fr_same {h₀ h : Heap} {L : Addr} {m : Str → Option Value} (F : Fr h₀ L h m) : Fr h₀ L h (fun y => if y = Str.ofString "middle" then m (Str.ofString "middle") else m y) := by
  have e : (fun y => if y = Str.ofString "middle" then m (Str.ofString "middle") else m y) = m := by
    funext y
    by_cases h : y = Str.ofString "middle"
    · rw [if_pos h, h]
    · rw [if_neg h]
  rw [e]
  exact F
section
variable {M : Model} {A : Around} {T : Sem Flow} {h₀ : Heap} {L : Addr} {m : Str → Option Value} {s : Shared} {c1 c2 c3 c4 c5 c6 : Addr} {o1 o2 o3 o4 o5 o6 : Obj} {tl : Led} {Q : Flow → Shared → Prop} {E : Value → Shared → Prop}
theorem joinE (_ : Fr h₀ L s.heap m) (_ : News h₀ L s.heap ((c1, o1) :: (c2, o2) :: (c3, o3) :: (c4, o4) :: (c5, o5) :: (c6, o6) :: tl))
    (h1 : ∀ QQ EE, (∀ fl s', JE h₀ L m s c1 c2 c3 c4 c5 c6 o1 o2 o3 o4 o5 o6 tl fl s' → QQ fl s') → wpAny M A T QQ EE s)
    (h2 : ∀ (h' : Heap) (tk : Nat) (mv : Option Value) (tl' : Led), Fr h₀ L h' (fun y => if y = Str.ofString "middle" then mv else m y) → News h₀ L h' ((c1, o1) :: (c2, o2) :: (c3, o3) :: (c4, o4) :: (c5, o5) :: (c6, o6) :: tl') →
      Tail c1 c2 c3 c4 c5 c6 tl' → Sub tl tl' → Q .next { s with heap := h', toks := tk }) : wpAny M A T Q E s := by
  refine h1 Q E fun fl s' hh => ?_
  obtain ⟨rfl, h', tk, mv, tl', rfl, a, b, c, d⟩ := hh
  exact h2 h' tk mv tl' a b c d
end
section
variable {prog : Program} {w : World} {A : Around} {E : Value → Shared → Prop} {s : Shared} {h₀ : Heap} {L : Addr} {m : Str → Option Value} {news : Led}
/-- two pairs alike -/
theorem nePair_f {P P' a b a' b' : Addr} {n n' : Nat} {q r q' r' : MP} {Q : Value → Shared → Prop} (F : Fr h₀ L s.heap m) (N : News h₀ L s.heap news) (X : (hd.heap_39 w.params).In h₀)
    (hP : (P, ({ cls := .type "tuple", data := .seq #[.ref a, .ref b] n } : Obj)) ∈ news) (hP' : (P', ({ cls := .type "tuple", data := .seq #[.ref a', .ref b'] n' } : Obj)) ∈ news)
    (Ha : TupH w news a q) (Hb : TupH w news b r) (Ha' : TupH w news a' q') (Hb' : TupH w news b' r') (e1 : q = q') (e2 : r = r') (hu : A.units + 64 < cLine) (h : Q (.bool false) s) :
    wpAny (model prog w) A (compareOp .NotEq (.ref P) (.ref P')) Q E s := by
  obtain ⟨_, ra⟩ := Ha.reads F N X
  obtain ⟨_, rb⟩ := Hb.reads F N X
  obtain ⟨_, ra'⟩ := Ha'.reads F N X
  obtain ⟨_, rb'⟩ := Hb'.reads F N X
  refine ne_dataH (reads_tuple_at (N.get hP) rfl rfl (.cons ra (.cons rb .nil))) (reads_tuple_at (N.get hP') rfl rfl (.cons ra' (.cons rb' .nil))) ?_ ?_ hu ?_
  · simp [mpData, SeqAt.shaped, PyData.canLay0, PyData.canLayAll0, PyData.depth, PyData.depthAll]
  · simp [mpData, SeqAt.shaped, PyData.canLay0, PyData.canLayAll0, PyData.depth, PyData.depthAll]
  · have e : PyData.eqv (.tuple [mpData q, mpData r]) (.tuple [mpData q', mpData r']) = true := by
      rw [← e1, ← e2]
      simp only [PyData.eqv, PyData.eqvAll, mpData_eqv, decide_true, Bool.and_self]
    rw [e]
    exact h
/-- two lists of five alike -/
theorem eqFive_t {P P' a1 a2 a3 a4 a5 b1 b2 b3 b4 b5 : Addr} {q1 q2 q3 q4 q5 r1 r2 r3 r4 r5 : MP} {Q : Value → Shared → Prop} (F : Fr h₀ L s.heap m) (N : News h₀ L s.heap news) (X : (hd.heap_39 w.params).In h₀)
    (hP : (P, LCg.lst [.ref a1, .ref a2, .ref a3, .ref a4, .ref a5]) ∈ news) (hP' : (P', LCg.lst [.ref b1, .ref b2, .ref b3, .ref b4, .ref b5]) ∈ news)
    (A1 : TupH w news a1 q1) (A2 : TupH w news a2 q2) (A3 : TupH w news a3 q3) (A4 : TupH w news a4 q4) (A5 : TupH w news a5 q5)
    (B1 : TupH w news b1 r1) (B2 : TupH w news b2 r2) (B3 : TupH w news b3 r3) (B4 : TupH w news b4 r4) (B5 : TupH w news b5 r5)
    (e1 : q1 = r1) (e2 : q2 = r2) (e3 : q3 = r3) (e4 : q4 = r4) (e5 : q5 = r5) (hu : A.units + 64 < cLine) (h : Q (.bool true) s) :
    wpAny (model prog w) A (compareOp .Eq (.ref P) (.ref P')) Q E s := by
  obtain ⟨_, x1⟩ := A1.reads F N X
  obtain ⟨_, x2⟩ := A2.reads F N X
  obtain ⟨_, x3⟩ := A3.reads F N X
  obtain ⟨_, x4⟩ := A4.reads F N X
  obtain ⟨_, x5⟩ := A5.reads F N X
  obtain ⟨_, y1⟩ := B1.reads F N X
  obtain ⟨_, y2⟩ := B2.reads F N X
  obtain ⟨_, y3⟩ := B3.reads F N X
  obtain ⟨_, y4⟩ := B4.reads F N X
  obtain ⟨_, y5⟩ := B5.reads F N X
  refine eq_dataH (reads_list_at (N.get hP) rfl rfl (.cons x1 (.cons x2 (.cons x3 (.cons x4 (.cons x5 .nil)))))) (reads_list_at (N.get hP') rfl rfl (.cons y1 (.cons y2 (.cons y3 (.cons y4 (.cons y5 .nil)))))) ?_ ?_ hu ?_
  · simp [mpData, SeqAt.shaped, PyData.canLay0, PyData.canLayAll0, PyData.depth, PyData.depthAll]
  · simp [mpData, SeqAt.shaped, PyData.canLay0, PyData.canLayAll0, PyData.depth, PyData.depthAll]
  · have e : PyData.eqv (.list [mpData q1, mpData q2, mpData q3, mpData q4, mpData q5]) (.list [mpData r1, mpData r2, mpData r3, mpData r4, mpData r5]) = true := by
      rw [← e1, ← e2, ← e3, ← e4, ← e5]
      simp only [PyData.eqv, PyData.eqvAll, mpData_eqv, decide_true, Bool.and_self]
    rw [e]
    exact h
end
theorem mid_ok {a b : MP} (ha : Wf a) (hb : Wf b) (sa : Sm 1000 a) (sb : Sm 1000 b) : Wf (addF a b (Builtin.bitXor b.sg 0) 0 .d) ∧ Sm 100000 (addF a b (Builtin.bitXor b.sg 0) 0 .d) ∧ Wf (midF a b) ∧ Sm 10000 (midF a b) := by
  obtain ⟨w1, u1⟩ := add_wf (N := 1000) (prec := 0) (r := .d) ha hb (hb.b01.xor B01.zero) (by decide) (by decide) sa sb
  obtain ⟨x1, x2, x3⟩ := u1
  refine ⟨w1, ⟨by omega, by omega, by omega⟩, shift_wf w1, ?_⟩
  unfold midF shiftF
  split
  · exact ⟨by omega, by omega, by omega⟩
  · exact ⟨by dsimp only; omega, by dsimp only; omega, by dsimp only; omega⟩
section
variable {w : World} {f : Addr} {vs : List Value} {k : Nat}
    {p : Program} {loose : List Str} {mean : ExcName → Option Value} {mg mb : Str → Option Value}
    {dp un : Nat} {gd : Option (List Code)} {cn : Str} {cs : Scope} {a : Addr} {ccd : Value} {cl : List (Str × Addr)} {outer : List Env} {A₀ : Around} {base h₀ : Heap} {L : Addr} {m : Str → Option Value} {s : Shared}
    {E : Value → Shared → Prop} {c1 c2 c3 c4 c5 c6 : Addr} {o1 o2 o3 o4 o5 o6 : Obj} {tl tl₀ : Led} {I C D : Addr} {oI oC : Obj} {m₂ : Str → Option Value} {ys : List Value} {i : Nat} {qs : List MP} {q : MP} {QQ : Value → Shared → Prop}
theorem Tl.useT0
    (Ct : Tl w f vs k ((I, oI) :: (C, oC) :: (D, LCg.lst ys) :: (c1, o1) :: (c2, o2) :: (c3, o3) :: (c4, o4) :: (c5, o5) :: (c6, o6) :: tl) (fun nw r' => ∃ D, r' = .ref D ∧ TupH w nw D q))
    (x1 : ∃ v, o1.data = .cell v) (x2 : ∃ v, o2.data = .cell v) (x3 : ∃ v, o3.data = .cell v) (x4 : ∃ v, o4.data = .cell v) (x5 : ∃ v, o5.data = .cell v) (x6 : ∃ v, o6.data = .cell v)
    (Tt : Tail c1 c2 c3 c4 c5 c6 tl) (ap : Apt [] tl) (s0 : Sub tl₀ tl) (V : Vals w tl ys (qs.take i)) (hq : qs[i]? = some q) (tI : oI.cls ≠ .type "tuple") (nC : LCg.NsObj oC m₂)
    (off : ∀ p ∈ ((c1, o1) :: (c2, o2) :: (c3, o3) :: (c4, o4) :: (c5, o5) :: (c6, o6) :: tl : Led), p.1 ≠ I ∧ p.1 ≠ C ∧ p.1 ≠ D)
    (hQQ : ∀ y h' tk' news', Fr h₀ L h' m → News h₀ L h' ((I, oI) :: (C, oC) :: (D, LCg.lst ys) :: news') → (∀ p ∈ news', p.1 ≠ I ∧ p.1 ≠ C ∧ p.1 ≠ D) → InvC w [] c1 c2 c3 c4 c5 c6 o1 o2 o3 o4 o5 o6 tl₀ qs (i + 1) (ys ++ [y]) news' → QQ y { s with heap := h', toks := tk' })
    (B : Below A₀ base outer h₀) (F : Fr h₀ L s.heap m) (X : (hd.heap_39 w.params).In h₀) (N : News h₀ L s.heap ((I, oI) :: (C, oC) :: (D, LCg.lst ys) :: (c1, o1) :: (c2, o2) :: (c3, o3) :: (c4, o4) :: (c5, o5) :: (c6, o6) :: tl))
    (T : Top p loose mean mg mb h₀) (hk : cs.kind = .function) (hd : dp + k < recursionLimit) (hu : un + 8 * k + 100 < cLine) :
    wpAny (model PySem.Challenge.rw_aj5009_01.row.prog w) (ktrTop dp un gd cn cs L a ccd cl outer) (call (.ref f) vs) QQ E s :=
  Tl.useT (fr := []) Ct x1 x2 x3 x4 x5 x6 Tt ap Ntup.nil s0 V hq tI nC off hQQ B F X N T hk hd hu
theorem Tl.useT1 {ax : Addr} {vs' : Array Value} {n' : Nat}
    (Ct : Tl w f vs k ((I, oI) :: (C, oC) :: (D, LCg.lst ys) :: (ax, { cls := .type "list", data := .seq vs' n' }) :: (c1, o1) :: (c2, o2) :: (c3, o3) :: (c4, o4) :: (c5, o5) :: (c6, o6) :: tl) (fun nw r' => ∃ D, r' = .ref D ∧ TupH w nw D q))
    (x1 : ∃ v, o1.data = .cell v) (x2 : ∃ v, o2.data = .cell v) (x3 : ∃ v, o3.data = .cell v) (x4 : ∃ v, o4.data = .cell v) (x5 : ∃ v, o5.data = .cell v) (x6 : ∃ v, o6.data = .cell v)
    (Tt : Tail c1 c2 c3 c4 c5 c6 tl) (ap : Apt [(ax, { cls := .type "list", data := .seq vs' n' })] tl) (s0 : Sub tl₀ tl) (V : Vals w tl ys (qs.take i)) (hq : qs[i]? = some q) (tI : oI.cls ≠ .type "tuple") (nC : LCg.NsObj oC m₂)
    (off : ∀ p ∈ ((ax, { cls := .type "list", data := .seq vs' n' }) :: (c1, o1) :: (c2, o2) :: (c3, o3) :: (c4, o4) :: (c5, o5) :: (c6, o6) :: tl : Led), p.1 ≠ I ∧ p.1 ≠ C ∧ p.1 ≠ D)
    (hQQ : ∀ y h' tk' news', Fr h₀ L h' m → News h₀ L h' ((I, oI) :: (C, oC) :: (D, LCg.lst ys) :: news') → (∀ p ∈ news', p.1 ≠ I ∧ p.1 ≠ C ∧ p.1 ≠ D) → InvC w [(ax, { cls := .type "list", data := .seq vs' n' })] c1 c2 c3 c4 c5 c6 o1 o2 o3 o4 o5 o6 tl₀ qs (i + 1) (ys ++ [y]) news' → QQ y { s with heap := h', toks := tk' })
    (B : Below A₀ base outer h₀) (F : Fr h₀ L s.heap m) (X : (hd.heap_39 w.params).In h₀) (N : News h₀ L s.heap ((I, oI) :: (C, oC) :: (D, LCg.lst ys) :: (ax, { cls := .type "list", data := .seq vs' n' }) :: (c1, o1) :: (c2, o2) :: (c3, o3) :: (c4, o4) :: (c5, o5) :: (c6, o6) :: tl))
    (T : Top p loose mean mg mb h₀) (hk : cs.kind = .function) (hd : dp + k < recursionLimit) (hu : un + 8 * k + 100 < cLine) :
    wpAny (model PySem.Challenge.rw_aj5009_01.row.prog w) (ktrTop dp un gd cn cs L a ccd cl outer) (call (.ref f) vs) QQ E s :=
  Tl.useT (fr := [(ax, { cls := .type "list", data := .seq vs' n' })]) Ct x1 x2 x3 x4 x5 x6 Tt ap (.cls (by show Value.type "list" ≠ Value.type "tuple"; decide) Ntup.nil) s0 V hq tI nC off hQQ B F X N T hk hd hu
end
theorem kind_split {kind : Int} {s t : MP} {n q prec : Int} (ko : KindOK kind s t n q prec) :
    (doneF kind s t n q prec .f = doneF kind s t n q prec .c ∧ doneF kind s t n q prec .n = doneF kind s t n q prec .f ∧ doneF kind s t n q prec .d = doneF kind s t n q prec .f ∧ doneF kind s t n q prec .u = doneF kind s t n q prec .f ∧
      sideF kind s t n q (doneF kind s t n q prec .f) = 0) ∨
    (doneF kind s t n q prec .f ≠ doneF kind s t n q prec .c ∧ cmpF (doneF kind s t n q prec .f) (doneF kind s t n q prec .c) ≤ 0 ∧ 0 < sideF kind s t n q (doneF kind s t n q prec .f) ∧ sideF kind s t n q (doneF kind s t n q prec .c) < 0 ∧
      Apart (doneF kind s t n q prec .f) (doneF kind s t n q prec .c) (doneF kind s t n q prec .n) prec (sideF kind s t n q (shiftF (addF (doneF kind s t n q prec .f) (doneF kind s t n q prec .c) (Builtin.bitXor (doneF kind s t n q prec .c).sg 0) 0 .d) (-1))) ∧
      ((0 < signF (doneF kind s t n q prec .c) ∧ doneF kind s t n q prec .d = doneF kind s t n q prec .f ∧ doneF kind s t n q prec .u = doneF kind s t n q prec .c) ∨
       (¬ 0 < signF (doneF kind s t n q prec .c) ∧ doneF kind s t n q prec .d = doneF kind s t n q prec .c ∧ doneF kind s t n q prec .u = doneF kind s t n q prec .f))) := by
  obtain ⟨⟨same, diff⟩, _, _, _, _⟩ := ko
  by_cases h : doneF kind s t n q prec .f = doneF kind s t n q prec .c
  · obtain ⟨a, b, c, d⟩ := same h
    exact .inl ⟨h, a, b, c, d⟩
  · obtain ⟨a, b, c, d, e, f⟩ := diff h
    refine .inr ⟨h, a, b, c, d, ?_⟩
    by_cases hs : 0 < signF (doneF kind s t n q prec .c)
    · exact .inl ⟨hs, (e hs).1, (e hs).2⟩
    · exact .inr ⟨hs, (f hs).1, (f hs).2⟩
theorem kind_sizes {kind : Int} {s t : MP} {n q prec : Int} (ko : KindOK kind s t n q prec) (r : Rnd) : Wf (doneF kind s t n q prec r) ∧ Sm 10000 (doneF kind s t n q prec r) ∧ Sm 100000 (doneF kind s t n q prec r) :=
  ⟨ko.wf r, (ko.sm r).mono (by decide), (ko.sm r).mono (by decide)⟩
theorem kind_mid {kind : Int} {s t : MP} {n q prec : Int} (ko : KindOK kind s t n q prec) :
    Wf (shiftF (addF (doneF kind s t n q prec .f) (doneF kind s t n q prec .c) (Builtin.bitXor (doneF kind s t n q prec .c).sg 0) 0 .d) (-1)) ∧ Sm 10000 (shiftF (addF (doneF kind s t n q prec .f) (doneF kind s t n q prec .c) (Builtin.bitXor (doneF kind s t n q prec .c).sg 0) 0 .d) (-1)) :=
  (mid_ok (ko.wf .f) (ko.wf .c) (ko.sm .f) (ko.sm .c)).2.2
theorem kind_four {kind : Int} {s t : MP} {n q prec : Int} (ko : KindOK kind s t n q prec) :
    (kind = 4 ∧ signF (doneF kind s t n q prec .f) = signF (absF s)) ∨
    (kind ≠ 4 ∧ turnedF kind s t n q prec .f = negF (doneF kind s t n q prec .c) ∧ turnedF kind s t n q prec .c = negF (doneF kind s t n q prec .f) ∧ turnedF kind s t n q prec .n = negF (doneF kind s t n q prec .n) ∧
      turnedF kind s t n q prec .d = negF (doneF kind s t n q prec .d) ∧ turnedF kind s t n q prec .u = negF (doneF kind s t n q prec .u)) := by
  by_cases h : kind = 4
  · exact .inl ⟨h, ko.root h⟩
  · exact .inr ⟨h, ko.turn h .f, ko.turn h .c, ko.turn h .n, ko.turn h .d, ko.turn h .u⟩
theorem wf_get {l : List MP} {i : Nat} {q : MP} (h : ∀ q ∈ l, Wf q) (e : l[i]? = some q) : Wf q := h q (List.mem_of_getElem? e)
theorem wf_five {a b c d e : MP} (h1 : Wf a) (h2 : Wf b) (h3 : Wf c) (h4 : Wf d) (h5 : Wf e) : ∀ q ∈ [a, b, c, d, e], Wf q := by
  intro q hq
  simp only [List.mem_cons, List.not_mem_nil, or_false] at hq
  rcases hq with rfl | rfl | rfl | rfl | rfl <;> assumption
section
variable {prog : Program} {w : World} {A : Around} {E : Value → Shared → Prop} {s : Shared} {a b : Int} {t u : Tok} {Q : Value → Shared → Prop}
theorem eqI_t (h : a = b) (hQ : Q (.bool true) s) : wpAny (model prog w) A (compareOp .Eq (.int a t) (.int b u)) Q E s := eq_int (by
  have e : (a == b) = true := by simpa using h
  rw [e]
  exact hQ)
end
end
section
theorem fillK_P25 : (hd.heap_39 = hd.heap_39) ∧ PySem.Challenge.rw_aj5009_01 = PySem.Challenge.rw_aj5009_01 := by
  k_fill
  exact ⟨rfl, rfl⟩
set_option maxRecDepth 100000 in
set_option maxHeartbeats 2000000 in
theorem law_end {cl : Str → Option Addr} {mean : ExcName → Option Value} {args : List WData} {s₁ : Shared} {L : Addr} {m : Str → Option Value} {h : Heap} {tk : Nat} (F : Fr s₁.heap L h m) (hg : s₁.gens = #[]) :
    GoodW PySem.Challenge.rw_aj5009_01.row.claim cl mean args s₁ (.ok (.ret (.bool true))) { s₁ with heap := h, toks := tk } := by
  refine goodW_bool F hg (raisesW_false (by wrow_none_raised)) ?_
  wrow_post
section
variable {w : World} {f : Addr} {vs : List Value} {k : Nat}
    {p : Program} {loose : List Str} {mean : ExcName → Option Value} {mg mb : Str → Option Value}
    {dp un : Nat} {gd : Option (List Code)} {cn : Str} {cs : Scope} {a : Addr} {ccd : Value} {cl : List (Str × Addr)} {outer : List Env} {A₀ : Around} {base h₀ : Heap} {L : Addr} {m : Str → Option Value} {s : Shared}
    {E : Value → Shared → Prop} {c1 c2 c3 c4 c5 c6 : Addr} {o1 o2 o3 o4 o5 o6 : Obj} {tl tl₀ : Led} {I C D : Addr} {oI oC : Obj} {m₂ : Str → Option Value} {ys : List Value} {i : Nat} {qs : List MP} {q : MP} {QQ : Value → Shared → Prop}
theorem Tl.useT2 {ax : Addr} {zs : List Value}
    (Ct : Tl w f vs k ((I, oI) :: (C, oC) :: (D, LCg.lst ys) :: (ax, LCg.lst zs) :: (c1, o1) :: (c2, o2) :: (c3, o3) :: (c4, o4) :: (c5, o5) :: (c6, o6) :: tl) (fun nw r' => ∃ D, r' = .ref D ∧ TupH w nw D q))
    (x1 : ∃ v, o1.data = .cell v) (x2 : ∃ v, o2.data = .cell v) (x3 : ∃ v, o3.data = .cell v) (x4 : ∃ v, o4.data = .cell v) (x5 : ∃ v, o5.data = .cell v) (x6 : ∃ v, o6.data = .cell v)
    (Tt : Tail c1 c2 c3 c4 c5 c6 tl) (ap : Apt [(ax, LCg.lst zs)] tl) (s0 : Sub tl₀ tl) (V : Vals w tl ys (qs.take i)) (hq : qs[i]? = some q) (tI : oI.cls ≠ .type "tuple") (nC : LCg.NsObj oC m₂)
    (off : ∀ p ∈ ((ax, LCg.lst zs) :: (c1, o1) :: (c2, o2) :: (c3, o3) :: (c4, o4) :: (c5, o5) :: (c6, o6) :: tl : Led), p.1 ≠ I ∧ p.1 ≠ C ∧ p.1 ≠ D)
    (hQQ : ∀ y h' tk' news', Fr h₀ L h' m → News h₀ L h' ((I, oI) :: (C, oC) :: (D, LCg.lst ys) :: news') → (∀ p ∈ news', p.1 ≠ I ∧ p.1 ≠ C ∧ p.1 ≠ D) → InvC w [(ax, LCg.lst zs)] c1 c2 c3 c4 c5 c6 o1 o2 o3 o4 o5 o6 tl₀ qs (i + 1) (ys ++ [y]) news' → QQ y { s with heap := h', toks := tk' })
    (B : Below A₀ base outer h₀) (F : Fr h₀ L s.heap m) (X : (hd.heap_39 w.params).In h₀) (N : News h₀ L s.heap ((I, oI) :: (C, oC) :: (D, LCg.lst ys) :: (ax, LCg.lst zs) :: (c1, o1) :: (c2, o2) :: (c3, o3) :: (c4, o4) :: (c5, o5) :: (c6, o6) :: tl))
    (T : Top p loose mean mg mb h₀) (hk : cs.kind = .function) (hd : dp + k < recursionLimit) (hu : un + 8 * k + 100 < cLine) :
    wpAny (model PySem.Challenge.rw_aj5009_01.row.prog w) (ktrTop dp un gd cn cs L a ccd cl outer) (call (.ref f) vs) QQ E s :=
  Tl.useT (fr := [(ax, LCg.lst zs)]) Ct x1 x2 x3 x4 x5 x6 Tt ap (.cls (by show Value.type "list" ≠ Value.type "tuple"; decide) Ntup.nil) s0 V hq tI nC off hQQ B F X N T hk hd hu
end
end
section
theorem fillK_W20 : (hd.heap_39 = hd.heap_39) ∧ PySem.Challenge.rw_aj5009_01 = PySem.Challenge.rw_aj5009_01 := by
  k_fill
  exact ⟨rfl, rfl⟩
local macro_rules | `(tactic| k_extra "my call ref") => `(tactic| (k_here; (with_reducible show wpAny _ _ (call (Value.ref 217) [Value.ref _, Value.int _ _]) _ _ _); k_dflt (refine' TlS.useP (c_mixed _ _ _ _ _ _ ?h0 ?h1) ?k1 ?k2 ?k3 ?k4 ?k5 ?kK ?kd ?ku ?kL ?kI ?kn ?_; (case k2 => k_asm); (case k4 => k_asm); (case h0 => decide); (case h1 => decide); k_extra "tlargs2"; (case kL => k_asm); (case kI => with_reducible assumption); (case kn => omega)); intro r9 h9 tk9 F9 N9 ho9; obtain ⟨x9, t9, e9, hx9⟩ := ho9; subst e9; (try dsimp only); (try k_sweep); (try k_fold)))
local macro_rules | `(tactic| k_extra "cellx") => `(tactic| exact ⟨_, by first | with_reducible assumption | k_asm⟩)
local macro_rules | `(tactic| k_extra "cells6") => `(tactic| ((case x1 => k_extra "cellx"); (case x2 => k_extra "cellx"); (case x3 => k_extra "cellx"); (case x4 => k_extra "cellx"); (case x5 => k_extra "cellx"); (case x6 => k_extra "cellx"); (case xt => first | with_reducible assumption | exact Tail.nil)))
local macro_rules | `(tactic| k_extra "mvfront") => `(tactic| repeat ((rename News _ _ _ _ => kN'); (have kN2 := ndrop kN' (by rfl)); clear kN'))
local macro_rules | `(tactic| k_extra "my call ref") => `(tactic| (k_here; (with_reducible show wpAny _ _ (call (Value.ref 224) [Value.int _ _, Value.int _ _, Value.int _ _]) _ _ _); k_dflt (k_extra "mvfront"); k_dflt (refine' Tl.useC (c_raw _ _ _ _ _ _ ?h0) ?hm ?x1 ?x2 ?x3 ?x4 ?x5 ?x6 ?xt ?k1 ?k2 ?k3 ?k4 ?k5 ?kK ?kd ?ku ?_; (case k2 => k_asm); (case k4 => k_asm); (case h0 => k_dflt omega); (case hm => exact mono_raw); k_extra "cells6"; k_extra "tlargs2"); intro r9 tl9 h9 tk9 F9 N9 T9 S9 ho9; obtain ⟨D9, e9, q9, H9, w9, b9, xa9, xb9⟩ := ho9; subst e9; (try dsimp only); (try k_sweep); (try k_fold)))
local macro_rules | `(tactic| k_all) => `(tactic| ((rename Tail _ _ _ _ _ _ _ => kT'); first | exact Tail.n1 kT' | exact Tail.n2 kT' | exact Tail.n3 kT' | exact Tail.n4 kT' | exact Tail.n5 kT' | exact Tail.n6 kT'))
local macro_rules | `(tactic| k_extra "my binaryOp Pow int int") => `(tactic| (k_here; ((with_reducible (refine' pow2_L ?h0 ?h1 ?_)); (case h0 => k_dflt (first | decide | omega)); (case h1 => k_dflt (first | decide | omega))); intro x9 hx9 px9; k_dflt (simp at hx9); subst hx9; clear px9))
local macro_rules | `(tactic| k_extra "my binaryOp Mod int int") => `(tactic| (k_here; ((with_reducible (refine' mod_L ?h0 ?_)); (case h0 => k_extra "nz")); intro x9 hx9; (have px9 := fmod_facts hx9 (by k_extra "pz"))))
local macro_rules | `(tactic| k_extra "my binaryOp FloorDiv int int") => `(tactic| (k_here; ((with_reducible (refine' div_L ?h0 ?h1 ?_)); (case h0 => k_extra "nz"); (case h1 => k_dflt (first | exact noPylong_small (by decide) | exact noPy (by decide +kernel) | k_extra "pyp"))); intro x9 hx9; (have px9 := fdiv_facts hx9 (by k_extra "pz"))))
local macro_rules | `(tactic| k_extra "pyp") => `(tactic| exact PyProof.noPylong_small (by k_dflt omega))
local macro_rules | `(tactic| k_extra "mysteps_call") => `(tactic| repeat' (((fail_if_success (with_reducible show wpAny _ _ (call (Value.ref _) _) _ _ _))); first | (k_unfold; (try dsimp only)) | (walk1; try dsimp only) | (dsimp only; walk1) | fail "no step"))
local macro_rules | `(tactic| k_extra "my eval Call") => `(tactic| (k_here; (with_reducible show wpAny _ _ (eval (Expr.Call (Expr.Name (Str.ofString "_law_mixed") _) _ _ _) _) _ _ _); k_dflt (refine Call_ ?_)))
local macro_rules | `(tactic| k_extra "my eval Call") => `(tactic| (k_here; (with_reducible show wpAny _ _ (eval (Expr.Call (Expr.Name (Str.ofString "_law_raw") _) _ _ _) _) _ _ _); k_dflt (refine Call_ ?_)))
local macro_rules | `(tactic| k_extra "my eval Call") => `(tactic| (k_here; (with_reducible show wpAny _ _ (eval (Expr.Call (Expr.Name (Str.ofString "_law_side") _) _ _ _) _) _ _ _); k_dflt (refine Call_ ?_)))
local macro_rules | `(tactic| k_extra "my eval Call") => `(tactic| (k_here; (with_reducible show wpAny _ _ (eval (Expr.Call (Expr.Name (Str.ofString "_law_apart_right") _) _ _ _) _) _ _ _); k_dflt (refine Call_ ?_)))
local macro_rules | `(tactic| k_extra "my eval Call") => `(tactic| (k_here; (with_reducible show wpAny _ _ (eval (Expr.Call (Expr.Name (Str.ofString "mpf_sign") _) _ _ _) _) _ _ _); k_dflt (refine Call_ ?_)))
local macro_rules | `(tactic| k_extra "my eval Call") => `(tactic| (k_here; (with_reducible show wpAny _ _ (eval (Expr.Call (Expr.Name (Str.ofString "mpf_le") _) _ _ _) _) _ _ _); k_dflt (refine Call_ ?_)))
local macro_rules | `(tactic| k_extra "mysteps_raw") => `(tactic| repeat' (((fail_if_success (with_reducible show wpAny _ _ (call (Value.ref 224) _) _ _ _))); first | (k_unfold; (try dsimp only)) | (walk1; try dsimp only) | (dsimp only; walk1) | fail "no step"))
local macro_rules | `(tactic| k_extra "asmd") => `(tactic| first | with_reducible assumption | k_asm)
local macro_rules | `(tactic| k_extra "joins") => `(tactic| ((case X => k_asm); (case F => k_asm); (case N => k_asm); (case hk => with_reducible assumption)))
local macro_rules | `(tactic| k_extra "finT1") => `(tactic| ((rename (∀ fl s', JT _ _ _ _ _ _ _ _ _ _ _ _ _ _ _ _ _ _ fl s' → _) => hQQ); first
  | ((rename (List.any _ _ = true) => hz); (rename News _ _ _ _ => kN'); (obtain ⟨tl9, N9, T9, S9, M9⟩ := Tail.move (ndrop2 kN' (by rfl)) (by rfl) (by k_extra "cellx") (by k_extra "cellx") (by k_extra "cellx") (by k_extra "cellx") (by k_extra "cellx") (by k_extra "cellx") (by with_reducible assumption));
     exact hQQ _ _ ⟨rfl, _, _, _, _, _, tl9, rfl, by k_asm, N9, T9, S9, by with_reducible assumption, TupH.here rfl M9, p1_const _⟩)
  | ((rename (List.any _ _ = false) => hz); (rename News _ _ _ _ => kN');
     exact hQQ _ _ ⟨rfl, _, _, _, _, _, _, rfl, by k_asm, ndrop kN' (by rfl), by with_reducible assumption, Sub.rfl, by with_reducible assumption, by with_reducible assumption, p1_not (by with_reducible assumption) (by with_reducible assumption) (by with_reducible assumption) (by with_reducible assumption) hz⟩)
  | ((rename (mpAt _ 1 ≠ 0) => hz);
     exact hQQ _ _ ⟨rfl, _, _, _, _, _, _, rfl, by k_asm, by k_asm, by with_reducible assumption, Sub.rfl, by with_reducible assumption, by with_reducible assumption, p1_man (by with_reducible assumption) (by with_reducible assumption) (by with_reducible assumption) (by with_reducible assumption) hz⟩)
  | fail "finT1"))
local macro_rules | `(tactic| k_extra "finT2") => `(tactic| ((rename (∀ fl s', JT _ _ _ _ _ _ _ _ _ _ _ _ _ _ _ _ _ _ fl s' → _) => hQQ); first
  | ((rename News _ _ _ _ => kN'); (obtain ⟨tl9, N9, T9, S9, M9⟩ := Tail.move kN' (by rfl) (by k_extra "cellx") (by k_extra "cellx") (by k_extra "cellx") (by k_extra "cellx") (by k_extra "cellx") (by k_extra "cellx") (by with_reducible assumption));
     exact hQQ _ _ ⟨rfl, _, _, _, _, _, tl9, rfl, by k_asm, N9, T9, S9, by with_reducible assumption, TupH.here rfl M9, p2_new (by with_reducible assumption) (by with_reducible assumption) (by with_reducible assumption) (by with_reducible assumption) (by with_reducible assumption) (by omega) (by omega)⟩)
  | exact hQQ _ _ ⟨rfl, _, _, _, _, _, _, rfl, by k_asm, by k_asm, by with_reducible assumption, Sub.rfl, by with_reducible assumption, by with_reducible assumption, p2_same (by with_reducible assumption) (by with_reducible assumption) (by with_reducible assumption)⟩
  | fail "finT2"))
local macro_rules | `(tactic| k_extra "mysteps_lc") => `(tactic| repeat' (((fail_if_success (with_reducible show wpAny _ _ (eval (Expr.ListComp _ _ _ _) _) _ _ _))); first | (k_unfold; (try dsimp only)) | (walk1; try dsimp only) | (dsimp only; walk1) | fail "no step"))
local macro_rules | `(tactic| k_extra "my eval Call") => `(tactic| (k_here; (with_reducible show wpAny _ _ (eval (Expr.Call (Expr.Name (Str.ofString "_law_done") _) _ _ _) _) _ _ _); k_dflt (refine Call_ ?_)))
local macro_rules | `(tactic| k_extra "my eval Call") => `(tactic| (k_here; (with_reducible show wpAny _ _ (eval (Expr.Call (Expr.Name (Str.ofString "_law_turned") _) _ _ _) _) _ _ _); k_dflt (refine Call_ ?_)))
local macro_rules | `(tactic| k_extra "my eval Call") => `(tactic| (k_here; (with_reducible show wpAny _ _ (eval (Expr.Call (Expr.Name (Str.ofString "mpf_neg") _) _ _ _) _) _ _ _); k_dflt (refine Call_ ?_)))
local macro_rules | `(tactic| k_extra "my eval Call") => `(tactic| (k_here; (with_reducible show wpAny _ _ (eval (Expr.Call (Expr.Name (Str.ofString "mpf_shift") _) _ _ _) _) _ _ _); k_dflt (refine Call_ ?_)))
local macro_rules | `(tactic| k_extra "my eval Call") => `(tactic| (k_here; (with_reducible show wpAny _ _ (eval (Expr.Call (Expr.Name (Str.ofString "mpf_add") _) _ _ _) _) _ _ _); k_dflt (refine Call_ ?_)))
local macro_rules | `(tactic| k_extra "my eval Call") => `(tactic| (k_here; (with_reducible show wpAny _ _ (eval (Expr.Call (Expr.Name (Str.ofString "mpf_abs") _) _ _ _) _) _ _ _); k_dflt (refine Call_ ?_)))
local macro_rules | `(tactic| k_extra "compside") => `(tactic| ((case F => k_asm); (case N => k_asm); (case Tt => with_reducible assumption); (case hh => exact rfl); (case hclos => with_unfolding_all rfl); (case hcell => decide); (case hkind => exact rfl); (case hnames => decide); (case hx => exact rfl); (case hs => intro _; exact rfl)))
local macro_rules | `(tactic| k_extra "turnside") => `(tactic| ((case x1 => k_extra "cellx"); (case x2 => k_extra "cellx"); (case x3 => k_extra "cellx"); (case x4 => k_extra "cellx"); (case x5 => k_extra "cellx"); (case x6 => k_extra "cellx"); (case Tt => assumption); (case ap => assumption); (case s0 => assumption); (case V => assumption); (case tI => assumption); (case nC => assumption); (case off => assumption); (case k1 => k_asm); (case k2 => k_asm); (case k3 => k_asm); (case k4 => k_asm); (case k5 => k_asm); (case kK => first | exact rfl | assumption); (case kd => k_extra "kroom"); (case ku => k_extra "kunits")))
local macro_rules | `(tactic| k_extra "units65") => `(tactic| first | omega | exact Nat.le_of_ble_eq_true rfl | ((try dsimp only [ktrTop, Around.deeper, Around.in1]); omega))
local macro_rules | `(tactic| k_extra "my compareOp In ref ref") => `(tactic| (k_here; (with_reducible show wpAny _ _ (compareOp CmpOp.In (Value.ref _) (Value.ref _)) _ _ _); k_dflt (refine' inH ?F ?N ?X ?hL ?H ?H1 ?H2 ?hi ?u ?_; (case F => k_asm); (case N => k_asm); (case X => k_asm); (case hL => k_mem); (case H => k_extra "tuph"); (case H1 => k_extra "tuph"); (case H2 => k_extra "tuph"); (case hi => with_reducible assumption); (case u => k_extra "units65"))))
local macro_rules | `(tactic| k_extra "my compareOp Eq ref ref") => `(tactic| (k_here; (with_reducible show wpAny _ _ (compareOp CmpOp.Eq (Value.ref _) (Value.ref _)) _ _ _); k_dflt (refine' eqH_t ?F ?N ?X ?H ?H' ?e ?u ?_; (case F => k_asm); (case N => k_asm); (case X => k_asm); (case H => k_extra "tuph"); (case H' => k_extra "tuph"); (case e => with_reducible first | assumption | rfl); (case u => k_extra "units64"))))
local macro_rules | `(tactic| k_extra "my compareOp NotEq ref ref") => `(tactic| (k_here; (with_reducible show wpAny _ _ (compareOp CmpOp.NotEq (Value.ref _) (Value.ref _)) _ _ _); k_dflt (refine' neH_f ?F ?N ?X ?H ?H' ?e ?u ?_; (case F => k_asm); (case N => k_asm); (case X => k_asm); (case H => k_extra "tuph"); (case H' => k_extra "tuph"); (case e => with_reducible first | assumption | rfl); (case u => k_extra "units64"))))
local macro_rules | `(tactic| k_extra "my call ref") => `(tactic| (k_here; (with_reducible show wpAny _ _ (call (Value.ref 238) [Value.int _ _, Value.ref _, Value.ref _, Value.int _ _, Value.int _ _, Value.ref _]) _ _ _); k_dflt (refine' Tl.useP (c_side _ _ _ _ _ _ _ _ _ _ _ _ _ _ ?h0 ?h1 ?h2 ?h3 ?h4 ?h5 ?h6 ?h7 ?h8 ?h9 ?h10) ?k1 ?k2 ?k3 ?k4 ?k5 ?kK ?kd ?ku ?_; (case k2 => k_asm); (case k4 => k_asm); (case h0 => k_extra "prem"); (case h1 => k_extra "prem"); (case h2 => k_extra "prem"); (case h3 => k_extra "prem"); (case h4 => k_extra "prem"); (case h5 => k_extra "prem"); (case h6 => k_extra "prem"); (case h7 => k_extra "prem"); (case h8 => k_extra "prem"); (case h9 => k_extra "prem"); (case h10 => k_extra "prem"); k_extra "tlargs2"); k_extra "pint"))
local macro_rules | `(tactic| k_extra "my call ref") => `(tactic| (k_here; (with_reducible show wpAny _ _ (call (Value.ref 116) [Value.ref _, Value.ref _]) _ _ _); k_dflt (refine' Tl.useP (c_le _ _ _ _ _ _ ?h0 ?h1 ?h2 ?h3 ?h4 ?h5) ?k1 ?k2 ?k3 ?k4 ?k5 ?kK ?kd ?ku ?_; (case k2 => k_asm); (case k4 => k_asm); (case h0 => k_extra "prem"); (case h1 => k_extra "prem"); (case h2 => k_extra "prem"); (case h3 => k_extra "prem"); (case h4 => k_extra "prem"); (case h5 => k_extra "prem"); k_extra "tlargs2"); k_extra "pbool"))
local macro_rules | `(tactic| k_extra "my call ref") => `(tactic| (k_here; (with_reducible show wpAny _ _ (call (Value.ref 147) [Value.ref _]) _ _ _); k_dflt (refine' Tl.useP (c_sign _ _ _ _ ?h0 ?h1) ?k1 ?k2 ?k3 ?k4 ?k5 ?kK ?kd ?ku ?_; (case k2 => k_asm); (case k4 => k_asm); (case h0 => k_extra "prem"); (case h1 => k_extra "prem"); k_extra "tlargs2"); k_extra "pint"))
local macro_rules | `(tactic| k_extra "my call ref") => `(tactic| (k_here; (with_reducible show wpAny _ _ (call (Value.ref 252) [Value.ref _, Value.ref _, Value.ref _, Value.int _ _, Value.int _ _]) _ _ _); k_dflt (refine' Tl.useP (c_apart _ _ _ _ _ _ _ _ _ _ _ _ ?h0 ?h1 ?h2 ?h3 ?h4 ?h5 ?h6 ?h7) ?k1 ?k2 ?k3 ?k4 ?k5 ?kK ?kd ?ku ?_; (case k2 => k_asm); (case k4 => k_asm); (case h0 => k_extra "prem"); (case h1 => k_extra "prem"); (case h2 => k_extra "prem"); (case h3 => k_extra "prem"); (case h4 => k_extra "prem"); (case h5 => k_extra "prem"); (case h6 => k_extra "prem"); (case h7 => k_extra "prem"); k_extra "tlargs2"); k_extra "pbool"))
local macro_rules | `(tactic| k_extra "my call ref") => `(tactic| (k_here; (with_reducible show wpAny _ _ (call (Value.ref 155) [Value.ref _, Value.ref _]) _ _ _); k_dflt (k_extra "mvfront"); k_dflt (refine' Tl.useC (c_add2 _ _ _ _ _ _ ?h0 ?h1 ?h2 ?h3 ?h4 ?h5) ?hm ?x1 ?x2 ?x3 ?x4 ?x5 ?x6 ?xt ?k1 ?k2 ?k3 ?k4 ?k5 ?kK ?kd ?ku ?_; (case k2 => k_asm); (case k4 => k_asm); (case h0 => k_extra "prem"); (case h1 => k_extra "prem"); (case h2 => k_extra "prem"); (case h3 => k_extra "prem"); (case h4 => k_extra "prem"); (case h5 => k_extra "prem"); (case hm => exact mono_tup); k_extra "cells6"; k_extra "tlargs2"); k_extra "ctup"))
local macro_rules | `(tactic| k_extra "my call ref") => `(tactic| (k_here; (with_reducible show wpAny _ _ (call (Value.ref 186) [Value.ref _, Value.int _ _]) _ _ _); k_dflt (k_extra "mvfront"); k_dflt (refine' Tl.useC (c_shift _ _ _ _ _ _ ?h0) ?hm ?x1 ?x2 ?x3 ?x4 ?x5 ?x6 ?xt ?k1 ?k2 ?k3 ?k4 ?k5 ?kK ?kd ?ku ?_; (case k2 => k_asm); (case k4 => k_asm); (case h0 => k_extra "prem"); (case hm => exact mono_tup); k_extra "cells6"; k_extra "tlargs2"); k_extra "ctup"))
local macro_rules | `(tactic| k_extra "my call ref") => `(tactic| (k_here; (with_reducible show wpAny _ _ (call (Value.ref 140) [Value.ref _]) _ _ _); k_dflt (k_extra "mvfront"); k_dflt (refine' Tl.useC (c_abs _ _ _ _ ?h0 ?h1) ?hm ?x1 ?x2 ?x3 ?x4 ?x5 ?x6 ?xt ?k1 ?k2 ?k3 ?k4 ?k5 ?kK ?kd ?ku ?_; (case k2 => k_asm); (case k4 => k_asm); (case h0 => k_extra "prem"); (case h1 => k_extra "prem"); (case hm => exact mono_tup); k_extra "cells6"; k_extra "tlargs2"); k_extra "ctup"))
local macro_rules | `(tactic| k_extra "pint") => `(tactic| (intro r9 h9 tk9 F9 N9 ho9; obtain ⟨x9, t9, e9, hx9⟩ := ho9; subst e9; (try dsimp only); (try k_sweep); (try k_fold)))
local macro_rules | `(tactic| k_extra "pbool") => `(tactic| (intro r9 h9 tk9 F9 N9 ho9; subst ho9; (try dsimp only); (try k_sweep); (try k_fold)))
local macro_rules | `(tactic| k_extra "ctup") => `(tactic| (intro r9 tl9 h9 tk9 F9 N9 T9 S9 ho9; obtain ⟨D9, e9, H9⟩ := ho9; subst e9; (try dsimp only); (try k_sweep); (try k_fold)))
local macro_rules | `(tactic| k_extra "prem") => `(tactic| ((with_reducible show Apart _ _ _ _ _); (rename (_ = sideF _ _ _ _ _ (shiftF _ _)) => hz); rw [hz]; with_reducible assumption))
local macro_rules | `(tactic| k_extra "my compareOp Eq ref ref") => `(tactic| (k_here; (with_reducible show wpAny _ _ (compareOp CmpOp.Eq (Value.ref _) (Value.ref _)) _ _ _); k_dflt (refine' eqH_f ?F ?N ?X ?H ?H' ?e ?u ?_; (case F => k_asm); (case N => k_asm); (case X => k_asm); (case H => k_extra "tuph"); (case H' => k_extra "tuph"); (case e => with_reducible assumption); (case u => k_extra "units64"))))
local macro_rules | `(tactic| k_extra "my compareOp NotEq ref ref") => `(tactic| (k_here; (with_reducible show wpAny _ _ (compareOp CmpOp.NotEq (Value.ref _) (Value.ref _)) _ _ _); k_dflt (refine' nePair_f ?F ?N ?X ?P ?P' ?Ha ?Hb ?Ha' ?Hb' ?e1 ?e2 ?u ?_; (case F => k_asm); (case N => k_asm); (case X => k_asm); (case P => k_mem); (case P' => k_mem); (case Ha => k_extra "tuph"); (case Hb => k_extra "tuph"); (case Ha' => k_extra "tuph"); (case Hb' => k_extra "tuph"); (case e1 => with_reducible first | assumption | rfl); (case e2 => with_reducible first | assumption | rfl); (case u => k_extra "units64"))))
local macro_rules | `(tactic| k_extra "finE") => `(tactic| ((rename (∀ fl s', JE _ _ _ _ _ _ _ _ _ _ _ _ _ _ _ _ _ fl s' → _) => hQQ); k_dflt (k_extra "mvfront"); first
  | exact hQQ _ _ ⟨rfl, _, _, _, _, rfl, by k_asm, by k_asm, by with_reducible assumption, by k_extra "subl"⟩
  | exact hQQ _ _ ⟨rfl, _, _, _, _, rfl, fr_same (by k_asm), by k_asm, by with_reducible assumption, by k_extra "subl"⟩
  | fail "finE"))
local macro_rules | `(tactic| k_extra "my compareOp Eq ref ref") => `(tactic| (k_here; (with_reducible show wpAny _ _ (compareOp CmpOp.Eq (Value.ref _) (Value.ref _)) _ _ _); k_dflt (refine' eqFive_t ?F ?N ?X ?P ?P' ?A1 ?A2 ?A3 ?A4 ?A5 ?B1 ?B2 ?B3 ?B4 ?B5 ?e1 ?e2 ?e3 ?e4 ?e5 ?u ?_; (case F => k_asm); (case N => k_asm); (case X => k_asm); (case P => k_mem); (case P' => k_mem); (case A1 => k_extra "tuph"); (case A2 => k_extra "tuph"); (case A3 => k_extra "tuph"); (case A4 => k_extra "tuph"); (case A5 => k_extra "tuph"); (case B1 => k_extra "tuph"); (case B2 => k_extra "tuph"); (case B3 => k_extra "tuph"); (case B4 => k_extra "tuph"); (case B5 => k_extra "tuph"); (case e1 => with_reducible assumption); (case e2 => with_reducible assumption); (case e3 => with_reducible assumption); (case e4 => with_reducible assumption); (case e5 => with_reducible assumption); (case u => k_extra "units64"))))
local macro_rules | `(tactic| k_extra "mysteps_as") => `(tactic| repeat' (((fail_if_success (with_reducible show wpAny _ _ (exec (Stmt.Assign _ (Expr.ListComp _ _ _ _) _) _) _ _ _))); first | (k_unfold; (try dsimp only)) | (walk1; try dsimp only) | (dsimp only; walk1) | fail "no step"))
local macro_rules | `(tactic| k_extra "cellfacts") => `(tactic| ((case e6 => with_reducible assumption); (case e5 => with_reducible assumption); (case e4 => with_reducible assumption); (case e3 => with_reducible assumption); (case e2 => with_reducible assumption); (case e1 => with_reducible assumption); (case Hs => k_extra "tuph"); (case Ht => k_extra "tuph")))
local macro_rules | `(tactic| k_extra "mysteps_g") => `(tactic| repeat' (((fail_if_success (with_reducible show GoodW _ _ _ _ _ _ _))); first | (k_unfold; (try dsimp only)) | (walk1; try dsimp only) | (dsimp only; walk1) | fail "no step"))
local macro_rules | `(tactic| k_extra "my compareOp Eq int int") => `(tactic| (k_here; (with_reducible show wpAny _ _ (compareOp CmpOp.Eq (Value.int (signF _) _) (Value.int _ _)) _ _ _); fail "no"))
local macro_rules | `(tactic| k_extra "my compareOp Eq int int") => `(tactic| (k_here; with_reducible (refine eqI_t ?_ ?_); (focus (k_dflt omega))))
local macro_rules | `(tactic| k_extra "my eval Name") => `(tactic| (k_here; (with_reducible refine' nameGC ?F ?X ?T ?e ?b ?_); k_dflt (case F => k_asm); k_dflt (case X => k_asm); k_dflt (case T => k_asm); (case b => decide +kernel); (case e => k_is); k_whole))
local macro_rules | `(tactic| k_extra "my eval Name") => `(tactic| (k_here; (with_reducible refine' nameLC ?F ?v ?b ?_); k_dflt (case F => k_asm); (case b => decide +kernel); k_dflt (case v => exact rfl); k_whole))
local macro_rules | `(tactic| k_extra "my eval Name") => `(tactic| (k_here; (with_reducible (refine' nameCC ?C ?N ?T ?m ?d ?b ?_; (case C => assumption); (case N => assumption); (case T => repeat constructor))); k_dflt (case m => k_mem); k_dflt (case d => k_asm); (case b => decide +kernel); k_whole))
local macro_rules | `(tactic| k_extra "my exec Assign cons ListComp") => `(tactic| (k_here; (with_reducible show wpAny _ _ (exec (Stmt.Assign [Expr.Tuple _ _ _] _ _) _) _ _ _); k_dflt (refine Assign_Tuple ?_)))
set_option maxRecDepth 100000 in
set_option maxHeartbeats 8000000 in
theorem main0 : PySem.Challenge.rw_aj5009_01.Holds := hd (by
  k_go0
  all_goals (try k_fold)
  dsimp only
  (rename CellsAre _ _ _ => z1; clear z1)
  (rename Dflts _ _ _ _ _ _ => z1; clear z1)
  (rename Heap.CodeRec _ _ _ => z1; clear z1)
  k_dflt (repeat ((rename (Obj.data _ = Data.cell (bindC _ _ _ _)) => z1); (have z2 := cell_some z1); clear z1; (obtain ⟨_, _⟩ := z2)))
  k_dflt (refine' startC (x1 := Str.ofString "kind") (x2 := Str.ofString "prec") (x3 := Str.ofString "s") (x4 := Str.ofString "t") (x5 := Str.ofString "n") (x6 := Str.ofString "q") ?hc ?hn ?_; (case hc => with_unfolding_all rfl); (case hn => decide +kernel))
  intro cis
  (rename Fr _ _ _ _ => z1)
  have z2 : Fr _ _ _ (fun y => if y = Str.ofString "script" then some _ else none) := z1
  clear z1
  k_extra "mysteps_if"
  k_extra "mvfront"
  refine' joinT1 ?X ?F ?N ?hk ?h1 ?h2
  k_extra "joins"
  case h1 =>
    intro QQ EE hQQ
    k_extra "mysteps"
    all_goals k_extra "finT1"
  case h2 =>
    intro h9 tk9 D9 q9 o9 tl9 F9 N9 T9 S9 d9 H9 p9
    dsimp only
    try k_sweep
    k_extra "mysteps_if"
    refine' joinT2 ?X ?F ?N ?hk ?hs ?Hs ?h1 ?h2
    k_extra "joins"
    (case hs => with_reducible assumption)
    (case Hs => k_extra "tuph")
    case h1 =>
      intro QQ EE hQQ
      k_extra "mysteps"
      all_goals k_extra "finT2"
    case h2 =>
      intro h9 tk9 D9 q9 o9 tl9 F9 N9 T9 S9 d9 H9 p9
      dsimp only
      try k_sweep
      k_extra "mysteps_lc"
      k_extra "mvfront"
      (rename P2 _ _ _ => hp2)
      obtain ⟨ko, wt, ss, st, n3, n6, hn, hq, q0, hp, hp', k0, k8, wab⟩ := kind_cells (by k_asm) (by with_reducible assumption) (by with_reducible assumption) (by with_reducible assumption) (by with_reducible assumption) hp2 (by with_reducible assumption) (by with_reducible assumption) (by with_reducible assumption) (by with_reducible assumption) (by omega) (by omega) (by omega) (by omega) (by omega) (by omega) (by omega) (by omega)
      k_here
      k_dflt (refine' comp_done ?e6 ?e5 ?e4 ?e3 ?e2 ?e1 ?Hs ?Ht ?F ?N ?Tt ?hh ?hclos ?hcell ?hkind ?hnames ?hx ?hit ?turn ?fin ?hs)
      k_dflt (k_extra "compside")
      (case e6 => with_reducible assumption)
      (case e5 => with_reducible assumption)
      (case e4 => with_reducible assumption)
      (case e3 => with_reducible assumption)
      (case e2 => with_reducible assumption)
      (case e1 => with_reducible assumption)
      (case Hs => k_extra "tuph")
      (case Ht => k_extra "tuph")
      case hit =>
        intro QQ hQQ
        walk1
        exact hQQ _ _
      case turn =>
        intro i v ys news I oI C oC D m₂ h tk QQ E' hi hv iv tI nC hm F N of ne hQQ
        obtain ⟨tl', rfl, Tt', ap', s0, V⟩ := iv
        obtain ⟨r, u, rfl, hr⟩ := sign_rnd hv hi
        dsimp only [List.nil_append] at N of
        k_extra "mysteps_call"
        k_dflt (refine' Tl.useT0 (c_done _ _ _ _ _ _ _ _ _ _ _ _ _ _ _ _ ?a0 ?a1 ?a2 wt ss st hn hq q0 hp hp' n3 n6) ?x1 ?x2 ?x3 ?x4 ?x5 ?x6 Tt' ap' s0 V ?hqq tI nC of hQQ ?k1 ?k2 ?k3 N ?k5 ?kK ?kd ?ku)
        (case a0 => k_extra "tuph")
        (case a1 => k_extra "tuph")
        (case a2 => with_reducible assumption)
        k_dflt ((case x1 => k_extra "cellx"); (case x2 => k_extra "cellx"); (case x3 => k_extra "cellx"); (case x4 => k_extra "cellx"); (case x5 => k_extra "cellx"); (case x6 => k_extra "cellx"); (case k1 => k_asm); (case k2 => k_asm); (case k3 => k_asm); (case k5 => k_asm); (case kK => first | exact rfl | assumption); (case kd => k_extra "kroom"); (case ku => k_extra "kunits"))
        (case hqq => (rw [List.getElem?_map, hr]; exact rfl))
      case fin =>
        intro D h tk D1 D2 D3 D4 D5 tl' F N T S H1 H2 H3 H4 H5
        dsimp only
        try k_sweep
        k_extra "mysteps_if"
        k_extra "mvfront"
        have ws := kind_split ko
        obtain ⟨y1, y2, y3⟩ := kind_sizes ko .f
        obtain ⟨y4, y5, y6⟩ := kind_sizes ko .c
        obtain ⟨y7, y8, y9⟩ := kind_sizes ko .n
        obtain ⟨z1, z2⟩ := kind_mid ko
        refine' joinE ?F ?N ?h1 ?h2
        (case F => k_asm)
        (case N => k_asm)
        case h1 =>
          intro QQ EE hQQ
          rcases ws with ⟨f1, f2, f3, f4, f5⟩ | ⟨f1, f2, f3, f4, f5, ⟨f6, f7, f8⟩ | ⟨f6, f7, f8⟩⟩
          · k_extra "mysteps"
            all_goals k_extra "finE"
          · k_extra "mysteps"
            all_goals k_extra "finE"
          · k_extra "mysteps"
            all_goals k_extra "finE"
        case h2 =>
          intro h tk mv tl' F N T S
          dsimp only
          try k_sweep
          k_extra "mysteps_if"
          rcases kind_four ko with ⟨g0, g1⟩ | ⟨g0, g1, g2, g3, g4, g5⟩
          · k_extra "mysteps_g"
            exact law_end (by k_asm) (by with_reducible assumption)
          · k_extra "mysteps_as"
            k_here
            k_dflt (refine' comp_neg (Da := D2) (Db := D1) (Dc := D3) (Dd := D4) (De := D5) ?H1 ?H2 ?H3 ?H4 ?H5 ?F ?N ?Tt ?hh ?hLe ?hsw ?hclos ?hcell ?hkind ?hnames ?hx ?hy ?hp ?hit ?turn ?fin ?hs)
            (case hLe => exact rfl)
            (case hsw => with_unfolding_all rfl)
            (case hy => exact rfl)
            (case hp => exact rfl)
            k_dflt (k_extra "compside")
            (case H1 => k_extra "tuph")
            (case H2 => k_extra "tuph")
            (case H3 => k_extra "tuph")
            (case H4 => k_extra "tuph")
            (case H5 => k_extra "tuph")
            case hit =>
              intro QQ hQQ
              k_extra "mysteps"
              rename_i l1
              obtain ⟨_, _, _, _, _, _, hal⟩ := l1
              exact hQQ _ _ _ (by k_asm) (by k_asm) (fun p hp => Nat.ne_of_lt (by first | exact hal p hp | exact ktn_ltOf hal p hp))
            case turn =>
              intro ax i v ys news I oI C oC D m₂ h tk QQ E' hi hv iv tI nC hm F N of ne hQQ
              obtain ⟨Dv, qv, rfl, Hv, hqv⟩ := hv
              obtain ⟨tl2, rfl, Tt', ap', s0, V⟩ := iv
              have wv := wf_get (wf_five y4 y1 y7 (kind_sizes ko .d).1 (kind_sizes ko .u).1) hqv
              dsimp only [List.nil_append, List.cons_append] at N of
              k_extra "mysteps_call"
              k_dflt (refine' Tl.useT1 (c_neg _ _ _ _ ?b0 ?b1) ?x1 ?x2 ?x3 ?x4 ?x5 ?x6 ?Tt ?ap ?s0 ?V ?hq ?tI ?nC ?off hQQ ?k1 ?k2 ?k3 ?k4 ?k5 ?kK ?kd ?ku)
              k_dflt (k_extra "turnside")
              (case hq => (rw [List.getElem?_map, hqv]; exact rfl))
              all_goals k_extra "prem"
            case fin =>
              intro D h tk E1 E2 E3 E4 E5 tl2 F N T ne S K1 K2 K3 K4 K5
              dsimp only
              try k_sweep
              k_extra "mysteps_lc"
              k_here
              k_dflt (refine' comp_turned ?e6 ?e5 ?e4 ?e3 ?e2 ?e1 ?Hs ?Ht ?F ?N ?Tt ?ap ?hh ?hclos ?hcell ?hkind ?hnames ?hx ?hit ?turn ?fin ?hs)
              k_dflt (k_extra "compside")
              k_extra "cellfacts"
              (case ap => exact fun p hp x hx => by rw [List.mem_singleton.mp hx]; exact ne p hp)
              case hit =>
                intro QQ hQQ
                walk1
                exact hQQ _ _
              case turn =>
                intro i v ys news I oI C oC D' m₂ h tk QQ E' hi hv iv tI nC hm F N of ne' hQQ
                obtain ⟨tl3, rfl, Tt', ap', s0, V⟩ := iv
                obtain ⟨r, u, rfl, hr⟩ := sign_rnd hv hi
                dsimp only [List.nil_append, List.cons_append] at N of
                k_extra "mysteps_call"
                k_dflt (refine' Tl.useT2 (c_turned _ _ _ _ _ _ _ _ _ _ _ _ _ _ _ _ ?q0 ?q1 ?q2 wt ss st hn hq q0 hp hp' k0 k8 n3 n6) ?x1 ?x2 ?x3 ?x4 ?x5 ?x6 Tt' ap' s0 V ?hqq tI nC of hQQ ?k1 ?k2 ?k3 N ?k5 ?kK ?kd ?ku)
                (case q0 => k_extra "tuph")
                (case q1 => k_extra "tuph")
                (case q2 => with_reducible assumption)
                k_dflt ((case x1 => k_extra "cellx"); (case x2 => k_extra "cellx"); (case x3 => k_extra "cellx"); (case x4 => k_extra "cellx"); (case x5 => k_extra "cellx"); (case x6 => k_extra "cellx"); (case k1 => k_asm); (case k2 => k_asm); (case k3 => k_asm); (case k5 => k_asm); (case kK => first | exact rfl | assumption); (case kd => k_extra "kroom"); (case ku => k_extra "kunits"))
                (case hqq => (rw [List.getElem?_map, hr]; exact rfl))
              case fin =>
                intro D' h tk G1 G2 G3 G4 G5 tl3 F N T S J1 J2 J3 J4 J5
                dsimp only
                try k_sweep
                k_extra "mysteps_g"
                exact law_end (by k_asm) (by with_reducible assumption))
end
end
end Mine
theorem PySem.Challenge.cw_aj5009_01_holds : PySem.Challenge.rw_aj5009_01.Holds := by
  exact Mine.main0
