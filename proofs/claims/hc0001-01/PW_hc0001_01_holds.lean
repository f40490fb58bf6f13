import PyProof.Rows.All
import Wide.All
import OpenK.AllK
import Wide.FinOn
import Lean
import PySem.Challenge.RW_hc0001_01
set_option Elab.async false
namespace Mine
open PySem PySem.W PyProof.Rows
set_option maxRecDepth 100000 in
set_option maxHeartbeats 8000000 in
open_top hd for PySem.Challenge.rw_hc0001_01
end Mine
-- Pl1
section
open PySem PySem.W PyProof.Rows PySem.Calls PySem.Spec
namespace Mine
/-- the low figures of x, the lowest first -/
def digs : Nat → Nat → List Int
  | 0, _ => []
  | k + 1, x => ((x % 2 : Nat) : Int) :: digs k (x / 2)
theorem digs_len : ∀ k x, (digs k x).length = k
  | 0, _ => rfl
  | k + 1, x => by rw [digs, List.length_cons, digs_len]
theorem digs_split : ∀ (a b x : Nat), digs (a + b) x = digs a (x % 2 ^ a) ++ digs b (x / 2 ^ a)
  | 0, b, x => by simp [digs]
  | a + 1, b, x => by
    have e : a + 1 + b = (a + b) + 1 := by omega
    rw [e, digs, digs, digs_split a b (x / 2), List.cons_append]
    have h1 : x % 2 ^ (a + 1) % 2 = x % 2 := by
      rw [Nat.pow_succ, Nat.mul_comm]; exact Nat.mod_mul_right_mod x 2 (2 ^ a)
    have h2 : x % 2 ^ (a + 1) / 2 = x / 2 % 2 ^ a := by
      rw [Nat.pow_succ, Nat.mul_comm]; exact Nat.mod_mul_right_div_self x 2 (2 ^ a)
    have h3 : x / 2 / 2 ^ a = x / 2 ^ (a + 1) := by
      rw [Nat.div_div_eq_div_mul, Nat.pow_succ, Nat.mul_comm]
    rw [h1, h2, h3]
theorem digs_one {x : Nat} (h : x < 2) : digs 1 x = [(x : Int)] := by
  rw [digs, digs, Nat.mod_eq_of_lt h]
theorem fdiv_pow (x s : Nat) : (x : Int).fdiv (2 ^ s) = ((x / 2 ^ s : Nat) : Int) := by
  rw [Int.fdiv_eq_ediv_of_nonneg _ (by exact_mod_cast Nat.zero_le (2 ^ s))]
  push_cast
  rfl
theorem and_high (x s : Nat) : x &&& (x / 2 ^ s * 2 ^ s) = x / 2 ^ s * 2 ^ s := by
  rw [← Nat.shiftRight_eq_div_pow, ← Nat.shiftLeft_eq]
  apply Nat.eq_of_testBit_eq
  intro i
  rw [Nat.testBit_and, Nat.testBit_shiftLeft, Nat.testBit_shiftRight]
  by_cases h : s ≤ i
  · simp [h, Nat.add_sub_cancel' h]
  · simp [h]
theorem xor_low (x s : Nat) : Builtin.bitXor (x : Int) ((x : Int).fdiv (2 ^ s) * 2 ^ s) = ((x % 2 ^ s : Nat) : Int) := by
  rw [fdiv_pow]
  have e : (((x / 2 ^ s : Nat) : Int) * 2 ^ s) = ((x / 2 ^ s * 2 ^ s : Nat) : Int) := by push_cast; rfl
  rw [e, bitXor_and]
  have h : Builtin.bitAnd (x : Int) ((x / 2 ^ s * 2 ^ s : Nat) : Int) = ((x / 2 ^ s * 2 ^ s : Nat) : Int) := by
    unfold Builtin.bitAnd
    rw [decide_eq_true (Int.natCast_nonneg _), decide_eq_true (Int.natCast_nonneg _)]
    show (((x : Int).toNat &&& ((x / 2 ^ s * 2 ^ s : Nat) : Int).toNat : Nat) : Int) = _
    rw [Int.toNat_natCast, Int.toNat_natCast, and_high]
  rw [h]
  have := Nat.div_add_mod x (2 ^ s)
  rw [Nat.mul_comm] at this
  omega
theorem two_halves {ns : List Int} {ln a b x : Nat} (h : ln + (a + b) ≤ ns.length) :
    ((ns.take ln ++ digs a (x % 2 ^ a) ++ ns.drop (ln + a)).take (ln + a) ++ digs b (x / 2 ^ a) ++ (ns.take ln ++ digs a (x % 2 ^ a) ++ ns.drop (ln + a)).drop (ln + (a + b))) = ns.take ln ++ digs (a + b) x ++ ns.drop (ln + (a + b)) := by
  have hl : (ns.take ln ++ digs a (x % 2 ^ a)).length = ln + a := by
    rw [List.length_append, List.length_take, digs_len]; omega
  rw [List.take_append_of_le_length (by omega), List.take_of_length_le (by omega), List.drop_append, List.drop_of_length_le (by omega), List.nil_append, hl, List.drop_drop, digs_split]
  have e : ln + a + (ln + (a + b) - (ln + a)) = ln + (a + b) := by omega
  rw [e]
  simp
/-- a figure weighs one at most -/
theorem fig_weight : ∀ b : Nat, b < 2 → PyData.weight (.int (b : Int)) ≤ 1
  | 0, _ => by decide
  | 1, _ => by decide
  | b + 2, h => by omega
theorem digs_light : ∀ k x, PyData.canLayAll0 ((digs k x).map .int) = true ∧ PyData.depthAll ((digs k x).map .int) = 0 ∧ PyData.weightAll ((digs k x).map .int) ≤ 2 * k
  | 0, _ => ⟨rfl, rfl, Nat.le_refl 0⟩
  | k + 1, x => by
    have ⟨a, b, c⟩ := digs_light k (x / 2)
    have d := fig_weight (x % 2) (Nat.mod_lt _ (by decide))
    simp only [digs, List.map_cons, PyData.canLayAll0, PyData.canLay0, PyData.depthAll, PyData.depth, PyData.weightAll, a, b]
    exact ⟨rfl, rfl, by omega⟩
/-- few figures can be laid down -/
theorem digs_fit {k x : Nat} (hk : k ≤ 1000) : PyData.layable0 (.list ((digs k x).map .int)) = true := by
  have ⟨a, b, c⟩ := digs_light k x
  have w : PyData.weight (.list ((digs k x).map .int)) ≤ 2 ^ 20 := by rw [PyData.weight]; omega
  simp only [PyData.layable0, PyData.canLay0, PyData.depth, a, b, decide_eq_true w]
  rfl
end Mine
end
-- Pl2
section
open PySem PySem.W PyProof.Rows PySem.Calls PySem.Spec
namespace Mine
def bval : List Int → Int
  | [] => 0
  | d :: r => d + 2 * bval r
def Bits (l : List Int) : Prop := ∀ d ∈ l, 0 ≤ d ∧ d ≤ 1
theorem Bits.take {l : List Int} (h : Bits l) (n : Nat) : Bits (l.take n) := fun d hd => h d (List.mem_of_mem_take hd)
theorem Bits.drop {l : List Int} (h : Bits l) (n : Nat) : Bits (l.drop n) := fun d hd => h d (List.mem_of_mem_drop hd)
theorem bval_bound : ∀ {l : List Int}, Bits l → 0 ≤ bval l ∧ bval l < 2 ^ l.length
  | [], _ => ⟨Int.le_refl _, by show (0 : Int) < 2 ^ 0; decide⟩
  | d :: r, h => by
    have hd := h d (List.mem_cons_self)
    have hr := bval_bound (l := r) fun x hx => h x (List.mem_cons_of_mem _ hx)
    rw [bval, List.length_cons, Int.pow_succ]
    constructor <;> omega
theorem bval_append : ∀ (a b : List Int), bval (a ++ b) = bval a + 2 ^ a.length * bval b
  | [], b => by simp [bval]
  | d :: r, b => by
    rw [List.cons_append, bval, bval_append r b, bval, List.length_cons, Int.pow_succ]
    have : (2 : Int) ^ r.length * 2 * bval b = 2 * (2 ^ r.length * bval b) := by rw [Int.mul_comm (2 ^ r.length) 2, Int.mul_assoc]
    omega
theorem bval_seg {ns : List Int} {ln a b : Nat} (h : ln + (a + b) ≤ ns.length) :
    bval ((ns.drop (ln + a)).take b) * 2 ^ a + bval ((ns.drop ln).take a) = bval ((ns.drop ln).take (a + b)) := by
  have e : (ns.drop ln).take (a + b) = (ns.drop ln).take a ++ (ns.drop (ln + a)).take b := by
    rw [List.take_add, List.drop_drop]
  rw [e, bval_append, List.length_take, List.length_drop, Nat.min_eq_left (by omega), Int.mul_comm]
  omega
theorem bval_one {ns : List Int} {ln : Nat} (h : ln < ns.length) : bval ((ns.drop ln).take 1) = ns.getD ln 0 := by
  rw [List.drop_eq_getElem_cons h, List.take_succ_cons, List.take_zero, bval, bval]
  simp [h]
theorem bval_small {ns : List Int} (h : Bits ns) {a b : Nat} (hb : b ≤ 60) : (bval ((ns.drop a).take b)).natAbs < 2 ^ 64 := by
  have h1 := bval_bound ((h.drop a).take b)
  have h2 : ((ns.drop a).take b).length ≤ b := List.length_take_le _ _
  have h3 : (2 : Int) ^ ((ns.drop a).take b).length ≤ 2 ^ 60 := by
    have : (2 : Nat) ^ ((ns.drop a).take b).length ≤ 2 ^ 60 := Nat.pow_le_pow_right (by decide) (by omega)
    exact_mod_cast this
  omega
end Mine
end
-- Cm
section
open PySem PySem.W PyProof.Rows PySem.Calls PySem.Spec
namespace Mine
def sBody : Stmt → List Stmt
  | .FunctionDef _ _ b _ _ _ _ _ _ _ => b
  | _ => []
def sNth : List Stmt → Nat → Stmt
  | [], _ => .Pass ⟨0, 0, 0, 0⟩
  | a :: _, 0 => a
  | _ :: r, n + 1 => sNth r n
def sFn (qual : Str) (clos : List (Str × Addr)) (doc pm : Value) (c' : Addr) (ctv : Value) : Stmt → Obj
  | .FunctionDef name params body _ _ _ scope _ _ _ => fnMade name qual params body scope clos doc pm c' ctv
  | _ => default
def q1 : Str := ("_int2digits" : Str) ++ ".<locals>." ++ ("inner" : Str)
def q2 : Str := ("_digits2int" : Str) ++ ".<locals>." ++ ("inner" : Str)
def in1St : Stmt := sNth (sBody (sNth PySem.Challenge.pw_hc0001_01.main.body 1)) 1
def in2St : Stmt := sNth (sBody (sNth PySem.Challenge.pw_hc0001_01.main.body 2)) 0

section
variable {prog : Program} {w : World} {A : Around} {E : Value → Shared → Prop} {s : Shared} {a n : Int} {t u : Tok} {Q : Value → Shared → Prop}
theorem rsh_half (h : Q (.int (a / 2) s.toks) { s with toks := s.toks + 1 }) : wpAny (model prog w) A (binaryOp .RShift (.int a t) (.int 1 u)) Q E s := by
  refine rshift_int (by decide) ?_
  have e : a.fdiv (2 ^ (1 : Int).toNat) = a / 2 := by
    show a.fdiv (2 ^ 1) = a / 2
    rw [Int.fdiv_eq_ediv_of_nonneg _ (by decide)]; rfl
  rw [e]; exact h
theorem lsh_ok (hn : 0 ≤ n) (hn2 : n ≤ 60) (ha : a.natAbs < 2 ^ 64) (h : Q (.int (a * 2 ^ n.toNat) s.toks) { s with toks := s.toks + 1 }) :
    wpAny (model prog w) A (binaryOp .LShift (.int a t) (.int n u)) Q E s := lshift_int_small hn (by omega) ha h
end
end Mine
namespace Mine
def sPos : Stmt → Pos
  | .FunctionDef _ _ _ _ _ _ _ _ _ p => p
  | _ => ⟨0, 0, 0, 0⟩
/-- the ledger without an address -/
def off (a : Addr) (news : List (Addr × Obj)) : List (Addr × Obj) := news.filter fun p => p.1 != a
theorem off_ne {a : Addr} {news : List (Addr × Obj)} : ∀ p ∈ off a news, p.1 ≠ a := fun p hp => by
  have := (List.mem_filter.mp hp).2
  simpa using this
theorem mem_off {a : Addr} {news : List (Addr × Obj)} {p : Addr × Obj} (h : p ∈ news) (hn : p.1 ≠ a) : p ∈ off a news := List.mem_filter.mpr ⟨h, by simpa using hn⟩
theorem off_sub {a : Addr} {news : List (Addr × Obj)} {p : Addr × Obj} (h : p ∈ off a news) : p ∈ news := (List.mem_filter.mp h).1
theorem news_front {h₀ h : Heap} {L a : Addr} {o : Obj} {news : List (Addr × Obj)} (N : News h₀ L h news) (hm : (a, o) ∈ news) : News h₀ L h ((a, o) :: off a news) := fun p hp => by
  rcases List.mem_cons.mp hp with rfl | hp
  · exact N _ hm
  · exact N _ (off_sub hp)
theorem news_ne {h₀ h : Heap} {L a b : Addr} {o o' : Obj} {news : List (Addr × Obj)} (N : News h₀ L h news) (hm : (a, o) ∈ news) (hm' : (b, o') ∈ news) (hd : o ≠ o') : a ≠ b := fun e => by
  subst e
  have h1 := (N _ hm).1
  rw [(N _ hm').1] at h1
  exact hd (Option.some.inj h1).symm
theorem news_sub {h₀ h : Heap} {L : Addr} {news news' : List (Addr × Obj)} (N : News h₀ L h news) (hs : ∀ p ∈ news', p ∈ news) : News h₀ L h news' := fun p hp => N p (hs p hp)

/-- what is known of a def's table of codes: it is empty, or it holds the inner def's code alone -/
def TabOk (P : Addr) (pos : Pos) (qual : Str) (news : List (Addr × Obj)) : Prop :=
  (P, tabObj #[]) ∈ news ∨ ∃ c' oc vs t, (P, tabObj #[rawInt pos.line, rawInt pos.col, .ref c']) ∈ news ∧ (c', oc) ∈ news ∧ oc.data = .fields vs ∧ vs[1]? = some (.str qual t) ∧ @LT.lt Nat _ 28 c'
def Tb (news : List (Addr × Obj)) : Prop := TabOk 16 (sPos in1St) q1 news ∧ TabOk 23 (sPos in2St) q2 news
theorem TabOk.of {P : Addr} {pos : Pos} {qual : Str} {a b : List (Addr × Obj)} (x : TabOk P pos qual a) (h : ∀ p ∈ a, p ∈ b) : TabOk P pos qual b := by
  rcases x with x | ⟨c', oc, vs, t, h1, h2, h3⟩
  · exact .inl (h _ x)
  · exact .inr ⟨c', oc, vs, t, h _ h1, h _ h2, h3⟩
theorem Tb.of {a b : List (Addr × Obj)} (x : Tb a) (h : ∀ p ∈ a, p ∈ b) : Tb b := ⟨x.1.of h, x.2.of h⟩
/-- a table from one ledger to the next: the same code, or one above all that stood -/
def TabStep (P : Addr) (pos : Pos) (qual : Str) (news news' : List (Addr × Obj)) : Prop :=
  (P, tabObj #[]) ∈ news' ∨ ∃ c' oc vs t, (P, tabObj #[rawInt pos.line, rawInt pos.col, .ref c']) ∈ news' ∧ (c', oc) ∈ news' ∧ oc.data = .fields vs ∧ vs[1]? = some (.str qual t) ∧ @LT.lt Nat _ 28 c' ∧
    ((P, tabObj #[rawInt pos.line, rawInt pos.col, .ref c']) ∈ news ∧ (c', oc) ∈ news ∨ ∀ p ∈ news, @LT.lt Nat _ p.1 c')
theorem TabStep.ok {P : Addr} {pos : Pos} {qual : Str} {news news' : List (Addr × Obj)} (x : TabStep P pos qual news news') : TabOk P pos qual news' := by
  rcases x with x | ⟨c', oc, vs, t, h1, h2, h3, h4, h5, _⟩
  · exact .inl x
  · exact .inr ⟨c', oc, vs, t, h1, h2, h3, h4, h5⟩
theorem TabStep.same {P : Addr} {pos : Pos} {qual : Str} {r news news' : List (Addr × Obj)} (x : TabOk P pos qual r) (h : ∀ p ∈ r, p ∈ news) (h' : ∀ p ∈ r, p ∈ news') : TabStep P pos qual news news' := by
  rcases x with x | ⟨c', oc, vs, t, h1, h2, h3, h4, h5⟩
  · exact .inl (h' _ x)
  · exact .inr ⟨c', oc, vs, t, h' _ h1, h' _ h2, h3, h4, h5, .inl ⟨h _ h1, h _ h2⟩⟩
/-- what is no table stays in the ledger; the tables step on -/
structure Grow (news news' : List (Addr × Obj)) : Prop where
  addr : ∀ p ∈ news, @Ne Nat p.1 16 → @Ne Nat p.1 23 → p ∈ news'
  keep : ∀ p ∈ news, (∀ vs, p.2.data ≠ .fields vs) → p ∈ news'
  t16 : TabStep 16 (sPos in1St) q1 news news'
  t23 : TabStep 23 (sPos in2St) q2 news news'
  src : ∃ h₀ L h, News h₀ L h news
theorem Grow.tb {a b : List (Addr × Obj)} (g : Grow a b) : Tb b := ⟨g.t16.ok, g.t23.ok⟩
theorem Grow.of {h₀ h : Heap} {L : Addr} {a b : List (Addr × Obj)} (N : News h₀ L h a) (x : Tb a) (hs : ∀ p ∈ a, p ∈ b) : Grow a b := ⟨fun p hp _ _ => hs p hp, fun p hp _ => hs p hp, .same x.1 (fun _ h => h) hs, .same x.2 (fun _ h => h) hs, _, _, _, N⟩
theorem TabStep.more {P : Addr} {pos : Pos} {qual : Str} {a b c : List (Addr × Obj)} (x : TabStep P pos qual a b) (h : ∀ p ∈ b, p ∈ c) : TabStep P pos qual a c := by
  rcases x with x | ⟨c', oc, vs, t, h1, h2, h3⟩
  · exact .inl (h _ x)
  · exact .inr ⟨c', oc, vs, t, h _ h1, h _ h2, h3⟩
theorem Grow.more {a b c : List (Addr × Obj)} (g : Grow a b) (h : ∀ p ∈ b, p ∈ c) : Grow a c := ⟨fun p hp h1 h2 => h p (g.addr p hp h1 h2), fun p hp hd => h p (g.keep p hp hd), g.t16.more h, g.t23.more h, g.src⟩
theorem tabStep_trans {P : Addr} {pos : Pos} {qual : Str} {h₀ h : Heap} {L : Addr} {a b c : List (Addr × Obj)} (N : News h₀ L h b) (x : TabStep P pos qual a b) (y : TabStep P pos qual b c) (hab : ∀ p ∈ a, @Ne Nat p.1 16 → @Ne Nat p.1 23 → p ∈ b) : TabStep P pos qual a c := by
  rcases y with y | ⟨c', oc, vs, t, h1, h2, h3, h4, h5, h6⟩
  · exact .inl y
  · refine .inr ⟨c', oc, vs, t, h1, h2, h3, h4, h5, ?_⟩
    rcases h6 with ⟨h6, h7⟩ | h6
    · rcases x with x | ⟨d, od, us, u, k1, k2, k3, k4, k5, k6⟩
      · have e1 := (N _ h6).1
        rw [(N _ x).1] at e1
        have e2 := congrArg Obj.data (Option.some.inj e1)
        cases e2
      · have e1 := (N _ h6).1
        rw [(N _ k1).1] at e1
        have e2 := congrArg Obj.data (Option.some.inj e1)
        simp only [Data.fields.injEq] at e2
        have e3 : d = c' := by
          have := congrArg (fun v : Array Value => v[2]?) e2
          simpa using this
        subst e3
        have e4 := (N _ h7).1
        rw [(N _ k2).1] at e4
        have e5 := Option.some.inj e4
        subst e5
        rcases k6 with ⟨k6, k7⟩ | k6
        · exact .inl ⟨k6, k7⟩
        · exact .inr k6
    · refine .inr fun p hp => ?_
      by_cases e16 : @Eq Nat p.1 16
      · rw [e16]; omega
      · by_cases e23 : @Eq Nat p.1 23
        · rw [e23]; omega
        · exact h6 p (hab p hp e16 e23)
theorem Grow.trans {a b c : List (Addr × Obj)} (x : Grow a b) (y : Grow b c) : Grow a c :=
  let ⟨_, _, _, N⟩ := y.src
  ⟨fun p hp h1 h2 => y.addr p (x.addr p hp h1 h2) h1 h2, fun p hp hd => y.keep p (x.keep p hp hd) hd, tabStep_trans N x.t16 y.t16 x.addr, tabStep_trans N x.t23 y.t23 x.addr, x.src⟩
/-- the other table's fact goes on where the ledger keeps all but one address (16, 23) -/
theorem TabOk.off {P : Addr} {a : Nat} {pos : Pos} {qual : Str} {news : List (Addr × Obj)} (x : TabOk P pos qual news) (hP : P ≠ a) (ha : a ≤ 28) : TabOk P pos qual (off a news) := by
  rcases x with x | ⟨c', oc, vs, t, h1, h2, h3, h4, h5⟩
  · exact .inl (mem_off x hP)
  · exact .inr ⟨c', oc, vs, t, mem_off h1 hP, mem_off h2 (Nat.ne_of_gt (Nat.lt_of_le_of_lt ha h5)), h3, h4, h5⟩
/-- figures that a number has -/
def nb (n : Nat) : Nat := Builtin.Int.intBits (n : Int)
theorem nb_zero : nb 0 = 0 := by decide
theorem nb_pos {n : Nat} (h : n ≠ 0) : 0 < nb n := by
  have : ¬ (nb n ≤ 0) := fun q => by
    have := intBits_le_iff.mp q
    omega
  omega
theorem nb_lt (n : Nat) : n < 2 ^ nb n := by
  have := intBits_le_iff.mp (Nat.le_refl (nb n))
  omega
theorem nb_le {n k : Nat} (h : n < 2 ^ k) : nb n ≤ k := intBits_le_iff.mpr (by omega)
theorem ints_rep0 {t : Tok} : ∀ k : Nat, IntsAre (List.replicate k (.int 0 t)) (List.replicate k 0)
  | 0 => .nil
  | k + 1 => .cons 0 t (ints_rep0 k)
section
variable {prog : Program} {w : World} {A : Around} {E : Value → Shared → Prop} {s : Shared} {h₀ : Heap} {L : Addr} {m : Str → Option Value} {news : List (Addr × Obj)} {l : Addr} {x : Int} {t u : Tok} {c : Nat} {Q : Value → Shared → Prop}
/-- [0] * x -/
theorem zeros_mul {k : Nat} (F : Fr h₀ L s.heap m) (N : News h₀ L s.heap news) (hm : (l, listOf [Value.int 0 t].toArray c) ∈ news) (hx : x = (k : Int)) (hk : k ≤ 200)
    (h : ∀ D h', Fr h₀ L h' m → News h₀ L h' ((D, listOf (List.replicate k (.int 0 t)).toArray 0) :: news) → (∀ p ∈ news, p.1 < D) → IntsAre (List.replicate k (.int 0 t)) (List.replicate k 0) → Q (.ref D) { s with heap := h' }) :
    wpAny (model prog w) A (binaryOp .Mult (.ref l) (.int x u)) Q E s := by
  subst hx
  refine KMa.mul F N (PySem.IsL.isList (n := c) (N _ hm).1) (by omega) (by omega) (by simp; omega) ?_ fun D h' F' N' l' => h D h' F' N' l' (ints_rep0 k)
  rw [Int.toNat_natCast]
  clear h hk
  induction k with
  | zero => rfl
  | succ k ih => rw [List.replicate_succ, List.flatten_cons, ih, List.replicate_succ]; rfl
/-- xs.index(k), k among the list's ints -/
theorem my_index {D : Addr} {vs : List Value} {ns : List Int} {k : Int} (N : News h₀ L s.heap news) (hm : (D, listOf vs.toArray c) ∈ news) (hi : IntsAre vs ns) (fit : PyData.layable0 (.list (ns.map .int)) = true) (hk : k ∈ ns)
    (h : Q (.int (ns.idxOf k : Nat) s.toks) { s with toks := s.toks + 1 }) : wpAny (model prog w) A (call (.builtin "list.index") [.ref D, .int k t]) Q E s :=
  index_list_ints (PySem.IsL.isList (n := c) (N _ hm).1) hi fit hk h
theorem my_truthy {D : Addr} {vs : List Value} {ns : List Int} {Q : Bool → Shared → Prop} (N : News h₀ L s.heap news) (hm : (D, listOf vs.toArray c) ∈ news) (hi : IntsAre vs ns) (hf : ns.length < 2 ^ 62)
    (h : Q (decide (0 < ns.length)) { s with toks := s.toks + 1 + 1 }) : wpAny (model prog w) A (truthy (.ref D)) Q E s := truthy_ints_fit (PySem.IsL.isList (n := c) (N _ hm).1) hi hf h
theorem my_len {D : Addr} {vs : List Value} {ns : List Int} (N : News h₀ L s.heap news) (hm : (D, listOf vs.toArray c) ∈ news) (hi : IntsAre vs ns) (hf : ns.length < 2 ^ 62)
    (h : Q (.int (ns.length : Nat) (s.toks + 1)) { s with toks := s.toks + 1 + 1 }) : wpAny (model prog w) A (call (.builtin "len") [.ref D]) Q E s :=
  KM.len_K N hm (by rw [List.size_toArray]; exact hi.length) hf h
end
theorem ne_of_allLt {d c : Nat} {l : List (Addr × Obj)} (h : AllLt d l) (hc : d ≤ c) : ∀ p ∈ l, p.1 ≠ c := fun p hp => Nat.ne_of_lt (Nat.lt_of_lt_of_le (ktn_ltOf h p hp) hc)
/-- the walk stands here -/
def Stop (p : Prop) : Prop := p
theorem Stop.mk {p : Prop} (h : Stop p) : p := h
theorem Stop.go {p : Prop} (h : p) : Stop p := h
theorem off_tab {h₀ h : Heap} {L P a : Addr} {pos : Pos} {qual : Str} {o : Obj} {news : List (Addr × Obj)} (N : News h₀ L h news) (x : TabOk P pos qual news) (ma : (a, o) ∈ news) (ho : ∀ vs, o.data ≠ .fields vs) : TabOk P pos qual (off a news) := by
  rcases x with x | ⟨c', oc, vs, t, h1, h2, h3, h4, h5⟩
  · exact .inl (mem_off x (news_ne N x ma (fun e => ho _ (by rw [← e]))))
  · exact .inr ⟨c', oc, vs, t, mem_off h1 (news_ne N h1 ma (fun e => ho _ (by rw [← e]))), mem_off h2 (news_ne N h2 ma (fun e => ho vs (by rw [← e]; exact h3))), h3, h4, h5⟩
theorem grow_off {h₀ h : Heap} {L P : Addr} {ps : Array Value} {news all : List (Addr × Obj)} (hP : P = (16 : Nat) ∨ P = (23 : Nat)) (N : News h₀ L h news) (mt : (P, tabObj ps) ∈ news) (hs : ∀ p ∈ off P news, p ∈ all)
    (t16 : TabStep 16 (sPos in1St) q1 news all) (t23 : TabStep 23 (sPos in2St) q2 news all) : Grow news all :=
  ⟨fun p hp h1 h2 => hs p (mem_off hp (hP.elim (fun e => e ▸ h1) fun e => e ▸ h2)), fun p hp hd => hs p (mem_off hp (news_ne (a := p.1) (o := p.2) N hp mt (fun e => hd ps (by rw [e])))), t16, t23, _, _, _, N⟩
/-- all that stood lies below, if what is left of it does -/
theorem all_lt {P d c : Nat} {news : List (Addr × Obj)} (h : AllLt d (off P news)) (hP : P < c) (hd : d ≤ c) : ∀ p ∈ news, @LT.lt Nat _ p.1 c := fun p hp => by
  by_cases e : @Eq Nat p.1 P
  · rw [e]; exact hP
  · exact Nat.lt_of_lt_of_le (ktn_ltOf h p (mem_off hp e)) hd
theorem big {w : World} {h h' : Heap} {L : Nat} {m : Str → Option Value} (X : (hd.heap_39 w.params).In h) (F : Fr h L h' m) : 73 < L := Nat.lt_of_lt_of_le (Heap.lt_size (X 73 _ rfl)) F.above
theorem pick {R all : List (Addr × Obj)} {l c : Addr} {o : Obj} {v : Data} (hR : R = off l all) (m : (c, o) ∈ all) (hc : c ≠ l) (d : o.data = v) : ∃ o', (c, o') ∈ R ∧ o'.data = v := ⟨o, hR ▸ mem_off m hc, d⟩
end Mine
end
-- In1
section
open PySem PySem.W PyProof.Rows PySem.Calls PySem.Spec
namespace Mine
def In1 (w : World) (k : Nat) : Prop :=
  ∀ {x lo hi : Int} (xn ln : Nat) {tx tl th : Tok} {f l cN cI cA c' : Addr} {oN oI oA oc fo : Obj} {tn : Tok} {doc pm ctv : Value} {cvs : Array Value} {qt : Tok} {vs : List Value} {ns : List Int} {ep : Nat} {rest : List (Addr × Obj)}
   {dp un : Nat} {gd : Option (List Code)} {cn : Str} {cs : Scope} {a : Addr} {ccd : Value} {cl : List (Str × Addr)} {outer : List Env} {A₀ : Around} {base h₀ : Heap} {L : Addr} {m : Str → Option Value}
   {s : Shared} {Q E : Value → Shared → Prop} {p : Program} {loose : List Str} {mean : ExcName → Option Value} {mg mb : Str → Option Value},
   x = (xn : Int) → lo = (ln : Int) → hi = (ln : Int) + (k : Int) → 0 < k → xn < 2 ^ k → ln + k ≤ ns.length → ns.length < 60 →
   Below A₀ base outer h₀ → Fr h₀ L s.heap m → (hd.heap_39 w.params).In h₀ → News h₀ L s.heap ((l, listOf vs.toArray ep) :: rest) → Top p loose mean mg mb h₀ → cs.kind = .function →
   fo = sFn q1 [("n", cN), ("inner", cI), ("a_digits", cA)] doc pm c' ctv in1St →
   (f, fo) ∈ rest → (c', oc) ∈ rest → oc.data = .fields cvs → cvs[1]? = some (.str q1 qt) →
   (cN, oN) ∈ rest → oN.data = .cell (some (.int 1 tn)) → (cI, oI) ∈ rest → oI.data = .cell (some (.ref f)) → (cA, oA) ∈ rest → oA.data = .cell (some (.ref l)) → (∀ p ∈ rest, p.1 ≠ l) →
   IntsAre vs ns →
   dp + k < recursionLimit → un + 8 * k < cLine →
   (∀ vs' ns' h' tk', Fr h₀ L h' m → News h₀ L h' ((l, listOf vs'.toArray ep) :: rest) → IntsAre vs' ns' → ns' = ns.take ln ++ digs k xn ++ ns.drop (ln + k) → Q .none { s with heap := h', toks := tk' }) →
    wpAny (model PySem.Challenge.rw_hc0001_01.row.prog w) (ktrTop dp un gd cn cs L a ccd cl outer) (call (.ref f) [.int x tx, .int lo tl, .int hi th]) Q E s

local macro_rules | `(tactic| k_mem) => `(tactic| assumption)
local macro_rules | `(tactic| k_all) => `(tactic| assumption)
local macro_rules | `(tactic| k_room) => `(tactic| ((try simp only [depth_under_make, depth_under_kw, depth_in1, depth_deeper, depth_caller, ktrTop]); omega))
local macro_rules | `(tactic| walk_at "binaryOp RShift int int") => `(tactic| (k_here; first | (refine rsh_half ?_) | (refine rshift_int (by omega) ?_)))
local macro_rules | `(tactic| walk_at "binaryOp LShift int int") => `(tactic| (k_here; (refine lsh_ok (by omega) (by omega) (Nat.lt_of_le_of_lt (natAbs_fdiv_le _ _) (by assumption)) ?_)))
set_option maxRecDepth 100000 in
set_option maxHeartbeats 8000000 in
theorem in1_step : ∀ (w : World) (k : Nat), (∀ j, j < k → In1 w j) → In1 w k := by
  unfold In1
  k_fill
  intro w k ih
  intro x lo hi xn ln tx tl th f l cN cI cA c' oN oI oA oc fo tn doc pm ctv cvs qt vs ns ep rest dp un gd cn cs a ccd cl outer A₀ base h₀ L m s Q E p loose mean mg mb
  intro hx hlo hhi hk0 hxk hlen hsz B F X N T hk hfo mf mc dc vc mN dN mI dI mA dA hne hi' hd hu hret
  have hfo1 := hfo
  conv at hfo1 => rhs; whnf
  have mf1 := mf
  rw [hfo1] at mf1
  clear hfo1
  replace mf := PySem.Flt.Hid.mk mf
  have codeHd : CodeHd h₀ 20 16 := codeHd_of_K X (by kernel_rfl)
  refine wpAny_call ?_
  (refine' code_nest ?k1 ?k2 ?k3 ?k4 ?k5 ?kA ?kF ?kK ?k6 ?k7 ?k8 ?k9 ?kB ?_ ?c2 ?c3 ?c4 ?c5; (case kA => exact rfl); (case kF => exact rfl); (case kK => assumption); (case k1 => k_asm); (case k2 => k_asm); (case k3 => k_asm); (case k4 => k_asm); (case k5 => k_asm); (case k6 => k_mem); (case k7 => exact codeRec_news (by k_asm) (by k_mem) (by assumption) (by assumption)); (case k8 => k_room); (case k9 => exact BindsTo.of_eq rfl); (case c5 => decide); (case kB => exact locs rfl); (case c2 => exact rfl); (case c3 => exact rfl); (case c4 => exact rfl); k_whole; intro g' L' h' FG' F' N' B' X' T'; (try dsimp only); (try k_lift B'); (try k_fold))
  generalize fnX _ _ _ _ _ _ _ _ _ _ _ _ _ = ff at mf1
  have hxb : x.natAbs < 2 ^ 64 := by
    have : (2 : Nat) ^ k ≤ 2 ^ 64 := Nat.pow_le_pow_right (by decide) (by omega)
    omega
  k_steps
  · refine hret _ _ _ _ (by assumption) (by assumption) (by assumption) ?_
    have hk1 : k = 1 := by omega
    subst hk1 hx hlo
    rw [digs_one hxk, Int.toNat_natCast, List.set_eq_take_append_cons_drop, if_pos (by omega)]
    simp
  · have hsh : (((lo + hi) / 2 - lo) * 1).toNat = k / 2 := by omega
    refine' ih (k / 2) (by omega) (xn % 2 ^ (k / 2)) ln ?hx hlo ?hh ?h0 ?hm ?hl hsz ?hB ?hF ?hX ?hN ?hT rfl hfo mf.out mc dc vc mN dN mI dI mA dA hne hi' ?hd ?hu ?_
    (case hB => assumption); (case hF => assumption); (case hX => assumption); (case hN => assumption); (case hT => assumption)
    (case hx => rw [hsh, hx]; exact xor_low _ _); (case hh => omega); (case h0 => omega); (case hm => exact Nat.mod_lt _ (Nat.two_pow_pos _)); (case hl => omega)
    (case hd => (dsimp only [ktrTop]; omega)); (case hu => (dsimp only [ktrTop]; omega))
    intro vs1 ns1 h1 tk1 F1 N1 hi1 hns1
    have hl1 : ns1.length = ns.length := by
      rw [hns1, List.length_append, List.length_append, List.length_take, digs_len, List.length_drop]; omega
    (try dsimp only)
    k_steps
    have hxd : x.fdiv (2 ^ (((lo + hi) / 2 - lo) * 1).toNat) = ((xn / 2 ^ (k / 2) : Nat) : Int) := by rw [hsh, hx]; exact fdiv_pow _ _
    have hkk : k / 2 + (k - k / 2) = k := by omega
    have hxm : xn / 2 ^ (k / 2) < 2 ^ (k - k / 2) := by
      rw [Nat.div_lt_iff_lt_mul (Nat.two_pow_pos _), Nat.mul_comm, ← Nat.pow_add, hkk]; exact hxk
    refine' ih (k - k / 2) (by omega) (xn / 2 ^ (k / 2)) (ln + k / 2) hxd ?hl2 ?hh ?h0 hxm ?hl ?hs ?hB ?hF ?hX ?hN ?hT rfl hfo mf.out mc dc vc mN dN mI dI mA dA hne hi1 ?hd ?hu ?_
    (case hB => assumption); (case hF => assumption); (case hX => assumption); (case hN => assumption); (case hT => assumption)
    (case hl2 => omega); (case hh => omega); (case h0 => omega); (case hl => omega); (case hs => omega)
    (case hd => (dsimp only [ktrTop]; omega)); (case hu => (dsimp only [ktrTop]; omega))
    intro vs2 ns2 h2 tk2 F2 N2 hi2 hns2
    (try dsimp only)
    k_steps
    refine hret _ _ _ _ (by assumption) (by assumption) hi2 ?_
    have e : ln + k / 2 + (k - k / 2) = ln + (k / 2 + (k - k / 2)) := by omega
    rw [hns2, hns1, e, two_halves (by omega), hkk]
theorem in1 (w : World) : ∀ k, In1 w k := by
  have all : ∀ n k, k < n → In1 w k := by
    intro n
    induction n with
    | zero => intro k h; exact absurd h (Nat.not_lt_zero _)
    | succ n ih => exact fun k h => in1_step w k fun j hj => ih j (Nat.lt_of_lt_of_le hj (Nat.le_of_lt_succ h))
  exact fun k => all _ k (Nat.lt_succ_self _)
theorem in1_use {w : World} (k xn ln : Nat) {x lo hi : Int} {tx tl th : Tok} {f l cN cI cA c' : Addr} {oN oI oA oc fo : Obj} {tn : Tok} {doc pm ctv : Value} {cvs : Array Value} {qt : Tok} {vs : List Value} {ns : List Int} {ep : Nat} {all : List (Addr × Obj)}
   {dp un : Nat} {gd : Option (List Code)} {cn : Str} {cs : Scope} {a : Addr} {ccd : Value} {cl : List (Str × Addr)} {outer : List Env} {A₀ : Around} {base h₀ : Heap} {L : Addr} {m : Str → Option Value}
   {s : Shared} {Q E : Value → Shared → Prop} {p : Program} {loose : List Str} {mean : ExcName → Option Value} {mg mb : Str → Option Value}
   (hx : x = (xn : Int)) (hlo : lo = (ln : Int)) (hhi : hi = (ln : Int) + (k : Int)) (h0 : 0 < k) (hxk : xn < 2 ^ k) (hl : ln + k ≤ ns.length) (hs : ns.length < 60)
   (B : Below A₀ base outer h₀) (F : Fr h₀ L s.heap m) (X : (hd.heap_39 w.params).In h₀) (N : News h₀ L s.heap all) (T : Top p loose mean mg mb h₀) (hk : cs.kind = .function)
   (ml : (l, listOf vs.toArray ep) ∈ all)
   (mf : (f, fo) ∈ all) (hfo : fo = sFn q1 [("n", cN), ("inner", cI), ("a_digits", cA)] doc pm c' ctv in1St)
   (mc : (c', oc) ∈ all) (dc : oc.data = .fields cvs) (vc : cvs[1]? = some (.str q1 qt))
   (mN : (cN, oN) ∈ all) (dN : oN.data = .cell (some (.int 1 tn))) (mI : (cI, oI) ∈ all) (dI : oI.data = .cell (some (.ref f))) (mA : (cA, oA) ∈ all) (dA : oA.data = .cell (some (.ref l)))
   (hi' : IntsAre vs ns)
   (hd : dp + k < recursionLimit) (hu : un + 8 * k < cLine)
   (hret : ∀ vs' ns' h' tk' R, R = off l all → Fr h₀ L h' m → News h₀ L h' ((l, listOf vs'.toArray ep) :: R) → IntsAre vs' ns' → ns' = ns.take ln ++ digs k xn ++ ns.drop (ln + k) → Q .none { s with heap := h', toks := tk' }) :
    wpAny (model PySem.Challenge.rw_hc0001_01.row.prog w) (ktrTop dp un gd cn cs L a ccd cl outer) (call (.ref f) [.int x tx, .int lo tl, .int hi th]) Q E s := by
  have ne : ∀ {b : Addr} {o : Obj}, (b, o) ∈ all → o.data ≠ .seq vs.toArray ep → b ≠ l := fun hb ho => news_ne N hb ml fun e => ho (by rw [e])
  exact in1 w k xn ln hx hlo hhi h0 hxk hl hs B F X (news_front N ml) T hk hfo (mem_off mf (ne mf (by rw [hfo]; exact fun e => nomatch e))) (mem_off mc (ne mc (by rw [dc]; exact fun e => nomatch e))) dc vc
    (mem_off mN (ne mN (by rw [dN]; exact fun e => nomatch e))) dN (mem_off mI (ne mI (by rw [dI]; exact fun e => nomatch e))) dI (mem_off mA (ne mA (by rw [dA]; exact fun e => nomatch e))) dA off_ne hi' hd hu fun vs' ns' h' tk' F' N' => hret vs' ns' h' tk' _ rfl F' N'
end Mine
end
-- In2
section
open PySem PySem.W PyProof.Rows PySem.Calls PySem.Spec
namespace Mine
def In2 (w : World) (k : Nat) : Prop :=
  ∀ {lo hi : Int} (ln : Nat) {tl th : Tok} {f l cN cI cA c' : Addr} {oN oI oA oc fo : Obj} {tn : Tok} {doc pm ctv : Value} {cvs : Array Value} {qt : Tok} {vs : List Value} {ns : List Int} {ep : Nat} {news : List (Addr × Obj)}
   {dp un : Nat} {gd : Option (List Code)} {cn : Str} {cs : Scope} {a : Addr} {ccd : Value} {cl : List (Str × Addr)} {outer : List Env} {A₀ : Around} {base h₀ : Heap} {L : Addr} {m : Str → Option Value}
   {s : Shared} {Q E : Value → Shared → Prop} {p : Program} {loose : List Str} {mean : ExcName → Option Value} {mg mb : Str → Option Value},
   lo = (ln : Int) → hi = (ln : Int) + (k : Int) → 0 < k → ln + k ≤ ns.length → ns.length < 60 →
   Below A₀ base outer h₀ → Fr h₀ L s.heap m → (hd.heap_39 w.params).In h₀ → News h₀ L s.heap news → Top p loose mean mg mb h₀ → cs.kind = .function →
   (l, listOf vs.toArray ep) ∈ news →
   fo = sFn q2 [("n", cN), ("inner", cI), ("digits", cA)] doc pm c' ctv in2St →
   (f, fo) ∈ news → (c', oc) ∈ news → oc.data = .fields cvs → cvs[1]? = some (.str q2 qt) →
   (cN, oN) ∈ news → oN.data = .cell (some (.int 1 tn)) → (cI, oI) ∈ news → oI.data = .cell (some (.ref f)) → (cA, oA) ∈ news → oA.data = .cell (some (.ref l)) →
   IntsAre vs ns → Bits ns →
   dp + k < recursionLimit → un + 8 * k < cLine →
   (∀ t h' tk', Fr h₀ L h' m → News h₀ L h' news → Q (.int (bval ((ns.drop ln).take k)) t) { s with heap := h', toks := tk' }) →
    wpAny (model PySem.Challenge.rw_hc0001_01.row.prog w) (ktrTop dp un gd cn cs L a ccd cl outer) (call (.ref f) [.int lo tl, .int hi th]) Q E s

local macro_rules | `(tactic| k_mem) => `(tactic| assumption)
local macro_rules | `(tactic| k_room) => `(tactic| ((try simp only [depth_under_make, depth_under_kw, depth_in1, depth_deeper, depth_caller, ktrTop]); omega))
local macro_rules | `(tactic| walk_at "binaryOp RShift int int") => `(tactic| (k_here; first | (refine rsh_half ?_) | (refine rshift_int (by omega) ?_)))
local macro_rules | `(tactic| walk_at "binaryOp LShift int int") => `(tactic| (k_here; (refine lsh_ok (by omega) (by omega) (by assumption) ?_)))
local macro_rules | `(tactic| walk_at "pad") => `(tactic| fail "pad")
set_option maxRecDepth 100000 in
set_option maxHeartbeats 8000000 in
theorem in2_step : ∀ (w : World) (k : Nat), (∀ j, j < k → In2 w j) → In2 w k := by
  unfold In2
  k_fill
  intro w k ih
  intro lo hi ln tl th f l cN cI cA c' oN oI oA oc fo tn doc pm ctv cvs qt vs ns ep news dp un gd cn cs a ccd cl outer A₀ base h₀ L m s Q E p loose mean mg mb
  intro hlo hhi hk0 hlen hsz B F X N T hk hml hfo mf mc dc vc mN dN mI dI mA dA hi' hbt hd hu hret
  have hfo1 := hfo
  conv at hfo1 => rhs; whnf
  have mf1 := mf
  rw [hfo1] at mf1
  clear hfo1
  replace mf := PySem.Flt.Hid.mk mf
  have codeHd : CodeHd h₀ 20 16 := codeHd_of_K X (by kernel_rfl)
  refine wpAny_call ?_
  (refine' code_nest ?k1 ?k2 ?k3 ?k4 ?k5 ?kA ?kF ?kK ?k6 ?k7 ?k8 ?k9 ?kB ?_ ?c2 ?c3 ?c4 ?c5; (case kA => exact rfl); (case kF => exact rfl); (case kK => assumption); (case k1 => k_asm); (case k2 => k_asm); (case k3 => k_asm); (case k4 => k_asm); (case k5 => k_asm); (case k6 => k_mem); (case k7 => exact codeRec_news (by k_asm) (by k_mem) (by assumption) (by assumption)); (case k8 => k_room); (case k9 => exact BindsTo.of_eq rfl); (case c5 => decide); (case kB => exact locs rfl); (case c2 => exact rfl); (case c3 => exact rfl); (case c4 => exact rfl); k_whole; intro g' L' h' FG' F' N' B' X' T'; (try dsimp only); (try k_lift B'); (try k_fold))
  generalize fnX _ _ _ _ _ _ _ _ _ _ _ _ _ = ff at mf1
  k_steps
  · have hk1 : k = 1 := by omega
    subst hk1 hlo
    have e := bval_one (ns := ns) (ln := ln) (by omega)
    rw [Int.toNat_natCast, ← e]
    exact hret _ _ _ (by assumption) (by assumption)
  · have hsh : (((lo + hi) / 2 - lo) * 1).toNat = k / 2 := by omega
    have hkk : k / 2 + (k - k / 2) = k := by omega
    refine' ih (k - k / 2) (by omega) (ln + k / 2) ?hl2 ?hh ?h0 ?hl ?hs ?hB ?hF ?hX ?hN ?hT rfl ?hml hfo mf.out mc dc vc mN dN mI dI mA dA hi' hbt ?hd ?hu ?_
    (case hB => assumption); (case hF => assumption); (case hX => assumption); (case hN => assumption); (case hT => assumption); (case hml => assumption)
    (case hl2 => omega); (case hh => omega); (case h0 => omega); (case hl => omega); (case hs => omega)
    (case hd => (dsimp only [ktrTop]; omega)); (case hu => (dsimp only [ktrTop]; omega))
    intro t1 h1 tk1 F1 N1
    (try dsimp only)
    have hbs := bval_small hbt (a := ln + k / 2) (b := k - k / 2) (by omega)
    k_steps
    refine' ih (k / 2) (by omega) ln ?hl2 ?hh ?h0 ?hl ?hs ?hB ?hF ?hX ?hN ?hT rfl ?hml hfo mf.out mc dc vc mN dN mI dI mA dA hi' hbt ?hd ?hu ?_
    (case hB => assumption); (case hF => assumption); (case hX => assumption); (case hN => assumption); (case hT => assumption); (case hml => assumption)
    (case hl2 => omega); (case hh => omega); (case h0 => omega); (case hl => omega); (case hs => omega)
    (case hd => (dsimp only [ktrTop]; omega)); (case hu => (dsimp only [ktrTop]; omega))
    intro t2 h2 tk2 F2 N2
    (try dsimp only)
    k_steps
    rw [hsh]
    have e := bval_seg (ns := ns) (ln := ln) (a := k / 2) (b := k - k / 2) (by omega)
    rw [hkk] at e
    rw [e]
    exact hret _ _ _ (by assumption) (by assumption)
theorem in2 (w : World) : ∀ k, In2 w k := by
  have all : ∀ n k, k < n → In2 w k := by
    intro n
    induction n with
    | zero => intro k h; exact absurd h (Nat.not_lt_zero _)
    | succ n ih => exact fun k h => in2_step w k fun j hj => ih j (Nat.lt_of_lt_of_le hj (Nat.le_of_lt_succ h))
  exact fun k => all _ k (Nat.lt_succ_self _)
end Mine
end
-- I2d
section
open PySem PySem.W PyProof.Rows PySem.Calls PySem.Spec
namespace Mine
def I2D (w : World) : Prop :=
  ∀ {x : Int} (n : Nat) {tx t1 : Tok} {news : List (Addr × Obj)}
   {dp un : Nat} {gd : Option (List Code)} {cn : Str} {cs : Scope} {a : Addr} {ccd : Value} {cl : List (Str × Addr)} {outer : List Env} {A₀ : Around} {base h₀ : Heap} {L : Addr} {m : Str → Option Value}
   {s : Shared} {Q E : Value → Shared → Prop} {p : Program} {loose : List Str} {mean : ExcName → Option Value} {mg mb : Str → Option Value},
   x = (n : Int) → n < 2 ^ 50 →
   Below A₀ base outer h₀ → Fr h₀ L s.heap m → (hd.heap_39 w.params).In h₀ → News h₀ L s.heap news → Top p loose mean mg mb h₀ → cs.kind = .function →
   Tb news → dp + 70 < recursionLimit → un + 600 < cLine →
   (∀ l vs news' h' tk', Fr h₀ L h' m → News h₀ L h' ((l, listOf vs.toArray 0) :: news') → IntsAre vs (digs (nb n) n) → Grow news news' → Q (.ref l) { s with heap := h', toks := tk' }) →
    wpAny (model PySem.Challenge.rw_hc0001_01.row.prog w) (ktrTop dp un gd cn cs L a ccd cl outer) (call (.ref 21) [.int x tx, .int 1 t1]) Q E s

local macro_rules | `(tactic| k_mem) => `(tactic| assumption)
local macro_rules | `(tactic| k_all) => `(tactic| first | assumption | (refine ne_of_allLt (by assumption) ?_; omega))
local macro_rules | `(tactic| k_room) => `(tactic| ((try simp only [depth_under_make, depth_under_kw, depth_in1, depth_deeper, depth_caller, ktrTop]); omega))
local macro_rules | `(tactic| walk_at "binaryOp Mult ref int") => `(tactic| (k_here; (refine zeros_mul (by assumption) (by assumption) (by k_mem) ?_ (by assumption) ?_); (case refine_1 => (show Int.fdiv _ _ = _; rw [Int.fdiv_one]; simp; rfl)); intro D' h' F' N' l' i'; (k_lt l')))
local macro_rules | `(tactic| walk_at "call builtin:len") => `(tactic| (k_here; (refine my_len (by k_asm) (by k_dflt k_mem) (by assumption) ?_ ?_); (case refine_1 => (simp only [List.length_replicate]; omega)); (simp only [List.length_replicate])))
local macro_rules | `(tactic| walk_at "call ref") => `(tactic| (k_here; with_reducible refine Stop.mk ?_))
local macro_rules | `(tactic| walk_at "pad") => `(tactic| fail "pad")
set_option maxRecDepth 100000 in
set_option maxHeartbeats 4000000 in
theorem i2d : ∀ (w : World), I2D w := by
  unfold I2D
  k_fill
  intro w x n tx t1 news dp un gd cn cs a ccd cl outer A₀ base h₀ L m s Q E p loose mean mg mb
  intro hx hn B F X N T hk htb hd hu hret
  have codeHd : CodeHd h₀ 20 16 := codeHd_of_K X (by kernel_rfl)
  have hnb : nb n ≤ 200 := Nat.le_trans (nb_le hn) (by decide)
  subst hx
  obtain ⟨tb1, tb2⟩ := htb
  have tb2₀ := tb2
  rcases tb1 with tb1 | ⟨c', oc, vs, t, tb1, mc, dc, vc, hc⟩
  · replace tb2 := tb2.off (a := 16) (by decide) (by decide)
    have N0 := N
    replace N := news_front N tb1
    generalize hrest : off 16 news = rest at N tb2
    have hr16 : ∀ p ∈ rest, p.1 ≠ 16 := by subst hrest; exact off_ne
    refine wpAny_call ?_
    (refine' code_defC ?k1 ?k2 ?k3 ?k4 ?k5 ?kA ?kF ?kK ?k6 ?k7 ?k8 ?k9 ?kB ?kD ?_ ?c2 ?c3 ?c4; (case kA => exact rfl); (case kF => exact rfl); (case kK => assumption); (case k1 => k_asm); (case k2 => k_asm); (case k3 => k_asm); (case k4 => k_asm); (case k5 => k_asm); (case k6 => k_is); (case k7 => k_is); (case k8 => k_room); (case k9 => exact BindsTo.of_eq rfl); (case kB => exact rfl); (case kD => decide +kernel); (case c2 => exact rfl); (case c3 => exact rfl); (case c4 => exact rfl); k_whole; intro g' L' h' tk' cells' FG' F' N' Y' B' X' T' l1; (k_lt l1); obtain ⟨l16, lr⟩ := l1; k_cells Y'; (try simp only [List.cons_append, List.nil_append] at N'); (try dsimp only); (try k_lift B'); (try k_fold))
    have codeHd' : CodeHd g' 20 16 := codeHd_of_K X' (by kernel_rfl)
    have hbig := big X' F'
    k_steps
    · refine Stop.go ?_
      have hn0 : n ≠ 0 := by intro e; subst e; simp_all
      refine' in1_use (nb n) n 0 rfl rfl ?hh (nb_pos hn0) (nb_lt n) ?hl ?hs ?hB ?hF ?hX ?hN ?hT rfl ?ml ?mf ?fo ?mc ?dc ?vc ?mN ?dN ?mI ?dI ?mA ?dA ?hi ?hd ?hu ?_
      (case hB => assumption); (case hF => assumption); (case hX => assumption); (case hN => assumption); (case hT => assumption)
      (case mf => k_mem); (case fo => exact rfl)
      (case mc => k_mem); (case dc => assumption); (case vc => assumption)
      (case mN => k_mem); (case dN => assumption); (case mI => k_mem); (case dI => assumption); (case mA => k_mem); (case dA => assumption); (case ml => k_mem); (case hi => assumption)
      (case hh => omega); (case hl => (simp only [List.length_replicate]; omega)); (case hs => (simp only [List.length_replicate]; have := nb_le hn; omega))
      (case hd => (dsimp only [ktrTop]; have := nb_le hn; omega)); (case hu => (dsimp only [ktrTop]; have := nb_le hn; omega))
      intro vs2 ns2 h2 tk2 R hR F2 N2 hi2 hns2
      obtain ⟨oA, mA2, dA2⟩ := pick (c := L' + 1 + 1) hR (by k_mem) (by k_ne) (by assumption)
      (try dsimp only)
      k_steps
      have hns : ns2 = digs (nb n) n := by rw [hns2]; simp
      subst hns hR
      refine hret _ _ _ _ _ (by assumption) (by assumption) hi2 ?_
      exact grow_off (.inl rfl) N0 tb1 (fun p hp => (by rw [hrest] at hp; exact mem_off (by k_mem) (ne_of_allLt lr (by omega) p hp))) (.inr ⟨_, _, _, _, mem_off (by k_mem) (by k_ne), mem_off (by k_mem) (by k_ne), by assumption, by assumption, by omega, .inr (all_lt (P := 16) (by rw [hrest]; exact lr) (by omega) (by omega))⟩) (.same tb2 (fun p hp => (by rw [← hrest] at hp; exact off_sub hp)) fun p hp => mem_off (by k_mem) (ne_of_allLt lr (by omega) p hp))
    · have hn0 : n = 0 := by omega
      subst hn0
      refine hret _ _ _ _ _ (by assumption) (news_front (by assumption) (by k_mem)) (by assumption) ?_
      exact grow_off (.inl rfl) N0 tb1 (fun p hp => (by rw [hrest] at hp; exact mem_off (by k_mem) (ne_of_allLt lr (by omega) p hp))) (.inr ⟨_, _, _, _, mem_off (by k_mem) (by k_ne), mem_off (by k_mem) (by k_ne), by assumption, by assumption, by omega, .inr (all_lt (P := 16) (by rw [hrest]; exact lr) (by omega) (by omega))⟩) (.same tb2 (fun p hp => (by rw [← hrest] at hp; exact off_sub hp)) fun p hp => mem_off (by k_mem) (ne_of_allLt lr (by omega) p hp))
  · have mc' := mem_off (a := 16) mc (by k_ne)
    replace tb2 := tb2.off (a := 16) (by decide) (by decide)
    have N0 := N
    replace N := news_front N tb1
    generalize hrest : off 16 news = rest at N tb2 mc'
    have hr16 : ∀ p ∈ rest, p.1 ≠ 16 := by subst hrest; exact off_ne
    refine wpAny_call ?_
    (refine' code_defC ?k1 ?k2 ?k3 ?k4 ?k5 ?kA ?kF ?kK ?k6 ?k7 ?k8 ?k9 ?kB ?kD ?_ ?c2 ?c3 ?c4; (case kA => exact rfl); (case kF => exact rfl); (case kK => assumption); (case k1 => k_asm); (case k2 => k_asm); (case k3 => k_asm); (case k4 => k_asm); (case k5 => k_asm); (case k6 => k_is); (case k7 => k_is); (case k8 => k_room); (case k9 => exact BindsTo.of_eq rfl); (case kB => exact rfl); (case kD => decide +kernel); (case c2 => exact rfl); (case c3 => exact rfl); (case c4 => exact rfl); k_whole; intro g' L' h' tk' cells' FG' F' N' Y' B' X' T' l1; (k_lt l1); obtain ⟨l16, lr⟩ := l1; k_cells Y'; (try simp only [List.cons_append, List.nil_append] at N'); (try dsimp only); (try k_lift B'); (try k_fold))
    have codeHd' : CodeHd g' 20 16 := codeHd_of_K X' (by kernel_rfl)
    have hbig := big X' F'
    k_steps
    · refine Stop.go ?_
      have hn0 : n ≠ 0 := by intro e; subst e; simp_all
      refine' in1_use (nb n) n 0 rfl rfl ?hh (nb_pos hn0) (nb_lt n) ?hl ?hs ?hB ?hF ?hX ?hN ?hT rfl ?ml ?mf ?fo ?mc ?dc ?vc ?mN ?dN ?mI ?dI ?mA ?dA ?hi ?hd ?hu ?_
      (case hB => assumption); (case hF => assumption); (case hX => assumption); (case hN => assumption); (case hT => assumption)
      (case mf => k_mem); (case fo => exact rfl)
      (case mc => k_mem); (case dc => assumption); (case vc => assumption)
      (case mN => k_mem); (case dN => assumption); (case mI => k_mem); (case dI => assumption); (case mA => k_mem); (case dA => assumption); (case ml => k_mem); (case hi => assumption)
      (case hh => omega); (case hl => (simp only [List.length_replicate]; omega)); (case hs => (simp only [List.length_replicate]; have := nb_le hn; omega))
      (case hd => (dsimp only [ktrTop]; have := nb_le hn; omega)); (case hu => (dsimp only [ktrTop]; have := nb_le hn; omega))
      intro vs2 ns2 h2 tk2 R hR F2 N2 hi2 hns2
      obtain ⟨oA, mA2, dA2⟩ := pick (c := L' + 1 + 1) hR (by k_mem) (by k_ne) (by assumption)
      (try dsimp only)
      k_steps
      have hns : ns2 = digs (nb n) n := by rw [hns2]; simp
      subst hns hR
      refine hret _ _ _ _ _ (by assumption) (by assumption) hi2 ?_
      exact grow_off (.inl rfl) N0 tb1 (fun p hp => (by rw [hrest] at hp; exact mem_off (by k_mem) (ne_of_allLt lr (by omega) p hp))) (.inr ⟨c', oc, vs, t, mem_off (by k_mem) (by k_ne), mem_off (by k_mem) (ne_of_allLt lr (by omega) _ mc'), dc, vc, hc, .inl ⟨tb1, mc⟩⟩) (.same tb2 (fun p hp => (by rw [← hrest] at hp; exact off_sub hp)) fun p hp => mem_off (by k_mem) (ne_of_allLt lr (by omega) p hp))
    · have hn0 : n = 0 := by omega
      subst hn0
      refine hret _ _ _ _ _ (by assumption) (news_front (by assumption) (by k_mem)) (by assumption) ?_
      exact grow_off (.inl rfl) N0 tb1 (fun p hp => (by rw [hrest] at hp; exact mem_off (by k_mem) (ne_of_allLt lr (by omega) p hp))) (.inr ⟨c', oc, vs, t, mem_off (by k_mem) (by k_ne), mem_off (by k_mem) (ne_of_allLt lr (by omega) _ mc'), dc, vc, hc, .inl ⟨tb1, mc⟩⟩) (.same tb2 (fun p hp => (by rw [← hrest] at hp; exact off_sub hp)) fun p hp => mem_off (by k_mem) (ne_of_allLt lr (by omega) p hp))
end Mine
end
-- D2i
section
open PySem PySem.W PyProof.Rows PySem.Calls PySem.Spec
namespace Mine
def D2I (w : World) : Prop :=
  ∀ {t1 : Tok} {l : Addr} {vs : List Value} {ns : List Int} {ep : Nat} {news : List (Addr × Obj)}
   {dp un : Nat} {gd : Option (List Code)} {cn : Str} {cs : Scope} {a : Addr} {ccd : Value} {cl : List (Str × Addr)} {outer : List Env} {A₀ : Around} {base h₀ : Heap} {L : Addr} {m : Str → Option Value}
   {s : Shared} {Q E : Value → Shared → Prop} {p : Program} {loose : List Str} {mean : ExcName → Option Value} {mg mb : Str → Option Value},
   Below A₀ base outer h₀ → Fr h₀ L s.heap m → (hd.heap_39 w.params).In h₀ → News h₀ L s.heap news → Top p loose mean mg mb h₀ → cs.kind = .function →
   Tb news → (l, listOf vs.toArray ep) ∈ news → IntsAre vs ns → Bits ns → ns.length < 60 → dp + 70 < recursionLimit → un + 600 < cLine →
   (∀ t news' h' tk', Fr h₀ L h' m → News h₀ L h' news' → Grow news news' → Q (.int (bval ns) t) { s with heap := h', toks := tk' }) →
    wpAny (model PySem.Challenge.rw_hc0001_01.row.prog w) (ktrTop dp un gd cn cs L a ccd cl outer) (call (.ref 28) [.ref l, .int 1 t1]) Q E s

local macro_rules | `(tactic| k_mem) => `(tactic| assumption)
local macro_rules | `(tactic| k_all) => `(tactic| first | assumption | (refine ne_of_allLt (by assumption) ?_; omega))
local macro_rules | `(tactic| k_room) => `(tactic| ((try simp only [depth_under_make, depth_under_kw, depth_in1, depth_deeper, depth_caller, ktrTop]); omega))
local macro_rules | `(tactic| walk_at "call builtin:len") => `(tactic| (k_here; (refine my_len (by k_asm) (by k_dflt k_mem) (by assumption) ?_ ?_); (case refine_1 => omega)))
local macro_rules | `(tactic| walk_at "truthy ref") => `(tactic| (k_here; (refine my_truthy (by k_asm) (by k_dflt k_mem) (by assumption) ?_ ?_); (case refine_1 => omega)))
local macro_rules | `(tactic| walk_at "call ref") => `(tactic| (k_here; with_reducible refine Stop.mk ?_))
set_option maxRecDepth 100000 in
set_option maxHeartbeats 4000000 in
theorem d2i : ∀ (w : World), D2I w := by
  unfold D2I
  k_fill
  intro w t1 l vs ns ep news dp un gd cn cs a ccd cl outer A₀ base h₀ L m s Q E p loose mean mg mb
  intro B F X N T hk htb hml hi' hbt hsz hd hu hret
  have codeHd : CodeHd h₀ 27 23 := codeHd_of_K X (by kernel_rfl)
  obtain ⟨tb2, tb1⟩ := htb
  rcases tb1 with tb1 | ⟨c', oc, us, t, tb1, mc, dc, vc, hc⟩
  · have hml' := mem_off (a := 23) hml (news_ne N hml tb1 (fun e => nomatch congrArg Obj.data e))
    replace tb2 := tb2.off (a := 23) (by decide) (by decide)
    have N0 := N
    replace N := news_front N tb1
    generalize hrest : off 23 news = rest at N tb2 hml'
    have hr16 : ∀ p ∈ rest, p.1 ≠ 23 := by subst hrest; exact off_ne
    refine wpAny_call ?_
    (refine' code_defC ?k1 ?k2 ?k3 ?k4 ?k5 ?kA ?kF ?kK ?k6 ?k7 ?k8 ?k9 ?kB ?kD ?_ ?c2 ?c3 ?c4; (case kA => exact rfl); (case kF => exact rfl); (case kK => assumption); (case k1 => k_asm); (case k2 => k_asm); (case k3 => k_asm); (case k4 => k_asm); (case k5 => k_asm); (case k6 => k_is); (case k7 => k_is); (case k8 => k_room); (case k9 => exact BindsTo.of_eq rfl); (case kB => exact rfl); (case kD => decide +kernel); (case c2 => exact rfl); (case c3 => exact rfl); (case c4 => exact rfl); k_whole; intro g' L' h' tk' cells' FG' F' N' Y' B' X' T' l1; (k_lt l1); obtain ⟨l16, lr⟩ := l1; k_cells Y'; (try simp only [List.cons_append, List.nil_append] at N'); (try dsimp only); (try k_lift B'); (try k_fold))
    have codeHd' : CodeHd g' 27 23 := codeHd_of_K X' (by kernel_rfl)
    have hbig := big X' F'
    k_steps
    · refine Stop.go ?_
      have hn0 : 0 < ns.length := by simp_all
      refine' in2 w ns.length 0 rfl ?hh hn0 ?hl hsz ?hB ?hF ?hX ?hN ?hT rfl ?ml ?fo ?mf ?mc ?dc ?vc ?mN ?dN ?mI ?dI ?mA ?dA hi' hbt ?hd ?hu ?_
      (case hB => assumption); (case hF => assumption); (case hX => assumption); (case hN => assumption); (case hT => assumption)
      (case mf => k_mem); (case fo => exact rfl)
      (case mc => k_mem); (case dc => assumption); (case vc => assumption)
      (case mN => k_mem); (case dN => assumption); (case mI => k_mem); (case dI => assumption); (case mA => k_mem); (case dA => assumption); (case ml => k_mem)
      (case hh => omega); (case hl => omega)
      (case hd => (dsimp only [ktrTop]; omega)); (case hu => (dsimp only [ktrTop]; omega))
      intro t2 h2 tk2 F2 N2
      (try dsimp only)
      k_steps
      rw [List.drop_zero, List.take_length]
      refine hret _ _ _ _ (by assumption) (by assumption) ?_
      exact grow_off (.inr rfl) N0 tb1 (fun p hp => (by rw [hrest] at hp; k_mem)) (.same tb2 (fun p hp => (by rw [← hrest] at hp; exact off_sub hp)) fun p hp => (by k_mem)) (.inr ⟨_, _, _, _, by k_mem, by k_mem, by assumption, by assumption, by omega, .inr (all_lt (P := 23) (by rw [hrest]; exact lr) (by omega) (by omega))⟩)
    · have hn0 : ns = [] := List.eq_nil_of_length_eq_zero (by simp_all)
      subst hn0
      refine hret _ _ _ _ (by assumption) (by assumption) ?_
      exact grow_off (.inr rfl) N0 tb1 (fun p hp => (by rw [hrest] at hp; k_mem)) (.same tb2 (fun p hp => (by rw [← hrest] at hp; exact off_sub hp)) fun p hp => (by k_mem)) (.inr ⟨_, _, _, _, by k_mem, by k_mem, by assumption, by assumption, by omega, .inr (all_lt (P := 23) (by rw [hrest]; exact lr) (by omega) (by omega))⟩)
  · have hml' := mem_off (a := 23) hml (news_ne N hml tb1 (fun e => nomatch congrArg Obj.data e))
    have mc' := mem_off (a := 23) mc (by k_ne)
    replace tb2 := tb2.off (a := 23) (by decide) (by decide)
    have N0 := N
    replace N := news_front N tb1
    generalize hrest : off 23 news = rest at N tb2 hml' mc'
    have hr16 : ∀ p ∈ rest, p.1 ≠ 23 := by subst hrest; exact off_ne
    refine wpAny_call ?_
    (refine' code_defC ?k1 ?k2 ?k3 ?k4 ?k5 ?kA ?kF ?kK ?k6 ?k7 ?k8 ?k9 ?kB ?kD ?_ ?c2 ?c3 ?c4; (case kA => exact rfl); (case kF => exact rfl); (case kK => assumption); (case k1 => k_asm); (case k2 => k_asm); (case k3 => k_asm); (case k4 => k_asm); (case k5 => k_asm); (case k6 => k_is); (case k7 => k_is); (case k8 => k_room); (case k9 => exact BindsTo.of_eq rfl); (case kB => exact rfl); (case kD => decide +kernel); (case c2 => exact rfl); (case c3 => exact rfl); (case c4 => exact rfl); k_whole; intro g' L' h' tk' cells' FG' F' N' Y' B' X' T' l1; (k_lt l1); obtain ⟨l16, lr⟩ := l1; k_cells Y'; (try simp only [List.cons_append, List.nil_append] at N'); (try dsimp only); (try k_lift B'); (try k_fold))
    have codeHd' : CodeHd g' 27 23 := codeHd_of_K X' (by kernel_rfl)
    have hbig := big X' F'
    k_steps
    · refine Stop.go ?_
      have hn0 : 0 < ns.length := by simp_all
      refine' in2 w ns.length 0 rfl ?hh hn0 ?hl hsz ?hB ?hF ?hX ?hN ?hT rfl ?ml ?fo ?mf ?mc ?dc ?vc ?mN ?dN ?mI ?dI ?mA ?dA hi' hbt ?hd ?hu ?_
      (case hB => assumption); (case hF => assumption); (case hX => assumption); (case hN => assumption); (case hT => assumption)
      (case mf => k_mem); (case fo => exact rfl)
      (case mc => k_mem); (case dc => assumption); (case vc => assumption)
      (case mN => k_mem); (case dN => assumption); (case mI => k_mem); (case dI => assumption); (case mA => k_mem); (case dA => assumption); (case ml => k_mem)
      (case hh => omega); (case hl => omega)
      (case hd => (dsimp only [ktrTop]; omega)); (case hu => (dsimp only [ktrTop]; omega))
      intro t2 h2 tk2 F2 N2
      (try dsimp only)
      k_steps
      rw [List.drop_zero, List.take_length]
      refine hret _ _ _ _ (by assumption) (by assumption) ?_
      exact grow_off (.inr rfl) N0 tb1 (fun p hp => (by rw [hrest] at hp; k_mem)) (.same tb2 (fun p hp => (by rw [← hrest] at hp; exact off_sub hp)) fun p hp => (by k_mem)) (.inr ⟨c', oc, us, t, by k_mem, by k_mem, dc, vc, hc, .inl ⟨tb1, mc⟩⟩)
    · have hn0 : ns = [] := List.eq_nil_of_length_eq_zero (by simp_all)
      subst hn0
      refine hret _ _ _ _ (by assumption) (by assumption) ?_
      exact grow_off (.inr rfl) N0 tb1 (fun p hp => (by rw [hrest] at hp; k_mem)) (.same tb2 (fun p hp => (by rw [← hrest] at hp; exact off_sub hp)) fun p hp => (by k_mem)) (.inr ⟨c', oc, us, t, by k_mem, by k_mem, dc, vc, hc, .inl ⟨tb1, mc⟩⟩)
end Mine
end
-- Low
section
open PySem PySem.W PyProof.Rows PySem.Calls PySem.Spec
namespace Mine
/-- the figures of n -/
def figs (n : Nat) : List Int := digs (nb n) n
def lowI (n : Nat) : Int := if 1 ∈ figs n then bval ((figs n).take ((figs n).idxOf 1 + 1)) else 0
theorem digs_bits : ∀ k x, Bits (digs k x)
  | 0, _, d, hd => nomatch hd
  | k + 1, x, d, hd => by
    rw [digs] at hd
    rcases List.mem_cons.mp hd with rfl | hd
    · omega
    · exact digs_bits k (x / 2) d hd
theorem lowI_no {n : Nat} (h : ((digs (nb n) n).any fun x => x == 1) = false) : lowI n = 0 := by
  unfold lowI figs
  rw [if_neg]
  intro hm
  rw [List.any_eq_false] at h
  exact h 1 hm (by decide)
theorem lowI_yes {n : Nat} (h : ((digs (nb n) n).any fun x => x == 1) = true) : bval ((digs (nb n) n).take ((((digs (nb n) n).idxOf 1 : Nat) : Int) + 1).toNat) = lowI n := by
  unfold lowI figs
  rw [if_pos]
  · congr 1
  · obtain ⟨x, hx, e⟩ := List.any_eq_true.mp h
    have : x = 1 := by simpa using e
    exact this ▸ hx
def LOW (w : World) : Prop :=
  ∀ {x : Int} (n : Nat) {t1 : Tok} {news : List (Addr × Obj)}
   {dp un : Nat} {gd : Option (List Code)} {cn : Str} {cs : Scope} {a : Addr} {ccd : Value} {cl : List (Str × Addr)} {outer : List Env} {A₀ : Around} {base h₀ : Heap} {L : Addr} {m : Str → Option Value}
   {s : Shared} {Q E : Value → Shared → Prop} {p : Program} {loose : List Str} {mean : ExcName → Option Value} {mg mb : Str → Option Value},
   x = (n : Int) → n < 2 ^ 50 → Below A₀ base outer h₀ → Fr h₀ L s.heap m → (hd.heap_39 w.params).In h₀ → News h₀ L s.heap news → Top p loose mean mg mb h₀ → cs.kind = .function →
   Tb news → dp + 80 < recursionLimit → un + 700 < cLine →
   (∀ t news' h' tk', Fr h₀ L h' m → News h₀ L h' news' → Grow news news' → Q (.int (lowI n) t) { s with heap := h', toks := tk' }) →
    wpAny (model PySem.Challenge.rw_hc0001_01.row.prog w) (ktrTop dp un gd cn cs L a ccd cl outer) (call (.ref 49) [.int x t1]) Q E s

local macro_rules | `(tactic| k_mem) => `(tactic| assumption)
local macro_rules | `(tactic| k_all) => `(tactic| first | assumption | (refine ne_of_allLt (by assumption) ?_; omega))
local macro_rules | `(tactic| k_room) => `(tactic| ((try simp only [depth_under_make, depth_under_kw, depth_in1, depth_deeper, depth_caller, ktrTop]); omega))
local macro_rules | `(tactic| walk_at "call builtin:len") => `(tactic| (k_here; (refine my_len (by k_asm) (by k_dflt k_mem) (by assumption) ?_ ?_); (case refine_1 => omega)))
local macro_rules | `(tactic| walk_at "call builtin:list.index") => `(tactic| (k_here; (refine my_index (by k_asm) (by k_dflt k_mem) (by assumption) ?_ ?_ ?_); (case refine_1 => exact digs_fit (by omega)); (case refine_2 => (simp_all; done))))
local macro_rules | `(tactic| walk_at "subscriptTail Name Slice ref ref") => `(tactic| (k_here; k_dflt (refine' kmk_slice_ints ?F ?N ?l ?p ?q ?i ?m rfl ?_ ?s ?t ?z; (case F => k_asm); (case N => k_asm); (case l => kmk_list); (case p => kmk_part); (case q => kmk_part); (case i => assumption); (case m => first | exact kmk_upto (by assumption) (by omega) | exact kmk_from (by assumption) (by omega) | exact kmk_run (by assumption) (by omega) (by omega)); (case s => with_unfolding_all rfl); (case t => kmk_pure); (case z => (refine kmk_sz (by assumption) ?_; rw [sizeLine_eq]; (try simp only [digs_len]); omega))); intro D' ws' h' F' N' l1 hI' hC' hL'; (try k_lt l1); (try k_sweep)))
local macro_rules | `(tactic| walk_at "call ref") => `(tactic| (k_here; with_reducible refine Stop.mk ?_))
set_option maxRecDepth 100000 in
set_option maxHeartbeats 4000000 in
theorem lowc : ∀ (w : World), LOW w := by
  unfold LOW
  k_fill
  intro w x n t1 news dp un gd cn cs a ccd cl outer A₀ base h₀ L m s Q E p loose mean mg mb
  intro hx hn B F X N T hk htb hd hu hret
  refine wpAny_call ?_
  k_dflt ktr_enter
  k_steps
  have hnb := nb_le hn
  refine Stop.go ?_
  refine' i2d w n hx hn ?hB ?hF ?hX ?hN ?hT rfl htb ?hd ?hu ?_
  (case hB => assumption); (case hF => assumption); (case hX => assumption); (case hN => assumption); (case hT => assumption)
  (case hd => (dsimp only [ktrTop]; omega)); (case hu => (dsimp only [ktrTop]; omega))
  intro l vs news1 h1 tk1 F1 N1 hi1 g1
  have tb1 := g1.tb
  k_steps
  · refine Stop.go ?_
    refine' d2i w ?hB ?hF ?hX ?hN ?hT rfl (tb1.of ?ht) ?hm ?hi ((digs_bits _ _).take _) ?hs ?hd ?hu ?_
    (case hB => assumption); (case hF => assumption); (case hX => assumption); (case hN => assumption); (case hT => assumption)
    (case hm => k_mem); (case hi => assumption)
    (case ht => exact fun p hp => (by k_mem))
    (case hs => (rw [List.length_take, digs_len]; omega))
    (case hd => (dsimp only [ktrTop]; omega)); (case hu => (dsimp only [ktrTop]; omega))
    intro t2 news2 h2 tk2 F2 N2 g2
    k_steps
    rw [lowI_yes (by assumption)]
    exact hret _ _ _ _ (by assumption) (by assumption) ((g1.more fun p hp => (by k_mem)).trans g2)
  · rw [← lowI_no (by assumption)]
    exact hret _ _ _ _ (by assumption) (by assumption) (g1.more fun p hp => (by k_mem))
end Mine
end
-- Ac
section
open PySem PySem.W PyProof.Rows PySem.Calls PySem.Spec
namespace Mine
/-- an empty dict of the call's own -/
structure ED (w : World) (d : Addr) (o : Obj) : Prop where
  sys : (d == sysModules) = false
  str : o.IsDictOf (strKind PySem.Challenge.rw_hc0001_01.row.prog w) []
  int : o.IsDictOf (intKind PySem.Challenge.rw_hc0001_01.row.prog w) []
def AC (w : World) : Prop :=
  ∀ {d e : Addr} {od oe : Obj} {news : List (Addr × Obj)}
   {dp un : Nat} {gd : Option (List Code)} {cn : Str} {cs : Scope} {a : Addr} {ccd : Value} {cl : List (Str × Addr)} {outer : List Env} {A₀ : Around} {base h₀ : Heap} {L : Addr} {m : Str → Option Value}
   {s : Shared} {Q E : Value → Shared → Prop} {p : Program} {loose : List Str} {mean : ExcName → Option Value} {mg mb : Str → Option Value},
   Below A₀ base outer h₀ → Fr h₀ L s.heap m → (hd.heap_39 w.params).In h₀ → News h₀ L s.heap news → Top p loose mean mg mb h₀ → cs.kind = .function →
   (d, od) ∈ news → ED w d od → (e, oe) ∈ news → ED w e oe → dp + 20 < recursionLimit → un + 200 < cLine →
   (∀ D o h' tk', Fr h₀ L h' m → News h₀ L h' ((D, o) :: news) → ED w D o → Q (.ref D) { s with heap := h', toks := tk' }) →
    wpAny (model PySem.Challenge.rw_hc0001_01.row.prog w) (ktrTop dp un gd cn cs L a ccd cl outer) (call (.ref 42) [.ref d, .ref e]) Q E s

local macro_rules | `(tactic| k_mem) => `(tactic| assumption)
local macro_rules | `(tactic| k_all) => `(tactic| first | assumption | (refine ne_of_allLt (by assumption) ?_; omega))
local macro_rules | `(tactic| k_room) => `(tactic| ((try simp only [depth_under_make, depth_under_kw, depth_in1, depth_deeper, depth_caller, ktrTop]); omega))
local macro_rules | `(tactic| walk_at "call ref") => `(tactic| (k_here; with_reducible refine Stop.mk ?_))
local macro_rules | `(tactic| walk_at "exec For Tuple Call cons nil") => `(tactic| (k_here; (rename Fr _ _ _ _ => lF'); (rename News _ _ _ _ => lN'); with_unfolding_all ((refine' For_turns lF' ?_); k_whole; (refine MethodCall_ ?_); (refine ld lF' (by rfl) ?_); (refine getMethod_tab (knd := PySem.strKind _ _) (enc := PyData.str) PySem.F.slot_dict_items PySem.F.type_dict_items (by k_tabat) ?_); (refine callWith_method0 ?_); (refine call_items_tab (knd := PySem.strKind _ _) (enc := PyData.str) (by k_tabat) lF' lN' ?_); intro h' o' hv' F' N'; (replace N' := kti_tail N'); (refine kti_items (knd := PySem.strKind _ _) (enc := PyData.str) (xs := []) (by rfl) F' N' hv' (by k_tabat) (by k_mem) (fun _ _ h => Value.isStrOf_shape h) (by rfl) ?_)); clear lF' lN'; intro i' l1))
set_option maxRecDepth 100000 in
set_option maxHeartbeats 1000000 in
theorem acc : ∀ (w : World), AC w := by
  unfold AC
  k_fill
  intro w d e od oe news dp un gd cn cs a ccd cl outer A₀ base h₀ L m s Q E p loose mean mg mb
  intro B F X N T hk md hd' me he' hd hu hret
  obtain ⟨ds, d1, d2⟩ := hd'
  obtain ⟨es, e1, e2⟩ := he'
  have fp : PyProof.V.FlatPairs PyData.str ([] : List (Str × Value)) [] := .nil
  refine wpAny_call ?_
  k_dflt ktr_enter
  k_steps
  exact hret _ _ _ _ (by assumption) (by assumption) ⟨by assumption, by assumption, by assumption⟩

abbrev tupOf (vs : List Value) : Obj := { cls := .type "tuple", data := .seq vs.toArray }
def AFS (w : World) : Prop :=
  ∀ {T S d e : Addr} {a1 a2 a3 a4 b1 b2 b3 b4 : Int} {t1 t2 t3 t4 u1 u2 u3 u4 : Tok} {od oe : Obj} {news : List (Addr × Obj)}
   {dp un : Nat} {gd : Option (List Code)} {cn : Str} {cs : Scope} {a : Addr} {ccd : Value} {cl : List (Str × Addr)} {outer : List Env} {A₀ : Around} {base h₀ : Heap} {L : Addr} {m : Str → Option Value}
   {s : Shared} {Q E : Value → Shared → Prop} {p : Program} {loose : List Str} {mean : ExcName → Option Value} {mg mb : Str → Option Value},
   Below A₀ base outer h₀ → Fr h₀ L s.heap m → (hd.heap_39 w.params).In h₀ → News h₀ L s.heap news → Top p loose mean mg mb h₀ → cs.kind = .function →
   (T, tupOf [.int a1 t1, .int a2 t2, .int a3 t3, .int a4 t4, .ref d]) ∈ news → (d, od) ∈ news → ED w d od →
   (S, tupOf [.int b1 u1, .int b2 u2, .int b3 u3, .int b4 u4, .ref e]) ∈ news → (e, oe) ∈ news → ED w e oe → dp + 30 < recursionLimit → un + 300 < cLine →
   (∀ R D o v1 v2 v3 v4 h' tk', Fr h₀ L h' m → News h₀ L h' ((R, tupOf [.int (b1 + a1) v1, .int (b2 + a2) v2, .int (b3 + a3) v3, .int (b4 + a4) v4, .ref D]) :: (D, o) :: news) → ED w D o → Q (.ref R) { s with heap := h', toks := tk' }) →
    wpAny (model PySem.Challenge.rw_hc0001_01.row.prog w) (ktrTop dp un gd cn cs L a ccd cl outer) (call (.ref 35) [.ref T, .ref S]) Q E s
set_option maxRecDepth 100000 in
set_option maxHeartbeats 1000000 in
theorem afs : ∀ (w : World), AFS w := by
  unfold AFS
  k_fill
  intro w T S d e a1 a2 a3 a4 b1 b2 b3 b4 t1 t2 t3 t4 u1 u2 u3 u4 od oe news dp un gd cn cs a ccd cl outer A₀ base h₀ L m s Q E p loose mean mg mb
  intro B F X N TT hk mT md hd' mS me he' hd hu hret
  refine wpAny_call ?_
  k_dflt ktr_enter
  k_steps
  refine Stop.go ?_
  refine' acc w ?hB ?hF ?hX ?hN ?hT rfl ?md hd' ?me he' ?hd ?hu ?_
  (case hB => assumption); (case hF => assumption); (case hX => assumption); (case hN => assumption); (case hT => assumption)
  (case md => k_mem); (case me => k_mem)
  (case hd => (dsimp only [ktrTop]; omega)); (case hu => (dsimp only [ktrTop]; omega))
  intro D o h1 tk1 F1 N1 hD
  k_steps
  exact hret _ _ _ _ _ _ _ _ _ (by assumption) (by assumption) hD
end Mine
end
-- Pl3
section
open PySem PySem.W PyProof.Rows PySem.Calls PySem.Spec
namespace Mine
def lowN (n : Nat) : Nat := (lowI n).toNat
def bits (n : Nat) : Int := (figs n).sum
theorem low_facts : ∀ n, n ≤ 40 → 0 < n → lowI n = (lowN n : Int) ∧ 0 < lowN n ∧ lowN n ≤ n ∧ bits n = 1 + bits (n - lowN n) ∧ 0 ≤ bits (n - lowN n) ∧ bits n ≤ 6 := by
  have h : ∀ n : Fin 41, 0 < n.val → lowI n.val = (lowN n.val : Int) ∧ 0 < lowN n.val ∧ lowN n.val ≤ n.val ∧ bits n.val = 1 + bits (n.val - lowN n.val) ∧ 0 ≤ bits (n.val - lowN n.val) ∧ bits n.val ≤ 6 := by decide +kernel
  exact fun n hn => h ⟨n, by omega⟩
theorem bits_zero : bits 0 = 0 := by decide +kernel
end Mine
end
-- Tup2
section
open PySem PySem.W PyProof.Rows PySem.Calls PySem.Spec
namespace Mine
section
variable {t sl : Addr} {a b c d e : Value} {u : Tok}
/-- the pair that [:2] makes of five places -/
abbrev pairOf (a b : Value) : Obj := { cls := .type "tuple", data := .seq [a, b].toArray }
section
variable {prog : Program} {w : World} {A : Around} {E : Value → Shared → Prop} {s : Shared}
/-- [:2] over five places: from the first one, by one, two of them -/
theorem ends_two {Q : Int × Int × Nat → Shared → Prop} (cut : s.heap.IsSliceOf sl .none (.int 2 u) .none) (q : Q (0, 1, 2) s) :
    wpAny (model prog w) A (Builtin.Slice.sliceApplied (.ref sl) (pure 5)) Q E s :=
  let ⟨_, at_, _, is⟩ := cut
  wpAny_bind (wpAny_bind (wpAny_field (i := 0) at_ is rfl (wpAny_bind (wpAny_field (i := 1) at_ is rfl (wpAny_bind (wpAny_field (i := 2) at_ is rfl
    (wpAny_pure (wpAny_bind (slicePart_none (wpAny_ite_false (by decide) (wpAny_bind (slicePart_none (wpAny_bind (slicePart_int (wpAny_bind (wpAny_pure (wpAny_pure q)))))))))))))))))
end
theorem two_of_five : Meets (Builtin.«tuple.__getitem__» ⟨[.ref t, .ref sl], []⟩)
    (fun _ R s => IsTup s.heap t #[a, b, c, d, e] ∧ s.heap.IsSliceOf sl .none (.int 2 u) .none ∧ R (.ok (.ret (.ref s.heap.objs.size))) { s with heap := s.heap.push (pairOf a b) }) :=
  .of_wp fun prog w A R s ⟨tup, cut, k⟩ => by
    have kind : s.TypeIs (.ref sl) "slice" := let ⟨o, g, h, _⟩ := cut; ⟨o, g, h⟩
    have made : sizeOk (.seq #[a, b]) := show 2 ≤ sizeLine by rw [sizeLine_eq]; decide
    refine wpAny_bind (m := slotArgs _ _ _) (wpAny_pure ?_)
    refine wpAny_bind (tupleItemsOf_ tup (wpAny_bind (wpAny_typeOf kind (wpAny_ite_true (by decide) ?_))))
    refine wpAny_bind (ends_two cut (wpAny_ite_false (decide_eq_false (by simp)) ?_))
    exact wpAny_bind (m := Builtin.Tuple.tupleExact _) (wpAny_newObj_type (wpAny_pure ⟨_, rfl, k⟩) made)
/-- whole[:2], the slice object made a moment ago -/
theorem slice_tuple_two {prog : Program} {w : World} {A : Around} {E Q : Value → Shared → Prop} {s : Shared} {h₀ : Heap} {L : Addr} {m : Str → Option Value} {news : List (Addr × Obj)} {value slice : Expr}
    (F : Fr h₀ L s.heap m) (N : News h₀ L s.heap news) (tup : IsTup s.heap t #[a, b, c, d, e])
    (k : ∀ D h', Fr h₀ L h' m → News h₀ L h' ((D, pairOf a b) :: news) → Q (.ref D) { s with heap := h' })
    (road : subscripted slice false (.ref t) (.ref s.heap.objs.size) = operate [.ref s.heap.objs.size, .ref t] (getItem (.ref t) (.ref s.heap.objs.size)))
    (calm : ∀ r, letTemporaryGo value (.ref t) r = pure ()) :
    wpAny (model prog w) A (subscriptTail value slice (.ref t) (.ref s.heap.objs.size)) Q E { s with heap := s.heap.push { cls := .type "slice", data := .fields #[.none, .int 2 u, .none] } } :=
  have tup' := tup.keeps (h' := s.heap.push { cls := .type "slice", data := .fields #[.none, .int 2 u, .none] }) fun _ _ g => Heap.get?_push_of_some _ g
  tail_of_ItemOn ⟨_, _, slot_tuple_getitem.lookup, tup'.typeIs, getItem_meets tup'.typeIs (by decide) slot_tuple_getitem entry_tuple_getitem (args_tuple_getitem _ _) two_of_five
    ⟨tup', Heap.IsSliceOf.new .., k _ _ ((F.push _).push _) (News.push (F.push _) (N.pushKeep _) _)⟩⟩ road calm
end
end Mine
end
-- Fst
section
open PySem PySem.W PyProof.Rows PySem.Calls PySem.Spec
namespace Mine
def FST (w : World) : Prop :=
  ∀ {x : Int} (n : Nat) (P : Nat → Int) {l : Addr} {vs : List Value} {ns : List Int} {ep : Nat} {t1 : Tok} {news : List (Addr × Obj)}
   {dp un : Nat} {gd : Option (List Code)} {cn : Str} {cs : Scope} {a : Addr} {ccd : Value} {cl : List (Str × Addr)} {outer : List Env} {A₀ : Around} {base h₀ : Heap} {L : Addr} {m : Str → Option Value}
   {s : Shared} {Q E : Value → Shared → Prop} {p : Program} {loose : List Str} {mean : ExcName → Option Value} {mg mb : Str → Option Value},
   x = (n : Int) → n < ns.length → ns.length ≤ 17 → (∀ k, 0 < k → k < ns.length → ns.getD k 0 = P k - P (k - lowN k)) → P 0 = 0 →
   Below A₀ base outer h₀ → Fr h₀ L s.heap m → (hd.heap_39 w.params).In h₀ → News h₀ L s.heap news → Top p loose mean mg mb h₀ → cs.kind = .function →
   Tb news → (l, listOf vs.toArray ep) ∈ news → IntsAre vs ns → dp + 100 < recursionLimit → un + 1000 < cLine →
   (∀ R t2 t3 news' h' tk', Fr h₀ L h' m → News h₀ L h' ((R, tupOf [.int (P n) t2, .int (bits n) t3]) :: news') → Grow news news' → Q (.ref R) { s with heap := h', toks := tk' }) →
    wpAny (model PySem.Challenge.rw_hc0001_01.row.prog w) (ktrTop dp un gd cn cs L a ccd cl outer) (call (.ref 61) [.ref l, .int x t1]) Q E s

/-- the frame of _law_first between its turns -/
def mmF (u : Str → Option Value) (n : Nat) (t : Tok) (T l : Addr) : Str → Option Value := fun y => if y = "many" then some (.int (n : Int) t) else if y = "whole" then some (.ref T) else if y = "kept" then some (.ref l) else u y
theorem mmF_of {m : Str → Option Value} {n : Nat} {t : Tok} {T l : Addr} (h1 : m "many" = some (.int (n : Int) t)) (h2 : m "whole" = some (.ref T)) (h3 : m "kept" = some (.ref l)) : mmF m n t T l = m := by
  funext y
  unfold mmF
  by_cases e1 : y = "many"
  · rw [if_pos e1, e1, h1]
  · rw [if_neg e1]
    by_cases e2 : y = "whole"
    · rw [if_pos e2, e2, h2]
    · rw [if_neg e2]
      by_cases e3 : y = "kept"
      · rw [if_pos e3, e3, h3]
      · rw [if_neg e3]
structure JF (w : World) (l : Addr) (vs : List Value) (ep : Nat) (P : Nat → Int) (n₀ : Nat) (news : List (Addr × Obj)) (k : Nat) (m₁ : Str → Option Value) (news₁ : List (Addr × Obj)) : Prop where
  go : ∃ (S K c3 c4 : Int) (t t1 t2 t3 t4 : Tok) (T d : Addr) (od : Obj), m₁ "many" = some (.int (k : Int) t) ∧ m₁ "whole" = some (.ref T) ∧ m₁ "kept" = some (.ref l) ∧
    (T, tupOf [.int S t1, .int K t2, .int c3 t3, .int c4 t4, .ref d]) ∈ news₁ ∧ (d, od) ∈ news₁ ∧ ED w d od ∧ Grow news news₁ ∧ (l, listOf vs.toArray ep) ∈ news₁ ∧
    k ≤ n₀ ∧ S + P k = P n₀ ∧ K + bits k = bits n₀
local macro_rules | `(tactic| k_mem) => `(tactic| assumption)
local macro_rules | `(tactic| k_all) => `(tactic| first | assumption | (refine ne_of_allLt (by assumption) ?_; omega))
local macro_rules | `(tactic| k_room) => `(tactic| ((try simp only [depth_under_make, depth_under_kw, depth_in1, depth_deeper, depth_caller, ktrTop]); omega))
local macro_rules | `(tactic| walk_at "subscriptTail Name Slice ref ref") => `(tactic| (k_here; k_dflt (refine' slice_tuple_two ?F ?N ?t ?_ ?s ?g; (case F => k_asm); (case N => k_asm); (case t => exact News.isTup (by k_asm) (by k_mem)); (case s => with_unfolding_all rfl); (case g => kmk_pure)); intro D' h' F' N'))
local macro_rules | `(tactic| walk_at "call ref") => `(tactic| (k_here; with_reducible refine Stop.mk ?_))
local macro_rules | `(tactic| walk_at "exec While BoolOp") => `(tactic| (k_here; with_reducible refine Stop.mk ?_))
set_option maxRecDepth 100000 in
set_option maxHeartbeats 1000000 in
theorem fst_ : ∀ (w : World), FST w := by
  unfold FST
  k_fill
  intro w x n P l vs ns ep t1 news dp un gd cn cs a ccd cl outer A₀ base h₀ L m s Q E p loose mean mg mb
  intro hx hn hlen hP hP0 B F X N T hk htb ml hi' hd hu hret
  subst hx
  refine wpAny_call ?_
  k_dflt ktr_enter
  k_steps
  refine Stop.go ?_
  refine' While_inv (JF w l vs ep P n news) (n₀ := n) ?F ?N ?J ?turn ?hE
  (case F => assumption); (case N => assumption)
  (case hE => first | passes_own | with_unfolding_all passes_own)
  · refine ⟨0, 0, 0, 0, _, _, _, _, _, _, _, _, rfl, rfl, rfl, by k_mem, by k_mem, ⟨by assumption, by assumption, by assumption⟩, Grow.of N htb fun p hp => (by k_mem), by k_mem, Nat.le_refl _, by omega, by omega⟩
  · rintro k m₁ news₁ h₁ tk₁ F₁ N₁ ⟨S, K, c3, c4, t, t2, t3, t4, t5, T, d, od, e1, e2, e3, mT, md, hD, g, ml', hkn, hS, hK⟩
    have tb := g.tb
    rw [← mmF_of e1 e2 e3] at F₁
    unfold mmF at F₁
    clear e1 e2 e3
    k_steps
    · refine Stop.go ?_
      refine' afs w ?hB ?hF ?hX ?hN ?hT rfl ?mT ?md hD ?mS ?me ⟨?e1, ?e2, ?e3⟩ ?hd ?hu ?_
      (case hB => assumption); (case hF => assumption); (case hX => assumption); (case hN => assumption); (case hT => assumption)
      (case mT => k_mem); (case md => k_mem); (case mS => k_mem); (case me => k_mem); (case e1 => assumption); (case e2 => assumption); (case e3 => assumption)
      (case hd => (dsimp only [ktrTop]; omega)); (case hu => (dsimp only [ktrTop]; omega))
      intro R D o v1 v2 v3 v4 h2 tk2 F2 N2 hD2
      k_steps
      refine Stop.go ?_
      refine' lowc w k rfl ?hk ?hB ?hF ?hX ?hN ?hT rfl (tb.of ?ht) ?hd ?hu ?_
      (case hB => assumption); (case hF => assumption); (case hX => assumption); (case hN => assumption); (case hT => assumption)
      (case ht => exact fun p hp => (by k_mem))
      (case hk => omega)
      (case hd => (dsimp only [ktrTop]; omega)); (case hu => (dsimp only [ktrTop]; omega))
      intro t6 news2 h3 tk3 F3 N3 g3
      have hk0 : 0 < k := by omega
      obtain ⟨lf1, lf2, lf3, lf4, lf5, lf6⟩ := low_facts k (by omega) hk0
      rw [lf1]
      k_steps
      · exfalso; omega
      · have hc : ((k - lowN k : Nat) : Int) = (k : Int) - (lowN k : Int) := by omega
        have hp := hP k hk0 (by omega)
        refine WhileStep.intro (n' := k - lowN k) (by assumption) (by assumption) (by omega) ⟨_, _, _, _, _, _, _, _, _, _, _, _, by rw [hc]; rfl, rfl, rfl, g3.keep _ (by k_mem) (by rintro vs e; cases e), g3.keep _ (by k_mem) (by obtain ⟨es, ep, _, hd, _⟩ := hD2.str; intro vs e; rw [hd] at e; cases e), hD2, (g.more fun p hp => (by k_mem)).trans g3, g3.keep _ (by k_mem) (by rintro vs e; cases e), by omega, ?_, ?_⟩
        · simp only [Int.toNat_natCast]; omega
        · omega
    · exfalso
      obtain ⟨_, _, _, lf4, lf5, lf6⟩ := low_facts k (by omega) (by omega)
      obtain ⟨_, _, _, _, _, lf7⟩ := low_facts n (by omega) (by omega)
      omega
    · have hk0 : k = 0 := by omega
      subst hk0
      rw [hP0] at hS
      rw [bits_zero] at hK
      obtain rfl : S = P n := by omega
      obtain rfl : K = bits n := by omega
      exact hret _ _ _ _ _ _ (by assumption) (by assumption) g
end Mine
end
-- Cmp
section
open PySem PySem.W PyProof.Rows PySem.Calls PySem.Spec
namespace Mine
/-- a list comprehension's turns from place i on, by what holds between them -/
theorem comp_from {prog : Program} {w : World} {A : Around} {h₀ : Heap} {L : Addr} {m : Str → Option Value} {env : Env} {elt : Expr} {x : Str} {scope : Scope} {cl : List (Str × Addr)} {s : Shared} {n : Nat}
    {S : List (Addr × Obj) → Prop} {P : Nat → Value → Prop} {Fin : List Value → List (Addr × Obj) → Prop} (Inv : Nat → List Value → List (Addr × Obj) → Prop)
    (turn : ∀ i ys nw v I oI C oC D m₂ h tk (E' : Value → Shared → Prop), i < n → Inv i ys nw → P i v → LCg.NsObj oC m₂ → m₂ x = some v → Fr h₀ L h m → News h₀ L h ((I, oI) :: (C, oC) :: (D, LCg.lst ys) :: nw) → LCg.Off3 I C D nw → ((@Ne Nat I C) ∧ (@Ne Nat I D) ∧ (@Ne Nat C D)) →
      wpAny (model prog w) A (eval elt (compEnvC scope cl C env)) (LCg.CompEnd h₀ L m { s with heap := h, toks := tk } I oI C oC D (LCg.lst ys) S (fun y nw' => Inv (i + 1) (ys ++ [y]) nw')) E' { s with heap := h, toks := tk })
    (fin : ∀ ys nw, Inv n ys nw → Fin ys nw) : ∀ (left i : Nat) (ys : List Value) (nw : List (Addr × Obj)), n = i + left → Inv i ys nw → LCg.CompRest prog w A h₀ L m env elt x scope cl s S P Fin left i ys nw
  | 0, _, _, _, e, y => .zero (fin _ _ (e ▸ y))
  | left + 1, i, ys, nw, e, y => .succ fun v I oI C oC D m₂ h tk E' pv ns mx F N o ne =>
    wpAny_mono (turn i ys nw v I oI C oC D m₂ h tk E' (by omega) y pv ns mx F N o ne)
      (fun z _ ⟨h', tk', nw', e', F', N', o', S', y'⟩ => ⟨h', tk', nw', e', F', N', o', S', comp_from Inv turn fin left (i + 1) (ys ++ [z]) nw' (by omega) y'⟩) fun _ _ b => b
/-- all its turns -/
theorem comp_ind {prog : Program} {w : World} {A : Around} {h₀ : Heap} {L : Addr} {m : Str → Option Value} {env : Env} {elt : Expr} {x : Str} {scope : Scope} {cl : List (Str × Addr)} {s : Shared} {n : Nat} {news : List (Addr × Obj)}
    {S : List (Addr × Obj) → Prop} {P : Nat → Value → Prop} {Fin : List Value → List (Addr × Obj) → Prop} (Inv : Nat → List Value → List (Addr × Obj) → Prop) (h0 : Inv 0 [] news)
    (turn : ∀ i ys nw v I oI C oC D m₂ h tk (E' : Value → Shared → Prop), i < n → Inv i ys nw → P i v → LCg.NsObj oC m₂ → m₂ x = some v → Fr h₀ L h m → News h₀ L h ((I, oI) :: (C, oC) :: (D, LCg.lst ys) :: nw) → LCg.Off3 I C D nw → ((@Ne Nat I C) ∧ (@Ne Nat I D) ∧ (@Ne Nat C D)) →
      wpAny (model prog w) A (eval elt (compEnvC scope cl C env)) (LCg.CompEnd h₀ L m { s with heap := h, toks := tk } I oI C oC D (LCg.lst ys) S (fun y nw' => Inv (i + 1) (ys ++ [y]) nw')) E' { s with heap := h, toks := tk })
    (fin : ∀ ys nw, Inv n ys nw → Fin ys nw) : LCg.CompRest prog w A h₀ L m env elt x scope cl s S P Fin n 0 [] news :=
  comp_from Inv turn fin n 0 [] news (Nat.zero_add n).symm h0
theorem off3_of {I C D : Addr} {news : List (Addr × Obj)} (h : ∀ p ∈ news, p.1 ≠ I ∧ p.1 ≠ C ∧ p.1 ≠ D) : LCg.Off3 I C D news := LCg.Off3.of h
theorem tab_in {P : Addr} {pos : Pos} {q : Str} {news : List (Addr × Obj)} (x : TabOk P pos q news) : ∃ o, (P, o) ∈ news := by
  rcases x with x | ⟨_, _, _, _, h, _⟩
  · exact ⟨_, x⟩
  · exact ⟨_, h⟩
/-- the ledger's rest behind a call of the block's element -/
def rest3 (I C D : Addr) (news : List (Addr × Obj)) : List (Addr × Obj) := off I (off C (off D news))
theorem rest3_off {I C D : Addr} {news : List (Addr × Obj)} : LCg.Off3 I C D (rest3 I C D news) :=
  off3_of fun p hp => ⟨off_ne p hp, off_ne p (off_sub hp), off_ne p (off_sub (off_sub hp))⟩
theorem rest3_sub {I C D : Addr} {news : List (Addr × Obj)} : ∀ p ∈ rest3 I C D news, p ∈ news := fun _ hp => off_sub (off_sub (off_sub hp))
theorem mem_rest3 {I C D : Addr} {news : List (Addr × Obj)} {p : Addr × Obj} (h : p ∈ news) (h1 : p.1 ≠ I) (h2 : p.1 ≠ C) (h3 : p.1 ≠ D) : p ∈ rest3 I C D news := mem_off (mem_off (mem_off h h3) h2) h1
theorem tabStep_rest3 {P I C D : Addr} {pos : Pos} {q : Str} {h₀ h : Heap} {L : Addr} {oI oC oD : Obj} {news all : List (Addr × Obj)} (N : News h₀ L h news) (hoff : LCg.Off3 I C D news) (tb : TabOk P pos q news)
    (x : TabStep P pos q ((I, oI) :: (C, oC) :: (D, oD) :: news) all) : TabStep P pos q news (rest3 I C D all) := by
  have off := hoff.mem
  obtain ⟨oP, mP⟩ := tab_in tb
  have nP := off _ mP
  have mem : ∀ {a : Addr} {o : Obj}, (a, o) ∈ (I, oI) :: (C, oC) :: (D, oD) :: news → a ≠ I → a ≠ C → a ≠ D → (a, o) ∈ news := fun {a o} hm h1 h2 h3 => by
    rcases List.mem_cons.mp hm with e | hm
    · exact absurd (congrArg Prod.fst e) h1
    · rcases List.mem_cons.mp hm with e | hm
      · exact absurd (congrArg Prod.fst e) h2
      · rcases List.mem_cons.mp hm with e | hm
        · exact absurd (congrArg Prod.fst e) h3
        · exact hm
  rcases x with x | ⟨c', oc, vs, t, h1, h2, h3, h4, h5, h6⟩
  · exact .inl (mem_rest3 x nP.1 nP.2.1 nP.2.2)
  · rcases h6 with ⟨h6, h7⟩ | h6
    · have m6 := mem h6 nP.1 nP.2.1 nP.2.2
      rcases tb with y | ⟨d, od, us, u, k1, k2, k3, k4, k5⟩
      · have e1 := (N _ m6).1
        rw [(N _ y).1] at e1
        have e2 := congrArg Obj.data (Option.some.inj e1)
        cases e2
      · have e1 := (N _ m6).1
        rw [(N _ k1).1] at e1
        have e2 := congrArg Obj.data (Option.some.inj e1)
        simp only [Data.fields.injEq] at e2
        have e3 : d = c' := by
          have := congrArg (fun v : Array Value => v[2]?) e2
          simpa using this
        subst e3
        have nd := off _ k2
        have m7 := mem h7 nd.1 nd.2.1 nd.2.2
        exact .inr ⟨d, oc, vs, t, mem_rest3 h1 nP.1 nP.2.1 nP.2.2, mem_rest3 h2 nd.1 nd.2.1 nd.2.2, h3, h4, h5, .inl ⟨m6, m7⟩⟩
    · have lI := h6 (I, oI) (List.mem_cons_self ..)
      have lC := h6 (C, oC) (List.mem_cons_of_mem _ (List.mem_cons_self ..))
      have lD := h6 (D, oD) (List.mem_cons_of_mem _ (List.mem_cons_of_mem _ (List.mem_cons_self ..)))
      exact .inr ⟨c', oc, vs, t, mem_rest3 h1 nP.1 nP.2.1 nP.2.2, mem_rest3 h2 (Nat.ne_of_gt lI) (Nat.ne_of_gt lC) (Nat.ne_of_gt lD), h3, h4, h5, .inr fun p hp => h6 p (List.mem_cons_of_mem _ (List.mem_cons_of_mem _ (List.mem_cons_of_mem _ hp)))⟩
theorem grow_rest3 {I C D : Addr} {h₀ h : Heap} {L : Addr} {oI oC oD : Obj} {news all : List (Addr × Obj)} (N : News h₀ L h news) (hoff : LCg.Off3 I C D news) (tb : Tb news) (g : Grow ((I, oI) :: (C, oC) :: (D, oD) :: news) all) : Grow news (rest3 I C D all) :=
  have off := hoff.mem
  have up : ∀ p ∈ news, p ∈ (I, oI) :: (C, oC) :: (D, oD) :: news := fun _ hp => List.mem_cons_of_mem _ (List.mem_cons_of_mem _ (List.mem_cons_of_mem _ hp))
  ⟨fun p hp h1 h2 => mem_rest3 (g.addr p (up p hp) h1 h2) (off p hp).1 (off p hp).2.1 (off p hp).2.2, fun p hp hd => mem_rest3 (g.keep p (up p hp) hd) (off p hp).1 (off p hp).2.1 (off p hp).2.2,
    tabStep_rest3 N hoff tb.1 g.t16, tabStep_rest3 N hoff tb.2 g.t23, _, _, _, N⟩
/-- what the block itself holds stands behind the calls -/
theorem own_rest3 {I C D : Addr} {oI oC oD : Obj} {news all : List (Addr × Obj)} (hoff : LCg.Off3 I C D news) (tb : Tb news) (g : Grow ((I, oI) :: (C, oC) :: (D, oD) :: news) all) :
    ∀ p ∈ (I, oI) :: (C, oC) :: (D, oD) :: rest3 I C D all, p ∈ all := by
  have off := hoff.mem
  obtain ⟨o1, m1⟩ := tab_in tb.1
  obtain ⟨o2, m2⟩ := tab_in tb.2
  have n1 := off _ m1
  have n2 := off _ m2
  intro p hp
  rcases List.mem_cons.mp hp with rfl | hp
  · exact g.addr _ (List.mem_cons_self ..) (Ne.symm n1.1) (Ne.symm n2.1)
  · rcases List.mem_cons.mp hp with rfl | hp
    · exact g.addr _ (List.mem_cons_of_mem _ (List.mem_cons_self ..)) (Ne.symm n1.2.1) (Ne.symm n2.2.1)
    · rcases List.mem_cons.mp hp with rfl | hp
      · exact g.addr _ (List.mem_cons_of_mem _ (List.mem_cons_of_mem _ (List.mem_cons_self ..))) (Ne.symm n1.2.2) (Ne.symm n2.2.2)
      · exact rest3_sub p hp
theorem comp_end {h₀ : Heap} {L I C D : Addr} {m : Str → Option Value} {s₁ : Shared} {oI oC oD : Obj} {rest : Value → List (Addr × Obj) → Prop} {y : Value} {h' : Heap} {tk : Nat} {news all : List (Addr × Obj)}
    (F : Fr h₀ L h' m) (N : News h₀ L h' all) (hoff : LCg.Off3 I C D news) (tb : Tb news) (g : Grow ((I, oI) :: (C, oC) :: (D, oD) :: news) all) (r : Grow news (rest3 I C D all) → rest y (rest3 I C D all)) (N₁ : ∃ h, News h₀ L h news) :
    LCg.CompEnd h₀ L m s₁ I oI C oC D oD (fun _ => True) rest y { s₁ with heap := h', toks := tk } :=
  let ⟨_, N₁⟩ := N₁
  LCg.CompEnd.intro F N (rest3 I C D all) (own_rest3 hoff tb g) rest3_off trivial (r (grow_rest3 N₁ hoff tb g))
theorem keep_cell {a b : List (Addr × Obj)} {c : Addr} {o : Obj} {v : Option Value} (g : Grow a b) (m : (c, o) ∈ a) (d : o.data = .cell v) : ∃ o', (c, o') ∈ b ∧ o'.data = .cell v :=
  ⟨o, g.keep _ m (fun vs e => by rw [d] at e; cases e), d⟩
theorem keep_list {a b : List (Addr × Obj)} {c : Addr} {vs : Array Value} {n : Nat} (g : Grow a b) (m : (c, listOf vs n) ∈ a) : (c, listOf vs n) ∈ b := g.keep _ m fun vs e => by cases e
/-- a list of the call's own stands apart from what stood -/
theorem tabStep_off {P D : Addr} {pos : Pos} {q : Str} {h₀ h : Heap} {L : Addr} {a a' : Array Value} {n n' : Nat} {rest all : List (Addr × Obj)} (N : News h₀ L h all) (mD : (D, listOf a' n') ∈ all)
    (x : TabStep P pos q ((D, listOf a n) :: rest) all) : TabStep P pos q rest (off D all) := by
  rcases x with x | ⟨c', oc, vs, t, h1, h2, h3, h4, h5, h6⟩
  · exact .inl (mem_off x (news_ne N x mD fun e => by cases congrArg Obj.data e))
  · refine .inr ⟨c', oc, vs, t, mem_off h1 (news_ne N h1 mD fun e => by cases congrArg Obj.data e), mem_off h2 (news_ne N h2 mD fun e => by rw [e] at h3; cases h3), h3, h4, h5, ?_⟩
    rcases h6 with ⟨h6, h7⟩ | h6
    · refine .inl ⟨?_, ?_⟩
      · rcases List.mem_cons.mp h6 with e | h6
        · cases congrArg Obj.data (congrArg Prod.snd e)
        · exact h6
      · rcases List.mem_cons.mp h7 with e | h7
        · have e2 : oc = listOf a n := congrArg Prod.snd e
          rw [e2] at h3
          cases h3
        · exact h7
    · exact .inr fun p hp => h6 p (List.mem_cons_of_mem _ hp)
theorem grow_offD {D : Addr} {h₀ h : Heap} {L : Addr} {a a' : Array Value} {n n' : Nat} {rest all : List (Addr × Obj)} (N : News h₀ L h all) (mD : (D, listOf a' n') ∈ all) (hne : ∀ p ∈ rest, p.1 ≠ D)
    (g : Grow ((D, listOf a n) :: rest) all) : Grow rest (off D all) :=
  ⟨fun p hp h1 h2 => mem_off (g.addr p (List.mem_cons_of_mem _ hp) h1 h2) (hne p hp), fun p hp hd => mem_off (g.keep p (List.mem_cons_of_mem _ hp) hd) (hne p hp), tabStep_off N mD g.t16, tabStep_off N mD g.t23,
    let ⟨h₀, L, h, N'⟩ := g.src
    ⟨h₀, L, h, news_sub N' fun _ hp => List.mem_cons_of_mem _ hp⟩⟩
theorem Grow.less {a b c : List (Addr × Obj)} (g : Grow b c) (tb : Tb a) (h : ∀ p ∈ a, p ∈ b) : Grow a c :=
  let ⟨_, _, _, N⟩ := g.src
  (Grow.of (news_sub N h) tb h).trans g
theorem off_self {D : Addr} {news : List (Addr × Obj)} : ∀ p ∈ off D news, p.1 ≠ D := off_ne
end Mine
end
-- Kpt
section
open PySem PySem.W PyProof.Rows PySem.Calls PySem.Spec
namespace Mine
/-- what the last so many before a place come to -/
def seg (ns : List Int) (p : Nat) : Int := ((ns.drop (p - lowN p)).take (lowN p)).sum
def keptOf (ns : List Int) : List Int := 0 :: (List.range ns.length).map fun i => seg ns (i + 1)
theorem seg_eq {ns : List Int} {i : Nat} (h : i < ns.length) (hl : lowN (i + 1) ≤ i + 1) :
    (List.take (min (1 + (i : Int)).toNat ns.length - (1 + (i : Int) - (lowN (i + 1) : Int)).toNat) (List.drop (1 + (i : Int) - (lowN (i + 1) : Int)).toNat ns)).sum = seg ns (i + 1) := by
  unfold seg
  have e1 : (1 + (i : Int) - (lowN (i + 1) : Int)).toNat = i + 1 - lowN (i + 1) := by omega
  have e2 : min (1 + (i : Int)).toNat ns.length - (i + 1 - lowN (i + 1)) = lowN (i + 1) := by omega
  rw [e1, e2]
def KPT (w : World) : Prop :=
  ∀ {l : Addr} {vs : List Value} {ns : List Int} {ep : Nat} {news : List (Addr × Obj)}
   {dp un : Nat} {gd : Option (List Code)} {cn : Str} {cs : Scope} {a : Addr} {ccd : Value} {cl : List (Str × Addr)} {outer : List Env} {A₀ : Around} {base h₀ : Heap} {L : Addr} {m : Str → Option Value}
   {s : Shared} {Q E : Value → Shared → Prop} {p : Program} {loose : List Str} {mean : ExcName → Option Value} {mg mb : Str → Option Value},
   ns.length ≤ 16 →
   Below A₀ base outer h₀ → Fr h₀ L s.heap m → (hd.heap_39 w.params).In h₀ → News h₀ L s.heap news → Top p loose mean mg mb h₀ → cs.kind = .function →
   Tb news → (l, listOf vs.toArray ep) ∈ news → IntsAre vs ns → dp + 100 < recursionLimit → un + 1000 < cLine →
   (∀ R rs er news' h' tk', Fr h₀ L h' m → News h₀ L h' ((R, listOf (List.toArray rs) er) :: news') → IntsAre rs (keptOf ns) → Grow news news' → Q (.ref R) { s with heap := h', toks := tk' }) →
    wpAny (model PySem.Challenge.rw_hc0001_01.row.prog w) (ktrTop dp un gd cn cs L a ccd cl outer) (call (.ref 54) [.ref l]) Q E s

local macro_rules | `(tactic| k_mem) => `(tactic| assumption)
local macro_rules | `(tactic| k_all) => `(tactic| first | assumption | (refine ne_of_allLt (by assumption) ?_; omega))
local macro_rules | `(tactic| k_room) => `(tactic| ((try simp only [depth_under_make, depth_under_kw, depth_in1, depth_deeper, depth_caller, ktrTop]); omega))
local macro_rules | `(tactic| walk_at "call builtin:len") => `(tactic| (k_here; (refine my_len (by k_asm) (by k_dflt k_mem) (by assumption) ?_ ?_); (case refine_1 => omega)))
local macro_rules | `(tactic| walk_at "subscriptTail Name Slice ref ref") => `(tactic| (k_here; k_dflt (refine' kmk_slice_ints ?F ?N ?l ?p ?q ?i ?m rfl ?_ ?s ?t ?z; (case F => k_asm); (case N => k_asm); (case l => kmk_list); (case p => kmk_part); (case q => kmk_part); (case i => assumption); (case m => first | exact kmk_upto (by assumption) (by omega) | exact kmk_from (by assumption) (by omega) | exact kmk_run (by assumption) (by omega) (by omega)); (case s => with_unfolding_all rfl); (case t => kmk_pure); (case z => (refine kmk_sz (by assumption) ?_; rw [sizeLine_eq]; omega))); intro D' ws' h' F' N' l1 hI' hC' hL'; (try k_lt l1); (try k_sweep)))
local macro_rules | `(tactic| walk_at "call ref") => `(tactic| (k_here; with_reducible refine Stop.mk ?_))
local macro_rules | `(tactic| walk_at "eval ListComp") => `(tactic| (k_here; k_dflt (refine LCg.ListComp_U (F₀ := by k_asm) (by with_unfolding_all rfl) (by decide) (by rfl) (by decide) (by rfl) ?_)))
local macro_rules | `(tactic| walk_at "CompEnd") => `(tactic| (k_here; with_reducible refine Stop.mk ?_))
local macro_rules | `(tactic| walk_at "CompSrc") => `(tactic| (k_here; with_reducible refine Stop.mk ?_))
set_option maxRecDepth 100000 in
set_option maxHeartbeats 1000000 in
theorem kpt : ∀ (w : World), KPT w := by
  unfold KPT
  k_fill
  intro w l vs ns ep news dp un gd cn cs a ccd cl outer A₀ base h₀ L m s Q E p loose mean mg mb
  intro hlen B F X N T hk htb ml hi' hd hu hret
  refine wpAny_call ?_
  (refine' code_defC ?k1 ?k2 ?k3 ?k4 ?k5 ?kA ?kF ?kK ?k6 ?k7 ?k8 ?k9 ?kB ?kD ?_ ?c2 ?c3 ?c4; (case kA => exact rfl); (case kF => exact rfl); (case kK => assumption); (case k1 => k_asm); (case k2 => k_asm); (case k3 => k_asm); (case k4 => k_asm); (case k5 => k_asm); (case k6 => k_is); (case k7 => k_is); (case k8 => k_room); (case k9 => exact BindsTo.of_eq rfl); (case kB => exact rfl); (case kD => decide +kernel); (case c2 => exact rfl); (case c3 => exact rfl); (case c4 => exact rfl); k_whole; intro g' L' h' tk' cells' FG' F' N' Y' B' X' T' l1; (replace l1 := allLt_of l1); k_cells Y'; (try simp only [List.cons_append, List.nil_append] at N'); (try dsimp only); (try k_lift B'); (try k_fold))
  k_steps
  refine Stop.go ?_
  refine' LCg.CompSrc.range (n := ns.length) ?hh ?F ?N ?r ?sm ?sz (by rw [sizeLine_eq]; omega) ?_
  (case hh => rfl); (case F => assumption); (case N => assumption); (case r => assumption); (case sm => exact small_one (by decide) (by decide) (by omega) (by omega))
  (case sz => rw [rangeSize_nat]; omega)
  intro g
  refine' comp_ind (fun i ys nw => IntsAre ys ((List.range i).map fun i => seg ns (i + 1)) ∧ Grow _ nw) ⟨.nil, Grow.of (by assumption) (htb.of fun p hp => (by k_mem)) fun p hp => hp⟩ ?turn ?fin
  · rintro i ys news₁ v I oI C oC D m₂ h tk E' hi ⟨hy, gr⟩ ⟨tv, rfl⟩ hC hx F₁ N₁ hoff hne
    have hN₁ : ∃ h, News g' L' h news₁ := ⟨_, news_sub N₁ fun p hp => List.mem_cons_of_mem _ (List.mem_cons_of_mem _ (List.mem_cons_of_mem _ hp))⟩
    have tb := gr.tb
    have ml₁ := keep_list gr (c := l) (by k_mem)
    obtain ⟨oc, mc, dc⟩ := keep_cell gr (c := L' + 1) (by k_mem) (by assumption)
    obtain ⟨lf1, lf2, lf3, lf4, lf5, lf6⟩ := low_facts (i + 1) (by omega) (by omega)
    k_steps
    refine Stop.go ?_
    refine' lowc w (i + 1) ?hx ?hk ?hB ?hF ?hX ?hN ?hT rfl (tb.of ?ht) ?hd ?hu ?_
    (case hB => assumption); (case hF => assumption); (case hX => assumption); (case hN => assumption); (case hT => assumption)
    (case ht => exact fun p hp => (by k_mem))
    (case hx => omega); (case hk => omega)
    (case hd => (dsimp only [ktrTop]; omega)); (case hu => (dsimp only [ktrTop]; omega))
    intro t6 news2 h3 tk3 F3 N3 g3
    rw [lf1]
    have ml₂ := keep_list g3 (c := l) (by k_mem)
    have mC₂ := own_rest3 hoff tb g3 _ (List.mem_cons_of_mem _ (List.mem_cons_self ..))
    k_steps
    refine Stop.go (comp_end (by assumption) (by assumption) hoff tb (g3.more fun p hp => (by k_mem)) (fun gr' => ⟨?_, gr.trans gr'⟩) hN₁)
    rw [seg_eq hi lf3, List.range_succ, List.map_append]
    exact hy.append (.cons _ _ .nil)
  · rintro ys nw ⟨hy, gr⟩
    unfold LCg.FinE
    intro D h tk F₁ N₁ o1
    have ml0 := keep_list gr (List.mem_cons_self ..)
    (try dsimp only)
    k_steps
    refine' kmk_add_ints (ns := [0]) ?xF ?xN ?xa ?xb ?xi hy ?_ ?xz
    (case xF => k_asm); (case xN => k_asm); (case xa => exact News.isList (by k_asm) (by k_mem)); (case xb => exact News.isList (by k_asm) (by k_mem)); (case xi => exact .cons 0 _ .nil)
    (case xz => rw [sizeLine_eq]; simp; omega)
    intro R us h2 F2 N2 l2 hi2
    (try dsimp only)
    k_steps
    refine hret _ _ _ _ _ _ (by assumption) (by assumption) ?_ ((Grow.of N htb fun p hp => (by k_mem)).trans (gr.more fun p hp => (by k_mem)))
    exact hi2
end Mine
end
-- Pl4
section
open PySem PySem.W PyProof.Rows PySem.Calls PySem.Spec
namespace Mine
/-- place q tells of number p -/
def cov (q p : Nat) : Bool := decide (q - lowN q < p ∧ p ≤ q)
/-- how many places a number's telling comes to, below len -/
def stepsF : Nat → Nat → Nat → Nat
  | 0, _, _ => 0
  | f + 1, len, p => if p < len then 1 + stepsF f len (p + lowN p) else 0
def steps (len p : Nat) : Nat := stepsF 8 len p
theorem steps_eq {len p : Nat} (hl : len ≤ 17) (h0 : 0 < p) (hp : p < len) : steps len p = 1 + steps len (p + lowN p) ∧ steps len p ≤ 6 := by
  have h : ∀ len : Fin 18, ∀ p : Fin 18, 0 < p.val → p.val < len.val → steps len.val p.val = 1 + steps len.val (p.val + lowN p.val) ∧ steps len.val p.val ≤ 6 := by decide +kernel
  exact h ⟨len, by omega⟩ ⟨p, by omega⟩ h0 hp
theorem steps_le {n p : Nat} (hl : n ≤ 16) (h0 : 0 < p) (hp : p ≤ n) : steps (n + 1) p ≤ nb n := by
  have h : ∀ n : Fin 17, ∀ p : Fin 17, 0 < p.val → p.val ≤ n.val → steps (n.val + 1) p.val ≤ nb n.val := by decide +kernel
  exact h ⟨n, by omega⟩ ⟨p, by omega⟩ h0 hp
theorem steps_end {len p : Nat} (h : len ≤ p) : steps len p = 0 := by
  unfold steps stepsF
  rw [if_neg (by omega)]
theorem cov_self {p : Nat} (h : 0 < p) (hp : p ≤ 40) : cov p p = true := by
  obtain ⟨_, h2, _⟩ := low_facts p hp h
  unfold cov
  exact decide_eq_true (by omega)
theorem cov_next {q p : Nat} (hq : q ≤ 16) (h0 : 0 < p) (hp : p ≤ 16) (h : cov q p = true) : cov (q + lowN q) p = true ∧ 0 < q ∧ ∀ r, q < r → r < q + lowN q → cov r p = false := by
  have h' : ∀ q : Fin 17, ∀ p : Fin 17, 0 < p.val → cov q.val p.val = true → cov (q.val + lowN q.val) p.val = true ∧ 0 < q.val ∧ ∀ r : Fin 33, q.val < r.val → r.val < q.val + lowN q.val → cov r.val p.val = false := by decide +kernel
  obtain ⟨a, b, c⟩ := h' ⟨q, by omega⟩ ⟨p, by omega⟩ h0 h
  refine ⟨a, b, fun r h1 h2 => ?_⟩
  obtain ⟨_, _, h5, _⟩ := low_facts q (by omega) b
  exact c ⟨r, by omega⟩ h1 h2
end Mine
end
-- Grt
section
open PySem PySem.W PyProof.Rows PySem.Calls PySem.Spec
namespace Mine
def GRT (w : World) : Prop :=
  ∀ {x y : Int} (n : Nat) {l : Addr} {vs : List Value} {ns : List Int} {ep : Nat} {t1 t2 : Tok} {news : List (Addr × Obj)}
   {dp un : Nat} {gd : Option (List Code)} {cn : Str} {cs : Scope} {a : Addr} {ccd : Value} {cl : List (Str × Addr)} {outer : List Env} {A₀ : Around} {base h₀ : Heap} {L : Addr} {m : Str → Option Value}
   {s : Shared} {Q E : Value → Shared → Prop} {p : Program} {loose : List Str} {mean : ExcName → Option Value} {mg mb : Str → Option Value},
   x = (n : Int) → 0 < n → n < ns.length → ns.length ≤ 17 →
   Below A₀ base outer h₀ → Fr h₀ L s.heap m → (hd.heap_39 w.params).In h₀ → News h₀ L s.heap news → Top p loose mean mg mb h₀ → cs.kind = .function →
   Tb news → (l, listOf vs.toArray ep) ∈ news → IntsAre vs ns → dp + 100 < recursionLimit → un + 1000 < cLine →
   (∀ R D rs fs er t3 news' h' tk', Fr h₀ L h' m → News h₀ L h' ((R, tupOf [.ref D, .int (steps ns.length n : Nat) t3]) :: (D, listOf (List.toArray rs) er) :: news') → IntsAre rs fs → fs.length = ns.length → (∀ q, q < ns.length → fs.getD q 0 = ns.getD q 0 + (if cov q n = true then y else 0)) →
     Grow news news' → Q (.ref R) { s with heap := h', toks := tk' }) →
    wpAny (model PySem.Challenge.rw_hc0001_01.row.prog w) (ktrTop dp un gd cn cs L a ccd cl outer) (call (.ref 68) [.ref l, .int x t1, .int y t2]) Q E s

/-- the frame of _law_greater between its turns -/
def mmG (u : Str → Option Value) (pc : Nat) (t : Tok) (K : Nat) (tK : Tok) (D l : Addr) (y : Int) (tb : Tok) : Str → Option Value := fun z => if z = "place" then some (.int (pc : Int) t) else if z = "many" then some (.int (K : Int) tK) else if z = "found" then some (.ref D) else if z = "kept" then some (.ref l) else if z = "by" then some (.int y tb) else u z
theorem mmG_of {m : Str → Option Value} {pc : Nat} {t : Tok} {K : Nat} {tK : Tok} {D l : Addr} {y : Int} {tb : Tok} (h1 : m "place" = some (.int (pc : Int) t)) (h2 : m "many" = some (.int (K : Int) tK)) (h3 : m "found" = some (.ref D)) (h4 : m "kept" = some (.ref l)) (h5 : m "by" = some (.int y tb)) : mmG m pc t K tK D l y tb = m := by
  funext z
  unfold mmG
  by_cases e1 : z = "place"
  · rw [if_pos e1, e1, h1]
  · rw [if_neg e1]
    by_cases e2 : z = "many"
    · rw [if_pos e2, e2, h2]
    · rw [if_neg e2]
      by_cases e3 : z = "found"
      · rw [if_pos e3, e3, h3]
      · rw [if_neg e3]
        by_cases e4 : z = "kept"
        · rw [if_pos e4, e4, h4]
        · rw [if_neg e4]
          by_cases e5 : z = "by"
          · rw [if_pos e5, e5, h5]
          · rw [if_neg e5]
structure JG (l : Addr) (vs : List Value) (ep : Nat) (ns : List Int) (y : Int) (n₀ : Nat) (news : List (Addr × Obj)) (k : Nat) (m₁ : Str → Option Value) (news₁ : List (Addr × Obj)) : Prop where
  go : ∃ (pc K : Nat) (t tK tb : Tok) (D : Addr) (rs : List Value) (fs : List Int) (c : Nat) (rest : List (Addr × Obj)), m₁ "place" = some (.int (pc : Int) t) ∧ m₁ "many" = some (.int (K : Int) tK) ∧ m₁ "found" = some (.ref D) ∧ m₁ "kept" = some (.ref l) ∧ m₁ "by" = some (.int y tb) ∧
    news₁ = (D, listOf rs.toArray c) :: rest ∧ (∀ p ∈ rest, p.1 ≠ D) ∧ Grow news rest ∧ (l, listOf vs.toArray ep) ∈ rest ∧ IntsAre rs fs ∧ fs.length = ns.length ∧
    k = 40 - pc ∧ pc ≤ 33 ∧ K + steps ns.length pc = steps ns.length n₀ ∧ cov pc n₀ = true ∧ (∀ q, q < ns.length → fs.getD q 0 = ns.getD q 0 + (if cov q n₀ = true ∧ q < pc then y else 0))
theorem bump_step {fs ns : List Int} {y : Int} {n₀ pc lw : Nat} (hfl : fs.length = ns.length) (hp : pc < ns.length) (hcov : cov pc n₀ = true) (hl : 0 < lw) (hn : ∀ r, pc < r → r < pc + lw → cov r n₀ = false)
    (hq : ∀ q, q < ns.length → fs.getD q 0 = ns.getD q 0 + (if cov q n₀ = true ∧ q < pc then y else 0)) :
    ∀ q, q < ns.length → (fs.set pc (fs.getD pc 0 + y)).getD q 0 = ns.getD q 0 + (if cov q n₀ = true ∧ q < pc + lw then y else 0) := fun q hql => by
  by_cases e : q = pc
  · subst e
    have h1 : (fs.set q (fs.getD q 0 + y)).getD q 0 = fs.getD q 0 + y := by
      rw [List.getD_eq_getElem?_getD, List.getElem?_set_self (by omega)]; rfl
    rw [h1, hq q hql, if_neg (by omega), if_pos ⟨hcov, by omega⟩]
    omega
  · have h1 : (fs.set pc (fs.getD pc 0 + y)).getD q 0 = fs.getD q 0 := by
      rw [List.getD_eq_getElem?_getD, List.getElem?_set_ne (Ne.symm e), ← List.getD_eq_getElem?_getD]
    rw [h1, hq q hql]
    congr 1
    by_cases h2 : q < pc
    · have : (cov q n₀ = true ∧ q < pc) ↔ (cov q n₀ = true ∧ q < pc + lw) := ⟨fun h => ⟨h.1, by omega⟩, fun h => ⟨h.1, h2⟩⟩
      simp only [this]
    · rw [if_neg (by omega), if_neg]
      rintro ⟨h3, h4⟩
      rw [hn q (by omega) h4] at h3
      cases h3
local macro_rules | `(tactic| k_mem) => `(tactic| assumption)
local macro_rules | `(tactic| k_all) => `(tactic| first | assumption | (refine ne_of_allLt (by assumption) ?_; omega))
local macro_rules | `(tactic| k_room) => `(tactic| ((try simp only [depth_under_make, depth_under_kw, depth_in1, depth_deeper, depth_caller, ktrTop]); omega))
local macro_rules | `(tactic| walk_at "call builtin:len") => `(tactic| (k_here; (refine my_len (by k_asm) (by k_dflt k_mem) (by assumption) ?_ ?_); (case refine_1 => omega)))
local macro_rules | `(tactic| walk_at "call type:list") => `(tactic| (k_here; k_dflt (refine' list_copyK ?zF ?zN ?zl ?_ ?zz; (case zF => k_asm); (case zN => k_asm); (case zl => exact News.isList (by k_asm) (by k_mem)); (case zz => (refine kmk_sz (by assumption) ?_; rw [sizeLine_eq]; omega))); intro D' c' h' F' N' l1; (replace l1 := allLt_of l1)))
local macro_rules | `(tactic| walk_at "call ref") => `(tactic| (k_here; with_reducible refine Stop.mk ?_))
local macro_rules | `(tactic| walk_at "exec While BoolOp") => `(tactic| (k_here; with_reducible refine Stop.mk ?_))
set_option maxRecDepth 100000 in
set_option maxHeartbeats 1000000 in
theorem grt : ∀ (w : World), GRT w := by
  unfold GRT
  k_fill
  intro w x y n l vs ns ep t1 t2 news dp un gd cn cs a ccd cl outer A₀ base h₀ L m s Q E p loose mean mg mb
  intro hx hn0 hn hlen B F X N T hk htb ml hi' hd hu hret
  subst hx
  refine wpAny_call ?_
  k_dflt ktr_enter
  k_steps
  refine Stop.go ?_
  refine' While_inv (JG l vs ep ns y n news) (n₀ := 40 - n) ?F ?N ?J ?turn ?hE
  (case F => assumption); (case N => exact news_sub (by assumption) (fun p hp => List.mem_cons_of_mem _ hp))
  (case hE => first | passes_own | with_unfolding_all passes_own)
  · refine ⟨n, 0, _, _, _, _, _, ns, _, _, rfl, rfl, rfl, rfl, rfl, rfl, ?_, Grow.of N htb fun p hp => hp, by k_mem, hi', rfl, rfl, by omega, by omega, cov_self hn0 (by omega), fun q hq => ?_⟩
    · exact ne_of_allLt (by assumption) (Nat.le_refl _)
    · have : ¬ (cov q n = true ∧ q < n) := by
        rintro ⟨h1, h2⟩
        have := of_decide_eq_true h1
        omega
      rw [if_neg this]; omega
  · rintro k m₁ news₁ h₁ tk₁ F₁ N₁ ⟨pc, K, t, tK, tb, D, rs, fs, c, rest, e1, e2, e3, e4, e5, rfl, hne, g, ml', hi1, hfl, rfl, hpc, hK, hcov, hq⟩
    rw [← mmG_of e1 e2 e3 e4 e5] at F₁
    unfold mmG at F₁
    clear e1 e2 e3 e4 e5
    have tbr := g.tb
    k_steps
    · refine Stop.go ?_
      obtain ⟨cn1, cn2, cn3⟩ := cov_next (q := pc) (p := n) (by omega) hn0 (by omega) hcov
      obtain ⟨lf1, lf2, lf3, lf4, lf5, lf6⟩ := low_facts pc (by omega) cn2
      obtain ⟨st1, st2⟩ := steps_eq hlen cn2 (show pc < ns.length by omega)
      refine' lowc w pc rfl ?hk ?hB ?hF ?hX ?hN ?hT rfl (tbr.of ?ht) ?hd ?hu ?_
      (case hB => assumption); (case hF => assumption); (case hX => assumption); (case hN => assumption); (case hT => assumption)
      (case ht => exact fun p hp => (by k_mem))
      (case hk => omega)
      (case hd => (dsimp only [ktrTop]; omega)); (case hu => (dsimp only [ktrTop]; omega))
      intro t6 news2 h3 tk3 F3 N3 g3
      rw [lf1]
      have mD2 := keep_list g3 (c := D) (by k_mem)
      have gD := grow_offD N3 mD2 hne (g3.less (a := (D, _) :: rest) (tbr.of fun p hp => List.mem_cons_of_mem _ hp) (by intro p hp; exact List.mem_cons_of_mem _ hp))
      k_steps
      · exfalso; omega
      · have hc : ((pc + lowN pc : Nat) : Int) = (pc : Int) + (lowN pc : Int) := by omega
        refine WhileStep.intro (n' := 40 - (pc + lowN pc)) (by assumption) (news_front (by assumption) mD2) (by omega) ⟨pc + lowN pc, K + 1, _, _, _, D, _, _, _, _, by rw [hc]; rfl, rfl, rfl, rfl, rfl, rfl, off_ne, g.trans gD, keep_list gD ml', by assumption, (List.length_set ..).trans hfl, rfl, by omega, by omega, cn1, ?_⟩
        rw [Int.toNat_natCast]
        exact bump_step hfl (by omega) hcov lf2 cn3 hq
    · exfalso
      obtain ⟨cn1, cn2, cn3⟩ := cov_next (q := pc) (p := n) (by omega) hn0 (by omega) hcov
      obtain ⟨st1, st2⟩ := steps_eq hlen hn0 hn
      omega
    · have hge : ns.length ≤ pc := by omega
      rw [steps_end hge] at hK
      obtain rfl : K = steps ns.length n := by omega
      refine hret _ _ _ fs _ _ _ _ _ (by assumption) (by assumption) hi1 hfl (fun q hql => ?_) g
      rw [hq q hql]
      have : (cov q n = true ∧ q < pc) ↔ cov q n = true := ⟨fun h => h.1, fun h => ⟨h, by omega⟩⟩
      simp only [this]
end Mine
end
-- Rg
section
open PySem PySem.W PyProof.Rows PySem.Calls PySem.Spec PyProof.V
namespace Mine
section
variable {prog : Program} {w : World} {A : Around} {h₀ h : Heap} {L I : Addr} {m : Str → Option Value} {news own : List (Addr × Obj)} {oI : Obj}
/-- the place that a new object takes: not the frame's, none of the start, none of the ledger's -/
theorem next_place (F : Fr h₀ L h m) (N : News h₀ L h news) : L ≠ h.objs.size ∧ h₀.get? h.objs.size = none ∧ ∀ p ∈ news, p.1 ≠ h.objs.size :=
  ⟨Nat.ne_of_lt F.ns.lt, F.fresh, fun _ hp => Nat.ne_of_lt (Heap.lt_size (N _ hp).1)⟩
/-- all that the loop owns is its one object -/
theorem own_one (g : h.get? I = some oI) (one : ∀ p ∈ own, p.1 ∈ [I]) (said : ∀ p ∈ own, h.get? p.1 = some p.2) : ∀ p ∈ own, p = (I, oI)
  | (a, o), hp => by
    have e1 : a = I := by simpa using one _ hp
    have e2 := said _ hp
    simp only [e1, g, Option.some.injEq] at e2
    rw [e1, e2]
theorem turn_ends {J : (Str → Option Value) → List (Addr × Obj) → Prop} {s₁ : Shared} {Q : Flow → Shared → Prop} (one : ∀ p ∈ own, p = (I, oI)) :
    ∀ f s₂, TbPost h₀ L J [(I, oI)] s₁ Q f s₂ → LoopStepV h₀ L [I] own J s₁ (fun v s' => Q (.ret v) s') (fun s' => Q .next s') f s₂ := by
  have go : ∀ s₂, TbEnd h₀ L J [(I, oI)] s₁ s₂ → LoopStepU h₀ L [I] own J s₁ .next s₂ := fun s₂ ⟨h', tk, m', nw, nx, e, F, N, k1, k2, apart, j⟩ =>
    have N' : News h₀ L h' (own ++ nx) := News.append (fun p hp => N p (k2 p (one p hp ▸ List.mem_singleton_self _))) fun p hp => N p (k1 p hp)
    ⟨rfl, h', tk, m', nx, e, F, N', fun p hp hI => apart _ (List.mem_singleton_self _) p hp (List.mem_singleton.mp hI).symm, j⟩
  intro f s₂ q
  cases f
  case ret => exact .ret q
  case brk => exact .brk q
  case next => exact .next (go _ q)
  case cont => exact .cont (go _ q)
/-- a loop over a range by what holds between its turns, its own object in sight -/
theorem iter_rangeG {E : Value → Shared → Prop} {s : Shared} {env : Env} {x : Str} {body : List Stmt} {Q : Flow → Shared → Prop} {r : Addr} {lo hi : Int} {t1 t2 t3 : Tok} {n : Nat}
    (J : Nat → (Str → Option Value) → List (Addr × Obj) → Prop) (hh : A.handled = none) (hr : IsRange s.heap r lo hi 1 t1 t2 t3) (small : Builtin.Range.small lo hi 1 = true)
    (many : Builtin.Range.rangeSize lo hi 1 = (n : Int)) (F : Fr h₀ env.locals s.heap m) (N : News h₀ env.locals s.heap news) (start : J 0 m news)
    (turn : ∀ i t m₁ nx h tk I oI, i < n → (∀ vs c, oI ≠ listOf vs c) → (∀ p ∈ nx, p.1 ≠ I) → J i m₁ nx → Fr h₀ env.locals h (fun y => if y = x then some (.int (lo + (i : Int)) t) else m₁ y) → News h₀ env.locals h ((I, oI) :: nx) →
      wpAny (model prog w) A (execs body env) (TbPost h₀ env.locals (J (i + 1)) [(I, oI)] { s with heap := h, toks := tk } Q) E { s with heap := h, toks := tk })
    (done : ∀ m₁ nx h tk, J n m₁ nx → Fr h₀ env.locals h m₁ → News h₀ env.locals h nx → Q .next { s with heap := h, toks := tk }) :
    wpAny (model prog w) A (pyIter (.ref r)) (fun it s₂ => LoopAtV prog w A h₀ env x body Q E it s₂) E s := by
  obtain ⟨p1, p2, p3⟩ := next_place F N
  have W := (Walks.range (prog := prog) (w := w) hh s.heap.objs.size lo 1 n).bound
  have made := Heap.get?_push_size s.heap (o := { cls := .type "range_iterator", data := .fields #[rawInt lo, rawInt (Builtin.Range.rangeSize lo hi 1), rawInt 1] }) rfl
  rw [many] at made
  refine wpAny_pyIter_range hr small ?_
  rw [many]
  refine ⟨_, _, _, n, _, _, m, news, J, rfl, W, by simpa using p1, by simpa using p2, by simpa using p3, by simpa [IsRangeIter] using made, F.push _, N.pushKeep _, start, ?_, fun h' tk m' nw F' N' _ j => done m' nw h' tk j F' N'⟩
  rintro i v m₁ nx s₁ own ⟨h, tk, rfl⟩ lt ⟨-, t, rfl⟩ j apart one said back here F₁ N₁
  rw [Int.mul_one] at F₁
  have plain : ∃ o, h.get? s.heap.objs.size = some o ∧ ∀ vs c, o ≠ listOf vs c := ⟨_, here, fun _ _ e => by cases congrArg Obj.data e⟩
  obtain ⟨o, at_, no_list⟩ := plain
  have mine := back _ (List.mem_singleton_self _) p2 o at_
  have N₂ : News h₀ env.locals h ((s.heap.objs.size, o) :: nx) := fun p hp => N₁ p (List.mem_append.mpr ((List.mem_cons.mp hp).imp (fun e => by rw [e]; exact mine) id))
  exact wpAny_mono (turn i t m₁ nx h tk _ o lt no_list (fun p hp e => apart p hp (List.mem_singleton.mpr e)) j F₁ N₂) (turn_ends (own_one at_ one said)) fun _ _ e => e
end
/-- a loop's turn: what stood goes on standing, off the loop's own object -/
theorem tabStep_offI {P I : Addr} {pos : Pos} {q : Str} {h₀ h : Heap} {L : Addr} {oI : Obj} {news all : List (Addr × Obj)} (N : News h₀ L h news) (off' : ∀ p ∈ news, p.1 ≠ I) (tb : TabOk P pos q news)
    (x : TabStep P pos q ((I, oI) :: news) all) : TabStep P pos q news (off I all) := by
  obtain ⟨oP, mP⟩ := tab_in tb
  have nP := off' _ mP
  have mem : ∀ {a : Addr} {o : Obj}, (a, o) ∈ (I, oI) :: news → a ≠ I → (a, o) ∈ news := fun {a o} hm h1 => by
    rcases List.mem_cons.mp hm with e | hm
    · exact absurd (congrArg Prod.fst e) h1
    · exact hm
  rcases x with x | ⟨c', oc, vs, t, h1, h2, h3, h4, h5, h6⟩
  · exact .inl (mem_off x nP)
  · rcases h6 with ⟨h6, h7⟩ | h6
    · have m6 := mem h6 nP
      rcases tb with y | ⟨d, od, us, u, k1, k2, k3, k4, k5⟩
      · have e1 := (N _ m6).1
        rw [(N _ y).1] at e1
        have e2 := congrArg Obj.data (Option.some.inj e1)
        cases e2
      · have e1 := (N _ m6).1
        rw [(N _ k1).1] at e1
        have e2 := congrArg Obj.data (Option.some.inj e1)
        simp only [Data.fields.injEq] at e2
        have e3 : d = c' := by
          have := congrArg (fun v : Array Value => v[2]?) e2
          simpa using this
        subst e3
        have nd := off' _ k2
        have m7 := mem h7 nd
        exact .inr ⟨d, oc, vs, t, mem_off h1 nP, mem_off h2 nd, h3, h4, h5, .inl ⟨m6, m7⟩⟩
    · have lI := h6 (I, oI) (List.mem_cons_self ..)
      exact .inr ⟨c', oc, vs, t, mem_off h1 nP, mem_off h2 (Nat.ne_of_gt lI), h3, h4, h5, .inr fun p hp => h6 p (List.mem_cons_of_mem _ hp)⟩
theorem grow_offI {I : Addr} {h₀ h : Heap} {L : Addr} {oI : Obj} {news all : List (Addr × Obj)} (N : News h₀ L h news) (off' : ∀ p ∈ news, p.1 ≠ I) (g : Grow ((I, oI) :: news) all) (tb : Tb news) : Grow news (off I all) :=
  ⟨fun p hp h1 h2 => mem_off (g.addr p (List.mem_cons_of_mem _ hp) h1 h2) (off' p hp), fun p hp hd => mem_off (g.keep p (List.mem_cons_of_mem _ hp) hd) (off' p hp),
    tabStep_offI N off' tb.1 g.t16, tabStep_offI N off' tb.2 g.t23, _, _, _, N⟩
theorem own_offI {I : Addr} {oI : Obj} {news all : List (Addr × Obj)} (off' : ∀ p ∈ news, p.1 ≠ I) (g : Grow ((I, oI) :: news) all) (tb : Tb news) : ∀ p ∈ (I, oI) :: off I all, p ∈ all := by
  obtain ⟨o1, m1⟩ := tab_in tb.1
  obtain ⟨o2, m2⟩ := tab_in tb.2
  intro p hp
  rcases List.mem_cons.mp hp with rfl | hp
  · exact g.addr _ (List.mem_cons_self ..) (Ne.symm (off' _ m1)) (Ne.symm (off' _ m2))
  · exact off_sub hp
/-- the end of a turn behind calls -/
theorem rg_end {h₀ : Heap} {L I : Addr} {oI : Obj} {J : (Str → Option Value) → List (Addr × Obj) → Prop} {s₁ : Shared} {h' : Heap} {tk : Nat} {m' : Str → Option Value} {news all : List (Addr × Obj)}
    (F : Fr h₀ L h' m') (N : News h₀ L h' all) (off' : ∀ p ∈ news, p.1 ≠ I) (g : Grow ((I, oI) :: news) all) (tb : Tb news) (r : Grow news (off I all) → J m' (off I all)) : TbEnd h₀ L J [(I, oI)] s₁ { s₁ with heap := h', toks := tk } :=
  have ⟨_, _, _, N'⟩ := g.src
  ⟨h', tk, m', all, off I all, rfl, F, N, fun _ hp => off_sub hp, fun p hp => own_offI off' g tb p (List.mem_cons.mpr (.inl (List.mem_singleton.mp hp))), fun p hp q hq e => off_ne q hq (by rw [← e, List.mem_singleton.mp hp]),
    r (grow_offI (news_sub N' fun _ hp => List.mem_cons_of_mem _ hp) off' g tb)⟩
end Mine
end
-- Pl5
section
open PySem PySem.W PyProof.Rows PySem.Calls PySem.Spec
namespace Mine
/-- what the first so many come to -/
def pre (ns : List Int) (k : Nat) : Int := (ns.take k).sum
theorem pre_zero (ns : List Int) : pre ns 0 = 0 := by simp [pre]
theorem pre_succ {ns : List Int} {k : Nat} (h : k < ns.length) : pre ns (k + 1) - pre ns k = ns.getD k 0 := by
  unfold pre
  rw [List.take_succ_eq_append_getElem h, List.sum_append]
  simp [h]
  omega
theorem seg_pre {ns : List Int} {p : Nat} (h : lowN p ≤ p) : seg ns p = pre ns p - pre ns (p - lowN p) := by
  unfold seg pre
  have e : p = (p - lowN p) + lowN p := by omega
  have h1 : ns.take p = ns.take (p - lowN p) ++ (ns.drop (p - lowN p)).take (lowN p) := by
    conv => lhs; rw [e]
    rw [List.take_add]
  rw [h1, List.sum_append]
  omega
theorem kept_len (ns : List Int) : (keptOf ns).length = ns.length + 1 := by simp [keptOf]
theorem kept_at {ns : List Int} (hl : ns.length ≤ 16) : ∀ k, 0 < k → k < (keptOf ns).length → (keptOf ns).getD k 0 = pre ns k - pre ns (k - lowN k) := fun k h0 hk => by
  rw [kept_len] at hk
  obtain ⟨_, _, h3, _⟩ := low_facts k (by omega) h0
  rw [← seg_pre h3]
  obtain ⟨j, rfl⟩ : ∃ j, k = j + 1 := ⟨k - 1, by omega⟩
  unfold keptOf
  rw [List.getD_cons_succ, List.getD_eq_getElem?_getD, List.getElem?_map, List.getElem?_range (by omega)]
  rfl
theorem lows_sum : ((List.range 16).map fun i => lowI (i + 1)).sum = 48 := by decide +kernel
end Mine
end
-- LwD
section
open PySem PySem.W PyProof.Rows PySem.Calls PySem.Spec
namespace Mine
def sScope : Stmt → Scope
  | .FunctionDef _ _ _ _ _ _ s _ _ _ => s
  | _ => default
def sDrop : Nat → List Stmt → List Stmt
  | 0, l => l
  | _ + 1, [] => []
  | n + 1, _ :: r => sDrop n r
def lawSt : Stmt := sNth PySem.Challenge.pw_hc0001_01.main.body 11
def lawBody : List Stmt := sBody lawSt
def lawScope : Scope := sScope lawSt
example : lawBody.length = 10 := rfl
/-- the law's frame, as far as its last statements read it -/
def mmD (u : Str → Option Value) (ls ln : Addr) : Str → Option Value := fun y => if y = "script" then some (.ref ls) else if y = "numbers" then some (.ref ln) else u y
theorem mmD_of {m : Str → Option Value} {ls ln : Addr} (h1 : m "script" = some (.ref ls)) (h2 : m "numbers" = some (.ref ln)) : mmD m ls ln = m := by
  funext y
  unfold mmD
  by_cases e1 : y = "script"
  · rw [if_pos e1, e1, h1]
  · rw [if_neg e1]
    by_cases e2 : y = "numbers"
    · rw [if_pos e2, e2, h2]
    · rw [if_neg e2]
def LWD (w : World) : Prop :=
  ∀ {ls ln lk : Addr} {vs ks : List Value} {ns : List Int} {en ek : Nat} {oc : Obj} {news : List (Addr × Obj)} {body : List Stmt} {sc : Scope}
   {dp un : Nat} {gd : Option (List Code)} {a : Addr} {ccd : Value} {outer : List Env} {A₀ : Around} {base h₀ : Heap} {L : Addr} {m : Str → Option Value}
   {s : Shared} {Q : Flow → Shared → Prop} {E : Value → Shared → Prop} {p : Program} {loose : List Str} {mean : ExcName → Option Value} {mg mb : Str → Option Value},
   body = sDrop 7 lawBody → sc = lawScope → ns.length ≤ 16 →
   Below A₀ base outer h₀ → Fr h₀ L s.heap m → (hd.heap_39 w.params).In h₀ → News h₀ L s.heap news → Top p loose mean mg mb h₀ →
   m "script" = some (.ref ls) → m "numbers" = some (.ref ln) → (ln, listOf vs.toArray en) ∈ news → IntsAre vs ns → (lk, listOf ks.toArray ek) ∈ news → IntsAre ks (keptOf ns) → (L + 1, oc) ∈ news → oc.data = .cell (some (.ref lk)) →
   Tb news → dp + 200 < recursionLimit → un + 2000 < cLine →
   PassesOwn (model PySem.Challenge.rw_hc0001_01.row.prog w) (ktrTop dp un gd "law" sc L a ccd [("kept", L + 1)] outer) (envX "law" sc L a ccd [("kept", L + 1)]) E →
   (∀ m' news' h' tk', Fr h₀ L h' m' → News h₀ L h' news' → Grow news news' → Q (.ret (.bool true)) { s with heap := h', toks := tk' }) →
    wpAny (model PySem.Challenge.rw_hc0001_01.row.prog w) (ktrTop dp un gd "law" sc L a ccd [("kept", L + 1)] outer) (execs body (envX "law" sc L a ccd [("kept", L + 1)])) Q E s

local macro_rules | `(tactic| k_mem) => `(tactic| assumption)
local macro_rules | `(tactic| k_all) => `(tactic| first | assumption | (refine ne_of_allLt (by assumption) ?_; omega))
local macro_rules | `(tactic| k_room) => `(tactic| ((try simp only [depth_under_make, depth_under_kw, depth_in1, depth_deeper, depth_caller, ktrTop]); omega))
local macro_rules | `(tactic| walk_at "call builtin:len") => `(tactic| (k_here; (refine my_len (by k_asm) (by k_dflt k_mem) (by assumption) ?_ ?_); (case refine_1 => omega)))
local macro_rules | `(tactic| walk_at "call ref") => `(tactic| (k_here; with_reducible refine Stop.mk ?_))
local macro_rules | `(tactic| walk_at "eval ListComp") => `(tactic| (k_here; k_dflt (refine LCg.ListComp_U (F₀ := by k_asm) (by with_unfolding_all rfl) (by decide) (by rfl) (by decide) (by rfl) ?_)))
local macro_rules | `(tactic| walk_at "exec Assign cons ListComp") => `(tactic| (k_here; k_dflt (refine LCg.Assign_ListComp_U (F₀ := by k_asm) (by rfl) (by with_unfolding_all rfl) (by with_unfolding_all rfl) (by decide) (by rfl) (by decide) (by rfl) (by rfl) (by rfl) ?_)))
local macro_rules | `(tactic| walk_at "CompEnd") => `(tactic| (k_here; with_reducible refine Stop.mk ?_))
local macro_rules | `(tactic| walk_at "CompSrc") => `(tactic| (k_here; with_reducible refine Stop.mk ?_))
local macro_rules | `(tactic| walk_at "compareOp Eq ref ref") => `(tactic| (k_here; with_reducible refine Stop.mk ?_))
theorem map_getD (ns : List Int) : ((List.range ns.length).map fun i => ns.getD i 0) = ns := by
  refine List.ext_getElem (by simp) fun i h1 h2 => ?_
  have h3 : i < ns.length := by simpa using h1
  simp [h3]
set_option maxRecDepth 100000 in
set_option maxHeartbeats 1000000 in
theorem lwd : ∀ (w : World), LWD w := by
  unfold LWD
  k_fill
  intro w ls ln lk vs ks ns en ek oc news body sc dp un gd a ccd outer A₀ base h₀ L m s Q E p loose mean mg mb
  intro hb hs hlen B F X N T e1 e2 mln hi' mlk hik mc dc htb hd hu hE hret
  conv at hb => rhs; whnf
  conv at hs => rhs; whnf
  subst hb hs
  rw [← mmD_of e1 e2] at F
  unfold mmD at F
  clear e1 e2
  have gN : Grow news news := Grow.of N htb fun p hp => hp
  k_steps
  refine Stop.go ?_
  refine' LCg.CompSrc.range (n := 16) ?zhh ?zF ?zN ?zr ?zsm ?zsz (by rw [sizeLine_eq]; omega) ?_
  (case zhh => rfl); (case zF => assumption); (case zN => assumption); (case zr => assumption); (case zsm => exact small_one (by decide) (by decide) (by decide) (by decide))
  (case zsz => rw [rangeSize_nat]; rfl)
  intro g
  refine' comp_ind (fun i ys nw => IntsAre ys ((List.range i).map fun i => lowI (i + 1)) ∧ Grow news nw) ⟨.nil, gN⟩ ?zturn ?zfin
  · rintro i ys news₁ v I oI C oC D m₂ h tk E' hi ⟨hy, gr⟩ ⟨tv, rfl⟩ hC hx F₁ N₁ hoff hne
    have hN₁ : ∃ h, News h₀ L h news₁ := ⟨_, news_sub N₁ fun p hp => List.mem_cons_of_mem _ (List.mem_cons_of_mem _ (List.mem_cons_of_mem _ hp))⟩
    have tb := gr.tb
    k_steps
    refine Stop.go ?_
    refine' lowc w (i + 1) ?zx ?zk ?zB ?zF ?zX ?zN ?zT rfl (tb.of ?zt) ?zd ?zu ?_
    (case zB => assumption); (case zF => assumption); (case zX => assumption); (case zN => assumption); (case zT => assumption)
    (case zt => exact fun p hp => (by k_mem))
    (case zx => omega); (case zk => omega)
    (case zd => omega); (case zu => omega)
    intro t6 news2 h3 tk3 F3 N3 g3
    k_steps
    refine Stop.go (comp_end (by assumption) (by assumption) hoff tb g3 (fun gr' => ⟨?_, gr.trans gr'⟩) hN₁)
    rw [List.range_succ, List.map_append]
    exact hy.append (.cons _ _ .nil)
  · rintro ys nw ⟨hy, gr⟩
    unfold LCg.FinE
    intro D h tk F₁ N₁ o1
    have hsum : ((List.range 16).map fun i => lowI (i + 1)).sum = 48 := lows_sum
    have mln₁ := keep_list gr mln
    have mlk₁ := keep_list gr mlk
    obtain ⟨oc₁, mc₁, dc₁⟩ := keep_cell gr mc dc
    (try dsimp only)
    k_steps
    refine Stop.go ?_
    refine' LCg.CompSrc.range (n := ns.length) ?yhh ?yF ?yN ?yr ?ysm ?ysz (by rw [sizeLine_eq]; omega) ?_
    (case yhh => rfl); (case yF => assumption); (case yN => assumption); (case yr => assumption); (case ysm => exact small_one (by decide) (by decide) (by omega) (by omega))
    (case ysz => rw [rangeSize_nat]; omega)
    intro g
    refine' comp_ind (fun i ys nw => IntsAre ys ((List.range i).map fun i => ns.getD i 0) ∧ Grow news nw) ⟨.nil, gr.more fun p hp => (by k_mem)⟩ ?yturn ?yfin
    · rintro i ys news₁ v I oI C oC D m₂ h tk E' hi ⟨hy, gr⟩ ⟨tv, rfl⟩ hC hx F₁ N₁ hoff hne
      have hN₁ : ∃ h, News h₀ L h news₁ := ⟨_, news_sub N₁ fun p hp => List.mem_cons_of_mem _ (List.mem_cons_of_mem _ (List.mem_cons_of_mem _ hp))⟩
      have tb := gr.tb
      have mlk₂ := keep_list gr mlk
      obtain ⟨oc₂, mc₂, dc₂⟩ := keep_cell gr mc dc
      have hkl := kept_len ns
      k_steps
      refine Stop.go ?_
      refine' fst_ w (i + 1) (pre ns) ?zx ?zn ?zl (kept_at hlen) (pre_zero ns) ?zB ?zF ?zX ?zN ?zT rfl (tb.of ?zt) ?zm (show IntsAre ks (keptOf ns) by assumption) ?zd ?zu ?_
      (case zB => assumption); (case zF => assumption); (case zX => assumption); (case zN => assumption); (case zT => assumption)
      (case zt => exact fun p hp => (by k_mem)); (case zm => k_mem)
      (case zx => omega); (case zn => omega); (case zl => omega)
      (case zd => omega); (case zu => omega)
      intro R1 t61 t71 news2 h3 tk3 F3 N3 g3
      have mlk₃ := keep_list g3 (c := lk) (by k_mem)
      obtain ⟨oc₃, mc₃, dc₃⟩ := keep_cell g3 (c := L + 1) (by k_mem) dc₂
      have mC₃ := own_rest3 hoff tb g3 _ (List.mem_cons_of_mem _ (List.mem_cons_self ..))
      k_steps
      refine Stop.go ?_
      refine' fst_ w i (pre ns) ?wx ?wn ?wl (kept_at hlen) (pre_zero ns) ?wB ?wF ?wX ?wN ?wT rfl (g3.tb.of ?wt) ?wm (show IntsAre ks (keptOf ns) by assumption) ?wd ?wu ?_
      (case wB => assumption); (case wF => assumption); (case wX => assumption); (case wN => assumption); (case wT => assumption)
      (case wt => exact fun p hp => (by k_mem)); (case wm => k_mem)
      (case wx => omega); (case wn => omega); (case wl => omega)
      (case wd => omega); (case wu => omega)
      intro R2 t62 t72 news4 h5 tk5 F5 N5 g5
      have g5' := (g3.more (c := (R1, tupOf [Value.int (pre ns (i + 1)) t61, Value.int (bits (i + 1)) t71]) :: news2) fun p hp => (by k_mem)).trans g5
      k_steps
      refine Stop.go (comp_end (by assumption) (by assumption) hoff tb (g5'.more fun p hp => (by k_mem)) (fun gr' => ⟨?_, gr.trans gr'⟩) hN₁)
      rw [pre_succ hi, List.range_succ, List.map_append]
      exact hy.append (.cons _ _ .nil)
    · rintro ys nw ⟨hy, gr⟩
      unfold LCg.FinA
      intro D h tk F₁ N₁ o1
      have mln₁ := keep_list gr mln
      (try dsimp only)
      k_steps
      refine Stop.go ?_
      refine' ke_eq_ints (xs := ys) (ys := vs) ?va ?vb hy hi' ?vu ?_
      (case va => exact News.isList (by k_asm) (by k_mem)); (case vb => exact News.isList (by k_asm) (by k_mem))
      (case vu => (dsimp only [ktrTop]; omega))
      rw [map_getD, decide_eq_true rfl]
      exact hret _ _ _ _ (by assumption) (by assumption) (gr.more fun p hp => (by k_mem))
end Mine
end
-- Lw3
section
open PySem PySem.W PyProof.Rows PySem.Calls PySem.Spec
namespace Mine
def LW3 (w : World) : Prop :=
  ∀ {ls ln lk : Addr} {vs ks : List Value} {ns : List Int} {en ek : Nat} {oc : Obj} {news : List (Addr × Obj)} {st : Stmt} {sc : Scope}
   {dp un : Nat} {gd : Option (List Code)} {a : Addr} {ccd : Value} {outer : List Env} {A₀ : Around} {base h₀ : Heap} {L : Addr} {m : Str → Option Value}
   {s : Shared} {Q : Flow → Shared → Prop} {E : Value → Shared → Prop} {p : Program} {loose : List Str} {mean : ExcName → Option Value} {mg mb : Str → Option Value},
   st = sNth lawBody 2 → sc = lawScope → ns.length ≤ 16 →
   Below A₀ base outer h₀ → Fr h₀ L s.heap m → (hd.heap_39 w.params).In h₀ → News h₀ L s.heap news → Top p loose mean mg mb h₀ →
   m "script" = some (.ref ls) → m "numbers" = some (.ref ln) → (ln, listOf vs.toArray en) ∈ news → IntsAre vs ns → (lk, listOf ks.toArray ek) ∈ news → IntsAre ks (keptOf ns) → (L + 1, oc) ∈ news → oc.data = .cell (some (.ref lk)) →
   Tb news → dp + 200 < recursionLimit → un + 2000 < cLine →
   PassesOwn (model PySem.Challenge.rw_hc0001_01.row.prog w) (ktrTop dp un gd "law" sc L a ccd [("kept", L + 1)] outer) (envX "law" sc L a ccd [("kept", L + 1)]) E →
   (∀ m' news' h' tk', Fr h₀ L h' m' → m' "script" = some (.ref ls) → m' "numbers" = some (.ref ln) → News h₀ L h' news' → Grow news news' → Q .next { s with heap := h', toks := tk' }) →
    wpAny (model PySem.Challenge.rw_hc0001_01.row.prog w) (ktrTop dp un gd "law" sc L a ccd [("kept", L + 1)] outer) (exec st (envX "law" sc L a ccd [("kept", L + 1)])) Q E s

theorem ne_pair {prog : Program} {w : World} {A : Around} {E : Value → Shared → Prop} {s : Shared} {Q : Value → Shared → Prop} {h₀ : Heap} {L R D : Addr} {news : List (Addr × Obj)} {a b a' b' : Int} {t1 t2 t3 t4 : Tok} {o1 o2 : Obj}
    (N : News h₀ L s.heap news) (m1 : (R, o1) ∈ news) (m2 : (D, o2) ∈ news) (d1 : o1 = tupOf [.int a t1, .int b t2]) (d2 : o2 = tupOf [.int a' t3, .int b' t4]) (ha : a = a') (hb : b = b') (hu : A.units + 64 < cLine) (h : Q (.bool false) s) :
    wpAny (model prog w) A (compareOp .NotEq (.ref R) (.ref D)) Q E s := by
  subst ha hb d1 d2
  refine ne_dataH (reads_tuple_at (News.get N m1) rfl rfl (.cons (.int _ _) (.cons (.int _ _) .nil))) (reads_tuple_at (News.get N m2) rfl rfl (.cons (.int _ _) (.cons (.int _ _) .nil))) rfl rfl hu ?_
  simpa [PyData.eqv, PyData.eqvAll] using h
local macro_rules | `(tactic| k_mem) => `(tactic| assumption)
local macro_rules | `(tactic| k_all) => `(tactic| first | assumption | (refine ne_of_allLt (by assumption) ?_; omega))
local macro_rules | `(tactic| k_room) => `(tactic| ((try simp only [depth_under_make, depth_under_kw, depth_in1, depth_deeper, depth_caller, ktrTop]); omega))
local macro_rules | `(tactic| walk_at "call builtin:len") => `(tactic| (k_here; (refine my_len (by k_asm) (by k_dflt k_mem) (by assumption) ?_ ?_); (case refine_1 => omega)))
local macro_rules | `(tactic| walk_at "call ref") => `(tactic| (k_here; with_reducible refine Stop.mk ?_))
local macro_rules | `(tactic| walk_at "eval ListComp") => `(tactic| (k_here; k_dflt (refine LCg.ListComp_U (F₀ := by k_asm) (by with_unfolding_all rfl) (by decide) (by rfl) (by decide) (by rfl) ?_)))
local macro_rules | `(tactic| walk_at "exec Assign cons ListComp") => `(tactic| (k_here; k_dflt (refine LCg.Assign_ListComp_U (F₀ := by k_asm) (by rfl) (by with_unfolding_all rfl) (by with_unfolding_all rfl) (by decide) (by rfl) (by decide) (by rfl) (by rfl) (by rfl) ?_)))
local macro_rules | `(tactic| walk_at "CompEnd") => `(tactic| (k_here; with_reducible refine Stop.mk ?_))
local macro_rules | `(tactic| walk_at "CompSrc") => `(tactic| (k_here; with_reducible refine Stop.mk ?_))
local macro_rules | `(tactic| walk_at "compareOp Eq ref ref") => `(tactic| (k_here; with_reducible refine Stop.mk ?_))
local macro_rules | `(tactic| walk_at "subscriptTail Name Slice ref ref") => `(tactic| (k_here; k_dflt (refine' kmk_slice_ints ?F ?N ?l ?p ?q ?i ?m rfl ?_ ?s ?t ?z; (case F => k_asm); (case N => k_asm); (case l => kmk_list); (case p => kmk_part); (case q => kmk_part); (case i => assumption); (case m => first | exact kmk_upto (by assumption) (by omega) | exact kmk_from (by assumption) (by omega) | exact kmk_run (by assumption) (by omega) (by omega)); (case s => with_unfolding_all rfl); (case t => kmk_pure); (case z => (refine kmk_sz (by assumption) ?_; rw [sizeLine_eq]; omega))); intro D' ws' h' F' N' l1 hI' hC' hL'; (try k_lt l1); (try k_sweep)))
local macro_rules | `(tactic| walk_at "compareOp NotEq ref ref") => `(tactic| (k_here; with_reducible refine Stop.mk ?_))
local macro_rules | `(tactic| walk_at "pyIter ref") => `(tactic| (k_here; with_reducible refine Stop.mk ?_))
local macro_rules | `(tactic| walk_at "exec For") => `(tactic| (k_here; (rename Fr _ _ _ _ => lF'); k_dflt (refine' For_invVF lF' ?zk1 ?zk2 ?_ ?zs ?zE; (case zk1 => rfl); (case zk2 => rfl); (case zs => exact fun _ => rfl); (case zE => assumption))))
set_option maxRecDepth 100000 in
set_option maxHeartbeats 1000000 in
theorem lw3 : ∀ (w : World), LW3 w := by
  unfold LW3
  k_fill
  intro w ls ln lk vs ks ns en ek oc news st sc dp un gd a ccd outer A₀ base h₀ L m s Q E p loose mean mg mb
  intro hb hs hlen B F X N T e1 e2 mln hi' mlk hik mc dc htb hd hu hE hret
  conv at hb => rhs; whnf
  conv at hs => rhs; whnf
  subst hb hs
  rw [← mmD_of e1 e2] at F
  unfold mmD at F
  clear e1 e2
  have gN : Grow news news := Grow.of N htb fun p hp => hp
  k_steps
  refine Stop.go ?_
  refine' iter_rangeG (n := ns.length + 1) (fun _ m' nw => m' "script" = some (.ref ls) ∧ m' "numbers" = some (.ref ln) ∧ Grow news nw) ?yhh ?yr ?ysm ?ysz ?yF ?yN ?yJ ?yturn ?ydone
  (case yF => assumption); (case yJ => exact ⟨rfl, rfl, gN⟩); (case yhh => rfl); (case yN => assumption); (case yr => assumption); (case ysm => exact small_one (by decide) (by decide) (by omega) (by omega))
  (case ysz => rw [show ((ns.length : Int) + 1) = ((ns.length + 1 : Nat) : Int) from by omega, rangeSize_nat]; omega)
  · rintro i t m₁ news₁ h tk I oI hi - hoff ⟨e1, e2, gr⟩ F₁ N₁
    have hN₁ : ∃ h, News h₀ L h news₁ := ⟨_, news_sub N₁ fun p hp => List.mem_cons_of_mem _ hp⟩
    have tb := gr.tb
    have mlk₂ := keep_list gr mlk
    have mln₂ := keep_list gr mln
    obtain ⟨oc₂, mc₂, dc₂⟩ := keep_cell gr mc dc
    rw [← mmD_of e1 e2] at F₁
    unfold mmD at F₁
    clear e1 e2
    have hkl := kept_len ns
    k_steps
    refine Stop.go ?_
    refine' fst_ w i (pre ns) ?zx ?zn ?zl (kept_at hlen) (pre_zero ns) ?zB ?zF ?zX ?zN ?zT rfl (tb.of ?zt) ?zm (show IntsAre ks (keptOf ns) by assumption) ?zd ?zu ?_
    (case zB => assumption); (case zF => assumption); (case zX => assumption); (case zN => assumption); (case zT => assumption)
    (case zt => exact fun p hp => (by k_mem)); (case zm => k_mem)
    (case zx => omega); (case zn => omega); (case zl => omega)
    (case zd => omega); (case zu => omega)
    intro R1 t61 t71 news2 h3 tk3 F3 N3 g3
    have mln₃ := keep_list g3 (c := ln) (by k_mem)
    k_steps
    refine Stop.go ?_
    refine' i2d w i ?wx ?wn ?wB ?wF ?wX ?wN ?wT rfl (g3.tb.of ?wt) ?wd ?wu ?_
    (case wB => assumption); (case wF => assumption); (case wX => assumption); (case wN => assumption); (case wT => assumption)
    (case wt => exact fun p hp => (by k_mem))
    (case wx => omega); (case wn => omega)
    (case wd => omega); (case wu => omega)
    intro D5 vs5 news4 h5 tk5 F5 N5 hi5 g5
    have mR := g5.keep (R1, tupOf [Value.int (pre ns i) t61, Value.int (bits i) t71]) (by k_mem) (by rintro vs e; cases e)
    have g5' := (g3.more fun p hp => (by k_mem)).trans g5
    k_steps
    refine Stop.go ?_
    have e0 : (0 + (i : Int)).toNat = i := by omega
    refine' ne_pair ?vN ?v1 ?v2 rfl rfl ?va ?vb ?vu ?_
    (case vN => assumption); (case v1 => k_mem); (case v2 => k_mem); (case va => rw [e0]; rfl); (case vb => rfl); (case vu => (dsimp only [ktrTop]; omega))
    k_steps
    exact rg_end (by assumption) (by assumption) hoff (g5'.more fun p hp => (by k_mem)) tb fun gr' => ⟨rfl, rfl, gr.trans gr'⟩
  · rintro m₁ news₁ h tk ⟨e1, e2, gr⟩ F₁ N₁
    exact hret _ _ _ _ F₁ e1 e2 N₁ gr
end Mine
end
-- Pl6
section
open PySem PySem.W PyProof.Rows PySem.Calls PySem.Spec
namespace Mine
/-- what place q tells once the first i are told -/
def fill (ns : List Int) (i q : Nat) : Int := pre ns (min i q) - pre ns (min i (q - lowN q))
theorem fill_zero (ns : List Int) (q : Nat) : fill ns 0 q = 0 := by simp [fill, pre_zero]
theorem fill_succ {ns : List Int} {i : Nat} (h : i < ns.length) (q : Nat) : fill ns (i + 1) q = fill ns i q + (if cov q (i + 1) = true then ns.getD i 0 else 0) := by
  have hp := pre_succ h
  unfold fill cov
  simp only [decide_eq_true_eq]
  by_cases h1 : q ≤ i
  · rw [if_neg (by omega), show min (i + 1) q = min i q from by omega, show min (i + 1) (q - lowN q) = min i (q - lowN q) from by omega]
    omega
  · rw [show min (i + 1) q = i + 1 from by omega, show min i q = i from by omega]
    by_cases h2 : q - lowN q ≤ i
    · rw [if_pos (by omega), show min (i + 1) (q - lowN q) = min i (q - lowN q) from by omega]
      omega
    · rw [if_neg (by omega), show min (i + 1) (q - lowN q) = i + 1 from by omega, show min i (q - lowN q) = i from by omega]
      omega
theorem ext_getD {a b : List Int} (hl : a.length = b.length) (h : ∀ q, q < b.length → a.getD q 0 = b.getD q 0) : a = b := by
  refine List.ext_getElem hl fun i h1 h2 => ?_
  have := h i h2
  simpa [h1, h2] using this
theorem fill_end {ns gs : List Int} (hl : ns.length ≤ 16) (hg : gs.length = ns.length + 1) (h : ∀ q, q < ns.length + 1 → gs.getD q 0 = fill ns ns.length q) : gs = keptOf ns := by
  refine ext_getD (by rw [hg, kept_len]) fun q hq => ?_
  have hk := kept_len ns
  rw [h q (by omega)]
  by_cases h0 : q = 0
  · subst h0
    simp [fill, keptOf]
  · rw [kept_at hl q (by omega) hq]
    unfold fill
    rw [show min ns.length q = q from by omega, show min ns.length (q - lowN q) = q - lowN q from by omega]
end Mine
end
-- Lw5
section
open PySem PySem.W PyProof.Rows PySem.Calls PySem.Spec
namespace Mine
def LW5 (w : World) : Prop :=
  ∀ {ls ln lk : Addr} {vs ks : List Value} {ns : List Int} {en ek : Nat} {oc : Obj} {news : List (Addr × Obj)} {x3 x4 x5 : Stmt} (rest : List Stmt) {sc : Scope}
   {dp un : Nat} {gd : Option (List Code)} {a : Addr} {ccd : Value} {outer : List Env} {A₀ : Around} {base h₀ : Heap} {L : Addr} {m : Str → Option Value}
   {s : Shared} {Q : Flow → Shared → Prop} {E : Value → Shared → Prop} {p : Program} {loose : List Str} {mean : ExcName → Option Value} {mg mb : Str → Option Value},
   x3 = sNth lawBody 3 → x4 = sNth lawBody 4 → x5 = sNth lawBody 5 → sc = lawScope → ns.length ≤ 16 →
   Below A₀ base outer h₀ → Fr h₀ L s.heap m → (hd.heap_39 w.params).In h₀ → News h₀ L s.heap news → Top p loose mean mg mb h₀ →
   m "script" = some (.ref ls) → m "numbers" = some (.ref ln) → (ln, listOf vs.toArray en) ∈ news → IntsAre vs ns → (lk, listOf ks.toArray ek) ∈ news → IntsAre ks (keptOf ns) → (L + 1, oc) ∈ news → oc.data = .cell (some (.ref lk)) →
   Tb news → dp + 200 < recursionLimit → un + 2000 < cLine →
   PassesOwn (model PySem.Challenge.rw_hc0001_01.row.prog w) (ktrTop dp un gd "law" sc L a ccd [("kept", L + 1)] outer) (envX "law" sc L a ccd [("kept", L + 1)]) E →
   (∀ m' news' h' tk', Fr h₀ L h' m' → m' "script" = some (.ref ls) → m' "numbers" = some (.ref ln) → News h₀ L h' news' → Grow news news' → wpAny (model PySem.Challenge.rw_hc0001_01.row.prog w) (ktrTop dp un gd "law" sc L a ccd [("kept", L + 1)] outer) (execs rest (envX "law" sc L a ccd [("kept", L + 1)])) Q E { s with heap := h', toks := tk' }) →
    wpAny (model PySem.Challenge.rw_hc0001_01.row.prog w) (ktrTop dp un gd "law" sc L a ccd [("kept", L + 1)] outer) (execs (x3 :: x4 :: x5 :: rest) (envX "law" sc L a ccd [("kept", L + 1)])) Q E s

def mmE (u : Str → Option Value) (ls ln D : Addr) : Str → Option Value := fun y => if y = "script" then some (.ref ls) else if y = "numbers" then some (.ref ln) else if y = "made" then some (.ref D) else u y
theorem mmE_of {m : Str → Option Value} {ls ln D : Addr} (h1 : m "script" = some (.ref ls)) (h2 : m "numbers" = some (.ref ln)) (h3 : m "made" = some (.ref D)) : mmE m ls ln D = m := by
  funext y
  unfold mmE
  by_cases e1 : y = "script"
  · rw [if_pos e1, e1, h1]
  · rw [if_neg e1]
    by_cases e2 : y = "numbers"
    · rw [if_pos e2, e2, h2]
    · rw [if_neg e2]
      by_cases e3 : y = "made"
      · rw [if_pos e3, e3, h3]
      · rw [if_neg e3]
theorem rep_getD (k q : Nat) : (List.replicate k (0 : Int)).getD q 0 = 0 := by
  rw [List.getD_eq_getElem?_getD, List.getElem?_replicate]
  split <;> rfl
theorem flat0 (k : Nat) : (List.replicate k [(0 : Int)]).flatten = List.replicate k 0 := by simp
local macro_rules | `(tactic| k_mem) => `(tactic| assumption)
local macro_rules | `(tactic| k_all) => `(tactic| first | assumption | (refine ne_of_allLt (by assumption) ?_; omega))
local macro_rules | `(tactic| k_room) => `(tactic| ((try simp only [depth_under_make, depth_under_kw, depth_in1, depth_deeper, depth_caller, ktrTop]); omega))
local macro_rules | `(tactic| walk_at "call builtin:len") => `(tactic| (k_here; (refine my_len (by k_asm) (by k_dflt k_mem) (by assumption) ?_ ?_); (case refine_1 => omega)))
local macro_rules | `(tactic| walk_at "call ref") => `(tactic| (k_here; with_reducible refine Stop.mk ?_))
local macro_rules | `(tactic| walk_at "eval ListComp") => `(tactic| (k_here; k_dflt (refine LCg.ListComp_U (F₀ := by k_asm) (by with_unfolding_all rfl) (by decide) (by rfl) (by decide) (by rfl) ?_)))
local macro_rules | `(tactic| walk_at "exec Assign cons ListComp") => `(tactic| (k_here; k_dflt (refine LCg.Assign_ListComp_U (F₀ := by k_asm) (by rfl) (by with_unfolding_all rfl) (by with_unfolding_all rfl) (by decide) (by rfl) (by decide) (by rfl) (by rfl) (by rfl) ?_)))
local macro_rules | `(tactic| walk_at "CompEnd") => `(tactic| (k_here; with_reducible refine Stop.mk ?_))
local macro_rules | `(tactic| walk_at "CompSrc") => `(tactic| (k_here; with_reducible refine Stop.mk ?_))
local macro_rules | `(tactic| walk_at "compareOp Eq ref ref") => `(tactic| (k_here; with_reducible refine Stop.mk ?_))
local macro_rules | `(tactic| walk_at "subscriptTail Name Slice ref ref") => `(tactic| (k_here; k_dflt (refine' kmk_slice_ints ?F ?N ?l ?p ?q ?i ?m rfl ?_ ?s ?t ?z; (case F => k_asm); (case N => k_asm); (case l => kmk_list); (case p => kmk_part); (case q => kmk_part); (case i => assumption); (case m => first | exact kmk_upto (by assumption) (by omega) | exact kmk_from (by assumption) (by omega) | exact kmk_run (by assumption) (by omega) (by omega)); (case s => with_unfolding_all rfl); (case t => kmk_pure); (case z => (refine kmk_sz (by assumption) ?_; rw [sizeLine_eq]; omega))); intro D' ws' h' F' N' l1 hI' hC' hL'; (try k_lt l1); (try k_sweep)))
local macro_rules | `(tactic| walk_at "compareOp NotEq ref ref") => `(tactic| (k_here; with_reducible refine Stop.mk ?_))
local macro_rules | `(tactic| walk_at "pyIter ref") => `(tactic| (k_here; with_reducible refine Stop.mk ?_))
local macro_rules | `(tactic| walk_at "exec For") => `(tactic| (k_here; (rename Fr _ _ _ _ => lF'); k_dflt (refine' For_invVF lF' ?zk1 ?zk2 ?_ ?zs ?zE; (case zk1 => rfl); (case zk2 => rfl); (case zs => exact fun _ => rfl); (case zE => assumption))))
local macro_rules | `(tactic| walk_at "binaryOp Mult ref int") => `(tactic| (k_here; (refine zeros_mul (by assumption) (by assumption) (by k_mem) ?_ (by assumption) ?_); (case refine_1 => (show Int.fdiv _ _ = _; rw [Int.fdiv_one]; simp; rfl)); intro D' h' F' N' l' i'; (k_lt l')))
set_option maxRecDepth 100000 in
set_option maxHeartbeats 1000000 in
theorem lw5 : ∀ (w : World), LW5 w := by
  unfold LW5
  k_fill
  intro w ls ln lk vs ks ns en ek oc news x3 x4 x5 rest sc dp un gd a ccd outer A₀ base h₀ L m s Q E p loose mean mg mb
  intro hb3 hb4 hb5 hs hlen B F X N T e1 e2 mln hi' mlk hik mc dc htb hd hu hE hret
  conv at hb3 => rhs; whnf
  conv at hb4 => rhs; whnf
  conv at hb5 => rhs; whnf
  conv at hs => rhs; whnf
  subst hb3 hb4 hb5 hs
  rw [← mmD_of e1 e2] at F
  unfold mmD at F
  clear e1 e2
  have gN : Grow news news := Grow.of N htb fun p hp => hp
  have hkl := kept_len ns
  k_steps
  refine Stop.go ?_
  refine' iter_rangeG (n := ns.length) (fun i m' nw => m' "script" = some (.ref ls) ∧ m' "numbers" = some (.ref ln) ∧ Grow news nw ∧ ∃ D rs gs c, m' "made" = some (.ref D) ∧ (D, listOf (List.toArray rs) c) ∈ nw ∧ IntsAre rs gs ∧ gs.length = ns.length + 1 ∧ ∀ q, q < ns.length + 1 → gs.getD q 0 = fill ns i q) ?yhh ?yr ?ysm ?ysz ?yF ?yN ?yJ ?yturn ?ydone
  (case yF => assumption)
  (case yN => assumption)
  case yJ =>
    refine ⟨rfl, rfl, gN.more fun p hp => (by k_mem), _, _, _, _, rfl, List.mem_cons_self .., by assumption, ?_, fun q hq => ?_⟩
    · rw [flat0, List.length_replicate]; omega
    · rw [flat0, fill_zero, rep_getD]
  (case yhh => rfl); (case yr => assumption); (case ysm => exact small_one (by decide) (by decide) (by omega) (by omega))
  (case ysz => rw [rangeSize_nat]; omega)
  · rintro i t m₁ news₁ h tk I oI hi hol hoff ⟨e1, e2, gr, D, rs, gs, c, e3, mD, hg, hgl, hfill⟩ F₁ N₁
    have hN₁ : ∃ h, News h₀ L h news₁ := ⟨_, news_sub N₁ fun p hp => List.mem_cons_of_mem _ hp⟩
    have tb := gr.tb
    have mln₂ := keep_list gr mln
    rw [← mmE_of e1 e2 e3] at F₁
    unfold mmE at F₁
    clear e1 e2 e3
    k_steps
    refine Stop.go ?_
    refine' grt w (i + 1) ?zx ?zo ?zn ?zl ?zB ?zF ?zX ?zN ?zT rfl (tb.of ?zt) ?zm hg ?zd ?zu ?_
    (case zB => assumption); (case zF => assumption); (case zX => assumption); (case zN => assumption); (case zT => assumption)
    (case zt => exact fun p hp => (by k_mem)); (case zm => k_mem)
    (case zx => omega); (case zo => omega); (case zn => omega); (case zl => omega)
    (case zd => omega); (case zu => omega)
    intro R2 D2 rs2 fs2 er2 t72 news4 h5 tk5 F5 N5 hf2 hfl2 hq2 g5
    have mln₃ := keep_list g5 (c := ln) (by k_mem)
    have mDn : D2 ≠ I := news_ne N5 (List.mem_cons_of_mem _ (List.mem_cons_self ..)) (List.mem_cons_of_mem _ (List.mem_cons_of_mem _ (own_offI hoff g5 tb _ (List.mem_cons_self ..)))) fun e => hol _ _ e.symm
    k_steps
    refine Stop.go ?_
    refine' i2d w ns.length ?wx ?wn ?wB ?wF ?wX ?wN ?wT rfl (g5.tb.of ?wt) ?wd ?wu ?_
    (case wB => assumption); (case wF => assumption); (case wX => assumption); (case wN => assumption); (case wT => assumption)
    (case wt => exact fun p hp => (by k_mem))
    (case wx => omega); (case wn => omega)
    (case wd => omega); (case wu => omega)
    intro D5 vs5 news6 h7 tk7 F7 N7 hi7 g7
    have mR := g7.keep (R2, tupOf [Value.ref D2, Value.int (steps gs.length (i + 1) : Nat) t72]) (by k_mem) (by rintro vs e; cases e)
    have mD2 := keep_list g7 (c := D2) (by k_mem)
    have g7' := (g5.more fun p hp => (by k_mem)).trans g7
    have hdl := digs_len (nb ns.length) ns.length
    have hnb : nb ns.length ≤ 5 := nb_le (by omega)
    have hst : steps gs.length (i + 1) ≤ nb ns.length := by rw [hgl]; exact steps_le hlen (by omega) (by omega)
    k_steps
    · refine rg_end (by assumption) (by assumption) hoff (g7'.more fun p hp => (by k_mem)) tb fun gr' => ⟨rfl, rfl, gr.trans gr', D2, rs2, fs2, er2, rfl, mem_off (by k_mem) mDn, hf2, hfl2.trans hgl, fun q hq => ?_⟩
      rw [hq2 q (by omega), hfill q hq, show (1 + (i : Int) - 1).toNat = i from by omega, fill_succ hi]
  · rintro m₁ news₁ h tk ⟨e1, e2, gr, D, rs, gs, c, e3, mD, hg, hgl, hfill⟩ F₁ N₁
    have hgk := fill_end hlen hgl hfill
    subst hgk
    rw [← mmE_of e1 e2 e3] at F₁
    unfold mmE at F₁
    clear e1 e2 e3
    have mlk₂ := keep_list gr mlk
    obtain ⟨oc₂, mc₂, dc₂⟩ := keep_cell gr mc dc
    k_steps
    refine Stop.go ?_
    refine' ke_ne_ints ?va ?vb hg hik ?vu ?_
    (case va => exact News.isList (by k_asm) (by k_mem)); (case vb => exact News.isList (by k_asm) (by k_mem))
    (case vu => (dsimp only [ktrTop]; omega))
    rw [decide_eq_true rfl, Bool.not_true]
    k_steps
    exact hret _ _ _ _ (by assumption) rfl rfl (by assumption) gr
end Mine
end
-- Pl7
section
open PySem PySem.W PyProof.Rows PySem.Calls PySem.Spec
namespace Mine
/-- the numbers with the one at place p (from one) greater by y -/
def more (ns : List Int) (p : Nat) (y : Int) : List Int := ns.take (p - 1) ++ [ns.getD (p - 1) 0 + y] ++ ns.drop p
theorem more_len {ns : List Int} {p : Nat} {y : Int} (h0 : 0 < p) (hp : p ≤ ns.length) : (more ns p y).length = ns.length := by
  unfold more
  simp
  omega
theorem more_set {ns : List Int} {p : Nat} {y : Int} (h0 : 0 < p) (hp : p ≤ ns.length) : more ns p y = ns.set (p - 1) (ns.getD (p - 1) 0 + y) := by
  unfold more
  rw [List.set_eq_take_append_cons_drop, if_pos (by omega), show p - 1 + 1 = p from by omega]
  simp
theorem pre_set {y : Int} : ∀ (ns : List Int) (j k : Nat), j < ns.length → pre (ns.set j (ns.getD j 0 + y)) k = pre ns k + (if j < k then y else 0)
  | [], _, _, h => absurd h (Nat.not_lt_zero _)
  | a :: r, 0, 0, _ => by simp [pre]
  | a :: r, 0, k + 1, _ => by simp [pre]; omega
  | a :: r, j + 1, 0, _ => by simp [pre]
  | a :: r, j + 1, k + 1, h => by
    have := pre_set (y := y) r j k (by simpa using h)
    simp only [pre, List.set_cons_succ, List.take_succ_cons, List.sum_cons, List.getD_cons_succ] at this ⊢
    rw [this]
    by_cases h1 : j < k
    · rw [if_pos h1, if_pos (by omega)]; omega
    · rw [if_neg h1, if_neg (by omega)]; omega
theorem kept_more {ns fs : List Int} {p : Nat} {y : Int} (hl : ns.length ≤ 16) (h0 : 0 < p) (hp : p ≤ ns.length) (hf : fs.length = (keptOf ns).length)
    (h : ∀ q, q < (keptOf ns).length → fs.getD q 0 = (keptOf ns).getD q 0 + (if cov q p = true then y else 0)) : fs = keptOf (more ns p y) := by
  have hm := more_len (y := y) h0 hp
  refine ext_getD (by rw [hf, kept_len, kept_len, hm]) fun q hq => ?_
  rw [kept_len, hm] at hq
  rw [h q (by rw [kept_len]; exact hq)]
  by_cases hq0 : q = 0
  · subst hq0
    have : cov 0 p = false := by
      unfold cov
      exact decide_eq_false (by omega)
    rw [this]
    simp [keptOf]
  · rw [kept_at hl q (by omega) (by rw [kept_len]; exact hq), kept_at (by omega) q (by omega) (by rw [kept_len, hm]; exact hq), more_set h0 hp, pre_set ns (p - 1) q (by omega), pre_set ns (p - 1) (q - lowN q) (by omega)]
    unfold cov
    simp only [decide_eq_true_eq]
    by_cases h1 : p ≤ q
    · by_cases h2 : q - lowN q < p
      · rw [if_pos ⟨h2, h1⟩, if_pos (by omega), if_neg (by omega)]; omega
      · rw [if_neg (by omega), if_pos (by omega), if_pos (by omega)]; omega
    · rw [if_neg (by omega), if_neg (by omega), if_neg (by omega)]; omega
theorem pre_run (ns : List Int) {a b : Nat} (h : a ≤ b) : pre ns b - pre ns a = ((ns.drop a).take (b - a)).sum := by
  unfold pre
  have h1 : ns.take b = ns.take a ++ (ns.drop a).take (b - a) := by
    conv => lhs; rw [show b = a + (b - a) from by omega]
    rw [List.take_add]
  rw [h1, List.sum_append]
  omega
end Mine
end
-- Lw7
section
open PySem PySem.W PyProof.Rows PySem.Calls PySem.Spec
namespace Mine
def LW7 (w : World) : Prop :=
  ∀ {sv : List Value} {sn : List Int} {ls ln lk : Addr} {vs ks : List Value} {ns : List Int} {en ek : Nat} {oc : Obj} {news : List (Addr × Obj)} {st : Stmt} {sc : Scope}
   {dp un : Nat} {gd : Option (List Code)} {a : Addr} {ccd : Value} {outer : List Env} {A₀ : Around} {base h₀ : Heap} {L : Addr} {m : Str → Option Value}
   {s : Shared} {Q : Flow → Shared → Prop} {E : Value → Shared → Prop} {p : Program} {loose : List Str} {mean : ExcName → Option Value} {mg mb : Str → Option Value},
   st = sNth lawBody 6 → sc = lawScope → ns.length ≤ 16 → h₀.IsList ls sv.toArray → IntsAre sv sn → sn.length ≤ 63 →
   Below A₀ base outer h₀ → Fr h₀ L s.heap m → (hd.heap_39 w.params).In h₀ → News h₀ L s.heap news → Top p loose mean mg mb h₀ →
   m "script" = some (.ref ls) → m "numbers" = some (.ref ln) → (ln, listOf vs.toArray en) ∈ news → IntsAre vs ns → (lk, listOf ks.toArray ek) ∈ news → IntsAre ks (keptOf ns) → (L + 1, oc) ∈ news → oc.data = .cell (some (.ref lk)) →
   Tb news → dp + 200 < recursionLimit → un + 2000 < cLine →
   PassesOwn (model PySem.Challenge.rw_hc0001_01.row.prog w) (ktrTop dp un gd "law" sc L a ccd [("kept", L + 1)] outer) (envX "law" sc L a ccd [("kept", L + 1)]) E →
   (∀ m' news' h' tk', Fr h₀ L h' m' → m' "script" = some (.ref ls) → m' "numbers" = some (.ref ln) → News h₀ L h' news' → Grow news news' → Q .next { s with heap := h', toks := tk' }) →
    wpAny (model PySem.Challenge.rw_hc0001_01.row.prog w) (ktrTop dp un gd "law" sc L a ccd [("kept", L + 1)] outer) (exec st (envX "law" sc L a ccd [("kept", L + 1)])) Q E s

local macro_rules | `(tactic| k_mem) => `(tactic| assumption)
local macro_rules | `(tactic| k_all) => `(tactic| first | assumption | (refine ne_of_allLt (by assumption) ?_; omega))
local macro_rules | `(tactic| k_room) => `(tactic| ((try simp only [depth_under_make, depth_under_kw, depth_in1, depth_deeper, depth_caller, ktrTop]); omega))
local macro_rules | `(tactic| walk_at "call builtin:len") => `(tactic| (k_here; (refine my_len (by k_asm) (by k_dflt k_mem) (by assumption) ?_ ?_); (case refine_1 => omega)))
local macro_rules | `(tactic| walk_at "call ref") => `(tactic| (k_here; with_reducible refine Stop.mk ?_))
local macro_rules | `(tactic| walk_at "eval ListComp") => `(tactic| (k_here; k_dflt (refine LCg.ListComp_U (F₀ := by k_asm) (by with_unfolding_all rfl) (by decide) (by rfl) (by decide) (by rfl) ?_)))
local macro_rules | `(tactic| walk_at "exec Assign cons ListComp") => `(tactic| (k_here; k_dflt (refine LCg.Assign_ListComp_U (F₀ := by k_asm) (by rfl) (by with_unfolding_all rfl) (by with_unfolding_all rfl) (by decide) (by rfl) (by decide) (by rfl) (by rfl) (by rfl) ?_)))
local macro_rules | `(tactic| walk_at "CompEnd") => `(tactic| (k_here; with_reducible refine Stop.mk ?_))
local macro_rules | `(tactic| walk_at "CompSrc") => `(tactic| (k_here; with_reducible refine Stop.mk ?_))
local macro_rules | `(tactic| walk_at "compareOp Eq ref ref") => `(tactic| (k_here; with_reducible refine Stop.mk ?_))
local macro_rules | `(tactic| walk_at "subscriptTail Name Slice ref ref") => `(tactic| (k_here; k_dflt (refine' kmk_slice_ints ?F ?N ?l ?p ?q ?i ?m rfl ?_ ?s ?t ?z; (case F => k_asm); (case N => k_asm); (case l => kmk_list); (case p => kmk_part); (case q => kmk_part); (case i => assumption); (case m => first | exact kmk_upto (by assumption) (by omega) | exact kmk_from (by assumption) (by omega) | exact kmk_run (by assumption) (by omega) (by omega)); (case s => with_unfolding_all rfl); (case t => kmk_pure); (case z => (refine kmk_sz (by assumption) ?_; rw [sizeLine_eq]; omega))); intro D' ws' h' F' N' l1 hI' hC' hL'; (try k_lt l1); (try k_sweep)))
local macro_rules | `(tactic| walk_at "compareOp NotEq ref ref") => `(tactic| (k_here; with_reducible refine Stop.mk ?_))
local macro_rules | `(tactic| walk_at "pyIter ref") => `(tactic| (k_here; with_reducible refine Stop.mk ?_))
local macro_rules | `(tactic| walk_at "exec For") => `(tactic| (k_here; (rename Fr _ _ _ _ => lF'); k_dflt (refine' For_invVF lF' ?zk1 ?zk2 ?_ ?zs ?zE; (case zk1 => rfl); (case zk2 => rfl); (case zs => exact fun _ => rfl); (case zE => assumption))))

set_option maxRecDepth 100000 in
set_option maxHeartbeats 1000000 in
theorem lw7 : ∀ (w : World), LW7 w := by
  unfold LW7
  k_fill
  intro w sv sn ls ln lk vs ks ns en ek oc news st sc dp un gd a ccd outer A₀ base h₀ L m s Q E p loose mean mg mb
  intro hb hs hlen hS hSi hSl B F X N T e1 e2 mln hi' mlk hik mc dc htb hd hu hE hret
  conv at hb => rhs; whnf
  conv at hs => rhs; whnf
  subst hb hs
  rw [← mmD_of e1 e2] at F
  unfold mmD at F
  clear e1 e2
  have gN : Grow news news := Grow.of N htb fun p hp => hp
  have hkl := kept_len ns
  k_steps
  refine Stop.go ?_
  refine' ke_ne_ints (xs := vs) (ys := []) (ns := ns) (ms := []) ?va ?vb hi' .nil ?vu ?_
  (case va => exact News.isList (by k_asm) (by k_mem)); (case vb => exact News.isList (by k_asm) (List.mem_cons_self ..))
  (case vu => (dsimp only [ktrTop]; omega))
  by_cases hn : ns = []
  · rw [decide_eq_true hn, Bool.not_true]
    k_steps
    exact hret _ _ _ _ (by assumption) rfl rfl (by assumption) (gN.more fun p hp => (by k_mem))
  · rw [decide_eq_false hn, Bool.not_false]
    have hn0 : 0 < ns.length := List.length_pos_iff.mpr hn
    obtain ⟨j, hj, hjn⟩ : ∃ j : Nat, sn.sum.fmod (ns.length : Int) = (j : Int) ∧ j < ns.length := by
      have h1 := Int.fmod_nonneg_of_pos sn.sum (show (0 : Int) < (ns.length : Int) by omega)
      have h2 := Int.fmod_lt_of_pos sn.sum (show (0 : Int) < (ns.length : Int) by omega)
      exact ⟨(sn.sum.fmod (ns.length : Int)).toNat, by omega, by omega⟩
    k_steps
    rename IntsAre _ (List.take _ ns ++ [_] ++ List.drop _ ns) => hIM
    have e1 : (1 + sn.sum.fmod (ns.length : Int) - 1).toNat = j := by omega
    have e2 : (1 + sn.sum.fmod (ns.length : Int)).toNat = j + 1 := by omega
    rw [e1, e2] at hIM
    replace hIM : IntsAre _ (more ns (j + 1) 7) := hIM
    have hml : (more ns (j + 1) 7).length = ns.length := more_len (by omega) (by omega)
    refine Stop.go ?_
    refine' grt w (j + 1) ?zx ?zo ?zn ?zl ?zB ?zF ?zX ?zN ?zT rfl (htb.of ?zt) ?zm (show IntsAre ks (keptOf ns) by assumption) ?zd ?zu ?_
    (case zB => assumption); (case zF => assumption); (case zX => assumption); (case zN => assumption); (case zT => assumption)
    (case zt => exact fun p hp => (by k_mem)); (case zm => k_mem)
    (case zx => omega); (case zo => omega); (case zn => omega); (case zl => omega)
    (case zd => omega); (case zu => omega)
    intro R2 D2 rs2 fs2 er2 t72 news4 h5 tk5 F5 N5 hf2 hfl2 hq2 g5
    have hfs := kept_more hlen (by omega) (by omega) hfl2 hq2
    subst hfs
    have mDM := keep_list g5 (List.mem_cons_self ..)
    have mln₂ := keep_list g5 (c := ln) (by k_mem)
    have mlk₂ := keep_list g5 (c := lk) (by k_mem)
    obtain ⟨oc₂, mc₂, dc₂⟩ := keep_cell g5 (c := L + 1) (by k_mem) dc
    have gN₂ := (gN.more fun p hp => (by k_mem)).trans g5
    k_steps
    refine Stop.go ?_
    refine' kpt w (ns := more ns (j + 1) 7) ?wl ?wB ?wF ?wX ?wN ?wT rfl (g5.tb.of ?wt) ?wm hIM ?wd ?wu ?_
    (case wB => assumption); (case wF => assumption); (case wX => assumption); (case wN => assumption); (case wT => assumption)
    (case wt => exact fun p hp => (by k_mem)); (case wm => k_mem); (case wl => omega)
    (case wd => omega); (case wu => omega)
    intro R3 rs3 er3 news6 h7 tk7 F7 N7 hi7 g7
    have mD2 := keep_list g7 (c := D2) (by k_mem)
    have mln₃ := keep_list g7 (c := ln) (by k_mem)
    have mlk₃ := keep_list g7 (c := lk) (by k_mem)
    obtain ⟨oc₃, mc₃, dc₃⟩ := keep_cell g7 (c := L + 1) (by k_mem) dc₂
    have gN₃ := (gN₂.more fun p hp => (by k_mem)).trans g7
    k_steps
    refine Stop.go ?_
    refine' ke_ne_ints ?va ?vb hf2 hi7 ?vu ?_
    (case va => exact News.isList (by k_asm) (by k_mem)); (case vb => exact News.isList (by k_asm) (List.mem_cons_self ..))
    (case vu => (dsimp only [ktrTop]; omega))
    rw [decide_eq_true rfl, Bool.not_true]
    k_steps
    obtain ⟨r, hr, hrn⟩ : ∃ r : Nat, (sn.length : Int).fmod (ns.length : Int) = (r : Int) ∧ r < ns.length := by
      have h1 := Int.fmod_nonneg_of_pos (sn.length : Int) (show (0 : Int) < (ns.length : Int) by omega)
      have h2 := Int.fmod_lt_of_pos (sn.length : Int) (show (0 : Int) < (ns.length : Int) by omega)
      exact ⟨((sn.length : Int).fmod (ns.length : Int)).toNat, by omega, by omega⟩
    rename Fr _ _ _ _ => FF
    rename News _ _ _ _ => NN
    generalize e3 : (if 1 + (sn.length : Int).fmod (ns.length : Int) < 1 + sn.sum.fmod (ns.length : Int) then 1 + (sn.length : Int).fmod (ns.length : Int) else 1 + sn.sum.fmod (ns.length : Int)) = lo at FF NN ⊢
    generalize e4 : (if 1 + (sn.length : Int).fmod (ns.length : Int) > 1 + sn.sum.fmod (ns.length : Int) then 1 + (sn.length : Int).fmod (ns.length : Int) else 1 + sn.sum.fmod (ns.length : Int)) = hh at FF NN ⊢
    obtain ⟨a, b, rfl, rfl, hab, hbn⟩ : ∃ a b : Nat, lo = (a : Int) ∧ hh = (b : Int) ∧ a ≤ b ∧ b ≤ ns.length := by
      rw [hj, hr] at e3 e4
      by_cases hc : r < j
      · rw [if_pos (by omega)] at e3
        rw [if_neg (by omega)] at e4
        exact ⟨1 + r, 1 + j, by omega, by omega, by omega, by omega⟩
      · rw [if_neg (by omega)] at e3
        by_cases hc' : r = j
        · rw [if_neg (by omega)] at e4
          exact ⟨1 + j, 1 + j, by omega, by omega, by omega, by omega⟩
        · rw [if_pos (by omega)] at e4
          exact ⟨1 + j, 1 + r, by omega, by omega, by omega, by omega⟩
    clear e3 e4
    refine Stop.go ?_
    refine' fst_ w b (pre ns) ?ux ?un ?ul (kept_at hlen) (pre_zero ns) ?uB ?uF ?uX ?uN ?uT rfl (gN₃.tb.of ?ut) ?um (show IntsAre ks (keptOf ns) by assumption) ?ud ?uu ?_
    (case uB => assumption); (case uF => assumption); (case uX => assumption); (case uN => assumption); (case uT => assumption)
    (case ut => exact fun p hp => (by k_mem)); (case um => k_mem)
    (case ux => omega); (case un => omega); (case ul => omega)
    (case ud => omega); (case uu => omega)
    intro R4 t61 t71 news8 h8 tk8 F8 N8 g8
    have mln₄ := keep_list g8 (c := ln) (by k_mem)
    have mlk₄ := keep_list g8 (c := lk) (by k_mem)
    obtain ⟨oc₄, mc₄, dc₄⟩ := keep_cell g8 (c := L + 1) (by k_mem) dc₃
    have gN₄ := (gN₃.more fun p hp => (by k_mem)).trans g8
    k_steps
    refine Stop.go ?_
    refine' fst_ w a (pre ns) ?tx ?tn ?tl (kept_at hlen) (pre_zero ns) ?tB ?tF ?tX ?tN ?tT rfl (gN₄.tb.of ?tt) ?tm (show IntsAre ks (keptOf ns) by assumption) ?td ?tu ?_
    (case tB => assumption); (case tF => assumption); (case tX => assumption); (case tN => assumption); (case tT => assumption)
    (case tt => exact fun p hp => (by k_mem)); (case tm => k_mem)
    (case tx => omega); (case tn => omega); (case tl => omega)
    (case td => omega); (case tu => omega)
    intro R5 t62 t72 news9 h9 tk9 F9 N9 g9
    have mln₅ := keep_list g9 (c := ln) (by k_mem)
    have gN₅ := (gN₄.more fun p hp => (by k_mem)).trans g9
    have hpr : pre ns b - pre ns a = (List.take (min (b : Int).toNat ns.length - (a : Int).toNat) (List.drop (a : Int).toNat ns)).sum := by
      rw [Int.toNat_natCast, Int.toNat_natCast, show min b ns.length = b from by omega]
      exact pre_run ns hab
    k_steps
    · exact absurd hpr (by assumption)
    · exact hret _ _ _ _ (by assumption) rfl rfl (by assumption) (gN₅.more fun p hp => (by k_mem))
end Mine
end
-- Law
section
open PySem PySem.W PyProof.Rows PySem.Calls PySem.Spec
namespace Mine
def LAW (w : World) : Prop :=
  ∀ {sv : List Value} {sn : List Int} {ls : Addr} {oc : Obj} {body : List Stmt} {sc : Scope}
   {dp un : Nat} {gd : Option (List Code)} {a : Addr} {ccd : Value} {outer : List Env} {A₀ : Around} {base h₀ : Heap} {L : Addr} {m : Str → Option Value}
   {s : Shared} {Q : Flow → Shared → Prop} {E : Value → Shared → Prop} {p : Program} {loose : List Str} {mean : ExcName → Option Value} {mg mb : Str → Option Value},
   body = lawBody → sc = lawScope → h₀.IsList ls sv.toArray → IntsAre sv sn → sn.length ≤ 63 →
   Below A₀ base outer h₀ → Fr h₀ L s.heap m → (hd.heap_39 w.params).In h₀ → News h₀ L s.heap [(L + 1, oc), (23, tabObj #[]), (16, tabObj #[])] → Top p loose mean mg mb h₀ →
   m "script" = some (.ref ls) → oc.data = .cell none → 23 < L → 16 < L →
   dp + 200 < recursionLimit → un + 2000 < cLine →
   PassesOwn (model PySem.Challenge.rw_hc0001_01.row.prog w) (ktrTop dp un gd "law" sc L a ccd [("kept", L + 1)] outer) (envX "law" sc L a ccd [("kept", L + 1)]) E →
   (∀ m' news' h' tk', Fr h₀ L h' m' → News h₀ L h' news' → Tb news' → Q (.ret (.bool true)) { s with heap := h', toks := tk' }) →
    wpAny (model PySem.Challenge.rw_hc0001_01.row.prog w) (ktrTop dp un gd "law" sc L a ccd [("kept", L + 1)] outer) (execs body (envX "law" sc L a ccd [("kept", L + 1)])) Q E s

def mmS (u : Str → Option Value) (ls : Addr) : Str → Option Value := fun y => if y = "script" then some (.ref ls) else u y
theorem mmS_of {m : Str → Option Value} {ls : Addr} (h1 : m "script" = some (.ref ls)) : mmS m ls = m := by
  funext y
  unfold mmS
  by_cases e1 : y = "script"
  · rw [if_pos e1, e1, h1]
  · rw [if_neg e1]
theorem tabOk_offC {P : Addr} {pos : Pos} {q : Str} {c : Addr} {o : Obj} {v : Option Value} {h₀ h : Heap} {L : Addr} {news : List (Addr × Obj)} (x : TabOk P pos q news) (N : News h₀ L h news) (m : (c, o) ∈ news) (d : o.data = .cell v) : TabOk P pos q (off c news) := by
  rcases x with x | ⟨c', oc, vs, t, h1, h2, h3, h4, h5⟩
  · exact .inl (mem_off x (news_ne N x m fun e => by rw [← e] at d; cases d))
  · exact .inr ⟨c', oc, vs, t, mem_off h1 (news_ne N h1 m fun e => by rw [← e] at d; cases d), mem_off h2 (news_ne N h2 m fun e => by rw [e, d] at h3; cases h3), h3, h4, h5⟩
theorem tb_offC {c : Addr} {o : Obj} {v : Option Value} {h₀ h : Heap} {L : Addr} {news : List (Addr × Obj)} (x : Tb news) (N : News h₀ L h news) (m : (c, o) ∈ news) (d : o.data = .cell v) : Tb (off c news) := ⟨tabOk_offC x.1 N m d, tabOk_offC x.2 N m d⟩
local macro_rules | `(tactic| k_mem) => `(tactic| assumption)
local macro_rules | `(tactic| k_all) => `(tactic| first | assumption | (refine ne_of_allLt (by assumption) ?_; omega))
local macro_rules | `(tactic| k_room) => `(tactic| ((try simp only [depth_under_make, depth_under_kw, depth_in1, depth_deeper, depth_caller, ktrTop]); omega))
local macro_rules | `(tactic| walk_at "call builtin:len") => `(tactic| (k_here; (refine my_len (by k_asm) (by k_dflt k_mem) (by assumption) ?_ ?_); (case refine_1 => omega)))
local macro_rules | `(tactic| walk_at "call ref") => `(tactic| (k_here; with_reducible refine Stop.mk ?_))
local macro_rules | `(tactic| walk_at "eval ListComp") => `(tactic| (k_here; k_dflt (refine LCg.ListComp_U (F₀ := by k_asm) (by with_unfolding_all rfl) (by decide) (by rfl) (by decide) (by rfl) ?_)))
local macro_rules | `(tactic| walk_at "exec Assign cons ListComp") => `(tactic| (k_here; k_dflt (refine LCg.Assign_ListComp_U (F₀ := by k_asm) (by rfl) (by with_unfolding_all rfl) (by with_unfolding_all rfl) (by decide) (by rfl) (by decide) (by rfl) (by rfl) (by rfl) ?_)))
local macro_rules | `(tactic| walk_at "CompEnd") => `(tactic| (k_here; with_reducible refine Stop.mk ?_))
local macro_rules | `(tactic| walk_at "CompSrc") => `(tactic| (k_here; with_reducible refine Stop.mk ?_))
local macro_rules | `(tactic| walk_at "compareOp Eq ref ref") => `(tactic| (k_here; with_reducible refine Stop.mk ?_))
local macro_rules | `(tactic| walk_at "subscriptTail Name Slice ref ref") => `(tactic| (k_here; k_dflt (refine' kmk_slice_ints ?F ?N ?l ?p ?q ?i ?m rfl ?_ ?s ?t ?z; (case F => k_asm); (case N => k_asm); (case l => kmk_list); (case p => kmk_part); (case q => kmk_part); (case i => assumption); (case m => first | exact kmk_upto (by assumption) (by omega) | exact kmk_from (by assumption) (by omega) | exact kmk_run (by assumption) (by omega) (by omega)); (case s => with_unfolding_all rfl); (case t => kmk_pure); (case z => (refine kmk_sz (by assumption) ?_; rw [sizeLine_eq]; omega))); intro D' ws' h' F' N' l1 hI' hC' hL'; (try k_lt l1); (try k_sweep)))
local macro_rules | `(tactic| walk_at "compareOp NotEq ref ref") => `(tactic| (k_here; with_reducible refine Stop.mk ?_))
local macro_rules | `(tactic| walk_at "pyIter ref") => `(tactic| (k_here; with_reducible refine Stop.mk ?_))
local macro_rules | `(tactic| walk_at "exec For Name Call cons nil") => `(tactic| (k_here; (rename Fr _ _ _ _ => lF'); k_dflt (refine' For_invVF lF' ?zk1 ?zk2 ?_ ?zs ?zE; (case zk1 => rfl); (case zk2 => rfl); (case zs => exact fun _ => rfl); (case zE => assumption))))

local macro_rules | `(tactic| walk_at "exec For Name Call cons nil") => `(tactic| (k_here; with_reducible refine Stop.mk ?_))
set_option maxRecDepth 100000 in
set_option maxHeartbeats 1000000 in
theorem law_ : ∀ (w : World), LAW w := by
  unfold LAW
  k_fill
  intro w sv sn ls oc body sc dp un gd a ccd outer A₀ base h₀ L m s Q E p loose mean mg mb
  intro hb hs hS hSi hSl B F X N T e1 dc hL1 hL2 hd hu hE hret
  conv at hb => rhs; whnf
  conv at hs => rhs; whnf
  subst hb hs
  rw [← mmS_of e1] at F
  unfold mmS at F
  clear e1
  have htb : Tb [(L + 1, oc), (23, tabObj #[]), (16, tabObj #[])] := ⟨.inl (by k_mem), .inl (by k_mem)⟩
  have gN : Grow [(L + 1, oc), (23, tabObj #[]), (16, tabObj #[])] [(L + 1, oc), (23, tabObj #[]), (16, tabObj #[])] := Grow.of N htb fun p hp => hp
  k_steps
  refine Stop.go ?_
  rename IntsAre _ (List.take _ sn) => hI
  rename List.length _ = List.length _ => hC
  have hlen : (List.take (Int.toNat 16) sn).length ≤ 16 := by
    rw [List.length_take]
    exact Nat.min_le_left _ _
  generalize List.take (Int.toNat 16) sn = ns at hI hlen
  refine' kpt w (ns := ns) hlen ?wB ?wF ?wX ?wN ?wT rfl (htb.of ?wt) ?wm hI ?wd ?wu ?_
  (case wB => assumption); (case wF => assumption); (case wX => assumption); (case wN => assumption); (case wT => assumption)
  (case wt => exact fun p hp => (by k_mem)); (case wm => exact List.mem_cons_self ..)
  (case wd => omega); (case wu => omega)
  intro lk ks ek news2 h3 tk3 F3 N3 hik g3
  have mln := keep_list g3 (List.mem_cons_self ..)
  obtain ⟨oc₁, mc, dc₁⟩ := keep_cell g3 (List.mem_cons_of_mem _ (List.mem_cons_self ..)) dc
  have mln' := mem_off (a := L + 1) (List.mem_cons_of_mem (lk, listOf ks.toArray ek) mln) (news_ne N3 (List.mem_cons_of_mem _ mln) (List.mem_cons_of_mem _ mc) fun e => by rw [← e] at dc₁; cases dc₁)
  have mlk' := mem_off (a := L + 1) (List.mem_cons_self (a := (lk, listOf ks.toArray ek)) (l := news2)) (news_ne N3 (List.mem_cons_self ..) (List.mem_cons_of_mem _ mc) fun e => by rw [← e] at dc₁; cases dc₁)
  have htb' : Tb (off (L + 1) ((lk, listOf ks.toArray ek) :: news2)) := tb_offC (g3.tb.of fun p hp => List.mem_cons_of_mem _ hp) N3 (List.mem_cons_of_mem _ mc) dc₁
  have hoff : ∀ p ∈ off (L + 1) ((lk, listOf ks.toArray ek) :: news2), p.1 ≠ L + 1 := off_ne
  replace N3 := news_front N3 (List.mem_cons_of_mem _ mc)
  clear mln mc g3
  k_sweep
  generalize off (L + 1) ((lk, listOf ks.toArray ek) :: news2) = news3 at *
  k_steps
  refine Stop.go ?_
  refine' lw3 w ?aa ?ab hlen ?aB ?aF ?aX ?aN ?aT ?a1 ?a2 ?am hI ?ak hik ?ac ?ad ?atb ?adp ?aun ?aE ?_
  (case aF => assumption); (case aN => assumption); (case aa => rfl); (case ab => rfl); (case aB => assumption); (case aX => assumption); (case aT => assumption)
  (case a1 => rfl); (case a2 => rfl); (case am => exact List.mem_cons_of_mem _ mln'); (case ak => exact List.mem_cons_of_mem _ mlk'); (case ac => exact List.mem_cons_self ..); (case ad => assumption)
  (case atb => exact htb'.of fun p hp => List.mem_cons_of_mem _ hp); (case adp => omega); (case aun => omega); (case aE => assumption)
  intro m4 news4 h4 tk4 F4 s4 n4 N4 g4
  have mln4 := keep_list g4 (List.mem_cons_of_mem _ mln')
  have mlk4 := keep_list g4 (List.mem_cons_of_mem _ mlk')
  obtain ⟨oc4, mc4, dc4⟩ := keep_cell g4 (c := L + 1) (List.mem_cons_self ..) (by assumption)
  dsimp only
  refine' lw5 w _ ?ba ?bb ?bc ?bd hlen ?bB F4 ?bX N4 ?bT s4 n4 mln4 hI mlk4 hik mc4 dc4 g4.tb ?bdp ?bun ?bE ?_
  (case ba => rfl); (case bb => rfl); (case bc => rfl); (case bd => rfl); (case bB => assumption); (case bX => assumption); (case bT => assumption)
  (case bdp => omega); (case bun => omega); (case bE => assumption)
  intro m5 news5 h5 tk5 F5 s5 n5 N5 g5
  have mln5 := keep_list g5 mln4
  have mlk5 := keep_list g5 mlk4
  obtain ⟨oc5, mc5, dc5⟩ := keep_cell g5 mc4 dc4
  refine wpAny_execs_cons ?_
  refine' lw7 w ?ca ?cb hlen hS hSi hSl ?cB F5 ?cX N5 ?cT s5 n5 mln5 hI mlk5 hik mc5 dc5 g5.tb ?cdp ?cun ?cE ?_
  (case ca => rfl); (case cb => rfl); (case cB => assumption); (case cX => assumption); (case cT => assumption)
  (case cdp => omega); (case cun => omega); (case cE => assumption)
  intro m6 news6 h6 tk6 F6 s6 n6 N6 g6
  have mln6 := keep_list g6 mln5
  have mlk6 := keep_list g6 mlk5
  obtain ⟨oc6, mc6, dc6⟩ := keep_cell g6 mc5 dc5
  dsimp only
  refine' lwd w ?da ?db hlen ?dB F6 ?dX N6 ?dT s6 n6 mln6 hI mlk6 hik mc6 dc6 g6.tb ?ddp ?dun ?dE ?_
  (case da => rfl); (case db => rfl); (case dB => assumption); (case dX => assumption); (case dT => assumption)
  (case ddp => omega); (case dun => omega); (case dE => assumption)
  intro m7 news7 h7 tk7 F7 N7 g7
  exact hret _ _ _ _ F7 N7 g7.tb
end Mine
end
namespace Mine
section
open PySem PySem.W PyProof.Rows PySem.Calls PySem.Spec
theorem grown_of {P : Addr} {pos : Pos} {q : Str} {h₀ h : Heap} {L : Addr} {news : List (Addr × Obj)} (N : News h₀ L h news) (x : TabOk P pos q news) : GrownAt P h := by
  rcases x with x | ⟨_, _, _, _, x, _⟩
  · exact GrownAt.of N x
  · exact GrownAt.of N x
end
end Mine
open PySem PySem.W PyProof.Rows PySem.Calls PySem.Spec
set_option maxRecDepth 100000 in
set_option maxHeartbeats 1000000 in
theorem PySem.Challenge.cw_hc0001_01_holds : PySem.Challenge.rw_hc0001_01.Holds := by
  refine Mine.hd (by
    k_go0
    refine' Mine.law_ _ (oc := _) ?ha ?hb ?hS ?hI ?hl ?hB ?hF ?hX ?hN ?hT ?h1 ?hc ?h2 ?h3 ?hd ?hu ?hE ?hret
    (case hF => assumption); (case hN => assumption); (case hS => assumption); (case hI => assumption); (case hl => omega); (case hB => assumption); (case hX => assumption); (case hT => assumption)
    (case h1 => rfl); (case hc => assumption); (case h2 => exact And.left (by assumption)); (case h3 => exact And.right (by assumption))
    (case hd => decide); (case hu => decide)
    (case ha => rfl); (case hb => rfl)
    case hE => first | passes_own | with_unfolding_all passes_own
    case hret =>
      intro m' news' h' tk' F N tb
      refine ⟨?_, Mine.grown_of N tb.2, Mine.grown_of N tb.1, True.intro⟩
      dsimp only
      first | (wrow_close; done) | (k_unfold; wrow_close; done) | walk1)
