import PyProof.Rows.All
import Wide.All
import OpenK.AllK
import Wide.FinOn
import PySem.Challenge.RW_zw0002_01
/-! `law` of zw0002-01: the walk by parts, the plain laws (Euclid, Lame, the Fibonacci row), joined last. -/
open PySem PySem.W PyProof.Rows
set_option Elab.async false
set_option maxRecDepth 100000
set_option maxHeartbeats 8000000
/-! part Mb -/
namespace Mine
open_top hd for PySem.Challenge.rw_zw0002_01

/-- a tuple as it lies on the ledger -/
abbrev tupO (vs : List Value) : Obj := { cls := .type "tuple", data := .seq vs.toArray }

/-- what a call of the def at `f` does: from any frame, over the ledger `news` -/
def Spec (w : World) (f : Addr) (dn un : Nat) (news : List (Addr × Obj)) (vs : List Value) (Post : Value → List (Addr × Obj) → Prop) : Prop :=
  ∀ (p : Program) (loose : List Str) (mean : ExcName → Option Value) (mg mb : Str → Option Value) (dp un' : Nat) (gd : Option (List Code)) (cn : Str) (cs : Scope) (a : Addr) (ccd : Value) (cl : List (Str × Addr)) (outer : List Env)
    (A₀ : Around) (base h₀ : Heap) (L : Addr) (m : Str → Option Value) (s : Shared) (Q E : Value → Shared → Prop),
    Below A₀ base outer h₀ → Fr h₀ L s.heap m → (hd.heap_39 w.params).In h₀ → News h₀ L s.heap news → Top p loose mean mg mb h₀ → CodeHd base 41 37 → CodeHd base 34 30 → cs.kind = .function →
    dp + dn < recursionLimit → un' + un < cLine →
    (∀ v news' h' tk', Post v news' → Fr h₀ L h' m → News h₀ L h' news' → Q v { s with heap := h', toks := tk' }) →
    wpAny (model PySem.Challenge.rw_zw0002_01.row.prog w) (ktrTop dp un' gd cn cs L a ccd cl outer) (call (.ref f) vs) Q E s
end Mine
namespace Mine
/-- `open_top` leaves the walker in its other mood: set it back -/
theorem calm : True := by
  w_top off
  trivial
end Mine
/-! part MA -/
namespace Mine
local macro_rules | `(tactic| walk_at "mine pad") => `(tactic| fail)
/-- the digits of x, least first, k of them, the last one whole -/
def digs (B : Int) (x : Int) : Nat → List Int
  | 0 => []
  | 1 => [x]
  | k + 2 => (x % B) :: digs B (x / B) (k + 1)
def fill (B x : Int) (lo k : Nat) (ns : List Int) : List Int := ns.take lo ++ (digs B x k ++ ns.drop (lo + k))
theorem digs_length (B : Int) : ∀ (k : Nat) (x : Int), (digs B x k).length = k
  | 0, _ => rfl
  | 1, _ => rfl
  | k + 2, x => by
    show (digs B (x / B) (k + 1)).length + 1 = k + 2
    rw [digs_length B (k + 1)]
theorem digs_succ (B x : Int) {m : Nat} (h : 0 < m) : digs B x (m + 1) = (x % B) :: digs B (x / B) m := by
  obtain ⟨k, rfl⟩ : ∃ k, m = k + 1 := ⟨m - 1, by omega⟩
  rfl
theorem emod_mul_div {x B C : Int} (hB : 0 < B) (hC : 0 < C) : x % (B * C) / B = (x / B) % C ∧ x % (B * C) % B = x % B := by
  have h1 := Int.emod_add_mul_ediv x B
  have h2 := Int.emod_add_mul_ediv (x / B) C
  have r0 := Int.emod_nonneg x (show B ≠ 0 by omega)
  have r1 := Int.emod_lt_of_pos x hB
  have s0 := Int.emod_nonneg (x / B) (show C ≠ 0 by omega)
  have s1 := Int.emod_lt_of_pos (x / B) hC
  have e1 : x % (B * C) = x % B + B * ((x / B) % C) := by
    have hu : x % B + B * ((x / B) % C) + (B * C) * (x / B / C) = x := by
      have : B * (x / B) = B * ((x / B) % C) + B * (C * (x / B / C)) := by rw [← Int.mul_add, h2]
      rw [Int.mul_assoc]; omega
    have hlo : 0 ≤ x % B + B * ((x / B) % C) := Int.add_nonneg r0 (Int.mul_nonneg (by omega) s0)
    have hhi : x % B + B * ((x / B) % C) < B * C := by
      have h4 : B * ((x / B) % C) ≤ B * (C - 1) := Int.mul_le_mul_of_nonneg_left (by omega) (by omega)
      rw [Int.mul_sub, Int.mul_one] at h4
      omega
    exact ((Int.ediv_emod_unique (Int.mul_pos hB hC)).mpr ⟨hu, hlo, hhi⟩).2
  rw [e1]
  exact ⟨((Int.ediv_emod_unique hB).mpr ⟨rfl, r0, r1⟩).1, ((Int.ediv_emod_unique hB).mpr ⟨rfl, r0, r1⟩).2⟩
theorem digs_split {B : Int} (hB : 0 < B) {m : Nat} (hm : 0 < m) : ∀ (j : Nat) (x : Int), 0 < j → digs B x (j + m) = digs B (x % B ^ j) j ++ digs B (x / B ^ j) m
  | 0, _, h => absurd h (by omega)
  | 1, x, _ => by
    rw [Nat.add_comm 1 m, digs_succ B x hm, Int.pow_succ, Int.pow_zero, Int.one_mul]
    rfl
  | j + 2, x, _ => by
    have hp : 0 < B ^ (j + 1) := Int.pow_pos hB
    have e := emod_mul_div (x := x) hB hp
    have e3 : B ^ (j + 2) = B * B ^ (j + 1) := by rw [Int.pow_succ, Int.mul_comm]
    rw [show j + 2 + m = (j + 1 + m) + 1 by omega, digs_succ B x (by omega), digs_split hB hm (j + 1) (x / B) (by omega), e3]
    rw [show (j + 2 : Nat) = (j + 1) + 1 from rfl, digs_succ B _ (show 0 < j + 1 by omega), e.1, e.2, Int.ediv_ediv_of_nonneg (Int.le_of_lt hB)]
    rfl
theorem fill_length {B x : Int} {lo k : Nat} {ns : List Int} (h : lo + k ≤ ns.length) : (fill B x lo k ns).length = ns.length := by
  unfold fill
  rw [List.length_append, List.length_append, digs_length, List.length_take, List.length_drop]
  omega
theorem fill_fill {B x : Int} (hB : 0 < B) {lo j m : Nat} {ns : List Int} (hj : 0 < j) (hm : 0 < m) (h : lo + (j + m) ≤ ns.length) :
    fill B (x / B ^ j) (lo + j) m (fill B (x % B ^ j) lo j ns) = fill B x lo (j + m) ns := by
  have hl : (ns.take lo).length = lo := by rw [List.length_take]; omega
  have hd := digs_length B j (x % B ^ j)
  unfold fill
  rw [digs_split hB hm j x hj]
  have e1 : (ns.take lo ++ (digs B (x % B ^ j) j ++ ns.drop (lo + j))).take (lo + j) = ns.take lo ++ digs B (x % B ^ j) j := by
    rw [← List.append_assoc, List.take_append_of_le_length (by rw [List.length_append, hl, hd]; exact Nat.le_refl _), List.take_of_length_le (by rw [List.length_append, hl, hd]; exact Nat.le_refl _)]
  have e2 : (ns.take lo ++ (digs B (x % B ^ j) j ++ ns.drop (lo + j))).drop (lo + j + m) = ns.drop (lo + (j + m)) := by
    rw [← List.append_assoc, List.drop_append, List.drop_of_length_le (by rw [List.length_append, hl, hd]; omega), List.nil_append, List.drop_drop, List.length_append, hl, hd]
    congr 1
    omega
  rw [e1, e2, List.append_assoc, List.append_assoc]
theorem fill_one {B x : Int} {lo : Nat} {ns : List Int} (h : lo < ns.length) : fill B x lo 1 ns = ns.set lo x := by
  unfold fill
  rw [List.set_eq_take_append_cons_drop, if_pos h]
  rfl
theorem land_shift (x s : Nat) : x &&& (x / 2 ^ s * 2 ^ s) = x / 2 ^ s * 2 ^ s := by
  apply Nat.eq_of_testBit_eq
  intro i
  rw [Nat.testBit_and, Nat.testBit_mul_two_pow, Nat.testBit_div_two_pow]
  by_cases h : s ≤ i
  · simp [h, Nat.sub_add_cancel h]
  · simp [h]
theorem xor_low {x : Int} (hx : 0 ≤ x) (s : Nat) : Builtin.bitXor x (x / 2 ^ s * 2 ^ s) = x % 2 ^ s := by
  have hp : (0 : Int) < 2 ^ s := kbt_pos s
  have h0 : 0 ≤ x / 2 ^ s * 2 ^ s := Int.mul_nonneg (Int.ediv_nonneg hx (Int.le_of_lt hp)) (Int.le_of_lt hp)
  have e : Builtin.bitAnd x (x / 2 ^ s * 2 ^ s) = x / 2 ^ s * 2 ^ s := by
    rw [bitAnd_pp hx h0]
    obtain ⟨n, rfl⟩ := Int.eq_ofNat_of_zero_le hx
    have e1 : ((n : Int) / 2 ^ s * 2 ^ s) = ((n / 2 ^ s * 2 ^ s : Nat) : Int) := by
      rw [Int.natCast_mul, Int.natCast_ediv, kbt_cast]
    rw [e1, Int.toNat_natCast, Int.toNat_natCast, land_shift]
  rw [bitXor_and, e]
  have := Int.emod_add_mul_ediv x (2 ^ s)
  rw [Int.mul_comm (2 ^ s)] at this
  omega
theorem fdiv_two (a : Int) : a.fdiv (2 ^ Int.toNat 1) = a / 2 := by
  show a.fdiv 2 = a / 2
  exact Int.fdiv_eq_ediv_of_nonneg a (by decide)
theorem fdiv_pow (a : Int) (s : Nat) : a.fdiv (2 ^ s) = a / 2 ^ s := Int.fdiv_eq_ediv_of_nonneg a (Int.le_of_lt (kbt_pos s))
end Mine
/-! part M1 -/
namespace Mine
local macro_rules | `(tactic| walk_at "mine pad") => `(tactic| fail)
theorem my_divmod {prog : Program} {w : World} {A : Around} {E : Value → Shared → Prop} {s : Shared} {a b : Int} {t u : Tok} {Q : Value → Shared → Prop} {h₀ : Heap} {L : Addr} {m : Str → Option Value} {news : List (Addr × Obj)}
    (F : Fr h₀ L s.heap m) (N : News h₀ L s.heap news) (hb : b ≠ 0) (hp : Builtin.divisionGoesByPylong a b = false)
    (h : ∀ D h' tk t1 t2, Fr h₀ L h' m → News h₀ L h' ((D, tupO [.int (a.fdiv b) t1, .int (a.fmod b) t2]) :: news) → (∀ p ∈ news, p.1 < D) → Q (.ref D) { s with heap := h', toks := tk }) :
    wpAny (model prog w) A (call (.builtin "divmod") [.int a t, .int b u]) Q E s :=
  divmod_N F N hb (fun h' F' N' => h _ h' _ _ _ F' N' fun p hp => Heap.lt_size (N p hp).1) (.inl hp)
theorem noPy_of_bits {a b : Int} (hb : Builtin.Int.intBits b ≤ 4000) : Builtin.divisionGoesByPylong a b = false := by
  refine PyProof.noPylong_of_log2 ?_
  unfold Builtin.Int.intBits at hb
  by_cases h : (b == 0) = true
  · have : b = 0 := by simpa using h
    subst this; decide +kernel
  · rw [if_neg h] at hb; omega
local macro_rules | `(tactic| walk_at "call builtin:divmod") => `(tactic| (k_here; (with_reducible show wpAny _ _ (call (Value.builtin _) [Value.int _ _, Value.int _ _]) _ _ _); k_dflt (refine' my_divmod ?F ?N ?b ?p ?_; (case F => k_asm); (case N => k_asm); (case b => omega); (case p => assumption); k_whole); intro D' h' tk' t1' t2' F' N' l1; (try k_lt l1); (try k_sweep)))

theorem c_div2 (w : World) (a b n : Int) (ta tb tn : Tok) (news : List (Addr × Obj)) (ha : Builtin.Int.intBits a ≤ 4000) (hbb : Builtin.Int.intBits b ≤ 4000) (hb : 0 < b) (hn : 0 ≤ n) :
    Spec w 21 2 16 news [.int a ta, .int b tb, .int n tn] fun v news' =>
      ∃ r t1 t2, v = .ref r ∧ news' = (r, tupO [.int (a.fdiv b) t1, .int (a.fmod b) t2]) :: news ∧ ∀ q ∈ news, q.1 < r := by
  unfold Spec
  k_fill
  intros p loose mean mg mb dp un' gd cn cs ad ccd cl outer A₀ base h₀ L m s Q E B F X N T C1 C2 hk hd hu ret
  have hpy := noPy_of_bits (a := a) hbb
  refine wpAny_call ?_
  k_dflt ktr_enter
  k_steps
  exact ret _ _ _ _ ⟨_, _, _, rfl, rfl, by assumption⟩ (by assumption) (by assumption)
end Mine
/-! part M2 -/
namespace Mine
local macro_rules | `(tactic| walk_at "mine pad") => `(tactic| fail)
local macro_rules | `(tactic| walk_at "mine pad") => `(tactic| fail)
local macro_rules | `(tactic| walk_at "mine pad") => `(tactic| fail)
def stmtAt (l : List Stmt) (i : Nat) : Stmt := (l[i]?).getD (.Pass ⟨0, 0, 0, 0⟩)
def bodyOf : Stmt → List Stmt
  | .FunctionDef _ _ b _ _ _ _ _ _ _ => b
  | _ => []
def paramsOf : Stmt → Arguments
  | .FunctionDef _ a _ _ _ _ _ _ _ _ => a
  | _ => { posonlyargs := [], args := [], vararg := none, kwonlyargs := [], kw_defaults := [], kwarg := none, defaults := [] }
def scopeOf : Stmt → Scope
  | .FunctionDef _ _ _ _ _ _ sc _ _ _ => sc
  | _ => { kind := .module, names := [], isGenerator := false, isCoroutine := false, more := [] }
def in1 : Stmt := stmtAt (bodyOf (stmtAt PySem.Challenge.pw_zw0002_01.main.body 4)) 1
def in2 : Stmt := stmtAt (bodyOf (stmtAt PySem.Challenge.pw_zw0002_01.main.body 5)) 0
def litOf {α : Type} {x : α} (b : α) (_ : b = x) : α := b
def body1 : List Stmt := by
  refine litOf (x := bodyOf in1) ?b ?h
  case h => (conv => rhs; whnf)
def params1 : Arguments := by
  refine litOf (x := paramsOf in1) ?b ?h
  case h => (conv => rhs; whnf)
def scope1 : Scope := by
  refine litOf (x := scopeOf in1) ?b ?h
  case h => (conv => rhs; whnf)
def body2 : List Stmt := by
  refine litOf (x := bodyOf in2) ?b ?h
  case h => (conv => rhs; whnf)
def params2 : Arguments := by
  refine litOf (x := paramsOf in2) ?b ?h
  case h => (conv => rhs; whnf)
def scope2 : Scope := by
  refine litOf (x := scopeOf in2) ?b ?h
  case h => (conv => rhs; whnf)
theorem ne_of_allLt {d e : Addr} : ∀ {l : List (Addr × Obj)}, AllLt d l → @LE.le Nat _ d e → ∀ p ∈ l, p.1 ≠ e
  | [], _, _, _, hp => nomatch hp
  | q :: r, h, hle, p, hp => by
    rcases List.mem_cons.mp hp with rfl | hp
    · intro e1
      have h1 : @LT.lt Nat _ p.1 d := h.1
      have h2 : @Eq Nat p.1 e := e1
      omega
    · exact ne_of_allLt h.2 hle p hp
theorem spec_use {w : World} {f : Addr} {dn un : Nat} {news : List (Addr × Obj)} {vs : List Value} {Post : Value → List (Addr × Obj) → Prop} (C : Spec w f dn un news vs Post)
    {p : Program} {loose : List Str} {mean : ExcName → Option Value} {mg mb : Str → Option Value} {dp un' : Nat} {gd : Option (List Code)} {cn : Str} {cs : Scope} {a : Addr} {ccd : Value} {cl : List (Str × Addr)} {outer : List Env}
    {A₀ : Around} {base h₀ : Heap} {L : Addr} {m : Str → Option Value} {s : Shared} {Q E : Value → Shared → Prop}
    (B : Below A₀ base outer h₀) (F : Fr h₀ L s.heap m) (X : (hd.heap_39 w.params).In h₀) (N : News h₀ L s.heap news) (T : Top p loose mean mg mb h₀) (C1 : CodeHd base 41 37) (C2 : CodeHd base 34 30) (hk : cs.kind = .function)
    (hd : dp + dn < recursionLimit) (hu : un' + un < cLine)
    (ret : ∀ v news' h' tk', Post v news' → Fr h₀ L h' m → News h₀ L h' news' → Q v { s with heap := h', toks := tk' }) :
    wpAny (model PySem.Challenge.rw_zw0002_01.row.prog w) (ktrTop dp un' gd cn cs L a ccd cl outer) (call (.ref f) vs) Q E s :=
  C p loose mean mg mb dp un' gd cn cs a ccd cl outer A₀ base h₀ L m s Q E B F X N T C1 C2 hk hd hu ret
end Mine
/-! part M3 -/
namespace Mine
local macro_rules | `(tactic| walk_at "mine pad") => `(tactic| fail)
local macro_rules | `(tactic| walk_at "mine pad") => `(tactic| fail)
local macro_rules | `(tactic| k_all) => `(tactic| first | assumption | exact ne_of_allLt (by assumption) (by omega))
local macro_rules | `(tactic| k_mem) => `(tactic| assumption)
local macro_rules | `(tactic| walk_at "binaryOp RShift int int") => `(tactic| (k_here; (with_reducible refine rshift_int ?kn ?_); (case kn => first | assumption | omega)))
local macro_rules | `(tactic| walk_at "binaryOp LShift int int") => `(tactic| (k_here; (with_reducible refine lshift_int ?kn ?ks ?_); (case kn => first | assumption | omega); (case ks => first | assumption | omega)))
theorem i1 (w : World) (f la cA cI cN c' : Addr) (oA oI oN oc : Obj) (doc pm ctv : Value) (vs0 : Array Value) (tq : Tok) (n : Int) (tn : Tok) (rest : List (Addr × Obj))
    (hf : (f, fnMade "inner" "_int2digits.<locals>.inner" params1 body1 scope1 [("n", cN), ("inner", cI), ("a_digits", cA)] doc pm c' ctv) ∈ rest)
    (hc : (c', oc) ∈ rest) (hc1 : oc.data = .fields vs0) (hc2 : vs0[1]? = some (.str "_int2digits.<locals>.inner" tq))
    (hA : (cA, oA) ∈ rest) (hA1 : oA.data = .cell (some (.ref la))) (hI : (cI, oI) ∈ rest) (hI1 : oI.data = .cell (some (.ref f))) (hN : (cN, oN) ∈ rest) (hN1 : oN.data = .cell (some (.int n tn)))
    (hla : ∀ p ∈ rest, p.1 ≠ la) (hn : 0 < n) (hn2 : n ≤ 50) :
    ∀ k : Nat, 0 < k → ∀ (x lo hi : Int) (tx tl th : Tok) (vs : List Value) (ns : List Int) (cnt : Nat), IntsAre vs ns → ns.length ≤ 100 → 0 ≤ x → Builtin.Int.intBits x ≤ 5000 → 0 ≤ lo → hi = lo + k → hi ≤ ns.length →
      Spec w f (k + 2) (8 * k + 16) ((la, W.listOf vs.toArray cnt) :: rest) [.int x tx, .int lo tl, .int hi th] fun v news' =>
        v = .none ∧ ∃ vs' cnt', IntsAre vs' (fill (2 ^ n.toNat) x lo.toNat k ns) ∧ news' = (la, W.listOf vs'.toArray cnt') :: rest := by
  intro k
  induction k using Nat.strongRecOn with
  | ind k IH =>
  intro hk0 x lo hi tx tl th vs ns cnt hi1 hlen hx hxb hlo hhi hhi2
  have hlit := hf
  unfold params1 body1 scope1 litOf at hlit
  clear hf
  by_cases hk1 : k = 1
  · unfold Spec
    k_fill
    intros p loose mean mg mb dp un' gd cn cs ad ccd cl outer A₀ base h₀ L m s Q E B F X N T C1 C2 hk hd hu ret
    refine wpAny_call ?_
    k_dflt (refine' code_nest ?k1 ?k2 ?k3 ?k4 ?k5 ?kA ?kF ?kK ?k6 ?k7 ?k8 ?k9 ?kB ?_ ?c2 ?c3 ?c4 ?c5; (case kA => exact rfl); (case kF => exact rfl); (case kK => first | exact rfl | assumption); (case k1 => k_asm); (case k2 => k_asm); (case k3 => k_asm); (case k4 => k_asm); (case k5 => k_asm); (case k6 => k_mem); (case k7 => exact codeRec_news (by k_asm) (by k_mem) (by assumption) (by assumption)); (case k8 => ktr_room); (case k9 => exact BindsTo.of_eq rfl); (case c5 => decide); (case kB => exact locs rfl); (case c2 => exact rfl); (case c3 => exact rfl); (case c4 => exact rfl); k_whole; intro g' L' h' FG' F' N' B' X' T'; (try dsimp only); (try k_lift B'); (try k_fold))
    k_steps
    any_goals (exfalso; omega)
    refine ret _ _ _ _ ⟨rfl, _, _, ?_, rfl⟩ (by assumption) (by assumption)
    subst hk1
    rw [fill_one (by omega)]
    assumption
  · have hB : (0 : Int) < 2 ^ n.toNat := kbt_pos _
    have hE := fdiv_two (lo + hi)
    have hE1 : lo < (lo + hi).fdiv (2 ^ Int.toNat 1) := by rw [hE]; omega
    have hE2 : (lo + hi).fdiv (2 ^ Int.toNat 1) < hi := by rw [hE]; omega
    obtain ⟨j, hj⟩ : ∃ j : Nat, (lo + hi).fdiv (2 ^ Int.toNat 1) = lo + j := ⟨((lo + hi).fdiv (2 ^ Int.toNat 1) - lo).toNat, by omega⟩
    have hj0 : 0 < j := by omega
    have hjk : j < k := by omega
    have hs0 : 0 ≤ ((lo + hi).fdiv (2 ^ Int.toNat 1) - lo) * n := Int.mul_nonneg (by omega) (by omega)
    have hs1 : ((lo + hi).fdiv (2 ^ Int.toNat 1) - lo) * n ≤ 5000 := by
      have h1 : ((lo + hi).fdiv (2 ^ Int.toNat 1) - lo) * n ≤ 100 * n := Int.mul_le_mul_of_nonneg_right (by omega) (by omega)
      omega
    have hub : Builtin.Int.intBits (x.fdiv (2 ^ (((lo + hi).fdiv (2 ^ Int.toNat 1) - lo) * n).toNat)) ≤ 5000 := intBits_fdiv_le hxb
    have hsh : (Builtin.Int.intBits (x.fdiv (2 ^ (((lo + hi).fdiv (2 ^ Int.toNat 1) - lo) * n).toNat)) : Int) + ((lo + hi).fdiv (2 ^ Int.toNat 1) - lo) * n ≤ 2 ^ 27 := by
      have : (2 : Int) ^ 27 = 134217728 := by decide
      rw [this]; omega
    have hS : (((lo + hi).fdiv (2 ^ Int.toNat 1) - lo) * n).toNat = n.toNat * j := by
      rw [hj, show lo + (j : Int) - lo = j by omega]
      have h1 : ((j : Int) * n) = ((n.toNat * j : Nat) : Int) := by
        rw [Int.natCast_mul, Int.toNat_of_nonneg (by omega), Int.mul_comm]
      rw [h1, Int.toNat_natCast]
    have hup : x.fdiv (2 ^ (((lo + hi).fdiv (2 ^ Int.toNat 1) - lo) * n).toNat) = x / (2 ^ n.toNat) ^ j := by
      rw [hS, fdiv_pow, Int.pow_mul]
    have hlow : Builtin.bitXor x (x.fdiv (2 ^ (((lo + hi).fdiv (2 ^ Int.toNat 1) - lo) * n).toNat) * 2 ^ (((lo + hi).fdiv (2 ^ Int.toNat 1) - lo) * n).toNat) = x % (2 ^ n.toNat) ^ j := by
      rw [hS, fdiv_pow, xor_low hx, Int.pow_mul]
    have hBj : (0 : Int) < (2 ^ n.toNat) ^ j := Int.pow_pos hB
    have hl0 := Int.emod_nonneg x (show ((2 : Int) ^ n.toNat) ^ j ≠ 0 by omega)
    have hu0 : 0 ≤ x / (2 ^ n.toNat) ^ j := Int.ediv_nonneg hx (Int.le_of_lt hBj)
    have hl1 : x % (2 ^ n.toNat) ^ j ≤ x := by
      have h1 := Int.emod_add_mul_ediv x ((2 ^ n.toNat) ^ j)
      have h2 := Int.mul_nonneg (Int.le_of_lt hBj) hu0
      omega
    have hmul : ((k - j : Nat) : Int) = k - j := by omega
    unfold Spec
    k_fill
    intros p loose mean mg mb dp un' gd cn cs ad ccd cl outer A₀ base h₀ L m s Q E B F X N T C1 C2 hk hd hu ret
    refine wpAny_call ?_
    k_dflt (refine' code_nest ?k1 ?k2 ?k3 ?k4 ?k5 ?kA ?kF ?kK ?k6 ?k7 ?k8 ?k9 ?kB ?_ ?c2 ?c3 ?c4 ?c5; (case kA => exact rfl); (case kF => exact rfl); (case kK => first | exact rfl | assumption); (case k1 => k_asm); (case k2 => k_asm); (case k3 => k_asm); (case k4 => k_asm); (case k5 => k_asm); (case k6 => k_mem); (case k7 => exact codeRec_news (by k_asm) (by k_mem) (by assumption) (by assumption)); (case k8 => ktr_room); (case k9 => exact BindsTo.of_eq rfl); (case c5 => decide); (case kB => exact locs rfl); (case c2 => exact rfl); (case c3 => exact rfl); (case c4 => exact rfl); k_whole; intro g' L' h' FG' F' N' B' X' T'; (try dsimp only); (try k_lift B'); (try k_fold))
    k_steps
    any_goals (exfalso; omega)
    rw [hlow]
    refine' spec_use (IH j hjk hj0 (x % (2 ^ n.toNat) ^ j) lo _ _ _ _ vs ns cnt hi1 hlen hl0 ?qa1 hlo ?qa2 ?qa3) ?k1x1 ?k2x1 ?k3x1 ?k4x1 ?k5x1 ?k6x1 ?k7x1 ?k8x1 ?kdx1 ?kux1 ?kretx1
    case qa1 => exact intBits_le_of_natAbs (by omega) hxb
    case qa2 => exact hj
    case qa3 => omega
    (case k1x1 => k_asm); (case k2x1 => k_asm); (case k3x1 => k_asm); (case k4x1 => k_asm); (case k5x1 => k_asm); (case k6x1 => assumption); (case k7x1 => assumption); (case k8x1 => first | exact rfl | assumption); (case kdx1 => ktr_room); (case kux1 => ktr_units)
    intro v9 news9 h' tk' hp9 F' N'
    obtain ⟨e1, vs2, cnt2, hi2, e2⟩ := hp9
    subst e1 e2
    have hlen2 := fill_length (B := 2 ^ n.toNat) (x := x % (2 ^ n.toNat) ^ j) (lo := lo.toNat) (k := j) (ns := ns) (by omega)
    dsimp only
    k_steps
    have hub2 := hub
    rw [hup] at hub2 ⊢
    refine' spec_use (IH (k - j) (by omega) (by omega) (x / (2 ^ n.toNat) ^ j) ((lo + hi).fdiv (2 ^ Int.toNat 1)) hi _ _ _ vs2 _ cnt2 hi2 ?qb0 hu0 hub2 ?qb1 ?qb2 ?qb3) ?k1x2 ?k2x2 ?k3x2 ?k4x2 ?k5x2 ?k6x2 ?k7x2 ?k8x2 ?kdx2 ?kux2 ?kretx2
    case qb0 => omega
    case qb1 => omega
    case qb2 => omega
    case qb3 => omega
    (case k1x2 => k_asm); (case k2x2 => k_asm); (case k3x2 => k_asm); (case k4x2 => k_asm); (case k5x2 => k_asm); (case k6x2 => assumption); (case k7x2 => assumption); (case k8x2 => first | exact rfl | assumption); (case kdx2 => ktr_room); (case kux2 => ktr_units)
    intro v9 news9 h' tk' hp9 F' N'
    obtain ⟨e1, vs3, cnt3, hi3, e2⟩ := hp9
    subst e1 e2
    dsimp only
    k_steps
    refine ret _ _ _ _ ⟨rfl, vs3, cnt3, ?_, rfl⟩ (by assumption) (by assumption)
    rw [hj, show (lo + (j : Int)).toNat = lo.toNat + j by omega, fill_fill hB hj0 (by omega) (by omega), show j + (k - j) = k by omega] at hi3
    exact hi3
theorem i1_use {w : World} {f la cA cI cN c' : Addr} {oA oI oN oc : Obj} {doc pm ctv : Value} {vs0 : Array Value} {tq : Tok} {n : Int} {tn : Tok} {rest : List (Addr × Obj)}
    {k : Nat} {x lo hi : Int} {tx tl th : Tok} {vs : List Value} {ns : List Int} {cnt : Nat}
    (hf : (f, fnMade "inner" "_int2digits.<locals>.inner" params1 body1 scope1 [("n", cN), ("inner", cI), ("a_digits", cA)] doc pm c' ctv) ∈ rest)
    (hc : (c', oc) ∈ rest) (hc1 : oc.data = .fields vs0) (hc2 : vs0[1]? = some (.str "_int2digits.<locals>.inner" tq))
    (hA : (cA, oA) ∈ rest) (hA1 : oA.data = .cell (some (.ref la))) (hI : (cI, oI) ∈ rest) (hI1 : oI.data = .cell (some (.ref f))) (hN : (cN, oN) ∈ rest) (hN1 : oN.data = .cell (some (.int n tn)))
    (hla : ∀ p ∈ rest, p.1 ≠ la) (hn : 0 < n) (hn2 : n ≤ 50) (hk : 0 < k) (hi1 : IntsAre vs ns) (hlen : ns.length ≤ 100) (hx : 0 ≤ x) (hxb : Builtin.Int.intBits x ≤ 5000) (hlo : 0 ≤ lo) (hhi : hi = lo + k) (hhi2 : hi ≤ ns.length) :
      Spec w f (k + 2) (8 * k + 16) ((la, W.listOf vs.toArray cnt) :: rest) [.int x tx, .int lo tl, .int hi th] fun v news' =>
        v = .none ∧ ∃ vs' cnt', IntsAre vs' (fill (2 ^ n.toNat) x lo.toNat k ns) ∧ news' = (la, W.listOf vs'.toArray cnt') :: rest :=
  i1 w f la cA cI cN c' oA oI oN oc doc pm ctv vs0 tq n tn rest hf hc hc1 hc2 hA hA1 hI hI1 hN hN1 hla hn hn2 k hk x lo hi tx tl th vs ns cnt hi1 hlen hx hxb hlo hhi hhi2
end Mine
/-! part M4a -/
namespace Mine
local macro_rules | `(tactic| walk_at "mine pad") => `(tactic| fail)
local macro_rules | `(tactic| walk_at "mine pad") => `(tactic| fail)
local macro_rules | `(tactic| walk_at "mine pad") => `(tactic| fail)
local macro_rules | `(tactic| walk_at "mine pad") => `(tactic| fail)
local macro_rules | `(tactic| walk_at "mine pad") => `(tactic| fail)
def TabOk (line col : Nat) (qual : Str) (ps : Array Value) (rest : List (Addr × Obj)) : Prop :=
  ps = #[] ∨ ∃ c' oc vs t, ps = #[rawInt line, rawInt col, .ref c'] ∧ (c', oc) ∈ rest ∧ oc.data = .fields vs ∧ vs[1]? = some (.str qual t)
abbrev Tab1 (ps : Array Value) (rest : List (Addr × Obj)) : Prop := TabOk 32 4 "_int2digits.<locals>.inner" ps rest
theorem TabOk.mono {line col : Nat} {qual : Str} {ps : Array Value} {r r' : List (Addr × Obj)} (h : TabOk line col qual ps r) (hs : ∀ p ∈ r, p ∈ r') : TabOk line col qual ps r' := by
  rcases h with h | ⟨c', oc, vs, t, e, hm, h1, h2⟩
  · exact .inl h
  · exact .inr ⟨c', oc, vs, t, e, hs _ hm, h1, h2⟩
def Apart (a : Addr) (l : List (Addr × Obj)) : Prop := ∀ p ∈ l, p.1 ≠ a
def Over (news ex : List (Addr × Obj)) : Prop := ∀ q ∈ news, ∀ p ∈ ex, @LT.lt Nat _ q.1 p.1
theorem allLt_get {d : Addr} : ∀ {l : List (Addr × Obj)}, AllLt d l → ∀ p ∈ l, @LT.lt Nat _ p.1 d
  | [], _, _, hp => nomatch hp
  | q :: r, h, p, hp => by
    rcases List.mem_cons.mp hp with rfl | hp
    · exact h.1
    · exact allLt_get h.2 p hp
theorem ints_replicate (t : Tok) (k : Nat) : IntsAre (List.replicate k (Value.int 0 t)) (List.replicate k 0) := by
  induction k with
  | zero => exact .nil
  | succ k ih => exact .cons 0 t ih
theorem flat_one {α : Type} (v : α) (k : Nat) : (List.replicate k [v]).flatten = List.replicate k v := by
  induction k with
  | zero => rfl
  | succ k ih => rw [List.replicate_succ, List.flatten_cons, ih]; rfl
theorem mul_zeros {prog : Program} {w : World} {A : Around} {E : Value → Shared → Prop} {s : Shared} {h₀ : Heap} {L : Addr} {m : Str → Option Value} {news : List (Addr × Obj)} {l : Addr} {t : Tok} {x : Int} {u : Tok} {Q : Value → Shared → Prop}
    (Fm : Fr h₀ L s.heap m) (N : News h₀ L s.heap news) (hl : s.heap.IsList l #[Value.int 0 t]) (hlo : 0 ≤ x) (hhi : x ≤ 100)
    (h : ∀ D h' vs ns, Fr h₀ L h' m → News h₀ L h' ((D, W.listOf vs.toArray 0) :: news) → IntsAre vs ns → ns = List.replicate x.toNat 0 → (ns.length : Int) = x → (∀ p ∈ news, p.1 < D) → Q (.ref D) { s with heap := h' }) : wpAny (model prog w) A (binaryOp .Mult (.ref l) (.int x u)) Q E s := by
  refine KMa.mul (vs := [Value.int 0 t]) (ws := List.replicate x.toNat (Value.int 0 t)) Fm N hl (by omega) (by omega) ?_ ?_ fun D h' F' N' l1 => h D h' _ _ F' N' (ints_replicate t _) rfl (by rw [List.length_replicate]; omega) l1
  · simp only [List.length_cons, List.length_nil]; omega
  · exact flat_one _ _
theorem fill_all (B x : Int) (k : Nat) : fill B x 0 k (List.replicate k 0) = digs B x k := by
  unfold fill
  rw [List.take_zero, Nat.zero_add, List.drop_of_length_le (by rw [List.length_replicate]; exact Nat.le_refl _), List.append_nil, List.nil_append]
theorem tail_mem {p : Addr × Obj} {q : Addr × Obj} {l : List (Addr × Obj)} (h : p ∈ l) : p ∈ q :: l := List.mem_cons_of_mem _ h
theorem news_two {h₀ h : Heap} {L : Addr} {a b : Addr × Obj} {l : List (Addr × Obj)} (N : News h₀ L h l) (ha : a ∈ l) (hb : b ∈ l) {r : List (Addr × Obj)} (hr : ∀ p ∈ r, p ∈ l) : News h₀ L h (a :: b :: r) := fun p hp => by
  rcases List.mem_cons.mp hp with rfl | hp
  · exact N _ ha
  · rcases List.mem_cons.mp hp with rfl | hp
    · exact N _ hb
    · exact N _ (hr p hp)
theorem news_one {h₀ h : Heap} {L : Addr} {a : Addr × Obj} {l : List (Addr × Obj)} (N : News h₀ L h l) (ha : a ∈ l) {r : List (Addr × Obj)} (hr : ∀ p ∈ r, p ∈ l) : News h₀ L h (a :: r) := fun p hp => by
  rcases List.mem_cons.mp hp with rfl | hp
  · exact N _ ha
  · exact N _ (hr p hp)
/-- an entry of the ledger and the others -/
inductive Pull (x : Addr × Obj) : List (Addr × Obj) → List (Addr × Obj) → Prop where
  | head {r : List (Addr × Obj)} : Pull x (x :: r) r
  | tail {q : Addr × Obj} {r r' : List (Addr × Obj)} : Pull x r r' → Pull x (q :: r) (q :: r')
theorem Pull.mem {x : Addr × Obj} {l r : List (Addr × Obj)} (h : Pull x l r) : ∀ p, p ∈ x :: r → p ∈ l := by
  induction h with
  | head => exact fun p hp => hp
  | tail h ih =>
    intro p hp
    rcases List.mem_cons.mp hp with rfl | hp
    · exact List.mem_cons_of_mem _ (ih _ (List.mem_cons_self ..))
    · rcases List.mem_cons.mp hp with rfl | hp
      · exact List.mem_cons_self ..
      · exact List.mem_cons_of_mem _ (ih _ (List.mem_cons_of_mem _ hp))
theorem Pull.news {h₀ h : Heap} {L : Addr} {x : Addr × Obj} {l r : List (Addr × Obj)} (P : Pull x l r) (N : News h₀ L h l) : News h₀ L h (x :: r) := fun p hp => N p (P.mem p hp)
theorem lt_three {p1 p2 : Array Value} {rest : List (Addr × Obj)} {L' x : Addr} (h1 : @LT.lt Nat _ 37 x) (h2 : @LT.lt Nat _ 30 x) (hr : AllLt L' rest) (hL : @LE.le Nat _ L' x) : ∀ q ∈ ((37, tabObj p1) : Addr × Obj) :: (30, tabObj p2) :: rest, @LT.lt Nat _ q.1 x := fun q hq => by
  rcases List.mem_cons.mp hq with rfl | hq
  · exact h1
  · rcases List.mem_cons.mp hq with rfl | hq
    · exact h2
    · exact Nat.lt_of_lt_of_le (allLt_get hr q hq) hL
abbrev PostI (a : Int) (n : Int) (p1 p2 : Array Value) (rest : List (Addr × Obj)) (v : Value) (news' : List (Addr × Obj)) : Prop :=
      ∃ la vs cnt p2' ex, v = .ref la ∧ news' = (la, W.listOf vs.toArray cnt) :: (37, tabObj p1) :: (30, tabObj p2') :: (rest ++ ex) ∧ IntsAre vs (digs (2 ^ n.toNat) a (((Builtin.Int.intBits a : Int) + n - 1).fdiv n).toNat) ∧
        (∀ r0, Tab1 p2 r0 → Tab1 p2' (r0 ++ ex)) ∧ (∀ q ∈ ((37, tabObj p1) : Addr × Obj) :: (30, tabObj p2) :: rest, @LT.lt Nat _ q.1 la) ∧ Over ((37, tabObj p1) :: (30, tabObj p2) :: rest) ex
theorem finI1 {a n : Int} {p1 p2 : Array Value} {rest kled : List (Addr × Obj)} {h₀ : Heap} {L L' : Addr} {m : Str → Option Value} {s : Shared} {Q : Value → Shared → Prop} {la c' : Addr} {vs : List Value} {cnt : Nat} {oc : Obj} {vs0 : Array Value} {t : Tok} {h' : Heap} {tk' : Nat}
    (ret : ∀ v news' h' tk', PostI a n p1 p2 rest v news' → Fr h₀ L h' m → News h₀ L h' news' → Q v { s with heap := h', toks := tk' })
    (kF : Fr h₀ L h' m) (kN : News h₀ L h' kled) (hm1 : (la, W.listOf vs.toArray cnt) ∈ kled) (hm2 : (37, tabObj p1) ∈ kled) (hm3 : (30, tabObj #[rawInt (32 : Nat), rawInt (4 : Nat), .ref c']) ∈ kled) (hm4 : (c', oc) ∈ kled) (hr : ∀ p ∈ rest, p ∈ kled)
    (hi : IntsAre vs (digs (2 ^ n.toNat) a (((Builtin.Int.intBits a : Int) + n - 1).fdiv n).toNat)) (hd : oc.data = .fields vs0) (hd2 : vs0[1]? = some (.str "_int2digits.<locals>.inner" t))
    (hA : AllLt L' rest) (h1 : @LT.lt Nat _ 37 L') (h2 : @LT.lt Nat _ 30 L') (h3 : @LE.le Nat _ L' la) (h4 : @LE.le Nat _ L' c') : Q (.ref la) { s with heap := h', toks := tk' } := by
  refine ret _ _ _ _ ⟨la, vs, cnt, _, [(c', oc)], rfl, rfl, hi, fun _ _ => .inr ⟨c', oc, vs0, t, rfl, List.mem_append_right _ (List.Mem.head _), hd, hd2⟩, lt_three (by omega) (by omega) hA h3, fun q hq p hp => ?_⟩ kF ?_
  · rw [List.mem_singleton.mp hp]
    exact lt_three (by omega) (by omega) hA h4 q hq
  · intro p hp
    rcases List.mem_cons.mp hp with rfl | hp
    · exact kN _ hm1
    · rcases List.mem_cons.mp hp with rfl | hp
      · exact kN _ hm2
      · rcases List.mem_cons.mp hp with rfl | hp
        · exact kN _ hm3
        · rcases List.mem_append.mp hp with hp | hp
          · exact kN _ (hr p hp)
          · rw [List.mem_singleton.mp hp]; exact kN _ hm4
theorem finI2 {a n : Int} {p1 p2 : Array Value} {rest kled : List (Addr × Obj)} {h₀ : Heap} {L L' : Addr} {m : Str → Option Value} {s : Shared} {Q : Value → Shared → Prop} {la : Addr} {vs : List Value} {cnt : Nat} {h' : Heap} {tk' : Nat}
    (ret : ∀ v news' h' tk', PostI a n p1 p2 rest v news' → Fr h₀ L h' m → News h₀ L h' news' → Q v { s with heap := h', toks := tk' })
    (kF : Fr h₀ L h' m) (kN : News h₀ L h' kled) (hm1 : (la, W.listOf vs.toArray cnt) ∈ kled) (hm2 : (37, tabObj p1) ∈ kled) (hm3 : (30, tabObj p2) ∈ kled) (hr : ∀ p ∈ rest, p ∈ kled)
    (hi : IntsAre vs (digs (2 ^ n.toNat) a (((Builtin.Int.intBits a : Int) + n - 1).fdiv n).toNat))
    (hA : AllLt L' rest) (h1 : @LT.lt Nat _ 37 L') (h2 : @LT.lt Nat _ 30 L') (h3 : @LE.le Nat _ L' la) : Q (.ref la) { s with heap := h', toks := tk' } := by
  refine ret _ _ _ _ ⟨la, vs, cnt, p2, [], rfl, rfl, hi, (fun r0 h0 => h0.mono fun p hp => List.mem_append_left _ hp), lt_three (by omega) (by omega) hA h3, fun q hq p hp => nomatch hp⟩ kF ?_
  · intro p hp
    rcases List.mem_cons.mp hp with rfl | hp
    · exact kN _ hm1
    · rcases List.mem_cons.mp hp with rfl | hp
      · exact kN _ hm2
      · rcases List.mem_cons.mp hp with rfl | hp
        · exact kN _ hm3
        · rw [List.append_nil] at hp
          exact kN _ (hr p hp)
end Mine
/-! part M4 -/
namespace Mine
local macro_rules | `(tactic| walk_at "mine pad") => `(tactic| fail)
local macro_rules | `(tactic| walk_at "mine pad") => `(tactic| fail)
local macro_rules | `(tactic| walk_at "mine pad") => `(tactic| fail)
local macro_rules | `(tactic| walk_at "mine pad") => `(tactic| fail)
local macro_rules | `(tactic| walk_at "mine pad") => `(tactic| fail)
local macro_rules | `(tactic| k_all) => `(tactic| first | assumption | exact ne_of_allLt (by assumption) (by omega))
local macro_rules | `(tactic| k_mem) => `(tactic| assumption)
local macro_rules | `(tactic| walk_at "binaryOp Mult ref int") => `(tactic| (k_here; (with_reducible show wpAny _ _ (binaryOp Operator.Mult (Value.ref _) (Value.int _ _)) _ _ _); k_dflt (refine' mul_zeros ?F ?N ?l ?lo ?hi ?_; (case F => k_asm); (case N => k_asm); (case l => is_list); (case lo => first | assumption | omega); (case hi => first | assumption | omega); k_whole); intro D' h' vs' ns' F' N' hi' hns' hlen' l1; (try k_lt l1); (try k_sweep)))
theorem c_i2d (w : World) (a n : Int) (ta tn : Tok) (p1 p2 : Array Value) (rest : List (Addr × Obj)) (ha : 0 ≤ a) (hn : 0 < n) (hn2 : n ≤ 50) (hb : Builtin.Int.intBits a ≤ 50)
    (ht : Tab1 p2 rest) (hr1 : ∀ p ∈ rest, p.1 ≠ 30) :
    Spec w 35 110 1000 ((37, tabObj p1) :: (30, tabObj p2) :: rest) [.int a ta, .int n tn] (PostI a n p1 p2 rest) := by
  have h0 : 0 ≤ ((Builtin.Int.intBits a : Int) + n - 1).fdiv n := by
    rw [Int.fdiv_eq_ediv_of_nonneg _ (by omega)]
    exact Int.ediv_nonneg (by omega) (by omega)
  have h1 : ((Builtin.Int.intBits a : Int) + n - 1).fdiv n ≤ 100 := by
    rw [Int.fdiv_eq_ediv_of_nonneg _ (by omega)]
    exact Int.le_trans (Int.ediv_le_self _ (by omega)) (by omega)
  have hdig : 0 < a → 0 < (((Builtin.Int.intBits a : Int) + n - 1).fdiv n).toNat := by
    intro h9
    have hb1 : 1 ≤ Builtin.Int.intBits a := by
      unfold Builtin.Int.intBits
      rw [if_neg (by simpa using (show a ≠ 0 by omega))]
      omega
    have : (1 : Int) ≤ ((Builtin.Int.intBits a : Int) + n - 1).fdiv n := by
      rw [Int.fdiv_eq_ediv_of_nonneg _ (by omega)]
      exact (Int.le_ediv_iff_mul_le hn).mpr (by omega)
    omega
  have hdig0 : a = 0 → (((Builtin.Int.intBits a : Int) + n - 1).fdiv n).toNat = 0 := by
    intro h9
    have hb1 : Builtin.Int.intBits a = 0 := by rw [h9]; rfl
    rw [hb1, Int.fdiv_eq_ediv_of_nonneg _ (by omega), Int.ediv_eq_zero_of_lt (by omega) (by omega)]
    rfl
  have hEnd : ∀ ns vs, IntsAre vs ns → a = 0 → ns = List.replicate (((Builtin.Int.intBits a : Int) + n - 1).fdiv n).toNat 0 → IntsAre vs (digs (2 ^ n.toNat) a (((Builtin.Int.intBits a : Int) + n - 1).fdiv n).toNat) := by
    intro ns vs h9 h8 h7
    rw [hdig0 h8] at h7 ⊢
    rw [h7] at h9
    exact h9
  have hEnd2 : ∀ (ns : List Int) vs', ns = List.replicate (((Builtin.Int.intBits a : Int) + n - 1).fdiv n).toNat 0 → IntsAre vs' (fill (2 ^ n.toNat) a (Int.toNat 0) (((Builtin.Int.intBits a : Int) + n - 1).fdiv n).toNat ns) → IntsAre vs' (digs (2 ^ n.toNat) a (((Builtin.Int.intBits a : Int) + n - 1).fdiv n).toNat) := by
    intro ns vs' h7 h9
    rw [h7, show Int.toNat 0 = 0 from rfl, fill_all] at h9
    exact h9
  unfold Spec
  k_fill
  intros p loose mean mg mb dp un' gd cn cs ad ccd cl outer A₀ base h₀ L m s Q E B F X N T C1 C2 hk hd hu ret
  refine wpAny_call ?_
  k_dflt (refine' code_defC ?k1 ?k2 ?k3 ?k4 ?k5 ?kA ?kF ?kK ?k6 ?k7 ?k8 ?k9 ?kB ?kD ?_ ?c2 ?c3 ?c4; (case kA => exact rfl); (case kF => exact rfl); (case kK => first | exact rfl | assumption); (case k1 => k_asm); (case k2 => k_asm); (case k3 => k_asm); (case k4 => k_asm); (case k5 => k_asm); (case k6 => k_is); (case k7 => k_is); (case k8 => ktr_room); (case k9 => first | exact BindsTo.of_eq rfl | exact binds_K (by k_in) rfl (by k_is) rfl rfl rfl); (case kB => exact rfl); (case kD => decide +kernel); (case c2 => exact rfl); (case c3 => exact rfl); (case c4 => exact rfl); k_whole; intro g' L' h' tk' cells' FG' F' N' Y' B' X' T' l1; (try k_lt l1); k_cells Y'; (try simp only [List.cons_append, List.nil_append] at N'); (try dsimp only); (try k_lift B'); (try k_fold))
  obtain ⟨hL1, hL2, hAL⟩ := l1
  by_cases ha0 : a = 0
  · rcases ht with rfl | ⟨c₁, oc₁, vs₁, tq, rfl, hmem, hd1, hd2⟩
    · k_steps
      any_goals (exfalso; omega)
      refine' finI1 ret ?f1y1 ?f2y1 ?f3y1 ?f4y1 ?f5y1 ?f6y1 ?f7y1 ?f8y1 ?f9y1 ?f10y1 hAL ?g1y1 ?g2y1 ?g3y1 ?g4y1
      (case f1y1 => assumption)
      (case f2y1 => assumption)
      (case f8y1 => exact hEnd _ _ (by assumption) ha0 (by assumption))
      (case f3y1 => k_mem)
      (case f4y1 => k_mem)
      (case f5y1 => k_mem)
      (case f6y1 => k_mem)
      (case f7y1 => (intro p9 hp9; repeat (first | exact hp9 | refine List.mem_cons_of_mem _ ?_)))
      (case f9y1 => assumption)
      (case f10y1 => assumption)
      (case g1y1 => omega)
      (case g2y1 => omega)
      (case g3y1 => omega)
      (case g4y1 => omega)
    · have ht : Tab1 #[rawInt (32 : Nat), rawInt (4 : Nat), .ref c₁] rest := .inr ⟨c₁, oc₁, vs₁, tq, rfl, hmem, hd1, hd2⟩
      k_steps
      any_goals (exfalso; omega)
      refine' finI2 ret ?f1y2 ?f2y2 ?f3y2 ?f4y2 ?f5y2 ?f7y2 ?f8y2 hAL ?g1y2 ?g2y2 ?g3y2
      (case f1y2 => assumption)
      (case f2y2 => assumption)
      (case f8y2 => exact hEnd _ _ (by assumption) ha0 (by assumption))
      (case f3y2 => k_mem)
      (case f4y2 => k_mem)
      (case f5y2 => k_mem)
      (case f7y2 => (intro p9 hp9; repeat (first | exact hp9 | refine List.mem_cons_of_mem _ ?_)))
      (case g1y2 => omega)
      (case g2y2 => omega)
      (case g3y2 => omega)
  · have hdig1 := hdig (by omega)
    rcases ht with rfl | ⟨c₁, oc₁, vs₁, tq, rfl, hmem, hd1, hd2⟩
    · k_steps
      any_goals (exfalso; omega)
      refine' spec_use (i1_use (n := n) (k := (((Builtin.Int.intBits a : Int) + n - 1).fdiv n).toNat) ?hfy3 ?hcy3 ?hc1y3 ?hc2y3 ?hAy3 ?hA1y3 ?hIy3 ?hI1y3 ?hNy3 ?hN1y3 ?hlay3 hn hn2 ?k0y3 ?hiy3 ?hly3 ha ?hby3 ?hzy3 ?hhy3 ?hley3) ?k1x1 ?k2x1 ?k3x1 ?k4x1 ?k5x1 ?k6x1 ?k7x1 ?k8x1 ?kdx1 ?kux1 ?kretx1
      (case k4x1 => (refine' Pull.news ?Py3 ?Ny3; (case Ny3 => k_asm); (case Py3 => (first | exact Pull.head | exact (Pull.tail Pull.head) | exact (Pull.tail (Pull.tail Pull.head)) | exact (Pull.tail (Pull.tail (Pull.tail Pull.head))) | exact (Pull.tail (Pull.tail (Pull.tail (Pull.tail Pull.head)))) | exact (Pull.tail (Pull.tail (Pull.tail (Pull.tail (Pull.tail Pull.head))))) | exact (Pull.tail (Pull.tail (Pull.tail (Pull.tail (Pull.tail (Pull.tail Pull.head)))))) | exact (Pull.tail (Pull.tail (Pull.tail (Pull.tail (Pull.tail (Pull.tail (Pull.tail Pull.head))))))) | exact (Pull.tail (Pull.tail (Pull.tail (Pull.tail (Pull.tail (Pull.tail (Pull.tail (Pull.tail Pull.head)))))))) | exact (Pull.tail (Pull.tail (Pull.tail (Pull.tail (Pull.tail (Pull.tail (Pull.tail (Pull.tail (Pull.tail Pull.head))))))))) | exact (Pull.tail (Pull.tail (Pull.tail (Pull.tail (Pull.tail (Pull.tail (Pull.tail (Pull.tail (Pull.tail (Pull.tail Pull.head)))))))))) | exact (Pull.tail (Pull.tail (Pull.tail (Pull.tail (Pull.tail (Pull.tail (Pull.tail (Pull.tail (Pull.tail (Pull.tail (Pull.tail Pull.head))))))))))) | exact (Pull.tail (Pull.tail (Pull.tail (Pull.tail (Pull.tail (Pull.tail (Pull.tail (Pull.tail (Pull.tail (Pull.tail (Pull.tail (Pull.tail Pull.head)))))))))))) | exact (Pull.tail (Pull.tail (Pull.tail (Pull.tail (Pull.tail (Pull.tail (Pull.tail (Pull.tail (Pull.tail (Pull.tail (Pull.tail (Pull.tail (Pull.tail Pull.head)))))))))))))))))
      (case hiy3 => assumption)
      (case hfy3 => k_mem)
      (case hcy3 => k_mem)
      (case hc1y3 => assumption)
      (case hc2y3 => assumption)
      (case hAy3 => k_mem)
      (case hA1y3 => assumption)
      (case hIy3 => k_mem)
      (case hI1y3 => assumption)
      (case hNy3 => k_mem)
      (case hN1y3 => assumption)
      (case hlay3 => (repeat' (first | (refine List.forall_mem_cons.mpr ⟨?_, ?_⟩) | k_ne | exact ne_of_allLt (by assumption) (by omega))))
      (case hby3 => omega)
      (case hzy3 => omega)
      (case k0y3 => omega)
      (case hly3 => omega)
      (case hhy3 => omega)
      (case hley3 => omega)
      (case kdx1 => (simp only [depth_deeper] at *; (try dsimp only [ktrTop] at *); omega))
      (case kux1 => ((have hcL9 := cLine_is); (simp only [units_deeper]; (try dsimp only [ktrTop]); omega)))
      (case k1x1 => k_asm); (case k2x1 => k_asm); (case k3x1 => k_asm); (case k5x1 => k_asm); (case k6x1 => assumption); (case k7x1 => assumption); (case k8x1 => first | exact rfl | assumption)
      intro v9 news9 h' tk' hp9 F' N'
      obtain ⟨e1, vs2, cnt2, hi2, e2⟩ := hp9
      subst e1 e2
      dsimp only
      k_steps
      refine' finI1 ret ?f1y4 ?f2y4 ?f3y4 ?f4y4 ?f5y4 ?f6y4 ?f7y4 ?f8y4 ?f9y4 ?f10y4 hAL ?g1y4 ?g2y4 ?g3y4 ?g4y4
      (case f1y4 => assumption)
      (case f2y4 => assumption)
      (case f8y4 => exact hEnd2 _ _ (by assumption) hi2)
      (case f3y4 => k_mem)
      (case f4y4 => k_mem)
      (case f5y4 => k_mem)
      (case f6y4 => k_mem)
      (case f7y4 => (intro p9 hp9; repeat (first | exact hp9 | refine List.mem_cons_of_mem _ ?_)))
      (case f9y4 => assumption)
      (case f10y4 => assumption)
      (case g1y4 => omega)
      (case g2y4 => omega)
      (case g3y4 => omega)
      (case g4y4 => omega)
    · have ht : Tab1 #[rawInt (32 : Nat), rawInt (4 : Nat), .ref c₁] rest := .inr ⟨c₁, oc₁, vs₁, tq, rfl, hmem, hd1, hd2⟩
      k_steps
      any_goals (exfalso; omega)
      refine' spec_use (i1_use (n := n) (k := (((Builtin.Int.intBits a : Int) + n - 1).fdiv n).toNat) ?hfy5 ?hcy5 ?hc1y5 ?hc2y5 ?hAy5 ?hA1y5 ?hIy5 ?hI1y5 ?hNy5 ?hN1y5 ?hlay5 hn hn2 ?k0y5 ?hiy5 ?hly5 ha ?hby5 ?hzy5 ?hhy5 ?hley5) ?k1x2 ?k2x2 ?k3x2 ?k4x2 ?k5x2 ?k6x2 ?k7x2 ?k8x2 ?kdx2 ?kux2 ?kretx2
      (case k4x2 => (refine' Pull.news ?Py5 ?Ny5; (case Ny5 => k_asm); (case Py5 => (first | exact Pull.head | exact (Pull.tail Pull.head) | exact (Pull.tail (Pull.tail Pull.head)) | exact (Pull.tail (Pull.tail (Pull.tail Pull.head))) | exact (Pull.tail (Pull.tail (Pull.tail (Pull.tail Pull.head)))) | exact (Pull.tail (Pull.tail (Pull.tail (Pull.tail (Pull.tail Pull.head))))) | exact (Pull.tail (Pull.tail (Pull.tail (Pull.tail (Pull.tail (Pull.tail Pull.head)))))) | exact (Pull.tail (Pull.tail (Pull.tail (Pull.tail (Pull.tail (Pull.tail (Pull.tail Pull.head))))))) | exact (Pull.tail (Pull.tail (Pull.tail (Pull.tail (Pull.tail (Pull.tail (Pull.tail (Pull.tail Pull.head)))))))) | exact (Pull.tail (Pull.tail (Pull.tail (Pull.tail (Pull.tail (Pull.tail (Pull.tail (Pull.tail (Pull.tail Pull.head))))))))) | exact (Pull.tail (Pull.tail (Pull.tail (Pull.tail (Pull.tail (Pull.tail (Pull.tail (Pull.tail (Pull.tail (Pull.tail Pull.head)))))))))) | exact (Pull.tail (Pull.tail (Pull.tail (Pull.tail (Pull.tail (Pull.tail (Pull.tail (Pull.tail (Pull.tail (Pull.tail (Pull.tail Pull.head))))))))))) | exact (Pull.tail (Pull.tail (Pull.tail (Pull.tail (Pull.tail (Pull.tail (Pull.tail (Pull.tail (Pull.tail (Pull.tail (Pull.tail (Pull.tail Pull.head)))))))))))) | exact (Pull.tail (Pull.tail (Pull.tail (Pull.tail (Pull.tail (Pull.tail (Pull.tail (Pull.tail (Pull.tail (Pull.tail (Pull.tail (Pull.tail (Pull.tail Pull.head)))))))))))))))))
      (case hiy5 => assumption)
      (case hfy5 => k_mem)
      (case hcy5 => k_mem)
      (case hc1y5 => assumption)
      (case hc2y5 => assumption)
      (case hAy5 => k_mem)
      (case hA1y5 => assumption)
      (case hIy5 => k_mem)
      (case hI1y5 => assumption)
      (case hNy5 => k_mem)
      (case hN1y5 => assumption)
      (case hlay5 => (repeat' (first | (refine List.forall_mem_cons.mpr ⟨?_, ?_⟩) | k_ne | exact ne_of_allLt (by assumption) (by omega))))
      (case hby5 => omega)
      (case hzy5 => omega)
      (case k0y5 => omega)
      (case hly5 => omega)
      (case hhy5 => omega)
      (case hley5 => omega)
      (case kdx2 => (simp only [depth_deeper] at *; (try dsimp only [ktrTop] at *); omega))
      (case kux2 => ((have hcL9 := cLine_is); (simp only [units_deeper]; (try dsimp only [ktrTop]); omega)))
      (case k1x2 => k_asm); (case k2x2 => k_asm); (case k3x2 => k_asm); (case k5x2 => k_asm); (case k6x2 => assumption); (case k7x2 => assumption); (case k8x2 => first | exact rfl | assumption)
      intro v9 news9 h' tk' hp9 F' N'
      obtain ⟨e1, vs2, cnt2, hi2, e2⟩ := hp9
      subst e1 e2
      dsimp only
      k_steps
      refine' finI2 ret ?f1y6 ?f2y6 ?f3y6 ?f4y6 ?f5y6 ?f7y6 ?f8y6 hAL ?g1y6 ?g2y6 ?g3y6
      (case f1y6 => assumption)
      (case f2y6 => assumption)
      (case f8y6 => exact hEnd2 _ _ (by assumption) hi2)
      (case f3y6 => k_mem)
      (case f4y6 => k_mem)
      (case f5y6 => k_mem)
      (case f7y6 => (intro p9 hp9; repeat (first | exact hp9 | refine List.mem_cons_of_mem _ ?_)))
      (case g1y6 => omega)
      (case g2y6 => omega)
      (case g3y6 => omega)
end Mine
/-! part MB -/
namespace Mine
local macro_rules | `(tactic| walk_at "mine pad") => `(tactic| fail)
local macro_rules | `(tactic| walk_at "mine pad") => `(tactic| fail)
local macro_rules | `(tactic| walk_at "mine pad") => `(tactic| fail)
local macro_rules | `(tactic| walk_at "mine pad") => `(tactic| fail)
local macro_rules | `(tactic| walk_at "mine pad") => `(tactic| fail)
local macro_rules | `(tactic| walk_at "mine pad") => `(tactic| fail)
local macro_rules | `(tactic| walk_at "mine pad") => `(tactic| fail)
/-- the number whose digits, least first, are ds -/
def val (B : Int) : List Int → Int
  | [] => 0
  | d :: r => d + B * val B r
theorem val_append (B : Int) : ∀ (a b : List Int), val B (a ++ b) = val B a + B ^ a.length * val B b
  | [], b => by show val B b = 0 + B ^ 0 * val B b; rw [Int.pow_zero, Int.one_mul, Int.zero_add]
  | d :: r, b => by
    show d + B * val B (r ++ b) = d + B * val B r + B ^ (r.length + 1) * val B b
    rw [val_append B r b, Int.mul_add, Int.pow_succ, Int.add_assoc, ← Int.mul_assoc, Int.mul_comm B (B ^ r.length)]
theorem val_bounds {B : Int} (hB : 0 < B) : ∀ (a : List Int), (∀ d ∈ a, 0 ≤ d ∧ d < B) → 0 ≤ val B a ∧ val B a < B ^ a.length
  | [], _ => ⟨Int.le_refl 0, by show (0 : Int) < B ^ 0; rw [Int.pow_zero]; decide⟩
  | d :: r, h => by
    have h1 := val_bounds hB r fun x hx => h x (List.mem_cons_of_mem _ hx)
    have h2 := h d (List.mem_cons_self ..)
    show 0 ≤ d + B * val B r ∧ d + B * val B r < B ^ (r.length + 1)
    rw [Int.pow_succ, Int.mul_comm (B ^ r.length) B]
    have h3 : 0 ≤ B * val B r := Int.mul_nonneg (Int.le_of_lt hB) h1.1
    have h4 : B * val B r ≤ B * (B ^ r.length - 1) := Int.mul_le_mul_of_nonneg_left (by omega) (Int.le_of_lt hB)
    rw [Int.mul_sub, Int.mul_one] at h4
    omega
theorem take_split {ns : List Int} {lo j m : Nat} : (ns.drop lo).take (j + m) = (ns.drop lo).take j ++ (ns.drop (lo + j)).take m := by
  rw [List.take_add, List.drop_drop]
theorem val_digs {B : Int} (hB : 0 < B) : ∀ (k : Nat) (x : Int), 0 < k → val B (digs B x k) = x
  | 0, _, h => absurd h (by omega)
  | 1, x, _ => by show x + B * 0 = x; omega
  | k + 2, x, _ => by
    show x % B + B * val B (digs B (x / B) (k + 1)) = x
    rw [val_digs hB (k + 1) (x / B) (by omega)]
    exact Int.emod_add_mul_ediv x B
theorem digs_bounds {B : Int} (hB : 0 < B) : ∀ (k : Nat) (x : Int), 0 ≤ x → x < B ^ k → ∀ d ∈ digs B x k, 0 ≤ d ∧ d < B
  | 0, _, _, _ => fun d hd => nomatch hd
  | 1, x, h0, h1 => fun d hd => by
    rw [List.mem_singleton.mp hd]
    rw [Int.pow_succ, Int.pow_zero, Int.one_mul] at h1
    exact ⟨h0, h1⟩
  | k + 2, x, h0, h1 => fun d hd => by
    rcases List.mem_cons.mp hd with rfl | hd
    · exact ⟨Int.emod_nonneg _ (by omega), Int.emod_lt_of_pos _ hB⟩
    · refine digs_bounds hB (k + 1) (x / B) (Int.ediv_nonneg h0 (Int.le_of_lt hB)) ?_ d hd
      exact Int.ediv_lt_of_lt_mul hB (by rw [← Int.pow_succ]; exact h1)
theorem getD_drop {ns : List Int} {lo : Nat} (h : lo < ns.length) : (ns.drop lo).take 1 = [ns.getD lo 0] := by
  rw [List.drop_eq_getElem_cons h, List.take_succ_cons, List.take_zero, List.getD_eq_getElem?_getD, List.getElem?_eq_getElem h, Option.getD_some]
/-- schoolbook division, digit by digit -/
theorem horner {B b : Int} {ds qs : List Int} {d r q r' : Int} (h : val B ds = val B qs * b + r) (h2 : r * B + d = q * b + r') : val B (d :: ds) = val B (q :: qs) * b + r' := by
  show d + B * val B ds = (q + B * val B qs) * b + r'
  rw [h, Int.mul_add, Int.add_mul, ← Int.mul_assoc, Int.mul_comm B r]
  omega
end Mine
/-! part M5 -/
namespace Mine
local macro_rules | `(tactic| walk_at "mine pad") => `(tactic| fail)
local macro_rules | `(tactic| walk_at "mine pad") => `(tactic| fail)
local macro_rules | `(tactic| walk_at "mine pad") => `(tactic| fail)
local macro_rules | `(tactic| walk_at "mine pad") => `(tactic| fail)
local macro_rules | `(tactic| walk_at "mine pad") => `(tactic| fail)
local macro_rules | `(tactic| walk_at "mine pad") => `(tactic| fail)
local macro_rules | `(tactic| k_all) => `(tactic| first | assumption | exact ne_of_allLt (by assumption) (by omega))
local macro_rules | `(tactic| k_mem) => `(tactic| assumption)
local macro_rules | `(tactic| walk_at "binaryOp RShift int int") => `(tactic| (k_here; (with_reducible refine rshift_int ?kn ?_); (case kn => first | assumption | omega)))
local macro_rules | `(tactic| walk_at "binaryOp LShift int int") => `(tactic| (k_here; (with_reducible refine lshift_int ?kn ?ks ?_); (case kn => first | assumption | omega); (case ks => first | assumption | omega)))
theorem i2 (w : World) (f la cA cI cN c' : Addr) (oA oI oN oc : Obj) (doc pm ctv : Value) (vs0 : Array Value) (tq : Tok) (n : Int) (tn : Tok) (news : List (Addr × Obj)) (vs : List Value) (ns : List Int) (cnt : Nat)
    (hf : (f, fnMade "inner" "_digits2int.<locals>.inner" params2 body2 scope2 [("n", cN), ("inner", cI), ("digits", cA)] doc pm c' ctv) ∈ news)
    (hc : (c', oc) ∈ news) (hc1 : oc.data = .fields vs0) (hc2 : vs0[1]? = some (.str "_digits2int.<locals>.inner" tq))
    (hA : (cA, oA) ∈ news) (hA1 : oA.data = .cell (some (.ref la))) (hI : (cI, oI) ∈ news) (hI1 : oI.data = .cell (some (.ref f))) (hN : (cN, oN) ∈ news) (hN1 : oN.data = .cell (some (.int n tn)))
    (hla : (la, W.listOf vs.toArray cnt) ∈ news) (hi1 : IntsAre vs ns) (hlen : ns.length ≤ 100) (hdg : ∀ d ∈ ns, 0 ≤ d ∧ d < 2 ^ n.toNat) (hn : 0 < n) (hn2 : n ≤ 50) :
    ∀ k : Nat, 0 < k → ∀ (lo hi : Int) (tl th : Tok), 0 ≤ lo → hi = lo + k → hi ≤ ns.length →
      Spec w f (k + 2) (8 * k + 16) news [.int lo tl, .int hi th] fun v news' => news' = news ∧ ∃ t, v = .int (val (2 ^ n.toNat) ((ns.drop lo.toNat).take k)) t := by
  intro k
  induction k using Nat.strongRecOn with
  | ind k IH =>
  intro hk0 lo hi tl th hlo hhi hhi2
  have hlit := hf
  unfold params2 body2 scope2 litOf at hlit
  clear hf
  by_cases hk1 : k = 1
  · unfold Spec
    k_fill
    intros p loose mean mg mb dp un' gd cn cs ad ccd cl outer A₀ base h₀ L m s Q E B F X N T C1 C2 hk hd hu ret
    refine wpAny_call ?_
    k_dflt (refine' code_nest ?k1 ?k2 ?k3 ?k4 ?k5 ?kA ?kF ?kK ?k6 ?k7 ?k8 ?k9 ?kB ?_ ?c2 ?c3 ?c4 ?c5; (case kA => exact rfl); (case kF => exact rfl); (case kK => first | exact rfl | assumption); (case k1 => k_asm); (case k2 => k_asm); (case k3 => k_asm); (case k4 => k_asm); (case k5 => k_asm); (case k6 => k_mem); (case k7 => exact codeRec_news (by k_asm) (by k_mem) (by assumption) (by assumption)); (case k8 => ktr_room); (case k9 => exact BindsTo.of_eq rfl); (case c5 => decide); (case kB => exact locs rfl); (case c2 => exact rfl); (case c3 => exact rfl); (case c4 => exact rfl); k_whole; intro g' L' h' FG' F' N' B' X' T'; (try dsimp only); (try k_lift B'); (try k_fold))
    k_steps
    any_goals (exfalso; omega)
    have e9 : val (2 ^ n.toNat) ((ns.drop lo.toNat).take k) = ns.getD lo.toNat 0 := by
      rw [hk1, getD_drop (by omega)]
      show ns.getD lo.toNat 0 + 2 ^ n.toNat * 0 = _
      rw [Int.mul_zero, Int.add_zero]
    refine ret _ _ _ _ ⟨rfl, ?_⟩ (by assumption) (by assumption)
    rw [e9]
    exact ⟨_, rfl⟩
  · have hB : (0 : Int) < 2 ^ n.toNat := kbt_pos _
    have hE := fdiv_two (lo + hi)
    have hE1 : lo < (lo + hi).fdiv (2 ^ Int.toNat 1) := by rw [hE]; omega
    have hE2 : (lo + hi).fdiv (2 ^ Int.toNat 1) < hi := by rw [hE]; omega
    obtain ⟨j, hj⟩ : ∃ j : Nat, (lo + hi).fdiv (2 ^ Int.toNat 1) = lo + j := ⟨((lo + hi).fdiv (2 ^ Int.toNat 1) - lo).toNat, by omega⟩
    have hj0 : 0 < j := by omega
    have hjk : j < k := by omega
    have hs0 : 0 ≤ ((lo + hi).fdiv (2 ^ Int.toNat 1) - lo) * n := Int.mul_nonneg (by omega) (by omega)
    have hs1 : ((lo + hi).fdiv (2 ^ Int.toNat 1) - lo) * n ≤ 5000 := by
      have h1 : ((lo + hi).fdiv (2 ^ Int.toNat 1) - lo) * n ≤ 100 * n := Int.mul_le_mul_of_nonneg_right (by omega) (by omega)
      omega
    have hS : (((lo + hi).fdiv (2 ^ Int.toNat 1) - lo) * n).toNat = n.toNat * j := by
      rw [hj, show lo + (j : Int) - lo = j by omega]
      have h1 : ((j : Int) * n) = ((n.toNat * j : Nat) : Int) := by
        rw [Int.natCast_mul, Int.toNat_of_nonneg (by omega), Int.mul_comm]
      rw [h1, Int.toNat_natCast]
    have hmul : ((k - j : Nat) : Int) = k - j := by omega
    have hvb := val_bounds hB ((ns.drop (lo.toNat + j)).take (k - j)) fun d hd => hdg d (List.mem_of_mem_drop (List.mem_of_mem_take hd))
    have hvl : ((ns.drop (lo.toNat + j)).take (k - j)).length ≤ 100 := by rw [List.length_take, List.length_drop]; omega
    have hvi : Builtin.Int.intBits (val (2 ^ n.toNat) ((ns.drop (lo.toNat + j)).take (k - j))) ≤ 5000 := by
      refine intBits_le_iff.mpr ?_
      have h1 : ((2 : Int) ^ n.toNat) ^ ((ns.drop (lo.toNat + j)).take (k - j)).length ≤ 2 ^ 5000 := by
        rw [← Int.pow_mul]
        have h3 : n.toNat * ((ns.drop (lo.toNat + j)).take (k - j)).length ≤ 50 * 100 := Nat.mul_le_mul (by omega) hvl
        have h2 : (2 : Nat) ^ (n.toNat * ((ns.drop (lo.toNat + j)).take (k - j)).length) ≤ 2 ^ 5000 := Nat.pow_le_pow_right (by decide) (by omega)
        rw [← kbt_cast, ← kbt_cast]
        exact Int.ofNat_le.mpr h2
      have h4 := Int.lt_of_lt_of_le hvb.2 h1
      have h5 := hvb.1
      have h6 : (2 : Int) ^ 5000 = ((2 ^ 5000 : Nat) : Int) := (kbt_cast 5000).symm
      rw [h6] at h4
      generalize (2 : Nat) ^ 5000 = P at h4 ⊢
      omega
    have hsh : (Builtin.Int.intBits (val (2 ^ n.toNat) ((ns.drop (lo.toNat + j)).take (k - j))) : Int) + ((lo + hi).fdiv (2 ^ Int.toNat 1) - lo) * n ≤ 2 ^ 27 := by
      have : (2 : Int) ^ 27 = 134217728 := by decide
      rw [this]; omega
    have hE3 : ((lo + hi).fdiv (2 ^ Int.toNat 1)).toNat = lo.toNat + j := by omega
    clear hvl hvb
    unfold Spec
    k_fill
    intros p loose mean mg mb dp un' gd cn cs ad ccd cl outer A₀ base h₀ L m s Q E B F X N T C1 C2 hk hd hu ret
    refine wpAny_call ?_
    k_dflt (refine' code_nest ?k1 ?k2 ?k3 ?k4 ?k5 ?kA ?kF ?kK ?k6 ?k7 ?k8 ?k9 ?kB ?_ ?c2 ?c3 ?c4 ?c5; (case kA => exact rfl); (case kF => exact rfl); (case kK => first | exact rfl | assumption); (case k1 => k_asm); (case k2 => k_asm); (case k3 => k_asm); (case k4 => k_asm); (case k5 => k_asm); (case k6 => k_mem); (case k7 => exact codeRec_news (by k_asm) (by k_mem) (by assumption) (by assumption)); (case k8 => ktr_room); (case k9 => exact BindsTo.of_eq rfl); (case c5 => decide); (case kB => exact locs rfl); (case c2 => exact rfl); (case c3 => exact rfl); (case c4 => exact rfl); k_whole; intro g' L' h' FG' F' N' B' X' T'; (try dsimp only); (try k_lift B'); (try k_fold))
    k_steps
    any_goals (exfalso; omega)
    refine' spec_use (IH (k - j) (by omega) (by omega) ((lo + hi).fdiv (2 ^ Int.toNat 1)) hi _ _ ?q1 ?q2 ?q3) ?k1x1 ?k2x1 ?k3x1 ?k4x1 ?k5x1 ?k6x1 ?k7x1 ?k8x1 ?kdx1 ?kux1 ?kretx1
    case q1 => omega
    case q2 => omega
    case q3 => omega
    (case k1x1 => k_asm); (case k2x1 => k_asm); (case k3x1 => k_asm); (case k4x1 => k_asm); (case k5x1 => k_asm); (case k6x1 => assumption); (case k7x1 => assumption); (case k8x1 => first | exact rfl | assumption); (case kdx1 => ktr_room); (case kux1 => ktr_units)
    intro v9 news9 h' tk' hp9 F' N'
    obtain ⟨e2, t9, e1⟩ := hp9
    rw [hE3] at e1
    subst e1 e2
    dsimp only
    k_steps
    refine' spec_use (IH j hjk hj0 lo ((lo + hi).fdiv (2 ^ Int.toNat 1)) _ _ ?q4 ?q5 ?q6) ?k1x2 ?k2x2 ?k3x2 ?k4x2 ?k5x2 ?k6x2 ?k7x2 ?k8x2 ?kdx2 ?kux2 ?kretx2
    case q4 => omega
    case q5 => omega
    case q6 => omega
    (case k1x2 => k_asm); (case k2x2 => k_asm); (case k3x2 => k_asm); (case k4x2 => k_asm); (case k5x2 => k_asm); (case k6x2 => assumption); (case k7x2 => assumption); (case k8x2 => first | exact rfl | assumption); (case kdx2 => ktr_room); (case kux2 => ktr_units)
    intro v9 news9 h' tk' hp9 F' N'
    obtain ⟨e2, t8, e1⟩ := hp9
    subst e1 e2
    dsimp only
    k_steps
    have e9 : val (2 ^ n.toNat) ((ns.drop lo.toNat).take k) = val (2 ^ n.toNat) ((ns.drop (lo.toNat + j)).take (k - j)) * 2 ^ (((lo + hi).fdiv (2 ^ Int.toNat 1) - lo) * n).toNat + val (2 ^ n.toNat) ((ns.drop lo.toNat).take j) := by
      have h1 : k = j + (k - j) := by omega
      have h2 : ((ns.drop lo.toNat).take j).length = j := by rw [List.length_take, List.length_drop]; omega
      conv => lhs; rw [h1]
      rw [take_split, val_append, h2, hS, Int.pow_mul, Int.mul_comm, Int.add_comm]
    refine ret _ _ _ _ ⟨rfl, ?_⟩ (by assumption) (by assumption)
    rw [e9]
    exact ⟨_, rfl⟩
theorem i2_use {w : World} {f la cA cI cN c' : Addr} {oA oI oN oc : Obj} {doc pm ctv : Value} {vs0 : Array Value} {tq : Tok} {n : Int} {tn : Tok} {news : List (Addr × Obj)}
    {k : Nat} {lo hi : Int} {tl th : Tok} {vs : List Value} {ns : List Int} {cnt : Nat}
    (hf : (f, fnMade "inner" "_digits2int.<locals>.inner" params2 body2 scope2 [("n", cN), ("inner", cI), ("digits", cA)] doc pm c' ctv) ∈ news)
    (hc : (c', oc) ∈ news) (hc1 : oc.data = .fields vs0) (hc2 : vs0[1]? = some (.str "_digits2int.<locals>.inner" tq))
    (hA : (cA, oA) ∈ news) (hA1 : oA.data = .cell (some (.ref la))) (hI : (cI, oI) ∈ news) (hI1 : oI.data = .cell (some (.ref f))) (hN : (cN, oN) ∈ news) (hN1 : oN.data = .cell (some (.int n tn)))
    (hla : (la, W.listOf vs.toArray cnt) ∈ news) (hi1 : IntsAre vs ns) (hlen : ns.length ≤ 100) (hdg : ∀ d ∈ ns, 0 ≤ d ∧ d < 2 ^ n.toNat) (hn : 0 < n) (hn2 : n ≤ 50)
    (hk : 0 < k) (hlo : 0 ≤ lo) (hhi : hi = lo + k) (hhi2 : hi ≤ ns.length) :
      Spec w f (k + 2) (8 * k + 16) news [.int lo tl, .int hi th] fun v news' => news' = news ∧ ∃ t, v = .int (val (2 ^ n.toNat) ((ns.drop lo.toNat).take k)) t :=
  i2 w f la cA cI cN c' oA oI oN oc doc pm ctv vs0 tq n tn news vs ns cnt hf hc hc1 hc2 hA hA1 hI hI1 hN hN1 hla hi1 hlen hdg hn hn2 k hk lo hi tl th hlo hhi hhi2
end Mine
/-! part M6 -/
namespace Mine
local macro_rules | `(tactic| walk_at "mine pad") => `(tactic| fail)
local macro_rules | `(tactic| walk_at "mine pad") => `(tactic| fail)
local macro_rules | `(tactic| walk_at "mine pad") => `(tactic| fail)
local macro_rules | `(tactic| walk_at "mine pad") => `(tactic| fail)
local macro_rules | `(tactic| walk_at "mine pad") => `(tactic| fail)
local macro_rules | `(tactic| walk_at "mine pad") => `(tactic| fail)
local macro_rules | `(tactic| walk_at "mine pad") => `(tactic| fail)
local macro_rules | `(tactic| walk_at "mine pad") => `(tactic| fail)
local macro_rules | `(tactic| walk_at "mine pad") => `(tactic| fail)
abbrev Tab2 (ps : Array Value) (rest : List (Addr × Obj)) : Prop := TabOk 47 4 "_digits2int.<locals>.inner" ps rest
abbrev PostD (ns : List Int) (n : Int) (p1 p2 : Array Value) (rest : List (Addr × Obj)) (v : Value) (news' : List (Addr × Obj)) : Prop :=
      ∃ t p1' ex, v = .int (val (2 ^ n.toNat) ns) t ∧ news' = (37, tabObj p1') :: (30, tabObj p2) :: (rest ++ ex) ∧ (∀ r0, Tab2 p1 r0 → Tab2 p1' (r0 ++ ex)) ∧ Over ((37, tabObj p1) :: (30, tabObj p2) :: rest) ex
theorem finD1 {ns : List Int} {n : Int} {p1 p2 : Array Value} {rest kled : List (Addr × Obj)} {h₀ : Heap} {L L' : Addr} {m : Str → Option Value} {s : Shared} {Q : Value → Shared → Prop} {c' : Addr} {oc : Obj} {vs0 : Array Value} {t t9 : Tok} {x : Int} {h' : Heap} {tk' : Nat}
    (ret : ∀ v news' h' tk', PostD ns n p1 p2 rest v news' → Fr h₀ L h' m → News h₀ L h' news' → Q v { s with heap := h', toks := tk' })
    (kF : Fr h₀ L h' m) (kN : News h₀ L h' kled) (hm2 : (37, tabObj #[rawInt (47 : Nat), rawInt (4 : Nat), .ref c']) ∈ kled) (hm3 : (30, tabObj p2) ∈ kled) (hm4 : (c', oc) ∈ kled) (hr : ∀ p ∈ rest, p ∈ kled)
    (hx : val (2 ^ n.toNat) ns = x) (hd : oc.data = .fields vs0) (hd2 : vs0[1]? = some (.str "_digits2int.<locals>.inner" t))
    (hA : AllLt L' rest) (h1 : @LT.lt Nat _ 37 L') (h2 : @LT.lt Nat _ 30 L') (h4 : @LE.le Nat _ L' c') : Q (.int x t9) { s with heap := h', toks := tk' } := by
  refine ret _ _ _ _ ⟨t9, _, [(c', oc)], by rw [hx], rfl, (fun _ _ => .inr ⟨c', oc, vs0, t, rfl, List.mem_append_right _ (List.Mem.head _), hd, hd2⟩), fun q hq p hp => ?_⟩ kF ?_
  · rw [List.mem_singleton.mp hp]
    exact lt_three (by omega) (by omega) hA h4 q hq
  · intro p hp
    rcases List.mem_cons.mp hp with rfl | hp
    · exact kN _ hm2
    · rcases List.mem_cons.mp hp with rfl | hp
      · exact kN _ hm3
      · rcases List.mem_append.mp hp with hp | hp
        · exact kN _ (hr p hp)
        · rw [List.mem_singleton.mp hp]; exact kN _ hm4
theorem finD2 {ns : List Int} {n : Int} {p1 p2 : Array Value} {rest kled : List (Addr × Obj)} {h₀ : Heap} {L : Addr} {m : Str → Option Value} {s : Shared} {Q : Value → Shared → Prop} {t9 : Tok} {x : Int} {h' : Heap} {tk' : Nat}
    (ret : ∀ v news' h' tk', PostD ns n p1 p2 rest v news' → Fr h₀ L h' m → News h₀ L h' news' → Q v { s with heap := h', toks := tk' })
    (kF : Fr h₀ L h' m) (kN : News h₀ L h' kled) (hm2 : (37, tabObj p1) ∈ kled) (hm3 : (30, tabObj p2) ∈ kled) (hr : ∀ p ∈ rest, p ∈ kled)
    (hx : val (2 ^ n.toNat) ns = x) : Q (.int x t9) { s with heap := h', toks := tk' } := by
  refine ret _ _ _ _ ⟨t9, p1, [], by rw [hx], rfl, (fun r0 h0 => h0.mono fun p hp => List.mem_append_left _ hp), fun q hq p hp => nomatch hp⟩ kF ?_
  · intro p hp
    rcases List.mem_cons.mp hp with rfl | hp
    · exact kN _ hm2
    · rcases List.mem_cons.mp hp with rfl | hp
      · exact kN _ hm3
      · rw [List.append_nil] at hp
        exact kN _ (hr p hp)
local macro_rules | `(tactic| k_all) => `(tactic| first | assumption | exact ne_of_allLt (by assumption) (by omega))
local macro_rules | `(tactic| k_mem) => `(tactic| assumption)
local macro_rules | `(tactic| is_list) => `(tactic| exact News.isList (by k_asm) (by k_mem))
theorem c_d2i (w : World) (la : Addr) (n : Int) (tn : Tok) (vs : List Value) (ns : List Int) (cnt : Nat) (p1 p2 : Array Value) (rest : List (Addr × Obj)) (hla : (la, W.listOf vs.toArray cnt) ∈ rest) (hi1 : IntsAre vs ns) (hlen : ns.length ≤ 100)
    (hdg : ∀ d ∈ ns, 0 ≤ d ∧ d < 2 ^ n.toNat) (hn : 0 < n) (hn2 : n ≤ 50) (ht : Tab2 p1 rest) (hr1 : ∀ p ∈ rest, p.1 ≠ 37) :
    Spec w 42 110 1000 ((37, tabObj p1) :: (30, tabObj p2) :: rest) [.ref la, .int n tn] (PostD ns n p1 p2 rest) := by
  have hv0 : ns.length = 0 → val (2 ^ n.toNat) ns = 0 := by
    intro h9
    rw [List.length_eq_zero_iff.mp h9]
    rfl
  unfold Spec
  k_fill
  intros p loose mean mg mb dp un' gd cn cs ad ccd cl outer A₀ base h₀ L m s Q E B F X N T C1 C2 hk hd hu ret
  refine wpAny_call ?_
  k_dflt (refine' code_defC ?k1 ?k2 ?k3 ?k4 ?k5 ?kA ?kF ?kK ?k6 ?k7 ?k8 ?k9 ?kB ?kD ?_ ?c2 ?c3 ?c4; (case kA => exact rfl); (case kF => exact rfl); (case kK => first | exact rfl | assumption); (case k1 => k_asm); (case k2 => k_asm); (case k3 => k_asm); (case k4 => k_asm); (case k5 => k_asm); (case k6 => k_is); (case k7 => k_is); (case k8 => ktr_room); (case k9 => first | exact BindsTo.of_eq rfl | exact binds_K (by k_in) rfl (by k_is) rfl rfl rfl); (case kB => exact rfl); (case kD => decide +kernel); (case c2 => exact rfl); (case c3 => exact rfl); (case c4 => exact rfl); k_whole; intro g' L' h' tk' cells' FG' F' N' Y' B' X' T' l1; (try k_lt l1); k_cells Y'; (try simp only [List.cons_append, List.nil_append] at N'); (try dsimp only); (try k_lift B'); (try k_fold))
  obtain ⟨hL1, hL2, hAL⟩ := l1
  by_cases hl0 : ns.length = 0
  · rcases ht with rfl | ⟨c₁, oc₁, vs₁, tq, rfl, hmem, hd1, hd2⟩
    · k_steps
      all_goals (try (exfalso; omega))
      refine' finD1 ret ?f1y1 ?f2y1 ?f4y1 ?f5y1 ?f6y1 ?f7y1 ?f8y1 ?f9y1 ?f10y1 hAL ?g1y1 ?g2y1 ?g4y1
      (case f1y1 => assumption)
      (case f2y1 => assumption)
      (case f8y1 => exact hv0 hl0)
      (case f4y1 => k_mem)
      (case f5y1 => k_mem)
      (case f6y1 => k_mem)
      (case f7y1 => (intro p9 hp9; repeat (first | exact hp9 | refine List.mem_cons_of_mem _ ?_)))
      (case f9y1 => assumption)
      (case f10y1 => assumption)
      (case g1y1 => omega)
      (case g2y1 => omega)
      (case g4y1 => omega)
    · have ht : Tab2 #[rawInt (47 : Nat), rawInt (4 : Nat), .ref c₁] rest := .inr ⟨c₁, oc₁, vs₁, tq, rfl, hmem, hd1, hd2⟩
      k_steps
      all_goals (try (exfalso; omega))
      refine' finD2 ret ?f1y2 ?f2y2 ?f4y2 ?f5y2 ?f7y2 ?f8y2
      (case f1y2 => assumption)
      (case f2y2 => assumption)
      (case f8y2 => exact hv0 hl0)
      (case f4y2 => k_mem)
      (case f5y2 => k_mem)
      (case f7y2 => (intro p9 hp9; repeat (first | exact hp9 | refine List.mem_cons_of_mem _ ?_)))
  · rcases ht with rfl | ⟨c₁, oc₁, vs₁, tq, rfl, hmem, hd1, hd2⟩
    · k_steps
      all_goals (try (exfalso; omega))
      refine' spec_use (i2_use (n := n) (k := ns.length) (lo := 0) (hi := ns.length) (vs := vs) (ns := ns) ?hfy3 ?hcy3 ?hc1y3 ?hc2y3 ?hAy3 ?hA1y3 ?hIy3 ?hI1y3 ?hNy3 ?hN1y3 ?hlay3 hi1 hlen hdg hn hn2 ?k0y3 ?hly3 ?hhy3 ?hley3) ?k1x1 ?k2x1 ?k3x1 ?k4x1 ?k5x1 ?k6x1 ?k7x1 ?k8x1 ?kdx1 ?kux1 ?kretx1
      (case k4x1 => k_asm)
      (case hfy3 => k_mem)
      (case hcy3 => k_mem)
      (case hc1y3 => assumption)
      (case hc2y3 => assumption)
      (case hAy3 => k_mem)
      (case hA1y3 => assumption)
      (case hIy3 => k_mem)
      (case hI1y3 => assumption)
      (case hNy3 => k_mem)
      (case hN1y3 => assumption)
      (case hlay3 => k_mem)
      (case k0y3 => omega)
      (case hly3 => omega)
      (case hhy3 => omega)
      (case hley3 => omega)
      (case kdx1 => (simp only [depth_deeper] at *; (try dsimp only [ktrTop] at *); omega))
      (case kux1 => ((have hcL9 := cLine_is); (simp only [units_deeper]; (try dsimp only [ktrTop]); omega)))
      (case k1x1 => k_asm); (case k2x1 => k_asm); (case k3x1 => k_asm); (case k5x1 => k_asm); (case k6x1 => assumption); (case k7x1 => assumption); (case k8x1 => first | exact rfl | assumption)
      intro v9 news9 h' tk' hp9 F' N'
      obtain ⟨e2, t8, e1⟩ := hp9
      rw [show Int.toNat 0 = 0 from rfl, List.drop_zero, List.take_length] at e1
      subst e1 e2
      dsimp only
      k_steps
      refine' finD1 ret ?f1y4 ?f2y4 ?f4y4 ?f5y4 ?f6y4 ?f7y4 ?f8y4 ?f9y4 ?f10y4 hAL ?g1y4 ?g2y4 ?g4y4
      (case f1y4 => assumption)
      (case f2y4 => assumption)
      (case f8y4 => rfl)
      (case f4y4 => k_mem)
      (case f5y4 => k_mem)
      (case f6y4 => k_mem)
      (case f7y4 => (intro p9 hp9; repeat (first | exact hp9 | refine List.mem_cons_of_mem _ ?_)))
      (case f9y4 => assumption)
      (case f10y4 => assumption)
      (case g1y4 => omega)
      (case g2y4 => omega)
      (case g4y4 => omega)
    · have ht : Tab2 #[rawInt (47 : Nat), rawInt (4 : Nat), .ref c₁] rest := .inr ⟨c₁, oc₁, vs₁, tq, rfl, hmem, hd1, hd2⟩
      k_steps
      all_goals (try (exfalso; omega))
      refine' spec_use (i2_use (n := n) (k := ns.length) (lo := 0) (hi := ns.length) (vs := vs) (ns := ns) ?hfy5 ?hcy5 ?hc1y5 ?hc2y5 ?hAy5 ?hA1y5 ?hIy5 ?hI1y5 ?hNy5 ?hN1y5 ?hlay5 hi1 hlen hdg hn hn2 ?k0y5 ?hly5 ?hhy5 ?hley5) ?k1x2 ?k2x2 ?k3x2 ?k4x2 ?k5x2 ?k6x2 ?k7x2 ?k8x2 ?kdx2 ?kux2 ?kretx2
      (case k4x2 => k_asm)
      (case hfy5 => k_mem)
      (case hcy5 => k_mem)
      (case hc1y5 => assumption)
      (case hc2y5 => assumption)
      (case hAy5 => k_mem)
      (case hA1y5 => assumption)
      (case hIy5 => k_mem)
      (case hI1y5 => assumption)
      (case hNy5 => k_mem)
      (case hN1y5 => assumption)
      (case hlay5 => k_mem)
      (case k0y5 => omega)
      (case hly5 => omega)
      (case hhy5 => omega)
      (case hley5 => omega)
      (case kdx2 => (simp only [depth_deeper] at *; (try dsimp only [ktrTop] at *); omega))
      (case kux2 => ((have hcL9 := cLine_is); (simp only [units_deeper]; (try dsimp only [ktrTop]); omega)))
      (case k1x2 => k_asm); (case k2x2 => k_asm); (case k3x2 => k_asm); (case k5x2 => k_asm); (case k6x2 => assumption); (case k7x2 => assumption); (case k8x2 => first | exact rfl | assumption)
      intro v9 news9 h' tk' hp9 F' N'
      obtain ⟨e2, t8, e1⟩ := hp9
      rw [show Int.toNat 0 = 0 from rfl, List.drop_zero, List.take_length] at e1
      subst e1 e2
      dsimp only
      k_steps
      refine' finD2 ret ?f1y6 ?f2y6 ?f4y6 ?f5y6 ?f7y6 ?f8y6
      (case f1y6 => assumption)
      (case f2y6 => assumption)
      (case f8y6 => rfl)
      (case f4y6 => k_mem)
      (case f5y6 => k_mem)
      (case f7y6 => (intro p9 hp9; repeat (first | exact hp9 | refine List.mem_cons_of_mem _ ?_)))
end Mine
/-! part M7a -/
namespace Mine
local macro_rules | `(tactic| walk_at "mine pad") => `(tactic| fail)
local macro_rules | `(tactic| walk_at "mine pad") => `(tactic| fail)
local macro_rules | `(tactic| walk_at "mine pad") => `(tactic| fail)
local macro_rules | `(tactic| walk_at "mine pad") => `(tactic| fail)
local macro_rules | `(tactic| walk_at "mine pad") => `(tactic| fail)
local macro_rules | `(tactic| walk_at "mine pad") => `(tactic| fail)
local macro_rules | `(tactic| walk_at "mine pad") => `(tactic| fail)
local macro_rules | `(tactic| walk_at "mine pad") => `(tactic| fail)
local macro_rules | `(tactic| walk_at "mine pad") => `(tactic| fail)
local macro_rules | `(tactic| walk_at "mine pad") => `(tactic| fail)
theorem map3 {m m0 : Str → Option Value} {a b c : Str} (h : ∀ y, y ≠ a → y ≠ b → y ≠ c → m y = m0 y) : ∃ u v w, m a = u ∧ m b = v ∧ m c = w ∧ m = fun y => if y = a then u else if y = b then v else if y = c then w else m0 y := by
  refine ⟨m a, m b, m c, rfl, rfl, rfl, ?_⟩
  funext y
  by_cases h1 : y = a
  · rw [if_pos h1, h1]
  · rw [if_neg h1]
    by_cases h2 : y = b
    · rw [if_pos h2, h2]
    · rw [if_neg h2]
      by_cases h3 : y = c
      · rw [if_pos h3, h3]
      · rw [if_neg h3]; exact h y h1 h2 h3
section
variable {prog : Program} {w : World} {A : Around} {E : Value → Shared → Prop} {s : Shared} {env : Env} {h₀ : Heap} {x : Str} {body : List Stmt} {Q : Flow → Shared → Prop}
theorem unrPost_mono {L : Addr} {s₁ : Shared} {I : Addr} {it : Obj} {r r' : (Str → Option Value) → List (Addr × Obj) → Prop} {f : Flow} {s₂ : Shared} (h : UnrPost h₀ L s₁ I it r Q f s₂) (hr : ∀ m n, r m n → r' m n) : UnrPost h₀ L s₁ I it r' Q f s₂ := by
  cases f with
  | ret v => exact h
  | brk => exact h
  | next => obtain ⟨h', tk, m', news', e, F, N, o, k⟩ := h; exact ⟨h', tk, m', news', e, F, N, o, hr _ _ k⟩
  | cont => obtain ⟨h', tk, m', news', e, F, N, o, k⟩ := h; exact ⟨h', tk, m', news', e, F, N, o, hr _ _ k⟩
theorem revLoop {ax I : Addr} {vs : List Value} {n : Nat} {m₀ : Str → Option Value} {news : List (Addr × Obj)} (J : Nat → (Str → Option Value) → List (Addr × Obj) → Prop)
    (hh : A.handled = none) (F : Fr h₀ env.locals s.heap m₀) (N : News h₀ env.locals s.heap ((I, revObj ax ((vs.length : Int) - 1)) :: news)) (hoff : ∀ p ∈ news, @LT.lt Nat _ p.1 I) (hm : (ax, W.listOf vs.toArray n) ∈ news)
    (h0 : J 0 m₀ news) (hJ : ∀ i m₁ n₁, J i m₁ n₁ → (ax, W.listOf vs.toArray n) ∈ n₁)
    (turn : ∀ i v m₁ news₁ it h tk, i < vs.length → vs[vs.length - 1 - i]? = some v → J i m₁ news₁ → it.cls = .type "list_reverseiterator" → Fr h₀ env.locals h (fun y => if y = x then some v else m₁ y) → News h₀ env.locals h ((I, it) :: news₁) →
      wpAny (model prog w) A (execs body env) (UnrPost h₀ env.locals { s with heap := h, toks := tk } I it (J (i + 1)) Q) E { s with heap := h, toks := tk })
    (done : ∀ m₁ news₁ h tk, J vs.length m₁ news₁ → Fr h₀ env.locals h m₁ → News h₀ env.locals h news₁ → Q .next { s with heap := h, toks := tk }) :
    wpAny (model prog w) A (pyIter (.ref I)) (fun it s₂ => LoopAtV prog w A h₀ env x body Q E it s₂) E s := by
  have hof : ∀ l : List (Addr × Obj), (∀ p ∈ l, p.1 ≠ I) → OffI I (revObj ax ((vs.length : Int) - 1)) l := by
    intro l
    induction l with
    | nil => exact fun _ => trivial
    | cons p r ih => exact fun h => ⟨.inl (h p (List.mem_cons_self ..)), ih fun q hq => h q (List.mem_cons_of_mem _ hq)⟩
  have hne : ∀ p ∈ news, p.1 ≠ I := fun p hp e => by
    have h1 := hoff p hp
    rw [e] at h1
    exact Nat.lt_irrefl _ h1
  have key : ∀ (l : List Value) (i : Nat), i + l.length = vs.length → (∀ j, l[j]? = vs[vs.length - 1 - (i + j)]? ∨ vs.length ≤ i + j) → ∀ m₁ n₁, J i m₁ n₁ → RevRest prog w A E h₀ env x body Q s I (ax, W.listOf vs.toArray n) l m₁ n₁ := by
    intro l
    induction l with
    | nil =>
      intro i hi _ m₁ n₁ hj h tk F' N'
      rw [List.length_nil, Nat.add_zero] at hi
      exact done m₁ n₁ h tk (hi ▸ hj) F' N'
    | cons v r ih =>
      intro i hi hv m₁ n₁ hj it h tk hc F' N'
      rw [List.length_cons] at hi
      have hvi := (hv 0).resolve_right (by omega)
      refine wpAny_mono (turn i v m₁ n₁ it h tk (by omega) (by simpa using hvi.symm) hj hc F' N') (fun f s₂ hp => unrPost_mono hp fun m' n' hj' => ⟨hJ _ _ _ hj', ih (i + 1) (by omega) (fun j => ?_) m' n' hj'⟩) fun _ _ e => e
      have h1 := hv (j + 1)
      rw [List.getElem?_cons_succ, show i + (j + 1) = i + 1 + j by omega] at h1
      exact h1
  refine iter_revUnr (n := n) hh F N (hof news hne) hm rfl rfl (key vs.reverse 0 (by rw [Nat.zero_add, List.length_reverse]) (fun j => ?_) m₀ news h0)
  by_cases hj : j < vs.length
  · left
    rw [List.getElem?_reverse hj, Nat.zero_add]
  · right; omega
theorem revLoop' {ax I : Addr} {vs : List Value} {n : Nat} {m₀ : Str → Option Value} {news : List (Addr × Obj)} (J : (Str → Option Value) → Nat → (Str → Option Value) → List (Addr × Obj) → Prop)
    (hh : A.handled = none) (F : Fr h₀ env.locals s.heap m₀) (N : News h₀ env.locals s.heap ((I, revObj ax ((vs.length : Int) - 1)) :: news)) (hoff : ∀ p ∈ news, @LT.lt Nat _ p.1 I) (hm : (ax, W.listOf vs.toArray n) ∈ news)
    (h0 : J m₀ 0 m₀ news) (hJ : ∀ i m₁ n₁, J m₀ i m₁ n₁ → (ax, W.listOf vs.toArray n) ∈ n₁)
    (turn : ∀ i v m₁ news₁ it h tk, i < vs.length → vs[vs.length - 1 - i]? = some v → J m₀ i m₁ news₁ → it.cls = .type "list_reverseiterator" → Fr h₀ env.locals h (fun y => if y = x then some v else m₁ y) → News h₀ env.locals h ((I, it) :: news₁) →
      wpAny (model prog w) A (execs body env) (UnrPost h₀ env.locals { s with heap := h, toks := tk } I it (J m₀ (i + 1)) Q) E { s with heap := h, toks := tk })
    (done : ∀ m₁ news₁ h tk, J m₀ vs.length m₁ news₁ → Fr h₀ env.locals h m₁ → News h₀ env.locals h news₁ → Q .next { s with heap := h, toks := tk }) :
    wpAny (model prog w) A (pyIter (.ref I)) (fun it s₂ => LoopAtV prog w A h₀ env x body Q E it s₂) E s := revLoop (J m₀) hh F N hoff hm h0 hJ turn done
end
def JD (b B : Int) (ds : List Int) (lq : Addr) (tl : List (Addr × Obj)) (m₀ : Str → Option Value) (i : Nat) (m₁ : Str → Option Value) (n₁ : List (Addr × Obj)) : Prop :=
  ∃ qvs qs qc rv tr, n₁ = (lq, W.listOf qvs.toArray qc) :: tl ∧ m₁ "r" = some (.int rv tr) ∧ (∀ y : Str, y ≠ "r" → y ≠ "q_digit" → y ≠ "a_digit" → m₁ y = m₀ y) ∧ IntsAre qvs qs ∧ qs.length = i ∧ 0 ≤ rv ∧ rv < b ∧
    (∀ q ∈ qs, 0 ≤ q ∧ q < B) ∧ val B (ds.drop (ds.length - i)) = val B qs.reverse * b + rv
theorem le_of_allLt {d e : Addr} {l : List (Addr × Obj)} (h : AllLt d l) (hle : @LE.le Nat _ d e) : ∀ p ∈ l, @LT.lt Nat _ p.1 e := fun p hp => Nat.lt_of_lt_of_le (allLt_get h p hp) hle
theorem div_step {r B d b : Int} (hb : 0 < b) (h0 : 0 ≤ r) (h1 : r < b) (d0 : 0 ≤ d) (d1 : d < B) :
    0 ≤ (r * B + d).fdiv b ∧ (r * B + d).fdiv b < B ∧ 0 ≤ (r * B + d).fmod b ∧ (r * B + d).fmod b < b ∧ r * B + d = (r * B + d).fdiv b * b + (r * B + d).fmod b := by
  have hp : 0 ≤ r * B := Int.mul_nonneg h0 (by omega)
  have h2 : r * B ≤ (b - 1) * B := Int.mul_le_mul_of_nonneg_right (by omega) (by omega)
  rw [Int.sub_mul, Int.one_mul] at h2
  rw [Int.fdiv_eq_ediv_of_nonneg _ (Int.le_of_lt hb), Int.fmod_eq_emod_of_nonneg _ (Int.le_of_lt hb)]
  refine ⟨Int.ediv_nonneg (by omega) (by omega), Int.ediv_lt_of_lt_mul hb (by have hc := Int.mul_comm b B; omega), Int.emod_nonneg _ (by omega), Int.emod_lt_of_pos _ hb, ?_⟩
  have := Int.emod_add_mul_ediv (r * B + d) b
  rw [Int.mul_comm b] at this
  omega
theorem ints_rev : ∀ {vs : List Value} {ns : List Int}, IntsAre vs ns → IntsAre vs.reverse ns.reverse
  | _, _, .nil => .nil
  | _, _, .cons i t h => by
    rw [List.reverse_cons, List.reverse_cons]
    exact (ints_rev h).append (.cons i t .nil)
section
variable {prog : Program} {w : World} {A : Around} {E : Value → Shared → Prop} {s : Shared} {h₀ : Heap} {L D : Addr} {m : Str → Option Value} {news news' : List (Addr × Obj)} {vs : List Value} {ns : List Int} {n : Nat} {x : Int} {t : Tok} {Q : Value → Shared → Prop}
theorem my_append (F : Fr h₀ L s.heap m) (N : News h₀ L s.heap news) (U : Upd D (W.listOf vs.toArray n) (W.listOf (vs ++ [Value.int x t]).toArray (n + 1)) news news') (hi : IntsAre vs ns) (hz : ns.length ≤ 2000)
    (h : ∀ h', Fr h₀ L h' m → News h₀ L h' news' → IntsAre (vs ++ [Value.int x t]) (ns ++ [x]) → Q .none { s with heap := h' }) : wpAny (model prog w) A (call (.builtin "list.append") [.ref D, .int x t]) Q E s := by
  have e : vs.toArray.push (Value.int x t) = (vs ++ [Value.int x t]).toArray := by simp
  rw [← e] at U
  refine append_K F N U (fun h' F' N' => h h' F' N' (hi.append (.cons x t .nil))) ?_
  rw [List.size_toArray, hi.length, sizeLine_eq]
  omega
theorem my_reverse (F : Fr h₀ L s.heap m) (N : News h₀ L s.heap news) (U : Upd D (W.listOf vs.toArray n) (W.listOf vs.reverse.toArray n) news news') (hi : IntsAre vs ns) (hz : ns.length ≤ 2000)
    (h : ∀ h', Fr h₀ L h' m → News h₀ L h' news' → IntsAre vs.reverse ns.reverse → Q .none { s with heap := h' }) : wpAny (model prog w) A (call (.builtin "list.reverse") [.ref D]) Q E s := by
  refine kl_reverse F N rfl U ?_ fun h' F' N' => h h' F' N' (ints_rev hi)
  rw [hi.length, sizeLine_eq]
  omega
end
theorem JD_end {h₀ : Heap} {L : Addr} {s₁ : Shared} {I : Addr} {it : Obj} {b B : Int} {ds : List Int} {lq : Addr} {tl : List (Addr × Obj)} {m₀ : Str → Option Value} {i : Nat} {h' : Heap} {tk : Nat} {m' : Str → Option Value} {r9 : Addr} {o9 : Obj}
    {qvs : List Value} {qs : List Int} {qc : Nat} {rv : Int} {tr : Tok} (F : Fr h₀ L h' m') (N : News h₀ L h' ((r9, o9) :: (I, it) :: (lq, W.listOf qvs.toArray qc) :: tl)) (hoff : ∀ p ∈ (lq, W.listOf qvs.toArray qc) :: tl, p.1 ≠ I)
    (h1 : m' "r" = some (.int rv tr)) (h2 : ∀ y : Str, y ≠ "r" → y ≠ "q_digit" → y ≠ "a_digit" → m' y = m₀ y) (hi : IntsAre qvs qs) (hl : qs.length = i) (h3 : 0 ≤ rv) (h4 : rv < b) (h5 : ∀ q ∈ qs, 0 ≤ q ∧ q < B)
    (h6 : val B (ds.drop (ds.length - i)) = val B qs.reverse * b + rv) : UnrEnd h₀ L s₁ I it (JD b B ds lq tl m₀ i) { s₁ with heap := h', toks := tk } :=
  UnrEnd.intro F N ((lq, W.listOf qvs.toArray qc) :: tl) (fun p hp => List.mem_cons_of_mem _ hp) hoff ⟨qvs, qs, qc, rv, tr, rfl, h1, h2, hi, hl, h3, h4, h5, h6⟩
theorem JD_val {b B : Int} {ds qs : List Int} {i : Nat} {d rv : Int} (hi : i < ds.length) (hd : ds[ds.length - 1 - i]? = some d) (h : val B (ds.drop (ds.length - i)) = val B qs.reverse * b + rv) {q r' : Int} (h2 : rv * B + d = q * b + r') :
    val B (ds.drop (ds.length - (i + 1))) = val B (qs ++ [q]).reverse * b + r' := by
  obtain ⟨hl, he⟩ := List.getElem?_eq_some_iff.mp hd
  rw [List.reverse_append, List.reverse_singleton, List.singleton_append, show ds.length - (i + 1) = ds.length - 1 - i by omega, List.drop_eq_getElem_cons hl, he, show ds.length - 1 - i + 1 = ds.length - i by omega]
  exact horner h h2
theorem pull2 {h₀ h : Heap} {L : Addr} {x y : Addr × Obj} {l l1 l2 : List (Addr × Obj)} (P1 : Pull x l l1) (P2 : Pull y l1 l2) (N : News h₀ L h l) : News h₀ L h (x :: y :: l2) := fun p hp => by
  rcases List.mem_cons.mp hp with rfl | hp
  · exact P1.news N _ (List.mem_cons_self ..)
  · exact P1.news N _ (List.mem_cons_of_mem _ (P2.mem p hp))
theorem TabOk.drop {line col : Nat} {qual : Str} {ps : Array Value} {x : Addr} {o : Obj} {r : List (Addr × Obj)} (h : TabOk line col qual ps ((x, o) :: r)) (hn : ∀ vs, o.data ≠ .fields vs) : TabOk line col qual ps r := by
  rcases h with h | ⟨c', oc, vs, t, e, hm, h1, h2⟩
  · exact .inl h
  · rcases List.mem_cons.mp hm with h3 | h3
    · have h4 : oc = o := (Prod.mk.inj h3).2
      exact absurd (h4 ▸ h1) (hn vs)
    · exact .inr ⟨c', oc, vs, t, e, h3, h1, h2⟩
abbrev PostP (a b : Int) (p1 p2 : Array Value) (rest : List (Addr × Obj)) (v : Value) (news' : List (Addr × Obj)) : Prop :=
  ∃ D t1 t2 p1' p2' ex, v = .ref D ∧ news' = (D, tupO [.int (a / b) t1, .int (a % b) t2]) :: (37, tabObj p1') :: (30, tabObj p2') :: (rest ++ ex) ∧ (∀ r0, Tab1 p2 r0 → Tab1 p2' (r0 ++ ex)) ∧ (∀ r0, Tab2 p1 r0 → Tab2 p1' (r0 ++ ex)) ∧
    (∀ q ∈ ((37, tabObj p1) : Addr × Obj) :: (30, tabObj p2) :: rest, @LT.lt Nat _ q.1 D) ∧ Over ((37, tabObj p1) :: (30, tabObj p2) :: rest) ex
theorem finP {a b : Int} {p1 p2 p1' p2' : Array Value} {rest ex ex2 : List (Addr × Obj)} {h₀ : Heap} {L : Addr} {m : Str → Option Value} {s : Shared} {Q : Value → Shared → Prop} {D la lq : Addr} {ola olq : Obj} {x y : Int} {t1 t2 : Tok} {h' : Heap} {tk' : Nat}
    (ret : ∀ v news' h' tk', PostP a b p1 p2 rest v news' → Fr h₀ L h' m → News h₀ L h' news' → Q v { s with heap := h', toks := tk' })
    (kF : Fr h₀ L h' m) (kN : News h₀ L h' ((D, tupO [.int x t1, .int y t2]) :: (37, tabObj p1') :: (30, tabObj p2') :: (((lq, olq) :: (la, ola) :: (rest ++ ex)) ++ ex2)))
    (hx : x = a / b) (hy : y = a % b) (htab1 : ∀ r0, Tab1 p2 r0 → Tab1 p2' (r0 ++ ex)) (htab2 : ∀ r0, Tab2 p1 r0 → Tab2 p1' (r0 ++ ex2))
    (hla : ∀ q ∈ ((37, tabObj p1) : Addr × Obj) :: (30, tabObj p2) :: rest, @LT.lt Nat _ q.1 la) (hlD : @LT.lt Nat _ la D) (hov1 : Over ((37, tabObj p1) :: (30, tabObj p2) :: rest) ex) (hov2 : ∀ p ∈ ex2, @LT.lt Nat _ la p.1) : Q (.ref D) { s with heap := h', toks := tk' } := by
  subst hx hy
  have e : rest ++ (ex ++ ex2) = (rest ++ ex) ++ ex2 := (List.append_assoc ..).symm
  refine ret _ _ _ _ ⟨D, t1, t2, p1', p2', ex ++ ex2, rfl, rfl, ?_, ?_, fun q hq => Nat.lt_trans (hla q hq) hlD, fun q hq p hp => ?_⟩ kF ?_
  · exact fun r0 h0 => (htab1 r0 h0).mono fun p hp => by rw [← List.append_assoc]; exact List.mem_append_left _ hp
  · exact fun r0 h0 => (htab2 r0 h0).mono fun p hp => (List.mem_append.mp hp).elim (fun h9 => List.mem_append_left _ h9) fun h9 => List.mem_append_right _ (List.mem_append_right _ h9)
  · rcases List.mem_append.mp hp with hp | hp
    · exact hov1 q hq p hp
    · exact Nat.lt_trans (hla q hq) (hov2 p hp)
  · rw [e]
    intro p hp
    refine kN p ?_
    rcases List.mem_cons.mp hp with rfl | hp
    · exact List.mem_cons_self ..
    · refine List.mem_cons_of_mem _ ?_
      rcases List.mem_cons.mp hp with rfl | hp
      · exact List.mem_cons_self ..
      · refine List.mem_cons_of_mem _ ?_
        rcases List.mem_cons.mp hp with rfl | hp
        · exact List.mem_cons_self ..
        · exact List.mem_cons_of_mem _ (List.mem_cons_of_mem _ (List.mem_cons_of_mem _ hp))
/-- the digits of a in base 2^n, n the bits of b -/
theorem digs_facts {a n : Int} (ha : 0 ≤ a) (hn : 0 < n) (hab : Builtin.Int.intBits a ≤ 50) :
    (digs (2 ^ n.toNat) a (((Builtin.Int.intBits a : Int) + n - 1).fdiv n).toNat).length ≤ 100 ∧ (∀ d ∈ digs (2 ^ n.toNat) a (((Builtin.Int.intBits a : Int) + n - 1).fdiv n).toNat, 0 ≤ d ∧ d < 2 ^ n.toNat) ∧
      val (2 ^ n.toNat) (digs (2 ^ n.toNat) a (((Builtin.Int.intBits a : Int) + n - 1).fdiv n).toNat) = a := by
  rw [Int.fdiv_eq_ediv_of_nonneg _ (Int.le_of_lt hn)]
  have hB : (0 : Int) < 2 ^ n.toNat := kbt_pos _
  have h0 : 0 ≤ ((Builtin.Int.intBits a : Int) + n - 1) / n := Int.ediv_nonneg (by omega) (by omega)
  have h1 : ((Builtin.Int.intBits a : Int) + n - 1) / n ≤ (Builtin.Int.intBits a : Int) := by
    by_cases h9 : Builtin.Int.intBits a = 0
    · rw [h9, Int.ediv_eq_zero_of_lt (by omega) (by omega)]; omega
    · refine Int.le_of_lt_add_one (Int.ediv_lt_of_lt_mul hn ?_)
      have : ((Builtin.Int.intBits a : Int)) * 1 ≤ (Builtin.Int.intBits a : Int) * n := Int.mul_le_mul_of_nonneg_left (by omega) (by omega)
      rw [Int.add_mul, Int.one_mul]
      omega
  have h2 : (Builtin.Int.intBits a : Int) ≤ ((Builtin.Int.intBits a : Int) + n - 1) / n * n := by
    have h3 := Int.emod_add_mul_ediv ((Builtin.Int.intBits a : Int) + n - 1) n
    have h4 := Int.emod_lt_of_pos ((Builtin.Int.intBits a : Int) + n - 1) hn
    rw [Int.mul_comm n] at h3
    omega
  obtain ⟨k, hk⟩ : ∃ k : Nat, ((Builtin.Int.intBits a : Int) + n - 1) / n = k := ⟨_, (Int.toNat_of_nonneg h0).symm⟩
  rw [hk] at h1 h2 ⊢
  rw [Int.toNat_natCast]
  have hlt : a < (2 ^ n.toNat) ^ k := by
    have h5 := intBits_le_iff.mp (Nat.le_refl (Builtin.Int.intBits a))
    have h6 : (2 : Nat) ^ Builtin.Int.intBits a ≤ 2 ^ (n.toNat * k) := by
      refine Nat.pow_le_pow_right (by decide) ?_
      have h7 : ((n.toNat * k : Nat) : Int) = (k : Int) * n := by rw [Int.natCast_mul, Int.toNat_of_nonneg (by omega), Int.mul_comm]
      omega
    rw [← Int.pow_mul, ← kbt_cast]
    generalize (2 : Nat) ^ (n.toNat * k) = P at h6 ⊢
    generalize (2 : Nat) ^ Builtin.Int.intBits a = R at h5 h6
    omega
  refine ⟨by rw [digs_length]; omega, digs_bounds hB k a ha hlt, ?_⟩
  by_cases hk0 : k = 0
  · subst hk0
    rw [Int.pow_zero] at hlt
    show (0 : Int) = a
    omega
  · exact val_digs hB k a (by omega)
end Mine
/-! part M7 -/
namespace Mine
local macro_rules | `(tactic| walk_at "mine pad") => `(tactic| fail)
local macro_rules | `(tactic| walk_at "mine pad") => `(tactic| fail)
local macro_rules | `(tactic| walk_at "mine pad") => `(tactic| fail)
local macro_rules | `(tactic| walk_at "mine pad") => `(tactic| fail)
local macro_rules | `(tactic| walk_at "mine pad") => `(tactic| fail)
local macro_rules | `(tactic| walk_at "mine pad") => `(tactic| fail)
local macro_rules | `(tactic| walk_at "mine pad") => `(tactic| fail)
local macro_rules | `(tactic| walk_at "mine pad") => `(tactic| fail)
local macro_rules | `(tactic| k_all) => `(tactic| first | assumption | exact ne_of_allLt (by assumption) (by omega))
local macro_rules | `(tactic| k_mem) => `(tactic| assumption)
local macro_rules | `(tactic| is_list) => `(tactic| exact News.isList (by k_asm) (by k_mem))
local macro_rules | `(tactic| walk_at "binaryOp LShift int int") => `(tactic| (k_here; (with_reducible refine lshift_int ?kn ?ks ?_); (case kn => first | assumption | omega); (case ks => first | assumption | omega)))
local macro_rules | `(tactic| walk_at "call builtin:list.append") => `(tactic| (k_here; (with_reducible show wpAny _ _ (call (Value.builtin _) [Value.ref _, Value.int _ _]) _ _ _); k_dflt (refine' my_append ?F ?N ?U ?hi ?z ?_; (case F => k_asm); (case N => k_asm); (case U => k_upd); (case hi => assumption); (case z => omega); k_whole); intro h' F' N' hi'; (try k_sweep)))
local macro_rules | `(tactic| walk_at "call builtin:list.reverse") => `(tactic| (k_here; (with_reducible show wpAny _ _ (call (Value.builtin _) [Value.ref _]) _ _ _); k_dflt (refine' my_reverse ?F ?N ?U ?hi ?z ?_; (case F => k_asm); (case N => k_asm); (case U => k_upd); (case hi => assumption); (case z => omega); k_whole); intro h' F' N' hi'; (try k_sweep)))
theorem c_dpos (w : World) (a b : Int) (ta tb : Tok) (p1 p2 : Array Value) (rest : List (Addr × Obj)) (ha : 0 ≤ a) (hb : 0 < b) (hab : Builtin.Int.intBits a ≤ 50) (hbb : Builtin.Int.intBits b ≤ 50) 
    (ht1 : Tab1 p2 rest) (ht2 : Tab2 p1 rest) (hr1 : ∀ p ∈ rest, p.1 ≠ 37) (hr2 : ∀ p ∈ rest, p.1 ≠ 30) :
    Spec w 49 120 1100 ((37, tabObj p1) :: (30, tabObj p2) :: rest) [.int a ta, .int b tb] (PostP a b p1 p2 rest) := by
  have hbn : 0 < Builtin.Int.intBits b := by
    unfold Builtin.Int.intBits
    rw [if_neg (by simpa using (show b ≠ 0 by omega))]
    omega
  unfold Spec
  k_fill
  intros p loose mean mg mb dp un' gd cn cs ad ccd cl outer A₀ base h₀ L m s Q E B F X N T C1 C2 hk hd hu ret
  refine wpAny_call ?_
  k_dflt ktr_enter
  k_steps
  refine' spec_use (c_i2d w a (Builtin.Int.intBits b : Int) _ _ p1 p2 rest ha (by omega) (by omega) hab ht1 hr2) ?k1x1 ?k2x1 ?k3x1 ?k4x1 ?k5x1 ?k6x1 ?k7x1 ?k8x1 ?kdx1 ?kux1 ?kretx1
  (case k1x1 => k_asm); (case k2x1 => k_asm); (case k3x1 => k_asm); (case k4x1 => k_asm); (case k5x1 => k_asm); (case k6x1 => assumption); (case k7x1 => assumption); (case k8x1 => first | exact rfl | assumption); (case kdx1 => ktr_room); (case kux1 => ktr_units)
  intro v9 news9 h' tk' hp9 F' N'
  obtain ⟨la, vs, cnt, p2', ex, e1, e2, hi, htab, hla, hov⟩ := hp9
  subst e1 e2
  dsimp only
  k_steps
  rename Fr _ _ _ _ => Fl
  rename News _ _ _ _ => Nl
  rename_i lq _ _ Di _ _ hlD
  obtain ⟨hf1, hf2, hf3⟩ := digs_facts (n := (Builtin.Int.intBits b : Int)) ha (by omega) hab
  have hB : (0 : Int) < 2 ^ ((Builtin.Int.intBits b : Int)).toNat := kbt_pos _
  generalize hds : digs (2 ^ ((Builtin.Int.intBits b : Int)).toNat) a (((Builtin.Int.intBits a : Int) + (Builtin.Int.intBits b : Int) - 1).fdiv (Builtin.Int.intBits b : Int)).toNat = ds at hi hf1 hf2 hf3
  generalize hBe : (2 : Int) ^ ((Builtin.Int.intBits b : Int)).toNat = B at hB hf2 hf3
  have hdsl : vs.length = ds.length := hi.length
  refine' revLoop' (vs := vs) (n := cnt) (J := JD b B ds lq ((la, W.listOf vs.toArray cnt) :: (37, tabObj p1) :: (30, tabObj p2') :: (rest ++ ex))) rfl Fl Nl ?off ?hm ?h0 ?hJ ?turn ?done
  case off =>
    obtain ⟨o1, o2, o3, o4, o5⟩ := hlD
    intro p hp
    rcases List.mem_cons.mp hp with rfl | hp
    · exact o1
    · rcases List.mem_cons.mp hp with rfl | hp
      · exact o2
      · rcases List.mem_cons.mp hp with rfl | hp
        · exact o3
        · rcases List.mem_cons.mp hp with rfl | hp
          · exact o4
          · exact allLt_get o5 p hp
  case hm => k_mem
  case h0 =>
    refine ⟨[], [], 0, 0, _, rfl, rfl, fun _ _ _ _ => rfl, .nil, rfl, Int.le_refl 0, hb, (fun q hq => nomatch hq), ?_⟩
    rw [Nat.sub_zero, List.drop_length]
    show (0 : Int) = 0 * b + 0
    rw [Int.zero_mul, Int.add_zero]
  case hJ =>
    rintro i m₁ n₁ ⟨qvs, qs, qc, rv, tr, e1, _⟩
    rw [e1]
    exact List.mem_cons_of_mem _ (List.mem_cons_self ..)
  case done =>
    clear Fl Nl
    intro m₁ news₁ h tk hj F1 N1
    obtain ⟨qvs, qs, qc, rv, tr, e1, hr, hm, hqi, hql, hr0, hr1', hqb, hval⟩ := hj
    obtain ⟨u1, u2, u3, e3, e4, e5, e6⟩ := map3 hm
    rw [hr] at e3
    subst e3 e1 e6
    clear e4 e5
    rw [hdsl] at hql
    rw [hdsl, Nat.sub_self, List.drop_zero, hf3] at hval
    k_steps
    obtain ⟨o1, o2, o3, o4, o5⟩ := hlD
    have hlt : @LT.lt Nat _ 37 la := hla _ (List.mem_cons_self ..)
    have hne : ∀ a9 : Addr, (∀ p ∈ rest, p.1 ≠ a9) → (∀ p ∈ ex, p.1 ≠ a9) → ∀ p ∈ rest ++ ex, p.1 ≠ a9 := fun a9 h1 h2 p hp => (List.mem_append.mp hp).elim (h1 p) (h2 p)
    have hne37 := hne 37 hr1 fun p hp => Nat.ne_of_gt (hov _ (List.mem_cons_self ..) p hp)
    rename_i hI9
    refine' spec_use (c_d2i w lq (Builtin.Int.intBits b : Int) _ qvs.reverse qs.reverse qc p1 p2' ((lq, W.listOf qvs.reverse.toArray qc) :: (la, W.listOf vs.toArray cnt) :: (rest ++ ex)) (List.mem_cons_self ..) ?ww1 ?ww2 ?ww3 (by omega) (by omega) ?ww4 ?ww5) ?k1x3 ?k2x3 ?k3x3 ?k4x3 ?k5x3 ?k6x3 ?k7x3 ?k8x3 ?kdx3 ?kux3 ?kretx3
    case ww1 => assumption
    case ww2 => rw [List.length_reverse]; omega
    case ww3 => rw [hBe]; exact fun q hq => hqb q (List.mem_reverse.mp hq)
    case ww4 => exact ht2.mono fun p hp => List.mem_cons_of_mem _ (List.mem_cons_of_mem _ (List.mem_append_left _ hp))
    case ww5 =>
      refine List.forall_mem_cons.mpr ⟨?_, List.forall_mem_cons.mpr ⟨?_, hne37⟩⟩
      · k_ne
      · k_ne
    (case k4x3 => exact pull2 (.tail (.tail .head)) (.tail (.tail .head)) (by k_asm))
    (case k1x3 => k_asm); (case k2x3 => k_asm); (case k3x3 => k_asm); (case k5x3 => k_asm); (case k6x3 => assumption); (case k7x3 => assumption); (case k8x3 => first | exact rfl | assumption); (case kdx3 => ktr_room); (case kux3 => ktr_units)
    intro v9 news9 h' tk' hp9 F' N'
    obtain ⟨t9, p1', ex2, e1, e2, htab2, hov2⟩ := hp9
    rw [hBe] at e1
    subst e1 e2
    dsimp only
    k_steps
    have hqr : a / b = val B qs.reverse ∧ a % b = rv := (Int.ediv_emod_unique hb).mpr ⟨by rw [hval, Int.mul_comm b]; omega, hr0, hr1'⟩
    rename _ ∧ _ ∧ AllLt _ _ => hAL9
    refine' finP (la := la) (lq := lq) ret ?ww6 ?ww7 hqr.1.symm hqr.2.symm htab htab2 hla ?ww10 hov ?ww11
    case ww6 => assumption
    case ww7 => assumption
    case ww10 => exact allLt_get hAL9.2.2 (la, _) (List.mem_cons_of_mem _ (List.mem_cons_self ..))
    case ww11 => exact fun p hp => hov2 (la, W.listOf vs.toArray cnt) (List.mem_cons_of_mem _ (List.mem_cons_of_mem _ (List.mem_cons_of_mem _ (List.mem_cons_self ..)))) p hp
  case turn =>
    clear Fl Nl
    intro i v m₁ news₁ it h tk hlt hv hj hic F1 N1
    obtain ⟨qvs, qs, qc, rv, tr, e1, hr, hm, hqi, hql, hr0, hr1', hqb, hval⟩ := hj
    obtain ⟨d, td, ev, hd⟩ := hi.at _ _ hv
    obtain ⟨u1, u2, u3, e3, e4, e5, e6⟩ := map3 hm
    rw [hr] at e3
    subst e3 e1 ev e6
    have hdb := hf2 d (List.mem_of_getElem? hd)
    have hrb : Builtin.Int.intBits rv ≤ 50 := intBits_le_of_natAbs (by omega) hbb
    have hsh : (Builtin.Int.intBits rv : Int) + (Builtin.Int.intBits b : Int) ≤ 2 ^ 27 := by
      have : (2 : Int) ^ 27 = 134217728 := by decide
      rw [this]; omega
    clear e4 e5
    k_steps
    rw [hBe]
    have hdbits : Builtin.Int.intBits d ≤ 51 := by
      refine intBits_le_iff.mpr ?_
      have h1 : d < 2 ^ 51 := Int.lt_of_lt_of_le hdb.2 (by
        rw [← hBe, Int.toNat_natCast, ← kbt_cast, show (2 : Int) ^ 51 = ((2 ^ 51 : Nat) : Int) from (kbt_cast 51).symm]
        exact Int.ofNat_le.mpr (Nat.pow_le_pow_right (by decide) (by omega)))
      have h2 : (2 : Int) ^ 51 = ((2 ^ 51 : Nat) : Int) := (kbt_cast 51).symm
      rw [h2] at h1
      have h3 := hdb.1
      omega
    have hBbits : Builtin.Int.intBits B ≤ 51 := by
      refine intBits_le_iff.mpr ?_
      rw [← hBe, Int.toNat_natCast, ← kbt_cast, Int.natAbs_natCast]
      exact Nat.pow_lt_pow_right (by decide) (by omega)
    have hxb : Builtin.Int.intBits (rv * B + d) ≤ 4000 := Nat.le_trans (intBits_add_le (intBits_mul_le hrb hBbits) hdbits) (by decide)
    obtain ⟨z1, z2, z3, z4, z5⟩ := div_step hb hr0 hr1' hdb.1 hdb.2
    refine' spec_use (c_div2 w (rv * B + d) b (Builtin.Int.intBits b : Int) _ _ _ _ hxb (by omega) hb (by omega)) ?k1x2 ?k2x2 ?k3x2 ?k4x2 ?k5x2 ?k6x2 ?k7x2 ?k8x2 ?kdx2 ?kux2 ?kretx2
    (case k1x2 => k_asm); (case k2x2 => k_asm); (case k3x2 => k_asm); (case k4x2 => k_asm); (case k5x2 => k_asm); (case k6x2 => assumption); (case k7x2 => assumption); (case k8x2 => first | exact rfl | assumption); (case kdx2 => ktr_room); (case kux2 => ktr_units)
    intro v9 news9 h' tk' hp9 F' N'
    obtain ⟨r9, t1, t2, e1, e2, l1⟩ := hp9
    subst e1 e2
    dsimp only
    k_lt l1
    obtain ⟨hl1, hl2, hl3, hl4, hl5, hl6⟩ := l1
    k_steps
    obtain ⟨o1, o2, o3, o4, o5⟩ := hlD
    refine' JD_end (i := i + 1) ?x1 ?x2 ?x3 ?x4 ?x5 ?x6 ?x7 z3 z4 ?x8 ?x9
    case x1 => assumption
    case x2 => assumption
    case x3 =>
      refine List.forall_mem_cons.mpr ⟨?_, List.forall_mem_cons.mpr ⟨?_, List.forall_mem_cons.mpr ⟨?_, List.forall_mem_cons.mpr ⟨?_, ?_⟩⟩⟩⟩
      · k_ne
      · k_ne
      · k_ne
      · k_ne
      · exact ne_of_allLt o5 (Nat.le_refl _)
    case x4 => rfl
    case x5 =>
      intro y h1 h2 h3
      dsimp only
      rw [if_neg h1, if_neg h2, if_neg h3, if_neg h1, if_neg h2, if_neg h3]
    case x6 => assumption
    case x7 => rw [List.length_append, hql]; rfl
    case x8 =>
      intro q hq
      rcases List.mem_append.mp hq with hq | hq
      · exact hqb q hq
      · rw [List.mem_singleton.mp hq]; exact ⟨z1, z2⟩
    case x9 => exact JD_val (by omega) (by rw [← hdsl]; exact hd) hval z5
end Mine
/-! part M8 -/
namespace Mine
local macro_rules | `(tactic| walk_at "mine pad") => `(tactic| fail)
local macro_rules | `(tactic| walk_at "mine pad") => `(tactic| fail)
local macro_rules | `(tactic| walk_at "mine pad") => `(tactic| fail)
local macro_rules | `(tactic| walk_at "mine pad") => `(tactic| fail)
local macro_rules | `(tactic| walk_at "mine pad") => `(tactic| fail)
local macro_rules | `(tactic| walk_at "mine pad") => `(tactic| fail)
local macro_rules | `(tactic| walk_at "mine pad") => `(tactic| fail)
local macro_rules | `(tactic| walk_at "mine pad") => `(tactic| fail)
local macro_rules | `(tactic| walk_at "mine pad") => `(tactic| fail)
local macro_rules | `(tactic| walk_at "mine pad") => `(tactic| fail)
local macro_rules | `(tactic| walk_at "mine pad") => `(tactic| fail)
local macro_rules | `(tactic| walk_at "mine pad") => `(tactic| fail)
local macro_rules | `(tactic| k_all) => `(tactic| first | assumption | exact ne_of_allLt (by assumption) (by omega))
local macro_rules | `(tactic| k_mem) => `(tactic| assumption)
theorem c_idm (w : World) (a b : Int) (ta tb : Tok) (p1 p2 : Array Value) (rest : List (Addr × Obj)) (ha : 0 ≤ a) (hb : 0 < b) (hab : Builtin.Int.intBits a ≤ 50) (hbb : Builtin.Int.intBits b ≤ 50) 
    (ht1 : Tab1 p2 rest) (ht2 : Tab2 p1 rest) (hr1 : ∀ p ∈ rest, p.1 ≠ 37) (hr2 : ∀ p ∈ rest, p.1 ≠ 30) :
    Spec w 56 125 1150 ((37, tabObj p1) :: (30, tabObj p2) :: rest) [.int a ta, .int b tb] (PostP a b p1 p2 rest) := by
  unfold Spec
  k_fill
  intros p loose mean mg mb dp un' gd cn cs ad ccd cl outer A₀ base h₀ L m s Q E B F X N T C1 C2 hk hd hu ret
  refine wpAny_call ?_
  k_dflt ktr_enter
  k_steps
  all_goals (try (exfalso; omega))
  refine' spec_use (c_dpos w a b _ _ p1 p2 rest ha hb hab hbb ht1 ht2 hr1 hr2) ?k1x1 ?k2x1 ?k3x1 ?k4x1 ?k5x1 ?k6x1 ?k7x1 ?k8x1 ?kdx1 ?kux1 ?kretx1
  (case k1x1 => k_asm); (case k2x1 => k_asm); (case k3x1 => k_asm); (case k4x1 => k_asm); (case k5x1 => k_asm); (case k6x1 => assumption); (case k7x1 => assumption); (case k8x1 => first | exact rfl | assumption); (case kdx1 => ktr_room); (case kux1 => ktr_units)
  intro v9 news9 h' tk' hp9 F' N'
  have hp8 := hp9
  obtain ⟨D, t1, t2, p1', p2', ex, e1, e2, htab1, htab2, hD, hov⟩ := hp9
  subst e1 e2
  dsimp only
  k_steps
  exact ret _ _ _ _ hp8 (by assumption) (by assumption)
end Mine
/-! part M9a -/
namespace Mine
local macro_rules | `(tactic| walk_at "mine pad") => `(tactic| fail)
local macro_rules | `(tactic| walk_at "mine pad") => `(tactic| fail)
local macro_rules | `(tactic| walk_at "mine pad") => `(tactic| fail)
local macro_rules | `(tactic| walk_at "mine pad") => `(tactic| fail)
local macro_rules | `(tactic| walk_at "mine pad") => `(tactic| fail)
local macro_rules | `(tactic| walk_at "mine pad") => `(tactic| fail)
local macro_rules | `(tactic| walk_at "mine pad") => `(tactic| fail)
local macro_rules | `(tactic| walk_at "mine pad") => `(tactic| fail)
local macro_rules | `(tactic| walk_at "mine pad") => `(tactic| fail)
local macro_rules | `(tactic| walk_at "mine pad") => `(tactic| fail)
local macro_rules | `(tactic| walk_at "mine pad") => `(tactic| fail)
local macro_rules | `(tactic| walk_at "mine pad") => `(tactic| fail)
local macro_rules | `(tactic| walk_at "mine pad") => `(tactic| fail)
/-- a halt of the walk -/
def Stop (P : Prop) : Prop := P
theorem Stop.out {P : Prop} (h : Stop P) : P := h
/-- Euclid's road from a and b: the quotients, then what is left -/
inductive Eu : Int → Int → List Int → Int → Prop where
  | zero {a : Int} : Eu a 0 [] a
  | step {a b : Int} {l : List Int} {g : Int} (hb : 0 < b) (h : Eu b (a % b) l g) : Eu a b (a / b :: l) g
theorem Eu.inv {a b : Int} {l : List Int} {g : Int} (h : Eu a b l g) (hb : b ≠ 0) : ∃ l', l = a / b :: l' ∧ 0 < b ∧ Eu b (a % b) l' g := by
  cases h with
  | zero => exact absurd rfl hb
  | step h0 h => exact ⟨_, rfl, h0, h⟩
theorem Eu.inv0 {a : Int} {l : List Int} {g : Int} (h : Eu a 0 l g) : l = [] ∧ g = a := by
  cases h with
  | zero => exact ⟨rfl, rfl⟩
  | step h0 h => exact absurd h0 (by decide)
theorem map4 {m m0 : Str → Option Value} {a b c d : Str} (h : ∀ y, y ≠ a → y ≠ b → y ≠ c → y ≠ d → m y = m0 y) : ∃ u v w x, m a = u ∧ m b = v ∧ m c = w ∧ m d = x ∧ m = fun y => if y = a then u else if y = b then v else if y = c then w else if y = d then x else m0 y := by
  refine ⟨m a, m b, m c, m d, rfl, rfl, rfl, rfl, ?_⟩
  funext y
  by_cases h1 : y = a
  · rw [if_pos h1, h1]
  · rw [if_neg h1]
    by_cases h2 : y = b
    · rw [if_pos h2, h2]
    · rw [if_neg h2]
      by_cases h3 : y = c
      · rw [if_pos h3, h3]
      · rw [if_neg h3]
        by_cases h4 : y = d
        · rw [if_pos h4, h4]
        · rw [if_neg h4]; exact h y h1 h2 h3 h4
section
variable {prog : Program} {w : World} {A : Around} {E : Value → Shared → Prop} {s : Shared} {env : Env} {h₀ : Heap} {L : Addr} {test : PySem.Expr} {body : List Stmt} {Q : Flow → Shared → Prop}
def WEnd (h₀ : Heap) (L : Addr) (s : Shared) (n : Nat) (J : Nat → (Str → Option Value) → List (Addr × Obj) → Prop) (s₂ : Shared) : Prop :=
  ∃ h tk m news n', s₂ = { s with heap := h, toks := tk } ∧ Fr h₀ L h m ∧ News h₀ L h news ∧ n' < n ∧ J n' m news
def WPost (h₀ : Heap) (L : Addr) (s : Shared) (n : Nat) (J : Nat → (Str → Option Value) → List (Addr × Obj) → Prop) (Q : Flow → Shared → Prop) (f : Flow) (s₂ : Shared) : Prop :=
  match f with
  | .ret v => Q (.ret v) s₂
  | .brk => Q .next s₂
  | _ => WEnd h₀ L s n J s₂
theorem WEnd.intro {s : Shared} {n n' : Nat} {J : Nat → (Str → Option Value) → List (Addr × Obj) → Prop} {h : Heap} {tk : Nat} {m : Str → Option Value} {all news : List (Addr × Obj)} (F : Fr h₀ L h m) (N : News h₀ L h all) (hs : ∀ p ∈ news, p ∈ all) (hn : n' < n) (hj : J n' m news) :
    WEnd h₀ L s n J { s with heap := h, toks := tk } := ⟨h, tk, m, news, n', rfl, F, fun p hp => N p (hs p hp), hn, hj⟩
theorem whileJ {m₀ : Str → Option Value} {news : List (Addr × Obj)} {pos : Pos} (J : (Str → Option Value) → Nat → (Str → Option Value) → List (Addr × Obj) → Prop) (n : Nat) (F : Fr h₀ L s.heap m₀) (N : News h₀ L s.heap news) (h0 : J m₀ n m₀ news)
    (turn : ∀ n m₁ news₁ h tk, J m₀ n m₁ news₁ → Fr h₀ L h m₁ → News h₀ L h news₁ →
      wpAny (model prog w) A (isTrue test env (eval test env)) (fun b s₂ => if b = true then wpAny (model prog w) A (execs body env) (WPost h₀ L s n (J m₀) Q) E s₂ else wpAny (model prog w) A (execs [] env) Q E s₂) E { s with heap := h, toks := tk })
    (hE : PassesOwn (model prog w) A env E := by passes_own) :
    wpAny (model prog w) A (exec (.While test body [] pos) env) Q E s := by
  have key : ∀ n s₁, (∃ h tk m₁ news₁, s₁ = { s with heap := h, toks := tk } ∧ Fr h₀ L h m₁ ∧ News h₀ L h news₁ ∧ J m₀ n m₁ news₁) → WhlRest prog w A E env test body [] Q 1 s₁ := by
    intro n
    induction n using Nat.strongRecOn with
    | ind n IH =>
      rintro s₁ ⟨h, tk, m₁, news₁, rfl, F₁, N₁, hj⟩
      refine whl_turn (k := 0) hE (wpAny_mono (turn n m₁ news₁ h tk hj F₁ N₁) (fun b s₂ h₂ => ?_) fun _ _ e => e)
      unfold WhlIf
      by_cases hb : b = true
      · rw [if_pos hb] at h₂ ⊢
        refine wpAny_mono h₂ (fun f s₃ h₃ => ?_) fun _ _ e => e
        have fin : WEnd h₀ L s n (J m₀) s₃ → WhlRest prog w A E env test body [] Q 0 s₃ := by
          rintro ⟨h', tk', m', news', n', e, F', N', hn, hj'⟩
          exact IH n' hn s₃ ⟨h', tk', m', news', e, F', N', hj'⟩
        cases f with
        | ret v => exact h₃
        | brk => exact h₃
        | next => exact fin h₃
        | cont => exact fin h₃
      · rw [if_neg hb] at h₂ ⊢
        exact h₂
  exact whl_start 1 (key n s ⟨s.heap, s.toks, m₀, news, rfl, F, N, h0⟩)
end
end Mine
/-! part M9 -/
namespace Mine
local macro_rules | `(tactic| walk_at "mine pad") => `(tactic| fail)
local macro_rules | `(tactic| walk_at "mine pad") => `(tactic| fail)
local macro_rules | `(tactic| walk_at "mine pad") => `(tactic| fail)
local macro_rules | `(tactic| walk_at "mine pad") => `(tactic| fail)
local macro_rules | `(tactic| walk_at "mine pad") => `(tactic| fail)
local macro_rules | `(tactic| walk_at "mine pad") => `(tactic| fail)
local macro_rules | `(tactic| walk_at "mine pad") => `(tactic| fail)
local macro_rules | `(tactic| walk_at "mine pad") => `(tactic| fail)
local macro_rules | `(tactic| walk_at "mine pad") => `(tactic| fail)
local macro_rules | `(tactic| walk_at "mine pad") => `(tactic| fail)
local macro_rules | `(tactic| walk_at "mine pad") => `(tactic| fail)
local macro_rules | `(tactic| walk_at "mine pad") => `(tactic| fail)
local macro_rules | `(tactic| k_all) => `(tactic| first | assumption | exact ne_of_allLt (by assumption) (by omega))
local macro_rules | `(tactic| k_mem) => `(tactic| assumption)
local macro_rules | `(tactic| walk_at "call builtin:list.append") => `(tactic| (k_here; (with_reducible show wpAny _ _ (call (Value.builtin _) [Value.ref _, Value.int _ _]) _ _ _); k_dflt (refine' my_append ?F ?N ?U ?hi ?z ?_; (case F => k_asm); (case N => k_asm); (case U => k_upd); (case hi => assumption); (case z => omega); k_whole); intro h' F' N' hi'; (try k_sweep)))
local macro_rules | `(tactic| walk_at "exec While Compare cons nil") => `(tactic| (k_here; (with_reducible show wpAny _ _ (exec (Stmt.While _ _ _ _) _) _ _ _); refine Stop.out ?_))
abbrev PostS (l : List Int) (g : Int) (p1 p2 : Array Value) (rest : List (Addr × Obj)) (v : Value) (news' : List (Addr × Obj)) : Prop :=
  ∃ D lf fvs fc t p1' p2' ex, v = .ref D ∧ news' = (D, tupO [.ref lf, .int g t]) :: (lf, W.listOf fvs.toArray fc) :: (37, tabObj p1') :: (30, tabObj p2') :: (rest ++ ex) ∧ IntsAre fvs l ∧ (∀ r0, Tab1 p2 r0 → Tab1 p2' (r0 ++ ex)) ∧ (∀ r0, Tab2 p1 r0 → Tab2 p1' (r0 ++ ex)) ∧
    (∀ q ∈ ((37, tabObj p1) : Addr × Obj) :: (30, tabObj p2) :: rest, @LT.lt Nat _ q.1 lf) ∧ @LT.lt Nat _ lf D ∧ Over ((37, tabObj p1) :: (30, tabObj p2) :: rest) ex
def JS (l : List Int) (g : Int) (lf : Addr) (rest : List (Addr × Obj)) (P1 P2 : Array Value) (m₀ : Str → Option Value) (n : Nat) (m₁ : Str → Option Value) (n₁ : List (Addr × Obj)) : Prop :=
  ∃ x y tx ty fvs fns fc p1 p2 ex l', n₁ = (lf, W.listOf fvs.toArray fc) :: (37, tabObj p1) :: (30, tabObj p2) :: (rest ++ ex) ∧ m₁ "one" = some (.int x tx) ∧ m₁ "other" = some (.int y ty) ∧
    (∀ z : Str, z ≠ "one" → z ≠ "other" → z ≠ "often" → z ≠ "rest" → m₁ z = m₀ z) ∧ IntsAre fvs fns ∧ l = fns ++ l' ∧ l'.length = n ∧ Eu x y l' g ∧ 0 ≤ x ∧ 0 ≤ y ∧ Builtin.Int.intBits x ≤ 50 ∧ Builtin.Int.intBits y ≤ 50 ∧
    (∀ r0, Tab1 P2 r0 → Tab1 p2 (r0 ++ ex)) ∧ (∀ r0, Tab2 P1 r0 → Tab2 p1 (r0 ++ ex)) ∧ (∀ p ∈ ex, p.1 ≠ lf ∧ p.1 ≠ 37 ∧ p.1 ≠ 30) ∧ (∀ q ∈ rest, ∀ p ∈ ex, @LT.lt Nat _ q.1 p.1) ∧ (∀ p ∈ ex, @LT.lt Nat _ 37 p.1 ∧ @LT.lt Nat _ 30 p.1)
theorem JS_end {l : List Int} {g : Int} {lf : Addr} {rest ex ex2 : List (Addr × Obj)} {m₀ m' : Str → Option Value} {n n' : Nat} {h₀ : Heap} {L : Addr} {s : Shared} {h' : Heap} {tk : Nat} {Q : Flow → Shared → Prop} {D D2 : Addr} {o o2 : Obj} {x y : Int} {tx ty : Tok} {fvs : List Value} {fns l' : List Int} {fc : Nat} {p1 p2 P1 P2 : Array Value}
    (F : Fr h₀ L h' m') (N : News h₀ L h' ((D2, o2) :: (D, o) :: (37, tabObj p1) :: (30, tabObj p2) :: (lf, W.listOf fvs.toArray fc) :: ((rest ++ ex) ++ ex2))) (hn : n' < n)
    (hx : m' "one" = some (.int x tx)) (hy : m' "other" = some (.int y ty)) (hm : ∀ z : Str, z ≠ "one" → z ≠ "other" → z ≠ "often" → z ≠ "rest" → m' z = m₀ z) (hi : IntsAre fvs fns) (hl : l = fns ++ l') (hl2 : l'.length = n') (hE : Eu x y l' g) (hx0 : 0 ≤ x) (hy0 : 0 ≤ y)
    (hxb : Builtin.Int.intBits x ≤ 50) (hyb : Builtin.Int.intBits y ≤ 50) (ht1 : ∀ r0, Tab1 P2 r0 → Tab1 p2 (r0 ++ (ex ++ ex2))) (ht2 : ∀ r0, Tab2 P1 r0 → Tab2 p1 (r0 ++ (ex ++ ex2)))
    (h1 : ∀ p ∈ ex, p.1 ≠ lf ∧ p.1 ≠ 37 ∧ p.1 ≠ 30) (h2 : ∀ q ∈ rest, ∀ p ∈ ex, @LT.lt Nat _ q.1 p.1) (h3 : ∀ p ∈ ex, @LT.lt Nat _ 37 p.1 ∧ @LT.lt Nat _ 30 p.1)
    (hov : ∀ p ∈ ex2, @LT.lt Nat _ 37 p.1 ∧ @LT.lt Nat _ 30 p.1 ∧ @LT.lt Nat _ lf p.1 ∧ ∀ q ∈ rest, @LT.lt Nat _ q.1 p.1) : WPost h₀ L s n (JS l g lf rest P1 P2 m₀) Q .next { s with heap := h', toks := tk } := by
  have e : rest ++ (ex ++ ex2) = (rest ++ ex) ++ ex2 := (List.append_assoc ..).symm
  refine WEnd.intro (news := (lf, W.listOf fvs.toArray fc) :: (37, tabObj p1) :: (30, tabObj p2) :: (rest ++ (ex ++ ex2))) F N (fun p hp => ?_) hn ⟨x, y, tx, ty, fvs, fns, fc, p1, p2, ex ++ ex2, l', rfl, hx, hy, hm, hi, hl, hl2, hE, hx0, hy0, hxb, hyb, ?_, ?_, ?_, ?_, ?_⟩
  · rw [e] at hp
    refine List.mem_cons_of_mem _ (List.mem_cons_of_mem _ ?_)
    rcases List.mem_cons.mp hp with rfl | hp
    · exact List.mem_cons_of_mem _ (List.mem_cons_of_mem _ (List.mem_cons_self ..))
    · rcases List.mem_cons.mp hp with rfl | hp
      · exact List.mem_cons_self ..
      · rcases List.mem_cons.mp hp with rfl | hp
        · exact List.mem_cons_of_mem _ (List.mem_cons_self ..)
        · exact List.mem_cons_of_mem _ (List.mem_cons_of_mem _ (List.mem_cons_of_mem _ hp))
  · exact ht1
  · exact ht2
  · intro p hp
    rcases List.mem_append.mp hp with hp | hp
    · exact h1 p hp
    · obtain ⟨a1, a2, a3, _⟩ := hov p hp
      exact ⟨Nat.ne_of_gt a3, Nat.ne_of_gt a1, Nat.ne_of_gt a2⟩
  · intro q hq p hp
    rcases List.mem_append.mp hp with hp | hp
    · exact h2 q hq p hp
    · exact (hov p hp).2.2.2 q hq
  · intro p hp
    rcases List.mem_append.mp hp with hp | hp
    · exact h3 p hp
    · exact ⟨(hov p hp).1, (hov p hp).2.1⟩
theorem finS {l : List Int} {g : Int} {p1 p2 p1' p2' : Array Value} {rest ex : List (Addr × Obj)} {h₀ : Heap} {L : Addr} {m : Str → Option Value} {s : Shared} {Q : Value → Shared → Prop} {D lf : Addr} {x : Int} {t : Tok} {fvs : List Value} {fns l' : List Int} {fc : Nat} {h' : Heap} {tk' : Nat}
    (ret : ∀ v news' h' tk', PostS l g p1 p2 rest v news' → Fr h₀ L h' m → News h₀ L h' news' → Q v { s with heap := h', toks := tk' })
    (kF : Fr h₀ L h' m) (kN : News h₀ L h' ((D, tupO [.ref lf, .int x t]) :: (lf, W.listOf fvs.toArray fc) :: (37, tabObj p1') :: (30, tabObj p2') :: (rest ++ ex))) (hi : IntsAre fvs fns) (hl : l = fns ++ l') (hE : Eu x 0 l' g) (ht1 : ∀ r0, Tab1 p2 r0 → Tab1 p2' (r0 ++ ex)) (ht2 : ∀ r0, Tab2 p1 r0 → Tab2 p1' (r0 ++ ex))
    (hA : @LT.lt Nat _ 37 lf ∧ @LT.lt Nat _ 30 lf ∧ AllLt lf rest) (hD : @LT.lt Nat _ lf D) (h2 : ∀ q ∈ rest, ∀ p ∈ ex, @LT.lt Nat _ q.1 p.1) (h3 : ∀ p ∈ ex, @LT.lt Nat _ 37 p.1 ∧ @LT.lt Nat _ 30 p.1) : Q (.ref D) { s with heap := h', toks := tk' } := by
  obtain ⟨rfl, rfl⟩ := hE.inv0
  rw [List.append_nil] at hl
  subst hl
  refine ret _ _ _ _ ⟨D, lf, fvs, fc, t, p1', p2', ex, rfl, rfl, hi, ht1, ht2, lt_three hA.1 hA.2.1 hA.2.2 (Nat.le_refl _), hD, fun q hq p hp => ?_⟩ kF kN
  rcases List.mem_cons.mp hq with rfl | hq
  · exact (h3 p hp).1
  · rcases List.mem_cons.mp hq with rfl | hq
    · exact (h3 p hp).2
    · exact h2 q hq p hp
theorem c_steps (w : World) (a b : Int) (ta tb : Tok) (l : List Int) (g : Int) (p1 p2 : Array Value) (rest : List (Addr × Obj)) (he : Eu a b l g) (hl : l.length ≤ 200) (ha : 0 ≤ a) (hb : 0 ≤ b) (hab : Builtin.Int.intBits a ≤ 50) (hbb : Builtin.Int.intBits b ≤ 50) 
    (ht1 : Tab1 p2 rest) (ht2 : Tab2 p1 rest) (hr1 : ∀ p ∈ rest, p.1 ≠ 37) (hr2 : ∀ p ∈ rest, p.1 ≠ 30) :
    Spec w 79 130 1200 ((37, tabObj p1) :: (30, tabObj p2) :: rest) [.int a ta, .int b tb] (PostS l g p1 p2 rest) := by
  unfold Spec
  k_fill
  intros p loose mean mg mb dp un' gd cn cs ad ccd cl outer A₀ base h₀ L m s Q E B F X N T C1 C2 hk hd hu ret
  refine wpAny_call ?_
  k_dflt ktr_enter
  k_steps
  unfold Stop
  rename Fr _ _ _ _ => Fl
  rename News _ _ _ _ => Nl
  rename _ ∧ _ ∧ AllLt _ _ => hA9
  rename_i lf _ _
  refine' whileJ (J := JS l g lf rest p1 p2) l.length Fl Nl ?h0 ?turn
  case h0 => exact ⟨a, b, _, _, [], [], 0, p1, p2, [], l, by rw [List.append_nil], rfl, rfl, fun _ _ _ _ _ => rfl, .nil, rfl, rfl, he, ha, hb, hab, hbb, (fun r0 h0 => by rw [List.append_nil]; exact h0), (fun r0 h0 => by rw [List.append_nil]; exact h0), (fun p hp => nomatch hp), (fun q hq p hp => nomatch hp), (fun p hp => nomatch hp)⟩
  case turn =>
    clear Fl Nl
    intro n m₁ news₁ h tk hj F1 N1
    obtain ⟨x, y, tx, ty, fvs, fns, fc, q1, q2, ex, l', e1, hx, hy, hm, hfi, hll, hln, hE, hx0, hy0, hxb, hyb, ht1', ht2', hex1, hex2, hex3⟩ := hj
    obtain ⟨u1, u2, u3, u4, e3, e4, e5, e6, e7⟩ := map4 hm
    rw [hx] at e3
    rw [hy] at e4
    subst e1 e3 e4 e7
    clear e5 e6
    k_steps
    · rename y ≠ 0 => hy9
      obtain ⟨l2, e8, hy1, hE2⟩ := hE.inv hy9
      obtain ⟨oA1, oA2, oA3⟩ := hA9
      have hne : ∀ p ∈ ((lf, W.listOf fvs.toArray fc) :: (rest ++ ex)), p.1 ≠ 37 ∧ p.1 ≠ 30 := by
        intro p hp
        rcases List.mem_cons.mp hp with rfl | hp
        · exact ⟨Nat.ne_of_gt oA1, Nat.ne_of_gt oA2⟩
        · rcases List.mem_append.mp hp with hp | hp
          · exact ⟨hr1 p hp, hr2 p hp⟩
          · exact (hex1 p hp).2
      refine' spec_use (c_idm w x y tx ty q1 q2 ((lf, W.listOf fvs.toArray fc) :: (rest ++ ex)) hx0 hy1 hxb hyb ((ht1' rest ht1).mono fun p hp => List.mem_cons_of_mem _ hp) ((ht2' rest ht2).mono fun p hp => List.mem_cons_of_mem _ hp) (fun p hp => (hne p hp).1) (fun p hp => (hne p hp).2)) ?k1x1 ?k2x1 ?k3x1 ?k4x1 ?k5x1 ?k6x1 ?k7x1 ?k8x1 ?kdx1 ?kux1 ?kretx1
      (case k4x1 => exact pull2 (.tail .head) (.tail .head) (by k_asm))
      (case k1x1 => k_asm); (case k2x1 => k_asm); (case k3x1 => k_asm); (case k5x1 => k_asm); (case k6x1 => assumption); (case k7x1 => assumption); (case k8x1 => first | exact rfl | assumption); (case kdx1 => ktr_room); (case kux1 => ktr_units)
      intro v9 news9 h' tk' hp9 F' N'
      obtain ⟨D, t1, t2, r1, r2, ex2, e1, e2, htb1, htb2, hD, hov⟩ := hp9
      subst e1 e2
      rw [List.cons_append] at N'
      have hm0 := Int.emod_nonneg x hy9
      have hm1 := Int.emod_lt_of_pos x hy1
      have hDl : @LT.lt Nat _ lf D := hD _ (List.mem_cons_of_mem _ (List.mem_cons_of_mem _ (List.mem_cons_self ..)))
      have hnl : ∀ p ∈ (rest ++ ex) ++ ex2, p.1 ≠ lf := by
        intro p hp
        rcases List.mem_append.mp hp with hp | hp
        · rcases List.mem_append.mp hp with hp | hp
          · exact ne_of_allLt oA3 (Nat.le_refl _) p hp
          · exact (hex1 p hp).1
        · exact Nat.ne_of_gt (hov (lf, W.listOf fvs.toArray fc) (List.mem_cons_of_mem _ (List.mem_cons_of_mem _ (List.mem_cons_self ..))) p hp)
      have hfl : fns.length ≤ 200 := by
        have := congrArg List.length hll
        rw [List.length_append] at this
        omega
      dsimp only
      k_steps
      refine' JS_end (n' := l2.length) (fns := fns ++ [x / y]) (l' := l2) ?j1 ?j2 ?j3 ?j4 ?j5 ?j6 ?j7 ?j8 rfl hE2 hy0 hm0 hyb ?j9 ?j10 ?j11 hex1 hex2 hex3 ?j12
      case j1 => assumption
      case j2 => assumption
      case j3 => rw [← hln, e8, List.length_cons]; omega
      case j4 => rfl
      case j5 => rfl
      case j6 =>
        intro z h1 h2 h3 h4
        dsimp only
        rw [if_neg h1, if_neg h2, if_neg h4, if_neg h3, if_neg h1, if_neg h2, if_neg h3, if_neg h4]
      case j7 => assumption
      case j8 => rw [hll, e8, List.append_assoc]; rfl
      case j9 => exact intBits_le_of_natAbs (by omega) hyb
      case j10 => exact fun r0 h0 => by rw [← List.append_assoc]; exact htb1 _ (ht1' r0 h0)
      case j11 => exact fun r0 h0 => by rw [← List.append_assoc]; exact htb2 _ (ht2' r0 h0)
      case j12 =>
        intro p hp
        refine ⟨hov _ (List.mem_cons_self ..) p hp, hov _ (List.mem_cons_of_mem _ (List.mem_cons_self ..)) p hp, hov (lf, W.listOf fvs.toArray fc) (List.mem_cons_of_mem _ (List.mem_cons_of_mem _ (List.mem_cons_self ..))) p hp, fun q hq => ?_⟩
        exact hov q (List.mem_cons_of_mem _ (List.mem_cons_of_mem _ (List.mem_cons_of_mem _ (List.mem_append_left _ hq)))) p hp
    · rename _ ∧ _ ∧ _ ∧ AllLt _ _ => hA8
      rename y = 0 => hy9
      subst hy9
      refine' finS (p1' := q1) (p2' := q2) (lf := lf) ret ?j13 ?j14 hfi hll hE ht1' ht2' hA9 hA8.1 hex2 hex3
      case j13 => assumption
      case j14 => assumption
end Mine
/-! part M10 -/
namespace Mine
local macro_rules | `(tactic| walk_at "mine pad") => `(tactic| fail)
local macro_rules | `(tactic| walk_at "mine pad") => `(tactic| fail)
local macro_rules | `(tactic| walk_at "mine pad") => `(tactic| fail)
local macro_rules | `(tactic| walk_at "mine pad") => `(tactic| fail)
local macro_rules | `(tactic| walk_at "mine pad") => `(tactic| fail)
local macro_rules | `(tactic| walk_at "mine pad") => `(tactic| fail)
local macro_rules | `(tactic| walk_at "mine pad") => `(tactic| fail)
local macro_rules | `(tactic| walk_at "mine pad") => `(tactic| fail)
local macro_rules | `(tactic| walk_at "mine pad") => `(tactic| fail)
local macro_rules | `(tactic| walk_at "mine pad") => `(tactic| fail)
local macro_rules | `(tactic| walk_at "mine pad") => `(tactic| fail)
local macro_rules | `(tactic| walk_at "mine pad") => `(tactic| fail)
local macro_rules | `(tactic| walk_at "mine pad") => `(tactic| fail)
local macro_rules | `(tactic| walk_at "mine pad") => `(tactic| fail)
local macro_rules | `(tactic| k_all) => `(tactic| first | assumption | exact ne_of_allLt (by assumption) (by omega))
local macro_rules | `(tactic| k_mem) => `(tactic| assumption)
local macro_rules | `(tactic| is_list) => `(tactic| exact News.isList (by k_asm) (by k_mem))
local macro_rules | `(tactic| walk_at "exec While Compare cons nil") => `(tactic| (k_here; (with_reducible show wpAny _ _ (exec (Stmt.While _ _ _ _) _) _ _ _); refine Stop.out ?_))
def BisAt (ns : List Int) (x : Int) (k : Int) : Prop := 0 ≤ k ∧ k ≤ ns.length ∧ (∀ i : Nat, (i : Int) < k → ns.getD i 0 ≤ x) ∧ ∀ i : Nat, k ≤ (i : Int) → i < ns.length → x < ns.getD i 0
def JB (ns : List Int) (x : Int) (news : List (Addr × Obj)) (m₀ : Str → Option Value) (n : Nat) (m₁ : Str → Option Value) (n₁ : List (Addr × Obj)) : Prop :=
  ∃ lo hi tl th, n₁ = news ∧ m₁ "lo" = some (.int lo tl) ∧ m₁ "hi" = some (.int hi th) ∧ (∀ z : Str, z ≠ "lo" → z ≠ "hi" → z ≠ "mid" → m₁ z = m₀ z) ∧ 0 ≤ lo ∧ lo ≤ hi ∧ hi ≤ ns.length ∧
    (∀ i : Nat, (i : Int) < lo → ns.getD i 0 ≤ x) ∧ (∀ i : Nat, hi ≤ (i : Int) → i < ns.length → x < ns.getD i 0) ∧ n = (hi - lo).toNat
theorem JB_end {ns : List Int} {x : Int} {news : List (Addr × Obj)} {m₀ m' : Str → Option Value} {n : Nat} {h₀ : Heap} {L : Addr} {s : Shared} {h' : Heap} {tk : Nat} {Q : Flow → Shared → Prop} {lo hi : Int} {tl th : Tok}
    (F : Fr h₀ L h' m') (N : News h₀ L h' news) (hlo : m' "lo" = some (.int lo tl)) (hhi : m' "hi" = some (.int hi th)) (hm : ∀ z : Str, z ≠ "lo" → z ≠ "hi" → z ≠ "mid" → m' z = m₀ z) (h1 : 0 ≤ lo) (h2 : lo ≤ hi) (h3 : hi ≤ ns.length)
    (h4 : ∀ i : Nat, (i : Int) < lo → ns.getD i 0 ≤ x) (h5 : ∀ i : Nat, hi ≤ (i : Int) → i < ns.length → x < ns.getD i 0) (hn : (hi - lo).toNat < n) : WPost h₀ L s n (JB ns x news m₀) Q .next { s with heap := h', toks := tk } :=
  WEnd.intro F N (fun p hp => hp) hn ⟨lo, hi, tl, th, rfl, hlo, hhi, hm, h1, h2, h3, h4, h5, rfl⟩
def Rising (ns : List Int) : Prop := ∀ i j : Nat, i ≤ j → j < ns.length → ns.getD i 0 ≤ ns.getD j 0
theorem c_bis (w : World) (row : Addr) (x : Int) (tx : Tok) (vs : List Value) (ns : List Int) (cnt : Nat) (news : List (Addr × Obj)) (hrow : (row, W.listOf vs.toArray cnt) ∈ news) (hi1 : IntsAre vs ns) (hlen : ns.length ≤ 1000) (hris : Rising ns) :
    Spec w 65 10 100 news [.ref row, .int x tx] fun v news' => news' = news ∧ ∃ k t, v = .int k t ∧ BisAt ns x k := by
  unfold Spec
  k_fill
  intros p loose mean mg mb dp un' gd cn cs ad ccd cl outer A₀ base h₀ L m s Q E B F X N T C1 C2 hk hd hu ret
  refine wpAny_call ?_
  k_dflt (refine' code_def ?k1 ?k2 ?k3 ?k4 ?k5 ?kA ?kF ?kK ?k6 ?k7 ?k8 ?k9 ?kB ?_ ?c2 ?c3 ?c4 ?c5; (case kA => exact rfl); (case kF => exact rfl); (case kK => first | exact rfl | assumption); (case k1 => k_asm); (case k2 => k_asm); (case k3 => k_asm); (case k4 => k_asm); (case k5 => k_asm); (case k6 => k_is); (case k7 => k_is); (case k8 => ktr_room); (case k9 => (refine' kp_binds ?kx ?ke; (case kx => k_in); (case ke => exact fun _ => rfl))); (case c5 => decide); (case kB => exact locs rfl); (case c2 => exact rfl); (case c3 => exact rfl); (case c4 => exact rfl); k_whole; intro g' L' h' FG' F' N' B' X' T'; (try dsimp only); (try k_lift B'); (try k_fold))
  k_steps
  unfold Stop
  rename Fr _ _ _ _ => Fl
  rename News _ _ _ _ => Nl
  refine' whileJ (J := JB ns x news) ((ns.length : Int) - 0).toNat Fl Nl ?h0 ?turn
  case h0 => exact ⟨0, ns.length, _, _, rfl, rfl, rfl, fun _ _ _ _ => rfl, Int.le_refl 0, by omega, Int.le_refl _, fun i h9 => by omega, fun i h9 h8 => by omega, rfl⟩
  case turn =>
    clear Fl Nl
    intro n m₁ news₁ h tk hj F1 N1
    obtain ⟨lo, hi, tl, th, e1, hlo, hhi, hm, hb1, hb2, hb3, hb4, hb5, hn9⟩ := hj
    obtain ⟨u1, u2, u3, e3, e4, e5, e7⟩ := map3 hm
    rw [hlo] at e3
    rw [hhi] at e4
    subst e1 e3 e4 e7
    clear e5
    have hmid : (lo + hi).fdiv 2 = (lo + hi) / 2 := Int.fdiv_eq_ediv_of_nonneg _ (by decide)
    k_steps
    · rename lo < hi => hlt
      rename x < _ => hxa
      refine' JB_end ?f1 ?f2 ?f3 ?f4 ?f5 hb1 ?f6 ?f7 hb4 ?f8 ?f9
      case f1 => assumption
      case f2 => assumption
      case f3 => rfl
      case f4 => rfl
      case f5 =>
        intro z h1 h2 h3
        dsimp only
        rw [if_neg h2, if_neg h3, if_neg h1, if_neg h2, if_neg h3]
      case f6 => omega
      case f7 => omega
      case f8 =>
        intro i h9 h8
        exact Int.lt_of_lt_of_le hxa (hris _ i (by omega) h8)
      case f9 => omega
    · rename lo < hi => hlt
      rename ¬ x < _ => hxa
      refine' JB_end ?g1 ?g2 ?g3 ?g4 ?g5 ?g6 ?g7 hb3 ?g8 hb5 ?g9
      case g1 => assumption
      case g2 => assumption
      case g3 => rfl
      case g4 => rfl
      case g5 =>
        intro z h1 h2 h3
        dsimp only
        rw [if_neg h1, if_neg h3, if_neg h1, if_neg h2, if_neg h3]
      case g6 => omega
      case g7 => omega
      case g8 =>
        intro i h9
        exact Int.le_trans (hris i _ (by omega) (by omega)) (Int.not_lt.mp hxa)
      case g9 => omega
    · rename ¬ lo < hi => hge
      have he : lo = hi := by omega
      refine ret _ _ _ _ ⟨rfl, lo, _, rfl, hb1, by omega, hb4, fun i h9 h8 => hb5 i (by omega) h8⟩ (by assumption) (by assumption)
end Mine
/-! part M11 -/
namespace Mine
local macro_rules | `(tactic| walk_at "mine pad") => `(tactic| fail)
local macro_rules | `(tactic| walk_at "mine pad") => `(tactic| fail)
local macro_rules | `(tactic| walk_at "mine pad") => `(tactic| fail)
local macro_rules | `(tactic| walk_at "mine pad") => `(tactic| fail)
local macro_rules | `(tactic| walk_at "mine pad") => `(tactic| fail)
local macro_rules | `(tactic| walk_at "mine pad") => `(tactic| fail)
local macro_rules | `(tactic| walk_at "mine pad") => `(tactic| fail)
local macro_rules | `(tactic| walk_at "mine pad") => `(tactic| fail)
local macro_rules | `(tactic| walk_at "mine pad") => `(tactic| fail)
local macro_rules | `(tactic| walk_at "mine pad") => `(tactic| fail)
local macro_rules | `(tactic| walk_at "mine pad") => `(tactic| fail)
local macro_rules | `(tactic| walk_at "mine pad") => `(tactic| fail)
local macro_rules | `(tactic| walk_at "mine pad") => `(tactic| fail)
def fibIter : Nat → Int → Int → Int
  | 0, a, _ => a
  | n + 1, a, b => fibIter n b (a + b)
theorem fibIter_add : ∀ (n : Nat) (a b : Int), fibIter (n + 2) a b = fibIter (n + 1) a b + fibIter n a b
  | 0, a, b => by show a + b = b + a; exact Int.add_comm a b
  | n + 1, a, b => fibIter_add n b (a + b)
/-- the row 1, 2, 3, 5, 8, .. -/
def fb (n : Nat) : Int := fibIter n 1 2
theorem fb_add (n : Nat) : fb (n + 2) = fb (n + 1) + fb n := fibIter_add n 1 2
theorem fb_pos : ∀ n : Nat, 1 ≤ fb n ∧ 1 ≤ fb (n + 1)
  | 0 => by decide
  | n + 1 => by
    have h := fb_pos n
    rw [fb_add]
    omega
theorem fb_lt (n : Nat) : fb n < fb (n + 1) := by
  cases n with
  | zero => decide
  | succ n =>
    rw [fb_add]
    have := (fb_pos n).1
    omega
theorem fb_le {m n : Nat} (h : m ≤ n) : fb m ≤ fb n := by
  induction h with
  | refl => exact Int.le_refl _
  | step _ ih => exact Int.le_trans ih (Int.le_of_lt (fb_lt _))
theorem fb_lt_of {m n : Nat} (h : m < n) : fb m < fb n := Int.lt_of_lt_of_le (fb_lt m) (fb_le h)
theorem fb_57 : fb 57 ≤ 10 ^ 12 := by decide +kernel
theorem fb_58 : 10 ^ 12 < fb 58 := by decide +kernel
def fbs (k : Nat) : List Int := (List.range k).map fb
theorem fbs_length (k : Nat) : (fbs k).length = k := by unfold fbs; rw [List.length_map, List.length_range]
theorem fbs_succ (k : Nat) : fbs (k + 1) = fbs k ++ [fb k] := by unfold fbs; rw [List.range_succ, List.map_append]; rfl
theorem fbs_getD {k i : Nat} (h : i < k) : (fbs k).getD i 0 = fb i := by
  unfold fbs
  rw [List.getD_eq_getElem?_getD, List.getElem?_map, List.getElem?_range h]
  rfl
local macro_rules | `(tactic| k_all) => `(tactic| first | assumption | exact ne_of_allLt (by assumption) (by omega))
local macro_rules | `(tactic| k_mem) => `(tactic| assumption)
local macro_rules | `(tactic| is_list) => `(tactic| exact News.isList (by k_asm) (by k_mem))
local macro_rules | `(tactic| walk_at "call builtin:list.append") => `(tactic| (k_here; (with_reducible show wpAny _ _ (call (Value.builtin _) [Value.ref _, Value.int _ _]) _ _ _); k_dflt (refine' my_append ?F ?N ?U ?hi ?z ?_; (case F => k_asm); (case N => k_asm); (case U => k_upd); (case hi => assumption); (case z => omega); k_whole); intro h' F' N' hi'; (try k_sweep)))
local macro_rules | `(tactic| walk_at "exec While Compare cons nil") => `(tactic| (k_here; (with_reducible show wpAny _ _ (exec (Stmt.While _ _ _ _) _) _ _ _); refine Stop.out ?_))
theorem my_neg {prog : Program} {w : World} {A : Around} {E : Value → Shared → Prop} {s : Shared} {value slice : PySem.Expr} {l : Addr} {vs : List Value} {ns : List Int} {k : Int} {u : Tok} {Q : Value → Shared → Prop}
    (hl : s.heap.IsList l vs.toArray) (hi : IntsAre vs ns) (h0 : k < 0) (h1 : -(ns.length : Int) ≤ k) (hfit : -(2 ^ 63) ≤ k) (h : ∀ t, Q (.int (ns.getD (k + ns.length).toNat 0) t) s)
    (hs : subscripted slice false (.ref l) (.int k u) = operate [.ref l, .int k u] (getItem (.ref l) (.int k u)) := by with_unfolding_all rfl) :
    wpAny (model prog w) A (subscriptTail value slice (.ref l) (.int k u)) Q E s := by
  have hlen := hi.length
  have hlt : (k + ns.length).toNat < ns.length := by omega
  obtain ⟨t, ht⟩ := hi.get (k + ns.length).toNat (ns.getD (k + ns.length).toNat 0) (by rw [List.getD_eq_getElem?_getD, List.getElem?_eq_getElem hlt, Option.getD_some])
  have hz : vs.toArray.size = ns.length := by rw [List.size_toArray, hlen]
  exact tail_any hl.typeIs slot_list_getitem.lookup (wpAny_getItem_list_neg hl h0 (by rw [hz]; exact h1) hfit (by rw [hz]; simpa using ht) (h t)) hs
local macro_rules | `(tactic| walk_at "subscriptTail") => `(tactic| (k_here; (with_reducible show wpAny _ _ (subscriptTail _ _ (Value.ref _) (Value.int _ _)) _ _ _); k_dflt (refine' my_neg ?l ?i ?z ?o ?f ?_ ?k7; (case l => is_list); (case i => assumption); (case z => decide); (case o => omega); (case f => decide); (case k7 => with_unfolding_all rfl); k_whole); intro _))
def JR (lf : Addr) (news : List (Addr × Obj)) (m₀ : Str → Option Value) (n : Nat) (m₁ : Str → Option Value) (n₁ : List (Addr × Obj)) : Prop :=
  ∃ k fvs fc, n₁ = (lf, W.listOf fvs.toArray fc) :: news ∧ m₁ = m₀ ∧ IntsAre fvs (fbs k) ∧ 2 ≤ k ∧ k + n = 59
theorem JR_end {lf : Addr} {news : List (Addr × Obj)} {m₀ : Str → Option Value} {n n' : Nat} {h₀ : Heap} {L : Addr} {s : Shared} {h' : Heap} {tk : Nat} {Q : Flow → Shared → Prop} {fvs : List Value} {fc k : Nat} {ns : List Int}
    (F : Fr h₀ L h' m₀) (N : News h₀ L h' ((lf, W.listOf fvs.toArray fc) :: news)) (hi : IntsAre fvs ns) (e : ns = fbs k) (h2 : 2 ≤ k) (h3 : k + n' = 59) (hn : n' < n) : WPost h₀ L s n (JR lf news m₀) Q .next { s with heap := h', toks := tk } :=
  WEnd.intro F N (fun p hp => hp) hn ⟨k, fvs, fc, rfl, rfl, e ▸ hi, h2, h3⟩
theorem c_row (w : World) (tb : Tok) (news : List (Addr × Obj)) :
    Spec w 72 10 100 news [.int (10 ^ 12) tb] fun v news' => ∃ lf fvs fc, v = .ref lf ∧ news' = (lf, W.listOf fvs.toArray fc) :: news ∧ IntsAre fvs (fbs 59) ∧ ∀ q ∈ news, @LT.lt Nat _ q.1 lf := by
  unfold Spec
  k_fill
  intros p loose mean mg mb dp un' gd cn cs ad ccd cl outer A₀ base h₀ L m s Q E B F X N T C1 C2 hk hd hu ret
  refine wpAny_call ?_
  k_dflt ktr_enter
  k_steps
  unfold Stop
  rename Fr _ _ _ _ => Fl
  rename News _ _ _ _ => Nl
  rename_i lf _ _ _
  rename ∀ p ∈ news, _ => hlf
  refine' whileJ (J := JR lf news) 57 Fl Nl ?h0 ?turn
  case h0 => exact ⟨2, [Value.int 1 _, Value.int 2 _], 0, rfl, rfl, .cons 1 _ (.cons 2 _ .nil), by decide, by decide⟩
  case turn =>
    clear Fl Nl
    intro n m₁ news₁ h tk hj F1 N1
    obtain ⟨k, fvs, fc, e1, e2, hfi, hk2, hkn⟩ := hj
    subst e1 e2
    have hnl := fbs_length k
    have hg1 := fbs_getD (show k - 1 < k by omega)
    have hg2 := fbs_getD (show k - 2 < k by omega)
    have hsc := fbs_succ k
    generalize fbs k = ns at hfi hnl hg1 hg2 hsc
    have i1 : (-1 + (ns.length : Int)).toNat = k - 1 := by omega
    have i2 : (-2 + (ns.length : Int)).toNat = k - 2 := by omega
    have hfk : fb k = fb (k - 1) + fb (k - 2) := by
      have := fb_add (k - 2)
      rw [show k - 2 + 2 = k by omega, show k - 2 + 1 = k - 1 by omega] at this
      exact this
    k_steps
    · rename _ ≤ (10 : Int) ^ 12 => hle
      rw [i1, hg1] at hle
      have hk58 : k - 1 < 58 := by
        refine Nat.not_le.mp fun h9 => ?_
        have := Int.le_trans (fb_le h9) hle
        exact absurd fb_58 (Int.not_lt.mpr this)
      refine' JR_end (k := k + 1) (n' := n - 1) ?f1 ?f2 ?f3 ?f4 (by omega) (by omega) (by omega)
      case f1 => assumption
      case f2 => assumption
      case f3 => assumption
      case f4 => rw [hsc, i1, i2, hg1, hg2, hfk]
    · rename ¬ _ ≤ (10 : Int) ^ 12 => hgt
      rw [i1, hg1] at hgt
      have hk58 : 58 ≤ k - 1 := by
        refine Nat.not_lt.mp fun h9 => ?_
        exact hgt (Int.le_trans (fb_le (show k - 1 ≤ 57 by omega)) fb_57)
      have hk : k = 59 := by omega
      refine ret _ _ _ _ ⟨lf, fvs, fc, rfl, rfl, ?_, hlf⟩ (by assumption) (by assumption)
      subst hk
      have hnn : fbs 59 = ns := by rw [fbs_succ] at hsc; exact List.append_inj_left' hsc rfl
      rw [hnn]
      exact hfi
end Mine
/-! part MC -/
namespace Mine
local macro_rules | `(tactic| walk_at "mine pad") => `(tactic| fail)
local macro_rules | `(tactic| walk_at "mine pad") => `(tactic| fail)
local macro_rules | `(tactic| walk_at "mine pad") => `(tactic| fail)
local macro_rules | `(tactic| walk_at "mine pad") => `(tactic| fail)
local macro_rules | `(tactic| walk_at "mine pad") => `(tactic| fail)
local macro_rules | `(tactic| walk_at "mine pad") => `(tactic| fail)
local macro_rules | `(tactic| walk_at "mine pad") => `(tactic| fail)
local macro_rules | `(tactic| walk_at "mine pad") => `(tactic| fail)
local macro_rules | `(tactic| walk_at "mine pad") => `(tactic| fail)
local macro_rules | `(tactic| walk_at "mine pad") => `(tactic| fail)
local macro_rules | `(tactic| walk_at "mine pad") => `(tactic| fail)
local macro_rules | `(tactic| walk_at "mine pad") => `(tactic| fail)
local macro_rules | `(tactic| walk_at "mine pad") => `(tactic| fail)
local macro_rules | `(tactic| walk_at "mine pad") => `(tactic| fail)
local macro_rules | `(tactic| walk_at "mine pad") => `(tactic| fail)
local macro_rules | `(tactic| walk_at "mine pad") => `(tactic| fail)
local macro_rules | `(tactic| walk_at "mine pad") => `(tactic| fail)
theorem eu_exists : ∀ (n : Nat) (a b : Int), 0 ≤ b → b.toNat = n → ∃ l g, Eu a b l g := by
  intro n
  induction n using Nat.strongRecOn with
  | ind n IH =>
    intro a b hb hn
    by_cases h0 : b = 0
    · subst h0; exact ⟨[], a, .zero⟩
    · have h1 := Int.emod_nonneg a h0
      have h2 := Int.emod_lt_of_pos a (show 0 < b by omega)
      obtain ⟨l, g, h⟩ := IH (a % b).toNat (by omega) b (a % b) h1 rfl
      exact ⟨_, g, .step (by omega) h⟩
theorem lame : ∀ (n : Nat) {a b g : Int} {l : List Int}, Eu a b l g → 0 ≤ a → l.length = n + 1 → fb n ≤ b ∧ (b < a → fb (n + 1) ≤ a)
  | 0, a, b, g, l, h, _, hl => by
    cases h with
    | zero => exact absurd hl (by decide)
    | step hb h =>
      have e0 : fb 0 = 1 := rfl
      have e1 : fb (0 + 1) = 2 := rfl
      rw [e0, e1]
      omega
  | n + 1, a, b, g, l, h, ha, hl => by
    cases h with
    | zero => exact absurd hl (by rw [List.length_nil]; omega)
    | step hb h =>
      rw [List.length_cons] at hl
      have hr0 := Int.emod_nonneg a (show b ≠ 0 by omega)
      have hr1 := Int.emod_lt_of_pos a hb
      obtain ⟨i1, i2⟩ := lame n h (by omega) (by omega)
      have i3 := i2 hr1
      refine ⟨i3, fun hlt => ?_⟩
      rw [fb_add]
      have h4 := Int.emod_add_mul_ediv a b
      have h5 : 1 ≤ a / b := (Int.le_ediv_iff_mul_le hb).mpr (by omega)
      have h6 : b * 1 ≤ b * (a / b) := Int.mul_le_mul_of_nonneg_left h5 (by omega)
      omega
theorem eu_len {a b g : Int} {l : List Int} (h : Eu a b l g) (ha : 0 ≤ a) (hb : b < fb 60) : l.length ≤ 60 := by
  cases hl : l.length with
  | zero => omega
  | succ n =>
    have h1 := (lame n h ha hl).1
    refine Nat.not_lt.mp fun h9 => ?_
    have := fb_le (show 60 ≤ n by omega)
    omega
theorem bis_le {a b g : Int} {l : List Int} {k : Int} (h : Eu a b l g) (ha : 0 ≤ a) (hb : b < fb 58) (hk : BisAt (fbs 59) b k) : (l.length : Int) ≤ k := by
  cases hl : l.length with
  | zero => have := hk.1; omega
  | succ n =>
    have h1 := (lame n h ha hl).1
    have hn : n < 58 := by
      refine Nat.not_le.mp fun h9 => ?_
      have := fb_le h9
      omega
    refine Int.not_lt.mp fun h9 => ?_
    have h2 := hk.2.2.2 n (by omega) (by rw [fbs_length]; omega)
    rw [fbs_getD (by omega)] at h2
    omega
theorem bis_eq {x k : Int} {n : Nat} (hk : BisAt (fbs 59) x k) (hn : n < 58) (h1 : fb n ≤ x) (h2 : x < fb (n + 1)) : k = n + 1 := by
  have h3 : (n : Int) < k := by
    refine Int.not_le.mp fun h9 => ?_
    have h4 := hk.2.2.2 n h9 (by rw [fbs_length]; omega)
    rw [fbs_getD (by omega)] at h4
    omega
  have h5 : k ≤ n + 1 := by
    refine Int.not_lt.mp fun h9 => ?_
    have h4 := hk.2.2.1 (n + 1) (by omega)
    rw [fbs_getD (by omega)] at h4
    omega
  omega
/-- the way back -/
def back (g : Int) : List Int → Int × Int
  | [] => (g, 0)
  | q :: l => (q * (back g l).1 + (back g l).2, (back g l).1)
theorem back_eu {a b g : Int} {l : List Int} (h : Eu a b l g) : back g l = (a, b) := by
  induction h with
  | zero => rfl
  | @step a b l g hb h ih =>
    show (a / b * (back g l).1 + (back g l).2, (back g l).1) = (a, b)
    rw [ih]
    refine Prod.ext ?_ rfl
    show a / b * b + a % b = a
    have h9 := Int.emod_add_mul_ediv a b
    rw [Int.mul_comm]
    omega
theorem eu_suffix {a b g : Int} {l : List Int} (h : Eu a b l g) (ha : 0 ≤ a) (hb0 : 0 ≤ b) {M : Int} (haM : a ≤ M) (hbM : b ≤ M) : ∀ j : Nat, ∃ a' b', Eu a' b' (l.drop j) g ∧ 0 ≤ a' ∧ 0 ≤ b' ∧ a' ≤ M ∧ b' ≤ M := by
  induction h with
  | zero => intro j; exact ⟨_, 0, by rw [List.drop_nil]; exact .zero, ha, Int.le_refl 0, haM, hbM⟩
  | step hb h ih =>
    rename_i a b l g
    intro j
    cases j with
    | zero => exact ⟨a, b, .step hb h, ha, hb0, haM, hbM⟩
    | succ j =>
      have hr0 := Int.emod_nonneg a (show b ≠ 0 by omega)
      have hr1 := Int.emod_lt_of_pos a hb
      obtain ⟨a', b', r⟩ := ih (by omega) hr0 hbM (by omega) j
      exact ⟨a', b', r⟩
theorem back_bounds {a b g : Int} {l : List Int} (h : Eu a b l g) (ha : 0 ≤ a) (hb : 0 ≤ b) {M : Int} (haM : a ≤ M) (hbM : b ≤ M) (j : Nat) : 0 ≤ (back g (l.drop j)).1 ∧ (back g (l.drop j)).1 ≤ M ∧ 0 ≤ (back g (l.drop j)).2 ∧ (back g (l.drop j)).2 ≤ M := by
  obtain ⟨a', b', h1, h2, h3, h4, h5⟩ := eu_suffix h ha hb haM hbM j
  rw [back_eu h1]
  exact ⟨h2, h4, h3, h5⟩
theorem eu_quot_bounds {a b g : Int} {l : List Int} (h : Eu a b l g) (ha : 0 ≤ a) (hb : 0 ≤ b) {M : Int} (haM : a ≤ M) (hbM : b ≤ M) : ∀ q ∈ l, 0 ≤ q ∧ q ≤ M := by
  induction h with
  | zero => exact fun q hq => nomatch hq
  | step hb' h ih =>
    rename_i a b l g
    intro q hq
    have hr0 := Int.emod_nonneg a (show b ≠ 0 by omega)
    have hr1 := Int.emod_lt_of_pos a hb'
    rcases List.mem_cons.mp hq with rfl | hq
    · exact ⟨Int.ediv_nonneg ha hb, Int.le_trans (Int.ediv_le_self _ ha) haM⟩
    · exact ih hb hr0 hbM (by omega) q hq
theorem eu_less {a b g : Int} {l : List Int} (h : Eu a b l g) (ha : 0 < a) (hlt : a < b) : ∃ l', l.length = 1 + l'.length ∧ Eu b a l' g := by
  cases h with
  | zero => omega
  | step hb h =>
    rw [Int.emod_eq_of_lt (by omega) hlt] at h
    exact ⟨_, by rw [List.length_cons]; omega, h⟩
theorem eu_row : ∀ p : Nat, Eu (fb (p + 1)) (fb p) (List.replicate p 1 ++ [2]) 1
  | 0 => by
    have e : (List.replicate 0 (1 : Int) ++ [2]) = [(2 : Int) / 1] := rfl
    show Eu 2 1 (List.replicate 0 (1 : Int) ++ [2]) 1
    rw [e]
    exact .step (by decide) .zero
  | p + 1 => by
    have h1 := fb_lt p
    have h2 := (fb_pos p).1
    have e : fb (p + 1 + 1) = fb (p + 1) + fb p := fb_add p
    have e1 : fb (p + 1 + 1) / fb (p + 1) = 1 ∧ fb (p + 1 + 1) % fb (p + 1) = fb p := by
      refine (Int.ediv_emod_unique (by omega)).mpr ⟨by rw [e, Int.mul_one]; omega, by omega, h1⟩
    have e2 : List.replicate (p + 1) (1 : Int) ++ [2] = (fb (p + 1 + 1) / fb (p + 1)) :: (List.replicate p 1 ++ [2]) := by rw [e1.1]; rfl
    rw [e2]
    refine .step (by omega) ?_
    rw [e1.2]
    exact eu_row p
/-- how many steps, reckoned -/
def slen : Nat → Nat → Nat → Nat
  | 0, _, _ => 0
  | f + 1, a, b => if b = 0 then 0 else slen f b (a % b) + 1
theorem slen_eu : ∀ (f : Nat) {a b : Nat} {g : Int} {l : List Int}, Eu (a : Int) (b : Int) l g → b < f → l.length = slen f a b
  | 0, _, _, _, _, _, h => absurd h (by omega)
  | f + 1, a, b, g, l, h, hf => by
    by_cases hb : b = 0
    · subst hb
      obtain ⟨rfl, _⟩ := h.inv0
      rfl
    · obtain ⟨l', rfl, h0, h1⟩ := h.inv (by omega)
      show l'.length + 1 = if b = 0 then 0 else slen f b (a % b) + 1
      rw [if_neg hb]
      rw [← Int.natCast_emod] at h1
      rw [slen_eu f h1 (Nat.lt_of_lt_of_le (Nat.mod_lt _ (by omega)) (by omega))]
end Mine
/-! part M12a -/
namespace Mine
local macro_rules | `(tactic| walk_at "mine pad") => `(tactic| fail)
local macro_rules | `(tactic| walk_at "mine pad") => `(tactic| fail)
local macro_rules | `(tactic| walk_at "mine pad") => `(tactic| fail)
local macro_rules | `(tactic| walk_at "mine pad") => `(tactic| fail)
local macro_rules | `(tactic| walk_at "mine pad") => `(tactic| fail)
local macro_rules | `(tactic| walk_at "mine pad") => `(tactic| fail)
local macro_rules | `(tactic| walk_at "mine pad") => `(tactic| fail)
local macro_rules | `(tactic| walk_at "mine pad") => `(tactic| fail)
local macro_rules | `(tactic| walk_at "mine pad") => `(tactic| fail)
local macro_rules | `(tactic| walk_at "mine pad") => `(tactic| fail)
local macro_rules | `(tactic| walk_at "mine pad") => `(tactic| fail)
local macro_rules | `(tactic| walk_at "mine pad") => `(tactic| fail)
local macro_rules | `(tactic| walk_at "mine pad") => `(tactic| fail)
local macro_rules | `(tactic| walk_at "mine pad") => `(tactic| fail)
local macro_rules | `(tactic| walk_at "mine pad") => `(tactic| fail)
local macro_rules | `(tactic| walk_at "mine pad") => `(tactic| fail)
local macro_rules | `(tactic| walk_at "mine pad") => `(tactic| fail)
local macro_rules | `(tactic| walk_at "mine pad") => `(tactic| fail)
def lawS : Stmt := stmtAt PySem.Challenge.pw_zw0002_01.main.body 13
def forBody : Stmt → List Stmt
  | .For _ _ b _ _ => b
  | _ => []
def scopeL : Scope := by
  refine litOf (x := scopeOf lawS) ?b ?h
  case h => (conv => rhs; whnf)
def bodyK : List Stmt := by
  refine litOf (x := forBody (stmtAt (bodyOf lawS) 1)) ?b ?h
  case h => (conv => rhs; whnf)
def bodyO : List Stmt := by
  refine litOf (x := forBody (stmtAt (bodyOf lawS) 5)) ?b ?h
  case h => (conv => rhs; whnf)
def bodyK3 : List Stmt := by
  refine litOf (x := (forBody (stmtAt (bodyOf lawS) 1)).drop 3) ?b ?h
  case h => (conv => rhs; whnf)
def restP : List Stmt := by
  refine litOf (x := (bodyOf lawS).drop 2) ?b ?h
  case h => (conv => rhs; whnf)
abbrev lawTop (dp un : Nat) (gd : Option (List Code)) (L fa : Addr) (cdv : Value) (cO : Addr) (outer : List Env) : Around := ktrTop dp un gd "law" scopeL L fa cdv [("other", cO)] outer
abbrev lawEnv (L fa : Addr) (cdv : Value) (cO : Addr) : Env := envX "law" scopeL L fa cdv [("other", cO)]
abbrev LM (w : World) : Model := model PySem.Challenge.rw_zw0002_01.row.prog w
/-- what the loop over k keeps -/
def JK (sl cO row I : Addr) (rvs : List Value) (rc : Nat) (m₁ : Str → Option Value) (n₁ : List (Addr × Obj)) : Prop :=
  ∃ oO v p1 p2 ex, n₁ = (cO, oO) :: (row, W.listOf rvs.toArray rc) :: (37, tabObj p1) :: (30, tabObj p2) :: ex ∧ oO.data = .cell v ∧ Tab1 p2 ex ∧ Tab2 p1 ex ∧
    (∀ p ∈ ex, p.1 ≠ cO ∧ p.1 ≠ row ∧ p.1 ≠ 37 ∧ p.1 ≠ 30 ∧ p.1 ≠ I) ∧ m₁ "script" = some (.ref sl) ∧ m₁ "row" = some (.ref row)
theorem TabOk.drop' {line col : Nat} {qual : Str} {ps : Array Value} {x : Addr} {o : Obj} {r : List (Addr × Obj)} (h : TabOk line col qual ps ((x, o) :: r)) (hn : ∀ vs q t, o.data = .fields vs → vs[1]? ≠ some (.str q t)) : TabOk line col qual ps r := by
  rcases h with h | ⟨c', oc, vs, t, e, hm, h1, h2⟩
  · exact .inl h
  · rcases List.mem_cons.mp hm with h3 | h3
    · have h4 : oc = o := (Prod.mk.inj h3).2
      exact absurd h2 (hn vs qual t (h4 ▸ h1))
    · exact .inr ⟨c', oc, vs, t, e, h3, h1, h2⟩
def NoCode (o : Obj) : Prop := ∀ vs q t, o.data = .fields vs → vs[1]? ≠ some (.str q t)
theorem noCode_cell {o : Obj} {v : Option Value} (h : o.data = .cell v) : NoCode o := fun vs q t h1 => by rw [h] at h1; cases h1
theorem noCode_list {its : Array Value} {n : Nat} : NoCode (W.listOf its n) := fun vs q t h1 => by cases h1
theorem noCode_tup {vs : List Value} : NoCode (tupO vs) := fun vs q t h1 => by cases h1
theorem noCode_rng {x l c : Int} : NoCode (krsIt x l c) := fun vs q t h1 => by
  cases h1
  show (some (rawInt l) : Option Value) ≠ _
  intro h; cases h
/-- the far part of the ledger, apart from what the law's frame holds -/
def Far (cO row I : Addr) (ex : List (Addr × Obj)) : Prop := ∀ p ∈ ex, p.1 ≠ cO ∧ p.1 ≠ row ∧ p.1 ≠ 37 ∧ p.1 ≠ 30 ∧ p.1 ≠ I
theorem Far.append {cO row I : Addr} {ex ex2 : List (Addr × Obj)} (h : Far cO row I ex) {p1 p2 : Array Value} {o1 o2 o3 : Obj} {r : List (Addr × Obj)} (hov : Over ((37, tabObj p1) :: (30, tabObj p2) :: (I, o1) :: (cO, o2) :: (row, o3) :: r) ex2) : Far cO row I (ex ++ ex2) := fun p hp => by
  rcases List.mem_append.mp hp with hp | hp
  · exact h p hp
  · have g1 := hov _ (List.mem_cons_self ..) p hp
    have g2 := hov _ (List.mem_cons_of_mem _ (List.mem_cons_self ..)) p hp
    have g3 := hov _ (List.mem_cons_of_mem _ (List.mem_cons_of_mem _ (List.mem_cons_self ..))) p hp
    have g4 := hov _ (List.mem_cons_of_mem _ (List.mem_cons_of_mem _ (List.mem_cons_of_mem _ (List.mem_cons_self ..)))) p hp
    have g5 := hov _ (List.mem_cons_of_mem _ (List.mem_cons_of_mem _ (List.mem_cons_of_mem _ (List.mem_cons_of_mem _ (List.mem_cons_self ..))))) p hp
    exact ⟨Nat.ne_of_gt g4, Nat.ne_of_gt g5, Nat.ne_of_gt g1, Nat.ne_of_gt g2, Nat.ne_of_gt g3⟩
theorem drop3 {line col : Nat} {qual : Str} {ps : Array Value} {I cO row : Addr} {o1 o2 o3 : Obj} {ex ex2 : List (Addr × Obj)} (h : TabOk line col qual ps (((I, o1) :: (cO, o2) :: (row, o3) :: ex) ++ ex2)) (n1 : NoCode o1) (n2 : NoCode o2) (n3 : NoCode o3) : TabOk line col qual ps (ex ++ ex2) :=
  TabOk.drop' (TabOk.drop' (TabOk.drop' (show TabOk line col qual ps ((I, o1) :: (cO, o2) :: (row, o3) :: (ex ++ ex2)) from h) n1) n2) n3
theorem up3 {line col : Nat} {qual : Str} {ps : Array Value} {a b c : Addr × Obj} {ex : List (Addr × Obj)} (h : TabOk line col qual ps ex) : TabOk line col qual ps (a :: b :: c :: ex) := h.mono fun _ hp => List.mem_cons_of_mem _ (List.mem_cons_of_mem _ (List.mem_cons_of_mem _ hp))
theorem ne3 {a b c : Addr × Obj} {ex : List (Addr × Obj)} {d : Addr} (h1 : a.1 ≠ d) (h2 : b.1 ≠ d) (h3 : c.1 ≠ d) (h : ∀ p ∈ ex, p.1 ≠ d) : ∀ p ∈ a :: b :: c :: ex, p.1 ≠ d :=
  List.forall_mem_cons.mpr ⟨h1, List.forall_mem_cons.mpr ⟨h2, List.forall_mem_cons.mpr ⟨h3, h⟩⟩⟩
theorem news_tail {h₀ h : Heap} {L : Addr} {a : Addr × Obj} {l : List (Addr × Obj)} (N : News h₀ L h (a :: l)) : News h₀ L h l := fun p hp => N p (List.mem_cons_of_mem _ hp)
section
variable {prog : Program} {w : World} {A : Around} {E : Value → Shared → Prop} {s : Shared} {env : Env} {h₀ : Heap} {x : Str} {body : List Stmt} {Q : Flow → Shared → Prop}
theorem listLoop {ax : Addr} {vs : List Value} {n : Nat} {m₀ : Str → Option Value} {news : List (Addr × Obj)} (J : (Str → Option Value) → Addr → Nat → (Str → Option Value) → List (Addr × Obj) → Prop)
    (hh : A.handled = none) (F : Fr h₀ env.locals s.heap m₀) (N : News h₀ env.locals s.heap news) (hm : (ax, W.listOf vs.toArray n) ∈ news)
    (h0 : ∀ I : Addr, (∀ p ∈ news, @LT.lt Nat _ p.1 I) → J m₀ I 0 m₀ news) (hJ : ∀ I i m₁ n₁, J m₀ I i m₁ n₁ → (ax, W.listOf vs.toArray n) ∈ n₁)
    (turn : ∀ I i v m₁ news₁ it h tk, (∀ p ∈ news, @LT.lt Nat _ p.1 I) → i < vs.length → vs[i]? = some v → J m₀ I i m₁ news₁ → it.cls = .type "list_iterator" → Fr h₀ env.locals h (fun y => if y = x then some v else m₁ y) → News h₀ env.locals h ((I, it) :: news₁) →
      wpAny (model prog w) A (execs body env) (UnrPost h₀ env.locals { s with heap := h, toks := tk } I it (J m₀ I (i + 1)) Q) E { s with heap := h, toks := tk })
    (done : ∀ I m₁ news₁ h tk, J m₀ I vs.length m₁ news₁ → Fr h₀ env.locals h m₁ → News h₀ env.locals h news₁ → Q .next { s with heap := h, toks := tk }) :
    wpAny (model prog w) A (pyIter (.ref ax)) (fun it s₂ => LoopAtV prog w A h₀ env x body Q E it s₂) E s := by
  refine iter_listUnr hh F N hm rfl rfl fun I hI => ?_
  have key : ∀ (l : List Value) (i : Nat), i + l.length = vs.length → (∀ j, l[j]? = vs[i + j]?) → ∀ m₁ n₁, J m₀ I i m₁ n₁ → ListRest prog w A E h₀ env x body Q s I (ax, W.listOf vs.toArray n) l m₁ n₁ := by
    intro l
    induction l with
    | nil =>
      intro i hi _ m₁ n₁ hj h tk F' N'
      rw [List.length_nil, Nat.add_zero] at hi
      exact done I m₁ n₁ h tk (hi ▸ hj) F' N'
    | cons v r ih =>
      intro i hi hv m₁ n₁ hj it h tk hc F' N'
      rw [List.length_cons] at hi
      have hvi := hv 0
      refine wpAny_mono (turn I i v m₁ n₁ it h tk hI (by omega) (by simpa using hvi.symm) hj hc F' N') (fun f s₂ hp => unrPost_mono hp fun m' n' hj' => ⟨hJ _ _ _ _ hj', ih (i + 1) (by omega) (fun j => ?_) m' n' hj'⟩) fun _ _ e => e
      have h1 := hv (j + 1)
      rw [List.getElem?_cons_succ, show i + (j + 1) = i + 1 + j by omega] at h1
      exact h1
  exact key vs 0 (Nat.zero_add _) (fun j => by rw [Nat.zero_add]) m₀ news (h0 I hI)
theorem listLoop' {ax : Addr} {vs : List Value} {n : Nat} {m₀ : Str → Option Value} {news : List (Addr × Obj)} (J : List (Addr × Obj) → (Str → Option Value) → Addr → Nat → (Str → Option Value) → List (Addr × Obj) → Prop)
    (hh : A.handled = none) (F : Fr h₀ env.locals s.heap m₀) (N : News h₀ env.locals s.heap news) (hm : (ax, W.listOf vs.toArray n) ∈ news)
    (h0 : ∀ I : Addr, (∀ p ∈ news, @LT.lt Nat _ p.1 I) → J news m₀ I 0 m₀ news) (hJ : ∀ I i m₁ n₁, J news m₀ I i m₁ n₁ → n₁ = news)
    (turn : ∀ I i v m₁ news₁ it h tk, (∀ p ∈ news, @LT.lt Nat _ p.1 I) → i < vs.length → vs[i]? = some v → J news m₀ I i m₁ news₁ → it.cls = .type "list_iterator" → Fr h₀ env.locals h (fun y => if y = x then some v else m₁ y) → News h₀ env.locals h ((I, it) :: news₁) →
      wpAny (model prog w) A (execs body env) (UnrPost h₀ env.locals { s with heap := h, toks := tk } I it (J news m₀ I (i + 1)) Q) E { s with heap := h, toks := tk })
    (done : ∀ I m₁ news₁ h tk, J news m₀ I vs.length m₁ news₁ → Fr h₀ env.locals h m₁ → News h₀ env.locals h news₁ → Q .next { s with heap := h, toks := tk }) :
    wpAny (model prog w) A (pyIter (.ref ax)) (fun it s₂ => LoopAtV prog w A h₀ env x body Q E it s₂) E s :=
  listLoop (J news) hh F N hm h0 (fun I i m₁ n₁ hj => by rw [hJ I i m₁ n₁ hj]; exact hm) turn done
theorem rangeLoop {r : Addr} {a b c : Int} {t₀ u₀ v₀ : Tok} {n : Nat} {m₀ : Str → Option Value} {news : List (Addr × Obj)} (J : (Str → Option Value) → Addr → Nat → (Str → Option Value) → List (Addr × Obj) → Prop)
    (hh : A.handled = none) (hr : IsRange s.heap r a b c t₀ u₀ v₀) (hsmall : Builtin.Range.small a b c = true) (hn : Builtin.Range.rangeSize a b c = (n : Int)) (F : Fr h₀ env.locals s.heap m₀) (N : News h₀ env.locals s.heap news)
    (h0 : ∀ I : Addr, (∀ p ∈ news, @LT.lt Nat _ p.1 I) → J m₀ I 0 m₀ news)
    (turn : ∀ I i t m₁ news₁ it h tk, (∀ p ∈ news, @LT.lt Nat _ p.1 I) → i < n → J m₀ I i m₁ news₁ → NoCode it → Fr h₀ env.locals h (fun y => if y = x then some (.int (a + (i : Int) * c) t) else m₁ y) → News h₀ env.locals h ((I, it) :: news₁) →
      wpAny (model prog w) A (execs body env) (UnrPost h₀ env.locals { s with heap := h, toks := tk } I it (J m₀ I (i + 1)) Q) E { s with heap := h, toks := tk })
    (done : ∀ I m₁ news₁ h tk, J m₀ I n m₁ news₁ → Fr h₀ env.locals h m₁ → News h₀ env.locals h news₁ → Q .next { s with heap := h, toks := tk }) :
    wpAny (model prog w) A (pyIter (.ref r)) (fun it s₂ => LoopAtV prog w A h₀ env x body Q E it s₂) E s := by
  refine krs_iter hh hr hsmall hn F N fun I hI => ?_
  have key : ∀ (k i : Nat), i + k = n → ∀ m₁ n₁, J m₀ I i m₁ n₁ → KrsRest prog w A E h₀ env x body Q s I a c n k i m₁ n₁ := by
    intro k
    induction k with
    | zero =>
      intro i hi m₁ n₁ hj h tk F' N'
      rw [Nat.add_zero] at hi
      exact done I m₁ n₁ h tk (hi ▸ hj) F' N'
    | succ k ih =>
      intro i hi m₁ n₁ hj t h tk F' N'
      exact wpAny_mono (turn I i t m₁ n₁ _ h tk hI (by omega) hj noCode_rng F' N') (fun f s₂ hp => unrPost_mono hp fun m' n' hj' => ih (i + 1) (by omega) m' n' hj') fun _ _ e => e
  exact key n 0 (Nat.zero_add n) m₀ news (h0 I hI)
end
def JF (NL : List (Addr × Obj)) (l : List Int) (g : Int) (m₀ : Str → Option Value) (I : Addr) (i : Nat) (m₁ : Str → Option Value) (n₁ : List (Addr × Obj)) : Prop :=
  ∃ tt tl, n₁ = NL ∧ m₁ "top" = some (.int (back g (l.drop (l.length - i))).1 tt) ∧ m₁ "low" = some (.int (back g (l.drop (l.length - i))).2 tl) ∧ ∀ z : Str, z ≠ "top" → z ≠ "low" → z ≠ "often" → m₁ z = m₀ z
theorem JF_start {NL : List (Addr × Obj)} {l : List Int} {g : Int} {m₀ : Str → Option Value} {I : Addr} {tt tl : Tok} (h1 : m₀ "top" = some (.int g tt)) (h2 : m₀ "low" = some (.int 0 tl)) : JF NL l g m₀ I 0 m₀ NL := by
  refine ⟨tt, tl, rfl, ?_, ?_, fun _ _ _ _ => rfl⟩
  · rw [Nat.sub_zero, List.drop_length]; exact h1
  · rw [Nat.sub_zero, List.drop_length]; exact h2
theorem JF_end {h₀ : Heap} {L : Addr} {s₁ : Shared} {I : Addr} {it : Obj} {NL : List (Addr × Obj)} {l : List Int} {g q : Int} {m₀ m' : Str → Option Value} {i : Nat} {h' : Heap} {tk : Nat} {D : Addr} {o : Obj} {tt tl : Tok} (F : Fr h₀ L h' m') (N : News h₀ L h' ((D, o) :: (I, it) :: NL)) (hoff : ∀ p ∈ NL, @LT.lt Nat _ p.1 I)
    (hi : i < l.length) (hq : l[l.length - 1 - i]? = some q) (h1 : m' "top" = some (.int (q * (back g (l.drop (l.length - i))).1 + (back g (l.drop (l.length - i))).2) tt)) (h2 : m' "low" = some (.int (back g (l.drop (l.length - i))).1 tl))
    (h3 : ∀ z : Str, z ≠ "top" → z ≠ "low" → z ≠ "often" → m' z = m₀ z) : UnrEnd h₀ L s₁ I it (JF NL l g m₀ I (i + 1)) { s₁ with heap := h', toks := tk } := by
  have e : l.drop (l.length - (i + 1)) = q :: l.drop (l.length - i) := by
    obtain ⟨hl, he⟩ := List.getElem?_eq_some_iff.mp hq
    rw [show l.length - (i + 1) = l.length - 1 - i by omega, List.drop_eq_getElem_cons hl, he, show l.length - 1 - i + 1 = l.length - i by omega]
  refine UnrEnd.intro F N NL (fun p hp => List.mem_cons_of_mem _ hp) (fun p hp => Nat.ne_of_lt (hoff p hp)) ⟨tt, tl, rfl, ?_, ?_, h3⟩
  · rw [e]; exact h1
  · rw [e]; exact h2
theorem myFor {prog : Program} {w : World} {A : Around} {E : Value → Shared → Prop} {s : Shared} {env : Env} {x : Str} {body : List Stmt} {Q : Flow → Shared → Prop} {px pos : Pos} {iter : PySem.Expr} (h₀ : Heap) (hE : PassesOwn (model prog w) A env E) (hx : env.kindOf x = some .local)
    (hp : (env.scope.kind == .class || (env.scope.kind == .module && env.locals != env.globals)) = false) (hs : ∀ x, foldedSetIterable iter env x = pure x)
    (h : wpAny (model prog w) A (eval iter env) (fun xv s₁ => wpAny (model prog w) A (pyIter xv) (fun it s₂ => LoopAtV prog w A h₀ env x body Q E it s₂) E s₁) E s) :
    wpAny (model prog w) A (exec (.For (.Name x px) iter body [] pos) env) Q E s := For_invV h₀ hx hp h hs hE
theorem JK_end {h₀ : Heap} {L : Addr} {s₁ : Shared} {I : Addr} {it oO : Obj} {sl cO row : Addr} {rvs : List Value} {rc : Nat} {m' : Str → Option Value} {h' : Heap} {tk : Nat} {all ex : List (Addr × Obj)} {p1 p2 : Array Value} {v : Option Value}
    (F : Fr h₀ L h' m') (N : News h₀ L h' all) (a1 : (I, it) ∈ all) (a2 : (cO, oO) ∈ all) (a3 : (row, W.listOf rvs.toArray rc) ∈ all) (a4 : (37, tabObj p1) ∈ all) (a5 : (30, tabObj p2) ∈ all) (a6 : ∀ p ∈ ex, p ∈ all) (hd : oO.data = .cell v) (ht1 : Tab1 p2 ex) (ht2 : Tab2 p1 ex) (hf : Far cO row I ex)
    (hms : m' "script" = some (.ref sl)) (hmr : m' "row" = some (.ref row)) (h1 : @LT.lt Nat _ cO row) (h2 : @LT.lt Nat _ row I) (h3 : @LT.lt Nat _ 37 cO) (h4 : @LT.lt Nat _ 30 cO) : UnrEnd h₀ L s₁ I it (JK sl cO row I rvs rc) { s₁ with heap := h', toks := tk } := by
  refine UnrEnd.intro F N ((cO, oO) :: (row, W.listOf rvs.toArray rc) :: (37, tabObj p1) :: (30, tabObj p2) :: ex) ?_ ?_ ⟨oO, v, p1, p2, ex, rfl, hd, ht1, ht2, hf, hms, hmr⟩
  · exact List.forall_mem_cons.mpr ⟨a1, List.forall_mem_cons.mpr ⟨a2, List.forall_mem_cons.mpr ⟨a3, List.forall_mem_cons.mpr ⟨a4, List.forall_mem_cons.mpr ⟨a5, a6⟩⟩⟩⟩⟩
  · refine List.forall_mem_cons.mpr ⟨?_, List.forall_mem_cons.mpr ⟨?_, List.forall_mem_cons.mpr ⟨?_, List.forall_mem_cons.mpr ⟨?_, fun p hp => (hf p hp).2.2.2.2⟩⟩⟩⟩
    · exact Nat.ne_of_lt (Nat.lt_trans h1 h2)
    · exact Nat.ne_of_lt h2
    · exact Nat.ne_of_lt (Nat.lt_trans h3 (Nat.lt_trans h1 h2))
    · exact Nat.ne_of_lt (Nat.lt_trans h4 (Nat.lt_trans h1 h2))
theorem amod_facts (v : Int) : 0 ≤ (if v < 0 then -v else v).fmod (10 ^ Int.toNat 12) ∧ (if v < 0 then -v else v).fmod (10 ^ Int.toNat 12) < 10 ^ 12 := by
  have h : (0 : Int) < 10 ^ Int.toNat 12 := by decide
  rw [Int.fmod_eq_emod_of_nonneg _ (Int.le_of_lt h)]
  exact ⟨Int.emod_nonneg _ (Int.ne_of_gt h), Int.emod_lt_of_pos _ h⟩
theorem bits_of_lt {x : Int} (h0 : 0 ≤ x) (h1 : x < 10 ^ 12) : Builtin.Int.intBits x ≤ 50 := by
  refine intBits_le_iff.mpr ?_
  have h2 : (10 : Int) ^ 12 = 1000000000000 := by decide
  have h3 : (2 : Nat) ^ 50 = 1125899906842624 := by decide
  rw [h3]; rw [h2] at h1
  omega
theorem unrPost_state {h₀ : Heap} {L : Addr} {s₁ : Shared} {a : Heap} {b : Nat} {I : Addr} {it : Obj} {r : (Str → Option Value) → List (Addr × Obj) → Prop} {Q : Flow → Shared → Prop} {f : Flow} {s₂ : Shared} (h : UnrPost h₀ L { s₁ with heap := a, toks := b } I it r Q f s₂) : UnrPost h₀ L s₁ I it r Q f s₂ := by
  cases f with
  | ret v => exact h
  | brk => exact h
  | next => exact h
  | cont => exact h
theorem fbs_rising (k : Nat) : Rising (fbs k) := fun i j hij hj => by
  rw [fbs_length] at hj
  rw [fbs_getD (by omega), fbs_getD hj]
  exact fb_le hij
end Mine
/-! part M12b -/
namespace Mine
local macro_rules | `(tactic| walk_at "mine pad") => `(tactic| fail)
local macro_rules | `(tactic| walk_at "mine pad") => `(tactic| fail)
local macro_rules | `(tactic| walk_at "mine pad") => `(tactic| fail)
local macro_rules | `(tactic| walk_at "mine pad") => `(tactic| fail)
local macro_rules | `(tactic| walk_at "mine pad") => `(tactic| fail)
local macro_rules | `(tactic| walk_at "mine pad") => `(tactic| fail)
local macro_rules | `(tactic| walk_at "mine pad") => `(tactic| fail)
local macro_rules | `(tactic| walk_at "mine pad") => `(tactic| fail)
local macro_rules | `(tactic| walk_at "mine pad") => `(tactic| fail)
local macro_rules | `(tactic| walk_at "mine pad") => `(tactic| fail)
local macro_rules | `(tactic| walk_at "mine pad") => `(tactic| fail)
local macro_rules | `(tactic| walk_at "mine pad") => `(tactic| fail)
local macro_rules | `(tactic| walk_at "mine pad") => `(tactic| fail)
local macro_rules | `(tactic| walk_at "mine pad") => `(tactic| fail)
local macro_rules | `(tactic| k_all) => `(tactic| first | assumption | exact ne_of_allLt (by assumption) (by omega))
local macro_rules | `(tactic| k_mem) => `(tactic| assumption)
local macro_rules | `(tactic| walk_at "call ref") => `(tactic| (k_here; (with_reducible show wpAny _ _ (call (Value.ref _) _) _ _ _); refine Stop.out ?_))
local macro_rules | `(tactic| walk_at "eval Name") => `(tactic| (k_here; k_dflt (refine' nameX_L ?F ?v ?_ ?a ?b; (case a => rfl); (case b => rfl); (case F => k_asm); (case v => first | exact rfl | assumption); k_whole)))
local macro_rules | `(tactic| walk_at "exec For Name Subscript") => `(tactic| (k_here; (with_reducible show wpAny _ _ (exec (Stmt.For _ _ _ _ _) _) _ _ _); refine Stop.out ?_))
local macro_rules | `(tactic| walk_at "pyIter ref") => `(tactic| ((with_reducible show wpAny _ _ (pyIter (Value.ref _)) (fun it s₂ => LoopAtV _ _ _ _ _ _ _ _ _ it s₂) _ _); refine Stop.out ?_))
local macro_rules | `(tactic| walk_at "binaryOp Mult int int") => `(tactic| (k_here; (with_reducible refine PyProof.Rows.mul_int ?_ (IntMulOk.of_left ?hm)); (case hm => first | assumption | omega)))
theorem restK (w : World) {p : Program} {loose : List Str} {mean : ExcName → Option Value} {mg mb : Str → Option Value} {dp un : Nat} {gd : Option (List Code)} {L fa : Addr} {cdv : Value} {cO : Addr} {outer : List Env} {A₀ : Around} {base h₀ : Heap}
    {m₁ : Str → Option Value} {s : Shared} {Q : Flow → Shared → Prop} {E : Value → Shared → Prop} {sl row I D lf : Addr} {rvs fvs : List Value} {l : List Int} {rc fc : Nat} {it oO : Obj} {p1 p2 : Array Value} {ex : List (Addr × Obj)} {x y g : Int} {tx ty tg : Tok}
    (B : Below A₀ base outer h₀) (F : Fr h₀ L s.heap m₁) (X : (hd.heap_39 w.params).In h₀) (N : News h₀ L s.heap ((D, tupO [.ref lf, .int g tg]) :: (lf, W.listOf fvs.toArray fc) :: (37, tabObj p1) :: (30, tabObj p2) :: (I, it) :: (cO, oO) :: (row, W.listOf rvs.toArray rc) :: ex)) (T : Top p loose mean mg mb h₀) (C1 : CodeHd base 41 37) (C2 : CodeHd base 34 30)
    (hE : PassesOwn (LM w) (lawTop dp un gd L fa cdv cO outer) (lawEnv L fa cdv cO) E) (hd : dp + 200 < recursionLimit) (hu : un + 2000 < cLine) (hri : IntsAre rvs (fbs 59)) (hfi : IntsAre fvs l) (hll : l.length ≤ 60) (he : Eu x y l g) (hxf : 0 ≤ x ∧ x < 10 ^ 12) (hyf : 0 ≤ y ∧ y < 10 ^ 12)
    (hms : m₁ "script" = some (.ref sl)) (hmr : m₁ "row" = some (.ref row)) (hmx : m₁ "one" = some (.int x tx)) (hmt : m₁ "told" = some (.ref D)) (d9 : oO.data = .cell (some (.int y ty))) (hit : NoCode it)
    (htb1 : Tab1 p2 ex) (htb2 : Tab2 p1 ex) (hex' : Far cO row I ex) (hoff : @LT.lt Nat _ cO row ∧ @LT.lt Nat _ row I ∧ @LT.lt Nat _ 37 cO ∧ @LT.lt Nat _ 30 cO) :
    wpAny (LM w) (lawTop dp un gd L fa cdv cO outer) (execs bodyK3 (lawEnv L fa cdv cO)) (UnrPost h₀ L s I it (JK sl cO row I rvs rc) Q) E s := by
  obtain ⟨ho1, ho2, ho3, ho4⟩ := hoff
  unfold lawTop lawEnv LM bodyK3 scopeL litOf
  unfold lawTop lawEnv LM scopeL litOf at hE
  revert X; k_fill; intro X
  k_steps
  unfold Stop
  refine' myFor h₀ hE ?k1 ?k2 ?k3 ?k4
  (case k1 => exact rfl)
  (case k2 => exact rfl)
  (case k3 => intro _; rfl)
  k_steps
  unfold Stop
  rename Fr _ _ _ _ => Fl
  rename News _ _ _ _ => Nl
  rename IntsAre _ l.reverse => hri9
  have hl9 : _ = l.reverse.length := hri9.length
  rw [List.length_reverse] at hl9
  refine' listLoop' (J := fun NL => JF NL l g) rfl Fl Nl ?hm ?h0 ?hJ ?turn ?done
  case hm => k_mem
  case h0 =>
    intro I9 hI9
    exact JF_start rfl rfl
  case hJ =>
    rintro I9 i m₁ n₁ ⟨_, _, e, _⟩
    exact e
  case turn =>
    intro I9 i v m₁ news₁ it9 h tk hI9 hlt hv hj hic F1 N1
    obtain ⟨tt, tl, e1, htop, hlow, hm9⟩ := hj
    obtain ⟨q, tq, ev, hq⟩ := hri9.at _ _ hv
    obtain ⟨u1, u2, u3, e3, e4, e5, e6⟩ := map3 hm9
    rw [htop] at e3
    rw [hlow] at e4
    subst e3 e4 e1 ev e6
    clear e5 Fl Nl
    rw [hl9] at hlt
    rw [List.getElem?_reverse hlt] at hq
    have hbb := back_bounds he hxf.1 hyf.1 (Int.le_of_lt hxf.2) (Int.le_of_lt hyf.2) (l.length - i)
    have hqb := eu_quot_bounds he hxf.1 hyf.1 (Int.le_of_lt hxf.2) (Int.le_of_lt hyf.2) q (List.mem_of_getElem? hq)
    have hqi : Builtin.Int.intBits q ≤ 64 := intBits_le_64 (by omega) (by omega)
    k_steps
    refine' JF_end ?x1 ?x2 hI9 hlt hq ?x3 ?x4 ?x5
    case x1 => assumption
    case x2 => assumption
    case x3 => rfl
    case x4 => rfl
    case x5 =>
      intro z h1 h2 h3
      dsimp only
      rw [if_neg h1, if_neg h2, if_neg h3, if_neg h1, if_neg h2, if_neg h3]
  case done =>
    clear Fl Nl
    intro I9 m₁' news₁ h tk hj F1 N1
    obtain ⟨tt, tl, e1, htop, hlow, hm9⟩ := hj
    obtain ⟨u1, u2, u3, e3, e4, e5, e6⟩ := map3 hm9
    rw [hl9, Nat.sub_self, List.drop_zero, back_eu he] at htop hlow
    rw [htop] at e3
    rw [hlow] at e4
    subst e3 e4 e1 e6
    clear e5
    dsimp only at F1 N1 ⊢
    k_steps
    · unfold Stop
      rename x < y => hlt9
      rename 0 < x => hx9
      obtain ⟨l', hl', he'⟩ := eu_less he hx9 hlt9
      have hex3 : ∀ p ∈ ex, p.1 ≠ 37 := fun p hp => (hex' p hp).2.2.1
      have hex4 : ∀ p ∈ ex, p.1 ≠ 30 := fun p hp => (hex' p hp).2.2.2.1
      refine' spec_use (c_steps w y x _ _ l' g p1 p2 ((I, it) :: (cO, oO) :: (row, W.listOf rvs.toArray rc) :: ex) he' (by omega) hyf.1 hxf.1 (bits_of_lt hyf.1 hyf.2) (bits_of_lt hxf.1 hxf.2) (up3 htb1) (up3 htb2) (ne3 ?a1 ?a2 ?a3 hex3) (ne3 ?a4 ?a5 ?a6 hex4)) ?k1x1 ?k2x1 ?k3x1 ?k4x1 ?k5x1 ?k6x1 ?k7x1 ?k8x1 ?kdx1 ?kux1 ?kretx1
      (case a1 => k_ne)
      (case a2 => k_ne)
      (case a3 => k_ne)
      (case a4 => k_ne)
      (case a5 => k_ne)
      (case a6 => k_ne)
      (case k4x1 => (refine' cb_drop ?kN ?kS; (case kN => k_asm); (case kS => (refine List.forall_mem_cons.mpr ⟨?_, List.forall_mem_cons.mpr ⟨?_, List.forall_mem_cons.mpr ⟨?_, List.forall_mem_cons.mpr ⟨?_, List.forall_mem_cons.mpr ⟨?_, ?_⟩⟩⟩⟩⟩; k_mem; k_mem; k_mem; k_mem; k_mem; (intro p9 hp9; repeat (first | exact hp9 | refine List.mem_cons_of_mem _ ?_))))))
      (case k1x1 => k_asm); (case k2x1 => k_asm); (case k3x1 => k_asm); (case k5x1 => k_asm); (case k6x1 => assumption); (case k7x1 => assumption); (case k8x1 => first | exact rfl | assumption); (case kdx1 => ktr_room); (case kux1 => ktr_units)
      intro v9 news9 h' tk' hp9 F' N'
      obtain ⟨D2, lf2, fvs2, fc2, t9, q1, q2, ex2, e1, e2, hfi2, htc1, htc2, hD2, hlD2, hov⟩ := hp9
      subst e1 e2
      have hex2 := Far.append hex' hov
      replace htc1 := htc1 _ htb1
      replace htc2 := htc2 _ htb2
      simp only [List.cons_append] at N'
      dsimp only
      k_steps
      all_goals (try (exfalso; omega))
      refine' JK_end ?z1y1 ?z2y1 ?z3y1 ?z4y1 ?z5y1 ?z6y1 ?z7y1 ?z8y1 d9 htc1 htc2 hex2 ?z9y1 ?z10y1 ho1 ho2 ho3 ho4
      (case z1y1 => assumption)
      (case z2y1 => assumption)
      (case z3y1 => k_mem)
      (case z4y1 => k_mem)
      (case z5y1 => k_mem)
      (case z6y1 => k_mem)
      (case z7y1 => k_mem)
      (case z8y1 => (intro p9 hp9; repeat (first | exact hp9 | refine List.mem_cons_of_mem _ ?_)))
      (case z9y1 => exact hms)
      (case z10y1 => exact hmr)
    · skip
      refine' JK_end ?z1y2 ?z2y2 ?z3y2 ?z4y2 ?z5y2 ?z6y2 ?z7y2 ?z8y2 d9 htb1 htb2 hex' ?z9y2 ?z10y2 ho1 ho2 ho3 ho4
      (case z1y2 => assumption)
      (case z2y2 => assumption)
      (case z3y2 => k_mem)
      (case z4y2 => k_mem)
      (case z5y2 => k_mem)
      (case z6y2 => k_mem)
      (case z7y2 => k_mem)
      (case z8y2 => (intro p9 hp9; repeat (first | exact hp9 | refine List.mem_cons_of_mem _ ?_)))
      (case z9y2 => exact hms)
      (case z10y2 => exact hmr)
    · skip
      refine' JK_end ?z1y3 ?z2y3 ?z3y3 ?z4y3 ?z5y3 ?z6y3 ?z7y3 ?z8y3 d9 htb1 htb2 hex' ?z9y3 ?z10y3 ho1 ho2 ho3 ho4
      (case z1y3 => assumption)
      (case z2y3 => assumption)
      (case z3y3 => k_mem)
      (case z4y3 => k_mem)
      (case z5y3 => k_mem)
      (case z6y3 => k_mem)
      (case z7y3 => k_mem)
      (case z8y3 => (intro p9 hp9; repeat (first | exact hp9 | refine List.mem_cons_of_mem _ ?_)))
      (case z9y3 => exact hms)
      (case z10y3 => exact hmr)
end Mine
/-! part M12 -/
namespace Mine
local macro_rules | `(tactic| walk_at "mine pad") => `(tactic| fail)
local macro_rules | `(tactic| walk_at "mine pad") => `(tactic| fail)
local macro_rules | `(tactic| walk_at "mine pad") => `(tactic| fail)
local macro_rules | `(tactic| walk_at "mine pad") => `(tactic| fail)
local macro_rules | `(tactic| walk_at "mine pad") => `(tactic| fail)
local macro_rules | `(tactic| walk_at "mine pad") => `(tactic| fail)
local macro_rules | `(tactic| walk_at "mine pad") => `(tactic| fail)
local macro_rules | `(tactic| walk_at "mine pad") => `(tactic| fail)
local macro_rules | `(tactic| walk_at "mine pad") => `(tactic| fail)
local macro_rules | `(tactic| walk_at "mine pad") => `(tactic| fail)
local macro_rules | `(tactic| walk_at "mine pad") => `(tactic| fail)
local macro_rules | `(tactic| walk_at "mine pad") => `(tactic| fail)
local macro_rules | `(tactic| walk_at "mine pad") => `(tactic| fail)
local macro_rules | `(tactic| walk_at "mine pad") => `(tactic| fail)
local macro_rules | `(tactic| walk_at "mine pad") => `(tactic| fail)
local macro_rules | `(tactic| walk_at "mine pad") => `(tactic| fail)
local macro_rules | `(tactic| walk_at "mine pad") => `(tactic| fail)
local macro_rules | `(tactic| k_all) => `(tactic| first | assumption | exact ne_of_allLt (by assumption) (by omega))
local macro_rules | `(tactic| k_mem) => `(tactic| assumption)
local macro_rules | `(tactic| walk_at "call ref") => `(tactic| (k_here; (with_reducible show wpAny _ _ (call (Value.ref _) _) _ _ _); refine Stop.out ?_))
local macro_rules | `(tactic| walk_at "eval Name") => `(tactic| (k_here; k_dflt (refine' nameX_L ?F ?v ?_ ?a ?b; (case a => rfl); (case b => rfl); (case F => k_asm); (case v => first | exact rfl | assumption); k_whole)))
local macro_rules | `(tactic| walk_at "execs cons") => `(tactic| (k_here; (with_reducible show wpAny _ _ (execs (Stmt.Assign [Expr.Tuple _ _ _] (Expr.Tuple (Expr.Subscript _ _ _ :: _) _ _) _ :: _) _) _ _ _); refine Stop.out ?_))
theorem turnK (w : World) {p : Program} {loose : List Str} {mean : ExcName → Option Value} {mg mb : Str → Option Value} {dp un : Nat} {gd : Option (List Code)} {L fa : Addr} {cdv : Value} {cO : Addr} {outer : List Env} {A₀ : Around} {base h₀ : Heap}
    {m₁ : Str → Option Value} {s : Shared} {Q : Flow → Shared → Prop} {E : Value → Shared → Prop} {sl row I : Addr} {svs rvs : List Value} {sns : List Int} {rc : Nat} {it : Obj} {n₁ : List (Addr × Obj)} {k : Int} {tk : Tok}
    (B : Below A₀ base outer h₀) (F : Fr h₀ L s.heap (fun y => if y = "k" then some (.int k tk) else m₁ y)) (X : (hd.heap_39 w.params).In h₀) (N : News h₀ L s.heap ((I, it) :: n₁)) (T : Top p loose mean mg mb h₀) (C1 : CodeHd base 41 37) (C2 : CodeHd base 34 30)
    (hE : PassesOwn (LM w) (lawTop dp un gd L fa cdv cO outer) (lawEnv L fa cdv cO) E) (hd : dp + 200 < recursionLimit) (hu : un + 2000 < cLine) (hsl : h₀.IsList sl svs.toArray) (hsi : IntsAre svs sns) (hsn : sns.length ≤ 63) (hri : IntsAre rvs (fbs 59)) (hit : NoCode it) (hk0 : 0 ≤ k) (hk1 : k + 1 < sns.length)
    (hJ : JK sl cO row I rvs rc m₁ n₁) (hoff : @LT.lt Nat _ cO row ∧ @LT.lt Nat _ row I ∧ @LT.lt Nat _ 37 cO ∧ @LT.lt Nat _ 30 cO) :
    wpAny (LM w) (lawTop dp un gd L fa cdv cO outer) (execs bodyK (lawEnv L fa cdv cO)) (UnrPost h₀ L s I it (JK sl cO row I rvs rc) Q) E s := by
  obtain ⟨oO, v, p1, p2, ex, rfl, hcell, htab1, htab2, hex, hms, hmr⟩ := hJ
  obtain ⟨ho1, ho2, ho3, ho4⟩ := hoff
  have hex1 : ∀ p ∈ ex, p.1 ≠ cO := fun p hp => (hex p hp).1
  have hex2 : ∀ p ∈ ex, p.1 ≠ row := fun p hp => (hex p hp).2.1
  have hex3 : ∀ p ∈ ex, p.1 ≠ 37 := fun p hp => (hex p hp).2.2.1
  have hex4 : ∀ p ∈ ex, p.1 ≠ 30 := fun p hp => (hex p hp).2.2.2.1
  unfold lawTop lawEnv LM bodyK scopeL litOf
  revert X; k_fill; intro X
  k_steps
  unfold Stop
  rename Fr _ _ _ _ => F9
  rename News _ _ _ _ => N9
  rename Obj.data _ = Data.cell (some _) => d9
  have hxf := amod_facts (sns.getD k.toNat 0)
  have hyf := amod_facts (sns.getD (k + 1).toNat 0)
  generalize (if sns.getD k.toNat 0 < 0 then -sns.getD k.toNat 0 else sns.getD k.toNat 0).fmod (10 ^ Int.toNat 12) = x at F9 N9 hxf ⊢
  generalize (if sns.getD (k + 1).toNat 0 < 0 then -sns.getD (k + 1).toNat 0 else sns.getD (k + 1).toNat 0).fmod (10 ^ Int.toNat 12) = y at F9 N9 d9 hyf ⊢
  obtain ⟨l, g, he⟩ := eu_exists y.toNat x y hyf.1 rfl
  have h1000 : (10 : Int) ^ 12 < fb 58 := fb_58
  have hll : l.length ≤ 60 := eu_len he hxf.1 (Int.lt_trans hyf.2 (Int.lt_trans h1000 (fb_lt_of (by decide))))
  have hxb := bits_of_lt hxf.1 hxf.2
  have hyb := bits_of_lt hyf.1 hyf.2
  replace N9 := news_tail N9
  refine' spec_use (c_steps w x y _ _ l g p1 p2 ((I, it) :: (cO, _) :: (row, W.listOf rvs.toArray rc) :: ex) he (by omega) hxf.1 hyf.1 hxb hyb (up3 htab1) (up3 htab2) (ne3 ?a1 ?a2 ?a3 hex3) (ne3 ?a4 ?a5 ?a6 hex4)) ?k1x1 ?k2x1 ?k3x1 ?k4x1 ?k5x1 ?k6x1 ?k7x1 ?k8x1 ?kdx1 ?kux1 ?kretx1
  (case a1 => k_ne)
  (case a2 => k_ne)
  (case a3 => k_ne)
  (case a4 => k_ne)
  (case a5 => k_ne)
  (case a6 => k_ne)
  (case k4x1 => exact pull2 (.tail (.tail (.tail .head))) (.tail (.tail (.tail .head))) (by k_asm))
  (case k1x1 => k_asm); (case k2x1 => k_asm); (case k3x1 => k_asm); (case k5x1 => k_asm); (case k6x1 => assumption); (case k7x1 => assumption); (case k8x1 => first | exact rfl | assumption); (case kdx1 => ktr_room); (case kux1 => ktr_units)
  intro v9 news9 h' tk' hp9 F' N'
  obtain ⟨D, lf, fvs, fc, t9, q1, q2, ex2, e1, e2, hfi, htb1, htb2, hD, hlD, hov⟩ := hp9
  subst e1 e2
  have hex' := Far.append hex hov
  replace htb1 := htb1 _ htab1
  replace htb2 := htb2 _ htab2
  simp only [List.cons_append] at N'
  clear F9 N9 hov htab1 htab2 hex hex1 hex2 hex3 hex4
  generalize ex ++ ex2 = ex9 at N' htb1 htb2 hex'
  have hex1 : ∀ p ∈ ex9, p.1 ≠ cO := fun p hp => (hex' p hp).1
  have hex3 : ∀ p ∈ ex9, p.1 ≠ 37 := fun p hp => (hex' p hp).2.2.1
  have hex4 : ∀ p ∈ ex9, p.1 ≠ 30 := fun p hp => (hex' p hp).2.2.2.1
  dsimp only
  k_steps
  · unfold Stop
    rename 0 < y => hy9
    refine' spec_use (c_bis w row y _ rvs (fbs 59) rc _ ?hrow hri (by rw [fbs_length]; decide) (fbs_rising 59)) ?k1x2 ?k2x2 ?k3x2 ?k4x2 ?k5x2 ?k6x2 ?k7x2 ?k8x2 ?kdx2 ?kux2 ?kretx2
    (case k4x2 => k_asm)
    (case hrow => k_mem)
    (case k1x2 => k_asm); (case k2x2 => k_asm); (case k3x2 => k_asm); (case k5x2 => k_asm); (case k6x2 => assumption); (case k7x2 => assumption); (case k8x2 => first | exact rfl | assumption); (case kdx2 => ktr_room); (case kux2 => ktr_units)
    intro v9 news9 h' tk' hp9 F' N'
    obtain ⟨e2, kk, t8, e1, hbis⟩ := hp9
    subst e1 e2
    have hle := bis_le he hxf.1 (Int.lt_trans hyf.2 h1000) hbis
    dsimp only
    k_steps
    · unfold Stop
      refine' wpAny_mono (restK (D := D) (lf := lf) (fvs := fvs) (l := l) (fc := fc) (p1 := q1) (p2 := q2) (ex := ex9) (x := x) (y := y) (g := g) (rvs := rvs) (rc := rc) (row := row) (I := I) (sl := sl) w B ?f1 X ?f2 T C1 C2 hE hd hu hri hfi hll he hxf hyf ?u1 ?u2 ?u3 ?u4 d9 hit htb1 htb2 hex' ⟨ho1, ho2, ho3, ho4⟩) (fun f s₂ hp => unrPost_state hp) fun _ _ e => e
      (case f1 => assumption)
      (case u1 => exact hms)
      (case u2 => exact hmr)
      (case u3 => exact rfl)
      (case u4 => exact rfl)
      (case f2 => (refine' cb_drop ?kN ?kS; (case kN => k_asm); (case kS => (refine List.forall_mem_cons.mpr ⟨?_, List.forall_mem_cons.mpr ⟨?_, List.forall_mem_cons.mpr ⟨?_, List.forall_mem_cons.mpr ⟨?_, List.forall_mem_cons.mpr ⟨?_, List.forall_mem_cons.mpr ⟨?_, List.forall_mem_cons.mpr ⟨?_, ?_⟩⟩⟩⟩⟩⟩⟩; k_mem; k_mem; k_mem; k_mem; k_mem; k_mem; k_mem; (intro p9 hp9; repeat (first | exact hp9 | refine List.mem_cons_of_mem _ ?_))))))
  · unfold Stop
    refine' wpAny_mono (restK (D := D) (lf := lf) (fvs := fvs) (l := l) (fc := fc) (p1 := q1) (p2 := q2) (ex := ex9) (x := x) (y := y) (g := g) (rvs := rvs) (rc := rc) (row := row) (I := I) (sl := sl) w B ?g1 X ?g2 T C1 C2 hE hd hu hri hfi hll he hxf hyf ?v1 ?v2 ?v3 ?v4 d9 hit htb1 htb2 hex' ⟨ho1, ho2, ho3, ho4⟩) (fun f s₂ hp => unrPost_state hp) fun _ _ e => e
    (case g1 => assumption)
    (case v1 => exact hms)
    (case v2 => exact hmr)
    (case v3 => exact rfl)
    (case v4 => exact rfl)
    (case g2 => (refine' cb_drop ?kM ?kR; (case kM => k_asm); (case kR => (refine List.forall_mem_cons.mpr ⟨?_, List.forall_mem_cons.mpr ⟨?_, List.forall_mem_cons.mpr ⟨?_, List.forall_mem_cons.mpr ⟨?_, List.forall_mem_cons.mpr ⟨?_, List.forall_mem_cons.mpr ⟨?_, List.forall_mem_cons.mpr ⟨?_, ?_⟩⟩⟩⟩⟩⟩⟩; k_mem; k_mem; k_mem; k_mem; k_mem; k_mem; k_mem; (intro p9 hp9; repeat (first | exact hp9 | refine List.mem_cons_of_mem _ ?_))))))
end Mine
/-! part M13a -/
namespace Mine
local macro_rules | `(tactic| walk_at "mine pad") => `(tactic| fail)
local macro_rules | `(tactic| walk_at "mine pad") => `(tactic| fail)
local macro_rules | `(tactic| walk_at "mine pad") => `(tactic| fail)
local macro_rules | `(tactic| walk_at "mine pad") => `(tactic| fail)
local macro_rules | `(tactic| walk_at "mine pad") => `(tactic| fail)
local macro_rules | `(tactic| walk_at "mine pad") => `(tactic| fail)
local macro_rules | `(tactic| walk_at "mine pad") => `(tactic| fail)
local macro_rules | `(tactic| walk_at "mine pad") => `(tactic| fail)
local macro_rules | `(tactic| walk_at "mine pad") => `(tactic| fail)
local macro_rules | `(tactic| walk_at "mine pad") => `(tactic| fail)
local macro_rules | `(tactic| walk_at "mine pad") => `(tactic| fail)
local macro_rules | `(tactic| walk_at "mine pad") => `(tactic| fail)
local macro_rules | `(tactic| walk_at "mine pad") => `(tactic| fail)
local macro_rules | `(tactic| walk_at "mine pad") => `(tactic| fail)
local macro_rules | `(tactic| walk_at "mine pad") => `(tactic| fail)
local macro_rules | `(tactic| walk_at "mine pad") => `(tactic| fail)
local macro_rules | `(tactic| walk_at "mine pad") => `(tactic| fail)
local macro_rules | `(tactic| walk_at "mine pad") => `(tactic| fail)
local macro_rules | `(tactic| walk_at "mine pad") => `(tactic| fail)
local macro_rules | `(tactic| walk_at "mine pad") => `(tactic| fail)
local macro_rules | `(tactic| walk_at "mine pad") => `(tactic| fail)
section
variable {prog : Program} {w : World} {A : Around} {E : Value → Shared → Prop} {s : Shared} {h₀ : Heap} {L fa cO : Addr} {cn : Str} {cs : Scope} {ccd : Value} {cl : List (Str × Addr)} {x : Str} {body : List Stmt} {Q : Flow → Shared → Prop}
theorem cellLoop {r : Addr} {a b c : Int} {t₀ u₀ v₀ : Tok} {n : Nat} {m₀ : Str → Option Value} {tl : List (Addr × Obj)} {oO : Obj} {vO : Option Value} {px : Pos} (J : (Str → Option Value) → Addr → Nat → (Str → Option Value) → List (Addr × Obj) → Prop)
    (hh : A.handled = none) (hE : PassesOwn (model prog w) A (envX cn cs L fa ccd cl) E) (hk : cs.kind = .function) (hx : (envX cn cs L fa ccd cl).kindOf x = some .cell) (hc : cl.lookup x = some cO)
    (hr : IsRange s.heap r a b c t₀ u₀ v₀) (hsmall : Builtin.Range.small a b c = true) (hn : Builtin.Range.rangeSize a b c = (n : Int)) (F : Fr h₀ L s.heap m₀) (N : News h₀ L s.heap ((cO, oO) :: tl)) (hd : oO.data = .cell vO)
    (h0 : ∀ I : Addr, (∀ p ∈ (cO, oO) :: tl, @LT.lt Nat _ p.1 I) → J m₀ I 0 m₀ tl) (hJ : ∀ I i m₁ tl₁, J m₀ I i m₁ tl₁ → ∀ p ∈ tl₁, p.1 ≠ cO ∧ p.1 ≠ I)
    (turn : ∀ I i t m₁ tl₁ it oO' h tk, @LT.lt Nat _ cO I → i < n → J m₀ I i m₁ tl₁ → NoCode it → oO'.data = .cell (some (.int (a + (i : Int) * c) t)) → Fr h₀ L h m₁ → News h₀ L h ((I, it) :: (cO, oO') :: tl₁) →
      wpAny (model prog w) A (execs body (envX cn cs L fa ccd cl)) (UnrPost h₀ L { s with heap := h, toks := tk } I it (fun m' n' => ∃ oO'' v' tl', n' = (cO, oO'') :: tl' ∧ oO''.data = .cell v' ∧ J m₀ I (i + 1) m' tl') Q) E { s with heap := h, toks := tk })
    (done : ∀ I m₁ tl₁ oO' v' h tk, J m₀ I n m₁ tl₁ → oO'.data = .cell v' → Fr h₀ L h m₁ → News h₀ L h ((cO, oO') :: tl₁) → Q .next { s with heap := h, toks := tk }) :
    wpAny (model prog w) A (pyIter (.ref r)) (fun it s₂ => codeAny (model prog w) A (.forLoop (.Name x px) it body [] (envX cn cs L fa ccd cl)) (fun r s' => match r with | .ok f => Q f s' | .error e => cameBackBy (model prog w) A (envX cn cs L fa ccd cl) E e s') s₂) E s := by
  refine wpAny_pyIter_range hr hsmall ?_
  have W : Walks prog w A s.heap.objs.size [s.heap.objs.size] [s.heap.objs.size] n (fun i v => ∃ t, v = .int (a + i * c) t) (fun i h => IsRangeIter h s.heap.objs.size (a + (i : Nat) * c) ((n : Int) - (i : Nat)) c) := Walks.range hh _ a c n
  have hnew := next_is_new F
  have hIlt : ∀ p ∈ (cO, oO) :: tl, @LT.lt Nat _ p.1 s.heap.objs.size := fun p hp => Heap.lt_size (N p hp).1
  have hcI : @LT.lt Nat _ cO s.heap.objs.size := hIlt _ (List.mem_cons_self ..)
  have hLI : L ≠ s.heap.objs.size := Nat.ne_of_lt F.ns.lt
  generalize hI : s.heap.objs.size = I at W hnew hIlt hcI hLI
  refine codeAny_forLoop (fun k s' => ∃ h' tk m' tl' oO' v' i, s' = { s with heap := h', toks := tk } ∧ IsRangeIter h' I (a + ((i : Nat) : Int) * c) ((n : Int) - ((i : Nat) : Int)) c ∧ Fr h₀ L h' m' ∧ News h₀ L h' ((cO, oO') :: tl') ∧ oO'.data = .cell v' ∧ J m₀ I i m' tl' ∧ i ≤ n ∧ k = n + 1 - i) ?_ (n + 1) ?_
  · rintro k s' ⟨h', tk, m', tl', oO', v', i, rfl, hst, F', N', hd', hj, hi, rfl⟩
    have hoff : ∀ p ∈ (cO, oO') :: tl', p.1 ≠ I := fun p hp => by
      rcases List.mem_cons.mp hp with rfl | hp
      · exact Nat.ne_of_lt hcI
      · exact (hJ I i m' tl' hj p hp).2
    have next : ∀ h₁ : Heap, (∀ b o, b ∉ [I] → h'.get? b = some o → h₁.get? b = some o) → Fr h₀ L h₁ m' ∧ News h₀ L h₁ ((cO, oO') :: tl') := fun h₁ hk₁ =>
      ⟨⟨F'.ns.at' fun o e => hk₁ _ o (fun h => hLI (List.mem_singleton.mp h)) e, fun b o e => hk₁ b o (fun h => by rw [List.mem_singleton.mp h, hnew] at e; cases e) (F'.keep b o e), F'.above⟩,
        fun p hp => ⟨hk₁ _ _ (fun h => hoff p hp (List.mem_singleton.mp h)) (N' p hp).1, (N' p hp).2⟩⟩
    by_cases hlt : i < n
    · refine W.item i _ _ _ hlt hst fun v h₁ tk₁ hP hst₁ hk₁ => ?_
      obtain ⟨t, rfl⟩ := hP
      obtain ⟨F₁, N₁⟩ := next h₁ hk₁
      have hit : h₁.get? I = some (krsIt (a + ((i + 1 : Nat) : Int) * c) ((n : Int) - ((i + 1 : Nat) : Int)) c) := hst₁
      have N₂ : News h₀ L h₁ ((I, krsIt (a + ((i + 1 : Nat) : Int) * c) ((n : Int) - ((i + 1 : Nat) : Int)) c) :: (cO, oO') :: tl') := fun p hp => by
        rcases List.mem_cons.mp hp with rfl | hp
        · exact ⟨hit, Ne.symm hLI, hnew⟩
        · exact N₁ p hp
      refine wpAny_assign_Name ?_
      refine storeX_C (v₀ := v') (g := fun o => (I, krsIt (a + ((i + 1 : Nat) : Int) * c) ((n : Int) - ((i + 1 : Nat) : Int)) c) :: (cO, o) :: tl') F₁ N₂ hc (UpdF.tail (Nat.ne_of_gt hcI) (UpdF.head fun p hp => (hJ I i m' tl' hj p hp).1)) hd' (fun h₂ o₂ F₂ N₃ hd₂ => ?_) hk hx
      refine wpAny_passesOwn hE (wpAny_mono (turn I i t m' tl' _ o₂ h₂ tk₁ hcI hlt hj noCode_rng hd₂ F₂ N₃) (fun f s₃ h₃ => ?_) fun _ _ e => e)
      have fin : UnrEnd h₀ L { s with heap := h₂, toks := tk₁ } I (krsIt (a + ((i + 1 : Nat) : Int) * c) ((n : Int) - ((i + 1 : Nat) : Int)) c) (fun m' n' => ∃ oO'' v' tl', n' = (cO, oO'') :: tl' ∧ oO''.data = .cell v' ∧ J m₀ I (i + 1) m' tl') s₃ →
          ∃ m, m < n + 1 - i ∧ ∃ h' tk m' tl' oO' v' i, s₃ = { s with heap := h', toks := tk } ∧ IsRangeIter h' I (a + ((i : Nat) : Int) * c) ((n : Int) - ((i : Nat) : Int)) c ∧ Fr h₀ L h' m' ∧ News h₀ L h' ((cO, oO') :: tl') ∧ oO'.data = .cell v' ∧ J m₀ I i m' tl' ∧ i ≤ n ∧ m = n + 1 - i := by
        rintro ⟨h₄, tk₄, m₄, n₄, e, F₄, N₄, ho, oO'', v'', tl'', rfl, hd'', hj''⟩
        exact ⟨n + 1 - (i + 1), by omega, h₄, tk₄, m₄, tl'', oO'', v'', i + 1, e, (N₄ _ (List.mem_cons_self ..)).1, F₄, fun p hp => N₄ p (List.mem_cons_of_mem _ hp), hd'', hj'', hlt, rfl⟩
      cases f with
      | ret v => exact h₃
      | brk => exact h₃
      | next => exact fin h₃
      | cont => exact fin h₃
    · have hin : i = n := by omega
      subst hin
      refine W.done _ _ _ hst fun h₁ tk₁ hk₁ => wpAny_execs_nil ?_
      obtain ⟨F₁, N₁⟩ := next h₁ hk₁
      exact done I m' tl' oO' v' h₁ tk₁ hj hd' F₁ N₁
  · refine ⟨_, s.toks, m₀, tl, oO, vO, 0, rfl, ?_, F.push _, (fun p hp => ⟨Heap.get?_push_of_some _ (N p hp).1, (N p hp).2⟩), hd, h0 I hIlt, Nat.zero_le _, rfl⟩
    show IsRangeIter _ _ _ _ _
    rw [hn, ← hI]
    simpa using Heap.get?_push_size _ rfl
end
section
variable {prog : Program} {w : World} {A : Around} {s : Shared} {h₀ : Heap} {L : Addr} {m : Str → Option Value} {env : Env} {elt : PySem.Expr} {x : Str} {scope : Scope} {cl : List (Str × Addr)} {Fin : List Value → List (Addr × Obj) → Prop}
theorem compJ (J : Nat → List Value → List (Addr × Obj) → Prop) {n : Nat} {a : Int} {news : List (Addr × Obj)} (h0 : J 0 [] news)
    (turn : ∀ i ys news₁ t I oI C oC D m₂ h tk (E' : Value → Shared → Prop), i < n → J i ys news₁ → LCg.NsObj oC m₂ → m₂ x = some (.int (a + (i : Int)) t) → Fr h₀ L h m → News h₀ L h ((I, oI) :: (C, oC) :: (D, LCg.lst ys) :: news₁) → LCg.Off3 I C D news₁ →
      wpAny (model prog w) A (eval elt (compEnvC scope cl C env)) (LCg.CompEnd h₀ L m { s with heap := h, toks := tk } I oI C oC D (LCg.lst ys) (fun _ => True) (fun y news' => J (i + 1) (ys ++ [y]) news')) E' { s with heap := h, toks := tk })
    (fin : ∀ ys news', J n ys news' → Fin ys news') :
    LCg.CompRest prog w A h₀ L m env elt x scope cl s (fun _ => True) (fun i v => ∃ t, v = .int (a + (i : Int)) t) Fin n 0 [] news := by
  have key : ∀ (k i : Nat), i + k = n → ∀ ys news₁, J i ys news₁ → LCg.CompRest prog w A h₀ L m env elt x scope cl s (fun _ => True) (fun i v => ∃ t, v = .int (a + (i : Int)) t) Fin k i ys news₁ := by
    intro k
    induction k with
    | zero =>
      intro i hi ys news₁ hj
      rw [Nat.add_zero] at hi
      exact fin ys news₁ (hi ▸ hj)
    | succ k ih =>
      intro i hi ys news₁ hj
      refine LCg.CompRest.succ ?_
      intro v I oI C oC D m₂ h tk E' hv hC hx F N off ne
      obtain ⟨t, rfl⟩ := hv
      refine wpAny_mono (turn i ys news₁ t I oI C oC D m₂ h tk E' (by omega) hj hC hx F N off) (fun y s₂ hq => ?_) fun _ _ e => e
      obtain ⟨h', tk', nw, e, F', N', off', hS, hj'⟩ := hq
      exact ⟨h', tk', nw, e, F', N', off', hS, ih (i + 1) (by omega) _ _ hj'⟩
  exact key n 0 (Nat.zero_add n) [] news h0
end
/-- the lengths that the last loop asks for -/
def lens (o n : Nat) : List Int := (List.range n).map fun j => (slen 60 (o + j) o : Int)
theorem lens_succ (o n : Nat) : lens o (n + 1) = lens o n ++ [(slen 60 (o + n) o : Int)] := by unfold lens; rw [List.range_succ, List.map_append]; rfl
def JC (cO row I : Addr) (it oO : Obj) (rvs : List Value) (rc : Nat) (o : Nat) (i : Nat) (ys : List Value) (n₁ : List (Addr × Obj)) : Prop :=
  ∃ p1 p2 ex, n₁ = (I, it) :: (cO, oO) :: (row, W.listOf rvs.toArray rc) :: (37, tabObj p1) :: (30, tabObj p2) :: ex ∧ Tab1 p2 ex ∧ Tab2 p1 ex ∧ Far cO row I ex ∧ IntsAre ys (lens o i)
theorem range_o {o : Nat} (h : o ≤ 8) : Builtin.Range.small (o : Int) (2 * (o : Int) + 1) 1 = true ∧ Builtin.Range.rangeSize (o : Int) (2 * (o : Int) + 1) 1 = ((o + 1 : Nat) : Int) := by
  have key : ∀ o : Fin 9, Builtin.Range.small ((o.val : Nat) : Int) (2 * ((o.val : Nat) : Int) + 1) 1 = true ∧ Builtin.Range.rangeSize ((o.val : Nat) : Int) (2 * ((o.val : Nat) : Int) + 1) 1 = ((o.val + 1 : Nat) : Int) := by decide +kernel
  exact key ⟨o, by omega⟩
theorem off3_append {I C D : Addr} {ex ex2 : List (Addr × Obj)} {a b c d e a' b' c' d' e' : Addr × Obj} (h : LCg.Off3 I C D (a :: b :: c :: d :: e :: ex)) (h1 : a'.1 = a.1) (h2 : b'.1 = b.1) (h3 : c'.1 = c.1) (h4 : d'.1 = d.1) (h5 : e'.1 = e.1)
    (h6 : ∀ p ∈ ex2, @LT.lt Nat _ I p.1 ∧ @LT.lt Nat _ C p.1 ∧ @LT.lt Nat _ D p.1) : LCg.Off3 I C D (a' :: b' :: c' :: d' :: e' :: (ex ++ ex2)) := by
  have hm := h.mem
  refine LCg.Off3.of fun p hp => ?_
  rcases List.mem_cons.mp hp with rfl | hp
  · rw [h1]; exact hm _ (List.mem_cons_self ..)
  · rcases List.mem_cons.mp hp with rfl | hp
    · rw [h2]; exact hm _ (List.mem_cons_of_mem _ (List.mem_cons_self ..))
    · rcases List.mem_cons.mp hp with rfl | hp
      · rw [h3]; exact hm _ (List.mem_cons_of_mem _ (List.mem_cons_of_mem _ (List.mem_cons_self ..)))
      · rcases List.mem_cons.mp hp with rfl | hp
        · rw [h4]; exact hm _ (List.mem_cons_of_mem _ (List.mem_cons_of_mem _ (List.mem_cons_of_mem _ (List.mem_cons_self ..))))
        · rcases List.mem_cons.mp hp with rfl | hp
          · rw [h5]; exact hm _ (List.mem_cons_of_mem _ (List.mem_cons_of_mem _ (List.mem_cons_of_mem _ (List.mem_cons_of_mem _ (List.mem_cons_self ..)))))
          · rcases List.mem_append.mp hp with hp | hp
            · exact hm _ (List.mem_cons_of_mem _ (List.mem_cons_of_mem _ (List.mem_cons_of_mem _ (List.mem_cons_of_mem _ (List.mem_cons_of_mem _ hp)))))
            · obtain ⟨g1, g2, g3⟩ := h6 p hp
              exact ⟨Nat.ne_of_gt g1, Nat.ne_of_gt g2, Nat.ne_of_gt g3⟩
end Mine
/-! part M13 -/
namespace Mine
local macro_rules | `(tactic| walk_at "mine pad") => `(tactic| fail)
local macro_rules | `(tactic| walk_at "mine pad") => `(tactic| fail)
local macro_rules | `(tactic| walk_at "mine pad") => `(tactic| fail)
local macro_rules | `(tactic| walk_at "mine pad") => `(tactic| fail)
local macro_rules | `(tactic| walk_at "mine pad") => `(tactic| fail)
local macro_rules | `(tactic| walk_at "mine pad") => `(tactic| fail)
local macro_rules | `(tactic| walk_at "mine pad") => `(tactic| fail)
local macro_rules | `(tactic| walk_at "mine pad") => `(tactic| fail)
local macro_rules | `(tactic| walk_at "mine pad") => `(tactic| fail)
local macro_rules | `(tactic| walk_at "mine pad") => `(tactic| fail)
local macro_rules | `(tactic| walk_at "mine pad") => `(tactic| fail)
local macro_rules | `(tactic| walk_at "mine pad") => `(tactic| fail)
local macro_rules | `(tactic| walk_at "mine pad") => `(tactic| fail)
local macro_rules | `(tactic| walk_at "mine pad") => `(tactic| fail)
local macro_rules | `(tactic| walk_at "mine pad") => `(tactic| fail)
local macro_rules | `(tactic| walk_at "mine pad") => `(tactic| fail)
local macro_rules | `(tactic| walk_at "mine pad") => `(tactic| fail)
local macro_rules | `(tactic| walk_at "mine pad") => `(tactic| fail)
local macro_rules | `(tactic| walk_at "mine pad") => `(tactic| fail)
def JO (cO row : Addr) (rvs : List Value) (rc : Nat) (I : Addr) (m₁ : Str → Option Value) (tl : List (Addr × Obj)) : Prop :=
  ∃ p1 p2 ex, tl = (row, W.listOf rvs.toArray rc) :: (37, tabObj p1) :: (30, tabObj p2) :: ex ∧ Tab1 p2 ex ∧ Tab2 p1 ex ∧ Far cO row I ex ∧ m₁ "row" = some (.ref row)
local macro_rules | `(tactic| k_all) => `(tactic| first | assumption | exact ne_of_allLt (by assumption) (by omega))
local macro_rules | `(tactic| k_mem) => `(tactic| assumption)
local macro_rules | `(tactic| walk_at "call ref") => `(tactic| (k_here; (with_reducible show wpAny _ _ (call (Value.ref _) _) _ _ _); refine Stop.out ?_))
local macro_rules | `(tactic| walk_at "eval Name") => `(tactic| (k_here; k_dflt (refine' nameX_L ?F ?v ?_ ?a ?b; (case a => rfl); (case b => rfl); (case F => k_asm); (case v => first | exact rfl | assumption); k_whole)))
local macro_rules | `(tactic| walk_at "CompSrc") => `(tactic| (k_here; refine Stop.out ?_))
theorem up6 {a b c d e f : Addr × Obj} {ex : List (Addr × Obj)} : ∀ p ∈ ex, p ∈ a :: b :: c :: d :: e :: f :: ex := fun _ h => .tail _ (.tail _ (.tail _ (.tail _ (.tail _ (.tail _ h)))))
theorem ne6 {a b c d e f : Addr × Obj} {ex : List (Addr × Obj)} {z : Addr} (h1 : a.1 ≠ z) (h2 : b.1 ≠ z) (h3 : c.1 ≠ z) (h4 : d.1 ≠ z) (h5 : e.1 ≠ z) (h6 : f.1 ≠ z) (h : ∀ p ∈ ex, p.1 ≠ z) : ∀ p ∈ a :: b :: c :: d :: e :: f :: ex, p.1 ≠ z :=
  List.forall_mem_cons.mpr ⟨h1, List.forall_mem_cons.mpr ⟨h2, List.forall_mem_cons.mpr ⟨h3, List.forall_mem_cons.mpr ⟨h4, List.forall_mem_cons.mpr ⟨h5, List.forall_mem_cons.mpr ⟨h6, h⟩⟩⟩⟩⟩⟩
theorem sub8 {a b c d e f g h i j : Addr × Obj} {ex : List (Addr × Obj)} : ∀ p ∈ a :: b :: c :: d :: e :: f :: g :: h :: ex, p ∈ i :: j :: g :: h :: a :: b :: c :: d :: e :: f :: ex := fun p hp => by
  simp only [List.mem_cons] at hp ⊢
  rcases hp with hp | hp | hp | hp | hp | hp | hp | hp | hp <;> simp only [hp, true_or, or_true]
theorem farC {cO row I : Addr} {ex ex2 : List (Addr × Obj)} (h : Far cO row I ex) {c d e : Addr × Obj} {p1 p2 : Array Value} {o1 o2 o3 : Obj} {r : List (Addr × Obj)} (hov : Over ((37, tabObj p1) :: (30, tabObj p2) :: c :: d :: e :: (I, o1) :: (cO, o2) :: (row, o3) :: r) ex2) : Far cO row I (ex ++ ex2) := fun p hp => by
  rcases List.mem_append.mp hp with hp | hp
  · exact h p hp
  · exact ⟨Nat.ne_of_gt (hov _ (.tail _ (.tail _ (.tail _ (.tail _ (.tail _ (.tail _ (.head _))))))) p hp), Nat.ne_of_gt (hov _ (.tail _ (.tail _ (.tail _ (.tail _ (.tail _ (.tail _ (.tail _ (.head _)))))))) p hp), Nat.ne_of_gt (hov _ (.head _) p hp), Nat.ne_of_gt (hov _ (.tail _ (.head _)) p hp), Nat.ne_of_gt (hov _ (.tail _ (.tail _ (.tail _ (.tail _ (.tail _ (.head _)))))) p hp)⟩
theorem off1_mem {D : Addr} : ∀ {l : List (Addr × Obj)}, LCg.Off1 D l → ∀ p ∈ l, p.1 ≠ D
  | [], _, _, hp => nomatch hp
  | _ :: _, h, _, hp => (List.mem_cons.mp hp).elim (fun e => e ▸ h.1) (off1_mem h.2 _)
theorem max_led {prog : Program} {w : World} {A : Around} {E : Value → Shared → Prop} {s : Shared} {h₀ : Heap} {L : Addr} {m : Str → Option Value} {news : List (Addr × Obj)} {D : Addr} {ys : List Value} {ns : List Int} {Q : Value → Shared → Prop}
    (hh : A.handled = none) (F : Fr h₀ L s.heap m) (N : News h₀ L s.heap news) (hD : (D, LCg.lst ys) ∈ news) (hi : IntsAre ys ns) (hne : 0 < ns.length)
    (h : ∀ M t h' tk, M ∈ ns → (∀ a, a ∈ ns → a ≤ M) → Fr h₀ L h' m → News h₀ L h' news → Q (.int M t) { s with heap := h', toks := tk }) : wpAny (model prog w) A (call (.builtin "max") [.ref D]) Q E s := by
  have hl : s.heap.IsList D ys.toArray := N.isList hD
  have hnum : numsOf ys.toArray.toList = ns := hi.numsOf
  obtain ⟨xs, hxs⟩ := hi.allInts.items
  rw [hxs] at hl hnum
  rw [nums_intItems] at hnum
  have hsz : ns.length = xs.size := by rw [← hnum, List.length_map, Array.length_toList]
  refine max_intList hh hl (by omega) fun v h' tk hv hk => ?_
  obtain ⟨t, rfl⟩ := intItems_at hv
  obtain ⟨h1, h2⟩ := argBest_gt (numAt xs) (xs.size - 1)
  refine h _ t h' tk ?_ (fun a ha => ?_) (F.keeps hk) (N.grown hk)
  · rw [numAt_eq, hnum]; exact getD_mem (by omega)
  · obtain ⟨j, hj, rfl⟩ := mem_getD ha
    rw [← hnum, ← numAt_eq]
    exact h2 j (by omega)
theorem off_facts {o : Nat} (h1 : 1 ≤ o) (h2 : o ≤ 8) : ∃ n, n < 58 ∧ fb n ≤ (o : Int) ∧ (o : Int) < fb (n + 1) ∧ (∀ v ∈ lens o (o + 1), v ≤ ((n + 1 : Nat) : Int)) ∧ (fb n = (o : Int) → ((n + 1 : Nat) : Int) ∈ lens o (o + 1)) := by
  have key : ∀ o : Fin 8, ∃ n : Fin 5, fb n.val ≤ ((o.val + 1 : Nat) : Int) ∧ ((o.val + 1 : Nat) : Int) < fb (n.val + 1) ∧ (∀ v ∈ lens (o.val + 1) (o.val + 1 + 1), v ≤ ((n.val + 1 : Nat) : Int)) ∧ (fb n.val = ((o.val + 1 : Nat) : Int) → ((n.val + 1 : Nat) : Int) ∈ lens (o.val + 1) (o.val + 1 + 1)) := by decide +kernel
  obtain ⟨n, hn⟩ := key ⟨o - 1, by omega⟩
  rw [show (⟨o - 1, by omega⟩ : Fin 8).val + 1 = o from Nat.sub_add_cancel h1] at hn
  exact ⟨n.val, by omega, hn⟩
theorem mem_fbs {x : Int} {n : Nat} (h : x ∈ fbs 59) (h1 : fb n ≤ x) (h2 : x < fb (n + 1)) : fb n = x := by
  unfold fbs at h
  obtain ⟨i, _, rfl⟩ := List.mem_map.mp h
  rcases Nat.lt_trichotomy i n with h3 | h3 | h3
  · exact absurd (fb_lt_of h3) (Int.not_lt.mpr h1)
  · rw [h3]
  · exact absurd h2 (Int.not_lt.mpr (fb_le h3))
theorem JO_end {h₀ : Heap} {L : Addr} {s₁ : Shared} {I : Addr} {it oO : Obj} {h' : Heap} {tk : Nat} {cO row D : Addr} {rvs : List Value} {rc : Nat} {p1 p2 : Array Value} {ex : List (Addr × Obj)} {m₁ : Str → Option Value} {v lg : Option Value} {oD : Obj}
    (F : Fr h₀ L h' fun y => if y = "longest" then lg else m₁ y) (N : News h₀ L h' ((D, oD) :: (I, it) :: (cO, oO) :: (row, W.listOf rvs.toArray rc) :: (37, tabObj p1) :: (30, tabObj p2) :: ex)) (hd : oO.data = .cell v) (h1 : Tab1 p2 ex) (h2 : Tab2 p1 ex) (hf : Far cO row I ex)
    (hm : m₁ "row" = some (.ref row)) (hoff : @LT.lt Nat _ cO row ∧ @LT.lt Nat _ row I ∧ @LT.lt Nat _ 37 cO ∧ @LT.lt Nat _ 30 cO) :
    UnrEnd h₀ L s₁ I it (fun m' n' => ∃ oO'' v' tl', n' = (cO, oO'') :: tl' ∧ oO''.data = .cell v' ∧ JO cO row rvs rc I m' tl') { s₁ with heap := h', toks := tk } := by
  obtain ⟨g1, g2, g3, g4⟩ := hoff
  refine UnrEnd.intro F N ((cO, oO) :: (row, W.listOf rvs.toArray rc) :: (37, tabObj p1) :: (30, tabObj p2) :: ex) (fun p hp => List.mem_cons_of_mem _ hp) ?_ ⟨oO, v, _, rfl, hd, p1, p2, ex, rfl, h1, h2, hf, ?_⟩
  · refine List.forall_mem_cons.mpr ⟨?_, List.forall_mem_cons.mpr ⟨?_, List.forall_mem_cons.mpr ⟨?_, List.forall_mem_cons.mpr ⟨?_, fun p hp => (hf p hp).2.2.2.2⟩⟩⟩⟩
    · k_ne
    · k_ne
    · k_ne
    · k_ne
  · show (if ("row" : Str) = "longest" then lg else m₁ "row") = _
    rw [if_neg (by decide)]
    exact hm
theorem turnO (w : World) {p : Program} {loose : List Str} {mean : ExcName → Option Value} {mg mb : Str → Option Value} {dp un : Nat} {gd : Option (List Code)} {L fa : Addr} {cdv : Value} {cO : Addr} {outer : List Env} {A₀ : Around} {base h₀ : Heap}
    {m₁ : Str → Option Value} {s : Shared} {Q : Flow → Shared → Prop} {E : Value → Shared → Prop} {row I : Addr} {rvs : List Value} {rc : Nat} {it oO : Obj} {p1 p2 : Array Value} {ex : List (Addr × Obj)} {o : Nat} {to : Tok}
    (B : Below A₀ base outer h₀) (F : Fr h₀ L s.heap m₁) (X : (hd.heap_39 w.params).In h₀) (N : News h₀ L s.heap ((I, it) :: (cO, oO) :: (row, W.listOf rvs.toArray rc) :: (37, tabObj p1) :: (30, tabObj p2) :: ex)) (T : Top p loose mean mg mb h₀) (C1 : CodeHd base 41 37) (C2 : CodeHd base 34 30)
    (hE : PassesOwn (LM w) (lawTop dp un gd L fa cdv cO outer) (lawEnv L fa cdv cO) E) (hd : dp + 200 < recursionLimit) (hu : un + 2000 < cLine) (hri : IntsAre rvs (fbs 59))
    (hmr : m₁ "row" = some (.ref row)) (d9 : oO.data = .cell (some (.int (o : Int) to))) (ho1 : 1 ≤ o) (ho2 : o ≤ 8) (hit : NoCode it)
    (htb1 : Tab1 p2 ex) (htb2 : Tab2 p1 ex) (hex' : Far cO row I ex) (hoff : @LT.lt Nat _ cO row ∧ @LT.lt Nat _ row I ∧ @LT.lt Nat _ 37 cO ∧ @LT.lt Nat _ 30 cO) :
    wpAny (LM w) (lawTop dp un gd L fa cdv cO outer) (execs bodyO (lawEnv L fa cdv cO)) (UnrPost h₀ L s I it (fun m' n' => ∃ oO'' v' tl', n' = (cO, oO'') :: tl' ∧ oO''.data = .cell v' ∧ JO cO row rvs rc I m' tl') Q) E s := by
  obtain ⟨hf1, hf2, hf3, hf4⟩ := hoff
  unfold lawTop lawEnv LM bodyO scopeL litOf
  unfold lawTop lawEnv LM scopeL litOf at hE
  revert X; k_fill; intro X
  k_steps
  unfold Stop
  rename IsRange _ _ _ _ _ _ _ _ => hrng
  refine LCg.CompSrc.range (n := o + 1) (by rfl) (by k_asm) (by k_asm) hrng (range_o ho2).1 (range_o ho2).2 (Nat.le_trans (Nat.succ_le_succ ho2) (by rw [PySem.sizeLine_eq]; omega)) ?_
  intro g'
  refine' compJ (J := JC cO row I it oO rvs rc o) ?h0 ?turn ?fin
  case h0 => exact ⟨p1, p2, ex, rfl, htb1, htb2, hex', .nil⟩
  case turn =>
    clear htb1 htb2 hex'
    intro i ys news₁ t I2 oI C oC D m₂ h tk E' hi9 hj hC hm2 F9 N9 hof
    obtain ⟨p1', p2', ex9, rfl, htb1, htb2, hex', hys⟩ := hj
    k_steps
    unfold Stop
    have hm9 := hof.mem
    have g1 := hm9 _ (List.mem_cons_self ..)
    have g2 := hm9 _ (List.mem_cons_of_mem _ (List.mem_cons_self ..))
    have g3 := hm9 _ (List.mem_cons_of_mem _ (List.mem_cons_of_mem _ (List.mem_cons_self ..)))
    have g4 := hm9 _ (List.mem_cons_of_mem _ (List.mem_cons_of_mem _ (List.mem_cons_of_mem _ (List.mem_cons_self ..))))
    have g5 := hm9 _ (List.mem_cons_of_mem _ (List.mem_cons_of_mem _ (List.mem_cons_of_mem _ (List.mem_cons_of_mem _ (List.mem_cons_self ..)))))
    dsimp only at g1 g2 g3 g4 g5
    clear hm9
    have hbx : (0 : Int) ≤ (o : Int) + (i : Int) ∧ (o : Int) + (i : Int) < 10 ^ 12 := by omega
    have hby : (0 : Int) ≤ (o : Int) ∧ (o : Int) < 10 ^ 12 := by omega
    have hxb := bits_of_lt hbx.1 hbx.2
    have hyb := bits_of_lt hby.1 hby.2
    obtain ⟨l, g, he⟩ := eu_exists (o : Int).toNat ((o : Int) + (i : Int)) (o : Int) hby.1 rfl
    have hsl : l.length = slen 60 (o + i) o := slen_eu 60 (by rw [Int.natCast_add]; exact he) (by omega)
    have hll : l.length ≤ 60 := eu_len he hbx.1 (Int.lt_trans (show (o : Int) < fb 8 from Int.lt_of_le_of_lt (show (o : Int) ≤ 8 by omega) (by decide)) (fb_lt_of (by decide)))
    refine' spec_use (c_steps w ((o : Int) + (i : Int)) (o : Int) _ _ l g p1' p2' ((I2, oI) :: (C, oC) :: (D, LCg.lst ys) :: (I, it) :: (cO, oO) :: (row, W.listOf rvs.toArray rc) :: ex9) he (by omega) hbx.1 hby.1 hxb hyb (htb1.mono up6) (htb2.mono up6) (ne6 g4.1.symm g4.2.1.symm g4.2.2.symm (by k_ne) (by k_ne) (by k_ne) fun p hp => (hex' p hp).2.2.1) (ne6 g5.1.symm g5.2.1.symm g5.2.2.symm (by k_ne) (by k_ne) (by k_ne) fun p hp => (hex' p hp).2.2.2.1)) ?k1x1 ?k2x1 ?k3x1 ?k4x1 ?k5x1 ?k6x1 ?k7x1 ?k8x1 ?kdx1 ?kux1 ?kretx1
    (case k4x1 => exact pull2 (.tail (.tail (.tail (.tail (.tail (.tail .head)))))) (.tail (.tail (.tail (.tail (.tail (.tail .head)))))) (by k_asm))
    (case k1x1 => k_asm); (case k2x1 => k_asm); (case k3x1 => k_asm); (case k5x1 => k_asm); (case k6x1 => assumption); (case k7x1 => assumption); (case k8x1 => first | exact rfl | assumption); (case kdx1 => ktr_room); (case kux1 => ktr_units)
    intro v9 news9 h' tk' hp9 F' N'
    obtain ⟨D9, lf, fvs, fc, t9, q1, q2, ex2, e1, e2, hfi, hta1, hta2, hD, hlD, hov⟩ := hp9
    subst e1 e2
    simp only [List.cons_append] at N'
    k_steps
    refine LCg.CompEnd.intro (by assumption) N' ((I, it) :: (cO, oO) :: (row, W.listOf rvs.toArray rc) :: (37, tabObj q1) :: (30, tabObj q2) :: (ex9 ++ ex2)) ?ca ?cb True.intro ?cc
    case ca => exact sub8
    case cb => exact off3_append hof rfl rfl rfl rfl rfl fun p hp => ⟨hov _ (.tail _ (.tail _ (.head _))) p hp, hov _ (.tail _ (.tail _ (.tail _ (.head _)))) p hp, hov _ (.tail _ (.tail _ (.tail _ (.tail _ (.head _))))) p hp⟩
    case cc =>
      refine ⟨q1, q2, ex9 ++ ex2, rfl, hta1 ex9 htb1, hta2 ex9 htb2, farC hex' hov, ?_⟩
      rw [lens_succ, ← hsl]
      exact hys.append (.cons _ _ .nil)
  case fin =>
    clear htb1 htb2 hex'
    intro ys news₁ hj
    obtain ⟨p1', p2', ex9, rfl, htb1, htb2, hex', hys⟩ := hj
    unfold LCg.FinE
    intro D h tk F9 N9 hof
    replace hof := off1_mem hof
    k_steps
    refine max_led (by rfl) F9 N9 (.head _) hys (by unfold lens; rw [List.length_map, List.length_range]; omega) ?_
    clear F9 N9
    intro mx tm h' tk' hmx1 hmx2 F9 N9
    obtain ⟨n9, hn1, hn2, hn3, hn4, hn5⟩ := off_facts ho1 ho2
    have hle := hn4 _ hmx1
    k_steps
    unfold Stop
    refine' spec_use (c_bis w row (o : Int) _ rvs (fbs 59) rc _ ?hrow hri (by rw [fbs_length]; decide) (fbs_rising 59)) ?k1x2 ?k2x2 ?k3x2 ?k4x2 ?k5x2 ?k6x2 ?k7x2 ?k8x2 ?kdx2 ?kux2 ?kretx2
    (case k4x2 => k_asm)
    (case hrow => exact .tail _ (.tail _ (.tail _ (.head _))))
    (case k1x2 => k_asm); (case k2x2 => k_asm); (case k3x2 => k_asm); (case k5x2 => k_asm); (case k6x2 => assumption); (case k7x2 => assumption); (case k8x2 => first | exact rfl | assumption); (case kdx2 => ktr_room); (case kux2 => ktr_units)
    intro v9 news9 h' tk' hp9 F' N'
    obtain ⟨e2, kk, t8, e1, hbis⟩ := hp9
    subst e1 e2
    have hkk := bis_eq hbis hn1 hn2 hn3
    k_steps
    · unfold Stop
      rename List.any _ _ = true => hin
      obtain ⟨z9, hz1, hz2⟩ := List.any_eq_true.mp hin
      have hz3 : z9 = (o : Int) := by simpa using hz2
      have hge := hmx2 _ (hn5 (mem_fbs (hz3 ▸ hz1) hn2 hn3))
      refine' spec_use (c_bis w row (o : Int) _ rvs (fbs 59) rc _ ?hrow3 hri (by rw [fbs_length]; decide) (fbs_rising 59)) ?k1x3 ?k2x3 ?k3x3 ?k4x3 ?k5x3 ?k6x3 ?k7x3 ?k8x3 ?kdx3 ?kux3 ?kretx3
      (case k4x3 => k_asm)
      (case hrow3 => exact .tail _ (.tail _ (.tail _ (.head _))))
      (case k1x3 => k_asm); (case k2x3 => k_asm); (case k3x3 => k_asm); (case k5x3 => k_asm); (case k6x3 => assumption); (case k7x3 => assumption); (case k8x3 => first | exact rfl | assumption); (case kdx3 => ktr_room); (case kux3 => ktr_units)
      intro v9 news9 h' tk' hp9 F' N'
      obtain ⟨e2, kk2, t8, e1, hbis2⟩ := hp9
      subst e1 e2
      have hkk2 := bis_eq hbis2 hn1 hn2 hn3
      k_steps
      all_goals first | (exfalso; omega) | exact JO_end (by assumption) (by assumption) (by assumption) (by assumption) (by assumption) (by assumption) (by assumption) ⟨hf1, hf2, hf3, hf4⟩
    · exact JO_end (by assumption) (by assumption) (by assumption) (by assumption) (by assumption) (by assumption) (by assumption) ⟨hf1, hf2, hf3, hf4⟩
end Mine
/-! part M14 -/
namespace Mine
local macro_rules | `(tactic| walk_at "mine pad") => `(tactic| fail)
local macro_rules | `(tactic| walk_at "mine pad") => `(tactic| fail)
local macro_rules | `(tactic| walk_at "mine pad") => `(tactic| fail)
local macro_rules | `(tactic| walk_at "mine pad") => `(tactic| fail)
local macro_rules | `(tactic| walk_at "mine pad") => `(tactic| fail)
local macro_rules | `(tactic| walk_at "mine pad") => `(tactic| fail)
local macro_rules | `(tactic| walk_at "mine pad") => `(tactic| fail)
local macro_rules | `(tactic| walk_at "mine pad") => `(tactic| fail)
local macro_rules | `(tactic| walk_at "mine pad") => `(tactic| fail)
local macro_rules | `(tactic| walk_at "mine pad") => `(tactic| fail)
local macro_rules | `(tactic| walk_at "mine pad") => `(tactic| fail)
local macro_rules | `(tactic| walk_at "mine pad") => `(tactic| fail)
local macro_rules | `(tactic| walk_at "mine pad") => `(tactic| fail)
local macro_rules | `(tactic| walk_at "mine pad") => `(tactic| fail)
local macro_rules | `(tactic| walk_at "mine pad") => `(tactic| fail)
local macro_rules | `(tactic| walk_at "mine pad") => `(tactic| fail)
local macro_rules | `(tactic| walk_at "mine pad") => `(tactic| fail)
local macro_rules | `(tactic| walk_at "mine pad") => `(tactic| fail)
local macro_rules | `(tactic| walk_at "mine pad") => `(tactic| fail)
local macro_rules | `(tactic| k_all) => `(tactic| first | assumption | exact ne_of_allLt (by assumption) (by omega))
local macro_rules | `(tactic| k_mem) => `(tactic| assumption)
local macro_rules | `(tactic| walk_at "call ref") => `(tactic| (k_here; (with_reducible show wpAny _ _ (call (Value.ref _) _) _ _ _); refine Stop.out ?_))
local macro_rules | `(tactic| walk_at "eval Name") => `(tactic| (k_here; k_dflt (refine' nameX_L ?F ?v ?_ ?a ?b; (case a => rfl); (case b => rfl); (case F => k_asm); (case v => first | exact rfl | assumption); k_whole)))
local macro_rules | `(tactic| walk_at "exec For Name Call") => `(tactic| (k_here; (with_reducible show wpAny _ _ (exec (Stmt.For _ _ _ _ _) _) _ _ _); refine Stop.out ?_))
local macro_rules | `(tactic| walk_at "pyIter ref") => `(tactic| (k_here; (with_reducible show wpAny _ _ (pyIter (Value.ref _)) (fun it s₂ => codeAny _ _ _ _ _) _ _); refine Stop.out ?_))
local macro_rules | `(tactic| is_list) => `(tactic| exact News.isList (by k_asm) (by k_mem))
theorem mod50 (v : Int) : 0 ≤ v.fmod 50 ∧ v.fmod 50 < 50 := by
  rw [Int.fmod_eq_emod_of_nonneg _ (by decide)]
  exact ⟨Int.emod_nonneg _ (by decide), Int.emod_lt_of_pos _ (by decide)⟩
theorem fb_room {n : Nat} (h : n < 57) : 0 ≤ fb n ∧ fb n < 10 ^ 12 := ⟨Int.le_trans (by decide) (fb_pos n).1, Int.lt_of_lt_of_le (fb_lt_of h) fb_57⟩
theorem up2 {a b : Addr × Obj} {ex : List (Addr × Obj)} : ∀ p ∈ ex, p ∈ a :: b :: ex := fun _ h => .tail _ (.tail _ h)
theorem ne2 {a b : Addr × Obj} {ex : List (Addr × Obj)} {z : Addr} (h1 : a.1 ≠ z) (h2 : b.1 ≠ z) (h : ∀ p ∈ ex, p.1 ≠ z) : ∀ p ∈ a :: b :: ex, p.1 ≠ z := List.forall_mem_cons.mpr ⟨h1, List.forall_mem_cons.mpr ⟨h2, h⟩⟩
theorem sub7 {a b c d e f : Addr × Obj} {ex : List (Addr × Obj)} : ∀ p ∈ e :: f :: c :: d :: ex, p ∈ a :: b :: c :: d :: e :: f :: ex := fun p hp => by
  simp only [List.mem_cons] at hp ⊢
  rcases hp with hp | hp | hp | hp | hp <;> simp only [hp, true_or, or_true]
theorem farI {cO row I : Addr} {ex ex2 : List (Addr × Obj)} (h : ∀ p ∈ ex, p.1 ≠ cO ∧ p.1 ≠ row ∧ p.1 ≠ 37 ∧ p.1 ≠ 30) {p1 p2 : Array Value} {o2 o3 : Obj} {r : List (Addr × Obj)} (hov : Over ((37, tabObj p1) :: (30, tabObj p2) :: (cO, o2) :: (row, o3) :: r) ex2) {a b c d : Addr × Obj} (hI : ∀ p ∈ a :: b :: c :: d :: (ex ++ ex2), @LT.lt Nat _ p.1 I) : Far cO row I (ex ++ ex2) := fun p hp => by
  have hp0 := Nat.ne_of_lt (hI p (.tail _ (.tail _ (.tail _ (.tail _ hp)))))
  rcases List.mem_append.mp hp with hp | hp
  · obtain ⟨g1, g2, g3, g4⟩ := h p hp
    exact ⟨g1, g2, g3, g4, hp0⟩
  · exact ⟨Nat.ne_of_gt (hov _ (.tail _ (.tail _ (.head _))) p hp), Nat.ne_of_gt (hov _ (.tail _ (.tail _ (.tail _ (.head _)))) p hp), Nat.ne_of_gt (hov _ (.head _) p hp), Nat.ne_of_gt (hov _ (.tail _ (.head _)) p hp), hp0⟩
theorem lawP (w : World) {p : Program} {loose : List Str} {mean : ExcName → Option Value} {mg mb : Str → Option Value} {dp un : Nat} {gd : Option (List Code)} {L fa : Addr} {cdv : Value} {cO : Addr} {outer : List Env} {A₀ : Around} {base h₀ : Heap}
    {m₁ : Str → Option Value} {s : Shared} {Q : Flow → Shared → Prop} {E : Value → Shared → Prop} {sl row : Addr} {svs rvs : List Value} {sns : List Int} {rc : Nat} {oO : Obj} {v : Option Value} {p1 p2 : Array Value} {ex : List (Addr × Obj)}
    (B : Below A₀ base outer h₀) (F : Fr h₀ L s.heap m₁) (X : (hd.heap_39 w.params).In h₀) (N : News h₀ L s.heap ((cO, oO) :: (row, W.listOf rvs.toArray rc) :: (37, tabObj p1) :: (30, tabObj p2) :: ex)) (T : Top p loose mean mg mb h₀) (C1 : CodeHd base 41 37) (C2 : CodeHd base 34 30)
    (hE : PassesOwn (LM w) (lawTop dp un gd L fa cdv cO outer) (lawEnv L fa cdv cO) E) (hd : dp + 200 < recursionLimit) (hu : un + 2000 < cLine) (hsl : h₀.IsList sl svs.toArray) (hsi : IntsAre svs sns) (hsn : sns.length ≤ 63) (hri : IntsAre rvs (fbs 59))
    (hmr : m₁ "row" = some (.ref row)) (hms : m₁ "script" = some (.ref sl)) (d9 : oO.data = .cell v) (htb1 : Tab1 p2 ex) (htb2 : Tab2 p1 ex) (hex : ∀ p ∈ ex, p.1 ≠ cO ∧ p.1 ≠ row ∧ p.1 ≠ 37 ∧ p.1 ≠ 30)
    (hoff : @LT.lt Nat _ cO row ∧ @LT.lt Nat _ 37 cO ∧ @LT.lt Nat _ 30 cO)
    (hret : ∀ m' news' h tk q1 q2, (37, tabObj q1) ∈ news' → (30, tabObj q2) ∈ news' → Fr h₀ L h m' → News h₀ L h news' → Q (.ret (.bool true)) { s with heap := h, toks := tk }) :
    wpAny (LM w) (lawTop dp un gd L fa cdv cO outer) (execs restP (lawEnv L fa cdv cO)) Q E s := by
  obtain ⟨hf1, hf2, hf3⟩ := hoff
  unfold lawTop lawEnv LM restP scopeL litOf
  unfold lawTop lawEnv LM scopeL litOf at hE
  revert X; k_fill; intro X
  have hp50 := mod50 sns.sum
  have hlen : (fbs 59).length = 59 := fbs_length 59
  k_steps
  unfold Stop
  rename Fr _ _ _ _ => F9
  rename News _ _ _ _ => N9
  obtain ⟨n, hn⟩ : ∃ n : Nat, sns.sum.fmod 50 = (n : Int) := ⟨_, (Int.toNat_of_nonneg hp50.1).symm⟩
  rw [hn] at hp50 F9 ⊢
  have hn50 : n < 50 := by omega
  have g1 : (fbs 59).getD ((n : Int) + 1).toNat 0 = fb (n + 1) := by
    rw [show ((n : Int) + 1).toNat = n + 1 by omega]; exact fbs_getD (by omega)
  have g0 : (fbs 59).getD (n : Int).toNat 0 = fb n := by
    rw [show ((n : Int)).toNat = n by omega]; exact fbs_getD (by omega)
  rw [g1, g0]
  have hb1 := fb_room (show n + 1 < 57 by omega)
  have hb0 := fb_room (show n < 57 by omega)
  obtain ⟨l, hl, he⟩ : ∃ l : List Int, l.length = n + 1 ∧ Eu (fb (n + 1)) (fb n) l 1 := ⟨_, by rw [List.length_append, List.length_replicate]; rfl, eu_row n⟩
  refine' spec_use (c_steps w (fb (n + 1)) (fb n) _ _ l 1 p1 p2 ((cO, oO) :: (row, W.listOf rvs.toArray rc) :: ex) he (by omega) hb1.1 hb0.1 (bits_of_lt hb1.1 hb1.2) (bits_of_lt hb0.1 hb0.2) (htb1.mono up2) (htb2.mono up2) (ne2 (by k_ne) (by k_ne) fun p hp => (hex p hp).2.2.1) (ne2 (by k_ne) (by k_ne) fun p hp => (hex p hp).2.2.2)) ?k1x1 ?k2x1 ?k3x1 ?k4x1 ?k5x1 ?k6x1 ?k7x1 ?k8x1 ?kdx1 ?kux1 ?kretx1
  (case k4x1 => exact pull2 (.tail (.tail .head)) (.tail (.tail .head)) N9)
  (case k1x1 => k_asm); (case k2x1 => k_asm); (case k3x1 => k_asm); (case k5x1 => k_asm); (case k6x1 => assumption); (case k7x1 => assumption); (case k8x1 => first | exact rfl | assumption); (case kdx1 => ktr_room); (case kux1 => ktr_units)
  intro v9 news9 h' tk' hp9 F' N'
  obtain ⟨D9, lf, fvs, fc, t9, q1, q2, ex2, e1, e2, hfi, hta1, hta2, hD, hlD, hov⟩ := hp9
  subst e1 e2
  replace hta1 := hta1 ex htb1
  replace hta2 := hta2 ex htb2
  simp only [List.cons_append] at N'
  k_steps
  unfold Stop
  rw [g0]
  refine' spec_use (c_bis w row (fb n) _ rvs (fbs 59) rc _ ?hrow hri (by rw [fbs_length]; decide) (fbs_rising 59)) ?k1x2 ?k2x2 ?k3x2 ?k4x2 ?k5x2 ?k6x2 ?k7x2 ?k8x2 ?kdx2 ?kux2 ?kretx2
  (case k4x2 => k_asm)
  (case hrow => exact .tail _ (.tail _ (.tail _ (.tail _ (.tail _ (.head _))))))
  (case k1x2 => k_asm); (case k2x2 => k_asm); (case k3x2 => k_asm); (case k5x2 => k_asm); (case k6x2 => assumption); (case k7x2 => assumption); (case k8x2 => first | exact rfl | assumption); (case kdx2 => ktr_room); (case kux2 => ktr_units)
  intro v9 news9 h' tk' hp9 F' N'
  obtain ⟨e2, kk, t8, e1, hbis⟩ := hp9
  subst e1 e2
  have hkk := bis_eq hbis (by omega) (Int.le_refl _) (fb_lt n)
  k_steps
  · exfalso; omega
  · exfalso; omega
  unfold Stop
  refine wpAny_For ?_
  k_steps
  unfold Stop
  rename IsRange _ _ _ _ _ _ _ _ => hrng
  rename Fr _ _ _ _ => F9
  rename News _ _ _ _ => N9
  refine' cellLoop (J := fun _ I _ m₁ tl => JO cO row rvs rc I m₁ tl ∧ @LT.lt Nat _ row I) (n := 8) (oO := oO) (vO := v) (tl := (row, W.listOf rvs.toArray rc) :: (37, tabObj q1) :: (30, tabObj q2) :: (ex ++ ex2)) rfl hE rfl rfl rfl hrng (by decide) (by decide) F9 ?kN d9 ?h0 ?hJ ?turn ?done
  case kN => exact fun p hp => N9 p (sub7 p hp)
  case h0 =>
    intro I hI
    refine ⟨⟨q1, q2, _, rfl, hta1, hta2, farI hex hov hI, hmr⟩, hI _ (.tail _ (.head _))⟩
  case hJ =>
    rintro I i m₂ tl ⟨⟨r1, r2, ex9, rfl, _, _, hfar, _⟩, hrI⟩
    refine List.forall_mem_cons.mpr ⟨⟨?_, ?_⟩, List.forall_mem_cons.mpr ⟨⟨?_, ?_⟩, List.forall_mem_cons.mpr ⟨⟨?_, ?_⟩, fun p hp => ⟨(hfar p hp).1, (hfar p hp).2.2.2.2⟩⟩⟩⟩
    all_goals k_ne
  case turn =>
    rintro I i t m₂ tl it oO' h tk hcI hi8 ⟨⟨r1, r2, ex9, rfl, ht1, ht2, hfar, hr⟩, hrI⟩ hno hd2 F2 N2
    rw [show (1 : Int) + (i : Int) * 1 = ((i + 1 : Nat) : Int) by omega] at hd2
    refine wpAny_mono (turnO (o := i + 1) w B F2 X N2 T C1 C2 hE hd hu hri hr hd2 (by omega) (by omega) hno ht1 ht2 hfar ⟨hf1, hrI, hf2, hf3⟩) (fun f s₂ hp => unrPost_mono hp fun m' n' hj' => ?_) fun _ _ e => e
    obtain ⟨o9, v9, tl9, e9, hd9, hj9⟩ := hj'
    exact ⟨o9, v9, tl9, e9, hd9, hj9, hrI⟩
  case done =>
    rintro I m₂ tl oO' v' h tk ⟨⟨r1, r2, ex9, rfl, ht1, ht2, hfar, hr⟩, hrI⟩ hd2 F2 N2
    clear F9 N9
    k_steps
    exact hret _ _ _ _ _ _ (.tail _ (.tail _ (.head _))) (.tail _ (.tail _ (.tail _ (.head _)))) F2 N2
end Mine
/-! part M15 -/
namespace Mine
local macro_rules | `(tactic| walk_at "mine pad") => `(tactic| fail)
local macro_rules | `(tactic| walk_at "mine pad") => `(tactic| fail)
local macro_rules | `(tactic| walk_at "mine pad") => `(tactic| fail)
local macro_rules | `(tactic| walk_at "mine pad") => `(tactic| fail)
local macro_rules | `(tactic| walk_at "mine pad") => `(tactic| fail)
local macro_rules | `(tactic| walk_at "mine pad") => `(tactic| fail)
local macro_rules | `(tactic| walk_at "mine pad") => `(tactic| fail)
local macro_rules | `(tactic| walk_at "mine pad") => `(tactic| fail)
local macro_rules | `(tactic| walk_at "mine pad") => `(tactic| fail)
local macro_rules | `(tactic| walk_at "mine pad") => `(tactic| fail)
local macro_rules | `(tactic| walk_at "mine pad") => `(tactic| fail)
local macro_rules | `(tactic| walk_at "mine pad") => `(tactic| fail)
local macro_rules | `(tactic| walk_at "mine pad") => `(tactic| fail)
local macro_rules | `(tactic| walk_at "mine pad") => `(tactic| fail)
local macro_rules | `(tactic| walk_at "mine pad") => `(tactic| fail)
local macro_rules | `(tactic| walk_at "mine pad") => `(tactic| fail)
local macro_rules | `(tactic| walk_at "mine pad") => `(tactic| fail)
local macro_rules | `(tactic| walk_at "mine pad") => `(tactic| fail)
local macro_rules | `(tactic| walk_at "mine pad") => `(tactic| fail)
local macro_rules | `(tactic| walk_at "mine pad") => `(tactic| fail)
local macro_rules | `(tactic| walk_at "mine pad") => `(tactic| fail)
def restM : List Stmt := by
  refine litOf (x := (bodyOf lawS).drop 1) ?b ?h
  case h => (conv => rhs; whnf)
theorem range_k {M : Nat} (h : M ≤ 8) : Builtin.Range.small 0 ((M : Int) - 1) 2 = true ∧ Builtin.Range.rangeSize 0 ((M : Int) - 1) 2 = ((M / 2 : Nat) : Int) := by
  have key : ∀ M : Fin 9, Builtin.Range.small 0 (((M.val : Nat) : Int) - 1) 2 = true ∧ Builtin.Range.rangeSize 0 (((M.val : Nat) : Int) - 1) 2 = ((M.val / 2 : Nat) : Int) := by decide +kernel
  exact key ⟨M, by omega⟩
local macro_rules | `(tactic| k_all) => `(tactic| first | assumption | exact ne_of_allLt (by assumption) (by omega))
local macro_rules | `(tactic| k_mem) => `(tactic| assumption)
local macro_rules | `(tactic| walk_at "eval Name") => `(tactic| (k_here; k_dflt (refine' nameX_L ?F ?v ?_ ?a ?b; (case a => rfl); (case b => rfl); (case F => k_asm); (case v => first | exact rfl | assumption); k_whole)))
local macro_rules | `(tactic| walk_at "exec For Name Call") => `(tactic| (k_here; (with_reducible show wpAny _ _ (exec (Stmt.For _ _ _ _ _) _) _ _ _); refine Stop.out ?_))
local macro_rules | `(tactic| walk_at "pyIter ref") => `(tactic| ((with_reducible show wpAny _ _ (pyIter (Value.ref _)) (fun it s₂ => LoopAtV _ _ _ _ _ _ _ _ _ it s₂) _ _); refine Stop.out ?_))
theorem lawM (w : World) {p : Program} {loose : List Str} {mean : ExcName → Option Value} {mg mb : Str → Option Value} {dp un : Nat} {gd : Option (List Code)} {L fa : Addr} {cdv : Value} {cO : Addr} {outer : List Env} {A₀ : Around} {base h₀ : Heap}
    {m₁ : Str → Option Value} {s : Shared} {Q : Flow → Shared → Prop} {E : Value → Shared → Prop} {sl row : Addr} {svs rvs : List Value} {sns : List Int} {rc : Nat} {oO : Obj} {v : Option Value} {p1 p2 : Array Value} {ex : List (Addr × Obj)}
    (B : Below A₀ base outer h₀) (F : Fr h₀ L s.heap m₁) (X : (hd.heap_39 w.params).In h₀) (N : News h₀ L s.heap ((cO, oO) :: (row, W.listOf rvs.toArray rc) :: (37, tabObj p1) :: (30, tabObj p2) :: ex)) (T : Top p loose mean mg mb h₀) (C1 : CodeHd base 41 37) (C2 : CodeHd base 34 30)
    (hE : PassesOwn (LM w) (lawTop dp un gd L fa cdv cO outer) (lawEnv L fa cdv cO) E) (hd : dp + 200 < recursionLimit) (hu : un + 2000 < cLine) (hsl : h₀.IsList sl svs.toArray) (hsi : IntsAre svs sns) (hsn : sns.length ≤ 63) (hri : IntsAre rvs (fbs 59))
    (hmr : m₁ "row" = some (.ref row)) (hms : m₁ "script" = some (.ref sl)) (d9 : oO.data = .cell v) (htb1 : Tab1 p2 ex) (htb2 : Tab2 p1 ex) (hex : ∀ p ∈ ex, p.1 ≠ cO ∧ p.1 ≠ row ∧ p.1 ≠ 37 ∧ p.1 ≠ 30)
    (hoff : @LT.lt Nat _ cO row ∧ @LT.lt Nat _ 37 cO ∧ @LT.lt Nat _ 30 cO)
    (hret : ∀ m' news' h tk q1 q2, (37, tabObj q1) ∈ news' → (30, tabObj q2) ∈ news' → Fr h₀ L h m' → News h₀ L h news' → Q (.ret (.bool true)) { s with heap := h, toks := tk }) :
    wpAny (LM w) (lawTop dp un gd L fa cdv cO outer) (execs restM (lawEnv L fa cdv cO)) Q E s := by
  obtain ⟨hf1, hf2, hf3⟩ := hoff
  unfold lawTop lawEnv LM restM scopeL litOf
  unfold lawTop lawEnv LM scopeL litOf at hE
  revert X; k_fill; intro X
  k_steps
  unfold Stop
  rename IsRange _ _ _ _ _ _ _ _ => hrng
  rename Fr _ _ _ _ => F9
  rename News _ _ _ _ => N9
  obtain ⟨M, hM, hM8, hMl⟩ : ∃ M : Nat, (if (sns.length : Int) < 8 then (sns.length : Int) else 8) = (M : Int) ∧ M ≤ 8 ∧ M ≤ sns.length := by
    by_cases h : (sns.length : Int) < 8
    · exact ⟨sns.length, if_pos h, by omega, Nat.le_refl _⟩
    · exact ⟨8, if_neg h, Nat.le_refl _, by omega⟩
  rw [hM] at hrng
  refine' rangeLoop (J := fun _ I _ m₁ n₁ => JK sl cO row I rvs rc m₁ n₁ ∧ @LT.lt Nat _ row I) (n := M / 2) rfl hrng (range_k hM8).1 (range_k hM8).2 F9 N9 ?h0 ?turn ?done
  case h0 =>
    intro I hI
    refine ⟨⟨oO, v, p1, p2, ex, rfl, d9, htb1, htb2, fun p hp => ?_, hms, hmr⟩, hI _ (.tail _ (.head _))⟩
    obtain ⟨g1, g2, g3, g4⟩ := hex p hp
    exact ⟨g1, g2, g3, g4, Nat.ne_of_lt (hI p (.tail _ (.tail _ (.tail _ (.tail _ hp)))))⟩
  case turn =>
    rintro I i t m₂ n₂ it h tk hI hi ⟨hj, hrI⟩ hno F2 N2
    exact wpAny_mono (turnK (k := 0 + (i : Int) * 2) w B F2 X N2 T C1 C2 hE hd hu hsl hsi hsn hri hno (by omega) (by omega) hj ⟨hf1, hrI, hf2, hf3⟩) (fun f s₂ hp => unrPost_mono hp fun m' n' hj' => ⟨hj', hrI⟩) fun _ _ e => e
  case done =>
    rintro I m₂ n₂ h tk ⟨⟨o9, v9, q1, q2, ex9, rfl, hd9, ht1, ht2, hfar, hms9, hmr9⟩, hrI⟩ F2 N2
    exact lawP w B F2 X N2 T C1 C2 hE hd hu hsl hsi hsn hri hmr9 hms9 hd9 ht1 ht2 (fun p hp => ⟨(hfar p hp).1, (hfar p hp).2.1, (hfar p hp).2.2.1, (hfar p hp).2.2.2.1⟩) ⟨hf1, hf2, hf3⟩ fun m' n' h' tk' r1 r2 a1 a2 F' N' => hret m' n' h' tk' r1 r2 a1 a2 F' N'
end Mine
/-! part M16 -/
namespace Mine
local macro_rules | `(tactic| walk_at "mine pad") => `(tactic| fail)
local macro_rules | `(tactic| walk_at "mine pad") => `(tactic| fail)
local macro_rules | `(tactic| walk_at "mine pad") => `(tactic| fail)
local macro_rules | `(tactic| walk_at "mine pad") => `(tactic| fail)
local macro_rules | `(tactic| walk_at "mine pad") => `(tactic| fail)
local macro_rules | `(tactic| walk_at "mine pad") => `(tactic| fail)
local macro_rules | `(tactic| walk_at "mine pad") => `(tactic| fail)
local macro_rules | `(tactic| walk_at "mine pad") => `(tactic| fail)
local macro_rules | `(tactic| walk_at "mine pad") => `(tactic| fail)
local macro_rules | `(tactic| walk_at "mine pad") => `(tactic| fail)
local macro_rules | `(tactic| walk_at "mine pad") => `(tactic| fail)
local macro_rules | `(tactic| walk_at "mine pad") => `(tactic| fail)
local macro_rules | `(tactic| walk_at "mine pad") => `(tactic| fail)
local macro_rules | `(tactic| walk_at "mine pad") => `(tactic| fail)
local macro_rules | `(tactic| walk_at "mine pad") => `(tactic| fail)
local macro_rules | `(tactic| walk_at "mine pad") => `(tactic| fail)
local macro_rules | `(tactic| walk_at "mine pad") => `(tactic| fail)
local macro_rules | `(tactic| walk_at "mine pad") => `(tactic| fail)
local macro_rules | `(tactic| walk_at "mine pad") => `(tactic| fail)
local macro_rules | `(tactic| walk_at "mine pad") => `(tactic| fail)
local macro_rules | `(tactic| walk_at "mine pad") => `(tactic| fail)
local macro_rules | `(tactic| walk_at "mine pad") => `(tactic| fail)
local macro_rules | `(tactic| walk_at "mine pad") => `(tactic| fail)
theorem swap2 {a b : Addr × Obj} {l : List (Addr × Obj)} : ∀ p ∈ b :: a :: l, p ∈ a :: b :: l := fun p hp => by
  simp only [List.mem_cons] at hp ⊢
  rcases hp with hp | hp | hp <;> simp only [hp, true_or, or_true]
local macro_rules | `(tactic| k_all) => `(tactic| first | assumption | exact ne_of_allLt (by assumption) (by omega))
local macro_rules | `(tactic| walk_at "call ref") => `(tactic| (k_here; (with_reducible show wpAny _ _ (call (Value.ref _) _) _ _ _); refine Stop.out ?_))
local macro_rules | `(tactic| walk_at "execs cons") => `(tactic| (k_here; (with_reducible show wpAny _ _ (execs (Stmt.For _ _ _ _ _ :: _) _) _ _ _); refine Stop.out ?_))
set_option maxHeartbeats 8000000 in
theorem fin : PySem.Challenge.rw_zw0002_01.Holds := hd (by
  k_go0
  all_goals try k_fold
  k_steps
  unfold Stop
  rename World => w9
  rename News _ _ _ _ => N9
  refine' spec_use (c_row w9 _ _) ?k1x1 ?k2x1 ?k3x1 ?k4x1 ?k5x1 ?k6x1 ?k7x1 ?k8x1 ?kdx1 ?kux1 ?kretx1
  (case k4x1 => exact N9)
  (case k1x1 => k_asm); (case k2x1 => k_asm); (case k3x1 => k_asm); (case k5x1 => k_asm); (case k6x1 => assumption); (case k7x1 => assumption); (case k8x1 => first | exact rfl | assumption); (case kdx1 => ktr_room); (case kux1 => ktr_units)
  intro v9 news9 h' tk' hp9 F' N'
  obtain ⟨lf, fvs, fc, e1, e2, hfi, hlf⟩ := hp9
  subst e1 e2
  k_steps
  unfold Stop
  rename Fr _ _ _ _ => F8
  rename News _ _ _ _ => N8
  rename Heap.IsList _ _ _ => L8
  rename Obj.data _ = Data.cell _ => d8
  rename _ < _ ∧ _ < _ => l8
  refine' lawM w9 ?B ?F ?X ?N ?T ?C1 ?C2 ?E ?hd ?hu ?sl ?si ?sn hfi ?mr ?ms ?d9 ?t1 ?t2 ?ex ?off ?ret
  (case N => exact fun p hp => N8 p (swap2 p hp))
  (case F => exact F8)
  (case B => k_asm)
  (case X => assumption)
  (case T => k_asm)
  (case C1 => assumption)
  (case C2 => assumption)
  (case sl => exact L8)
  (case si => assumption)
  (case sn => omega)
  (case d9 => exact d8)
  (case mr => rfl)
  (case ms => rfl)
  (case t1 => exact .inl rfl)
  (case t2 => exact .inl rfl)
  (case ex => exact fun _ h => nomatch h)
  (case off => exact ⟨hlf _ (.head _), Nat.lt_succ_of_lt l8.1, Nat.lt_succ_of_lt l8.2⟩)
  (case hd => ktr_room)
  (case hu => ktr_units)
  (case E => passes_own)
  intro m' news' h8 tk8 q1 q2 a1 a2 F7 N7
  refine ⟨?_, GrownAt.of N7 a1, GrownAt.of N7 a2, True.intro⟩
  clear F8 N8
  dsimp only
  refine goodW_bool (by assumption) (by assumption) (raisesW_false ?_) ?_
  · wrow_none_raised
  · kc_post)
end Mine
set_option maxRecDepth 100000 in
set_option maxHeartbeats 8000000 in
theorem PySem.Challenge.cw_zw0002_01_holds : PySem.Challenge.rw_zw0002_01.Holds := by
  exact Mine.fin
