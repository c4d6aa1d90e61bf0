import PyProof.Rows.All
import Wide.All
import OpenK.AllK
import Wide.FinOn
import PySem.Challenge.RW_kg0012_01
open PySem PySem.W PyProof.Rows PySem.Calls PySem.Spec
set_option Elab.async false
set_option maxRecDepth 100000
set_option maxHeartbeats 8000000
set_option linter.unusedVariables false
namespace Mine

section
/-- the first c digits of x to the base b -/
def dgs (b : Int) : Int → Nat → List Int
  | _, 0 => []
  | x, c + 1 => x % b :: dgs b (x / b) c
/-- what the places of a row of digits make together -/
def wor (b : Int) : List Int → Int
  | [] => 0
  | d :: r => wor b r * b + d
theorem dgs_length (b : Int) : ∀ (c : Nat) (x : Int), (dgs b x c).length = c
  | 0, _ => rfl
  | c + 1, x => by rw [dgs, List.length_cons, dgs_length b c]
theorem dgs_mem {b : Int} (hb : 0 < b) : ∀ (c : Nat) (x d : Int), d ∈ dgs b x c → 0 ≤ d ∧ d < b
  | 0, _, _, h => nomatch h
  | c + 1, x, d, h => by
    rw [dgs] at h
    rcases List.mem_cons.mp h with rfl | h
    · exact ⟨Int.emod_nonneg _ (by omega), Int.emod_lt_of_pos _ hb⟩
    · exact dgs_mem hb c _ d h
theorem pow_pos' {b : Int} (hb : 0 < b) (c : Nat) : 0 < b ^ c := Int.pow_pos hb
theorem div_lt_pow {b x : Int} (hb : 0 < b) {c : Nat} (h : x < b ^ (c + 1)) : x / b < b ^ c := by
  rw [Int.pow_succ] at h
  exact Int.ediv_lt_of_lt_mul hb h
theorem wor_dgs {b : Int} (hb : 0 < b) : ∀ (c : Nat) (x : Int), 0 ≤ x → x < b ^ c → wor b (dgs b x c) = x
  | 0, x, h0, h1 => by
    rw [Int.pow_zero] at h1
    show (0 : Int) = x
    omega
  | c + 1, x, h0, h1 => by
    rw [dgs, wor, wor_dgs hb c _ (Int.ediv_nonneg h0 (Int.le_of_lt hb)) (div_lt_pow hb h1)]
    have := Int.emod_def x b
    rw [Int.mul_comm]
    omega
/-- the upper part -/
theorem dgs_split {b : Int} (hb : 0 < b) (c₂ : Nat) : ∀ (c₁ : Nat) (x : Int), dgs b x (c₁ + c₂) = dgs b (x % b ^ c₁) c₁ ++ dgs b (x / b ^ c₁) c₂
  | 0, x => by simp [dgs]
  | c₁ + 1, x => by
    rw [show c₁ + 1 + c₂ = (c₁ + c₂) + 1 by omega, dgs, dgs_split hb c₂ c₁, dgs, List.cons_append]
    have hp := pow_pos' hb c₁
    have hbn : b ≠ 0 := by omega
    have e1 : x % b ^ (c₁ + 1) % b = x % b := by
      rw [Int.pow_succ, Int.mul_comm]
      exact Int.emod_emod_of_dvd x ⟨b ^ c₁, rfl⟩
    have e2 : x / b / b ^ c₁ = x / b ^ (c₁ + 1) := by
      rw [Int.pow_succ, Int.mul_comm (b ^ c₁) b, Int.ediv_ediv_of_nonneg (Int.le_of_lt hb)]
    have e3 : x % b ^ (c₁ + 1) / b = x / b % b ^ c₁ := by
      have h1 := Int.emod_def x (b ^ (c₁ + 1))
      have h2 := Int.emod_def (x / b) (b ^ c₁)
      rw [e2] at h2
      rw [h1, h2]
      have h3 : x - b ^ (c₁ + 1) * (x / b ^ (c₁ + 1)) = x + b * (-(b ^ c₁ * (x / b ^ (c₁ + 1)))) := by
        rw [Int.pow_succ, Int.mul_neg, ← Int.mul_assoc, Int.mul_comm b (b ^ c₁)]
        omega
      rw [h3, Int.add_mul_ediv_left _ _ hbn]
      omega
    rw [e1, e2, e3]
theorem dgs_last {b : Int} (hb : 0 < b) : ∀ (c : Nat) (x : Int), (dgs b x (c + 1)).getLast? = some (x / b ^ c % b)
  | 0, x => by simp [dgs]
  | c + 1, x => by
    have h := dgs_last hb c (x / b)
    rw [dgs, List.getLast?_cons, h, Int.pow_succ, Int.mul_comm (b ^ c) b, Int.ediv_ediv_of_nonneg (Int.le_of_lt hb)]
    rfl
theorem wor_append (b : Int) : ∀ (xs ys : List Int), wor b (xs ++ ys) = wor b ys * b ^ xs.length + wor b xs
  | [], ys => by simp [wor]
  | x :: xs, ys => by
    rw [List.cons_append, wor, wor_append b xs ys, wor, List.length_cons, Int.pow_succ, Int.add_mul, Int.mul_assoc]
    omega
theorem wor_foldl (b : Int) (ds : List Int) : ds.reverse.foldl (fun m d => m * b + d) 0 = wor b ds := by
  rw [List.foldl_reverse]
  induction ds with
  | nil => rfl
  | cons d r ih => rw [List.foldr_cons, ih, wor]
theorem wor_nonneg {b : Int} (hb : 0 < b) : ∀ ds : List Int, (∀ d ∈ ds, 0 ≤ d ∧ d < b) → 0 ≤ wor b ds ∧ wor b ds < b ^ ds.length
  | [], _ => by simp [wor]
  | d :: r, h => by
    obtain ⟨h1, h2⟩ := wor_nonneg hb r fun x hx => h x (.tail _ hx)
    obtain ⟨h3, h4⟩ := h d (.head _)
    rw [wor, List.length_cons, Int.pow_succ]
    have h5 : 0 ≤ wor b r * b := Int.mul_nonneg h1 (Int.le_of_lt hb)
    have h6 : (wor b r + 1) * b ≤ b ^ r.length * b := Int.mul_le_mul_of_nonneg_right (by omega) (Int.le_of_lt hb)
    rw [Int.add_mul, Int.one_mul] at h6
    omega

/-- the row with the places from l to r filled with the digits of x -/
def fill (b x : Int) (l r : Nat) (ns : List Int) : List Int := ns.take l ++ dgs b x (r - l) ++ ns.drop r
theorem fill_length {b x : Int} {l r : Nat} {ns : List Int} (h : l ≤ r) (hr : r ≤ ns.length) : (fill b x l r ns).length = ns.length := by
  unfold fill
  rw [List.length_append, List.length_append, dgs_length, List.length_take, List.length_drop]
  omega
theorem fill_leaf {b x : Int} {l : Nat} {ns : List Int} (hx : 0 ≤ x) (hb : x < b) (h : l < ns.length) : ns.set l x = fill b x l (l + 1) ns := by
  unfold fill
  rw [show l + 1 - l = 0 + 1 by omega, dgs, dgs, Int.emod_eq_of_lt hx hb, List.set_eq_take_append_cons_drop, if_pos h, List.append_assoc]
  rfl
theorem fill_fill {b x : Int} (hb : 0 < b) {l m r : Nat} {ns : List Int} (h1 : l ≤ m) (h2 : m ≤ r) (h3 : r ≤ ns.length) :
    fill b (x / b ^ (m - l)) m r (fill b (x % b ^ (m - l)) l m ns) = fill b x l r ns := by
  have e : r - l = (m - l) + (r - m) := by omega
  show List.take m _ ++ _ ++ List.drop r _ = _
  have l1 : (ns.take l ++ dgs b (x % b ^ (m - l)) (m - l)).length = m := by
    rw [List.length_append, dgs_length, List.length_take]; omega
  have e1 : List.take m (fill b (x % b ^ (m - l)) l m ns) = ns.take l ++ dgs b (x % b ^ (m - l)) (m - l) := by
    unfold fill
    exact List.take_left' l1
  have e2 : List.drop r (fill b (x % b ^ (m - l)) l m ns) = ns.drop r := by
    unfold fill
    rw [List.drop_append, l1, List.drop_eq_nil_of_le (by omega), List.nil_append, List.drop_drop]
    congr 1
    omega
  rw [e1, e2]
  unfold fill
  rw [e, dgs_split hb]
  simp only [List.append_assoc]

theorem pow_shift {n d : Int} (hn : 0 ≤ n) (hd : 0 ≤ d) : (2 : Int) ^ (d * n).toNat = (2 ^ n.toNat) ^ d.toNat := by
  rw [← Int.pow_mul]
  congr 1
  obtain ⟨a, rfl⟩ := Int.eq_ofNat_of_zero_le hn
  obtain ⟨c, rfl⟩ := Int.eq_ofNat_of_zero_le hd
  show ((c : Int) * (a : Int)).toNat = a * c
  rw [← Int.natCast_mul, Nat.mul_comm]
  rfl

/-- x ^ (x >> s << s) is what lies below the place s -/
theorem and_high (x : Nat) (s : Nat) : x &&& (x / 2 ^ s * 2 ^ s) = x / 2 ^ s * 2 ^ s := by
  apply Nat.eq_of_testBit_eq
  intro i
  rw [Nat.testBit_and, ← Nat.shiftRight_eq_div_pow, ← Nat.shiftLeft_eq, Nat.testBit_shiftLeft, Nat.testBit_shiftRight]
  by_cases h : s ≤ i
  · simp [h, Nat.add_sub_cancel' h]
  · simp [h]
theorem xor_low {x : Int} (hx : 0 ≤ x) (s : Nat) : Builtin.bitXor x (x.fdiv (2 ^ s) * 2 ^ s) = x % 2 ^ s := by
  have hp := kbt_pos s
  rw [Int.fdiv_eq_ediv_of_nonneg _ (Int.le_of_lt hp), bitXor_and]
  have h0 : 0 ≤ x / 2 ^ s * 2 ^ s := Int.mul_nonneg (Int.ediv_nonneg hx (Int.le_of_lt hp)) (Int.le_of_lt hp)
  obtain ⟨y, rfl⟩ := Int.eq_ofNat_of_zero_le hx
  have e : ((y : Int) / 2 ^ s * 2 ^ s) = ((y / 2 ^ s * 2 ^ s : Nat) : Int) := by
    rw [Int.natCast_mul, Int.natCast_ediv, kbt_cast]
  rw [bitAnd_pp hx h0, e]
  show (y : Int) + ((y / 2 ^ s * 2 ^ s : Nat) : Int) - 2 * (((y &&& (y / 2 ^ s * 2 ^ s) : Nat)) : Int) = _
  rw [and_high, ← e]
  have := Int.emod_def (y : Int) (2 ^ s)
  rw [this, Int.mul_comm (2 ^ s)]
  omega
end

section
/-- a def within a def of the text: its parameters, its body, its scope -/
def nestedDef (i j : Nat) : Option (Arguments × List Stmt × Scope) :=
  match (PySem.Challenge.pw_kg0012_01.main.body[i]? : Option Stmt) with
  | some (.FunctionDef _ _ b _ _ _ _ _ _ _) => (match (b[j]? : Option Stmt) with
    | some (.FunctionDef _ a b' _ _ _ sc _ _ _) => some (a, b', sc)
    | _ => none)
  | _ => none

theorem updF_mem {d : Addr} {o o' : Obj} {l : List (Addr × Obj)} {g : Obj → List (Addr × Obj)} (U : UpdF d o l g) {a : Addr} {q : Obj} (h : (a, q) ∈ l) (hn : q ≠ o) : (a, q) ∈ g o' := by
  obtain ⟨pre, post, rfl, hg, _, _⟩ := U.split
  rw [hg]
  rcases List.mem_append.mp h with h | h
  · exact List.mem_append_left _ h
  · rcases List.mem_cons.mp h with h | h
    · exact absurd (Prod.mk.inj h).2 hn
    · exact List.mem_append_right _ (.tail _ h)
theorem updF_upd {d : Addr} {o o' : Obj} {l : List (Addr × Obj)} {g : Obj → List (Addr × Obj)} (U : UpdF d o l g) : UpdF d o' (g o') g := by
  induction U with
  | head h => exact .head h
  | tail h _ ih => exact .tail h ih
theorem upd_of {d : Addr} {o o' : Obj} {l : List (Addr × Obj)} {g : Obj → List (Addr × Obj)} (U : UpdF d o l g) : Upd d o o' l (g o') := by
  induction U with
  | head h => exact .head h
  | tail h _ ih => exact .tail h ih
theorem updF_in {d : Addr} {o : Obj} {l : List (Addr × Obj)} {g : Obj → List (Addr × Obj)} (U : UpdF d o l g) : (d, o) ∈ l := by
  induction U with
  | head h => exact .head _
  | tail h _ ih => exact .tail _ ih

section
variable {prog : Program} {w : World} {A : Around} {E : Value → Shared → Prop} {s : Shared} {a b n x : Int} {t u : Tok} {Q : Value → Shared → Prop}
theorem half_int (h : ∀ m : Int, 2 * m ≤ a → a < 2 * m + 2 → Q (.int m s.toks) { s with toks := s.toks + 1 }) : wpAny (model prog w) A (binaryOp .RShift (.int a t) (.int 1 u)) Q E s := by
  refine rshift_int (by decide) (h _ ?_ ?_)
  · rw [show (2 : Int) ^ Int.toNat 1 = 2 from rfl, Int.fdiv_eq_ediv_of_nonneg _ (by decide)]; omega
  · rw [show (2 : Int) ^ Int.toNat 1 = 2 from rfl, Int.fdiv_eq_ediv_of_nonneg _ (by decide)]; omega
theorem xor_low_int (hx : 0 ≤ x) {k : Nat} (h : Q (.int (x % 2 ^ k) s.toks) { s with toks := s.toks + 1 }) : wpAny (model prog w) A (binaryOp .BitXor (.int x t) (.int (x.fdiv (2 ^ k) * 2 ^ k) u)) Q E s :=
  xor_int (by rw [xor_low hx]; exact h)
theorem mul_small (hb : b.natAbs < 2 ^ 64) (h : Q (.int (a * b) s.toks) { s with toks := s.toks + 1 }) : wpAny (model prog w) A (binaryOp .Mult (.int a t) (.int b u)) Q E s :=
  P.mul_int h (IntMulOk.of_right (intBits_le_iff.mpr hb))
end

section
variable {prog : Program} {w : World} {A : Around} {E : Value → Shared → Prop} {s : Shared} {h₀ : Heap} {L D : Addr} {m : Str → Option Value} {news : List (Addr × Obj)} {g : Obj → List (Addr × Obj)} {vs : List Value} {ns : List Int} {n : Nat} {k x : Int} {t u : Tok}
theorem set_F {Q : Unit → Shared → Prop} (F : Fr h₀ L s.heap m) (N : News h₀ L s.heap news) (U : UpdF D (listOf vs.toArray n) news g) (hi : IntsAre vs ns) (h0 : 0 ≤ k) (h1 : k < ns.length) (hfit : k < 2 ^ 63)
    (h : ∀ h' vs', Fr h₀ L h' m → News h₀ L h' (g (listOf vs'.toArray n)) → IntsAre vs' (ns.set k.toNat x) → Q () { s with heap := h' }) :
    wpAny (model prog w) A (setItem (.ref D) (.int k t) (.int x u)) Q E s :=
  ksa_set F N (upd_of U) hi h0 h1 hfit fun h' F' N' hi' _ _ => h h' _ F' N' hi'
end


theorem shl_ok {x y d n : Int} (hx : Builtin.Int.intBits x ≤ 4000) (h0 : 0 ≤ d) (h1 : d ≤ 4000) (hn : 0 ≤ n) (hn2 : n ≤ 64) : (Builtin.Int.intBits (x.fdiv y) : Int) + d * n ≤ 2 ^ 27 := by
  have h2 := intBits_fdiv_le (y := y) hx
  have h3 : d * n ≤ 4000 * 64 := Int.mul_le_mul h1 hn2 hn (by decide)
  have e : (2 : Int) ^ 27 = 134217728 := by decide
  rw [e]
  omega
theorem bits_low {x y : Int} {k : Nat} (h0 : 0 ≤ x) (hy : 0 < y) (hx : Builtin.Int.intBits x ≤ k) : Builtin.Int.intBits (x % y) ≤ k := by
  refine intBits_le_of_natAbs (y := x) ?_ hx
  have h1 := Int.emod_nonneg x (show y ≠ 0 by omega)
  have h3 := Int.emod_def x y
  have h4 := Int.mul_nonneg (Int.le_of_lt hy) (Int.ediv_nonneg h0 (Int.le_of_lt hy))
  omega

local macro_rules | `(tactic| walk_at "binaryOp RShift int int") => `(tactic| (refine rshift_int (Int.mul_nonneg (by omega) (by omega)) ?_))
local macro_rules | `(tactic| walk_at "binaryOp RShift int int") => `(tactic| ((with_reducible show wpAny _ _ (binaryOp _ _ (Value.int 1 _)) _ _ _); refine half_int ?_; intro mid' hm1' hm2'))
local macro_rules | `(tactic| walk_at "binaryOp Mult int int") => `(tactic| (refine mul_small (by omega) ?_))
local macro_rules | `(tactic| walk_at "binaryOp LShift int int") => `(tactic| (refine lshift_int (Int.mul_nonneg (by omega) (by omega)) (shl_ok (by assumption) (by omega) (by omega) (by omega) (by omega)) ?_))
local macro_rules | `(tactic| walk_at "binaryOp BitXor int int") => `(tactic| (refine xor_low_int (by assumption) ?_))
local macro_rules | `(tactic| walk_at "setItem ref int") => `(tactic| (refine set_F (by k_asm) (by k_asm) (by assumption) (by assumption) (by assumption) (by omega) (by omega) ?_; intro h' vs' F' N' hI'))

/-- the call of inner (of _int2digits) over places that are at most 2 ^ k: the places from l to r of the captured list are filled -/
def InnerOk (prog : Program) (w : World) (K : Frag) (p : Program) (loose : List Str) (mean : ExcName → Option Value) (mg mb : Str → Option Value) (params : Arguments) (body : List Stmt) (scope : Scope)
    (f c' cN cD cI D : Addr) (oc oN oD oI : Obj) (qual : Str) (doc pm ctv : Value) (n : Int) (cap : Nat) (k : Nat) : Prop :=
    ∀ (A A₀ : Around) (env : Env) (outer : List Env) (base h₀ : Heap) (L : Addr) (m : Str → Option Value) (news : List (Addr × Obj)) (g : Obj → List (Addr × Obj)) (s : Shared) (vs : List Value) (ns : List Int) (x l r : Int) (tx tl tr : Tok) (Q E : Value → Shared → Prop),
    Below A₀ base outer h₀ → Fr h₀ L s.heap m → K.In h₀ → News h₀ L s.heap news → Top p loose mean mg mb h₀ → A.frames = some (env :: outer) → env.frame = some L → env.scope.kind = .function →
    (f, fnMade (Str.ofString "inner") qual params body scope [(Str.ofString "n", cN), (Str.ofString "inner", cI), (Str.ofString "a_digits", cD)] doc pm c' ctv) ∈ news →
    (c', oc) ∈ news → (cN, oN) ∈ news → (cD, oD) ∈ news → (cI, oI) ∈ news →
    UpdF D (listOf vs.toArray cap) news g → IntsAre vs ns → ns.length ≤ 4000 → 0 ≤ l → l < r → r ≤ ns.length → r - l ≤ 2 ^ k → 0 ≤ x → Builtin.Int.intBits x ≤ 4000 → x < (2 ^ n.toNat) ^ (r - l).toNat →
    A.depth + k + 1 < recursionLimit →
    (∀ h' tk' vs', Fr h₀ L h' m → News h₀ L h' (g (listOf vs'.toArray cap)) → IntsAre vs' (fill (2 ^ n.toNat) x l.toNat r.toNat ns) → Q .none { s with heap := h', toks := tk' }) →
    wpAny (model prog w) A (call (.ref f) [.int x tx, .int l tl, .int r tr]) Q E s

theorem inner1_step {prog : Program} {w : World} {K : Frag} {p : Program} {loose : List Str} {mean : ExcName → Option Value} {mg mb : Str → Option Value} {params : Arguments} {body : List Stmt} {scope : Scope}
    (hdef : nestedDef 1 1 = some (params, body, scope)) {hC : Heap} {cC PC : Addr} (hcode : CodeHd hC cC PC)
    {f c' cN cD cI D : Addr} {oc oN oD oI : Obj} {vsC : Array Value} {qual : Str} {tq tn : Tok} {doc pm ctv : Value} {n : Int} {cap : Nat} (hn1 : 1 ≤ n) (hn2 : n ≤ 64)
    (hoc : oc.data = .fields vsC) (hvq : vsC[1]? = some (.str qual tq)) (hoN : oN.data = .cell (some (.int n tn))) (hoD : oD.data = .cell (some (.ref D))) (hoI : oI.data = .cell (some (.ref f)))
    (k : Nat) (ih : ∀ k', k = k' + 1 → InnerOk prog w K p loose mean mg mb params body scope f c' cN cD cI D oc oN oD oI qual doc pm ctv n cap k') :
    InnerOk prog w K p loose mean mg mb params body scope f c' cN cD cI D oc oN oD oI qual doc pm ctv n cap k := by
  injection hdef with hdef
  cases hdef
  intro A A₀ env outer base h₀ L m news g s vs ns x l r tx tl tr Q E B F X N T hA hf hke hof hoc' hcN hcD hcI U hI hlen h0l hlr hrn hk hx hxb hxp hdep hret
  refine wpAny_call ?_
  refine code_nest B F X N T hA hf hke hof (codeRec_news N hoc' hoc hvq) (by omega) (BindsTo.of_eq rfl) (locs rfl) ?_ rfl rfl rfl (by decide)
  intro g' L' h' FG' F' N' B' X' T'
  (try dsimp only); (try k_fold)
  k_steps
  · refine hret _ _ _ (by assumption) (by assumption) ?_
    have e : r.toNat = l.toNat + 1 := by omega
    have e2 : (r - l).toNat = 1 := by omega
    rw [e2, Int.pow_succ, Int.pow_zero, Int.one_mul] at hxp
    rw [e, ← fill_leaf hx hxp (by omega)]
    assumption
  · rename_i hne _ mid hm1 hm2 h1 h2 h3 h4 F4 N4
    have hb : (0 : Int) < 2 ^ n.toNat := kbt_pos _
    obtain ⟨k', rfl⟩ : ∃ k', k = k' + 1 := by
      cases k with
      | zero => rw [Int.pow_zero] at hk; omega
      | succ k' => exact ⟨k', rfl⟩
    have ih' := ih k' rfl
    rw [Int.pow_succ] at hk
    have hs : (2 : Int) ^ ((mid - l) * n).toNat = (2 ^ n.toNat) ^ (mid - l).toNat := pow_shift (by omega) (by omega)
    have hp := pow_pos' hb (mid - l).toNat
    have hsp := kbt_pos ((mid - l) * n).toNat
    have ed : (r - l).toNat = (mid - l).toNat + (r - mid).toNat := by omega
    refine ih' _ _ _ _ _ _ _ _ _ g _ vs ns _ l mid _ _ _ _ _ B' F4 X' N4 T' (Around.frames_deeper hA) rfl rfl hof hoc' hcN hcD hcI U hI hlen h0l (by omega) (by omega) (by omega) (Int.emod_nonneg _ (by omega))
      (bits_low hx hsp hxb) (by rw [hs]; exact Int.emod_lt_of_pos _ hp) (by rw [depth_deeper]; omega) ?_
    intro h5 tk5 vs5 F5 N5 hI5
    have hof5 := updF_mem (o' := listOf vs5.toArray cap) U hof (fun e => by have e2 := congrArg Obj.data e; cases e2)
    have hoc5 := updF_mem (o' := listOf vs5.toArray cap) U hoc' (fun e => by rw [e] at hoc; cases hoc)
    have hcN5 := updF_mem (o' := listOf vs5.toArray cap) U hcN (fun e => by rw [e] at hoN; cases hoN)
    have hcD5 := updF_mem (o' := listOf vs5.toArray cap) U hcD (fun e => by rw [e] at hoD; cases hoD)
    have hcI5 := updF_mem (o' := listOf vs5.toArray cap) U hcI (fun e => by rw [e] at hoI; cases hoI)
    have hlen5 : (fill (2 ^ n.toNat) (x % 2 ^ ((mid - l) * n).toNat) l.toNat mid.toNat ns).length = ns.length := fill_length (by omega) (by omega)
    clear F4 N4
    (try dsimp only)
    k_steps
    refine ih' _ _ _ _ _ _ _ _ _ g _ vs5 _ _ mid r _ _ _ _ _ B' F5 X' N5 T' (Around.frames_deeper hA) rfl rfl hof5 hoc5 hcN5 hcD5 hcI5 (updF_upd U) hI5 (by omega) (by omega) (by omega) (by omega) (by omega) ?_ ?_ ?_ (by rw [depth_deeper]; omega) ?_
    · rw [Int.fdiv_eq_ediv_of_nonneg _ (Int.le_of_lt hsp)]
      exact Int.ediv_nonneg hx (Int.le_of_lt hsp)
    · exact intBits_fdiv_le hxb
    · rw [Int.fdiv_eq_ediv_of_nonneg _ (Int.le_of_lt hsp), hs]
      refine Int.ediv_lt_of_lt_mul hp ?_
      rw [← Int.pow_add, Nat.add_comm, ← ed]
      exact hxp
    intro h6 tk6 vs6 F6 N6 hI6
    clear F5 N5
    (try dsimp only)
    k_steps
    refine hret _ _ _ (by assumption) (by assumption) ?_
    rw [Int.fdiv_eq_ediv_of_nonneg _ (Int.le_of_lt hsp), hs] at hI6
    have em : (mid - l).toNat = mid.toNat - l.toNat := by omega
    rw [em, fill_fill hb (by omega) (by omega) (by omega)] at hI6
    exact hI6

theorem inner1_all {prog : Program} {w : World} {K : Frag} {p : Program} {loose : List Str} {mean : ExcName → Option Value} {mg mb : Str → Option Value} {params : Arguments} {body : List Stmt} {scope : Scope}
    (hdef : nestedDef 1 1 = some (params, body, scope)) {hC : Heap} {cC PC : Addr} (hcode : CodeHd hC cC PC)
    {f c' cN cD cI D : Addr} {oc oN oD oI : Obj} {vsC : Array Value} {qual : Str} {tq tn : Tok} {doc pm ctv : Value} {n : Int} {cap : Nat} (hn1 : 1 ≤ n) (hn2 : n ≤ 64)
    (hoc : oc.data = .fields vsC) (hvq : vsC[1]? = some (.str qual tq)) (hoN : oN.data = .cell (some (.int n tn))) (hoD : oD.data = .cell (some (.ref D))) (hoI : oI.data = .cell (some (.ref f))) :
    ∀ k, InnerOk prog w K p loose mean mg mb params body scope f c' cN cD cI D oc oN oD oI qual doc pm ctv n cap k
  | 0 => inner1_step hdef hcode hn1 hn2 hoc hvq hoN hoD hoI 0 fun _ e => absurd e (by omega)
  | k + 1 => inner1_step hdef hcode hn1 hn2 hoc hvq hoN hoD hoI (k + 1) fun k' e => by
    cases e
    exact inner1_all hdef hcode hn1 hn2 hoc hvq hoN hoD hoI k
end

section
theorem bits_wor {n : Int} {v : Int} {c : Nat} (h0 : 0 ≤ v) (h : v < (2 ^ n.toNat) ^ c) : Builtin.Int.intBits v ≤ n.toNat * c := by
  rw [intBits_le_iff]
  rw [← Int.pow_mul, ← kbt_cast] at h
  omega
theorem shl_ok2 {v d n : Int} {c : Nat} (h0 : 0 ≤ v) (h : v < (2 ^ n.toNat) ^ c) (hc : c ≤ 4000) (h1 : d ≤ 4000) (hn : 0 ≤ n) (hn2 : n ≤ 64) : (Builtin.Int.intBits v : Int) + d * n ≤ 2 ^ 27 := by
  have h2 := bits_wor h0 h
  have h3 : d * n ≤ 4000 * 64 := Int.mul_le_mul h1 hn2 hn (by decide)
  have h4 : n.toNat * c ≤ 64 * 4000 := Nat.mul_le_mul (by omega) hc
  have e : (2 : Int) ^ 27 = 134217728 := by decide
  rw [e]
  omega
/-- the places from l to r -/
def part (l r : Nat) (ns : List Int) : List Int := (ns.drop l).take (r - l)
theorem part_length {l r : Nat} {ns : List Int} (h : r ≤ ns.length) : (part l r ns).length = r - l := by
  unfold part
  rw [List.length_take, List.length_drop]
  omega
theorem part_leaf {l : Nat} {ns : List Int} (h : l < ns.length) : part l (l + 1) ns = [ns.getD l 0] := by
  unfold part
  rw [show l + 1 - l = 0 + 1 by omega, List.drop_eq_getElem_cons h, List.take_succ_cons, List.take_zero]
  simp [List.getD, h]
theorem part_split {l m r : Nat} {ns : List Int} (h1 : l ≤ m) (h2 : m ≤ r) : part l r ns = part l m ns ++ part m r ns := by
  unfold part
  rw [show r - l = (m - l) + (r - m) by omega, List.take_add, List.drop_drop, show l + (m - l) = m by omega]
theorem part_mem {l r : Nat} {ns : List Int} {d : Int} (h : d ∈ part l r ns) : d ∈ ns := List.mem_of_mem_drop (List.mem_of_mem_take h)
theorem part_all (ns : List Int) : part 0 ns.length ns = ns := by
  unfold part
  simp
theorem wor_leaf (b d : Int) : wor b [d] = d := by simp [wor]
theorem wor_part {b : Int} {l m r : Nat} {ns : List Int} (h1 : l ≤ m) (h2 : m ≤ r) (h3 : r ≤ ns.length) : wor b (part m r ns) * b ^ (m - l) + wor b (part l m ns) = wor b (part l r ns) := by
  rw [part_split h1 h2, wor_append, part_length (by omega)]

local macro_rules | `(tactic| walk_at "binaryOp RShift int int") => `(tactic| ((with_reducible show wpAny _ _ (binaryOp _ _ (Value.int 1 _)) _ _ _); refine half_int ?_; intro mid' hm1' hm2'))
local macro_rules | `(tactic| walk_at "binaryOp Mult int int") => `(tactic| (refine mul_small (by omega) ?_))

local macro_rules | `(tactic| walk_at "binaryOp LShift int int") => `(tactic| (refine lshift_int (Int.mul_nonneg (by omega) (by omega)) (shl_ok2 (by assumption) (by assumption) (by omega) (by omega) (by omega) (by omega)) ?_))

/-- the call of inner (of _digits2int) over places that are at most 2 ^ k: what the places from l to r of the captured list make -/
def InnerOk2 (prog : Program) (w : World) (K : Frag) (p : Program) (loose : List Str) (mean : ExcName → Option Value) (mg mb : Str → Option Value) (params : Arguments) (body : List Stmt) (scope : Scope)
    (f c' cN cD cI D : Addr) (oc oN oD oI : Obj) (qual : Str) (doc pm ctv : Value) (n : Int) (cap : Nat) (vs : List Value) (ns : List Int) (k : Nat) : Prop :=
    ∀ (A A₀ : Around) (env : Env) (outer : List Env) (base h₀ : Heap) (L : Addr) (m : Str → Option Value) (news : List (Addr × Obj)) (s : Shared) (l r : Int) (tl tr : Tok) (Q E : Value → Shared → Prop),
    Below A₀ base outer h₀ → Fr h₀ L s.heap m → K.In h₀ → News h₀ L s.heap news → Top p loose mean mg mb h₀ → A.frames = some (env :: outer) → env.frame = some L → env.scope.kind = .function →
    (f, fnMade (Str.ofString "inner") qual params body scope [(Str.ofString "n", cN), (Str.ofString "inner", cI), (Str.ofString "digits", cD)] doc pm c' ctv) ∈ news →
    (c', oc) ∈ news → (cN, oN) ∈ news → (cD, oD) ∈ news → (cI, oI) ∈ news → (D, listOf vs.toArray cap) ∈ news → 
    0 ≤ l → l < r → r ≤ ns.length → r - l ≤ 2 ^ k →
    A.depth + k + 1 < recursionLimit →
    (∀ h' tk' t, Fr h₀ L h' m → News h₀ L h' news → Q (.int (wor (2 ^ n.toNat) (part l.toNat r.toNat ns)) t) { s with heap := h', toks := tk' }) →
    wpAny (model prog w) A (call (.ref f) [.int l tl, .int r tr]) Q E s

theorem inner2_step {prog : Program} {w : World} {K : Frag} {p : Program} {loose : List Str} {mean : ExcName → Option Value} {mg mb : Str → Option Value} {params : Arguments} {body : List Stmt} {scope : Scope}
    (hdef : nestedDef 2 0 = some (params, body, scope)) {hC : Heap} {cC PC : Addr} (hcode : CodeHd hC cC PC)
    {f c' cN cD cI D : Addr} {oc oN oD oI : Obj} {vsC : Array Value} {qual : Str} {tq tn : Tok} {doc pm ctv : Value} {n : Int} {cap : Nat} {vs : List Value} {ns : List Int} (hn1 : 1 ≤ n) (hn2 : n ≤ 64)
    (hoc : oc.data = .fields vsC) (hvq : vsC[1]? = some (.str qual tq)) (hoN : oN.data = .cell (some (.int n tn))) (hoD : oD.data = .cell (some (.ref D))) (hoI : oI.data = .cell (some (.ref f)))
    (hI : IntsAre vs ns) (hlen : ns.length ≤ 4000) (hds : ∀ d ∈ ns, 0 ≤ d ∧ d < 2 ^ n.toNat)
    (k : Nat) (ih : ∀ k', k = k' + 1 → InnerOk2 prog w K p loose mean mg mb params body scope f c' cN cD cI D oc oN oD oI qual doc pm ctv n cap vs ns k') :
    InnerOk2 prog w K p loose mean mg mb params body scope f c' cN cD cI D oc oN oD oI qual doc pm ctv n cap vs ns k := by
  injection hdef with hdef
  cases hdef
  intro A A₀ env outer base h₀ L m news s l r tl tr Q E B F X N T hA hf hke hof hoc' hcN hcD hcI hD h0l hlr hrn hk hdep hret
  refine wpAny_call ?_
  refine code_nest B F X N T hA hf hke hof (codeRec_news N hoc' hoc hvq) (by omega) (BindsTo.of_eq rfl) (locs rfl) ?_ rfl rfl rfl (by decide)
  intro g' L' h' FG' F' N' B' X' T'
  (try dsimp only); (try k_fold)
  k_steps
  · have e : r.toNat = l.toNat + 1 := by omega
    rw [e, part_leaf (by omega), wor_leaf] at hret
    exact hret _ _ _ (by assumption) (by assumption)
  · rename_i hne _ mid hm1 hm2 h1 h2 F4 N4
    have hb : (0 : Int) < 2 ^ n.toNat := kbt_pos _
    obtain ⟨k', rfl⟩ : ∃ k', k = k' + 1 := by
      cases k with
      | zero => rw [Int.pow_zero] at hk; omega
      | succ k' => exact ⟨k', rfl⟩
    have ih' := ih k' rfl
    rw [Int.pow_succ] at hk
    have hs : (2 : Int) ^ ((mid - l) * n).toNat = (2 ^ n.toNat) ^ (mid - l).toNat := pow_shift (by omega) (by omega)
    obtain ⟨hv0, hv1⟩ := wor_nonneg hb (part mid.toNat r.toNat ns) fun d hd => hds d (part_mem hd)
    rw [part_length (by omega)] at hv1
    refine ih' _ _ _ _ _ _ _ _ _ _ mid r _ _ _ _ B' F4 X' N4 T' (Around.frames_deeper hA) rfl rfl hof hoc' hcN hcD hcI hD (by omega) (by omega) (by omega) (by omega) (by rw [depth_deeper]; omega) ?_
    intro h5 tk5 t5 F5 N5
    clear F4 N4
    (try dsimp only)
    k_steps
    refine ih' _ _ _ _ _ _ _ _ _ _ l mid _ _ _ _ B' F5 X' N5 T' (Around.frames_deeper hA) rfl rfl hof hoc' hcN hcD hcI hD (by omega) (by omega) (by omega) (by omega) (by rw [depth_deeper]; omega) ?_
    intro h6 tk6 t6 F6 N6
    clear F5 N5
    (try dsimp only)
    k_steps
    have em : (mid - l).toNat = mid.toNat - l.toNat := by omega
    rw [hs, em, wor_part (by omega) (by omega) (by omega)]
    exact hret _ _ _ (by assumption) (by assumption)

theorem inner2_all {prog : Program} {w : World} {K : Frag} {p : Program} {loose : List Str} {mean : ExcName → Option Value} {mg mb : Str → Option Value} {params : Arguments} {body : List Stmt} {scope : Scope}
    (hdef : nestedDef 2 0 = some (params, body, scope)) {hC : Heap} {cC PC : Addr} (hcode : CodeHd hC cC PC)
    {f c' cN cD cI D : Addr} {oc oN oD oI : Obj} {vsC : Array Value} {qual : Str} {tq tn : Tok} {doc pm ctv : Value} {n : Int} {cap : Nat} {vs : List Value} {ns : List Int} (hn1 : 1 ≤ n) (hn2 : n ≤ 64)
    (hoc : oc.data = .fields vsC) (hvq : vsC[1]? = some (.str qual tq)) (hoN : oN.data = .cell (some (.int n tn))) (hoD : oD.data = .cell (some (.ref D))) (hoI : oI.data = .cell (some (.ref f)))
    (hI : IntsAre vs ns) (hlen : ns.length ≤ 4000) (hds : ∀ d ∈ ns, 0 ≤ d ∧ d < 2 ^ n.toNat) :
    ∀ k, InnerOk2 prog w K p loose mean mg mb params body scope f c' cN cD cI D oc oN oD oI qual doc pm ctv n cap vs ns k
  | 0 => inner2_step hdef hcode hn1 hn2 hoc hvq hoN hoD hoI hI hlen hds 0 fun _ e => absurd e (by omega)
  | k + 1 => inner2_step hdef hcode hn1 hn2 hoc hvq hoN hoD hoI hI hlen hds (k + 1) fun k' e => by
    cases e
    exact inner2_all hdef hcode hn1 hn2 hoc hvq hoN hoD hoI hI hlen hds k
end

open_top hd for PySem.Challenge.rw_kg0012_01

section
theorem bits10 : (10 : Int) ^ 600 < 2 ^ 2000 := by decide +kernel
section
variable {prog : Program} {w : World} {A : Around} {E : Value → Shared → Prop} {s : Shared} {a b n x : Int} {t u : Tok} {Q : Value → Shared → Prop}
theorem mod_big (h : ∀ v : Int, 0 ≤ v → Builtin.Int.intBits v ≤ 2000 → Q (.int v s.toks) { s with toks := s.toks + 1 }) : wpAny (model prog w) A (binaryOp .Mod (.int a t) (.int (10 ^ Int.toNat 600) u)) Q E s := by
  have hp : (0 : Int) < 10 ^ Int.toNat 600 := Int.pow_pos (by decide)
  refine mod_int' (by omega) (h _ ?_ ?_)
  · rw [Int.fmod_eq_emod_of_nonneg _ (Int.le_of_lt hp)]
    exact Int.emod_nonneg _ (by omega)
  · rw [intBits_le_iff, Int.fmod_eq_emod_of_nonneg _ (Int.le_of_lt hp)]
    have h1 := Int.emod_nonneg a (show (10 : Int) ^ Int.toNat 600 ≠ 0 by omega)
    have h2 := Int.emod_lt_of_pos a hp
    have h3 : (10 : Int) ^ Int.toNat 600 < 2 ^ 2000 := bits10
    have h4 := kbt_cast 2000
    generalize (10 : Int) ^ Int.toNat 600 = y at *
    generalize (2 : Int) ^ 2000 = z at *
    omega
theorem mod_64 (h : ∀ v : Int, 0 ≤ v → v < 64 → Q (.int v s.toks) { s with toks := s.toks + 1 }) : wpAny (model prog w) A (binaryOp .Mod (.int a t) (.int 64 u)) Q E s := by
  refine mod_int' (by decide) (h _ ?_ ?_)
  · rw [Int.fmod_eq_emod_of_nonneg _ (by decide)]; omega
  · rw [Int.fmod_eq_emod_of_nonneg _ (by decide)]; omega
theorem add_one (h0 : 0 ≤ a) (h1 : a < 64) (h : ∀ v : Int, 1 ≤ v → v ≤ 64 → Q (.int v s.toks) { s with toks := s.toks + 1 }) : wpAny (model prog w) A (binaryOp .Add (.int 1 t) (.int a u)) Q E s :=
  P.add_int (h _ (by omega) (by omega))
theorem ceil_div {m : Nat} (hn : 1 ≤ n) (hn2 : n ≤ 64) (h : ∀ c : Nat, (m : Int) ≤ c * n → (c : Int) * n ≤ m + n - 1 → (c : Int) ≤ m + n - 1 → Q (.int c s.toks) { s with toks := s.toks + 1 }) : wpAny (model prog w) A (binaryOp .FloorDiv (.int (m + n - 1) t) (.int n u)) Q E s := by
  refine floordiv_int (by omega) ?_ (.inl (PyProof.noPylong_small (by omega)))
  rw [Int.fdiv_eq_ediv_of_nonneg _ (by omega)]
  have h1 := Int.emod_def ((m : Int) + n - 1) n
  have h2 := Int.emod_nonneg ((m : Int) + n - 1) (show n ≠ 0 by omega)
  have h3 := Int.emod_lt_of_pos ((m : Int) + n - 1) (show 0 < n by omega)
  have h4 : 0 ≤ ((m : Int) + n - 1) / n := Int.ediv_nonneg (by omega) (by omega)
  have e : ((((m : Int) + n - 1) / n).toNat : Int) = ((m : Int) + n - 1) / n := Int.toNat_of_nonneg h4
  have g := h (((m : Int) + n - 1) / n).toNat
  rw [e, Int.mul_comm] at g
  have h5 : ((m : Int) + n - 1) / n ≤ (m : Int) + n - 1 := Int.ediv_le_self _ (by omega)
  exact g (by omega) (by omega) h5
end
local macro_rules | `(tactic| walk_at "binaryOp Mod int int") => `(tactic| first
  | ((with_reducible show wpAny _ _ (binaryOp _ _ (Value.int (10 ^ Int.toNat 600) _)) _ _ _); refine mod_big ?_; intro number' hnum0' hnumB')
  | ((with_reducible show wpAny _ _ (binaryOp _ _ (Value.int 64 _)) _ _ _); refine mod_64 ?_; intro low' hlow0' hlow1'))
local macro_rules | `(tactic| walk_at "binaryOp Add int int") => `(tactic| ((with_reducible show wpAny _ _ (binaryOp _ (Value.int 1 _) _) _ _ _); refine add_one (by assumption) (by assumption) ?_; intro bits' hb1' hb2'))
local macro_rules | `(tactic| walk_at "binaryOp FloorDiv int int") => `(tactic| (refine ceil_div (by assumption) (by assumption) ?_; intro c' hc1' hc2' hc3'))

theorem all_ne {l : List (Addr × Obj)} {L d : Nat} (h : ∀ p ∈ l, p.1 < L) (hd : L ≤ d) : ∀ p ∈ l, p.1 ≠ d := fun p hp => Nat.ne_of_lt (Nat.lt_of_lt_of_le (h p hp) hd)
theorem all_neg {g : Obj → List (Addr × Obj)} {o : Obj} {L d : Nat} (h : ∀ o, ∀ p ∈ g o, p.1 < L) (hd : L ≤ d) : ∀ p ∈ g o, p.1 ≠ d := all_ne (h o) hd
theorem updF_lt {d : Addr} {o : Obj} {l : List (Addr × Obj)} {g : Obj → List (Addr × Obj)} (U : UpdF d o l g) {L : Addr} (h : ∀ p ∈ l, p.1 < L) : ∀ o', ∀ p ∈ g o', p.1 < L := by
  obtain ⟨pre, post, rfl, hg, _, _⟩ := U.split
  intro o' p hp
  rw [hg] at hp
  rcases List.mem_append.mp hp with hp | hp
  · exact h p (List.mem_append_left _ hp)
  · rcases List.mem_cons.mp hp with rfl | hp
    · exact h (d, o) (List.mem_append_right _ (.head _))
    · exact h p (List.mem_append_right _ (.tail _ hp))
local macro_rules | `(tactic| k_all) => `(tactic| first | (refine all_ne (by assumption) ?_; omega) | (refine all_neg (by assumption) ?_; omega))
local macro_rules | `(tactic| k_updF) => `(tactic| (with_reducible assumption))

section
variable {prog : Program} {w : World} {A : Around} {E : Value → Shared → Prop} {s : Shared} {h₀ : Heap} {L : Addr} {m : Str → Option Value} {news : List (Addr × Obj)} {l : Addr} {vs : List Value} {ns : List Int} {x : Int} {u : Tok} {Q : Value → Shared → Prop}
theorem rep_flat (c : Nat) (x : Int) : (List.replicate c [x]).flatten = List.replicate c x := by
  induction c with
  | zero => rfl
  | succ c ih => rw [List.replicate_succ, List.flatten_cons, ih, List.replicate_succ]; rfl
theorem rep_list {t : Tok} {k c : Nat} (F : Fr h₀ L s.heap m) (N : News h₀ L s.heap news) (hm : (l, listOf #[.int x t] k) ∈ news) (hc : c ≤ 4000)
    (h : ∀ D h' vs, Fr h₀ L h' m → News h₀ L h' ((D, listOf vs.toArray 0) :: news) → (∀ p ∈ news, p.1 < D) → IntsAre vs (List.replicate c x) → Q (.ref D) { s with heap := h' }) : wpAny (model prog w) A (binaryOp .Mult (.ref l) (.int c u)) Q E s := by
  refine KM.mul (vs := [.int x t]) (ns := [x]) F N (PySem.IsL.isList (n := k) (N _ hm).1) (.cons x t .nil) (by omega) (by omega) (by rw [List.length_singleton]; omega) fun D h' F' N' l1 i1 _ _ _ _ _ => ?_
  rw [rep_flat] at i1
  exact h D h' _ F' N' l1 i1
theorem len_ints {k : Nat} (N : News h₀ L s.heap news) (hm : (l, listOf vs.toArray k) ∈ news) (hi : IntsAre vs ns) (hf : ns.length < 2 ^ 62) (h : Q (.int ns.length (s.toks + 1)) { s with toks := s.toks + 1 + 1 }) :
    wpAny (model prog w) A (call (.builtin "len") [.ref l]) Q E s := KM.len_K N hm (by rw [List.size_toArray]; exact hi.length) hf h
end
local macro_rules | `(tactic| walk_at "binaryOp Mult ref int") => `(tactic| (refine rep_list (by k_asm) (by k_asm) (by k_dflt k_mem) (by omega) ?_; intro D' h' vs' F' N' l1 hI'; (try k_lt l1)))
local macro_rules | `(tactic| walk_at "call builtin:len") => `(tactic| (refine len_ints (by k_asm) (by k_dflt k_mem) (by assumption) (by (simp only [List.length_replicate]; omega)) ?_))

theorem num_lt {number bits : Int} {c : Nat} (h0 : 0 ≤ number) (hb : 1 ≤ bits) (h : (Builtin.Int.intBits number : Int) ≤ c * bits) : number < (2 ^ bits.toNat) ^ c := by
  have h1 := (intBits_le_iff (m := Builtin.Int.intBits number) (x := number)).mp (Nat.le_refl _)
  obtain ⟨b, rfl⟩ := Int.eq_ofNat_of_zero_le (show 0 ≤ bits by omega)
  have h2 : Builtin.Int.intBits number ≤ b * c := by
    rw [← Int.natCast_mul] at h
    have := Int.ofNat_le.mp h
    rw [Nat.mul_comm]
    exact this
  have h3 : 2 ^ Builtin.Int.intBits number ≤ 2 ^ (b * c) := Nat.pow_le_pow_right (by decide) h2
  rw [← Int.pow_mul, ← kbt_cast]
  show number < ((2 ^ (b * c) : Nat) : Int)
  omega
theorem num_pos {number bits : Int} {c : Nat} (h0 : number ≠ 0) (h : (Builtin.Int.intBits number : Int) ≤ c * bits) : 0 < c := by
  rcases Nat.eq_zero_or_pos c with rfl | hc
  · have h2 : Builtin.Int.intBits number ≤ 0 := by
      have e : ((0 : Nat) : Int) * bits = 0 := Int.zero_mul _
      rw [e] at h
      omega
    have := intBits_le_iff.mp h2
    omega
  · exact hc
theorem num_zero {bits : Int} {c : Nat} (hb : 1 ≤ bits) (h : (c : Int) * bits ≤ Builtin.Int.intBits 0 + bits - 1) : c = 0 := by
  rcases Nat.eq_zero_or_pos c with rfl | hc
  · rfl
  · have e : Builtin.Int.intBits 0 = 0 := rfl
    rw [e] at h
    have h2 : 1 * bits ≤ (c : Int) * bits := Int.mul_le_mul_of_nonneg_right (by omega) (by omega)
    omega
theorem fill_all (b x : Int) (c : Nat) {r : Nat} (hr : r = c) : fill b x 0 r (List.replicate c 0) = dgs b x c := by
  subst hr
  unfold fill
  simp
theorem intsAre_fill {b x : Int} {c : Nat} {vs : List Value} (h : IntsAre vs (fill b x (Int.toNat 0) (((List.replicate c (0 : Int)).length : Nat) : Int).toNat (List.replicate c 0))) : IntsAre vs (dgs b x c) := by
  have e := fill_all b x c (r := (((List.replicate c (0 : Int)).length : Nat) : Int).toNat) (by simp)
  rw [← e]
  exact h
theorem news_sub {h₀ h : Heap} {L : Addr} {news news' : List (Addr × Obj)} (N : News h₀ L h news) (hs : ∀ q ∈ news', q ∈ news) : News h₀ L h news' := fun q hq => N q (hs q hq)
theorem all_of_lt {d : Addr} {l : List (Addr × Obj)} (h : AllLt d l) : ∀ p ∈ l, p.1 < d := by
  induction l with
  | nil => intro p hp; cases hp
  | cons q r ih =>
    intro p hp
    rcases List.mem_cons.mp hp with hq | hp
    · rw [hq]; exact h.1
    · exact ih h.2 p hp

/-- the call of _int2digits -/
theorem call_i2d {prog : Program} {w : World} {p : Program} {loose : List Str} {mean : ExcName → Option Value} {mg mb : Str → Option Value} {A A₀ : Around} {env : Env} {outer : List Env} {base h₀ : Heap} {L : Addr} {m : Str → Option Value}
    {news : List (Addr × Obj)} {g : Obj → List (Addr × Obj)} {s : Shared} {number bits : Int} {t u : Tok} {Q E : Value → Shared → Prop} (hrow : PySem.Challenge.rw_kg0012_01.most = some 63 → (hd.heap_39 w.params).In h₀)
    (B : Below A₀ base outer h₀) (F : Fr h₀ L s.heap m) (N : News h₀ L s.heap news) (T : Top p loose mean mg mb h₀) (hA : A.frames = some (env :: outer)) (hf : env.frame = some L) (hke : env.scope.kind = .function)
    (hC : CodeHd h₀ 20 16) (U : UpdF 16 (tabObj #[]) news g) (hdep : A.depth + 30 < recursionLimit) (hn0 : 0 ≤ number) (hnB : Builtin.Int.intBits number ≤ 2000) (hb1 : 1 ≤ bits) (hb2 : bits ≤ 64) :
    (∀ h' tk' D vs' ps c, Fr h₀ L h' m → News h₀ L h' ((D, listOf vs'.toArray 0) :: g (tabObj ps)) → (∀ p ∈ news, p.1 < D) → IntsAre vs' (dgs (2 ^ bits.toNat) number c) → 
      (Builtin.Int.intBits number : Int) ≤ c * bits → (c : Int) * bits ≤ Builtin.Int.intBits number + bits - 1 → Q (.ref D) { s with heap := h', toks := tk' }) →
    wpAny (model prog w) A (call (.ref 21) [.int number t, .int bits u]) Q E s := by
  revert hrow
  k_fill
  intro hrow hret
  have X := hrow rfl
  clear hrow
  refine wpAny_call ?_
  refine' code_defC B F X N T hA hf hke ?k6 ?k7 (by omega) ?k9 ?kB ?kD ?_ ?c2 ?c3 ?c4
  case k6 => k_is
  case k7 => k_is
  case k9 => exact BindsTo.of_eq rfl
  case kB => exact rfl
  case kD => decide +kernel
  case c2 => exact rfl
  case c3 => exact rfl
  case c4 => exact rfl
  intro g' L' h' tk' cells' FG' F' N' Y' B' X' T' l1
  k_cells Y'
  (try simp only [List.cons_append, List.nil_append] at N')
  have hltg := updF_lt U l1
  have hC' : CodeHd g' 20 16 := hC.keeps FG'.keep
  have h16 : @LT.lt Nat _ 16 L' := l1 _ (updF_in U)
  (try dsimp only); (try k_lift B'); (try k_fold)
  k_steps
  · rename IntsAre _ (List.replicate _ 0) => hI0
    rename _ ∧ _ ∧ _ ∧ _ ∧ AllLt _ _ => lD
    rename (_ : Int) ≤ (_ : Int) * bits => hc1
    rename (_ : Int) * bits ≤ _ => hc2
    rename News _ _ _ _ => N5
    rename Fr _ _ _ _ => F5
    rename number ≠ 0 => hne
    have hlt := num_lt hn0 hb1 hc1
    have hpos := num_pos hne hc1
    k_dflt (refine' inner1_all (n := bits) rfl hC' hb1 hb2 ?o1 ?o2 ?o3 ?o4 ?o5 12 _ _ _ _ _ _ _ _ _ _ _ _ _ _ _ _ _ _ _ _ _ B' F5 X' N5 T' (Around.frames_deeper hA) rfl rfl ?m1 ?m2 ?m3 ?m4 ?m5 ?U hI0 ?q1 (by decide) ?q2 (by simp) ?q3 hn0 ?q4 ?q5 ?q6 ?ret)
    case m1 => k_dflt k_mem
    case m2 => k_dflt k_mem
    case m3 => k_dflt k_mem
    case m4 => k_dflt k_mem
    case m5 => k_dflt k_mem
    case o1 => assumption
    case o2 => assumption
    case o3 => assumption
    case o4 => assumption
    case o5 => assumption
    case U => k_updF
    case q1 => rw [List.length_replicate]; omega
    case q2 => rw [List.length_replicate]; omega
    case q3 => rw [List.length_replicate]; omega
    case q4 => omega
    case q5 => rw [List.length_replicate, Int.sub_zero]; exact hlt
    case q6 => rw [depth_deeper]; omega
    intro h6 tk6 vs6 F6 N6 hI6
    clear F5 N5
    (try dsimp only at N6)
    replace hI6 := intsAre_fill hI6
    (try dsimp only)
    k_steps
    refine hret _ _ _ _ _ _ (by assumption) (news_sub (by assumption) (List.forall_mem_cons.mpr ⟨by k_dflt k_mem, fun q hq => by repeat (first | exact hq | refine .tail _ ?_)⟩)) (all_of_lt lD.2.2.2.2) hI6 hc1 hc2
  · rename IntsAre _ (List.replicate _ 0) => hI0
    rename _ ∧ _ ∧ _ ∧ _ ∧ AllLt _ _ => lD
    rename (_ : Int) ≤ (_ : Int) * bits => hc1
    rename (_ : Int) * bits ≤ _ => hc2
    rename number = 0 => h0
    subst h0
    have hc := num_zero hb1 hc2
    subst hc
    refine hret _ _ _ _ _ 0 (by assumption) (news_sub (by assumption) (List.forall_mem_cons.mpr ⟨by k_dflt k_mem, fun q hq => by repeat (first | exact hq | refine .tail _ ?_)⟩)) (all_of_lt lD.2.2.2.2) hI0 hc1 hc2
end

section
local macro_rules | `(tactic| k_all) => `(tactic| first | (refine all_ne (by assumption) ?_; omega) | (refine all_neg (by assumption) ?_; omega))
local macro_rules | `(tactic| k_updF) => `(tactic| (with_reducible assumption))
local macro_rules | `(tactic| walk_at "call builtin:len") => `(tactic| (refine len_ints (by k_asm) (by k_dflt k_mem) (by assumption) (by omega) ?_))
local macro_rules | `(tactic| k_mem) => do
  let i := Lean.mkIdent `hDg
  `(tactic| first | (exact $i _) | (refine' List.Mem.tail _ ?_; k_mem))
theorem truthy_made {prog : Program} {w : World} {A : Around} {E : Value → Shared → Prop} {s : Shared} {h₀ : Heap} {L l : Addr} {news : List (Addr × Obj)} {vs : List Value} {ns : List Int} {k : Nat} {Q : Bool → Shared → Prop}
    (N : News h₀ L s.heap news) (hm : (l, listOf vs.toArray k) ∈ news) (hi : IntsAre vs ns) (hfit : ns.length < 2 ^ 62) (h : Q (decide (0 < ns.length)) { s with toks := s.toks + 1 + 1 }) : wpAny (model prog w) A (truthy (.ref l)) Q E s :=
  truthy_ints_fit (PySem.IsL.isList (n := k) (N _ hm).1) hi hfit h
local macro_rules | `(tactic| walk_at "truthy ref") => `(tactic| (refine truthy_made (by k_asm) (by k_dflt k_mem) (by assumption) (by omega) ?_))

abbrev qual2 : Str := (Str.ofString "_digits2int" ++ ".<locals>.") ++ Str.ofString "inner"

/-- the first call of _digits2int -/
theorem call_d2i {prog : Program} {w : World} {p : Program} {loose : List Str} {mean : ExcName → Option Value} {mg mb : Str → Option Value} {A A₀ : Around} {env : Env} {outer : List Env} {base h₀ : Heap} {L : Addr} {m : Str → Option Value}
    {news : List (Addr × Obj)} {g : Obj → List (Addr × Obj)} {s : Shared} {bits : Int} {u : Tok} {D : Addr} {vs : List Value} {ns : List Int} {cap : Nat} {Q E : Value → Shared → Prop} (hrow : PySem.Challenge.rw_kg0012_01.most = some 63 → (hd.heap_39 w.params).In h₀)
    (B : Below A₀ base outer h₀) (F : Fr h₀ L s.heap m) (N : News h₀ L s.heap news) (T : Top p loose mean mg mb h₀) (hA : A.frames = some (env :: outer)) (hf : env.frame = some L) (hke : env.scope.kind = .function)
    (hC : CodeHd h₀ 27 23) (U : UpdF 23 (tabObj #[]) news g) (hD : (D, listOf vs.toArray cap) ∈ news) (hI : IntsAre vs ns) (hdep : A.depth + 30 < recursionLimit) (hlen : ns.length ≤ 4000) (hds : ∀ d ∈ ns, 0 ≤ d ∧ d < 2 ^ bits.toNat) (hb1 : 1 ≤ bits) (hb2 : bits ≤ 64) :
    (∀ h' tk' t c' oc vsC tq, Fr h₀ L h' m → News h₀ L h' ((c', oc) :: g (tabObj #[rawInt 20, rawInt 4, .ref c'])) → (∀ p ∈ news, p.1 < c') → oc.data = .fields vsC → vsC[1]? = some (.str qual2 tq) → 
      Q (.int (wor (2 ^ bits.toNat) ns) t) { s with heap := h', toks := tk' }) →
    wpAny (model prog w) A (call (.ref 28) [.ref D, .int bits u]) Q E s := by
  revert hrow
  k_fill
  intro hrow hret
  have X := hrow rfl
  clear hrow
  refine wpAny_call ?_
  refine' code_defC B F X N T hA hf hke ?k6 ?k7 (by omega) ?k9 ?kB ?kD ?_ ?c2 ?c3 ?c4
  case k6 => k_is
  case k7 => k_is
  case k9 => exact BindsTo.of_eq rfl
  case kB => exact rfl
  case kD => decide +kernel
  case c2 => exact rfl
  case c3 => exact rfl
  case c4 => exact rfl
  intro g' L' h' tk' cells' FG' F' N' Y' B' X' T' l1
  k_cells Y'
  (try simp only [List.cons_append, List.nil_append] at N')
  have hltg := updF_lt U l1
  have hC' : CodeHd g' 27 23 := hC.keeps FG'.keep
  have h23 : @LT.lt Nat _ 23 L' := l1 _ (updF_in U)
  have hDg : ∀ o, (D, listOf vs.toArray cap) ∈ g o := fun o => updF_mem U hD (fun e => by have e2 := congrArg Obj.data e; cases e2)
  (try dsimp only); (try k_lift B'); (try k_fold)
  k_steps
  · rename _ ∧ _ ∧ _ ∧ AllLt _ _ => lc
    rename News _ _ _ _ => N5
    rename Fr _ _ _ _ => F5
    rename 0 < ns.length => hpos
    k_dflt (refine' inner2_all (n := bits) rfl hC' hb1 hb2 ?o1 ?o2 ?o3 ?o4 ?o5 hI hlen hds 12 _ _ _ _ _ _ _ _ _ _ _ _ _ _ _ _ B' F5 X' N5 T' (Around.frames_deeper hA) rfl rfl ?m1 ?m2 ?m3 ?m4 ?m5 ?m6 (by decide) ?q1 (Int.le_refl _) ?q2 ?q3 ?ret)
    case m1 => k_dflt k_mem
    case m2 => k_dflt k_mem
    case m3 => k_dflt k_mem
    case m4 => k_dflt k_mem
    case m5 => k_dflt k_mem
    case o1 => assumption
    case o2 => assumption
    case o3 => assumption
    case o4 => assumption
    case o5 => assumption
    case m6 => k_dflt k_mem
    case q1 => omega
    case q2 => omega
    case q3 => rw [depth_deeper]; omega
    intro h6 tk6 t6 F6 N6
    clear F5 N5
    rw [show (Int.toNat 0) = 0 from rfl, Int.toNat_natCast, part_all]
    (try dsimp only)
    k_steps
    refine hret _ _ _ _ _ _ _ (by assumption) (news_sub (by assumption) (List.forall_mem_cons.mpr ⟨by k_dflt k_mem, fun q hq => by repeat (first | exact hq | refine .tail _ ?_)⟩)) (all_of_lt lc.2.2.2) (by assumption) (by assumption)
  · rename _ ∧ _ ∧ _ ∧ AllLt _ _ => lc
    have e : ns = [] := List.length_eq_zero_iff.mp (by omega)
    rw [e] at hret
    refine hret _ _ _ _ _ _ _ (by assumption) (news_sub (by assumption) (List.forall_mem_cons.mpr ⟨by k_dflt k_mem, fun q hq => by repeat (first | exact hq | refine .tail _ ?_)⟩)) (all_of_lt lc.2.2.2) (by assumption) (by assumption)

section
local macro_rules | `(tactic| k_mem) => `(tactic| first | assumption | (refine' List.Mem.tail _ ?_; k_mem))
/-- a later call of _digits2int: the code of its inner def is found -/
theorem call_d2i_hit {prog : Program} {w : World} {p : Program} {loose : List Str} {mean : ExcName → Option Value} {mg mb : Str → Option Value} {A A₀ : Around} {env : Env} {outer : List Env} {base h₀ : Heap} {L : Addr} {m : Str → Option Value}
    {news : List (Addr × Obj)} {c₀ : Addr} {oc₀ : Obj} {vsC₀ : Array Value} {tq₀ : Tok} {s : Shared} {bits : Int} {u : Tok} {D : Addr} {vs : List Value} {ns : List Int} {cap : Nat} {Q E : Value → Shared → Prop} (hrow : PySem.Challenge.rw_kg0012_01.most = some 63 → (hd.heap_39 w.params).In h₀)
    (B : Below A₀ base outer h₀) (F : Fr h₀ L s.heap m) (N : News h₀ L s.heap news) (T : Top p loose mean mg mb h₀) (hA : A.frames = some (env :: outer)) (hf : env.frame = some L) (hke : env.scope.kind = .function)
    (hC : CodeHd h₀ 27 23) (hP : (23, tabObj #[rawInt 20, rawInt 4, .ref c₀]) ∈ news) (hc₀ : (c₀, oc₀) ∈ news) (ho₀ : oc₀.data = .fields vsC₀) (hv₀ : vsC₀[1]? = some (.str qual2 tq₀)) (hD : (D, listOf vs.toArray cap) ∈ news) (hI : IntsAre vs ns) (hdep : A.depth + 30 < recursionLimit) (hlen : ns.length ≤ 4000) (hds : ∀ d ∈ ns, 0 ≤ d ∧ d < 2 ^ bits.toNat) (hb1 : 1 ≤ bits) (hb2 : bits ≤ 64) :
    (∀ h' tk' t, Fr h₀ L h' m → News h₀ L h' news → Q (.int (wor (2 ^ bits.toNat) ns) t) { s with heap := h', toks := tk' }) →
    wpAny (model prog w) A (call (.ref 28) [.ref D, .int bits u]) Q E s := by
  revert hrow
  k_fill
  intro hrow hret
  have X := hrow rfl
  clear hrow
  refine wpAny_call ?_
  refine' code_defC B F X N T hA hf hke ?k6 ?k7 (by omega) ?k9 ?kB ?kD ?_ ?c2 ?c3 ?c4
  case k6 => k_is
  case k7 => k_is
  case k9 => exact BindsTo.of_eq rfl
  case kB => exact rfl
  case kD => decide +kernel
  case c2 => exact rfl
  case c3 => exact rfl
  case c4 => exact rfl
  intro g' L' h' tk' cells' FG' F' N' Y' B' X' T' l1
  k_cells Y'
  (try simp only [List.cons_append, List.nil_append] at N')
  have hC' : CodeHd g' 27 23 := hC.keeps FG'.keep
  have hv : vsC₀[1]? = some (.str (qualnameIn (envOfC (Str.ofString "_digits2int") default L' 28 (Value.ref 27)) (Str.ofString "inner") (Str.ofString "inner")) tq₀) := hv₀
  (try dsimp only); (try k_lift B'); (try k_fold)
  k_steps
  · rename News _ _ _ _ => N5
    rename Fr _ _ _ _ => F5
    rename 0 < ns.length => hpos
    k_dflt (refine' inner2_all (n := bits) rfl hC' hb1 hb2 ?o1 ?o2 ?o3 ?o4 ?o5 hI hlen hds 12 _ _ _ _ _ _ _ _ _ _ _ _ _ _ _ _ B' F5 X' N5 T' (Around.frames_deeper hA) rfl rfl ?m1 ?m2 ?m3 ?m4 ?m5 ?m6 (by decide) ?q1 (Int.le_refl _) ?q2 ?q3 ?ret)
    case m1 => k_dflt k_mem
    case m2 => k_dflt k_mem
    case m3 => k_dflt k_mem
    case m4 => k_dflt k_mem
    case m5 => k_dflt k_mem
    case o1 => assumption
    case o2 => assumption
    case o3 => assumption
    case o4 => assumption
    case o5 => assumption
    case m6 => k_dflt k_mem
    case q1 => omega
    case q2 => omega
    case q3 => rw [depth_deeper]; omega
    intro h6 tk6 t6 F6 N6
    clear F5 N5
    rw [show (Int.toNat 0) = 0 from rfl, Int.toNat_natCast, part_all]
    (try dsimp only)
    k_steps
    refine hret _ _ _ (by assumption) (news_sub (by assumption) (fun q hq => by repeat (first | exact hq | refine .tail _ ?_)))
  · have e : ns = [] := List.length_eq_zero_iff.mp (by omega)
    rw [e] at hret
    refine hret _ _ _ (by assumption) (news_sub (by assumption) (fun q hq => by repeat (first | exact hq | refine .tail _ ?_)))
end
end

section
theorem intsAre_reverse {vs : List Value} {ns : List Int} (h : IntsAre vs ns) : IntsAre vs.reverse ns.reverse := by
  induction h with
  | nil => exact .nil
  | cons i t _ ih =>
    rw [List.reverse_cons, List.reverse_cons]
    exact IntsAre.append ih (.cons i t .nil)
theorem map_first {x y : Str} (hyx : y ≠ x) (m : Str → Option Value) (v : Value) (hv : m y = some v) : m = fun z => if z = x then m x else if z = y then some v else m z := by
  funext z
  by_cases h1 : z = x
  · subst h1; rw [if_pos rfl]
  · rw [if_neg h1]
    by_cases h2 : z = y
    · subst h2; rw [if_pos rfl, hv]
    · rw [if_neg h2]
theorem map_turn {x y : Str} (m : Str → Option Value) (u v w : Option Value) : (fun z => if z = x then v else (fun z => if z = x then u else if z = y then w else m z) z) = fun z => if z = x then v else if z = y then w else m z := by
  funext z
  by_cases h1 : z = x
  · rw [if_pos h1, if_pos h1]
  · rw [if_neg h1, if_neg h1]; show (if z = x then u else if z = y then w else m z) = _; rw [if_neg h1]
theorem offI_of {I : Addr} {it : Obj} : ∀ {l : List (Addr × Obj)}, (∀ p ∈ l, p.1 < I) → OffI I it l
  | [], _ => True.intro
  | p :: _, h => ⟨.inl (Nat.ne_of_lt (h p (.head _))), offI_of fun q hq => h q (.tail _ hq)⟩
section
variable {prog : Program} {w : World} {A : Around} {E : Value → Shared → Prop} {s : Shared} {env : Env} {h₀ : Heap} {x : Str} {body : List Stmt} {Q : Flow → Shared → Prop}
/-- a loop over reversed(a list of ints) that turns one int -/
theorem iter_rev1 {ax I : Addr} {lo : Obj} {vs : List Value} {ns : List Int} {n : Nat} {m₀ : Str → Option Value} {news : List (Addr × Obj)} {y : Str} {a₀ : Int} {t₀ : Tok} (g : Int → Int → Int)
    (hh : A.handled = none) (F : Fr h₀ env.locals s.heap m₀) (N : News h₀ env.locals s.heap ((I, revObj ax ((vs.length : Int) - 1)) :: news)) (hof : ∀ p ∈ news, p.1 < I) (hm : (ax, lo) ∈ news) (hc : lo.cls = .type "list") (hd : lo.data = .seq vs.toArray n)
    (hi : IntsAre vs ns) (hy : m₀ y = some (.int a₀ t₀)) (hyx : y ≠ x)
    (turn : ∀ d t a ta it h tk pre suf, ns.reverse = pre ++ d :: suf → a = pre.foldl g a₀ → Fr h₀ env.locals h (fun z => if z = x then some (.int d t) else if z = y then some (.int a ta) else m₀ z) → News h₀ env.locals h ((I, it) :: news) →
      wpAny (model prog w) A (execs body env) (fun f s₂ => f = .next ∧ ∃ h' tk' t', s₂ = { s with heap := h', toks := tk' } ∧ Fr h₀ env.locals h' (fun z => if z = y then some (.int (g a d) t') else if z = x then some (.int d t) else if z = y then some (.int a ta) else m₀ z) ∧ News h₀ env.locals h' ((I, it) :: news)) E { s with heap := h, toks := tk })
    (done : ∀ u t h tk, Fr h₀ env.locals h (fun z => if z = x then u else if z = y then some (.int (ns.reverse.foldl g a₀) t) else m₀ z) → News h₀ env.locals h news → Q .next { s with heap := h, toks := tk }) :
    wpAny (model prog w) A (pyIter (.ref I)) (fun it s₂ => LoopAtV prog w A h₀ env x body Q E it s₂) E s := by
  have key : ∀ (rv : List Value) (rn : List Int), IntsAre rv rn → ∀ (pre : List Int) (u : Option Value) (ta : Tok), ns.reverse = pre ++ rn →
      RevRest prog w A E h₀ env x body Q s I (ax, lo) rv (fun z => if z = x then u else if z = y then some (.int (pre.foldl g a₀) ta) else m₀ z) news := by
    intro rv rn hrv
    induction hrv with
    | nil =>
      intro pre u ta e
      rw [List.append_nil] at e
      intro h tk F' N'
      rw [← e] at F'
      exact done u ta h tk F' N'
    | cons d t _ ih =>
      intro pre u ta e
      intro it h tk _ F' N'
      rw [map_turn] at F'
      refine wpAny_mono (turn d t _ ta it h tk pre _ e rfl F' N') (fun f s₂ hp => ?_) fun _ _ e => e
      obtain ⟨rfl, h', tk', t', rfl, F2, N2⟩ := hp
      refine ⟨h', tk', _, news, rfl, F2, N2, fun p hp => Nat.ne_of_lt (hof p hp), hm, ?_⟩
      have e2 : (fun z => if z = y then some (Value.int (g (pre.foldl g a₀) d) t') else if z = x then some (.int d t) else if z = y then some (.int (pre.foldl g a₀) ta) else m₀ z) =
          fun z => if z = x then some (.int d t) else if z = y then some (.int ((pre ++ [d]).foldl g a₀) t') else m₀ z := by
        funext z
        rw [List.foldl_append]
        by_cases h1 : z = x
        · subst h1
          rw [if_neg (Ne.symm hyx), if_pos rfl, if_pos rfl]
        · rw [if_neg h1, if_neg h1]
          by_cases h2 : z = y
          · rw [if_pos h2, if_pos h2]; rfl
          · rw [if_neg h2, if_neg h2, if_neg h2]
      rw [e2]
      exact ih (pre ++ [d]) _ t' (by rw [e, List.append_assoc]; rfl)
  refine iter_revUnr hh F N ?_ hm hc hd ?_
  · exact offI_of hof
  · rw [map_first hyx m₀ _ hy]
    exact key vs.reverse ns.reverse (intsAre_reverse hi) [] (m₀ x) t₀ rfl
end
end

section
theorem pow_two {prog : Program} {w : World} {A : Around} {E : Value → Shared → Prop} {s : Shared} {n : Int} {t u : Tok} {Q : Value → Shared → Prop} (h1 : 1 ≤ n) (h2 : n ≤ 64) (h : Q (.int (2 ^ n.toNat) s.toks) { s with toks := s.toks + 1 }) :
    wpAny (model prog w) A (binaryOp .Pow (.int 2 t) (.int n u)) Q E s := pow_int_small (by omega) (by omega) (by decide) h
local macro_rules | `(tactic| walk_at "binaryOp Pow int int") => `(tactic| (refine pow_two (by assumption) (by assumption) ?_))
theorem mul_ok {a bits : Int} {c : Nat} (h0 : 0 ≤ a) (h1 : a < (2 ^ bits.toNat) ^ c) (hc : c ≤ 4000) (hb2 : bits ≤ 64) : IntMulOk a (2 ^ bits.toNat) := by
  have h2 := bits_wor h0 h1
  have h3 : bits.toNat * c ≤ 64 * 4000 := Nat.mul_le_mul (by omega) hc
  refine IntMulOk.of_le (m := 64 * 4000) (n := 65) (Nat.le_trans h2 h3) ?_ (by decide)
  rw [intBits_le_iff, ← kbt_cast, Int.natAbs_natCast]
  exact Nat.pow_lt_pow_right (by decide) (by omega)
local macro_rules | `(tactic| walk_at "binaryOp Mult int int") => `(tactic| (refine P.mul_int ?_ (mul_ok (by assumption) (by assumption) (by assumption) (by assumption))))
theorem pre_worth {b : Int} (hb : 0 < b) {ns pre suf : List Int} {d : Int} (hds : ∀ d ∈ ns, 0 ≤ d ∧ d < b) (e : ns.reverse = pre ++ d :: suf) : 0 ≤ pre.foldl (fun a d => a * b + d) 0 ∧ pre.foldl (fun a d => a * b + d) 0 < b ^ pre.length := by
  have h := wor_nonneg hb pre.reverse fun x hx => hds x (by
    have h1 : x ∈ ns.reverse := by rw [e]; exact List.mem_append_left _ (List.mem_reverse.mp hx)
    exact List.mem_reverse.mp h1)
  rw [← wor_foldl, List.reverse_reverse, List.length_reverse] at h
  exact h
/-- the call of _law_worth -/
theorem call_worth {prog : Program} {w : World} {p : Program} {loose : List Str} {mean : ExcName → Option Value} {mg mb : Str → Option Value} {A A₀ : Around} {env : Env} {outer : List Env} {base h₀ : Heap} {L : Addr} {m : Str → Option Value}
    {news : List (Addr × Obj)} {s : Shared} {bits : Int} {u : Tok} {D : Addr} {vs : List Value} {ns : List Int} {cap : Nat} {Q E : Value → Shared → Prop} (hrow : PySem.Challenge.rw_kg0012_01.most = some 63 → (hd.heap_39 w.params).In h₀)
    (B : Below A₀ base outer h₀) (F : Fr h₀ L s.heap m) (N : News h₀ L s.heap news) (T : Top p loose mean mg mb h₀) (hA : A.frames = some (env :: outer)) (hf : env.frame = some L) (hke : env.scope.kind = .function) (hh : A.handled = none)
    (hD : (D, listOf vs.toArray cap) ∈ news) (hI : IntsAre vs ns) (hdep : A.depth + 30 < recursionLimit) (hlen : ns.length ≤ 4000) (hds : ∀ d ∈ ns, 0 ≤ d ∧ d < 2 ^ bits.toNat) (hb1 : 1 ≤ bits) (hb2 : bits ≤ 64) :
    (∀ h' tk' t, Fr h₀ L h' m → News h₀ L h' news → Q (.int (wor (2 ^ bits.toNat) ns) t) { s with heap := h', toks := tk' }) →
    wpAny (model prog w) A (call (.ref 35) [.ref D, .int bits u]) Q E s := by
  revert hrow
  k_fill
  intro hrow hret
  have X := hrow rfl
  clear hrow
  refine wpAny_call ?_
  refine' code_def B F X N T hA hf hke ?k6 ?k7 (by omega) ?k9 ?kB ?_ ?c2 ?c3 ?c4 ?c5
  case k6 => k_is
  case k7 => k_is
  case k9 => exact BindsTo.of_eq rfl
  case kB => exact locs rfl
  case c2 => exact rfl
  case c3 => exact rfl
  case c4 => exact rfl
  case c5 => decide
  intro g' L' h' FG' F' N' B' X' T'
  (try dsimp only); (try k_lift B'); (try k_fold)
  k_steps
  rename Fr g' _ _ _ => F5
  rename News g' _ _ _ => N5
  refine krv_reversed F5 N5 (PySem.IsL.isList (n := cap) (N5 _ hD).1) ?_
  intro I h6 F6 N6 l6
  clear F5 N5
  refine iter_rev1 (y := Str.ofString "made") (fun a d => a * 2 ^ bits.toNat + d) hh F6 N6 l6 hD rfl rfl hI rfl (by decide) ?_ ?_
  · intro d t a ta it h7 tk7 pre suf e ea F7 N7
    obtain ⟨ha0, ha1⟩ := pre_worth (kbt_pos bits.toNat) hds e
    rw [← ea] at ha0 ha1
    have hpl : pre.length ≤ 4000 := by
      have e2 := congrArg List.length e
      rw [List.length_reverse, List.length_append] at e2
      omega
    clear F6 N6
    k_steps
    any_goals assumption
  · intro u' t' h7 tk7 F7 N7
    clear F6 N6
    rw [wor_foldl] at F7
    (try dsimp only)
    k_steps
    exact hret _ _ _ (by assumption) (by assumption)
end

theorem dgs_top {number bits : Int} {c : Nat} (h0 : 0 ≤ number) (hb1 : 1 ≤ bits) (h1 : (Builtin.Int.intBits number : Int) ≤ c * bits) (h2 : (c : Int) * bits ≤ Builtin.Int.intBits number + bits - 1) : (dgs (2 ^ bits.toNat) number c).getLast? ≠ some 0 := by
  by_cases hz : number = 0
  · subst hz
    have hc := num_zero hb1 h2
    subst hc
    nofun
  · have hpos := num_pos hz h1
    have hlt := num_lt h0 hb1 h1
    obtain ⟨d, rfl⟩ : ∃ d, c = d + 1 := ⟨c - 1, by omega⟩
    have hb : (0 : Int) < 2 ^ bits.toNat := kbt_pos _
    have hp := pow_pos' hb d
    rw [dgs_last hb]
    obtain ⟨b, rfl⟩ := Int.eq_ofNat_of_zero_le (show 0 ≤ bits by omega)
    have h3 : (b * d : Nat) + 1 ≤ Builtin.Int.intBits number := by
      rw [← Int.natCast_mul, Nat.succ_mul, Nat.mul_comm d b] at h2
      omega
    have h4 : ¬ number.natAbs < 2 ^ (b * d) := fun q => by
      have := intBits_le_iff.mpr q
      omega
    have h5 : (2 ^ (((b : Nat) : Int)).toNat : Int) ^ d ≤ number := by
      rw [← Int.pow_mul, ← kbt_cast]
      show ((2 ^ (b * d) : Nat) : Int) ≤ number
      omega
    have h6 : number / (2 ^ (((b : Nat) : Int)).toNat) ^ d < 2 ^ (((b : Nat) : Int)).toNat := by
      refine Int.ediv_lt_of_lt_mul hp ?_
      rw [Int.mul_comm, ← Int.pow_succ]
      exact hlt
    have h7 : 1 ≤ number / (2 ^ (((b : Nat) : Int)).toNat) ^ d := by
      refine Int.le_ediv_of_mul_le hp ?_
      rw [Int.one_mul]
      exact h5
    rw [Int.emod_eq_of_lt (by omega) h6]
    intro q
    have := Option.some.inj q
    omega
theorem dgs_short {number bits : Int} {c : Nat} (hnB : Builtin.Int.intBits number ≤ 2000) (hb1 : 1 ≤ bits) (hb2 : bits ≤ 64) (h2 : (c : Int) * bits ≤ Builtin.Int.intBits number + bits - 1) : c ≤ 4000 := by
  have h3 : (c : Int) * 1 ≤ (c : Int) * bits := Int.mul_le_mul_of_nonneg_left hb1 (by omega)
  omega
/-- the call of _int2digits, what its digits are said in plain words -/
theorem call_i2d' {prog : Program} {w : World} {p : Program} {loose : List Str} {mean : ExcName → Option Value} {mg mb : Str → Option Value} {A A₀ : Around} {env : Env} {outer : List Env} {base h₀ : Heap} {L : Addr} {m : Str → Option Value}
    {news : List (Addr × Obj)} {g : Obj → List (Addr × Obj)} {s : Shared} {number bits : Int} {t u : Tok} {Q E : Value → Shared → Prop} (X : (hd.heap_39 w.params).In h₀)
    (B : Below A₀ base outer h₀) (F : Fr h₀ L s.heap m) (N : News h₀ L s.heap news) (T : Top p loose mean mg mb h₀) (hA : A.frames = some (env :: outer)) (hf : env.frame = some L) (hke : env.scope.kind = .function)
    (hC : CodeHd h₀ 20 16) (U : UpdF 16 (tabObj #[]) news g) (hdep : A.depth + 30 < recursionLimit) (hn0 : 0 ≤ number) (hnB : Builtin.Int.intBits number ≤ 2000) (hb1 : 1 ≤ bits) (hb2 : bits ≤ 64)
    (hret : ∀ h' tk' D vs' ps ds, Fr h₀ L h' m → News h₀ L h' ((D, listOf vs'.toArray 0) :: g (tabObj ps)) → (∀ p ∈ news, p.1 < D) → IntsAre vs' ds → ds.length ≤ 4000 → (∀ d ∈ ds, 0 ≤ d ∧ d < 2 ^ bits.toNat) →
      wor (2 ^ bits.toNat) ds = number → ds.getLast? ≠ some 0 → Q (.ref D) { s with heap := h', toks := tk' }) :
    wpAny (model prog w) A (call (.ref 21) [.int number t, .int bits u]) Q E s :=
  call_i2d (fun _ => X) B F N T hA hf hke hC U hdep hn0 hnB hb1 hb2 fun h' tk' D vs' ps c F' N' l hI h1 h2 =>
    hret h' tk' D vs' ps _ F' N' l hI (by rw [dgs_length]; exact dgs_short hnB hb1 hb2 h2) (fun d hd => dgs_mem (kbt_pos _) _ _ d hd) (wor_dgs (kbt_pos _) _ _ hn0 (num_lt hn0 hb1 h1)) (dgs_top hn0 hb1 h1 h2)

theorem filter_none {ds : List Int} {b : Int} (hds : ∀ d ∈ ds, 0 ≤ d ∧ d < b) : List.map (fun a => a) (List.filter (fun a => if 0 ≤ a then !decide (a < b) else !false) ds) = [] := by
  rw [List.map_eq_nil_iff, List.filter_eq_nil_iff]
  intro a ha
  obtain ⟨h0, h1⟩ := hds a ha
  rw [if_pos h0, decide_eq_true h1]
  decide
section
variable {prog : Program} {w : World} {A : Around} {E : Value → Shared → Prop} {s : Shared}
theorem ne_ints_no {a b : Addr} {vs us : List Value} {ns ms : List Int} {Q : Value → Shared → Prop} (hl : s.heap.IsList a vs.toArray) (hi : IntsAre vs ns) (hl' : s.heap.IsList b us.toArray) (hi' : IntsAre us ms) (hu : A.units + 64 < cLine) (e : ns = ms)
    (h : Q (.bool false) s) : wpAny (model prog w) A (compareOp .NotEq (.ref a) (.ref b)) Q E s := ne_intsK hl hi hl' hi' hu (by rw [decide_eq_true e]; exact h)
theorem eq_ints_no {a b : Addr} {vs us : List Value} {ns ms : List Int} {Q : Value → Shared → Prop} (hl : s.heap.IsList a vs.toArray) (hi : IntsAre vs ns) (hl' : s.heap.IsList b us.toArray) (hi' : IntsAre us ms) (hu : A.units + 64 < cLine) (e : ns ≠ ms)
    (h : Q (.bool false) s) : wpAny (model prog w) A (compareOp .Eq (.ref a) (.ref b)) Q E s := eq_intsK hl hi hl' hi' hu (by rw [decide_eq_false e]; exact h)
end

theorem last_no {ds : List Int} (h : ds.getLast? ≠ some 0) : List.drop (ds.length - 1) ds ≠ [0] := fun e => by
  have e2 := List.take_append_drop (ds.length - 1) ds
  rw [e] at e2
  rw [← e2] at h
  simp at h
section
variable {prog : Program} {w : World} {A : Around} {E : Value → Shared → Prop} {s : Shared} {a : Int} {t u : Tok} {Q : Value → Shared → Prop}
theorem ne_same (h : Q (.bool false) s) : wpAny (model prog w) A (compareOp .NotEq (.int a t) (.int a u)) Q E s := P.ne_int (by rw [bne_self_eq_false]; exact h)
theorem eq_same (h : Q (.bool true) s) : wpAny (model prog w) A (compareOp .Eq (.int a t) (.int a u)) Q E s := P.eq_int (by rw [beq_self_eq_true]; exact h)
end
section
variable {prog : Program} {w : World} {p : Program} {loose : List Str} {mean : ExcName → Option Value} {mg mb : Str → Option Value} {A A₀ : Around} {env : Env} {outer : List Env} {base h₀ : Heap} {L : Addr} {m : Str → Option Value}
    {news : List (Addr × Obj)} {g : Obj → List (Addr × Obj)} {s : Shared} {bits v : Int} {u : Tok} {D : Addr} {vs : List Value} {ns : List Int} {cap : Nat} {Q E : Value → Shared → Prop}
theorem call_worth' (X : (hd.heap_39 w.params).In h₀) (B : Below A₀ base outer h₀) (F : Fr h₀ L s.heap m) (N : News h₀ L s.heap news) (T : Top p loose mean mg mb h₀) (hA : A.frames = some (env :: outer)) (hf : env.frame = some L) (hke : env.scope.kind = .function) (hh : A.handled = none)
    (hD : (D, listOf vs.toArray cap) ∈ news) (hI : IntsAre vs ns) (hdep : A.depth + 30 < recursionLimit) (hlen : ns.length ≤ 4000) (hds : ∀ d ∈ ns, 0 ≤ d ∧ d < 2 ^ bits.toNat) (hb1 : 1 ≤ bits) (hb2 : bits ≤ 64) (hv : wor (2 ^ bits.toNat) ns = v)
    (hret : ∀ h' tk' t, Fr h₀ L h' m → News h₀ L h' news → Q (.int v t) { s with heap := h', toks := tk' }) : wpAny (model prog w) A (call (.ref 35) [.ref D, .int bits u]) Q E s :=
  call_worth (fun _ => X) B F N T hA hf hke hh hD hI hdep hlen hds hb1 hb2 fun h' tk' t F' N' => by rw [hv]; exact hret h' tk' t F' N'
theorem call_d2i' (X : (hd.heap_39 w.params).In h₀) (B : Below A₀ base outer h₀) (F : Fr h₀ L s.heap m) (N : News h₀ L s.heap news) (T : Top p loose mean mg mb h₀) (hA : A.frames = some (env :: outer)) (hf : env.frame = some L) (hke : env.scope.kind = .function)
    (hC : CodeHd h₀ 27 23) (U : UpdF 23 (tabObj #[]) news g) (hD : (D, listOf vs.toArray cap) ∈ news) (hI : IntsAre vs ns) (hdep : A.depth + 30 < recursionLimit) (hlen : ns.length ≤ 4000) (hds : ∀ d ∈ ns, 0 ≤ d ∧ d < 2 ^ bits.toNat) (hb1 : 1 ≤ bits) (hb2 : bits ≤ 64) (hv : wor (2 ^ bits.toNat) ns = v)
    (hret : ∀ h' tk' t c' oc vsC tq, Fr h₀ L h' m → News h₀ L h' ((c', oc) :: g (tabObj #[rawInt 20, rawInt 4, .ref c'])) → (∀ p ∈ news, p.1 < c') → oc.data = .fields vsC → vsC[1]? = some (.str qual2 tq) → Q (.int v t) { s with heap := h', toks := tk' }) :
    wpAny (model prog w) A (call (.ref 28) [.ref D, .int bits u]) Q E s :=
  call_d2i (fun _ => X) B F N T hA hf hke hC U hD hI hdep hlen hds hb1 hb2 fun h' tk' t c' oc vsC tq F' N' l d1 d2 => by rw [hv]; exact hret h' tk' t c' oc vsC tq F' N' l d1 d2
theorem row_ds {b : Int} (hb : 0 < b) {ns : List Int} : ∀ d ∈ List.map (fun a => a.fmod b) ns, 0 ≤ d ∧ d < b := fun d hd => by
  obtain ⟨a, _, rfl⟩ := List.mem_map.mp hd
  show 0 ≤ a.fmod b ∧ a.fmod b < b
  rw [Int.fmod_eq_emod_of_nonneg _ (Int.le_of_lt hb)]
  exact ⟨Int.emod_nonneg _ (by omega), Int.emod_lt_of_pos _ hb⟩
end
end Mine

open Mine
local macro_rules | `(tactic| walk_at "compareOp NotEq ref ref") => `(tactic| (with_unfolding_all refine' ne_ints_no ?k1 ?k2 ?k3 ?k4 ?k5 ?e ?_; (case k1 => is_list); (case k2 => l_intsC); (case k3 => is_list); (case k4 => l_intsC); (case k5 => units_room); (case e => exact filter_none (by assumption)); k_whole))
local macro_rules | `(tactic| walk_at "binaryOp Mod int int") => `(tactic| first
  | ((with_reducible show wpAny _ _ (binaryOp _ _ (Value.int (10 ^ Int.toNat 600) _)) _ _ _); refine mod_big ?_; intro number' hnum0' hnumB')
  | ((with_reducible show wpAny _ _ (binaryOp _ _ (Value.int 64 _)) _ _ _); refine mod_64 ?_; intro low' hlow0' hlow1'))
local macro_rules | `(tactic| walk_at "binaryOp Add int int") => `(tactic| ((with_reducible show wpAny _ _ (binaryOp _ (Value.int 1 _) _) _ _ _); refine add_one (by assumption) (by assumption) ?_; intro bits' hb1' hb2'))
local macro_rules | `(tactic| walk_at "binaryOp Pow int int") => `(tactic| (refine pow_two (by assumption) (by assumption) ?_))
local macro_rules | `(tactic| walk_at "call ref") => `(tactic| (k_dflt (refine' call_i2d' ?X ?B ?F ?N ?T rfl rfl rfl ?C ?U ?dep ?n0 ?nB ?b1 ?b2 ?_; (case X => k_asm); (case B => k_asm); (case F => k_asm); (case N => k_asm); (case T => k_asm); (case C => assumption); (case U => k_updF); (case dep => (simp only [depth_deeper, depth_caller]; decide)); (case n0 => first | assumption | decide); (case nB => first | assumption | decide); (case b1 => assumption); (case b2 => assumption)); intro h' tk' D' vs' ps' ds' F' N' l1 hI' hlen' hds' hwor' hlast'; (try dsimp only at N'); (try k_lt l1); (try k_sweep); (try dsimp only)))
local macro_rules | `(tactic| walk_at "compareOp Eq ref ref") => `(tactic| (with_unfolding_all refine' eq_ints_no ?k1 ?k2 ?k3 ?k4 ?k5 ?e ?_; (case k1 => is_list); (case k2 => l_intsC); (case k3 => is_list); (case k4 => l_intsC); (case k5 => units_room); (case e => exact last_no (by assumption)); k_whole))
local macro_rules | `(tactic| walk_at "compareOp NotEq int int") => `(tactic| (refine ne_same ?_))
local macro_rules | `(tactic| walk_at "compareOp Eq int int") => `(tactic| (refine eq_same ?_))
local macro_rules | `(tactic| walk_at "call ref") => `(tactic| (k_dflt (refine' call_worth' ?X ?B ?F ?N ?T rfl rfl rfl rfl ?D ?I ?dep ?len ?ds ?b1 ?b2 ?v ?_; (case X => k_asm); (case B => k_asm); (case F => k_asm); (case N => k_asm); (case T => k_asm); (case D => k_mem); (case I => l_intsC); (case dep => (simp only [depth_deeper, depth_caller]; decide)); (case b1 => assumption); (case b2 => assumption); (case len => first | assumption | (simp only [List.length_map, List.length_drop]; omega)); (case ds => first | assumption | exact row_ds (kbt_pos _)); (case v => first | assumption | rfl)); intro h' tk' t' F' N'; (try k_sweep); (try dsimp only)))
local macro_rules | `(tactic| walk_at "call ref") => `(tactic| (k_dflt (refine' call_d2i' ?X ?B ?F ?N ?T rfl rfl rfl ?C ?U ?D ?I ?dep ?len ?ds ?b1 ?b2 ?v ?_; (case X => k_asm); (case B => k_asm); (case F => k_asm); (case N => k_asm); (case T => k_asm); (case C => assumption); (case U => k_updF); (case D => k_mem); (case I => l_intsC); (case dep => (simp only [depth_deeper, depth_caller]; decide)); (case b1 => assumption); (case b2 => assumption); (case len => assumption); (case ds => assumption); (case v => assumption)); intro h' tk' t' c' oc' vsC' tq' F' N' l1 d1' d2'; (try dsimp only at N'); (try k_lt l1); (try k_sweep); (try dsimp only)))
local macro_rules | `(tactic| walk_at "call ref") => `(tactic| (k_dflt (refine' call_d2i_hit (fun _ => ?X) ?B ?F ?N ?T rfl rfl rfl ?C ?P ?c0 ?o0 ?v0 ?D ?I ?dep ?len ?ds ?b1 ?b2 ?_; (case X => k_asm); (case B => k_asm); (case F => k_asm); (case N => k_asm); (case T => k_asm); (case C => assumption); (case P => k_mem); (case c0 => k_mem); (case o0 => assumption); (case v0 => assumption); (case D => k_mem); (case I => l_intsC); (case dep => (simp only [depth_deeper, depth_caller]; decide)); (case b1 => assumption); (case b2 => assumption); (case len => (simp only [List.length_map, List.length_drop]; omega)); (case ds => exact row_ds (kbt_pos _))); intro h' tk' t' F' N'; (try k_sweep); (try dsimp only)))

set_option maxRecDepth 100000 in
set_option maxHeartbeats 8000000 in
theorem PySem.Challenge.cw_kg0012_01_holds : PySem.Challenge.rw_kg0012_01.Holds := by
  refine Mine.hd ?_
  w_strict k_go
