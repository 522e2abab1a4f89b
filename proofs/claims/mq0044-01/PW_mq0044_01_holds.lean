import PyProof.Rows.All
import Wide.All
import OpenK.AllK
import Wide.FinOn
import PySem.Challenge.RW_mq0044_01
open PySem PySem.W PyProof.Rows
set_option Elab.async false
set_option maxRecDepth 100000
set_option maxHeartbeats 8000000
namespace Mine
-- 1. numbers: 32 bits as polynomials over two elements
/-- times x, on 32 bits, the lowest bit the highest power -/
def mulN (v : Nat) : Nat := (v / 2) ^^^ ((v % 2) * 3988292384)
def sqNL (v : Nat) : List Nat → Nat → Nat
  | [], m => m
  | k :: ks, m => sqNL v ks (mulN (mulN m) ^^^ ((v / 2 ^ k % 2) * 2147483648))
def sqN (v : Nat) : Nat := sqNL v (List.range 32) 0
def itf (f : Nat → Nat) : Nat → Nat → Nat
  | 0, c => c
  | n + 1, c => f (itf f n c)
theorem bit_cases (a : Nat) : a % 2 = 0 ∨ a % 2 = 1 := by omega
theorem xor_mod2 (a b : Nat) : (a ^^^ b) % 2 = (a % 2 + b % 2) % 2 := by
  have h := @Nat.xor_mod_two_pow a b 1
  rw [Nat.pow_one] at h
  rw [h]
  rcases bit_cases a with e | e <;> rcases bit_cases b with f | f <;> rw [e, f] <;> rfl
theorem mul_xor {p a b : Nat} (ha : a = 0 ∨ a = 1) (hb : b = 0 ∨ b = 1) : ((a + b) % 2) * p = (a * p) ^^^ (b * p) := by
  rcases ha with rfl | rfl <;> rcases hb with rfl | rfl <;> simp
theorem mulN_xor (a b : Nat) : mulN (a ^^^ b) = mulN a ^^^ mulN b := by
  unfold mulN
  rw [Nat.xor_div_two, xor_mod2, mul_xor (bit_cases a) (bit_cases b)]
  ac_rfl
theorem mulN_zero : mulN 0 = 0 := rfl
theorem mulN_lt {v : Nat} (h : v < 2 ^ 32) : mulN v < 2 ^ 32 := by
  unfold mulN
  refine Nat.xor_lt_two_pow (by omega) ?_
  rcases bit_cases v with e | e <;> rw [e] <;> decide
theorem itf_xor {f : Nat → Nat} (hf : ∀ a b, f (a ^^^ b) = f a ^^^ f b) : ∀ n a b, itf f n (a ^^^ b) = itf f n a ^^^ itf f n b
  | 0, _, _ => rfl
  | n + 1, a, b => by
    show f (itf f n (a ^^^ b)) = f (itf f n a) ^^^ f (itf f n b)
    rw [itf_xor hf n, hf]
theorem itf_zero {f : Nat → Nat} (hf : f 0 = 0) : ∀ n, itf f n 0 = 0
  | 0 => rfl
  | n + 1 => by
    show f (itf f n 0) = 0
    rw [itf_zero hf n, hf]
theorem itf_lt {f : Nat → Nat} (hf : ∀ v, v < 2 ^ 32 → f v < 2 ^ 32) : ∀ n v, v < 2 ^ 32 → itf f n v < 2 ^ 32
  | 0, _, h => h
  | n + 1, v, h => hf _ (itf_lt hf n v h)
theorem itf_add (f : Nat → Nat) (n : Nat) : ∀ k v, itf f (n + k) v = itf f k (itf f n v)
  | 0, _ => rfl
  | k + 1, v => by
    show f (itf f (n + k) v) = f (itf f k (itf f n v))
    rw [itf_add f n k]
/-- squared: linear -/
theorem sqNL_xor : ∀ (ks : List Nat) (a b m n : Nat), sqNL (a ^^^ b) ks (m ^^^ n) = sqNL a ks m ^^^ sqNL b ks n
  | [], _, _, _, _ => rfl
  | k :: ks, a, b, m, n => by
    show sqNL (a ^^^ b) ks (mulN (mulN (m ^^^ n)) ^^^ (((a ^^^ b) / 2 ^ k % 2) * 2147483648)) = _
    have e : (a ^^^ b) / 2 ^ k = a / 2 ^ k ^^^ b / 2 ^ k := by
      rw [← Nat.shiftRight_eq_div_pow, ← Nat.shiftRight_eq_div_pow, ← Nat.shiftRight_eq_div_pow, Nat.shiftRight_xor_distrib]
    rw [mulN_xor, mulN_xor, e, xor_mod2, mul_xor (bit_cases _) (bit_cases _)]
    have e2 : ∀ p q r s : Nat, (p ^^^ q) ^^^ (r ^^^ s) = (p ^^^ r) ^^^ (q ^^^ s) := by intro p q r s; ac_rfl
    rw [e2, sqNL_xor ks]
    rfl
theorem sqN_xor (a b : Nat) : sqN (a ^^^ b) = sqN a ^^^ sqN b := sqNL_xor _ a b 0 0
theorem sqN_zero : sqN 0 = 0 := by decide +kernel
theorem sqNL_lt : ∀ (ks : List Nat) (v m : Nat), m < 2 ^ 32 → sqNL v ks m < 2 ^ 32
  | [], _, _, h => h
  | k :: ks, v, m, h => sqNL_lt ks v _ (Nat.xor_lt_two_pow (mulN_lt (mulN_lt h)) (by rcases bit_cases (v / 2 ^ k) with e | e <;> rw [e] <;> decide))
theorem sqN_lt (v : Nat) : sqN v < 2 ^ 32 := sqNL_lt _ v 0 (by decide)
theorem sqNL_half (v : Nat) : ∀ (ks : List Nat) (m : Nat), sqNL (v / 2) ks m = sqNL v (ks.map Nat.succ) m
  | [], _ => rfl
  | k :: ks, m => by
    show sqNL (v / 2) ks (mulN (mulN m) ^^^ ((v / 2 / 2 ^ k % 2) * 2147483648)) = sqNL v (ks.map Nat.succ) (mulN (mulN m) ^^^ ((v / 2 ^ (k + 1) % 2) * 2147483648))
    have e : v / 2 / 2 ^ k = v / 2 ^ (k + 1) := by rw [Nat.div_div_eq_div_mul, Nat.pow_succ, Nat.mul_comm]
    rw [e, sqNL_half v ks]
theorem sqNL_snoc (v k : Nat) : ∀ (ks : List Nat) (m : Nat), sqNL v (ks ++ [k]) m = mulN (mulN (sqNL v ks m)) ^^^ ((v / 2 ^ k % 2) * 2147483648)
  | [], _ => rfl
  | _ :: ks, _ => sqNL_snoc v k ks _
/-- the square of x times v is x times x times the square of v -/
theorem sqN_even {v : Nat} (h : v < 2 ^ 32) (he : v % 2 = 0) : sqN (v / 2) = mulN (mulN (sqN v)) := by
  have e1 : sqN v = sqNL v ((List.range 31).map Nat.succ) 0 := by
    unfold sqN
    rw [show (32 : Nat) = 31 + 1 from rfl, List.range_succ_eq_map]
    show sqNL v ((List.range 31).map Nat.succ) (mulN (mulN 0) ^^^ ((v / 2 ^ 0 % 2) * 2147483648)) = _
    rw [Nat.pow_zero, Nat.div_one, he]
    rfl
  have e2 : sqN (v / 2) = sqNL v ((List.range 31).map Nat.succ ++ [32]) 0 := by
    unfold sqN
    rw [sqNL_half, show (32 : Nat) = 31 + 1 from rfl, List.range_succ, List.map_append]
    rfl
  rw [e2, sqNL_snoc, ← e1]
  have e3 : v / 2 ^ 32 = 0 := Nat.div_eq_of_lt h
  rw [e3, Nat.zero_mod, Nat.zero_mul, Nat.xor_zero]
theorem sqN_one : sqN (mulN 1) = mulN (mulN (sqN 1)) := by decide +kernel
theorem sqN_mul {v : Nat} (h : v < 2 ^ 32) : sqN (mulN v) = mulN (mulN (sqN v)) := by
  rcases bit_cases v with e | e
  · have e1 : mulN v = v / 2 := by unfold mulN; rw [e]; simp
    rw [e1, sqN_even h e]
  · have ev : v = (v / 2 * 2) ^^^ 1 := by
      have h1 : ((v / 2 * 2) ^^^ 1) / 2 = v / 2 := by
        rw [Nat.xor_div_two]
        have a1 : v / 2 * 2 / 2 = v / 2 := by omega
        rw [a1]; simp
      have h2 := xor_mod2 (v / 2 * 2) 1
      omega
    have e1 : mulN (v / 2 * 2) = v / 2 * 2 / 2 := by
      unfold mulN
      have : v / 2 * 2 % 2 = 0 := by omega
      rw [this]; simp
    have e2 : sqN (mulN (v / 2 * 2)) = mulN (mulN (sqN (v / 2 * 2))) := by
      rw [e1]; exact sqN_even (by omega) (by omega)
    have key : sqN (mulN ((v / 2 * 2) ^^^ 1)) = mulN (mulN (sqN ((v / 2 * 2) ^^^ 1))) := by
      rw [mulN_xor, sqN_xor, e2, sqN_one, sqN_xor, mulN_xor, mulN_xor]
    rw [← ev] at key
    exact key
theorem itf_0 (f : Nat → Nat) (c : Nat) : itf f 0 c = c := rfl
theorem itf_s (f : Nat → Nat) (n c : Nat) : itf f (n + 1) c = f (itf f n c) := rfl
theorem sqN_it : ∀ (i v : Nat), v < 2 ^ 32 → sqN (itf mulN i v) = itf mulN (2 * i) (sqN v)
  | 0, _, _ => by rw [Nat.mul_zero, itf_0, itf_0]
  | i + 1, v, h => by
    rw [itf_s, sqN_mul (itf_lt (fun _ h => mulN_lt h) i v h), sqN_it i v h, Nat.mul_add, Nat.mul_one, itf_s, itf_s]
theorem one_sq : sqN 2147483648 = 2147483648 := by decide +kernel
theorem one_it (i : Nat) : ∀ j, itf sqN j (itf mulN i 2147483648) = itf mulN (i * 2 ^ j) 2147483648
  | 0 => by rw [Nat.pow_zero, Nat.mul_one, itf_0]
  | j + 1 => by
    have e : 2 * (i * 2 ^ j) = i * 2 ^ (j + 1) := by rw [Nat.pow_succ, Nat.mul_comm 2, Nat.mul_assoc]
    rw [itf_s, one_it i j, sqN_it _ _ (by decide), one_sq, e]
/-- x to the power 2^32 is x: thirty-two squares, the one long reckoning here -/
theorem frob : itf sqN 32 (itf mulN 1 2147483648) = itf mulN 1 2147483648 := by decide +kernel
theorem one_pow {n : Nat} (hn : itf mulN n 2147483648 = itf mulN 1 2147483648) : ∀ b, itf mulN (b * n) 2147483648 = itf mulN b 2147483648
  | 0 => by rw [Nat.zero_mul]
  | b + 1 => by
    rw [Nat.succ_mul, Nat.add_comm, itf_add, hn, ← itf_add, Nat.add_comm 1 (b * n), itf_s, itf_s, one_pow hn b]
theorem pow_low : ∀ b, b < 32 → itf mulN b 2147483648 = 2 ^ (31 - b) := by decide +kernel
theorem chk_pow (b : Nat) (hb : b < 32) : itf sqN 29 (itf mulN (8 * b) 2147483648) = 2 ^ (31 - b) := by
  have hf : itf mulN (1 * 2 ^ 32) 2147483648 = itf mulN 1 2147483648 := by rw [← one_it 1 32]; exact frob
  have e : 8 * b * 2 ^ 29 = b * (1 * 2 ^ 32) := by omega
  rw [one_it, e, one_pow hf, pow_low b hb]
/-- divided by x undoes it -/
def divN (v : Nat) : Nat := if 2147483648 ≤ v then (v ^^^ 3988292384) * 2 + 1 else v * 2
theorem high_bit {v : Nat} (h : v < 2 ^ 31) : 2147483648 ≤ v ^^^ 3988292384 := by
  have hb : (v ^^^ 3988292384).testBit 31 = true := by
    rw [Nat.testBit_xor, Nat.testBit_lt_two_pow h]
    decide
  exact Nat.ge_two_pow_of_testBit hb
theorem div_mul {v : Nat} (h : v < 2 ^ 32) : divN (mulN v) = v := by
  unfold mulN divN
  rcases bit_cases v with e | e
  · rw [e]
    have e1 : v / 2 ^^^ 0 * 3988292384 = v / 2 := by simp
    rw [e1, if_neg (by omega)]
    omega
  · rw [e, Nat.one_mul, if_pos (high_bit (by omega)), Nat.xor_assoc, Nat.xor_self, Nat.xor_zero]
    omega
theorem div_mul_it : ∀ n v, v < 2 ^ 32 → itf divN n (itf mulN n v) = v
  | 0, _, _ => rfl
  | n + 1, v, h => by
    have e : itf divN (n + 1) (itf mulN (n + 1) v) = itf divN n (divN (mulN (itf mulN n v))) := by
      show itf divN (n + 1) (mulN (itf mulN n v)) = _
      rw [Nat.add_comm n 1, itf_add divN 1 n]
      rfl
    rw [e, div_mul (itf_lt (fun _ h => mulN_lt h) n v h), div_mul_it n v h]
theorem divN_lt {v : Nat} (h : v < 2 ^ 32) : divN v < 2 ^ 32 := by
  unfold divN
  split
  · rename_i hv
    have hx : v ^^^ 3988292384 < 2 ^ 31 := by
      apply Nat.lt_pow_two_of_testBit
      intro i hi
      rw [Nat.testBit_xor]
      by_cases h31 : i = 31
      · subst h31
        have : v.testBit 31 = true := by
          rw [Nat.testBit_eq_decide_div_mod_eq]
          have : v / 2 ^ 31 = 1 := by omega
          rw [this]; rfl
        rw [this]; decide
      · have h1 : v < 2 ^ i := Nat.lt_of_lt_of_le h (Nat.pow_le_pow_right (by decide) (by omega))
        have h2 : 3988292384 < 2 ^ i := Nat.lt_of_lt_of_le (by decide : 3988292384 < 2 ^ 32) (Nat.pow_le_pow_right (by decide) (by omega))
        rw [Nat.testBit_lt_two_pow h1, Nat.testBit_lt_two_pow h2]; rfl
    omega
  · omega

-- 2. the comprehension over a text
open PySem.Calls in
section
variable {prog : Program} {w : World} {A : Around} {E : Value → Shared → Prop} {s : Shared} {h₀ : Heap} {L : Addr} {m : PySem.Str → Option Value} {env : Env}

/-- what a comprehension over a text's signs asks -/
def TextSrc (prog : Program) (w : World) (A : Around) (h₀ : Heap) (L : Addr) (m : PySem.Str → Option Value) (env : Env) (elt : PySem.Expr) (x : PySem.Str) (scope : Scope) (cl : List (PySem.Str × Addr)) (Q : Value → Shared → Prop) (xv : Value) (s₁ : Shared) : Prop :=
  ∃ (X : PySem.Str) (t : Tok) (news : List (Addr × Obj)) (f : Nat → Nat), xv = .str X t ∧ A.handled = none ∧ Fr h₀ L s₁.heap m ∧ News h₀ L s₁.heap news ∧ X.length ≤ 900 ∧
    (∀ (c : Nat) tc I oI C oC D m₂ ys h tk (E' : Value → Shared → Prop), c ∈ X.cps.toList → LCg.NsObj oC m₂ → m₂ x = some (.str ⟨#[c]⟩ tc) → Fr h₀ L h m → News h₀ L h ((I, oI) :: (C, oC) :: (D, LCg.lst ys) :: news) → LCg.Off3 I C D news → ((@Ne Nat I C) ∧ (@Ne Nat I D) ∧ (@Ne Nat C D)) →
      wpAny (model prog w) A (eval elt (compEnvC scope cl C env)) (LCg.CompEnd h₀ L m { s₁ with heap := h, toks := tk } I oI C oC D (LCg.lst ys) (fun _ => True) (fun y news' => KCtEl news ⟨#[f c]⟩ y news')) E' { s₁ with heap := h, toks := tk }) ∧
    (∀ D h tk ys, StrsAre ys (X.cps.toList.map fun c => (⟨#[f c]⟩ : PySem.Str)) → Fr h₀ L h m → News h₀ L h ((D, LCg.lst ys) :: news) → LCg.Off1 D news → Q (.ref D) { s₁ with heap := h, toks := tk })

theorem text_rest {elt : PySem.Expr} {x : PySem.Str} {scope : Scope} {cl : List (PySem.Str × Addr)} {X : PySem.Str} {news : List (Addr × Obj)} {f : Nat → Nat} {Fin : List Value → List (Addr × Obj) → Prop}
    (turn : ∀ (c : Nat) tc I oI C oC D m₂ ys h tk (E' : Value → Shared → Prop), c ∈ X.cps.toList → LCg.NsObj oC m₂ → m₂ x = some (.str ⟨#[c]⟩ tc) → Fr h₀ L h m → News h₀ L h ((I, oI) :: (C, oC) :: (D, LCg.lst ys) :: news) → LCg.Off3 I C D news → ((@Ne Nat I C) ∧ (@Ne Nat I D) ∧ (@Ne Nat C D)) →
      wpAny (model prog w) A (eval elt (compEnvC scope cl C env)) (LCg.CompEnd h₀ L m { s with heap := h, toks := tk } I oI C oC D (LCg.lst ys) (fun _ => True) (fun y news' => KCtEl news ⟨#[f c]⟩ y news')) E' { s with heap := h, toks := tk })
    (fin : ∀ ys, StrsAre ys (X.cps.toList.map fun c => (⟨#[f c]⟩ : PySem.Str)) → Fin ys news) :
    LCg.CompRest prog w A h₀ L m env elt x scope cl s (fun _ => True) (SignAt X) Fin X.cps.size 0 [] news := by
  have key : ∀ (j i : Nat) (ys : List Value), i + j = X.cps.size → StrsAre ys ((X.cps.toList.take i).map fun c => (⟨#[f c]⟩ : PySem.Str)) → LCg.CompRest prog w A h₀ L m env elt x scope cl s (fun _ => True) (SignAt X) Fin j i ys news := by
    intro j
    induction j with
    | zero =>
      intro i ys hi hy
      have e : i = X.cps.toList.length := by rw [Array.length_toList]; omega
      subst e
      rw [List.take_length] at hy
      exact LCg.CompRest.zero (fin ys hy)
    | succ j ih =>
      intro i ys hi hy
      refine LCg.CompRest.succ ?_
      intro v I oI C oC D m₂ h tk E' hv hC hx F N off ne
      obtain ⟨c, u, hc, rfl⟩ := hv
      have hc' : X.cps.toList[i]? = some c := by rw [Array.getElem?_toList]; exact hc
      refine wpAny_mono (turn c u I oI C oC D m₂ ys h tk E' (List.mem_of_getElem? hc') hC hx F N off ne) (fun y s₂ hq => ?_) fun _ _ e => e
      obtain ⟨h', tk', nw, e, F', N', off', hS, hn, t', hy'⟩ := hq
      rw [hn] at N' off'
      refine ⟨h', tk', news, e, F', N', off', trivial, ?_⟩
      rw [hy']
      refine ih (i + 1) _ (by omega) ?_
      rw [List.take_add_one, hc']
      simpa using kct_snoc hy
  exact key _ 0 [] (by omega) (by simp only [List.take_zero, List.map_nil]; exact .nil)

theorem ListComp_text {elt iter : PySem.Expr} {x : PySem.Str} {px : Pos} {scope : Scope} {cl : List (PySem.Str × Addr)} {pos : Pos} {Q : Value → Shared → Prop} (F₀ : Fr h₀ L s.heap m)
    (hclos : closureFor scope env = pure cl) (hcell : ∀ y ∈ scope.names, y.2 ≠ .cell) (hkind : scope.kind = .function)
    (hnames : ∀ y ∈ scope.names, y.2 = .local → scope.names.lookup y.1 = some .local) (hx : scope.names.lookup x = some .local)
    (h : wpAny (model prog w) A (eval iter env) (TextSrc prog w A h₀ L m env elt x scope cl Q) E s)
    (hs : ∀ x, foldedSetIterable iter env x = pure x := by intro _; rfl) :
    wpAny (model prog w) A (eval (.ListComp elt [⟨.Name x px, iter, [], 0⟩] scope pos) env) Q E s := by
  rw [eval_ListComp]
  refine wpAny_comprehension_free (use := none) rfl hs hclos hkind hnames (wpAny_mono h (fun xv s₁ h₁ => ?_) fun _ _ e => e)
  obtain ⟨X, t, news, f, rfl, hh, F, N, hsz, turn, fin⟩ := h₁
  have hsz' : X.cps.size ≤ sizeLine := by
    have e : X.length = X.cps.size := rfl
    rw [sizeLine_eq]; omega
  cases ha : X.cps.all (· < 128)
  · refine wpAny_pyIter_wide ha ?_
    refine LCg.block_U (S := fun _ => True) (Fin := LCg.FinE h₀ L m s₁ Q) (Walks.strWide hh _ X t) hsz' (fun i h st => by obtain ⟨o, e, _⟩ := st; exact ⟨o, e⟩)
      (fun i h h' o nw st e e' _ _ _ => by obtain ⟨o', q, r⟩ := st; rw [e] at q; cases q; exact ⟨o, e', r⟩) hcell hkind hx ⟨_, Heap.get?_push_size _ rfl, rfl, rfl⟩ (fun b hb => ?_)
      (F.keeps fun _ _ e => Heap.get?_push_of_some _ e) (N.grown fun _ _ e => Heap.get?_push_of_some _ e) (Nat.ne_of_lt F.ns.lt) (next_is_new F) (fun p hp => Nat.ne_of_lt (Heap.lt_size (N p hp).1)) trivial (text_rest (s := { s₁ with heap := s₁.heap.push _ }) turn fun ys hys D h tk F' N' o1 => fin D h tk ys hys F' N' o1) ?_
    · rw [List.mem_singleton.mp hb]
      show s₁.heap.objs.size < (s₁.heap.push _).objs.size
      rw [Heap.size_push]; exact Nat.lt_succ_self _
    · intro D C h tk m' ys news' F' N' o1 hn hC₀ hD₀ hCL hDL hCD offC fin'
      refine ⟨m', hn, fun h'' hs'' => fin' D h'' tk (F'.change hs'' hCL hC₀) (fun p hp => ?_) o1⟩
      refine ⟨hs''.extBut _ _ ?_ (N' p hp).1, (N' p hp).2⟩
      rcases List.mem_cons.mp hp with rfl | hp
      · exact Ne.symm hCD
      · exact offC p hp
  · refine wpAny_pyIter_ascii ha ?_
    refine LCg.block_U (S := fun _ => True) (Fin := LCg.FinE h₀ L m s₁ Q) (Walks.strAscii hh _ X t) hsz' (fun i h st => by obtain ⟨o, e, _⟩ := st; exact ⟨o, e⟩)
      (fun i h h' o nw st e e' _ _ _ => by obtain ⟨o', q, r⟩ := st; rw [e] at q; cases q; exact ⟨o, e', r⟩) hcell hkind hx ⟨_, Heap.get?_push_size _ rfl, rfl, rfl⟩ (fun b hb => ?_)
      (F.keeps fun _ _ e => Heap.get?_push_of_some _ e) (N.grown fun _ _ e => Heap.get?_push_of_some _ e) (Nat.ne_of_lt F.ns.lt) (next_is_new F) (fun p hp => Nat.ne_of_lt (Heap.lt_size (N p hp).1)) trivial (text_rest (s := { s₁ with heap := s₁.heap.push _ }) turn fun ys hys D h tk F' N' o1 => fin D h tk ys hys F' N' o1) ?_
    · rw [List.mem_singleton.mp hb]
      show s₁.heap.objs.size < (s₁.heap.push _).objs.size
      rw [Heap.size_push]; exact Nat.lt_succ_self _
    · intro D C h tk m' ys news' F' N' o1 hn hC₀ hD₀ hCL hDL hCD offC fin'
      refine ⟨m', hn, fun h'' hs'' => fin' D h'' tk (F'.change hs'' hCL hC₀) (fun p hp => ?_) o1⟩
      refine ⟨hs''.extBut _ _ ?_ (N' p hp).1, (N' p hp).2⟩
      rcases List.mem_cons.mp hp with rfl | hp
      · exact Ne.symm hCD
      · exact offC p hp

/-- a capital written small -/
def low (c : Nat) : Nat := if 65 ≤ c ∧ c ≤ 90 then c + 32 else c
def lowS (x : PySem.Str) : PySem.Str := ⟨x.cps.map low⟩
theorem lowS_length (x : PySem.Str) : (lowS x).length = x.length := by
  show (x.cps.map _).size = x.cps.size
  simp
theorem TextSrc.intro {elt : PySem.Expr} {x : PySem.Str} {scope : Scope} {cl : List (PySem.Str × Addr)} {Q : Value → Shared → Prop} {X : PySem.Str} {t : Tok} {news : List (Addr × Obj)} (hh : A.handled = none) (F : Fr h₀ L s.heap m) (N : News h₀ L s.heap news) (hl : X.length ≤ 32) (hX : ∀ c ∈ X.cps.toList, c < 128)
    (turn : ∀ (c : Nat) tc I oI C oC D m₂ ys h tk (E' : Value → Shared → Prop), c < 128 → LCg.NsObj oC m₂ → m₂ x = some (.str ⟨#[c]⟩ tc) → Fr h₀ L h m → News h₀ L h ((I, oI) :: (C, oC) :: (D, LCg.lst ys) :: news) → LCg.Off3 I C D news → ((@Ne Nat I C) ∧ (@Ne Nat I D) ∧ (@Ne Nat C D)) →
      wpAny (model prog w) A (eval elt (compEnvC scope cl C env)) (LCg.CompEnd h₀ L m { s with heap := h, toks := tk } I oI C oC D (LCg.lst ys) (fun _ => True) (fun y news' => KCtEl news ⟨#[low c]⟩ y news')) E' { s with heap := h, toks := tk })
    (fin : ∀ D h tk ys, StrsAre ys (X.cps.toList.map fun c => (⟨#[low c]⟩ : PySem.Str)) → Fr h₀ L h m → News h₀ L h ((D, LCg.lst ys) :: news) → LCg.Off1 D news → Q (.ref D) { s with heap := h, toks := tk }) :
    TextSrc prog w A h₀ L m env elt x scope cl Q (.str X t) s :=
  ⟨X, t, news, low, rfl, hh, F, N, by omega, fun c tc I oI C oC D m₂ ys h tk E' hc => turn c tc I oI C oC D m₂ ys h tk E' (hX c hc), fin⟩
theorem my_join0 {X y : PySem.Str} {t : Tok} {D : Addr} {ys : List Value} {news : List (Addr × Obj)} {Q : Value → Shared → Prop} (N : News h₀ L s.heap news) (hm : (D, LCg.lst ys) ∈ news) (hs : StrsAre ys (X.cps.toList.map fun c => (⟨#[low c]⟩ : PySem.Str))) (hy : y = PySem.Str.ofString "") (hl : X.length ≤ 32)
    (h : ∀ t' k, Q (.str (lowS X) t') { s with toks := k }) : wpAny (model prog w) A (call (.builtin "str.join") [.str y t, .ref D]) Q E s := by
  subst hy
  have e0 : PySem.Str.ofString "" = ⟨#[]⟩ := by decide
  rw [e0]
  have ej : Txt.join ⟨#[]⟩ (X.cps.toList.map fun c => (⟨#[low c]⟩ : PySem.Str)) = lowS X := by
    unfold Txt.join
    rw [StrLaws.glued_eq_join]
    have := join_ones (X.cps.toList.map low)
    rw [List.map_map] at this
    have e2 : ((fun k => (⟨#[k]⟩ : PySem.Str)) ∘ low) = fun c => (⟨#[low c]⟩ : PySem.Str) := rfl
    rw [e2] at this
    rw [this]
    refine PySem.Str.ext' (Array.toList_inj.mp ?_)
    simp [lowS]
  refine join_list (items := ys.toArray) (ys := X.cps.toList.map fun c => (⟨#[low c]⟩ : PySem.Str)) ⟨_, (N _ hm).1, rfl, _, rfl⟩ hs ?_ (by rw [ej]; exact h)
  have e1 : ((X.cps.toList.map fun c => (⟨#[low c]⟩ : PySem.Str)).map (·.length)) = X.cps.toList.map fun _ => 1 := by
    rw [List.map_map]; rfl
  rw [e1]
  have e3 : (X.cps.toList.map fun _ => 1).sum = X.length := by
    rw [List.map_const', List.sum_replicate_nat]
    show X.cps.toList.length * 1 = X.cps.size
    rw [Array.length_toList]; omega
  rw [e3]
  have e4 : PySem.Str.length ⟨#[]⟩ = 0 := rfl
  rw [e4]; omega
theorem lt_A {c : Nat} : ({ cps := #[c] } : PySem.Str).cps.toList < (PySem.Str.ofString "A").cps.toList ↔ c < 65 := by
  have e : (PySem.Str.ofString "A").cps.toList = [65] := by decide
  rw [e]
  simp [List.cons_lt_cons_iff]
theorem lt_Z {c : Nat} : (PySem.Str.ofString "Z").cps.toList < ({ cps := #[c] } : PySem.Str).cps.toList ↔ 90 < c := by
  have e : (PySem.Str.ofString "Z").cps.toList = [90] := by decide
  rw [e]
  simp [List.cons_lt_cons_iff]
theorem el_1 {news : List (Addr × Obj)} {c : Nat} {t : Tok} (h : ({ cps := #[c] } : PySem.Str).cps.toList < (PySem.Str.ofString "A").cps.toList) : KCtEl news { cps := #[low c] } (.str { cps := #[c] } t) news := by
  have h' := lt_A.mp h
  refine ⟨rfl, t, ?_⟩
  unfold low
  rw [if_neg (by omega)]
theorem el_2 {news : List (Addr × Obj)} {c : Nat} {t : Tok} (h : (PySem.Str.ofString "Z").cps.toList < ({ cps := #[c] } : PySem.Str).cps.toList) : KCtEl news { cps := #[low c] } (.str { cps := #[c] } t) news := by
  have h' := lt_Z.mp h
  refine ⟨rfl, t, ?_⟩
  unfold low
  rw [if_neg (by omega)]
theorem el_3 {news : List (Addr × Obj)} {c : Nat} {t : Tok} (h : ¬ ({ cps := #[c] } : PySem.Str).cps.toList < (PySem.Str.ofString "A").cps.toList) (h2 : ¬ (PySem.Str.ofString "Z").cps.toList < ({ cps := #[c] } : PySem.Str).cps.toList) :
    KCtEl news { cps := #[low c] } (.str { cps := #[((c : Int) + 32).toNat] } t) news := by
  have h' := mt lt_A.mpr h
  have h2' := mt lt_Z.mpr h2
  refine ⟨rfl, t, ?_⟩
  unfold low
  rw [if_pos (by omega)]
  have e : ((c : Int) + 32).toNat = c + 32 := by omega
  rw [e]
theorem ne_same {x : PySem.Str} {t u : Tok} {Q : Value → Shared → Prop} (h : Q (.bool false) s) : wpAny (model prog w) A (compareOp .NotEq (.str x t) (.str x u)) Q E s :=
  ne_str (by simpa using h)
end

-- 3. pydoc's replace
/-- the pairs that the law's first loop lays -/
def prs (pre : List Int) : List PySem.Str := pre.flatMap fun k => [⟨#[(65 + k).toNat]⟩, ⟨#[(97 + k).toNat]⟩]
theorem prs_start : ([] : List PySem.Str) = prs [] ∧ ([] : List PySem.Str).length = 2 * ([] : List Int).length := ⟨rfl, rfl⟩
theorem prs_length (ks : List Int) : (prs ks).length = 2 * ks.length := by
  induction ks with
  | nil => rfl
  | cons k r ih =>
    have e : prs (k :: r) = ⟨#[(65 + k).toNat]⟩ :: ⟨#[(97 + k).toNat]⟩ :: prs r := by simp [prs]
    rw [e, List.length_cons, List.length_cons, ih, List.length_cons]; omega
theorem prs_step {pre : List Int} {ps : List PySem.Str} {k : Int} (h : ps = prs pre) :
    (ps ++ [(⟨#[(65 + k).toNat]⟩ : PySem.Str)] ++ [(⟨#[(97 + k).toNat]⟩ : PySem.Str)]) = prs (pre ++ [k]) ∧ (ps ++ [(⟨#[(65 + k).toNat]⟩ : PySem.Str)] ++ [(⟨#[(97 + k).toNat]⟩ : PySem.Str)]).length = 2 * (pre ++ [k]).length := by
  have e : (ps ++ [(⟨#[(65 + k).toNat]⟩ : PySem.Str)] ++ [(⟨#[(97 + k).toNat]⟩ : PySem.Str)]) = prs (pre ++ [k]) := by
    subst h; simp [prs]
  exact ⟨e, by rw [e, prs_length]⟩
/-- one sign written for another -/
def rep (c d : Nat) (x : PySem.Str) : PySem.Str := ⟨x.cps.map fun z => if z = c then d else z⟩
def reps : List Int → PySem.Str → PySem.Str
  | [], x => x
  | k :: ks, x => reps ks (rep (65 + k).toNat (97 + k).toNat x)
theorem rep_length (c d : Nat) (x : PySem.Str) : (rep c d x).length = x.length := by
  show (x.cps.map _).size = x.cps.size
  simp
theorem map_same {c d : Nat} : ∀ l : List Nat, c ∉ l → l.map (fun z => if z = c then d else z) = l
  | [], _ => rfl
  | a :: r, h => by
    rw [List.map_cons, map_same r fun hr => h (List.mem_cons_of_mem _ hr), if_neg fun e => h (by rw [e]; exact List.mem_cons_self ..)]
theorem join_rep (c d : Nat) : ∀ ps : List PySem.Str, (∀ p ∈ ps, c ∉ p.cps.toList) → (PySem.Str.join ⟨#[d]⟩ ps).cps.toList = (PySem.Str.join ⟨#[c]⟩ ps).cps.toList.map (fun z => if z = c then d else z)
  | [], _ => rfl
  | [x], h => (map_same _ (h x (List.mem_cons_self ..))).symm
  | x :: y :: r, h => by
    have ih := join_rep c d (y :: r) fun p hp => h p (List.mem_cons_of_mem _ hp)
    show ((x ++ ⟨#[d]⟩ ++ PySem.Str.join ⟨#[d]⟩ (y :: r)) : PySem.Str).cps.toList = ((x ++ ⟨#[c]⟩ ++ PySem.Str.join ⟨#[c]⟩ (y :: r)) : PySem.Str).cps.toList.map _
    rw [PySem.Str.cps_append, PySem.Str.cps_append, PySem.Str.cps_append, PySem.Str.cps_append, Array.toList_append, Array.toList_append, Array.toList_append, Array.toList_append, List.map_append, List.map_append, ih, map_same _ (h x (List.mem_cons_self ..))]
    simp
theorem join_split_rep (c d : Nat) (x : PySem.Str) : PySem.Str.join ⟨#[d]⟩ (Txt.split x ⟨#[c]⟩) = rep c d x := by
  refine PySem.Str.ext' (Array.toList_inj.mp ?_)
  rw [join_rep c d _ (StrLaws.split_free x c), StrLaws.join_split]
  simp [rep]
theorem txt_join_rep (c d : Nat) (x : PySem.Str) : Txt.join ⟨#[d]⟩ (Txt.split x ⟨#[c]⟩) = rep c d x := by
  unfold Txt.join
  rw [StrLaws.glued_eq_join, join_split_rep]

abbrev tup (ws : List Value) : Obj := { cls := .type "tuple", data := .seq ws.toArray }

section
variable {prog : Program} {w : World} {A : Around} {E : Value → Shared → Prop} {s : Shared} {h₀ : Heap} {L : Addr} {m : PySem.Str → Option Value} {news : List (Addr × Obj)}
theorem my_star {a : Addr} {us : List Value} {n : Nat} {ps : List PySem.Str} {Q : List Value → Shared → Prop} (F : Fr h₀ L s.heap m) (N : News h₀ L s.heap news) (ha : (a, listOf us.toArray n) ∈ news) (hs : StrsAre us ps)
    (hp : ps = prs (rangeKs 0 (26 - 0 : Int).toNat))
    (h : ∀ h', StrsAre us (prs (rangeKs 0 26)) → Fr h₀ L h' m → News h₀ L h' news → Q us { s with heap := h' }) : StarOf (model prog w) A E (.ref a) Q s := by
  have hl : us.length = ps.length := by
    clear hp h ha
    induction hs with
    | nil => rfl
    | cons y t _ ih => rw [List.length_cons, List.length_cons, ih]
  refine star_seq F N ha rfl rfl (.inl rfl) (by simp) ?_ (fun h' => h h' (by rw [hp] at hs; exact hs))
  rw [List.size_toArray, hl, hp, prs_length, rangeKs_length, sizeLine_eq]
  decide
theorem my_true {t : Addr} {v v' : Value} {ws : List Value} {Q : Bool → Shared → Prop} (N : News h₀ L s.heap news) (hm : (t, tup (v :: v' :: ws)) ∈ news) (hz : ws.length ≤ 900)
    (h : Q true { s with toks := s.toks + 1 + 1 }) : wpAny (model prog w) A (truthy (.ref t)) Q E s :=
  ktl_truthyK N hm (by rw [List.length_cons, List.length_cons]; omega) h
theorem my_false {t : Addr} {Q : Bool → Shared → Prop} (N : News h₀ L s.heap news) (hm : (t, tup []) ∈ news)
    (h : Q false { s with toks := s.toks + 1 + 1 }) : wpAny (model prog w) A (truthy (.ref t)) Q E s :=
  ktl_truthyK N hm (by decide) h
def pick2 (k : Int) (v v' : Value) : Option Value := if k = 0 then some v else if k = 1 then some v' else none
theorem my_item {value slice : PySem.Expr} {t : Addr} {v v' r : Value} {ws : List Value} {k : Int} {u : Tok} {Q : Value → Shared → Prop} (N : News h₀ L s.heap news) (hm : (t, tup (v :: v' :: ws)) ∈ news) (hk : pick2 k v v' = some r) (h : Q r s)
    (hs : subscripted slice false (.ref t) (.int k u) = operate [.ref t, .int k u] (getItem (.ref t) (.int k u))) :
    wpAny (model prog w) A (subscriptTail value slice (.ref t) (.int k u)) Q E s := by
  unfold pick2 at hk
  split at hk
  · rename_i e
    subst e
    cases hk
    exact item_tupleT (l := v :: v' :: ws) (j := 0) (N.isTup hm) (by decide) (by decide) (by simp [seqIndex?]; omega) rfl h hs
  · split at hk
    · rename_i e
      subst e
      cases hk
      exact item_tupleT (l := v :: v' :: ws) (j := 1) (N.isTup hm) (by decide) (by decide) (by simp [seqIndex?]; omega) rfl h hs
    · cases hk
theorem my_slice {value slice : PySem.Expr} {t : Addr} {v v' : Value} {ws : List Value} {u : Tok} {Q : Value → Shared → Prop} (F : Fr h₀ L s.heap m) (N : News h₀ L s.heap news) (hm : (t, tup (v :: v' :: ws)) ∈ news) (hz : ws.length ≤ 900)
    (h : ∀ D h', Fr h₀ L h' m → News h₀ L h' ((D, tup ws) :: news) → (∀ p ∈ news, p.1 < D) → Q (.ref D) { s with heap := h' })
    (hs : subscripted slice false (.ref t) (.ref s.heap.objs.size) = operate [.ref s.heap.objs.size, .ref t] (getItem (.ref t) (.ref s.heap.objs.size)))
    (hg : ∀ r, letTemporaryGo value (.ref t) r = pure ()) :
    wpAny (model prog w) A (subscriptTail value slice (.ref t) (.ref s.heap.objs.size)) Q E { s with heap := s.heap.push { cls := .type "slice", data := .fields #[.int 2 u, .none, .none] } } :=
  slice_tuple_from (a := 2) F N (N.isTup hm) (by decide) (by rw [List.size_toArray, List.length_cons, List.length_cons]; omega)
    (fun h' F' N' => h _ h' F' N' fun p hp => Nat.lt_succ_of_lt (Heap.lt_size (N p hp).1)) hs hg (by rw [List.size_toArray, List.length_cons, List.length_cons, sizeLine_eq]; omega)
theorem my_split {x : PySem.Str} {c : Nat} {t u : Tok} {Q : Value → Shared → Prop} (F : Fr h₀ L s.heap m) (N : News h₀ L s.heap news) (hx : x.length ≤ 900)
    (h : ∀ D l h' k, l.map (·.1) = Txt.split x ⟨#[c]⟩ → Fr h₀ L h' m → News h₀ L h' ((D, listOf (strValues l).toArray 0) :: news) → (∀ p ∈ news, p.1 < D) → Q (.ref D) { s with heap := h', toks := k }) :
    wpAny (model prog w) A (call (.builtin "str.split") [.str x t, .str ⟨#[c]⟩ u]) Q E s :=
  KSpl.split1 F N rfl (fun D l h' k e _ F' N' l1 => h D l h' k e F' N' l1) (by rw [sizeLine_eq]; omega)
theorem split_room (x : PySem.Str) (c : Nat) : ((Txt.split x ⟨#[c]⟩).map (·.length)).sum + (Txt.split x ⟨#[c]⟩).length ≤ x.length + 1 := by
  have e := StrLaws.join_split x ⟨#[c]⟩
  cases hp : Txt.split x ⟨#[c]⟩ with
  | nil => simp
  | cons a r =>
    have e2 := len_join_cons ⟨#[c]⟩ a r
    rw [← hp, e, hp] at e2
    have e1 : PySem.Str.length ⟨#[c]⟩ = 1 := rfl
    rw [e1] at e2
    rw [List.length_cons]
    omega
theorem my_join {x : PySem.Str} {c d : Nat} {t : Tok} {D : Addr} {l : List (PySem.Str × Tok)} {y : PySem.Str} {Q : Value → Shared → Prop} (N : News h₀ L s.heap news) (hm : (D, listOf (strValues l).toArray 0) ∈ news) (e : l.map (·.1) = Txt.split x ⟨#[c]⟩) (hy : y = ⟨#[d]⟩) (hx : x.length ≤ 900)
    (h : ∀ t' k, Q (.str (rep c d x) t') { s with toks := k }) : wpAny (model prog w) A (call (.builtin "str.join") [.str y t, .ref D]) Q E s := by
  subst hy
  have hr := split_room x c
  refine join_list (ys := Txt.split x ⟨#[c]⟩) (N.isList hm) ?_ ?_ (by rw [txt_join_rep]; exact h)
  · rw [← e]
    simpa using strsAre_of_values l
  · have e1 : PySem.Str.length ⟨#[d]⟩ = 1 := rfl
    rw [e1]
    omega
end

def RepEnd (h₀ : Heap) (L : Addr) (s : Shared) (m₀ : PySem.Str → Option Value) (news : List (Addr × Obj)) (x : PySem.Str) (ws : List Value) (s₂ : Shared) : Prop :=
  ∃ h' tk m' news' a' t', s₂ = { s with heap := h', toks := tk } ∧ Fr h₀ L h' m' ∧ News h₀ L h' news' ∧ (∀ p ∈ ((a', tup ws) :: news), p ∈ news') ∧ m' (PySem.Str.ofString "text") = some (.str x t') ∧ m' (PySem.Str.ofString "pairs") = some (.ref a') ∧
    ∀ z, z ≠ PySem.Str.ofString "text" → z ≠ PySem.Str.ofString "pairs" → m' z = m₀ z
theorem RepEnd.intro {h₀ : Heap} {L : Addr} {s : Shared} {m₀ m' : PySem.Str → Option Value} {news news' : List (Addr × Obj)} {x : PySem.Str} {ws : List Value} {h' : Heap} {tk : Nat} {a' : Addr} {t' : Tok}
    (F : Fr h₀ L h' m') (N : News h₀ L h' news') (hp : m' (PySem.Str.ofString "pairs") = some (.ref a')) (hn : ∀ p ∈ ((a', tup ws) :: news), p ∈ news') (ht : m' (PySem.Str.ofString "text") = some (.str x t'))
    (hm : ∀ z, z ≠ PySem.Str.ofString "text" → z ≠ PySem.Str.ofString "pairs" → m' z = m₀ z) : RepEnd h₀ L s m₀ news x ws { s with heap := h', toks := tk } :=
  ⟨h', tk, m', news', a', t', rfl, F, N, hn, ht, hp, hm⟩
def RepPost (h₀ : Heap) (L : Addr) (s : Shared) (m₀ : PySem.Str → Option Value) (news : List (Addr × Obj)) (Q : Flow → Shared → Prop) (x : PySem.Str) (ws : List Value) (f : Flow) (s₂ : Shared) : Prop :=
  match f with
  | .ret v => Q (.ret v) s₂
  | .brk => Q .next s₂
  | _ => RepEnd h₀ L s m₀ news x ws s₂

section
variable {prog : Program} {w : World} {A : Around} {E : Value → Shared → Prop} {Q : Flow → Shared → Prop} {s : Shared} {env : Env} {h₀ : Heap} {L : Addr}
theorem strs_cons {us : List Value} {y : PySem.Str} {ys : List PySem.Str} (h : StrsAre us (y :: ys)) : ∃ t vs, us = .str y t :: vs ∧ StrsAre vs ys := by
  cases h with
  | cons _ t r => exact ⟨t, _, rfl, r⟩
theorem strs_nil {us : List Value} (h : StrsAre us []) : us = [] := by
  cases h with
  | nil => rfl
theorem strs_len {us : List Value} {ys : List PySem.Str} (h : StrsAre us ys) : us.length = ys.length := by
  induction h with
  | nil => rfl
  | cons y t _ ih => rw [List.length_cons, List.length_cons, ih]
theorem while_rep {test : PySem.Expr} {body : List Stmt} {pos : Pos} {m₀ : PySem.Str → Option Value} {news : List (Addr × Obj)} {x₀ : PySem.Str} {t₀ : Tok} {a₀ : Addr} {us : List Value} {ks₀ : List Int}
    (F : Fr h₀ L s.heap m₀) (N : News h₀ L s.heap ((a₀, tup us) :: news)) (hx : m₀ (PySem.Str.ofString "text") = some (.str x₀ t₀)) (ha : m₀ (PySem.Str.ofString "pairs") = some (.ref a₀)) (hs : StrsAre us (prs ks₀)) (hk : ks₀.length ≤ 400) (hl : x₀.length ≤ 900)
    (turn : ∀ x t a k ws tc td h tk, x.length ≤ 900 → ws.length ≤ 900 →
      Fr h₀ L h (fun z => if z = PySem.Str.ofString "text" then some (.str x t) else if z = PySem.Str.ofString "pairs" then some (.ref a) else m₀ z) →
      News h₀ L h ((a, tup (.str ⟨#[(65 + k : Int).toNat]⟩ tc :: .str ⟨#[(97 + k : Int).toNat]⟩ td :: ws)) :: news) →
      wpAny (model prog w) A (isTrue test env (eval test env)) (fun b s₂ =>
        if b = true then wpAny (model prog w) A (execs body env) (RepPost h₀ L s m₀ news Q (rep (65 + k : Int).toNat (97 + k : Int).toNat x) ws) E s₂ else Q .next s₂) E { s with heap := h, toks := tk })
    (done : ∀ t a h tk,
      Fr h₀ L h (fun z => if z = PySem.Str.ofString "text" then some (.str (reps ks₀ x₀) t) else if z = PySem.Str.ofString "pairs" then some (.ref a) else m₀ z) → News h₀ L h ((a, tup []) :: news) →
      wpAny (model prog w) A (isTrue test env (eval test env)) (fun b s₂ =>
        if b = true then False else Q .next s₂) E { s with heap := h, toks := tk })
    (hE : PassesOwn (model prog w) A env E := by passes_own) :
    wpAny (model prog w) A (exec (.While test body [] pos) env) Q E s := by
  refine While_inv2 (fun n mm nx => ∃ x t a vs ks, nx = (a, tup vs) :: news ∧ ks.length = n ∧ n ≤ 400 ∧ StrsAre vs (prs ks) ∧ mm (PySem.Str.ofString "text") = some (.str x t) ∧ mm (PySem.Str.ofString "pairs") = some (.ref a) ∧ x.length ≤ 900 ∧ reps ks x = reps ks₀ x₀ ∧
    ∀ z, z ≠ PySem.Str.ofString "text" → z ≠ PySem.Str.ofString "pairs" → mm z = m₀ z) F N ⟨x₀, t₀, a₀, us, ks₀, rfl, rfl, hk, hs, hx, ha, hl, rfl, fun _ _ _ => rfl⟩ ?_ hE
  rintro n m₁ nx h tk F₁ N₁ ⟨x, t, a, vs, ks, rfl, hn, hn4, hv, h1, h2, h3, h4, h5⟩
  have e : (fun z => if z = PySem.Str.ofString "text" then some (.str x t) else if z = PySem.Str.ofString "pairs" then some (.ref a) else m₀ z) = m₁ := by
    funext z
    by_cases g1 : z = PySem.Str.ofString "text"
    · subst g1; simp [h1]
    · simp only [if_neg g1]
      by_cases g2 : z = PySem.Str.ofString "pairs"
      · subst g2; simp [h2]
      · simp only [if_neg g2]; exact (h5 z g1 g2).symm
  cases ks with
  | nil =>
    have hv0 : vs = [] := strs_nil hv
    subst hv0
    have hx0 : x = reps ks₀ x₀ := h4
    rw [hx0] at e
    refine wpAny_mono (done t a h tk (by rw [e]; exact F₁) N₁) (fun b s₂ p => ?_) fun _ _ x => x
    cases b with
    | false => simpa using p
    | true =>
      simp only [if_true] at p
  | cons k ks =>
    have ep : prs (k :: ks) = ⟨#[(65 + k).toNat]⟩ :: ⟨#[(97 + k).toNat]⟩ :: prs ks := by simp [prs]
    rw [ep] at hv
    obtain ⟨tc, vs1, rfl, hv1⟩ := strs_cons hv
    obtain ⟨td, ws, rfl, hv2⟩ := strs_cons hv1
    rw [List.length_cons] at hn
    have hw : ws.length ≤ 900 := by rw [strs_len hv2, prs_length]; omega
    refine wpAny_mono (turn x t a k ws tc td h tk h3 hw (by rw [e]; exact F₁) N₁) (fun b s₂ p => ?_) fun _ _ x => x
    cases b with
    | false => simpa using p
    | true =>
      simp only [if_true] at p ⊢
      refine wpAny_mono p (fun f s₃ q => ?_) fun _ _ x => x
      have stp : RepEnd h₀ L s m₀ news (rep (65 + k).toNat (97 + k).toNat x) ws s₃ → WhileStep2 h₀ L s (fun n mm nx => ∃ x t a vs ks, nx = (a, tup vs) :: news ∧ ks.length = n ∧ n ≤ 400 ∧ StrsAre vs (prs ks) ∧ mm (PySem.Str.ofString "text") = some (.str x t) ∧ mm (PySem.Str.ofString "pairs") = some (.ref a) ∧ x.length ≤ 900 ∧ reps ks x = reps ks₀ x₀ ∧
    ∀ z, z ≠ PySem.Str.ofString "text" → z ≠ PySem.Str.ofString "pairs" → mm z = m₀ z) Q n .next s₃ := by
        rintro ⟨h', tk', m', news', a', t', rfl, F', N', hn', ht', hp', hm'⟩
        exact ⟨h', tk', m', (a', tup ws) :: news, ks.length, rfl, F', fun p hp => N' p (hn' p hp), by omega, _, t', a', ws, ks, rfl, rfl, by omega, hv2, ht', hp', by rw [rep_length]; exact h3, h4, hm'⟩
      cases f with
      | ret v => exact q
      | brk => exact q
      | next => exact stp q
      | cont => exact stp q
end
theorem drop_one {v : Value} {us : List Value} : List.drop 1 (v :: us) = us := rfl
theorem range_len : (rangeKs 0 26).length ≤ 400 := by rw [rangeKs_length]; decide
def foldz : List Int → Nat → Nat
  | [], z => z
  | k :: ks, z => foldz ks (if z = (65 + k).toNat then (97 + k).toNat else z)
theorem reps_foldz : ∀ (ks : List Int) (x : PySem.Str), reps ks x = ⟨x.cps.map (foldz ks)⟩
  | [], x => by
    refine PySem.Str.ext' ?_
    show x.cps = x.cps.map (fun z => z)
    simp
  | k :: ks, x => by
    show reps ks (rep _ _ x) = _
    rw [reps_foldz ks]
    refine PySem.Str.ext' ?_
    show (x.cps.map _).map _ = x.cps.map _
    rw [Array.map_map]
    rfl
theorem foldz_high : ∀ (ks : List Int) (z : Nat), (∀ k ∈ ks, 65 + k < 91) → 91 ≤ z → foldz ks z = z
  | [], _, _, _ => rfl
  | k :: ks, z, h, hz => by
    have h1 := h k (List.mem_cons_self ..)
    show foldz ks (if z = (65 + k).toNat then (97 + k).toNat else z) = z
    rw [if_neg (by omega)]
    exact foldz_high ks z (fun q hq => h q (List.mem_cons_of_mem _ hq)) hz
theorem foldz_low (z : Nat) : foldz (rangeKs 0 26) z = low z := by
  by_cases h : z < 91
  · exact (by decide +kernel : ∀ z, z < 91 → foldz (rangeKs 0 26) z = low z) z h
  · rw [foldz_high _ z (by decide +kernel) (by omega)]
    unfold low
    rw [if_neg (by omega)]
theorem reps_low (x : PySem.Str) : reps (rangeKs 0 26) x = lowS x := by
  have e : foldz (rangeKs 0 26) = low := funext foldz_low
  rw [reps_foldz, e]
  rfl
section
variable {prog : Program} {w : World} {A : Around} {E : Value → Shared → Prop} {Q : Flow → Shared → Prop} {s : Shared} {env : Env} {h₀ : Heap} {L : Addr}
theorem while_low {test : PySem.Expr} {body : List Stmt} {pos : Pos} {m₀ : PySem.Str → Option Value} {news : List (Addr × Obj)} {x₀ : PySem.Str} {t₀ : Tok} {a₀ : Addr} {us : List Value}
    (F : Fr h₀ L s.heap m₀) (N : News h₀ L s.heap ((a₀, tup us) :: news)) (hx : m₀ (PySem.Str.ofString "text") = some (.str x₀ t₀)) (ha : m₀ (PySem.Str.ofString "pairs") = some (.ref a₀)) (hs : StrsAre us (prs (rangeKs 0 26))) (hl : x₀.length ≤ 32)
    (turn : ∀ x t a k ws tc td h tk, x.length ≤ 900 → ws.length ≤ 900 →
      Fr h₀ L h (fun z => if z = PySem.Str.ofString "text" then some (.str x t) else if z = PySem.Str.ofString "pairs" then some (.ref a) else m₀ z) →
      News h₀ L h ((a, tup (.str ⟨#[(65 + k : Int).toNat]⟩ tc :: .str ⟨#[(97 + k : Int).toNat]⟩ td :: ws)) :: news) →
      wpAny (model prog w) A (isTrue test env (eval test env)) (fun b s₂ =>
        if b = true then wpAny (model prog w) A (execs body env) (RepPost h₀ L s m₀ news Q (rep (65 + k : Int).toNat (97 + k : Int).toNat x) ws) E s₂ else Q .next s₂) E { s with heap := h, toks := tk })
    (done : ∀ t a h tk,
      Fr h₀ L h (fun z => if z = PySem.Str.ofString "text" then some (.str (lowS x₀) t) else if z = PySem.Str.ofString "pairs" then some (.ref a) else m₀ z) → News h₀ L h ((a, tup []) :: news) →
      wpAny (model prog w) A (isTrue test env (eval test env)) (fun b s₂ =>
        if b = true then False else Q .next s₂) E { s with heap := h, toks := tk })
    (hE : PassesOwn (model prog w) A env E := by passes_own) :
    wpAny (model prog w) A (exec (.While test body [] pos) env) Q E s :=
  while_rep F N hx ha hs range_len (by omega) turn (by rw [reps_low]; exact done) hE
end
abbrev repB (v : Value) : Addr → List (PySem.Str × Value) := fun D => [(PySem.Str.ofString "text", v), (PySem.Str.ofString "pairs", Value.ref D)]
abbrev repG (v : Value) : Addr → Option (List (PySem.Str × Value)) := fun D => some (repB v D)
theorem as_map {us : List Value} (h : StrsAre us (prs (rangeKs 0 26))) : ∃ f : Nat → Value, us = (List.range 52).map f := by
  have hl : us.length = 52 := by rw [strs_len h, prs_length, rangeKs_length]
  refine ⟨fun i => us.getD i .none, ?_⟩
  apply List.ext_getElem
  · rw [List.length_map, List.length_range, hl]
  · intro i h1 h2
    simp [h1]

-- 4. the head
open_top hd for PySem.Challenge.rw_mq0044_01

-- 5. the small defs, each once
/-- one bit of the CRC, as the walk writes it -/
def crcStep (c : Int) : Int := if Builtin.bitAnd c 1 = 0 then c.fdiv 2 else Builtin.bitXor (c.fdiv 2) 3988292384
def itN (f : Int → Int) : Nat → Int → Int
  | 0, c => c
  | n + 1, c => f (itN f n c)
def genCrc (c : Int) : Int := itN crcStep 8 c
theorem it_start {f : Int → Int} {c : Int} : c = itN f ([] : List Int).length c := rfl
theorem it_step {f : Int → Int} {c c' c0 : Int} {pre : List Int} {k : Int} (h : c = itN f pre.length c0) (e : c' = f c) : c' = itN f (pre ++ [k]).length c0 := by
  rw [List.length_append, List.length_singleton, e, h]; rfl
theorem it_odd {c c0 : Int} {pre : List Int} {k : Int} (h : c = itN crcStep pre.length c0) (e : Builtin.bitAnd c 1 ≠ 0) : Builtin.bitXor (c.fdiv (2 ^ Int.toNat 1)) 3988292384 = itN crcStep (pre ++ [k]).length c0 :=
  it_step h (by unfold crcStep; rw [if_neg e]; rfl)
theorem it_even {c c0 : Int} {pre : List Int} {k : Int} (h : c = itN crcStep pre.length c0) (e : Builtin.bitAnd c 1 = 0) : c.fdiv (2 ^ Int.toNat 1) = itN crcStep (pre ++ [k]).length c0 :=
  it_step h (by unfold crcStep; rw [if_pos e]; rfl)
theorem gen_end {c c0 : Int} (h : c = itN crcStep (rangeKs 0 (8 - 0 : Int).toNat).length c0) : c = genCrc c0 := by
  rw [rangeKs_length] at h
  exact h
/-- the CRC's state over the codes, and the law's own sum -/
def stI (cs : List Int) : Int := cs.foldl (fun st c => genCrc (Builtin.bitXor st c)) 4294967295
def sumS (x : PySem.Str) : Int := Builtin.bitXor (stI (KStt.codes x)) 4294967295
theorem st_start : (4294967295 : Int) = stI [] := rfl
theorem st_step {pre : List Int} {st c : Int} (h : st = stI pre) : genCrc (Builtin.bitXor st c) = stI (pre ++ [c]) := by
  subst h; simp [stI]
theorem st_end {x : PySem.Str} {st : Int} (h : st = stI (KStt.codes x)) : Builtin.bitXor st 4294967295 = sumS x := by
  subst h; rfl
/-- divided by x, multiplied by x, squared -/
def divI (v : Int) : Int := if 2147483648 ≤ v then Builtin.bitXor v 3988292384 * 2 + 1 else v * 2
def mulI (v : Int) : Int := if v.fmod 2 = 1 then Builtin.bitXor (v.fdiv 2) 3988292384 else v.fdiv 2
def sqStep (v m : Int) (k : Int) : Int := if (v.fdiv (2 ^ k.toNat)).fmod 2 = 1 then Builtin.bitXor (mulI (mulI m)) 2147483648 else mulI (mulI m)
def sqL (v : Int) (ks : List Int) : Int := ks.foldl (sqStep v) 0
def sqI (v : Int) : Int := sqL v (rangeKs 0 32)
theorem sq_start {v : Int} : (0 : Int) = sqL v [] := rfl
theorem sq_snoc (v : Int) (pre : List Int) (k : Int) : sqL v (pre ++ [k]) = sqStep v (sqL v pre) k := by simp [sqL]
theorem sq_odd {v m k : Int} {pre : List Int} (h : m = sqL v pre) (e : (v.fdiv (2 ^ k.toNat)).fmod 2 = 1) : Builtin.bitXor (mulI (mulI m)) 2147483648 = sqL v (pre ++ [k]) := by
  rw [sq_snoc, ← h]; unfold sqStep; rw [if_pos e]
theorem sq_even {v m k : Int} {pre : List Int} (h : m = sqL v pre) (e : ¬ (v.fdiv (2 ^ k.toNat)).fmod 2 = 1) : mulI (mulI m) = sqL v (pre ++ [k]) := by
  rw [sq_snoc, ← h]; unfold sqStep; rw [if_neg e]
theorem sq_end {v m : Int} (h : m = sqL v (rangeKs 0 (32 - 0 : Int).toNat)) : m = sqI v := h

abbrev Cl (w : World) (mean : ExcName → Option Value) (mg mb : PySem.Str → Option Value) (n : Nat) (f : Addr) (news : List (Addr × Obj)) (pre : Prop) (vs : List Value) (R : Tok → Value) : Prop :=
  ∀ (dp un : Nat) (gd : Option (List Code)) (cn : PySem.Str) (cs : Scope) (a : Addr) (ccd : Value) (cl : List (PySem.Str × Addr)) (outer : List Env) (A₀ : Around) (base h₀ : Heap) (L : Addr) (m : PySem.Str → Option Value) (s : Shared) (Q E : Value → Shared → Prop),
    Below A₀ base outer h₀ → Fr h₀ L s.heap m → (hd.heap_39 w.params).In h₀ → News h₀ L s.heap news → Top hd.view_39 (looseW hd.view_39 []) mean mg mb h₀ → cs.kind = .function → pre → dp + n < recursionLimit → un + 8 * n < cLine →
    (∀ (t : Tok) (h' : Heap) (tk' : Nat), Fr h₀ L h' m → News h₀ L h' news → Q (R t) { s with heap := h', toks := tk' }) →
      wpAny (model PySem.Challenge.rw_mq0044_01.row.prog w) (ktrTop dp un gd cn cs L a ccd cl outer) (call (.ref f) vs) Q E s
theorem c_gen {w : World} {mean : ExcName → Option Value} {mg mb : PySem.Str → Option Value} {news : List (Addr × Obj)} {v : Int} {t : Tok} : Cl w mean mg mb 2 21 news True [.int v t] (fun t => .int (genCrc v) t) := by
  k_with_none
  (k_with "pyIter ref" => k_of "j" => k_state_short (fun pre crc => crc = itN crcStep pre.length v) "crc")
  (k_with "exec For Name Call cons nil" => k_of "j" => kpr_for)
  (k_with "state" => first | exact it_start | exact it_odd (by assumption) (by assumption) | exact it_even (by assumption) (by assumption))
  (k_with "tree" => exact gen_end (by assumption))
  unfold Cl
  k_fill
  intro dp un gd cn cs a ccd cl outer A₀ base h₀ L m s Q E k1 k2 k3 k4 k5 kK kp kd ku hret
  dsimp only at hret
  refine wpAny_call ?_
  (first | k_dflt cell_enter | ktn_no "the def is not entered")
  k_steps
  all_goals cb_end hret
local macro_rules | `(tactic| walk_at "call ref") => `(tactic| (k_here; (with_reducible show wpAny _ _ (call (Value.ref 21) _) _ _ _); k_dflt (refine' c_gen _ _ _ _ _ _ _ _ _ _ _ _ _ _ _ _ _ ?k1 ?k2 ?k3 ?k4 ?k5 ?kK ?kp ?kd ?ku ?_; (case k1 => k_asm); (case k2 => k_asm); (case k3 => k_asm); (case k4 => k_asm); (case k5 => k_asm); (case kK => first | exact rfl | assumption); (case kp => trivial); (case kd => ktr_room); (case ku => ktr_units)); (intro t9 h9 tk9 F9 N9; (try dsimp only); (try k_fold))))
theorem c_sum {w : World} {mean : ExcName → Option Value} {mg mb : PySem.Str → Option Value} {news : List (Addr × Obj)} {x : PySem.Str} {t : Tok} : Cl w mean mg mb 4 35 news True [.str x t] (fun t => .int (sumS x) t) := by
  k_with_none
  (k_with "pyIter str" => k_of "sign" => k_state (fun pre st => st = stI pre) "state")
  (k_with "state" => first | exact st_start | exact st_step (by assumption))
  (k_with "tree" => exact st_end (by assumption))
  unfold Cl
  k_fill
  intro dp un gd cn cs a ccd cl outer A₀ base h₀ L m s Q E k1 k2 k3 k4 k5 kK kp kd ku hret
  dsimp only at hret
  refine wpAny_call ?_
  (first | k_dflt cell_enter | ktn_no "the def is not entered")
  k_steps
  all_goals cb_end hret
theorem c_div {w : World} {mean : ExcName → Option Value} {mg mb : PySem.Str → Option Value} {news : List (Addr × Obj)} {v : Int} {t : Tok} : Cl w mean mg mb 2 42 news (0 ≤ v ∧ v < 4294967296) [.int v t] (fun t => .int (divI v) t) := by
  k_with_none
  (k_with "tree" => (unfold divI; omega))
  unfold Cl
  k_fill
  intro dp un gd cn cs a ccd cl outer A₀ base h₀ L m s Q E k1 k2 k3 k4 k5 kK kp kd ku hret
  dsimp only at hret
  refine wpAny_call ?_
  (first | k_dflt cell_enter | ktn_no "the def is not entered")
  k_steps
  all_goals cb_end hret
theorem c_mul {w : World} {mean : ExcName → Option Value} {mg mb : PySem.Str → Option Value} {news : List (Addr × Obj)} {v : Int} {t : Tok} : Cl w mean mg mb 2 49 news True [.int v t] (fun t => .int (mulI v) t) := by
  k_with_none
  (k_with "tree" => (unfold mulI; first | (rw [if_pos (by assumption)]) | (rw [if_neg (by assumption)])))
  unfold Cl
  k_fill
  intro dp un gd cn cs a ccd cl outer A₀ base h₀ L m s Q E k1 k2 k3 k4 k5 kK kp kd ku hret
  dsimp only at hret
  refine wpAny_call ?_
  (first | k_dflt cell_enter | ktn_no "the def is not entered")
  k_steps
  all_goals cb_end hret
local macro_rules | `(tactic| walk_at "call ref") => `(tactic| (k_here; (with_reducible show wpAny _ _ (call (Value.ref 49) _) _ _ _); k_dflt (refine' c_mul _ _ _ _ _ _ _ _ _ _ _ _ _ _ _ _ _ ?k1 ?k2 ?k3 ?k4 ?k5 ?kK ?kp ?kd ?ku ?_; (case k1 => k_asm); (case k2 => k_asm); (case k3 => k_asm); (case k4 => k_asm); (case k5 => k_asm); (case kK => first | exact rfl | assumption); (case kp => trivial); (case kd => ktr_room); (case ku => ktr_units)); (intro t9 h9 tk9 F9 N9; (try dsimp only); (try k_fold))))
theorem c_sq {w : World} {mean : ExcName → Option Value} {mg mb : PySem.Str → Option Value} {news : List (Addr × Obj)} {v : Int} {t : Tok} : Cl w mean mg mb 4 56 news True [.int v t] (fun t => .int (sqI v) t) := by
  k_with_none
  (k_with "pyIter ref" => k_of "k" => k_state (fun pre made => made = sqL v pre) "made")
  (k_with "state" => first | exact sq_start | exact sq_odd (by assumption) (by assumption) | exact sq_even (by assumption) (by assumption))
  (k_with "tree" => exact sq_end (by assumption))
  unfold Cl
  k_fill
  intro dp un gd cn cs a ccd cl outer A₀ base h₀ L m s Q E k1 k2 k3 k4 k5 kK kp kd ku hret
  dsimp only at hret
  refine wpAny_call ?_
  (first | k_dflt cell_enter | ktn_no "the def is not entered")
  k_steps
  all_goals cb_end hret

-- 6. the plain law
/-- what is known of the law's text -/
structure TextMark (x : PySem.Str) : Prop where
  len : x.length ≤ 32
  codes : ∀ c ∈ x.cps.toList, 32 ≤ c ∧ c < 128
def xorOf (x : PySem.Str) : Int := Builtin.bitXor (sumS x) (sumS (lowS x))
def t1Of (x : PySem.Str) : Int := itN divI 34 (xorOf x)
def t2Of (x : PySem.Str) : Int := itN sqI 29 (t1Of x)
def bkStep (p : Int × PySem.Str) (c : Int) : Int × PySem.Str :=
  (p.1.fmod 2147483648 * 2, if 2147483648 ≤ p.1 then (⟨#[(c - 32).toNat]⟩ : PySem.Str) ++ p.2 else (⟨#[c.toNat]⟩ : PySem.Str) ++ p.2)
def bk (x : PySem.Str) (pre : List Int) : Int × PySem.Str := pre.foldl bkStep (t2Of x, PySem.Str.ofString "")
def revS (x : PySem.Str) : PySem.Str := ⟨x.cps.reverse⟩
theorem bk_snoc (x : PySem.Str) (pre : List Int) (c : Int) : bk x (pre ++ [c]) = bkStep (bk x pre) c := by simp [bk]

-- the law over lists of codes, the last sign first
def gN (v : Nat) : Nat := itf mulN 8 v
theorem gN_xor (a b : Nat) : gN (a ^^^ b) = gN a ^^^ gN b := itf_xor mulN_xor 8 a b
theorem gN_it (n v : Nat) : gN (itf mulN n v) = itf mulN (n + 8) v := (itf_add mulN n 8 v).symm
theorem gN_comm (n v : Nat) : gN (itf mulN n v) = itf mulN n (gN v) := by
  rw [gN_it, Nat.add_comm]
  exact itf_add mulN 8 n v
def runR (a : Nat) : List Nat → Nat
  | [] => a
  | c :: rs => gN (runR a rs ^^^ c)
def vN : List Nat → Nat
  | [] => 0
  | c :: rs => gN (vN rs ^^^ (c ^^^ low c))
theorem run_diff (a : Nat) : ∀ rs : List Nat, runR a rs ^^^ runR a (rs.map low) = vN rs
  | [] => Nat.xor_self a
  | c :: rs => by
    show gN (runR a rs ^^^ c) ^^^ gN (runR a (rs.map low) ^^^ low c) = gN (vN rs ^^^ (c ^^^ low c))
    rw [← gN_xor, ← run_diff a rs]
    congr 1
    ac_rfl
def cap (c : Nat) : Nat := if 65 ≤ c ∧ c ≤ 90 then 2147483648 else 0
theorem c_low : ∀ c, c < 128 → c ^^^ low c = itf mulN 26 (cap c) := by decide +kernel
def wR : Nat → List Nat → Nat
  | _, [] => 0
  | k, c :: rs => itf mulN (8 * k) (cap c) ^^^ wR (k + 1) rs
theorem gN_wR : ∀ (rs : List Nat) (k : Nat), gN (wR k rs) = wR (k + 1) rs
  | [], _ => (by decide : gN 0 = 0)
  | c :: rs, k => by
    show gN (itf mulN (8 * k) (cap c) ^^^ wR (k + 1) rs) = itf mulN (8 * (k + 1)) (cap c) ^^^ wR (k + 1 + 1) rs
    rw [gN_xor, gN_wR rs, gN_it]
    rfl
theorem vN_wR : ∀ rs : List Nat, (∀ c ∈ rs, c < 128) → vN rs = itf mulN 34 (wR 0 rs)
  | [], _ => by decide
  | c :: rs, h => by
    show gN (vN rs ^^^ (c ^^^ low c)) = itf mulN 34 (itf mulN (8 * 0) (cap c) ^^^ wR (0 + 1) rs)
    rw [c_low c (h c (List.mem_cons_self ..)), vN_wR rs fun d hd => h d (List.mem_cons_of_mem _ hd), gN_xor, gN_comm 34, gN_wR, gN_it, itf_xor mulN_xor, Nat.xor_comm]
    rfl
theorem cap_lt (c : Nat) : cap c < 2 ^ 32 := by unfold cap; split <;> decide
theorem wR_lt : ∀ (rs : List Nat) (k : Nat), wR k rs < 2 ^ 32
  | [], _ => (by decide : 0 < 2 ^ 32)
  | c :: rs, k => Nat.xor_lt_two_pow (itf_lt (fun _ h => mulN_lt h) _ _ (cap_lt c)) (wR_lt rs (k + 1))
def wdx : Nat → List Nat → Nat
  | _, [] => 0
  | k, c :: rs => (if 65 ≤ c ∧ c ≤ 90 then 2 ^ (31 - k) else 0) ^^^ wdx (k + 1) rs
theorem sq_wR : ∀ (rs : List Nat) (k : Nat), k + rs.length ≤ 32 → itf sqN 29 (wR k rs) = wdx k rs
  | [], _, _ => itf_zero sqN_zero 29
  | c :: rs, k, h => by
    rw [List.length_cons] at h
    show itf sqN 29 (itf mulN (8 * k) (cap c) ^^^ wR (k + 1) rs) = _ ^^^ wdx (k + 1) rs
    rw [itf_xor sqN_xor, sq_wR rs (k + 1) (by omega)]
    congr 1
    unfold cap
    split
    · exact chk_pow k (by omega)
    · rw [itf_zero mulN_zero, itf_zero sqN_zero]
theorem pow_xor : ∀ (i b : Nat), b < 2 ^ i → 2 ^ i ^^^ b = 2 ^ i + b
  | 0, b, h => by
    have : b = 0 := by omega
    subst this; rfl
  | i + 1, b, h => by
    have h1 : (2 ^ (i + 1) ^^^ b) / 2 = 2 ^ i + b / 2 := by
      rw [Nat.xor_div_two, ← pow_xor i (b / 2) (by omega)]
      congr 1
      omega
    have h2 := xor_mod2 (2 ^ (i + 1)) b
    have h3 : 2 ^ (i + 1) = 2 ^ i * 2 := Nat.pow_succ 2 i
    omega
def wd : List Nat → Nat
  | [] => 0
  | c :: rs => cap c + wd rs / 2
theorem wd_lt : ∀ rs : List Nat, wd rs < 2 ^ 32
  | [] => by decide
  | c :: rs => by
    have h := wd_lt rs
    show cap c + wd rs / 2 < 2 ^ 32
    have hc : cap c ≤ 2147483648 := by unfold cap; split <;> decide
    omega
theorem wdx_wd : ∀ (rs : List Nat) (k : Nat), k + rs.length ≤ 32 → wdx k rs = wd rs / 2 ^ k
  | [], k, _ => by
    show 0 = 0 / 2 ^ k
    rw [Nat.zero_div]
  | c :: rs, k, h => by
    rw [List.length_cons] at h
    show (if 65 ≤ c ∧ c ≤ 90 then 2 ^ (31 - k) else 0) ^^^ wdx (k + 1) rs = (cap c + wd rs / 2) / 2 ^ k
    rw [wdx_wd rs (k + 1) (by omega)]
    have e1 : wd rs / 2 ^ (k + 1) = wd rs / 2 / 2 ^ k := by
      rw [Nat.div_div_eq_div_mul, Nat.pow_succ, Nat.mul_comm]
    rw [e1]
    unfold cap
    have hp : 0 < 2 ^ k := Nat.pow_pos (by decide)
    have e2 : 2147483648 = 2 ^ (31 - k) * 2 ^ k := by
      rw [← Nat.pow_add, show 31 - k + k = 31 by omega]
    split
    · rw [e2, Nat.mul_comm, Nat.mul_add_div hp]
      refine pow_xor _ _ ?_
      rw [Nat.div_lt_iff_lt_mul hp, ← e2]
      have := wd_lt rs
      omega
    · rw [Nat.zero_xor, Nat.zero_add]
theorem wd_dvd : ∀ rs : List Nat, rs.length ≤ 32 → 2 ^ (32 - rs.length) ∣ wd rs
  | [], _ => ⟨0, rfl⟩
  | c :: rs, h => by
    rw [List.length_cons] at h
    obtain ⟨q, hq⟩ := wd_dvd rs (by omega)
    rw [List.length_cons]
    have e : 2 ^ (32 - rs.length) = 2 * 2 ^ (32 - (rs.length + 1)) := by
      rw [Nat.mul_comm, ← Nat.pow_succ]
      congr 1
      omega
    have h2 : wd rs / 2 = 2 ^ (32 - (rs.length + 1)) * q := by
      rw [hq, e, Nat.mul_assoc, Nat.mul_div_cancel_left _ (by decide)]
    show _ ∣ cap c + wd rs / 2
    rw [h2]
    refine Nat.dvd_add ?_ ⟨q, rfl⟩
    unfold cap
    split
    · have e3 : (2147483648 : Nat) = 2 ^ 31 := by decide
      rw [e3]
      exact Nat.pow_dvd_pow 2 (by omega)
    · exact ⟨0, rfl⟩
theorem wd_even {rs : List Nat} (h : rs.length ≤ 31) : wd rs / 2 * 2 = wd rs := by
  obtain ⟨q, hq⟩ := wd_dvd rs (by omega)
  have e : 2 ^ (32 - rs.length) = 2 * 2 ^ (31 - rs.length) := by
    rw [Nat.mul_comm, ← Nat.pow_succ]
    congr 1
    omega
  rw [e, Nat.mul_assoc] at hq
  omega
theorem t2_nat {rs : List Nat} (a : Nat) (hl : rs.length ≤ 32) (hc : ∀ c ∈ rs, c < 128) : itf sqN 29 (itf divN 34 (runR a rs ^^^ runR a (rs.map low))) = wd rs := by
  rw [run_diff, vN_wR rs hc, div_mul_it 34 _ (wR_lt rs 0), sq_wR rs 0 (by omega), wdx_wd rs 0 (by omega), Nat.pow_zero, Nat.div_one]
theorem gN_lt {v : Nat} (h : v < 2 ^ 32) : gN v < 2 ^ 32 := itf_lt (fun _ h => mulN_lt h) 8 v h
theorem runR_lt {a : Nat} (ha : a < 2 ^ 32) : ∀ rs : List Nat, (∀ c ∈ rs, c < 2 ^ 32) → runR a rs < 2 ^ 32
  | [], _ => ha
  | c :: rs, h => gN_lt (Nat.xor_lt_two_pow (runR_lt ha rs fun d hd => h d (List.mem_cons_of_mem _ hd)) (h c (List.mem_cons_self ..)))

-- from the program's ints to the numbers
theorem and_half (a b : Nat) : (a &&& b) = 2 * (a / 2 &&& b / 2) + (a % 2) * (b % 2) := by
  have h1 : (a &&& b) / 2 = a / 2 &&& b / 2 := Nat.and_div_two
  have h2 : (a &&& b) % 2 = (a % 2) * (b % 2) := by
    have h := @Nat.and_mod_two_pow a b 1
    rw [Nat.pow_one] at h
    rw [h]
    rcases bit_cases a with e | e <;> rcases bit_cases b with f | f <;> rw [e, f] <;> rfl
  omega
theorem xor_and : ∀ (n a b : Nat), a ≤ n → (a ^^^ b) + 2 * (a &&& b) = a + b
  | 0, a, b, h => by
    have : a = 0 := by omega
    subst this; simp
  | n + 1, a, b, h => by
    by_cases ha : a = 0
    · subst ha; simp
    · have ih := xor_and n (a / 2) (b / 2) (by omega)
      have h1 : (a ^^^ b) / 2 = a / 2 ^^^ b / 2 := Nat.xor_div_two
      have h2 := xor_mod2 a b
      have h3 := and_half a b
      rcases bit_cases a with e | e <;> rcases bit_cases b with f | f <;> rw [e, f] at h2 h3 <;> omega
theorem xor_cast (a b : Nat) : Builtin.bitXor (a : Int) (b : Int) = ((a ^^^ b : Nat) : Int) := by
  have h : Builtin.bitAnd (a : Int) (b : Int) = ((a &&& b : Nat) : Int) := by
    unfold Builtin.bitAnd
    have ha : decide ((0 : Int) ≤ (a : Int)) = true := by simp
    have hb : decide ((0 : Int) ≤ (b : Int)) = true := by simp
    rw [ha, hb]
    simp
  rw [bitXor_and, h]
  have := xor_and a a b (Nat.le_refl _)
  omega
theorem fdiv_cast (a b : Nat) : (a : Int).fdiv (b : Int) = ((a / b : Nat) : Int) := by
  rw [Int.fdiv_eq_ediv_of_nonneg _ (by omega)]; rfl
theorem fmod_cast (a b : Nat) : (a : Int).fmod (b : Int) = ((a % b : Nat) : Int) := by
  rw [Int.fmod_eq_emod_of_nonneg _ (by omega)]; rfl
theorem step_cast (v : Nat) : crcStep (v : Int) = ((mulN v : Nat) : Int) := by
  have e2 : (v : Int).fdiv 2 = ((v / 2 : Nat) : Int) := fdiv_cast v 2
  unfold crcStep mulN
  rw [bitAnd_m1, e2]
  rcases bit_cases v with e | e
  · rw [if_pos (by omega), e]; simp
  · rw [if_neg (by omega), e, Nat.one_mul]
    exact xor_cast (v / 2) 3988292384
theorem it_cast {f : Int → Int} {g : Nat → Nat} (h : ∀ v : Nat, f (v : Int) = ((g v : Nat) : Int)) : ∀ (n v : Nat), itN f n (v : Int) = ((itf g n v : Nat) : Int)
  | 0, _ => rfl
  | n + 1, v => by
    show f (itN f n (v : Int)) = ((g (itf g n v) : Nat) : Int)
    rw [it_cast h n v, h]
theorem gen_cast (v : Nat) : genCrc (v : Int) = ((gN v : Nat) : Int) := it_cast step_cast 8 v
theorem mul_cast (v : Nat) : mulI (v : Int) = ((mulN v : Nat) : Int) := by
  have e2 : (v : Int).fdiv 2 = ((v / 2 : Nat) : Int) := fdiv_cast v 2
  have e3 : (v : Int).fmod 2 = ((v % 2 : Nat) : Int) := fmod_cast v 2
  unfold mulI mulN
  rw [e2, e3]
  rcases bit_cases v with e | e
  · rw [if_neg (by omega), e]; simp
  · rw [if_pos (by omega), e, Nat.one_mul]
    exact xor_cast (v / 2) 3988292384
theorem div_cast (v : Nat) : divI (v : Int) = ((divN v : Nat) : Int) := by
  unfold divI divN
  by_cases h : 2147483648 ≤ v
  · rw [if_pos (by omega), if_pos h]
    have e : Builtin.bitXor (v : Int) 3988292384 = ((v ^^^ 3988292384 : Nat) : Int) := xor_cast v 3988292384
    rw [e]; omega
  · rw [if_neg (by omega), if_neg h]; omega
theorem sqstep_cast (v m k : Nat) : sqStep (v : Int) (m : Int) (k : Int) = ((mulN (mulN m) ^^^ ((v / 2 ^ k % 2) * 2147483648) : Nat) : Int) := by
  have e1 : (v : Int).fdiv (2 ^ (k : Int).toNat) = ((v / 2 ^ k : Nat) : Int) := by
    have e : ((2 : Int) ^ (k : Int).toNat) = ((2 ^ k : Nat) : Int) := by
      rw [Int.toNat_natCast]; simp
    rw [e, fdiv_cast]
  have e3 : ((v / 2 ^ k : Nat) : Int).fmod 2 = ((v / 2 ^ k % 2 : Nat) : Int) := fmod_cast _ 2
  unfold sqStep
  rw [e1, e3, mul_cast, mul_cast]
  rcases bit_cases (v / 2 ^ k) with e | e
  · rw [if_neg (by omega), e]; simp
  · rw [if_pos (by omega), e, Nat.one_mul]
    exact xor_cast _ 2147483648
theorem sqfold_cast (v : Nat) : ∀ (ks : List Nat) (m : Nat), (ks.map fun k => ((k : Nat) : Int)).foldl (sqStep (v : Int)) (m : Int) = ((sqNL v ks m : Nat) : Int)
  | [], _ => rfl
  | k :: ks, m => by
    rw [List.map_cons, List.foldl_cons, sqstep_cast, sqfold_cast v ks]
    rfl
theorem sq_cast (v : Nat) : sqI (v : Int) = ((sqN v : Nat) : Int) := by
  have e : rangeKs 0 32 = (List.range 32).map fun k => ((k : Nat) : Int) := by decide +kernel
  unfold sqI sqL
  rw [e]
  exact sqfold_cast v (List.range 32) 0
theorem st_cast : ∀ (rs : List Nat), (rs.reverse.map fun c => ((c : Nat) : Int)).foldl (fun st c => genCrc (Builtin.bitXor st c)) 4294967295 = ((runR 4294967295 rs : Nat) : Int)
  | [] => rfl
  | c :: rs => by
    rw [List.reverse_cons, List.map_append, List.foldl_append, st_cast rs]
    show genCrc (Builtin.bitXor ((runR 4294967295 rs : Nat) : Int) ((c : Nat) : Int)) = _
    rw [xor_cast, gen_cast]
    rfl
theorem sum_cast (x : PySem.Str) : sumS x = ((runR 4294967295 x.cps.toList.reverse ^^^ 4294967295 : Nat) : Int) := by
  have h := st_cast x.cps.toList.reverse
  rw [List.reverse_reverse] at h
  have h' : stI (KStt.codes x) = ((runR 4294967295 x.cps.toList.reverse : Nat) : Int) := h
  unfold sumS
  rw [h']
  exact xor_cast _ 4294967295
theorem low_rev (x : PySem.Str) : (lowS x).cps.toList.reverse = x.cps.toList.reverse.map low := by simp [lowS]
theorem xorOf_cast (x : PySem.Str) : xorOf x = ((runR 4294967295 x.cps.toList.reverse ^^^ runR 4294967295 (x.cps.toList.reverse.map low) : Nat) : Int) := by
  unfold xorOf
  rw [sum_cast, sum_cast, xor_cast, low_rev]
  congr 1
  have e : ∀ a b f : Nat, (a ^^^ f) ^^^ (b ^^^ f) = a ^^^ b := by
    intro a b f
    rw [Nat.xor_comm b f, ← Nat.xor_assoc, Nat.xor_assoc a f f, Nat.xor_self, Nat.xor_zero]
  exact e _ _ _
theorem xor_range {x : PySem.Str} (hM : TextMark x) : 0 ≤ xorOf x ∧ xorOf x < 4294967296 := by
  rw [xorOf_cast]
  have h1 : ∀ c ∈ x.cps.toList.reverse, c < 2 ^ 32 := fun c hc => by
    have := (hM.codes c (List.mem_reverse.mp hc)).2
    omega
  have h2 : ∀ c ∈ x.cps.toList.reverse.map low, c < 2 ^ 32 := fun c hc => by
    obtain ⟨d, hd, rfl⟩ := List.mem_map.mp hc
    have := (hM.codes d (List.mem_reverse.mp hd)).2
    unfold low
    split <;> omega
  have := Nat.xor_lt_two_pow (runR_lt (a := 4294967295) (by decide) _ h1) (runR_lt (a := 4294967295) (by decide) _ h2)
  omega
theorem div_range {v : Int} (h0 : 0 ≤ v) (h1 : v < 4294967296) : 0 ≤ divI v ∧ divI v < 4294967296 := by
  obtain ⟨n, rfl⟩ := Int.eq_ofNat_of_zero_le h0
  rw [div_cast]
  have := divN_lt (v := n) (by omega)
  omega
theorem t2_cast {x : PySem.Str} (hM : TextMark x) : t2Of x = ((wd x.cps.toList.reverse : Nat) : Int) := by
  unfold t2Of t1Of
  rw [xorOf_cast, it_cast div_cast, it_cast sq_cast, t2_nat _ ?_ ?_]
  · have := hM.len
    rw [List.length_reverse, Array.length_toList]
    exact this
  · intro c hc
    exact (hM.codes c (List.mem_reverse.mp hc)).2
theorem bk_nat : ∀ (rs : List Nat) (b : PySem.Str), rs.length ≤ 32 → ((rs.map low).map fun c => ((c : Nat) : Int)).foldl bkStep (((wd rs : Nat) : Int), b) = (0, (⟨rs.reverse.toArray⟩ : PySem.Str) ++ b)
  | [], b, _ => by
    show ((((0 : Nat) : Int), b) : Int × PySem.Str) = (0, _)
    have e : (⟨([] : List Nat).reverse.toArray⟩ : PySem.Str) ++ b = b := PySem.Str.empty_append b
    rw [e]; rfl
  | c :: rs, b, h => by
    rw [List.length_cons] at h
    rw [List.map_cons, List.map_cons, List.foldl_cons]
    have hlt := wd_lt rs
    have hev := wd_even (rs := rs) (by omega)
    have e1 : (((wd (c :: rs) : Nat) : Int)).fmod 2147483648 * 2 = ((wd rs : Nat) : Int) := by
      have e : (((wd (c :: rs) : Nat) : Int)).fmod 2147483648 = ((wd (c :: rs) % 2147483648 : Nat) : Int) := fmod_cast _ 2147483648
      rw [e]
      have e2 : wd (c :: rs) % 2147483648 = wd rs / 2 := by
        show (cap c + wd rs / 2) % 2147483648 = _
        unfold cap
        split <;> omega
      rw [e2]
      omega
    have key : bkStep (((wd (c :: rs) : Nat) : Int), b) ((low c : Nat) : Int) = (((wd rs : Nat) : Int), (⟨#[c]⟩ : PySem.Str) ++ b) := by
      unfold bkStep
      simp only []
      rw [e1]
      congr 1
      have hw : wd (c :: rs) = cap c + wd rs / 2 := rfl
      by_cases hc : 65 ≤ c ∧ c ≤ 90
      · have e3 : cap c = 2147483648 := if_pos hc
        have e4 : low c = c + 32 := if_pos hc
        rw [if_pos (by omega), e4]
        have e5 : (((c + 32 : Nat) : Int) - 32).toNat = c := by omega
        rw [e5]
      · have e3 : cap c = 0 := if_neg hc
        have e4 : low c = c := if_neg hc
        rw [if_neg (by omega), e4, Int.toNat_natCast]
    rw [key, bk_nat rs _ (by omega)]
    congr 1
    refine PySem.Str.ext' (Array.toList_inj.mp ?_)
    simp [PySem.Str.cps_append]
theorem law_plain {x : PySem.Str} (hM : TextMark x) : bk x (KStt.codes (revS (lowS x))) = (0, x) := by
  have e : KStt.codes (revS (lowS x)) = (x.cps.toList.reverse.map low).map fun c => ((c : Nat) : Int) := by
    unfold KStt.codes
    congr 1
    simp [revS, lowS]
  unfold bk
  rw [e, t2_cast hM, bk_nat _ _ ?_]
  · congr 1
    rw [List.reverse_reverse]
    have e0 : PySem.Str.ofString "" = PySem.Str.empty := by decide
    rw [e0, PySem.Str.append_empty]
  · have := hM.len
    rw [List.length_reverse, Array.length_toList]
    exact this

-- 7. the words' shows and the last steps
theorem gen_zero : genCrc 0 = 0 := by decide +kernel

-- the words' shows
theorem w1_start {x : PySem.Str} (hM : TextMark x) : Builtin.bitXor (sumS x) (sumS (lowS x)) = itN divI ([] : List Int).length (xorOf x) ∧ 0 ≤ Builtin.bitXor (sumS x) (sumS (lowS x)) ∧ Builtin.bitXor (sumS x) (sumS (lowS x)) < 4294967296 := ⟨rfl, xor_range hM⟩
theorem w1_step {x : PySem.Str} {told k : Int} {pre : List Int} (h : told = itN divI pre.length (xorOf x)) (h0 : 0 ≤ told) (h1 : told < 4294967296) :
    divI told = itN divI (pre ++ [k]).length (xorOf x) ∧ 0 ≤ divI told ∧ divI told < 4294967296 := ⟨it_step h rfl, div_range h0 h1⟩
theorem w2_start {x : PySem.Str} {told : Int} (h : told = itN divI (rangeKs 0 (34 - 0 : Int).toNat).length (xorOf x)) : told = itN sqI ([] : List Int).length (t1Of x) := by
  rw [rangeKs_length] at h
  exact h
theorem w2_step {x : PySem.Str} {told k : Int} {pre : List Int} (h : told = itN sqI pre.length (t1Of x)) : sqI told = itN sqI (pre ++ [k]).length (t1Of x) := it_step h rfl
theorem w3_start {x : PySem.Str} {told : Int} (h : told = itN sqI (rangeKs 0 (29 - 0 : Int).toNat).length (t1Of x)) :
    told = (bk x []).1 ∧ PySem.Str.ofString "" = (bk x []).2 ∧ (PySem.Str.ofString "").length = ([] : List Int).length := by
  rw [rangeKs_length] at h
  exact ⟨h, rfl, by decide⟩
theorem w3_cap {x back : PySem.Str} {told : Int} {n : Nat} {pre : List Int} (h1 : told = (bk x pre).1) (h2 : back = (bk x pre).2) (h3 : back.length = pre.length) (ht : 2147483648 ≤ told) :
    told.fmod 2147483648 * 2 = (bk x (pre ++ [(n : Int)])).1 ∧ (⟨#[((n : Int) - 32).toNat]⟩ : PySem.Str) ++ back = (bk x (pre ++ [(n : Int)])).2 ∧ ((⟨#[((n : Int) - 32).toNat]⟩ : PySem.Str) ++ back).length = (pre ++ [(n : Int)]).length := by
  rw [bk_snoc]
  refine ⟨by rw [h1]; rfl, ?_, ?_⟩
  · rw [h1] at ht
    rw [h2]; unfold bkStep; simp only [if_pos ht]
  · rw [PySem.Str.length_append, h3, List.length_append]
    have e : PySem.Str.length ⟨#[((n : Int) - 32).toNat]⟩ = 1 := rfl
    rw [e, List.length_singleton]; omega
theorem w3_else {x back : PySem.Str} {told : Int} {n : Nat} {pre : List Int} (h1 : told = (bk x pre).1) (h2 : back = (bk x pre).2) (h3 : back.length = pre.length) (ht : ¬ 2147483648 ≤ told) :
    told.fmod 2147483648 * 2 = (bk x (pre ++ [(n : Int)])).1 ∧ (⟨#[n]⟩ : PySem.Str) ++ back = (bk x (pre ++ [(n : Int)])).2 ∧ ((⟨#[n]⟩ : PySem.Str) ++ back).length = (pre ++ [(n : Int)]).length := by
  rw [bk_snoc]
  refine ⟨by rw [h1]; rfl, ?_, ?_⟩
  · rw [h1] at ht
    rw [h2]; unfold bkStep; simp only [if_neg ht]; rfl
  · rw [PySem.Str.length_append, h3, List.length_append]
    have e : PySem.Str.length ⟨#[n]⟩ = 1 := rfl
    rw [e, List.length_singleton]; omega
theorem low_code {x : PySem.Str} (hM : TextMark x) {pre post : List Int} {n : Nat} (h : KStt.codes (revS (lowS x)) = pre ++ (n : Int) :: post) : 32 ≤ n ∧ n < 160 := by
  have hm : (n : Int) ∈ KStt.codes (revS (lowS x)) := by rw [h]; simp
  unfold KStt.codes at hm
  obtain ⟨c, hc, e⟩ := List.mem_map.mp hm
  have e' : c = n := by omega
  subst e'
  have hc' : c ∈ x.cps.toList.map low := by
    have : (revS (lowS x)).cps.toList = (x.cps.toList.map low).reverse := by simp [revS, lowS]
    rw [this] at hc
    exact List.mem_reverse.mp hc
  obtain ⟨d, hd, rfl⟩ := List.mem_map.mp hc'
  have := hM.codes d hd
  unfold low
  split <;> omega
theorem rev_length (x : PySem.Str) : (revS x).length = x.length := by
  show x.cps.reverse.size = x.cps.size
  simp
section
variable {prog : Program} {w : World} {A : Around} {E : Value → Shared → Prop} {s : Shared} {h₀ : Heap} {L : Addr} {m : PySem.Str → Option Value} {news : List (Addr × Obj)} {Q : Value → Shared → Prop}
theorem rev_eq (x : PySem.Str) (u : Tok) : Txt.sliceBy x none none (-1, u) = revS x := by
  refine PySem.Str.ext' (Array.toList_inj.mp ?_)
  rw [step_rev_list]
  show _ = x.cps.reverse.toList
  apply List.ext_getElem
  · simp [PySem.Str.length]
  · intro i h1 h2
    have hi : i < x.cps.size := by simpa [PySem.Str.length] using h1
    simp [PySem.Str.length, Array.getD]
    have : x.cps.size - 1 - i < x.cps.size := by omega
    simp [this]
theorem my_rev {value slice : PySem.Expr} {x : PySem.Str} {t : Tok} {k : Int} {uk : Tok} (hF : Fr h₀ L s.heap m) (hN : News h₀ L s.heap news) (hk : k = -1) (hl : x.length ≤ 32)
    (h : ∀ h' t' c, Fr h₀ L h' m → News h₀ L h' news → Q (.str (revS x) t') { s with heap := h', toks := c })
    (hs : subscripted slice false (.str x t) (.ref s.heap.objs.size) = operate [.ref s.heap.objs.size, .str x t] (getItem (.str x t) (.ref s.heap.objs.size)))
    (ht : ∀ r, letTemporaryGo value (.str x t) r = pure ()) :
    wpAny (model prog w) A (subscriptTail value slice (.str x t) (.ref s.heap.objs.size)) Q E { s with heap := s.heap.push { cls := .type "slice", data := .fields #[.none, .none, .int k uk] } } := by
  subst hk
  exact slice_strK_nn hF hN (by decide) (by rw [rev_eq]; exact h) hs ht (by rw [sizeLine_eq]; omega)
theorem chr_low {x : PySem.Str} {pre post : List Int} {n : Nat} {t : Tok} (hM : TextMark x) (h : KStt.codes (revS (lowS x)) = pre ++ (n : Int) :: post) (hq : Q (.str ⟨#[((n : Int) - 32).toNat]⟩ s.toks) { s with toks := s.toks + 1 }) :
    wpAny (model prog w) A (call (.builtin "chr") [.int ((n : Int) - 32) t]) Q E s := by
  have hc := low_code hM h
  exact chr_of_range (by omega) (by omega) hq
theorem add_back {x back : PySem.Str} {pre post : List Int} {c : Nat} {t u : Tok} (hM : TextMark x) (hk : (revS (lowS x)).length = pre.length + (post.length + 1)) (hb : back.length = pre.length)
    (hq : ∀ t' k, Q (.str ((⟨#[c]⟩ : PySem.Str) ++ back) t') { s with toks := k }) : wpAny (model prog w) A (binaryOp .Add (.str ⟨#[c]⟩ t) (.str back u)) Q E s := by
  have e : PySem.Str.length ⟨#[c]⟩ = 1 := rfl
  have hl := hM.len
  rw [rev_length, lowS_length] at hk
  exact KOpn.add (by rw [e]; omega) fun t' k _ => hq t' k
theorem eq_back {x back : PySem.Str} {t u : Tok} (hM : TextMark x) (hb : back = (bk x (KStt.codes (revS (lowS x)))).2) (h : Q (.bool true) s) : wpAny (model prog w) A (compareOp .Eq (.str back t) (.str x u)) Q E s := by
  rw [law_plain hM] at hb
  subst hb
  exact eq_str (by simpa using h)
theorem eq_told {x : PySem.Str} {told z : Int} {t u : Tok} (hM : TextMark x) (hb : told = (bk x (KStt.codes (revS (lowS x)))).1) (hz : z = 0) (h : Q (.bool true) s) : wpAny (model prog w) A (compareOp .Eq (.int told t) (.int z u)) Q E s := by
  rw [law_plain hM] at hb
  subst hb
  subst hz
  exact eq_int (by simpa using h)
theorem eq_gen {z : Int} {t u : Tok} (hz : z = 0) (h : Q (.bool true) s) : wpAny (model prog w) A (compareOp .Eq (.int (genCrc 0) t) (.int z u)) Q E s := by
  rw [gen_zero]
  subst hz
  exact eq_int (by simpa using h)
theorem add_zip {x : PySem.Str} {ns : List Int} {t u : Tok} (h1 : x.length = (ns.take 24).length) (h2 : ∀ c ∈ x.cps.toList, 32 ≤ c ∧ c < 128)
    (h : ∀ X t' k, TextMark X → Q (.str X t') { s with toks := k }) : wpAny (model prog w) A (binaryOp .Add (.str x t) (.str (PySem.Str.ofString "Zip Doc.") u)) Q E s := by
  have e : (PySem.Str.ofString "Zip Doc.").length = 8 := by decide
  have hl : (x ++ PySem.Str.ofString "Zip Doc.").length ≤ 32 := by
    rw [PySem.Str.length_append, e, h1, List.length_take]
    omega
  refine KOpn.add (by rw [e, h1, List.length_take]; omega) fun t' k _ => h _ t' k ⟨hl, fun c hc => ?_⟩
  rw [PySem.Str.cps_append, Array.toList_append, List.mem_append] at hc
  rcases hc with hc | hc
  · exact h2 c hc
  · exact (by decide : ∀ c ∈ (PySem.Str.ofString "Zip Doc.").cps.toList, 32 ≤ c ∧ c < 128) c hc
end
theorem tx_start : (PySem.Str.ofString "").length = ([] : List Int).length ∧ ∀ c ∈ (PySem.Str.ofString "").cps.toList, 32 ≤ c ∧ c < 128 := by decide
theorem tx_step {text : PySem.Str} {pre : List Int} {n v : Int} (h1 : text.length = pre.length) (h2 : ∀ c ∈ text.cps.toList, 32 ≤ c ∧ c < 128) (hv0 : 32 ≤ v) (hv : v < 128) :
    (text ++ (⟨#[v.toNat]⟩ : PySem.Str)).length = (pre ++ [n]).length ∧ ∀ c ∈ (text ++ (⟨#[v.toNat]⟩ : PySem.Str)).cps.toList, 32 ≤ c ∧ c < 128 := by
  refine ⟨?_, fun c hc => ?_⟩
  · have e : PySem.Str.length ⟨#[v.toNat]⟩ = 1 := rfl
    rw [PySem.Str.length_append, e, h1, List.length_append]; rfl
  · rw [PySem.Str.cps_append, Array.toList_append, List.mem_append] at hc
    rcases hc with hc | hc
    · exact h2 c hc
    · have e : c = v.toNat := by simpa using hc
      omega

-- 8. the walk
local macro_rules | `(tactic| walk_at "StarOf ref") => `(tactic| (k_here; k_dflt (refine' my_star ?k1 ?k2 ?m ?s ?p ?_; (case k1 => k_asm); (case k2 => k_asm); (case m => k_mem); (case s => assumption); (case p => assumption); k_whole); intro h' hS' F' N'; (try k_sweep); try dsimp only [List.nil_append, List.cons_append]))
local macro_rules | `(tactic| k_enter) => `(tactic| (kp_kind "rest"; (fail_if_success k_inElt); (refine' kp_rest (g₁ := repG ?v9) (binds := repB ?v9) ?k1 ?k2 ?k3 ?k4 ?k5 ?kA ?kF ?kK ?k6 ?k7 ?k8 ?kV ?kP ?kG ?kB ?_ ?c2 ?c3 ?c4 ?c5; (case kA => exact rfl); (case kF => exact rfl); (case kK => exact rfl); (case k1 => k_asm); (case k2 => k_asm); (case k3 => k_asm); (case k4 => k_asm); (case k5 => k_asm); (case k6 => k_is); (case k7 => k_is); (case k8 => k_room); (case kV => exact drop_one); (case kP => ((obtain ⟨f9, hf9⟩ := as_map (by assumption)); (rw [hf9]); exact rfl)); (case kG => exact fun _ => rfl); (case kB => exact fun _ => locs rfl); (case c5 => decide); (case c2 => exact rfl); (case c3 => exact rfl); (case c4 => exact rfl); k_whole; intro D' g' L' h' l1 FG' F' N' B' X' T'; (try k_lt l1); (try dsimp only); (try k_lift B'); (try k_fold))))
local macro_rules | `(tactic| kst_facts1) => `(tactic| exact PyProof.Rows.StrsAre.append' (PyProof.Rows.StrsAre.append' (by assumption) (.cons _ _ .nil)) (.cons _ _ .nil))
local macro_rules | `(tactic| walk_at "call ref") => `(tactic| (k_here; (with_reducible show wpAny _ _ (call (Value.ref _) (_ :: (_ ++ []))) _ _ _); (rw [List.append_nil])))
local macro_rules | `(tactic| walk_at "binaryOp Add str str") => `(tactic| (k_here; (with_reducible show wpAny _ _ (binaryOp Operator.Add (Value.str _ _) (Value.str (PySem.Str.ofString "Zip Doc.") _)) _ _ _); (refine add_zip (by assumption) (by assumption) ?_); intro X' t' k' hM'; (have hL' := hM'.len)))
local macro_rules | `(tactic| walk_at "exec While Name cons nil") => `(tactic| (k_here; (with_reducible show wpAny _ _ (exec (Stmt.While (PySem.Expr.Name _ _) _ [] _) _) _ _ _); (with_unfolding_all refine' while_low ?F ?N ?hx ?ha ?hs ?hl ?_ ?_ (by passes_own)); (case F => k_asm); (case N => k_asm); (case hx => with_unfolding_all rfl); (case ha => with_unfolding_all rfl); (case hs => assumption); (case hl => exact TextMark.len (by assumption)); (all_goals k_whole); (rotate_left; (intro t' a' h' tk' F' N'; (try k_sweep); (try k_fold)); rotate_left; (intro x' t' a' k' ws' tc' td' h' tk' hx' hw' F' N'; (try k_sweep); (try k_fold)))))
local macro_rules | `(tactic| walk_at "truthy ref") => `(tactic| (k_here; (with_reducible show wpAny _ _ (truthy (Value.ref _)) _ _ _); k_dflt (first | (refine' my_true ?N ?m ?z ?_; (case N => k_asm); (case m => k_mem); (case z => assumption); k_whole) | (refine' my_false ?N ?m ?_; (case N => k_asm); (case m => k_mem); k_whole))))
local macro_rules | `(tactic| walk_at "subscriptTail Name Constant ref int") => `(tactic| (k_here; (with_reducible show wpAny _ _ (subscriptTail _ _ (Value.ref _) (Value.int _ _)) _ _ _); k_dflt (refine' my_item ?N ?m ?k ?_ ?s; (case N => k_asm); (case m => k_mem); (case k => with_unfolding_all rfl); (case s => with_unfolding_all rfl); k_whole)))
local macro_rules | `(tactic| walk_at "subscriptTail Name Slice ref ref") => `(tactic| (k_here; (with_reducible show wpAny _ _ (subscriptTail _ (PySem.Expr.Slice _ _ none _) (Value.ref _) (Value.ref _)) _ _ _); k_dflt (refine' my_slice ?F ?N ?m ?z ?_ ?s ?t; (case F => k_asm); (case N => k_asm); (case m => k_mem); (case z => assumption); (case s => with_unfolding_all rfl); (case t => kmk_pure)); intro D' h' F' N' l1; (try k_lt l1); (try k_sweep)))
local macro_rules | `(tactic| walk_at "call builtin:str.split") => `(tactic| (k_here; (with_reducible show wpAny _ _ (call (Value.builtin "str.split") [Value.str _ _, Value.str _ _]) _ _ _); (refine my_split (by k_asm) (by k_asm) (by assumption) ?_; (intro D' l' h' k' e' F' N' l1); (try k_lt l1); (try k_sweep))))
local macro_rules | `(tactic| walk_at "call builtin:str.join") => `(tactic| (k_here; (with_reducible show wpAny _ _ (call (Value.builtin "str.join") _) _ _ _); (show wpAny _ _ (call (Value.builtin "str.join") [Value.str _ _, Value.ref _]) _ _ _); k_dflt (refine' my_join ?N ?m ?e ?y ?x ?_; (case N => k_asm); (case m => k_mem); (case e => assumption); (case y => rfl); (case x => assumption)); intro t' k'))
local macro_rules | `(tactic| walk_at "RepPost") => `(tactic| (dsimp only [RepPost]))
local macro_rules | `(tactic| walk_at "RepEnd") => `(tactic| (refine RepEnd.intro (by assumption) (by assumption) (by with_unfolding_all rfl) (by kst_allIn) (by with_unfolding_all rfl) (by intro z h1 h2; simp [h1, h2])))
local macro_rules | `(tactic| walk_at "eval ListComp") => `(tactic| (k_here; k_dflt (refine ListComp_text (F₀ := by k_asm) (by with_unfolding_all rfl) (by decide) (by rfl) (by decide) (by rfl) ?_)))
local macro_rules | `(tactic| walk_at "TextSrc") => `(tactic| (k_here; k_dflt (refine' TextSrc.intro ?h ?F ?N ?l ?c ?_ ?_; (case h => rfl); (case F => k_asm); (case N => k_asm); (case l => assumption); (case c => exact fun c9 h9 => (TextMark.codes (by assumption) c9 h9).2)); (rotate_left; (intro D' h' tk' ys' hs' F' N' off'; (try k_sweep); (try simp only [LCg.Off1, and_true] at off'); (try k_fold)); rotate_left; (intro c' tc' I' oI' C' oC' D' m' ys' h' tk' E' hc' hC' hx' F' N' off' ne'; (try simp only [LCg.Off3, and_true] at off'); (try k_fold)))))
local macro_rules | `(tactic| walk_at "call builtin:str.join") => `(tactic| (k_here; (with_reducible show wpAny _ _ (call (Value.builtin "str.join") _) _ _ _); (show wpAny _ _ (call (Value.builtin "str.join") [Value.str _ _, Value.ref _]) _ _ _); k_dflt (refine' my_join0 ?N ?m ?e ?y ?x ?_; (case N => k_asm); (case m => k_mem); (case e => assumption); (case y => with_reducible rfl); (case x => assumption)); intro t' k'))
local macro_rules | `(tactic| walk_at "compareOp NotEq str str") => `(tactic| (k_here; (with_reducible refine ne_same ?_)))
local macro_rules | `(tactic| walk_at "KCtEl") => `(tactic| first | exact el_1 (by assumption) | exact el_2 (by assumption) | exact el_3 (by assumption) (by assumption))
local macro_rules | `(tactic| walk_at "call ref") => `(tactic| (k_here; (with_reducible show wpAny _ _ (call (Value.ref 21) _) _ _ _); k_dflt (refine' c_gen _ _ _ _ _ _ _ _ _ _ _ _ _ _ _ _ _ ?k1 ?k2 ?k3 ?k4 ?k5 ?kK ?kp ?kd ?ku ?_; (case k1 => k_asm); (case k2 => k_asm); (case k3 => k_asm); (case k4 => k_asm); (case k5 => k_asm); (case kK => first | exact rfl | assumption); (case kp => trivial); (case kd => ktr_room); (case ku => ktr_units)); (intro t9 h9 tk9 F9 N9; (try dsimp only); (try k_fold))))
local macro_rules | `(tactic| walk_at "call ref") => `(tactic| (k_here; (with_reducible show wpAny _ _ (call (Value.ref 35) _) _ _ _); k_dflt (refine' c_sum _ _ _ _ _ _ _ _ _ _ _ _ _ _ _ _ _ ?k1 ?k2 ?k3 ?k4 ?k5 ?kK ?kp ?kd ?ku ?_; (case k1 => k_asm); (case k2 => k_asm); (case k3 => k_asm); (case k4 => k_asm); (case k5 => k_asm); (case kK => first | exact rfl | assumption); (case kp => trivial); (case kd => ktr_room); (case ku => ktr_units)); (intro t9 h9 tk9 F9 N9; (try dsimp only); (try k_fold))))
local macro_rules | `(tactic| walk_at "call ref") => `(tactic| (k_here; (with_reducible show wpAny _ _ (call (Value.ref 42) _) _ _ _); k_dflt (refine' c_div _ _ _ _ _ _ _ _ _ _ _ _ _ _ _ _ _ ?k1 ?k2 ?k3 ?k4 ?k5 ?kK ?kp ?kd ?ku ?_; (case k1 => k_asm); (case k2 => k_asm); (case k3 => k_asm); (case k4 => k_asm); (case k5 => k_asm); (case kK => first | exact rfl | assumption); (case kp => exact ⟨by assumption, by assumption⟩); (case kd => ktr_room); (case ku => ktr_units)); (intro t9 h9 tk9 F9 N9; (try dsimp only); (try k_fold))))
local macro_rules | `(tactic| walk_at "call ref") => `(tactic| (k_here; (with_reducible show wpAny _ _ (call (Value.ref 56) _) _ _ _); k_dflt (refine' c_sq _ _ _ _ _ _ _ _ _ _ _ _ _ _ _ _ _ ?k1 ?k2 ?k3 ?k4 ?k5 ?kK ?kp ?kd ?ku ?_; (case k1 => k_asm); (case k2 => k_asm); (case k3 => k_asm); (case k4 => k_asm); (case k5 => k_asm); (case kK => first | exact rfl | assumption); (case kp => trivial); (case kd => ktr_room); (case ku => ktr_units)); (intro t9 h9 tk9 F9 N9; (try dsimp only); (try k_fold))))
local macro_rules | `(tactic| walk_at "subscriptTail Name Slice str ref") => `(tactic| (k_here; (with_reducible show wpAny _ _ (subscriptTail _ (PySem.Expr.Slice none none (some _) _) _ _) _ _ _); k_dflt (refine' my_rev (s := ⟨_, _, _, _, _⟩) ?F ?N ?k ?l ?_ ?s ?t; (case F => k_asm); (case N => k_asm); (case k => rfl); (case l => (rw [lowS_length]; assumption)); (case s => with_unfolding_all rfl); (case t => (intro _; with_unfolding_all rfl))); intro h' t' c' F' N'; (try k_sweep)))
local macro_rules | `(tactic| walk_at "compareOp Eq str str") => `(tactic| (k_here; (with_reducible show wpAny _ _ (compareOp CmpOp.Eq (Value.str _ _) (Value.str _ _)) _ _ _); (refine eq_back (by assumption) (by assumption) ?_)))
local macro_rules | `(tactic| walk_at "compareOp Eq int int") => `(tactic| (k_here; (with_reducible show wpAny _ _ (compareOp CmpOp.Eq (Value.int _ _) (Value.int _ _)) _ _ _); (refine eq_told (by assumption) (by assumption) rfl ?_)))
local macro_rules | `(tactic| walk_at "compareOp Eq int int") => `(tactic| (k_here; (with_reducible show wpAny _ _ (compareOp CmpOp.Eq (Value.int (genCrc 0) _) (Value.int _ _)) _ _ _); (refine eq_gen rfl ?_)))
local macro_rules | `(tactic| walk_at "call builtin:chr") => `(tactic| (k_here; (with_reducible show wpAny _ _ (call (Value.builtin "chr") [Value.int (_ - _) _]) _ _ _); (refine chr_low (by assumption) (by assumption) ?_)))
local macro_rules | `(tactic| walk_at "binaryOp Add str str") => `(tactic| (k_here; (with_reducible show wpAny _ _ (binaryOp Operator.Add (Value.str (PySem.Str.mk _) _) (Value.str _ _)) _ _ _); (refine add_back (by assumption) (by assumption) (by assumption) ?_); intro t' k'))
theorem walked : PySem.Challenge.rw_mq0044_01.Holds := by
  k_with_none
  (k_with "pyIter ref" => k_of "x" => k_state (fun pre text => text.length = pre.length ∧ ∀ c ∈ text.cps.toList, 32 ≤ c ∧ c < 128) "text")
  (k_with "pyIter ref" => k_of "_" => k_state ((fun {x : PySem.Str} (_ : TextMark x) (pre : List Int) (told : Int) => told = itN sqI pre.length (t1Of x)) ‹TextMark _›) "told")
  (k_with "pyIter ref" => k_of "_" => k_state ((fun {x : PySem.Str} (_ : TextMark x) (pre : List Int) (told : Int) => told = itN divI pre.length (xorOf x) ∧ 0 ≤ told ∧ told < 4294967296) ‹TextMark _›) "told")
  (k_with "pyIter str" => k_of "sign" => k_state ((fun {x : PySem.Str} (_ : TextMark x) (pre : List Int) (told : Int) (back : PySem.Str) => told = (bk x pre).1 ∧ back = (bk x pre).2 ∧ back.length = pre.length) ‹TextMark _›) "told" "back")
  (k_with "pyIter ref" => k_of "k" => k_state (fun pre pairs => pairs = prs pre ∧ pairs.length = 2 * pre.length) "pairs$")
  (k_with "state" => first | exact prs_start | exact tx_start | exact tx_step (by assumption) (by assumption) (by ((try k_fmods); (try law_fm); omega)) (by ((try k_fmods); (try law_fm); omega)) | exact w1_start (by assumption) | exact w2_start (by assumption) | exact w3_start (by assumption) | exact w1_step (by assumption) (by assumption) (by assumption) | exact w2_step (by assumption) | exact w3_cap (by assumption) (by assumption) (by assumption) (by assumption) | exact w3_else (by assumption) (by assumption) (by assumption) (by omega) | exact prs_step (by assumption))
  exact hd (by w_strict (k_go0; (all_goals try k_fold); k_steps))
end Mine

theorem PySem.Challenge.cw_mq0044_01_holds : PySem.Challenge.rw_mq0044_01.Holds := by
  exact Mine.walked
