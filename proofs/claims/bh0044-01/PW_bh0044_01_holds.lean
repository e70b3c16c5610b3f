import PyProof.Rows.All
import Wide.All
import OpenK.AllK
import Wide.FinOn
import KE.KPairComp
import Lean
import PySem.Challenge.RW_bh0044_01
/-! The law of crc_update. In four parts: a small logic for the walk («Ev», «Xn», «Xs»: what a step gives at any heap that keeps a given one),
the plain law of the sum (namespace Mine, «crcN», «octs»), the functions of the text, each once, and the law's own statements. -/
set_option Elab.async false
set_option maxRecDepth 100000
set_option linter.unusedVariables false
namespace Mine
/-- the polynomial, turned -/
noncomputable def pol : Nat := 2197175160
noncomputable def msk : Nat := 4294967295
noncomputable def gg (x : Nat) : Nat := (x >>> 1) ^^^ (if x % 2 = 1 then pol else 0)
noncomputable def gk : Nat → Nat → Nat
  | 0, x => x
  | k + 1, x => gk k (gg x)

theorem xor_mod2 (a b : Nat) : (a ^^^ b) % 2 = (a % 2) ^^^ (b % 2) := by
  have := Nat.xor_mod_two_pow (a := a) (b := b) (n := 1)
  simpa using this
theorem gg_xor (a b : Nat) : gg (a ^^^ b) = gg a ^^^ gg b := by
  unfold gg
  rw [Nat.shiftRight_xor_distrib, xor_mod2]
  rcases Nat.mod_two_eq_zero_or_one a with ha | ha <;> rcases Nat.mod_two_eq_zero_or_one b with hb | hb <;> simp only [ha, hb]
  · simp
  · simp [Nat.xor_assoc]
  · simp only [Nat.xor_zero, if_true, show ¬ (0 = 1) by decide, if_false]
    rw [Nat.xor_assoc, Nat.xor_assoc, Nat.xor_comm (b >>> 1) pol]
  · simp only [Nat.xor_self, show ¬ (0 = 1) by decide, if_false, if_true, Nat.xor_zero]
    rw [Nat.xor_assoc, ← Nat.xor_assoc pol, Nat.xor_comm pol, Nat.xor_assoc (b >>> 1), Nat.xor_self, Nat.xor_zero]
theorem gg_zero : gg 0 = 0 := by decide
theorem gg_double (y : Nat) : gg (2 * y) = y := by
  unfold gg
  have h : ¬ (2 * y) % 2 = 1 := by omega
  rw [if_neg h, Nat.xor_zero, Nat.shiftRight_eq_div_pow]
  omega
theorem gg_lt {x : Nat} (h : x < 2 ^ 32) : gg x < 2 ^ 32 := by
  unfold gg
  apply Nat.xor_lt_two_pow
  · rw [Nat.shiftRight_eq_div_pow]; omega
  · split <;> decide
theorem xor_eq_zero {a b : Nat} (h : a ^^^ b = 0) : a = b := by
  have e : a ^^^ b ^^^ b = 0 ^^^ b := congrArg (· ^^^ b) h
  rw [Nat.xor_assoc, Nat.xor_self, Nat.xor_zero, Nat.zero_xor] at e
  exact e
theorem gg_inj {x : Nat} (h : x < 2 ^ 32) (e : gg x = 0) : x = 0 := by
  unfold gg at e
  replace e := xor_eq_zero e
  rw [Nat.shiftRight_eq_div_pow] at e
  split at e
  · exfalso
    unfold pol at e
    omega
  · omega
theorem gk_xor : ∀ (k a b : Nat), gk k (a ^^^ b) = gk k a ^^^ gk k b
  | 0, _, _ => rfl
  | k + 1, a, b => by
    unfold gk
    rw [gg_xor, gk_xor k]
theorem gk_zero : ∀ k, gk k 0 = 0
  | 0 => rfl
  | k + 1 => by unfold gk; rw [gg_zero, gk_zero k]
theorem gk_lt : ∀ (k : Nat) {x : Nat}, x < 2 ^ 32 → gk k x < 2 ^ 32
  | 0, _, h => h
  | k + 1, _, h => gk_lt k (gg_lt h)
theorem gk_inj : ∀ (k : Nat) {x : Nat}, x < 2 ^ 32 → gk k x = 0 → x = 0
  | 0, _, _, e => e
  | k + 1, _, h, e => gg_inj h (gk_inj k (gg_lt h) e)
theorem gk_add : ∀ (j k x : Nat), gk (j + k) x = gk k (gk j x)
  | 0, k, x => by rw [Nat.zero_add]; rfl
  | j + 1, k, x => by
    rw [show j + 1 + k = (j + k) + 1 by omega]
    show gk (j + k) (gg x) = gk k (gk j (gg x))
    exact gk_add j k _
theorem gk_shift : ∀ (k y : Nat), gk k (2 ^ k * y) = y
  | 0, y => by simp [gk]
  | k + 1, y => by
    show gk k (gg (2 ^ (k + 1) * y)) = y
    rw [show 2 ^ (k + 1) * y = 2 * (2 ^ k * y) by rw [Nat.pow_succ, Nat.mul_comm (2 ^ k) 2, Nat.mul_assoc], gg_double, gk_shift k]
theorem low_xor {b : Nat} (v : Nat) (hb : b < 256) : b + 256 * v = b ^^^ (256 * v) := by
  have := Nat.two_pow_add_eq_or_of_lt (i := 8) (b := b) (by simpa using hb) v
  rw [show (256 : Nat) = 2 ^ 8 by decide, Nat.add_comm, this]
  apply Nat.eq_of_testBit_eq
  intro i
  rw [Nat.testBit_or, Nat.testBit_xor, Nat.testBit_two_pow_mul]
  by_cases hi : 8 ≤ i
  · have : b.testBit i = false := Nat.testBit_lt_two_pow (Nat.lt_of_lt_of_le (by simpa using hb) (Nat.pow_le_pow_right (by decide) hi))
    simp [this]
  · simp [hi]
/-- one octet's turn by the table -/
theorem turn_eq (c b : Nat) (hb : b < 256) : gk 8 ((c ^^^ b) % 256) ^^^ (c / 256) = gk 8 (c ^^^ b) := by
  have h := Nat.mod_add_div (c ^^^ b) 256
  have h2 := low_xor ((c ^^^ b) / 256) (Nat.mod_lt (c ^^^ b) (by decide : 0 < 256))
  have h3 : gk 8 (256 * ((c ^^^ b) / 256)) = (c ^^^ b) / 256 := gk_shift 8 _
  have h4 : (c ^^^ b) / 256 = c / 256 := by
    have e := Nat.shiftRight_xor_distrib (a := c) (b := b) (i := 8)
    rw [Nat.shiftRight_eq_div_pow, Nat.shiftRight_eq_div_pow, Nat.shiftRight_eq_div_pow] at e
    have e2 : b / 2 ^ 8 = 0 := Nat.div_eq_of_lt hb
    rw [e2, Nat.xor_zero] at e
    exact e
  conv => rhs; rw [← h, h2, gk_xor, h3, h4]

noncomputable def runC (c : Nat) (bs : List Nat) : Nat := bs.foldl (fun c b => gk 8 (c ^^^ b)) c
noncomputable def valLE (bs : List Nat) : Nat := bs.foldr (fun b v => b + 256 * v) 0
noncomputable def crcN (bs : List Nat) : Nat := runC msk bs ^^^ msk
noncomputable def updN (c : Nat) (bs : List Nat) : Nat := runC (c ^^^ msk) bs ^^^ msk
abbrev Oct (bs : List Nat) : Prop := ∀ b ∈ bs, b < 256

theorem runC_app (c : Nat) (a b : List Nat) : runC c (a ++ b) = runC (runC c a) b := List.foldl_append
theorem runC_eq : ∀ (bs : List Nat) (c : Nat), Oct bs → runC c bs = gk (8 * bs.length) (c ^^^ valLE bs)
  | [], c, _ => by simp [runC, valLE, gk]
  | b :: r, c, h => by
    have hb := h b (.head _)
    have ih := runC_eq r (gk 8 (c ^^^ b)) fun x hx => h x (.tail _ hx)
    have hv : valLE (b :: r) = b ^^^ (256 * valLE r) := low_xor _ hb
    show runC (gk 8 (c ^^^ b)) r = _
    rw [ih, hv, ← Nat.xor_assoc, List.length_cons, show 8 * (r.length + 1) = 8 + 8 * r.length by omega, gk_add, gk_xor 8 (c ^^^ b)]
    have h3 : gk 8 (256 * valLE r) = valLE r := gk_shift 8 _
    rw [h3]
theorem runC_lt {c : Nat} : ∀ (bs : List Nat), Oct bs → c < 2 ^ 32 → runC c bs < 2 ^ 32
  | [], _, h => h
  | b :: r, ho, h => by
    show runC (gk 8 (c ^^^ b)) r < _
    exact runC_lt r (fun x hx => ho x (.tail _ hx)) (gk_lt 8 (Nat.xor_lt_two_pow h (Nat.lt_trans (ho b (.head _)) (by decide))))
theorem msk_lt : msk < 2 ^ 32 := by decide
theorem crcN_lt {bs : List Nat} (h : Oct bs) : crcN bs < 2 ^ 32 := Nat.xor_lt_two_pow (runC_lt bs h msk_lt) msk_lt
theorem updN_lt {c : Nat} {bs : List Nat} (h : Oct bs) (hc : c < 2 ^ 32) : updN c bs < 2 ^ 32 := Nat.xor_lt_two_pow (runC_lt bs h (Nat.xor_lt_two_pow hc msk_lt)) msk_lt
theorem xor_xor_self (a b : Nat) : a ^^^ b ^^^ b = a := by rw [Nat.xor_assoc, Nat.xor_self, Nat.xor_zero]
theorem updN_zero (bs : List Nat) : updN 0 bs = crcN bs := by unfold updN crcN; rw [Nat.zero_xor]
theorem updN_updN (c : Nat) (a b : List Nat) : updN (updN c a) b = updN c (a ++ b) := by
  unfold updN
  rw [xor_xor_self, runC_app]
theorem crcN_nil : crcN [] = 0 := by decide
/-- what a state brings behind a row -/
theorem runC_diff {bs : List Nat} (h : Oct bs) (c d : Nat) : runC c bs ^^^ runC d bs = gk (8 * bs.length) (c ^^^ d) := by
  rw [runC_eq bs c h, runC_eq bs d h, ← gk_xor]
  congr 1
  rw [Nat.xor_assoc, ← Nat.xor_assoc (valLE bs), Nat.xor_comm (valLE bs) d, Nat.xor_assoc d, Nat.xor_self, Nat.xor_zero]
noncomputable def zipX (a b : List Nat) : List Nat := List.zipWith (· ^^^ ·) a b
theorem oct_zip : ∀ {a b : List Nat}, Oct a → Oct b → Oct (zipX a b)
  | [], _, _, _ => by intro x hx; simp [zipX] at hx
  | _ :: _, [], _, _ => by intro x hx; simp [zipX] at hx
  | x :: a, y :: b, h1, h2 => by
    intro z hz
    unfold zipX at hz
    rw [List.zipWith_cons_cons] at hz
    rcases List.mem_cons.mp hz with rfl | hz
    · exact Nat.xor_lt_two_pow (n := 8) (h1 x (.head _)) (h2 y (.head _))
    · exact oct_zip (a := a) (b := b) (fun q hq => h1 q (.tail _ hq)) (fun q hq => h2 q (.tail _ hq)) z hz
theorem val_zip : ∀ {a b : List Nat}, a.length = b.length → Oct a → Oct b → valLE (zipX a b) = valLE a ^^^ valLE b
  | [], [], _, _, _ => by decide
  | x :: a, y :: b, hl, h1, h2 => by
    have ih := val_zip (a := a) (b := b) (by simpa using hl) (fun q hq => h1 q (.tail _ hq)) (fun q hq => h2 q (.tail _ hq))
    have e1 : valLE (x :: a) = x ^^^ (256 * valLE a) := low_xor _ (h1 x (.head _))
    have e2 : valLE (y :: b) = y ^^^ (256 * valLE b) := low_xor _ (h2 y (.head _))
    have e3 : valLE (zipX (x :: a) (y :: b)) = (x ^^^ y) ^^^ (256 * valLE (zipX a b)) := low_xor _ (Nat.xor_lt_two_pow (n := 8) (h1 x (.head _)) (h2 y (.head _)))
    have e4 : 256 * (valLE a ^^^ valLE b) = (256 * valLE a) ^^^ (256 * valLE b) := by
      have := Nat.shiftLeft_xor_distrib (a := valLE a) (b := valLE b) (i := 8)
      simp only [Nat.shiftLeft_eq] at this
      rw [Nat.mul_comm 256, Nat.mul_comm 256, Nat.mul_comm 256]
      exact this
    rw [e3, ih, e1, e2, e4]
    simp only [Nat.xor_assoc]
    congr 1
    simp only [← Nat.xor_assoc]
    congr 1
    exact Nat.xor_comm _ _
theorem val_rep : ∀ n, valLE (List.replicate n 0) = 0
  | 0 => rfl
  | n + 1 => by rw [List.replicate_succ]; show 0 + 256 * valLE (List.replicate n 0) = 0; rw [val_rep n]
theorem oct_rep (n : Nat) : Oct (List.replicate n 0) := fun b hb => by rw [(List.mem_replicate.mp hb).2]; decide
theorem oct_app {a b : List Nat} (h1 : Oct a) (h2 : Oct b) : Oct (a ++ b) := fun x hx => (List.mem_append.mp hx).elim (h1 x) (h2 x)

/-- (B) the four sums -/
theorem four {a b t : List Nat} {n : Nat} (ha : a.length = n) (hb : b.length = n) (oa : Oct a) (ob : Oct b) (ot : Oct t) :
    crcN (a ++ t) ^^^ crcN (b ++ t) ^^^ crcN (zipX a b ++ t) ^^^ crcN (List.replicate n 0 ++ t) = 0 := by
  have hz : (zipX a b).length = n := by simp [zipX, ha, hb]
  unfold crcN
  simp only [runC_app]
  have k : ∀ p q r s m : Nat, (p ^^^ m) ^^^ (q ^^^ m) ^^^ (r ^^^ m) ^^^ (s ^^^ m) = (p ^^^ q) ^^^ (r ^^^ s) := by
    intro p q r s m
    apply Nat.eq_of_testBit_eq
    intro i
    simp only [Nat.testBit_xor]
    cases p.testBit i <;> cases q.testBit i <;> cases r.testBit i <;> cases s.testBit i <;> cases m.testBit i <;> rfl
  rw [k, runC_diff ot, runC_diff ot, ← gk_xor, ]
  rw [runC_eq a _ oa, runC_eq b _ ob, runC_eq _ _ (oct_zip oa ob), runC_eq _ _ (oct_rep n), ha, hb, hz, List.length_replicate, val_zip (ha.trans hb.symm) oa ob, val_rep, ← gk_xor, ← gk_xor, ← gk_xor]
  have z : (msk ^^^ valLE a ^^^ (msk ^^^ valLE b)) ^^^ (msk ^^^ (valLE a ^^^ valLE b) ^^^ (msk ^^^ 0)) = 0 := by
    apply Nat.eq_of_testBit_eq
    intro i
    simp only [Nat.testBit_xor, Nat.zero_testBit]
    cases msk.testBit i <;> cases (valLE a).testBit i <;> cases (valLE b).testBit i <;> rfl
  rw [z, gk_zero, gk_zero]
/-- (C) what a row brings is the same behind any row -/
theorem behind {a t : List Nat} {n : Nat} (ha : a.length = n) (oa : Oct a) (ot : Oct t) :
    crcN (t ++ a) ^^^ crcN (t ++ List.replicate n 0) = crcN a ^^^ crcN (List.replicate n 0) := by
  unfold crcN
  simp only [runC_app]
  rw [runC_eq a _ oa, runC_eq _ _ (oct_rep n), runC_eq a _ oa, runC_eq _ _ (oct_rep n), ha, List.length_replicate, val_rep]
  have k : ∀ p q m : Nat, (p ^^^ m) ^^^ (q ^^^ m) = p ^^^ q := by
    intro p q m
    apply Nat.eq_of_testBit_eq
    intro i
    simp only [Nat.testBit_xor]
    cases p.testBit i <;> cases q.testBit i <;> cases m.testBit i <;> rfl
  rw [k, k, ← gk_xor, ← gk_xor]
  congr 1
  rw [Nat.xor_zero, Nat.xor_zero]
  apply Nat.eq_of_testBit_eq
  intro i
  simp only [Nat.testBit_xor]
  cases (runC msk t).testBit i <;> cases (valLE a).testBit i <;> cases msk.testBit i <;> rfl
noncomputable def le4 (x : Nat) : List Nat := [x % 256, x / 256 % 256, x / 65536 % 256, x / 16777216 % 256]
theorem le4_val {x : Nat} (h : x < 2 ^ 32) : valLE (le4 x) = x := by
  simp only [le4, valLE, List.foldr_cons, List.foldr_nil]
  omega
theorem oct_le4 (x : Nat) : Oct (le4 x) := by
  intro b hb
  simp only [le4, List.mem_cons, List.not_mem_nil, or_false] at hb
  omega
/-- (E) a row closed by its own sum -/
theorem closed {a : List Nat} (oa : Oct a) : crcN (a ++ le4 (crcN a)) = gk 32 msk ^^^ msk := by
  have h1 := le4_val (crcN_lt oa)
  have h2 : crcN (a ++ le4 (crcN a)) = runC (runC msk a) (le4 (crcN a)) ^^^ msk := by
    unfold crcN
    rw [runC_app]
  rw [h2, runC_eq _ _ (oct_le4 _), h1]
  congr 1
  show gk (8 * 4) _ = _
  congr 1
  unfold crcN
  rw [← Nat.xor_assoc, Nat.xor_self, Nat.zero_xor]
/-- (G) a run of at most 32 bits is found -/
theorem found {a b : List Nat} {n turn start : Nat} (ha : a.length = n) (hb : b.length = n) (oa : Oct a) (ob : Oct b)
    (hv : valLE b = valLE a ^^^ (turn * 2 ^ start)) (ht : turn ≠ 0) (h32 : turn < 2 ^ 32) (hs : start ≤ 8 * n) : runC msk b ≠ runC msk a := by
  intro e
  have h1 : runC msk b ^^^ runC msk a = 0 := by rw [e, Nat.xor_self]
  rw [runC_eq a _ oa, runC_eq b _ ob, ha, hb, ← gk_xor, hv] at h1
  have h2 : msk ^^^ (valLE a ^^^ turn * 2 ^ start) ^^^ (msk ^^^ valLE a) = 2 ^ start * turn := by
    rw [Nat.mul_comm]
    apply Nat.eq_of_testBit_eq
    intro i
    simp only [Nat.testBit_xor]
    cases (valLE a).testBit i <;> cases msk.testBit i <;> cases (2 ^ start * turn).testBit i <;> rfl
  rw [h2, show 8 * n = start + (8 * n - start) by omega, gk_add, gk_shift] at h1
  exact ht (gk_inj _ h32 h1)
theorem found_crc {a b : List Nat} {n turn start : Nat} (ha : a.length = n) (hb : b.length = n) (oa : Oct a) (ob : Oct b)
    (hv : valLE b = valLE a ^^^ (turn * 2 ^ start)) (ht : turn ≠ 0) (h32 : turn < 2 ^ 32) (hs : start ≤ 8 * n) : crcN b ≠ crcN a := by
  intro e
  have e' : runC msk b ^^^ msk ^^^ msk = runC msk a ^^^ msk ^^^ msk := congrArg (· ^^^ msk) e
  rw [xor_xor_self, xor_xor_self] at e'
  exact found ha hb oa ob hv ht h32 hs e'
theorem found_crc_more {a b t : List Nat} {n turn start : Nat} (ha : a.length = n) (hb : b.length = n) (oa : Oct a) (ob : Oct b) (ot : Oct t)
    (hv : valLE b = valLE a ^^^ (turn * 2 ^ start)) (ht : turn ≠ 0) (h32 : turn < 2 ^ 32) (hs : start ≤ 8 * n) : crcN (b ++ t) ≠ crcN (a ++ t) := by
  intro e
  have e' : runC msk (b ++ t) ^^^ msk ^^^ msk = runC msk (a ++ t) ^^^ msk ^^^ msk := congrArg (· ^^^ msk) e
  rw [xor_xor_self, xor_xor_self, runC_app, runC_app] at e'
  have h1 : runC (runC msk b) t ^^^ runC (runC msk a) t = 0 := by rw [e', Nat.xor_self]
  rw [runC_diff ot] at h1
  have h2 := gk_inj _ (Nat.xor_lt_two_pow (runC_lt b ob msk_lt) (runC_lt a oa msk_lt)) h1
  exact found ha hb oa ob hv ht h32 hs (xor_eq_zero h2)
theorem known9 : crcN [49, 50, 51, 52, 53, 54, 55, 56, 57] = 3808858755 := by decide +kernel
theorem known32 : crcN (List.replicate 32 0) = 2324772522 := by decide +kernel
/-- the least octets of a number, as many as asked -/
noncomputable def leB : Nat → Nat → List Nat
  | 0, _ => []
  | n + 1, x => (x % 256) :: leB n (x / 256)
theorem leB_length : ∀ n x, (leB n x).length = n
  | 0, _ => rfl
  | n + 1, x => by simp [leB, leB_length n]
theorem oct_leB : ∀ n x, Oct (leB n x)
  | 0, _ => fun _ h => nomatch h
  | n + 1, x => fun b hb => by
    rcases List.mem_cons.mp hb with rfl | hb
    · exact Nat.mod_lt _ (by decide)
    · exact oct_leB n _ b hb
theorem val_leB : ∀ (n x : Nat), x < 256 ^ n → valLE (leB n x) = x
  | 0, x, h => by
    have : x = 0 := by simpa using h
    subst this
    rfl
  | n + 1, x, h => by
    have ih := val_leB n (x / 256) (by rw [Nat.pow_succ] at h; exact Nat.div_lt_of_lt_mul (by rw [Nat.mul_comm]; exact h))
    show x % 256 + 256 * valLE (leB n (x / 256)) = x
    rw [ih]
    exact Nat.mod_add_div x 256
theorem val_lt : ∀ (bs : List Nat), Oct bs → valLE bs < 256 ^ bs.length
  | [], _ => by decide
  | b :: r, h => by
    have ih := val_lt r fun x hx => h x (.tail _ hx)
    have hb := h b (.head _)
    show b + 256 * valLE r < 256 ^ (r.length + 1)
    rw [Nat.pow_succ]
    omega
end Mine
open PySem PySem.W PyProof.Rows
namespace Mine
abbrev Le (h h' : Heap) : Prop := ∀ b o, h.get? b = some o → h'.get? b = some o
theorem le_refl (h : Heap) : Le h h := fun _ _ e => e
theorem le_trans {a b c : Heap} (x : Le a b) (y : Le b c) : Le a c := fun i o e => y i o (x i o e)

/-- from every state whose heap extends h, eval e gives a v with P and keeps all objects -/
def Ev (M : Model) (A : Around) (env : Env) (h : Heap) (e : Expr) (P : Heap → Value → Prop) : Prop :=
  ∀ (s : Shared) (E : Value → Shared → Prop) (Q : Value → Shared → Prop), Le h s.heap →
    (∀ v h' tk, Le s.heap h' → P h' v → Q v { s with heap := h', toks := tk }) → wpAny M A (eval e env) Q E s
def EvT (M : Model) (A : Around) (env : Env) (h : Heap) (e : Expr) (b : Bool) : Prop :=
  ∀ (s : Shared) (E : Value → Shared → Prop) (Q : Bool → Shared → Prop), Le h s.heap →
    (∀ h' tk, Le s.heap h' → Q b { s with heap := h', toks := tk }) → wpAny M A (isTrue e env (eval e env)) Q E s

def PI (n : Int) : Heap → Value → Prop := fun _ v => ∃ t, v = .int n t
def PB (b : Array UInt8) : Heap → Value → Prop := fun _ v => ∃ t, v = .bytes b t
def PV (x : Value) : Heap → Value → Prop := fun _ v => v = x
/-- a list of ints, values given -/
def PL (ns : List Int) : Heap → Value → Prop := fun h v => ∃ a vs, v = .ref a ∧ h.IsList a vs.toArray ∧ IntsAre vs ns
inductive BytesAre : List Value → List (Array UInt8) → Prop
  | nil : BytesAre [] []
  | cons (b : Array UInt8) (t : Tok) {vs bs} : BytesAre vs bs → BytesAre (.bytes b t :: vs) (b :: bs)
def PLB (bs : List (Array UInt8)) : Heap → Value → Prop := fun h v => ∃ a vs, v = .ref a ∧ h.IsList a vs.toArray ∧ BytesAre vs bs

section
variable {M : Model} {A : Around} {env : Env} {h h' : Heap} {e l r : Expr} {P P' : Heap → Value → Prop}
theorem Ev.up (x : Ev M A env h e P) (k : Le h h') : Ev M A env h' e P := fun s E Q ks hQ => x s E Q (le_trans k ks) hQ
theorem Ev.mono (x : Ev M A env h e P) (k : ∀ h v, P h v → P' h v) : Ev M A env h e P' := fun s E Q ks hQ => x s E Q ks fun v h' tk a p => hQ v h' tk a (k _ _ p)
theorem EvT.up {b : Bool} (x : EvT M A env h e b) (k : Le h h') : EvT M A env h' e b := fun s E Q ks hQ => x s E Q (le_trans k ks) hQ
theorem isList_up {a : Addr} {items : Array Value} (x : h.IsList a items) (k : Le h h') : h'.IsList a items := let ⟨o, ho, r⟩ := x; ⟨o, k _ _ ho, r⟩
/-- P is told at any later heap -/
def Stays (P : Heap → Value → Prop) : Prop := ∀ h h' v, Le h h' → P h v → P h' v
theorem stays_I (n : Int) : Stays (PI n) := fun _ _ _ _ x => x
theorem stays_B (b : Array UInt8) : Stays (PB b) := fun _ _ _ _ x => x
theorem stays_V (b : Value) : Stays (PV b) := fun _ _ _ _ x => x
theorem stays_L (ns : List Int) : Stays (PL ns) := fun _ _ _ k ⟨a, vs, e, l, i⟩ => ⟨a, vs, e, isList_up l k, i⟩
theorem stays_LB (ns : List (Array UInt8)) : Stays (PLB ns) := fun _ _ _ k ⟨a, vs, e, l, i⟩ => ⟨a, vs, e, isList_up l k, i⟩

theorem Ev.const_int {i : Int} {k : Nat} {pos : Pos} : Ev M A env h (.Constant (.int i) k pos) (PI i) := fun _ _ _ _ hQ => wpAny_Constant_int (hQ _ _ _ (le_refl _) ⟨_, rfl⟩)
theorem Ev.const_bytes {bs : List UInt8} {k : Nat} {pos : Pos} : Ev M A env h (.Constant (.bytes bs) k pos) (PB bs.toArray) := fun _ _ _ _ hQ => by
  intro Γ p hΓ
  exact hQ _ _ _ (le_refl _) ⟨_, rfl⟩
theorem Ev.const_str {x : Str} {k : Nat} {pos : Pos} : Ev M A env h (.Constant (.str x) k pos) (fun _ v => ∃ t, v = .str x t) := fun _ _ _ _ hQ => wpAny_Constant_str (hQ _ _ _ (le_refl _) ⟨_, rfl⟩)
theorem Ev.local {x : Str} {pos : Pos} {m : Str → Option Value} {v : Value} (hk : env.scope.kind = .function) (hl : env.kindOf x = some .local) (hn : h.Ns env.locals m) (hv : m x = some v)
    (hd : (x == ("__debug__" : Str)) = false) : Ev M A env h (.Name x pos) (PV v) :=
  fun s _ _ ks hQ => wpAny_Name (wpAny_loadName_local hk hl (hn.keeps ks) hv (hQ _ s.heap s.toks (le_refl _) rfl)) hd
theorem Ev.cell {x : Str} {pos : Pos} {c : Addr} {v : Value} (hk : env.scope.kind = .function) (hl : env.kindOf x = some .cell) (hc : env.cells.lookup x = some c) (hv : h.IsCell c (some v))
    (hd : (x == ("__debug__" : Str)) = false) : Ev M A env h (.Name x pos) (PV v) :=
  fun s _ _ ks hQ => wpAny_Name (wpAny_loadName_cell hk hl hc (hv.keeps ks) (hQ _ s.heap s.toks (le_refl _) rfl)) hd
theorem Ev.global {x : Str} {pos : Pos} {mg : Str → Option Value} {v : Value} (hk : env.scope.kind = .function) (hl : env.kindOf x = some .globalImplicit) (hg : h.Ns env.globals mg) (hv : mg x = some v)
    (hd : (x == ("__debug__" : Str)) = false) : Ev M A env h (.Name x pos) (PV v) :=
  fun s _ _ ks hQ => Calls.Name_function_global hk hl (Calls.loadGlobal_global (hg.keeps ks) hv (hQ _ s.heap s.toks (le_refl _) rfl)) hd
theorem Ev.builtin {x : Str} {pos : Pos} {mg mb : Str → Option Value} {v : Value} (hk : env.scope.kind = .function) (hl : env.kindOf x = some .globalImplicit) (hg : h.Ns env.globals mg) (hm : mg x = none)
    (hb : h.Ns env.builtins mb) (hv : mb x = some v) (hd : (x == ("__debug__" : Str)) = false) : Ev M A env h (.Name x pos) (PV v) :=
  fun s _ _ ks hQ => Calls.Name_function_global hk hl (Calls.loadGlobal_builtin (hg.keeps ks) hm (hb.keeps ks) hv (hQ _ s.heap s.toks (le_refl _) rfl)) hd

/-- two operands, then any operator's rule -/
theorem Ev.binop {op : Operator} {pos : Pos} {Pl Pr : Heap → Value → Prop} (sl : Stays Pl) (hl : Ev M A env h l Pl) (hr : Ev M A env h r Pr)
    (op1 : ∀ (s : Shared) (E : Value → Shared → Prop) (Q : Value → Shared → Prop) a b, Le h s.heap → Pl s.heap a → Pr s.heap b → (∀ v h' tk, Le s.heap h' → P h' v → Q v { s with heap := h', toks := tk }) → wpAny M A (binaryOp op a b) Q E s) :
    Ev M A env h (.BinOp l op r pos) P := fun s E Q ks hQ =>
  wpAny_BinOp (hl s E _ ks fun a h1 t1 k1 p1 => hr _ E _ (le_trans ks k1) fun b h2 t2 k2 p2 =>
    op1 _ E _ a b (le_trans (le_trans ks k1) k2) (sl _ _ _ k2 p1) p2 fun v h3 t3 k3 p3 => hQ v h3 t3 (le_trans (le_trans k1 k2) k3) p3)
/-- one comparison -/
theorem Ev.cmp {op : CmpOp} {pos : Pos} {Pl Pr : Heap → Value → Prop} (sl : Stays Pl) (hl : Ev M A env h l Pl) (hr : Ev M A env h r Pr)
    (op1 : ∀ (s : Shared) (E : Value → Shared → Prop) (Q : Value → Shared → Prop) a b, Le h s.heap → Pl s.heap a → Pr s.heap b → (∀ v h' tk, Le s.heap h' → P h' v → Q v { s with heap := h', toks := tk }) → wpAny M A (compareOp op a b) Q E s)
    (hm : behindInMarks op r = false) :
    Ev M A env h (.Compare l [op] [r] pos) P := fun s E Q ks hQ =>
  wpAny_Compare1 (hl s E _ ks fun a h1 t1 k1 p1 => hr _ E _ (le_trans ks k1) fun b h2 t2 k2 p2 =>
    op1 _ E _ a b (le_trans (le_trans ks k1) k2) (sl _ _ _ k2 p1) p2 fun v h3 t3 k3 p3 => hQ v h3 t3 (le_trans (le_trans k1 k2) k3) p3) hm
theorem truthy_bool {b : Bool} {s : Shared} {E : Value → Shared → Prop} {Q : Bool → Shared → Prop} (h : Q b s) : wpAny M A (truthy (.bool b)) Q E s := fun _ _ _ => h
theorem EvT.cmp {op : CmpOp} {pos : Pos} {b : Bool} {Pl Pr : Heap → Value → Prop} (sl : Stays Pl) (hl : Ev M A env h l Pl) (hr : Ev M A env h r Pr)
    (op1 : ∀ (s : Shared) (E : Value → Shared → Prop) (Q : Value → Shared → Prop) a c, Le h s.heap → Pl s.heap a → Pr s.heap c → (∀ h' tk, Le s.heap h' → Q (.bool b) { s with heap := h', toks := tk }) → wpAny M A (compareOp op a c) Q E s)
    (hm : behindInMarks op r = false) :
    EvT M A env h (.Compare l [op] [r] pos) b := fun s E Q ks hQ =>
  wpAny_isTrue_Compare1 (hl s E _ ks fun a h1 t1 k1 p1 => hr _ E _ (le_trans ks k1) fun c h2 t2 k2 p2 =>
    op1 _ E _ a c (le_trans (le_trans ks k1) k2) (sl _ _ _ k2 p1) p2 fun h3 t3 k3 => truthy_bool (hQ h3 t3 (le_trans (le_trans k1 k2) k3))) hm
theorem EvT.or_nil {pos : Pos} : EvT M A env h (.BoolOp .Or [] pos) false := fun s _ _ _ hQ => isTrue_or_nil (hQ s.heap s.toks (le_refl _))
theorem EvT.or_false {pos : Pos} {rest : List Expr} {b : Bool} (hx : EvT M A env h e false) (hr : EvT M A env h (.BoolOp .Or rest pos) b) : EvT M A env h (.BoolOp .Or (e :: rest) pos) b := fun s E Q ks hQ =>
  isTrue_or (hx s E _ ks fun h1 t1 k1 => by
    simp only [Bool.false_eq_true, if_false]
    exact hr _ E _ (le_trans ks k1) fun h2 t2 k2 => hQ h2 t2 (le_trans k1 k2))
end
end Mine
namespace Mine
/-- a call by values, in the same words -/
def Cl (M : Model) (A : Around) (h : Heap) (f : Value) (args : List Value) (P : Heap → Value → Prop) : Prop :=
  ∀ (s : Shared) (E : Value → Shared → Prop) (Q : Value → Shared → Prop), Le h s.heap →
    (∀ v h' tk, Le s.heap h' → P h' v → Q v { s with heap := h', toks := tk }) → wpAny M A (call f args) Q E s
/-- the callee is one that callWith takes plainly -/
def Cw (M : Model) (A : Around) (env : Env) (h : Heap) (f : Value) : Prop :=
  ∀ (pos : Pos) (e : Expr) (rest : List Expr) (s : Shared) (E : Value → Shared → Prop) (Q : Value → Shared → Prop),
    starEach (e :: rest) env = (false, eval e env) :: starEach rest env → (backTo pos (starEach rest env)).any (·.1) = false →
    wpAny M A (spliced (backTo pos (starEach (e :: rest) env))) (fun vs s₁ => Le h s₁.heap ∧ wpAny M A (call f vs) Q E s₁) E s →
    wpAny M A (callWith pos f [] (backTo pos (starEach (e :: rest) env)) []) Q E s
section
variable {M : Model} {A : Around} {env : Env} {h h' : Heap} {e e₁ e₂ e₃ l r : Expr} {P P₁ P₂ P₃ : Heap → Value → Prop} {f : Value}
theorem Cl.up {args : List Value} (x : Cl M A h f args P) (k : Le h h') : Cl M A h' f args P := fun s E Q ks hQ => x s E Q (le_trans k ks) hQ
theorem Cw.up (x : Cw M A env h f) (k : Le h h') : Cw M A env h' f := fun pos e rest s E Q a b c => x pos e rest s E Q a b (wpAny_mono c (fun _ _ y => ⟨le_trans k y.1, y.2⟩) fun _ _ y => y)
theorem cw_type (T : String) : Cw M A env h (.type T) := fun pos e rest s E Q he hp x => callWith_type1 (wpAny_mono x (fun _ _ y => y.2) fun _ _ y => y) he hp
theorem cw_builtin (id : String) : Cw M A env h (.builtin id) := fun pos e rest s E Q he hp x => callWith_builtin1 (wpAny_mono x (fun _ _ y => y.2) fun _ _ y => y) he hp
theorem cw_def {a : Addr} {o : Obj} {fd : FuncData} (ho : h.get? a = some o) (hd : o.data = .func fd) : Cw M A env h (.ref a) := fun pos e rest s E Q he hp x =>
  callWith_def hd (wpAny_mono x (fun _ _ y => ⟨y.1 _ _ ho, y.2⟩) fun _ _ y => y) he

theorem Ev.call1 {pos : Pos} {x : Str} {px : Pos} (hf : Ev M A env h (.Name x px) (PV f)) (hw : Cw M A env h f) (h1 : Ev M A env h e₁ P₁)
    (hc : ∀ h' v, Le h h' → P₁ h' v → Cl M A h' f [v] P) (q1 : starEach [e₁] env = (false, eval e₁ env) :: starEach [] env) :
    Ev M A env h (.Call (.Name x px) [e₁] [] pos) P := fun s E Q ks hQ =>
  Call_Name rfl (hf s E _ ks fun v g0 t0 k0 p0 => by
    cases p0
    refine hw pos e₁ [] _ E Q q1 rfl ?_
    refine args_cons (h1 _ E _ (le_trans ks k0) fun v g1 t1 k1 p1 => args_nil ⟨le_trans (le_trans ks k0) k1, ?_⟩) q1
    exact hc _ v (le_trans (le_trans ks k0) k1) p1 _ E Q (le_refl _) fun r g2 t2 k2 p2 => hQ r g2 t2 (le_trans (le_trans k0 k1) k2) p2)
theorem Ev.call2 {pos : Pos} {x : Str} {px : Pos} (hf : Ev M A env h (.Name x px) (PV f)) (hw : Cw M A env h f) (st1 : Stays P₁) (h1 : Ev M A env h e₁ P₁) (h2 : Ev M A env h e₂ P₂)
    (hc : ∀ h' v w, Le h h' → P₁ h' v → P₂ h' w → Cl M A h' f [v, w] P) (q1 : starEach [e₁, e₂] env = (false, eval e₁ env) :: starEach [e₂] env) (q2 : starEach [e₂] env = (false, eval e₂ env) :: starEach [] env)
    (hp : (backTo pos (starEach [e₂] env)).any (·.1) = false) :
    Ev M A env h (.Call (.Name x px) [e₁, e₂] [] pos) P := fun s E Q ks hQ =>
  Call_Name rfl (hf s E _ ks fun v g0 t0 k0 p0 => by
    cases p0
    refine hw pos e₁ [e₂] _ E Q q1 hp ?_
    refine args_cons (h1 _ E _ (le_trans ks k0) fun v g1 t1 k1 p1 => args_cons (h2 _ E _ (le_trans (le_trans ks k0) k1) fun v2 g2 t2 k2 p2 => args_nil ⟨le_trans (le_trans (le_trans ks k0) k1) k2, ?_⟩) q2) q1
    exact hc _ v v2 (le_trans (le_trans (le_trans ks k0) k1) k2) (st1 _ _ _ k2 p1) p2 _ E Q (le_refl _) fun r g3 t3 k3 p3 => hQ r g3 t3 (le_trans (le_trans (le_trans k0 k1) k2) k3) p3)
theorem Ev.call3 {pos : Pos} {x : Str} {px : Pos} (hf : Ev M A env h (.Name x px) (PV f)) (hw : Cw M A env h f) (st1 : Stays P₁) (st2 : Stays P₂) (h1 : Ev M A env h e₁ P₁) (h2 : Ev M A env h e₂ P₂) (h3 : Ev M A env h e₃ P₃)
    (hc : ∀ h' v w u, Le h h' → P₁ h' v → P₂ h' w → P₃ h' u → Cl M A h' f [v, w, u] P) (q1 : starEach [e₁, e₂, e₃] env = (false, eval e₁ env) :: starEach [e₂, e₃] env) (q2 : starEach [e₂, e₃] env = (false, eval e₂ env) :: starEach [e₃] env) (q3 : starEach [e₃] env = (false, eval e₃ env) :: starEach [] env)
    (hp : (backTo pos (starEach [e₂, e₃] env)).any (·.1) = false) :
    Ev M A env h (.Call (.Name x px) [e₁, e₂, e₃] [] pos) P := fun s E Q ks hQ =>
  Call_Name rfl (hf s E _ ks fun v g0 t0 k0 p0 => by
    cases p0
    refine hw pos e₁ [e₂, e₃] _ E Q q1 hp ?_
    refine args_cons (h1 _ E _ (le_trans ks k0) fun v g1 t1 k1 p1 => args_cons (h2 _ E _ (le_trans (le_trans ks k0) k1) fun v2 g2 t2 k2 p2 =>
      args_cons (h3 _ E _ (le_trans (le_trans (le_trans ks k0) k1) k2) fun v3 g3 t3 k3 p3 => args_nil ⟨le_trans (le_trans (le_trans (le_trans ks k0) k1) k2) k3, ?_⟩) q3) q2) q1
    exact hc _ v v2 v3 (le_trans (le_trans (le_trans (le_trans ks k0) k1) k2) k3) (st1 _ _ _ (le_trans k2 k3) p1) (st2 _ _ _ k3 p2) p3 _ E Q (le_refl _) fun r g4 t4 k4 p4 => hQ r g4 t4 (le_trans (le_trans (le_trans (le_trans k0 k1) k2) k3) k4) p4)

theorem Ev.ifexp {t b o : Expr} {pos : Pos} {c : Bool} (ht : EvT M A env h t c) (hb : c = true → Ev M A env h b P) (ho : c = false → Ev M A env h o P) : Ev M A env h (.IfExp t b o pos) P := fun s E Q ks hQ =>
  IfExp_ (ht s E _ ks fun h1 t1 k1 => by
    cases c with
    | true => simp only [if_true]; exact hb rfl _ E Q (le_trans ks k1) fun v g2 t2 k2 p => hQ v g2 t2 (le_trans k1 k2) p
    | false => simp only [Bool.false_eq_true, if_false]; exact ho rfl _ E Q (le_trans ks k1) fun v g2 t2 k2 p => hQ v g2 t2 (le_trans k1 k2) p)

/-- an item by an int place, o[i] -/
theorem Ev.item {value slice : Expr} {pos : Pos} {Po Pi : Heap → Value → Prop} (so : Stays Po) (ho : Ev M A env h value Po) (hi : Ev M A env h slice Pi)
    (hc : ∀ (s : Shared) (E : Value → Shared → Prop) (Q : Value → Shared → Prop) o i, Le h s.heap → Po s.heap o → Pi s.heap i → (∀ v h' tk, Le s.heap h' → P h' v → Q v { s with heap := h', toks := tk }) → wpAny M A (subscriptTail value slice o i) Q E s) :
    Ev M A env h (.Subscript value slice pos) P := fun s E Q ks hQ =>
  Subscript_ (ho s E _ ks fun o h1 t1 k1 p1 => hi _ E _ (le_trans ks k1) fun i h2 t2 k2 p2 => hc _ E Q o i (le_trans (le_trans ks k1) k2) (so _ _ _ k2 p1) p2 fun v h3 t3 k3 p3 => hQ v h3 t3 (le_trans (le_trans k1 k2) k3) p3)
end

section
variable {prog : Program} {w : World} {A : Around} {env : Env} {h h' : Heap} {e l r : Expr} {pos : Pos} {a b : Int}
theorem Ev.add (hl : Ev (model prog w) A env h l (PI a)) (hr : Ev (model prog w) A env h r (PI b)) : Ev (model prog w) A env h (.BinOp l .Add r pos) (PI (a + b)) :=
  Ev.binop (stays_I a) hl hr fun s E Q x y ks ⟨t, ex⟩ ⟨u, ey⟩ hQ => by subst ex ey; exact add_int (hQ _ s.heap _ (le_refl _) ⟨_, rfl⟩)
theorem Ev.sub (hl : Ev (model prog w) A env h l (PI a)) (hr : Ev (model prog w) A env h r (PI b)) : Ev (model prog w) A env h (.BinOp l .Sub r pos) (PI (a - b)) :=
  Ev.binop (stays_I a) hl hr fun s E Q x y ks ⟨t, ex⟩ ⟨u, ey⟩ hQ => by subst ex ey; exact sub_int (hQ _ s.heap _ (le_refl _) ⟨_, rfl⟩)
theorem Ev.mul (hl : Ev (model prog w) A env h l (PI a)) (hr : Ev (model prog w) A env h r (PI b)) (hm : IntMulOk a b) : Ev (model prog w) A env h (.BinOp l .Mult r pos) (PI (a * b)) :=
  Ev.binop (stays_I a) hl hr fun s E Q x y ks ⟨t, ex⟩ ⟨u, ey⟩ hQ => by subst ex ey; exact mul_int (hQ _ s.heap _ (le_refl _) ⟨_, rfl⟩) hm
theorem Ev.mod (hl : Ev (model prog w) A env h l (PI a)) (hr : Ev (model prog w) A env h r (PI b)) (hb : b ≠ 0) : Ev (model prog w) A env h (.BinOp l .Mod r pos) (PI (a.fmod b)) :=
  Ev.binop (stays_I a) hl hr fun s E Q x y ks ⟨t, ex⟩ ⟨u, ey⟩ hQ => by subst ex ey; exact mod_int hb (hQ _ s.heap _ (le_refl _) ⟨_, rfl⟩)
theorem Ev.xor (hl : Ev (model prog w) A env h l (PI a)) (hr : Ev (model prog w) A env h r (PI b)) : Ev (model prog w) A env h (.BinOp l .BitXor r pos) (PI (Builtin.bitXor a b)) :=
  Ev.binop (stays_I a) hl hr fun s E Q x y ks ⟨t, ex⟩ ⟨u, ey⟩ hQ => by subst ex ey; exact xor_int (hQ _ s.heap _ (le_refl _) ⟨_, rfl⟩)
theorem Ev.and (hl : Ev (model prog w) A env h l (PI a)) (hr : Ev (model prog w) A env h r (PI b)) : Ev (model prog w) A env h (.BinOp l .BitAnd r pos) (PI (Builtin.bitAnd a b)) :=
  Ev.binop (stays_I a) hl hr fun s E Q x y ks ⟨t, ex⟩ ⟨u, ey⟩ hQ => by subst ex ey; exact and_int (hQ _ s.heap _ (le_refl _) ⟨_, rfl⟩)
theorem Ev.pow (hl : Ev (model prog w) A env h l (PI a)) (hr : Ev (model prog w) A env h r (PI b)) (hn : 0 ≤ b) (hsz : (Builtin.Int.intBits a : Int) * b ≤ 2 ^ 27) : Ev (model prog w) A env h (.BinOp l .Pow r pos) (PI (a ^ b.toNat)) :=
  Ev.binop (stays_I a) hl hr fun s E Q x y ks ⟨t, ex⟩ ⟨u, ey⟩ hQ => by subst ex ey; exact pow_int hn hsz (hQ _ s.heap _ (le_refl _) ⟨_, rfl⟩)
theorem Ev.catB {b c : Array UInt8} (hl : Ev (model prog w) A env h l (PB b)) (hr : Ev (model prog w) A env h r (PB c)) (hsz : b.size + c.size ≤ 16777216) : Ev (model prog w) A env h (.BinOp l .Add r pos) (PB (b ++ c)) :=
  Ev.binop (stays_B b) hl hr fun s E Q x y ks ⟨t, ex⟩ ⟨u, ey⟩ hQ => by subst ex ey; exact KBy.add_bytes hsz fun t' k => hQ _ s.heap _ (le_refl _) ⟨_, rfl⟩
theorem EvT.ne_int (hl : Ev (model prog w) A env h l (PI a)) (hr : Ev (model prog w) A env h r (PI b)) (hm : behindInMarks .NotEq r = false) : EvT (model prog w) A env h (.Compare l [.NotEq] [r] pos) (a != b) :=
  EvT.cmp (stays_I a) hl hr (fun s E Q x y ks ⟨t, ex⟩ ⟨u, ey⟩ hQ => by subst ex ey; exact PyProof.Rows.ne_int (hQ s.heap s.toks (le_refl _))) hm
theorem EvT.eq_int (hl : Ev (model prog w) A env h l (PI a)) (hr : Ev (model prog w) A env h r (PI b)) (hm : behindInMarks .Eq r = false) : EvT (model prog w) A env h (.Compare l [.Eq] [r] pos) (a == b) :=
  EvT.cmp (stays_I a) hl hr (fun s E Q x y ks ⟨t, ex⟩ ⟨u, ey⟩ hQ => by subst ex ey; exact PyProof.Rows.eq_int (hQ s.heap s.toks (le_refl _))) hm
theorem EvT.lt_int (hl : Ev (model prog w) A env h l (PI a)) (hr : Ev (model prog w) A env h r (PI b)) (hm : behindInMarks .Lt r = false) : EvT (model prog w) A env h (.Compare l [.Lt] [r] pos) (decide (a < b)) :=
  EvT.cmp (stays_I a) hl hr (fun s E Q x y ks ⟨t, ex⟩ ⟨u, ey⟩ hQ => by subst ex ey; exact PyProof.Rows.lt_int (hQ s.heap s.toks (le_refl _))) hm
theorem Ev.eq_int (hl : Ev (model prog w) A env h l (PI a)) (hr : Ev (model prog w) A env h r (PI b)) (hm : behindInMarks .Eq r = false) : Ev (model prog w) A env h (.Compare l [.Eq] [r] pos) (PV (.bool (a == b))) :=
  Ev.cmp (stays_I a) hl hr (fun s E Q x y ks ⟨t, ex⟩ ⟨u, ey⟩ hQ => by subst ex ey; exact PyProof.Rows.eq_int (hQ _ s.heap s.toks (le_refl _) rfl)) hm
theorem Ev.ne_int (hl : Ev (model prog w) A env h l (PI a)) (hr : Ev (model prog w) A env h r (PI b)) (hm : behindInMarks .NotEq r = false) : Ev (model prog w) A env h (.Compare l [.NotEq] [r] pos) (PV (.bool (a != b))) :=
  Ev.cmp (stays_I a) hl hr (fun s E Q x y ks ⟨t, ex⟩ ⟨u, ey⟩ hQ => by subst ex ey; exact PyProof.Rows.ne_int (hQ _ s.heap s.toks (le_refl _) rfl)) hm
/-- ints by a list -/
theorem ints_get {vs : List Value} {ns : List Int} (hi : IntsAre vs ns) {k : Nat} {n : Int} (hk : ns[k]? = some n) : ∃ t, vs[k]? = some (.int n t) := by
  induction hi generalizing k with
  | nil => cases hk
  | cons n' t _ ih =>
    cases k with
    | zero => cases hk; exact ⟨t, rfl⟩
    | succ k => exact ih (by simpa using hk)
theorem bytes_get {vs : List Value} {ns : List (Array UInt8)} (hi : BytesAre vs ns) {k : Nat} {n : Array UInt8} (hk : ns[k]? = some n) : ∃ t, vs[k]? = some (.bytes n t) := by
  induction hi generalizing k with
  | nil => cases hk
  | cons n' t _ ih =>
    cases k with
    | zero => cases hk; exact ⟨t, rfl⟩
    | succ k => exact ih (by simpa using hk)
theorem Ev.item_list {value slice : Expr} {ns : List Int} {k n : Int} (ho : Ev (model prog w) A env h value (PL ns)) (hi : Ev (model prog w) A env h slice (PI k)) (h0 : 0 ≤ k) (hf : k < 2 ^ 63) (hn : ns[k.toNat]? = some n)
    (hs : ∀ o i, subscripted slice false o i = operate [o, i] (getItem o i)) (ht : ∀ o r, letTemporaryGo value o r = pure ()) : Ev (model prog w) A env h (.Subscript value slice pos) (PI n) :=
  Ev.item (stays_L ns) ho hi fun s E Q o i ks ⟨x, vs, eo, hl, hI⟩ ⟨u, ei⟩ hQ => by
    subst eo ei
    obtain ⟨t, hv⟩ := ints_get hI hn
    exact subscriptTail_builtin hl.typeIs slot_list_getitem.lookup (wpAny_getItem_list hl h0 hf (by simpa using hv) (hQ _ s.heap s.toks (le_refl _) ⟨t, rfl⟩)) (hs _ _) (ht _)
theorem Ev.item_listB {value slice : Expr} {ns : List (Array UInt8)} {k : Int} {n : Array UInt8} (ho : Ev (model prog w) A env h value (PLB ns)) (hi : Ev (model prog w) A env h slice (PI k)) (h0 : 0 ≤ k) (hf : k < 2 ^ 63) (hn : ns[k.toNat]? = some n)
    (hs : ∀ o i, subscripted slice false o i = operate [o, i] (getItem o i)) (ht : ∀ o r, letTemporaryGo value o r = pure ()) : Ev (model prog w) A env h (.Subscript value slice pos) (PB n) :=
  Ev.item (stays_LB ns) ho hi fun s E Q o i ks ⟨x, vs, eo, hl, hI⟩ ⟨u, ei⟩ hQ => by
    subst eo ei
    obtain ⟨t, hv⟩ := bytes_get hI hn
    exact subscriptTail_builtin hl.typeIs slot_list_getitem.lookup (wpAny_getItem_list hl h0 hf (by simpa using hv) (hQ _ s.heap s.toks (le_refl _) ⟨t, rfl⟩)) (hs _ _) (ht _)
end
end Mine
namespace Mine
/-- a frame's heap: all of g is kept, the frame L (not in g) holds m -/
structure Sat (g : Heap) (L : Addr) (m : Str → Option Value) (H : Heap) : Prop where
  le : Le g H
  ns : H.Ns L m
  off : g.get? L = none
abbrev put (m : Str → Option Value) (x : Str) (v : Value) : Str → Option Value := fun y => if y = x then some v else m y
theorem put_eq {m : Str → Option Value} {x : Str} {v : Value} : put m x v x = some v := if_pos rfl
theorem put_ne {m : Str → Option Value} {x z : Str} {v : Value} (h : z ≠ x) : put m x v z = m z := if_neg h
theorem Sat.at {g H : Heap} {L : Addr} {m : Str → Option Value} (S : Sat g L m H) : H.get? L ≠ none := by
  obtain ⟨o, _, _, ho, _⟩ := S.ns
  rw [ho]; exact fun e => nomatch e
theorem Sat.keeps {g H H' : Heap} {L : Addr} {m : Str → Option Value} (S : Sat g L m H) (k : Le H H') : Sat g L m H' := ⟨le_trans S.le k, S.ns.keeps k, S.off⟩
theorem le_hide {h H : Heap} {L : Addr} (k : Le h H) (off : h.get? L = none) : Le h (H.hide L) := fun b o e => by
  have hb : b ≠ L := fun q => by rw [q, off] at e; cases e
  exact (Heap.hide_ne H hb).trans (k b o e)
theorem hide_le (H : Heap) (L : Addr) : Le (H.hide L) H := fun b o e => Heap.of_hide e
theorem hide_same {H H' : Heap} {L : Addr} (hs : Heap.SameBut L H H') : Le (H.hide L) H' := fun b o e => by
  have hb : b ≠ L := fun q => by rw [q, Heap.hide_self] at e; cases e
  exact (hs.2 b hb).trans (Heap.of_hide e)
theorem hide_but {H H' : Heap} {L : Addr} (hs : ∀ b o, b ≠ L → H.get? b = some o → H'.get? b = some o) : Le (H.hide L) H' := fun b o e => by
  have hb : b ≠ L := fun q => by rw [q, Heap.hide_self] at e; cases e
  exact hs b o hb (Heap.of_hide e)
/-- what is told of a value goes on when a name space is hidden -/
def Hid (P : Heap → Value → Prop) : Prop := ∀ H L m v, H.Ns L m → P H v → P (H.hide L) v
theorem hid_I (n : Int) : Hid (PI n) := fun _ _ _ _ _ x => x
theorem hid_B (b : Array UInt8) : Hid (PB b) := fun _ _ _ _ _ x => x
theorem hid_V (b : Value) : Hid (PV b) := fun _ _ _ _ _ x => x
theorem isList_hide {H : Heap} {L a : Addr} {m : Str → Option Value} {items : Array Value} (hn : H.Ns L m) (x : H.IsList a items) : (H.hide L).IsList a items := by
  obtain ⟨o, ho, hc, n, hd⟩ := x
  have hb : a ≠ L := fun q => by
    obtain ⟨o', es, ep, ho', hd', _⟩ := hn
    rw [q, ho'] at ho
    cases ho
    rw [hd'] at hd
    cases hd
  exact ⟨o, (Heap.hide_ne H hb).trans ho, hc, n, hd⟩
theorem hid_L (ns : List Int) : Hid (PL ns) := fun H L m v hn ⟨a, vs, e, l, i⟩ => ⟨a, vs, e, isList_hide hn l, i⟩
theorem hid_LB (ns : List (Array UInt8)) : Hid (PLB ns) := fun H L m v hn ⟨a, vs, e, l, i⟩ => ⟨a, vs, e, isList_hide hn l, i⟩

/-- one statement that goes on -/
def Xn (M : Model) (A : Around) (env : Env) (g : Heap) (m : Str → Option Value) (st : Stmt) (Post : Heap → (Str → Option Value) → Prop) : Prop :=
  ∀ (s : Shared) (E : Value → Shared → Prop) (Q : Flow → Shared → Prop), Sat g env.locals m s.heap →
    (∀ g' m' h' tk, Le g g' → Sat g' env.locals m' h' → Post g' m' → Q .next { s with heap := h', toks := tk }) → wpAny M A (exec st env) Q E s
/-- statements that end by a return -/
def Xs (M : Model) (A : Around) (env : Env) (g : Heap) (m : Str → Option Value) (sts : List Stmt) (R : Value → Prop) : Prop :=
  ∀ (s : Shared) (E : Value → Shared → Prop) (Q : Flow → Shared → Prop), Sat g env.locals m s.heap →
    (∀ v h' tk, Le g h' → R v → Q (.ret v) { s with heap := h', toks := tk }) → wpAny M A (execs sts env) Q E s
section
variable {M : Model} {A : Around} {env : Env} {g : Heap} {m : Str → Option Value} {st : Stmt} {sts : List Stmt} {R : Value → Prop} {Post : Heap → (Str → Option Value) → Prop}
theorem Xs.seq (h1 : Xn M A env g m st Post) (h2 : ∀ g' m', Le g g' → Post g' m' → Xs M A env g' m' sts R) : Xs M A env g m (st :: sts) R := fun s E Q S hQ =>
  wpAny_execs_cons (h1 s E _ S fun g' m' h' tk k S' p => h2 g' m' k p _ E Q S' fun v h'' tk' k' r => hQ v h'' tk' (le_trans k k') r)
theorem Xs.ret {e : Expr} {pos : Pos} {P : Heap → Value → Prop} (he : ∀ H, Sat g env.locals m H → Ev M A env H e P) (hR : ∀ H v, P H v → R v)
    (hx : exec (.Return (some e) pos) env = (do standAt pos; let v ← eval e env; pure (.ret v)) := by rfl) : Xs M A env g m (.Return (some e) pos :: sts) R := fun s E Q S hQ => by
  refine wpAny_execs_cons ?_
  rw [hx]
  refine wpAny_bind (wpAny_standAt (wpAny_bind (he _ S s E _ (le_refl _) fun v h' tk k p => wpAny_pure ?_)))
  exact hQ v h' tk (le_trans S.le k) (hR _ _ p)
theorem Xn.assign {x : Str} {e : Expr} {px pos : Pos} {P : Heap → Value → Prop} (he : ∀ H, Sat g env.locals m H → Ev M A env H e P) (hid : Hid P)
    (hl : env.kindOf x = some .local) (hp : (env.scope.kind == .class || (env.scope.kind == .module && env.locals != env.globals)) = false)
    (hs : swapsWith e (some (.Name x px)) pos.line env = pure false) :
    Xn M A env g m (.Assign [.Name x px] e pos) (fun g' m' => ∃ v, P g' v ∧ m' = put m x v) := fun s E Q S hQ =>
  wpAny_Assign_Name (he _ S s E _ (le_refl _) fun v h' tk k p => wpAny_storeName_local hl (S.ns.keeps k) (fun h'' hn hb =>
    hQ (h'.hide env.locals) _ h'' _ (le_hide (le_trans S.le k) S.off) ⟨hide_same hb, hn, Heap.hide_self _ _⟩ ⟨v, hid _ _ _ _ (S.ns.keeps k) p, rfl⟩) hp) hs
theorem Xn.if_false {t : Expr} {b : List Stmt} {pos : Pos} (ht : ∀ H, Sat g env.locals m H → EvT M A env H t false) : Xn M A env g m (.If t b [] pos) (fun g' m' => m' = m) := fun s E Q S hQ =>
  wpAny_If (ht _ S s E _ (le_refl _) fun h' tk k => by
    simp only [Bool.false_eq_true, if_false]
    exact wpAny_execs_nil (hQ g m h' tk (le_refl _) (S.keeps k) rfl))
theorem Xn.if_true {t : Expr} {b : Stmt} {o : List Stmt} {pos : Pos} (ht : ∀ H, Sat g env.locals m H → EvT M A env H t true) (hb : Xn M A env g m b Post) : Xn M A env g m (.If t [b] o pos) Post := fun s E Q S hQ =>
  wpAny_If (ht _ S s E _ (le_refl _) fun h' tk k => by
    simp only [if_true]
    exact wpAny_execs_cons (hb _ E _ (S.keeps k) fun g' m' h'' tk' k' S' p => wpAny_execs_nil (hQ g' m' h'' tk' k' S' p)))
end
section
variable {prog : Program} {w : World} {A : Around} {env : Env} {g : Heap} {m : Str → Option Value} {R : Value → Prop}
theorem Xn.aug_xor {x : Str} {e : Expr} {px pos : Pos} {a b : Int} {t : Tok} (hk : env.scope.kind = .function) (hl : env.kindOf x = some .local) (hv : m x = some (.int a t)) (he : ∀ H, Sat g env.locals m H → Ev (model prog w) A env H e (PI b))
    (hp : (env.scope.kind == .class || (env.scope.kind == .module && env.locals != env.globals)) = false) :
    Xn (model prog w) A env g m (.AugAssign (.Name x px) .BitXor e pos) (fun g' m' => ∃ u, m' = put m x (.int (Builtin.bitXor a b) u)) := fun s E Q S hQ =>
  wpAny_AugAssign_Name (wpAny_loadName_local hk hl S.ns hv (he _ S s E _ (le_refl _) fun v h' tk k ⟨u, ev⟩ => by
    subst ev
    refine ixor_int (wpAny_storeName_local hl (S.ns.keeps k) (fun h'' hn hb => ?_) hp)
    exact hQ (h'.hide env.locals) _ h'' _ (le_hide (le_trans S.le k) S.off) ⟨hide_same hb, hn, Heap.hide_self _ _⟩ ⟨_, rfl⟩))

/-- for b in buf, over bytes: one int name is turned -/
theorem Xn.for_bytes {x y : Str} {iter : Expr} {body : Stmt} {px pos : Pos} {b : Array UInt8} {c₀ : Int} {t₀ : Tok} (f : Int → Int → Int) (Inv : Int → Prop)
    (hh : A.handled = none) (hk : env.scope.kind = .function) (hx : env.kindOf x = some .local) (hxy : x ≠ y) (hp : (env.scope.kind == .class || (env.scope.kind == .module && env.locals != env.globals)) = false)
    (hit : ∀ H, Sat g env.locals m H → Ev (model prog w) A env H iter (PB b)) (hy : m y = some (.int c₀ t₀)) (h0 : Inv c₀)
    (turn : ∀ g' m' c k t u, Le g g' → Inv c → 0 ≤ k → k < 256 → m' x = some (.int k t) → m' y = some (.int c u) → (∀ z, z ≠ x → z ≠ y → m' z = m z) →
      Xn (model prog w) A env g' m' body (fun g'' m'' => Inv (f c k) ∧ (∃ u', m'' y = some (.int (f c k) u')) ∧ ∀ z, z ≠ x → z ≠ y → m'' z = m z))
    (hs : ∀ v, foldedSetIterable iter env v = pure v) :
    Xn (model prog w) A env g m (.For (.Name x px) iter [body] [] pos) (fun g' m' => (∃ u, m' y = some (.int ((KBw.bInts b).foldl f c₀) u)) ∧ ∀ z, z ≠ x → z ≠ y → m' z = m z) := fun s E Q S hQ => by
  refine wpAny_For (hit _ S s E _ (le_refl _) fun v h₁ tk₁ k₁ ⟨tb, ev⟩ => ?_) hs
  subst ev
  refine KBw.pyIter_bytes ?_
  have W := KBw.walks (prog := prog) (w := w) (A := A) hh h₁.objs.size b tb
  have S₁ := S.keeps k₁
  have gI : ∀ b' o, g.get? b' = some o → b' ≠ h₁.objs.size := fun b' o e => Nat.ne_of_lt (Heap.lt_size (S₁.le _ _ e))
  have LI : env.locals ≠ h₁.objs.size := Nat.ne_of_lt S₁.ns.lt
  -- all that holds between the turns: the ghost g, the iterator beside it
  refine codeAny_forLoop (fun n s' => ∃ (g' : Heap) (m' : Str → Option Value) (h' : Heap) (tk' i : Nat), s' = { s with heap := h', toks := tk' } ∧ Le g g' ∧ Sat g' env.locals m' h' ∧ KBw.IsBytesIter h' h₁.objs.size b tb i ∧ g'.get? h₁.objs.size = none ∧ i ≤ b.size ∧ n = b.size + 1 - i ∧
    Inv (((KBw.bInts b).take i).foldl f c₀) ∧ (∃ u, m' y = some (.int (((KBw.bInts b).take i).foldl f c₀) u)) ∧ ∀ z, z ≠ x → z ≠ y → m' z = m z) ?_ (b.size + 1)
    ⟨g, m, h₁.push { cls := .type "bytes_iterator", data := .fields #[.bytes b tb, .int 0 0] }, tk₁, 0, rfl, le_refl _, S₁.keeps fun b' o e => Heap.get?_push_of_some _ e, ⟨_, Heap.get?_push_size _ rfl, rfl, rfl⟩, ?_, Nat.zero_le _, rfl, by simpa using h0, ⟨t₀, by simpa using hy⟩, fun _ _ _ => rfl⟩
  · rintro n s' ⟨g', m', h', tk', i, rfl, kg, S', hI, hgI, hi, rfl, hinv, ⟨u, hu⟩, hrest⟩
    have LI' : env.locals ∉ [h₁.objs.size] := fun q => LI (List.mem_singleton.mp q)
    by_cases hlt : i < b.size
    · refine W.item i _ _ _ hlt hI fun v h₂ tk₂ hv hI₂ hk₂ => ?_
      obtain ⟨c, tc, hc, rfl⟩ := hv
      have n₂ : h₂.Ns env.locals m' := S'.ns.at' fun o e => hk₂ _ o LI' e
      refine wpAny_assign_Name (wpAny_storeName_local hx n₂ (fun h₃ hn₃ hs₃ => ?_) hp)
      have le₃ : Le g' h₃ := fun b' o e => by
        have q1 : b' ≠ env.locals := fun q => by rw [q, S'.off] at e; cases e
        have q2 : b' ≠ h₁.objs.size := fun q => by rw [q, hgI] at e; cases e
        exact (hs₃.2 b' q1).trans (hk₂ b' o (fun q => q2 (List.mem_singleton.mp q)) (S'.le b' o e))
      have S₃ : Sat g' env.locals (put m' x (.int (c.toNat : Int) tc)) h₃ := ⟨le₃, hn₃, S'.off⟩
      have hI₃ : KBw.IsBytesIter h₃ h₁.objs.size b tb (i + 1) := by
        obtain ⟨o, ho, r⟩ := hI₂
        exact ⟨o, (hs₃.2 _ (Ne.symm LI)).trans ho, r⟩
      have hin := KBw.ints_get hc
      have hr := KBw.ints_in (List.mem_of_getElem? hin)
      -- the body runs over a ghost that holds the iterator too
      have gl : Le g' (h₃.hide env.locals) := le_hide le₃ S'.off
      have S₄ : Sat (h₃.hide env.locals) env.locals (put m' x (.int (c.toNat : Int) tc)) h₃ := ⟨hide_le _ _, hn₃, Heap.hide_self _ _⟩
      refine wpAny_execs_cons (turn (h₃.hide env.locals) _ _ (c.toNat : Int) tc u (le_trans kg gl) hinv hr.1 hr.2 put_eq ((put_ne (fun q => hxy q.symm)).trans hu) (fun z h1 h2 => (put_ne h1).trans (hrest z h1 h2)) _ _ _ S₄ fun g₅ m₅ h₅ tk₅ k₅ S₅ p₅ => wpAny_execs_nil ?_)
      obtain ⟨pinv, ⟨u', hu'⟩, prest⟩ := p₅
      have e1 : ((KBw.bInts b).take (i + 1)).foldl f c₀ = f (((KBw.bInts b).take i).foldl f c₀) (c.toNat : Int) := by
        rw [List.take_add_one, hin, List.foldl_append]
        rfl
      have hI₅ : KBw.IsBytesIter h₅ h₁.objs.size b tb (i + 1) := by
        obtain ⟨o, ho, r⟩ := hI₃
        exact ⟨o, S₅.le _ _ (k₅ _ _ ((Heap.hide_ne _ (Ne.symm LI)).trans ho)), r⟩
      refine ⟨b.size + 1 - (i + 1), by omega, g', m₅, h₅, tk₅, i + 1, rfl, kg, ⟨fun b' o e => S₅.le _ _ (k₅ _ _ (gl _ _ e)), S₅.ns, S'.off⟩, hI₅, hgI, hlt, rfl, ?_, ?_, prest⟩
      · rw [e1]; exact pinv
      · rw [e1]; exact ⟨u', hu'⟩
    · have hin : i = b.size := by omega
      subst hin
      refine W.done _ _ _ hI fun h₂ tk₂ hk₂ => wpAny_execs_nil ?_
      have el : (KBw.bInts b).take b.size = KBw.bInts b := by rw [← KBw.ints_length b, List.take_length]
      rw [el] at hu
      refine hQ g' m' h₂ tk₂ kg ⟨fun b' o e => ?_, S'.ns.at' fun o e => hk₂ _ o LI' e, S'.off⟩ ⟨⟨u, hu⟩, hrest⟩
      have q2 : b' ≠ h₁.objs.size := fun q => by rw [q, hgI] at e; cases e
      exact hk₂ b' o (fun q => q2 (List.mem_singleton.mp q)) (S'.le b' o e)
  · cases e : g.get? h₁.objs.size with
    | none => rfl
    | some o => exact absurd rfl (gI _ _ e)
end
end Mine
namespace Mine
section
variable {prog : Program} {w : World} {A : Around} {h : Heap} {R : Value → Prop}
/-- a call of a def: its body told over a fresh frame -/
theorem cl_def {a : Addr} {oc : Value} {od : Option Addr} {osl : Array (Option Value)} {fd : FuncData} {body : List Stmt} {args : List Value} {binds : List (Str × Value)} (ho : h.get? a = some ⟨oc, od, .func fd, osl⟩)
    (hbody : fd.body = .stmts body) (hlim : h.NoLimit) (hcd : h.CodeRec fd.code fd.qualname) (hroom : A.depth < recursionLimit) (hbind : ∀ s : Shared, Le h s.heap → BindsTo s fd ⟨args, []⟩ binds)
    (hcell : ∀ x ∈ fd.scope.names, x.2 ≠ .cell) (hloc : ∀ x ∈ binds, fd.scope.names.lookup x.1 = some .local)
    (hco : fd.scope.isCoroutine = false) (hgen : fd.scope.isGenerator = false) (hk : fd.scope.kind = .function)
    (hb : ∀ g L, Le h g → Xs (model prog w) (A.deeper (callEnv fd L a)) (callEnv fd L a) g (fun x => binds.reverse.lookup x) body R) :
    Cl (model prog w) A h (.ref a) args (fun _ v => R v) := fun s E Q ks hQ => by
  refine wpAny_call (codeAny_call_def hroom (ks _ _ ho) rfl (hlim.keeps ks) (hcd.keeps ks) hbody (hbind s ks) hcell hloc (fun h₀ hn hkeep => ?_) hco hgen hk)
  have off : s.heap.get? s.heap.objs.size = none := by
    cases e : s.heap.get? s.heap.objs.size with
    | none => rfl
    | some o => exact absurd (Heap.lt_size e) (Nat.lt_irrefl _)
  exact hb s.heap s.heap.objs.size ks _ _ _ ⟨hkeep, hn, off⟩ fun v h' tk k r => hQ v h' tk k r
end
theorem Ev.monoLe {M : Model} {A : Around} {env : Env} {h : Heap} {e : Expr} {P P' : Heap → Value → Prop} (x : Ev M A env h e P) (k : ∀ h' v, Le h h' → P h' v → P' h' v) : Ev M A env h e P' := fun s E Q ks hQ => x s E Q ks fun v h' tk a p => hQ v h' tk a (k _ _ (le_trans ks a) p)
/-- the world of names that the text stands on -/
structure Glb (mg mb : Str → Option Value) (h : Heap) : Prop where
  g : h.Ns mainGlobals mg
  b : h.Ns builtinsNs mb
  lim : h.NoLimit
theorem Glb.up {mg mb : Str → Option Value} {h h' : Heap} (x : Glb mg mb h) (k : Le h h') : Glb mg mb h' := ⟨x.g.keeps k, x.b.keeps k, x.lim.keeps k⟩
section
variable {M : Model} {A : Around} {env : Env} {h : Heap} {mg mb : Str → Option Value}
theorem Ev.glob {x : Str} {pos : Pos} {v : Value} (G : Glb mg mb h) (hv : mg x = some v) (hg : env.globals = mainGlobals) (hk : env.scope.kind = .function) (hl : env.kindOf x = some .globalImplicit) (hd : (x == ("__debug__" : Str)) = false) :
    Ev M A env h (.Name x pos) (PV v) := Ev.global hk hl (by rw [hg]; exact G.g) hv hd
theorem Ev.blt {x : Str} {pos : Pos} {v : Value} (G : Glb mg mb h) (hm : mg x = none) (hv : mb x = some v) (hg : env.globals = mainGlobals) (hb : env.builtins = builtinsNs) (hk : env.scope.kind = .function) (hl : env.kindOf x = some .globalImplicit) (hd : (x == ("__debug__" : Str)) = false) :
    Ev M A env h (.Name x pos) (PV v) := Ev.builtin hk hl (by rw [hg]; exact G.g) hm (by rw [hb]; exact G.b) hv hd
end
end Mine
namespace Mine
theorem Ev.keeps {M : Model} {A : Around} {env : Env} {h : Heap} {e : Expr} {P : Heap → Value → Prop} (x : Ev M A env h e P) {s : Shared} {E : Value → Shared → Prop} (ks : Le h s.heap) :
    wpAny M A (eval e env) (fun y s₃ => P s₃.heap y ∧ Keeps s s₃) E s := x s E _ ks fun v h' tk k p => ⟨p, h', tk, rfl, k⟩
/-- a range from nought -/
def PR (n : Nat) : Heap → Value → Prop := fun h v => ∃ r t u x, v = .ref r ∧ IsRange h r 0 (n : Int) 1 t u x
theorem stays_R (n : Nat) : Stays (PR n) := fun _ _ _ k ⟨r, t, u, x, e, i⟩ => ⟨r, t, u, x, e, k _ _ i⟩
theorem paired_intsF {f : Int → Int} : ∀ {vs ys : List Value}, Paired (fun v y => ∃ a t u, v = Value.int a t ∧ y = Value.int (f a) u) vs ys → ∀ (k : Nat), (∀ (j : Nat) (v : Value), vs[j]? = some v → ∃ t, v = Value.int ((k + j : Nat) : Int) t) → IntsAre ys ((List.range' k vs.length).map fun i => f ((i : Nat) : Int))
  | [], [], .nil, _, _ => .nil
  | v :: vs, y :: ys, .cons ⟨a, t, u, e1, e2⟩ r, k, h => by
    obtain ⟨t', e3⟩ := h 0 v rfl
    subst e2
    rw [e1] at e3
    cases e3
    rw [List.length_cons, List.range'_succ, List.map_cons]
    exact .cons _ _ (paired_intsF r (k + 1) fun j v hj => by
      obtain ⟨t'', e⟩ := h (j + 1) v hj
      exact ⟨t'', by rw [e]; congr 2; omega⟩)
theorem paired_bytesF {f : Array UInt8 → Int} {vs : List Value} {bs : List (Array UInt8)} (h : BytesAre vs bs) : ∀ {ys : List Value}, Paired (fun v y => ∃ b t u, v = Value.bytes b t ∧ y = Value.int (f b) u) vs ys → IntsAre ys (bs.map f) := by
  induction h with
  | nil => intro ys p; cases p; exact .nil
  | cons b t _ ih =>
    intro ys p
    cases p with
    | cons q r =>
      obtain ⟨b', t', u, e1, e2⟩ := q
      cases e1
      subst e2
      exact .cons _ _ (ih r)
theorem bytes_mem {vs : List Value} {bs : List (Array UInt8)} (h : BytesAre vs bs) {v : Value} (hv : v ∈ vs) : ∃ b t, b ∈ bs ∧ v = .bytes b t := by
  induction h with
  | nil => cases hv
  | cons b t _ ih =>
    rcases List.mem_cons.mp hv with rfl | hv
    · exact ⟨b, t, .head _, rfl⟩
    · obtain ⟨b', t', hb, e⟩ := ih hv
      exact ⟨b', t', .tail _ hb, e⟩
theorem bytes_len {vs : List Value} {bs : List (Array UInt8)} (h : BytesAre vs bs) : vs.length = bs.length := by
  induction h with
  | nil => rfl
  | cons _ _ _ ih => simp [ih]
section
variable {prog : Program} {w : World} {A : Around} {env : Env} {h : Heap}
theorem range_small {n : Nat} (hn : n ≤ 1000000) : Builtin.Range.small 0 (n : Int) 1 = true := small_one (by omega) (by omega) (by omega) (by omega)
theorem range_size (n : Nat) : Builtin.Range.rangeSize 0 (n : Int) 1 = (n : Int) := by
  rw [rangeSize_one]
  split <;> omega
theorem Ev.lc_range {elt iter : Expr} {x : Str} {px pos : Pos} {scope : Scope} {cl : List (Str × Addr)} {n : Nat} (f : Int → Int) (hh : A.handled = none) (hclos : closureFor scope env = pure cl) (hcell : ∀ y ∈ scope.names, y.2 ≠ .cell) (hkind : scope.kind = .function)
    (hnames : ∀ y ∈ scope.names, y.2 = .local → scope.names.lookup y.1 = some .local) (hx : scope.names.lookup x = some .local) (hn : n ≤ 1000000) (hit : Ev (model prog w) A env h iter (PR n))
    (helt : ∀ C (i : Nat) t H m₂, i < n → Le h H → H.Ns C m₂ → m₂ x = some (.int (i : Int) t) → Ev (model prog w) A (compEnvC scope cl C env) H elt (PI (f (i : Int))))
    (hs : ∀ v, foldedSetIterable iter env v = pure v) : Ev (model prog w) A env h (.ListComp elt [⟨.Name x px, iter, [], 0⟩] scope pos) (PL ((List.range n).map fun i => f ((i : Nat) : Int))) := fun s E Q ks hQ => by
  refine wpAny_ListComp_free (fun _ => true) (fun v y => ∃ a t u, v = Value.int a t ∧ y = Value.int (f a) u) hclos hcell hkind hnames hx (hit s E _ ks fun v h₁ tk₁ k₁ ⟨r, t, u, q, ev, hr⟩ => ?_) hs
  subst ev
  refine wpAny_pyIter_range hr (range_small hn) ?_
  have W : Walks prog w A h₁.objs.size [h₁.objs.size] [h₁.objs.size] n (fun i v => i < n ∧ ∃ t, v = .int (0 + i * 1) t) (fun i h => IsRangeIter h h₁.objs.size (0 + (i : Nat) * 1) ((n : Int) - (i : Nat)) 1) := (Walks.range hh _ 0 1 n).bound
  have up : ∀ (H : Heap), (∀ b o, b ∉ [h₁.objs.size] → (h₁.push { cls := .type "range_iterator", data := .fields #[rawInt 0, rawInt (Builtin.Range.rangeSize 0 (n : Int) 1), rawInt 1] }).get? b = some o → H.get? b = some o) → Le h₁ H := fun H k b o e =>
    k b o (fun q => Nat.lt_irrefl _ ((List.mem_singleton.mp q) ▸ Heap.lt_size e)) (Heap.get?_push_of_some _ e)
  refine ⟨h₁.objs.size, [h₁.objs.size], [h₁.objs.size], n, _, _, rfl, W, Nat.le_trans hn (by decide), ?_, ?_, ⟨?_, ?_⟩, ?_⟩
  · show IsRangeIter _ _ _ _ _
    have e1 : (0 : Int) + ((0 : Nat) : Int) * 1 = 0 := by decide
    have e2 : (n : Int) - ((0 : Nat) : Int) = Builtin.Range.rangeSize 0 (n : Int) 1 := by rw [range_size]; omega
    rw [e1, e2]
    exact Heap.get?_push_size _ rfl
  · intro b hb
    rw [List.mem_singleton.mp hb]
    show _ < (h₁.push _).objs.size
    rw [Heap.size_push]
    exact Nat.lt_succ_self _
  · intro C i v s₃ m₃ E' _ _ _ _ _ _
    exact wpAny_pure ⟨rfl, s₃.heap, s₃.toks, rfl, le_refl _⟩
  · intro C i v s₃ m₃ E' hC hP _ hn₃ hm hk _
    obtain ⟨hlt, t', ev⟩ := hP
    have e1 : (0 : Int) + (i : Int) * 1 = (i : Int) := by omega
    rw [e1] at ev
    subst ev
    exact wpAny_mono ((helt C i t' s₃.heap m₃ hlt (le_trans (le_trans ks k₁) (up _ hk)) hn₃ hm).keeps (le_refl _)) (fun y s₄ h₄ => ⟨let ⟨u', e⟩ := h₄.1; ⟨_, t', u', rfl, e⟩, h₄.2⟩) fun _ _ e => e
  · intro D h' tk ys vs hnew hlD _ hlen hP hF hk
    refine hQ _ h' tk (le_trans k₁ (up _ hk)) ⟨D, ys.toList, rfl, by rw [Array.toArray_toList]; exact hlD, ?_⟩
    have hF' : Paired (fun v y => ∃ a t u, v = Value.int a t ∧ y = Value.int (f a) u) vs ys.toList := by
      have e : vs.filter (fun _ => true) = vs := List.filter_eq_self.mpr fun _ _ => rfl
      rwa [e] at hF
    have := paired_intsF hF' 0 fun j v hj => by
      obtain ⟨_, t', e⟩ := hP j v hj
      exact ⟨t', by rw [e]; congr 1; omega⟩
    rw [hlen, ← List.range_eq_range'] at this
    exact this
theorem Ev.lc_bytes {elt iter : Expr} {x : Str} {px pos : Pos} {scope : Scope} {cl : List (Str × Addr)} {bs : List (Array UInt8)} (f : Array UInt8 → Int) (hh : A.handled = none) (hclos : closureFor scope env = pure cl) (hcell : ∀ y ∈ scope.names, y.2 ≠ .cell) (hkind : scope.kind = .function)
    (hnames : ∀ y ∈ scope.names, y.2 = .local → scope.names.lookup y.1 = some .local) (hx : scope.names.lookup x = some .local) (hn : bs.length ≤ 1000000) (hit : Ev (model prog w) A env h iter (PLB bs))
    (helt : ∀ C b t H m₂, b ∈ bs → Le h H → H.Ns C m₂ → m₂ x = some (.bytes b t) → Ev (model prog w) A (compEnvC scope cl C env) H elt (PI (f b)))
    (hs : ∀ v, foldedSetIterable iter env v = pure v) : Ev (model prog w) A env h (.ListComp elt [⟨.Name x px, iter, [], 0⟩] scope pos) (PL (bs.map f)) := fun s E Q ks hQ => by
  refine wpAny_ListComp_free (fun _ => true) (fun v y => ∃ b t u, v = Value.bytes b t ∧ y = Value.int (f b) u) hclos hcell hkind hnames hx (hit s E _ ks fun v h₁ tk₁ k₁ ⟨ax, vs, ev, hl, hb⟩ => ?_) hs
  subst ev
  have hlt : ax < h₁.objs.size := by obtain ⟨_, e, _⟩ := hl; exact Heap.lt_size e
  have up : ∀ (H : Heap), (∀ b o, b ∉ [h₁.objs.size] → (h₁.push { cls := .type "list_iterator", data := .fields #[.ref ax, .int 0 0] }).get? b = some o → H.get? b = some o) → Le h₁ H := fun H k b o e =>
    k b o (fun q => Nat.lt_irrefl _ ((List.mem_singleton.mp q) ▸ Heap.lt_size e)) (Heap.get?_push_of_some _ e)
  refine wpAny_pyIter_list hl ⟨h₁.objs.size, [h₁.objs.size, ax], [h₁.objs.size], vs.toArray.size, _, _, rfl, Walks.list hh _ _ (Nat.ne_of_lt hlt) vs.toArray, ?_, ⟨⟨_, Heap.get?_push_size _ rfl, rfl, rfl⟩, hl.push _⟩, ?_, ⟨?_, ?_⟩, ?_⟩
  · rw [List.size_toArray, bytes_len hb]; exact Nat.le_trans hn (by decide)
  · intro b hb'
    show b < (h₁.push _).objs.size
    rw [Heap.size_push]
    rcases List.mem_cons.mp hb' with rfl | hb'
    · exact Nat.lt_succ_self _
    · rw [List.mem_singleton.mp hb']; exact Nat.lt_succ_of_lt hlt
  · intro C i v s₃ m₃ E' _ _ _ _ _ _
    exact wpAny_pure ⟨rfl, s₃.heap, s₃.toks, rfl, le_refl _⟩
  · intro C i v s₃ m₃ E' hC hP _ hn₃ hm hk _
    obtain ⟨b, t, hbm, ev⟩ := bytes_mem hb (by simpa using Array.mem_of_getElem? hP)
    subst ev
    exact wpAny_mono ((helt C b t s₃.heap m₃ hbm (le_trans (le_trans ks k₁) (up _ hk)) hn₃ hm).keeps (le_refl _)) (fun y s₄ h₄ => ⟨let ⟨u', e⟩ := h₄.1; ⟨_, t, u', rfl, e⟩, h₄.2⟩) fun _ _ e => e
  · intro D h' tk ys vs' hnew hlD _ hlen hP hF hk
    have e : vs' = vs := by simpa using list_of_places hlen hP
    subst e
    refine hQ _ h' tk (le_trans k₁ (up _ hk)) ⟨D, ys.toList, rfl, by rw [Array.toArray_toList]; exact hlD, ?_⟩
    have e : vs'.filter (fun _ => true) = vs' := List.filter_eq_self.mpr fun _ _ => rfl
    rw [e] at hF
    exact paired_bytesF hb hF
/-- the same as a statement: the name takes the list in place -/
theorem Xn.lc_bytes {g : Heap} {m : Str → Option Value} {elt iter : Expr} {x y : Str} {px py pos spos : Pos} {scope : Scope} {cl : List (Str × Addr)} {bs : List (Array UInt8)} (f : Array UInt8 → Int) (hh : A.handled = none)
    (hsw : swapsWith (.ListComp elt [⟨.Name x px, iter, [], 0⟩] scope pos) (some (.Name y py)) spos.line env = pure true) (hclos : closureFor scope env = pure cl) (hcell : ∀ y ∈ scope.names, y.2 ≠ .cell) (hkind : scope.kind = .function)
    (hnames : ∀ y ∈ scope.names, y.2 = .local → scope.names.lookup y.1 = some .local) (hx : scope.names.lookup x = some .local) (hy : env.kindOf y = some .local) (hp : (env.scope.kind == .class || (env.scope.kind == .module && env.locals != env.globals)) = false) (hn : bs.length ≤ 1000000)
    (hit : ∀ H, Sat g env.locals m H → Ev (model prog w) A env H iter (PLB bs))
    (helt : ∀ C b t H m₂, b ∈ bs → Le g H → H.Ns C m₂ → m₂ x = some (.bytes b t) → Ev (model prog w) A (compEnvC scope cl C env) H elt (PI (f b)))
    (hs : ∀ v, foldedSetIterable iter env v = pure v) : Xn (model prog w) A env g m (.Assign [.Name y py] (.ListComp elt [⟨.Name x px, iter, [], 0⟩] scope pos) spos) (fun g' m' => ∃ v, PL (bs.map f) g' v ∧ m' = put m y v) := fun s E Q S hQ => by
  refine wpAny_Assign_ListComp_free (fun _ => true) (fun v y => ∃ b t u, v = Value.bytes b t ∧ y = Value.int (f b) u) hsw hclos hcell hkind hnames hx hy hp (hit _ S s E _ (le_refl _) fun v h₁ tk₁ k₁ ⟨ax, vs, ev, hl, hb⟩ => ?_) hs
  subst ev
  have S₁ := S.keeps k₁
  have hlt : ax < h₁.objs.size := by obtain ⟨_, e, _⟩ := hl; exact Heap.lt_size e
  have up : ∀ (H : Heap), (∀ b o, b ∉ [h₁.objs.size] → (h₁.push { cls := .type "list_iterator", data := .fields #[.ref ax, .int 0 0] }).get? b = some o → H.get? b = some o) → Le h₁ H := fun H k b o e =>
    k b o (fun q => Nat.lt_irrefl _ ((List.mem_singleton.mp q) ▸ Heap.lt_size e)) (Heap.get?_push_of_some _ e)
  refine wpAny_pyIter_list hl ⟨h₁.objs.size, [h₁.objs.size, ax], [h₁.objs.size], vs.toArray.size, _, _, m, rfl, Walks.list hh _ _ (Nat.ne_of_lt hlt) vs.toArray, ?_, ⟨⟨_, Heap.get?_push_size _ rfl, rfl, rfl⟩, hl.push _⟩, ?_, ?_, S₁.ns.push _, ⟨?_, ?_⟩, ?_⟩
  · rw [List.size_toArray, bytes_len hb]; exact Nat.le_trans hn (by decide)
  · intro b hb'
    show b < (h₁.push _).objs.size
    rw [Heap.size_push]
    rcases List.mem_cons.mp hb' with rfl | hb'
    · exact Nat.lt_succ_self _
    · rw [List.mem_singleton.mp hb']; exact Nat.lt_succ_of_lt hlt
  · intro hm
    exact absurd S₁.ns.lt ((List.mem_singleton.mp hm) ▸ Nat.lt_irrefl _)
  · intro C i v s₃ m₃ E' _ _ _ _ _ _
    exact wpAny_pure ⟨rfl, s₃.heap, s₃.toks, rfl, le_refl _⟩
  · intro C i v s₃ m₃ E' hC hP _ hn₃ hm hk _
    obtain ⟨b, t, hbm, ev⟩ := bytes_mem hb (by simpa using Array.mem_of_getElem? hP)
    subst ev
    exact wpAny_mono ((helt C b t s₃.heap m₃ hbm (le_trans S₁.le (up _ hk)) hn₃ hm).keeps (le_refl _)) (fun y s₄ h₄ => ⟨let ⟨u', e⟩ := h₄.1; ⟨_, t, u', rfl, e⟩, h₄.2⟩) fun _ _ e => e
  · intro D h' tk ys vs' hnew hlD _ hlen hP hF hn' hk
    have e : vs' = vs := by simpa using list_of_places hlen hP
    subst e
    have e : vs'.filter (fun _ => true) = vs' := List.filter_eq_self.mpr fun _ _ => rfl
    rw [e] at hF
    have hg : Le g (h'.hide env.locals) := le_hide (fun b o e => hk b o (fun q => by rw [q, S.off] at e; cases e) (fun q => Nat.lt_irrefl _ ((List.mem_singleton.mp q) ▸ Heap.lt_size (S₁.le _ _ e))) (Heap.get?_push_of_some _ (S₁.le _ _ e))) S.off
    refine hQ (h'.hide env.locals) _ h' tk hg ⟨hide_le _ _, hn', Heap.hide_self _ _⟩ ⟨.ref D, hid_L _ _ _ _ _ hn' ⟨D, ys.toList, rfl, by rw [Array.toArray_toList]; exact hlD, paired_bytesF hb hF⟩, rfl⟩
end
end Mine
namespace Mine
theorem int_no_bytes : typeLookup (.type "int") "__bytes__" = pure none := by rw [typeLookup_type, builtinLookup_eq_fast]; kernel_rfl
section
variable {prog : Program} {w : World} {A : Around} {E : Value → Shared → Prop} {s : Shared}
theorem int_new {n : Int} {t : Tok} {Q : Value → Shared → Prop} (h0 : 0 ≤ n) (hz : n ≤ 1000000)
    (hQ : ∀ t', Q (.bytes (Array.replicate n.toNat 0) t') { s with toks := s.toks + 1 }) :
    codeAny (model prog w) A (.call (.builtin "bytes.__new__") ⟨[.type "bytes", .int n t], []⟩) (wants Q E) s := by
  refine codeAny_of_tree ?_
  show wpAny _ A.in1 (do checkBuiltinCall "bytes.__new__" ⟨[.type "bytes", .int n t], []⟩; again (.builtin "bytes.__new__" ⟨[.type "bytes", .int n t], []⟩)) _ _ s
  refine wpAny_bind (wpAny_of_eq (F.bm_newCall _) (wpAny_pure ⟨plainId_quiet F.bm_plain _, codeAny_builtin F.bm_entry ?_⟩))
  rw [Around.under_plainId F.bm_plain _]
  have hT : s.TypeIs (.int n t) "int" := typeIs_int _ _ _
  unfold Builtin.«bytes.__new__»
  refine wpAny_bind ?_
  refine (wpAny_of_eq (a := true) rfl ?_)
  refine bm_if_false rfl ?_
  refine wpAny_bind (wpAny_of_eq F.bm_sub ?_)
  refine bm_if_false rfl ?_
  refine wpAny_bind (wpAny_of_eq (F.bm_bind _) ?_)
  refine wpAny_bind (wpAny_of_eq (a := ()) rfl ?_)
  refine wpAny_bind (wpAny_of_eq (a := ()) rfl ?_)
  refine bm_if_false rfl ?_
  refine wpAny_bind (wpAny_specialOf hT int_no_bytes ?_)
  refine wpAny_bind (wpAny_of_eq (a := false) rfl ?_)
  refine bm_if_false rfl ?_
  refine wpAny_bind (wpAny_specialOf hT F.slot_int_index.lookup ?_)
  refine bm_if_false rfl ?_
  refine wpAny_bind (wpAny_attempt (wpAny_of_eq (rfl : asIndex (.int n t) = pure n) ?_))
  refine bm_if_false (by simp [Builtin.Bytes.fitsIndex]; omega) ?_
  have h1 : ¬ (n < 0) := by omega
  have h2 : ¬ (n > 2 ^ 63 - 34) := by omega
  show wpAny _ _ (if n < 0 then _ else _) _ _ _
  rw [if_neg h1]
  show wpAny _ _ (if n > 2 ^ 63 - 34 then _ else _) _ _ _
  rw [if_neg h2]
  refine bm_if_false (by simp [Builtin.Bytes.tooLong, sizeLine_eq]; omega) ?_
  refine wpAny_bind (wpAny_rule ?_)
  refine wpAny_bind (wpAny_mkBytes ?_ (by simp [sizeLine_eq]; omega))
  show wpAny _ _ (if (Value.type "bytes" == Value.type "bytes") = true then _ else _) _ _ _
  refine bm_if_true (by decide) ?_
  first
    | exact wpAny_pure (hQ _)
    | exact wpAny_bind (wpAny_pure (wpAny_pure (hQ _)))
theorem cl_bytes_int {h : Heap} {n : Nat} {t : Tok} (hz : n ≤ 1000000) : Cl (model prog w) A h (.type "bytes") [.int (n : Int) t] (PB (Array.replicate n 0)) := fun s E Q ks hQ => by
  refine callType_codes (Q₁ := fun obj s₁ => s₁.TypeIs obj "bytes" ∧ Q obj s₁) F.bm_called (F.bm_typeCall _) F.entry_object_init
    (int_new (Int.natCast_nonneg n) (by omega) fun t' => ⟨PySem.W.typeIs_bytes _ _ _, hQ _ s.heap _ (le_refl _) ⟨t', rfl⟩⟩) fun obj s₁ h₁ => ?_
  exact ⟨h₁.1, F.args_object_init_2 obj _, object_init_meets F.bm_called.init.lookup F.bm_called.made (by decide) prog w A.in1 _ s₁ ⟨h₁.1, rfl, h₁.2⟩⟩
theorem cl_bytes_list {h : Heap} {l : Addr} {vs : List Value} {ns : List Int} (hh : A.handled = none) (hl : h.IsList l vs.toArray) (hi : IntsAre vs ns) (hr : ∀ n ∈ ns, 0 ≤ n ∧ n < 256) (hz : ns.length ≤ 1000000) :
    Cl (model prog w) A h (.type "bytes") [.ref l] (PB (byteArr ns)) := fun s E Q ks hQ =>
  call_bytes_ints (isList_up hl ks) hi hr (by rw [hi.length, sizeLine_eq]; omega) hh fun h' t k hk => hQ _ h' k hk ⟨t, rfl⟩
theorem cl_range {h : Heap} {n : Nat} {t : Tok} : Cl (model prog w) A h (.type "range") [.int (n : Int) t] (PR n) := fun s E Q ks hQ =>
  call_range_1 (hQ _ _ _ (fun b o e => Heap.get?_push_of_some _ e) ⟨_, _, _, _, rfl, IsRange.new _ _ _ _ _ _ _⟩)
end
end Mine
namespace Mine
theorem BytesAre.app {vs ws : List Value} {bs cs : List (Array UInt8)} (h : BytesAre vs bs) (k : BytesAre ws cs) : BytesAre (vs ++ ws) (bs ++ cs) := by
  induction h with
  | nil => exact k
  | cons b t _ ih => exact .cons b t ih
theorem le_push (h : Heap) (o : Obj) : Le h (h.push o) := fun _ _ e => Heap.get?_push_of_some _ e
theorem push_list (h : Heap) (vs : List Value) : (h.push { cls := .type "list", data := .seq vs.toArray }).IsList h.objs.size vs.toArray := ⟨_, Heap.get?_push_size _ rfl, rfl, _, rfl⟩
section
variable {prog : Program} {w : World} {A : Around} {env : Env} {h : Heap} {e e₁ e₂ l r : Expr} {pos : Pos}
theorem Ev.catLB {bs cs : List (Array UInt8)} (hl : Ev (model prog w) A env h l (PLB bs)) (hr : Ev (model prog w) A env h r (PLB cs)) (hsz : bs.length + cs.length ≤ 1000000) : Ev (model prog w) A env h (.BinOp l .Add r pos) (PLB (bs ++ cs)) :=
  Ev.binop (stays_LB bs) hl hr fun s E Q x y ks ⟨a, vs, ex, la, ia⟩ ⟨b, ws, ey, lb, ib⟩ hQ => by
    subst ex ey
    obtain ⟨⟨cls, dd, data, sl⟩, ho, hc, n, hd⟩ := id la
    obtain ⟨⟨cls2, dd2, data2, sl2⟩, ho2, hc2, n2, hd2⟩ := id lb
    simp only at hc hd hc2 hd2
    subst hc hd hc2 hd2
    have q : vs.toArray ++ ws.toArray = (vs ++ ws).toArray := by simp
    have hz : vs.toArray.size + ws.toArray.size ≤ sizeLine := by rw [List.size_toArray, List.size_toArray, bytes_len ia, bytes_len ib, sizeLine_eq]; omega
    refine concat_meets ⟨_, ho, rfl⟩ ⟨_, ho2, rfl⟩ noFill_list_add seq_list_add PySem.F.slot_list_add PySem.F.entry_list_add (PySem.F.args_list_add_2 _ _) (list_addW a b vs.toArray ws.toArray n n2 dd dd2 sl sl2 hz) ⟨ho, ho2, ?_⟩
    rw [q]
    exact hQ _ _ _ (le_push _ _) ⟨_, vs ++ ws, rfl, push_list _ _, ia.app ib⟩
theorem Ev.dispB2 {b c : Array UInt8} (h1 : Ev (model prog w) A env h e₁ (PB b)) (h2 : Ev (model prog w) A env h e₂ (PB c)) (q1 : starEach [e₁, e₂] env = (false, eval e₁ env) :: starEach [e₂] env) (q2 : starEach [e₂] env = (false, eval e₂ env) :: starEach [] env) :
    Ev (model prog w) A env h (.List [e₁, e₂] pos) (PLB [b, c]) := fun s E Q ks hQ =>
  List_ (args_cons (h1 s E _ ks fun v g1 t1 k1 ⟨t, ev⟩ => args_cons (h2 _ E _ (le_trans ks k1) fun v2 g2 t2 k2 ⟨t', ev2⟩ => args_nil (by
    subst ev ev2
    refine wpAny_newObj_type ?_ (by show _ ≤ sizeLine; rw [sizeLine_eq]; simp)
    exact hQ _ _ _ (le_trans (le_trans k1 k2) (le_push _ _)) ⟨_, [.bytes b t, .bytes c t'], rfl, push_list _ _, .cons b t (.cons c t' .nil)⟩)) q2) q1)
theorem Ev.dispI1 {n : Int} (h1 : Ev (model prog w) A env h e₁ (PI n)) (q1 : starEach [e₁] env = (false, eval e₁ env) :: starEach [] env) :
    Ev (model prog w) A env h (.List [e₁] pos) (fun h v => ∃ a t, v = .ref a ∧ h.get? a = some { cls := .type "list", dict := none, data := .seq #[.int n t] 0, slots := #[] }) := fun s E Q ks hQ =>
  List_ (args_cons (h1 s E _ ks fun v g1 t1 k1 ⟨t, ev⟩ => args_nil (by
    subst ev
    refine wpAny_newObj_type ?_ (by show _ ≤ sizeLine; rw [sizeLine_eq]; simp)
    exact hQ _ _ _ (le_trans k1 (le_push _ _)) ⟨_, t, rfl, Heap.get?_push_size _ rfl⟩)) q1)
theorem Ev.rep4 {n : Int} (h1 : Ev (model prog w) A env h e₁ (PI n)) (q1 : starEach [e₁] env = (false, eval e₁ env) :: starEach [] env) {p1 p2 : Pos} {k : Nat} :
    Ev (model prog w) A env h (.BinOp (.List [e₁] p1) .Mult (.Constant (.int 4) k p2) pos) (PL [n, n, n, n]) :=
  Ev.binop (Pl := fun h v => ∃ a t, v = .ref a ∧ h.get? a = some { cls := .type "list", dict := none, data := .seq #[.int n t] 0, slots := #[] }) (Pr := PI 4) (fun _ _ _ k ⟨a, t, e, o⟩ => ⟨a, t, e, k _ _ o⟩) (Ev.dispI1 h1 q1) Ev.const_int fun s E Q x y ks ⟨a, t, ex, ho⟩ ⟨u, ey⟩ hQ => by
    subst ex ey
    refine wpAny_binaryOp_repeat_ref (T := "list") (U := "int") (by decide) ⟨_, ho, rfl⟩ (fun s' => typeIs_int s' 4 u) noFill_list_mul F.fills_int_mul F.slot_int_rmul repeat_list F.slot_int_index.lookup
      (call_meets F.slot_int_rmul (typeIs_int s 4 u) F.entry_int_rmul (F.args_int_rmul_2 _ _) (int___rmul___int_list 4 u a #[.int n t] 0)
        ⟨ho, rfl, ⟨_, ho, rfl⟩, call_meets F.slot_list_mul ⟨_, ho, rfl⟩ F.entry_list_mul (F.args_list_mul_2 _ _)
          (AutoListH.list___mul___list_int_3 a #[.int n t] 0 4 u (by decide) (by show ¬ (1 * 4 > (2 ^ 63 - 1) / 8); decide) (by show ¬ Builtin.List.listTooLong (1 * 4) = true; decide))
          ⟨ho, ?_⟩⟩)
    exact hQ _ _ _ (le_push _ _) ⟨_, [.int n t, .int n t, .int n t, .int n t], rfl, push_list _ _, .cons _ _ (.cons _ _ (.cons _ _ (.cons _ _ .nil)))⟩
theorem EvT.ne_list {ns ms : List Int} (hl : Ev (model prog w) A env h l (PL ns)) (hr : Ev (model prog w) A env h r (PL ms)) (hu : A.units + 64 < cLine) (hm : behindInMarks .NotEq r = false) : EvT (model prog w) A env h (.Compare l [.NotEq] [r] pos) (!decide (ns = ms)) :=
  EvT.cmp (stays_L ns) hl hr (fun s E Q x y ks ⟨a, vs, ex, la, ia⟩ ⟨b, ws, ey, lb, ib⟩ hQ => by subst ex ey; exact ne_intsK la ia lb ib hu (hQ s.heap s.toks (le_refl _))) hm
theorem Ev.upto {value up : Expr} {p : Pos} {ns : List Int} {k : Int} (ho : Ev (model prog w) A env h value (PL ns)) (hi : Ev (model prog w) A env h up (PI k)) (h0 : 0 ≤ k) (hz : ns.length ≤ 1000000) (ht : ∀ o r, letTemporaryGo value o r = pure ()) :
    Ev (model prog w) A env h (.Subscript value (.Slice none (some up) none p) pos) (PL (ns.take k.toNat)) := fun s E Q ks hQ =>
  wpAny_Subscript_list_slice (ho s E _ ks fun o g1 t1 k1 p1 => by
    rw [evalPart_none]
    refine wpAny_pure ?_
    rw [evalPart_some]
    refine hi _ E _ (le_trans ks k1) fun v g2 t2 k2 ⟨u, ev⟩ => ?_
    subst ev
    obtain ⟨a, vs, eo, la, ia⟩ := stays_L ns _ _ _ k2 p1
    refine ⟨a, vs.toArray, none, some k, eo, la, by rw [List.size_toArray, ia.length, sizeLine_eq]; omega, .none, .int k u, ?_⟩
    refine hQ _ _ _ (le_trans (le_trans k1 k2) (le_trans (le_push _ _) (le_push _ _))) ⟨_, (slicePick vs.toArray none (some k) none).toList, rfl, ?_, slice_ints_uptoW ia h0⟩
    rw [Array.toArray_toList]
    have hz : (g2.push { cls := .type "slice", data := .fields #[Value.none, .int k u, .none] }).objs.size = g2.objs.size + 1 := Heap.size_push _ _
    have hL : ((g2.push { cls := .type "slice", data := .fields #[Value.none, .int k u, .none] }).push { cls := .type "list", data := .seq (slicePick vs.toArray none (some k) none) }).IsList (g2.push { cls := .type "slice", data := .fields #[Value.none, .int k u, .none] }).objs.size (slicePick vs.toArray none (some k) none) := ⟨_, Heap.get?_push_size _ rfl, rfl, _, rfl⟩
    rw [hz] at hL
    exact hL) ht
theorem part_int {e : Expr} {k : Int} (hi : Ev (model prog w) A env h e (PI k)) {s : Shared} {E : Value → Shared → Prop} {Q : Value → Shared → Prop} (ks : Le h s.heap) (hQ : ∀ u h' tk, Le s.heap h' → Q (.int k u) { s with heap := h', toks := tk }) : wpAny (model prog w) A (evalPart (some e) env) Q E s := by
  rw [evalPart_some]
  exact hi s E Q ks fun v g2 t2 k2 ⟨u, ev⟩ => by subst ev; exact hQ u g2 t2 k2
theorem slice_bytes {value : Expr} {lower upper : Option Expr} {p : Pos} {b : Array UInt8} {lo hi : Option Int} (ho : Ev (model prog w) A env h value (PB b)) (hb : b.size ≤ 1000000)
    (hl : ∀ (s : Shared) (E : Value → Shared → Prop) (Q : Value → Shared → Prop), Le h s.heap → (∀ v h' tk, Le s.heap h' → IsPart v lo → Q v { s with heap := h', toks := tk }) → wpAny (model prog w) A (evalPart lower env) Q E s)
    (hu : ∀ (s : Shared) (E : Value → Shared → Prop) (Q : Value → Shared → Prop), Le h s.heap → (∀ v h' tk, Le s.heap h' → IsPart v hi → Q v { s with heap := h', toks := tk }) → wpAny (model prog w) A (evalPart upper env) Q E s)
    (ht : ∀ c t r, letTemporaryGo value (.bytes c t) r = pure ()) :
    Ev (model prog w) A env h (.Subscript value (.Slice lower upper none p) pos) (PB (KBy.picked b lo hi)) := fun s E Q ks hQ => by
  refine Subscript_ (ho s E _ ks fun o g1 t1 k1 ⟨t, ev⟩ => ?_)
  subst ev
  refine wpAny_Slice (hl _ E _ (le_trans ks k1) fun vl g2 t2 k2 pl => hu _ E _ (le_trans (le_trans ks k1) k2) fun vu g3 t3 k3 pu => ?_)
  rw [evalPart_none]
  refine wpAny_pure ?_
  refine tail_of_ItemOn ⟨"bytes", _, FB.slot_bytes_getitem.lookup, typeIs_bytes _ _ _, getItem_meets (typeIs_bytes _ _ _) (by decide) FB.slot_bytes_getitem FB.entry_bytes_getitem (FB.args_bytes_getitem_2 _ _) (KBc.meets_slice2 b t _ pl pu)
    ⟨Heap.IsSliceOf.new _ _ _ _, Nat.le_trans (KBc.size_picked_le b lo hi) (by rw [sizeLine_eq]; omega), fun t' k => ?_⟩⟩ rfl (ht b t)
  exact hQ _ _ _ (le_trans (le_trans (le_trans k1 k2) k3) (le_push _ _)) ⟨t', rfl⟩
theorem cl_min {a b : Int} {t u : Tok} (hh : A.handled = none) : Cl (model prog w) A h (.builtin "min") [.int a t, .int b u] (PI (if b < a then b else a)) := fun s E Q ks hQ =>
  min_two_ints hh fun h' tk hk => by
    by_cases c : b < a
    · rw [if_pos c]; exact hQ _ h' tk hk ⟨u, by rw [if_pos c]⟩
    · rw [if_neg c]; exact hQ _ h' tk hk ⟨t, by rw [if_neg c]⟩
end
end Mine
namespace Mine
def octs (b : Array UInt8) : List Nat := b.toList.map (·.toNat)
theorem octs_oct (b : Array UInt8) : Oct (octs b) := fun x hx => by
  obtain ⟨c, _, rfl⟩ := List.mem_map.mp hx
  exact c.toNat_lt
theorem octs_length (b : Array UInt8) : (octs b).length = b.size := by simp [octs]
/-- the big-end-first fold of the turned row is the least-end-first value -/
theorem fold_rev : ∀ (l : List UInt8) (a : Nat), (l.reverse.foldl (fun (acc : Nat) (b : UInt8) => acc * 256 + b.toNat) a) = a * 256 ^ l.length + valLE (l.map (·.toNat))
  | [], a => by simp [valLE]
  | c :: r, a => by
    rw [List.reverse_cons, List.foldl_append, List.length_cons]
    show (r.reverse.foldl (fun (acc : Nat) (b : UInt8) => acc * 256 + b.toNat) a) * 256 + c.toNat = _
    rw [fold_rev r a]
    show _ = a * 256 ^ (r.length + 1) + (c.toNat + 256 * valLE (r.map (·.toNat)))
    rw [Nat.pow_succ, Nat.add_mul, Nat.mul_assoc]
    omega
theorem fold_val (b : Array UInt8) : b.toList.reverse.foldl (fun (acc : Nat) (b : UInt8) => acc * 256 + b.toNat) 0 = valLE (octs b) := by
  rw [fold_rev, Nat.zero_mul, Nat.zero_add]
  rfl
theorem val_small {b : Array UInt8} (hb : b.size ≤ 12) : valLE (octs b) < 2 ^ 96 := by
  have h := val_lt (octs b) (octs_oct b)
  rw [octs_length] at h
  have h2 : 256 ^ b.size ≤ 256 ^ 12 := Nat.pow_le_pow_right (by decide) hb
  exact Nat.lt_of_lt_of_le h (Nat.le_trans h2 (by decide))
section
variable {prog : Program} {w : World} {M : Model} {A : Around} {E : Value → Shared → Prop} {s : Shared}
theorem grown96 {n : Nat} {Q : Value → Shared → Prop} (hn : n < 2 ^ 96) (h : Q (.int (n : Int) s.toks) { s with toks := s.toks + 1 }) : wpAny M A (mkIntGrown (n : Int)) Q E s := by
  unfold mkIntGrown
  have hb : bitsLine = 134217728 := by first | rfl | decide
  have hl : ¬ ((n : Int).natAbs.log2 ≥ bitsLine) := by
    rw [Int.natAbs_natCast, hb]
    by_cases hz : n = 0
    · subst hz; decide
    · have h1 := (Nat.log2_lt hz).mpr hn
      omega
  rw [if_neg hl]
  exact wpAny_mkInt h
theorem from_little {b : Array UInt8} {t u : Tok} {P : Fin → Shared → Prop} (hb : b.size ≤ 12) (h : P (.done (.ret (.int ((valLE (octs b) : Nat) : Int) s.toks))) { s with toks := s.toks + 1 }) :
    wpAny M A (Builtin.«int.from_bytes» ⟨[.type "int", .bytes b t, .str (PySem.Str.ofString "little") u], []⟩) P E s := by
  unfold Builtin.«int.from_bytes»
  refine wpAny_bind (wpAny_of_eq (a := true) KFB.type_int ?_)
  refine KFB.if_not rfl ?_
  refine wpAny_bind (wpAny_of_eq (a := true) F.conv_sub_int ?_)
  refine KFB.if_not rfl ?_
  refine wpAny_bind (wpAny_of_eq (a := [some (.bytes b t), some (.str (PySem.Str.ofString "little") u), none]) (by kernel_rfl) ?_)
  refine wpAny_bind (wpAny_of_eq (a := PySem.Str.ofString "little") (by kernel_rfl) ?_)
  refine wpAny_bind (wpAny_of_eq (a := false) rfl ?_)
  refine wpAny_bind (wpAny_of_eq (a := true) (by kernel_rfl) ?_)
  refine wpAny_bind (wpAny_of_eq (a := b) rfl ?_)
  show wpAny _ _ (mkIntGrown (b.toList.reverse.foldl (fun (acc : Int) (b : UInt8) => acc * 256 + (b.toNat : Int)) ((0 : Nat) : Int)) >>= fun v => _) _ _ _
  rw [KFB.foldI_eq, fold_val]
  refine wpAny_bind (grown96 (val_small hb) ?_)
  refine KFB.if_so (by decide +kernel) ?_
  exact wpAny_bind (wpAny_pure (wpAny_pure h))
theorem to_little12 {x : Int} {k : Nat} {t u v : Tok} {Q : Value → Shared → Prop} (hk : k ≤ 12) (h0 : 0 ≤ x) (h1 : x < (256 : Int) ^ k) (h : ∀ (b : Array UInt8) t' k', KBw.bInts b = KTBy.little k x → Q (.bytes b t') { s with toks := k' }) :
    wpAny (model prog w) A (call (.builtin "int.to_bytes") [.int x t, .int (k : Int) u, .str (PySem.Str.ofString "little") v]) Q E s := by
  refine wpAny_call_entry KTBy.slot (typeIs_int s x t) KTBy.entry ?_ (KTBy.args _ _ _)
  have hb := KTBy.bits_le (B := (256 : Int) ^ k) rfl h0 h1
  show wpAny _ _ (Builtin.Int.intOfSelf (.int x t) >>= fun y => _) _ _ s
  refine wpAny_bind (wpAny_of_eq (a := x) rfl ?_)
  show wpAny _ _ (Builtin.Int.intBindNamed "to_bytes" ["length", "byteorder", "signed"] 0 2 [.int (k : Int) u, .str (PySem.Str.ofString "little") v] [] >>= fun l => _) _ _ s
  refine wpAny_bind (wpAny_of_eq (a := [some (.int (k : Int) u), some (.str (PySem.Str.ofString "little") v), none]) (by kernel_rfl) ?_)
  show wpAny _ _ (Builtin.Int.intIndex "int.to_bytes" (.int (k : Int) u) >>= fun n => _) _ _ s
  refine wpAny_bind (wpAny_of_eq (a := (k : Int)) rfl ?_)
  have c1 : ¬ ((k : Int) < -(2 ^ 63 : Int)) := by omega
  have c2 : ¬ ((k : Int) ≥ 2 ^ 63) := by omega
  have c3 : ¬ (x < 0) := by omega
  have c4 : ¬ ((Builtin.Int.intBits x : Int) > 8 * (k : Int)) := by omega
  refine KTBy.if_not (show (decide ((k : Int) < -(2 ^ 63 : Int)) || decide ((k : Int) ≥ 2 ^ 63)) = false by rw [decide_eq_false c1, decide_eq_false c2]; rfl) ?_
  refine wpAny_bind (wpAny_of_eq (a := PySem.Str.ofString "little") (by kernel_rfl) ?_)
  refine wpAny_bind (wpAny_of_eq (a := false) rfl ?_)
  refine wpAny_bind (wpAny_of_eq (a := true) (by kernel_rfl) ?_)
  refine wpAny_ite_false (decide_eq_false (show ¬ ((k : Int) < 0) by omega)) ?_
  refine wpAny_ite_false (decide_eq_false (show ¬ ((k : Int) > 2 ^ 63 - 1 - 33) by omega)) ?_
  refine wpAny_ite_false (decide_eq_false (show ¬ ((k : Int) > (sizeLine : Int)) by rw [sizeLine_eq]; omega)) ?_
  refine KTBy.if_not (show (decide (x < 0) && !false) = false by rw [decide_eq_false c3]; rfl) ?_
  refine KTBy.if_not (show (_ && decide ((Builtin.Int.intBits x : Int) > 8 * (k : Int))) = false by rw [decide_eq_false c4, Bool.and_false]) ?_
  refine wpAny_bind (wpAny_mkBytes (wpAny_pure ⟨_, rfl, h _ _ _ ?_⟩) (show (KTBy.low x (Int.toNat (k : Int))).length ≤ sizeLine by rw [KTBy.low_length, Int.toNat_natCast, sizeLine_eq]; omega))
  show (List.map (fun c : UInt8 => ((c.toNat : Nat) : Int)) (KTBy.low x (Int.toNat (k : Int)))) = KTBy.little k x
  rw [Int.toNat_natCast, KTBy.low_ints h0 h1, ← KTBy.little_eq]
end
theorem little_leB : ∀ (n x : Nat), KTBy.little n (x : Int) = (leB n x).map fun b => ((b : Nat) : Int)
  | 0, _ => rfl
  | n + 1, x => by
    show (x : Int) % 256 :: KTBy.little n ((x : Int) / 256) = _
    rw [show ((x : Int) / 256) = ((x / 256 : Nat) : Int) from rfl, little_leB n (x / 256)]
    rfl
theorem octs_of_ints {b : Array UInt8} {l : List Nat} (h : KBw.bInts b = l.map fun b => ((b : Nat) : Int)) : octs b = l := by
  have e : (octs b).map (fun b => ((b : Nat) : Int)) = l.map fun b => ((b : Nat) : Int) := by
    rw [← h]
    simp [octs, KBw.bInts]
  exact (List.map_inj_right (fun x y h => Int.ofNat.inj h)).mp e
end Mine
namespace Mine
section
variable {prog : Program} {w : World} {M : Model} {A : Around} {env : Env} {h : Heap} {E : Value → Shared → Prop} {s : Shared} {K : Frag}
def IsLit (x : Str) : Heap → Value → Prop := fun _ v => ∃ t, v = .str x t
theorem Ev.to_bytes {o ek es : Expr} {ap pos : Pos} {x k : Nat} (hk : k ≤ 12) (hx : x < 256 ^ k) (ho : Ev (model prog w) A env h o (PI (x : Int))) (h1 : Ev (model prog w) A env h ek (PI (k : Int))) (h2 : Ev (model prog w) A env h es (IsLit "little"))
    (q1 : starEach [ek, es] env = (false, eval ek env) :: starEach [es] env) (q2 : starEach [es] env = (false, eval es env) :: starEach [] env) (hp : (backTo pos (starEach [es] env)).any (·.1) = false) {pl : Sem Bool}
    (he : eval (.Call (.Attribute o "to_bytes" ap) [ek, es] [] pos) env = (do
      let ov ← eval o env
      standAt ap.atName
      let (f, first) ← holding [ov] (getMethod ov "to_bytes" pl)
      callWith pos f first (backTo pos (starEach [ek, es] env)) [])) :
    Ev (model prog w) A env h (.Call (.Attribute o "to_bytes" ap) [ek, es] [] pos) (fun _ v => ∃ b t, v = .bytes b t ∧ octs b = leB k x) := fun s E Q ks hQ =>
  MethodCall_ (ho s E _ ks fun v g0 t0 k0 ⟨t, ev⟩ => by
    subst ev
    refine KTBy.method ?_
    refine callWith_method1 (args_cons (h1 _ E _ (le_trans ks k0) fun v1 g1 t1 k1 ⟨u, e1⟩ => args_cons (h2 _ E _ (le_trans (le_trans ks k0) k1) fun v2 g2 t2 k2 ⟨u2, e2⟩ => args_nil ?_) q2) q1) q1 hp
    subst e1 e2
    refine to_little12 hk (Int.natCast_nonneg x) ?_ fun b t' k' hb => ?_
    · have e : (256 : Int) ^ k = ((256 ^ k : Nat) : Int) := KTBy.p256 k
      rw [e]
      exact Int.ofNat_lt.mpr hx
    · exact hQ _ g2 _ (le_trans (le_trans k0 k1) k2) ⟨b, t', rfl, octs_of_ints (hb.trans (little_leB k x))⟩) he
theorem get_from {pl : Sem Bool} {Q : Value × List Value → Shared → Prop} (X : K.In s.heap)
    (e : findCls K (.type "int") (.type "type") (PySem.Str.ofString "from_bytes") = some (.get (.builtin "classmethod_descriptor.__get__") (.builtin "int.from_bytes") .none (.type "int")))
    (hQ : Q (.ref s.heap.objs.size, []) { s with heap := s.heap.push KFB.bound, toks := s.toks + 1 }) :
    wpAny (model prog w) A (getMethod (.type "int") (PySem.Str.ofString "from_bytes") pl) Q E s := by
  have hstub : opaqueClassAbove (.type "int") = pure none := by unfold opaqueClassAbove; dsimp only; rw [show Manifest.isStub "int" = false by decide +kernel]; rfl
  have ht : typeOf (.type "int") = pure (.type "type") := by first | rfl | kernel_rfl
  have L0 : Looks (model prog w) s.heap (typeOf (.type "int")) (.type "type") := Looks.of_pure ht
  have hg : findIn K (.type "type") "__getattribute__" = some (some (.builtin "type.__getattribute__")) := type_tga
  unfold getMethod specialOf
  refine wpAny_bind (wpAny_bind (L0.here ((looks_findIn X hg).here ?_)))
  dsimp only
  rw [if_pos canon_tga]
  refine wpAny_bind (wpAny_mono (Q := fun v => Q (v, [])) (E := E) ?_ (fun _ _ z => wpAny_pure z) fun _ _ z => z)
  refine cls_open X (Looks.of_pure hstub) L0 hg (looks_hook X (r := none) rfl) (show subIn K _ _ = _ from rfl) e ?_
  show wpAny _ _ (holding [.builtin "int.from_bytes"] (call (.builtin "classmethod_descriptor.__get__") [.builtin "int.from_bytes", .none, .type "int"]) >>= fun v => ret v) _ _ _
  exact wpAny_bind (wpAny_holding (wpAny_call_entry KFB.slot_get KFB.type_fb KFB.entry_get (KFB.run_get ⟨_, rfl, wpAny_pure (wpAny_pure hQ)⟩) (KFB.args_get _ _ _)))
theorem Ev.from_bytes {eb es : Expr} {ip ap pos : Pos} {b : Array UInt8} (X : K.In h)
    (e : findCls K (.type "int") (.type "type") (PySem.Str.ofString "from_bytes") = some (.get (.builtin "classmethod_descriptor.__get__") (.builtin "int.from_bytes") .none (.type "int")))
    (hb : b.size ≤ 12) (ho : Ev (model prog w) A env h (.Name "int" ip) (PV (.type "int"))) (h1 : Ev (model prog w) A env h eb (PB b)) (h2 : Ev (model prog w) A env h es (IsLit "little"))
    (q1 : starEach [eb, es] env = (false, eval eb env) :: starEach [es] env) (q2 : starEach [es] env = (false, eval es env) :: starEach [] env) (hp : (backTo pos (starEach [es] env)).any (·.1) = false) {pl : Sem Bool}
    (he : eval (.Call (.Attribute (.Name "int" ip) "from_bytes" ap) [eb, es] [] pos) env = (do
      let ov ← eval (.Name "int" ip) env
      standAt ap.atName
      let (f, first) ← holding [ov] (getMethod ov "from_bytes" pl)
      callWith pos f first (backTo pos (starEach [eb, es] env)) [])) :
    Ev (model prog w) A env h (.Call (.Attribute (.Name "int" ip) "from_bytes" ap) [eb, es] [] pos) (PI ((valLE (octs b) : Nat) : Int)) := fun s E Q ks hQ =>
  MethodCall_ (ho s E _ ks fun v g0 t0 k0 ev => by
    cases ev
    refine get_from (X.keeps (le_trans ks k0)) e ?_
    have kp := le_push g0 KFB.bound
    have at0 : KFB.StandsAt g0.objs.size (g0.push KFB.bound) := Heap.get?_push_size _ rfl
    rw [q1]
    refine KFB.callWith_fields (by show (false || (backTo pos (starEach [es] env)).any (·.1)) = false; rw [hp]; rfl) ?_
    refine Calls.evalArgs_plain ?_
    have sp : wpAny (model prog w) A (spliced (backTo pos (starEach [eb, es] env))) (fun vs s' => KFB.StandsAt g0.objs.size s'.heap ∧ wpAny (model prog w) A (call (.ref g0.objs.size) ([] ++ vs) []) Q E s') E { s with heap := g0.push KFB.bound, toks := t0 + 1 } :=
      args_cons (h1 _ E _ (le_trans (le_trans ks k0) kp) fun v1 g1 t1 k1 ⟨u, e1⟩ => args_cons (h2 _ E _ (le_trans (le_trans (le_trans ks k0) kp) k1) fun v2 g2 t2 k2 ⟨u2, e2⟩ => args_nil (by
        subst e1 e2
        have at2 : KFB.StandsAt g0.objs.size g2 := k2 _ _ (k1 _ _ at0)
        refine ⟨at2, ?_⟩
        exact KFB.call_of at2 (fun z => from_little hb z) (hQ _ g2 _ (le_trans (le_trans (le_trans k0 kp) k1) k2) ⟨_, rfl⟩))) q2) q1
    rw [q1] at sp
    exact sp) he
end
end Mine
namespace Mine
open KBw (IsBytesIter)
section
variable {prog : Program} {w : World} {A : Around} {E : Value → Shared → Prop} {s : Shared}
/-- one step of a walk over bytes: an octet, or the end -/
theorem nextOf_bytes {it : Addr} {i : Nat} {b : Array UInt8} {t : Tok} {Q : Value → Shared → Prop} (hh : A.handled = none) (hit : IsBytesIter s.heap it b t i)
    (hQ : ∀ c h', b[i]? = some c → IsBytesIter h' it b t (i + 1) → Heap.SameBut it s.heap h' → Q (.int (c.toNat : Int) s.toks) { s with heap := h', toks := s.toks + 1 })
    (hE : ∀ h' e, b[i]? = none → Heap.ExtBut it s.heap h' → (∃ o, h'.get? e = some o ∧ o.cls = .type "StopIteration") → E (.ref e) { s with heap := h' }) :
    wpAny (model prog w) A (Builtin.SmallTypes.nextOf (.ref it)) Q E s := by
  have own := hit
  obtain ⟨o, at0, cls0, dat0⟩ := own
  have f0 : ∀ {P : Value → Shared → Prop} {A' : Around} {E' : Value → Shared → Prop}, P (.bytes b t) s → wpAny (model prog w) A' (field (.ref it) 0) P E' s := fun h => wpAny_field at0 dat0 rfl h
  have f1 : ∀ {P : Value → Shared → Prop} {A' : Around} {E' : Value → Shared → Prop}, P (.int (i : Int) 0) s → wpAny (model prog w) A' (field (.ref it) 1) P E' s := fun h => wpAny_field at0 dat0 rfl h
  have typ := KBw.iter_typeIs hit
  refine wpAny_bind (wpAny_callSpecial?_slot (name := PySem.Str.ofString "__next__") typ KBw.slot_next (wpAny_call_entry KBw.slot_next typ KBw.entry_next ?_ (KBw.args_next _)))
  show wpAny _ _ (field (.ref it) 0 >>= _) _ _ s
  refine wpAny_bind (f0 ?_)
  show wpAny _ _ (if (Value.bytes b t == Value.none) = true then _ else (field (.ref it) 1 >>= _)) _ _ s
  rw [if_neg (show (Value.bytes b t == Value.none) ≠ true from Bool.false_ne_true)]
  refine wpAny_bind (f1 (wpAny_bind (wpAny_of_eq (a := b) rfl ?_)))
  rw [Int.toNat_natCast]
  cases hx : b[i]? with
  | some c =>
    refine wpAny_bind (wpAny_setField at0 dat0 (by simp) (wpAny_bind (wpAny_mkInt (wpAny_pure ⟨_, rfl, wpAny_pure (hQ c _ hx ⟨_, Heap.get?_update_self _ at0 (Obj.isFreed_of_fields (Obj.data_mapFields dat0 _)), ?_, ?_⟩ (Heap.SameBut.update ..))⟩))))
    · rw [Obj.cls_mapFields]; exact cls0
    · rw [Obj.data_mapFields dat0]; simp [rawInt]
  | none =>
    refine wpAny_bind (wpAny_rule (wpAny_bind (wpAny_setField at0 dat0 (by simp) (wpAny_bind (wpAny_bind (wpAny_newObj_type (wpAny_bind (m := firstArgMember _ _) (wpAny_of_eq (a := Value.none) (by first | rfl | (simp only [firstArgMember]; rfl)) ?_)) (by size_fits)))))))
    refine wpAny_newObj_type (wpAny_bind (wpAny_handled ?_)) (by size_fits)
    rw [show A.in1.handled = none from hh]
    exact wpAny_bind (wpAny_pure (wpAny_throw (hE _ _ hx (((Heap.SameBut.update ..).extBut.push _).push _) ⟨_, Heap.get?_push_size _ rfl, rfl⟩)))
/-- a zip over two bytes, its parts at N, N + 1 .. -/
structure ZS (h : Heap) (N : Nat) (b : Array UInt8) (t : Tok) (c : Array UInt8) (u : Tok) (k : Nat) (f0 : Value) : Prop where
  z : IsZip h (N + 4) (N + 2) (N + 3) f0
  ti : IsPair h (N + 2) (.ref N) (.ref (N + 1))
  to : ∃ x y, IsPair h (N + 3) x y
  i1 : IsBytesIter h N b t k
  i2 : IsBytesIter h (N + 1) c u k
theorem iter_at {h h' : Heap} {a : Addr} {b : Array UInt8} {t : Tok} {k : Nat} (x : IsBytesIter h a b t k) (e : ∀ o, h.get? a = some o → h'.get? a = some o) : IsBytesIter h' a b t k := let ⟨o, ho, r⟩ := x; ⟨o, e _ ho, r⟩
theorem ZS.keeps {h h' : Heap} {N : Nat} {b : Array UInt8} {t : Tok} {c : Array UInt8} {u : Tok} {k : Nat} {f0 : Value} (x : ZS h N b t c u k f0) (e : ∀ (a : Nat) (o : Obj), N ≤ a → a ≤ N + 4 → h.get? a = some o → h'.get? a = some o) : ZS h' N b t c u k f0 where
  z := e _ _ (by omega) (by omega) x.z
  ti := e _ _ (by omega) (by omega) x.ti
  to := let ⟨p, q, r⟩ := x.to; ⟨p, q, e _ _ (by omega) (by omega) r⟩
  i1 := iter_at x.i1 fun o => e _ _ (by omega) (by omega)
  i2 := iter_at x.i2 fun o => e _ _ (by omega) (by omega)
theorem zip_item {N : Nat} {b c : Array UInt8} {t u : Tok} {k : Nat} {x y : UInt8} {Q : Value → Shared → Prop} (hh : A.handled = none) (Z : ZS s.heap N b t c u k .none) (hx : b[k]? = some x) (hy : c[k]? = some y)
    (hQ : ∀ h' t1 t2 tk, ZS h' N b t c u (k + 1) (rawInt s.heap.objs.size) → IsPair h' s.heap.objs.size (.int (x.toNat : Int) t1) (.int (y.toNat : Int) t2) →
      (∀ (a : Nat) (o : Obj), (a < N ∨ N + 4 < a) → s.heap.get? a = some o → h'.get? a = some o) → Q (.ref s.heap.objs.size) { s with heap := h', toks := tk }) :
    wpAny (model prog w) A (Builtin.«zip.__next__» ⟨[.ref (N + 4)], []⟩) (fun fin s' => ∃ v, fin = .done (.ret v) ∧ Q v s') E s := by
  obtain ⟨hz, hTI, ⟨pa, pb, hTO⟩, h1, h2⟩ := Z
  show wpAny _ _ (field (.ref (N + 4)) 2 >>= _) _ _ _
  refine wpAny_bind (wpAny_field hz rfl (x := .bool false) rfl ?_)
  show wpAny _ _ (field (.ref (N + 4)) 3 >>= _) _ _ _
  refine wpAny_bind (wpAny_field hz rfl (x := .ref (N + 2)) rfl ?_)
  refine wpAny_bind (wpAny_seqItems hTI rfl ?_)
  show wpAny _ _ (Builtin.SmallTypes.ownedTupleIsFree (.ref (N + 4)) >>= _) _ _ _
  refine wpAny_bind ?_
  unfold Builtin.SmallTypes.ownedTupleIsFree
  refine wpAny_bind (wpAny_field hz rfl (x := .none) rfl (wpAny_pure ?_))
  simp only [if_true]
  refine wpAny_bind (wpAny_rule ?_)
  refine wpAny_bind (wpAny_field hz rfl (x := .ref (N + 3)) rfl ?_)
  refine wpAny_bind (wpAny_setField_rec hz (by simp) fun h₁ hz₁ hs₁ => ?_)
  replace hz₁ : IsZip h₁ (N + 4) (N + 2) (N + 3) .ellipsis := hz₁
  refine wpAny_bind ?_
  simp only [List.zipIdx_cons, List.zipIdx_nil, List.forIn_cons, List.forIn_nil]
  -- the first
  refine wpAny_bind (wpAny_bind (wpAny_onRaise ?_))
  show wpAny _ _ (Builtin.SmallTypes.nextOf (.ref N) >>= _) _ _ _
  have d : ∀ {p q : Nat}, p ≠ q → (p : Addr) ≠ q := fun e => e
  refine wpAny_bind (nextOf_bytes hh (iter_at h1 fun o e => hs₁.extBut _ _ (d (by omega)) e) (fun x' h₂ gx h1₂ hs₂ => wpAny_pure ?_) fun _ _ gx => by rw [hx] at gx; cases gx)
  obtain rfl : x = x' := Option.some.inj (hx.symm.trans gx)
  have hTO₂ : IsPair h₂ (N + 3) pa pb := hs₂.extBut _ _ (d (by omega)) (hs₁.extBut _ _ (d (by omega)) hTO)
  refine wpAny_bind (wpAny_seqItems hTO₂ rfl ?_)
  refine wpAny_bind (wpAny_updateSeq_pair hTO₂ fun h₃ hTO₃ hs₃ => ?_)
  replace hTO₃ : IsPair h₃ (N + 3) (.int (x.toNat : Int) s.toks) pb := hTO₃
  refine wpAny_bind (wpAny_letGo (wpAny_pure ?_))
  -- the second
  refine wpAny_bind (wpAny_bind (wpAny_onRaise ?_))
  show wpAny _ _ (Builtin.SmallTypes.nextOf (.ref (N + 1)) >>= _) _ _ _
  refine wpAny_bind (nextOf_bytes hh (iter_at h2 fun o e => hs₃.extBut _ _ (d (by omega)) (hs₂.extBut _ _ (d (by omega)) (hs₁.extBut _ _ (d (by omega)) e))) (fun y' h₄ gy h2₄ hs₄ => wpAny_pure ?_) fun _ _ gy => by rw [hy] at gy; cases gy)
  obtain rfl : y = y' := Option.some.inj (hy.symm.trans gy)
  have hTO₄ : IsPair h₄ (N + 3) (.int (x.toNat : Int) s.toks) pb := hs₄.extBut _ _ (d (by omega)) hTO₃
  refine wpAny_bind (wpAny_seqItems hTO₄ rfl ?_)
  refine wpAny_bind (wpAny_updateSeq_pair hTO₄ fun h₅ hTO₅ hs₅ => ?_)
  replace hTO₅ : IsPair h₅ (N + 3) (.int (x.toNat : Int) s.toks) (.int (y.toNat : Int) (s.toks + 1)) := hTO₅
  refine wpAny_bind (wpAny_letGo (wpAny_pure (wpAny_pure ?_)))
  -- handed out
  refine wpAny_bind (wpAny_seqItems hTO₅ rfl ?_)
  refine wpAny_bind (wpAny_newTuple ?_)
  have hsz : h₅.objs.size = s.heap.objs.size := by rw [hs₅.1, hs₄.1, hs₃.1, hs₂.1, hs₁.1]
  have hz₅ : IsZip h₅ (N + 4) (N + 2) (N + 3) .ellipsis := hs₅.extBut _ _ (d (by omega)) (hs₄.extBut _ _ (d (by omega)) (hs₃.extBut _ _ (d (by omega)) (hs₂.extBut _ _ (d (by omega)) hz₁)))
  have hk₅ : ∀ a o, a ≠ N + 4 → a ≠ N + 3 → a ≠ N → a ≠ N + 1 → s.heap.get? a = some o → h₅.get? a = some o := fun a o c1 c2 c3 c4 e =>
    hs₅.extBut _ _ c2 (hs₄.extBut _ _ c4 (hs₃.extBut _ _ c2 (hs₂.extBut _ _ c3 (hs₁.extBut _ _ c1 e))))
  have hzlt : N + 4 < h₅.objs.size := Heap.lt_size hz₅
  have h1₅ : IsBytesIter h₅ N b t (k + 1) := iter_at h1₂ fun o e => hs₅.extBut _ _ (d (by omega)) (hs₄.extBut _ _ (d (by omega)) (hs₃.extBut _ _ (d (by omega)) e))
  have h2₅ : IsBytesIter h₅ (N + 1) c u (k + 1) := iter_at h2₄ fun o e => hs₅.extBut _ _ (d (by omega)) e
  show wpAny _ _ (Builtin.SmallTypes.ownedTupleHandOut (.ref (N + 4)) (.ref h₅.objs.size) >>= _) _ _ _
  refine wpAny_bind ?_
  unfold Builtin.SmallTypes.ownedTupleHandOut
  have hz₆ : IsZip (h₅.push { cls := .type "tuple", data := .seq #[.int (x.toNat : Int) s.toks, .int (y.toNat : Int) (s.toks + 1)] }) (N + 4) (N + 2) (N + 3) .ellipsis := Heap.get?_push_of_some _ hz₅
  refine wpAny_bind (wpAny_setField_rec hz₆ (by simp) fun h₇ hz₇ hs₇ => ?_)
  replace hz₇ : IsZip h₇ (N + 4) (N + 2) (N + 3) (rawInt h₅.objs.size) := hz₇
  refine wpAny_setField_rec hz₇ (by simp) fun h₈ hz₈ hs₈ => ?_
  replace hz₈ : IsZip h₈ (N + 4) (N + 2) (N + 3) (rawInt h₅.objs.size) := hz₈
  have up : ∀ a o, a ≠ N + 4 → h₅.get? a = some o → h₈.get? a = some o := fun a o c1 e => hs₈.extBut _ _ c1 (hs₇.extBut _ _ c1 (Heap.get?_push_of_some _ e))
  have hT₈ : IsPair h₈ h₅.objs.size (.int (x.toNat : Int) s.toks) (.int (y.toNat : Int) (s.toks + 1)) := hs₈.extBut _ _ (Nat.ne_of_gt hzlt) (hs₇.extBut _ _ (Nat.ne_of_gt hzlt) (Heap.get?_push_size _ rfl))
  rw [hsz] at hz₈ hT₈
  refine wpAny_pure ⟨_, rfl, ?_⟩
  show Q (.ref h₅.objs.size) _
  rw [hsz]
  refine hQ h₈ s.toks (s.toks + 1) _ ⟨hz₈, up _ _ (d (by omega)) (hk₅ _ _ (d (by omega)) (d (by omega)) (d (by omega)) (d (by omega)) hTI), ⟨_, _, up _ _ (d (by omega)) hTO₅⟩, iter_at h1₅ fun o e => up _ o (d (by omega)) e, iter_at h2₅ fun o e => up _ o (d (by omega)) e⟩ hT₈ ?_
  intro a o ha e
  exact up a o (d (by omega)) (hk₅ a o (d (by omega)) (d (by omega)) (d (by omega)) (d (by omega)) e)
end
end Mine
namespace Mine
open KBw (IsBytesIter)
section
variable {prog : Program} {w : World} {A : Around} {E : Value → Shared → Prop} {s : Shared}
theorem zip_end {N : Nat} {b c : Array UInt8} {t u : Tok} {k : Nat} {Q : Fin → Shared → Prop} (hh : A.handled = none) (Z : ZS s.heap N b t c u k .none) (hx : b[k]? = none)
    (hE : ∀ h' e, (∀ (a : Nat) (o : Obj), (a < N ∨ N + 4 < a) → s.heap.get? a = some o → h'.get? a = some o) → (∃ o, h'.get? e = some o ∧ o.cls = .type "StopIteration") → E (.ref e) { s with heap := h' }) :
    wpAny (model prog w) A (Builtin.«zip.__next__» ⟨[.ref (N + 4)], []⟩) Q E s := by
  obtain ⟨hz, hTI, ⟨pa, pb, hTO⟩, h1, h2⟩ := Z
  show wpAny _ _ (field (.ref (N + 4)) 2 >>= _) _ _ _
  refine wpAny_bind (wpAny_field hz rfl (x := .bool false) rfl ?_)
  show wpAny _ _ (field (.ref (N + 4)) 3 >>= _) _ _ _
  refine wpAny_bind (wpAny_field hz rfl (x := .ref (N + 2)) rfl ?_)
  refine wpAny_bind (wpAny_seqItems hTI rfl ?_)
  show wpAny _ _ (Builtin.SmallTypes.ownedTupleIsFree (.ref (N + 4)) >>= _) _ _ _
  refine wpAny_bind ?_
  unfold Builtin.SmallTypes.ownedTupleIsFree
  refine wpAny_bind (wpAny_field hz rfl (x := .none) rfl (wpAny_pure ?_))
  simp only [if_true]
  refine wpAny_bind (wpAny_rule ?_)
  refine wpAny_bind (wpAny_field hz rfl (x := .ref (N + 3)) rfl ?_)
  refine wpAny_bind (wpAny_setField_rec hz (by simp) fun h₁ hz₁ hs₁ => ?_)
  replace hz₁ : IsZip h₁ (N + 4) (N + 2) (N + 3) .ellipsis := hz₁
  refine wpAny_bind ?_
  simp only [List.zipIdx_cons, List.zipIdx_nil, List.forIn_cons, List.forIn_nil]
  refine wpAny_bind (wpAny_bind (wpAny_onRaise ?_))
  show wpAny _ _ (Builtin.SmallTypes.nextOf (.ref N) >>= _) _ _ _
  have d : ∀ {p q : Nat}, p ≠ q → (p : Addr) ≠ q := fun e => e
  refine wpAny_bind (nextOf_bytes hh (iter_at h1 fun o e => hs₁.extBut _ _ (d (by omega)) e) (fun _ _ gx => by rw [hx] at gx; cases gx) fun h₂ e _ hs₂ he => ?_)
  obtain ⟨oe, hoe, hce⟩ := he
  have hz₂ : IsZip h₂ (N + 4) (N + 2) (N + 3) .ellipsis := hs₂ _ _ (d (by omega)) hz₁
  have hez : e ≠ N + 4 := fun x => by subst x; rw [hz₂] at hoe; cases hoe; simp at hce
  refine wpAny_setField_rec hz₂ (by simp) fun h₃ _ hs₃ => hE h₃ e (fun a o ha x => ?_) ⟨oe, hs₃.extBut _ _ hez hoe, hce⟩
  exact hs₃.extBut _ _ (d (by omega)) (hs₂ _ _ (d (by omega)) (hs₁.extBut _ _ (d (by omega)) x))
theorem zip_next_item' {N : Nat} {b c : Array UInt8} {t u : Tok} {k : Nat} {x y : UInt8} {Q : Option Value → Shared → Prop} (hh : A.handled = none) (Z : ZS s.heap N b t c u k .none) (hx : b[k]? = some x) (hy : c[k]? = some y)
    (hQ : ∀ h' t1 t2 tk, ZS h' N b t c u (k + 1) (rawInt s.heap.objs.size) → IsPair h' s.heap.objs.size (.int (x.toNat : Int) t1) (.int (y.toNat : Int) t2) →
      (∀ (a : Nat) (o : Obj), (a < N ∨ N + 4 < a) → s.heap.get? a = some o → h'.get? a = some o) → Q (some (.ref s.heap.objs.size)) { s with heap := h', toks := tk }) :
    wpAny (model prog w) A (pyNext (.ref (N + 4))) Q E s := by
  have hT : s.TypeIs (.ref (N + 4)) "zip" := ⟨_, Z.z, rfl⟩
  unfold pyNext
  exact wpAny_bind (wpAny_attempt (wpAny_callSpecial?_slot (name := Str.ofString "__next__") hT F.slot_zip_next
    (wpAny_call_entry F.slot_zip_next hT F.entry_zip_next
      (zip_item hh Z hx hy fun h' t1 t2 tk a1 a2 a3 => wpAny_pure (hQ h' t1 t2 tk a1 a2 a3)) (F.args_zip_next_1 _))))
theorem zip_next_end' {N : Nat} {b c : Array UInt8} {t u : Tok} {k : Nat} {Q : Option Value → Shared → Prop} (hh : A.handled = none) (Z : ZS s.heap N b t c u k .none) (hx : b[k]? = none)
    (hQ : ∀ h', (∀ (a : Nat) (o : Obj), (a < N ∨ N + 4 < a) → s.heap.get? a = some o → h'.get? a = some o) → Q none { s with heap := h' }) :
    wpAny (model prog w) A (pyNext (.ref (N + 4))) Q E s := by
  have hT : s.TypeIs (.ref (N + 4)) "zip" := ⟨_, Z.z, rfl⟩
  unfold pyNext
  refine wpAny_bind (wpAny_attempt (wpAny_callSpecial?_slot (name := Str.ofString "__next__") hT F.slot_zip_next
    (wpAny_call_entry F.slot_zip_next hT F.entry_zip_next (zip_end hh Z hx fun h' e hk he => ?_) (F.args_zip_next_1 _))))
  obtain ⟨o, ho, hc⟩ := he
  refine wpAny_bind (wpAny_isInstance (T := "StopIteration") (b := true) ⟨o, ho, hc⟩ isSubtype_stop ?_)
  exact wpAny_pure (hQ _ hk)
abbrev bzH1 (h : Heap) (b : Array UInt8) (t : Tok) : Heap := h.push { cls := .type "bytes_iterator", data := .fields #[.bytes b t, .int 0 0] }
abbrev bzH2 (h : Heap) (b : Array UInt8) (t : Tok) (c : Array UInt8) (u : Tok) : Heap := (bzH1 h b t).push { cls := .type "bytes_iterator", data := .fields #[.bytes c u, .int 0 0] }
abbrev bzH3 (h : Heap) (b : Array UInt8) (t : Tok) (c : Array UInt8) (u : Tok) : Heap := (bzH2 h b t c u).push { cls := .type "tuple", data := .seq #[.ref h.objs.size, .ref (bzH1 h b t).objs.size] }
abbrev bzH4 (h : Heap) (b : Array UInt8) (t : Tok) (c : Array UInt8) (u : Tok) : Heap := (bzH3 h b t c u).push { cls := .type "tuple", data := .seq #[.none, .none] }
abbrev bzH5 (h : Heap) (b : Array UInt8) (t : Tok) (c : Array UInt8) (u : Tok) : Heap := (bzH4 h b t c u).push { cls := .type "zip", data := .fields #[.none, .bool false, .bool false, .ref (bzH2 h b t c u).objs.size, .ref (bzH3 h b t c u).objs.size] }
theorem zip_class (x y : Value) : Builtin.SmallTypes.newClass "zip" ⟨[.type "zip", x, y], []⟩ = pure (.type "zip", [x, y]) := by
  have e : isSubtype (.type "zip") (.type "zip") = pure true := sub_zip
  unfold Builtin.SmallTypes.newClass
  show (isType (.type "zip") >>= _) = _
  rw [show isType (.type "zip") = pure true from rfl]
  simp only [pure_bind, e]
  rfl
theorem meets_zip_bytes (b : Array UInt8) (t : Tok) (c : Array UInt8) (u : Tok) :
    Meets (Builtin.«zip.__new__» ⟨[.type "zip", .bytes b t, .bytes c u], []⟩) (fun _ R s => R (.ok (.ret (.ref (bzH4 s.heap b t c u).objs.size))) { s with heap := bzH5 s.heap b t c u }) :=
  .of_wp fun prog w A R s h => by
    unfold Builtin.«zip.__new__»
    refine wpAny_bind (wpAny_of_eq (zip_class _ _) ?_)

    show wpAny _ _ (Builtin.SmallTypes.iterAll [.bytes b t, .bytes c u] >>= _) _ _ _
    refine wpAny_bind ?_
    unfold Builtin.SmallTypes.iterAll
    simp only [List.forIn_cons, List.forIn_nil]
    refine wpAny_bind (wpAny_bind (wpAny_bind (wpAny_holding (KBw.pyIter_bytes (wpAny_pure ?_)))))
    refine wpAny_bind (wpAny_bind (wpAny_holding (KBw.pyIter_bytes (wpAny_pure (wpAny_pure ?_)))))
    refine wpAny_pure ?_
    refine wpAny_bind (wpAny_newTuple ?_ (by show 2 ≤ sizeLine; decide))
    refine wpAny_bind (wpAny_newTuple ?_ (by show 2 ≤ sizeLine; decide))
    refine wpAny_bind ?_
    unfold Builtin.SmallTypes.newRecord
    dsimp only
    refine wpAny_newObj_type ?_ (by show 5 ≤ sizeLine + 2; rw [sizeLine_eq]; decide)
    exact wpAny_pure ⟨_, rfl, h⟩
theorem call_zip_bytes {b : Array UInt8} {t : Tok} {c : Array UInt8} {u : Tok} {Q : Value → Shared → Prop}
    (h : ∀ h', ZS h' s.heap.objs.size b t c u 0 .none → h'.objs.size = s.heap.objs.size + 5 → Le s.heap h' → Q (.ref (s.heap.objs.size + 4 : Nat)) { s with heap := h' }) :
    wpAny (model prog w) A (call (.type "zip") [.bytes b t, .bytes c u]) Q E s := by
  refine callType_new F.called_zip (by decide) (F.typeCall_zip_2 _ _) (F.newCall_zip_2 _ _) (fun obj => F.args_object_init_3 obj _ _) F.entry_zip_new (meets_zip_bytes b t c u) ?_
  have z1 : (bzH1 s.heap b t).objs.size = s.heap.objs.size + 1 := Heap.size_push ..
  have z2 : (bzH2 s.heap b t c u).objs.size = s.heap.objs.size + 2 := by rw [Heap.size_push, z1]
  have z3 : (bzH3 s.heap b t c u).objs.size = s.heap.objs.size + 3 := by rw [Heap.size_push, z2]
  have z4 : (bzH4 s.heap b t c u).objs.size = s.heap.objs.size + 4 := by rw [Heap.size_push, z3]
  have z5 : (bzH5 s.heap b t c u).objs.size = s.heap.objs.size + 5 := by rw [Heap.size_push, z4]
  have g5 : (bzH5 s.heap b t c u).get? (bzH4 s.heap b t c u).objs.size = some _ := Heap.get?_push_size _ rfl
  have g4 : (bzH5 s.heap b t c u).get? (bzH3 s.heap b t c u).objs.size = some _ := Heap.get?_push_of_some _ (Heap.get?_push_size _ rfl)
  have g3 : (bzH5 s.heap b t c u).get? (bzH2 s.heap b t c u).objs.size = some _ := Heap.get?_push_of_some _ (Heap.get?_push_of_some _ (Heap.get?_push_size _ rfl))
  have g2 : (bzH5 s.heap b t c u).get? (bzH1 s.heap b t).objs.size = some _ := Heap.get?_push_of_some _ (Heap.get?_push_of_some _ (Heap.get?_push_of_some _ (Heap.get?_push_size _ rfl)))
  have g1 : (bzH5 s.heap b t c u).get? s.heap.objs.size = some _ := Heap.get?_push_of_some _ (Heap.get?_push_of_some _ (Heap.get?_push_of_some _ (Heap.get?_push_of_some _ (Heap.get?_push_size _ rfl))))
  show _ ∧ _
  rw [z2, z3, z4] at g5
  rw [z1, z2] at g3
  rw [z3] at g4
  rw [z1] at g2
  rw [z4]
  exact ⟨⟨_, g5, rfl⟩, h _ ⟨g5, g3, ⟨_, _, g4⟩, ⟨_, g1, rfl, rfl⟩, ⟨_, g2, rfl, rfl⟩⟩ z5 fun a o x =>
    Heap.get?_push_of_some _ (Heap.get?_push_of_some _ (Heap.get?_push_of_some _ (Heap.get?_push_of_some _ (Heap.get?_push_of_some _ x))))⟩
end
end Mine
namespace Mine
section
variable {prog : Program} {w : World} {A : Around} {env : Env} {h : Heap}
theorem zip_take {α β γ : Type} (f : α → β → γ) {as : List α} {bs : List β} {k : Nat} {a : α} {b : β} (ha : as[k]? = some a) (hb : bs[k]? = some b) : (List.zipWith f as bs).take (k + 1) = (List.zipWith f as bs).take k ++ [f a b] := by
  rw [List.take_add_one, List.getElem?_zipWith, ha, hb]
  rfl
theorem ints_snoc {vs : List Value} {ns : List Int} (hi : IntsAre vs ns) (n : Int) (t : Tok) : IntsAre (vs ++ [.int n t]) (ns ++ [n]) := by
  induction hi with
  | nil => exact .cons _ _ .nil
  | cons _ _ _ ih => exact .cons _ _ ih
theorem Ev.lc_zip {elt e1 e2 : Expr} {a b : Str} {pa pb tp zp cp pos : Pos} {kk : Nat} {scope : Scope} {cl : List (Str × Addr)} {bx cx : Array UInt8} (f : Int → Int → Int) (hh : A.handled = none) (hsz : bx.size = cx.size) (hsm : bx.size ≤ 1000000)
    (hclos : closureFor scope env = pure cl) (hcell : ∀ y ∈ scope.names, y.2 ≠ .cell) (hkind : scope.kind = .function) (hnames : ∀ y ∈ scope.names, y.2 = .local → scope.names.lookup y.1 = some .local)
    (hxa : scope.names.lookup a = some .local) (hxb : scope.names.lookup b = some .local) (hab : ¬ a = b)
    (hz : Ev (model prog w) A env h (.Name "zip" zp) (PV (.type "zip"))) (h1 : Ev (model prog w) A env h e1 (PB bx)) (h2 : Ev (model prog w) A env h e2 (PB cx))
    (q1 : starEach [e1, e2] env = (false, eval e1 env) :: starEach [e2] env) (q2 : starEach [e2] env = (false, eval e2 env) :: starEach [] env) (hp : (backTo cp (starEach [e2] env)).any (·.1) = false)
    (helt : ∀ C (i j : Int) t u H m₂, Le h H → H.Ns C m₂ → m₂ a = some (.int i t) → m₂ b = some (.int j u) → Ev (model prog w) A (compEnvC scope cl C env) H elt (PI (f i j)))
    (hs : ∀ v, foldedSetIterable (.Call (.Name "zip" zp) [e1, e2] [] cp) env v = pure v) :
    Ev (model prog w) A env h (.ListComp elt [⟨.Tuple [.Name a pa, .Name b pb] kk tp, .Call (.Name "zip" zp) [e1, e2] [] cp, [], 0⟩] scope pos) (PL (List.zipWith f (KBw.bInts bx) (KBw.bInts cx))) := fun s E Q ks hQ => by
  rw [eval_ListComp]
  refine wpAny_comprehension_free (use := none) rfl hs hclos hkind hnames ?_
  refine Call_Name rfl (hz s _ _ ks fun v g0 t0 k0 p0 => ?_)
  cases p0
  refine callWith_type1 (args_cons (h1 _ _ _ (le_trans ks k0) fun v1 g1 t1 k1 ⟨tb, ev1⟩ => args_cons (h2 _ _ _ (le_trans (le_trans ks k0) k1) fun v2 g2 t2 k2 ⟨tc, ev2⟩ => args_nil ?_) q2) q1) q1 hp
  subst ev1 ev2
  have ks2 : Le s.heap g2 := le_trans (le_trans k0 k1) k2
  refine call_zip_bytes fun hz0 Z0 hzs kz => ?_
  dsimp only at Z0 hzs kz ⊢
  generalize hN : g2.objs.size = N at Z0 hzs
  refine wpAny_pyIter_zip Z0.z ?_
  refine wpAny_newObj_type (wpAny_newFunctionEnv hcell (by intro y hy; simp at hy) (fun h₁ hns₁ hsb₁ => ?_) hkind) (Nat.zero_le _)
  dsimp only at hns₁ hsb₁ ⊢
  generalize hH2 : hz0.push { cls := .type "list", dict := none, data := .seq ([] : List Value).toArray } = H2 at hns₁ hsb₁ ⊢
  have hD : hz0.objs.size = N + 5 := hzs
  have hC : H2.objs.size = N + 6 := by rw [← hH2, Heap.size_push, hD]
  have old : ∀ (a : Nat) (o : Obj), a < N + 5 → hz0.get? a = some o → h₁.get? a = some o := fun a o ha e => hsb₁.extBut a o (by rw [hC]; exact (show (a : Nat) ≠ N + 6 by omega)) (Heap.get?_push_of_some _ (hH2 ▸ Heap.get?_push_of_some _ e))
  have hacc : h₁.IsList (N + 5 : Nat) ([] : List Value).toArray := by
    have e0 : (hz0.push { cls := .type "list", dict := none, data := .seq ([] : List Value).toArray }).get? hz0.objs.size = some { cls := .type "list", dict := none, data := .seq ([] : List Value).toArray } := Heap.get?_push_size _ rfl
    rw [hD, hH2] at e0
    exact ⟨_, hsb₁.extBut _ _ (by rw [hC]; exact (show (N + 5 : Nat) ≠ N + 6 by omega)) (Heap.get?_push_of_some _ e0), rfl, _, rfl⟩
  have Z1 : ZS h₁ N bx tb cx tc 0 .none := Z0.keeps fun a o _ ha e => old a o (by omega) e
  have below : ∀ (a : Nat) (o : Obj), g2.get? a = some o → a < N := fun a o e => hN ▸ Heap.lt_size e
  rw [hD]
  rw [hC] at hns₁ ⊢
  have gs : ∀ (a : Nat) (o : Obj), s.heap.get? a = some o → a < N := fun a o e => below a o (ks2 _ _ e)
  have loop : codeAny (model prog w) A (.compLoop (.ListComp elt [⟨.Tuple [.Name a pa, .Name b pb] kk tp, .Call (.Name "zip" zp) [e1, e2] [] cp, [], 0⟩] scope pos) 0 (.ref (N + 4 : Nat)) (.ref (N + 5 : Nat)) (compEnvC scope cl (N + 6 : Nat) env))
      (compPost (model prog w) A E none Q (.ref (N + 5 : Nat)) (N + 6 : Nat)) { s with heap := h₁, toks := t2 + ([] : List (Str × Value)).length } := by
    refine kcp_loop (fun n s' => ∃ (h' : Heap) (tk k : Nat) (ys : List Value) (m' : Str → Option Value), s' = { s with heap := h', toks := tk } ∧ k ≤ bx.size ∧ n = bx.size + 1 - k ∧ ZS h' N bx tb cx tc k .none ∧
      h'.IsList (N + 5 : Nat) ys.toArray ∧ h'.Ns (N + 6 : Nat) m' ∧ IntsAre ys ((List.zipWith f (KBw.bInts bx) (KBw.bInts cx)).take k) ∧ ys.length = k ∧ (∀ (a : Nat) (o : Obj), a < N → g2.get? a = some o → h'.get? a = some o)) ?_ (bx.size + 1)
      ⟨h₁, _, 0, [], _, rfl, Nat.zero_le _, rfl, Z1, hacc, hns₁, .nil, rfl, fun a o ha e => old a o (by omega) (kz _ _ e)⟩
    rintro n s' ⟨h', tk, k, ys, m', rfl, hk, rfl, Z', hl', hn', hi', hyl, hkeep⟩
    by_cases hlt : k < bx.size
    · have hltc : k < cx.size := hsz ▸ hlt
      refine zip_next_item' hh Z' (Array.getElem?_eq_getElem hlt) (Array.getElem?_eq_getElem hltc) fun h₂ u1 u2 tk₂ Z₂ hT₂ k₂ => ?_
      -- the owned tuple is let go
      refine wpAny_letOwnedTupleGo_zip Z₂.z fun h₃ hz₃ hs₃ => ?_
      have big : N + 6 < h'.objs.size := by
        obtain ⟨o, _, _, ho, _⟩ := hn'
        exact Heap.lt_size ho
      have Z₃ : ZS h₃ N bx tb cx tc (k + 1) .none := ⟨hz₃, hs₃.extBut _ _ (show (N + 2 : Nat) ≠ N + 4 by omega) Z₂.ti, let ⟨p, q, r⟩ := Z₂.to; ⟨p, q, hs₃.extBut _ _ (show (N + 3 : Nat) ≠ N + 4 by omega) r⟩,
        iter_at Z₂.i1 fun o e => hs₃.extBut _ _ (show (N : Nat) ≠ N + 4 by omega) e, iter_at Z₂.i2 fun o e => hs₃.extBut _ _ (show (N + 1 : Nat) ≠ N + 4 by omega) e⟩
      have up₃ : ∀ (a : Nat) (o : Obj), (a < N ∨ N + 4 < a) → h'.get? a = some o → h₃.get? a = some o := fun a o ha e => hs₃.extBut _ _ (show (a : Nat) ≠ N + 4 by omega) (k₂ a o ha e)
      have hT₃ : h₃.IsTuple h'.objs.size #[.int (bx[k].toNat : Int) u1, .int (cx[k].toNat : Int) u2] := ⟨_, hs₃.extBut _ _ (show (h'.objs.size : Nat) ≠ N + 4 by omega) hT₂, rfl, _, rfl⟩
      have hn₃ : h₃.Ns (N + 6 : Nat) m' := hn'.at' fun o e => up₃ _ o (by omega) e
      refine kcp_assign (env := compEnvC scope cl (N + 6 : Nat) env) hh hT₃ (lookup_relabel_local hxa) (lookup_relabel_local hxb) (by simp [compEnvC, relabel, hkind]) hn₃ fun h₄ tk₄ hn₄ hs₄ => ?_
      have up₄ : ∀ (a : Nat) (o : Obj), a ≠ N + 6 → h₃.get? a = some o → h₄.get? a = some o := fun a o ha e => hs₄ a o ha e
      have leh : Le h h₄ := fun a o e => by
        have ha := gs a o (ks _ _ e)
        exact up₄ a o (by have := ha; omega) (up₃ a o (.inl ha) (hkeep a o ha (ks2 _ _ (ks _ _ e))))
      refine helt (N + 6 : Nat) (bx[k].toNat : Int) (cx[k].toNat : Int) u1 u2 h₄ _ leh hn₄ (by rw [if_neg hab, if_pos rfl]) (if_pos rfl) _ _ _ (le_refl _) fun y h₅ tk₅ k₅ ⟨ty, ey⟩ => ?_
      subst ey
      have hl₅ : h₅.IsList (N + 5 : Nat) ys.toArray := by
        obtain ⟨o, ho, r⟩ := hl'
        exact ⟨o, k₅ _ _ (up₄ _ _ (by omega) (up₃ _ _ (by omega) ho)), r⟩
      refine wpAny_list_append (hsz := by rw [List.size_toArray, hyl, sizeLine_eq]; omega) hl₅ fun h₆ hl₆ hs₆ => ?_
      have up₆ : ∀ (a : Nat) (o : Obj), a ≠ N + 5 → h₅.get? a = some o → h₆.get? a = some o := fun a o ha e => hs₆.extBut a o ha e
      refine ⟨bx.size + 1 - (k + 1), by omega, h₆, tk₅, k + 1, ys ++ [.int (f (bx[k].toNat : Int) (cx[k].toNat : Int)) ty], _, rfl, hlt, rfl, ?_, ?_, (hn₄.keeps k₅).sameBut hs₆ (show (N + 6 : Nat) ≠ N + 5 by omega), ?_, by simp [hyl], ?_⟩
      · exact (Z₃.keeps fun a o h1 h2 e => up₄ a o (by omega) e).keeps fun a o h1 h2 e => up₆ a o (by omega) (k₅ _ _ e)
      · have e : (ys ++ [Value.int (f (bx[k].toNat : Int) (cx[k].toNat : Int)) ty]).toArray = ys.toArray.push (.int (f (bx[k].toNat : Int) (cx[k].toNat : Int)) ty) := by simp
        rw [e]
        exact hl₆
      · rw [zip_take f (KBw.ints_get (Array.getElem?_eq_getElem hlt)) (KBw.ints_get (Array.getElem?_eq_getElem hltc))]
        exact ints_snoc hi' _ _
      · intro a o ha e
        exact up₆ a o (by omega) (k₅ _ _ (up₄ a o (by omega) (up₃ a o (.inl ha) (hkeep a o ha e))))
    · have hkn : k = bx.size := by omega
      refine zip_next_end' hh Z' (Array.getElem?_eq_none (by omega)) fun h₂ k₂ => ?_
      show ∃ m, _ ∧ _
      refine ⟨m', hn'.at' fun o e => k₂ _ o (by omega) e, fun h₃ hs₃ => ?_⟩
      refine hQ _ h₃ tk (fun a o e => ?_) ⟨(N + 5 : Nat), ys, rfl, ?_, ?_⟩
      · have ha := gs a o e
        exact hs₃.extBut a o (Nat.ne_of_lt (Nat.lt_of_lt_of_le ha (Nat.le_add_right _ _))) (k₂ a o (.inl ha) (hkeep a o ha (ks2 _ _ e)))
      · obtain ⟨o, ho, r⟩ := hl'
        exact ⟨o, hs₃.extBut _ o (show (N + 5 : Nat) ≠ N + 6 by omega) (k₂ _ o (by omega) ho), r⟩
      · have e : (List.zipWith f (KBw.bInts bx) (KBw.bInts cx)).take k = List.zipWith f (KBw.bInts bx) (KBw.bInts cx) := List.take_of_length_le (by rw [List.length_zipWith, KBw.ints_length, KBw.ints_length]; omega)
        rw [e] at hi'
        exact hi'
  refine codeAny_compStart_list ?_ (wpAny_pyIter_zip Z1.z ?_)
  · exact loop
  · exact loop
end
end Mine
namespace Mine
set_option maxHeartbeats 8000000
open_top hd for PySem.Challenge.rw_bh0044_01
end Mine
namespace Mine
noncomputable abbrev pg : Program := PySem.Challenge.rw_bh0044_01.row.prog
noncomputable abbrev KK (w : World) : Frag := hd.heap_39 w.params
set_option maxHeartbeats 1000000
theorem law_at_cl {w : World} {A : Around} {h : Heap} {mg mb : Str → Option Value} {l : Addr} {vs : List Value} {ns : List Int} {k d : Int} {t u : Tok} (X : (KK w).In h) (G : Glb mg mb h) (hlen : mg "len" = none ∧ mb "len" = some (.builtin "len"))
    (hl : h.IsList l vs.toArray) (hi : IntsAre vs ns) (h0 : 0 ≤ k) (hk63 : k < 2 ^ 63) (hsz : ns.length ≤ 2 ^ 20) (hroom : A.depth < recursionLimit) : Cl (model pg w) A h (.ref 52) [.ref l, .int k t, .int d u] (fun _ v => ∃ t', v = .int (ns.getD k.toNat d) t') := by
  refine cl_def (binds := [("script", .ref l), ("k", .int k t), ("other", .int d u)]) (X 52 _ rfl) rfl G.lim (codeRec_of X rfl) hroom (fun s ks => BindsTo.of_eq rfl) (by decide) (locs rfl) rfl rfl rfl fun g L kg => ?_
  refine Xs.ret (P := PI (ns.getD k.toNat d)) (fun H S => ?_) (fun _ _ p => p)
  have k' := le_trans kg S.le
  have nS : ∀ {M : Model} {A : Around} {pos : Pos}, Ev M A _ H (.Name "script" pos) (PV (.ref l)) := fun {M A pos} => Ev.local rfl rfl S.ns rfl (by decide)
  have nK : ∀ {M : Model} {A : Around} {pos : Pos}, Ev M A _ H (.Name "k" pos) (PI k) := fun {M A pos} => Ev.mono (Ev.local rfl rfl S.ns rfl (by decide)) fun _ _ p => ⟨_, p⟩
  have nO : ∀ {M : Model} {A : Around} {pos : Pos}, Ev M A _ H (.Name "other" pos) (PI d) := fun {M A pos} => Ev.mono (Ev.local rfl rfl S.ns rfl (by decide)) fun _ _ p => ⟨_, p⟩
  have hlen' : ns.length = vs.length := hi.length.symm
  refine Ev.ifexp (c := decide (k < (ns.length : Int))) (EvT.lt_int nK ?_ rfl) (fun hc => ?_) (fun hc => ?_)
  · refine Ev.call1 (f := .builtin "len") (Ev.blt (G.up k') hlen.1 hlen.2 rfl rfl rfl rfl (by decide)) (cw_builtin _) nS (fun h' v kh pv => ?_) rfl
    cases pv
    intro s E Q ks hQ
    refine len_list (isList_up (isList_up hl k') (le_trans kh ks)) (by simp; omega) ?_
    refine hQ _ s.heap _ (le_refl _) ⟨_, by simp [hlen']; rfl⟩
  · have hc' := of_decide_eq_true hc
    have hlt : k.toNat < ns.length := by omega
    refine Ev.item_list (ns := ns) (k := k) (Ev.monoLe nS fun h' v kh p => ⟨l, vs, p, isList_up hl (le_trans k' kh), hi⟩) nK h0 hk63 (by rw [List.getD_eq_getElem?_getD, List.getElem?_eq_getElem hlt]; rfl) (fun _ _ => rfl) (fun _ _ => rfl)
  · have hc' := of_decide_eq_false hc
    have : ns.getD k.toNat d = d := by
      rw [List.getD_eq_getElem?_getD, List.getElem?_eq_none (by omega)]; rfl
    rw [this]
    exact nO
end Mine
namespace Mine
set_option maxHeartbeats 1000000
/-- the text's own world at a heap -/
structure Gl (w : World) (mg mb : Str → Option Value) (h : Heap) : Prop where
  X : (KK w).In h
  glb : Glb mg mb h
  boot : ∀ x : Str, x ≠ "__name__" → mb x = bootBuiltins x
theorem Gl.up {w : World} {mg mb : Str → Option Value} {h h' : Heap} (x : Gl w mg mb h) (k : Le h h') : Gl w mg mb h' := ⟨x.X.keeps k, x.glb.up k, x.boot⟩
section
variable {w : World} {M : Model} {A : Around} {env : Env} {h : Heap} {mg mb : Str → Option Value}
theorem Ev.gname {x : Str} {pos : Pos} {v : Value} (G : Gl w mg mb h) (e : nsIn (KK w) mainGlobals x = some (some v)) (hg : env.globals = mainGlobals) (hk : env.scope.kind = .function) (hl : env.kindOf x = some .globalImplicit) (hd : (x == ("__debug__" : Str)) = false) :
    Ev M A env h (.Name x pos) (PV v) := Ev.glob G.glb (mg_of G.X G.glb.g e) hg hk hl hd
theorem Ev.bname {x : Str} {pos : Pos} {v : Value} (G : Gl w mg mb h) (e : nsIn (KK w) mainGlobals x = some none) (hv : bootBuiltins x = some v) (hn : x ≠ "__name__") (hg : env.globals = mainGlobals) (hb : env.builtins = builtinsNs) (hk : env.scope.kind = .function) (hl : env.kindOf x = some .globalImplicit) (hd : (x == ("__debug__" : Str)) = false) :
    Ev M A env h (.Name x pos) (PV v) := Ev.blt G.glb (mg_none_of G.X G.glb.g e) ((G.boot x hn).trans hv) hg hb hk hl hd
end
theorem boot_bytearray : bootBuiltins "bytearray" = some (.type "bytearray") := by decide +kernel

def isNum (v : Option Value) (n : Nat) : Bool := match v with
  | some (.int m _) => m == (n : Int)
  | _ => false
theorem isNum_of {v : Option Value} {n : Nat} (h : isNum v n = true) : ∃ t, v = some (.int (n : Int) t) := by
  unfold isNum at h
  split at h
  · rename_i m t
    exact ⟨t, by rw [beq_iff_eq.mp h]⟩
  · cases h
theorem tab_of (items : Array Value) (h : ((List.range 256).all fun i => isNum items[i]? (gk 8 i)) = true) : ∀ i < 256, ∃ t, items[i]? = some (.int ((gk 8 i : Nat) : Int) t) :=
  fun i hi => isNum_of (List.all_eq_true.mp h i (List.mem_range.mpr hi))
theorem tab_get (w : World) : ∃ items n, (KK w).lookup 15 = some ⟨.type "tuple", none, .seq items n, #[]⟩ ∧ items.size = 256 ∧ ∀ i < 256, ∃ t, items[i]? = some (.int ((gk 8 i : Nat) : Int) t) :=
  ⟨_, _, rfl, by kernel_rfl, tab_of _ (by kernel_rfl)⟩
end Mine
namespace Mine
set_option maxHeartbeats 1000000
theorem xor_and_or : ∀ (n a b : Nat), a ≤ n → (a ^^^ b) + (a &&& b) = a ||| b
  | 0, a, b, h => by
    have : a = 0 := by omega
    subst this
    simp
  | n + 1, a, b, h => by
    by_cases ha : a = 0
    · subst ha; simp
    · have ih := xor_and_or n (a / 2) (b / 2) (by omega)
      have e1 : (a ^^^ b) / 2 = a / 2 ^^^ b / 2 := Nat.xor_div_two
      have e2 : (a &&& b) / 2 = a / 2 &&& b / 2 := Nat.and_div_two
      have e3 : (a ||| b) / 2 = a / 2 ||| b / 2 := Nat.or_div_two
      have f1 : (a ^^^ b) % 2 = a % 2 ^^^ b % 2 := by simpa using Nat.xor_mod_two_pow (a := a) (b := b) (n := 1)
      have f2 : (a &&& b) % 2 = a % 2 &&& b % 2 := by simpa using Nat.and_mod_two_pow (a := a) (b := b) (n := 1)
      have f3 : (a ||| b) % 2 = a % 2 ||| b % 2 := by simpa using Nat.or_mod_two_pow (a := a) (b := b) (n := 1)
      rw [← e1, ← e2, ← e3] at ih
      have f4 : (a % 2 ^^^ b % 2) + (a % 2 &&& b % 2) = a % 2 ||| b % 2 := by
        rcases Nat.mod_two_eq_zero_or_one a with h1 | h1 <;> rcases Nat.mod_two_eq_zero_or_one b with h2 | h2 <;> rw [h1, h2] <;> decide
      omega
theorem and_cast (a b : Nat) : Builtin.bitAnd (a : Int) (b : Int) = ((a &&& b : Nat) : Int) := by
  unfold Builtin.bitAnd
  have h1 : decide (0 ≤ (a : Int)) = true := by simp
  have h2 : decide (0 ≤ (b : Int)) = true := by simp
  rw [h1, h2]
  rfl
theorem or_cast (a b : Nat) : Builtin.bitOr (a : Int) (b : Int) = ((a ||| b : Nat) : Int) := by
  unfold Builtin.bitOr Builtin.bitAnd Builtin.bitNot
  have h1 : decide (0 ≤ -(a : Int) - 1) = false := by simp; omega
  have h2 : decide (0 ≤ -(b : Int) - 1) = false := by simp; omega
  rw [h1, h2]
  show -(-(((- (-(a : Int) - 1) - 1).toNat ||| (- (-(b : Int) - 1) - 1).toNat : Nat) : Int) - 1) - 1 = _
  have e1 : (- (-(a : Int) - 1) - 1).toNat = a := by omega
  have e2 : (- (-(b : Int) - 1) - 1).toNat = b := by omega
  rw [e1, e2]
  omega
theorem xor_cast (a b : Nat) : Builtin.bitXor (a : Int) (b : Int) = ((a ^^^ b : Nat) : Int) := by
  unfold Builtin.bitXor
  rw [or_cast, and_cast]
  have := xor_and_or a a b (Nat.le_refl _)
  omega
theorem and_m32 (x : Nat) : Builtin.bitAnd (x : Int) 4294967295 = ((x % 4294967296 : Nat) : Int) := by
  rw [bitAnd_m32]; rfl
theorem and_m8 (x : Nat) : Builtin.bitAnd (x : Int) 255 = ((x % 256 : Nat) : Int) := by
  rw [bitAnd_m8]; rfl
theorem fdiv8 (x : Nat) : (x : Int).fdiv (2 ^ (8 : Int).toNat) = ((x / 256 : Nat) : Int) := by
  show (x : Int).fdiv 256 = _
  rw [Int.fdiv_eq_ediv_of_nonneg _ (by decide)]
  rfl
section
variable {M : Model} {A : Around} {env : Env} {g : Heap} {m : Str → Option Value} {st : Stmt} {Post Post' : Heap → (Str → Option Value) → Prop}
theorem Xn.mono (x : Xn M A env g m st Post) (k : ∀ g' m', Le g g' → Post g' m' → Post' g' m') : Xn M A env g m st Post' := fun s E Q S hQ => x s E Q S fun g' m' h' tk kg S' p => hQ g' m' h' tk kg S' (k _ _ kg p)
end
theorem Ev.shr {prog : Program} {w : World} {A : Around} {env : Env} {h : Heap} {l r : Expr} {pos : Pos} {a b : Int} (hl : Ev (model prog w) A env h l (PI a)) (hr : Ev (model prog w) A env h r (PI b)) (hn : 0 ≤ b) : Ev (model prog w) A env h (.BinOp l .RShift r pos) (PI (a.fdiv (2 ^ b.toNat))) :=
  Ev.binop (stays_I a) hl hr fun s E Q x y ks ⟨t, ex⟩ ⟨u, ey⟩ hQ => by subst ex ey; exact rshift_int hn (hQ _ s.heap _ (le_refl _) ⟨_, rfl⟩)
theorem fold_run : ∀ (l : List UInt8) (c : Nat), (l.map fun c => (c.toNat : Int)).foldl (fun (c k : Int) => ((gk 8 (c.toNat ^^^ k.toNat) : Nat) : Int)) (c : Int) = ((runC c (l.map (·.toNat)) : Nat) : Int)
  | [], _ => rfl
  | x :: r, c => fold_run r (gk 8 (c ^^^ x.toNat))
theorem ev_bytes_isi {w : World} {A : Around} {env : Env} {h : Heap} {mg mb : Str → Option Value} (G : Gl w mg mb h) {p1 p2 p3 p4 p5 p6 : Pos} {k : Nat} {b : Array UInt8}
    (hg : env.globals = mainGlobals) (hbt : env.builtins = builtinsNs) (hk : env.scope.kind = .function) (h1 : env.kindOf "isinstance" = some .globalImplicit) (h2 : env.kindOf "bytes" = some .globalImplicit) (h3 : env.kindOf "bytearray" = some .globalImplicit)
    (hdat : Ev (model pg w) A env h (.Name "data" p1) (PB b)) :
    Ev (model pg w) A env h (.Call (.Name "isinstance" p2) [.Name "data" p1, .Tuple [.Name "bytes" p3, .Name "bytearray" p4] k p5] [] p6) (PV (.bool true)) := by
  refine Ev.call2 (P₁ := PB b) (P₂ := fun h v => ∃ a, v = .ref a ∧ h.get? a = some ⟨.type "tuple", none, .seq #[.type "bytes", .type "bytearray"] 0, #[]⟩) (f := .builtin "isinstance") (Ev.bname G rfl boot_isinstance (by decide) hg hbt hk h1 (by decide)) (cw_builtin _) (stays_B b) hdat ?_ ?_ rfl rfl rfl
  · intro s E Q ks hQ
    refine Tuple_ (args_cons ((Ev.bname G rfl boot_bytes (by decide) hg hbt hk h2 (by decide)) s E _ ks fun v g0 t0 k0 p0 => ?_) rfl)
    cases p0
    refine args_cons ((Ev.bname (G.up (le_trans ks k0)) rfl boot_bytearray (by decide) hg hbt hk h3 (by decide)) _ E _ (le_refl _) fun v g1 t1 k1 p1 => ?_) rfl
    cases p1
    refine args_nil (wpAny_newTuple ?_)
    refine hQ _ _ _ (le_trans (le_trans k0 k1) fun b o e => Heap.get?_push_of_some _ e) ⟨_, rfl, Heap.get?_push_size _ rfl⟩
  · rintro h' v w kh ⟨t, rfl⟩ ⟨a, rfl, ha⟩ s E Q ks hQ
    exact kia_tup (K := KK _) kitx_bytes (G.X.keeps (le_trans kh ks)) trivial (ks _ _ ha) (b := true) (by kernel_rfl) (by intro q; cases q) fun tk => hQ _ s.heap tk (le_refl _) rfl
end Mine
namespace Mine
set_option maxHeartbeats 1000000
theorem mod32 {x : Nat} (h : x < 2 ^ 32) : x % 4294967296 = x := Nat.mod_eq_of_lt h
theorem EvT.plain {M : Model} {A : Around} {env : Env} {h : Heap} {e : Expr} {b : Bool} (x : Ev M A env h e (PV (.bool b)))
    (he : isTrue e env (eval e env) = (do let v ← eval e env; standAt e.pos; holding [v] (truthy v))) : EvT M A env h e b := fun s E Q ks hQ =>
  isTrue_plain (x s E _ ks fun v h' tk k p => by cases p; exact truthy_bool (hQ h' tk k)) he
theorem Ev.eqI {M : Model} {A : Around} {env : Env} {h : Heap} {e : Expr} {a b : Int} (x : Ev M A env h e (PI a)) (q : a = b) : Ev M A env h e (PI b) := q ▸ x
theorem seq_nat {i n : Nat} (h : i < n) : seqIndex? (i : Int) n = some i := by
  unfold seqIndex?
  have h1 : ¬ ((i : Int) < 0) := by omega
  have h2 : (decide (0 ≤ (i : Int)) && decide ((i : Int) < (n : Int))) = true := by simp; omega
  simp only [if_neg h1, h2, if_true]
  simp
theorem update_cl {w : World} {A : Around} {h : Heap} {mg mb : Str → Option Value} {c : Nat} {b : Array UInt8} {t u : Tok} (G : Gl w mg mb h) (hh : A.handled = none) (hroom : A.depth < recursionLimit) (hc : c < 2 ^ 32) :
    Cl (model pg w) A h (.ref 23) [.int (c : Int) t, .bytes b u] (PI (updN c (octs b) : Nat)) := by
  obtain ⟨items, n, htab, hsz, hitem⟩ := tab_get w
  refine cl_def (binds := [("crc", .int (c : Int) t), ("data", .bytes b u), ("_TABLE", .ref 15), ("_M", .int 4294967295 448)]) (G.X 23 _ rfl) rfl G.glb.lim (codeRec_of G.X rfl) hroom
    (fun s ks => binds_K (G.X.keeps ks) rfl rfl rfl rfl rfl) (by decide) (locs rfl) rfl rfl rfl fun g L kg => ?_
  refine Xs.seq (Xn.if_true (fun H S => EvT.plain (ev_bytes_isi (b := b) (G.up (le_trans kg S.le)) rfl rfl rfl rfl rfl rfl (Ev.mono (Ev.local rfl rfl S.ns rfl (by decide)) fun _ _ p => ⟨_, p⟩)) rfl)
    (Xn.assign (P := PB b) (fun H S => Ev.mono (Ev.local rfl rfl S.ns rfl (by decide)) fun _ _ p => ⟨_, p⟩) (hid_B b) rfl rfl rfl)) fun g1 m1 k1 => ?_
  rintro ⟨v1, ⟨t1, rfl⟩, rfl⟩
  refine Xs.seq (Xn.aug_xor (a := c) (b := 4294967295) rfl rfl rfl (fun H S => Ev.mono (Ev.local rfl rfl S.ns rfl (by decide)) fun _ _ p => ⟨_, p⟩) rfl) fun g2 m2 k2 => ?_
  rintro ⟨t2, rfl⟩
  have ec : Builtin.bitXor (c : Int) 4294967295 = ((c ^^^ msk : Nat) : Int) := xor_cast c msk
  rw [ec]
  have hc0 : c ^^^ msk < 2 ^ 32 := Nat.xor_lt_two_pow hc msk_lt
  refine Xs.seq (Xn.for_bytes (x := "b") (y := "crc") (b := b) (c₀ := ((c ^^^ msk : Nat) : Int)) (t₀ := t2) (fun c k => ((gk 8 (c.toNat ^^^ k.toNat) : Nat) : Int)) (fun c => ∃ n : Nat, c = (n : Int) ∧ n < 2 ^ 32) hh rfl rfl (by decide) rfl
    (fun H S => Ev.mono (Ev.local rfl rfl S.ns rfl (by decide)) fun _ _ p => ⟨_, p⟩) rfl ⟨_, rfl, hc0⟩ ?_ (fun v => rfl)) fun g3 m3 k3 => ?_
  · rintro g' m' c' k t3 u3 kg' ⟨n', rfl, hn'⟩ h0 h256 hmx hmy hrest
    obtain ⟨kn, rfl⟩ := Int.eq_ofNat_of_zero_le h0
    have hk256 : kn < 256 := by omega
    have mT : m' "_TABLE" = some (.ref 15) := (hrest _ (by decide) (by decide)).trans rfl
    have mM : m' "_M" = some (.int 4294967295 448) := (hrest _ (by decide) (by decide)).trans rfl
    have val : ((gk 8 (n' ^^^ kn) : Nat) : Int) = Builtin.bitAnd (Builtin.bitXor ((gk 8 ((n' ^^^ kn) % 256) : Nat) : Int) ((n' / 256 : Nat) : Int)) 4294967295 := by
      rw [xor_cast, turn_eq n' kn hk256, and_m32, mod32 (gk_lt 8 (Nat.xor_lt_two_pow hn' (Nat.lt_trans hk256 (by decide))))]
    refine Xn.mono (Xn.assign (P := PI ((gk 8 (n' ^^^ kn) : Nat) : Int)) (fun H S => ?_) (hid_I _) rfl rfl rfl) ?_
    · have nC : ∀ {M : Model} {A : Around} {pos : Pos}, Ev M A (callEnv _ L 23) H (.Name "crc" pos) (PI (n' : Int)) := fun {M A pos} => Ev.mono (Ev.local rfl rfl S.ns hmy (by decide)) fun _ _ p => ⟨_, p⟩
      have nB : ∀ {M : Model} {A : Around} {pos : Pos}, Ev M A (callEnv _ L 23) H (.Name "b" pos) (PI (kn : Int)) := fun {M A pos} => Ev.mono (Ev.local rfl rfl S.ns hmx (by decide)) fun _ _ p => ⟨_, p⟩
      have nT : ∀ {M : Model} {A : Around} {pos : Pos}, Ev M A (callEnv _ L 23) H (.Name "_TABLE" pos) (PV (.ref 15)) := fun {M A pos} => Ev.local rfl rfl S.ns mT (by decide)
      have nM : ∀ {M : Model} {A : Around} {pos : Pos}, Ev M A (callEnv _ L 23) H (.Name "_M" pos) (PI 4294967295) := fun {M A pos} => Ev.mono (Ev.local rfl rfl S.ns mM (by decide)) fun _ _ p => ⟨_, p⟩
      rw [val]
      refine Ev.and (Ev.xor ?_ ?_) nM
      · refine Ev.item (stays_V _) nT (Ev.eqI (b := (((n' ^^^ kn) % 256 : Nat) : Int)) (Ev.and (Ev.xor nC nB) Ev.const_int) (by rw [xor_cast, and_m8])) fun s E Q o i ks eo ⟨ti, ei⟩ hQ => ?_
        cases eo
        subst ei
        have hlt : (n' ^^^ kn) % 256 < 256 := Nat.mod_lt _ (by decide)
        obtain ⟨tv, hv⟩ := hitem _ hlt
        have hT : IsTup s.heap 15 items := ⟨_, ks _ _ (S.le _ _ (kg' _ _ (k2 _ _ (k1 _ _ (kg _ _ (G.X 15 _ htab)))))), rfl, n, rfl⟩
        refine item_tuple (j := (n' ^^^ kn) % 256) hT (by omega) (by omega) ?_ hv (hQ _ s.heap s.toks (le_refl _) ⟨tv, rfl⟩) rfl (fun _ => rfl)
        show seqIndex? (((n' ^^^ kn) % 256 : Nat) : Int) items.size = some ((n' ^^^ kn) % 256)
        exact seq_nat (by omega)
      · exact Ev.eqI (Ev.shr nC Ev.const_int (by decide)) (fdiv8 n')
    · rintro g'' m'' k'' ⟨v, ⟨tv, rfl⟩, rfl⟩
      refine ⟨⟨_, rfl, gk_lt 8 (Nat.xor_lt_two_pow hn' (Nat.lt_trans hk256 (by decide)))⟩, ⟨tv, put_eq⟩, fun z h1 h2 => (put_ne h2).trans (hrest z h1 h2)⟩
  rintro ⟨⟨u3, h3⟩, hrest⟩
  have mM : m3 "_M" = some (.int 4294967295 448) := (hrest _ (by decide) (by decide)).trans rfl
  refine Xs.ret (P := PI (updN c (octs b) : Nat)) (fun H S => ?_) (fun _ _ p => p)
  refine Ev.eqI (Ev.xor (Ev.mono (Ev.local rfl rfl S.ns h3 (by decide)) fun _ _ p => ⟨_, p⟩) (Ev.mono (Ev.local rfl rfl S.ns mM (by decide)) fun _ _ p => ⟨_, p⟩)) ?_
  have e2 := fold_run b.toList (c ^^^ msk)
  have e3 : (KBw.bInts b).foldl (fun (c k : Int) => ((gk 8 (c.toNat ^^^ k.toNat) : Nat) : Int)) ((c ^^^ msk : Nat) : Int) = ((runC (c ^^^ msk) (octs b) : Nat) : Int) := e2
  rw [e3]
  exact xor_cast _ msk
theorem finalize_cl {w : World} {A : Around} {h : Heap} {mg mb : Str → Option Value} {c : Nat} {t : Tok} (G : Gl w mg mb h) (hroom : A.depth < recursionLimit) (hc : c < 2 ^ 32) :
    Cl (model pg w) A h (.ref 30) [.int (c : Int) t] (PI (c : Nat)) := by
  refine cl_def (binds := [("crc", .int (c : Int) t)]) (G.X 30 _ rfl) rfl G.glb.lim (codeRec_of G.X rfl) hroom
    (fun s ks => BindsTo.of_eq rfl) (by decide) (locs rfl) rfl rfl rfl fun g L kg => ?_
  refine Xs.ret (P := PI (c : Nat)) (fun H S => ?_) (fun _ _ p => p)
  refine Ev.eqI (Ev.and (b := 4294967295) (Ev.mono (Ev.local rfl rfl S.ns rfl (by decide)) fun _ _ p => ⟨_, p⟩) (Ev.mono (Ev.gname (G.up (le_trans kg S.le)) rfl rfl rfl rfl (by decide)) fun _ _ p => ⟨_, p⟩)) ?_
  rw [and_m32, mod32 hc]
theorem crc_cl {w : World} {A : Around} {h : Heap} {mg mb : Str → Option Value} {b : Array UInt8} {u : Tok} (G : Gl w mg mb h) (hh : A.handled = none) (hroom : A.depth + 1 < recursionLimit) :
    Cl (model pg w) A h (.ref 37) [.bytes b u] (PI (crcN (octs b) : Nat)) := by
  refine cl_def (binds := [("data", .bytes b u)]) (G.X 37 _ rfl) rfl G.glb.lim (codeRec_of G.X rfl) (Nat.lt_of_succ_lt hroom)
    (fun s ks => BindsTo.of_eq rfl) (by decide) (locs rfl) rfl rfl rfl fun g L kg => ?_
  refine Xs.ret (P := PI (crcN (octs b) : Nat)) (fun H S => ?_) (fun _ _ p => p)
  have G' := G.up (le_trans kg S.le)
  refine Ev.call1 (P₁ := PI (crcN (octs b) : Nat)) (f := .ref 30) (Ev.gname G' rfl rfl rfl rfl (by decide)) (cw_def (G'.X 30 _ rfl) rfl) ?_ (fun h' v kh pv => ?_) rfl
  · refine Ev.call2 (P₁ := PI (0 : Nat)) (P₂ := PB b) (f := .ref 23) (Ev.gname G' rfl rfl rfl rfl (by decide)) (cw_def (G'.X 23 _ rfl) rfl) (stays_I _) (Ev.mono (Ev.gname G' rfl rfl rfl rfl (by decide)) fun _ _ p => ⟨_, p⟩) (Ev.mono (Ev.local rfl rfl S.ns rfl (by decide)) fun _ _ p => ⟨_, p⟩) (fun h' v w kh pv pw => ?_) rfl rfl rfl
    obtain ⟨t, rfl⟩ := pv
    obtain ⟨t', rfl⟩ := pw
    rw [← updN_zero]
    exact update_cl (G'.up kh) hh hroom (by decide)
  · obtain ⟨t, rfl⟩ := pv
    exact finalize_cl (G'.up kh) hroom (crcN_lt (octs_oct b))
theorem calc_cl {w : World} {A : Around} {h : Heap} {mg mb : Str → Option Value} {b : Array UInt8} {u : Tok} (G : Gl w mg mb h) (hh : A.handled = none) (hroom : A.depth + 2 < recursionLimit) :
    Cl (model pg w) A h (.ref 45) [.bytes b u] (PI (crcN (octs b) : Nat)) := by
  refine cl_def (binds := [("memview", .bytes b u), ("_crc32c", .ref 37)]) (G.X 45 _ rfl) rfl G.glb.lim (codeRec_of G.X rfl) (Nat.lt_of_le_of_lt (Nat.le_add_right _ 2) hroom)
    (fun s ks => binds_K (G.X.keeps ks) rfl rfl rfl rfl rfl) (by decide) (locs rfl) rfl rfl rfl fun g L kg => ?_
  refine Xs.ret (P := PI (crcN (octs b) : Nat)) (fun H S => ?_) (fun _ _ p => p)
  have G' := G.up (le_trans kg S.le)
  refine Ev.call1 (P₁ := PB b) (f := .ref 37) (Ev.local rfl rfl S.ns rfl (by decide)) (cw_def (G'.X 37 _ rfl) rfl) (Ev.mono (Ev.local rfl rfl S.ns rfl (by decide)) fun _ _ p => ⟨_, p⟩) (fun h' v kh pv => ?_) rfl
  obtain ⟨t, rfl⟩ := pv
  exact crc_cl (G'.up kh) hh hroom
end Mine
namespace Mine
set_option maxHeartbeats 1000000
theorem xor_ints (b c : Array UInt8) : List.zipWith Builtin.bitXor (KBw.bInts b) (KBw.bInts c) = (zipX (octs b) (octs c)).map fun x => ((x : Nat) : Int) := by
  unfold KBw.bInts octs zipX
  rw [List.map_zipWith, List.zipWith_map, List.zipWith_map]
  congr 1
  funext x y
  exact xor_cast _ _
theorem nat_bytes {l : List Nat} (h : Oct l) : octs (byteArr (l.map fun x => ((x : Nat) : Int))) = l := by
  unfold octs byteArr
  simp only [List.map_map]
  rw [show (l.map ((fun x => x.toNat) ∘ (fun n : Int => n.toNat.toUInt8) ∘ fun x : Nat => (x : Int))) = l from ?_]
  conv => rhs; rw [← List.map_id l]
  apply List.map_congr_left
  intro x hx
  have := h x hx
  show (x.toUInt8).toNat = x
  rw [Nat.toUInt8, UInt8.toNat_ofNat']
  omega
theorem law_sum_cl {w : World} {A : Around} {h : Heap} {mg mb : Str → Option Value} {b c : Array UInt8} {t u : Tok} (G : Gl w mg mb h) (hh : A.handled = none) (hroom : A.depth < recursionLimit) (hsz : b.size = c.size) (hsm : b.size ≤ 1000) :
    Cl (model pg w) A h (.ref 57) [.bytes b t, .bytes c u] (fun _ v => ∃ d t', v = .bytes d t' ∧ octs d = zipX (octs b) (octs c)) := by
  refine cl_def (binds := [("one", .bytes b t), ("other", .bytes c u)]) (G.X 57 _ rfl) rfl G.glb.lim (codeRec_of G.X rfl) hroom (fun s ks => BindsTo.of_eq rfl) (by decide) (locs rfl) rfl rfl rfl fun g L kg => ?_
  have ho : Oct (zipX (octs b) (octs c)) := oct_zip (octs_oct b) (octs_oct c)
  refine Xs.ret (P := PB (byteArr (List.zipWith Builtin.bitXor (KBw.bInts b) (KBw.bInts c)))) (fun H S => ?_) (fun _ _ ⟨t', e⟩ => ⟨_, t', e, by rw [xor_ints, nat_bytes ho]⟩)
  have G' := G.up (le_trans kg S.le)
  have n1 : ∀ {M : Model} {A : Around} {pos : Pos}, Ev M A (callEnv _ L 57) H (.Name "one" pos) (PB b) := fun {M A pos} => Ev.mono (Ev.local rfl rfl S.ns rfl (by decide)) fun _ _ p => ⟨_, p⟩
  have n2 : ∀ {M : Model} {A : Around} {pos : Pos}, Ev M A (callEnv _ L 57) H (.Name "other" pos) (PB c) := fun {M A pos} => Ev.mono (Ev.local rfl rfl S.ns rfl (by decide)) fun _ _ p => ⟨_, p⟩
  refine Ev.call1 (P₁ := PL (List.zipWith Builtin.bitXor (KBw.bInts b) (KBw.bInts c))) (f := .type "bytes") (Ev.bname G' rfl boot_bytes (by decide) rfl rfl rfl rfl (by decide)) (cw_type _) ?_ (fun h' v kh ⟨l, vs, ev, hl, hi⟩ => ?_) rfl
  · refine Ev.lc_zip Builtin.bitXor hh hsz (by omega) (cl := []) rfl (by decide) rfl (by decide) rfl rfl (by decide) (Ev.bname G' rfl boot_zip (by decide) rfl rfl rfl rfl (by decide)) n1 n2 rfl rfl rfl (fun C i j t1 t2 H' m₂ kH hn ha hb => ?_) (fun _ => rfl)
    exact Ev.xor (Ev.mono (Ev.local rfl rfl hn ha (by decide)) fun _ _ p => ⟨_, p⟩) (Ev.mono (Ev.local rfl rfl hn hb (by decide)) fun _ _ p => ⟨_, p⟩)
  · subst ev
    refine cl_bytes_list hh hl hi ?_ ?_
    · rw [xor_ints]
      intro n hn
      obtain ⟨x, hx, rfl⟩ := List.mem_map.mp hn
      have := ho x hx
      omega
    · rw [List.length_zipWith, KBw.ints_length, KBw.ints_length]; omega
end Mine
namespace Mine
theorem bytes_snoc {vs : List Value} {bs : List (Array UInt8)} (h : BytesAre vs bs) (b : Array UInt8) (t : Tok) : BytesAre (vs ++ [.bytes b t]) (bs ++ [b]) := h.app (.cons b t .nil)
section
variable {prog : Program} {w : World} {M : Model} {A : Around} {E : Value → Shared → Prop} {env : Env}
theorem block_env {scope : Scope} {cl : List (Str × Addr)} {x : Str} {s : Shared} {Q : Env → Shared → Prop}
    (hcf : ∀ k, cellsFrom k scope.names cl = (x, k) :: cl) (hpc : ∀ h, pushCells h scope.names = h.push { cls := .type "cell", data := .cell none })
    (hQ : Q { scope := scope, locals := s.heap.objs.size, globals := env.globals, cells := (x, s.heap.objs.size + 1) :: cl, qual := env.qual, func := none, code := env.code, frame := env.frame, builtins := env.builtins }
      { s with heap := (s.heap.push { cls := .type "dict", data := .dict #[] }).push { cls := .type "cell", data := .cell none } }) :
    wpAny M A (newFunctionEnv scope env.globals cl [] env.qual none .none (some env)) Q E s := by
  simp only [newFunctionEnv, Option.isSome_some, if_true]
  refine wpAny_bind (wpAny_alloc ?_)
  refine wpAny_bind (wpAny_layCells _ (fun name kind cells => by cases hkc : kind == NameKind.cell <;> simp [hkc]) _ _ _ _ ?_)
  rw [hcf, hpc]
  rw [show ({ s with heap := s.heap.push { cls := .type "dict", data := .dict #[] } } : Shared).heap.objs.size = s.heap.objs.size + 1 from Heap.size_push ..]
  refine wpAny_bind ?_
  rw [List.forIn_nil]
  exact wpAny_pure (wpAny_pure hQ)
/-- y = [elt for x in range(2)], x a cell of the block's own -/
theorem Xn.lc_cell2 {g : Heap} {m : Str → Option Value} {elt iter : Expr} {x y : Str} {px py pos spos : Pos} {scope : Scope} {cl : List (Str × Addr)} (f : Nat → Array UInt8) (hh : A.handled = none)
    (hsw : swapsWith (.ListComp elt [⟨.Name x px, iter, [], 0⟩] scope pos) (some (.Name y py)) spos.line env = pure true) (hclos : closureFor scope env = pure cl) (hkind : scope.kind = .function)
    (hcf : ∀ k, cellsFrom k scope.names cl = (x, k) :: cl) (hpc : ∀ h, pushCells h scope.names = h.push { cls := .type "cell", data := .cell none })
    (hnames : ∀ z ∈ scope.names, z.2 = .local → scope.names.lookup z.1 = some .local) (hx : (relabel scope env).names.lookup x = some .cell) (hy : env.kindOf y = some .local) (hp : (env.scope.kind == .class || (env.scope.kind == .module && env.locals != env.globals)) = false)
    (hit : ∀ H, Sat g env.locals m H → Ev (model prog w) A env H iter (PR 2))
    (helt : ∀ C c (i : Nat) t H, i < 2 → Le g H → H.IsCell c (some (.int (i : Int) t)) → Ev (model prog w) A (compEnvC scope ((x, c) :: cl) C env) H elt (PB (f i)))
    (hs : ∀ v, foldedSetIterable iter env v = pure v) : Xn (model prog w) A env g m (.Assign [.Name y py] (.ListComp elt [⟨.Name x px, iter, [], 0⟩] scope pos) spos) (fun g' m' => ∃ v, PLB [f 0, f 1] g' v ∧ m' = put m y v) := fun s E Q S hQ => by
  rw [exec_Assign_Name_used _ _ _ _ hsw]
  refine wpAny_bind (wpAny_standAt (wpAny_bind ?_))
  show wpAny _ A (do let _ ← comprehension (.ListComp elt [⟨.Name x px, iter, [], 0⟩] scope pos) scope env _ (newList []) false (eval iter env) (some (PySem.assign (.Name y py) env))) _ _ s
  refine wpAny_bind (wpAny_mono (wpAny_comprehension_free (use := some (PySem.assign (.Name y py) env)) (Q := fun _ s' => Q .next s') rfl hs hclos hkind hnames
    (hit _ S s _ _ (le_refl _) fun v h₁ tk₁ k₁ ⟨r, t, u, q, ev, hr⟩ => ?_)) (fun _ s' hq => wpAny_pure (wpAny_pure hq)) fun _ _ e => e)
  subst ev
  have S₁ := S.keeps k₁
  refine wpAny_pyIter_range hr (range_small (by decide)) ?_
  have W : Walks prog w A h₁.objs.size [h₁.objs.size] [h₁.objs.size] 2 (fun i v => i < 2 ∧ ∃ t, v = .int (0 + i * 1) t) (fun i h => IsRangeIter h h₁.objs.size (0 + (i : Nat) * 1) (((2 : Nat) : Int) - (i : Nat)) 1) := (Walks.range hh _ 0 1 2).bound
  refine wpAny_newObj_type (block_env hcf hpc ?_) (Nat.zero_le _)
  dsimp only
  generalize hI : h₁.objs.size = I at W
  generalize hG : h₁.push { cls := .type "range_iterator", dict := none, data := .fields #[rawInt 0, rawInt (Builtin.Range.rangeSize 0 ((2 : Nat) : Int) 1), rawInt 1] } = G1
  have z1 : G1.objs.size = I + 1 := by rw [← hG, Heap.size_push, hI]
  have i1 : IsRangeIter G1 I 0 (Builtin.Range.rangeSize 0 ((2 : Nat) : Int) 1) 1 := by clear W; subst hI; subst hG; exact Heap.get?_push_size _ rfl
  have l1 : Le h₁ G1 := by rw [← hG]; exact le_push _ _
  generalize hG2 : G1.push { cls := .type "list", dict := none, data := .seq ([] : List Value).toArray } = G2
  have z2 : G2.objs.size = I + 2 := by rw [← hG2, Heap.size_push, z1]
  have l2 : Le G1 G2 := by rw [← hG2]; exact le_push _ _
  have d2 : G2.IsList (I + 1 : Nat) ([] : List Value).toArray := by
    have := push_list G1 []
    rw [z1, hG2] at this
    exact this
  generalize hG3 : G2.push { cls := .type "dict", dict := none, data := .dict #[] } = G3
  have z3 : G3.objs.size = I + 3 := by rw [← hG3, Heap.size_push, z2]
  have l3 : Le G2 G3 := by rw [← hG3]; exact le_push _ _
  have n3 : G3.Ns (I + 2 : Nat) (fun _ => none) := by
    have := Heap.Ns.new G2 (.type "dict")
    rw [hG3, z2] at this
    exact this
  generalize hG4 : G3.push { cls := .type "cell", dict := none, data := .cell none } = G4
  have l4 : Le G3 G4 := by rw [← hG4]; exact le_push _ _
  have c4 : G4.IsCell (I + 3 : Nat) none := by
    refine ⟨{ cls := .type "cell", data := .cell none }, ?_, rfl⟩
    have e : (G3.push { cls := .type "cell", dict := none, data := .cell none }).get? G3.objs.size = some { cls := .type "cell", dict := none, data := .cell none } := Heap.get?_push_size _ rfl
    rw [hG4, z3] at e
    exact e
  rw [z1, z2]
  have small : ∀ (a : Nat) (o : Obj), h₁.get? a = some o → a < I := fun a o e => hI ▸ Heap.lt_size e
  have loop : codeAny (model prog w) A (.compLoop (.ListComp elt [⟨.Name x px, iter, [], 0⟩] scope pos) 0 (.ref I) (.ref (I + 1 : Nat)) (compEnvC scope ((x, (I + 3 : Nat)) :: cl) (I + 2 : Nat) env))
      (compPost (model prog w) A E (some (PySem.assign (.Name y py) env)) (fun _ s' => Q .next s') (.ref (I + 1 : Nat)) (I + 2 : Nat)) { s with heap := G4, toks := tk₁ } := by
    refine codeAny_compLoop_list (fun n s' => ∃ (h' : Heap) (tk k : Nat) (ys : List Value) (m' : Str → Option Value) (v0 : Option Value), s' = { s with heap := h', toks := tk } ∧ k ≤ 2 ∧ n = 3 - k ∧ IsRangeIter h' I (0 + (k : Nat) * 1) (((2 : Nat) : Int) - (k : Nat)) 1 ∧
      h'.IsList (I + 1 : Nat) ys.toArray ∧ h'.Ns (I + 2 : Nat) m' ∧ h'.IsCell (I + 3 : Nat) v0 ∧ BytesAre ys ((List.range k).map f) ∧ (∀ (a : Nat) (o : Obj), a < I → h₁.get? a = some o → h'.get? a = some o)) ?_ 3
      ⟨G4, tk₁, 0, [], _, none, rfl, by decide, rfl, ?_, isList_up d2 (le_trans l3 l4), n3.keeps l4, c4, .nil, fun a o _ e => l4 _ _ (l3 _ _ (l2 _ _ (l1 _ _ e)))⟩ (fun _ => rfl)
    · rintro n s' ⟨h', tk, k, ys, m', v0, rfl, hk, rfl, hi', hl', hn', hc', hb', keep⟩
      by_cases hlt : k < 2
      · refine W.item k _ _ _ hlt hi' fun v h₂ tk₂ hv hi₂ hk₂ => ?_
        obtain ⟨_, tv, rfl⟩ := hv
        have up₂ : ∀ (a : Nat) (o : Obj), a ≠ I → h'.get? a = some o → h₂.get? a = some o := fun a o ha e => hk₂ a o (fun q => ha (List.mem_singleton.mp q)) e
        have c₂ : h₂.IsCell (I + 3 : Nat) v0 := let ⟨o, ho, hd⟩ := hc'; ⟨o, up₂ _ o (by omega) ho, hd⟩
        refine wpAny_assign_Name (wpAny_storeName_cell (env := compEnvC scope ((x, (I + 3 : Nat)) :: cl) (I + 2 : Nat) env) hkind hx (List.lookup_cons_self ..) c₂ fun h₃ c₃ hs₃ => ?_)
        have up₃ : ∀ (a : Nat) (o : Obj), a ≠ I + 3 → h₂.get? a = some o → h₃.get? a = some o := fun a o ha e => (hs₃.2 a ha).trans e
        have eI : (0 : Int) + (k : Int) * 1 = (k : Int) := by omega
        rw [eI] at c₃
        have leg : Le g h₃ := fun a o e => by
          have e1 := S₁.le _ _ e
          have ha := small a o e1
          exact up₃ a o (Nat.ne_of_lt (Nat.lt_of_lt_of_le ha (Nat.le_add_right _ _))) (up₂ a o (Nat.ne_of_lt ha) (keep a o ha e1))
        refine helt (I + 2 : Nat) (I + 3 : Nat) k tv h₃ hlt leg c₃ _ _ _ (le_refl _) fun yv h₄ tk₄ k₄ ⟨ty, ey⟩ => ?_
        subst ey
        have l₄ : h₄.IsList (I + 1 : Nat) ys.toArray := let ⟨o, ho, r⟩ := hl'; ⟨o, k₄ _ _ (up₃ _ _ (by omega) (up₂ _ _ (by omega) ho)), r⟩
        refine wpAny_list_append (hsz := by rw [List.size_toArray, bytes_len hb', List.length_map, List.length_range, sizeLine_eq]; omega) l₄ fun h₅ l₅ hs₅ => ?_
        have up₅ : ∀ (a : Nat) (o : Obj), a ≠ I + 1 → h₄.get? a = some o → h₅.get? a = some o := fun a o ha e => (hs₅.2 a ha).trans e
        refine ⟨3 - (k + 1), by omega, h₅, tk₄, k + 1, ys ++ [.bytes (f k) ty], m', some (.int (k : Int) tv), rfl, by omega, rfl, ?_, ?_, ?_, ?_, ?_, ?_⟩
        · exact up₅ _ _ (by omega) (k₄ _ _ (up₃ _ _ (by omega) hi₂))
        · have e : (ys ++ [Value.bytes (f k) ty]).toArray = ys.toArray.push (.bytes (f k) ty) := by simp
          rw [e]; exact l₅
        · exact hn'.at' fun o e => up₅ _ o (by omega) (k₄ _ _ (up₃ _ _ (by omega) (up₂ _ _ (by omega) e)))
        · exact let ⟨o, ho, hd⟩ := c₃; ⟨o, up₅ _ _ (by omega) (k₄ _ _ ho), hd⟩
        · rw [List.range_succ, List.map_append]
          exact bytes_snoc hb' _ _
        · intro a o ha e
          exact up₅ a o (by omega) (k₄ _ _ (up₃ a o (by omega) (up₂ a o (by omega) (keep a o ha e))))
      · have hk2 : k = 2 := by omega
        subst hk2
        refine W.done _ _ _ hi' fun h₂ tk₂ hk₂ => ?_
        have up₂ : ∀ (a : Nat) (o : Obj), a ≠ I → h'.get? a = some o → h₂.get? a = some o := fun a o ha e => hk₂ a o (fun q => ha (List.mem_singleton.mp q)) e
        have L_lt : env.locals < I := hI ▸ S₁.ns.lt
        have nL : h₂.Ns env.locals m := S₁.ns.at' fun o e => up₂ _ o (Nat.ne_of_lt L_lt) (keep _ o L_lt e)
        show wpAny _ A (PySem.assign (.Name y py) env (.ref (I + 1 : Nat))) _ _ _
        refine wpAny_assign_Name (wpAny_storeName_local hy nL (fun h₃ n₃ hs₃ => ?_) hp)
        have up₃ : ∀ (a : Nat) (o : Obj), a ≠ env.locals → h₂.get? a = some o → h₃.get? a = some o := fun a o ha e => (hs₃.2 a ha).trans e
        have cne : (I + 2 : Nat) ≠ env.locals := Nat.ne_of_gt (Nat.lt_of_lt_of_le L_lt (Nat.le_add_right _ _))
        have dne : (I + 1 : Nat) ≠ env.locals := Nat.ne_of_gt (Nat.lt_of_lt_of_le L_lt (Nat.le_add_right _ _))
        refine ⟨m', hn'.at' fun o e => up₃ _ o cne (up₂ _ o (by omega) e), fun h₄ hs₄ => ?_⟩
        have up₄ : ∀ (a : Nat) (o : Obj), a ≠ I + 2 → h₃.get? a = some o → h₄.get? a = some o := fun a o ha e => (hs₄.2 a ha).trans e
        have n₄ : h₄.Ns env.locals (put m y (.ref (I + 1 : Nat))) := n₃.at' fun o e => up₄ _ o (Ne.symm cne) e
        have l₄ : h₄.IsList (I + 1 : Nat) ys.toArray := let ⟨o, ho, r⟩ := hl'; ⟨o, up₄ _ _ (by omega) (up₃ _ _ dne (up₂ _ _ (by omega) ho)), r⟩
        have leg : Le g (h₄.hide env.locals) := le_hide (fun a o e => by
          have e1 := S₁.le _ _ e
          have ha := small a o e1
          have hL : a ≠ env.locals := fun q => by rw [q, S.off] at e; cases e
          exact up₄ a o (Nat.ne_of_lt (Nat.lt_of_lt_of_le ha (Nat.le_add_right _ _))) (up₃ a o hL (up₂ a o (Nat.ne_of_lt ha) (keep a o ha e1)))) S.off
        exact hQ (h₄.hide env.locals) _ h₄ _ leg ⟨hide_le _ _, n₄, Heap.hide_self _ _⟩ ⟨_, hid_LB _ _ _ _ _ n₄ ⟨_, ys, rfl, l₄, hb'⟩, rfl⟩
    · show G4.get? I = some _
      have e1 : (0 : Int) + ((0 : Nat) : Int) * 1 = 0 := by decide
      have e2 : ((2 : Nat) : Int) - ((0 : Nat) : Int) = Builtin.Range.rangeSize 0 ((2 : Nat) : Int) 1 := by rw [range_size]; rfl
      rw [e1, e2]
      exact l4 _ _ (l3 _ _ (l2 _ _ i1))
  refine codeAny_compStart_list ?_ (wpAny_pyIter_rangeiter (x := 0) (left := Builtin.Range.rangeSize 0 ((2 : Nat) : Int) 1) (step := 1) (l4 _ _ (l3 _ _ (l2 _ _ i1))) ?_)
  · exact loop
  · exact loop
end
end Mine
namespace Mine
section
variable {M : Model} {A : Around} {env : Env} {g : Heap} {m : Str → Option Value} {R : Value → Prop}
theorem Xs.mono {sts : List Stmt} {R' : Value → Prop} (x : Xs M A env g m sts R) (k : ∀ v, R v → R' v) : Xs M A env g m sts R' := fun s E Q S hQ => x s E Q S fun v h' tk a r => hQ v h' tk a (k v r)
/-- if t: return e -/
theorem Xs.if_ret {t : Expr} {b : List Stmt} {pos : Pos} {sts : List Stmt} {c : Bool} (ht : ∀ H, Sat g env.locals m H → EvT M A env H t c) (hb : c = true → Xs M A env g m b R) (hr : c = false → Xs M A env g m sts R) : Xs M A env g m (.If t b [] pos :: sts) R := fun s E Q S hQ =>
  wpAny_execs_cons (wpAny_If (ht _ S s E _ (le_refl _) fun h' tk k => by
    cases c with
    | true =>
      simp only [if_true]
      exact hb rfl _ E _ (S.keeps k) fun v h'' tk' k' r => hQ v h'' tk' k' r
    | false =>
      simp only [Bool.false_eq_true, if_false]
      exact wpAny_execs_nil (hr rfl _ E Q (S.keeps k) hQ)))
theorem Ev.and_more {h : Heap} {e₁ e₂ : Expr} {rest : List Expr} {pos : Pos} {P : Heap → Value → Prop} (h1 : Ev M A env h e₁ (PV (.bool true))) (h2 : Ev M A env h (.BoolOp .And (e₂ :: rest) pos) P) : Ev M A env h (.BoolOp .And (e₁ :: e₂ :: rest) pos) P := fun s E Q ks hQ =>
  BoolOp_and (h1 s E _ ks fun v h' tk k p => by
    cases p
    refine truthy_bool ?_
    simp only [if_true]
    exact h2 _ E Q (le_trans ks k) fun v h'' tk' k' p => hQ v h'' tk' (le_trans k k') p)
theorem Ev.and_one {h : Heap} {e₁ : Expr} {pos : Pos} {P : Heap → Value → Prop} (h1 : Ev M A env h e₁ P) : Ev M A env h (.BoolOp .And [e₁] pos) P := fun s E Q ks hQ => BoolOp_one (h1 s E Q ks hQ)
end
section
variable {prog : Program} {w : World} {A : Around} {env : Env} {g : Heap} {m : Str → Option Value}
/-- 0 <= x < y -/
theorem Ev.within {h : Heap} {l r₁ r₂ : Expr} {pos : Pos} {a b c : Int} (hl : Ev (model prog w) A env h l (PI a)) (h1 : Ev (model prog w) A env h r₁ (PI b)) (h2 : Ev (model prog w) A env h r₂ (PI c)) (hab : a ≤ b) (hbc : b < c)
    (hm : lastMarks [.LtE, .Lt] [r₁, r₂] = false) : Ev (model prog w) A env h (.Compare l [.LtE, .Lt] [r₁, r₂] pos) (PV (.bool true)) := fun s E Q ks hQ =>
  Compare_chain (hl s E _ ks fun v g1 t1 k1 ⟨ta, ev⟩ => by
    subst ev
    refine chain_link (h1 _ E _ (le_trans ks k1) fun v g2 t2 k2 ⟨tb, ev⟩ => ?_)
    subst ev
    refine le_int ?_
    rw [decide_eq_true hab]
    refine truthy_bool ?_
    simp only [if_true]
    refine chain_last (h2 _ E _ (le_trans (le_trans ks k1) k2) fun v g3 t3 k3 ⟨tc, ev⟩ => ?_)
    subst ev
    refine lt_int ?_
    rw [decide_eq_true hbc]
    exact hQ _ g3 t3 (le_trans (le_trans k1 k2) k3) rfl) hm
theorem eval_pair {h : Heap} {e₁ e₂ : Expr} {k : Nat} {pos : Pos} {P₁ P₂ : Heap → Value → Prop} {M : Model} (s1 : Stays P₁) (h1 : Ev M A env h e₁ P₁) (h2 : Ev M A env h e₂ P₂) (q1 : starEach [e₁, e₂] env = (false, eval e₁ env) :: starEach [e₂] env) (q2 : starEach [e₂] env = (false, eval e₂ env) :: starEach [] env)
    (s2 : Stays P₂) : Ev M A env h (.Tuple [e₁, e₂] k pos) (fun h v => ∃ T x y, v = .ref T ∧ h.IsTuple T #[x, y] ∧ P₁ h x ∧ P₂ h y) := fun s E Q ks hQ =>
  Tuple_ (args_cons (h1 s E _ ks fun v g1 t1 k1 p1 => args_cons (h2 _ E _ (le_trans ks k1) fun v2 g2 t2 k2 p2 => args_nil (by
    refine wpAny_newTuple ?_ (by show 2 ≤ sizeLine; rw [sizeLine_eq]; decide)
    exact hQ _ _ _ (le_trans (le_trans k1 k2) (le_push _ _)) ⟨_, v, v2, rfl, ⟨_, Heap.get?_push_size _ rfl, rfl, _, rfl⟩, s1 _ _ _ (le_trans k2 (le_push _ _)) p1, s2 _ _ _ (le_push _ _) p2⟩)) q2) q1)
/-- a, b = (e1, e2) -/
theorem Xn.pair {a b : Str} {pa pb tp pos : Pos} {k : Nat} {value : Expr} {P₁ P₂ : Heap → Value → Prop} (hh : A.handled = none) (hev : ∀ H, Sat g env.locals m H → Ev (model prog w) A env H value (fun h v => ∃ T x y, v = .ref T ∧ h.IsTuple T #[x, y] ∧ P₁ h x ∧ P₂ h y))
    (s1 : Stays P₁) (s2 : Stays P₂) (d1 : Hid P₁) (d2 : Hid P₂) (ha : env.kindOf a = some .local) (hb : env.kindOf b = some .local) (hp : (env.scope.kind == .class || (env.scope.kind == .module && env.locals != env.globals)) = false)
    (hs : swapsWithSole [.Tuple [.Name a pa, .Name b pb] k tp] value pos.line env = pure false) (hw : swappedStores [.Tuple [.Name a pa, .Name b pb] k tp] value env = pure none)
    (inert : ∀ (h : Heap) v, P₁ h v ∨ P₂ h v → True) (plain₁ : ∀ h h' v, P₁ h v → P₁ h' v) (plain₂ : ∀ h h' v, P₂ h v → P₂ h' v) :
    Xn (model prog w) A env g m (.Assign [.Tuple [.Name a pa, .Name b pb] k tp] value pos) (fun g' m' => ∃ x y, P₁ g' x ∧ P₂ g' y ∧ m' = fun z => if z = b then some y else if z = a then some x else m z) := fun s E Q S hQ =>
  Assign_Tuple (hev _ S s E _ (le_refl _) fun v g1 t1 k1 ⟨T, x, y, ev, hT, p1, p2⟩ => by
    subst ev
    have S1 := S.keeps k1
    refine kcp_assign hh hT ha hb hp S1.ns fun h' tk hn hk => ?_
    have le' : Le g (h'.hide env.locals) := le_hide (fun c o e => hk c o (fun q => by rw [q, S.off] at e; cases e) (S1.le _ _ e)) S.off
    exact hQ (h'.hide env.locals) _ h' tk le' ⟨hide_le _ _, hn, Heap.hide_self _ _⟩ ⟨x, y, plain₁ _ _ _ p1, plain₂ _ _ _ p2, rfl⟩) hs hw
end
end Mine
namespace Mine
set_option maxHeartbeats 1000000
/-- bytes by their octets -/
def PO (l : List Nat) : Heap → Value → Prop := fun _ v => ∃ b t, v = .bytes b t ∧ octs b = l
theorem stays_O (l : List Nat) : Stays (PO l) := fun _ _ _ _ x => x
theorem hid_O (l : List Nat) : Hid (PO l) := fun _ _ _ _ _ x => x
theorem Ev.eqO {M : Model} {A : Around} {env : Env} {h : Heap} {e : Expr} {a b : List Nat} (x : Ev M A env h e (PO a)) (q : a = b) : Ev M A env h e (PO b) := q ▸ x
theorem Ev.toO {M : Model} {A : Around} {env : Env} {h : Heap} {e : Expr} {b : Array UInt8} (x : Ev M A env h e (PB b)) : Ev M A env h e (PO (octs b)) := x.mono fun _ _ ⟨t, e⟩ => ⟨b, t, e, rfl⟩
theorem Ev.asI {M : Model} {A : Around} {env : Env} {h : Heap} {e : Expr} {n : Int} {t : Tok} (x : Ev M A env h e (PV (.int n t))) : Ev M A env h e (PI n) := x.mono fun _ _ p => ⟨t, p⟩
theorem Ev.asO {M : Model} {A : Around} {env : Env} {h : Heap} {e : Expr} {b : Array UInt8} {t : Tok} {l : List Nat} (x : Ev M A env h e (PV (.bytes b t))) (q : octs b = l) : Ev M A env h e (PO l) := x.mono fun _ _ p => ⟨b, t, p, q⟩
theorem EvT.cast {M : Model} {A : Around} {env : Env} {h : Heap} {e : Expr} {b c : Bool} (x : EvT M A env h e b) (q : b = c) : EvT M A env h e c := q ▸ x
theorem Ev.castV {M : Model} {A : Around} {env : Env} {h : Heap} {e : Expr} {b c : Value} (x : Ev M A env h e (PV b)) (q : b = c) : Ev M A env h e (PV c) := q ▸ x
theorem ne_nat_false {a b : Nat} (h : a = b) : ((a : Int) != (b : Int)) = false := by subst h; simp
theorem octs_app (b c : Array UInt8) : octs (b ++ c) = octs b ++ octs c := by simp [octs]
theorem octs_size {b : Array UInt8} {l : List Nat} (h : octs b = l) : b.size = l.length := by rw [← h, octs_length]
theorem octs_upto {b : Array UInt8} {k : Nat} (hk : k ≤ b.size) : octs (KBy.picked b none (some (k : Int))) = (octs b).take k := by
  rw [KBc.picked_eq]
  simp only [Option.elim, clipAt_nat, List.drop_zero, Nat.sub_zero]
  unfold octs
  rw [Nat.min_eq_left hk]
  simp [List.map_take]
theorem octs_from {b : Array UInt8} {k : Nat} (hk : k ≤ b.size) : octs (KBy.picked b (some (k : Int)) none) = (octs b).drop k := by
  rw [KBc.picked_eq]
  simp only [Option.elim, clipAt_nat]
  unfold octs
  rw [Nat.min_eq_left hk, List.take_of_length_le (by simp)]
  simp [List.map_drop]
theorem fmod_nat {x : Int} {k : Nat} (hk : 0 < k) : ∃ r : Nat, x.fmod (k : Int) = (r : Int) ∧ r < k := by
  have h1 : 0 ≤ x.fmod (k : Int) := Int.fmod_nonneg_of_pos x (by omega)
  have h2 : x.fmod (k : Int) < (k : Int) := Int.fmod_lt_of_pos x (by omega)
  obtain ⟨r, e⟩ := Int.eq_ofNat_of_zero_le h1
  exact ⟨r, e, by omega⟩
section
variable {w : World} {A : Around} {env : Env} {h : Heap} {mg mb : Str → Option Value}
theorem Ev.catO {l r : Expr} {pos : Pos} {a b : List Nat} (hl : Ev (model pg w) A env h l (PO a)) (hr : Ev (model pg w) A env h r (PO b)) (hsz : a.length + b.length ≤ 1000000) : Ev (model pg w) A env h (.BinOp l .Add r pos) (PO (a ++ b)) :=
  Ev.binop (stays_O a) hl hr fun s E Q x y ks ⟨b1, t, ex, e1⟩ ⟨b2, u, ey, e2⟩ hQ => by
    subst ex ey
    exact KBy.add_bytes (by rw [octs_size e1, octs_size e2]; omega) fun t' k => hQ _ s.heap _ (le_refl _) ⟨_, t', rfl, by rw [octs_app, e1, e2]⟩
theorem ev_crc {e : Expr} {p pos : Pos} {a : List Nat} (G : Gl w mg mb h) (hh : A.handled = none) (hroom : A.depth + 1 < recursionLimit) (hg : env.globals = mainGlobals) (hk : env.scope.kind = .function) (hl : env.kindOf "crc" = some .globalImplicit)
    (he : Ev (model pg w) A env h e (PO a)) (q1 : starEach [e] env = (false, eval e env) :: starEach [] env) : Ev (model pg w) A env h (.Call (.Name "crc" p) [e] [] pos) (PI (crcN a : Nat)) :=
  Ev.call1 (f := .ref 37) (Ev.gname G rfl hg hk hl (by decide)) (cw_def (G.X 37 _ rfl) rfl) he (fun h' v kh ⟨b, t, ev, eb⟩ => by subst ev eb; exact crc_cl (G.up kh) hh hroom) q1
theorem ev_calc {e : Expr} {p pos : Pos} {a : List Nat} (G : Gl w mg mb h) (hh : A.handled = none) (hroom : A.depth + 2 < recursionLimit) (hg : env.globals = mainGlobals) (hk : env.scope.kind = .function) (hl : env.kindOf "calc_crc32c" = some .globalImplicit)
    (he : Ev (model pg w) A env h e (PO a)) (q1 : starEach [e] env = (false, eval e env) :: starEach [] env) : Ev (model pg w) A env h (.Call (.Name "calc_crc32c" p) [e] [] pos) (PI (crcN a : Nat)) :=
  Ev.call1 (f := .ref 45) (Ev.gname G rfl hg hk hl (by decide)) (cw_def (G.X 45 _ rfl) rfl) he (fun h' v kh ⟨b, t, ev, eb⟩ => by subst ev eb; exact calc_cl (G.up kh) hh hroom) q1
theorem ev_update {e₁ e₂ : Expr} {p pos : Pos} {c : Nat} {a : List Nat} (G : Gl w mg mb h) (hh : A.handled = none) (hroom : A.depth < recursionLimit) (hg : env.globals = mainGlobals) (hk : env.scope.kind = .function) (hl : env.kindOf "crc_update" = some .globalImplicit) (hc : c < 2 ^ 32)
    (h1 : Ev (model pg w) A env h e₁ (PI (c : Nat))) (h2 : Ev (model pg w) A env h e₂ (PO a)) (q1 : starEach [e₁, e₂] env = (false, eval e₁ env) :: starEach [e₂] env) (q2 : starEach [e₂] env = (false, eval e₂ env) :: starEach [] env) (hp : (backTo pos (starEach [e₂] env)).any (·.1) = false) :
    Ev (model pg w) A env h (.Call (.Name "crc_update" p) [e₁, e₂] [] pos) (PI (updN c a : Nat)) :=
  Ev.call2 (f := .ref 23) (Ev.gname G rfl hg hk hl (by decide)) (cw_def (G.X 23 _ rfl) rfl) (stays_I _) h1 h2 (fun h' v u kh ⟨t, ev⟩ ⟨b, t', eu, eb⟩ => by subst ev eu eb; exact update_cl (G.up kh) hh hroom hc) q1 q2 hp
theorem ev_law_at {ek ed : Expr} {ps p pos : Pos} {l : Addr} {vs : List Value} {ns : List Int} {k d : Int} (G : Gl w mg mb h) (hroom : A.depth < recursionLimit) (hg : env.globals = mainGlobals) (hk : env.scope.kind = .function) (hla : env.kindOf "_law_at" = some .globalImplicit)
    (hl : h.IsList l vs.toArray) (hi : IntsAre vs ns) (hsz : ns.length ≤ 2 ^ 20) (h0 : 0 ≤ k) (hk63 : k < 2 ^ 63) (hs : Ev (model pg w) A env h (.Name "script" ps) (PV (.ref l))) (hek : Ev (model pg w) A env h ek (PI k)) (hed : Ev (model pg w) A env h ed (PI d))
    (q1 : starEach [.Name "script" ps, ek, ed] env = (false, eval (.Name "script" ps) env) :: starEach [ek, ed] env) (q2 : starEach [ek, ed] env = (false, eval ek env) :: starEach [ed] env) (q3 : starEach [ed] env = (false, eval ed env) :: starEach [] env)
    (hp : (backTo pos (starEach [ek, ed] env)).any (·.1) = false) :
    Ev (model pg w) A env h (.Call (.Name "_law_at" p) [.Name "script" ps, ek, ed] [] pos) (PI (ns.getD k.toNat d)) :=
  Ev.call3 (f := .ref 52) (Ev.gname G rfl hg hk hla (by decide)) (cw_def (G.X 52 _ rfl) rfl) (stays_V _) (stays_I _) hs hek hed (fun h' v u x kh pv ⟨t, eu⟩ ⟨t', ex⟩ => by
    cases pv
    subst eu ex
    have G' := G.up kh
    exact law_at_cl G'.X G'.glb ⟨mg_none_of G'.X G'.glb.g rfl, (G'.boot _ (by decide)).trans boot_len⟩ (isList_up hl kh) hi h0 hk63 hsz hroom) q1 q2 q3 hp
end
end Mine
namespace Mine
set_option maxHeartbeats 1000000
noncomputable def lawSts (w : World) : List Stmt := match (KK w).lookup 62 with
  | some ⟨_, _, .func fd, _⟩ => (match fd.body with | .stmts b => b | _ => [])
  | _ => []
noncomputable def lawSc (w : World) : Scope := match (KK w).lookup 62 with
  | some ⟨_, _, .func fd, _⟩ => fd.scope
  | _ => { kind := .function, names := [], isGenerator := false, isCoroutine := false }
noncomputable abbrev lawEnv (w : World) (L f : Addr) (cd : Value) (cs cz : Addr) : Env :=
  { scope := lawSc w, locals := L, globals := mainGlobals, cells := [("size", cz), ("script", cs)], qual := "law" ++ ".<locals>.", func := some f, code := cd, frame := some L, builtins := builtinsNs }
/-- the law's own world at a heap: the script, the size -/
structure Lx (w : World) (mg mb : Str → Option Value) (cs cz l : Addr) (vs : List Value) (ns : List Int) (n : Nat) (h : Heap) : Prop where
  G : Gl w mg mb h
  sc : h.IsCell cs (some (.ref l))
  sl : h.IsList l vs.toArray
  si : IntsAre vs ns
  sz : ns.length ≤ 2 ^ 20
  zc : ∃ t, h.IsCell cz (some (.int (n : Int) t))
theorem Lx.up {w : World} {mg mb : Str → Option Value} {cs cz l : Addr} {vs : List Value} {ns : List Int} {n : Nat} {h h' : Heap} (x : Lx w mg mb cs cz l vs ns n h) (k : Le h h') : Lx w mg mb cs cz l vs ns n h' :=
  ⟨x.G.up k, x.sc.keeps k, isList_up x.sl k, x.si, x.sz, let ⟨t, c⟩ := x.zc; ⟨t, c.keeps k⟩⟩
/-- what the walk asks of its surroundings -/
structure Rm (A : Around) : Prop where
  h : A.handled = none
  d : A.depth + 3 < recursionLimit
  u : A.units + 64 < cLine
end Mine
namespace Mine
set_option maxHeartbeats 1000000
/-- the rows, as the frame holds them -/
structure Rws (n : Nat) (r0 r1 : Array UInt8) (t : List Nat) (g : Heap) (m : Str → Option Value) : Prop where
  rows : ∃ v, m "rows" = some v ∧ PLB [r0, r1] g v
  third : ∃ b u, m "third" = some (.bytes b u) ∧ octs b = t
  s0 : r0.size = n
  s1 : r1.size = n
  tl : t.length ≤ 8
  ot : Oct t
  nl : n ≤ 12
theorem Rws.up {n : Nat} {r0 r1 : Array UInt8} {t : List Nat} {g g' : Heap} {m : Str → Option Value} (x : Rws n r0 r1 t g m) (k : Le g g') : Rws n r0 r1 t g' m :=
  ⟨let ⟨v, a, b⟩ := x.rows; ⟨v, a, stays_LB _ _ _ _ k b⟩, x.third, x.s0, x.s1, x.tl, x.ot, x.nl⟩
theorem Rws.put {n : Nat} {r0 r1 : Array UInt8} {t : List Nat} {g : Heap} {m : Str → Option Value} {y : Str} {v : Value} (x : Rws n r0 r1 t g m) (h1 : ("rows" : Str) ≠ y) (h2 : ("third" : Str) ≠ y) : Rws n r0 r1 t g (put m y v) :=
  ⟨let ⟨v, a, b⟩ := x.rows; ⟨v, (put_ne h1).trans a, b⟩, let ⟨b, u, a, c⟩ := x.third; ⟨b, u, (put_ne h2).trans a, c⟩, x.s0, x.s1, x.tl, x.ot, x.nl⟩
theorem Rws.len0 {n : Nat} {r0 r1 : Array UInt8} {t : List Nat} {g : Heap} {m : Str → Option Value} (x : Rws n r0 r1 t g m) : (octs r0).length = n := by rw [octs_length, x.s0]
theorem Rws.len1 {n : Nat} {r0 r1 : Array UInt8} {t : List Nat} {g : Heap} {m : Str → Option Value} (x : Rws n r0 r1 t g m) : (octs r1).length = n := by rw [octs_length, x.s1]
/-- a list of ints, as the frame holds it -/
def Has (x : Str) (ns : List Int) (g : Heap) (m : Str → Option Value) : Prop := ∃ v, m x = some v ∧ PL ns g v
theorem Has.up {x : Str} {ns : List Int} {g g' : Heap} {m : Str → Option Value} (h : Has x ns g m) (k : Le g g') : Has x ns g' m := let ⟨v, a, b⟩ := h; ⟨v, a, stays_L _ _ _ _ k b⟩
theorem Has.put {x y : Str} {ns : List Int} {g : Heap} {m : Str → Option Value} {v : Value} (h : Has x ns g m) (q : x ≠ y) : Has x ns g (put m y v) := let ⟨v, a, b⟩ := h; ⟨v, (put_ne q).trans a, b⟩
section
variable {w : World} {A : Around} {mg mb : Str → Option Value} {cs cz l L f : Addr} {cd : Value} {vs : List Value} {ns : List Int} {n : Nat} {g : Heap} {m : Str → Option Value} {H : Heap} {r0 r1 : Array UInt8} {t : List Nat}
theorem ev_script (X : Lx w mg mb cs cz l vs ns n g) (k : Le g H) {M : Model} {p : Pos} : Ev M A (lawEnv w L f cd cs cz) H (.Name "script" p) (PV (.ref l)) := Ev.cell rfl rfl rfl (X.up k).sc (by decide)
theorem ev_size (X : Lx w mg mb cs cz l vs ns n g) (k : Le g H) {M : Model} {p : Pos} : Ev M A (lawEnv w L f cd cs cz) H (.Name "size" p) (PI (n : Int)) := by
  obtain ⟨t, c⟩ := (X.up k).zc
  exact (Ev.cell rfl rfl rfl c (by decide)).asI
theorem ev_row (W : Rws n r0 r1 t g m) (S : Sat g L m H) {p q pos : Pos} {j : Nat} {i : Int} {b : Array UInt8} (h0 : 0 ≤ i) (h1 : i < 2 ^ 63) (hb : [r0, r1][i.toNat]? = some b) :
    Ev (model pg w) A (lawEnv w L f cd cs cz) H (.Subscript (.Name "rows" p) (.Constant (.int i) j q) pos) (PO (octs b)) := by
  obtain ⟨v, hv, hP⟩ := W.rows
  exact (Ev.item_listB (ns := [r0, r1]) ((Ev.local rfl rfl S.ns hv (by decide)).monoLe fun h' x kh p => by cases p; exact stays_LB _ _ _ _ (le_trans S.le kh) hP) Ev.const_int h0 h1 hb (fun _ _ => rfl) (fun _ _ => rfl)).toO
theorem ev_rowB (W : Rws n r0 r1 t g m) (S : Sat g L m H) {p q pos : Pos} {j : Nat} {i : Int} {b : Array UInt8} (h0 : 0 ≤ i) (h1 : i < 2 ^ 63) (hb : [r0, r1][i.toNat]? = some b) :
    Ev (model pg w) A (lawEnv w L f cd cs cz) H (.Subscript (.Name "rows" p) (.Constant (.int i) j q) pos) (PB b) := by
  obtain ⟨v, hv, hP⟩ := W.rows
  exact Ev.item_listB (ns := [r0, r1]) ((Ev.local rfl rfl S.ns hv (by decide)).monoLe fun h' x kh p => by cases p; exact stays_LB _ _ _ _ (le_trans S.le kh) hP) Ev.const_int h0 h1 hb (fun _ _ => rfl) (fun _ _ => rfl)
theorem ev_third (W : Rws n r0 r1 t g m) (S : Sat g L m H) {p : Pos} {M : Model} : Ev M A (lawEnv w L f cd cs cz) H (.Name "third" p) (PO t) := by
  obtain ⟨b, u, hb, ho⟩ := W.third
  exact (Ev.local rfl rfl S.ns hb (by decide)).asO ho
theorem ev_item {x : Str} {ns : List Int} (h : Has x ns g m) (S : Sat g L m H) (hl : (lawEnv w L f cd cs cz).kindOf x = some .local) (hd : (x == ("__debug__" : Str)) = false) {p q pos : Pos} {j : Nat} {i z : Int} (h0 : 0 ≤ i) (h1 : i < 2 ^ 63) (hz : ns[i.toNat]? = some z) :
    Ev (model pg w) A (lawEnv w L f cd cs cz) H (.Subscript (.Name x p) (.Constant (.int i) j q) pos) (PI z) := by
  obtain ⟨v, hv, hP⟩ := h
  exact Ev.item_list (ns := ns) ((Ev.local rfl hl S.ns hv hd).monoLe fun h' x kh p => by cases p; exact stays_L _ _ _ _ (le_trans S.le kh) hP) Ev.const_int h0 h1 hz (fun _ _ => rfl) (fun _ _ => rfl)
theorem ev_list {x : Str} {ns : List Int} (h : Has x ns g m) (S : Sat g L m H) (hl : (lawEnv w L f cd cs cz).kindOf x = some .local) (hd : (x == ("__debug__" : Str)) = false) {p : Pos} {M : Model} : Ev M A (lawEnv w L f cd cs cz) H (.Name x p) (PL ns) := by
  obtain ⟨v, hv, hP⟩ := h
  exact (Ev.local rfl hl S.ns hv hd).monoLe fun h' x kh p => by cases p; exact stays_L _ _ _ _ (le_trans S.le kh) hP
theorem ev_at (X : Lx w mg mb cs cz l vs ns n g) (R : Rm A) (k : Le g H) {ps p pos p1 p2 : Pos} {j1 j2 : Nat} {i d : Int} (h0 : 0 ≤ i) (h1 : i < 2 ^ 63) :
    Ev (model pg w) A (lawEnv w L f cd cs cz) H (.Call (.Name "_law_at" p) [.Name "script" ps, .Constant (.int i) j1 p1, .Constant (.int d) j2 p2] [] pos) (PI (ns.getD i.toNat d)) :=
  have X' := X.up k
  ev_law_at X'.G (by have := R.d; omega) rfl rfl rfl X'.sl X'.si X'.sz h0 h1 (ev_script X k) Ev.const_int Ev.const_int rfl rfl rfl rfl

/-- the last: a run of bits, turned, is found -/
theorem law13 (X : Lx w mg mb cs cz l vs ns n g) (R : Rm A) (W : Rws n r0 r1 t g m) {z1 z2 z3 : Int} (hs : Has "sums" [(crcN (octs r0) : Nat), z1, z2, z3] g m) (hn : n ≠ 0) :
    Xs (model pg w) A (lawEnv w L f cd cs cz) g m ((lawSts w).drop 13) (fun v => v = .bool true) := by
  have d1 : A.depth + 1 < recursionLimit := by have := R.d; omega
  have hn1 : 1 ≤ n := by omega
  have hnl := W.nl
  -- bits
  have hmin : (if (8 * (n : Int)) < 32 then 8 * (n : Int) else 32) = ((min (8 * n) 32 : Nat) : Int) := by split <;> omega
  obtain ⟨q, hq, hqlt⟩ := fmod_nat (x := ns.getD (3 : Int).toNat 20) (k := min (8 * n) 32) (by omega)
  have hbi : q + 1 ≤ 32 := by omega
  have hbn : q + 1 ≤ 8 * n := by omega
  refine Xs.seq (Xn.assign (P := PI ((q + 1 : Nat) : Int)) (fun H S => ?_) (hid_I _) rfl rfl rfl) fun g1 m1 k1 => ?_
  · refine Ev.eqI (Ev.add Ev.const_int (Ev.mod (ev_at X R S.le (by decide) (by decide)) (b := if (8 * (n : Int)) < 32 then 8 * (n : Int) else 32) ?_ (by rw [hmin]; omega))) (by rw [hmin, hq]; omega)
    refine Ev.call2 (P₁ := PI 32) (P₂ := PI (8 * (n : Int))) (f := .builtin "min") (Ev.bname (X.G.up S.le) rfl boot_min (by decide) rfl rfl rfl rfl (by decide)) (cw_builtin _) (stays_I _) Ev.const_int ?_ (fun h' v u kh ⟨t1, ev⟩ ⟨t2, eu⟩ => ?_) rfl rfl rfl
    · exact Ev.mul Ev.const_int (ev_size X S.le) (IntMulOk.of_le (m := 8) (n := 8) (intBits_le_iff.mpr (by decide)) (intBits_le_iff.mpr (by omega)) (by decide))
    · subst ev eu
      exact cl_min R.h
  rintro ⟨v1, ⟨t1, rfl⟩, rfl⟩
  have X1 := X.up k1
  have W1 := (W.up k1).put (y := "bits") (v := .int ((q + 1 : Nat) : Int) t1) (by decide) (by decide)
  have hs1 := (hs.up k1).put (y := "bits") (v := .int ((q + 1 : Nat) : Int) t1) (by decide)
  have p2 : (2 : Int) ^ ((q : Int)).toNat = ((2 ^ q : Nat) : Int) := by rw [Int.toNat_natCast, Int.natCast_pow]; rfl
  have ib2 : Builtin.Int.intBits 2 = 2 := by decide
  -- turn
  obtain ⟨r2, hr2, hr2lt⟩ := fmod_nat (x := ns.getD (36 : Int).toNat 12345) (k := 2 ^ q) (Nat.two_pow_pos q)
  have hpow : 2 ^ (q + 1) ≤ 2 ^ 32 := Nat.pow_le_pow_right (by decide) (by omega)
  have hps : 2 ^ (q + 1) = 2 * 2 ^ q := by rw [Nat.pow_succ, Nat.mul_comm]
  have hq0 := Nat.two_pow_pos q
  have nBits : ∀ {H : Heap} {M : Model} {p : Pos} {g : Heap} {m : Str → Option Value}, Sat g L m H → m "bits" = some (.int ((q + 1 : Nat) : Int) t1) → Ev M A (lawEnv w L f cd cs cz) H (.Name "bits" p) (PI ((q + 1 : Nat) : Int)) := fun S hm => (Ev.local rfl rfl S.ns hm (by decide)).asI
  refine Xs.seq (Xn.assign (P := PI ((2 ^ q + r2 : Nat) : Int)) (fun H S => ?_) (hid_I _) rfl rfl rfl) fun g2 m2 k2 => ?_
  · skip
    have pw : ∀ {p1 p2 p3 p4 p5 : Pos} {j1 j2 : Nat}, Ev (model pg w) A (lawEnv w L f cd cs cz) H (.BinOp (.Constant (.int 2) j1 p1) .Pow (.BinOp (.Name "bits" p2) .Sub (.Constant (.int 1) j2 p3) p4) p5) (PI ((2 ^ q : Nat) : Int)) := fun {_ _ _ _ _ _ _} =>
      Ev.eqI (Ev.pow Ev.const_int (Ev.eqI (Ev.sub (nBits S put_eq) Ev.const_int) (show ((q + 1 : Nat) : Int) - 1 = (q : Int) by omega)) (by omega) (by rw [ib2]; omega)) p2
    exact Ev.eqI (Ev.add pw (Ev.mod (ev_at X1 R S.le (by decide) (by decide)) pw (by omega))) (by rw [hr2]; rfl)
  rintro ⟨v2, ⟨t2, rfl⟩, rfl⟩
  have X2 := X1.up k2
  have W2 := (W1.up k2).put (y := "turn") (v := .int ((2 ^ q + r2 : Nat) : Int) t2) (by decide) (by decide)
  have hs2 := (hs1.up k2).put (y := "turn") (v := .int ((2 ^ q + r2 : Nat) : Int) t2) (by decide)
  -- start
  obtain ⟨r3, hr3, hr3lt⟩ := fmod_nat (x := ns.getD (37 : Int).toNat 9) (k := 8 * n - q) (by omega)
  refine Xs.seq (Xn.assign (P := PI (r3 : Int)) (fun H S => ?_) (hid_I _) rfl rfl rfl) fun g3 m3 k3 => ?_
  · have ed : 8 * (n : Int) - ((q + 1 : Nat) : Int) + 1 = ((8 * n - q : Nat) : Int) := by omega
    refine Ev.eqI (Ev.mod (ev_at X2 R S.le (by decide) (by decide)) (Ev.eqI (Ev.add (Ev.sub (Ev.mul Ev.const_int (ev_size X2 S.le) ?_) (nBits S ((put_ne (by decide)).trans put_eq))) Ev.const_int) ed) (by omega)) hr3
    exact IntMulOk.of_le (m := 8) (n := 8) (intBits_le_iff.mpr (by decide)) (intBits_le_iff.mpr (by omega)) (by decide)
  rintro ⟨v3, ⟨t3, rfl⟩, rfl⟩
  have X3 := X2.up k3
  have W3 := (W2.up k3).put (y := "start") (v := .int (r3 : Int) t3) (by decide) (by decide)
  have hs3 := (hs2.up k3).put (y := "start") (v := .int (r3 : Int) t3) (by decide)
  -- turned
  have hV : valLE (octs r0) < 256 ^ n := by have := val_lt (octs r0) (octs_oct r0); rwa [W.len0] at this
  have h256 : (256 : Nat) ^ n = 2 ^ (8 * n) := by rw [Nat.pow_mul]
  have hE : (2 ^ q + r2) * 2 ^ r3 < 2 ^ (8 * n) := by
    have h1 : (2 ^ q + r2) * 2 ^ r3 < 2 ^ (q + 1) * 2 ^ r3 := Nat.mul_lt_mul_of_pos_right (by omega) (Nat.two_pow_pos r3)
    rw [← Nat.pow_add] at h1
    exact Nat.lt_of_lt_of_le h1 (Nat.pow_le_pow_right (by decide) (by omega))
  have hX : valLE (octs r0) ^^^ ((2 ^ q + r2) * 2 ^ r3) < 256 ^ n := by
    rw [h256]
    exact Nat.xor_lt_two_pow (by rw [← h256]; exact hV) hE
  refine Xs.seq (Xn.assign (P := PO (leB n (valLE (octs r0) ^^^ ((2 ^ q + r2) * 2 ^ r3)))) (fun H S => ?_) (hid_O _) rfl rfl rfl) fun g4 m4 k4 => ?_
  · refine Ev.to_bytes W.nl hX ?_ (ev_size X3 S.le) Ev.const_str rfl rfl rfl rfl
    have p3 : (2 : Int) ^ ((r3 : Int)).toNat = ((2 ^ r3 : Nat) : Int) := by rw [Int.toNat_natCast, Int.natCast_pow]; rfl
    have nTurn : ∀ {p : Pos} {M : Model}, Ev M A (lawEnv w L f cd cs cz) H (.Name "turn" p) (PI ((2 ^ q + r2 : Nat) : Int)) := fun {_ _} => (Ev.local rfl rfl S.ns ((put_ne (by decide)).trans put_eq) (by decide)).asI
    have nStart : ∀ {p : Pos} {M : Model}, Ev M A (lawEnv w L f cd cs cz) H (.Name "start" p) (PI (r3 : Int)) := fun {_ _} => (Ev.local rfl rfl S.ns put_eq (by decide)).asI
    refine Ev.eqI (Ev.xor (Ev.from_bytes (K := KK w) (b := r0) (X3.G.up S.le).X rfl (by rw [W.s0]; exact W.nl) (Ev.bname (X3.G.up S.le) rfl boot_int (by decide) rfl rfl rfl rfl (by decide)) (ev_rowB W3 S (by decide) (by decide) rfl) Ev.const_str rfl rfl rfl rfl)
      (Ev.eqI (b := (((2 ^ q + r2) * 2 ^ r3 : Nat) : Int)) (Ev.mul nTurn (Ev.eqI (Ev.pow Ev.const_int nStart (by omega) (by rw [ib2]; omega)) p3) ?_) rfl)) (xor_cast _ _)
    refine IntMulOk.of_le (m := 33) (n := 97) (intBits_le_iff.mpr ?_) (intBits_le_iff.mpr ?_) (by decide)
    · rw [Int.natAbs_natCast]; omega
    · rw [Int.natAbs_natCast]; exact Nat.pow_lt_pow_right (by decide) (by omega)
  rintro ⟨v4, ⟨b4, t4, rfl, hb4⟩, rfl⟩
  have X4 := X3.up k4
  have W4 := (W3.up k4).put (y := "turned") (v := .bytes b4 t4) (by decide) (by decide)
  have hs4 := (hs3.up k4).put (y := "turned") (v := .bytes b4 t4) (by decide)
  have ltd : (octs b4).length = n := by rw [hb4, leB_length]
  have vtd : valLE (octs b4) = valLE (octs r0) ^^^ ((2 ^ q + r2) * 2 ^ r3) := by rw [hb4]; exact val_leB n _ hX
  have f1 : crcN (octs b4) ≠ crcN (octs r0) := found_crc W.len0 ltd (octs_oct r0) (octs_oct b4) vtd (by omega) (by omega) (by omega)
  have f2 : crcN (octs b4 ++ t) ≠ crcN (octs r0 ++ t) := found_crc_more W.len0 ltd (octs_oct r0) (octs_oct b4) W.ot vtd (by omega) (by omega) (by omega)
  refine Xs.ret (P := PV (.bool true)) (fun H S => ?_) (fun _ _ p => p)
  have G := X4.G.up S.le
  have nTd : ∀ {p : Pos} {M : Model}, Ev M A (lawEnv w L f cd cs cz) H (.Name "turned" p) (PO (octs b4)) := fun {_ _} => (Ev.local rfl rfl S.ns put_eq (by decide)).asO rfl
  have neT : ∀ {a b : Nat}, a ≠ b → Value.bool ((a : Int) != (b : Int)) = .bool true := fun h => by
    congr 1
    rw [bne_iff_ne]
    exact fun e => h (Int.ofNat.inj e)
  refine Ev.and_more (Ev.castV (Ev.ne_int (ev_crc G R.h d1 rfl rfl rfl nTd rfl) (ev_item hs4 S rfl (by decide) (by decide) (by decide) rfl) rfl) (neT f1)) (Ev.and_more (Ev.castV (Ev.ne_int (ev_crc G R.h d1 rfl rfl rfl (Ev.catO nTd (ev_third W4 S) ?_) rfl) (ev_crc G R.h d1 rfl rfl rfl (Ev.catO (ev_row W4 S (by decide) (by decide) rfl) (ev_third W4 S) ?_) rfl) rfl) (neT f2)) (Ev.and_one ?_))
  · have := W.tl; omega
  · have := W.tl; rw [W.len0]; omega
  · refine Ev.within Ev.const_int (ev_item hs4 S rfl (by decide) (by decide) (by decide) rfl) (Ev.pow Ev.const_int Ev.const_int (by decide) (by rw [ib2]; decide)) (by omega) ?_ rfl
    have := crcN_lt (octs_oct r0)
    show ((crcN (octs r0) : Nat) : Int) < (2 : Int) ^ 32
    omega
end
end Mine
namespace Mine
set_option maxHeartbeats 1000000
theorem le4_leB (x : Nat) : leB 4 x = le4 x := by
  simp only [leB, le4, Nat.div_div_eq_div_mul]
section
variable {w : World} {A : Around} {mg mb : Str → Option Value} {cs cz l L f : Addr} {cd : Value} {vs : List Value} {ns : List Int} {n : Nat} {g : Heap} {m : Str → Option Value} {H : Heap} {r0 r1 : Array UInt8} {t : List Nat}
theorem law12 (X : Lx w mg mb cs cz l vs ns n g) (R : Rm A) (W : Rws n r0 r1 t g m) {z1 z2 z3 : Int} (hs : Has "sums" [(crcN (octs r0) : Nat), z1, z2, z3] g m) :
    Xs (model pg w) A (lawEnv w L f cd cs cz) g m ((lawSts w).drop 12) (fun v => v = .bool true) := by
  have d1 : A.depth + 1 < recursionLimit := by have := R.d; omega
  refine Xs.if_ret (c := ((n : Int) == 0)) (fun H S => EvT.eq_int (ev_size X S.le) Ev.const_int rfl) (fun hc => ?_) (fun hc => ?_)
  · refine Xs.ret (P := PV (.bool true)) (fun H S => ?_) (fun _ _ p => p)
    refine Ev.castV (Ev.eq_int (ev_crc (X.G.up S.le) R.h d1 rfl rfl rfl Ev.const_bytes.toO rfl) Ev.const_int rfl) ?_
    show Value.bool (((crcN [] : Nat) : Int) == 0) = .bool true
    rw [crcN_nil]
    rfl
  · exact law13 X R W hs (fun e => by subst e; simp at hc)
theorem ev_rows (W : Rws n r0 r1 t g m) (S : Sat g L m H) {p : Pos} {M : Model} : Ev M A (lawEnv w L f cd cs cz) H (.Name "rows" p) (PLB [r0, r1]) := by
  obtain ⟨v, hv, hP⟩ := W.rows
  exact (Ev.local rfl rfl S.ns hv (by decide)).monoLe fun h' x kh p => by cases p; exact stays_LB _ _ _ _ (le_trans S.le kh) hP
theorem law10 (X : Lx w mg mb cs cz l vs ns n g) (R : Rm A) (W : Rws n r0 r1 t g m) {z1 z2 z3 : Int} (hs : Has "sums" [(crcN (octs r0) : Nat), z1, z2, z3] g m) :
    Xs (model pg w) A (lawEnv w L f cd cs cz) g m ((lawSts w).drop 10) (fun v => v = .bool true) := by
  have d1 : A.depth + 1 < recursionLimit := by have := R.d; omega
  obtain ⟨th, tt, hth, oth⟩ := W.third
  have szs : ∀ b ∈ [r0, r1, th, #[]], b.size ≤ 12 := by
    intro b hb
    have h0 := W.s0
    have h1 := W.s1
    have h2 := W.tl
    have h3 := octs_size oth
    have h4 := W.nl
    simp only [List.mem_cons, List.not_mem_nil, or_false] at hb
    rcases hb with rfl | rfl | rfl | rfl
    · omega
    · omega
    · omega
    · simp
  refine Xs.seq (Xn.lc_bytes (bs := [r0, r1, th, #[]]) (fun _ => ((gk 32 msk ^^^ msk : Nat) : Int)) R.h rfl (cl := []) rfl (by decide) rfl (by decide) rfl rfl rfl (by simp) (fun H S => ?_) (fun C b tb H m₂ hb kH hn hm => ?_) (fun _ => rfl)) fun g1 m1 k1 => ?_
  · refine Ev.catLB (bs := [r0, r1]) (cs := [th, #[]]) (ev_rows W S) (Ev.dispB2 ?_ Ev.const_bytes rfl rfl) (by simp)
    exact (Ev.local rfl rfl S.ns hth (by decide)).mono fun _ _ p => ⟨tt, p⟩
  · have G := X.G.up kH
    have hlt := crcN_lt (octs_oct b)
    refine Ev.eqI (ev_crc G R.h d1 rfl rfl rfl (Ev.catO ((Ev.local rfl rfl hn hm (by decide)).asO (l := octs b) rfl) (Ev.to_bytes (x := crcN (octs b)) (k := 4) (by decide) (by simpa using hlt) (ev_crc G R.h d1 rfl rfl rfl ((Ev.local rfl rfl hn hm (by decide)).asO (l := octs b) rfl) rfl) Ev.const_int Ev.const_str rfl rfl rfl rfl) ?_) rfl) ?_
    · have := szs b hb
      rw [octs_length, leB_length]; omega
    · rw [le4_leB, closed (octs_oct b)]
  rintro ⟨v1, hP1, rfl⟩
  have X1 := X.up k1
  have W1 := (W.up k1).put (y := "closed") (v := v1) (by decide) (by decide)
  have hs1 := (hs.up k1).put (y := "closed") (v := v1) (by decide)
  have hc1 : Has "closed" [((gk 32 msk ^^^ msk : Nat) : Int), ((gk 32 msk ^^^ msk : Nat) : Int), ((gk 32 msk ^^^ msk : Nat) : Int), ((gk 32 msk ^^^ msk : Nat) : Int)] g1 (put m "closed" v1) := ⟨v1, put_eq, hP1⟩
  refine Xs.seq (Xn.if_false fun H S => EvT.cast (EvT.ne_list (ev_list hc1 S rfl (by decide)) (Ev.rep4 (ev_item hc1 S rfl (by decide) (by decide) (by decide) rfl) rfl) R.u rfl) (by simp)) fun g2 m2 k2 => ?_
  rintro rfl
  exact law12 (X1.up k2) R (W1.up k2) (hs1.up k2)
theorem law8 (X : Lx w mg mb cs cz l vs ns n g) (R : Rm A) (W : Rws n r0 r1 t g m) {z1 z2 z3 : Int} (hs : Has "sums" [(crcN (octs r0) : Nat), z1, z2, z3] g m) :
    Xs (model pg w) A (lawEnv w L f cd cs cz) g m ((lawSts w).drop 8) (fun v => v = .bool true) := by
  have d1 : A.depth + 1 < recursionLimit := by have := R.d; omega
  have d0 : A.depth < recursionLimit := by have := R.d; omega
  obtain ⟨q, hq, hqlt⟩ := fmod_nat (x := ns.getD (2 : Int).toNat 3) (k := n + 1) (by omega)
  refine Xs.seq (Xn.assign (P := PI (q : Int)) (fun H S => Ev.eqI (Ev.mod (ev_at X R S.le (by decide) (by decide)) (Ev.eqI (b := ((n + 1 : Nat) : Int)) (Ev.add (ev_size X S.le) Ev.const_int) rfl) (by omega)) hq) (hid_I _) rfl rfl rfl) fun g1 m1 k1 => ?_
  rintro ⟨v1, ⟨t1, rfl⟩, rfl⟩
  have X1 := X.up k1
  have W1 := (W.up k1).put (y := "place") (v := .int (q : Int) t1) (by decide) (by decide)
  have hs1 := (hs.up k1).put (y := "place") (v := .int (q : Int) t1) (by decide)
  refine Xs.seq (Xn.if_false fun H S => ?_) fun g2 m2 k2 => ?_
  · have G := X1.G.up S.le
    have nP : ∀ {M : Model} {p : Pos} {h' : Heap}, Le H h' → Ev M A (lawEnv w L f cd cs cz) h' (.Name "place" p) (PI (q : Int)) := fun {_ _ _} kh => (Ev.local rfl rfl (S.ns.keeps kh) put_eq (by decide)).asI
    have hq0 : q ≤ r0.size := by rw [W.s0]; omega
    have r0s : r0.size ≤ 1000000 := by rw [W.s0]; have := W.nl; omega
    have cut1 : ∀ {p1 p2 p3 p4 p5 p6 : Pos} {j : Nat}, Ev (model pg w) A (lawEnv w L f cd cs cz) H (.Subscript (.Subscript (.Name "rows" p1) (.Constant (.int 0) j p2) p3) (.Slice none (some (.Name "place" p4)) none p5) p6) (PO ((octs r0).take q)) := fun {_ _ _ _ _ _ _} =>
      Ev.eqO (slice_bytes (lo := none) (hi := some (q : Int)) (ev_rowB W1 S (by decide) (by decide) rfl) r0s (fun s E Q ks hQ => by rw [evalPart_none]; exact wpAny_pure (hQ _ s.heap s.toks (le_refl _) .none)) (fun s E Q ks hQ => part_int (nP (le_refl _)) ks fun u h' tk k => hQ _ h' tk k (.int _ u)) (fun _ _ _ => rfl)).toO (octs_upto hq0)
    have cut2 : ∀ {p1 p2 p3 p4 p5 p6 : Pos} {j : Nat}, Ev (model pg w) A (lawEnv w L f cd cs cz) H (.Subscript (.Subscript (.Name "rows" p1) (.Constant (.int 0) j p2) p3) (.Slice (some (.Name "place" p4)) none none p5) p6) (PO ((octs r0).drop q)) := fun {_ _ _ _ _ _ _} =>
      Ev.eqO (slice_bytes (lo := some (q : Int)) (hi := none) (ev_rowB W1 S (by decide) (by decide) rfl) r0s (fun s E Q ks hQ => part_int (nP (le_refl _)) ks fun u h' tk k => hQ _ h' tk k (.int _ u)) (fun s E Q ks hQ => by rw [evalPart_none]; exact wpAny_pure (hQ _ s.heap s.toks (le_refl _) .none)) (fun _ _ _ => rfl)).toO (octs_from hq0)
    have ot1 : Oct ((octs r0).take q) := fun x hx => octs_oct r0 x (List.mem_of_mem_take hx)
    refine EvT.or_false (EvT.cast (EvT.ne_int (ev_update G R.h d0 rfl rfl rfl (updN_lt ot1 (by decide)) (ev_update (c := 0) G R.h d0 rfl rfl rfl (by decide) Ev.const_int cut1 rfl rfl rfl) cut2 rfl rfl rfl) (ev_item hs1 S rfl (by decide) (by decide) (by decide) rfl) rfl) (ne_nat_false ?_))
      (EvT.or_false (EvT.cast (EvT.ne_int (ev_update G R.h d0 rfl rfl rfl (crcN_lt (octs_oct r0)) (ev_item hs1 S rfl (by decide) (by decide) (by decide) rfl) (ev_third W1 S) rfl rfl rfl) (ev_crc G R.h d1 rfl rfl rfl (Ev.catO (ev_row W1 S (by decide) (by decide) rfl) (ev_third W1 S) ?_) rfl) rfl) (ne_nat_false ?_)) EvT.or_nil)
    · rw [updN_updN, List.take_append_drop, updN_zero]
    · have := W.tl
      have := W.nl
      rw [W.len0]; omega
    · rw [← updN_zero, updN_updN, updN_zero]
  rintro rfl
  exact law10 (X1.up k2) R (W1.up k2) (hs1.up k2)
end
end Mine
namespace Mine
set_option maxHeartbeats 1000000
/-- bytes, as the frame holds them -/
def HasO (x : Str) (l : List Nat) (m : Str → Option Value) : Prop := ∃ b u, m x = some (.bytes b u) ∧ octs b = l
theorem HasO.put {x y : Str} {l : List Nat} {m : Str → Option Value} {v : Value} (h : HasO x l m) (q : x ≠ y) : HasO x l (put m y v) := let ⟨b, u, a, c⟩ := h; ⟨b, u, (put_ne q).trans a, c⟩
section
variable {w : World} {A : Around} {mg mb : Str → Option Value} {cs cz l L f : Addr} {cd : Value} {vs : List Value} {ns : List Int} {n : Nat} {g : Heap} {m : Str → Option Value} {H : Heap} {r0 r1 : Array UInt8} {t : List Nat}
theorem ev_hasO {x : Str} {lst : List Nat} (h : HasO x lst m) (S : Sat g L m H) (hl : (lawEnv w L f cd cs cz).kindOf x = some .local) (hd : (x == ("__debug__" : Str)) = false) {p : Pos} {M : Model} : Ev M A (lawEnv w L f cd cs cz) H (.Name x p) (PO lst) := by
  obtain ⟨b, u, hv, ho⟩ := h
  exact (Ev.local rfl hl S.ns hv hd).asO ho
theorem xor4 (a b c d : Nat) : Builtin.bitXor (Builtin.bitXor (Builtin.bitXor (a : Int) (b : Int)) (c : Int)) (d : Int) = ((a ^^^ b ^^^ c ^^^ d : Nat) : Int) := by
  rw [xor_cast, xor_cast, xor_cast]
theorem law4 (X : Lx w mg mb cs cz l vs ns n g) (R : Rm A) (W : Rws n r0 r1 t g m) (hbo : HasO "both" (zipX (octs r0) (octs r1)) m) (hno : HasO "noughts" (List.replicate n 0) m) :
    Xs (model pg w) A (lawEnv w L f cd cs cz) g m ((lawSts w).drop 4) (fun v => v = .bool true) := by
  have d1 : A.depth + 1 < recursionLimit := by have := R.d; omega
  have d2 : A.depth + 2 < recursionLimit := by have := R.d; omega
  have hnl := W.nl
  have htl := W.tl
  have lz : (zipX (octs r0) (octs r1)).length = n := by simp [zipX, W.len0, W.len1]
  refine Xs.seq (Xn.if_false fun H S => ?_) fun g1 m1 k1 => ?_
  · have G := X.G.up S.le
    refine EvT.or_false (EvT.cast (EvT.ne_int (ev_crc G R.h d1 rfl rfl rfl Ev.const_bytes.toO rfl) Ev.const_int rfl) (ne_nat_false (b := 3808858755) known9)) (EvT.or_false (EvT.cast (EvT.ne_int (ev_crc (a := List.replicate 32 0) G R.h d1 rfl rfl rfl ?_ rfl) Ev.const_int rfl) (ne_nat_false (b := 2324772522) known32)) EvT.or_nil)
    refine Ev.call1 (f := .type "bytes") (Ev.bname G rfl boot_bytes (by decide) rfl rfl rfl rfl (by decide)) (cw_type _) (Ev.const_int (i := 32)) (fun h' v kh ⟨t, ev⟩ => ?_) rfl
    subst ev
    intro s E Q ks hQ
    exact cl_bytes_int (n := 32) (h := h') (by decide) s E Q ks fun v h'' tk k ⟨t', e⟩ => hQ v h'' tk k ⟨_, t', e, rfl⟩
  rintro rfl
  have X1 := X.up k1
  have W1 := W.up k1
  obtain ⟨bo, ub, ebo, obo⟩ := hbo
  obtain ⟨no, un, eno, ono⟩ := hno
  -- sums
  refine Xs.seq (Xn.lc_bytes (bs := [r0, r1, bo, no]) (fun b => ((crcN (octs b) : Nat) : Int)) R.h rfl (cl := []) rfl (by decide) rfl (by decide) rfl rfl rfl (by simp) (fun H S => ?_) (fun C b tb H m₂ hb kH hn hm => ?_) (fun _ => rfl)) fun g2 m2 k2 => ?_
  · exact Ev.catLB (bs := [r0, r1]) (cs := [bo, no]) (ev_rows W1 S) (Ev.dispB2 ((Ev.local rfl rfl S.ns ebo (by decide)).mono fun _ _ p => ⟨ub, p⟩) ((Ev.local rfl rfl S.ns eno (by decide)).mono fun _ _ p => ⟨un, p⟩) rfl rfl) (by simp)
  · exact ev_crc (X1.G.up kH) R.h d1 rfl rfl rfl ((Ev.local rfl rfl hn hm (by decide)).asO (l := octs b) rfl) rfl
  rintro ⟨v2, hP2, rfl⟩
  have X2 := X1.up k2
  have W2 := (W1.up k2).put (y := "sums") (v := v2) (by decide) (by decide)
  have hs2 : Has "sums" [((crcN (octs r0) : Nat) : Int), ((crcN (octs r1) : Nat) : Int), ((crcN (zipX (octs r0) (octs r1)) : Nat) : Int), ((crcN (List.replicate n 0) : Nat) : Int)] g2 (put m1 "sums" v2) := ⟨v2, put_eq, by rw [← obo, ← ono]; exact hP2⟩
  have hb2 : HasO "both" (zipX (octs r0) (octs r1)) (put m1 "sums" v2) := ⟨bo, ub, (put_ne (by decide)).trans ebo, obo⟩
  have hn2 : HasO "noughts" (List.replicate n 0) (put m1 "sums" v2) := ⟨no, un, (put_ne (by decide)).trans eno, ono⟩
  refine Xs.seq (Xn.if_false fun H S => ?_) fun g3 m3 k3 => ?_
  · have G := X2.G.up S.le
    have z := four (t := []) W.len0 W.len1 (octs_oct r0) (octs_oct r1) (by intro x hx; cases hx)
    simp only [List.append_nil] at z
    refine EvT.or_false (EvT.cast (EvT.ne_int (Ev.eqI (Ev.xor (Ev.xor (Ev.xor (ev_item hs2 S rfl (by decide) (by decide) (by decide) rfl) (ev_item hs2 S rfl (by decide) (by decide) (by decide) rfl)) (ev_item hs2 S rfl (by decide) (by decide) (by decide) rfl)) (ev_item hs2 S rfl (by decide) (by decide) (by decide) rfl)) (xor4 _ _ _ _)) Ev.const_int rfl) (ne_nat_false (b := 0) z))
      (EvT.or_false (EvT.cast (EvT.ne_list (Ev.lc_bytes (bs := [r0, r1]) (fun b => ((crcN (octs b) : Nat) : Int)) R.h (cl := []) rfl (by decide) rfl (by decide) rfl (by simp) (ev_rows W2 S) (fun C b tb H' m₂ hb kH hn hm => ?_) (fun _ => rfl)) (Ev.upto (ev_list hs2 S rfl (by decide)) (Ev.const_int (i := 2)) (by decide) (by simp) (fun _ _ => rfl)) R.u rfl) ?_) EvT.or_nil)
    · exact ev_calc (G.up kH) R.h d2 rfl rfl rfl ((Ev.local rfl rfl hn hm (by decide)).asO (l := octs b) rfl) rfl
    · exact congrArg (fun b => !b) (decide_eq_true rfl)
  rintro rfl
  have X3 := X2.up k3
  have W3 := W2.up k3
  have hs3 := hs2.up k3
  refine Xs.seq (Xn.if_false fun H S => ?_) fun g4 m4 k4 => ?_
  · have G := X3.G.up S.le
    have z := four W.len0 W.len1 (octs_oct r0) (octs_oct r1) W.ot
    have y := behind W.len0 (octs_oct r0) W.ot
    refine EvT.or_false (EvT.cast (EvT.ne_int (Ev.eqI (Ev.xor (Ev.xor (Ev.xor
        (ev_crc G R.h d1 rfl rfl rfl (Ev.catO (ev_row W3 S (by decide) (by decide) rfl) (ev_third W3 S) (by rw [W.len0]; omega)) rfl)
        (ev_crc G R.h d1 rfl rfl rfl (Ev.catO (ev_row W3 S (by decide) (by decide) rfl) (ev_third W3 S) (by rw [W.len1]; omega)) rfl))
        (ev_crc G R.h d1 rfl rfl rfl (Ev.catO (ev_hasO hb2 S rfl (by decide)) (ev_third W3 S) (by rw [lz]; omega)) rfl))
        (ev_crc G R.h d1 rfl rfl rfl (Ev.catO (ev_hasO hn2 S rfl (by decide)) (ev_third W3 S) (by rw [List.length_replicate]; omega)) rfl)) (xor4 _ _ _ _)) Ev.const_int rfl) (ne_nat_false (b := 0) z))
      (EvT.or_false (EvT.cast (EvT.ne_int (Ev.eqI (Ev.xor
        (ev_crc G R.h d1 rfl rfl rfl (Ev.catO (ev_third W3 S) (ev_row W3 S (by decide) (by decide) rfl) (by rw [W.len0]; omega)) rfl)
        (ev_crc G R.h d1 rfl rfl rfl (Ev.catO (ev_third W3 S) (ev_hasO hn2 S rfl (by decide)) (by rw [List.length_replicate]; omega)) rfl)) (xor_cast _ _))
        (Ev.eqI (Ev.xor (ev_item hs3 S rfl (by decide) (by decide) (by decide) rfl) (ev_item hs3 S rfl (by decide) (by decide) (by decide) rfl)) (xor_cast _ _)) rfl) (ne_nat_false y)) EvT.or_nil)
  rintro rfl
  exact law8 (X3.up k4) R (W3.up k4) (hs3.up k4)
end
end Mine
namespace Mine
set_option maxHeartbeats 1000000
def rowAt (ns : List Int) (side : Nat) (k : Int) : Int := (ns.getD (4 + 12 * (side : Int) + k).toNat (37 * k + 101 * (side : Int) + 5)).fmod 256
def rowOf (ns : List Int) (n side : Nat) : Array UInt8 := byteArr ((List.range n).map fun k => rowAt ns side ((k : Nat) : Int))
def thirdAt (ns : List Int) (k : Int) : Int := (ns.getD (28 + k).toNat (90 * k + 7)).fmod 256
theorem fmod256 (x : Int) : 0 ≤ x.fmod 256 ∧ x.fmod 256 < 256 := ⟨Int.fmod_nonneg_of_pos x (by decide), Int.fmod_lt_of_pos x (by decide)⟩
theorem byteArr_len (l : List Int) : (byteArr l).size = l.length := byteArr_size l
theorem mulok {a b : Int} (ha : a.natAbs < 2 ^ 16) (hb : b.natAbs < 2 ^ 16) : IntMulOk a b := IntMulOk.of_le (m := 16) (n := 16) (intBits_le_iff.mpr ha) (intBits_le_iff.mpr hb) (by decide)
section
variable {prog : Program} {w : World} {A : Around} {env : Env} {g : Heap} {m : Str → Option Value}
/-- a, b = (e1, e2), the stores the other way about -/
theorem Xn.pair_sw {a b : Str} {elts : List Expr} {tp pos : Pos} {k : Nat} {value : Expr} {P₁ P₂ : Heap → Value → Prop} (hh : A.handled = none) (hev : ∀ H, Sat g env.locals m H → Ev (model prog w) A env H value (fun h v => ∃ T x y, v = .ref T ∧ h.IsTuple T #[x, y] ∧ P₁ h x ∧ P₂ h y))
    (ha : env.kindOf a = some .local) (hb : env.kindOf b = some .local) (hp : (env.scope.kind == .class || (env.scope.kind == .module && env.locals != env.globals)) = false)
    (hs : swapsWithSole [.Tuple elts k tp] value pos.line env = pure false) (hw : swappedStores [.Tuple elts k tp] value env = pure (some [a, b]))
    (plain₁ : ∀ h h' v, P₁ h v → P₁ h' v) (plain₂ : ∀ h h' v, P₂ h v → P₂ h' v) :
    Xn (model prog w) A env g m (.Assign [.Tuple elts k tp] value pos) (fun g' m' => ∃ x y, P₁ g' x ∧ P₂ g' y ∧ m' = put (put m b y) a x) := fun s E Q S hQ =>
  Assign_Tuple_swapped (hev _ S s E _ (le_refl _) fun v g1 t1 k1 ⟨T, x, y, ev, hT, p1, p2⟩ => by
    subst ev
    have S1 := S.keeps k1
    refine unpackItems_tuple (items := #[x, y]) hh hT fun h2 he2 => ?_
    have S2 : Sat g env.locals m h2 := S1.keeps (fun c o e => he2 c o (Nat.ne_of_lt (Heap.lt_size e)) e)
    refine assignInOrder_cons (bindName_ (wpAny_storeName_local hb S2.ns (fun h3 hn3 hb3 => ?_) hp))
    refine assignInOrder_cons (bindName_ (wpAny_storeName_local ha hn3 (fun h4 hn4 hb4 => ?_) hp))
    refine assignInOrder_nil ?_
    have l4 : Le g (h4.hide env.locals) := le_hide (fun c o e => have hc : c ≠ env.locals := fun q => by rw [q, S.off] at e; cases e
      hb4.extBut c o hc (hb3.extBut c o hc (S2.le _ _ e))) S.off
    exact hQ (h4.hide env.locals) _ h4 _ l4 ⟨hide_le _ _, hn4, Heap.hide_self _ _⟩ ⟨x, y, plain₁ _ _ _ p1, plain₂ _ _ _ p2, rfl⟩) hs hw
end
section
variable {w : World} {A : Around} {mg mb : Str → Option Value} {cs cz l L f : Addr} {cd : Value} {vs : List Value} {ns : List Int} {n : Nat} {g : Heap} {m : Str → Option Value} {H : Heap} {r0 r1 : Array UInt8} {t : List Nat}
theorem law1 (X : Lx w mg mb cs cz l vs ns n g) (R : Rm A) (hn : n ≤ 12) :
    Xs (model pg w) A (lawEnv w L f cd cs cz) g m ((lawSts w).drop 1) (fun v => v = .bool true) := by
  have d0 : A.depth < recursionLimit := by have := R.d; omega
  -- rows
  refine Xs.seq (Xn.lc_cell2 (fun side => rowOf ns n side) R.h rfl (cl := [("size", cz), ("script", cs)]) rfl rfl (fun k => rfl) (fun h => rfl) (by decide) rfl rfl rfl (fun H S => ?_) (fun C c i ti H hi kH hc => ?_) (fun _ => rfl)) fun g1 m1 k1 => ?_
  · refine Ev.call1 (f := .type "range") (Ev.bname (X.G.up S.le) rfl boot_range (by decide) rfl rfl rfl rfl (by decide)) (cw_type _) (Ev.const_int (i := 2)) (fun h' v kh ⟨t, ev⟩ => ?_) rfl
    subst ev
    exact cl_range (n := 2)
  · have X' := X.up kH
    obtain ⟨tz, zc⟩ := X'.zc
    refine Ev.call1 (P₁ := PL ((List.range n).map fun k => rowAt ns i ((k : Nat) : Int))) (f := .type "bytes") (Ev.bname X'.G rfl boot_bytes (by decide) rfl rfl rfl rfl (by decide)) (cw_type _) ?_ (fun h' v kh ⟨la, lv, ev, hl, hli⟩ => ?_) rfl
    · refine Ev.lc_range (rowAt ns i) R.h (cl := [("side", c), ("script", cs)]) rfl (by decide) rfl (by decide) rfl (by omega) ?_ (fun C2 k tk H2 m2 hk kH2 hn2 hm2 => ?_) (fun _ => rfl)
      · refine Ev.call1 (f := .type "range") (Ev.bname X'.G rfl boot_range (by decide) rfl rfl rfl rfl (by decide)) (cw_type _) (Ev.cell rfl rfl rfl zc (by decide)).asI (fun h' v kh ⟨t, ev⟩ => ?_) rfl
        subst ev
        exact cl_range
      · have X2 := X'.up kH2
        have c2 := hc.keeps kH2
        refine Ev.mod (ev_law_at (l := l) (vs := vs) (ns := ns) (k := 4 + 12 * (i : Int) + (k : Int)) (d := 37 * (k : Int) + 101 * (i : Int) + 5) X2.G d0 rfl rfl rfl X2.sl X2.si X2.sz (by omega) (by omega) (Ev.cell rfl rfl rfl X2.sc (by decide)) ?_ ?_ rfl rfl rfl rfl) Ev.const_int (by decide)
        · exact Ev.add (Ev.add Ev.const_int (Ev.mul Ev.const_int (Ev.cell rfl rfl rfl c2 (by decide)).asI (mulok (by decide) (by omega)))) (Ev.local rfl rfl hn2 hm2 (by decide)).asI
        · exact Ev.add (Ev.add (Ev.mul Ev.const_int (Ev.local rfl rfl hn2 hm2 (by decide)).asI (mulok (by decide) (by omega))) (Ev.mul Ev.const_int (Ev.cell rfl rfl rfl c2 (by decide)).asI (mulok (by decide) (by omega)))) Ev.const_int
    · subst ev
      refine cl_bytes_list R.h hl hli ?_ (by rw [List.length_map, List.length_range]; omega)
      intro x hx
      obtain ⟨k, _, rfl⟩ := List.mem_map.mp hx
      exact fmod256 _
  rintro ⟨v1, hP1, rfl⟩
  have X1 := X.up k1
  -- third
  obtain ⟨q, hq, hqlt⟩ := fmod_nat (x := ns.getD (1 : Int).toNat 3) (k := 9) (by decide)
  refine Xs.seq (Xn.assign (P := PB (byteArr ((List.range q).map fun k => thirdAt ns ((k : Nat) : Int)))) (fun H S => ?_) (hid_B _) rfl rfl rfl) fun g2 m2 k2 => ?_
  · have X' := X1.up S.le
    refine Ev.call1 (P₁ := PL ((List.range q).map fun k => thirdAt ns ((k : Nat) : Int))) (f := .type "bytes") (Ev.bname X'.G rfl boot_bytes (by decide) rfl rfl rfl rfl (by decide)) (cw_type _) ?_ (fun h' v kh ⟨la, lv, ev, hl, hli⟩ => ?_) rfl
    · refine Ev.lc_range (thirdAt ns) R.h (cl := [("script", cs)]) rfl (by decide) rfl (by decide) rfl (by omega) ?_ (fun C2 k tk H2 m2 hk kH2 hn2 hm2 => ?_) (fun _ => rfl)
      · refine Ev.call1 (f := .type "range") (Ev.bname X'.G rfl boot_range (by decide) rfl rfl rfl rfl (by decide)) (cw_type _) (Ev.eqI (Ev.mod (ev_at X1 R S.le (by decide) (by decide)) Ev.const_int (by decide)) hq) (fun h' v kh ⟨t, ev⟩ => ?_) rfl
        subst ev
        exact cl_range
      · have X2 := X'.up kH2
        refine Ev.mod (ev_law_at (l := l) (vs := vs) (ns := ns) (k := 28 + (k : Int)) (d := 90 * (k : Int) + 7) X2.G d0 rfl rfl rfl X2.sl X2.si X2.sz (by omega) (by omega) (Ev.cell rfl rfl rfl X2.sc (by decide)) ?_ ?_ rfl rfl rfl rfl) Ev.const_int (by decide)
        · exact Ev.add Ev.const_int (Ev.local rfl rfl hn2 hm2 (by decide)).asI
        · exact Ev.add (Ev.mul Ev.const_int (Ev.local rfl rfl hn2 hm2 (by decide)).asI (mulok (by decide) (by omega))) Ev.const_int
    · subst ev
      refine cl_bytes_list R.h hl hli ?_ (by rw [List.length_map, List.length_range]; omega)
      intro x hx
      obtain ⟨k, _, rfl⟩ := List.mem_map.mp hx
      exact fmod256 _
  rintro ⟨v2, ⟨t2, rfl⟩, rfl⟩
  have X2 := X1.up k2
  have s0 : (rowOf ns n 0).size = n := by unfold rowOf; rw [byteArr_len, List.length_map, List.length_range]
  have s1 : (rowOf ns n 1).size = n := by unfold rowOf; rw [byteArr_len, List.length_map, List.length_range]
  have W2 : Rws n (rowOf ns n 0) (rowOf ns n 1) (octs (byteArr ((List.range q).map fun k => thirdAt ns ((k : Nat) : Int)))) g2 (put (put m "rows" v1) "third" (.bytes (byteArr ((List.range q).map fun k => thirdAt ns ((k : Nat) : Int))) t2)) :=
    ⟨⟨v1, (put_ne (by decide)).trans put_eq, stays_LB _ _ _ _ k2 hP1⟩, ⟨_, t2, put_eq, rfl⟩, s0, s1, by rw [octs_length, byteArr_len, List.length_map, List.length_range]; omega, octs_oct _, hn⟩
  -- both, noughts
  refine Xs.seq (Xn.pair_sw (P₁ := PO (zipX (octs (rowOf ns n 0)) (octs (rowOf ns n 1)))) (P₂ := PO (List.replicate n 0)) R.h (fun H S => ?_) rfl rfl rfl rfl rfl (fun _ _ _ p => p) (fun _ _ _ p => p)) fun g3 m3 k3 => ?_
  · have X' := X2.up S.le
    refine eval_pair (stays_O _) ?_ ?_ rfl rfl (stays_O _)
    · refine Ev.call2 (P₁ := PB (rowOf ns n 0)) (P₂ := PB (rowOf ns n 1)) (f := .ref 57) (Ev.gname X'.G rfl rfl rfl rfl (by decide)) (cw_def (X'.G.X 57 _ rfl) rfl) (stays_B _) (ev_rowB W2 S (by decide) (by decide) rfl) (ev_rowB W2 S (by decide) (by decide) rfl) (fun h' v u kh ⟨tv, ev⟩ ⟨tu, eu⟩ => ?_) rfl rfl rfl
      subst ev eu
      exact law_sum_cl (X'.G.up kh) R.h d0 (s0.trans s1.symm) (by rw [s0]; omega)
    · refine Ev.call1 (f := .type "bytes") (Ev.bname X'.G rfl boot_bytes (by decide) rfl rfl rfl rfl (by decide)) (cw_type _) (ev_size X2 S.le) (fun h' v kh ⟨t, ev⟩ => ?_) rfl
      subst ev
      intro s E Q ks hQ
      exact cl_bytes_int (n := n) (h := h') (by omega) s E Q ks fun v h'' tk k ⟨t', e⟩ => hQ v h'' tk k ⟨_, t', e, by simp [octs]⟩
  rintro ⟨x3, y3, ⟨b3, u3, rfl, o3⟩, ⟨c3, u4, rfl, o4⟩, rfl⟩
  exact law4 (X2.up k3) R (((W2.up k3).put (y := "noughts") (v := .bytes c3 u4) (by decide) (by decide)).put (y := "both") (v := .bytes b3 u3) (by decide) (by decide)) ⟨b3, u3, put_eq, o3⟩ ⟨c3, u4, (put_ne (by decide)).trans put_eq, o4⟩
end
end Mine
namespace Mine
set_option maxHeartbeats 1000000
section
variable {w : World} {A : Around} {mg mb : Str → Option Value} {cs cz l L f : Addr} {cd : Value} {vs : List Value} {ns : List Int} {m : Str → Option Value} {h0 : Heap} {v0 : Option Value}
theorem rm_caller (e : Env) : Rm (callerA.deeper e) := ⟨rfl, (by decide +kernel : 1 + claimMargin + 1 + 3 < recursionLimit), (by decide +kernel : 4 + 3 + 64 < cLine)⟩
theorem get_size_none (h : Heap) : h.get? h.objs.size = none := by
  cases e : h.get? h.objs.size with
  | none => rfl
  | some o => exact absurd (Heap.lt_size e) (Nat.lt_irrefl _)
theorem ne_a (a : Nat) : a + 1 ≠ a + 1 + 1 := by omega
theorem ne_b (a : Nat) : a + 1 ≠ a := by omega
theorem ne_c (a : Nat) : a + 1 + 1 ≠ a := by omega
theorem use_ev {M : Model} {env : Env} {h : Heap} {e : Expr} {P : Heap → Value → Prop} (x : Ev M A env h e P) (s : Shared) (E : Value → Shared → Prop) (Q : Value → Shared → Prop) (ks : Le h s.heap) (hQ : ∀ v h' tk, Le s.heap h' → P h' v → Q v { s with heap := h', toks := tk }) : wpAny M A (eval e env) Q E s := x s E Q ks hQ
/-- the whole law, from the entry's heap -/
theorem law0 (G : Gl w mg mb h0) (hl : h0.IsList l vs.toArray) (hI : IntsAre vs ns) (hsz : ns.length ≤ 2 ^ 20) (R : Rm A) (off : h0.get? L = none) (offz : h0.get? cz = none) (ne1 : cs ≠ cz) (ne2 : cs ≠ L) (ne3 : cz ≠ L)
    (s : Shared) (E : Value → Shared → Prop) (Q : Flow → Shared → Prop) (le : Le h0 s.heap) (hns : s.heap.Ns L m) (hcs : s.heap.IsCell cs (some (.ref l))) (hcz : s.heap.IsCell cz v0)
    (hQ : ∀ h' tk, Le h0 h' → Q (.ret (.bool true)) { s with heap := h', toks := tk }) : wpAny (model pg w) A (execs (lawSts w) (lawEnv w L f cd cs cz)) Q E s := by
  obtain ⟨n, hn, hlt⟩ := fmod_nat (x := ns.getD (0 : Int).toNat 7) (k := 13) (by decide)
  have G1 := G.up le
  have d0 : A.depth < recursionLimit := by have := R.d; omega
  refine wpAny_execs_cons (wpAny_Assign_Name (use_ev (P := PI (n : Int)) (M := model pg w) (h := s.heap) ?_ s E _ (le_refl _) fun v h1 tk1 k1 ⟨t, e⟩ => ?_) rfl)
  · exact Ev.eqI (Ev.mod (ev_law_at (l := l) (vs := vs) (ns := ns) (k := 0) (d := 7) G1 d0 rfl rfl rfl (isList_up hl le) hI hsz (by decide) (by decide) (Ev.cell rfl rfl rfl hcs (by decide)) Ev.const_int Ev.const_int rfl rfl rfl rfl) Ev.const_int (by decide)) hn
  subst e
  have cs1 := hcs.keeps k1
  have cz1 := hcz.keeps k1
  refine wpAny_storeName_cell rfl rfl rfl cz1 fun h2 c2 sb => ?_
  have nz : ∀ b o, h0.get? b = some o → b ≠ cz := fun b o e q => by rw [q, offz] at e; cases e
  have nL : ∀ b o, h0.get? b = some o → b ≠ L := fun b o e q => by rw [q, off] at e; cases e
  have up : ∀ b o, b ≠ cz → s.heap.get? b = some o → h2.get? b = some o := fun b o q e => (sb.2 b q).trans (k1 b o e)
  have le2 : Le h0 (h2.hide L) := fun b o e => (Heap.hide_ne h2 (nL b o e)).trans (up b o (nz b o e) (le b o e))
  have cs2 : (h2.hide L).IsCell cs (some (.ref l)) := by
    obtain ⟨o, ho, hd⟩ := hcs
    exact ⟨o, (Heap.hide_ne h2 ne2).trans (up _ o ne1 ho), hd⟩
  have cz2 : (h2.hide L).IsCell cz (some (.int (n : Int) t)) := by
    obtain ⟨o, ho, hd⟩ := c2
    exact ⟨o, (Heap.hide_ne h2 ne3).trans ho, hd⟩
  have S : Sat (h2.hide L) L m h2 := ⟨hide_le _ _, hns.at' fun o e => up _ o (fun q => ne3 q.symm) e, Heap.hide_self _ _⟩
  exact law1 ⟨G.up le2, cs2, isList_up hl le2, hI, hsz, _, cz2⟩ R (by omega) _ E Q S fun v h' tk k r => by
    subst r
    exact hQ h' tk (le_trans le2 k)
end
end Mine
set_option maxHeartbeats 8000000 in
theorem PySem.Challenge.cw_bh0044_01_holds : PySem.Challenge.rw_bh0044_01.Holds :=
  Mine.hd (by
  w_strict (k_go0; (all_goals try k_fold); (
    rename_i h1 tk1 F0 o2 o1 dz ds N0 X0;
    rename Top _ _ _ _ _ _ => T0;
    rename Frag.In _ _ => K0;
    rename Heap.IsList _ _ _ => hl0;
    rename IntsAre _ _ => hI0;
    rename ¬ (_ < _) => hc0;
    rename Shared.gens _ = _ => hg0;
    refine Mine.law0 (cd := .ref _) (cs := _ + 1) (cz := _ + 1 + 1) ⟨K0, ⟨T0.g, T0.b, T0.nolimit⟩, T0.builtins⟩ hl0 hI0 (by omega) (Mine.rm_caller _) (Mine.get_size_none _) (N0.fresh List.mem_cons_self) (Mine.ne_a _) (Mine.ne_b _) (Mine.ne_c _) _ _ _ F0.keep F0.ns ⟨o1, N0.get (List.mem_cons_of_mem _ List.mem_cons_self), ds⟩ ⟨o2, N0.get List.mem_cons_self, dz⟩
      (fun h' tk k => ⟨.inl ⟨_, .bool true, [], rfl, ?_, .bool _, ?_, unshared_nil⟩, k, rfl, hg0⟩);
    (· exact raisesW_false (by wrow_none_raised));
    (· wrow_post))))
