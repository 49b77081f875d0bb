import PyProof.Rows.All
import Wide.All
import OpenK.AllK
import Wide.FinOn
import KE.BitLaws
import KE.KBits
import Lean
import PySem.Challenge.RW_bq0025_01
section
open PySem PySem.W PyProof.Rows
set_option Elab.async false
set_option maxRecDepth 100000
set_option maxHeartbeats 0
namespace Mine
open_top hd for PySem.Challenge.rw_bq0025_01
end Mine
end
section
open PySem PySem.W PyProof.Rows PySem.Spec PySem.Calls
set_option Elab.async false
set_option maxRecDepth 100000
set_option maxHeartbeats 0
namespace Mine
/-- the law's own statements and scope, taken out of the row by their place: the last statement of the text -/
def lawPart : List Stmt × Scope := match PySem.Challenge.rw_bq0025_01.row.prog.main.body.getLast? with
  | some (.FunctionDef _ _ body _ _ _ scope _ _ _) => (body, scope)
  | _ => ([], default)
def lawB : List Stmt := lawPart.1
def lawS : Scope := lawPart.2
theorem Fr.pull {h₀ h : Heap} {L : Addr} {m : Str → Option Value} {x : Str} {v : Value} (F : Fr h₀ L h m) (e : m x = some v) : Fr h₀ L h (fun y => if y = x then some v else m y) := by
  have : (fun y => if y = x then some v else m y) = m := by
    funext y
    by_cases h : y = x
    · subst h; simp [e]
    · simp [h]
  rw [this]; exact F
abbrev lawCl (c1 c2 c3 c4 c5 c6 c7 c8 c9 : Addr) : List (Str × Addr) := [(Str.ofString "lacking", c9), (Str.ofString "known", c8), (Str.ofString "spots", c7), (Str.ofString "exponents", c6), (Str.ofString "powers", c5), (Str.ofString "row", c4), (Str.ofString "stride", c3), (Str.ofString "start", c2), (Str.ofString "free", c1)]
end Mine
end
section
/- the field of 256 elements, by 285 -/
namespace Mine
abbrev B := BitVec 8
def expT : List Nat := [1, 2, 4, 8, 16, 32, 64, 128, 29, 58, 116, 232, 205, 135, 19, 38, 76, 152, 45, 90, 180, 117, 234, 201, 143, 3, 6, 12, 24, 48, 96, 192, 157, 39, 78, 156, 37, 74, 148, 53, 106, 212, 181, 119, 238, 193, 159, 35, 70, 140, 5, 10, 20, 40, 80, 160, 93, 186, 105, 210, 185, 111, 222, 161, 95, 190, 97, 194, 153, 47, 94, 188, 101, 202, 137, 15, 30, 60, 120, 240, 253, 231, 211, 187, 107, 214, 177, 127, 254, 225, 223, 163, 91, 182, 113, 226, 217, 175, 67, 134, 17, 34, 68, 136, 13, 26, 52, 104, 208, 189, 103, 206, 129, 31, 62, 124, 248, 237, 199, 147, 59, 118, 236, 197, 151, 51, 102, 204, 133, 23, 46, 92, 184, 109, 218, 169, 79, 158, 33, 66, 132, 21, 42, 84, 168, 77, 154, 41, 82, 164, 85, 170, 73, 146, 57, 114, 228, 213, 183, 115, 230, 209, 191, 99, 198, 145, 63, 126, 252, 229, 215, 179, 123, 246, 241, 255, 227, 219, 171, 75, 150, 49, 98, 196, 149, 55, 110, 220, 165, 87, 174, 65, 130, 25, 50, 100, 200, 141, 7, 14, 28, 56, 112, 224, 221, 167, 83, 166, 81, 162, 89, 178, 121, 242, 249, 239, 195, 155, 43, 86, 172, 69, 138, 9, 18, 36, 72, 144, 61, 122, 244, 245, 247, 243, 251, 235, 203, 139, 11, 22, 44, 88, 176, 125, 250, 233, 207, 131, 27, 54, 108, 216, 173, 71, 142, 1]
def logT : List Nat := [0, 0, 1, 25, 2, 50, 26, 198, 3, 223, 51, 238, 27, 104, 199, 75, 4, 100, 224, 14, 52, 141, 239, 129, 28, 193, 105, 248, 200, 8, 76, 113, 5, 138, 101, 47, 225, 36, 15, 33, 53, 147, 142, 218, 240, 18, 130, 69, 29, 181, 194, 125, 106, 39, 249, 185, 201, 154, 9, 120, 77, 228, 114, 166, 6, 191, 139, 98, 102, 221, 48, 253, 226, 152, 37, 179, 16, 145, 34, 136, 54, 208, 148, 206, 143, 150, 219, 189, 241, 210, 19, 92, 131, 56, 70, 64, 30, 66, 182, 163, 195, 72, 126, 110, 107, 58, 40, 84, 250, 133, 186, 61, 202, 94, 155, 159, 10, 21, 121, 43, 78, 212, 229, 172, 115, 243, 167, 87, 7, 112, 192, 247, 140, 128, 99, 13, 103, 74, 222, 237, 49, 197, 254, 24, 227, 165, 153, 119, 38, 184, 180, 124, 17, 68, 146, 217, 35, 32, 137, 46, 55, 63, 209, 91, 149, 188, 207, 205, 144, 135, 151, 178, 220, 252, 190, 97, 242, 86, 211, 171, 20, 42, 93, 158, 132, 60, 57, 83, 71, 109, 65, 162, 31, 45, 67, 216, 183, 123, 164, 118, 196, 23, 73, 236, 127, 12, 111, 246, 108, 161, 59, 82, 41, 157, 85, 170, 251, 96, 134, 177, 187, 204, 62, 90, 203, 89, 95, 176, 156, 169, 160, 81, 11, 245, 22, 235, 122, 117, 44, 215, 79, 174, 213, 233, 230, 231, 173, 232, 116, 214, 244, 234, 168, 80, 88, 175]
def xt (a : B) : B := (a <<< 1) ^^^ (if a.msb then 29#8 else 0#8)
theorem xt_xor (a b : B) : xt (a ^^^ b) = xt a ^^^ xt b := by
  unfold xt
  rw [BitVec.shiftLeft_xor_distrib, BitVec.msb_xor]
  cases a.msb <;> cases b.msb <;> simp
  · ac_rfl
  · ac_rfl
  · rw [show a <<< 1 ^^^ 29#8 ^^^ (b <<< 1 ^^^ 29#8) = (29#8 ^^^ 29#8) ^^^ (a <<< 1 ^^^ b <<< 1) from by ac_rfl]
    simp
theorem xt_zero : xt 0#8 = 0#8 := by decide
def xtn : Nat → B → B
  | 0, b => b
  | n + 1, b => xt (xtn n b)
theorem xtn_zero : ∀ n, xtn n 0#8 = 0#8
  | 0 => rfl
  | n + 1 => by rw [xtn, xtn_zero n, xt_zero]
theorem xtn_xor (a b : B) : ∀ n, xtn n (a ^^^ b) = xtn n a ^^^ xtn n b
  | 0 => rfl
  | n + 1 => by rw [xtn, xtn, xtn, xtn_xor a b n, xt_xor]
theorem xtn_add (b : B) : ∀ m n, xtn (m + n) b = xtn m (xtn n b)
  | 0, n => by rw [Nat.zero_add]; rfl
  | m + 1, n => by rw [Nat.succ_add, xtn, xtn, xtn_add b m n]
def E (n : Nat) : B := xtn n 1#8
theorem xtn_E (m n : Nat) : xtn m (E n) = E (m + n) := (xtn_add 1#8 m n).symm
def chk : B → List Nat → Bool
  | _, [] => true
  | a, x :: r => (a.toNat == x) && chk (xt a) r
theorem chk_get : ∀ (l : List Nat) (a : B), chk a l = true → ∀ i x, l[i]? = some x → (xtn i a).toNat = x
  | [], _, _, i, x, h => by simp at h
  | y :: r, a, hc, 0, x, h => by
    simp only [chk, Bool.and_eq_true, beq_iff_eq] at hc
    simp at h
    rw [← h]; exact hc.1
  | y :: r, a, hc, i + 1, x, h => by
    simp only [chk, Bool.and_eq_true, beq_iff_eq] at hc
    have z := chk_get r (xt a) hc.2 i x (by simpa using h)
    rw [show i + 1 = i + 1 from rfl, xtn_add]
    exact z
theorem expT_ok : chk 1#8 expT = true := by decide +kernel
theorem expT_len : expT.length = 256 := by decide +kernel
theorem logT_len : logT.length = 256 := by decide +kernel
theorem E_get {i x : Nat} (h : expT[i]? = some x) : (E i).toNat = x := chk_get expT 1#8 expT_ok i x h
theorem E_255 : E 255 = 1#8 := by
  apply BitVec.eq_of_toNat_eq
  exact E_get (by decide +kernel)
theorem E_period (n : Nat) : E (n + 255) = E n := by
  have h : E (n + 255) = xtn n (E 255) := (xtn_E n 255).symm
  rw [h, E_255]; rfl
theorem E_mod (n : Nat) : E (n % 255) = E n := by
  have key : ∀ k m, E (m + 255 * k) = E m := by
    intro k
    induction k with
    | zero => intro m; rfl
    | succ k ih => intro m; rw [Nat.mul_succ, ← Nat.add_assoc, E_period, ih]
  have h := key (n / 255) (n % 255)
  rw [Nat.mod_add_div] at h
  exact h.symm
def L (a : B) : Nat := logT.getD a.toNat 0
def logOk (a : Nat) : Bool := (logT[a]?).any fun k => decide (k < 255) && expT[k]? == some a
theorem logs_ok : (List.range 255).all (fun a => logOk (a + 1)) = true := by decide +kernel
theorem L_spec {a : B} (h : a ≠ 0#8) : E (L a) = a ∧ L a < 255 := by
  have h0 : a.toNat ≠ 0 := fun e => h (BitVec.eq_of_toNat_eq (by simpa using e))
  have hl : a.toNat < 256 := a.isLt
  have q := List.all_eq_true.mp logs_ok (a.toNat - 1) (by simp; omega)
  rw [show a.toNat - 1 + 1 = a.toNat by omega] at q
  unfold logOk at q
  unfold L
  cases hk : logT[a.toNat]? with
  | none => rw [hk] at q; cases q
  | some k =>
    rw [hk] at q
    simp only [Option.any_some, Bool.and_eq_true, decide_eq_true_eq, beq_iff_eq] at q
    have e : logT.getD a.toNat 0 = k := by simp [List.getD, hk]
    rw [e]
    exact ⟨BitVec.eq_of_toNat_eq (E_get q.2), q.1⟩
theorem E_ne (n : Nat) : E n ≠ 0#8 := by
  intro h
  have h1 : E (255 * n) = 1#8 := by
    have := E_mod (255 * n)
    rw [Nat.mul_mod_right] at this
    rw [← this]; rfl
  have h2 : E (254 * n + n) = xtn (254 * n) (E n) := (xtn_E _ _).symm
  rw [h, xtn_zero, show 254 * n + n = 255 * n by omega, h1] at h2
  exact absurd h2 (by decide)
def mul (a b : B) : B := if a = 0#8 then 0#8 else xtn (L a) b
theorem zero_mul (b : B) : mul 0#8 b = 0#8 := by simp [mul]
theorem mul_zero (a : B) : mul a 0#8 = 0#8 := by unfold mul; split <;> simp [xtn_zero]
theorem mul_xor (a b c : B) : mul a (b ^^^ c) = mul a b ^^^ mul a c := by
  unfold mul; split
  · simp
  · exact xtn_xor b c _
theorem xtn_L (n : Nat) (b : B) : xtn (L (E n)) b = xtn n b := by
  by_cases hb : b = 0#8
  · rw [hb, xtn_zero, xtn_zero]
  · have q := (L_spec hb).1
    rw [← q, xtn_E, xtn_E]
    have e := (L_spec (E_ne n)).1
    rw [Nat.add_comm, ← xtn_E, e, xtn_E, Nat.add_comm]
theorem mul_E (m n : Nat) : mul (E m) (E n) = E (m + n) := by
  unfold mul
  rw [if_neg (E_ne m), xtn_L, xtn_E]
theorem ex_E {a : B} (h : a ≠ 0#8) : ∃ n, a = E n := ⟨L a, (L_spec h).1.symm⟩
theorem mul_comm (a b : B) : mul a b = mul b a := by
  by_cases ha : a = 0#8
  · rw [ha, zero_mul, mul_zero]
  · by_cases hb : b = 0#8
    · rw [hb, zero_mul, mul_zero]
    · obtain ⟨m, rfl⟩ := ex_E ha
      obtain ⟨n, rfl⟩ := ex_E hb
      rw [mul_E, mul_E, Nat.add_comm]
theorem mul_assoc (a b c : B) : mul (mul a b) c = mul a (mul b c) := by
  by_cases ha : a = 0#8
  · rw [ha, zero_mul, zero_mul, zero_mul]
  · by_cases hb : b = 0#8
    · rw [hb, mul_zero, zero_mul, mul_zero]
    · by_cases hc : c = 0#8
      · rw [hc, mul_zero, mul_zero, mul_zero]
      · obtain ⟨m, rfl⟩ := ex_E ha
        obtain ⟨n, rfl⟩ := ex_E hb
        obtain ⟨k, rfl⟩ := ex_E hc
        rw [mul_E, mul_E, mul_E, mul_E, Nat.add_assoc]
theorem xor_mul (a b c : B) : mul (a ^^^ b) c = mul a c ^^^ mul b c := by
  rw [mul_comm, mul_xor, mul_comm c a, mul_comm c b]
theorem one_mul (a : B) : mul 1#8 a = a := by
  by_cases ha : a = 0#8
  · rw [ha, mul_zero]
  · obtain ⟨m, rfl⟩ := ex_E ha
    have := mul_E 0 m
    rw [Nat.zero_add] at this
    exact this
theorem mul_one (a : B) : mul a 1#8 = a := by rw [mul_comm, one_mul]
theorem mul_ne {a b : B} (ha : a ≠ 0#8) (hb : b ≠ 0#8) : mul a b ≠ 0#8 := by
  obtain ⟨m, rfl⟩ := ex_E ha
  obtain ⟨n, rfl⟩ := ex_E hb
  rw [mul_E]; exact E_ne _
theorem xor_eq_zero {a b : B} (h : a ^^^ b = 0#8) : a = b := by
  have : (a ^^^ b) ^^^ b = 0#8 ^^^ b := by rw [h]
  simpa [BitVec.xor_assoc] using this
theorem xor_ne {a b : B} (h : a ≠ b) : a ^^^ b ≠ 0#8 := fun e => h (xor_eq_zero e)
end Mine
end
section
namespace Mine
theorem mul_left_comm (a b c : B) : mul a (mul b c) = mul b (mul a c) := by
  rw [← mul_assoc, mul_comm a b, mul_assoc]
def evA (x : B) : B → List B → B
  | acc, [] => acc
  | acc, c :: r => evA x (mul x acc ^^^ c) r
def ev (l : List B) (x : B) : B := evA x 0#8 l
theorem evA_append (x : B) : ∀ (l m : List B) (a : B), evA x a (l ++ m) = evA x (evA x a l) m
  | [], _, _ => rfl
  | c :: r, m, a => by rw [List.cons_append, evA, evA, evA_append x r m]
theorem xor4 (a b c d : B) : (a ^^^ b) ^^^ (c ^^^ d) = (a ^^^ c) ^^^ (b ^^^ d) := by ac_rfl
theorem evA_xor (x : B) : ∀ (l m : List B) (a b : B), l.length = m.length → evA x (a ^^^ b) (List.zipWith (fun u v => u ^^^ v) l m) = evA x a l ^^^ evA x b m
  | [], [], _, _, _ => rfl
  | [], _ :: _, _, _, h => by simp at h
  | _ :: _, [], _, _, h => by simp at h
  | c :: r, d :: t, a, b, h => by
    rw [List.zipWith_cons_cons, evA, evA, evA, mul_xor, xor4]
    exact evA_xor x r t _ _ (by simpa using h)
theorem evA_map (x s : B) : ∀ (l : List B) (a : B), evA x (mul s a) (l.map (mul s)) = mul s (evA x a l)
  | [], _ => rfl
  | c :: r, a => by
    rw [List.map_cons, evA, evA, mul_left_comm, ← mul_xor]
    exact evA_map x s r _
theorem ev_nil (x : B) : ev [] x = 0#8 := rfl
theorem ev_cons (x c : B) (l : List B) : ev (c :: l) x = evA x c l := by
  unfold ev; rw [evA, mul_zero, BitVec.zero_xor]
theorem ev_cons0 (x : B) (l : List B) : ev (0#8 :: l) x = ev l x := ev_cons x 0#8 l
theorem ev_snoc (x c : B) (l : List B) : ev (l ++ [c]) x = mul x (ev l x) ^^^ c := by
  unfold ev; rw [evA_append]; rfl
theorem ev_zeros (x : B) : ∀ n, ev (List.replicate n 0#8) x = 0#8
  | 0 => rfl
  | n + 1 => by rw [List.replicate_succ, ev_cons0, ev_zeros x n]
theorem ev_zeros_append (x : B) (l : List B) : ∀ n, ev (List.replicate n 0#8 ++ l) x = ev l x
  | 0 => rfl
  | n + 1 => by rw [List.replicate_succ, List.cons_append, ev_cons0, ev_zeros_append x l n]
theorem ev_xor (x : B) (l m : List B) (h : l.length = m.length) : ev (List.zipWith (fun u v => u ^^^ v) l m) x = ev l x ^^^ ev m x := by
  have := evA_xor x l m 0#8 0#8 h
  simpa [ev] using this
theorem ev_map (x s : B) (l : List B) : ev (l.map (mul s)) x = mul s (ev l x) := by
  have := evA_map x s l 0#8
  rw [mul_zero] at this
  exact this
/-- leading noughts are taken away, the last item stays -/
def strip : List B → List B
  | [] => []
  | [a] => [a]
  | a :: b :: r => if a = 0#8 then strip (b :: r) else a :: b :: r
theorem ev_strip (x : B) : ∀ l : List B, ev (strip l) x = ev l x
  | [] => rfl
  | [_] => rfl
  | a :: b :: r => by
    unfold strip
    split
    · rename_i h; rw [ev_strip x (b :: r), h, ev_cons0]
    · rfl
theorem strip_len : ∀ l : List B, (strip l).length ≤ l.length
  | [] => Nat.le_refl _
  | [_] => Nat.le_refl _
  | a :: b :: r => by
    unfold strip
    split
    · exact Nat.le_trans (strip_len (b :: r)) (by simp)
    · exact Nat.le_refl _
theorem strip_ne : ∀ l : List B, l ≠ [] → strip l ≠ []
  | [], h => absurd rfl h
  | [_], _ => by simp [strip]
  | a :: b :: r, _ => by
    unfold strip
    split
    · exact strip_ne (b :: r) (by simp)
    · simp
theorem strip_head : ∀ l : List B, l ≠ [] → (strip l).length = 1 ∨ ∃ a r, strip l = a :: r ∧ a ≠ 0#8
  | [], h => absurd rfl h
  | [_], _ => .inl rfl
  | a :: b :: r, _ => by
    unfold strip
    split
    · exact strip_head (b :: r) (by simp)
    · rename_i h; exact .inr ⟨a, b :: r, rfl, h⟩
theorem strip_id {a : B} {r : List B} (h : a ≠ 0#8) : strip (a :: r) = a :: r := by
  cases r with
  | nil => rfl
  | cons b r => unfold strip; rw [if_neg h]
theorem zip_step (s : B) : ∀ (l g : List B), List.zipWith (fun a o => a ^^^ mul o s) l g = List.zipWith (fun u v => u ^^^ v) (l.take g.length) ((g.map (mul s)).take l.length)
  | [], _ => by simp
  | _ :: _, [] => by simp
  | a :: l, o :: g => by
    simp only [List.zipWith_cons_cons, List.length_cons, List.take_succ_cons, List.map_cons, mul_comm o s]
    rw [zip_step s l g]
/-- one turn of the division keeps the value at a root of the divisor -/
theorem div_ev (x s : B) (l g : List B) (hg : ev g x = 0#8) (hl : g.length ≤ l.length) :
    ev (List.zipWith (fun a o => a ^^^ mul o s) l g ++ l.drop g.length) x = ev l x := by
  rw [zip_step]
  have h1 : (g.map (mul s)).take l.length = g.map (mul s) := List.take_of_length_le (by simpa using hl)
  rw [h1]
  have h2 : ev (List.zipWith (fun u v => u ^^^ v) (l.take g.length) (g.map (mul s))) x = ev (l.take g.length) x := by
    rw [ev_xor _ _ _ (by simp; omega), ev_map, hg, mul_zero, BitVec.xor_zero]
  have h3 : ev l x = evA x (ev (l.take g.length) x) (l.drop g.length) := by
    conv => lhs; rw [← List.take_append_drop g.length l]
    unfold ev; rw [evA_append]
  rw [h3, ← h2]
  unfold ev; rw [evA_append]
/-- the accumulators of a value's reckoning -/
def qs (x : B) : B → List B → List B
  | _, [] => []
  | a, c :: r => (mul x a ^^^ c) :: qs x (mul x a ^^^ c) r
theorem qs_len (x : B) : ∀ (l : List B) (a : B), (qs x a l).length = l.length
  | [], _ => rfl
  | c :: r, a => by rw [qs, List.length_cons, List.length_cons, qs_len x r]
theorem qs_last (x : B) : ∀ (l : List B) (a : B), (a :: qs x a l).getLast (by simp) = evA x a l
  | [], _ => rfl
  | c :: r, a => by
    have := qs_last x r (mul x a ^^^ c)
    simp only [qs, evA]
    rw [List.getLast_cons (by simp)]
    exact this
theorem qs_zero (x : B) : ∀ (l : List B) (a : B), a = 0#8 → (∀ b ∈ qs x a l, b = 0#8) → ∀ c ∈ l, c = 0#8
  | [], _, _, _, c, hc => by simp at hc
  | d :: r, a, ha, hb, c, hc => by
    have h1 : mul x a ^^^ d = 0#8 := hb _ (by simp [qs])
    have hd : d = 0#8 := by rw [ha, mul_zero, BitVec.zero_xor] at h1; exact h1
    rcases List.mem_cons.mp hc with e | hc
    · rw [e, hd]
    · exact qs_zero x r (mul x a ^^^ d) h1 (fun b hb' => hb b (by simp [qs, hb'])) c hc
theorem ev_qs (x x0 : B) : ∀ (l : List B) (p a : B), evA x (mul (x ^^^ x0) p ^^^ a) l = mul (x ^^^ x0) (evA x p (a :: qs x0 a l).dropLast) ^^^ evA x0 a l
  | [], p, a => rfl
  | c :: r, p, a => by
    have ih := ev_qs x x0 r (mul x p ^^^ a) (mul x0 a ^^^ c)
    have e : mul x (mul (x ^^^ x0) p ^^^ a) ^^^ c = mul (x ^^^ x0) (mul x p ^^^ a) ^^^ (mul x0 a ^^^ c) := by
      rw [mul_xor, mul_xor (x ^^^ x0), mul_left_comm x, xor_mul x x0 a]
      have : mul x a ^^^ mul x0 a ^^^ (mul x0 a ^^^ c) = (mul x0 a ^^^ mul x0 a) ^^^ (mul x a ^^^ c) := by ac_rfl
      rw [BitVec.xor_assoc (mul (x ^^^ x0) (mul x p)) (mul x a ^^^ mul x0 a), this, BitVec.xor_self, BitVec.zero_xor, BitVec.xor_assoc]
    rw [evA, e, ih]
    rfl
theorem roots (n : Nat) : ∀ (l xs : List B), l.length = n → xs.length = n → xs.Nodup → (∀ x ∈ xs, ev l x = 0#8) → ∀ c ∈ l, c = 0#8 := by
  induction n with
  | zero => intro l xs hl _ _ _ c hc; rw [List.length_eq_zero_iff.mp hl] at hc; simp at hc
  | succ n ih =>
    intro l xs hl hx hn hz
    match l, xs, hl, hx with
    | c :: r, x0 :: xs, hl, hx =>
      have hlen : r.length = n := by simpa using hl
      have hxlen : xs.length = n := by simpa using hx
      have h0 : evA x0 c r = 0#8 := by rw [← ev_cons]; exact hz x0 (by simp)
      have hq : ∀ x, ev (c :: r) x = mul (x ^^^ x0) (ev (c :: qs x0 c r).dropLast x) := by
        intro x
        have := ev_qs x x0 r 0#8 c
        rw [mul_zero, BitVec.zero_xor, h0, BitVec.xor_zero] at this
        rw [ev_cons, this]; rfl
      have hql : (c :: qs x0 c r).dropLast.length = n := by rw [List.length_dropLast, List.length_cons, qs_len]; omega
      have hall := ih (c :: qs x0 c r).dropLast xs hql hxlen (List.nodup_cons.mp hn).2 (fun x hx' => by
        have h1 := hz x (by simp [hx'])
        rw [hq x] at h1
        have hne : x ^^^ x0 ≠ 0#8 := xor_ne fun e => (List.nodup_cons.mp hn).1 (e ▸ hx')
        cases hd : decide (ev (c :: qs x0 c r).dropLast x = 0#8) with
        | true => exact of_decide_eq_true hd
        | false => exact absurd h1 (mul_ne hne (of_decide_eq_false hd)))
      have hb : ∀ b ∈ c :: qs x0 c r, b = 0#8 := by
        intro b hb
        have e : (c :: qs x0 c r) = (c :: qs x0 c r).dropLast ++ [(c :: qs x0 c r).getLast (by simp)] := (List.dropLast_concat_getLast (by simp)).symm
        rw [e] at hb
        rcases List.mem_append.mp hb with hb | hb
        · exact hall b hb
        · rw [List.mem_singleton.mp hb, qs_last]; exact h0
      intro d hd
      have hc0 := hb c (by simp)
      rcases List.mem_cons.mp hd with e | hd
      · rw [e, hc0]
      · exact qs_zero x0 r c hc0 (fun b hb' => hb b (by simp [hb'])) d hd
theorem same_of_roots {l m xs : List B} (hl : l.length = m.length) (hx : xs.length = m.length) (hn : xs.Nodup) (h : ∀ x ∈ xs, ev l x = ev m x) : l = m := by
  have z := roots m.length (List.zipWith (fun u v => u ^^^ v) l m) xs (by simp [hl]) hx hn (fun x hx => by rw [ev_xor _ _ _ hl, h x hx, BitVec.xor_self])
  apply List.ext_getElem hl
  intro i h1 h2
  have := z (l[i] ^^^ m[i]) (List.mem_iff_getElem.mpr ⟨i, by simp; omega, by simp⟩)
  exact xor_eq_zero this
end Mine
end
section
namespace Mine
theorem logs_back : (List.range 255).all (fun j => (expT[j]?).any fun x => logT[x]? == some j) = true := by decide +kernel
theorem L_E {j : Nat} (h : j < 255) : L (E j) = j := by
  have q := List.all_eq_true.mp logs_back j (by simpa using h)
  cases hx : expT[j]? with
  | none => rw [hx] at q; cases q
  | some x =>
    rw [hx] at q
    simp only [Option.any_some, beq_iff_eq] at q
    unfold L
    rw [E_get hx]
    simp [List.getD, q]
theorem E_inj {i j : Nat} (hi : i < 255) (hj : j < 255) (h : E i = E j) : i = j := by
  rw [← L_E hi, h, L_E hj]
def EZ (k : Int) : B := E (k % 255).toNat
theorem EZ_nat (n : Nat) : EZ (n : Int) = E n := by
  unfold EZ
  rw [show ((n : Int) % 255).toNat = n % 255 by omega, E_mod]
theorem EZ_add (a b : Int) : EZ (a + b) = mul (EZ a) (EZ b) := by
  unfold EZ
  rw [mul_E, ← E_mod ((a % 255).toNat + (b % 255).toNat)]
  congr 1; omega
theorem EZ_zero : EZ 0 = 1#8 := rfl
theorem EZ_neg (a : Int) : mul (EZ (-a)) (EZ a) = 1#8 := by
  rw [← EZ_add, show -a + a = 0 by omega, EZ_zero]
theorem EZ_L {a : B} (h : a ≠ 0#8) : EZ (L a : Int) = a := by rw [EZ_nat, (L_spec h).1]
def xsum (l : List Nat) (f : Nat → B) : B := l.foldr (fun p a => f p ^^^ a) 0#8
theorem xsum_nil (f : Nat → B) : xsum [] f = 0#8 := rfl
theorem xsum_cons (p : Nat) (l : List Nat) (f : Nat → B) : xsum (p :: l) f = f p ^^^ xsum l f := rfl
theorem xsum_append (f : Nat → B) : ∀ l m : List Nat, xsum (l ++ m) f = xsum l f ^^^ xsum m f
  | [], m => by rw [List.nil_append, xsum_nil, BitVec.zero_xor]
  | p :: l, m => by rw [List.cons_append, xsum_cons, xsum_cons, xsum_append f l m, BitVec.xor_assoc]
theorem xsum_perm (f : Nat → B) {l m : List Nat} (h : l.Perm m) : xsum l f = xsum m f := by
  unfold xsum
  refine List.Perm.foldr_eq' h (fun x _ y _ z => ?_) _
  ac_rfl
theorem xsum_congr {f g : Nat → B} : ∀ {l : List Nat}, (∀ p ∈ l, f p = g p) → xsum l f = xsum l g
  | [], _ => rfl
  | p :: l, h => by rw [xsum_cons, xsum_cons, h p (by simp), xsum_congr fun q hq => h q (by simp [hq])]
theorem xsum_zero {f : Nat → B} : ∀ {l : List Nat}, (∀ p ∈ l, f p = 0#8) → xsum l f = 0#8
  | [], _ => rfl
  | p :: l, h => by rw [xsum_cons, h p (by simp), xsum_zero fun q hq => h q (by simp [hq]), BitVec.xor_zero]
theorem xsum_xor (f g : Nat → B) : ∀ l : List Nat, xsum l (fun p => f p ^^^ g p) = xsum l f ^^^ xsum l g
  | [] => by rw [xsum_nil, xsum_nil, xsum_nil, BitVec.xor_zero]
  | p :: l => by rw [xsum_cons, xsum_cons, xsum_cons, xsum_xor f g l, xor4]
theorem mul_xsum (c : B) (f : Nat → B) : ∀ l : List Nat, mul c (xsum l f) = xsum l fun p => mul c (f p)
  | [] => by rw [xsum_nil, mul_zero]; rfl
  | p :: l => by rw [xsum_cons, xsum_cons, mul_xor, mul_xsum c f l]
theorem xsum_mul (c : B) (f : Nat → B) (l : List Nat) : mul (xsum l f) c = xsum l fun p => mul (f p) c := by
  rw [mul_comm, mul_xsum]; exact xsum_congr fun p _ => mul_comm _ _
theorem xsum_swap (f : Nat → Nat → B) (l : List Nat) : ∀ m : List Nat, (xsum m fun u => xsum l fun p => f p u) = xsum l fun p => xsum m fun u => f p u
  | [] => by rw [xsum_nil]; exact (xsum_zero fun _ _ => rfl).symm
  | u :: m => by
    rw [xsum_cons, xsum_swap f l m, ← xsum_xor]
    exact xsum_congr fun p _ => (xsum_cons u m _).symm
theorem xsum_one {f : Nat → B} {v : Nat} : ∀ {l : List Nat}, l.Nodup → v ∈ l → (∀ p ∈ l, p ≠ v → f p = 0#8) → xsum l f = f v
  | [], _, h, _ => by simp at h
  | p :: l, hn, hv, h => by
    rw [xsum_cons]
    by_cases e : p = v
    · subst e
      rw [xsum_zero fun q hq => h q (by simp [hq]) fun e => (List.nodup_cons.mp hn).1 (e ▸ hq), BitVec.xor_zero]
    · rw [h p (by simp) e, BitVec.zero_xor]
      refine xsum_one (List.nodup_cons.mp hn).2 ((List.mem_cons.mp hv).resolve_left fun q => e q.symm) fun q hq => h q (by simp [hq])
/-- functions that are polynomials of n coefficients -/
def Pl (n : Nat) (f : B → B) : Prop := ∃ l : List B, l.length = n ∧ ∀ x, f x = ev l x
theorem Pl.up {n : Nat} {f : B → B} : Pl n f → Pl (n + 1) f := fun ⟨l, h, e⟩ => ⟨0#8 :: l, by simp [h], fun x => by rw [e, ev_cons0]⟩
theorem Pl.ups {n : Nat} {f : B → B} (h : Pl n f) : ∀ k, Pl (n + k) f
  | 0 => h
  | k + 1 => (h.ups k).up
theorem Pl.le {n m : Nat} {f : B → B} (h : Pl n f) (hm : n ≤ m) : Pl m f := by
  have := h.ups (m - n)
  rwa [Nat.add_sub_cancel' hm] at this
theorem Pl.add {n : Nat} {f g : B → B} : Pl n f → Pl n g → Pl n fun x => f x ^^^ g x := fun ⟨l, h, e⟩ ⟨m, h', e'⟩ =>
  ⟨List.zipWith (fun u v => u ^^^ v) l m, by simp [h, h'], fun x => by show f x ^^^ g x = _; rw [ev_xor _ _ _ (h.trans h'.symm), e, e']⟩
theorem Pl.smul {n : Nat} {f : B → B} (c : B) : Pl n f → Pl n fun x => mul c (f x) := fun ⟨l, h, e⟩ => ⟨l.map (mul c), by simp [h], fun x => by show mul c (f x) = _; rw [ev_map, e]⟩
theorem Pl.zero (n : Nat) : Pl n fun _ => 0#8 := ⟨List.replicate n 0#8, by simp, fun x => (ev_zeros x n).symm⟩
theorem Pl.shift {n : Nat} {f : B → B} : Pl n f → Pl (n + 1) fun x => mul x (f x) := fun ⟨l, h, e⟩ => ⟨l ++ [0#8], by simp [h], fun x => by show mul x (f x) = _; rw [ev_snoc, e, BitVec.xor_zero]⟩
theorem Pl.lin {n : Nat} {f : B → B} (a : B) (h : Pl n f) : Pl (n + 1) fun x => mul (x ^^^ a) (f x) := by
  have := h.shift.add (h.smul a).up
  obtain ⟨l, hl, e⟩ := this
  exact ⟨l, hl, fun x => by show mul (x ^^^ a) (f x) = _; rw [xor_mul]; exact e x⟩
theorem Pl.xsum {n : Nat} {F : Nat → B → B} : ∀ {U : List Nat}, (∀ u ∈ U, Pl n (F u)) → Pl n fun x => Mine.xsum U fun u => F u x
  | [], _ => Pl.zero n
  | u :: U, h => (h u (by simp)).add (Pl.xsum fun v hv => h v (by simp [hv]))
def pw (x : B) : Nat → B
  | 0 => 1#8
  | j + 1 => mul x (pw x j)
theorem Pl.one : Pl 1 fun _ => 1#8 := ⟨[1#8], rfl, fun x => by rw [ev_cons]; rfl⟩
theorem Pl.pw : ∀ j, Pl (j + 1) fun x => Mine.pw x j
  | 0 => Pl.one
  | j + 1 => (Pl.pw j).shift
theorem pw_E (m : Nat) : ∀ j, pw (E m) j = E (m * j)
  | 0 => rfl
  | j + 1 => by rw [pw, pw_E m j, mul_E, Nat.mul_succ, Nat.add_comm]
def prodU (U : List Nat) (X : Nat → B) (x : B) : B := U.foldr (fun v a => mul (x ^^^ X v) a) 1#8
theorem Pl.prod (X : Nat → B) : ∀ U : List Nat, Pl (U.length + 1) (prodU U X)
  | [] => Pl.one
  | v :: U => (Pl.prod X U).lin (X v)
theorem prod_zero {X : Nat → B} {v : Nat} : ∀ {U : List Nat}, v ∈ U → prodU U X (X v) = 0#8
  | [], h => by simp at h
  | u :: U, h => by
    show mul (X v ^^^ X u) (prodU U X (X v)) = 0#8
    rcases List.mem_cons.mp h with e | h
    · rw [e, BitVec.xor_self, zero_mul]
    · rw [prod_zero h, mul_zero]
/-- the sum of the exponents is the product's -/
def reachN (X : Nat → B) (U : List Nat) (p : Nat) : Nat := ((U.filter (· != p)).map fun v => L (X p ^^^ X v)).sum
theorem prod_sum {X : Nat → B} {p : Nat} : ∀ {U : List Nat}, (∀ v ∈ U, X p ≠ X v) → EZ ((U.map fun v => L (X p ^^^ X v)).sum : Nat) = prodU U X (X p)
  | [], _ => rfl
  | v :: U, h => by
    rw [List.map_cons, List.sum_cons, Int.natCast_add, EZ_add, EZ_L (xor_ne (h v (by simp))), prod_sum fun u hu => h u (by simp [hu])]
    rfl
theorem prod_ne {X : Nat → B} {p : Nat} : ∀ {U : List Nat}, (∀ v ∈ U, X p ≠ X v) → prodU U X (X p) ≠ 0#8
  | [], _ => (by decide : (1#8 : B) ≠ 0#8)
  | v :: U, h => mul_ne (xor_ne (h v (by simp))) (prod_ne fun u hu => h u (by simp [hu]))
theorem prod_out {X : Nat → B} {x : B} {u : Nat} : ∀ {U : List Nat}, U.Nodup → u ∈ U → prodU U X x = mul (x ^^^ X u) (prodU (U.filter (· != u)) X x)
  | [], _, h => by simp at h
  | v :: U, hn, h => by
    show mul (x ^^^ X v) (prodU U X x) = _
    by_cases e : v = u
    · subst e
      have : (v :: U).filter (· != v) = U := by
        rw [List.filter_cons]
        simp only [bne_self_eq_false, Bool.false_eq_true, if_false]
        refine List.filter_eq_self.mpr fun w hw => ?_
        have : w ≠ v := fun q => (List.nodup_cons.mp hn).1 (q ▸ hw)
        simpa using this
      rw [this]
    · have hu : u ∈ U := (List.mem_cons.mp h).resolve_left fun q => e q.symm
      rw [List.filter_cons, if_pos (by simpa using e), prod_out (List.nodup_cons.mp hn).2 hu, mul_left_comm]
      rfl
theorem filter_len {u : Nat} : ∀ {U : List Nat}, U.Nodup → u ∈ U → (U.filter (· != u)).length + 1 = U.length
  | [], _, h => by simp at h
  | v :: U, hn, h => by
    rw [List.filter_cons]
    by_cases e : v = u
    · subst e
      have : U.filter (· != v) = U := by
        refine List.filter_eq_self.mpr fun w hw => ?_
        have : w ≠ v := fun q => (List.nodup_cons.mp hn).1 (q ▸ hw)
        simpa using this
      simp [this]
    · have hu : u ∈ U := (List.mem_cons.mp h).resolve_left fun q => e q.symm
      rw [if_pos (by simpa using e), List.length_cons, List.length_cons, filter_len (List.nodup_cons.mp hn).2 hu]
section
variable {X : Nat → B} {U : List Nat}
/-- the weight of node u at x: the other nodes' product, over its own -/
def wt (X : Nat → B) (U : List Nat) (u : Nat) (x : B) : B := mul (prodU (U.filter (· != u)) X x) (EZ (-(reachN X U u : Int)))
theorem wt_self (hi : ∀ u ∈ U, ∀ v ∈ U, X u = X v → u = v) {u : Nat} (hu : u ∈ U) : wt X U u (X u) = 1#8 := by
  unfold wt reachN
  rw [← prod_sum (U := U.filter (· != u)) (X := X) (p := u), mul_comm, EZ_neg]
  intro v hv e
  have hm := List.mem_filter.mp hv
  have := hi u hu v hm.1 e
  subst this
  simp at hm
theorem wt_other {u v : Nat} (hv : v ∈ U) (h : v ≠ u) : wt X U u (X v) = 0#8 := by
  unfold wt
  rw [prod_zero (List.mem_filter.mpr ⟨hv, by simpa using h⟩), zero_mul]
theorem wt_poly (hn : U.Nodup) {u : Nat} (hu : u ∈ U) : Pl U.length (wt X U u) := by
  have h := Pl.prod X (U.filter (· != u))
  rw [filter_len hn hu] at h
  obtain ⟨l, a, b⟩ := h.smul (EZ (-(reachN X U u : Int)))
  exact ⟨l, a, fun x => by unfold wt; rw [mul_comm]; exact b x⟩
theorem lagrange (hn : U.Nodup) (hi : ∀ u ∈ U, ∀ v ∈ U, X u = X v → u = v) {f : B → B} (hf : Pl U.length f) (x : B) : f x = xsum U fun u => mul (f (X u)) (wt X U u x) := by
  have hg : Pl U.length fun x => f x ^^^ xsum U fun u => mul (f (X u)) (wt X U u x) := hf.add (Pl.xsum fun u hu => (wt_poly hn hu).smul _)
  obtain ⟨l, hl, e⟩ := hg
  have hz := roots U.length l (U.map X) hl (by simp) (List.nodup_iff_pairwise_ne.mpr (List.pairwise_map.mpr (List.Pairwise.imp_of_mem (fun {a b} ha hb hab q => hab (hi a ha b hb q)) (List.nodup_iff_pairwise_ne.mp hn)))) (by
    intro y hy
    obtain ⟨v, hv, rfl⟩ := List.mem_map.mp hy
    rw [← e]
    show f (X v) ^^^ (xsum U fun u => mul (f (X u)) (wt X U u (X v))) = 0#8
    rw [xsum_one hn hv (fun u _ huv => by rw [wt_other hv (fun q => huv q.symm), mul_zero]), wt_self hi hv, mul_one, BitVec.xor_self])
  have h0 : ev l x = 0#8 := by
    have : l = List.replicate U.length 0#8 := List.eq_replicate_iff.mpr ⟨hl, hz⟩
    rw [this, ev_zeros]
  exact xor_eq_zero ((e x).trans h0)
/-- what the law puts at u for the known octet a at p -/
def part (X : Nat → B) (U : List Nat) (a : B) (p u : Nat) : B :=
  if a = 0#8 then 0#8 else EZ ((L a : Int) + (reachN X U p : Int) - (L (X p ^^^ X u) : Int) - (reachN X U u : Int))
theorem part_is (hn : U.Nodup) {a : B} {p u : Nat} (hu : u ∈ U) (hp : ∀ v ∈ U, X p ≠ X v) : part X U a p u = mul a (wt X U u (X p)) := by
  unfold part
  split
  · rename_i h; rw [h, zero_mul]
  · rename_i h
    have hpu : p ∉ U := fun q => hp p q rfl
    have hf : U.filter (· != p) = U := List.filter_eq_self.mpr fun w hw => by
      have : w ≠ p := fun q => hpu (q ▸ hw)
      simpa using this
    have h1 : EZ (reachN X U p : Int) = prodU U X (X p) := by
      unfold reachN; rw [hf]; exact prod_sum hp
    have h2 : EZ ((L a : Int) + (reachN X U p : Int) - (L (X p ^^^ X u) : Int) - (reachN X U u : Int)) = mul (mul a (mul (EZ (-(L (X p ^^^ X u) : Int))) (prodU U X (X p)))) (EZ (-(reachN X U u : Int))) := by
      rw [show (L a : Int) + (reachN X U p : Int) - (L (X p ^^^ X u) : Int) - (reachN X U u : Int) = ((L a : Int) + (-(L (X p ^^^ X u) : Int) + (reachN X U p : Int))) + -(reachN X U u : Int) by omega,
        EZ_add, EZ_add, EZ_add, EZ_L h, h1]
    have h3 : mul (EZ (-(L (X p ^^^ X u) : Int))) (prodU U X (X p)) = prodU (U.filter (· != u)) X (X p) := by
      rw [prod_out hn hu, ← mul_assoc]
      have := EZ_neg (L (X p ^^^ X u) : Int)
      rw [EZ_L (xor_ne (hp u hu))] at this
      rw [this, one_mul]
    rw [h2, h3, mul_assoc]; rfl
theorem synd {K : List Nat} {r : Nat → B} (hn : U.Nodup) (hi : ∀ u ∈ U, ∀ v ∈ U, X u = X v → u = v) (hK : ∀ p ∈ K, ∀ v ∈ U, X p ≠ X v)
    (hr : ∀ u ∈ U, r u = xsum K fun p => part X U (r p) p u) {j : Nat} (hj : j < U.length) :
    (xsum K fun p => mul (r p) (pw (X p) j)) ^^^ (xsum U fun u => mul (r u) (pw (X u) j)) = 0#8 := by
  have h1 : (xsum U fun u => mul (r u) (pw (X u) j)) = xsum U fun u => xsum K fun p => mul (r p) (mul (pw (X u) j) (wt X U u (X p))) := by
    refine xsum_congr fun u hu => ?_
    rw [hr u hu, xsum_mul]
    refine xsum_congr fun p hp => ?_
    rw [part_is hn hu (hK p hp), mul_assoc, mul_comm (wt X U u (X p))]
  rw [h1, xsum_swap (fun p u => mul (r p) (mul (pw (X u) j) (wt X U u (X p)))) K U, ← xsum_xor]
  refine xsum_zero fun p _ => ?_
  rw [← mul_xsum, ← lagrange hn hi ((Pl.pw j).le hj) (X p), BitVec.xor_self]
end
theorem evA_pw (x : B) : ∀ (r : List B) (a : B), evA x a r = mul a (pw x r.length) ^^^ ev r x
  | [], a => by rw [List.length_nil, pw, mul_one, ev_nil, BitVec.xor_zero]; rfl
  | c :: r, a => by
    rw [evA, evA_pw x r, List.length_cons, pw, ev_cons, evA_pw x r c, xor_mul, BitVec.xor_assoc, mul_comm x a, mul_assoc]
theorem ev_sum (x : B) : ∀ (l : List B), ev l x = xsum (List.range l.length) fun p => mul (l.getD p 0#8) (pw x (l.length - 1 - p))
  | [] => rfl
  | c :: r => by
    rw [ev_cons, evA_pw, ev_sum x r, List.length_cons, List.range_succ_eq_map, xsum_cons]
    congr 1
    unfold xsum
    rw [List.foldr_map]
    refine xsum_congr (l := List.range r.length) fun p hp => ?_
    have : r.length + 1 - 1 - (p + 1) = r.length - 1 - p := by omega
    show _ = mul ((c :: r).getD (p + 1) 0#8) (pw x (r.length + 1 - 1 - (p + 1)))
    rw [this]; rfl
end Mine
end
section
open PySem
namespace Mine
def toI (b : B) : Int := (b.toNat : Int)
theorem xorT : ((List.range 256).all fun a => (List.range 256).all fun b => (a ^^^ b) + (a &&& b) == (a ||| b)) = true := by decide +kernel
theorem xor_and_or {a b : Nat} (ha : a < 256) (hb : b < 256) : (a ^^^ b) + (a &&& b) = (a ||| b) := by
  have q := List.all_eq_true.mp (List.all_eq_true.mp xorT a (by simpa using ha)) b (by simpa using hb)
  simpa using q
theorem bitXor_toI (a b : B) : Builtin.bitXor (toI a) (toI b) = toI (a ^^^ b) := by
  have hx : 0 ≤ toI a := Int.natCast_nonneg _
  have hy : 0 ≤ toI b := Int.natCast_nonneg _
  have hn : ∀ z : Int, 0 ≤ z → ¬ (0 ≤ Builtin.bitNot z) := by intro z hz; unfold Builtin.bitNot; omega
  have hA : Builtin.bitAnd (toI a) (toI b) = ((a.toNat &&& b.toNat : Nat) : Int) := by
    unfold Builtin.bitAnd
    rw [decide_eq_true hx, decide_eq_true hy]
    rfl
  have hnn : ∀ z : Int, Builtin.bitNot (Builtin.bitNot z) = z := by intro z; unfold Builtin.bitNot; omega
  have hO : Builtin.bitOr (toI a) (toI b) = ((a.toNat ||| b.toNat : Nat) : Int) := by
    unfold Builtin.bitOr Builtin.bitAnd
    rw [decide_eq_false (hn _ hx), decide_eq_false (hn _ hy)]
    dsimp only
    rw [hnn, hnn, hnn]
    rfl
  unfold Builtin.bitXor
  rw [hA, hO]
  unfold toI
  rw [BitVec.toNat_xor, ← xor_and_or a.isLt b.isLt]
  omega
def logI (n : Int) : Int := (logT.getD n.toNat 0 : Nat)
def expI (n : Int) : Int := (expT.getD (n % 255).toNat 0 : Nat)
theorem logI_toI (b : B) : logI (toI b) = (L b : Int) := rfl
theorem expI_toI (n : Int) : expI n = toI (EZ n) := by
  have hl : (n % 255).toNat < expT.length := by rw [expT_len]; omega
  unfold expI toI EZ
  rw [List.getD_eq_getElem?_getD, List.getElem?_eq_getElem hl, E_get (List.getElem?_eq_getElem hl)]
  rfl
/-- one item of a turn of the division, as the program reckons it -/
theorem elem_toI {a o s g : B} (ho : o ≠ 0#8) (hs : s ≠ 0#8) (hg : g = 1#8) : Builtin.bitXor (toI a) (expI (logI (toI o) + (logI (toI s) - logI (toI g)))) = toI (a ^^^ mul o s) := by
  subst hg
  have h1 : (L (1#8 : B) : Int) = 0 := by decide +kernel
  rw [expI_toI, logI_toI, logI_toI, logI_toI, h1, Int.sub_zero, EZ_add, EZ_L ho, EZ_L hs, bitXor_toI]
end Mine
end
section
open PySem PySem.W PyProof.Rows PySem.Spec PySem.Calls
set_option Elab.async false
set_option maxRecDepth 100000
set_option maxHeartbeats 0
namespace Mine
def logL : List Int := logT.map Int.ofNat
def expL : List Int := expT.map Int.ofNat
theorem log_in {w : World} {h : Heap} (x : (hd.heap_39 w.params).In h) : KTD.Nums h 80 logL := kt_nums_in x (by kernel_rfl)
theorem exp_in {w : World} {h : Heap} (x : (hd.heap_39 w.params).In h) : KTD.Nums h 79 expL := kt_nums_in x (by kernel_rfl)
theorem logL_get {k : Int} (h0 : 0 ≤ k) (h1 : k < 256) : logL[k.toNat]? = some (logI k) := by
  have hl : k.toNat < logT.length := by rw [logT_len]; omega
  unfold logL logI
  rw [List.getElem?_map, List.getD_eq_getElem?_getD, List.getElem?_eq_getElem hl]; rfl
theorem expL_get {k : Int} (h0 : 0 ≤ k) (h1 : k < 255) : expL[k.toNat]? = some (expI k) := by
  have hl : k.toNat < expT.length := by rw [expT_len]; omega
  unfold expL expI
  rw [List.getElem?_map, List.getD_eq_getElem?_getD, Int.emod_eq_of_lt h0 (by omega), List.getElem?_eq_getElem hl]; rfl
theorem tab_item {prog : Program} {w : World} {A : Around} {E : Value → Shared → Prop} {s : Shared} {h₀ : Heap} {L l : Addr} {m : Str → Option Value} {ns : List Int} {value slice : PySem.Expr} {k x : Int} {u : Tok} {Q : Value → Shared → Prop}
    (F : Fr h₀ L s.heap m) (W : KTD.Nums h₀ l ns) (h0 : 0 ≤ k) (hhi : k < 2 ^ 63) (hx : ns[k.toNat]? = some x) (h : ∀ t, Q (.int x t) s)
    (hs : subscripted slice false (.ref l) (.int k u) = operate [.ref l, .int k u] (getItem (.ref l) (.int k u)) := by with_unfolding_all rfl) :
    wpAny (model prog w) A (subscriptTail value slice (.ref l) (.int k u)) Q E s := by
  obtain ⟨vs, hl, hi⟩ := W.keep F.keep
  obtain ⟨t, ht⟩ := hi.get k.toNat x hx
  exact tail_any hl.typeIs slot_list_getitem.lookup (wpAny_getItem_list hl h0 hhi (by simpa using ht) (h t)) hs
local macro_rules | `(tactic| walk_at "subscriptTail") => `(tactic| (k_here; (with_reducible show wpAny _ _ (subscriptTail _ _ (Value.ref 80) (Value.int _ _)) _ _ _); (refine' tab_item ?F (log_in ?X) ?a ?b (logL_get ?c ?d) ?_ ?s; (case F => k_asm); (case X => k_asm); (case a => omega); (case b => omega); (case c => omega); (case d => omega); (case s => with_unfolding_all rfl); k_whole); intro _))
local macro_rules | `(tactic| walk_at "subscriptTail") => `(tactic| (k_here; (with_reducible show wpAny _ _ (subscriptTail _ _ (Value.ref 79) (Value.int _ _)) _ _ _); (refine' tab_item ?F (exp_in ?X) ?a ?b (expL_get ?c ?d) ?_ ?s; (case F => k_asm); (case X => k_asm); (case a => exact fmod_lo _ (by omega)); (case b => exact Int.lt_trans (fmod_hi _ (by omega)) (by decide)); (case c => exact fmod_lo _ (by omega)); (case d => exact fmod_hi _ (by omega)); (case s => with_unfolding_all rfl); k_whole); intro _))
theorem glog_c : ∀ {w : World} {loose : List Str} {mean : ExcName → Option Value} {mg mb : Str → Option Value} {p : Program} {dp un : Nat} {gd : Option (List Code)} {cn : Str} {cs : Scope} {a : Addr} {ccd : Value} {cl : List (Str × Addr)} {outer : List Env} {A₀ : Around} {base h₀ : Heap} {L : Addr} {m : Str → Option Value} {news : List (Addr × Obj)} {s : Shared} {Q E : Value → Shared → Prop} {n : Int} {t : Tok},
  Below A₀ base outer h₀ → Fr h₀ L s.heap m → (hd.heap_39 w.params).In h₀ → News h₀ L s.heap news → Top p loose mean mg mb h₀ → cs.kind = .function → dp + 1 < recursionLimit → un + 8 < cLine → 1 ≤ n → n ≤ 255 →
  (∀ t' h' tk', Fr h₀ L h' m → News h₀ L h' news → Q (.int (logI n) t') { s with heap := h', toks := tk' }) →
  wpAny (model PySem.Challenge.rw_bq0025_01.row.prog w) (ktrTop dp un gd cn cs L a ccd cl outer) (call (.ref 249) [.int n t]) Q E s := by
  k_with_none
  w_top off
  k_fill
  intro w loose mean mg mb p dp un gd cn cs a ccd cl outer A₀ base h₀ L m news s Q E n t B F X N T hk hdp hun h1 h2 hret
  refine wpAny_call ?_
  k_dflt cell_enter
  k_steps
  all_goals exact hret _ _ _ (by assumption) (by assumption)
theorem expI_fmod (n : Int) : expI (n.fmod 255) = expI n := by
  unfold expI
  rw [Int.fmod_eq_emod_of_nonneg n (by omega), Int.emod_emod]
theorem gexp_c : ∀ {w : World} {loose : List Str} {mean : ExcName → Option Value} {mg mb : Str → Option Value} {p : Program} {dp un : Nat} {gd : Option (List Code)} {cn : Str} {cs : Scope} {a : Addr} {ccd : Value} {cl : List (Str × Addr)} {outer : List Env} {A₀ : Around} {base h₀ : Heap} {L : Addr} {m : Str → Option Value} {news : List (Addr × Obj)} {s : Shared} {Q E : Value → Shared → Prop} {n : Int} {t : Tok},
  Below A₀ base outer h₀ → Fr h₀ L s.heap m → (hd.heap_39 w.params).In h₀ → News h₀ L s.heap news → Top p loose mean mg mb h₀ → cs.kind = .function → dp + 1 < recursionLimit → un + 8 < cLine →
  (∀ t' h' tk', Fr h₀ L h' m → News h₀ L h' news → Q (.int (expI n) t') { s with heap := h', toks := tk' }) →
  wpAny (model PySem.Challenge.rw_bq0025_01.row.prog w) (ktrTop dp un gd cn cs L a ccd cl outer) (call (.ref 256) [.int n t]) Q E s := by
  k_with_none
  w_top off
  k_fill
  intro w loose mean mg mb p dp un gd cn cs a ccd cl outer A₀ base h₀ L m news s Q E n t B F X N T hk hdp hun hret
  refine wpAny_call ?_
  k_dflt cell_enter
  k_steps
  all_goals (rw [expI_fmod]; exact hret _ _ _ (by assumption) (by assumption))
end Mine
end
section
open PySem PySem.W PyProof.Rows PySem.Spec PySem.Calls PyProof.V
set_option Elab.async false
set_option maxRecDepth 100000
namespace Mine
def Halt (p : Prop) : Prop := p
theorem Halt.go {p : Prop} (h : Halt p) : p := h
theorem my_all {d d' : Addr} {l : List (Addr × Obj)} (h : AllLt d l) (hd : @LE.le Nat _ d d') : ∀ p ∈ l, p.1 ≠ d' := fun p hp => Nat.ne_of_lt (Nat.lt_of_lt_of_le (kst_ltOf h p hp) hd)
section
variable {prog : Program} {w : World} {A : Around} {E : Value → Shared → Prop} {s : Shared} {env : Env} {h₀ : Heap} {x : Str} {body : List Stmt} {Q : Flow → Shared → Prop}
theorem my_range {r : Addr} {a₀ b₀ : Int} {t₀ u₀ v₀ : Tok} {n : Nat} {m₀ : Str → Option Value} {news : List (Addr × Obj)} (J : Nat → (Str → Option Value) → List (Addr × Obj) → Prop)
    (hh : A.handled = none) (hr : IsRange s.heap r a₀ b₀ 1 t₀ u₀ v₀) (hsmall : Builtin.Range.small a₀ b₀ 1 = true) (hn : Builtin.Range.rangeSize a₀ b₀ 1 = (n : Int)) (F : Fr h₀ env.locals s.heap m₀) (N : News h₀ env.locals s.heap news) (hj : J 0 m₀ news)
    (turn : ∀ i t m₁ news₁ h tk own, i < n → news₁.map (·.1) = news.map (·.1) → OwnOff own (news.map (·.1)) → J i m₁ news₁ → Fr h₀ env.locals h (fun y => if y = x then some (.int (a₀ + (i : Int)) t) else m₁ y) → News h₀ env.locals h (news₁ ++ own) →
      wpAny (model prog w) A (execs body env) (InvPostN h₀ env.locals (J (i + 1)) own (news.map (·.1)) { s with heap := h, toks := tk } Q) E { s with heap := h, toks := tk })
    (done : ∀ m₁ news₁ h tk, J n m₁ news₁ → Fr h₀ env.locals h m₁ → News h₀ env.locals h news₁ → Q .next { s with heap := h, toks := tk }) :
    wpAny (model prog w) A (pyIter (.ref r)) (fun it s₂ => LoopAtV prog w A h₀ env x body Q E it s₂) E s := by
  refine wpAny_pyIter_range hr hsmall ?_
  have W : Walks prog w A s.heap.objs.size [s.heap.objs.size] [s.heap.objs.size] n (fun i v => i < n ∧ ∃ t, v = .int (a₀ + i * 1) t)
      (fun i h => IsRangeIter h s.heap.objs.size (a₀ + (i : Nat) * 1) ((n : Int) - (i : Nat)) 1) := (Walks.range hh _ a₀ 1 n).bound
  refine loop_invN J W ?_ ?_ ?_ ?_ (by show IsRangeIter _ _ _ _ _; rw [hn]; simpa using Heap.get?_push_size _ rfl) (F.push _) (fun p hp => ⟨Heap.get?_push_of_some _ (N p hp).1, (N p hp).2⟩) hj ?_ ?_
  · intro hm
    exact absurd F.ns.lt ((List.mem_singleton.mp hm) ▸ Nat.lt_irrefl _)
  · intro b hb
    rw [List.mem_singleton.mp hb]
    exact next_is_new F
  · intro p hp hI
    exact absurd (Heap.lt_size (N p hp).1) ((List.mem_singleton.mp hI) ▸ Nat.lt_irrefl _)
  · intro p hp hI
    exact absurd (Heap.lt_size (N p hp).1) ((List.mem_singleton.mp hI) ▸ Nat.lt_irrefl _)
  · rintro i v m₁ nx h tk own hi ⟨_, t, rfl⟩ ha hoff hj' F₁ N₁
    have e1 : a₀ + (i : Int) * 1 = a₀ + (i : Int) := by omega
    rw [e1] at F₁
    exact turn i t m₁ nx h tk own hi ha hoff hj' F₁ N₁
  · exact done
/-- a turn's end of a loop that stores nothing but its own name: by break, or on -/
def BrkPost (h₀ : Heap) (L : Addr) (x : Str) (m₀ : Str → Option Value) (news own : List (Addr × Obj)) (i : Nat) (G B : Prop) (s₁ : Shared) (Q : Flow → Shared → Prop) (f : Flow) (s₂ : Shared) : Prop :=
  match f with
  | .ret v => Q (.ret v) s₂
  | .brk => InvEndN h₀ L (fun m' nx => nx = news ∧ (∃ t', m' = fun y => if y = x then some (.int (i : Int) t') else m₀ y) ∧ B) own (news.map (·.1)) s₁ s₂
  | _ => InvEndN h₀ L (fun m' nx => nx = news ∧ (∃ t', m' = fun y => if y = x then some (.int (i : Int) t') else m₀ y) ∧ G) own (news.map (·.1)) s₁ s₂
/-- a loop from nought that stores nothing but its own name, and may break -/
theorem rng_brk {r : Addr} {t₀ u₀ v₀ : Tok} {n : Nat} {m₀ : Str → Option Value} {news : List (Addr × Obj)} (G B : Nat → Prop)
    (hh : A.handled = none) (hr : IsRange s.heap r 0 (n : Int) 1 t₀ u₀ v₀) (hn0 : 0 < n) (hnb : n < 2 ^ 20) (F : Fr h₀ env.locals s.heap m₀) (N : News h₀ env.locals s.heap news)
    (turn : ∀ (i : Nat) t h tk own, i < n → (∀ j, j < i → G j) → OwnOff own (news.map (·.1)) → Fr h₀ env.locals h (fun y => if y = x then some (.int (i : Int) t) else m₀ y) → News h₀ env.locals h (news ++ own) →
      wpAny (model prog w) A (execs body env) (BrkPost h₀ env.locals x m₀ news own i (G i) (B i) { s with heap := h, toks := tk } Q) E { s with heap := h, toks := tk })
    (done : ∀ (i : Nat) t h tk, i < n → (∀ j, j < i → G j) → (B i ∨ (i = n - 1 ∧ G i)) → Fr h₀ env.locals h (fun y => if y = x then some (.int (i : Int) t) else m₀ y) → News h₀ env.locals h news → Q .next { s with heap := h, toks := tk }) :
    wpAny (model prog w) A (pyIter (.ref r)) (fun it s₂ => LoopAtV prog w A h₀ env x body Q E it s₂) E s := by
  have hsz : Builtin.Range.rangeSize 0 (n : Int) 1 = (n : Int) := by
    have := rangeSize_nat (0 : Int) n
    simpa using this
  have hs : Builtin.Range.small 0 (n : Int) 1 = true := small_one (by omega) (by omega) (by omega) (by omega)
  refine my_range (fun i m nx => nx = news ∧ (∀ j, j < i → G j) ∧ ((i = 0 ∧ m = m₀) ∨ (0 < i ∧ ∃ t, m = fun y => if y = x then some (.int ((i - 1 : Nat) : Int) t) else m₀ y))) hh hr hs hsz F N ⟨rfl, fun _ h => absurd h (Nat.not_lt_zero _), .inl ⟨rfl, rfl⟩⟩ ?_ ?_
  · rintro i t m₁ nx h tk own hi _ hoff ⟨rfl, hG, hm⟩ F₁ N₁
    have em : (fun y => if y = x then some (Value.int (0 + (i : Int)) t) else m₁ y) = fun y => if y = x then some (Value.int (i : Int) t) else m₀ y := by
      rw [Int.zero_add]
      rcases hm with ⟨_, rfl⟩ | ⟨_, t', rfl⟩
      · rfl
      · funext y
        by_cases hy : y = x <;> simp [hy]
    rw [em] at F₁
    refine wpAny_mono (turn i t h tk own hi hG hoff F₁ N₁) (fun f s₂ p => ?_) fun _ _ e => e
    have up : InvEndN h₀ env.locals (fun m' nx' => nx' = nx ∧ (∃ t', m' = fun y => if y = x then some (.int (i : Int) t') else m₀ y) ∧ G i) own (nx.map (·.1)) { s with heap := h, toks := tk } s₂ →
        InvEndN h₀ env.locals (fun m nx' => nx' = nx ∧ (∀ j, j < i + 1 → G j) ∧ ((i + 1 = 0 ∧ m = m₀) ∨ (0 < i + 1 ∧ ∃ t, m = fun y => if y = x then some (.int ((i + 1 - 1 : Nat) : Int) t) else m₀ y))) own (nx.map (·.1)) { s with heap := h, toks := tk } s₂ := by
      rintro ⟨h', tk', m', news', nx', e, F', N', hn', ho', ha, e1, ⟨t', e2⟩, hg⟩
      refine ⟨h', tk', m', news', nx', e, F', N', hn', ho', ha, e1, fun j hj => ?_, .inr ⟨Nat.succ_pos _, t', e2⟩⟩
      rcases Nat.lt_succ_iff_lt_or_eq.mp hj with h | h
      · exact hG j h
      · exact h ▸ hg
    cases f with
    | ret v => exact p
    | brk =>
      obtain ⟨h', tk', m', news', nx', rfl, F', N', hn', _, _, rfl, ⟨t', rfl⟩, hb⟩ := p
      exact done i t' h' tk' hi hG (.inl hb) F' fun q hq => N' q (hn' q hq)
    | next => exact up p
    | cont => exact up p
  · rintro m₁ nx h tk ⟨rfl, hG, hm⟩ F₁ N₁
    rcases hm with ⟨h0, _⟩ | ⟨_, t, rfl⟩
    · omega
    · exact done (n - 1) t h tk (by omega) (fun j hj => hG j (by omega)) (.inr ⟨rfl, hG _ (by omega)⟩) F₁ N₁
end
end Mine
end
section
open PySem PySem.W PyProof.Rows PySem.Spec PySem.Calls
set_option Elab.async false
set_option maxRecDepth 100000
set_option maxHeartbeats 0
namespace Mine
local macro_rules | `(tactic| k_room) => `(tactic| ktr_room)
local macro_rules | `(tactic| k_units) => `(tactic| ktr_units)
local macro_rules | `(tactic| kmk_nums) => `(tactic| ((with_reducible show IntsAre (slicePick _ (some _) none none).toList _); exact kmk_from (by l_ints) (by omega)))
theorem getD_toI (bs : List B) (i : Nat) : (bs.map toI).getD i 0 = toI (bs.getD i 0#8) := by
  rw [List.getD_eq_getElem?_getD, List.getElem?_map, List.getD_eq_getElem?_getD]
  cases bs[i]? <;> rfl
theorem toI_zero {b : B} : toI b = 0 ↔ b = 0#8 := by
  unfold toI
  constructor
  · intro h; apply BitVec.eq_of_toNat_eq; simpa using h
  · intro h; rw [h]; rfl
theorem strip_drop : ∀ (bs : List B) (i : Nat), i < bs.length → (∀ j, j < i → bs.getD j 0#8 = 0#8) → (bs.getD i 0#8 ≠ 0#8 ∨ i = bs.length - 1) → bs.drop i = strip bs
  | [], i, h, _, _ => by simp at h
  | [_], 0, _, _, _ => rfl
  | [_], i + 1, h, _, _ => by simp at h
  | a :: b :: r, 0, _, _, h => by
    have ha : a ≠ 0#8 := by
      rcases h with h | h
      · exact h
      · simp at h
    unfold strip; rw [if_neg ha]; rfl
  | a :: b :: r, i + 1, h, hz, hb => by
    have ha : a = 0#8 := hz 0 (by omega)
    unfold strip; rw [if_pos ha]
    exact strip_drop (b :: r) i (by simpa using h) (fun j hj => hz (j + 1) (by omega)) (hb.imp (fun q => q) fun q => by simp at q ⊢; omega)
theorem flat_zeros (n : Nat) : (List.replicate n [(0 : Int)]).flatten = (List.replicate n 0#8).map toI := by
  rw [List.map_replicate]
  induction n with
  | zero => rfl
  | succ n ih => rw [List.replicate_succ, List.flatten_cons, ih, List.replicate_succ]; rfl
theorem strip_ints {us : List Value} {bs : List B} {i sh : Nat} (hi : IntsAre us (List.drop ((i : Int)).toNat (bs.map toI) ++ (List.replicate ((sh : Int)).toNat [0]).flatten))
    (h1 : i < (bs.map toI).length) (h2 : ∀ j, j < i → (bs.map toI).getD j 0 = 0) (h3 : (bs.map toI).getD i 0 ≠ 0 ∨ i = (bs.map toI).length - 1 ∧ (bs.map toI).getD i 0 = 0) :
    IntsAre us ((strip bs ++ List.replicate sh 0#8).map toI) := by
  simp only [getD_toI, toI_zero, List.length_map, ne_eq] at h1 h2 h3
  rw [Int.toNat_natCast, Int.toNat_natCast, flat_zeros, ← List.map_drop, ← List.map_append, strip_drop bs i h1 h2 (h3.imp id And.left)] at hi
  exact hi
theorem poly_c : ∀ {w : World} {loose : List Str} {mean : ExcName → Option Value} {mg mb : Str → Option Value} {p : Program} {dp un : Nat} {gd : Option (List Code)} {cn : Str} {cs : Scope} {a : Addr} {ccd : Value} {cl : List (Str × Addr)} {outer : List Env} {A₀ : Around} {base h₀ : Heap} {L : Addr} {m : Str → Option Value} {news : List (Addr × Obj)} {s : Shared} {Q E : Value → Shared → Prop} {nl : Addr} {vs : List Value} {bs : List B} {e : Nat} {sh : Nat} {t : Tok},
  Below A₀ base outer h₀ → Fr h₀ L s.heap m → (hd.heap_39 w.params).In h₀ → News h₀ L s.heap ((nl, listOf vs.toArray e) :: news) → Top p loose mean mg mb h₀ → cs.kind = .function → dp + 2 < recursionLimit → un + 16 < cLine → IntsAre vs (bs.map toI) → 0 < bs.length → bs.length ≤ 64 → sh ≤ 64 → (∀ p ∈ news, p.1 ≠ nl) →
  (∀ x dx l tt us h' tk', Fr h₀ L h' m → News h₀ L h' ((l, listOf us.toArray 0) :: (x, instObj 306 dx) :: (dx, dictOf [⟨PyData.keyHash w.params (Str.ofString "num"), .str (Str.ofString "num") tt, .ref l⟩] 1) :: (nl, listOf vs.toArray e) :: news) →
    IntsAre us ((strip bs ++ List.replicate sh 0#8).map toI) → (x < l ∧ dx < x ∧ nl < dx ∧ AllLt dx news) → Q (.ref x) { s with heap := h', toks := tk' }) →
  wpAny (model PySem.Challenge.rw_bq0025_01.row.prog w) (ktrTop dp un gd cn cs L a ccd cl outer) (call (.ref 306) [.ref nl, .int sh t]) Q E s := by
  k_with_none
  w_top off
  k_fill
  intro w loose mean mg mb p dp un gd cn cs a ccd cl outer A₀ base h₀ L m news s Q E nl vs bs e sh t B F X N T hk hdp hun hi hne hle hsh hoff hret
  k_dflt (refine' call_cls ?k1 ?k2 ?k3 ?k4 ?k5 ?k6 ?_; (case k1 => k_asm); (case k2 => k_asm); (case k3 => k_asm); (case k4 => k_is); (case k5 => k_is); (case k6 => k_is); k_whole; intro x' d' h' F' N' l1 l2; (try k_lt l1); (try k_lt2 l2); (try k_sweep); cell_enter)
  have hle1 : 0 < (bs.map toI).length := by simpa using hne
  have hle2 : (bs.map toI).length ≤ 64 := by simpa using hle
  k_with "pyIter ref" => ((with_reducible show wpAny _ _ (pyIter (Value.ref _)) (fun it s₂ => LoopAtV _ _ _ _ _ _ _ _ _ it s₂) _ _); (rename Fr _ _ _ _ => lF'); (rename News _ _ _ _ => lN'); (rename IsRange _ _ _ _ _ _ _ _ => rgX); (with_unfolding_all refine' rng_brk (fun i => (bs.map toI).getD i 0 = 0) (fun i => (bs.map toI).getD i 0 ≠ 0) (by rfl) rgX (by omega) (by omega) lF' lN' (fun i' t' h' tk' own' hlt' hG' hoff' F' N' => ?_) (fun i' t' h' tk' hlt' hG' hB' F' N' => ?_)); (all_goals (try clear lF' lN')); (all_goals (try k_fold)))
  k_with "BrkPost" => (dsimp only [BrkPost])
  k_with "InvEndN" => (refine InvEndN.intro (by assumption) (by assumption) ⟨rfl, ⟨_, rfl⟩, by assumption⟩ rfl (fun p hp => List.mem_append_left _ hp) (fun p hp => List.mem_append_right _ hp))
  k_steps
  exact hret _ _ _ _ _ _ _ (by assumption) (cb_drop (by assumption) (by kcj_in)) (strip_ints (by assumption) hlt' hG' hB') ⟨ltN (by omega), l2, l1.1, l1.2⟩
end Mine
end
section
open PySem PySem.W PyProof.Rows PySem.Spec PySem.Calls PyProof.V PyProof.Rows.LCg PyProof.Rows.LCp
set_option Elab.async false
set_option maxRecDepth 100000
set_option maxHeartbeats 4000000
namespace Mine
section
variable {prog : Program} {w : World} {A : Around} {E : Value → Shared → Prop} {s : Shared} {h₀ : Heap} {L : Addr} {m : Str → Option Value} {env : Env}
/-- an element is reckoned: the ledger stands as it stood, the value is such -/
def ElPost (h₀ : Heap) (L : Addr) (m : Str → Option Value) (news : List (Addr × Obj)) (s₁ : Shared) (G : Value → Prop) (y : Value) (s' : Shared) : Prop :=
  ∃ h' tk', s' = { s₁ with heap := h', toks := tk' } ∧ Fr h₀ L h' m ∧ News h₀ L h' news ∧ G y
theorem ElPost.intro {h₀ : Heap} {L : Addr} {m : Str → Option Value} {news : List (Addr × Obj)} {s₁ : Shared} {G : Value → Prop} {y : Value} {h' : Heap} {tk' : Nat} (F : Fr h₀ L h' m) (N : News h₀ L h' news) (g : G y) :
    ElPost h₀ L m news s₁ G y { s₁ with heap := h', toks := tk' } := ⟨h', tk', rfl, F, N, g⟩
/-- the zip object and what hangs on it, laid above what stood -/
structure ZipLaid (h₀ : Heap) (L : Addr) (h : Heap) (news : List (Addr × Obj)) (z TI TO i1 i2 l1 l2 : Addr) : Prop where
  oz : IsZip h z TI TO .none
  oTI : IsPair h TI (.ref i1) (.ref i2)
  oTO : IsPair h TO .none .none
  o1 : h.IsListIter i1 l1 0
  o2 : h.IsListIter i2 l2 0
  ap : ZipApart z TI TO i1 i2 l1 l2
  new : ∀ b ∈ [z, TO, i1, i2, TI], h₀.get? b = none ∧ b ≠ L ∧ ∀ p ∈ news, p.1 ≠ b
theorem block_Z {elt iter : Expr} {x x₂ : Str} {px px₂ tp : Pos} {tk} {scope : Scope} {cl : List (Str × Addr)} {pos : Pos} {s₂ : Shared} {z TI TO i1 i2 l1 l2 : Addr} {xs zs : Array Value} {e1 e2 : Nat} {news : List (Addr × Obj)}
    {RR : Value → Addr → Result → Shared → Prop} (G : Nat → Value → Prop)
    (hh : A.handled = none) (Z : ZipLaid h₀ L s₂.heap news z TI TO i1 i2 l1 l2) (hsz : xs.size ≤ sizeLine) (hl1 : (l1, W.listOf xs e1) ∈ news) (hl2 : (l2, W.listOf zs e2) ∈ news)
    (hcell : ∀ y ∈ scope.names, y.2 ≠ .cell) (hkind : scope.kind = .function) (hx : scope.names.lookup x = some .local) (hx₂ : scope.names.lookup x₂ = some .local) (hxx : x ≠ x₂)
    (F : Fr h₀ L s₂.heap m) (N : News h₀ L s₂.heap news)
    (turn : ∀ i v₁ v₂ oz oT o1 o2 oI C oC Dd m₂ ys h tk (E' : Value → Shared → Prop), xs[i]? = some v₁ → zs[i]? = some v₂ → NsObj oC m₂ → m₂ x = some v₁ → m₂ x₂ = some v₂ → Fr h₀ L h m →
      News h₀ L h ((z, oz) :: (TO, oT) :: (i1, o1) :: (i2, o2) :: (TI, oI) :: (C, oC) :: (Dd, lst ys) :: news) →
      wpAny (model prog w) A (eval elt (compEnvC scope cl C env)) (ElPost h₀ L m ((z, oz) :: (TO, oT) :: (i1, o1) :: (i2, o2) :: (TI, oI) :: (C, oC) :: (Dd, lst ys) :: news) { s₂ with heap := h, toks := tk } (G i)) E' { s₂ with heap := h, toks := tk })
    (hRR : ∀ Dd C h tk m' ys, ys.length = min xs.size zs.size → (∀ i y, ys[i]? = some y → G i y) → Fr h₀ L h m → News h₀ L h ((Dd, lst ys) :: news) → (∀ p ∈ news, p.1 < Dd) → h.Ns C m' → h₀.get? C = none → h₀.get? Dd = none → C ≠ L → Dd ≠ L → C ≠ Dd → (∀ p ∈ news, p.1 ≠ C) → RR (.ref Dd) C (.ok .next) { s₂ with heap := h, toks := tk }) :
    wpAny (model prog w) A (newList []) (fun acc s₃ => wpAny (model prog w) A (newFunctionEnv scope env.globals cl [] env.qual none .none (some env)) (fun cenv s₄ =>
      codeAny (model prog w) A (.compStart (.ListComp elt [⟨.Tuple [.Name x px, .Name x₂ px₂] tk tp, iter, [], 0⟩] scope pos) 0 (.ref z) acc { cenv with scope := relabel scope env }) (RR acc cenv.locals) s₄) E s₃) E s₂ := by
  have W := WalksT.zip2 (prog := prog) (w := w) hh z TI TO i1 i2 l1 l2 Z.ap xs zs
  refine wpAny_newObj_type (wpAny_newFunctionEnv hcell (by intro y hy; simp at hy) (fun h₁ hns₁ hsb₁ => ?_) hkind)
  dsimp only at hns₁ hsb₁ ⊢
  generalize hH2 : s₂.heap.push { cls := .type "list", dict := none, data := .seq ([] : List Value).toArray } = H2 at hns₁ hsb₁ ⊢
  have hC : H2.objs.size = s₂.heap.objs.size + 1 := by rw [← hH2, Heap.size_push]
  have hDC : s₂.heap.objs.size ≠ H2.objs.size := by rw [hC]; exact Nat.ne_of_lt (Nat.lt_succ_self _)
  have below : ∀ b, b < s₂.heap.objs.size → b ≠ H2.objs.size ∧ b ≠ s₂.heap.objs.size := fun b hb => ⟨by rw [hC]; exact Nat.ne_of_lt (Nat.lt_succ_of_lt hb), Nat.ne_of_lt hb⟩
  have old : ∀ b o, s₂.heap.get? b = some o → h₁.get? b = some o := fun b o e => hsb₁.extBut b o (below b (Heap.lt_size e)).1 (Heap.get?_push_of_some _ (hH2 ▸ Heap.get?_push_of_some _ e))
  have hacc : h₁.get? s₂.heap.objs.size = some (lst []) := hsb₁.extBut _ _ hDC (Heap.get?_push_of_some _ (hH2 ▸ Heap.get?_push_size _ rfl))
  have fresh : ∀ a, s₂.heap.objs.size ≤ a → s₂.heap.get? a = none := fun a ha => by
    cases e : s₂.heap.get? a with
    | none => rfl
    | some o' => exact absurd (Heap.lt_size e) (Nat.not_lt.mpr ha)
  have fresh₀ : ∀ a, s₂.heap.objs.size ≤ a → h₀.get? a = none := fun a ha => by
    cases e : h₀.get? a with
    | none => rfl
    | some o' => have := F.keep a o' e; rw [fresh a ha] at this; cases this
  have hD₀ : h₀.get? s₂.heap.objs.size = none := fresh₀ _ (Nat.le_refl _)
  have hC₀ : h₀.get? H2.objs.size = none := fresh₀ _ (by rw [hC]; exact Nat.le_succ _)
  have hLlt : L < s₂.heap.objs.size := F.ns.lt
  have hDL : s₂.heap.objs.size ≠ L := Ne.symm (below L hLlt).2
  have hCL : H2.objs.size ≠ L := Ne.symm (below L hLlt).1
  -- the seven places lie below
  have ltz := Heap.lt_size Z.oz
  have ltTO := Heap.lt_size Z.oTO
  have ltTI := Heap.lt_size Z.oTI
  have lti1 : i1 < s₂.heap.objs.size := by obtain ⟨_, e, _⟩ := Z.o1; exact Heap.lt_size e
  have lti2 : i2 < s₂.heap.objs.size := by obtain ⟨_, e, _⟩ := Z.o2; exact Heap.lt_size e
  have ltl1 := Heap.lt_size (N _ hl1).1
  have ltl2 := Heap.lt_size (N _ hl2).1
  have hfp : ∀ b ∈ [z, TI, TO, i1, i2, l1, l2], b < s₂.heap.objs.size := by
    intro b hb
    simp only [List.mem_cons, List.not_mem_nil, or_false] at hb
    rcases hb with rfl | rfl | rfl | rfl | rfl | rfl | rfl <;> assumption
  have hwr : ∀ b ∈ [z, TO, i1, i2], b ∈ [z, TO, i1, i2, TI] := by
    intro b hb; simp only [List.mem_cons, List.not_mem_nil, or_false] at hb ⊢; rcases hb with h | h | h | h <;> simp [h]
  have isl : ∀ {h : Heap}, News h₀ L h news → h.IsList l1 xs ∧ h.IsList l2 zs := fun N' => ⟨⟨_, (N' _ hl1).1, rfl, _, rfl⟩, ⟨_, (N' _ hl2).1, rfl, _, rfl⟩⟩
  let St : Nat → Heap → Prop := fun i h => IsZip h z TI TO .none ∧ IsPair h TI (.ref i1) (.ref i2) ∧ (∃ a b, IsPair h TO a b) ∧ h.IsListIter i1 l1 i ∧ h.IsListIter i2 l2 i ∧ h.IsList l1 xs ∧ h.IsList l2 zs
  have hst₁ : St 0 h₁ := by
    have l := isl N
    refine ⟨old _ _ Z.oz, old _ _ Z.oTI, ⟨_, _, old _ _ Z.oTO⟩, Z.o1.at fun o e => old _ o e, Z.o2.at fun o e => old _ o e, l.1.at fun o e => old _ o e, l.2.at fun o e => old _ o e⟩
  have frWr : ∀ {h h' : Heap}, Fr h₀ L h m → (∀ b o, b ∉ [z, TO, i1, i2] → h.get? b = some o → h'.get? b = some o) → Fr h₀ L h' m := fun F' hk =>
    ⟨F'.ns.at' fun o e => hk L o (fun hm => (Z.new L (hwr L hm)).2.1 rfl) e, fun b o e => hk b o (fun hm => by have := (Z.new b (hwr b hm)).1; rw [this] at e; cases e) (F'.keep b o e), F'.above⟩
  have nwWr : ∀ {h h' : Heap} {l : List (Addr × Obj)}, News h₀ L h l → (∀ p ∈ l, p.1 ∉ [z, TO, i1, i2]) → (∀ b o, b ∉ [z, TO, i1, i2] → h.get? b = some o → h'.get? b = some o) → News h₀ L h' l := fun N' off hk p hp =>
    ⟨hk _ _ (off p hp) (N' p hp).1, (N' p hp).2⟩
  have offN : ∀ p ∈ news, p.1 ∉ [z, TO, i1, i2] := fun p hp hm => (Z.new p.1 (hwr p.1 hm)).2.2 p hp rfl
  have hDwr : s₂.heap.objs.size ∉ [z, TO, i1, i2] := fun hm => Nat.lt_irrefl _ (hfp _ (W.sub _ hm))
  have hCwr : H2.objs.size ∉ [z, TO, i1, i2] := fun hm => by have := hfp _ (W.sub _ hm); rw [hC] at this; exact Nat.lt_irrefl _ (Nat.lt_of_succ_lt this)
  have hDfp : s₂.heap.objs.size ∉ [z, TI, TO, i1, i2, l1, l2] := fun hm => Nat.lt_irrefl _ (hfp _ hm)
  have hCfp : H2.objs.size ∉ [z, TI, TO, i1, i2, l1, l2] := fun hm => by have := hfp _ hm; rw [hC] at this; exact Nat.lt_irrefl _ (Nat.lt_of_succ_lt this)
  have offC : ∀ p ∈ news, p.1 ≠ H2.objs.size := fun p hp => (below _ (Heap.lt_size (N p hp).1)).1
  have offD : ∀ p ∈ news, p.1 ≠ s₂.heap.objs.size := fun p hp => (below _ (Heap.lt_size (N p hp).1)).2
  have ltD : ∀ p ∈ news, p.1 < s₂.heap.objs.size := fun p hp => Heap.lt_size (N p hp).1
  have loop : ∀ s₃ : Shared, s₃ = { s₂ with heap := h₁, toks := s₂.toks + ([] : List (Str × Value)).length } →
      codeAny (model prog w) A (.compLoop (.ListComp elt [⟨.Tuple [.Name x px, .Name x₂ px₂] tk tp, iter, [], 0⟩] scope pos) 0 (.ref z) (.ref s₂.heap.objs.size) (compEnvC scope cl H2.objs.size env))
        (RR (.ref s₂.heap.objs.size) H2.objs.size) s₃ := by
    rintro s₃ rfl
    refine codeAny_compLoop_pair
      (fun k s' => ∃ h' tk i ys m', s' = { s₂ with heap := h', toks := tk } ∧ i ≤ min xs.size zs.size ∧ k = min xs.size zs.size + 1 - i ∧ ys.length = i ∧ St i h' ∧ Fr h₀ L h' m ∧ h'.Ns H2.objs.size m' ∧ News h₀ L h' ((s₂.heap.objs.size, lst ys) :: news) ∧
        ∀ j y, ys[j]? = some y → G j y) ?_ (min xs.size zs.size + 1)
      ⟨h₁, _, 0, [], _, rfl, Nat.zero_le _, rfl, rfl, hst₁, F.keeps old, hns₁, fun p hp => ?_, fun j y e => by simp at e⟩
    · rintro k s' ⟨h', tk, i, ys, m', rfl, hi, rfl, hyl, hst', F', hn', N', hG⟩
      by_cases hlt : i < min xs.size zs.size
      · refine W.item i _ _ _ hlt hst' fun T vals h₂ tk₂ hPv hT hTt hMid hk₂ => ?_
        obtain ⟨v₁, v₂, hv1, hv2, rfl⟩ := hPv
        have hTwr := W.apart i T h₂ hMid
        refine W.go _ _ _ i T _ _ _ hMid fun h₃ hst₃ hk₃ => ?_
        have ht : IsTup h₃ T #[v₁, v₂] := by
          obtain ⟨o, ho, hc, n, hd⟩ := hTt
          exact ⟨o, hk₃ T o hTwr ho, hc, n, hd⟩
        have hk : ∀ b o, b ∉ [z, TO, i1, i2] → h'.get? b = some o → h₃.get? b = some o := fun b o hb e => hk₃ b o hb (hk₂ b o hb e)
        refine assign_Tuple_tuple hh ht rfl rfl fun h₅ he => ?_
        have he' : ∀ b o, h₃.get? b = some o → h₅.get? b = some o := fun b o e => he b o (Nat.ne_of_lt (Heap.lt_size e)) e
        refine assignInOrder_cons (wpAny_assign_Name (wpAny_storeName_local (lookup_relabel_local hx) ((hn'.at' fun o e => hk _ o hCwr e).at' fun o e => he' _ o e) (fun h₆ hn₆ hs₆ => ?_) (by simp [compEnvC, relabel, hkind])))
        refine assignInOrder_cons (wpAny_assign_Name (wpAny_storeName_local (lookup_relabel_local hx₂) hn₆ (fun h₄ hn₄ hs₄ => ?_) (by simp [compEnvC, relabel, hkind])))
        refine assignInOrder_nil ?_
        have old3 : ∀ b o, b ≠ H2.objs.size → h₃.get? b = some o → h₄.get? b = some o := fun b o hb e => hs₄.extBut b o hb (hs₆.extBut b o hb (he' b o e))
        have hst₄ : St (i + 1) h₄ := W.frame _ _ _ hst₃ fun b hb o e => old3 b o (fun q => hCfp (by rw [← q]; exact hb)) e
        obtain ⟨gz, gTI, ⟨a1, a2, gTO⟩, ⟨o1, go1, r1⟩, ⟨o2, go2, r2⟩, gl1, gl2⟩ := hst₄
        obtain ⟨oC, heC, hoC⟩ := ns_obj hn₄
        have F₄ : Fr h₀ L h₄ m := (((frWr F' hk).keeps he').change hs₆ hCL hC₀).change hs₄ hCL hC₀
        have N₃ : News h₀ L h₃ ((s₂.heap.objs.size, lst ys) :: news) := nwWr N' (fun p hp => by
          rcases List.mem_cons.mp hp with rfl | hp
          · exact hDwr
          · exact offN p hp) hk
        have nz := Z.new z (by simp)
        have nTO := Z.new TO (by simp)
        have n1 := Z.new i1 (by simp)
        have n2 := Z.new i2 (by simp)
        have nTI := Z.new TI (by simp)
        have N₄ : News h₀ L h₄ ((z, { cls := .type "zip", dict := none, data := .fields #[.none, .bool false, .bool false, .ref TI, .ref TO], slots := #[] }) :: (TO, { cls := .type "tuple", data := .seq #[a1, a2] }) :: (i1, o1) :: (i2, o2) :: (TI, { cls := .type "tuple", data := .seq #[.ref i1, .ref i2] }) :: (H2.objs.size, oC) :: (s₂.heap.objs.size, lst ys) :: news) := by
          refine List.forall_mem_cons.mpr ⟨⟨gz, nz.2.1, nz.1⟩, List.forall_mem_cons.mpr ⟨⟨gTO, nTO.2.1, nTO.1⟩, List.forall_mem_cons.mpr ⟨⟨go1, n1.2.1, n1.1⟩, List.forall_mem_cons.mpr ⟨⟨go2, n2.2.1, n2.1⟩, List.forall_mem_cons.mpr ⟨⟨gTI, nTI.2.1, nTI.1⟩, List.forall_mem_cons.mpr ⟨⟨heC, hCL, hC₀⟩, fun p hp => ?_⟩⟩⟩⟩⟩⟩
          have q := N₃ p hp
          refine ⟨old3 _ _ ?_ q.1, q.2⟩
          rcases List.mem_cons.mp hp with rfl | hp
          · exact hDC
          · exact offC p hp
        refine wpAny_mono (turn i v₁ v₂ _ _ o1 o2 _ H2.objs.size oC s₂.heap.objs.size _ ys h₄ _ _ hv1 hv2 hoC (by simp [hxx]) (by simp) F₄ N₄) (fun y s₄ q => ?_) fun _ _ e => e
        obtain ⟨h₇, tk₇, rfl, F₇, N₇, gy⟩ := q
        have N₇' : News h₀ L h₇ news := fun p hp => N₇ p (List.mem_cons_of_mem _ (List.mem_cons_of_mem _ (List.mem_cons_of_mem _ (List.mem_cons_of_mem _ (List.mem_cons_of_mem _ (List.mem_cons_of_mem _ (List.mem_cons_of_mem _ hp)))))))
        have l7 := isl N₇'
        have hst₇ : St (i + 1) h₇ := by
          refine ⟨(N₇ _ (.head _)).1, (N₇ _ (.tail _ (.tail _ (.tail _ (.tail _ (.head _)))))).1, ⟨_, _, (N₇ _ (.tail _ (.head _))).1⟩, ⟨o1, (N₇ _ (.tail _ (.tail _ (.head _)))).1, r1⟩, ⟨o2, (N₇ _ (.tail _ (.tail _ (.tail _ (.head _))))).1, r2⟩, l7.1, l7.2⟩
        have zC : h₇.get? H2.objs.size = some oC := (N₇ _ (.tail _ (.tail _ (.tail _ (.tail _ (.tail _ (.head _))))))).1
        have zD : h₇.get? s₂.heap.objs.size = some (lst ys) := (N₇ _ (.tail _ (.tail _ (.tail _ (.tail _ (.tail _ (.tail _ (.head _)))))))).1
        refine append_at (hsz := by show ys.toArray.size ≤ sizeLine; rw [List.size_toArray, hyl]; exact Nat.le_trans hi (Nat.le_trans (Nat.min_le_left ..) hsz)) zD fun h₈ hs₈ hD₈ => ?_
        refine ⟨min xs.size zs.size + 1 - (i + 1), by omega, h₈, tk₇, i + 1, ys ++ [y], _, rfl, hlt, rfl, by rw [List.length_append, List.length_singleton, hyl], W.frame _ _ _ hst₇ fun b hb o e => hs₈.extBut b o (fun q => hDfp (q ▸ hb)) e, F₇.change hs₈ hDL hD₀,
          (hoC.ns zC).sameBut hs₈ (Ne.symm hDC), fun p hp => ?_, fun j y' e => ?_⟩
        · rcases List.mem_cons.mp hp with rfl | hp
          · exact ⟨hD₈.trans (congrArg some (lst_snoc ys y)), hDL, hD₀⟩
          · exact ⟨hs₈.extBut _ _ (offD p hp) (N₇' p hp).1, (N₇' p hp).2⟩
        · rcases Nat.lt_or_ge j ys.length with hj | hj
          · rw [List.getElem?_append_left hj] at e; exact hG j y' e
          · rw [List.getElem?_append_right hj] at e
            have : j - ys.length = 0 := by
              rcases Nat.eq_zero_or_pos (j - ys.length) with h0 | h0
              · exact h0
              · rw [List.getElem?_eq_none (by rw [List.length_singleton]; exact h0)] at e; cases e
            rw [this] at e
            simp only [List.getElem?_cons_zero, Option.some.injEq] at e
            subst e
            have : j = i := by omega
            subst this
            exact gy
      · obtain rfl : i = min xs.size zs.size := Nat.le_antisymm hi (Nat.not_lt.mp hlt)
        refine W.done _ _ _ hst' fun h₂ tk₂ hk₂ => ?_
        exact hRR _ _ h₂ tk₂ _ ys hyl hG (frWr F' hk₂) (nwWr N' (fun p hp => by
          rcases List.mem_cons.mp hp with rfl | hp
          · exact hDwr
          · exact offN p hp) hk₂) ltD (hn'.at' fun o e => hk₂ _ o hCwr e) hC₀ hD₀ hCL hDL (Ne.symm hDC) offC
    · rcases List.mem_cons.mp hp with rfl | hp
      · exact ⟨hacc, hDL, hD₀⟩
      · exact ⟨old _ _ (N p hp).1, (N p hp).2⟩
  exact codeAny_compStart_list (loop _ rfl) (W.self 0 _ _ _ hst₁ (loop _ rfl))
/-- where a comprehension over zip stands once the zip is made -/
def ZipSrc (prog : Program) (w : World) (A : Around) (h₀ : Heap) (L : Addr) (m : Str → Option Value) (env : Env) (elt : Expr) (x x₂ y : Str) (scope : Scope) (cl : List (Str × Addr)) (Q : Flow → Shared → Prop) (xv : Value) (s₁ : Shared) : Prop :=
  ∃ (z TI TO i1 i2 l1 l2 : Addr) (xs zs : Array Value) (e1 e2 : Nat) (news : List (Addr × Obj)) (G : Nat → Value → Prop), xv = .ref z ∧ A.handled = none ∧ Fr h₀ L s₁.heap m ∧ News h₀ L s₁.heap news ∧ ZipLaid h₀ L s₁.heap news z TI TO i1 i2 l1 l2 ∧ xs.size ≤ sizeLine ∧ (l1, W.listOf xs e1) ∈ news ∧ (l2, W.listOf zs e2) ∈ news ∧
    (∀ i v₁ v₂ oz oT o1 o2 oI C oC Dd m₂ ys h tk (E' : Value → Shared → Prop), xs[i]? = some v₁ → zs[i]? = some v₂ → NsObj oC m₂ → m₂ x = some v₁ → m₂ x₂ = some v₂ → Fr h₀ L h m →
      News h₀ L h ((z, oz) :: (TO, oT) :: (i1, o1) :: (i2, o2) :: (TI, oI) :: (C, oC) :: (Dd, lst ys) :: news) →
      wpAny (model prog w) A (eval elt (compEnvC scope cl C env)) (ElPost h₀ L m ((z, oz) :: (TO, oT) :: (i1, o1) :: (i2, o2) :: (TI, oI) :: (C, oC) :: (Dd, lst ys) :: news) { s₁ with heap := h, toks := tk } (G i)) E' { s₁ with heap := h, toks := tk }) ∧
    (∀ Dd h tk ys, ys.length = min xs.size zs.size → (∀ i y, ys[i]? = some y → G i y) → Fr h₀ L h (fun z => if z = y then some (.ref Dd) else m z) → News h₀ L h ((Dd, lst ys) :: news) → (∀ p ∈ news, p.1 < Dd) → Q .next { s₁ with heap := h, toks := tk })
theorem Assign_ListComp_Z {elt iter : Expr} {x x₂ y : Str} {px px₂ tp py : Pos} {tk} {scope : Scope} {cl : List (Str × Addr)} {pos spos : Pos} {Q : Flow → Shared → Prop} (F₀ : Fr h₀ L s.heap m) (hLe : env.locals = L)
    (hsw : swapsWith (.ListComp elt [⟨.Tuple [.Name x px, .Name x₂ px₂] tk tp, iter, [], 0⟩] scope pos) (some (.Name y py)) spos.line env = pure true)
    (hclos : closureFor scope env = pure cl) (hcell : ∀ z ∈ scope.names, z.2 ≠ .cell) (hkind : scope.kind = .function)
    (hnames : ∀ z ∈ scope.names, z.2 = .local → scope.names.lookup z.1 = some .local) (hx : scope.names.lookup x = some .local) (hx₂ : scope.names.lookup x₂ = some .local) (hxx : x ≠ x₂)
    (hy : env.kindOf y = some .local) (hp : (env.scope.kind == .class || (env.scope.kind == .module && env.locals != env.globals)) = false)
    (h : wpAny (model prog w) A (eval iter env) (ZipSrc prog w A h₀ L m env elt x x₂ y scope cl Q) E s)
    (hs : ∀ x, foldedSetIterable iter env x = pure x := by intro _; rfl) :
    wpAny (model prog w) A (exec (.Assign [.Name y py] (.ListComp elt [⟨.Tuple [.Name x px, .Name x₂ px₂] tk tp, iter, [], 0⟩] scope pos) spos) env) Q E s := by
  subst hLe
  rw [exec_Assign_Name_used _ _ _ _ hsw]
  refine wpAny_bind (wpAny_standAt (wpAny_bind ?_))
  show wpAny _ A (do let _ ← comprehension (.ListComp elt [⟨.Tuple [.Name x px, .Name x₂ px₂] tk tp, iter, [], 0⟩] scope pos) scope env _ (newList []) false (eval iter env) (some (assign (.Name y py) env))) _ _ s
  refine wpAny_bind (wpAny_mono (wpAny_comprehension_free (use := some (assign (.Name y py) env)) (Q := fun _ s' => Q .next s') rfl hs hclos hkind hnames
    (wpAny_mono h (fun xv s₁ h₁ => ?_) fun _ _ e => e)) (fun _ s' hq => wpAny_pure (wpAny_pure hq)) fun _ _ e => e)
  obtain ⟨z, TI, TO, i1, i2, l1, l2, xs, zs, e1, e2, news, G, rfl, hh, F, N, Z, hsz, hl1, hl2, turn, done⟩ := h₁
  refine wpAny_pyIter_zip Z.oz ?_
  refine block_Z G hh Z hsz hl1 hl2 hcell hkind hx hx₂ hxx F N turn ?_
  intro D C h' tk m' ys hyl hG F' N' ltD hn hC₀ hD₀ hCL hDL hCD offC
  show wpAny _ A (assign (.Name y py) env (.ref D)) _ _ _
  refine wpAny_assign_Name (wpAny_storeName_local hy F'.ns (fun h₂ hn₂ hs₂ => ?_) hp)
  have hL₀ : h₀.get? env.locals = none := Heap.get?_none_of_le F'.above
  have F₂ : Fr h₀ env.locals h₂ (fun z => if z = y then some (.ref D) else m z) := ⟨hn₂, fun b o e => hs₂.extBut b o (fun q => by rw [q, hL₀] at e; cases e) (F'.keep b o e), F'.above⟩
  refine ⟨m', hn.sameBut hs₂ hCL, fun h'' hs'' => done D h'' _ ys hyl hG (F₂.change hs'' hCL hC₀) (fun p hp => ?_) ltD⟩
  have z : h₂.get? p.1 = some p.2 := hs₂.extBut _ _ (N' p hp).2.1 (N' p hp).1
  refine ⟨hs''.extBut _ _ ?_ z, (N' p hp).2⟩
  rcases List.mem_cons.mp hp with rfl | hp
  · exact Ne.symm hCD
  · exact offC p hp
end
end Mine
end
section
open PySem PySem.W PyProof.Rows PySem.Spec PySem.Calls PyProof.V
set_option Elab.async false
set_option maxRecDepth 100000
set_option maxHeartbeats 4000000
namespace Mine
section
variable {prog : Program} {w : World} {A : Around} {E : Value → Shared → Prop} {s : Shared}
abbrev zpH (h : Heap) (a b : Value) : Heap := ((h.push { cls := .type "tuple", data := .seq #[a, b] }).push { cls := .type "tuple", data := .seq #[.none, .none] }).push { cls := .type "zip", data := .fields #[.none, .bool false, .bool false, .ref h.objs.size, .ref (h.push { cls := .type "tuple", data := .seq #[a, b] }).objs.size] }
theorem zip_of {a b : Addr} {Q : Value → Shared → Prop}
    (h : wpAny (model prog w) A.in1.in1 (pyIter (.ref a)) (fun i1 s₁ => wpAny (model prog w) A.in1.in1 (pyIter (.ref b)) (fun i2 s₂ => Q (.ref (s₂.heap.objs.size + 2)) { s₂ with heap := zpH s₂.heap i1 i2 }) E s₁) E s) :
    wpAny (model prog w) A (call (.type "zip") [.ref a, .ref b]) Q E s := by
  refine callType_newIn F.called_zip (by decide) (F.typeCall_zip_2 _ _) (F.newCall_zip_2 _ _) (fun obj => F.args_object_init_3 obj _ _) F.entry_zip_new
    (S := fun A R s => wpAny (model prog w) A.in1 (Builtin.«zip.__new__» ⟨[  .type "zip", .ref a, .ref b], []⟩) (fun fin s' => match fin with | .done f => R (.ok f) s' | .again c' => c'.quiet = true ∧ codeAny (model prog w) A c' R s') (fun e s' => R (.error e) s') s) (fun A R s h => h) ?_
  have hsub := sub_zip
  wp_walk using wpAny_mono h
  · intro i1 s₁ h₁
    obtain ⟨hp, g, d, tk, os⟩ := s₁
    wp_walk using wpAny_mono h₁
    · intro i2 s₂ h₂
      obtain ⟨hp, g, d, tk, os⟩ := s₂
      wp_walk
      refine ⟨⟨_, Heap.get?_push_size _ rfl, rfl⟩, ?_⟩
      have e : ((hp.push { cls := .type "tuple", data := .seq #[i1, i2] }).push { cls := .type "tuple", data := .seq #[.none, .none] }).objs.size = hp.objs.size + 2 := by rw [Heap.size_push, Heap.size_push]
      show Q (.ref ((hp.push { cls := .type "tuple", data := .seq #[i1, i2] }).push { cls := .type "tuple", data := .seq #[.none, .none] }).objs.size) ⟨zpH hp i1 i2, g, d, tk, os⟩
      rw [e]
      exact h₂
    · exact fun _ _ e => e
  · exact fun _ _ e => e
abbrev listIter (l : Addr) : Obj := { cls := .type "list_iterator", data := .fields #[.ref l, .int 0 0] }
theorem iter_list {h₀ : Heap} {L l : Addr} {m : Str → Option Value} {news : List (Addr × Obj)} {its : Array Value} {e : Nat} {Q : Value → Shared → Prop} (F : Fr h₀ L s.heap m) (N : News h₀ L s.heap news) (hm : (l, W.listOf its e) ∈ news)
    (h : ∀ (i : Addr) h', Fr h₀ L h' m → News h₀ L h' ((i, listIter l) :: news) → (∀ p ∈ news, p.1 < i) → Q (.ref i) { s with heap := h' }) :
    wpAny (model prog w) A (call (.builtin "iter") [.ref l]) Q E s := by
  refine call_function_entry (by decide +kernel) (by decide +kernel) kdk_entry_iter (kdk_args_iter _) ?_
  unfold Builtin.«iter»
  refine wpAny_bind (m := someArgs "iter" 1 2 _) (wpAny_of_eq (a := [Value.ref l]) (by first | rfl | kernel_rfl!) ?_)
  show wpAny _ _ (pyIter (.ref l) >>= _) _ _ _
  refine wpAny_bind (wpAny_pyIter_list (items := its) ⟨_, (N _ hm).1, rfl, _, rfl⟩ ?_)
  exact wpAny_pure ⟨_, rfl, h _ _ (F.push _) (News.push F N _ rfl) (fun q hq => Heap.lt_size (N q hq).1)⟩
theorem own_listIter {A' : Around} {i : Addr} {l : Addr} {Q : Value → Shared → Prop} {E' : Value → Shared → Prop} (hg : s.heap.get? i = some (listIter l)) (h : Q (.ref i) s) : OwitIt (model prog w) A' Q E' (.ref i) s := by
  unfold OwitIt
  exact wpAny_specialOf ⟨_, hg, rfl⟩ slot_listiter_next.lookup h
end
end Mine
end
section
open PySem PySem.W PyProof.Rows PySem.Spec PySem.Calls
set_option Elab.async false
set_option maxRecDepth 100000
set_option maxHeartbeats 0
namespace Mine
local macro_rules | `(tactic| k_room) => `(tactic| ktr_room)
local macro_rules | `(tactic| k_units) => `(tactic| ktr_units)
abbrev polyD (w : World) (tt : Tok) (l : Addr) : Obj := dictOf [⟨PyData.keyHash w.params (Str.ofString "num"), .str (Str.ofString "num") tt, .ref l⟩] 1
local macro_rules | `(tactic| walk_at "call builtin:iter") => `(tactic| (k_here; k_dflt (refine' iter_list ?F ?N ?m ?_; (case F => k_asm); (case N => k_asm); (case m => k_mem); k_whole); intro i' h' F' N' l1))
theorem iter_c : ∀ {w : World} {loose : List Str} {mean : ExcName → Option Value} {mg mb : Str → Option Value} {p : Program} {dp un : Nat} {gd : Option (List Code)} {cn : Str} {cs : Scope} {a : Addr} {ccd : Value} {cl : List (Str × Addr)} {outer : List Env} {A₀ : Around} {base h₀ : Heap} {L : Addr} {m : Str → Option Value} {news : List (Addr × Obj)} {s : Shared} {Q E : Value → Shared → Prop} {x dx l : Addr} {t1 : Tok} {us : List Value} {e1 : Nat},
  Below A₀ base outer h₀ → Fr h₀ L s.heap m → (hd.heap_39 w.params).In h₀ → News h₀ L s.heap ((l, listOf us.toArray e1) :: (x, instObj 306 dx) :: (dx, polyD w t1 l) :: news) → Top p loose mean mg mb h₀ → cs.kind = .function → dp + 1 < recursionLimit → un + 8 < cLine →
  (∀ i h' tk', Fr h₀ L h' m → News h₀ L h' ((i, { cls := .type "list_iterator", data := .fields #[.ref l, .int 0 0] }) :: (l, listOf us.toArray e1) :: (x, instObj 306 dx) :: (dx, polyD w t1 l) :: news) → (∀ p ∈ (l, listOf us.toArray e1) :: (x, instObj 306 dx) :: (dx, polyD w t1 l) :: news, p.1 < i) → Q (.ref i) { s with heap := h', toks := tk' }) →
  wpAny (model PySem.Challenge.rw_bq0025_01.row.prog w) (ktrTop dp un gd cn cs L a ccd cl outer) (call (.ref 284) [.ref x]) Q E s := by
  k_with_none
  w_top off
  k_fill
  intro w loose mean mg mb p dp un gd cn cs a ccd cl outer A₀ base h₀ L m news s Q E x dx l t1 us e1 B F X N T hk hdp hun hret
  refine wpAny_call ?_
  k_dflt cell_enter
  k_steps
  exact hret _ _ _ (by assumption) (by assumption) (by assumption)
theorem zip_poly : ∀ {w : World} {loose : List Str} {mean : ExcName → Option Value} {mg mb : Str → Option Value} {p : Program} {dp un : Nat} {gd : Option (List Code)} {cn : Str} {cs : Scope} {a : Addr} {ccd : Value} {cl : List (Str × Addr)} {outer : List Env} {A₀ : Around} {base h₀ : Heap} {L : Addr} {m : Str → Option Value} {news : List (Addr × Obj)} {s : Shared} {Q E : Value → Shared → Prop} {x dx l y dy lg : Addr} {t1 t2 : Tok} {us vs : List Value} {e1 e2 : Nat},
  Below A₀ base outer h₀ → Fr h₀ L s.heap m → (hd.heap_39 w.params).In h₀ → News h₀ L s.heap ((l, listOf us.toArray e1) :: (x, instObj 306 dx) :: (dx, polyD w t1 l) :: (lg, listOf vs.toArray e2) :: (y, instObj 306 dy) :: (dy, polyD w t2 lg) :: news) → Top p loose mean mg mb h₀ → cs.kind = .function → dp + 1 < recursionLimit → un + 10 < cLine →
  (∀ z TI TO i1 i2 h' tk', Fr h₀ L h' m → ZipLaid h₀ L h' ((l, listOf us.toArray e1) :: (x, instObj 306 dx) :: (dx, polyD w t1 l) :: (lg, listOf vs.toArray e2) :: (y, instObj 306 dy) :: (dy, polyD w t2 lg) :: news) z TI TO i1 i2 l lg →
    News h₀ L h' ((l, listOf us.toArray e1) :: (x, instObj 306 dx) :: (dx, polyD w t1 l) :: (lg, listOf vs.toArray e2) :: (y, instObj 306 dy) :: (dy, polyD w t2 lg) :: news) → Q (.ref z) { s with heap := h', toks := tk' }) →
  wpAny (model PySem.Challenge.rw_bq0025_01.row.prog w) (ktrTop dp un gd cn cs L a ccd cl outer) (call (.type "zip") [.ref x, .ref y]) Q E s := by
  k_with_none
  w_top off
  k_fill
  intro w loose mean mg mb p dp un gd cn cs a ccd cl outer A₀ base h₀ L m news s Q E x dx l y dy lg t1 t2 us vs e1 e2 B F X N T hk hdp hun hret
  refine zip_of (owit_iter F X (InstAt.of_news N (.tail _ (.head _)) (.tail _ (.tail _ (.head _)))) (by k_dflt k_is) (by k_dflt k_is) (iter_c (dp := dp) (un := un + 2) (news := (lg, listOf vs.toArray e2) :: (y, instObj 306 dy) :: (dy, polyD w t2 lg) :: news) B F X N T hk hdp hun fun i1 h1 tk1 F1 N1 lt1 => ?_))
  refine own_listIter (l := l) (N1 _ (.head _)).1 ?_
  have N1' := cb_drop (news := (lg, listOf vs.toArray e2) :: (y, instObj 306 dy) :: (dy, polyD w t2 lg) :: (i1, listIter l) :: (l, listOf us.toArray e1) :: (x, instObj 306 dx) :: (dx, polyD w t1 l) :: news) N1 (by kcj_in)
  refine owit_iter F1 X (InstAt.of_news N1' (.tail _ (.head _)) (.tail _ (.tail _ (.head _)))) (by k_dflt k_is) (by k_dflt k_is) (iter_c (dp := dp) (un := un + 2) B F1 X N1' T hk hdp hun fun i2 h2 tk2 F2 N2 lt2 => ?_)
  refine own_listIter (l := lg) (N2 _ (.head _)).1 ?_
  dsimp only
  have g1 := (N2 _ (.tail _ (.tail _ (.tail _ (.tail _ (.head _)))))).1
  have g2 := (N2 _ (.head _)).1
  have up : ∀ b o, h2.get? b = some o → (zpH h2 (.ref i1) (.ref i2)).get? b = some o := fun b o e => Heap.get?_push_of_some _ (Heap.get?_push_of_some _ (Heap.get?_push_of_some _ e))
  have N2' := cb_drop (news := (l, listOf us.toArray e1) :: (x, instObj 306 dx) :: (dx, polyD w t1 l) :: (lg, listOf vs.toArray e2) :: (y, instObj 306 dy) :: (dy, polyD w t2 lg) :: news) N2 (by kcj_in)
  have lt21 : @LT.lt Nat _ i1 i2 := lt2 _ (.tail _ (.tail _ (.tail _ (.head _))))
  have s1 : @LT.lt Nat _ i1 h2.objs.size := Heap.lt_size g1
  have s2 : @LT.lt Nat _ i2 h2.objs.size := Heap.lt_size g2
  have sl : @LT.lt Nat _ l i1 := lt1 _ (.head _)
  have sg : @LT.lt Nat _ lg i1 := lt1 _ (.tail _ (.tail _ (.tail _ (.head _))))
  have z1 : (h2.push { cls := .type "tuple", data := .seq #[.ref i1, .ref i2] }).objs.size = h2.objs.size + 1 := Heap.size_push ..
  have z2 : ((h2.push { cls := .type "tuple", data := .seq #[.ref i1, .ref i2] }).push { cls := .type "tuple", data := .seq #[.none, .none] }).objs.size = h2.objs.size + 2 := by rw [Heap.size_push, z1]
  have hlow : ∀ b, h2.objs.size ≤ b → h₀.get? b = none := fun b hb => by
    cases e : h₀.get? b with
    | none => rfl
    | some o' => exact absurd (Heap.lt_size (F2.keep b o' e)) (Nat.not_lt.mpr hb)
  have hL : @LT.lt Nat _ L h2.objs.size := F2.ns.lt
  refine hret (h2.objs.size + 2) h2.objs.size (h2.objs.size + 1) i1 i2 (zpH h2 (.ref i1) (.ref i2)) tk2 (F2.keeps up) ?_ (N2'.grown up)
  have gz : (zpH h2 (.ref i1) (.ref i2)).get? ((h2.push { cls := .type "tuple", data := .seq #[.ref i1, .ref i2] }).push { cls := .type "tuple", data := .seq #[.none, .none] }).objs.size = some _ := Heap.get?_push_size _ rfl
  have gO : (zpH h2 (.ref i1) (.ref i2)).get? (h2.push { cls := .type "tuple", data := .seq #[.ref i1, .ref i2] }).objs.size = some _ := Heap.get?_push_of_some _ (Heap.get?_push_size _ rfl)
  have gI : (zpH h2 (.ref i1) (.ref i2)).get? h2.objs.size = some _ := Heap.get?_push_of_some _ (Heap.get?_push_of_some _ (Heap.get?_push_size _ rfl))
  rw [z2, z1] at gz
  rw [z1] at gO
  have low : ∀ p ∈ (l, listOf us.toArray e1) :: (x, instObj 306 dx) :: (dx, polyD w t1 l) :: (lg, listOf vs.toArray e2) :: (y, instObj 306 dy) :: (dy, polyD w t2 lg) :: news, @LT.lt Nat _ p.1 i1 := lt1
  refine ⟨gz, gI, gO, ⟨_, up _ _ g1, rfl, rfl⟩, ⟨_, up _ _ g2, rfl, rfl⟩, ?_, ?_⟩
  · constructor <;> (intro e9; have e8 : @Eq Nat _ _ := e9; clear e9; omega)
  · intro b hb
    have n1 := N2 _ (.tail _ (.tail _ (.tail _ (.tail _ (.head _)))))
    have n2 := N2 _ (.head _)
    simp only [List.mem_cons, List.not_mem_nil, or_false] at hb
    rcases hb with rfl | rfl | rfl | rfl | rfl
    · exact ⟨hlow _ (by omega), Ne.symm (Nat.ne_of_lt (by omega)), fun p hp => Nat.ne_of_lt (by have := low p hp; omega)⟩
    · exact ⟨hlow _ (by omega), Ne.symm (Nat.ne_of_lt (by omega)), fun p hp => Nat.ne_of_lt (by have := low p hp; omega)⟩
    · exact ⟨n1.2.2, n1.2.1, fun p hp => Nat.ne_of_lt (low p hp)⟩
    · exact ⟨n2.2.2, n2.2.1, fun p hp => Nat.ne_of_lt (by have := low p hp; omega)⟩
    · exact ⟨hlow _ (by omega), Ne.symm (Nat.ne_of_lt (by omega)), fun p hp => Nat.ne_of_lt (by have := low p hp; omega)⟩
end Mine
end
section
open PySem
set_option Elab.async false
namespace Mine
def Rm (rm : Nat) : Prop := rm = 19 ∨ rm = 16 ∨ rm = 13 ∨ rm = 9
def freeN (rm : Nat) : List Nat := List.range' 2 (rm - 3) ++ List.range' rm (26 - rm)
def wishN (rm st sd k : Nat) : Nat := (freeN rm).getD ((st + sd * k) % 23) 0
def wishL (rm st sd : Nat) : List Nat := (List.range (rm - 3)).map (wishN rm st sd)
def knownN (rm st sd : Nat) : List Nat := 0 :: 1 :: (rm - 1) :: wishL rm st sd
def lackN (rm st sd : Nat) : List Nat := (List.range 26).filter (fun p => !(knownN rm st sd).contains p)
theorem free_ok {rm : Nat} (h : Rm rm) : (freeN rm).length = 23 ∧ (freeN rm).Nodup ∧ ∀ p ∈ freeN rm, p ≠ 0 ∧ p ≠ 1 ∧ p ≠ rm - 1 ∧ p < 26 := by
  rcases h with rfl | rfl | rfl | rfl <;> decide +kernel
theorem nodup_at {l : List Nat} (hn : l.Nodup) {i j a : Nat} (hi : l[i]? = some a) (hj : l[j]? = some a) : i = j := by
  obtain ⟨h1, e1⟩ := List.getElem?_eq_some_iff.mp hi
  obtain ⟨h2, e2⟩ := List.getElem?_eq_some_iff.mp hj
  have q := List.pairwise_iff_getElem.mp (List.nodup_iff_pairwise_ne.mp hn)
  rcases Nat.lt_trichotomy i j with h | h | h
  · exact absurd (e1.trans e2.symm) (q i j h1 h2 h)
  · exact h
  · exact absurd (e2.trans e1.symm) (q j i h2 h1 h)
theorem mul_mod23 : ((List.range 22).all fun d => (List.range 22).all fun e => (d + 1) * (e + 1) % 23 != 0) = true := by decide +kernel
theorem step_ne {d e : Nat} (h1 : 0 < d) (h2 : d < 23) (h3 : 0 < e) (h4 : e < 23) : d * e % 23 ≠ 0 := by
  have q := List.all_eq_true.mp (List.all_eq_true.mp mul_mod23 (d - 1) (by simp; omega)) (e - 1) (by simp; omega)
  rw [Nat.sub_add_cancel h1, Nat.sub_add_cancel h3] at q
  simpa using q
theorem place_inj {st sd i j : Nat} (h1 : 0 < sd) (h2 : sd < 23) (hj : j < 23) (hij : i < j) : (st + sd * i) % 23 ≠ (st + sd * j) % 23 := by
  intro h
  refine step_ne h1 h2 (e := j - i) (by omega) (by omega) ?_
  have e1 : st + sd * j = (st + sd * i) + sd * (j - i) := by
    rw [Nat.add_assoc, ← Nat.mul_add, Nat.add_sub_cancel' (Nat.le_of_lt hij)]
  rw [e1] at h
  generalize sd * (j - i) = x at h ⊢
  omega
theorem wish_mem {rm : Nat} (h : Rm rm) (st sd k : Nat) : wishN rm st sd k ∈ freeN rm := by
  have hl := (free_ok h).1
  have : (st + sd * k) % 23 < (freeN rm).length := by omega
  unfold wishN
  rw [List.getD_eq_getElem?_getD, List.getElem?_eq_getElem this]
  exact List.getElem_mem this
theorem wish_ok {rm : Nat} (h : Rm rm) (st sd k : Nat) : wishN rm st sd k ≠ 0 ∧ wishN rm st sd k ≠ 1 ∧ wishN rm st sd k ≠ rm - 1 ∧ wishN rm st sd k < 26 := (free_ok h).2.2 _ (wish_mem h st sd k)
theorem wish_inj {rm st sd : Nat} (h : Rm rm) (h1 : 0 < sd) (h2 : sd < 23) {i j : Nat} (hj : j < 23) (hij : i < j) : wishN rm st sd i ≠ wishN rm st sd j := by
  have hl := (free_ok h).1
  have a1 : (st + sd * i) % 23 < (freeN rm).length := by omega
  have a2 : (st + sd * j) % 23 < (freeN rm).length := by omega
  unfold wishN
  rw [List.getD_eq_getElem?_getD, List.getElem?_eq_getElem a1, List.getD_eq_getElem?_getD, List.getElem?_eq_getElem a2]
  intro e
  refine place_inj h1 h2 hj hij (nodup_at (free_ok h).2.1 (List.getElem?_eq_getElem a1) ?_)
  rw [List.getElem?_eq_getElem a2]
  exact congrArg some (show _ = _ from e.symm)
theorem wishL_nodup {rm st sd : Nat} (h : Rm rm) (h1 : 0 < sd) (h2 : sd < 23) : (wishL rm st sd).Nodup := by
  have hr : rm ≤ 19 := by unfold Rm at h; omega
  unfold wishL
  rw [List.nodup_iff_pairwise_ne, List.pairwise_map]
  refine List.Pairwise.imp_of_mem ?_ (List.pairwise_lt_range (n := rm - 3))
  intro i j hi hj hij
  exact wish_inj h h1 h2 (by have := List.mem_range.mp hj; omega) hij
theorem wishL_mem {rm st sd p : Nat} (h : Rm rm) (hp : p ∈ wishL rm st sd) : p ≠ 0 ∧ p ≠ 1 ∧ p ≠ rm - 1 ∧ p < 26 := by
  obtain ⟨k, _, rfl⟩ := List.mem_map.mp hp
  exact wish_ok h st sd k
theorem known_nodup {rm st sd : Nat} (h : Rm rm) (h1 : 0 < sd) (h2 : sd < 23) : (knownN rm st sd).Nodup := by
  have hr : 3 ≤ rm := by unfold Rm at h; omega
  unfold knownN
  refine List.nodup_cons.mpr ⟨?_, List.nodup_cons.mpr ⟨?_, List.nodup_cons.mpr ⟨?_, wishL_nodup h h1 h2⟩⟩⟩
  · simp only [List.mem_cons, not_or]
    exact ⟨by decide, by omega, fun q => (wishL_mem h q).1 rfl⟩
  · simp only [List.mem_cons, not_or]
    exact ⟨by omega, fun q => (wishL_mem h q).2.1 rfl⟩
  · exact fun q => (wishL_mem h q).2.2.1 rfl
theorem known_lt {rm st sd p : Nat} (h : Rm rm) (hp : p ∈ knownN rm st sd) : p < 26 := by
  have hr : rm ≤ 19 := by unfold Rm at h; omega
  unfold knownN at hp
  simp only [List.mem_cons] at hp
  rcases hp with rfl | rfl | rfl | hp
  · decide
  · decide
  · omega
  · exact (wishL_mem h hp).2.2.2
theorem known_len {rm st sd : Nat} (h : Rm rm) : (knownN rm st sd).length = rm := by
  have hr : 3 ≤ rm := by unfold Rm at h; omega
  unfold knownN wishL
  simp
  omega
theorem lack_mem {rm st sd p : Nat} : p ∈ lackN rm st sd ↔ p < 26 ∧ p ∉ knownN rm st sd := by
  unfold lackN
  rw [List.mem_filter, List.mem_range]
  simp
theorem lack_nodup (rm st sd : Nat) : (lackN rm st sd).Nodup := List.nodup_iff_pairwise_ne.mpr (List.Pairwise.filter _ (List.nodup_iff_pairwise_ne.mp List.nodup_range))
theorem kl_perm {rm st sd : Nat} (h : Rm rm) (h1 : 0 < sd) (h2 : sd < 23) : (knownN rm st sd ++ lackN rm st sd).Perm (List.range 26) := by
  refine (List.perm_ext_iff_of_nodup ?_ List.nodup_range).mpr ?_
  · refine List.nodup_append.mpr ⟨known_nodup h h1 h2, lack_nodup .., ?_⟩
    intro a ha b hb e
    subst e
    exact (lack_mem.mp hb).2 ha
  · intro p
    rw [List.mem_append, List.mem_range, lack_mem]
    constructor
    · rintro (hp | hp)
      · exact known_lt h hp
      · exact hp.1
    · intro hp
      by_cases hk : p ∈ knownN rm st sd
      · exact .inl hk
      · exact .inr ⟨hp, hk⟩
theorem lack_len {rm st sd : Nat} (h : Rm rm) (h1 : 0 < sd) (h2 : sd < 23) : (lackN rm st sd).length = 26 - rm := by
  have := (kl_perm (st := st) h h1 h2).length_eq
  rw [List.length_append, known_len h, List.length_range] at this
  omega
/-- the place's own element of the field -/
def XP (p : Nat) : B := E (25 - p)
theorem XP_inj {p q : Nat} (hp : p < 26) (hq : q < 26) (h : XP p = XP q) : p = q := by
  have := E_inj (i := 25 - p) (j := 25 - q) (by omega) (by omega) h
  omega
theorem row_ev {rm st sd : Nat} (h : Rm rm) (h1 : 0 < sd) (h2 : sd < 23) {r : List B} (hl : r.length = 26)
    (hr : ∀ u ∈ lackN rm st sd, r.getD u 0#8 = xsum (knownN rm st sd) fun p => part XP (lackN rm st sd) (r.getD p 0#8) p u) {j : Nat} (hj : j < 26 - rm) : ev r (E j) = 0#8 := by
  rw [ev_sum, hl]
  have e1 : xsum (List.range 26) (fun p => mul (r.getD p 0#8) (pw (E j) (26 - 1 - p))) = xsum (List.range 26) (fun p => mul (r.getD p 0#8) (pw (XP p) j)) := by
    refine xsum_congr fun p _ => ?_
    unfold XP
    rw [pw_E, pw_E, Nat.mul_comm]
  rw [e1, ← xsum_perm _ (kl_perm (st := st) h h1 h2), xsum_append]
  refine synd (r := fun p => r.getD p 0#8) (lack_nodup rm st sd) ?_ ?_ hr (by rw [lack_len h h1 h2]; exact hj)
  · intro u hu v hv e
    exact XP_inj (lack_mem.mp hu).1 (lack_mem.mp hv).1 e
  · intro p hp v hv e
    have := XP_inj (known_lt h hp) (lack_mem.mp hv).1 e
    subst this
    exact (lack_mem.mp hv).2 hp
/-- the row while the lacking octets are reckoned -/
def RowAt (U K : List Nat) (r0 row : List B) (i k : Nat) : Prop :=
  row.length = 26 ∧ (∀ p, p ∉ U → row.getD p 0#8 = r0.getD p 0#8) ∧
    ∀ j u, U[j]? = some u → row.getD u 0#8 = if j < i then xsum K fun p => part XP U (r0.getD p 0#8) p u else if j = i then xsum (K.take k) fun p => part XP U (r0.getD p 0#8) p u else 0#8
theorem RowAt.start {U K : List Nat} {r0 : List B} (hl : r0.length = 26) (hz : ∀ u ∈ U, r0.getD u 0#8 = 0#8) : RowAt U K r0 r0 0 0 := by
  refine ⟨hl, fun _ _ => rfl, fun j u hu => ?_⟩
  rw [if_neg (Nat.not_lt_zero _), List.take_zero, xsum_nil, hz u (List.mem_of_getElem? hu)]
  split <;> rfl
theorem RowAt.next {U K : List Nat} {r0 row : List B} {i : Nat} (h : RowAt U K r0 row i K.length) : RowAt U K r0 row (i + 1) 0 := by
  refine ⟨h.1, h.2.1, fun j u hu => ?_⟩
  rw [h.2.2 j u hu, List.take_length, List.take_zero, xsum_nil]
  by_cases h1 : j < i
  · rw [if_pos h1, if_pos (by omega)]
  · rw [if_neg h1]
    by_cases h2 : j = i
    · rw [if_pos h2, if_pos (by omega)]
    · rw [if_neg h2, if_neg (by omega)]
      split <;> rfl
theorem getD_set {r : List B} {u v : Nat} {b : B} (hu : u < r.length) : (r.set u b).getD v 0#8 = if v = u then b else r.getD v 0#8 := by
  rw [List.getD_eq_getElem?_getD, List.getElem?_set]
  by_cases h : v = u
  · subst h; simp [hu]
  · rw [if_neg (Ne.symm h), if_neg h, ← List.getD_eq_getElem?_getD]
theorem xsum_snoc {K : List Nat} {k p : Nat} (hp : K[k]? = some p) (f : Nat → B) : xsum (K.take (k + 1)) f = xsum (K.take k) f ^^^ f p := by
  rw [List.take_add_one, hp, xsum_append]
  simp [xsum]
theorem RowAt.step {U K : List Nat} {r0 row : List B} {i k u p : Nat} (h : RowAt U K r0 row i k) (hn : U.Nodup) (hU : ∀ v ∈ U, v < 26) (hKU : ∀ q ∈ K, q ∉ U) (hu : U[i]? = some u) (hp : K[k]? = some p) :
    RowAt U K r0 (row.set u (row.getD u 0#8 ^^^ part XP U (row.getD p 0#8) p u)) i (k + 1) := by
  have hpU := hKU p (List.mem_of_getElem? hp)
  have hu26 : u < row.length := by rw [h.1]; exact hU u (List.mem_of_getElem? hu)
  refine ⟨by rw [List.length_set, h.1], fun q hq => ?_, fun j v hv => ?_⟩
  · rw [getD_set hu26, if_neg (fun e : q = u => hq (e ▸ List.mem_of_getElem? hu)), h.2.1 q hq]
  · rw [getD_set hu26, h.2.1 p hpU, h.2.2 i u hu, if_neg (Nat.lt_irrefl _), if_pos rfl, h.2.2 j v hv]
    by_cases e : v = u
    · subst e
      have hij : j = i := nodup_at hn hv hu
      subst hij
      rw [if_pos rfl, if_neg (Nat.lt_irrefl _), if_pos rfl, xsum_snoc hp]
    · have hij : j ≠ i := by
        intro q; subst q
        rw [hv] at hu; exact e (Option.some.inj hu)
      rw [if_neg e, if_neg hij, if_neg hij]
theorem part_zero (X : Nat → B) (U : List Nat) (p u : Nat) : part X U 0#8 p u = 0#8 := by unfold part; rw [if_pos rfl]
theorem set_same {r : List B} {u : Nat} : r.set u (r.getD u 0#8) = r := by
  apply List.ext_getElem?
  intro i
  rw [List.getElem?_set]
  by_cases h : u = i
  · subst h
    rw [if_pos rfl]
    by_cases hu : u < r.length
    · rw [if_pos hu, List.getD_eq_getElem?_getD, List.getElem?_eq_getElem hu]; rfl
    · rw [if_neg hu, List.getElem?_eq_none (Nat.le_of_not_lt hu)]
  · rw [if_neg h]
theorem RowAt.skip {U K : List Nat} {r0 row : List B} {i k u p : Nat} (h : RowAt U K r0 row i k) (hn : U.Nodup) (hU : ∀ v ∈ U, v < 26) (hKU : ∀ q ∈ K, q ∉ U) (hu : U[i]? = some u) (hp : K[k]? = some p) (h0 : row.getD p 0#8 = 0#8) : RowAt U K r0 row i (k + 1) := by
  have := h.step hn hU hKU hu hp
  rw [h0, part_zero, BitVec.xor_zero, set_same] at this
  exact this
theorem RowAt.done {rm st sd : Nat} (h : Rm rm) (h1 : 0 < sd) (h2 : sd < 23) {r0 row : List B} (hr : RowAt (lackN rm st sd) (knownN rm st sd) r0 row (lackN rm st sd).length 0) :
    (∀ p ∈ knownN rm st sd, row.getD p 0#8 = r0.getD p 0#8) ∧ ∀ j, j < 26 - rm → ev row (E j) = 0#8 := by
  have hk : ∀ p ∈ knownN rm st sd, row.getD p 0#8 = r0.getD p 0#8 := fun p hp => hr.2.1 p fun q => (lack_mem.mp q).2 hp
  refine ⟨hk, fun j hj => row_ev (st := st) h h1 h2 hr.1 (fun u hu => ?_) hj⟩
  obtain ⟨i, hi, rfl⟩ := List.mem_iff_getElem.mp hu
  rw [hr.2.2 i _ (List.getElem?_eq_getElem hi), if_pos hi]
  exact xsum_congr fun p hp => by rw [hk p hp]
end Mine
end
section
open PySem
set_option Elab.async false
namespace Mine
def pb (bs : List Int) (n : Nat) (bit : Bool) : List Int :=
  let b1 := if bs.length ≤ n / 8 then bs ++ [0] else bs
  if bit = true then b1.set (n / 8) (Builtin.bitOr (b1.getD (n / 8) 0) (Int.fdiv 128 (2 ^ (n % 8)))) else b1
theorem pb_length (bs : List Int) (n : Nat) (bit : Bool) (h : bs.length = (n + 7) / 8) : (pb bs n bit).length = (n + 1 + 7) / 8 := by
  unfold pb
  dsimp only
  split <;> split <;> (try simp only [List.length_set, List.length_append, List.length_cons, List.length_nil]) <;> omega
/-- the buffer after i of the bits -/
def pn (bs : List Int) (n : Nat) (num : Int) (len : Nat) : Nat → List Int
  | 0 => bs
  | i + 1 => pb (pn bs n num len i) (n + i) (Builtin.bitAnd (num.fdiv (2 ^ ((len : Int) - (i : Int) - 1).toNat)) 1 == 1)
theorem pn_length (bs : List Int) (n : Nat) (num : Int) (len : Nat) (h : bs.length = (n + 7) / 8) : ∀ i, (pn bs n num len i).length = (n + i + 7) / 8
  | 0 => h
  | i + 1 => pb_length _ _ _ (pn_length bs n num len h i)
/-- the buffer after i of the octets -/
def pf (bs : List Int) (n : Nat) (ks : List Int) : Nat → List Int
  | 0 => bs
  | i + 1 => pn (pf bs n ks i) (n + 8 * i) (ks.getD i 0) 8 8
theorem pf_length (bs : List Int) (n : Nat) (ks : List Int) (h : bs.length = (n + 7) / 8) : ∀ i, (pf bs n ks i).length = (n + 8 * i + 7) / 8
  | 0 => h
  | i + 1 => pn_length _ _ _ _ (pf_length bs n ks h i) 8
end Mine
end
section
open PySem PySem.W PyProof.Rows PySem.Spec PySem.Calls
set_option Elab.async false
set_option maxRecDepth 100000
set_option maxHeartbeats 0
namespace Mine
local macro_rules | `(tactic| k_room) => `(tactic| ktr_room)
local macro_rules | `(tactic| k_units) => `(tactic| ktr_units)
local macro_rules | `(tactic| k_all) => `(tactic| assumption)
theorem app_list {prog : Program} {w : World} {A : Around} {E : Value → Shared → Prop} {s : Shared} {h₀ : Heap} {L : Addr} {m : Str → Option Value} {news news' : List (Addr × Obj)} {D : Addr} {vs : List Value} {n : Nat} {x : Value} {Q : Value → Shared → Prop} (F : Fr h₀ L s.heap m) (N : News h₀ L s.heap news) (U : Upd D (W.listOf vs.toArray n) (W.listOf (vs ++ [x]).toArray (n + 1)) news news')
    (hsz : vs.toArray.size ≤ sizeLine) (h : ∀ h', Fr h₀ L h' m → News h₀ L h' news' → Q .none { s with heap := h' }) : wpAny (model prog w) A (call (.builtin "list.append") [.ref D, x]) Q E s :=
  append_K F N (by rw [List.push_toArray]; exact U) h hsz
local macro_rules | `(tactic| walk_at "call builtin:list.append") => `(tactic| (k_here; (with_reducible show wpAny _ _ (call (Value.builtin _) [Value.ref _, _]) _ _ _); k_dflt (refine' app_list ?k1 ?k2 ?k3 ?z ?_; (case k1 => k_asm); (case k2 => k_asm); (case k3 => k_upd); (case z => size_fits); k_whole); intro h' F' N'; (try k_sweep)))
theorem app_ints {prog : Program} {w : World} {A : Around} {E : Value → Shared → Prop} {s : Shared} {h₀ : Heap} {L : Addr} {m : Str → Option Value} {news news' : List (Addr × Obj)} {D : Addr} {vs : List Value} {ns : List Int} {n : Nat} {k : Int} {t : Tok} {Q : Value → Shared → Prop} (F : Fr h₀ L s.heap m) (N : News h₀ L s.heap news) (U : Upd D (W.listOf vs.toArray n) (W.listOf (vs ++ [Value.int k t]).toArray (n + 1)) news news') (hi : IntsAre vs ns)
    (hsz : vs.toArray.size ≤ sizeLine) (h : ∀ h', Fr h₀ L h' m → News h₀ L h' news' → IntsAre (vs ++ [.int k t]) (ns ++ [k]) → (ns ++ [k]).length = ns.length + 1 → Q .none { s with heap := h' }) : wpAny (model prog w) A (call (.builtin "list.append") [.ref D, .int k t]) Q E s :=
  app_list F N U hsz fun h' F' N' => h h' F' N' (hi.append (.cons _ _ .nil)) (by simp)
local macro_rules | `(tactic| walk_at "call builtin:list.append") => `(tactic| (k_here; (with_reducible show wpAny _ _ (call (Value.builtin _) [Value.ref _, Value.int _ _]) _ _ _); k_dflt (refine' app_ints ?k1 ?k2 ?k3 ?k4 ?z ?_; (case k1 => k_asm); (case k2 => k_asm); (case k3 => k_upd); (case k4 => with_reducible assumption); (case z => size_fits); k_whole); intro h' F' N' hi' hl'; (try k_sweep)))
abbrev bufD (w : World) (t1 t2 : Tok) (l : Addr) (n : Int) (tn : Tok) : Obj := dictOf [⟨PyData.keyHash w.params (Str.ofString "buffer"), .str (Str.ofString "buffer") t1, .ref l⟩, ⟨PyData.keyHash w.params (Str.ofString "length"), .str (Str.ofString "length") t2, .int n tn⟩] 2
theorem putbit_c : ∀ {w : World} {loose : List Str} {mean : ExcName → Option Value} {mg mb : Str → Option Value} {p : Program} {dp un : Nat} {gd : Option (List Code)} {cn : Str} {cs : Scope} {a : Addr} {ccd : Value} {cl : List (Str × Addr)} {outer : List Env} {A₀ : Around} {base h₀ : Heap} {L : Addr} {m : Str → Option Value} {news : List (Addr × Obj)} {s : Shared} {Q E : Value → Shared → Prop} {b bd l : Addr} {t1 t2 tn : Tok} {vs : List Value} {bs : List Int} {e1 n : Nat} {bit : Bool},
  Below A₀ base outer h₀ → Fr h₀ L s.heap m → (hd.heap_39 w.params).In h₀ → News h₀ L s.heap ((l, listOf vs.toArray e1) :: (b, instObj 533 bd) :: (bd, bufD w t1 t2 l (n : Int) tn) :: news) → Top p loose mean mg mb h₀ → cs.kind = .function → dp + 1 < recursionLimit → un + 8 < cLine →
  IntsAre vs bs → bs.length ≤ 64 → n ≤ 512 → bs.length = (n + 7) / 8 → (∀ p ∈ news, p.1 ≠ l) → (∀ p ∈ news, p.1 ≠ bd) → b ≠ l → bd ≠ l → b ≠ bd → 
  (∀ us h' tn' e' tk', Fr h₀ L h' m → News h₀ L h' ((l, listOf us.toArray e') :: (b, instObj 533 bd) :: (bd, bufD w t1 t2 l ((n + 1 : Nat) : Int) tn') :: news) → IntsAre us (pb bs n bit) → Q .none { s with heap := h', toks := tk' }) →
  wpAny (model PySem.Challenge.rw_bq0025_01.row.prog w) (ktrTop dp un gd cn cs L a ccd cl outer) (call (.ref 530) [.ref b, .bool bit]) Q E s := by
  k_with_none
  w_top off
  k_fill
  intro w loose mean mg mb p dp un gd cn cs a ccd cl outer A₀ base h₀ L m news s Q E b bd l t1 t2 tn vs bs e1 n bit B F X N T hk hdp hun hi hbl hn hl ho1 ho2 hd1 hd2 hd3 hret
  have hd4 : l ≠ bd := hd2.symm
  have hd5 : l ≠ b := hd1.symm
  have hd6 : bd ≠ b := hd3.symm
  have hfd : (n : Int).fdiv 8 = ((n / 8 : Nat) : Int) := by rw [Int.fdiv_eq_ediv_of_nonneg _ (by decide)]; rfl
  have hfm : (n : Int).fmod 8 = ((n % 8 : Nat) : Int) := by rw [Int.fmod_eq_emod_of_nonneg _ (by decide)]; rfl
  refine wpAny_call ?_
  k_dflt cell_enter
  k_steps
  all_goals ((rename News _ _ _ _ => nW); refine hret _ _ _ _ _ (by assumption) nW ?_)
  all_goals (have e8 : n / 8 = ((n : Int).fdiv 8).toNat := by rw [hfd]; rfl)
  all_goals (have e9 : n % 8 = ((n : Int).fmod 8).toNat := by rw [hfm]; rfl)
  · (rename bit = true => hb); unfold pb; dsimp only; rw [if_pos (show bs.length ≤ n / 8 by omega), if_pos hb, e8, e9]; assumption
  · (rename bit = false => hb); unfold pb; dsimp only; rw [if_pos (show bs.length ≤ n / 8 by omega), if_neg (show ¬ bit = true by rw [hb]; decide)]; assumption
  · (rename bit = true => hb); unfold pb; dsimp only; rw [if_neg (show ¬ bs.length ≤ n / 8 by omega), if_pos hb, e8, e9]; assumption
  · (rename bit = false => hb); unfold pb; dsimp only; rw [if_neg (show ¬ bs.length ≤ n / 8 by omega), if_neg (show ¬ bit = true by rw [hb]; decide)]; assumption
end Mine
end
section
open PySem PySem.W PyProof.Rows PySem.Spec PySem.Calls PyProof.V
set_option Elab.async false
set_option maxRecDepth 100000
namespace Mine
/-- a turn's end of a loop that stores no local name but its own, and changes its ledger -/
def LedPost (h₀ : Heap) (L : Addr) (x : Str) (m₀ : Str → Option Value) (J : List (Addr × Obj) → Prop) (own : List (Addr × Obj)) (adr : List Addr) (s₁ : Shared) (Q : Flow → Shared → Prop) (f : Flow) (s₂ : Shared) : Prop :=
  match f with
  | .ret v => Q (.ret v) s₂
  | .brk => Q .next s₂
  | _ => InvEndN h₀ L (fun m' nx => (∃ v', m' = fun y => if y = x then some v' else m₀ y) ∧ J nx) own adr s₁ s₂
theorem InvEnd.app {h₀ : Heap} {L : Addr} {J : (Str → Option Value) → List (Addr × Obj) → Prop} {m' : Str → Option Value} {own nx : List (Addr × Obj)} {adr : List Addr} {s₁ : Shared} {h' : Heap} {tk : Nat} (F : Fr h₀ L h' m') (N : News h₀ L h' (nx ++ own)) (hj : J m' nx) (ha : nx.map (·.1) = adr) : InvEndN h₀ L J own adr s₁ { s₁ with heap := h', toks := tk } :=
  InvEndN.intro F N hj ha (fun _ hp => List.mem_append_left _ hp) (fun _ hp => List.mem_append_right _ hp)
theorem InvEnd.c1 {h₀ : Heap} {L : Addr} {J : (Str → Option Value) → List (Addr × Obj) → Prop} {m' : Str → Option Value} {own nx : List (Addr × Obj)} {a : Addr × Obj} {adr : List Addr} {s₁ : Shared} {h' : Heap} {tk : Nat} (F : Fr h₀ L h' m') (N : News h₀ L h' (a :: (nx ++ own))) (hj : J m' (a :: nx)) (ha : (a :: nx).map (·.1) = adr) : InvEndN h₀ L J own adr s₁ { s₁ with heap := h', toks := tk } :=
  InvEnd.app F N hj ha
theorem InvEnd.c2 {h₀ : Heap} {L : Addr} {J : (Str → Option Value) → List (Addr × Obj) → Prop} {m' : Str → Option Value} {own nx : List (Addr × Obj)} {a b : Addr × Obj} {adr : List Addr} {s₁ : Shared} {h' : Heap} {tk : Nat} (F : Fr h₀ L h' m') (N : News h₀ L h' (a :: b :: (nx ++ own))) (hj : J m' (a :: b :: nx)) (ha : (a :: b :: nx).map (·.1) = adr) : InvEndN h₀ L J own adr s₁ { s₁ with heap := h', toks := tk } :=
  InvEnd.app F N hj ha
theorem InvEnd.c3 {h₀ : Heap} {L : Addr} {J : (Str → Option Value) → List (Addr × Obj) → Prop} {m' : Str → Option Value} {own nx : List (Addr × Obj)} {a b c : Addr × Obj} {adr : List Addr} {s₁ : Shared} {h' : Heap} {tk : Nat} (F : Fr h₀ L h' m') (N : News h₀ L h' (a :: b :: c :: (nx ++ own))) (hj : J m' (a :: b :: c :: nx)) (ha : (a :: b :: c :: nx).map (·.1) = adr) : InvEndN h₀ L J own adr s₁ { s₁ with heap := h', toks := tk } :=
  InvEnd.app F N hj ha
/-- the same, the body storing one more name -/
def LedPost2 (h₀ : Heap) (L : Addr) (x y : Str) (m₀ : Str → Option Value) (J : List (Addr × Obj) → Prop) (own : List (Addr × Obj)) (adr : List Addr) (s₁ : Shared) (Q : Flow → Shared → Prop) (f : Flow) (s₂ : Shared) : Prop :=
  match f with
  | .ret v => Q (.ret v) s₂
  | .brk => Q .next s₂
  | _ => InvEndN h₀ L (fun m' nx => (∀ z, z ≠ x → z ≠ y → m' z = m₀ z) ∧ J nx) own adr s₁ s₂
section
variable {prog : Program} {w : World} {A : Around} {E : Value → Shared → Prop} {s : Shared} {env : Env} {h₀ : Heap} {x : Str} {body : List Stmt} {Q : Flow → Shared → Prop}
theorem rng_led {r : Addr} {t₀ u₀ v₀ : Tok} {n : Nat} {m₀ : Str → Option Value} {news : List (Addr × Obj)} (J : Nat → List (Addr × Obj) → Prop)
    (hh : A.handled = none) (hr : IsRange s.heap r 0 (n : Int) 1 t₀ u₀ v₀) (hn0 : 0 < n) (hnb : n < 2 ^ 20) (F : Fr h₀ env.locals s.heap m₀) (N : News h₀ env.locals s.heap news) (hj : J 0 news)
    (turn : ∀ (i : Nat) t nx h tk own, i < n → nx.map (·.1) = news.map (·.1) → OwnOff own (news.map (·.1)) → J i nx → Fr h₀ env.locals h (fun y => if y = x then some (.int (i : Int) t) else m₀ y) → News h₀ env.locals h (nx ++ own) →
      wpAny (model prog w) A (execs body env) (LedPost h₀ env.locals x m₀ (J (i + 1)) own (news.map (·.1)) { s with heap := h, toks := tk } Q) E { s with heap := h, toks := tk })
    (done : ∀ v nx h tk, J n nx → Fr h₀ env.locals h (fun y => if y = x then some v else m₀ y) → News h₀ env.locals h nx → Q .next { s with heap := h, toks := tk }) :
    wpAny (model prog w) A (pyIter (.ref r)) (fun it s₂ => LoopAtV prog w A h₀ env x body Q E it s₂) E s := by
  have hsz : Builtin.Range.rangeSize 0 (n : Int) 1 = (n : Int) := by
    have := rangeSize_nat (0 : Int) n
    simpa using this
  have hs : Builtin.Range.small 0 (n : Int) 1 = true := small_one (by omega) (by omega) (by omega) (by omega)
  refine my_range (fun i m nx => ((i = 0 ∧ m = m₀) ∨ (0 < i ∧ ∃ v, m = fun y => if y = x then some v else m₀ y)) ∧ J i nx) hh hr hs hsz F N ⟨.inl ⟨rfl, rfl⟩, hj⟩ ?_ ?_
  · rintro i t m₁ nx h tk own hi ha hoff ⟨hm, hj'⟩ F₁ N₁
    have em : (fun y => if y = x then some (Value.int (0 + (i : Int)) t) else m₁ y) = fun y => if y = x then some (Value.int (i : Int) t) else m₀ y := by
      rw [Int.zero_add]
      rcases hm with ⟨_, rfl⟩ | ⟨_, t', rfl⟩
      · rfl
      · funext y
        by_cases hy : y = x <;> simp [hy]
    rw [em] at F₁
    refine wpAny_mono (turn i t nx h tk own hi ha hoff hj' F₁ N₁) (fun f s₂ p => ?_) fun _ _ e => e
    have up : InvEndN h₀ env.locals (fun m' nx => (∃ v', m' = fun y => if y = x then some v' else m₀ y) ∧ J (i + 1) nx) own (news.map (·.1)) { s with heap := h, toks := tk } s₂ →
        InvEndN h₀ env.locals (fun m nx => ((i + 1 = 0 ∧ m = m₀) ∨ (0 < i + 1 ∧ ∃ v, m = fun y => if y = x then some v else m₀ y)) ∧ J (i + 1) nx) own (news.map (·.1)) { s with heap := h, toks := tk } s₂ := by
      rintro ⟨h', tk', m', news', nx', e, F', N', hn', ho', ha, hm', hg⟩
      exact ⟨h', tk', m', news', nx', e, F', N', hn', ho', ha, .inr ⟨Nat.succ_pos _, hm'⟩, hg⟩
    cases f with
    | ret v => exact p
    | brk => exact p
    | next => exact up p
    | cont => exact up p
  · rintro m₁ nx h tk ⟨hm, hJ⟩ F₁ N₁
    rcases hm with ⟨h0, _⟩ | ⟨_, v, rfl⟩
    · omega
    · exact done v nx h tk hJ F₁ N₁
theorem rng_led2 {r : Addr} {t₀ u₀ v₀ : Tok} {n : Nat} {y : Str} {m₀ : Str → Option Value} {news : List (Addr × Obj)} (J : Nat → List (Addr × Obj) → Prop)
    (hh : A.handled = none) (hr : IsRange s.heap r 0 (n : Int) 1 t₀ u₀ v₀) (hnb : n < 2 ^ 20) (F : Fr h₀ env.locals s.heap m₀) (N : News h₀ env.locals s.heap news) (hj : J 0 news)
    (turn : ∀ (i : Nat) t vy nx h tk own, i < n → nx.map (·.1) = news.map (·.1) → OwnOff own (news.map (·.1)) → J i nx → Fr h₀ env.locals h (fun z => if z = x then some (.int (i : Int) t) else if z = y then vy else m₀ z) → News h₀ env.locals h (nx ++ own) →
      wpAny (model prog w) A (execs body env) (LedPost2 h₀ env.locals x y m₀ (J (i + 1)) own (news.map (·.1)) { s with heap := h, toks := tk } Q) E { s with heap := h, toks := tk })
    (done : ∀ vx vy nx h tk, J n nx → Fr h₀ env.locals h (fun z => if z = x then vx else if z = y then vy else m₀ z) → News h₀ env.locals h nx → Q .next { s with heap := h, toks := tk }) :
    wpAny (model prog w) A (pyIter (.ref r)) (fun it s₂ => LoopAtV prog w A h₀ env x body Q E it s₂) E s := by
  have hsz : Builtin.Range.rangeSize 0 (n : Int) 1 = (n : Int) := by
    have := rangeSize_nat (0 : Int) n
    simpa using this
  have hs : Builtin.Range.small 0 (n : Int) 1 = true := small_one (by omega) (by omega) (by omega) (by omega)
  have ext : ∀ m : Str → Option Value, (∀ z, z ≠ x → z ≠ y → m z = m₀ z) → m = fun z => if z = x then m x else if z = y then m y else m₀ z := fun m h => by
    funext z
    by_cases h1 : z = x
    · simp [h1]
    · by_cases h2 : z = y
      · subst h2; simp [h1]
      · simp [h1, h2, h z h1 h2]
  refine my_range (fun i m nx => (∀ z, z ≠ x → z ≠ y → m z = m₀ z) ∧ J i nx) hh hr hs hsz F N ⟨fun _ _ _ => rfl, hj⟩ ?_ ?_
  · rintro i t m₁ nx h tk own hi ha hoff ⟨hm, hj'⟩ F₁ N₁
    have em : (fun z => if z = x then some (Value.int (0 + (i : Int)) t) else m₁ z) = fun z => if z = x then some (Value.int (i : Int) t) else if z = y then m₁ y else m₀ z := by
      rw [Int.zero_add]
      funext z
      by_cases h1 : z = x
      · simp [h1]
      · by_cases h2 : z = y
        · subst h2; simp [h1]
        · simp [h1, h2, hm z h1 h2]
    rw [em] at F₁
    refine wpAny_mono (turn i t (m₁ y) nx h tk own hi ha hoff hj' F₁ N₁) (fun f s₂ p => ?_) fun _ _ e => e
    cases f with
    | ret v => exact p
    | brk => exact p
    | next => exact p
    | cont => exact p
  · rintro m₁ nx h tk ⟨hm, hJ⟩ F₁ N₁
    rw [ext m₁ hm] at F₁
    exact done _ _ nx h tk hJ F₁ N₁
theorem byt_led {b : Array UInt8} {tb : Tok} {ks : List Int} {m₀ : Str → Option Value} {news : List (Addr × Obj)} (J : Nat → List (Addr × Obj) → Prop)
    (hk : KBw.bInts b = ks) (hh : A.handled = none) (hn0 : 0 < ks.length) (F : Fr h₀ env.locals s.heap m₀) (N : News h₀ env.locals s.heap news) (hj : J 0 news)
    (turn : ∀ (i : Nat) k t nx h tk own, ks[i]? = some k → 0 ≤ k → k < 256 → OwnOff own (news.map (·.1)) → J i nx → Fr h₀ env.locals h (fun y => if y = x then some (.int k t) else m₀ y) → News h₀ env.locals h (nx ++ own) →
      wpAny (model prog w) A (execs body env) (LedPost h₀ env.locals x m₀ (J (i + 1)) own (news.map (·.1)) { s with heap := h, toks := tk } Q) E { s with heap := h, toks := tk })
    (done : ∀ v nx h tk, J ks.length nx → Fr h₀ env.locals h (fun y => if y = x then some v else m₀ y) → News h₀ env.locals h nx → Q .next { s with heap := h, toks := tk }) :
    wpAny (model prog w) A (pyIter (.bytes b tb)) (fun it s₂ => LoopAtV prog w A h₀ env x body Q E it s₂) E s := by
  refine KBmo.iter_bytesN (fun i m nx => ((i = 0 ∧ m = m₀) ∨ (0 < i ∧ ∃ v, m = fun y => if y = x then some v else m₀ y)) ∧ J i nx) hk hh F N ⟨.inl ⟨rfl, rfl⟩, hj⟩ ?_ ?_
  · rintro i k t m₁ nx h tk own hi hk0 hk1 hoff ⟨hm, hj'⟩ F₁ N₁
    have em : (fun y => if y = x then some (Value.int k t) else m₁ y) = fun y => if y = x then some (Value.int k t) else m₀ y := by
      rcases hm with ⟨_, rfl⟩ | ⟨_, t', rfl⟩
      · rfl
      · funext y
        by_cases hy : y = x <;> simp [hy]
    rw [em] at F₁
    refine wpAny_mono (turn i k t nx h tk own hi hk0 hk1 hoff hj' F₁ N₁) (fun f s₂ p => ?_) fun _ _ e => e
    have up : InvEndN h₀ env.locals (fun m' nx => (∃ v', m' = fun y => if y = x then some v' else m₀ y) ∧ J (i + 1) nx) own (news.map (·.1)) { s with heap := h, toks := tk } s₂ →
        InvEndN h₀ env.locals (fun m nx => ((i + 1 = 0 ∧ m = m₀) ∨ (0 < i + 1 ∧ ∃ v, m = fun y => if y = x then some v else m₀ y)) ∧ J (i + 1) nx) own (news.map (·.1)) { s with heap := h, toks := tk } s₂ := by
      rintro ⟨h', tk', m', news', nx', e, F', N', hn', ho', ha, hm', hg⟩
      exact ⟨h', tk', m', news', nx', e, F', N', hn', ho', ha, .inr ⟨Nat.succ_pos _, hm'⟩, hg⟩
    cases f with
    | ret v => exact p
    | brk => exact p
    | next => exact up p
    | cont => exact up p
  · rintro m₁ nx h tk ⟨hm, hJ⟩ F₁ N₁
    rcases hm with ⟨h0, _⟩ | ⟨_, v, rfl⟩
    · omega
    · exact done v nx h tk hJ F₁ N₁
end
end Mine
end
section
open PySem PySem.W PyProof.Rows PySem.Spec PySem.Calls
set_option Elab.async false
set_option maxRecDepth 100000
set_option maxHeartbeats 0
namespace Mine
local macro_rules | `(tactic| k_room) => `(tactic| ktr_room)
local macro_rules | `(tactic| k_units) => `(tactic| ktr_units)
local macro_rules | `(tactic| k_all) => `(tactic| assumption)
local macro_rules | `(tactic| walk_at "call ref") => `(tactic| (k_here; (with_reducible show wpAny _ _ (call (Value.ref 530) [Value.ref _, Value.bool _]) _ _ _); k_dflt (refine' putbit_c ?B ?F ?X ?N ?T ?hk ?hd ?hu ?p1 ?p2 ?p3 ?p4 ?p5 ?p6 ?p7 ?p8 ?p9 ?_; (case B => k_asm); (case F => k_asm); (case X => k_asm); (case N => k_asm); (case T => k_asm); (case hk => first | exact rfl | assumption); (case hd => ktr_room); (case hu => ktr_units); (case p1 => assumption); (case p2 => omega); (case p3 => omega); (case p4 => omega); (case p5 => k_all); (case p6 => k_all); (case p7 => assumption); (case p8 => assumption); (case p9 => assumption); k_whole); intro us9 h9 t9 e9 tk9 F9 N9 I9; (try k_fold)))
theorem put_c : ∀ {w : World} {loose : List Str} {mean : ExcName → Option Value} {mg mb : Str → Option Value} {p : Program} {dp un : Nat} {gd : Option (List Code)} {cn : Str} {cs : Scope} {a : Addr} {ccd : Value} {cl : List (Str × Addr)} {outer : List Env} {A₀ : Around} {base h₀ : Heap} {L : Addr} {m : Str → Option Value} {news : List (Addr × Obj)} {s : Shared} {Q E : Value → Shared → Prop} {b bd l : Addr} {t1 t2 tn tm tq : Tok} {vs : List Value} {bs : List Int} {e1 n len : Nat} {num : Int},
  Below A₀ base outer h₀ → Fr h₀ L s.heap m → (hd.heap_39 w.params).In h₀ → News h₀ L s.heap ((l, listOf vs.toArray e1) :: (b, instObj 533 bd) :: (bd, bufD w t1 t2 l (n : Int) tn) :: news) → Top p loose mean mg mb h₀ → cs.kind = .function → dp + 2 < recursionLimit → un + 20 < cLine →
  IntsAre vs bs → bs.length ≤ 40 → n ≤ 320 → bs.length = (n + 7) / 8 → 0 ≤ num → num < 65536 → 0 < len → len ≤ 16 → (∀ p ∈ news, p.1 ≠ l) → (∀ p ∈ news, p.1 ≠ bd) → b ≠ l → bd ≠ l → b ≠ bd → 
  (∀ us h' tn' e' tk', Fr h₀ L h' m → News h₀ L h' ((l, listOf us.toArray e') :: (b, instObj 533 bd) :: (bd, bufD w t1 t2 l ((n + len : Nat) : Int) tn') :: news) → IntsAre us (pn bs n num len len) → Q .none { s with heap := h', toks := tk' }) →
  wpAny (model PySem.Challenge.rw_bq0025_01.row.prog w) (ktrTop dp un gd cn cs L a ccd cl outer) (call (.ref 516) [.ref b, .int num tm, .int (len : Int) tq]) Q E s := by
  k_with_none
  w_top off
  k_fill
  intro w loose mean mg mb p dp un gd cn cs a ccd cl outer A₀ base h₀ L m news s Q E b bd l t1 t2 tn tm tq vs bs e1 n len num B F X N T hk hdp hun hi hbl hn hl hm0 hm1 hl0 hl1 ho1 ho2 hd1 hd2 hd3 hret
  refine wpAny_call ?_
  k_dflt cell_enter
  k_with "pyIter ref" => ((with_reducible show wpAny _ _ (pyIter (Value.ref _)) (fun it s₂ => LoopAtV _ _ _ _ _ _ _ _ _ it s₂) _ _); (rename Fr _ _ _ _ => lF'); (rename News _ _ _ _ => lN'); (rename IsRange _ _ _ _ _ _ _ _ => rgX); (with_unfolding_all refine' rng_led (fun i nx => ∃ vs' e' tn', nx = (l, listOf (List.toArray vs') e') :: (b, instObj 533 bd) :: (bd, bufD w t1 t2 l ((n + i : Nat) : Int) tn') :: news ∧ IntsAre vs' (pn bs n num len i)) (by rfl) rgX (by omega) (by omega) lF' lN' ⟨vs, e1, tn, rfl, hi⟩ ?turn ?done); (case' turn => (rintro i t nx h9 tk9 own hilt ha hoff ⟨vs', e', tn', rfl, hI⟩ F9 N9; have hlen := pn_length bs n num len hl i; have o1 : ∀ p ∈ news ++ own, p.1 ≠ l := (fun p hp => (List.mem_append.mp hp).elim (ho1 p) (hoff.ne (.head _) p)); have o2 : ∀ p ∈ news ++ own, p.1 ≠ bd := (fun p hp => (List.mem_append.mp hp).elim (ho2 p) (hoff.ne (.tail _ (.tail _ (.head _))) p)); clear lF' lN'; (try simp only [List.cons_append] at N9))); (case' done => (rintro v nx h9 tk9 ⟨vs', e', tn', rfl, hI⟩ F9 N9; clear lF' lN')); (all_goals (try k_fold)))
  k_with "LedPost" => (dsimp only [LedPost])
  k_steps
  · (rename News _ _ _ _ => nW); exact hret _ _ _ _ _ (by assumption) nW hI
  · (rename News _ _ _ _ => nW); (rename IntsAre _ _ => iW); (rename Fr _ _ _ _ => fW)
    exact InvEnd.c3 fW nW ⟨⟨_, rfl⟩, _, _, _, rfl, iW⟩ rfl
end Mine
end
section
open PySem PySem.W PyProof.Rows PySem.Spec PySem.Calls
set_option Elab.async false
set_option maxRecDepth 100000
set_option maxHeartbeats 0
namespace Mine
local macro_rules | `(tactic| k_room) => `(tactic| ktr_room)
local macro_rules | `(tactic| k_units) => `(tactic| ktr_units)
local macro_rules | `(tactic| k_all) => `(tactic| assumption)
local macro_rules | `(tactic| walk_at "call ref") => `(tactic| (k_here; (with_reducible show wpAny _ _ (call (Value.ref 516) [Value.ref _, Value.int _ _, Value.int _ _]) _ _ _); k_dflt (refine' put_c (n := _) (len := 8) ?B ?F ?X ?N ?T ?hk ?hd ?hu ?p1 ?p2 ?p3 ?p4 ?q1 ?q2 ?q3 ?q4 ?p5 ?p6 ?p7 ?p8 ?p9 ?_; (case B => k_asm); (case F => k_asm); (case X => k_asm); (case N => k_asm); (case T => k_asm); (case hk => first | exact rfl | assumption); (case hd => ktr_room); (case hu => ktr_units); (case p1 => assumption); (case p2 => omega); (case p3 => omega); (case p4 => omega); (case q1 => omega); (case q2 => omega); (case q3 => omega); (case q4 => omega); (case p5 => k_all); (case p6 => k_all); (case p7 => assumption); (case p8 => assumption); (case p9 => assumption); k_whole); intro us9 h9 t9 e9 tk9 F9 N9 I9; (try k_fold)))
local macro_rules | `(tactic| walk_at "pyIter bytes") => `(tactic| ((with_reducible show wpAny _ _ (pyIter (Value.bytes _ _)) _ _ _); refine Halt.go ?_))
abbrev qrD (w : World) (t1 t2 tm : Tok) (b : Array UInt8) (tb : Tok) : Obj := dictOf [⟨PyData.keyHash w.params (Str.ofString "mode"), .str (Str.ofString "mode") t1, .int 4 tm⟩, ⟨PyData.keyHash w.params (Str.ofString "data"), .str (Str.ofString "data") t2, .bytes b tb⟩] 2
theorem write_c : ∀ {w : World} {loose : List Str} {mean : ExcName → Option Value} {mg mb : Str → Option Value} {p : Program} {dp un : Nat} {gd : Option (List Code)} {cn : Str} {cs : Scope} {a : Addr} {ccd : Value} {cl : List (Str × Addr)} {outer : List Env} {A₀ : Around} {base h₀ : Heap} {L : Addr} {m : Str → Option Value} {news : List (Addr × Obj)} {s : Shared} {Q E : Value → Shared → Prop} {b bd l q qd : Addr} {t1 t2 tn s1 s2 s3 s4 : Tok} {vs : List Value} {bs ks : List Int} {by' : Array UInt8} {e1 n : Nat},
  Below A₀ base outer h₀ → Fr h₀ L s.heap m → (hd.heap_39 w.params).In h₀ → News h₀ L s.heap ((l, listOf vs.toArray e1) :: (b, instObj 533 bd) :: (bd, bufD w t1 t2 l (n : Int) tn) :: (q, instObj 479 qd) :: (qd, qrD w s1 s2 s3 by' s4) :: news) → Top p loose mean mg mb h₀ → cs.kind = .function → dp + 3 < recursionLimit → un + 30 < cLine →
  IntsAre vs bs → n ≤ 64 → bs.length = (n + 7) / 8 → KBw.bInts by' = ks → 0 < ks.length → ks.length ≤ 24 → (∀ p ∈ (q, instObj 479 qd) :: (qd, qrD w s1 s2 s3 by' s4) :: news, p.1 ≠ l) → (∀ p ∈ (q, instObj 479 qd) :: (qd, qrD w s1 s2 s3 by' s4) :: news, p.1 ≠ bd) → b ≠ l → bd ≠ l → b ≠ bd → 
  (∀ us h' tn' e' tk', Fr h₀ L h' m → News h₀ L h' ((l, listOf us.toArray e') :: (b, instObj 533 bd) :: (bd, bufD w t1 t2 l ((n + 8 * ks.length : Nat) : Int) tn') :: (q, instObj 479 qd) :: (qd, qrD w s1 s2 s3 by' s4) :: news) → IntsAre us (pf bs n ks ks.length) → Q .none { s with heap := h', toks := tk' }) →
  wpAny (model PySem.Challenge.rw_bq0025_01.row.prog w) (ktrTop dp un gd cn cs L a ccd cl outer) (call (.ref 469) [.ref q, .ref b]) Q E s := by
  k_with_none
  w_top off
  k_fill
  intro w loose mean mg mb p dp un gd cn cs a ccd cl outer A₀ base h₀ L m news s Q E b bd l q qd t1 t2 tn s1 s2 s3 s4 vs bs ks by' e1 n B F X N T hk hdp hun hi hn hl hby hk0 hk1 ho1 ho2 hd1 hd2 hd3 hret
  refine wpAny_call ?_
  k_dflt cell_enter
  k_with "LedPost" => (dsimp only [LedPost])
  k_steps
  unfold Halt
  (rename Fr _ _ _ _ => lF')
  (rename News _ _ _ _ => lN')
  (with_unfolding_all refine' byt_led (fun i nx => ∃ vs' e' tn', nx = (l, listOf (List.toArray vs') e') :: (b, instObj 533 bd) :: (bd, bufD w t1 t2 l ((n + 8 * i : Nat) : Int) tn') :: (q, instObj 479 qd) :: (qd, qrD w s1 s2 s3 by' s4) :: news ∧ IntsAre vs' (pf bs n ks i)) hby (by rfl) hk0 lF' lN' ⟨vs, e1, tn, rfl, hi⟩ ?turn ?done)
  (case' turn => (rintro i k t nx h9 tk9 own hki hk2 hk3 hoff ⟨vs', e', tn', rfl, hI⟩ F9 N9; have hilt : i < ks.length := (List.getElem?_eq_some_iff.mp hki).1; have hlen := pf_length bs n ks hl i; have o1 : ∀ p ∈ (q, instObj 479 qd) :: (qd, qrD w s1 s2 s3 by' s4) :: (news ++ own), p.1 ≠ l := (fun p hp => (List.mem_append (s := (q, instObj 479 qd) :: (qd, qrD w s1 s2 s3 by' s4) :: news).mp hp).elim (ho1 p) (hoff.ne (.head _) p)); have o2 : ∀ p ∈ (q, instObj 479 qd) :: (qd, qrD w s1 s2 s3 by' s4) :: (news ++ own), p.1 ≠ bd := (fun p hp => (List.mem_append (s := (q, instObj 479 qd) :: (qd, qrD w s1 s2 s3 by' s4) :: news).mp hp).elim (ho2 p) (hoff.ne (.tail _ (.tail _ (.head _))) p)); clear lF' lN'; (try simp only [List.cons_append] at N9)))
  (case' done => (rintro v nx h9 tk9 ⟨vs', e', tn', rfl, hI⟩ F9 N9; clear lF' lN'))
  (all_goals (try k_fold))
  k_steps
  · (rename News _ _ _ _ => nW); exact hret _ _ _ _ _ (by assumption) nW hI
  · (rename News _ _ _ _ => nW); (rename IntsAre _ _ => iW); (rename Fr _ _ _ _ => fW)
    have e9 : ks.getD i 0 = k := by rw [List.getD_eq_getElem?_getD, hki]; rfl
    exact InvEnd.c3 (nx := (q, instObj 479 qd) :: (qd, qrD w s1 s2 s3 by' s4) :: news) fW nW ⟨⟨_, rfl⟩, _, _, _, rfl, by unfold pf; rw [e9]; exact iW⟩ rfl
end Mine
end
section
open PySem PySem.W PyProof.Rows PySem.Spec PySem.Calls PyProof.V
set_option Elab.async false
set_option maxRecDepth 100000
set_option maxHeartbeats 4000000
namespace Mine
abbrev sliceObj (a b c : Value) : Obj := { cls := .type "slice", data := .fields #[a, b, c] }
section
variable {prog : Program} {w : World} {A : Around} {E : Value → Shared → Prop} {s : Shared} {h₀ : Heap} {L : Addr} {m : Str → Option Value} {news : List (Addr × Obj)}
theorem item_slice {value slice : PySem.Expr} {l sl : Addr} {its : Array Value} {e : Nat} {vl vu vk : Value} {lo hi st : Option Int} {ops : List Value} {Q : Value → Shared → Prop}
    (F : Fr h₀ L s.heap m) (N : News h₀ L s.heap news) (hl : (l, W.listOf its e) ∈ news) (hs : (sl, sliceObj vl vu vk) ∈ news) (pl : IsPart vl lo) (pu : IsPart vu hi) (pk : IsPart vk st) (h0 : st ≠ some 0) (hsz : its.size ≤ sizeLine)
    (h : ∀ D h', Fr h₀ L h' m → News h₀ L h' ((D, W.listOf (slicePick its lo hi st) 0) :: news) → (∀ p ∈ news, p.1 < D) → Q (.ref D) { s with heap := h' })
    (hsub : subscripted slice false (.ref l) (.ref sl) = operate ops (getItem (.ref l) (.ref sl))) :
    wpAny (model prog w) A (subscriptTail value slice (.ref l) (.ref sl)) Q E s := by
  have il : s.heap.IsList l its := ⟨_, (N _ hl).1, rfl, _, rfl⟩
  refine tail_any il.typeIs slot_list_getitem.lookup (wpAny_getItem_list_slice il ⟨_, (N _ hs).1, rfl, rfl⟩ pl pu pk h0 ?_ hsz) hsub
  exact h _ _ (F.push _) (News.push F N _ rfl) (fun q hq => Heap.lt_size (N q hq).1)
end
end Mine
end
section
open PySem PySem.W PyProof.Rows PySem.Spec PySem.Calls PyProof.V
set_option Elab.async false
set_option maxRecDepth 100000
set_option maxHeartbeats 4000000
namespace Mine
section
variable {prog : Program} {w : World} {A : Around} {E : Value → Shared → Prop} {s : Shared}
theorem sliceApplied_w {sl : Addr} {a b : Int} {n : Nat} {u v : Tok} {Q : Int × Int × Nat → Shared → Prop} (hs : s.heap.IsSliceOf sl (.int a u) (.int b v) .none) (ha : Builtin.Slice.sliceAdjust (some a) (some b) 1 (n : Int) = (0, (n : Int)))
    (hp : Builtin.Slice.slicePlaces 0 (n : Int) 1 = n) (h : Q (0, 1, n) s) :
    wpAny (model prog w) A (Builtin.Slice.sliceApplied (.ref sl) (pure (n : Int))) Q E s := by
  obtain ⟨os, hos, hcs, hds⟩ := id hs
  unfold Builtin.Slice.sliceApplied Builtin.Slice.sliceFields
  refine wpAny_bind (wpAny_bind (wpAny_field hos hds (x := .int a u) rfl (wpAny_bind (wpAny_field hos hds (x := .int b v) rfl (wpAny_bind (wpAny_field hos hds (x := .none) rfl (wpAny_pure ?_)))))))
  refine wpAny_bind (slicePart_none ?_)
  show wpAny _ _ (if ((1 : Int) == 0) = true then _ else _) _ _ s
  rw [if_neg (by decide)]
  refine wpAny_bind (slicePart_int (wpAny_bind (slicePart_int (wpAny_bind (wpAny_pure ?_)))))
  show wpAny _ _ (match Builtin.Slice.sliceAdjust (some a) (some b) 1 (n : Int) with | (lo, hi) => pure (lo, (1 : Int), Builtin.Slice.slicePlaces lo hi 1)) _ _ s
  rw [ha]
  show wpAny _ _ (pure ((0 : Int), (1 : Int), Builtin.Slice.slicePlaces 0 (n : Int) 1)) _ _ s
  rw [hp]
  exact wpAny_pure h
theorem getItem_tuple_w {t sl : Addr} {items : Array Value} {a b : Int} {u v : Tok} {Q : Value → Shared → Prop} (ht : IsTup s.heap t items) (hs : s.heap.IsSliceOf sl (.int a u) (.int b v) .none) (ha : Builtin.Slice.sliceAdjust (some a) (some b) 1 (items.size : Int) = (0, (items.size : Int)))
    (hp : Builtin.Slice.slicePlaces 0 (items.size : Int) 1 = items.size) (h : Q (.ref t) s) : wpAny (model prog w) A (getItem (.ref t) (.ref sl)) Q E s := by
  obtain ⟨os, hos, hcs, hds⟩ := id hs
  have hTs : s.TypeIs (.ref sl) "slice" := ⟨os, hos, hcs⟩
  unfold getItem
  refine wpAny_holding ?_
  refine wpAny_bind (wpAny_sequenceKey ht.typeIs (by decide) ?_)
  refine wpAny_bind (wpAny_callSpecial?_slot (name := Str.ofString "__getitem__") ht.typeIs slot_tuple_getitem
    (wpAny_call_entry slot_tuple_getitem ht.typeIs entry_tuple_getitem ?_ (args_tuple_getitem _ _)))
  show wpAny _ _ (Builtin.Tuple.tupleItemsOf (.ref t) >>= _) _ _ s
  refine wpAny_bind (tupleItemsOf_ ht ?_)
  refine wpAny_bind (wpAny_typeOf hTs ?_)
  rw [if_pos (by decide)]
  refine wpAny_bind (sliceApplied_w hs ha hp ?_)
  have hyes : ((0 : Int) == 0 && (1 : Int) == 1 && items.size == items.size) = true := by simp
  show wpAny _ _ (if ((0 : Int) == 0 && (1 : Int) == 1 && items.size == items.size) = true then _ else _) _ _ s
  rw [if_pos hyes]
  refine wpAny_bind (m := Builtin.Tuple.tupleIsExact (.ref t)) (wpAny_bind (wpAny_typeOf ht.typeIs (wpAny_pure ?_)))
  rw [if_pos (by decide)]
  first
    | exact wpAny_bind (wpAny_rule (wpAny_bind (wpAny_pure (wpAny_pure ⟨_, rfl, wpAny_pure h⟩))))
    | exact wpAny_bind (wpAny_rule (wpAny_bind (wpAny_pure ⟨_, rfl, wpAny_pure h⟩)))
    | exact wpAny_bind (wpAny_rule (wpAny_pure ⟨_, rfl, wpAny_pure h⟩))
end
section
variable {prog : Program} {w : World} {A : Around} {E : Value → Shared → Prop} {s : Shared} {h₀ : Heap} {L : Addr} {m : Str → Option Value}
theorem slice_tuple_w {value slice : PySem.Expr} {t : Addr} {items : Array Value} {a b : Int} {u v : Tok} {Q : Value → Shared → Prop}
    (ht : IsTup s.heap t items) (ha : Builtin.Slice.sliceAdjust (some a) (some b) 1 (items.size : Int) = (0, (items.size : Int))) (hp : Builtin.Slice.slicePlaces 0 (items.size : Int) 1 = items.size)
    (h : Q (.ref t) { s with heap := s.heap.push (sliceObj (.int a u) (.int b v) .none) })
    (hs : subscripted slice false (.ref t) (.ref s.heap.objs.size) = operate [.ref s.heap.objs.size, .ref t] (getItem (.ref t) (.ref s.heap.objs.size)))
    (hg : ∀ r, letTemporaryGo value (.ref t) r = pure ()) :
    wpAny (model prog w) A (subscriptTail value slice (.ref t) (.ref s.heap.objs.size)) Q E { s with heap := s.heap.push (sliceObj (.int a u) (.int b v) .none) } := by
  have ht' : IsTup (s.heap.push (sliceObj (.int a u) (.int b v) .none)) t items := ht.keeps fun _ _ e => Heap.get?_push_of_some _ e
  exact subscriptTail_ops (s := { s with heap := s.heap.push (sliceObj (.int a u) (.int b v) .none) }) ht'.typeIs slot_tuple_getitem.lookup
    (getItem_tuple_w ht' (Heap.IsSliceOf.new ..) ha hp h) hs hg
theorem slice_tuple_wN {news : List (Addr × Obj)} {value slice : PySem.Expr} {t : Addr} {items : Array Value} {a b : Int} {u v : Tok} {Q : Value → Shared → Prop} (F : Fr h₀ L s.heap m) (N : News h₀ L s.heap news)
    (ht : IsTup s.heap t items) (ha : Builtin.Slice.sliceAdjust (some a) (some b) 1 (items.size : Int) = (0, (items.size : Int))) (hp : Builtin.Slice.slicePlaces 0 (items.size : Int) 1 = items.size)
    (h : ∀ h', Fr h₀ L h' m → News h₀ L h' news → Q (.ref t) { s with heap := h' })
    (hs : subscripted slice false (.ref t) (.ref s.heap.objs.size) = operate [.ref s.heap.objs.size, .ref t] (getItem (.ref t) (.ref s.heap.objs.size)))
    (hg : ∀ r, letTemporaryGo value (.ref t) r = pure ()) :
    wpAny (model prog w) A (subscriptTail value slice (.ref t) (.ref s.heap.objs.size)) Q E { s with heap := s.heap.push { cls := .type "slice", data := .fields #[.int a u, .int b v, .none] } } :=
  slice_tuple_w ht ha hp (h _ (F.push _) (N.grown fun _ _ e => Heap.get?_push_of_some _ e)) hs hg
theorem tup_of {K : Frag} {h₀ h : Heap} {L a : Addr} {n : Nat} {m : Str → Option Value} {l : List Value} {dd : Option Addr} {sl : Array (Option Value)} (F : Fr h₀ L h m) (X : K.In h₀) (hl : K.lookup a = some ⟨.type "tuple", dd, .seq l.toArray n, sl⟩) : IsTup h a l.toArray := tupK (X.keeps F.keep) hl
end
end Mine
end
section
set_option Elab.async false
set_option maxRecDepth 100000
set_option maxHeartbeats 4000000
namespace Mine
open PySem PySem.W PySem.Calls PyProof.Rows Builtin Builtin.ObjectAttr Builtin.Getset_descriptor
theorem madeBy_none {K : Frag} {M : Model} {h : Heap} {C : Addr} {oc : Value} {od : Option Addr} {cd : ClassData} {sl : Array (Option Value)} (X : K.In h) (ho : K.lookup C = some ⟨oc, od, .cls cd, sl⟩) (e3 : (sl.toList[4]?).join = some .none) (e4 : cd.mro.isEmpty = false) : Looks M h (Bind.madeBy (.ref C)) none := by
  have hc : clsIn K C = some cd := by unfold clsIn; rw [ho]
  have hm : Looks M h (mroOf (.ref C)) cd.mro := (looks_clsIn X hc).andThen .now
  obtain ⟨c, l, hl⟩ : ∃ c l, cd.mro = c :: l := by cases q : cd.mro with | nil => rw [q] at e4; cases e4 | cons c l => exact ⟨c, l, rfl⟩
  intro A Q E s k q
  unfold Bind.madeBy
  refine wpAny_bind (hm A _ E s k ?_)
  rw [hl, List.forIn_cons]
  refine wpAny_bind (wpAny_bind (wpAny_bind (wpAny_bind (wpAny_loadPart (k _ _ (X _ _ ho)) (wpAny_pure ?_)))))
  dsimp only
  rw [← Array.getElem?_toList, e3]
  exact wpAny_pure (wpAny_pure (wpAny_pure q))
def NewBack (K : Frag) (C : Addr) (Q : Value → Shared → Prop) (v : Value) (s' : Shared) : Prop := ∃ x ob, v = .ref x ∧ K.In s'.heap ∧ s'.heap.get? x = some ob ∧ ob.cls = .ref C ∧ Q v s'
theorem oi_args3 (a b c : Value) : argsOk "object.__init__" ⟨[a, b, c], []⟩ := by unfold argsOk; kernel_rfl
section
variable {prog : Program} {w : World} {A : Around} {K : Frag} {C : Addr} {E : Value → Shared → Prop} {s : Shared} {h₀ : Heap} {L : Addr} {m : Str → Option Value}
/-- object.__init__ on an object whose class has a __new__ of its own -/
theorem oi_own {x : Addr} {ob : Obj} {a b : Value} {R : Result → Shared → Prop} {oc : Value} {od : Option Addr} {cd : ClassData} {sl : Array (Option Value)} (X : K.In s.heap) (ho : K.lookup C = some ⟨oc, od, .cls cd, sl⟩) (e3 : (sl.toList[4]?).join = some .none) (e4 : cd.mro.isEmpty = false)
    (hx : s.heap.get? x = some ob) (hcl : ob.cls = .ref C) (hi : findIn K (.ref C) "__init__" = some (some (.builtin "object.__init__"))) (htop : mroIn K C (.type "object") = some true) (h : R (.ok (.ret .none)) s) :
    codeAny (model prog w) A (.call (.builtin "object.__init__") ⟨[.ref x, a, b], []⟩) R s := by
  obtain ⟨hh, g, d, t, os⟩ := s
  have T : Looks (model prog w) hh (typeOf (.ref x)) (.ref C) := by
    have := (Looks.ld (M := model prog w) (part := none) hx).andThen (f := fun o => pure o.cls) .now
    rw [← hcl]; exact this
  have S : Looks (model prog w) hh (isInstance (.ref x) (.type "object")) true := T.andThen (looks_mroIn X htop)
  refine codeAny_call_builtin oi_plain entry_oi (@check_slot (model prog w) _ _ _ "object.__init__" "object" "__init__" (.ref x) [a, b] [] _ oi_kind oi_split S (oi_args3 (.ref x) a b) ?_)
  unfold Builtin.«object.__init__»
  have L1 := looks_findIn (M := model prog w) X hi
  have L2 := madeBy_none (M := model prog w) X ho e3 e4
  dsimp only
  refine wpAny_bind (T.at (wpAny_bind (L1.at (wpAny_bind (L2.at ?_)))))
  exact wpAny_pure h
theorem call_own {f pN : Addr} {mc : Value} {rst : List Value} {a b : Value} {Q : Value → Shared → Prop} {oc : Value} {od : Option Addr} {cd : ClassData} {sl : Array (Option Value)} (F : Fr h₀ L s.heap m) (X₀ : K.In h₀) (ho : K.lookup C = some ⟨oc, od, .cls cd, sl⟩) (e3 : (sl.toList[4]?).join = some .none) (e4 : cd.mro.isEmpty = false)
    (hsp : specialIn K (.ref C) "__call__" = some (some (.builtin "type.__call__"))) (hty : instIn K (.ref C) (.type "type") = some true)
    (hm : typeIn K (.ref C) = some mc) (hr : readsIn K C mc = true) (hnew : findCls K (.ref C) mc "__new__" = some (.get (.builtin "staticmethod.__get__") (.ref pN) .none (.ref C))) (hp : recIn K pN "staticmethod" = some (.ref f :: rst))
    (hself : mroIn K C (.ref C) = some true) (hi : findIn K (.ref C) "__init__" = some (some (.builtin "object.__init__"))) (htop : mroIn K C (.type "object") = some true)
    (h : wpAny (model prog w) (A.under (.builtin "type.__call__" ⟨.ref C :: [a, b], []⟩)) (call (.ref f) [.ref C, a, b]) (NewBack K C Q) E { s with toks := s.toks + 1 }) :
    wpAny (model prog w) A (call (.ref C) [a, b]) Q E s := by
  have X := X₀.keeps F.keep
  obtain ⟨hh, g, d, t, os⟩ := s
  refine wpAny_call ?_
  refine codeAny_of_tree ?_
  show wpAny _ _ (callAny (.ref C) _) _ _ _
  refine nd_load (X _ _ ho) ?_
  show wpAny _ _ (callAny.viaDunder (.ref C) _) _ _ _
  unfold callAny.viaDunder
  have call := looks_specialIn (M := model prog w) X hsp
  have typ := looks_instIn (M := model prog w) X hty
  refine wpAny_bind (call.here ?_)
  dsimp only
  rw [tc_bind]
  refine wpAny_bind (wpAny_pure (wpAny_bind (wpAny_pure ?_)))
  refine wpAny_pure (a := Fin.again (.call (.builtin "type.__call__") ⟨.ref C :: [a, b], []⟩)) (And.intro rfl ?_)
  refine codeAny_call_builtin_at (Code.quiet_builtin _ (by decide +kernel)) entry_typeCall (check_slot tc_kind tc_split typ (tc_args _ _ _) ?_)
  unfold Builtin.«type.__call__»
  have hc : clsIn K C = some cd := by unfold clsIn; rw [ho]
  have hmro : Looks (model prog w) hh (mroOf (.ref C)) cd.mro := (looks_clsIn X hc).andThen .now
  have hmade := madeBy_none (M := model prog w) X ho e3 e4
  have ne : (Value.ref C == Value.type "type") = false := by
    refine Bool.eq_false_iff.mpr fun q => ?_
    cases beq_iff_eq.mp q
  dsimp only
  rw [ne]
  simp only [Bool.false_eq_true, if_false]
  refine wpAny_bind (hmro.at ?_)
  rw [e4]
  simp only [Bool.false_eq_true, if_false]
  refine wpAny_bind (hmade.at ?_)
  dsimp only
  refine wpAny_bind ?_
  refine cls_sm F X₀ hm hr hnew hp rfl ?_
  refine wpAny_bind (wpAny_holding ?_)
  refine wpAny_mono h (fun v s' hv => ?_) fun _ _ e => e
  obtain ⟨x, ob, rfl, X', hx, hcl, hq⟩ := hv
  obtain ⟨hh2, g2, d2, t2, os2⟩ := s'
  have T : Looks (model prog w) hh2 (typeOf (.ref x)) (.ref C) := by
    have := (Looks.ld (M := model prog w) (part := none) hx).andThen (f := fun o => pure o.cls) .now
    rw [← hcl]; exact this
  have S : Looks (model prog w) hh2 (isInstance (.ref x) (.ref C)) true := T.andThen (looks_mroIn X' hself)
  have L1 := looks_findIn (M := model prog w) X' hi
  refine wpAny_bind (S.at ?_)
  simp only [Bool.not_true, Bool.false_eq_true, if_false]
  refine wpAny_bind (wpAny_holding ?_)
  unfold callSpecial? specialOf
  refine wpAny_bind (wpAny_bind (T.at (L1.at ?_)))
  dsimp only
  rw [oi_bind]
  refine wpAny_holding (wpAny_bind (wpAny_pure (wpAny_bind (wpAny_call ?_))))
  refine oi_own X' ho e3 e4 hx hcl hi htop ?_
  exact wpAny_pure (wpAny_pure hq)
end
end Mine
end
section
set_option Elab.async false
set_option maxRecDepth 100000
set_option maxHeartbeats 4000000
namespace Mine
open PySem PySem.W PySem.Calls PyProof.Rows Builtin Builtin.ObjectAttr Builtin.Getset_descriptor
theorem best_tuple : Slots.bestBase [.type "tuple"] = pure (.type "tuple") := by kernel_rfl
theorem made_tuple : Bind.madeBy (.type "tuple") = pure (some "tuple.__new__") := madeBy_type F.mro_tuple F.lookup_tuple_new (by decide +kernel)
theorem tn_kind : builtinKind "tuple.__new__" = some .builtinFn := by decide +kernel
theorem tn_split : splitId "tuple.__new__" = some ("tuple", "__new__") := by decide +kernel
theorem tn_args (a b : Value) : argsOk "tuple.__new__" ⟨[a, b], []⟩ := by unfold argsOk; kernel_rfl
theorem static_tuple {K : Frag} {M : Model} {h : Heap} {C : Addr} {oc : Value} {od : Option Addr} {cd : ClassData} {sl : Array (Option Value)} (X : K.In h) (ho : K.lookup C = some ⟨oc, od, .cls cd, sl⟩) (e3 : (sl.toList[4]?).join = some .none) (e4 : cd.mro = [.ref C, .type "tuple", .type "object"]) (e5 : cd.bases = [.type "tuple"]) : Looks M h (Bind.staticBase (.ref C)) (.type "tuple") := by
  have hc : clsIn K C = some cd := by unfold clsIn; rw [ho]
  have hm : Looks M h (mroOf (.ref C)) cd.mro := (looks_clsIn X hc).andThen .now
  have hd : Looks M h (classData C) cd := looks_clsIn X hc
  have hn := madeBy_none (M := M) X ho e3 (by rw [e4]; rfl)
  intro A Q E s k q
  unfold Bind.staticBase
  refine wpAny_bind (hm A _ E s k ?_)
  rw [e4, List.forIn_cons]
  refine wpAny_bind (wpAny_bind ?_)
  dsimp only
  refine wpAny_bind (hn A _ E s k ?_)
  simp only [Option.isSome, Bool.false_eq_true, if_false]
  refine wpAny_bind (hd A _ E s k ?_)
  rw [e5, best_tuple]
  refine wpAny_bind (wpAny_pure (wpAny_pure ?_))
  dsimp only
  rw [List.forIn_cons]
  refine wpAny_bind (wpAny_bind ?_)
  dsimp only
  rw [made_tuple]
  refine wpAny_bind (wpAny_pure ?_)
  refine wpAny_pure ?_
  show wpAny M A (pure (ForInStep.done (some (Value.type "tuple"), Value.type "tuple"))) _ _ _
  exact wpAny_pure (wpAny_pure (wpAny_pure q))
section
variable {prog : Program} {w : World} {A : Around} {K : Frag} {C : Addr} {E : Value → Shared → Prop} {s : Shared} {h₀ : Heap} {L : Addr} {m : Str → Option Value} {news : List (Addr × Obj)}
abbrev tupInst (C dx : Addr) (its : Array Value) : Obj := { cls := .ref C, dict := some dx, data := .seq its }
theorem tuple_new_K {tp : Addr} {its : Array Value} {Q : Value → Shared → Prop} {oc : Value} {od : Option Addr} {cd : ClassData} {sl : Array (Option Value)} (F : Fr h₀ L s.heap m) (N : News h₀ L s.heap news) (X₀ : K.In h₀) (ho : K.lookup C = some ⟨oc, od, .cls cd, sl⟩) (e3 : (sl.toList[4]?).join = some .none) (e4 : cd.mro = [.ref C, .type "tuple", .type "object"]) (e5 : cd.bases = [.type "tuple"]) (e6 : cd.hasDel = false)
    (hi : findIn K (.ref C) "__init__" = some (some (.builtin "object.__init__"))) (htup : mroIn K C (.type "tuple") = some true) (ht : IsTup s.heap tp its) (hsz : its.size ≤ sizeLine)
    (h : ∀ x dx h', Fr h₀ L h' m → News h₀ L h' ((x, tupInst C dx its) :: (dx, emptyDict) :: news) → (∀ p ∈ news, p.1 < dx) → dx < x → Q (.ref x) { s with heap := h' }) :
    wpAny (model prog w) A (call (.builtin "tuple.__new__") [.ref C, .ref tp]) Q E s := by
  have X := X₀.keeps F.keep
  obtain ⟨hh, g, d, t, os⟩ := s
  have base := static_tuple (M := model prog w) X ho e3 e4 e5
  have hT : Looks (model prog w) hh (isType (.ref C)) true := (Looks.ld (M := model prog w) (X _ _ ho)).andThen .now
  have hS : Looks (model prog w) hh (isSubtype (.ref C) (.type "tuple")) true := looks_mroIn X htup
  have hI := looks_findIn (M := model prog w) X hi
  refine wpAny_call ?_
  refine codeAny_call_builtin_code (Code.quiet_builtin _ (by decide +kernel)) ?_
  simp only [checkBuiltinCall, tn_kind, tn_split]
  rw [if_pos (by decide)]
  refine wpAny_bind (hT.at ?_)
  simp only [Bool.not_true, Bool.false_eq_true, if_false]
  refine wpAny_bind (hS.at ?_)
  simp only [Bool.not_true, Bool.false_eq_true, if_false]
  refine wpAny_bind (base.at ?_)
  rw [made_tuple]
  refine wpAny_bind (wpAny_pure ?_)
  simp only [bne_self_eq_false, Bool.false_eq_true, if_false]
  have here : Looks (model prog w) hh (Bind.madeHere "tuple.__new__" (.ref C)) () := base.andThen ((Looks.of_pure made_tuple).andThen (Looks.of_pure (by simp only [Option.map_some, bne_self_eq_false, Bool.false_eq_true, if_false])))
  have main : codeAny (model prog w) A (Code.builtin "tuple.__new__" { pos := [Value.ref C, Value.ref tp] }) (fun r s' => match r with | Except.ok (Flow.ret v) => Q v s' | Except.ok _ => False | Except.error e => E e s') ⟨hh, g, d, t, os⟩ := by
    refine codeAny_builtin PySem.F.entry_tuple_new ?_
    unfold Builtin.«tuple.__new__»
    have ne : (Value.ref C == Value.type "tuple") = false := by
      refine Bool.eq_false_iff.mpr fun q => ?_
      cases beq_iff_eq.mp q
    dsimp only
    refine wpAny_bind (hT.at ?_)
    simp only [Bool.not_true, Bool.false_eq_true, if_false]
    refine wpAny_bind (hS.at ?_)
    simp only [Bool.not_true, Bool.false_eq_true, if_false]
    refine wpAny_bind (here.at ?_)
    refine wpAny_bind (hI.at ?_)
    rw [if_pos (by decide)]
    refine wpAny_bind (m := noKeywords "tuple" _) (wpAny_pure ?_)
    refine wpAny_bind (m := checkCount "tuple" 0 1 1) (wpAny_pure ?_)
    rw [ne]
    simp only [Bool.false_eq_true, if_false]
    obtain ⟨ot, hot, hct, nt, hdt⟩ := ht
    refine wpAny_bind (wpAny_collect_seq tp (.inr rfl) hot hct hdt (fun h' hk => ?_) hsz)
    refine wpAny_bind (wpAny_pure ?_)
    refine wpAny_bind (wpAny_alloc ?_)
    rw [Array.toArray_toList]
    unfold newObj
    dsimp only
    rw [if_neg (by omega)]
    have F' := F.keptAll hk
    have N' := N.grown hk
    have N2 := (N'.push F' emptyDict).push (F'.push _) (tupInst C h'.objs.size its)
    rw [Heap.size_push] at N2
    have z := h _ h'.objs.size _ ((F'.push _).push _) N2 (fun p hp => Heap.lt_size (N' p hp).1) (Nat.lt_succ_self _)
    unfold newObjAsIs classHasDel
    refine wpAny_bind (wpAny_bind (wpAny_alloc (wpAny_bind (wpAny_bind (wpAny_load (Heap.get?_push_of_some _ (Heap.get?_push_of_some _ (hk _ _ (X _ _ ho)))) (wpAny_pure ?_))))))
    dsimp only
    rw [e6]
    refine wpAny_pure (wpAny_pure ?_)
    show Q (.ref (h'.push _).objs.size) _
    rw [Heap.size_push]
    exact z
  cases hsig : Manifest.signature? "tuple.__new__" with
  | none => exact wpAny_pure main
  | some sig =>
    have q := tn_args (.ref C) (.ref tp)
    unfold argsOk at q
    rw [hsig] at q
    have h2 : Bind.checkArgs "tuple.__new__" sig ⟨[.ref C, .ref tp], []⟩ = pure () := q
    show wpAny _ _ (Bind.checkArgs "tuple.__new__" sig ⟨[.ref C, .ref tp], []⟩) _ _ _
    rw [h2]
    exact wpAny_pure main
end
end Mine
end
section
open PySem PySem.W PyProof.Rows PySem.Spec PySem.Calls
set_option Elab.async false
set_option maxRecDepth 100000
set_option maxHeartbeats 0
namespace Mine
local macro_rules | `(tactic| k_room) => `(tactic| ktr_room)
local macro_rules | `(tactic| k_units) => `(tactic| ktr_units)
local macro_rules | `(tactic| k_all) => `(tactic| assumption)
theorem meta_tuple : typeOf (.type "tuple") = pure (.type "type") := by kernel_rfl
local macro_rules | `(tactic| walk_at "getMethod type:tuple") => `(tactic| (k_here; refine' method_type ?F ?X ?m (by decide +kernel) ?e ?h ?_; (case F => k_asm); (case X => k_asm); (case m => exact meta_tuple); (case e => k_dflt k_is); (case h => k_handed)))
local macro_rules | `(tactic| walk_at "call builtin:tuple.__new__") => `(tactic| (k_here; k_dflt (refine' tuple_new_K ?F ?N ?X ?o ?e3 ?e4 ?e5 ?e6 ?hi ?ht ?tp ?hz ?_; (case F => k_asm); (case N => k_asm); (case X => k_asm); (case o => k_is); (case e3 => rfl); (case e4 => rfl); (case e5 => rfl); (case e6 => rfl); (case hi => k_is); (case ht => k_is); (case tp => exact News.isTup (by k_asm) (by k_mem)); (case hz => size_fits); k_whole); intro x8 dx8 h8 F8 N8 l1 l2))
theorem rsblock_c : ∀ {w : World} {loose : List Str} {mean : ExcName → Option Value} {mg mb : Str → Option Value} {p : Program} {dp un : Nat} {gd : Option (List Code)} {cn : Str} {cs : Scope} {a : Addr} {ccd : Value} {cl : List (Str × Addr)} {outer : List Env} {A₀ : Around} {base h₀ : Heap} {L : Addr} {m : Str → Option Value} {news : List (Addr × Obj)} {s : Shared} {Q E : Value → Shared → Prop} {i j : Int} {t1 t2 : Tok},
  Below A₀ base outer h₀ → Fr h₀ L s.heap m → (hd.heap_39 w.params).In h₀ → News h₀ L s.heap news → Top p loose mean mg mb h₀ → cs.kind = .function → dp + 2 < recursionLimit → un + 16 < cLine →
  (∀ x dx h' tk', Fr h₀ L h' m → News h₀ L h' ((x, tupInst 378 dx #[.int i t1, .int j t2]) :: (dx, emptyDict) :: news) → (∀ p ∈ news, p.1 < dx) → dx < x → Q (.ref x) { s with heap := h', toks := tk' }) →
  wpAny (model PySem.Challenge.rw_bq0025_01.row.prog w) (ktrTop dp un gd cn cs L a ccd cl outer) (call (.ref 378) [.int i t1, .int j t2]) Q E s := by
  k_with_none
  w_top off
  k_fill
  intro w loose mean mg mb p dp un gd cn cs a ccd cl outer A₀ base h₀ L m news s Q E i j t1 t2 B F X N T hk hdp hun hret
  k_dflt (refine' call_own (f := 328) (pN := 379) F X ?ho ?e3 ?e4 ?hsp ?hty ?hm ?hr ?hnew ?hp ?hself ?hi ?htop ?_)
  case ho => k_dflt k_is
  case e3 => rfl
  case e4 => rfl
  case hsp => k_dflt k_is
  case hty => k_dflt k_is
  case hm => k_dflt k_is
  case hr => k_dflt k_is
  case hnew => k_dflt k_is
  case hp => k_dflt k_is
  case hself => k_dflt k_is
  case hi => k_dflt k_is
  case htop => k_dflt k_is
  refine wpAny_call ?_
  k_dflt cell_enter
  k_steps
  (rename Fr _ _ _ _ => fW); (rename News _ _ _ _ => nW)
  exact ⟨_, _, rfl, X.keeps fW.keep, (nW _ (.head _)).1, rfl, hret _ _ _ _ fW (cb_drop nW (by kcj_in)) (fun p hp => (‹∀ p ∈ ((_ : Addr × Obj) :: news), @LT.lt Nat _ p.1 _›) p (.tail _ hp)) (by assumption)⟩
end Mine
end
section
open PySem PySem.W PyProof.Rows PySem.Spec PySem.Calls
set_option Elab.async false
set_option maxRecDepth 100000
set_option maxHeartbeats 0
namespace Mine
local macro_rules | `(tactic| k_room) => `(tactic| ktr_room)
local macro_rules | `(tactic| k_units) => `(tactic| ktr_units)
local macro_rules | `(tactic| k_all) => `(tactic| assumption)
local macro_rules | `(tactic| walk_at "subscriptTail Name Slice ref ref") => `(tactic| (k_here; (with_reducible show wpAny _ _ (subscriptTail _ (PySem.Expr.Slice _ _ none _) (Value.ref _) (Value.ref _)) _ _ _); k_dflt (refine' slice_tuple_wN ?F ?N ?l ?p ?q ?_ ?s ?t; (case F => k_asm); (case N => k_asm); (case l => refine' tup_of ?F2 ?X2 ?l2; (case F2 => k_asm); (case X2 => k_asm); (case l2 => k_is)); (case p => rfl); (case q => rfl); (case s => with_unfolding_all rfl); (case t => kmk_pure)); intro h' F' N'; (try k_fold)))
local macro_rules | `(tactic| walk_at "call builtin:list.append") => `(tactic| (k_here; (with_reducible show wpAny _ _ (call (Value.builtin _) [Value.ref _, _]) _ _ _); k_dflt (refine' app_list ?k1 ?k2 ?k3 ?z ?_; (case k1 => k_asm); (case k2 => k_asm); (case k3 => k_upd); (case z => size_fits); k_whole); intro h' F' N'; (try k_sweep)))
local macro_rules | `(tactic| walk_at "call ref") => `(tactic| (k_here; (with_reducible show wpAny _ _ (call (Value.ref 378) [Value.int _ _, Value.int _ _]) _ _ _); k_dflt (refine' rsblock_c ?B ?F ?X ?N ?T ?hk ?hd ?hu ?_; (case B => k_asm); (case F => k_asm); (case X => k_asm); (case N => k_asm); (case T => k_asm); (case hk => first | exact rfl | assumption); (case hd => ktr_room); (case hu => ktr_units); k_whole); intro x9 d9 h9 tk9 F9 N9 l1 l2; (try k_lt l1); (try k_lt2 l2); (try k_fold)))
local macro_rules | `(tactic| k_all) => `(tactic| ((refine' my_all ?ha ?hb); (case ha => assumption); (case hb => first | exact Nat.le_refl _ | omega)))
theorem UnrEnd.last2 {h₀ : Heap} {L I : Addr} {it : Obj} {rst : (Str → Option Value) → List (Addr × Obj) → Prop} {s₁ : Shared} {h' : Heap} {tk : Nat} {m' : Str → Option Value} {c1 c2 : Addr × Obj} {rest : List (Addr × Obj)} (F : Fr h₀ L h' m') (N : News h₀ L h' (c1 :: c2 :: (I, it) :: rest))
    (o1 : @LT.lt Nat _ I c1.1) (o2 : @LT.lt Nat _ I c2.1) (o3 : ∀ p ∈ rest, p.1 ≠ I) (r : rst m' (c1 :: c2 :: rest)) : UnrEnd h₀ L s₁ I it rst { s₁ with heap := h', toks := tk } :=
  UnrEnd.intro F N (c1 :: c2 :: rest) (by kcj_in) (fun p hp => by
    rcases List.mem_cons.mp hp with rfl | hp
    · exact Nat.ne_of_gt o1
    · rcases List.mem_cons.mp hp with rfl | hp
      · exact Nat.ne_of_gt o2
      · exact o3 p hp) r
local macro_rules | `(tactic| walk_at "UnrEnd") => `(tactic| ((rename Fr _ _ _ _ => fW); (rename News _ _ _ _ => nW); (refine' UnrEnd.last2 fW nW ?o1 ?o2 ?o3 ?_); (case o1 => omega); (case o2 => omega); (case o3 => k_all)))
def Lev (lv : Int) (rm : Nat) : Prop := (lv = 1 ∧ rm = 19) ∨ (lv = 0 ∧ rm = 16) ∨ (lv = 3 ∧ rm = 13) ∨ (lv = 2 ∧ rm = 9)
theorem rsb_c : ∀ {w : World} {loose : List Str} {mean : ExcName → Option Value} {mg mb : Str → Option Value} {p : Program} {dp un : Nat} {gd : Option (List Code)} {cn : Str} {cs : Scope} {a : Addr} {ccd : Value} {cl : List (Str × Addr)} {outer : List Env} {A₀ : Around} {base h₀ : Heap} {L : Addr} {m : Str → Option Value} {news : List (Addr × Obj)} {s : Shared} {Q E : Value → Shared → Prop} {t1 t2 : Tok} {lv : Int} {rm : Nat},
  Below A₀ base outer h₀ → Fr h₀ L s.heap m → (hd.heap_39 w.params).In h₀ → News h₀ L s.heap news → Top p loose mean mg mb h₀ → cs.kind = .function → dp + 3 < recursionLimit → un + 30 < cLine → Lev lv rm →
  (∀ h' tk' r x dx e ta tb, Fr h₀ L h' m → News h₀ L h' ((r, listOf (List.toArray [.ref x]) e) :: (x, tupInst 378 dx #[.int 26 ta, .int (rm : Int) tb]) :: (dx, emptyDict) :: news) → Q (.ref r) { s with heap := h', toks := tk' }) →
  wpAny (model PySem.Challenge.rw_bq0025_01.row.prog w) (ktrTop dp un gd cn cs L a ccd cl outer) (call (.ref 388) [.int 1 t1, .int lv t2]) Q E s := by
  k_with_none
  w_top off
  k_fill
  intro w loose mean mg mb p dp un gd cn cs a ccd cl outer A₀ base h₀ L m news s Q E t1 t2 lv rm B F X N T hk hdp hun hlv hret
  rcases hlv with ⟨rfl, rfl⟩ | ⟨rfl, rfl⟩ | ⟨rfl, rfl⟩ | ⟨rfl, rfl⟩
  · refine wpAny_call ?_
    k_dflt cell_enter
    k_steps
    (rename News _ _ _ _ => nW); exact hret _ _ _ _ _ _ _ _ (by assumption) (cb_drop nW (by kcj_in))
  · refine wpAny_call ?_
    k_dflt cell_enter
    k_steps
    (rename News _ _ _ _ => nW); exact hret _ _ _ _ _ _ _ _ (by assumption) (cb_drop nW (by kcj_in))
  · refine wpAny_call ?_
    k_dflt cell_enter
    k_steps
    (rename News _ _ _ _ => nW); exact hret _ _ _ _ _ _ _ _ (by assumption) (cb_drop nW (by kcj_in))
  · refine wpAny_call ?_
    k_dflt cell_enter
    k_steps
    (rename News _ _ _ _ => nW); exact hret _ _ _ _ _ _ _ _ (by assumption) (cb_drop nW (by kcj_in))
end Mine
end
section
set_option Elab.async false
set_option maxRecDepth 100000
set_option maxHeartbeats 4000000
namespace Mine
open PySem PySem.W PySem.Calls PyProof.Rows Builtin Builtin.ObjectAttr Builtin.Getset_descriptor
theorem meta_tup : typeOf (.type "tuple") = pure (.type "type") := by kernel_rfl
section
variable {prog : Program} {w : World} {A : Around} {K : Frag} {C : Addr} {E : Value → Shared → Prop} {s : Shared} {h₀ : Heap} {L : Addr} {m : Str → Option Value} {news : List (Addr × Obj)}
theorem issub_meets {oc : Value} {od : Option Addr} {cd : ClassData} {sl : Array (Option Value)} (ho : K.lookup C = some ⟨oc, od, .cls cd, sl⟩) (htup : mroIn K C (.type "tuple") = some true) :
    Meets (Builtin.«issubclass» ⟨[.ref C, .type "tuple"], []⟩) (fun _ R s => K.In s.heap ∧ R (.ok (.ret (.bool true))) s) := by
  intro prog w A R s hs
  obtain ⟨X, hr⟩ := hs
  refine issubclass_outer ?_
  obtain ⟨hh, g, d, t, os⟩ := s
  have hT : Looks (model prog w) hh (isType (.ref C)) true := (Looks.ld (M := model prog w) (X _ _ ho)).andThen .now
  have hS : Looks (model prog w) hh (isSubtype (.ref C) (.type "tuple")) true := looks_mroIn X htup
  unfold Builtin.«issubclass.nested»
  show wpAny _ _ (typeOf (.type "tuple") >>= _) _ _ _
  rw [meta_tup]
  refine wpAny_bind (wpAny_pure ?_)
  rw [if_pos (by decide)]
  refine wpAny_bind (wpAny_bind (hT.at (wpAny_bind (m := isType (.type "tuple")) (wpAny_pure ?_))))
  rw [if_pos (by decide)]
  refine hS.at ?_
  exact wpAny_pure hr
theorem issub_K {oc : Value} {od : Option Addr} {cd : ClassData} {sl : Array (Option Value)} {Q : Value → Shared → Prop} (F : Fr h₀ L s.heap m) (X : K.In h₀) (ho : K.lookup C = some ⟨oc, od, .cls cd, sl⟩) (htup : mroIn K C (.type "tuple") = some true) (h : Q (.bool true) s) :
    wpAny (model prog w) A (call (.builtin "issubclass") [.ref C, .type "tuple"]) Q E s :=
  call_issubclass (issub_meets ho htup) ⟨X.keeps F.keep, h⟩
theorem items_of {x : Addr} {ob : Obj} {its : Array Value} {n : Nat} {Q : Array Value → Shared → Prop} (hx : s.heap.get? x = some ob) (hd : ob.data = .seq its n) (h : Q its s) : wpAny (model prog w) A (Builtin.Tuple.tupleItemsOf (.ref x)) Q E s := by
  unfold Builtin.Tuple.tupleItemsOf
  exact wpAny_bind (wpAny_seqItems hx hd (wpAny_pure h))
theorem item_own {x : Addr} {ob : Obj} {its : Array Value} {n : Nat} {k : Int} {u : Tok} {j : Nat} {v : Value} {Q : Value → Shared → Prop} (F : Fr h₀ L s.heap m) (X₀ : K.In h₀) (htup : mroIn K C (.type "tuple") = some true)
    (hx : s.heap.get? x = some ob) (hc : ob.cls = .ref C) (hd : ob.data = .seq its n) (hlo : -(2 ^ 63) ≤ k) (hhi : k < 2 ^ 63) (hj : seqIndex? k its.size = some j) (hv : its[j]? = some v) (h : Q v s) :
    wpAny (model prog w) A (call (.builtin "tuple.__getitem__") [.ref x, .int k u]) Q E s := by
  have X := X₀.keeps F.keep
  obtain ⟨hh, g, d, t, os⟩ := s
  have T : Looks (model prog w) hh (typeOf (.ref x)) (.ref C) := by
    have := (Looks.ld (M := model prog w) (part := none) hx).andThen (f := fun o => pure o.cls) .now
    rw [← hc]; exact this
  have S : Looks (model prog w) hh (isInstance (.ref x) (.type "tuple")) true := T.andThen (looks_mroIn X htup)
  refine wpAny_call (codeAny_call_builtin slot_tuple_getitem.plain entry_tuple_getitem (@check_slot (model prog w) _ _ _ "tuple.__getitem__" "tuple" "__getitem__" (.ref x) [.int k u] [] _ (by decide +kernel) (by decide +kernel) S (args_tuple_getitem _ _) ?_))
  show wpAny _ _ (Builtin.Tuple.tupleItemsOf (.ref x) >>= _) _ _ _
  refine wpAny_bind (items_of hx hd ?_)
  refine wpAny_bind (wpAny_typeOf (typeIs_int _ k u) ?_)
  rw [if_neg (by decide)]
  refine wpAny_bind (wpAny_specialOf (T := "int") (typeIs_int _ k u) int_index ?_)
  rw [if_neg (by simp)]
  refine wpAny_bind (wpAny_of_eq (a := k) rfl ?_)
  rw [if_neg (by simp only [Bool.or_eq_true, decide_eq_true_eq]; omega)]
  simp only [hj, Option.bind_some, hv]
  exact wpAny_pure h
theorem get_tup {x gf : Addr} {a : Value} {ox : Obj} {od : Option Obj} {name : Str} {expr : Bool} {Q : Value → Shared → Prop} (X : K.In s.heap) (I : InstAt s.heap x ox C od) (hga : findIn K (.ref C) "__getattribute__" = some (some (.builtin "tuple.__getattribute__")))
    (hf : findObj K C od name = some (.bind (.ref gf) a)) (hk : findIn K (.ref C) "__getattr__" = some none) (htup : mroIn K C (.type "tuple") = some true) (hC : onTheHeap (.ref C) = true)
    (h : ∀ A' E', A'.depth ≤ A.depth → wpAny (model prog w) A' (call (.ref gf) [a, .ref x, .ref C]) (fun v s' => handedIn v = true ∧ Q v s') E' { s with toks := s.toks + 1 }) :
    wpAny (model prog w) A (getAttr (.ref x) name expr) Q E s := by
  obtain ⟨hh, g, d, t, os⟩ := s
  have L0 := I.type (M := model prog w)
  have L1 := looks_findIn (M := model prog w) X hga
  have L2 : Looks (model prog w) hh (hookBefore (.ref C)) none := looks_hook X (by rw [hC]; exact hk)
  have L3 := looks_find (M := model prog w) X I hf
  have S : Looks (model prog w) hh (isInstance (.ref x) (.type "tuple")) true := L0.andThen (looks_mroIn X htup)
  unfold getAttr getAttrBy
  refine wpAny_bind (wpAny_mkText (wpAny_holding (wpAny_bind (L0.at (wpAny_bind (L1.at ?_))))))
  dsimp only
  rw [show (Value.builtin "tuple.__getattribute__" == Value.builtin "object.__getattribute__") = false by decide, Bool.and_false]
  simp only [Bool.false_eq_true, if_false]
  unfold getAttrByItsOwn
  refine wpAny_bind (L2.at (wpAny_bind (wpAny_attempt (wpAny_holding ?_))))
  unfold callGetattribute
  rw [if_neg (by simp [onTheHeap])]
  unfold boundAndCalled
  rw [PySem.F.slot_tuple_getattribute.bind]
  refine wpAny_bind (wpAny_pure (wpAny_call ?_))
  refine codeAny_call_builtin PySem.F.slot_tuple_getattribute.plain PySem.F.entry_tuple_ga (@check_slot (model prog w) _ _ _ "tuple.__getattribute__" "tuple" "__getattribute__" (.ref x) [.str name t] [] _ (by decide +kernel) (by decide +kernel) S (PySem.F.args_tuple_getattribute_2 _ _) ?_)
  unfold Builtin.«object.__getattribute__»
  refine wpAny_bind (m := slotArgs "__getattribute__" 1 _) (wpAny_pure ?_)
  dsimp only
  refine wpAny_bind (m := ObjectAttr.attrName _) (wpAny_pure ?_)
  refine wpAny_bind (L0.at (wpAny_bind (L3.at ?_)))
  show wpAny _ _ (holding [a] (call (.ref gf) [a, .ref x, .ref C]) >>= fun v => ret v) _ _ _
  refine wpAny_bind (wpAny_holding (wpAny_mono (h _ _ (Nat.le_refl _)) (fun v s' z => ?_) fun _ _ z => z))
  refine wpAny_pure ?_
  show wpAny _ _ (handedOut v) _ _ _
  rw [handedOut_of z.1]
  exact wpAny_pure z.2
end
end Mine
end
section
open PySem PySem.W PyProof.Rows PySem.Spec PySem.Calls
set_option Elab.async false
set_option maxRecDepth 100000
set_option maxHeartbeats 0
namespace Mine
local macro_rules | `(tactic| k_room) => `(tactic| ktr_room)
local macro_rules | `(tactic| k_units) => `(tactic| ktr_units)
local macro_rules | `(tactic| k_all) => `(tactic| assumption)
local macro_rules | `(tactic| walk_at "call builtin:issubclass") => `(tactic| (k_here; k_dflt (refine' issub_K ?F ?X ?o ?t ?_; (case F => k_asm); (case X => k_asm); (case o => k_is); (case t => k_is); k_whole)))
local macro_rules | `(tactic| walk_at "call type:type") => `(tactic| ((with_reducible show wpAny _ _ (call (Value.type _) _) _ _ _); refine Halt.go ?_))
local macro_rules | `(tactic| walk_at "call builtin:tuple.__getitem__") => `(tactic| ((with_reducible show wpAny _ _ (call (Value.builtin _) _) _ _ _); refine Halt.go ?_))
theorem meta_tuple' : typeOf (.type "tuple") = pure (.type "type") := by kernel_rfl
local macro_rules | `(tactic| walk_at "getMethod type:tuple") => `(tactic| (k_here; refine' method_type ?F ?X ?m (by decide +kernel) ?e ?h ?_; (case F => k_asm); (case X => k_asm); (case m => exact meta_tuple'); (case e => k_dflt k_is); (case h => k_handed)))
section
variable {prog : Program} {w : World} {A : Around} {s : Shared} {K : Frag} {p : Program} {loose : List Str} {mean : ExcName → Option Value} {mg mb : Str → Option Value}
theorem any_def {R : Result → Shared → Prop} {name qual : Str} {params : Arguments} {body : List Stmt} {scope : Scope} {dV kV doc pm cdv ct oc : Value} {an od : Option Addr} {osl : Array (Option Value)} {f : Addr} {args : Args} {binds : List (Str × Value)}
    (X : K.In s.heap) (T : Top p loose mean mg mb s.heap) (ho : K.lookup f = some ⟨oc, od, .func (fnOf name qual params body scope dV kV doc pm an cdv ct), osl⟩) (hcd : codeIn K cdv qual = true) (hroom : A.depth < recursionLimit)
    (hbind : BindsTo s (fnOf name qual params body scope dV kV doc pm an cdv ct) args binds) (hloc : ∀ y ∈ binds, scope.names.lookup y.1 = some .local)
    (h : ∀ L' h₁, Fr s.heap L' h₁ (fun y => binds.reverse.lookup y) → News s.heap L' h₁ [] →
      wpAny (model prog w) (A.deeper (envOf qual scope L' f cdv)) (execs body (envOf qual scope L' f cdv))
        (fun fl s' => R (.ok (.ret (match fl with | .ret v => v | _ => .none))) s')
        (fun e s' => wpAny (model prog w) (A.deeper (envOf qual scope L' f cdv)) (leaving (envOf qual scope L' f cdv) e) (fun _ s'' => R (.error e) s'') (fun e' s'' => R (.error e') s'') s')
        { s with heap := h₁, toks := s.toks + binds.length })
    (hcell : ∀ x ∈ scope.names, x.2 ≠ .cell) (hco : scope.isCoroutine = false) (hgen : scope.isGenerator = false) (hk : scope.kind = .function) : codeAny (model prog w) A (.call (.ref f) args) R s := by
  refine codeAny_call_def (fd := fnOf name qual params body scope dV kV doc pm an cdv ct) (body := body) (binds := binds) hroom (X _ _ ho) rfl T.nolimit (codeRec_of X hcd) rfl hbind hcell hloc (fun h₁ hns hk₁ => ?_) hco hgen hk
  exact h _ h₁ ⟨hns, hk₁, Nat.le_refl _⟩ (fun p hp => nomatch hp)
end
theorem tg_any : ∀ {w : World} {A : Around} {s : Shared} {p : Program} {loose : List Str} {mean : ExcName → Option Value} {mg mb : Str → Option Value} {x dx : Addr} {i j : Int} {ti tj : Tok} {Q E : Value → Shared → Prop},
    (hd.heap_39 w.params).In s.heap → Top p loose mean mg mb s.heap → s.heap.get? x = some (tupInst 378 dx #[.int i ti, .int j tj]) → A.depth < recursionLimit →
    (∀ h' tk, (∀ b o, s.heap.get? b = some o → h'.get? b = some o) → Q (.int j tj) { s with heap := h', toks := tk }) →
    wpAny (model PySem.Challenge.rw_bq0025_01.row.prog w) A (call (.ref 57) [.ref 373, .ref x, .ref 378]) Q E s := by
  k_with_none
  w_top off
  k_fill
  intro w A s p loose mean mg mb x dx i j ti tj Q E X T hx hroom h
  refine wpAny_call ?_
  k_dflt (refine' any_def X T ?ho ?hcd hroom ?hb ?hl ?_ ?hc ?c2 ?c3 ?c4)
  case ho => k_dflt k_is
  case hcd => k_dflt k_is
  case hb => exact binds_K X rfl (by k_dflt k_is) rfl rfl rfl
  case hl => exact locs rfl
  case hc => decide
  case c2 => rfl
  case c3 => rfl
  case c4 => rfl
  intro L' h1 F' N'
  (try dsimp only)
  (try k_fold)
  k_steps
  unfold Halt
  (rename Fr _ _ _ _ => fW)
  refine call_type_obj (fW.keep _ _ hx) (by rfl) ?_
  k_steps
  unfold Halt
  (rename Fr _ _ _ _ => fW)
  refine item_own (v := .int j tj) fW X (by k_dflt k_is) (fW.keep _ _ hx) rfl rfl (by decide) (by decide) (by rfl) (by rfl) ?_
  k_steps
  (rename Fr _ _ _ _ => fW)
  exact h _ _ fW.keep
theorem tg_any0 : ∀ {w : World} {A : Around} {s : Shared} {p : Program} {loose : List Str} {mean : ExcName → Option Value} {mg mb : Str → Option Value} {x dx : Addr} {i j : Int} {ti tj : Tok} {Q E : Value → Shared → Prop},
    (hd.heap_39 w.params).In s.heap → Top p loose mean mg mb s.heap → s.heap.get? x = some (tupInst 378 dx #[.int i ti, .int j tj]) → A.depth < recursionLimit →
    (∀ h' tk, (∀ b o, s.heap.get? b = some o → h'.get? b = some o) → Q (.int i ti) { s with heap := h', toks := tk }) →
    wpAny (model PySem.Challenge.rw_bq0025_01.row.prog w) A (call (.ref 57) [.ref 370, .ref x, .ref 378]) Q E s := by
  k_with_none
  w_top off
  k_fill
  intro w A s p loose mean mg mb x dx i j ti tj Q E X T hx hroom h
  refine wpAny_call ?_
  k_dflt (refine' any_def X T ?ho ?hcd hroom ?hb ?hl ?_ ?hc ?c2 ?c3 ?c4)
  case ho => k_dflt k_is
  case hcd => k_dflt k_is
  case hb => exact binds_K X rfl (by k_dflt k_is) rfl rfl rfl
  case hl => exact locs rfl
  case hc => decide
  case c2 => rfl
  case c3 => rfl
  case c4 => rfl
  intro L' h1 F' N'
  (try dsimp only)
  (try k_fold)
  k_steps
  unfold Halt
  (rename Fr _ _ _ _ => fW)
  refine call_type_obj (fW.keep _ _ hx) (by rfl) ?_
  k_steps
  unfold Halt
  (rename Fr _ _ _ _ => fW)
  refine item_own (v := .int i ti) fW X (by k_dflt k_is) (fW.keep _ _ hx) rfl rfl (by decide) (by decide) (by rfl) (by rfl) ?_
  k_steps
  (rename Fr _ _ _ _ => fW)
  exact h _ _ fW.keep
theorem dc_any : ∀ {w : World} {A : Around} {s : Shared} {p : Program} {loose : List Str} {mean : ExcName → Option Value} {mg mb : Str → Option Value} {x dx : Addr} {i j : Int} {ti tj : Tok} {Q E : Value → Shared → Prop} {expr : Bool},
    (hd.heap_39 w.params).In s.heap → Top p loose mean mg mb s.heap → s.heap.get? x = some (tupInst 378 dx #[.int i ti, .int j tj]) → s.heap.get? dx = some emptyDict → A.depth < recursionLimit →
    (∀ h' tk, (∀ b o, s.heap.get? b = some o → h'.get? b = some o) → Q (.int j tj) { s with heap := h', toks := tk }) →
    wpAny (model PySem.Challenge.rw_bq0025_01.row.prog w) A (getAttr (.ref x) (Str.ofString "data_count") expr) Q E s := by
  k_with_none
  w_top off
  k_fill
  intro w A s p loose mean mg mb x dx i j ti tj Q E expr X T hx hdx hroom h
  have I : InstAt s.heap x (tupInst 378 dx #[.int i ti, .int j tj]) 378 (some emptyDict) := ⟨hx, rfl, rfl, hdx⟩
  k_dflt (refine' get_tup (gf := 57) (a := .ref 373) X I ?hga (findObj_data ?hc ?ha ?hn ?ht) ?hk ?htup ?hon ?_)
  case hga => k_dflt k_is
  case hc => k_dflt (first | k_is | rfl)
  case ha => k_dflt k_is
  case hn => k_dflt k_is
  case ht => k_dflt k_is
  case hk => k_dflt k_is
  case htup => k_dflt k_is
  case hon => rfl
  intro A' E' hle
  exact tg_any (s := { s with toks := s.toks + 1 }) X T hx (Nat.lt_of_le_of_lt hle hroom) fun h' tk hk => ⟨rfl, h h' tk hk⟩
theorem tc_any : ∀ {w : World} {A : Around} {s : Shared} {p : Program} {loose : List Str} {mean : ExcName → Option Value} {mg mb : Str → Option Value} {x dx : Addr} {i j : Int} {ti tj : Tok} {Q E : Value → Shared → Prop} {expr : Bool},
    (hd.heap_39 w.params).In s.heap → Top p loose mean mg mb s.heap → s.heap.get? x = some (tupInst 378 dx #[.int i ti, .int j tj]) → s.heap.get? dx = some emptyDict → A.depth < recursionLimit →
    (∀ h' tk, (∀ b o, s.heap.get? b = some o → h'.get? b = some o) → Q (.int i ti) { s with heap := h', toks := tk }) →
    wpAny (model PySem.Challenge.rw_bq0025_01.row.prog w) A (getAttr (.ref x) (Str.ofString "total_count") expr) Q E s := by
  k_with_none
  w_top off
  k_fill
  intro w A s p loose mean mg mb x dx i j ti tj Q E expr X T hx hdx hroom h
  have I : InstAt s.heap x (tupInst 378 dx #[.int i ti, .int j tj]) 378 (some emptyDict) := ⟨hx, rfl, rfl, hdx⟩
  k_dflt (refine' get_tup (gf := 57) (a := .ref 370) X I ?hga (findObj_data ?hc ?ha ?hn ?ht) ?hk ?htup ?hon ?_)
  case hga => k_dflt k_is
  case hc => k_dflt (first | k_is | rfl)
  case ha => k_dflt k_is
  case hn => k_dflt k_is
  case ht => k_dflt k_is
  case hk => k_dflt k_is
  case htup => k_dflt k_is
  case hon => rfl
  intro A' E' hle
  exact tg_any0 (s := { s with toks := s.toks + 1 }) X T hx (Nat.lt_of_le_of_lt hle hroom) fun h' tk hk => ⟨rfl, h h' tk hk⟩
end Mine
end
section
set_option Elab.async false
set_option maxRecDepth 100000
set_option maxHeartbeats 4000000
namespace Mine
open PySem PySem.W PySem.Calls PyProof.Rows PySem.Spec
def unhide (g : Heap) (P : Addr) (o : Obj) : Heap := { g with objs := g.objs.setIfInBounds P o }
theorem unhide_size (g : Heap) (P : Addr) (o : Obj) : (unhide g P o).objs.size = g.objs.size := by simp [unhide]
theorem unhide_ne {g : Heap} {P b : Addr} {o : Obj} (h : b ≠ P) : (unhide g P o).get? b = g.get? b := by
  unfold Heap.get? unhide
  have e : (g.objs.setIfInBounds P o)[b]? = g.objs[b]? := Array.getElem?_setIfInBounds_ne (Ne.symm h)
  rw [e]
theorem unhide_self {g : Heap} {P : Addr} {ps : Array Value} (h : @LT.lt Nat _ P g.objs.size) : (unhide g P (tabObj ps)).get? P = some (tabObj ps) := by
  unfold Heap.get? unhide
  have e : (g.objs.setIfInBounds P (tabObj ps))[P]? = some (tabObj ps) := by
    rw [Array.getElem?_setIfInBounds]; simp; exact h
  rw [e]
section
variable {g h : Heap} {L P : Addr} {m : Str → Option Value} {news : List (Addr × Obj)} {ps ps' : Array Value}
theorem unhide_keep (h0 : g.get? P = none) : ∀ b o, g.get? b = some o → (unhide g P (tabObj ps)).get? b = some o := fun b o e => by
  have hb : b ≠ P := fun q => by rw [q, h0] at e; cases e
  rw [unhide_ne hb]; exact e
theorem fr_unhide (F : Fr g L h m) (hp : @LT.lt Nat _ P g.objs.size) (hP : h.get? P = some (tabObj ps)) : Fr (unhide g P (tabObj ps)) L h m :=
  ⟨F.ns, fun b o e => by
    by_cases hb : b = P
    · subst hb; rw [unhide_self hp] at e; rw [hP]; exact e
    · rw [unhide_ne hb] at e; exact F.keep b o e, by rw [unhide_size]; exact F.above⟩
theorem regrown_size (g : Heap) (P : Addr) (ps : Array Value) : (regrown g P ps).objs.size = g.objs.size := (Heap.SameBut.update g P _).1
theorem fr_hide {C : Addr} (h0 : g.get? P = none) (F : Fr (regrown (unhide g P (tabObj ps)) P ps') C h m) : Fr g C h m :=
  ⟨F.ns, fun b o e => by
    have hb : b ≠ P := fun q => by rw [q, h0] at e; cases e
    exact F.keep b o ((Heap.get?_update_other _ _ (Ne.symm hb)).trans (unhide_keep h0 b o e)), by have := F.above; rw [regrown_size, unhide_size] at this; exact this⟩
theorem tab_hide {C : Addr} (hp : @LT.lt Nat _ P g.objs.size) (F : Fr (regrown (unhide g P (tabObj ps)) P ps') C h m) : h.get? P = some (tabObj ps') :=
  F.keep _ _ (Heap.get?_update_self _ (unhide_self hp) rfl)
end
theorem passing_all (n : Nat) : passing (fun _ => true) n 0 = List.range n := by
  unfold passing
  rw [List.drop_zero, List.filter_eq_self.mpr (fun _ _ => rfl)]
section
variable {prog : Program} {w : World} {A : Around} {E : Value → Shared → Prop} {s s₂ : Shared} {g : Heap} {L P c : Addr} {m mg : Str → Option Value} {news : List (Addr × Obj)} {env : Env} {elt iter : PySem.Expr} {x : Str} {px pos : Pos} {scope : Scope} {cl : List (Str × Addr)} {Q : Value → Shared → Prop}
theorem genPost_of {I Kb : Addr} {fp wr : List Addr} {n : Nat} {Pi : Nat → Value → Prop} {St : Nat → Heap → Prop} (Fe : Nat → Value → Prop) (F₂ : Fr g L s₂.heap m) (N₂ : News g L s₂.heap ((P, tabObj #[]) :: news)) (hne : ∀ p ∈ news, p.1 ≠ P) (hplt : @LT.lt Nat _ P g.objs.size) (hb : AllBare s₂.gens) (hlim : g.NoLimit)
    (W : ∀ A' : Around, A'.handled = none → Walks prog w A' I fp wr n Pi St) (st0 : St 0 s₂.heap) (hfp : ∀ b ∈ fp, @LT.lt Nat _ b s₂.heap.objs.size) (hPfp : P ∉ fp) (hwr : ∀ b ∈ wr, @LT.lt Nat _ Kb b) (hLK : @LE.le Nat _ L Kb) (hKs : @LT.lt Nat _ Kb s₂.heap.objs.size)
    (helt : ∀ (c' C : Addr) (A' : Around) E' i v (t : Shared) m₂, A'.handled = none → A'.depth ≤ A.depth + 1 → A'.units ≤ A.units + 8 → Pi i v → Fr g C t.heap m₂ → m₂ x = some v → @LT.lt Nat _ L C →
      (∀ b o, b ≠ P → b ∉ wr → s₂.heap.get? b = some o → t.heap.get? b = some o) →
      wpAny (model prog w) A' (eval elt (genEnv scope cl C (.ref c') builtinsNs env)) (fun y s₃ => Fe i y ∧ Keeps t s₃) E' t)
    (hcont : ∀ ps a (s₅ : Shared), Fr g L s₅.heap m → News g L s₅.heap ((P, tabObj ps) :: news) → AllBare s₅.gens → s₅.os = s₂.os → Gen prog w A Kb a n (fun j y => j < n ∧ Fe j y) s₅ → Q (.ref a) s₅) :
    GenPost prog w A (unhide g P (tabObj #[])) (unhide g P (tabObj #[])) c P #[] L m env scope cl x [] elt pos Q (.ref I) s₂ := by
  have hP := N₂ _ (.head _)
  refine ⟨fr_unhide F₂ hplt hP.1, hb, hlim.keeps F₂.keep, Kb, I, fp, wr, n, Pi, St, fun _ => true, Fe, hLK, hKs, rfl, W, st0, hfp, hPfp, hwr, ?_, ?_, ?_⟩
  · intro c' C A' E' i v t m₂ _ _ _ _ _ _ _ _
    exact wpAny_pure ⟨rfl, t.heap, t.toks, rfl, fun _ _ e => e⟩
  · intro c' C A' E' i v t m₂ h1 h2 h3 h4 _ h6 h7 h8 h9
    exact helt c' C A' E' i v t m₂ h1 h2 h3 h4 (fr_hide hP.2.2 h6) h7 h8 h9
  · intro c' a s₅ _ F5 hb5 hos hk G
    have F5' := fr_hide hP.2.2 F5
    refine hcont (#[] ++ #[rawInt pos.line, rawInt pos.col, .ref c']) a s₅ F5' (fun q hq => ?_) hb5 hos ?_
    · rcases List.mem_cons.mp hq with rfl | hq
      · exact ⟨tab_hide hplt F5, hP.2.1, hP.2.2⟩
      · have z := N₂ q (.tail _ hq)
        exact ⟨hk _ _ (hne q hq) z.1, z.2⟩
    · rw [passing_all, List.length_range] at G
      have e : (fun (j : Nat) (y : Value) => ∃ i, (List.range n)[j]? = some i ∧ Fe i y) = fun j y => j < n ∧ Fe j y := by
        funext j y
        apply propext
        constructor
        · rintro ⟨i, hi, hf⟩
          obtain ⟨h1, h2⟩ := List.getElem?_eq_some_iff.mp hi
          rw [List.getElem_range] at h2
          subst h2
          exact ⟨by simpa using h1, hf⟩
        · rintro ⟨h1, hf⟩
          exact ⟨j, List.getElem?_range h1, hf⟩
      rw [e] at G
      exact G
theorem gen_hid {p : Program} {loose : List Str} {mean : ExcName → Option Value} {mb : Str → Option Value} (F : Fr g L s.heap m) (N : News g L s.heap ((P, tabObj #[]) :: news)) (T : Top p loose mean mg mb g) (C : CodeHd g c P) (hplt : @LT.lt Nat _ P g.objs.size) (hPs : P ≠ cStatics)
    (hge : env.globals = mainGlobals) (hcode : env.code = .ref c) (hh : A.handled = none) (hco : scope.isCoroutine = false) (hclos : closureFor scope env = pure cl) (hcell : ∀ y ∈ scope.names, y.2 ≠ .cell) (h0 : scope.names.lookup (".0" : Str) = some NameKind.local)
    (hx : scope.names.lookup x = some .local) (hkind : scope.kind = .function) (hroom : A.depth < recursionLimit)
    (h : wpAny (model prog w) A (eval iter env) (fun xv s₁ => wpAny (model prog w) A (pyIter xv) (GenPost prog w A (unhide g P (tabObj #[])) (unhide g P (tabObj #[])) c P #[] L m env scope cl x [] elt pos Q) E s₁) E s)
    (hs : ∀ x, genFold iter env x = pure x) : wpAny (model prog w) A (eval (.GeneratorExp elt [⟨.Name x px, iter, [], 0⟩] scope pos) env) Q E s := by
  have hP := N _ (.head _)
  have k := unhide_keep (g := g) (P := P) (ps := #[]) hP.2.2
  obtain ⟨bm, ob, M⟩ := bmod_of_top (T.keeps k)
  have C' := C.keeps k
  have hself := unhide_self (g := g) (P := P) (ps := #[]) hplt
  refine LGe.GeneratorExp_K (fr_unhide F hplt hP.1) (Based.start (C'.code hself trivial) (C'.tab hself) hPs) (hge ▸ M) hcode rfl hh hco hclos hcell h0 hx hkind hroom h hs
end
end Mine
end
section
set_option Elab.async false
set_option maxRecDepth 100000
set_option maxHeartbeats 4000000
namespace Mine
open PySem PySem.W PySem.Calls PyProof.Rows PySem.Spec Builtin
theorem slot_bd : Slot "bytes" "isdigit" "bytes.isdigit" :=
  .of (owner := "bytes") (n := "isdigit") (by rw [typeLookup_type, builtinLookup_eq_fast]; kernel_rfl) (by decide +kernel) (by decide +kernel) (by decide +kernel)
    (by first | exact .inl (by decide +kernel) | exact .inr (by decide +kernel)) (by rw [isSubtype_type]; kernel_rfl)
theorem type_bd : typeOf (.builtin "bytes.isdigit") = pure (.type "method_descriptor") := by show builtinType _ = _; rw [builtinType_eq_fast]; kernel_rfl
theorem entry_bd : entryFor table "bytes.isdigit" = some Builtin.«bytes.isdigit» := entryFor_of_tree (by kernel_rfl)
theorem args_bd (a : Value) : argsOk "bytes.isdigit" ⟨[a], []⟩ := by
  unfold argsOk; rw [signature?_of (id := "bytes.isdigit") (n := ['t', 'i', 'g', 'i', 'd', 's', 'i']) (o := ['s', 'e', 't', 'y', 'b']) (by kernel_rfl) FB.owner_bytes]; kernel_rfl
section
variable {prog : Program} {w : World} {A : Around} {E : Value → Shared → Prop} {s : Shared} {b : Array UInt8} {t : Tok}
theorem bd_method {M : Model} {pl : Sem Bool} {Q : Value × List Value → Shared → Prop} (h : Q (.builtin "bytes.isdigit", [.bytes b t]) s) : wpAny M A (getMethod (.bytes b t) "isdigit" pl) Q E s := by
  with_reducible exact KBd.method_of (.bytes b t) (typeIs_bytes _ _ _) slot_bd type_bd KBd.noRef h
theorem bd_meets : Meets («bytes.isdigit» ⟨[.bytes b t], []⟩) (fun _ R s => ∀ v, R (.ok (.ret (.bool v))) s) := by
  refine .of_wp fun prog w A R s h => ?_
  unfold Builtin.«bytes.isdigit» Bytes.testM
  refine wpAny_bind (m := selfOnly _ _) (wpAny_pure ?_)
  refine wpAny_bind (m := Bytes.payload _) (wpAny_pure ?_)
  exact wpAny_pure ⟨_, rfl, h _⟩
theorem bd_call {Q : Value → Shared → Prop} (h : ∀ v, Q (.bool v) s) : wpAny (model prog w) A (call (.builtin "bytes.isdigit") [.bytes b t]) Q E s :=
  call_meets slot_bd (typeIs_bytes _ _ _) entry_bd (args_bd _) bd_meets h
theorem in_meets {k : Int} {u : Tok} (h0 : 0 ≤ k) (h1 : k < 256) : Meets («bytes.__contains__» ⟨[.bytes b t, .int k u], []⟩) (fun _ R s => R (.ok (.ret (.bool (b.contains k.toNat.toUInt8)))) s) := by
  refine .of_wp fun prog w A R s h => ?_
  unfold Builtin.«bytes.__contains__»
  refine wpAny_bind (m := slotArgs _ 1 _) (wpAny_pure ?_)
  dsimp only
  unfold Bytes.containsIn
  refine wpAny_bind (wpAny_bind (wpAny_attempt (wpAny_of_eq (a := k) rfl ?_)))
  rw [KBy.buffer_eq]
  refine wpAny_bind (wpAny_pure ?_)
  dsimp only
  rw [if_neg (by simp only [Bool.or_eq_true, decide_eq_true_eq]; omega)]
  exact wpAny_pure (wpAny_pure ⟨_, rfl, h⟩)
theorem in_bytes {k : Int} {u : Tok} {Q : Value → Shared → Prop} (h0 : 0 ≤ k) (h1 : k < 256) (h : Q (.bool (b.contains k.toNat.toUInt8)) s) : wpAny (model prog w) A (compareOp .In (.int k u) (.bytes b t)) Q E s := by
  show wpAny _ _ (contains (.bytes b t) (.int k u) >>= fun v => pure (Value.bool v)) _ _ _
  exact wpAny_bind (wpAny_contains_slot (typeIs_bytes _ _ _) FB.slot_bytes_contains (call_meets FB.slot_bytes_contains (typeIs_bytes _ _ _) FB.entry_bytes_contains (FB.args_bytes_contains_2 _ _) (in_meets h0 h1) (wpAny_truthy_bool (wpAny_pure h))))
end
section
variable {prog : Program} {w : World} {A : Around} {E : Value → Shared → Prop} {s : Shared} {g : Heap} {L P c : Addr} {m mg : Str → Option Value} {news : List (Addr × Obj)} {env : Env} {elt iter : PySem.Expr} {x : Str} {px pos : Pos} {scope : Scope} {cl : List (Str × Addr)} {Q : Value → Shared → Prop}
theorem genBytes {b : Array UInt8} {tb : Tok} {ks : List Int} (hk : KBw.bInts b = ks) (Fe : Nat → Value → Prop) (F : Fr g L s.heap m) (N : News g L s.heap ((P, tabObj #[]) :: news)) (hne : ∀ p ∈ news, p.1 ≠ P) (hplt : @LT.lt Nat _ P g.objs.size) (hb : AllBare s.gens) (hlim : g.NoLimit)
    (helt : ∀ (c' C : Addr) (A' : Around) E' i k u (t : Shared) m₂, A'.handled = none → A'.depth ≤ A.depth + 1 → A'.units ≤ A.units + 8 → ks[i]? = some k → 0 ≤ k → k < 256 → Fr g C t.heap m₂ → m₂ x = some (.int k u) → @LT.lt Nat _ L C →
      wpAny (model prog w) A' (eval elt (genEnv scope cl C (.ref c') builtinsNs env)) (fun y s₃ => Fe i y ∧ Keeps t s₃) E' t)
    (hcont : ∀ Kb ps a (s₅ : Shared), @LE.le Nat _ L Kb → (∀ p ∈ news, @LE.le Nat _ p.1 Kb) → @LE.le Nat _ P Kb → Fr g L s₅.heap m → News g L s₅.heap ((P, tabObj ps) :: news) → AllBare s₅.gens → s₅.os = s.os → Gen prog w A Kb a ks.length (fun j y => j < ks.length ∧ Fe j y) s₅ → Q (.ref a) s₅) :
    wpAny (model prog w) A (pyIter (.bytes b tb)) (GenPost prog w A (unhide g P (tabObj #[])) (unhide g P (tabObj #[])) c P #[] L m env scope cl x [] elt pos Q) E s := by
  subst hk
  refine KBw.pyIter_bytes ?_
  have hL : @LT.lt Nat _ L s.heap.objs.size := F.ns.lt
  have hP : @LT.lt Nat _ P s.heap.objs.size := Heap.lt_size (N _ (.head _)).1
  refine genPost_of (I := s.heap.objs.size) (Kb := s.heap.objs.size - 1) (fp := [s.heap.objs.size]) (wr := [s.heap.objs.size]) (n := (KBw.bInts b).length) (Pi := fun i v => ∃ c u, b[i]? = some c ∧ v = .int (c.toNat : Int) u) (St := fun i h => KBw.IsBytesIter h s.heap.objs.size b tb i) Fe (F.push _) (fun q hq => ⟨Heap.get?_push_of_some _ (N q hq).1, (N q hq).2⟩) hne hplt hb hlim (fun A' hh => ?_) ⟨_, Heap.get?_push_size _ rfl, rfl, rfl⟩ ?_ ?_ ?_ ?_ ?_ ?_ ?_
  · rw [KBw.ints_length b]; exact KBw.walks hh _ b tb
  · intro b' hb'; rw [List.mem_singleton.mp hb', Heap.size_push]; exact Nat.lt_succ_self _
  · intro hm; rw [List.mem_singleton.mp hm] at hP; exact absurd hP (Nat.lt_irrefl _)
  · intro b' hb'; rw [List.mem_singleton.mp hb']; exact Nat.sub_lt (Nat.lt_of_le_of_lt (Nat.zero_le _) hL) Nat.one_pos
  · exact Nat.le_sub_one_of_lt hL
  · rw [Heap.size_push]; exact Nat.lt_succ_of_le (Nat.sub_le _ _)
  · rintro c' C A' E' i v t m₂ h1 h2 h3 ⟨cc, u, hc, rfl⟩ h5 h6 h7 _
    have e := KBw.ints_get hc
    have hb := KBw.ints_in (b := b) (List.mem_of_getElem? e)
    exact helt c' C A' E' i _ u t m₂ h1 h2 h3 e hb.1 hb.2 h5 h6 h7
  · intro ps a s₅ F5 N5 hb5 hos G
    exact hcont _ ps a s₅ (Nat.le_sub_one_of_lt hL) (fun p hp => Nat.le_sub_one_of_lt (Heap.lt_size (N p (.tail _ hp)).1)) (Nat.le_sub_one_of_lt hP) F5 N5 hb5 hos G
end
end Mine
end
section
open PySem PySem.W PyProof.Rows PySem.Spec PySem.Calls
set_option Elab.async false
set_option maxRecDepth 100000
set_option maxHeartbeats 0
namespace Mine
local macro_rules | `(tactic| k_room) => `(tactic| ktr_room)
local macro_rules | `(tactic| k_units) => `(tactic| ktr_units)
local macro_rules | `(tactic| k_all) => `(tactic| assumption)
local macro_rules | `(tactic| walk_at "getMethod bytes") => `(tactic| (k_here; (with_reducible refine bd_method ?_)))
local macro_rules | `(tactic| walk_at "call builtin:bytes.isdigit") => `(tactic| (k_here; (with_reducible show wpAny _ _ (call (Value.builtin _) [Value.bytes _ _]) _ _ _); refine bd_call ?_; intro v9))
local macro_rules | `(tactic| walk_at "eval GeneratorExp") => `(tactic| ((with_reducible show wpAny _ _ (eval _ _) _ _ _); refine Halt.go ?_))
local macro_rules | `(tactic| walk_at "call builtin:all") => `(tactic| ((with_reducible show wpAny _ _ (call (Value.builtin _) _) _ _ _); refine Halt.go ?_))
local macro_rules | `(tactic| walk_at "pyIter bytes") => `(tactic| ((with_reducible show wpAny _ _ (pyIter (Value.bytes _ _)) _ _ _); refine Halt.go ?_))
theorem om_c : ∀ {w : World} {loose : List Str} {mean : ExcName → Option Value} {mg mb : Str → Option Value} {p : Program} {dp un : Nat} {gd : Option (List Code)} {cn : Str} {cs : Scope} {a : Addr} {ccd : Value} {cl : List (Str × Addr)} {outer : List Env} {A₀ : Around} {base h₀ : Heap} {L : Addr} {m : Str → Option Value} {news : List (Addr × Obj)} {s : Shared} {Q E : Value → Shared → Prop} {tb : Tok} {ks : List Int} {by' : Array UInt8},
  Below A₀ base outer h₀ → Fr h₀ L s.heap m → (hd.heap_39 w.params).In h₀ → News h₀ L s.heap ((435, tabObj #[]) :: news) → Top p loose mean mg mb h₀ → cs.kind = .function → dp + 3 < recursionLimit → un + 30 < cLine →
  KBw.bInts by' = ks → 0 < ks.length → ks.length ≤ 24 → AllBare s.gens → (∀ p ∈ news, p.1 ≠ 435) →
  (∀ s' r t ps, Fr h₀ L s'.heap m → News h₀ L s'.heap ((435, tabObj ps) :: news) → AllBare s'.gens → s'.os = s.os → r ≤ 4 → Q (.int r t) s') →
  wpAny (model PySem.Challenge.rw_bq0025_01.row.prog w) (ktrTop dp un gd cn cs L a ccd cl outer) (call (.ref 440) [.bytes by' tb]) Q E s := by
  k_with_none
  w_top off
  k_fill
  intro w loose mean mg mb p dp un gd cn cs a ccd cl outer A₀ base h₀ L m news s Q E tb ks by' B F X N T hk hdp hun hby hk0 hk1 hbare hoff hret
  refine wpAny_call ?_
  k_dflt (refine' code_def B F X N T ?kA ?kF ?kK ?k6 ?k7 ?k8 ?k9 ?kB ?_ ?c2 ?c3 ?c4 ?c5; (case kA => exact rfl); (case kF => exact rfl); (case kK => assumption); (case k6 => k_is); (case k7 => k_is); (case k8 => ktr_room); (case k9 => exact BindsTo.of_eq rfl); (case c5 => decide); (case kB => exact locs rfl); (case c2 => exact rfl); (case c3 => exact rfl); (case c4 => exact rfl); k_whole; intro g' L' h' FG' F' N' B' X' T'; (try dsimp only); (try k_lift B'); (try k_fold))
  have e1 := X' 439 _ (by k_dflt k_is)
  have e2 := X' 549 _ (by k_dflt k_is)
  have hC : CodeHd g' 439 435 := ⟨_, _, _, _, _, _, _, _, _, e1, rfl, rfl, rfl, rfl, rfl, rfl, rfl, rfl, by decide⟩
  obtain ⟨al, ta, hal⟩ : ∃ al ta, nsIn (hd.heap_39 w.params) mainGlobals (Str.ofString "ALPHA_NUM") = some (some (.bytes al ta)) := ⟨_, _, by k_dflt k_is⟩
  have hlt : @LT.lt Nat _ 435 g'.objs.size := Nat.lt_trans (by decide) (Heap.lt_size e2)
  k_steps
  · exact hret _ _ _ _ (by assumption) (by assumption) hbare rfl (by decide)
  · unfold Halt
    (rename Fr _ _ _ _ => fW); (rename News _ _ _ _ => nW)
    refine gen_hid fW nW T' hC hlt (by decide) rfl rfl rfl rfl rfl (by decide) rfl rfl rfl (by ktr_room) ?_ (by intro _; rfl)
    k_steps
    unfold Halt
    (rename Fr _ _ _ _ => fW); (rename News _ _ _ _ => nW)
    refine genBytes hby (fun i y => y = Value.bool (al.contains (ks.getD i 0).toNat.toUInt8)) fW nW hoff hlt hbare T'.nolimit ?_ ?_
    · intro c' C A' E' i k u t m₂ h1 h2 h3 h4 h5 h6 hF hm hLC
      refine wpAny_Compare1 ?_
      refine ldVarG hF hm ?_
      refine Name_function_global (by rfl) (by rfl) (loadGlobal_global (T'.g.keeps hF.keep) (mg_of X' T'.g hal) ?_) (by decide)
      refine in_bytes h5 h6 ?_
      have e9 : ks.getD i 0 = k := by rw [List.getD_eq_getElem?_getD, h4]; rfl
      exact ⟨by rw [e9], t.heap, t.toks, rfl, fun _ _ e => e⟩
    · intro Kb ps a s₅ hLK hle hPK F5 N5 hb5 hos G
      k_steps
      unfold Halt
      refine all_rowsK F5 hb5 G hLK (fun i => al.contains (ks.getD i 0).toNat.toUInt8) (fun j v s Q E hv hQ => ?_) fun s' F6 hb6 hos6 hk6 => ?_
      · rw [hv.2]; exact wpAny_truthy_bool hQ
      have N6 : News g' L' s'.heap ((435, tabObj ps) :: news) := fun q hq => by
        have z := N5 q hq
        refine ⟨hk6 _ _ ?_ z.1, z.2⟩
        rcases List.mem_cons.mp hq with rfl | hq
        · exact hPK
        · exact hle q hq
      clear N5 F5 G
      k_steps
      · exact hret _ _ _ _ (by assumption) (by assumption) hb6 (hos6.trans hos) (by decide)
      · exact hret _ _ _ _ (by assumption) (by assumption) hb6 (hos6.trans hos) (by decide)
end Mine
end
section
open PySem PySem.W PyProof.Rows PySem.Spec PySem.Calls
set_option Elab.async false
set_option maxRecDepth 100000
set_option maxHeartbeats 0
namespace Mine
local macro_rules | `(tactic| k_room) => `(tactic| ktr_room)
local macro_rules | `(tactic| k_units) => `(tactic| ktr_units)
local macro_rules | `(tactic| k_all) => `(tactic| assumption)
local macro_rules | `(tactic| walk_at "call ref") => `(tactic| ((with_reducible show wpAny _ _ (call (Value.ref 440) _) _ _ _); refine Halt.go ?_))
theorem rot3 {h₀ h : Heap} {L : Addr} {a b c d : Addr × Obj} {news : List (Addr × Obj)} (N : News h₀ L h (a :: b :: c :: d :: news)) : News h₀ L h (d :: a :: b :: c :: news) := cb_drop N (by kcj_in)
theorem qr_c : ∀ {w : World} {loose : List Str} {mean : ExcName → Option Value} {mg mb : Str → Option Value} {p : Program} {dp un : Nat} {gd : Option (List Code)} {cn : Str} {cs : Scope} {a : Addr} {ccd : Value} {cl : List (Str × Addr)} {outer : List Env} {A₀ : Around} {base h₀ : Heap} {L : Addr} {m : Str → Option Value} {news : List (Addr × Obj)} {s : Shared} {Q E : Value → Shared → Prop} {tb tm : Tok} {ks : List Int} {by' : Array UInt8},
  Below A₀ base outer h₀ → Fr h₀ L s.heap m → (hd.heap_39 w.params).In h₀ → News h₀ L s.heap ((435, tabObj #[]) :: news) → Top p loose mean mg mb h₀ → cs.kind = .function → dp + 5 < recursionLimit → un + 60 < cLine →
  KBw.bInts by' = ks → 0 < ks.length → ks.length ≤ 24 → AllBare s.gens → (∀ p ∈ news, p.1 ≠ 435) →
  (∀ s' q qd t1 t2 t3 t4 ps, Fr h₀ L s'.heap m → News h₀ L s'.heap ((q, instObj 479 qd) :: (qd, qrD w t1 t2 t3 by' t4) :: (435, tabObj ps) :: news) → AllBare s'.gens → s'.os = s.os → Q (.ref q) s') →
  wpAny (model PySem.Challenge.rw_bq0025_01.row.prog w) (ktrTop dp un gd cn cs L a ccd cl outer) (call (.ref 479) [.bytes by' tb, .int 4 tm]) Q E s := by
  k_with_none
  w_top off
  k_fill
  intro w loose mean mg mb p dp un gd cn cs a ccd cl outer A₀ base h₀ L m news s Q E tb tm ks by' B F X N T hk hdp hun hby hk0 hk1 hbare hoff hret
  k_dflt (refine' call_cls ?k1 ?k2 ?k3 ?k4 ?k5 ?k6 ?_; (case k1 => k_asm); (case k2 => k_asm); (case k3 => k_asm); (case k4 => k_is); (case k5 => k_is); (case k6 => k_is); k_whole; intro x' d' h' F' N' l1 l2; (try k_lt l1); (try k_lt2 l2); (try k_sweep); skip)
  k_dflt (refine' code_def ?k1 ?k2 ?k3 ?k4 ?k5 ?kA ?kF ?kK ?k6 ?k7 ?k8 ?k9 ?kB ?_ ?c2 ?c3 ?c4 ?c5; (case k1 => k_asm); (case k2 => k_asm); (case k3 => k_asm); (case k4 => k_asm); (case k5 => k_asm); (case kA => exact rfl); (case kF => exact rfl); (case kK => assumption); (case k6 => k_is); (case k7 => k_is); (case k8 => ktr_room); (case k9 => exact binds_K (by k_in) rfl (by k_is) rfl rfl rfl); (case c5 => decide); (case kB => exact locs rfl); (case c2 => exact rfl); (case c3 => exact rfl); (case c4 => exact rfl); k_whole; intro g' L' h' FG' F' N' B' X' T'; (try dsimp only); (try k_lift B'); (try k_fold))
  k_steps
  unfold Halt
  (rename Fr _ _ _ _ => fW); (rename News _ _ _ _ => nW)
  refine om_c B' fW X' (rot3 nW) T' (by first | exact rfl | assumption) (by ktr_room) (by simp only [units_deeper, units_under_make]; ktr_units) hby hk0 hk1 hbare (by k_all) ?_
  intro s9 r9 t9 ps9 F9 N9 hb9 hos9 hr9
  k_steps
  (rename News _ _ _ _ => nZ)
  exact hret _ _ _ _ _ _ _ _ (by assumption) (cb_drop nZ (by kcj_in)) hb9 hos9
end Mine
end
section
open PySem PySem.W PyProof.Rows PySem.Spec PySem.Calls
set_option Elab.async false
set_option maxRecDepth 100000
set_option maxHeartbeats 0
namespace Mine
local macro_rules | `(tactic| k_room) => `(tactic| ktr_room)
local macro_rules | `(tactic| k_units) => `(tactic| ktr_units)
local macro_rules | `(tactic| walk_at "subscriptTail") => `(tactic| (k_here; (with_reducible show wpAny _ _ (subscriptTail _ (PySem.Expr.Name _ _) (Value.ref _) (Value.ref _)) _ _ _); k_dflt (refine' item_slice ?F ?N ?l ?s ?p1 ?p2 ?p3 ?h0 ?sz ?_ ?hs; (case F => k_asm); (case N => k_asm); (case l => k_mem); (case s => k_mem); (case p1 => exact IsPart.int _ _); (case p2 => exact IsPart.none); (case p3 => exact IsPart.none); (case h0 => simp); (case sz => assumption); (case hs => with_unfolding_all rfl); k_whole); intro D' h' F' N' l1))
theorem sub_own {prog : Program} {w : World} {A : Around} {E : Value → Shared → Prop} {s : Shared} {K : Frag} {x C L f : Addr} {h₀ : Heap} {m : Str → Option Value} {ox : Obj} {od : Option Obj} {value slice : PySem.Expr} {i : Value} {Q : Value → Shared → Prop} (F : Fr h₀ L s.heap m) (X₀ : K.In h₀) (I : InstAt s.heap x ox C od) (hq : noSeq K C = true) (hs : findIn K (.ref C) "__getitem__" = some (some (.ref f))) (hf : fnIn K f = true) (hfn : isFn K (.ref f) = true)
    (h : wpAny (model prog w) A (call (.ref f) [.ref x, i]) Q E s)
    (hsl : subscripted slice true (.ref x) i = operate [i, .ref x] (getItem (.ref x) i)) :
    wpAny (model prog w) A (subscriptTail value slice (.ref x) i) Q E s := by
  have X := X₀.keeps F.keep
  unfold fnIn at hf
  split at hf
  · rename_i e
    unfold subscriptTail getitemInPython
    refine wpAny_bind (wpAny_bind (wpAny_bind (I.type.here ((looks_findIn X hs).here ?_))))
    dsimp only
    refine wpAny_bind (wpAny_load (X _ _ e) (wpAny_pure ?_))
    dsimp only
    rw [hsl]
    refine wpAny_bind (wpAny_operate' (getItem_K F X₀ I hq hs hfn (wpAny_mono h (fun v s' z => ?_) fun _ _ z => z)))
    show wpAny (model prog w) A (letTemporaryGo value (.ref x) v >>= fun _ => pure v) Q E s'
    exact wpAny_bind (wpAny_letTemporaryGo (wpAny_pure z))
  · cases hf
theorem gsl_c : ∀ {w : World} {loose : List Str} {mean : ExcName → Option Value} {mg mb : Str → Option Value} {p : Program} {dp un : Nat} {gd : Option (List Code)} {cn : Str} {cs : Scope} {a : Addr} {ccd : Value} {cl : List (Str × Addr)} {outer : List Env} {A₀ : Around} {base h₀ : Heap} {L : Addr} {m : Str → Option Value} {news : List (Addr × Obj)} {s : Shared} {Q E : Value → Shared → Prop} {x dx l sl : Addr} {t1 u : Tok} {us : List Value} {e1 : Nat} {k : Int},
  Below A₀ base outer h₀ → Fr h₀ L s.heap m → (hd.heap_39 w.params).In h₀ → News h₀ L s.heap ((sl, sliceObj (.int k u) .none .none) :: (l, listOf us.toArray e1) :: (x, instObj 306 dx) :: (dx, polyD w t1 l) :: news) → Top p loose mean mg mb h₀ → cs.kind = .function → dp + 1 < recursionLimit → un + 8 < cLine → us.toArray.size ≤ sizeLine →
  (∀ D h' tk', Fr h₀ L h' m → News h₀ L h' ((D, listOf (slicePick us.toArray (some k) none none) 0) :: (sl, sliceObj (.int k u) .none .none) :: (l, listOf us.toArray e1) :: (x, instObj 306 dx) :: (dx, polyD w t1 l) :: news) → (∀ p ∈ (sl, sliceObj (.int k u) .none .none) :: (l, listOf us.toArray e1) :: (x, instObj 306 dx) :: (dx, polyD w t1 l) :: news, p.1 < D) → Q (.ref D) { s with heap := h', toks := tk' }) →
  wpAny (model PySem.Challenge.rw_bq0025_01.row.prog w) (ktrTop dp un gd cn cs L a ccd cl outer) (call (.ref 277) [.ref x, .ref sl]) Q E s := by
  k_with_none
  w_top off
  k_fill
  intro w loose mean mg mb p dp un gd cn cs a ccd cl outer A₀ base h₀ L m news s Q E x dx l sl t1 u us e1 k B F X N T hk hdp hun hsz hret
  refine wpAny_call ?_
  k_dflt cell_enter
  k_steps
  exact hret _ _ _ (by assumption) (by assumption) (by assumption)
theorem self_slice : ∀ {w : World} {loose : List Str} {mean : ExcName → Option Value} {mg mb : Str → Option Value} {p : Program} {dp un : Nat} {gd : Option (List Code)} {cn : Str} {cs : Scope} {a : Addr} {ccd : Value} {cl : List (Str × Addr)} {outer : List Env} {A₀ : Around} {base h₀ : Heap} {L : Addr} {m : Str → Option Value} {news : List (Addr × Obj)} {s : Shared} {Q E : Value → Shared → Prop} {value slice : PySem.Expr} {x dx l : Addr} {t1 u : Tok} {us : List Value} {e1 : Nat} {k : Int},
  Below A₀ base outer h₀ → Fr h₀ L s.heap m → (hd.heap_39 w.params).In h₀ → News h₀ L s.heap ((l, listOf us.toArray e1) :: (x, instObj 306 dx) :: (dx, polyD w t1 l) :: news) → Top p loose mean mg mb h₀ → cs.kind = .function → dp + 1 < recursionLimit → un + 10 < cLine → us.toArray.size ≤ sizeLine →
  (∀ D h' tk', Fr h₀ L h' m → News h₀ L h' ((D, listOf (slicePick us.toArray (some k) none none) 0) :: (l, listOf us.toArray e1) :: (x, instObj 306 dx) :: (dx, polyD w t1 l) :: news) → (∀ p ∈ (l, listOf us.toArray e1) :: (x, instObj 306 dx) :: (dx, polyD w t1 l) :: news, p.1 < D) → Q (.ref D) { s with heap := h', toks := tk' }) →
  subscripted slice true (.ref x) (.ref s.heap.objs.size) = operate [.ref s.heap.objs.size, .ref x] (getItem (.ref x) (.ref s.heap.objs.size)) →
  wpAny (model PySem.Challenge.rw_bq0025_01.row.prog w) (ktrTop dp un gd cn cs L a ccd cl outer) (subscriptTail value slice (.ref x) (.ref s.heap.objs.size)) Q E { s with heap := s.heap.push (sliceObj (.int k u) .none .none) } := by
  k_with_none
  w_top off
  k_fill
  intro w loose mean mg mb p dp un gd cn cs a ccd cl outer A₀ base h₀ L m news s Q E value slice x dx l t1 u us e1 k B F X N T hk hdp hun hsz hret hsl
  have N1 := News.push F N (sliceObj (.int k u) .none .none) rfl
  refine sub_own (F.push _) X (InstAt.of_news N1 (.tail _ (.tail _ (.head _))) (.tail _ (.tail _ (.tail _ (.head _))))) (by k_dflt k_is) (by k_dflt k_is) (by k_dflt k_is) (by k_dflt k_is) ?_ hsl
  refine gsl_c (s := { s with heap := s.heap.push (sliceObj (.int k u) .none .none) }) B (F.push _) X N1 T hk hdp (by omega) hsz fun D h' tk' F' N' lt => ?_
  exact hret D h' tk' F' (cb_drop N' (by kcj_in)) fun q hq => lt q (.tail _ hq)
end Mine
end
section
open PySem PySem.W PyProof.Rows PySem.Spec PySem.Calls
set_option Elab.async false
set_option maxRecDepth 100000
set_option maxHeartbeats 0
namespace Mine
local macro_rules | `(tactic| k_room) => `(tactic| ktr_room)
local macro_rules | `(tactic| k_units) => `(tactic| ktr_units)
theorem getD_le (bs : List B) (i : Nat) : 0 ≤ (bs.map toI).getD i 0 ∧ (bs.map toI).getD i 0 ≤ 255 := by
  rw [getD_toI]; unfold toI; have := (bs.getD i 0#8).isLt; omega
local macro_rules | `(tactic| walk_at "call ref") => `(tactic| (k_here; (with_reducible show wpAny _ _ (call (Value.ref 249) [Value.int _ _]) _ _ _); k_dflt (refine' glog_c ?B ?F ?X ?N ?T ?hk ?hd ?hu ?p1 ?p2 ?_; (case B => k_asm); (case F => k_asm); (case X => k_asm); (case N => k_asm); (case T => k_asm); (case hk => first | exact rfl | assumption); (case hd => ktr_room); (case hu => ktr_units); (case p1 => first | omega | k_extra "glog"); (case p2 => first | omega | k_extra "glog"); k_whole; intro t9 h9 tk9 F9 N9; (try k_fold))))
local macro_rules | `(tactic| walk_at "call ref") => `(tactic| (k_here; (with_reducible show wpAny _ _ (call (Value.ref 256) [Value.int _ _]) _ _ _); k_dflt (refine' gexp_c ?B ?F ?X ?N ?T ?hk ?hd ?hu ?_; (case B => k_asm); (case F => k_asm); (case X => k_asm); (case N => k_asm); (case T => k_asm); (case hk => first | exact rfl | assumption); (case hd => ktr_room); (case hu => ktr_units); k_whole; intro t9 h9 tk9 F9 N9; (try k_fold))))
local macro_rules | `(tactic| k_all) => `(tactic| ((refine' my_all ?ha ?hb); (case ha => assumption); (case hb => omega)))
theorem ints_of {ys : List Value} {n : Nat} {f : Nat → Int} (hn : ys.length = n) (h : ∀ (i : Nat) (y : Value), ys[i]? = some y → ∃ t, y = .int (f i) t) : IntsAre ys ((List.range n).map f) := by
  have key : ∀ (l : List Value) (k : Nat), (∀ (i : Nat) (y : Value), l[i]? = some y → ∃ t, y = .int (f (k + i)) t) → IntsAre l ((List.range' k l.length).map f) := by
    intro l
    induction l with
    | nil => intro k _; exact .nil
    | cons a r ih =>
      intro k hk
      obtain ⟨t, rfl⟩ := hk 0 a rfl
      rw [List.length_cons, List.range'_succ, List.map_cons]
      exact .cons _ _ (ih (k + 1) fun i y e => by
        obtain ⟨t, rfl⟩ := hk (i + 1) y (by simpa using e)
        exact ⟨t, by rw [show k + (i + 1) = k + 1 + i by omega]⟩)
  have q := key ys 0 (fun i y e => by rw [Nat.zero_add]; exact h i y e)
  rw [hn, ← List.range_eq_range'] at q
  exact q
theorem zip_map (as gs : List B) (s : B) : (List.range (min as.length gs.length)).map (fun i => toI (as.getD i 0#8 ^^^ mul (gs.getD i 0#8) s)) = (List.zipWith (fun a o => a ^^^ mul o s) as gs).map toI := by
  apply List.ext_getElem?
  intro i
  rw [List.getElem?_map, List.getElem?_map, List.getElem?_zipWith]
  by_cases h : i < min as.length gs.length
  · have h1 : i < as.length := by omega
    have h2 : i < gs.length := by omega
    have e1 : as.getD i 0#8 = as[i] := by rw [List.getD_eq_getElem?_getD, List.getElem?_eq_getElem h1]; rfl
    have e2 : gs.getD i 0#8 = gs[i] := by rw [List.getD_eq_getElem?_getD, List.getElem?_eq_getElem h2]; rfl
    rw [List.getElem?_range h, List.getElem?_eq_getElem h1, List.getElem?_eq_getElem h2]
    show some (toI (as.getD i 0#8 ^^^ mul (gs.getD i 0#8) s)) = _
    rw [e1, e2]; rfl
  · rw [List.getElem?_eq_none (by simpa using Nat.le_of_not_lt h)]
    rcases Nat.lt_or_ge i as.length with h1 | h1
    · rw [List.getElem?_eq_none (l := gs) (by omega)]
      cases as[i]? <;> rfl
    · rw [List.getElem?_eq_none h1]; rfl
theorem ints_get {vs : List Value} {bs : List B} (hi : IntsAre vs (bs.map toI)) {i : Nat} {v : Value} (h : vs[i]? = some v) : ∃ b t, bs[i]? = some b ∧ v = .int (toI b) t := by
  obtain ⟨k, t, e, hk⟩ := IntsAre.at hi i v h
  rw [List.getElem?_map] at hk
  cases hb : bs[i]? with
  | none => rw [hb] at hk; cases hk
  | some b => rw [hb] at hk; cases hk; exact ⟨b, t, rfl, e⟩
theorem rot6 {h₀ h : Heap} {L : Addr} {c a1 a2 a3 a4 a5 a6 : Addr × Obj} {news : List (Addr × Obj)} (N : News h₀ L h (c :: a1 :: a2 :: a3 :: a4 :: a5 :: a6 :: news)) : News h₀ L h (a1 :: a2 :: a3 :: a4 :: a5 :: a6 :: c :: news) := cb_drop N (by kcj_in)
local macro_rules | `(tactic| walk_at "call ref") => `(tactic| ((with_reducible show wpAny _ _ (call (Value.ref 306) _) _ _ _); refine Halt.go ?_))
local macro_rules | `(tactic| walk_at "call ref") => `(tactic| ((with_reducible show wpAny _ _ (call (Value.ref 303) _) _ _ _); refine Halt.go ?_))
local macro_rules | `(tactic| walk_at "subscriptTail Name Slice ref ref") => `(tactic| ((with_reducible show wpAny _ _ (subscriptTail (PySem.Expr.Name (Str.ofString "self") _) _ _ _) _ _ _); refine Halt.go ?_))
theorem strip_lt {bs : List B} (h : 1 < bs.length) (h0 : bs.getD 0 0#8 = 0#8) : (strip bs).length < bs.length := by
  match bs, h with
  | a :: b :: r, _ =>
    have ha : a = 0#8 := h0
    unfold strip
    rw [if_pos ha]
    exact Nat.lt_of_le_of_lt (strip_len (b :: r)) (by simp)
theorem zip0 {as gs : List B} (ha : 0 < as.length) (hg : 0 < gs.length) (h1 : gs.getD 0 0#8 = 1#8) (r : List B) : (List.zipWith (fun a o => a ^^^ mul o (as.getD 0 0#8)) as gs ++ r).getD 0 0#8 = 0#8 := by
  match as, gs, ha, hg with
  | a :: as, g :: gs, _, _ =>
    have hg : g = 1#8 := h1
    show a ^^^ mul g a = 0#8
    rw [hg, one_mul, BitVec.xor_self]
theorem rotA {h₀ h : Heap} {L : Addr} {a1 a2 a3 d b1 b2 b3 c1 c2 c3 : Addr × Obj} {news : List (Addr × Obj)} (N : News h₀ L h (a1 :: a2 :: a3 :: d :: b1 :: b2 :: b3 :: c1 :: c2 :: c3 :: news)) : News h₀ L h (a1 :: a2 :: a3 :: c1 :: c2 :: c3 :: d :: b1 :: b2 :: b3 :: news) := cb_drop N (by kcj_in)
theorem rotD {h₀ h : Heap} {L : Addr} {a1 a2 a3 d e b1 b2 b3 c1 c2 c3 : Addr × Obj} {news : List (Addr × Obj)} (N : News h₀ L h (a1 :: a2 :: a3 :: d :: e :: b1 :: b2 :: b3 :: c1 :: c2 :: c3 :: news)) : News h₀ L h (a1 :: a2 :: a3 :: c1 :: c2 :: c3 :: d :: e :: b1 :: b2 :: b3 :: news) := cb_drop N (by kcj_in)
theorem rotB {h₀ h : Heap} {L : Addr} {a1 a2 a3 d : Addr × Obj} {news : List (Addr × Obj)} (N : News h₀ L h (d :: a1 :: a2 :: a3 :: news)) : News h₀ L h (a1 :: a2 :: a3 :: d :: news) := cb_drop N (by kcj_in)
theorem rotC {h₀ h : Heap} {L : Addr} {a1 a2 a3 d c : Addr × Obj} {news : List (Addr × Obj)} (N : News h₀ L h (c :: a1 :: a2 :: a3 :: d :: news)) : News h₀ L h (d :: c :: a1 :: a2 :: a3 :: news) := cb_drop N (by kcj_in)
theorem strip_lead {bs : List B} (h : bs ≠ []) : (strip bs).length = 1 ∨ (strip bs).getD 0 0#8 ≠ 0#8 := by
  rcases strip_head bs h with h | ⟨a, r, e, ha⟩
  · exact .inl h
  · exact .inr (by rw [e]; exact ha)
theorem mod_c : ∀ (n : Nat) {w : World} {loose : List Str} {mean : ExcName → Option Value} {mg mb : Str → Option Value} {p : Program} {dp un : Nat} {gd : Option (List Code)} {cn : Str} {cs : Scope} {a : Addr} {ccd : Value} {cl : List (Str × Addr)} {outer : List Env} {A₀ : Around} {base h₀ : Heap} {L : Addr} {m : Str → Option Value} {news : List (Addr × Obj)} {s : Shared} {Q E : Value → Shared → Prop} {x dx l y dy lg : Addr} {t1 t2 : Tok} {us vs : List Value} {as gs : List B} {e1 e2 : Nat}, as.length ≤ n →
  Below A₀ base outer h₀ → Fr h₀ L s.heap m → (hd.heap_39 w.params).In h₀ → News h₀ L s.heap ((l, listOf us.toArray e1) :: (x, instObj 306 dx) :: (dx, polyD w t1 l) :: (lg, listOf vs.toArray e2) :: (y, instObj 306 dy) :: (dy, polyD w t2 lg) :: news) → Top p loose mean mg mb h₀ → cs.kind = .function → dp + 2 * n + 4 < recursionLimit → un + 10 * n + 60 < cLine →
  IntsAre us (as.map toI) → IntsAre vs (gs.map toI) → 0 < as.length → as.length ≤ 64 → 1 < gs.length → gs.length ≤ 64 → (as.length = 1 ∨ as.getD 0 0#8 ≠ 0#8) → (∀ g ∈ gs, g ≠ 0#8) → gs.getD 0 0#8 = 1#8 →
  (∀ x' dx' l' tt us' (rs : List B) e' h' tk', Fr h₀ L h' m → News h₀ L h' ((l', listOf us'.toArray e') :: (x', instObj 306 dx') :: (dx', polyD w tt l') :: (l, listOf us.toArray e1) :: (x, instObj 306 dx) :: (dx, polyD w t1 l) :: (lg, listOf vs.toArray e2) :: (y, instObj 306 dy) :: (dy, polyD w t2 lg) :: news) →
    IntsAre us' (rs.map toI) → 0 < rs.length → rs.length < gs.length → (∀ b, ev gs b = 0#8 → ev rs b = ev as b) → Q (.ref x') { s with heap := h', toks := tk' }) →
  wpAny (model PySem.Challenge.rw_bq0025_01.row.prog w) (ktrTop dp un gd cn cs L a ccd cl outer) (call (.ref 303) [.ref x, .ref y]) Q E s := by
  k_with_none
  w_top off
  k_fill
  intro n
  induction n with
  | zero => intros; exfalso; omega
  | succ n ih =>
  intro w loose mean mg mb p dp un gd cn cs a ccd cl outer A₀ base h₀ L m news s Q E x dx l y dy lg t1 t2 us vs as gs e1 e2 hn B F X N T hk hdp hun hi1 hi2 ha1 ha2 hg1 hg2 hz1 hz2 hz3 hret
  have hle1 : (as.map toI).length = as.length := by simp
  have hle2 : (gs.map toI).length = gs.length := by simp
  have q1 := getD_le as (Int.toNat 0)
  have q2 := getD_le gs (Int.toNat 0)
  have q3 : as.length = 1 ∨ (as.map toI).getD (Int.toNat 0) 0 ≠ 0 := hz1.imp id fun h => by rw [getD_toI, ne_eq, toI_zero]; exact h
  have q4 : (gs.map toI).getD (Int.toNat 0) 0 ≠ 0 := by
    show (gs.map toI).getD 0 0 ≠ 0
    rw [getD_toI, ne_eq, toI_zero, List.getD_eq_getElem?_getD, List.getElem?_eq_getElem (by omega)]
    exact hz2 _ (List.getElem_mem _)
  refine wpAny_call ?_
  k_dflt (refine' code_defC ?k1 ?k2 ?k3 ?k4 ?k5 ?kA ?kF ?kK ?k6 ?k7 ?k8 ?k9 ?kB ?kD ?_ ?c2 ?c3 ?c4; (case kA => exact rfl); (case kF => exact rfl); (case kK => assumption); (case k1 => k_asm); (case k2 => k_asm); (case k3 => k_asm); (case k4 => k_asm); (case k5 => k_asm); (case k6 => k_is); (case k7 => k_is); (case k8 => ktr_room); (case k9 => exact BindsTo.of_eq rfl); (case kB => exact rfl); (case kD => decide +kernel); (case c2 => exact rfl); (case c3 => exact rfl); (case c4 => exact rfl); k_whole; intro g' L' h' tk' cells' FG' F' N' Y' B' X' T' l1; (try k_lt l1); k_cells Y'; (try simp only [List.cons_append, List.nil_append] at N'); (try dsimp only); (try k_lift B'); (try k_fold))
  have hall := l1.2.2.2.2.2.2
  k_steps
  · exact hret _ _ _ _ _ _ _ _ _ (by assumption) (cb_drop (by assumption) (by kcj_in)) hi1 ha1 (by omega) (fun _ _ => rfl)
  · have hs0 : as.getD 0 0#8 ≠ 0#8 := by
      rcases hz1 with h | h
      · exfalso; omega
      · exact h
    refine Assign_ListComp_Z (F₀ := by k_asm) (by rfl) (by with_unfolding_all rfl) (by with_unfolding_all rfl) (by decide) (by rfl) (by decide) (by rfl) (by rfl) (by decide) (by rfl) (by rfl) ?_
    k_steps
    (rename Fr _ _ _ _ => fR)
    (rename News _ _ _ _ => nW)
    refine zip_poly B' fR X' (rot6 nW) T' (by first | exact rfl | assumption) (by ktr_room) (by ktr_units) ?_
    intro z TI TO i1 i2 h9 tk9 F9 Z9 N9
    refine ⟨z, TI, TO, i1, i2, l, lg, us.toArray, vs.toArray, e1, e2, _, fun i y => ∃ t, y = .int (toI (as.getD i 0#8 ^^^ mul (gs.getD i 0#8) (as.getD 0 0#8))) t, rfl, rfl, F9, N9, Z9, ?_, .head _, .tail _ (.tail _ (.tail _ (.head _))), ?_, ?_⟩
    · rw [List.size_toArray, IntsAre.length hi1, sizeLine_eq]; omega
    · intro i v1 v2 oz oT o1 o2 oI C oC Dd m2 ys h tk E' hv1 hv2 hC hx1 hx2 F N
      obtain ⟨a1, t1', ha1', rfl⟩ := ints_get hi1 (by simpa using hv1)
      obtain ⟨a2, t2', ha2', rfl⟩ := ints_get hi2 (by simpa using hv2)
      have hb1 : 1 ≤ toI a2 := by
        have h0 : toI a2 ≠ 0 := fun e => hz2 a2 (List.mem_of_getElem? ha2') (toI_zero.mp e)
        have h1 : 0 ≤ toI a2 := Int.natCast_nonneg _
        omega
      have hb2 : toI a2 ≤ 255 := by have := a2.isLt; unfold toI; omega
      k_steps
      refine ElPost.intro (by assumption) (by assumption) ?_
      have e1 : as.getD i 0#8 = a1 := by rw [List.getD_eq_getElem?_getD, ha1']; rfl
      have e2 : gs.getD i 0#8 = a2 := by rw [List.getD_eq_getElem?_getD, ha2']; rfl
      refine ⟨_, congrArg (fun z => Value.int z _) ?_⟩
      show Builtin.bitXor (toI a1) (expI (logI (toI a2) + (logI ((List.map toI as).getD 0 0) - logI ((List.map toI gs).getD 0 0)))) = _
      rw [getD_toI, getD_toI, e1, e2]
      exact elem_toI (hz2 a2 (List.mem_of_getElem? ha2')) hs0 hz3
    · intro Dd h tk ys hyl hG F N ltD
      have hys := ints_of hyl hG
      rw [List.size_toArray, List.size_toArray, hi1.length, hi2.length, List.length_map, List.length_map, zip_map] at hys
      have hl3 : (List.map toI (List.zipWith (fun a o => a ^^^ mul o (as.getD 0 0#8)) as gs)).length = gs.length := by simp; omega
      have N : News g' L' h ((Dd, listOf ys.toArray ys.length) :: _) := N
      dsimp only
      k_steps
      · unfold Halt
        (rename Fr _ _ _ _ => fR)
        (rename News _ _ _ _ => nW)
        refine self_slice B' fR X' (rotB nW) T' (by first | exact rfl | assumption) (by ktr_room) (by ktr_units) (by rw [List.size_toArray, IntsAre.length hi1, sizeLine_eq]; omega) ?_ (by with_unfolding_all rfl)
        intro D2 h2 tk2 F2 N2 lt2
        have hneg : (-((List.map toI as).length - (List.map toI gs).length : Int)) < 0 := by omega
        have hzs := kmk_from_neg hi1 hneg
        rw [show (List.map toI as).length - (-(-((List.map toI as).length - (List.map toI gs).length : Int))).toNat = gs.length by omega, ← List.map_drop] at hzs
        generalize slicePick us.toArray (some (-((List.map toI as).length - (List.map toI gs).length : Int))) none none = S at N2 hzs
        obtain ⟨zs, rfl⟩ : ∃ zs : List Value, S = zs.toArray := ⟨S.toList, by simp⟩
        replace hzs : IntsAre zs ((as.drop gs.length).map toI) := hzs
        have hzl : zs.length = as.length - gs.length := by rw [hzs.length]; simp
        have N2 := rotC N2
        have neD : D2 ≠ Dd := (Nat.ne_of_lt (lt2 (Dd, W.listOf ys.toArray ys.length) (.tail _ (.tail _ (.tail _ (.head _)))))).symm
        k_steps
        refine kl_extend (l := ys ++ zs) F2 N2 (.tail _ (.head _)) rfl (by rw [hzl]; omega) (.head fun q hq => ?_) ?_ (by rw [hys.length, sizeLine_eq]; omega) (by rw [List.size_toArray, List.size_toArray, hys.length, hzl, sizeLine_eq]; omega) ?_
        · rcases List.mem_cons.mp hq with rfl | hq
          · exact neD
          · exact Nat.ne_of_lt (ltD q hq)
        · rw [List.size_toArray, List.size_toArray, hys.length, hl3, hzl]
          intro hh
          have h2 := (Bool.and_eq_true_iff.mp hh).2
          have h3 : gs.length + (as.length - gs.length) > sizeLine := of_decide_eq_true h2
          rw [sizeLine_eq] at h3
          omega
        intro h3 F3 N3
        k_steps
        unfold Halt
        have hyz : IntsAre (ys ++ zs) ((List.zipWith (fun a o => a ^^^ mul o (as.getD 0 0#8)) as gs ++ as.drop gs.length).map toI) := by
          rw [List.map_append]; exact hys.append hzs
        generalize hbs : List.zipWith (fun a o => a ^^^ mul o (as.getD 0 0#8)) as gs ++ as.drop gs.length = bs at hyz
        have hbl : bs.length = as.length := by rw [← hbs]; simp; omega
        refine poly_c (sh := 0) B' F3 X' N3 T' (by first | exact rfl | assumption) (by ktr_room) (by ktr_units) hyz (by omega) (by omega) (by omega) (fun q hq => ?_) ?_
        · rcases List.mem_cons.mp hq with rfl | hq
          · exact neD
          · exact Nat.ne_of_lt (ltD q hq)
        intro x2 dx2 l2 tt2 us2 h4 tk4 F4 N4 hi2' ho2
        k_steps
        unfold Halt
        rw [List.replicate_zero, List.append_nil] at hi2'
        have hz0 : bs.getD 0 0#8 = 0#8 := by rw [← hbs]; exact zip0 (as := as) (gs := gs) (by omega) (by omega) hz3 _
        have hb1 : 1 < bs.length := by omega
        have hlt := strip_lt hb1 hz0
        have hnn : bs ≠ [] := by intro e; rw [e] at hb1; simp at hb1
        have hsp : 0 < (strip bs).length := List.length_pos_iff.mpr (strip_ne _ hnn)
        refine ih (by omega) B' F4 X' (rotD N4) T' (by first | exact rfl | assumption) (by ktr_room) (by ktr_units) hi2' hi2 hsp (by omega) hg1 hg2 (strip_lead hnn) hz2 hz3 ?_
        intro x' dx' l' tt us' rs e' h' tk' F5 N5 hir hr1 hr2 hr3
        dsimp only [W.CmpBack]
        k_steps
        refine hret _ _ _ _ _ _ _ _ _ (by assumption) (cb_drop (by assumption) (by kcj_in)) hir hr1 hr2 fun b hb => ?_
        rw [hr3 b hb, ev_strip, ← hbs]
        exact div_ev b (as.getD 0 0#8) as gs hb (by omega)
      · unfold Halt
        have heq : as.length = gs.length := by omega
        have hbl : (List.zipWith (fun a o => a ^^^ mul o (as.getD 0 0#8)) as gs).length = as.length := by simp; omega
        (rename Fr _ _ _ _ => fR)
        (rename News _ _ _ _ => nW)
        refine poly_c (sh := 0) B' fR X' nW T' (by first | exact rfl | assumption) (by ktr_room) (by ktr_units) hys (by omega) (by omega) (by omega) (fun p hp => Nat.ne_of_lt (ltD p hp)) ?_
        intro x2 dx2 l2 tt2 us2 h2 tk2 F2 N2 hi2' ho2
        k_steps
        unfold Halt
        rw [List.replicate_zero, List.append_nil] at hi2'
        have hz0 := zip0 (as := as) (gs := gs) (by omega) (by omega) hz3 []
        rw [List.append_nil] at hz0
        have hb1 : 1 < (List.zipWith (fun a o => a ^^^ mul o (as.getD 0 0#8)) as gs).length := by omega
        have hlt := strip_lt hb1 hz0
        have hnn : List.zipWith (fun a o => a ^^^ mul o (as.getD 0 0#8)) as gs ≠ [] := by intro e; rw [e] at hb1; simp at hb1
        have hsp : 0 < (strip (List.zipWith (fun a o => a ^^^ mul o (as.getD 0 0#8)) as gs)).length := List.length_pos_iff.mpr (strip_ne _ hnn)
        refine ih (by omega) B' F2 X' (rotA N2) T' (by first | exact rfl | assumption) (by ktr_room) (by ktr_units) hi2' hi2 hsp (by omega) hg1 hg2 (strip_lead hnn) hz2 hz3 ?_
        intro x' dx' l' tt us' rs e' h' tk' F3 N3 hir hr1 hr2 hr3
        dsimp only [W.CmpBack]
        k_steps
        refine hret _ _ _ _ _ _ _ _ _ (by assumption) (cb_drop (by assumption) (by kcj_in)) hir hr1 hr2 fun b hb => ?_
        rw [hr3 b hb, ev_strip]
        have q := div_ev b (as.getD 0 0#8) as gs hb (by omega)
        rw [List.drop_eq_nil_of_le (by omega), List.append_nil] at q
        exact q
end Mine
end
section
open PySem PySem.W PyProof.Rows PySem.Spec PySem.Calls
set_option Elab.async false
set_option maxRecDepth 100000
set_option maxHeartbeats 0
namespace Mine
local macro_rules | `(tactic| k_room) => `(tactic| ktr_room)
local macro_rules | `(tactic| k_units) => `(tactic| ktr_units)
local macro_rules | `(tactic| kmk_nums) => `(tactic| ((with_reducible show IntsAre (slicePick _ (some _) none none).toList _); exact kmk_from (by l_ints) (by omega)))
theorem poly_k : ∀ {w : World} {loose : List Str} {mean : ExcName → Option Value} {mg mb : Str → Option Value} {p : Program} {dp un : Nat} {gd : Option (List Code)} {cn : Str} {cs : Scope} {a : Addr} {ccd : Value} {cl : List (Str × Addr)} {outer : List Env} {A₀ : Around} {base h₀ : Heap} {L : Addr} {m : Str → Option Value} {news : List (Addr × Obj)} {s : Shared} {Q E : Value → Shared → Prop} {nl : Addr} {vs : List Value} {bs : List B} {sh : Nat} {t : Tok},
  Below A₀ base outer h₀ → Fr h₀ L s.heap m → (hd.heap_39 w.params).In h₀ → News h₀ L s.heap news → Top p loose mean mg mb h₀ → cs.kind = .function → dp + 2 < recursionLimit → un + 16 < cLine → IntsAre vs (bs.map toI) → 0 < bs.length → bs.length ≤ 64 → sh ≤ 64 → h₀.IsList nl vs.toArray →
  (∀ x dx l tt us h' tk', Fr h₀ L h' m → News h₀ L h' ((l, listOf us.toArray 0) :: (x, instObj 306 dx) :: (dx, dictOf [⟨PyData.keyHash w.params (Str.ofString "num"), .str (Str.ofString "num") tt, .ref l⟩] 1) :: news) →
    IntsAre us ((strip bs ++ List.replicate sh 0#8).map toI) → (x < l ∧ dx < x ∧ AllLt dx news) → Q (.ref x) { s with heap := h', toks := tk' }) →
  wpAny (model PySem.Challenge.rw_bq0025_01.row.prog w) (ktrTop dp un gd cn cs L a ccd cl outer) (call (.ref 306) [.ref nl, .int sh t]) Q E s := by
  k_with_none
  w_top off
  k_fill
  intro w loose mean mg mb p dp un gd cn cs a ccd cl outer A₀ base h₀ L m news s Q E nl vs bs sh t B F X N T hk hdp hun hi hne hle hsh hoff hret
  k_dflt (refine' call_cls ?k1 ?k2 ?k3 ?k4 ?k5 ?k6 ?_; (case k1 => k_asm); (case k2 => k_asm); (case k3 => k_asm); (case k4 => k_is); (case k5 => k_is); (case k6 => k_is); k_whole; intro x' d' h' F' N' l1 l2; (try k_lt l1); (try k_lt2 l2); (try k_sweep); skip)
  k_dflt (refine' code_def ?k1 ?k2 ?k3 ?k4 ?k5 ?kA ?kF ?kK ?k6 ?k7 ?k8 ?k9 ?kB ?_ ?c2 ?c3 ?c4 ?c5; (case k1 => k_asm); (case k2 => k_asm); (case k3 => k_asm); (case k4 => k_asm); (case k5 => k_asm); (case kA => exact rfl); (case kF => exact rfl); (case kK => assumption); (case k6 => k_is); (case k7 => k_is); (case k8 => ktr_room); (case k9 => exact BindsTo.of_eq rfl); (case c5 => decide); (case kB => exact locs rfl); (case c2 => exact rfl); (case c3 => exact rfl); (case c4 => exact rfl); k_whole; intro g8 L8 h8 FG8 F8 N8 B8 X8 T8; (try dsimp only); (try k_fold))
  have hL8 : g8.IsList nl vs.toArray := stays_list (fun b o e => FG8.keep b o e) hoff
  have hle1 : 0 < (bs.map toI).length := by simpa using hne
  have hle2 : (bs.map toI).length ≤ 64 := by simpa using hle
  k_with "pyIter ref" => ((with_reducible show wpAny _ _ (pyIter (Value.ref _)) (fun it s₂ => LoopAtV _ _ _ _ _ _ _ _ _ it s₂) _ _); (rename Fr _ _ _ _ => lF'); (rename News _ _ _ _ => lN'); (rename IsRange _ _ _ _ _ _ _ _ => rgX); (with_unfolding_all refine' rng_brk (fun i => (bs.map toI).getD i 0 = 0) (fun i => (bs.map toI).getD i 0 ≠ 0) (by rfl) rgX (by omega) (by omega) lF' lN' (fun i' t' h' tk' own' hlt' hG' hoff' F' N' => ?_) (fun i' t' h' tk' hlt' hG' hB' F' N' => ?_)); (all_goals (try clear lF' lN')); (all_goals (try k_fold)))
  k_with "BrkPost" => (dsimp only [BrkPost])
  k_with "InvEndN" => (refine InvEndN.intro (by assumption) (by assumption) ⟨rfl, ⟨_, rfl⟩, by assumption⟩ rfl (fun p hp => List.mem_append_left _ hp) (fun p hp => List.mem_append_right _ hp))
  k_steps
  exact hret _ _ _ _ _ _ _ (by assumption) (cb_drop (by assumption) (by kcj_in)) (strip_ints (by assumption) hlt' hG' hB') ⟨ltN (by omega), l2, allLt_of l1⟩
end Mine
end
section
open PySem PySem.W PyProof.Rows PySem.Spec PySem.Calls
set_option Elab.async false
set_option maxRecDepth 100000
set_option maxHeartbeats 0
namespace Mine
/-- a dict of written int keys in the written part -/
def keysLitI : List DictEntry → Bool
  | [] => true
  | e :: r => (match e.key with | .int k _ => e.hash == PySem.hashInt k | _ => false) && keysLitI r
theorem keysLitI_all : ∀ {l : List DictEntry}, keysLitI l = true → ∀ e ∈ l, ∃ k t, e.key = .int k t ∧ e.hash = PySem.hashInt k
  | e :: r, h, _, .head _ => by
    have h1 := (Bool.and_eq_true_iff.mp h).1
    cases hk : e.key with
    | int k t => rw [hk] at h1; exact ⟨k, t, rfl, beq_iff_eq.mp h1⟩
    | _ => rw [hk] at h1; cases h1
  | e :: r, h, _, .tail _ m => keysLitI_all (Bool.and_eq_true_iff.mp h).2 _ m
theorem mapOfI {prog : Program} {w : World} {K : Frag} {h : Heap} {a : Addr} {es : Array DictEntry} {n : Nat} (X : K.In h) (hl : K.lookup a = some ⟨.type "dict", none, .dict es n, #[]⟩) (hk : keysLitI es.toList = true) : h.MapOf (intKind prog w) a (fun k => findBy Value.isInt es k) :=
  ⟨_, es, n, X _ _ hl, ⟨rfl, rfl, rfl⟩, rfl, fun e he => by
    obtain ⟨k, t, e1, e2⟩ := keysLitI_all hk e (Array.mem_toList_iff.mpr he)
    exact ⟨k, by rw [e1]; exact intKind_is prog w k t, e2⟩, fun _ => rfl⟩
/-- the four generators of the table that the law comes to -/
def gens : Nat → List B
  | 7 => [1#8, 127#8, 122#8, 154#8, 164#8, 11#8, 68#8, 117#8]
  | 10 => [1#8, 216#8, 194#8, 159#8, 111#8, 199#8, 94#8, 95#8, 113#8, 157#8, 193#8]
  | 13 => [1#8, 137#8, 73#8, 227#8, 17#8, 177#8, 17#8, 52#8, 13#8, 46#8, 43#8, 83#8, 132#8, 120#8]
  | 17 => [1#8, 119#8, 66#8, 83#8, 120#8, 119#8, 22#8, 197#8, 83#8, 249#8, 41#8, 143#8, 134#8, 85#8, 53#8, 125#8, 99#8, 79#8]
  | _ => []
theorem gens_7 : (gens 7).map toI = [1, 127, 122, 154, 164, 11, 68, 117] := by decide +kernel
theorem gens_10 : (gens 10).map toI = [1, 216, 194, 159, 111, 199, 94, 95, 113, 157, 193] := by decide +kernel
theorem gens_13 : (gens 13).map toI = [1, 137, 73, 227, 17, 177, 17, 52, 13, 46, 43, 83, 132, 120] := by decide +kernel
theorem gens_17 : (gens 17).map toI = [1, 119, 66, 83, 120, 119, 22, 197, 83, 249, 41, 143, 134, 85, 53, 125, 99, 79] := by decide +kernel
def Ecc (e : Nat) : Prop := e = 7 ∨ e = 10 ∨ e = 13 ∨ e = 17
theorem gens_ok {e : Nat} (h : Ecc e) : (gens e).length = e + 1 ∧ (∀ g ∈ gens e, g ≠ 0#8) ∧ (gens e).getD 0 0#8 = 1#8 := by
  rcases h with rfl | rfl | rfl | rfl <;> decide +kernel
theorem lut_get : ∀ {w : World} {A : Around} {h₀ : Heap} {L : Addr} {m : Str → Option Value} {s : Shared} {Q E : Value → Shared → Prop} {e : Nat} {i : Int} {t : Tok},
  Fr h₀ L s.heap m → (hd.heap_39 w.params).In h₀ → Ecc e → i = (e : Int) →
  (∀ r vs, h₀.IsList r (List.toArray vs) → IntsAre vs ((gens e).map toI) → Q (.ref r) { s with toks := s.toks + 1 }) →
  wpAny (model PySem.Challenge.rw_bq0025_01.row.prog w) A (getItem (.ref 22) (.int i t)) Q E s := by
  k_with_none
  w_top off
  k_fill
  intro w A h₀ L m s Q E e i t F X he hi hret
  subst hi
  rcases he with rfl | rfl | rfl | rfl
  · k_dflt (refine' wpAny_getItem_of (v := .ref 23) (intKind_is _ _ _ _) (mapOfI (X.keeps F.keep) ?l ?k) ?v ?_)
    case l => k_dflt k_is
    case k => decide +kernel
    case v => rfl
    refine' hret 23 ?vs7 (lstK X ?hl7) ?hi7
    case hl7 => k_dflt k_is
    case hi7 =>
      rw [gens_7]
      repeat (first | exact IntsAre.nil | refine IntsAre.cons _ _ ?_)
  · k_dflt (refine' wpAny_getItem_of (v := .ref 24) (intKind_is _ _ _ _) (mapOfI (X.keeps F.keep) ?l ?k) ?v ?_)
    case l => k_dflt k_is
    case k => decide +kernel
    case v => rfl
    refine' hret 24 ?vs10 (lstK X ?hl10) ?hi10
    case hl10 => k_dflt k_is
    case hi10 =>
      rw [gens_10]
      repeat (first | exact IntsAre.nil | refine IntsAre.cons _ _ ?_)
  · k_dflt (refine' wpAny_getItem_of (v := .ref 25) (intKind_is _ _ _ _) (mapOfI (X.keeps F.keep) ?l ?k) ?v ?_)
    case l => k_dflt k_is
    case k => decide +kernel
    case v => rfl
    refine' hret 25 ?vs13 (lstK X ?hl13) ?hi13
    case hl13 => k_dflt k_is
    case hi13 =>
      rw [gens_13]
      repeat (first | exact IntsAre.nil | refine IntsAre.cons _ _ ?_)
  · k_dflt (refine' wpAny_getItem_of (v := .ref 28) (intKind_is _ _ _ _) (mapOfI (X.keeps F.keep) ?l ?k) ?v ?_)
    case l => k_dflt k_is
    case k => decide +kernel
    case v => rfl
    refine' hret 28 ?vs17 (lstK X ?hl17) ?hi17
    case hl17 => k_dflt k_is
    case hi17 =>
      rw [gens_17]
      repeat (first | exact IntsAre.nil | refine IntsAre.cons _ _ ?_)
theorem lut_in : ∀ {w : World} {A : Around} {h₀ : Heap} {L : Addr} {m : Str → Option Value} {s : Shared} {Q E : Value → Shared → Prop} {e : Nat} {i : Int} {t : Tok},
  Fr h₀ L s.heap m → (hd.heap_39 w.params).In h₀ → Ecc e → i = (e : Int) → Q (.bool true) { s with toks := s.toks + 1 } →
  wpAny (model PySem.Challenge.rw_bq0025_01.row.prog w) A (compareOp .In (.int i t) (.ref 22)) Q E s := by
  k_with_none
  w_top off
  k_fill
  intro w A h₀ L m s Q E e i t F X he hi hret
  subst hi
  rcases he with rfl | rfl | rfl | rfl
  · k_dflt (refine' wpAny_in_of (intKind_is _ _ _ _) (by decide) (mapOfI (X.keeps F.keep) ?l ?k) ?_)
    case l => k_dflt k_is
    case k => decide +kernel
    exact hret
  · k_dflt (refine' wpAny_in_of (intKind_is _ _ _ _) (by decide) (mapOfI (X.keeps F.keep) ?l ?k) ?_)
    case l => k_dflt k_is
    case k => decide +kernel
    exact hret
  · k_dflt (refine' wpAny_in_of (intKind_is _ _ _ _) (by decide) (mapOfI (X.keeps F.keep) ?l ?k) ?_)
    case l => k_dflt k_is
    case k => decide +kernel
    exact hret
  · k_dflt (refine' wpAny_in_of (intKind_is _ _ _ _) (by decide) (mapOfI (X.keeps F.keep) ?l ?k) ?_)
    case l => k_dflt k_is
    case k => decide +kernel
    exact hret
theorem lut_tail : ∀ {w : World} {A : Around} {h₀ : Heap} {L : Addr} {m : Str → Option Value} {s : Shared} {Q E : Value → Shared → Prop} {e : Nat} {i : Int} {t : Tok} {value slice : PySem.Expr},
  Fr h₀ L s.heap m → (hd.heap_39 w.params).In h₀ → Ecc e → i = (e : Int) →
  (∀ r vs, h₀.IsList r (List.toArray vs) → IntsAre vs ((gens e).map toI) → Q (.ref r) { s with toks := s.toks + 1 }) →
  subscripted slice false (.ref 22) (.int i t) = operate [.ref 22, .int i t] (getItem (.ref 22) (.int i t)) →
  wpAny (model PySem.Challenge.rw_bq0025_01.row.prog w) A (subscriptTail value slice (.ref 22) (.int i t)) Q E s := by
  k_with_none
  w_top off
  k_fill
  intro w A h₀ L m s Q E e i t value slice F X he hi hret hs
  have X1 := X.keeps F.keep
  have hT : s.TypeIs (.ref 22) "dict" := by
    have z := mapOfI (prog := PySem.Challenge.rw_bq0025_01.row.prog) (w := w) (a := 22) X1 (by k_dflt k_is) (by decide +kernel)
    exact z.typeIs
  exact tail_any hT slot_dict_getitem.lookup (lut_get F X he hi hret) hs
theorem strip_id2 {bs : List B} (h : bs.getD 0 0#8 ≠ 0#8) : strip bs = bs := by
  cases bs with
  | nil => rfl
  | cons a r => exact strip_id h
end Mine
end
section
open PySem PySem.W PyProof.Rows PySem.Spec PySem.Calls PyProof.V
set_option Elab.async false
set_option maxRecDepth 100000
namespace Mine
/-- what a turn hands on in a loop that grows one list of ints, and may store one more name -/
def Grows (f : Nat → Int) (le : Addr) (rest : List (Addr × Obj)) (n0 i : Nat) (nx : List (Addr × Obj)) : Prop := ∃ us e, nx = (le, W.listOf (List.toArray us) e) :: rest ∧ IntsAre us ((List.range (n0 + i)).map f)
section
variable {prog : Program} {w : World} {A : Around} {E : Value → Shared → Prop} {s : Shared} {env : Env} {h₀ : Heap} {x : Str} {body : List Stmt} {Q : Flow → Shared → Prop}
theorem rng_grow {r : Addr} {t₀ u₀ v₀ : Tok} {n n0 : Nat} {y : Str} {m₀ : Str → Option Value} {le : Addr} {us0 : List Value} {e0 : Nat} {rest : List (Addr × Obj)} (f : Nat → Int)
    (hh : A.handled = none) (hr : IsRange s.heap r 0 (n : Int) 1 t₀ u₀ v₀) (hnb : n < 2 ^ 20) (F : Fr h₀ env.locals s.heap m₀) (N : News h₀ env.locals s.heap ((le, W.listOf (List.toArray us0) e0) :: rest)) (h0 : IntsAre us0 ((List.range n0).map f))
    (turn : ∀ (i : Nat) t vy us e h tk own, i < n → IntsAre us ((List.range (n0 + i)).map f) → us.length = n0 + i → OwnOff own (le :: rest.map (·.1)) → Fr h₀ env.locals h (fun z => if z = x then some (.int (i : Int) t) else if z = y then vy else m₀ z) → News h₀ env.locals h ((le, W.listOf (List.toArray us) e) :: (rest ++ own)) →
      wpAny (model prog w) A (execs body env) (LedPost2 h₀ env.locals x y m₀ (Grows f le rest n0 (i + 1)) own (le :: rest.map (·.1)) { s with heap := h, toks := tk } Q) E { s with heap := h, toks := tk })
    (done : ∀ vx vy us e h tk, IntsAre us ((List.range (n0 + n)).map f) → us.length = n0 + n → Fr h₀ env.locals h (fun z => if z = x then vx else if z = y then vy else m₀ z) → News h₀ env.locals h ((le, W.listOf (List.toArray us) e) :: rest) → Q .next { s with heap := h, toks := tk }) :
    wpAny (model prog w) A (pyIter (.ref r)) (fun it s₂ => LoopAtV prog w A h₀ env x body Q E it s₂) E s := by
  have len : ∀ {us : List Value} {k : Nat}, IntsAre us ((List.range k).map f) → us.length = k := fun h => by rw [h.length]; simp
  refine rng_led2 (y := y) (Grows f le rest n0) hh hr hnb F N ⟨us0, e0, rfl, h0⟩ ?_ ?_
  · rintro i t vy nx h tk own hi ha hoff ⟨us, e, rfl, hI⟩ F₁ N₁
    exact turn i t vy us e h tk own hi hI (len hI) hoff F₁ N₁
  · rintro vx vy nx h tk ⟨us, e, rfl, hI⟩ F₁ N₁
    exact done vx vy us e h tk hI (len hI) F₁ N₁
/-- the end of such a turn -/
theorem Grows.end {f : Nat → Int} {le L : Addr} {y : Str} {rest own : List (Addr × Obj)} {n0 i : Nat} {m₀ m' : Str → Option Value} {us : List Value} {e : Nat} {h' : Heap} {tk : Nat} {s₁ : Shared} {Q : Flow → Shared → Prop} (F : Fr h₀ L h' m') (N : News h₀ L h' ((le, W.listOf (List.toArray us) e) :: (rest ++ own))) (hm : ∀ z, z ≠ x → z ≠ y → m' z = m₀ z) (hI : IntsAre us ((List.range (n0 + i)).map f)) :
    LedPost2 h₀ L x y m₀ (Grows f le rest n0 i) own (le :: rest.map (·.1)) s₁ Q .next { s₁ with heap := h', toks := tk } :=
  InvEnd.c1 (nx := rest) F N ⟨hm, us, e, rfl, hI⟩ rfl
end
end Mine
end
section
open PySem
set_option Elab.async false
namespace Mine
/-- the remainder, filled up in front -/
def pad (rs : List B) (ec : Nat) : List B := List.replicate (ec - rs.length) 0#8 ++ rs
theorem pad_len {rs : List B} {ec : Nat} (h : rs.length ≤ ec) : (pad rs ec).length = ec := by
  unfold pad; rw [List.length_append, List.length_replicate]; omega
theorem pad_ev (rs : List B) (ec : Nat) (b : B) : ev (pad rs ec) b = ev rs b := ev_zeros_append b rs _
theorem pad_map {rs : List B} {ec rm : Nat} (h : rs.length ≤ ec) (he : 26 = rm + ec) : (List.range ec).map (fun j : Nat => if 0 ≤ (j : Int) + (((rs.map toI).length : Int) - (26 - (rm : Int))) then (rs.map toI).getD ((j : Int) + (((rs.map toI).length : Int) - (26 - (rm : Int)))).toNat 0 else 0) = (pad rs ec).map toI := by
  have hl := pad_len h
  apply List.ext_getElem?
  intro i
  rw [List.getElem?_map, List.getElem?_map]
  by_cases hi : i < ec
  · rw [List.getElem?_range hi, List.getElem?_eq_getElem (by omega)]
    simp only [Option.map_some, List.length_map]
    congr 1
    unfold pad
    by_cases hc : 0 ≤ (i : Int) + ((rs.length : Int) - (26 - (rm : Int)))
    · rw [if_pos hc, getD_toI, List.getElem_append_right (by rw [List.length_replicate]; omega)]
      congr 1
      rw [List.getD_eq_getElem?_getD, List.getElem?_eq_getElem (by omega)]
      simp only [Option.getD_some, List.length_replicate]
      congr 1
      omega
    · rw [if_neg hc, List.getElem_append_left (by rw [List.length_replicate]; omega), List.getElem_replicate]
      rfl
  · rw [List.getElem?_eq_none (by simpa using Nat.le_of_not_lt hi), List.getElem?_eq_none (by omega)]
    rfl
end Mine
end
section
open PySem PySem.W PyProof.Rows PySem.Spec PySem.Calls
set_option Elab.async false
set_option maxRecDepth 100000
set_option maxHeartbeats 0
namespace Mine
local macro_rules | `(tactic| k_room) => `(tactic| ktr_room)
local macro_rules | `(tactic| k_units) => `(tactic| ktr_units)
local macro_rules | `(tactic| k_all) => `(tactic| assumption)
local macro_rules | `(tactic| k_all) => `(tactic| ((refine' my_all ?ha ?hb); (case ha => assumption); (case hb => first | exact Nat.le_refl _ | omega)))
local macro_rules | `(tactic| walk_at "pyIter ref") => `(tactic| ((with_reducible show wpAny _ _ (pyIter (Value.ref _)) (fun it s₂ => LoopAtV _ _ _ _ _ _ _ _ _ it s₂) _ _); refine Halt.go ?_))
local macro_rules | `(tactic| walk_at "getAttr ref") => `(tactic| ((with_reducible show wpAny _ _ (getAttr (Value.ref _) (Str.ofString "data_count") _) _ _ _); refine Halt.go ?_))
local macro_rules | `(tactic| walk_at "getAttr ref") => `(tactic| ((with_reducible show wpAny _ _ (getAttr (Value.ref _) (Str.ofString "total_count") _) _ _ _); refine Halt.go ?_))
local macro_rules | `(tactic| walk_at "exec For Name Name cons nil") => `(tactic| (k_here; (rename Fr _ _ _ _ => lF'); (with_unfolding_all refine' For_invVF lF' ?k1 ?k2 ?_; (case k1 => exact rfl); (case k2 => exact rfl); k_whole)))
local macro_rules | `(tactic| walk_at "exec Assign cons ListComp") => `(tactic| ((with_reducible show wpAny _ _ (exec (Stmt.Assign _ (PySem.Expr.ListComp _ _ _ _) _) _) _ _ _); refine Halt.go ?_))
local macro_rules | `(tactic| walk_at "CompSrc") => `(tactic| ((with_reducible show LCg.CompSrc _ _ _ _ _ _ _ _ _ _ _ _ _ _); refine Halt.go ?_))
theorem max0 {prog : Program} {w : World} {A : Around} {E : Value → Shared → Prop} {s : Shared} {h₀ : Heap} {L : Addr} {m : Str → Option Value} {news : List (Addr × Obj)} {b : Int} {t u : Tok} {Q : Value → Shared → Prop} (hb : 0 < b) (hh : A.handled = none) (F : Fr h₀ L s.heap m) (N : News h₀ L s.heap news)
    (h : ∀ h' tk, Fr h₀ L h' m → News h₀ L h' news → Q (.int b u) { s with heap := h', toks := tk }) : wpAny (model prog w) A (call (.builtin "max") [.int 0 t, .int b u]) Q E s :=
  max_two_N hh F N fun h' tk F' N' => by rw [if_pos hb, if_pos hb]; exact h h' tk F' N'
local macro_rules | `(tactic| walk_at "call builtin:max") => `(tactic| ((with_reducible show wpAny _ _ (call (Value.builtin _) _) _ _ _); refine Halt.go ?_))
theorem post_halt {α : Type} {M : Model} {A : Around} {t : Sem α} {Q : α → Shared → Prop} {E : Value → Shared → Prop} {s : Shared} (h : wpAny M A t (fun v s' => Halt (Q v s')) E s) : wpAny M A t Q E s := h
local macro_rules | `(tactic| walk_at "call builtin:list.append") => `(tactic| (k_here; (with_reducible show wpAny _ _ (call (Value.builtin _) [Value.ref _, Value.int _ _]) _ _ _); k_dflt (refine' app_ints ?k1 ?k2 ?k3 ?k4 ?z ?_; (case k1 => k_asm); (case k2 => k_asm); (case k3 => k_upd); (case k4 => with_reducible assumption); (case z => size_fits); k_whole); intro h' F' N' hi' hl'; (try k_sweep)))
theorem app_off {d : Addr} {news own : List (Addr × Obj)} (h1 : ∀ p ∈ own, p.1 ≠ d) (h2 : ∀ p ∈ news, p.1 ≠ d) : ∀ p ∈ news ++ own, p.1 ≠ d := fun p hp => (List.mem_append.mp hp).elim (h2 p) (h1 p)
theorem grow_snoc {us : List Value} {f : Nat → Int} {j : Nat} {k : Int} (h : IntsAre us ((List.range (0 + j)).map f ++ [k])) (e : k = f j) : IntsAre us ((List.range (0 + (j + 1))).map f) := by
  subst e
  rw [Nat.zero_add] at h
  rw [Nat.zero_add, List.range_succ, List.map_append]
  exact h
local macro_rules | `(tactic| walk_at "call builtin:list.append") => `(tactic| (k_here; (with_reducible show wpAny _ _ (call (Value.builtin _) [Value.ref _, Value.ref _]) _ _ _); k_dflt (refine' app_list ?k1 ?k2 ?k3 ?z ?_; (case k1 => k_asm); (case k2 => k_asm); (case k3 => k_upd); (case z => size_fits); k_whole); intro h' F' N'; (try k_sweep)))
local macro_rules | `(tactic| walk_at "UnrEnd") => `(tactic| ((with_reducible show UnrEnd _ _ _ _ _ _ _); refine Halt.go ?_))
theorem rotG {h₀ h : Heap} {L : Addr} {e a1 a2 a3 a4 a5 a6 a7 a8 a9 : Addr × Obj} {rest : List (Addr × Obj)} (N : News h₀ L h (e :: a1 :: a2 :: a3 :: a4 :: a5 :: a6 :: a7 :: a8 :: a9 :: rest)) : News h₀ L h (e :: rest) := cb_drop N (by kcj_in)
theorem UnrEnd.ne2 {h₀ : Heap} {L I : Addr} {it : Obj} {rst : (Str → Option Value) → List (Addr × Obj) → Prop} {s₁ : Shared} {h' : Heap} {tk : Nat} {m' : Str → Option Value} {c1 c2 : Addr × Obj} {rest : List (Addr × Obj)} (F : Fr h₀ L h' m') (N : News h₀ L h' (c1 :: c2 :: (I, it) :: rest))
    (o1 : @Ne Nat c1.1 I) (o2 : @Ne Nat c2.1 I) (o3 : ∀ p ∈ rest, p.1 ≠ I) (r : rst m' (c1 :: c2 :: rest)) : UnrEnd h₀ L s₁ I it rst { s₁ with heap := h', toks := tk } :=
  UnrEnd.intro F N (c1 :: c2 :: rest) (by kcj_in) (fun p hp => by
    rcases List.mem_cons.mp hp with rfl | hp
    · exact o1
    · rcases List.mem_cons.mp hp with rfl | hp
      · exact o2
      · exact o3 p hp) r
theorem and255 (b : B) : Builtin.bitAnd 255 (toI b) = toI b := by
  rw [bitAnd_m8']
  have := b.isLt
  unfold toI
  omega
local macro_rules | `(tactic| walk_at "loadName") => `(tactic| (k_here; k_dflt (refine' ldnCN ?N ?c ?m ?d ?_ ?x1 ?x2; (case N => k_asm); (case c => rfl); (case m => k_mem); (case d => k_asm); (case x1 => rfl); (case x2 => rfl); k_whole)))
local macro_rules | `(tactic| walk_at "compareOp In int ref") => `(tactic| (k_here; (with_reducible show wpAny _ _ (compareOp CmpOp.In (Value.int _ _) (Value.ref 22)) _ _ _); k_dflt (refine' lut_in ?F ?X ?e ?i ?_; (case F => k_asm); (case X => k_asm); (case e => with_reducible assumption); (case i => omega); k_whole)))
local macro_rules | `(tactic| walk_at "subscriptTail") => `(tactic| (k_here; (with_reducible show wpAny _ _ (subscriptTail _ _ (Value.ref 22) (Value.int _ _)) _ _ _); k_dflt (refine' lut_tail ?F ?X ?e ?i ?_ ?s; (case F => k_asm); (case X => k_asm); (case e => with_reducible assumption); (case i => omega); (case s => with_unfolding_all rfl); k_whole); intro r9 vs9 hL9 hI9))
local macro_rules | `(tactic| walk_at "call ref") => `(tactic| ((with_reducible show wpAny _ _ (call (Value.ref 306) _) _ _ _); refine Halt.go ?_))
local macro_rules | `(tactic| walk_at "call ref") => `(tactic| ((with_reducible show wpAny _ _ (call (Value.ref 303) _) _ _ _); refine Halt.go ?_))
theorem off1_mem {D : Addr} : ∀ {l : List (Addr × Obj)}, LCg.Off1 D l → ∀ p ∈ l, p.1 ≠ D
  | [], _, _, h => nomatch h
  | _ :: _, x, p, h => by
    rcases List.mem_cons.mp h with rfl | h
    · exact x.1
    · exact off1_mem x.2 p h
theorem range_map {dc : List B} {n : Nat} (h : dc.length = n) : (rangeKs 0 n).map (fun k => toI (dc.getD k.toNat 0#8)) = dc.map toI := by
  subst h
  unfold rangeKs
  rw [List.map_map]
  apply List.ext_getElem?
  intro i
  rw [List.getElem?_map, List.getElem?_map]
  by_cases hi : i < dc.length
  · rw [List.getElem?_range hi, List.getElem?_eq_getElem hi]
    simp [List.getD_eq_getElem?_getD, List.getElem?_eq_getElem hi]
  · rw [List.getElem?_eq_none (by simpa using Nat.le_of_not_lt hi), List.getElem?_eq_none (Nat.le_of_not_lt hi)]
    rfl
theorem UnrEnd.same {h₀ : Heap} {L I a : Addr} {it o o' : Obj} {rst : (Str → Option Value) → List (Addr × Obj) → Prop} {s₁ : Shared} {h' : Heap} {tk : Nat} {m' : Str → Option Value} {rest : List (Addr × Obj)} (F : Fr h₀ L h' m') (N : News h₀ L h' ((I, it) :: (a, o') :: rest))
    (lt : ∀ p ∈ (a, o) :: rest, p.1 < I) (r : rst m' ((a, o') :: rest)) : UnrEnd h₀ L s₁ I it rst { s₁ with heap := h', toks := tk } :=
  UnrEnd.intro F N ((a, o') :: rest) (fun _ hp => hp) (fun p hp => by
    rcases List.mem_cons.mp hp with rfl | hp
    · exact Nat.ne_of_lt (lt (a, o) (.head _))
    · exact Nat.ne_of_lt (lt p (.tail _ hp))) r
theorem grow_more {us : List Value} {f : Nat → Int} {n0 j : Nat} {k : Int} (h : IntsAre us ((List.range (n0 + j)).map f ++ [k])) (e : k = f (n0 + j)) : IntsAre us ((List.range (n0 + (j + 1))).map f) := by
  subst e
  rw [← Nat.add_assoc, List.range_succ, List.map_append]
  exact h
theorem two_map {dc es : List B} {n : Nat} (h : dc.length = n) : (List.range (0 + n)).map (fun j => toI (dc.getD j 0#8)) = (List.range n).map (fun j => toI ((dc ++ es).getD j 0#8)) := by
  rw [Nat.zero_add]
  refine List.map_congr_left fun j hj => ?_
  have := List.mem_range.mp hj
  rw [List.getD_eq_getElem?_getD, List.getD_eq_getElem?_getD, List.getElem?_append_left (by omega)]
theorem all_map {bs : List B} {n : Nat} (h : bs.length = n) : (List.range n).map (fun j => toI (bs.getD j 0#8)) = bs.map toI := by
  subst h
  apply List.ext_getElem?
  intro i
  rw [List.getElem?_map, List.getElem?_map]
  by_cases hi : i < bs.length
  · rw [List.getElem?_range hi, List.getElem?_eq_getElem hi]
    simp [List.getD_eq_getElem?_getD, List.getElem?_eq_getElem hi]
  · rw [List.getElem?_eq_none (by simpa using Nat.le_of_not_lt hi), List.getElem?_eq_none (Nat.le_of_not_lt hi)]
    rfl
theorem getD_right {dc es : List B} {n j : Nat} (h : dc.length = n) : (dc ++ es).getD (n + j) 0#8 = es.getD j 0#8 := by
  subst h
  rw [List.getD_eq_getElem?_getD, List.getD_eq_getElem?_getD, List.getElem?_append_right (Nat.le_add_right ..), Nat.add_sub_cancel_left]
theorem rotF {h₀ h : Heap} {L : Addr} {a1 a2 a3 d b1 b2 b3 : Addr × Obj} {news : List (Addr × Obj)} (N : News h₀ L h (a1 :: a2 :: a3 :: d :: b1 :: b2 :: b3 :: news)) : News h₀ L h (a1 :: a2 :: a3 :: b1 :: b2 :: b3 :: d :: news) := cb_drop N (by kcj_in)
theorem rotE {h₀ h : Heap} {L : Addr} {a b c d : Addr × Obj} {news : List (Addr × Obj)} (N : News h₀ L h (a :: b :: c :: d :: news)) : News h₀ L h (d :: a :: b :: c :: news) := cb_drop N (by kcj_in)
local macro_rules | `(tactic| k_all) => `(tactic| assumption)
theorem cb_c : ∀ {w : World} {loose : List Str} {mean : ExcName → Option Value} {mg mb : Str → Option Value} {p : Program} {dp un : Nat} {gd : Option (List Code)} {cn : Str} {cs : Scope} {a : Addr} {ccd : Value} {cl : List (Str × Addr)} {outer : List Env} {A₀ : Around} {base h₀ : Heap} {L : Addr} {m : Str → Option Value} {news : List (Addr × Obj)} {s : Shared} {Q E : Value → Shared → Prop} {b bd l rl x xd : Addr} {t1 t2 tn ta tb : Tok} {vs : List Value} {dc : List B} {e1 e2 rm ec : Nat} {n : Int},
  Below A₀ base outer h₀ → Fr h₀ L s.heap m → (hd.heap_39 w.params).In h₀ → News h₀ L s.heap ((l, listOf vs.toArray e1) :: (b, instObj 533 bd) :: (bd, bufD w t1 t2 l n tn) :: (rl, listOf (List.toArray [.ref x]) e2) :: (x, tupInst 378 xd #[.int 26 ta, .int (rm : Int) tb]) :: (xd, emptyDict) :: news) → Top p loose mean mg mb h₀ → cs.kind = .function → dp + 200 < recursionLimit → un + 2000 < cLine →
  IntsAre vs (dc.map toI) → dc.length = rm → 26 = rm + ec → (rm = 19 ∨ rm = 16 ∨ rm = 13 ∨ rm = 9) → dc.getD 0 0#8 ≠ 0#8 →
  (∀ r us e h' tk' (Es : List B), Fr h₀ L h' m → News h₀ L h' ((r, listOf (List.toArray us) e) :: news) → IntsAre us ((dc ++ Es).map toI) → Es.length = ec → (∀ b, ev (gens ec) b = 0#8 → ev Es b = ev (dc ++ List.replicate ec 0#8) b) → Q (.ref r) { s with heap := h', toks := tk' }) →
  wpAny (model PySem.Challenge.rw_bq0025_01.row.prog w) (ktrTop dp un gd cn cs L a ccd cl outer) (call (.ref 542) [.ref b, .ref rl]) Q E s := by
  k_with_none
  w_top off
  k_fill
  intro w loose mean mg mb p dp un gd cn cs a ccd cl outer A₀ base h₀ L m news s Q E b bd l rl x xd t1 t2 tn ta tb vs dc e1 e2 rm ec n B F X N T hk hdp hun hi hdl hec hrm hd0 hret
  have hE : Ecc ec := by unfold Ecc; omega
  have zP : 0 < dc.length ∧ dc.length ≤ 64 ∧ ec ≤ 64 ∧ dc ≠ [] := ⟨by omega, by omega, by omega, by intro q; rw [q] at hdl; simp at hdl; omega⟩
  have zG : 1 < (gens ec).length ∧ (gens ec).length ≤ 64 := by
    have zg := (gens_ok hE).1
    omega
  refine wpAny_call ?_
  k_dflt (refine' code_defC ?k1 ?k2 ?k3 ?k4 ?k5 ?kA ?kF ?kK ?k6 ?k7 ?k8 ?k9 ?kB ?kD ?_ ?c2 ?c3 ?c4; (case kA => exact rfl); (case kF => exact rfl); (case kK => assumption); (case k1 => k_asm); (case k2 => k_asm); (case k3 => k_asm); (case k4 => k_asm); (case k5 => k_asm); (case k6 => k_is); (case k7 => k_is); (case k8 => ktr_room); (case k9 => exact BindsTo.of_eq rfl); (case kB => exact rfl); (case kD => decide +kernel); (case c2 => exact rfl); (case c3 => exact rfl); (case c4 => exact rfl); k_whole; intro g' L' h' tk' cells' FG' F' N' Y' B' X' T' l1; (try k_lt l1); k_cells Y'; (try simp only [List.cons_append, List.nil_append] at N'); (try dsimp only); (try k_lift B'); (try k_fold))
  have hall := l1.2.2.2.2.2.2
  k_steps
  unfold Halt
  (rename Fr _ _ _ _ => fW); (rename News _ _ _ _ => nW)
  refine iter_listUnr (ax := rl) (lo := listOf (List.toArray [.ref x]) e2) (vs := [.ref x]) (by rfl) fW nW (by k_mem) (by rfl) (by rfl) ?_
  intro I hI
  k_lt hI
  intro it h1 tk1 hit F1 N1
  clear fW nW
  k_steps
  unfold Halt
  refine dc_any (Frag.In.keeps X' (Fr.keep F1)) (Top.keeps T' (Fr.keep F1)) (kto_N N1 (by k_mem)) (kto_N N1 (by k_mem)) (by ktr_room) ?_
  intro h2 tk2 hk2
  have F2 := Fr.keptAll F1 hk2
  have N2 := News.grown N1 hk2
  clear F1 N1 hk2
  k_steps
  unfold Halt
  (rename Fr _ _ _ _ => F3); (rename News _ _ _ _ => N3)
  refine tc_any (Frag.In.keeps X' (Fr.keep F3)) (Top.keeps T' (Fr.keep F3)) (kto_N N3 (by k_mem)) (kto_N N3 (by k_mem)) (by ktr_room) ?_
  intro h4 tk4 hk4
  have F4 := Fr.keptAll F3 hk4
  have N4 := News.grown N3 hk4
  clear F2 N2 F3 N3 hk4
  k_steps
  unfold Halt
  (rename Fr _ _ _ _ => F7); (rename News _ _ _ _ => N7)
  refine max0 (by omega) (by rfl) F7 N7 ?_
  intro h5 tk5 F5 N5
  k_steps
  unfold Halt
  (rename Fr _ _ _ _ => F8); (rename News _ _ _ _ => N8)
  refine max0 (by omega) (by rfl) F8 N8 ?_
  intro h6 tk6 F6 N6
  k_steps
  unfold Halt
  (rename Fr _ _ _ _ => F9); (rename News _ _ _ _ => N9)
  k_dflt (refine LCg.Assign_ListComp_U (F₀ := F9) (by rfl) (by with_unfolding_all rfl) (by with_unfolding_all rfl) (by decide) (by rfl) (by decide) (by rfl) (by rfl) (by rfl) ?_)
  k_steps
  unfold Halt
  (rename Fr _ _ _ _ => F10); (rename News _ _ _ _ => N10); (rename IsRange _ _ _ _ _ _ _ _ => rgX)
  refine LCg.CompSrc.range (n := rm) (by rfl) F10 N10 rgX (small_one (by omega) (by omega) (by omega) (by omega)) (by simpa using rangeSize_nat (0 : Int) rm) (by rw [sizeLine_eq]; omega) ?_
  intro gH
  refine kcf_range (fun k => toI (dc.getD k.toNat 0#8)) ?_ ?_
  · intro k t I2 oI C oC D m₂ ys h9 tk9 E' hk1 hk2 hC hx F11 N11 off ne mk
    refine post_halt ?_
    have hk3 : k < ((dc.map toI).length : Int) := by rw [List.length_map]; omega
    k_steps
    unfold Halt
    (rename Fr _ _ _ _ => fE); (rename News _ _ _ _ => nE)
    refine LCg.CompEnd.intro fE nE _ (fun p hp => hp) off trivial (kcf_el ?_ rfl rfl)
    rw [Int.add_zero, getD_toI, and255]
  · intro ys hys D h10 tk10 F12 N12 off12
    simp only [LCg.Off1] at off12
    have offn := off1_mem off12.2.2.2.2.2.2.2.2.2.2.2
    k_steps
    unfold Halt
    (rename Heap.IsList _ _ _ => hL9); (rename IntsAre _ ((gens ec).map toI) => hI9)
    (rename Fr _ _ _ _ => F13); (rename News _ _ _ _ => N13)
    obtain ⟨gl, gz, g1⟩ := gens_ok hE
    refine poly_k (sh := 0) B' F13 X' N13 T' (by first | exact rfl | assumption) (by ktr_room) (by ktr_units) hI9 (by omega) (by omega) (by omega) hL9 ?_
    intro px pd pl ptt pus h14 tk14 F14 N14 hi14 ho14
    rw [List.replicate_zero, List.append_nil, strip_id2 (by rw [g1]; decide)] at hi14
    have hgl : ((gens ec).map toI).length = ec + 1 := by rw [List.length_map, gl]
    simp only [AllLt, and_true] at ho14
    have a1 : @LT.lt Nat _ px pl := ho14.1
    have a2 : @LT.lt Nat _ pd px := ho14.2.1
    k_steps
    unfold Halt
    (rename Fr _ _ _ _ => F15); (rename News _ _ _ _ => N15)
    rw [show (((gens ec).map toI).length : Int) - 1 = ((ec : Nat) : Int) by omega]
    have hys2 : IntsAre ys (dc.map toI) := by
      have e : (rangeKs 0 rm).map (fun k => toI (dc.getD k.toNat 0#8)) = dc.map toI := range_map hdl
      rw [← e]; exact hys
    refine poly_c (sh := ec) B' F15 X' (rotE N15) T' (by first | exact rfl | assumption) (by ktr_room) (by ktr_units) hys2 zP.1 zP.2.1 zP.2.2.1 ?off ?_
    case off =>
      repeat (refine List.forall_mem_cons.mpr ⟨by k_ne, ?_⟩)
      exact offn
    intro qx qd ql qtt qus h16 tk16 F16 N16 hi16 ho16
    rw [strip_id2 hd0] at hi16
    simp only [AllLt, and_true] at ho16
    have b1 : @LT.lt Nat _ qx ql := ho16.1
    have b2 : @LT.lt Nat _ qd qx := ho16.2.1
    have b3 : @LT.lt Nat _ D qd := ho16.2.2.1
    k_steps
    unfold Halt
    (rename Fr _ _ _ _ => F17); (rename News _ _ _ _ => N17)
    have hal : (dc ++ List.replicate ec 0#8).length = 26 := by rw [List.length_append, List.length_replicate]; omega
    have ha0 : (dc ++ List.replicate ec 0#8).getD 0 0#8 ≠ 0#8 := by
      have hd1 : dc ≠ [] := zP.2.2.2
      cases dc with
      | nil => exact absurd rfl hd1
      | cons a r => exact hd0
    refine mod_c 26 (Nat.le_of_eq hal) B' F17 X' (rotF N17) T' (by first | exact rfl | assumption) (by ktr_room) (by ktr_units) hi16 hi14 (by rw [hal]; decide) (by rw [hal]; decide) zG.1 zG.2 (.inr ha0) gz g1 ?_
    intro mx md ml mtt mus rs me h18 tk18 F18 N18 hi18 hr1 hr2 hr3
    dsimp only [W.CmpBack]
    have hrl : (rs.map toI).length = rs.length := by rw [List.length_map]
    k_steps
    unfold Halt
    (rename Fr _ _ _ _ => F19); (rename News _ _ _ _ => N19); (rename IsRange _ _ _ _ _ _ _ _ => rg2)
    have eec : (26 : Int) - (rm : Int) = ((ec : Nat) : Int) := by omega
    rw [eec] at rg2
    refine rng_grow (n := ec) (n0 := 0) (y := Str.ofString "modIndex") (us0 := []) (fun j => if 0 ≤ (j : Int) + (((rs.map toI).length : Int) - (26 - (rm : Int))) then (rs.map toI).getD ((j : Int) + (((rs.map toI).length : Int) - (26 - (rm : Int)))).toNat 0 else 0) (by rfl) rg2 (by omega) F19 N19 .nil ?_ ?_
    · intro j tj vy us ue h20 tk20 own hj hIu hlu hoff F20 N20
      simp only [List.cons_append] at N20
      have o9 := app_off (hoff.ne (.head _)) (my_all hall (by omega))
      k_steps
      · (rename Fr _ _ _ _ => fT); (rename News _ _ _ _ => nT); (rename IntsAre _ _ => iT)
        exact Grows.end fT nT (by intro z z1 z2; simp only [if_neg z1, if_neg z2]) (grow_snoc iT (by rw [if_pos (by omega)]))
      · (rename Fr _ _ _ _ => fT); (rename News _ _ _ _ => nT); (rename IntsAre _ _ => iT)
        exact Grows.end fT nT (by intro z z1 z2; simp only [if_neg z1, if_neg z2]) (grow_snoc iT (by rw [if_neg (by omega)]))
    · intro vx vy us ue h20 tk20 hIu hlu F20 N20
      have N21 := rotG N20
      clear N20
      k_steps
      unfold Halt
      (rename Fr _ _ _ _ => F22); (rename News _ _ _ _ => N22)
      have hID : @Ne Nat D I := fun q => off12.1 q.symm
      refine UnrEnd.ne2 F22 N22 (by dsimp only; omega) hID (by k_all) ⟨by k_mem, ?_⟩
      refine ListRest.zero fun h23 tk23 F23 N23 => ?_
      clear F22 N22
      k_steps
      unfold Halt
      have hpl : rs.length ≤ ec := by omega
      rw [Nat.zero_add, pad_map hpl hec] at hIu
      (rename Fr _ _ _ _ => F24); (rename News _ _ _ _ => N24); (rename IsRange _ _ _ _ _ _ _ _ => rg3)
      refine rng_grow (n := rm) (n0 := 0) (y := Str.ofString "dc") (us0 := []) (fun j => toI (dc.getD j 0#8)) (by rfl) rg3 (by omega) F24 N24 .nil ?_ ?_
      · intro j tj vy vs2 ve h25 tk25 own hj hIv hlv hoff F25 N25
        simp only [List.cons_append] at N25
        have o9 := app_off (hoff.ne (.head _)) (my_all hall (by omega))
        k_steps
        unfold Halt
        (rename Fr _ _ _ _ => fA); (rename News _ _ _ _ => nA)
        refine iter_listUnr (lo := listOf (List.toArray ([] ++ [Value.ref D])) (0 + 1)) (vs := [Value.ref D]) (by rfl) fA nA (by k_mem) (by rfl) (by rfl) ?_
        intro I2 hI2
        have hI3 := hI2
        k_lt hI2
        intro it2 h26 tk26 hit2 F26 N26
        clear fA nA
        have hdl2 : (dc.map toI).length = rm := by rw [List.length_map, hdl]
        k_steps
        unfold Halt
        (rename Fr _ _ _ _ => fB); (rename News _ _ _ _ => nB); (rename IntsAre _ _ => iB)
        refine UnrEnd.same fB nB hI3 ⟨by k_mem, ?_⟩
        refine ListRest.zero fun h27 tk27 F27 N27 => ?_
        clear fB nB
        k_steps
        exact Grows.end F27 N27 (by intro z z1 z2; simp only [if_neg z1, if_neg z2]) (grow_snoc iB (by rw [Int.toNat_natCast, getD_toI]))
      · intro vx vy vs2 ve h25 tk25 hIv hlv F25 N25
        k_steps
        unfold Halt
        (rename Fr _ _ _ _ => F28); (rename News _ _ _ _ => N28); (rename IsRange _ _ _ _ _ _ _ _ => rg4)
        have hpl2 : (pad rs ec).length = ec := pad_len hpl
        rw [two_map (es := pad rs ec) hdl] at hIv
        rw [eec] at rg4
        refine rng_grow (n := ec) (n0 := rm) (y := Str.ofString "ec") (us0 := vs2) (fun j => toI ((dc ++ pad rs ec).getD j 0#8)) (by rfl) rg4 (by omega) F28 N28 hIv ?_ ?_
        · intro j tj vy vs3 ve3 h29 tk29 own hj hIv3 hlv3 hoff F29 N29
          simp only [List.cons_append] at N29
          have o9 := app_off (hoff.ne (.head _)) (my_all hall (by omega))
          k_steps
          unfold Halt
          (rename Fr _ _ _ _ => fA); (rename News _ _ _ _ => nA)
          k_dflt (refine' iter_listUnr (lo := ?lo) (n := ?nn) (vs := [Value.ref ?ra]) (by rfl) fA nA ?mm ?cc ?dd ?_)
          case mm => repeat (first | exact List.Mem.head _ | refine List.Mem.tail _ ?_)
          case cc => rfl
          case dd => rfl
          intro I2 hI2
          have hI3 := hI2
          k_lt hI2
          intro it2 h30 tk30 hit2 F30 N30
          clear fA nA
          have hpl3 : ((pad rs ec).map toI).length = ec := by rw [List.length_map, hpl2]
          k_steps
          unfold Halt
          (rename Fr _ _ _ _ => fB); (rename News _ _ _ _ => nB); (rename IntsAre _ _ => iB)
          refine UnrEnd.same fB nB hI3 ⟨by k_mem, ?_⟩
          refine ListRest.zero fun h31 tk31 F31 N31 => ?_
          clear fB nB
          k_steps
          exact Grows.end F31 N31 (by intro z z1 z2; simp only [if_neg z1, if_neg z2]) (grow_more iB (by rw [Int.toNat_natCast, getD_toI, getD_right hdl]))
        · intro vx vy vs3 ve3 h29 tk29 hIv3 hlv3 F29 N29
          k_steps
          have hal2 : (dc ++ pad rs ec).length = rm + ec := by rw [List.length_append, hdl, hpl2]
          rw [all_map hal2] at hIv3
          (rename News _ _ _ _ => nZ)
          exact hret _ _ _ _ _ (pad rs ec) (by assumption) (cb_drop nZ (by kcj_in)) hIv3 hpl2 (fun b hb => by rw [pad_ev]; exact hr3 b hb)
end Mine
end
section
open PySem
set_option Elab.async false
namespace Mine
def bitI (num : Int) (len i : Nat) : Bool := Builtin.bitAnd (num.fdiv (2 ^ ((len : Int) - (i : Int) - 1).toNat)) 1 == 1
def pbs : List Int → Nat → List Bool → List Int
  | bs, _, [] => bs
  | bs, n, b :: r => pbs (pb bs n b) (n + 1) r
theorem pbs_append : ∀ (x y : List Bool) (bs : List Int) (n : Nat), pbs bs n (x ++ y) = pbs (pbs bs n x) (n + x.length) y
  | [], y, bs, n => by rw [List.nil_append]; rfl
  | b :: x, y, bs, n => by
    rw [List.cons_append, pbs, pbs, pbs_append x y, List.length_cons, Nat.add_assoc, Nat.add_comm 1]
theorem pn_pbs (bs : List Int) (n : Nat) (num : Int) (len : Nat) : ∀ i, pn bs n num len i = pbs bs n ((List.range i).map (bitI num len))
  | 0 => rfl
  | i + 1 => by
    rw [List.range_succ, List.map_append, pbs_append, ← pn_pbs bs n num len i, List.length_map, List.length_range]
    rfl
theorem pb_pre (pre bs : List Int) (n : Nat) (b : Bool) : pb (pre ++ bs) (8 * pre.length + n) b = pre ++ pb bs n b := by
  have e1 : (8 * pre.length + n) / 8 = pre.length + n / 8 := by omega
  have e2 : (8 * pre.length + n) % 8 = n % 8 := by omega
  unfold pb
  rw [e1, e2]
  have e3 : (if (pre ++ bs).length ≤ pre.length + n / 8 then pre ++ bs ++ [0] else pre ++ bs) = pre ++ (if bs.length ≤ n / 8 then bs ++ [0] else bs) := by
    rw [List.length_append]
    by_cases h : bs.length ≤ n / 8
    · rw [if_pos (by omega), if_pos h, List.append_assoc]
    · rw [if_neg (by omega), if_neg h]
  dsimp only
  rw [e3]
  generalize (if bs.length ≤ n / 8 then bs ++ [0] else bs) = b1
  have e4 : (pre ++ b1).getD (pre.length + n / 8) 0 = b1.getD (n / 8) 0 := by
    rw [List.getD_eq_getElem?_getD, List.getD_eq_getElem?_getD, List.getElem?_append_right (Nat.le_add_right ..), Nat.add_sub_cancel_left]
  rw [e4, List.set_append_right _ _ (Nat.le_add_right ..), Nat.add_sub_cancel_left]
  split <;> rfl
theorem pbs_pre (pre : List Int) : ∀ (x : List Bool) (bs : List Int) (n : Nat), pbs (pre ++ bs) (8 * pre.length + n) x = pre ++ pbs bs n x
  | [], _, _ => rfl
  | b :: x, bs, n => by rw [pbs, pbs, pb_pre, Nat.add_assoc, pbs_pre pre x]
def bits (num len : Nat) : List Bool := (List.range len).map (bitI (num : Int) len)
theorem bits8_all : ((List.range 256).all fun v => bits v 8 == bits (v / 16) 4 ++ bits (v % 16) 4) = true := by decide +kernel
theorem bits8 {v : Nat} (h : v < 256) : bits v 8 = bits (v / 16) 4 ++ bits (v % 16) 4 := by
  have q := List.all_eq_true.mp bits8_all v (by simpa using h)
  exact beq_iff_eq.mp q
theorem hi_all : ((List.range 16).all fun h => (List.range 16).all fun q => pbs [((16 * h : Nat) : Int)] 4 (bits q 4) == [((16 * h + q : Nat) : Int)]) = true := by decide +kernel
theorem lo_all : ((List.range 16).all fun q => pbs [] 0 (bits q 4) == [((16 * q : Nat) : Int)]) = true := by decide +kernel
theorem hi_put {h q : Nat} (hh : h < 16) (hq : q < 16) : pbs [((16 * h : Nat) : Int)] 4 (bits q 4) = [((16 * h + q : Nat) : Int)] :=
  beq_iff_eq.mp (List.all_eq_true.mp (List.all_eq_true.mp hi_all h (by simpa using hh)) q (by simpa using hq))
theorem lo_put {q : Nat} (hq : q < 16) : pbs [] 0 (bits q 4) = [((16 * q : Nat) : Int)] :=
  beq_iff_eq.mp (List.all_eq_true.mp lo_all q (by simpa using hq))
/-- an octet put in the middle -/
theorem put8 (pre : List Int) {h v : Nat} (hh : h < 16) (hv : v < 256) : pn (pre ++ [((16 * h : Nat) : Int)]) (8 * pre.length + 4) (v : Int) 8 8 = pre ++ [((16 * h + v / 16 : Nat) : Int)] ++ [((16 * (v % 16) : Nat) : Int)] := by
  rw [pn_pbs]
  show pbs _ _ (bits v 8) = _
  rw [bits8 hv, pbs_append, pbs_pre, hi_put hh (by omega)]
  have e : 8 * pre.length + 4 + (bits (v / 16) 4).length = 8 * (pre ++ [((16 * h + v / 16 : Nat) : Int)]).length + 0 := by
    have : (bits (v / 16) 4).length = 4 := by unfold bits; simp
    rw [this, List.length_append, List.length_singleton]; omega
  rw [e]
  have e2 := pbs_pre (pre ++ [((16 * h + v / 16 : Nat) : Int)]) (bits (v % 16) 4) [] 0
  rw [List.append_nil] at e2
  rw [e2, lo_put (by omega)]
theorem put4 : pn [] 0 4 4 4 = [64] := by decide +kernel
theorem pb_false {bs : List Int} {n : Nat} (h : n / 8 < bs.length) : pb bs n false = bs := by
  unfold pb
  dsimp only
  rw [if_neg (show ¬ bs.length ≤ n / 8 by omega), if_neg (show ¬ (false = true) by decide)]
/-- the octets of the text of a row -/
def txt (row : List B) (rm : Nat) : List Int := (List.range (rm - 2)).map fun k => toI (row.getD (k + 1) 0#8) % 16 * 16 + toI (row.getD (k + 2) 0#8) / 16
theorem txt_len (row : List B) (rm : Nat) : (txt row rm).length = rm - 2 := by unfold txt; simp
theorem txt_at {row : List B} {rm k : Nat} (h : k < rm - 2) : (txt row rm).getD k 0 = (((row.getD (k + 1) 0#8).toNat % 16 * 16 + (row.getD (k + 2) 0#8).toNat / 16 : Nat) : Int) := by
  unfold txt
  rw [List.getD_eq_getElem?_getD, List.getElem?_map, List.getElem?_range h]
  simp only [Option.map_some, Option.getD_some]
  unfold toI
  omega
theorem txt_mem {row : List B} {rm : Nat} : ∀ x ∈ txt row rm, 0 ≤ x ∧ x < 256 := by
  intro x hx
  obtain ⟨k, _, rfl⟩ := List.mem_map.mp hx
  have := (row.getD (k + 1) 0#8).isLt
  have := (row.getD (k + 2) 0#8).isLt
  unfold toI
  omega
theorem take_snoc {row : List B} {i : Nat} (h : i < row.length) : row.take (i + 1) = row.take i ++ [row.getD i 0#8] := by
  rw [List.take_add_one, List.getD_eq_getElem?_getD, List.getElem?_eq_getElem h]; rfl
theorem buf_at {row : List B} {rm : Nat} (hl : row.length = 26) (hr : rm ≤ 26) : ∀ i, i ≤ rm - 2 →
    pf ((row.take 1).map toI ++ [((16 * ((row.getD 1 0#8).toNat / 16) : Nat) : Int)]) 12 (txt row rm) i = (row.take (i + 1)).map toI ++ [((16 * ((row.getD (i + 1) 0#8).toNat / 16) : Nat) : Int)]
  | 0, _ => rfl
  | i + 1, hi => by
    have b1 := (row.getD (i + 1) 0#8).isLt
    have b2 := (row.getD (i + 2) 0#8).isLt
    rw [pf, buf_at hl hr i (by omega), txt_at (by omega)]
    have e : 12 + 8 * i = 8 * ((row.take (i + 1)).map toI).length + 4 := by
      rw [List.length_map, List.length_take, hl]; omega
    rw [e, put8 _ (by omega) (by omega), take_snoc (i := i + 1) (by omega), List.map_append]
    have e1 : 16 * ((row.getD (i + 1) 0#8).toNat / 16) + ((row.getD (i + 1) 0#8).toNat % 16 * 16 + (row.getD (i + 2) 0#8).toNat / 16) / 16 = (row.getD (i + 1) 0#8).toNat := by omega
    have e2 : 16 * (((row.getD (i + 1) 0#8).toNat % 16 * 16 + (row.getD (i + 2) 0#8).toNat / 16) % 16) = 16 * ((row.getD (i + 2) 0#8).toNat / 16) := by omega
    rw [e1, e2]
    rfl
/-- the three places that the text cannot choose -/
def HeadOk (rm : Nat) (row : List B) : Prop := row.length = 26 ∧ toI (row.getD 0 0#8) = 64 + ((rm : Int) - 2) / 16 ∧ toI (row.getD 1 0#8) / 16 = ((rm : Int) - 2) % 16 ∧ toI (row.getD (rm - 1) 0#8) % 16 = 0
theorem buf_start {row : List B} {rm : Nat} (hr : Rm rm) (h : HeadOk rm row) : pn (pn [] 0 4 4 4) 4 ((rm : Int) - 2) 8 8 = (row.take 1).map toI ++ [((16 * ((row.getD 1 0#8).toNat / 16) : Nat) : Int)] := by
  obtain ⟨hl, h0, h1, _⟩ := h
  have hr2 : 9 ≤ rm ∧ rm ≤ 19 := by unfold Rm at hr; omega
  have e := put8 [] (h := 4) (v := rm - 2) (by decide) (by omega)
  rw [put4]
  rw [show ((rm : Int) - 2) = ((rm - 2 : Nat) : Int) by omega]
  have e0 : [] ++ [((16 * 4 : Nat) : Int)] = [64] := rfl
  rw [e0] at e
  rw [show 4 = 8 * ([] : List Int).length + 4 from rfl, e, take_snoc (i := 0) (by omega)]
  unfold toI at h0 h1
  simp only [List.take_zero, List.nil_append, List.map_cons, List.map_nil, List.cons_append]
  unfold toI
  rw [h0]
  congr 1
  · omega
  · congr 1; omega
theorem buf_end {row : List B} {rm : Nat} (hr : Rm rm) (h : HeadOk rm row) : pf (pn (pn [] 0 4 4 4) 4 ((rm : Int) - 2) 8 8) 12 (txt row rm) (rm - 2) = (row.take rm).map toI := by
  have hr2 : 9 ≤ rm ∧ rm ≤ 19 := by unfold Rm at hr; omega
  rw [buf_start hr h, buf_at h.1 (by omega) _ (Nat.le_refl _)]
  have e : rm = rm - 2 + 1 + 1 := by omega
  have e3 := take_snoc (row := row) (i := rm - 1) (by rw [h.1]; omega)
  rw [show rm - 1 + 1 = rm by omega] at e3
  rw [e3, show rm - 2 + 1 = rm - 1 by omega, List.map_append]
  congr 1
  have h3 := h.2.2.2
  unfold toI at h3
  simp only [List.map_cons, List.map_nil]
  unfold toI
  congr 1
  omega
end Mine
end
section
open PySem
set_option Elab.async false
namespace Mine
theorem gens_roots : ((List.range 17).all fun j => ([7, 10, 13, 17] : List Nat).all fun e => (decide (e ≤ j)) || (ev (gens e) (E j) == 0#8)) = true := by decide +kernel
theorem gens_root {e j : Nat} (h : Ecc e) (hj : j < e) : ev (gens e) (E j) = 0#8 := by
  have hj2 : j < 17 := by unfold Ecc at h; omega
  have q := List.all_eq_true.mp (List.all_eq_true.mp gens_roots j (by simpa using hj2)) e (by unfold Ecc at h; simp; omega)
  rw [Bool.or_eq_true] at q
  rcases q with q | q
  · have := of_decide_eq_true q; omega
  · exact beq_iff_eq.mp q
theorem evA_zeros (x : B) (l : List B) : ∀ (a : B), evA x a l = evA x a (List.replicate l.length 0#8) ^^^ ev l x := by
  intro a
  have := evA_xor x (List.replicate l.length 0#8) l a 0#8 (by simp)
  rw [BitVec.xor_zero] at this
  rw [← ev] at this
  rw [← this]
  congr 1
  apply List.ext_getElem (by simp)
  intro i h1 h2
  simp
theorem row_is {rm ec : Nat} {row Es : List B} (he : Ecc ec) (hrm : 26 = rm + ec) (hl : row.length = 26) (hev : ∀ j, j < 26 - rm → ev row (E j) = 0#8) (hEl : Es.length = ec)
    (hE : ∀ b, ev (gens ec) b = 0#8 → ev Es b = ev (row.take rm ++ List.replicate ec 0#8) b) : row.take rm ++ Es = row := by
  have hd : (row.drop rm).length = ec := by rw [List.length_drop, hl]; omega
  have h : Es = row.drop rm := by
    refine same_of_roots (xs := (List.range ec).map E) (by rw [hEl, hd]) (by rw [List.length_map, List.length_range, hd]) ?_ ?_
    · have he17 : ec ≤ 17 := by unfold Ecc at he; omega
      rw [List.nodup_iff_pairwise_ne, List.pairwise_map]
      refine List.Pairwise.imp_of_mem ?_ (List.pairwise_lt_range (n := ec))
      intro i j hi hj hij e
      have := List.mem_range.mp hj
      have := E_inj (i := i) (j := j) (by omega) (by omega) e
      omega
    · intro x hx
      obtain ⟨j, hj, rfl⟩ := List.mem_map.mp hx
      have hj2 := List.mem_range.mp hj
      rw [hE _ (gens_root he hj2)]
      have e1 := hev j (by omega)
      have e2 : ev row (E j) = ev (row.take rm ++ row.drop rm) (E j) := by rw [List.take_append_drop]
      rw [e2] at e1
      unfold ev at e1 ⊢
      rw [evA_append] at e1 ⊢
      rw [evA_zeros, hd] at e1
      exact xor_eq_zero e1
  rw [h, List.take_append_drop]
end Mine
end
section
open PySem PySem.W PyProof.Rows PySem.Spec PySem.Calls PyProof.V
set_option Elab.async false
set_option maxRecDepth 100000
namespace Mine
section
variable {prog : Program} {w : World} {A : Around} {E : Value → Shared → Prop} {s : Shared} {g : Heap} {L P c : Addr} {m mg : Str → Option Value} {news : List (Addr × Obj)} {env : Env} {elt iter : PySem.Expr} {x : Str} {px pos : Pos} {scope : Scope} {cl : List (Str × Addr)} {Q : Value → Shared → Prop}
theorem genList {l : Addr} {vs : Array Value} {e : Nat} (hm : (l, W.listOf vs e) ∈ news) (Fe : Nat → Value → Prop) (F : Fr g L s.heap m) (N : News g L s.heap ((P, tabObj #[]) :: news)) (hne : ∀ p ∈ news, p.1 ≠ P) (hplt : @LT.lt Nat _ P g.objs.size) (hb : AllBare s.gens) (hlim : g.NoLimit)
    (helt : ∀ (c' C : Addr) (A' : Around) E' i v (t : Shared) m₂, A'.handled = none → A'.depth ≤ A.depth + 1 → A'.units ≤ A.units + 8 → vs[i]? = some v → Fr g C t.heap m₂ → m₂ x = some v → @LT.lt Nat _ L C → (∀ p ∈ news, t.heap.get? p.1 = some p.2) →
      wpAny (model prog w) A' (eval elt (genEnv scope cl C (.ref c') builtinsNs env)) (fun y s₃ => Fe i y ∧ Keeps t s₃) E' t)
    (hcont : ∀ Kb ps a (s₅ : Shared), @LE.le Nat _ L Kb → (∀ p ∈ news, @LE.le Nat _ p.1 Kb) → @LE.le Nat _ P Kb → Fr g L s₅.heap m → News g L s₅.heap ((P, tabObj ps) :: news) → AllBare s₅.gens → s₅.os = s.os → Gen prog w A Kb a vs.size (fun j y => j < vs.size ∧ Fe j y) s₅ → Q (.ref a) s₅) :
    wpAny (model prog w) A (pyIter (.ref l)) (GenPost prog w A (unhide g P (tabObj #[])) (unhide g P (tabObj #[])) c P #[] L m env scope cl x [] elt pos Q) E s := by
  have hl0 := N _ (.tail _ hm)
  have hl : s.heap.IsList l vs := ⟨_, hl0.1, rfl, _, rfl⟩
  have hL : @LT.lt Nat _ L s.heap.objs.size := F.ns.lt
  have hP : @LT.lt Nat _ P s.heap.objs.size := Heap.lt_size (N _ (.head _)).1
  have hlt : @LT.lt Nat _ l s.heap.objs.size := Heap.lt_size hl0.1
  have hln : l ≠ s.heap.objs.size := Nat.ne_of_lt hlt
  refine wpAny_pyIter_list hl ?_
  refine genPost_of (I := s.heap.objs.size) (Kb := s.heap.objs.size - 1) (fp := [s.heap.objs.size, l]) (wr := [s.heap.objs.size]) (n := vs.size) (Pi := fun i v => vs[i]? = some v) (St := fun i h => h.IsListIter s.heap.objs.size l i ∧ h.IsList l vs) Fe (F.push _) (fun q hq => ⟨Heap.get?_push_of_some _ (N q hq).1, (N q hq).2⟩) hne hplt hb hlim (fun A' hh => Walks.list hh _ l hln vs) ⟨⟨_, Heap.get?_push_size _ rfl, rfl, rfl⟩, hl.at fun o e => Heap.get?_push_of_some _ e⟩ ?_ ?_ ?_ ?_ ?_ ?_ ?_
  · intro b' hb'
    rw [Heap.size_push]
    rcases List.mem_cons.mp hb' with e | hb'
    · rw [e]; exact Nat.lt_succ_self _
    · rw [List.mem_singleton.mp hb']; exact Nat.lt_succ_of_lt hlt
  · intro hm'
    rcases List.mem_cons.mp hm' with e | hm'
    · rw [e] at hP; exact absurd hP (Nat.lt_irrefl _)
    · exact hne _ hm (List.mem_singleton.mp hm').symm
  · intro b' hb'; rw [List.mem_singleton.mp hb']; exact Nat.sub_lt (Nat.lt_of_le_of_lt (Nat.zero_le _) hL) Nat.one_pos
  · exact Nat.le_sub_one_of_lt hL
  · rw [Heap.size_push]; exact Nat.lt_succ_of_le (Nat.sub_le _ _)
  · rintro c' C A' E' i v t m₂ h1 h2 h3 h4 h5 h6 h7 hk
    refine helt c' C A' E' i v t m₂ h1 h2 h3 h4 h5 h6 h7 fun p hp => ?_
    have z := (N p (.tail _ hp)).1
    refine hk _ _ (hne p hp) (fun q => ?_) (Heap.get?_push_of_some _ z)
    exact absurd (Heap.lt_size z) ((List.mem_singleton.mp q) ▸ Nat.lt_irrefl _)
  · intro ps a s₅ F5 N5 hb5 hos G
    exact hcont _ ps a s₅ (Nat.le_sub_one_of_lt hL) (fun p hp => Nat.le_sub_one_of_lt (Heap.lt_size (N p (.tail _ hp)).1)) (Nat.le_sub_one_of_lt hP) F5 N5 hb5 hos G
end
end Mine
end
section
open PySem PySem.W PyProof.Rows PySem.Spec PySem.Calls
set_option Elab.async false
set_option maxRecDepth 100000
set_option maxHeartbeats 0
namespace Mine
local macro_rules | `(tactic| k_room) => `(tactic| ktr_room)
local macro_rules | `(tactic| k_units) => `(tactic| ktr_units)
local macro_rules | `(tactic| k_all) => `(tactic| assumption)
theorem bb_c : ∀ {w : World} {loose : List Str} {mean : ExcName → Option Value} {mg mb : Str → Option Value} {p : Program} {dp un : Nat} {gd : Option (List Code)} {cn : Str} {cs : Scope} {a : Addr} {ccd : Value} {cl : List (Str × Addr)} {outer : List Env} {A₀ : Around} {base h₀ : Heap} {L : Addr} {m : Str → Option Value} {news : List (Addr × Obj)} {s : Shared} {Q E : Value → Shared → Prop},
  Below A₀ base outer h₀ → Fr h₀ L s.heap m → (hd.heap_39 w.params).In h₀ → News h₀ L s.heap news → Top p loose mean mg mb h₀ → cs.kind = .function → dp + 2 < recursionLimit → un + 20 < cLine →
  (∀ l b bd t1 t2 tn h' tk', Fr h₀ L h' m → News h₀ L h' ((l, listOf (List.toArray []) 0) :: (b, instObj 533 bd) :: (bd, bufD w t1 t2 l 0 tn) :: news) → (∀ p ∈ news, p.1 < bd) → bd < b → b < l → Q (.ref b) { s with heap := h', toks := tk' }) →
  wpAny (model PySem.Challenge.rw_bq0025_01.row.prog w) (ktrTop dp un gd cn cs L a ccd cl outer) (call (.ref 533) []) Q E s := by
  k_with_none
  w_top off
  k_fill
  intro w loose mean mg mb p dp un gd cn cs a ccd cl outer A₀ base h₀ L m news s Q E B F X N T hk hdp hun hret
  k_dflt (refine' call_cls ?k1 ?k2 ?k3 ?k4 ?k5 ?k6 ?_; (case k1 => k_asm); (case k2 => k_asm); (case k3 => k_asm); (case k4 => k_is); (case k5 => k_is); (case k6 => k_is); k_whole; intro x' d' h' F' N' l1 l2; have l3 := l1; (try k_lt l1); (try k_lt2 l2); (try k_sweep); cell_enter)
  k_steps
  exact hret _ _ _ _ _ _ _ _ (by assumption) (cb_drop (by assumption) (by kcj_in)) l3 l2 (ltN (by omega))
end Mine
end
section
open PySem PySem.W PyProof.Rows PySem.Spec PySem.Calls
set_option Elab.async false
set_option maxRecDepth 100000
set_option maxHeartbeats 0
namespace Mine
local macro_rules | `(tactic| k_room) => `(tactic| ktr_room)
local macro_rules | `(tactic| k_units) => `(tactic| ktr_units)
local macro_rules | `(tactic| k_all) => `(tactic| assumption)
local macro_rules | `(tactic| k_all) => `(tactic| ((refine' my_all ?ha ?hb); (case ha => assumption); (case hb => first | exact Nat.le_refl _ | omega)))
local macro_rules | `(tactic| walk_at "pyIter ref") => `(tactic| ((with_reducible show wpAny _ _ (pyIter (Value.ref _)) _ _ _); refine Halt.go ?_))
local macro_rules | `(tactic| walk_at "exec For Name Name cons nil") => `(tactic| (k_here; (rename Fr _ _ _ _ => lF'); (with_unfolding_all refine' For_invVF lF' ?k1 ?k2 ?_; (case k1 => exact rfl); (case k2 => exact rfl); k_whole)))
local macro_rules | `(tactic| walk_at "eval GeneratorExp") => `(tactic| ((with_reducible show wpAny _ _ (eval _ _) _ _ _); refine Halt.go ?_))
local macro_rules | `(tactic| walk_at "call builtin:sum") => `(tactic| ((with_reducible show wpAny _ _ (call (Value.builtin _) _) _ _ _); refine Halt.go ?_))
local macro_rules | `(tactic| walk_at "call builtin:min") => `(tactic| ((with_reducible show wpAny _ _ (call (Value.builtin _) _) _ _ _); refine Halt.go ?_))
local macro_rules | `(tactic| walk_at "call ref") => `(tactic| ((with_reducible show wpAny _ _ (call (Value.ref 516) _) _ _ _); refine Halt.go ?_))
local macro_rules | `(tactic| walk_at "call ref") => `(tactic| ((with_reducible show wpAny _ _ (call (Value.ref 469) _) _ _ _); refine Halt.go ?_))
local macro_rules | `(tactic| walk_at "call ref") => `(tactic| ((with_reducible show wpAny _ _ (call (Value.ref 388) _) _ _ _); refine Halt.go ?_))
local macro_rules | `(tactic| walk_at "call ref") => `(tactic| ((with_reducible show wpAny _ _ (call (Value.ref 542) _) _ _ _); refine Halt.go ?_))
local macro_rules | `(tactic| walk_at "UnrEnd") => `(tactic| ((with_reducible show UnrEnd _ _ _ _ _ _ _); refine Halt.go ?_))
local macro_rules | `(tactic| walk_at "call ref") => `(tactic| ((with_reducible show wpAny _ _ (call (Value.ref 533) _) _ _ _); refine Halt.go ?_))
theorem len_by {prog : Program} {w : World} {A : Around} {E : Value → Shared → Prop} {s : Shared} {b : Array UInt8} {t : Tok} {ks : List Int} {n : Nat} {Q : Value → Shared → Prop} (hk : KBw.bInts b = ks) (hn : ks.length = n) (hfit : n ≤ 64) (h : Q (.int (n : Int) (s.toks + 1)) { s with toks := s.toks + 1 + 1 }) : wpAny (model prog w) A (call (.builtin "len") [.bytes b t]) Q E s := by
  subst hn
  exact KBw.len_K hk (Nat.le_trans hfit (by decide)) h
local macro_rules | `(tactic| walk_at "call builtin:len") => `(tactic| (k_here; (with_reducible show wpAny _ _ (call (Value.builtin "len") [Value.bytes _ _]) _ _ _); (refine' len_by ?h1 ?h2 ?h3 ?_; (case h1 => assumption); (case h2 => assumption); (case h3 => omega))))
theorem drop1 {h₀ h : Heap} {L : Addr} {i : Addr × Obj} {rest : List (Addr × Obj)} (N : News h₀ L h (i :: rest)) : News h₀ L h rest := fun p hp => N p (.tail _ hp)
theorem rotW {h₀ h : Heap} {L : Addr} {l b bd i t d q qd : Addr × Obj} {rest : List (Addr × Obj)} (N : News h₀ L h (l :: b :: bd :: i :: t :: d :: q :: qd :: rest)) : News h₀ L h (l :: b :: bd :: q :: qd :: i :: t :: d :: rest) := cb_drop N (by kcj_in)
theorem rotU {h₀ h : Heap} {L : Addr} {l b bd i t d q qd : Addr × Obj} {rest : List (Addr × Obj)} (N : News h₀ L h (l :: b :: bd :: q :: qd :: i :: t :: d :: rest)) : News h₀ L h (i :: l :: b :: bd :: t :: d :: rest) := cb_drop N (by kcj_in)
theorem rotT {h₀ h : Heap} {L : Addr} {r x dx l b bd t d : Addr × Obj} {rest : List (Addr × Obj)} (N : News h₀ L h (r :: x :: dx :: l :: b :: bd :: t :: d :: rest)) : News h₀ L h (t :: r :: x :: dx :: l :: b :: bd :: d :: rest) := cb_drop N (by kcj_in)
theorem obj_ne {h₀ h : Heap} {L a b : Addr} {o o' : Obj} {news : List (Addr × Obj)} (N : News h₀ L h news) (h1 : (a, o) ∈ news) (h2 : (b, o') ∈ news) (hc : o ≠ o') : @Ne Nat a b := fun e => by
  have z1 := (N _ h1).1
  have z2 := (N _ h2).1
  dsimp only at z1 z2
  have e' : a = b := e
  rw [e', z2] at z1
  exact hc (Option.some.inj z1).symm
theorem list_obj_ne {us vs : List Value} {e e' : Nat} (h : us.length ≠ vs.length) : W.listOf (List.toArray us) e ≠ W.listOf (List.toArray vs) e' := fun q => h (by
  have := congrArg Obj.data q
  injection this with h1 h2
  have := congrArg Array.size h1
  simpa using this)
theorem dict_obj_ne {es : List DictEntry} {n : Nat} (h : es ≠ []) : dictOf es n ≠ emptyDict := fun q => h (by
  have := congrArg Obj.data q
  injection this with h1 h2
  have := congrArg Array.size h1
  simpa using this)
theorem cls_obj_ne {o o' : Obj} (h : o.cls ≠ o'.cls) : o ≠ o' := fun q => h (congrArg Obj.cls q)
theorem type_cls_ne {o o' : Obj} {a b : String} (h1 : o.cls = .type a) (h2 : o'.cls = .type b) (hab : a ≠ b) : o ≠ o' := fun q => by
  rw [q, h2] at h1
  injection h1 with h1
  exact hab h1.symm
theorem min4 {prog : Program} {w : World} {A : Around} {E : Value → Shared → Prop} {s : Shared} {h₀ : Heap} {L : Addr} {m : Str → Option Value} {news : List (Addr × Obj)} {b : Int} {t u : Tok} {Q : Value → Shared → Prop} (hb : b = 4) (hh : A.handled = none) (F : Fr h₀ L s.heap m) (N : News h₀ L s.heap news)
    (h : ∀ h' tk v, Fr h₀ L h' m → News h₀ L h' news → Q (.int 4 v) { s with heap := h', toks := tk }) : wpAny (model prog w) A (call (.builtin "min") [.int b t, .int 4 u]) Q E s :=
  min_two_N hh F N fun h' tk F' N' => by subst hb; exact h h' tk _ F' N'
theorem rotS {h₀ h : Heap} {L : Addr} {r x dx l b bd t d : Addr × Obj} {rest : List (Addr × Obj)} (N : News h₀ L h (t :: r :: x :: dx :: l :: b :: bd :: d :: rest)) : News h₀ L h (l :: b :: bd :: r :: x :: dx :: t :: d :: rest) := cb_drop N (by kcj_in)
local macro_rules | `(tactic| walk_at "call ref") => `(tactic| ((with_reducible show wpAny _ _ (call (Value.ref 530) _) _ _ _); refine Halt.go ?_))
theorem mod8 {prog : Program} {w : World} {A : Around} {E : Value → Shared → Prop} {s : Shared} {n : Nat} {t u : Tok} {Q : Value → Shared → Prop} (h8 : n % 8 = 0) (h : Q (.int 0 s.toks) { s with toks := s.toks + 1 }) : wpAny (model prog w) A (binaryOp .Mod (.int (n : Int) t) (.int 8 u)) Q E s :=
  mod_int' (by decide) (by rw [show (n : Int).fmod 8 = 0 by rw [Int.fmod_eq_emod_of_nonneg _ (by decide)]; omega]; exact h)
theorem div8 {prog : Program} {w : World} {A : Around} {E : Value → Shared → Prop} {s : Shared} {a : Int} {t u : Tok} {Q : Value → Shared → Prop} (h0 : a = 0) (h : Q (.int 0 s.toks) { s with toks := s.toks + 1 }) : wpAny (model prog w) A (binaryOp .FloorDiv (.int a t) (.int 8 u)) Q E s := by
  subst h0
  exact floordiv_int (by decide) h
local macro_rules | `(tactic| walk_at "binaryOp Mod int int") => `(tactic| (k_here; (with_reducible show wpAny _ _ (binaryOp Operator.Mod (Value.int (Nat.cast _) _) (Value.int 8 _)) _ _ _); (refine' mod8 ?h ?_; (case h => omega))))
local macro_rules | `(tactic| walk_at "binaryOp FloorDiv int int") => `(tactic| (k_here; (with_reducible show wpAny _ _ (binaryOp Operator.FloorDiv (Value.int _ _) (Value.int 8 _)) _ _ _); (refine' div8 ?h ?_; (case h => omega))))
theorem rng_zero {prog : Program} {w : World} {A : Around} {E : Value → Shared → Prop} {s : Shared} {env : Env} {h₀ : Heap} {x : Str} {body : List Stmt} {Q : Flow → Shared → Prop} {r : Addr} {t₀ u₀ v₀ : Tok} {m₀ : Str → Option Value} {news : List (Addr × Obj)}
    (hh : A.handled = none) (hr : IsRange s.heap r 0 0 1 t₀ u₀ v₀) (F : Fr h₀ env.locals s.heap m₀) (N : News h₀ env.locals s.heap news)
    (done : ∀ h tk, Fr h₀ env.locals h m₀ → News h₀ env.locals h news → Q .next { s with heap := h, toks := tk }) :
    wpAny (model prog w) A (pyIter (.ref r)) (fun it s₂ => LoopAtV prog w A h₀ env x body Q E it s₂) E s := by
  refine my_range (n := 0) (fun _ m nx => m = m₀ ∧ nx = news) hh hr (by rfl) (by rfl) F N ⟨rfl, rfl⟩ (fun i t m₁ nx h tk own hi => absurd hi (Nat.not_lt_zero _)) ?_
  rintro m₁ nx h tk ⟨rfl, rfl⟩ F₁ N₁
  exact done h tk F₁ N₁
local macro_rules | `(tactic| walk_at "LedPost") => `(tactic| ((with_reducible show LedPost _ _ _ _ _ _ _ _ _ _ _); refine Halt.go ?_))
theorem take_head {row : List B} {rm : Nat} (h : 0 < rm) (hz : row.getD 0 0#8 ≠ 0#8) : (row.take rm).getD 0 0#8 ≠ 0#8 := by
  rw [List.getD_eq_getElem?_getD, List.getElem?_take, if_pos h, ← List.getD_eq_getElem?_getD]
  exact hz
theorem rotI {h₀ h : Heap} {L : Addr} {i a b c : Addr × Obj} {rest : List (Addr × Obj)} (N : News h₀ L h (i :: a :: b :: c :: rest)) : News h₀ L h (a :: b :: c :: i :: rest) := cb_drop N (by kcj_in)
theorem ebl_of {row : List B} {rm : Nat} (h : (txt row rm).length = rm - 2) (h2 : 9 ≤ rm) : 12 + 8 * (txt row rm).length = 8 * rm - 4 := by rw [h]; omega
theorem cd_c : ∀ {w : World} {loose : List Str} {mean : ExcName → Option Value} {mg mb : Str → Option Value} {p : Program} {dp un : Nat} {gd : Option (List Code)} {cn : Str} {cs : Scope} {a : Addr} {ccd : Value} {cl : List (Str × Addr)} {outer : List Env} {A₀ : Around} {base h₀ : Heap} {L : Addr} {m : Str → Option Value} {news : List (Addr × Obj)} {s : Shared} {Q E : Value → Shared → Prop} {dl q qd : Addr} {s1 s2 s3 s4 t1 t2 : Tok} {by' : Array UInt8} {row : List B} {e rm ec : Nat} {lv : Int},
  Below A₀ base outer h₀ → Fr h₀ L s.heap m → (hd.heap_39 w.params).In h₀ → News h₀ L s.heap ((544, tabObj #[]) :: (dl, listOf (List.toArray [.ref q]) e) :: (q, instObj 479 qd) :: (qd, qrD w s1 s2 s3 by' s4) :: news) → Top p loose mean mg mb h₀ → cs.kind = .function → dp + 210 < recursionLimit → un + 2100 < cLine →
  Lev lv rm → 26 = rm + ec → KBw.bInts by' = txt row rm → HeadOk rm row → (∀ j, j < 26 - rm → ev row (Mine.E j) = 0#8) → AllBare s.gens → (∀ p ∈ (dl, listOf (List.toArray [.ref q]) e) :: (q, instObj 479 qd) :: (qd, qrD w s1 s2 s3 by' s4) :: news, p.1 ≠ 544) →
  (∀ s' r us e' ps, Fr h₀ L s'.heap m → News h₀ L s'.heap ((r, listOf (List.toArray us) e') :: (544, tabObj ps) :: news) → IntsAre us (row.map toI) → AllBare s'.gens → s'.os = s.os → Q (.ref r) s') →
  wpAny (model PySem.Challenge.rw_bq0025_01.row.prog w) (ktrTop dp un gd cn cs L a ccd cl outer) (call (.ref 549) [.int 1 t1, .int lv t2, .ref dl]) Q E s := by
  k_with_none
  w_top off
  k_fill
  intro w loose mean mg mb p dp un gd cn cs a ccd cl outer A₀ base h₀ L m news s Q E dl q qd s1 s2 s3 s4 t1 t2 by' row e rm ec lv B F X N T hk hdp hun hlv hec hby hrow hev hbare hoff hret
  have hrm : Rm rm := by unfold Lev at hlv; unfold Rm; omega
  have hE : Ecc ec := by unfold Ecc; unfold Rm at hrm; omega
  have hbl : (txt row rm).length = rm - 2 := txt_len row rm
  have hr2 : 9 ≤ rm ∧ rm ≤ 19 := by unfold Rm at hrm; omega
  refine wpAny_call ?_
  k_dflt (refine' code_def B F X N T ?kA ?kF ?kK ?k6 ?k7 ?k8 ?k9 ?kB ?_ ?c2 ?c3 ?c4 ?c5; (case kA => exact rfl); (case kF => exact rfl); (case kK => assumption); (case k6 => k_is); (case k7 => k_is); (case k8 => ktr_room); (case k9 => exact BindsTo.of_eq rfl); (case c5 => decide); (case kB => exact locs rfl); (case c2 => exact rfl); (case c3 => exact rfl); (case c4 => exact rfl); k_whole; intro g' L' h' FG' F' N' B' X' T'; (try dsimp only); (try k_lift B'); (try k_fold))
  k_steps
  unfold Halt
  (rename Fr _ _ _ _ => F0); (rename News _ _ _ _ => N0)
  refine bb_c B' F0 X' N0 T' (by first | exact rfl | assumption) (by ktr_room) (by ktr_units) ?_
  intro l b bd bt1 bt2 btn h0 tk0 Fb Nb lb1 lb2 lb3
  have lb4 := lb1
  have lb5 : @LT.lt Nat _ bd b := lb2
  have lb6 : @LT.lt Nat _ b l := lb3
  k_lt lb1
  have hall : AllLt bd news := lb1.2.2.2.2
  k_steps
  unfold Halt
  (rename Fr _ _ _ _ => fW); (rename News _ _ _ _ => nW)
  refine iter_listUnr (ax := dl) (lo := listOf (List.toArray [.ref q]) e) (vs := [.ref q]) (by rfl) fW nW (by k_mem) (by rfl) (by rfl) ?_
  intro I hI
  have hI2 := hI
  k_lt hI
  intro it h1 tk1 hit F1 N1
  clear fW nW
  have f1 : ∀ p ∈ (I, it) :: (544, tabObj #[]) :: (dl, listOf (List.toArray [.ref q]) e) :: (q, instObj 479 qd) :: (qd, qrD w s1 s2 s3 by' s4) :: news, p.1 ≠ l := by
    repeat (refine List.forall_mem_cons.mpr ⟨by k_ne, ?_⟩)
    exact my_all hall (by omega)
  have f2 : ∀ p ∈ (I, it) :: (544, tabObj #[]) :: (dl, listOf (List.toArray [.ref q]) e) :: (q, instObj 479 qd) :: (qd, qrD w s1 s2 s3 by' s4) :: news, p.1 ≠ bd := by
    repeat (refine List.forall_mem_cons.mpr ⟨by k_ne, ?_⟩)
    exact my_all hall (by omega)
  k_steps
  unfold Halt
  (rename Fr _ _ _ _ => F2); (rename News _ _ _ _ => N2)
  refine put_c (n := 0) (len := 4) (bs := []) B' F2 X' (rotI N2) T' (by first | exact rfl | assumption) (by ktr_room) (by ktr_units) .nil (by decide) (by decide) (by decide) (by decide) (by decide) (by decide) (by decide) f1 f2 (by k_ne) (by k_ne) (by k_ne) ?_
  intro us1 h2 tn1 en1 tk2 F3 N3 I3
  k_steps
  unfold Halt
  (rename Fr _ _ _ _ => F4); (rename News _ _ _ _ => N4)
  refine put_c (n := 4) (len := 8) (bs := pn [] 0 4 4 4) B' F4 X' (drop1 N4) T' (by first | exact rfl | assumption) (by ktr_room) (by ktr_units) I3 (by decide) (by decide) (by decide) (by omega) (by omega) (by decide) (by decide) f1 f2 (by k_ne) (by k_ne) (by k_ne) ?_
  intro us2 h5 tn5 en5 tk5 F5 N5 I5
  k_steps
  unfold Halt
  (rename Fr _ _ _ _ => F6); (rename News _ _ _ _ => N6)
  have f3 : ∀ p ∈ (q, instObj 479 qd) :: (qd, qrD w s1 s2 s3 by' s4) :: (I, it) :: (544, tabObj #[]) :: (dl, listOf (List.toArray [.ref q]) e) :: news, p.1 ≠ l := by
    repeat (refine List.forall_mem_cons.mpr ⟨by k_ne, ?_⟩)
    exact my_all hall (by omega)
  have f4 : ∀ p ∈ (q, instObj 479 qd) :: (qd, qrD w s1 s2 s3 by' s4) :: (I, it) :: (544, tabObj #[]) :: (dl, listOf (List.toArray [.ref q]) e) :: news, p.1 ≠ bd := by
    repeat (refine List.forall_mem_cons.mpr ⟨by k_ne, ?_⟩)
    exact my_all hall (by omega)
  refine write_c (n := 12) B' F6 X' (rotW N6) T' (by first | exact rfl | assumption) (by ktr_room) (by ktr_units) I5 (by decide) (pn_length _ 4 _ 8 (pn_length _ 0 _ 4 rfl 4) 8) hby (by omega) (by omega) f3 f4 (by k_ne) (by k_ne) (by k_ne) ?_
  intro us3 h7 tn7 en7 tk7 F7 N7 I7
  rw [hbl, show ((rm - 2 : Nat) : Int) = (rm : Int) - 2 by omega, buf_end hrm hrow] at I7
  k_steps
  unfold Halt
  refine UnrEnd.intro F7 (rotU N7) _ (fun _ hp => hp) ?_ ⟨by k_mem, ?_⟩
  · repeat (refine List.forall_mem_cons.mpr ⟨by k_ne, ?_⟩)
    exact my_all hall (by omega)
  refine ListRest.zero fun h8 tk8 F8 N8 => ?_
  clear F7 N7
  k_steps
  unfold Halt
  (rename Fr _ _ _ _ => F9); (rename News _ _ _ _ => N9)
  refine rsb_c B' F9 X' N9 T' (by first | exact rfl | assumption) (by ktr_room) (by ktr_units) hlv ?_
  intro h10 tk10 r x dx er ta tb F10 N10
  have c1 := X' 548 _ (by k_dflt k_is)
  have c2 := X' 549 _ (by k_dflt k_is)
  have hC : CodeHd g' 548 544 := ⟨_, _, _, _, _, _, _, _, _, c1, rfl, rfl, rfl, rfl, rfl, rfl, rfl, rfl, by decide⟩
  have hlt : @LT.lt Nat _ 544 g'.objs.size := Nat.lt_trans (by decide) (Heap.lt_size c2)
  k_steps
  unfold Halt
  (rename Fr _ _ _ _ => F11); (rename News _ _ _ _ => N11)
  have N11r := rotT N11
  clear N11
  refine gen_hid F11 N11r T' hC hlt (by decide) rfl rfl rfl rfl rfl (by decide) rfl rfl rfl (by ktr_room) ?_ (by intro _; rfl)
  k_steps
  unfold Halt
  (rename Fr _ _ _ _ => F12); (rename News _ _ _ _ => N12)
  have n1 : @Ne Nat r 544 := obj_ne N12 (by repeat (first | exact List.Mem.head _ | refine List.Mem.tail _ ?_)) (by repeat (first | exact List.Mem.head _ | refine List.Mem.tail _ ?_)) (by exact (cls_obj_ne nofun))
  have n2 : @Ne Nat x 544 := obj_ne N12 (by repeat (first | exact List.Mem.head _ | refine List.Mem.tail _ ?_)) (by repeat (first | exact List.Mem.head _ | refine List.Mem.tail _ ?_)) (by exact (cls_obj_ne nofun))
  have n3 : @Ne Nat dx 544 := obj_ne N12 (by repeat (first | exact List.Mem.head _ | refine List.Mem.tail _ ?_)) (by repeat (first | exact List.Mem.head _ | refine List.Mem.tail _ ?_)) (by exact (cls_obj_ne nofun))
  have n4 : @Ne Nat dx bd := obj_ne N12 (by repeat (first | exact List.Mem.head _ | refine List.Mem.tail _ ?_)) (by repeat (first | exact List.Mem.head _ | refine List.Mem.tail _ ?_)) (by exact (dict_obj_ne (List.cons_ne_nil _ _)).symm)
  have n5 : @Ne Nat dx l := obj_ne N12 (by repeat (first | exact List.Mem.head _ | refine List.Mem.tail _ ?_)) (by repeat (first | exact List.Mem.head _ | refine List.Mem.tail _ ?_)) (by exact type_cls_ne rfl rfl (by decide))
  have n6 : @Ne Nat x bd := obj_ne N12 (by repeat (first | exact List.Mem.head _ | refine List.Mem.tail _ ?_)) (by repeat (first | exact List.Mem.head _ | refine List.Mem.tail _ ?_)) (by exact (cls_obj_ne nofun))
  have n7 : @Ne Nat x l := obj_ne N12 (by repeat (first | exact List.Mem.head _ | refine List.Mem.tail _ ?_)) (by repeat (first | exact List.Mem.head _ | refine List.Mem.tail _ ?_)) (by exact (cls_obj_ne nofun))
  have n8 : @Ne Nat r bd := obj_ne N12 (by repeat (first | exact List.Mem.head _ | refine List.Mem.tail _ ?_)) (by repeat (first | exact List.Mem.head _ | refine List.Mem.tail _ ?_)) (by exact type_cls_ne rfl rfl (by decide))
  have hul : us3.length = rm := by rw [I7.length, List.length_map, List.length_take, hrow.1]; omega
  have n9 : @Ne Nat r l := obj_ne N12 (by repeat (first | exact List.Mem.head _ | refine List.Mem.tail _ ?_)) (by repeat (first | exact List.Mem.head _ | refine List.Mem.tail _ ?_)) (by exact (list_obj_ne (by rw [hul]; simp; omega)))
  have hne : ∀ p ∈ (r, listOf (List.toArray [.ref x]) er) :: (x, tupInst 378 dx #[.int 26 ta, .int (rm : Int) tb]) :: (dx, emptyDict) :: (l, listOf us3.toArray en7) :: (b, instObj 533 bd) :: (bd, bufD w bt1 bt2 l ((12 + 8 * (txt row rm).length : Nat) : Int) tn7) :: (dl, listOf (List.toArray [.ref q]) e) :: news, p.1 ≠ 544 := by
    have q := List.forall_mem_cons.mp hoff
    refine List.forall_mem_cons.mpr ⟨n1, List.forall_mem_cons.mpr ⟨n2, List.forall_mem_cons.mpr ⟨n3, List.forall_mem_cons.mpr ⟨by k_ne, List.forall_mem_cons.mpr ⟨by k_ne, List.forall_mem_cons.mpr ⟨by k_ne, List.forall_mem_cons.mpr ⟨q.1, ?_⟩⟩⟩⟩⟩⟩⟩
    exact (List.forall_mem_cons.mp (List.forall_mem_cons.mp q.2).2).2
  refine genList (l := r) (vs := (List.toArray [.ref x])) (by k_mem) (fun _ y => ∃ t, y = Value.int ((rm : Int) * 8) t) F12 N12 hne hlt hbare T'.nolimit ?_ ?_
  · intro c' C A' E' i v t m₂ g1 g2 g3 g4 hF hm hLC hn
    have hv : v = .ref x := by
      cases i with
      | zero => exact (Option.some.inj g4).symm
      | succ i => cases g4
    subst hv
    refine wpAny_BinOp (Attribute_any_ (ldVarG hF hm ?_))
    refine dc_any (X'.keeps hF.keep) (T'.keeps hF.keep) (hn (x, tupInst 378 dx #[.int 26 ta, .int (rm : Int) tb]) (by k_mem)) (hn (dx, emptyDict) (by k_mem)) (Nat.lt_of_le_of_lt g2 (show dp + 1 + 1 < recursionLimit by omega)) ?_
    intro h' tk hk
    refine wpAny_Constant_int ?_
    refine mul_int ?_ (IntMulOk.of_right (by decide))
    exact ⟨⟨_, rfl⟩, h', _, rfl, hk⟩
  · intro Kb ps ga s₅ hLK hle hPK F5 N5 hb5 hos G
    k_steps
    unfold Halt
    refine sum_rowsKA F5 hb5 G hLK (fun _ => (rm : Int) * 8) (fun j v hv => hv.2) fun s' t' F6 hb6 hos6 hk6 => ?_
    have hps : preSum (fun _ => (rm : Int) * 8) (List.toArray [Value.ref x]).size = (rm : Int) * 8 := by
      show (0 : Int) + (rm : Int) * 8 = _
      omega
    rw [hps]
    have N6 : News g' L' s'.heap ((544, tabObj ps) :: (r, listOf (List.toArray [.ref x]) er) :: (x, tupInst 378 dx #[.int 26 ta, .int (rm : Int) tb]) :: (dx, emptyDict) :: (l, listOf us3.toArray en7) :: (b, instObj 533 bd) :: (bd, bufD w bt1 bt2 l ((12 + 8 * (txt row rm).length : Nat) : Int) tn7) :: (dl, listOf (List.toArray [.ref q]) e) :: news) := fun q hq => by
      have z := N5 q hq
      refine ⟨hk6 _ _ ?_ z.1, z.2⟩
      rcases List.mem_cons.mp hq with rfl | hq
      · exact hPK
      · exact hle q hq
    clear N5 F5 G
    have ebl : 12 + 8 * (txt row rm).length = 8 * rm - 4 := ebl_of hbl hr2.1
    rw [ebl] at N6
    have N7 := rotS N6
    clear N6
    k_steps
    unfold Halt
    (rename Fr _ _ _ _ => F13); (rename News _ _ _ _ => N13)
    refine min4 (by omega) (by rfl) F13 N13 ?_
    intro h14 tk14 v14 F14 N14
    clear F13 N13
    k_steps
    unfold Halt
    (rename Fr _ _ _ _ => F15); (rename News _ _ _ _ => N15); (rename IsRange _ _ _ _ _ _ _ _ => rgX)
    have hlt2 : ((row.take rm).map toI).length = rm := by rw [List.length_map, List.length_take, hrow.1]; omega
    refine rng_led (n := 4) (fun i nx => ∃ us4 e' tn', nx = (l, listOf (List.toArray us4) e') :: (b, instObj 533 bd) :: (bd, bufD w bt1 bt2 l ((8 * rm - 4 + i : Nat) : Int) tn') :: (r, listOf (List.toArray [.ref x]) er) :: (x, tupInst 378 dx #[.int 26 ta, .int (rm : Int) tb]) :: (dx, emptyDict) :: (544, tabObj ps) :: (dl, listOf (List.toArray [.ref q]) e) :: news ∧ IntsAre us4 ((row.take rm).map toI)) (by rfl) rgX (by decide) (by decide) F15 N15 ⟨_, _, _, rfl, I7⟩ ?_ ?_
    · rintro i t nx h16 tk16 own hi4 ha hoff16 ⟨us4, e', tn', rfl, I8⟩ F16 N16
      simp only [List.cons_append] at N16
      have o1 : ∀ p ∈ (r, listOf (List.toArray [.ref x]) er) :: (x, tupInst 378 dx #[.int 26 ta, .int (rm : Int) tb]) :: (dx, emptyDict) :: (544, tabObj ps) :: (dl, listOf (List.toArray [.ref q]) e) :: (news ++ own), p.1 ≠ l := by
        refine List.forall_mem_cons.mpr ⟨n9, List.forall_mem_cons.mpr ⟨n7, List.forall_mem_cons.mpr ⟨n5, List.forall_mem_cons.mpr ⟨by k_ne, List.forall_mem_cons.mpr ⟨by k_ne, ?_⟩⟩⟩⟩⟩
        exact app_off (hoff16.ne (.head _)) (my_all hall (by omega))
      have o2 : ∀ p ∈ (r, listOf (List.toArray [.ref x]) er) :: (x, tupInst 378 dx #[.int 26 ta, .int (rm : Int) tb]) :: (dx, emptyDict) :: (544, tabObj ps) :: (dl, listOf (List.toArray [.ref q]) e) :: (news ++ own), p.1 ≠ bd := by
        refine List.forall_mem_cons.mpr ⟨n8, List.forall_mem_cons.mpr ⟨n6, List.forall_mem_cons.mpr ⟨n4, List.forall_mem_cons.mpr ⟨by k_ne, List.forall_mem_cons.mpr ⟨by k_ne, ?_⟩⟩⟩⟩⟩
        exact app_off (hoff16.ne (.tail _ (.tail _ (.head _)))) (my_all hall (by omega))
      k_steps
      unfold Halt
      (rename Fr _ _ _ _ => F17); (rename News _ _ _ _ => N17)
      refine putbit_c (n := 8 * rm - 4 + i) B' F17 X' N17 T' (by first | exact rfl | assumption) (by ktr_room) (by ktr_units) I8 (by omega) (by omega) (by omega) o1 o2 (by k_ne) (by k_ne) (by k_ne) ?_
      intro us18 h18 tn18 en18 tk18 F18 N18 I18
      rw [pb_false (by omega)] at I18
      k_steps
      unfold Halt
      exact InvEnd.c3 (nx := (r, listOf (List.toArray [.ref x]) er) :: (x, tupInst 378 dx #[.int 26 ta, .int (rm : Int) tb]) :: (dx, emptyDict) :: (544, tabObj ps) :: (dl, listOf (List.toArray [.ref q]) e) :: news) F18 N18 ⟨⟨_, rfl⟩, _, _, _, rfl, I18⟩ rfl
    · rintro v nx h16 tk16 ⟨us4, e', tn', rfl, I8⟩ F16 N16
      k_steps
      unfold Halt
      (rename Fr _ _ _ _ => F17); (rename News _ _ _ _ => N17); (rename IsRange _ _ _ _ _ _ _ _ => rg2)
      refine rng_zero (by rfl) rg2 F17 N17 ?_
      intro h18 tk18 F18 N18
      clear F17 N17 F16 N16
      k_steps
      unfold Halt
      (rename Fr _ _ _ _ => F19); (rename News _ _ _ _ => N19)
      have hz : row.getD 0 0#8 ≠ 0#8 := fun q => by
        have z := hrow.2.1
        rw [q] at z
        have z2 : toI 0#8 = 0 := rfl
        omega
      refine cb_c B' F19 X' N19 T' (by first | exact rfl | assumption) (by ktr_room) (by ktr_units) I8 (by rw [List.length_take, hrow.1]; omega) hec hrm (take_head (by omega) hz) ?_
      intro r2 us e2 h20 tk20 Es F20 N20 I20 hEl hEv
      rw [row_is hE hec hrow.1 hev hEl hEv] at I20
      k_steps
      (rename News _ _ _ _ => nZ)
      exact hret _ _ _ _ ps (by assumption) (cb_drop nZ (by kcj_in)) I20 hb6 (hos6.trans hos)
end Mine
end
section
open PySem PySem.W PyProof.Rows PySem.Spec PySem.Calls
set_option Elab.async false
set_option maxRecDepth 100000
set_option maxHeartbeats 0
namespace Mine
local macro_rules | `(tactic| k_room) => `(tactic| ktr_room)
local macro_rules | `(tactic| k_units) => `(tactic| ktr_units)
local macro_rules | `(tactic| k_all) => `(tactic| assumption)
local macro_rules | `(tactic| walk_at "call type:bytes") => `(tactic| ((with_reducible show wpAny _ _ (call (Value.type _) _) _ _ _); refine Halt.go ?_))
local macro_rules | `(tactic| walk_at "eval ListComp") => `(tactic| ((with_reducible show wpAny _ _ (eval (PySem.Expr.ListComp _ _ _ _) _) _ _ _); refine Halt.go ?_))
local macro_rules | `(tactic| walk_at "CompSrc") => `(tactic| ((with_reducible show LCg.CompSrc _ _ _ _ _ _ _ _ _ _ _ _ _ _); refine Halt.go ?_))
local macro_rules | `(tactic| walk_at "loadName") => `(tactic| (k_here; k_dflt (refine' ldnCN ?N ?c ?m ?d ?_ ?x1 ?x2; (case N => k_asm); (case c => rfl); (case m => k_mem); (case d => k_asm); (case x1 => rfl); (case x2 => rfl); k_whole)))
local macro_rules | `(tactic| walk_at "call ref") => `(tactic| ((with_reducible show wpAny _ _ (call (Value.ref 479) _) _ _ _); refine Halt.go ?_))
local macro_rules | `(tactic| walk_at "call ref") => `(tactic| ((with_reducible show wpAny _ _ (call (Value.ref 549) _) _ _ _); refine Halt.go ?_))
theorem txt_el {row : List B} {k : Int} (h : 0 ≤ k) : ((row.map toI).getD (k + 1).toNat 0).fmod 16 * 16 + ((row.map toI).getD (k + 2).toNat 0).fdiv 16 = toI (row.getD (k.toNat + 1) 0#8) % 16 * 16 + toI (row.getD (k.toNat + 2) 0#8) / 16 := by
  rw [getD_toI, getD_toI, Int.fmod_eq_emod_of_nonneg _ (by decide), Int.fdiv_eq_ediv_of_nonneg _ (by decide), show (k + 1).toNat = k.toNat + 1 by omega, show (k + 2).toNat = k.toNat + 2 by omega]
theorem txt_range (row : List B) (rm : Nat) : (rangeKs 0 (rm - 2)).map (fun k => toI (row.getD (k.toNat + 1) 0#8) % 16 * 16 + toI (row.getD (k.toNat + 2) 0#8) / 16) = txt row rm := by
  unfold rangeKs txt
  rw [List.map_map]
  refine List.map_congr_left fun k _ => ?_
  simp
theorem rsz (n : Nat) : Builtin.Range.rangeSize 0 (n : Int) 1 = (n : Int) := by simpa using rangeSize_nat (0 : Int) n
theorem rsm {n : Nat} (h : n < 2 ^ 20) : Builtin.Range.small 0 (n : Int) 1 = true := small_one (by omega) (by omega) (by omega) (by omega)
theorem rot16 {h₀ h : Heap} {L : Addr} {l q qd p t c r : Addr × Obj} (N : News h₀ L h [l, q, qd, p, t, c, r]) : News h₀ L h (t :: l :: q :: qd :: [p, c, r]) := cb_drop N (by kcj_in)
theorem body_16 : ∀ {w : World} {loose : List Str} {mean : ExcName → Option Value} {mg mb : Str → Option Value} {p : Program} {dp un : Nat} {gd : Option (List Code)} {fa : Addr} {ccd : Value} {outer : List Env} {A₀ : Around} {base h₀ : Heap} {L : Addr} {m : Str → Option Value} {s : Shared} {Q : Flow → Shared → Prop} {E : Value → Shared → Prop} {c1 c2 c3 c4 c5 c6 c7 c8 c9 rl : Addr} {o4 : Obj} {vs : List Value} {e rm ec : Nat} {lv : Int} {tl tr : Tok} {row : List B},
  Below A₀ base outer h₀ → Fr h₀ L s.heap (fun y => if y = Str.ofString "level" then some (.int lv tl) else if y = Str.ofString "room" then some (.int (rm : Int) tr) else m y) → (hd.heap_39 w.params).In h₀ → News h₀ L s.heap [(435, tabObj #[]), (544, tabObj #[]), (c4, o4), (rl, listOf (List.toArray vs) e)] → Top p loose mean mg mb h₀ → dp + 300 < recursionLimit → un + 3000 < cLine →
  o4.data = .cell (some (.ref rl)) → IntsAre vs (row.map toI) → Lev lv rm → 26 = rm + ec → HeadOk rm row → (∀ j, j < 26 - rm → ev row (Mine.E j) = 0#8) → AllBare s.gens →
  (∀ s' m' ps1 ps2, Fr h₀ L s'.heap m' → News h₀ L s'.heap [(435, tabObj ps1), (544, tabObj ps2)] → AllBare s'.gens → s'.os = s.os → Q (.ret (.bool true)) s') →
  wpAny (model PySem.Challenge.rw_bq0025_01.row.prog w) (ktrTop dp un gd (Str.ofString "law") lawS L fa ccd (lawCl c1 c2 c3 c4 c5 c6 c7 c8 c9) outer) (execs (lawB.drop 16) (envX (Str.ofString "law") lawS L fa ccd (lawCl c1 c2 c3 c4 c5 c6 c7 c8 c9))) Q E s := by
  k_with_none
  w_top off
  k_fill
  intro w loose mean mg mb p dp un gd fa ccd outer A₀ base h₀ L m s Q E c1 c2 c3 c4 c5 c6 c7 c8 c9 rl o4 vs e rm ec lv tl tr row B F X N T hdp hun hc4 hi hlv hec hrow hev hbare hret
  conv in (occs := *) lawS => all_goals whnf
  conv in (List.drop _ _) => whnf
  have hrm : Rm rm := by unfold Lev at hlv; unfold Rm; omega
  have hr2 : 9 ≤ rm ∧ rm ≤ 19 := by unfold Rm at hrm; omega
  have hrl : (row.map toI).length = 26 := by rw [List.length_map, hrow.1]
  k_steps
  unfold Halt
  (rename Fr _ _ _ _ => F1); (rename News _ _ _ _ => N1)
  k_dflt (refine LCg.ListComp_U (F₀ := F1) (by with_unfolding_all rfl) (by decide) (by rfl) (by decide) (by rfl) ?_)
  k_steps
  unfold Halt
  (rename Fr _ _ _ _ => F2); (rename News _ _ _ _ => N2); (rename IsRange _ _ _ _ _ _ _ _ => rgX)
  have er : ((rm : Int) - 2) = ((rm - 2 : Nat) : Int) := by omega
  rw [er] at rgX
  refine LCg.CompSrc.range (n := rm - 2) (by rfl) F2 N2 rgX (rsm (by omega)) (rsz _) (by rw [sizeLine_eq]; omega) ?_
  intro gH
  refine kcf_range (fun k => toI (row.getD (k.toNat + 1) 0#8) % 16 * 16 + toI (row.getD (k.toNat + 2) 0#8) / 16) ?_ ?_
  · intro k t I2 oI C oC D m₂ ys h9 tk9 E' hk1 hk2 hC hx F11 N11 off ne mk
    refine post_halt ?_
    k_steps
    unfold Halt
    (rename Fr _ _ _ _ => fE); (rename News _ _ _ _ => nE)
    exact LCg.CompEnd.intro fE nE _ (fun p hp => hp) off trivial (kcf_el (txt_el hk1).symm rfl rfl)
  · intro ys hys D h10 tk10 F12 N12 off12
    rw [txt_range] at hys
    simp only [LCg.Off1] at off12
    k_steps
    unfold Halt
    (rename Fr _ _ _ _ => F13); (rename News _ _ _ _ => N13)
    refine KBa.make_K F13 N13 (by rfl) (News.isList N13 (by k_mem)) hys (fun n hn => txt_mem n hn) (by rw [txt_len]; omega) ?_
    intro h14 t14 k14 F14 N14 hin
    clear F13 N13
    have hby : KBw.bInts (byteArr (txt row rm)) = txt row rm := KBa.ints_make hin
    have n1 : @Ne Nat c4 435 := obj_ne N14 (by repeat (first | exact List.Mem.head _ | refine List.Mem.tail _ ?_)) (by repeat (first | exact List.Mem.head _ | refine List.Mem.tail _ ?_)) (show o4 ≠ tabObj #[] from fun q => by rw [q] at hc4; cases hc4)
    have n2 : @Ne Nat rl 435 := obj_ne N14 (by repeat (first | exact List.Mem.head _ | refine List.Mem.tail _ ?_)) (by repeat (first | exact List.Mem.head _ | refine List.Mem.tail _ ?_)) (by exact cls_obj_ne nofun)
    have n3 : @Ne Nat c4 544 := obj_ne N14 (by repeat (first | exact List.Mem.head _ | refine List.Mem.tail _ ?_)) (by repeat (first | exact List.Mem.head _ | refine List.Mem.tail _ ?_)) (show o4 ≠ tabObj #[] from fun q => by rw [q] at hc4; cases hc4)
    have n4 : @Ne Nat rl 544 := obj_ne N14 (by repeat (first | exact List.Mem.head _ | refine List.Mem.tail _ ?_)) (by repeat (first | exact List.Mem.head _ | refine List.Mem.tail _ ?_)) (by exact cls_obj_ne nofun)
    k_steps
    unfold Halt
    (rename Fr _ _ _ _ => F15); (rename News _ _ _ _ => N15)
    have N16 : News h₀ L _ [(435, tabObj #[]), (544, tabObj #[]), (c4, o4), (rl, listOf (List.toArray vs) e)] := cb_drop N15 (by kcj_in)
    clear N15
    have q1 : 0 < (txt row rm).length := by rw [txt_len]; omega
    have q2 : (txt row rm).length ≤ 24 := by rw [txt_len]; omega
    have q3 : ∀ p ∈ [((544 : Addr), tabObj #[]), (c4, o4), (rl, listOf (List.toArray vs) e)], p.1 ≠ 435 := by
      refine List.forall_mem_cons.mpr ⟨?_, List.forall_mem_cons.mpr ⟨n1, List.forall_mem_cons.mpr ⟨n2, ?_⟩⟩⟩
      · show @Ne Nat 544 435
        decide
      · intro p hp; cases hp
    refine qr_c B F15 X N16 T rfl (by ktr_room) (by ktr_units) hby q1 q2 hbare q3 ?_
    intro s17 q qd t1 t2 t3 t4 ps F17 N17 hb17 hos17
    clear N16
    k_steps
    unfold Halt
    (rename Fr _ _ _ _ => F18); (rename News _ _ _ _ => N18)
    have N19 := rot16 N18
    clear N18
    refine cd_c B F18 X N19 T rfl (by ktr_room) (by ktr_units) hlv hec hby hrow hev hb17 ?q4 ?_
    case q4 =>
      refine List.forall_mem_cons.mpr ⟨?_, List.forall_mem_cons.mpr ⟨?_, List.forall_mem_cons.mpr ⟨?_, List.forall_mem_cons.mpr ⟨?_, List.forall_mem_cons.mpr ⟨n3, List.forall_mem_cons.mpr ⟨n4, ?_⟩⟩⟩⟩⟩⟩
      · exact obj_ne N19 (by repeat (first | exact List.Mem.head _ | refine List.Mem.tail _ ?_)) (by repeat (first | exact List.Mem.head _ | refine List.Mem.tail _ ?_)) (by exact cls_obj_ne nofun)
      · exact obj_ne N19 (by repeat (first | exact List.Mem.head _ | refine List.Mem.tail _ ?_)) (by repeat (first | exact List.Mem.head _ | refine List.Mem.tail _ ?_)) (by exact cls_obj_ne nofun)
      · exact obj_ne N19 (by repeat (first | exact List.Mem.head _ | refine List.Mem.tail _ ?_)) (by repeat (first | exact List.Mem.head _ | refine List.Mem.tail _ ?_)) (by exact cls_obj_ne nofun)
      · show @Ne Nat 435 544
        decide
      · intro p hp; cases hp
    intro s20 r2 us e2 ps2 F20 N20 hi20 hb20 hos20
    clear N19
    k_steps
    exact hret _ _ ps ps2 (by assumption) (cb_drop N20 (by kcj_in)) hb20 (hos20.trans hos17)
end Mine
end
section
open PySem PySem.W PyProof.Rows PySem.Spec PySem.Calls PyProof.V
set_option Elab.async false
set_option maxRecDepth 100000
namespace Mine
/-- what a turn hands on in a loop that changes one list, the head of the ledger -/
def Chg (P : List Value → Prop) (le : Addr) (rest nx : List (Addr × Obj)) : Prop := ∃ us e, nx = (le, W.listOf (List.toArray us) e) :: rest ∧ P us
section
variable {prog : Program} {w : World} {A : Around} {E : Value → Shared → Prop} {s : Shared} {env : Env} {h₀ : Heap} {x : Str} {body : List Stmt} {Q : Flow → Shared → Prop}
theorem list_led {l : Addr} {vs : List Value} {ns : List Int} {nn : Nat} {y : Str} {m₀ : Str → Option Value} {le : Addr} {us0 : List Value} {e0 : Nat} {rest : List (Addr × Obj)} (P : Nat → List Value → Prop)
    (hh : A.handled = none) (hl : (l, W.listOf vs.toArray nn) ∈ rest) (hi : IntsAre vs ns) (F : Fr h₀ env.locals s.heap m₀) (N : News h₀ env.locals s.heap ((le, W.listOf (List.toArray us0) e0) :: rest)) (h0 : P 0 us0)
    (turn : ∀ (i : Nat) n t vy us e h tk own, ns[i]? = some n → P i us → OwnOff own (le :: rest.map (·.1)) → Fr h₀ env.locals h (fun z => if z = x then some (.int n t) else if z = y then vy else m₀ z) → News h₀ env.locals h ((le, W.listOf (List.toArray us) e) :: (rest ++ own)) →
      wpAny (model prog w) A (execs body env) (LedPost2 h₀ env.locals x y m₀ (Chg (P (i + 1)) le rest) own (le :: rest.map (·.1)) { s with heap := h, toks := tk } Q) E { s with heap := h, toks := tk })
    (done : ∀ vx vy us e h tk, P ns.length us → Fr h₀ env.locals h (fun z => if z = x then vx else if z = y then vy else m₀ z) → News h₀ env.locals h ((le, W.listOf (List.toArray us) e) :: rest) → Q .next { s with heap := h, toks := tk }) :
    wpAny (model prog w) A (pyIter (.ref l)) (fun it s₂ => LoopAtV prog w A h₀ env x body Q E it s₂) E s := by
  have ext : ∀ m : Str → Option Value, (∀ z, z ≠ x → z ≠ y → m z = m₀ z) → m = fun z => if z = x then m x else if z = y then m y else m₀ z := fun m h => by
    funext z
    by_cases h1 : z = x
    · simp [h1]
    · by_cases h2 : z = y
      · subst h2; simp [h1]
      · simp [h1, h2, h z h1 h2]
  refine iter_invNL (fun i m nx => (∀ z, z ≠ x → z ≠ y → m z = m₀ z) ∧ Chg (P i) le rest nx) hh (.tail _ hl) hi F N ⟨fun _ _ _ => rfl, us0, e0, rfl, h0⟩ ?_ ?_
  · rintro i n t m₁ nx h tk own hn ha hoff _ ⟨hm, us, e, rfl, hP⟩ F₁ N₁
    have em : (fun z => if z = x then some (Value.int n t) else m₁ z) = fun z => if z = x then some (Value.int n t) else if z = y then m₁ y else m₀ z := by
      funext z
      by_cases h1 : z = x
      · simp [h1]
      · by_cases h2 : z = y
        · subst h2; simp [h1]
        · simp [h1, h2, hm z h1 h2]
    rw [em] at F₁
    refine wpAny_mono (turn i n t (m₁ y) us e h tk own hn hP hoff F₁ N₁) (fun f s₂ p => ?_) fun _ _ e => e
    have up : InvEndN h₀ env.locals (fun m' nx => (∀ z, z ≠ x → z ≠ y → m' z = m₀ z) ∧ Chg (P (i + 1)) le rest nx) own (le :: rest.map (·.1)) { s with heap := h, toks := tk } s₂ →
        InvEndN h₀ env.locals (fun m' nx => (l, W.listOf vs.toArray nn) ∈ nx ∧ (∀ z, z ≠ x → z ≠ y → m' z = m₀ z) ∧ Chg (P (i + 1)) le rest nx) own (le :: rest.map (·.1)) { s with heap := h, toks := tk } s₂ := by
      rintro ⟨h', tk', m', news', nx', e', F', N', hn', ho', ha', hm', us', e2, rfl, hP'⟩
      exact ⟨h', tk', m', news', _, e', F', N', hn', ho', ha', .tail _ hl, hm', us', e2, rfl, hP'⟩
    cases f with
    | ret v => exact p
    | brk => exact p
    | next => exact up p
    | cont => exact up p
  · rintro m₁ nx h tk _ ⟨hm, us, e, rfl, hP⟩ F₁ N₁
    rw [ext m₁ hm] at F₁
    exact done _ _ us e h tk hP F₁ N₁
theorem Chg.end {P : List Value → Prop} {le L : Addr} {x y : Str} {rest own : List (Addr × Obj)} {m₀ m' : Str → Option Value} {us : List Value} {e : Nat} {h' : Heap} {tk : Nat} {s₁ : Shared} {Q : Flow → Shared → Prop} (F : Fr h₀ L h' m') (N : News h₀ L h' ((le, W.listOf (List.toArray us) e) :: (rest ++ own))) (hm : ∀ z, z ≠ x → z ≠ y → m' z = m₀ z) (hP : P us) :
    LedPost2 h₀ L x y m₀ (Chg P le rest) own (le :: rest.map (·.1)) s₁ Q .next { s₁ with heap := h', toks := tk } :=
  InvEnd.c1 (nx := rest) F N ⟨hm, us, e, rfl, hP⟩ rfl
end
end Mine
end
section
open PySem PySem.W PyProof.Rows PySem.Spec PySem.Calls
set_option Elab.async false
set_option maxRecDepth 100000
set_option maxHeartbeats 0
namespace Mine
local macro_rules | `(tactic| k_room) => `(tactic| ktr_room)
local macro_rules | `(tactic| k_units) => `(tactic| ktr_units)
local macro_rules | `(tactic| k_all) => `(tactic| assumption)
local macro_rules | `(tactic| walk_at "LedPost2") => `(tactic| ((with_reducible show LedPost2 _ _ _ _ _ _ _ _ _ _ _ _); refine Halt.go ?_))
local macro_rules | `(tactic| walk_at "pyIter ref") => `(tactic| ((with_reducible show wpAny _ _ (pyIter (Value.ref _)) _ _ _); refine Halt.go ?_))
local macro_rules | `(tactic| walk_at "exec For Name Name cons nil") => `(tactic| (k_here; (rename Fr _ _ _ _ => lF'); (with_unfolding_all refine' For_invVF lF' ?k1 ?k2 ?_; (case k1 => exact rfl); (case k2 => exact rfl); k_whole)))
local macro_rules | `(tactic| walk_at "loadName") => `(tactic| (k_here; k_dflt (refine' ldnCN ?N ?c ?m ?d ?_ ?x1 ?x2; (case N => k_asm); (case c => rfl); (case m => k_mem); (case d => k_asm); (case x1 => rfl); (case x2 => rfl); k_whole)))
def spotL : List Int := (List.range 26).map fun p => toI (XP p)
def reachL (U : List Nat) : List Int := (List.range 26).map fun p => (reachN XP U p : Int)
def natL (l : List Nat) : List Int := l.map Int.ofNat
def powL : List Int := (expT.take 255).map Int.ofNat
theorem at_row {row : List B} {p : Nat} (h : p < row.length) : (row.map toI)[((p : Int)).toNat]? = some (toI (row.getD p 0#8)) := by
  rw [Int.toNat_natCast, List.getElem?_map, List.getElem?_eq_getElem h, List.getD_eq_getElem?_getD, List.getElem?_eq_getElem h]
  rfl
theorem at_spot {p : Nat} (h : p < 26) : spotL[((p : Int)).toNat]? = some (toI (XP p)) := by
  unfold spotL
  rw [Int.toNat_natCast, List.getElem?_map, List.getElem?_range h]
  rfl
theorem at_reach {U : List Nat} {p : Nat} (h : p < 26) : (reachL U)[((p : Int)).toNat]? = some (reachN XP U p : Int) := by
  unfold reachL
  rw [Int.toNat_natCast, List.getElem?_map, List.getElem?_range h]
  rfl
theorem toI_lo (b : B) : 0 ≤ toI b := Int.natCast_nonneg _
theorem toI_hi (b : B) : toI b < 256 := by unfold toI; have := b.isLt; omega
theorem at_log (b : B) : logL[(toI b).toNat]? = some (L b : Int) := logL_get (toI_lo b) (toI_hi b)
theorem at_pow (k : Int) : powL[(k.fmod 255).toNat]? = some (toI (EZ k)) := by
  have h1 := fmod_lo k (n := 255) (by decide)
  have h2 := fmod_hi k (n := 255) (by decide)
  have h3 := expL_get h1 h2
  unfold powL
  rw [List.map_take, List.getElem?_take, if_pos (by omega)]
  show expL[(k.fmod 255).toNat]? = _
  rw [h3, expI_fmod, expI_toI]
theorem big_lo {k : Int} (h : k < 2 ^ 20) : k < 2 ^ 63 := Int.lt_trans h (by decide)
theorem item_at {prog : Program} {w : World} {A : Around} {E : Value → Shared → Prop} {s : Shared} {h₀ : Heap} {L l : Addr} {news : List (Addr × Obj)} {vs : List Value} {ns : List Int} {e : Nat} {value slice : PySem.Expr} {k x : Int} {u : Tok} {Q : Value → Shared → Prop}
    (N : News h₀ L s.heap news) (hm : (l, W.listOf (List.toArray vs) e) ∈ news) (hi : IntsAre vs ns) (hx : ns[k.toNat]? = some x) (h0 : 0 ≤ k) (hhi : k < 2 ^ 20) (h : ∀ t, Q (.int x t) s)
    (hs : subscripted slice false (.ref l) (.int k u) = operate [.ref l, .int k u] (getItem (.ref l) (.int k u)) := by with_unfolding_all rfl) :
    wpAny (model prog w) A (subscriptTail value slice (.ref l) (.int k u)) Q E s := by
  have hl : s.heap.IsList l (List.toArray vs) := ⟨_, (N _ hm).1, rfl, _, rfl⟩
  obtain ⟨t, ht⟩ := hi.get k.toNat x hx
  exact tail_any hl.typeIs slot_list_getitem.lookup (wpAny_getItem_list hl h0 (big_lo hhi) (by simpa using ht) (h t)) hs
theorem xor_K {prog : Program} {w : World} {A : Around} {E : Value → Shared → Prop} {s : Shared} {a b : B} {t u : Tok} {Q : Value → Shared → Prop} (h : Q (.int (toI (a ^^^ b)) s.toks) { s with toks := s.toks + 1 }) : wpAny (model prog w) A (binaryOp .BitXor (.int (toI a) t) (.int (toI b) u)) Q E s :=
  xor_int (by rw [bitXor_toI]; exact h)
theorem ixor_K {prog : Program} {w : World} {A : Around} {E : Value → Shared → Prop} {s : Shared} {a b : B} {t u : Tok} {Q : Value → Shared → Prop} (h : Q (.int (toI (a ^^^ b)) s.toks) { s with toks := s.toks + 1 }) : wpAny (model prog w) A (inplaceOp .BitXor (.int (toI a) t) (.int (toI b) u)) Q E s :=
  ixor_int (by rw [bitXor_toI]; exact h)
local macro_rules | `(tactic| walk_at "binaryOp BitXor int int") => `(tactic| (k_here; (with_reducible show wpAny _ _ (binaryOp Operator.BitXor (Value.int (toI _) _) (Value.int (toI _) _)) _ _ _); (refine xor_K ?_)))
local macro_rules | `(tactic| walk_at "inplaceOp BitXor int int") => `(tactic| (k_here; (with_reducible show wpAny _ _ (inplaceOp Operator.BitXor (Value.int (toI _) _) (Value.int (toI _) _)) _ _ _); (refine ixor_K ?_)))
local macro_rules | `(tactic| walk_at "subscriptTail Name Name ref int") => `(tactic| (k_here; (with_reducible show wpAny _ _ (subscriptTail _ _ (Value.ref _) (Value.int _ _)) _ _ _); k_dflt (refine' item_at ?N ?m ?i ?x ?a ?b ?_ ?s; (case N => k_asm); (case m => repeat (first | exact List.Mem.head _ | refine List.Mem.tail _ ?_)); (case i => with_reducible assumption); (case x => first | exact at_row (by omega) | exact at_spot (by omega) | exact at_reach (by omega) | exact at_log _ | exact at_pow _); (case a => first | omega | exact toI_lo _ | exact fmod_lo _ (by decide)); (case b => first | omega | exact Int.lt_trans (toI_hi _) (by decide) | exact Int.lt_trans (fmod_hi _ (by decide)) (by decide)); (case s => with_unfolding_all rfl); k_whole); intro _))
local macro_rules | `(tactic| walk_at "subscriptTail Name Subscript ref int") => `(tactic| (k_here; (with_reducible show wpAny _ _ (subscriptTail _ _ (Value.ref _) (Value.int _ _)) _ _ _); k_dflt (refine' item_at ?N ?m ?i ?x ?a ?b ?_ ?s; (case N => k_asm); (case m => repeat (first | exact List.Mem.head _ | refine List.Mem.tail _ ?_)); (case i => with_reducible assumption); (case x => first | exact at_row (by omega) | exact at_spot (by omega) | exact at_reach (by omega) | exact at_log _ | exact at_pow _); (case a => first | omega | exact toI_lo _ | exact fmod_lo _ (by decide)); (case b => first | omega | exact Int.lt_trans (toI_hi _) (by decide) | exact Int.lt_trans (fmod_hi _ (by decide)) (by decide)); (case s => with_unfolding_all rfl); k_whole); intro _))
local macro_rules | `(tactic| walk_at "subscriptTail Name BinOp ref int") => `(tactic| (k_here; (with_reducible show wpAny _ _ (subscriptTail _ _ (Value.ref _) (Value.int _ _)) _ _ _); k_dflt (refine' item_at ?N ?m ?i ?x ?a ?b ?_ ?s; (case N => k_asm); (case m => repeat (first | exact List.Mem.head _ | refine List.Mem.tail _ ?_)); (case i => with_reducible assumption); (case x => first | exact at_row (by omega) | exact at_spot (by omega) | exact at_reach (by omega) | exact at_log _ | exact at_pow _); (case a => first | omega | exact toI_lo _ | exact fmod_lo _ (by decide)); (case b => first | omega | exact Int.lt_trans (toI_hi _) (by decide) | exact Int.lt_trans (fmod_hi _ (by decide)) (by decide)); (case s => with_unfolding_all rfl); k_whole); intro _))
theorem set_head {prog : Program} {w : World} {A : Around} {E : Value → Shared → Prop} {s : Shared} {h₀ : Heap} {L le : Addr} {m : Str → Option Value} {tl : List (Addr × Obj)} {us : List Value} {ns : List Int} {e : Nat} {k x : Int} {t u : Tok} {Q : Unit → Shared → Prop}
    (F : Fr h₀ L s.heap m) (N : News h₀ L s.heap ((le, W.listOf (List.toArray us) e) :: tl)) (ho : ∀ p ∈ tl, p.1 ≠ le) (hi : IntsAre us ns) (h0 : 0 ≤ k) (h1 : k < ns.length) (hfit : k < 2 ^ 20)
    (h : ∀ h', Fr h₀ L h' m → News h₀ L h' ((le, W.listOf (List.toArray (us.set k.toNat (.int x u))) e) :: tl) → IntsAre (us.set k.toNat (.int x u)) (ns.set k.toNat x) → Q () { s with heap := h' }) :
    wpAny (model prog w) A (setItem (.ref le) (.int k t) (.int x u)) Q E s :=
  ksa_set F N (.head ho) hi h0 h1 (big_lo hfit) fun h' F' N' I' _ _ => h h' F' N' I'
theorem set_val {row : List B} {U : List Nat} {p u : Nat} (hpos : 0 < toI (row.getD p 0#8)) : (row.map toI).set ((u : Int)).toNat (Builtin.bitXor ((row.map toI).getD ((u : Int)).toNat 0) (toI (EZ ((L (row.getD p 0#8) : Int) + (reachN XP U p : Int) - (L (XP p ^^^ XP u) : Int) - (reachN XP U u : Int))))) = (row.set u (row.getD u 0#8 ^^^ part XP U (row.getD p 0#8) p u)).map toI := by
  have hn : row.getD p 0#8 ≠ 0#8 := fun q => by rw [q] at hpos; exact absurd hpos (by decide)
  unfold part
  rw [if_neg hn, Int.toNat_natCast, getD_toI, bitXor_toI, List.map_set]
theorem zero_val {row : List B} {p : Nat} (h : ¬ 0 < toI (row.getD p 0#8)) : row.getD p 0#8 = 0#8 := by
  have := toI_lo (row.getD p 0#8)
  exact toI_zero.mp (by omega)
local macro_rules | `(tactic| walk_at "setItem ref int") => `(tactic| ((with_reducible show wpAny _ _ (setItem (Value.ref _) (Value.int _ _) (Value.int _ _)) _ _ _); refine Halt.go ?_))
theorem nat_at {l : List Nat} {i : Nat} {n : Int} (h : (natL l)[i]? = some n) : ∃ u, l[i]? = some u ∧ n = (u : Int) := by
  unfold natL at h
  rw [List.getElem?_map] at h
  cases hu : l[i]? with
  | none => rw [hu] at h; cases h
  | some u => rw [hu] at h; exact ⟨u, rfl, (Option.some.inj h).symm⟩
theorem body_15 : ∀ {w : World} {loose : List Str} {mean : ExcName → Option Value} {mg mb : Str → Option Value} {p : Program} {dp un : Nat} {gd : Option (List Code)} {fa : Addr} {ccd : Value} {outer : List Env} {A₀ : Around} {base h₀ : Heap} {L : Addr} {m : Str → Option Value} {s : Shared} {Q : Flow → Shared → Prop} {E : Value → Shared → Prop} {c1 c2 c3 c4 c5 c6 c7 c8 c9 rl pl xl sl kl ul ch : Addr} {o4 o5 o6 o7 o8 o9 : Obj} {vs pv xv sv kv uv cv : List Value} {e pe xe se ke ue ce rm ec st sd : Nat} {lv : Int} {tl tr : Tok} {r0 : List B},
  Below A₀ base outer h₀ → Fr h₀ L s.heap (fun y => if y = Str.ofString "reach" then some (.ref ch) else if y = Str.ofString "level" then some (.int lv tl) else if y = Str.ofString "room" then some (.int (rm : Int) tr) else m y) → (hd.heap_39 w.params).In h₀ → News h₀ L s.heap [(rl, listOf (List.toArray vs) e), (ch, listOf (List.toArray cv) ce), (435, tabObj #[]), (544, tabObj #[]), (c4, o4), (c5, o5), (c6, o6), (c7, o7), (c8, o8), (c9, o9), (pl, listOf (List.toArray pv) pe), (xl, listOf (List.toArray xv) xe), (sl, listOf (List.toArray sv) se), (kl, listOf (List.toArray kv) ke), (ul, listOf (List.toArray uv) ue)] → Top p loose mean mg mb h₀ → dp + 300 < recursionLimit → un + 3000 < cLine → PassesOwn (model PySem.Challenge.rw_bq0025_01.row.prog w) (ktrTop dp un gd (Str.ofString "law") lawS L fa ccd (lawCl c1 c2 c3 c4 c5 c6 c7 c8 c9) outer) (envX (Str.ofString "law") lawS L fa ccd (lawCl c1 c2 c3 c4 c5 c6 c7 c8 c9)) E →
  (∀ p ∈ [(ch, listOf (List.toArray cv) ce), (435, tabObj #[]), (544, tabObj #[]), (c4, o4), (c5, o5), (c6, o6), (c7, o7), (c8, o8), (c9, o9), (pl, listOf (List.toArray pv) pe), (xl, listOf (List.toArray xv) xe), (sl, listOf (List.toArray sv) se), (kl, listOf (List.toArray kv) ke), (ul, listOf (List.toArray uv) ue)], p.1 ≠ rl) →
  o4.data = .cell (some (.ref rl)) → o5.data = .cell (some (.ref pl)) → o6.data = .cell (some (.ref xl)) → o7.data = .cell (some (.ref sl)) → o8.data = .cell (some (.ref kl)) → o9.data = .cell (some (.ref ul)) →
  IntsAre vs (r0.map toI) → IntsAre pv powL → IntsAre xv logL → IntsAre sv spotL → IntsAre kv (natL (knownN rm st sd)) → IntsAre uv (natL (lackN rm st sd)) → IntsAre cv (reachL (lackN rm st sd)) →
  Lev lv rm → 26 = rm + ec → 0 < sd → sd < 23 → HeadOk rm r0 → (∀ u ∈ lackN rm st sd, r0.getD u 0#8 = 0#8) → AllBare s.gens →
  (∀ s' m' ps1 ps2, Fr h₀ L s'.heap m' → News h₀ L s'.heap [(435, tabObj ps1), (544, tabObj ps2)] → AllBare s'.gens → s'.os = s.os → Q (.ret (.bool true)) s') →
  wpAny (model PySem.Challenge.rw_bq0025_01.row.prog w) (ktrTop dp un gd (Str.ofString "law") lawS L fa ccd (lawCl c1 c2 c3 c4 c5 c6 c7 c8 c9) outer) (execs (lawB.drop 15) (envX (Str.ofString "law") lawS L fa ccd (lawCl c1 c2 c3 c4 c5 c6 c7 c8 c9))) Q E s := by
  k_with_none
  w_top off
  k_fill
  intro w loose mean mg mb p dp un gd fa ccd outer A₀ base h₀ L m s Q E c1 c2 c3 c4 c5 c6 c7 c8 c9 rl pl xl sl kl ul ch o4 o5 o6 o7 o8 o9 vs pv xv sv kv uv cv e pe xe se ke ue ce rm ec st sd lv tl tr r0 B F X N T hdp hun hE hoff d4 d5 d6 d7 d8 d9 i4 i5 i6 i7 i8 i9 i10 hlv hec hsd0 hsd1 hrow hz hbare hret
  conv in (occs := *) lawS => all_goals whnf
  conv at hE in (occs := *) lawS => all_goals whnf
  conv in (List.drop _ _) => whnf
  have hrm : Rm rm := by unfold Lev at hlv; unfold Rm; omega
  have hU : ∀ v ∈ lackN rm st sd, v < 26 := fun v hv => (lack_mem.mp hv).1
  have hKU : ∀ q ∈ knownN rm st sd, q ∉ lackN rm st sd := fun q hq h => (lack_mem.mp h).2 hq
  k_steps
  unfold Halt
  (rename Fr _ _ _ _ => F1); (rename News _ _ _ _ => N1)
  have hj : RowAt (lackN rm st sd) (knownN rm st sd) r0 r0 0 0 := RowAt.start hrow.1 hz
  refine' list_led (y := Str.ofString "p") (vs := uv) (nn := ue) (ns := natL (lackN rm st sd)) (fun i us => ∃ row, IntsAre us (row.map toI) ∧ RowAt (lackN rm st sd) (knownN rm st sd) r0 row i 0) ?hh ?hm i9 F1 N1 ?j ?turn ?done
  case hh => rfl
  case hm => repeat (first | exact List.Mem.head _ | refine List.Mem.tail _ ?_)
  case j => exact ⟨r0, i4, hj⟩
  case turn =>
    rintro i n t vy us e2 h2 tk2 own hn ⟨row, hI, hR⟩ hoff2 F2 N2
    obtain ⟨u, hu, rfl⟩ : ∃ u, (lackN rm st sd)[i]? = some u ∧ n = (u : Int) := nat_at hn
    have hu26 := hU u (List.mem_of_getElem? hu)
    have hlen := hR.1
    k_steps
    unfold Halt
    (rename Fr _ _ _ _ => F3); (rename News _ _ _ _ => N3)
    refine' list_led (y := Str.ofString "p") (vs := kv) (nn := ke) (ns := natL (knownN rm st sd)) (fun k us => ∃ row, IntsAre us (row.map toI) ∧ RowAt (lackN rm st sd) (knownN rm st sd) r0 row i k) ?hh2 ?hm2 i8 F3 N3 ?j2 ?turn2 ?done2
    case hh2 => rfl
    case hm2 => repeat (first | exact List.Mem.head _ | refine List.Mem.tail _ ?_)
    case j2 => exact ⟨row, hI, hR⟩
    case done2 =>
      rintro vx vy2 us4 e4 h4 tk4 ⟨row4, hI4, hR4⟩ F4 N4
      have hkl : (natL (knownN rm st sd)).length = (knownN rm st sd).length := by unfold natL; rw [List.length_map]
      rw [hkl] at hR4
      k_steps
      unfold Halt
      exact Chg.end F4 N4 (by intro z z1 z2; simp only [if_neg z1, if_neg z2]) ⟨row4, hI4, hR4.next⟩
    case turn2 =>
      rintro k n4 t4 vy2 us4 e4 h4 tk4 own4 hn4 ⟨row4, hI4, hR4⟩ hoff4 F4 N4
      obtain ⟨p4, hp4, rfl⟩ : ∃ u, (knownN rm st sd)[k]? = some u ∧ n4 = (u : Int) := nat_at hn4
      have hp26 := known_lt hrm (List.mem_of_getElem? hp4)
      have hlen4 := hR4.1
      have ho : ∀ p ∈ (([(ch, listOf (List.toArray cv) ce), (435, tabObj #[]), (544, tabObj #[]), (c4, o4), (c5, o5), (c6, o6), (c7, o7), (c8, o8), (c9, o9), (pl, listOf (List.toArray pv) pe), (xl, listOf (List.toArray xv) xe), (sl, listOf (List.toArray sv) se), (kl, listOf (List.toArray kv) ke), (ul, listOf (List.toArray uv) ue)] : List (Addr × Obj)) ++ own) ++ own4, p.1 ≠ rl := by
        intro q hq
        rcases List.mem_append.mp hq with hq | hq
        · rcases List.mem_append.mp hq with hq | hq
          · exact hoff q hq
          · exact hoff2.ne (.head _) q hq
        · exact hoff4.ne (.head _) q hq
      simp only [List.cons_append, List.nil_append] at N4 ho
      k_steps
      all_goals unfold Halt
      · (rename Fr _ _ _ _ => F5); (rename News _ _ _ _ => N5)
        refine set_head F5 N5 ho hI4 (by omega) (by rw [List.length_map]; omega) (by omega) ?_
        intro h6 F6 N6 I6
        rw [set_val (by assumption)] at I6
        k_steps
        unfold Halt
        exact Chg.end F6 N6 (by intro z z1 z2; simp only [if_neg z1]) ⟨_, I6, hR4.step (lack_nodup _ _ _) hU hKU hu hp4⟩
      · (rename Fr _ _ _ _ => F5); (rename News _ _ _ _ => N5)
        exact Chg.end F5 N5 (by intro z z1 z2; simp only [if_neg z1]) ⟨row4, hI4, hR4.skip (lack_nodup _ _ _) hU hKU hu hp4 (zero_val (by assumption))⟩
  case done =>
    rintro vx vy us e2 h2 tk2 ⟨row, hI, hR⟩ F2 N2
    have hll : (natL (lackN rm st sd)).length = (lackN rm st sd).length := by unfold natL; rw [List.length_map]
    rw [hll] at hR
    have hd := RowAt.done hrm hsd0 hsd1 hR
    have hk0 := hd.1 0 (by unfold knownN; simp)
    have hk1 := hd.1 1 (by unfold knownN; simp)
    have hk2 := hd.1 (rm - 1) (by unfold knownN; simp)
    have hrow2 : HeadOk rm row := ⟨hR.1, by rw [hk0]; exact hrow.2.1, by rw [hk1]; exact hrow.2.2.1, by rw [hk2]; exact hrow.2.2.2⟩
    exact body_16 B (Fr.pull (x := Str.ofString "level") (v := .int lv tl) (Fr.pull (x := Str.ofString "room") (v := .int (rm : Int) tr) F2 rfl) rfl) X (cb_drop N2 (by kcj_in)) T hdp hun d4 hI hlv hec hrow2 hd.2 hbare hret
end Mine
end
section
open PySem PySem.W PyProof.Rows PySem.Spec PySem.Calls PyProof.V PyProof.Rows.LCg PyProof.Rows.LCp
set_option Elab.async false
set_option maxRecDepth 100000
set_option maxHeartbeats 4000000
namespace Mine
abbrev cellNone : Obj := { cls := .type "cell", data := .cell none }
abbrev frameNone : Obj := { cls := .type "dict", data := .dict #[] }
section
variable {prog : Program} {w : World} {A : Around} {E : Value → Shared → Prop} {s : Shared} {h₀ : Heap} {L : Addr} {m : Str → Option Value} {env : Env}
/-- the inner scope of a comprehension whose one target is captured: a table, and behind it the target's cell -/
theorem newEnv_cell1 {scope : Scope} {globals : Addr} {cl : List (Str × Addr)} {qual : Str} {x : Str} {Q : Env → Shared → Prop} (hcs : ∀ n, cellsFrom n scope.names cl = (x, n) :: cl) (hpc : ∀ h : Heap, pushCells h scope.names = h.push cellNone)
    (hQ : Q { scope := scope, locals := s.heap.objs.size, globals := globals, cells := (x, s.heap.objs.size + 1) :: cl, qual := qual, func := none, code := env.code, frame := env.frame, builtins := env.builtins } { s with heap := (s.heap.push frameNone).push cellNone }) :
    wpAny (model prog w) A (newFunctionEnv scope globals cl [] qual none .none (some env)) Q E s := by
  simp only [newFunctionEnv, Option.isSome_some, if_true]
  refine wpAny_bind (wpAny_alloc ?_)
  refine wpAny_bind (wpAny_layCells _ (fun name kind cells => by cases hkc : kind == NameKind.cell <;> simp [hkc]) _ _ _ _ ?_)
  rw [hcs, hpc]
  refine wpAny_bind ?_
  rw [List.forIn_nil]
  refine wpAny_pure (wpAny_pure ?_)
  have e : (s.heap.push frameNone).objs.size = s.heap.objs.size + 1 := Heap.size_push ..
  show Q { scope := scope, locals := s.heap.objs.size, globals := globals, cells := (x, (s.heap.push frameNone).objs.size) :: cl, qual := qual, func := none, code := env.code, frame := env.frame, builtins := env.builtins } _
  rw [e]
  exact hQ
/-- where such a comprehension stands once its range is made -/
def CellSrc (prog : Program) (w : World) (A : Around) (h₀ : Heap) (L : Addr) (m : Str → Option Value) (env : Env) (elt : Expr) (x y : Str) (scope : Scope) (cl : List (Str × Addr)) (Q : Flow → Shared → Prop) (xv : Value) (s₁ : Shared) : Prop :=
  ∃ (r : Addr) (t u v : Tok) (n : Nat) (news : List (Addr × Obj)) (G : Nat → Value → Prop), xv = .ref r ∧ A.handled = none ∧ Fr h₀ L s₁.heap m ∧ News h₀ L s₁.heap news ∧ IsRange s₁.heap r 0 (n : Int) 1 t u v ∧ n < 2 ^ 20 ∧
    (∀ i tv oI C oC K oK D ys h tk (E' : Value → Shared → Prop), i < n → oK.data = .cell (some (.int (i : Int) tv)) → Fr h₀ L h m → (∀ p ∈ news, @LT.lt Nat _ p.1 D) → @LT.lt Nat _ D C → @LT.lt Nat _ C K →
      News h₀ L h ((K, oK) :: (C, oC) :: (D, lst ys) :: (s₁.heap.objs.size, oI) :: news) →
      wpAny (model prog w) A (eval elt (compEnvC scope ((x, K) :: cl) C env)) (ElPost h₀ L m ((K, oK) :: (C, oC) :: (D, lst ys) :: (s₁.heap.objs.size, oI) :: news) { s₁ with heap := h, toks := tk } (G i)) E' { s₁ with heap := h, toks := tk }) ∧
    (∀ D h tk ys, ys.length = n → (∀ i y, ys[i]? = some y → G i y) → Fr h₀ L h (fun z => if z = y then some (.ref D) else m z) → News h₀ L h ((D, lst ys) :: news) → (∀ p ∈ news, @LT.lt Nat _ p.1 D) → Q .next { s₁ with heap := h, toks := tk })
theorem Assign_ListComp_C {elt iter : Expr} {x y : Str} {px py : Pos} {scope : Scope} {cl : List (Str × Addr)} {pos spos : Pos} {Q : Flow → Shared → Prop} (_F₀ : Fr h₀ L s.heap m) (hLe : env.locals = L)
    (hsw : swapsWith (.ListComp elt [⟨.Name x px, iter, [], 0⟩] scope pos) (some (.Name y py)) spos.line env = pure true)
    (hclos : closureFor scope env = pure cl) (hcs : ∀ n, cellsFrom n scope.names cl = (x, n) :: cl) (hpc : ∀ h : Heap, pushCells h scope.names = h.push cellNone) (hkind : scope.kind = .function)
    (hnames : ∀ z ∈ scope.names, z.2 = .local → scope.names.lookup z.1 = some .local) (hx : ∀ cl' C, (compEnvC scope cl' C env).kindOf x = some .cell)
    (hy : env.kindOf y = some .local) (hp : (env.scope.kind == .class || (env.scope.kind == .module && env.locals != env.globals)) = false)
    (h : wpAny (model prog w) A (eval iter env) (CellSrc prog w A h₀ L m env elt x y scope cl Q) E s)
    (hs : ∀ x, foldedSetIterable iter env x = pure x := by intro _; rfl) :
    wpAny (model prog w) A (exec (.Assign [.Name y py] (.ListComp elt [⟨.Name x px, iter, [], 0⟩] scope pos) spos) env) Q E s := by
  subst hLe
  rw [exec_Assign_Name_used _ _ _ _ hsw]
  refine wpAny_bind (wpAny_standAt (wpAny_bind ?_))
  show wpAny _ A (do let _ ← comprehension (.ListComp elt [⟨.Name x px, iter, [], 0⟩] scope pos) scope env _ (newList []) false (eval iter env) (some (assign (.Name y py) env))) _ _ s
  refine wpAny_bind (wpAny_mono (wpAny_comprehension_free (use := some (assign (.Name y py) env)) (Q := fun _ s' => Q .next s') rfl hs hclos hkind hnames
    (wpAny_mono h (fun xv s₁ h₁ => ?_) fun _ _ e => e)) (fun _ s' hq => wpAny_pure (wpAny_pure hq)) fun _ _ e => e)
  obtain ⟨r, t, u, v, n, news, G, rfl, hh, F, N, hr, hnb, turn, done⟩ := h₁
  have hrs : Builtin.Range.rangeSize 0 (n : Int) 1 = (n : Int) := by simpa using rangeSize_nat (0 : Int) n
  have hsm : Builtin.Range.small 0 (n : Int) 1 = true := small_one (by omega) (by omega) (by omega) (by omega)
  refine wpAny_pyIter_range hr hsm ?_
  refine wpAny_newObj_type (newEnv_cell1 hcs hpc ?_)
  dsimp only
  rw [hrs]
  -- the four new places
  generalize hI : s₁.heap.objs.size = I at turn ⊢
  generalize hH1 : s₁.heap.push { cls := .type "range_iterator", dict := none, data := .fields #[rawInt 0, rawInt (n : Int), rawInt 1], slots := #[] } = H1
  have z1 : H1.objs.size = I + 1 := by rw [← hH1, Heap.size_push, hI]
  have k1 : ∀ b o, s₁.heap.get? b = some o → H1.get? b = some o := fun b o e => by rw [← hH1]; exact Heap.get?_push_of_some _ e
  have g1 : IsRangeIter H1 I 0 (n : Int) 1 := by rw [← hH1, ← hI]; exact Heap.get?_push_size _ rfl
  generalize hH2 : H1.push { cls := .type "list", dict := none, data := .seq ([] : List Value).toArray } = H2
  have z2 : H2.objs.size = I + 2 := by rw [← hH2, Heap.size_push, z1]
  have k2 : ∀ b o, H1.get? b = some o → H2.get? b = some o := fun b o e => by rw [← hH2]; exact Heap.get?_push_of_some _ e
  have g2 : H2.get? (I + 1) = some (lst []) := by rw [← hH2, ← z1]; exact Heap.get?_push_size _ rfl
  generalize hH3 : H2.push frameNone = H3
  have z3 : H3.objs.size = I + 3 := by rw [← hH3, Heap.size_push, z2]
  have k3 : ∀ b o, H2.get? b = some o → H3.get? b = some o := fun b o e => by rw [← hH3]; exact Heap.get?_push_of_some _ e
  have g3 : H3.Ns (I + 2) (fun _ => none) := by rw [← hH3, ← z2]; exact Heap.Ns.new H2 (.type "dict")
  generalize hH4 : H3.push cellNone = H4
  have k4 : ∀ b o, H3.get? b = some o → H4.get? b = some o := fun b o e => by rw [← hH4]; exact Heap.get?_push_of_some _ e
  have g4 : H4.IsCell (I + 3) none := ⟨_, by rw [← hH4, ← z3]; exact Heap.get?_push_size _ rfl, rfl⟩
  have kk : ∀ b o, s₁.heap.get? b = some o → H4.get? b = some o := fun b o e => k4 _ _ (k3 _ _ (k2 _ _ (k1 _ _ e)))
  rw [z1, z2]
  have lt0 : ∀ b o, s₁.heap.get? b = some o → @LT.lt Nat _ b I := fun b o e => by rw [← hI]; exact Heap.lt_size e
  have fresh₀ : ∀ b, @LE.le Nat _ I b → h₀.get? b = none := fun b hb => by
    cases e : h₀.get? b with
    | none => rfl
    | some o => exact absurd (lt0 b o (F.keep b o e)) (Nat.not_lt.mpr hb)
  have hLI : @LT.lt Nat _ env.locals I := by have := F.ns.lt; rw [hI] at this; exact this
  have ltN : ∀ p ∈ news, @LT.lt Nat _ p.1 I := fun p hp => lt0 _ _ (N p hp).1
  have nL : ∀ b, @LE.le Nat _ I b → b ≠ env.locals := fun b hb q => by rw [q] at hb; exact absurd hLI (Nat.not_lt.mpr hb)
  have W := range_walks (prog := prog) (w := w) (A := A) (I := I) hh 0 n
  have N0 : News h₀ env.locals H4 news := fun p hp => ⟨kk _ _ (N p hp).1, (N p hp).2⟩
  have F0 : Fr h₀ env.locals H4 m := F.keeps kk
  have loop : ∀ s₃ : Shared, s₃ = { s₁ with heap := H4 } →
      codeAny (model prog w) A (.compLoop (.ListComp elt [⟨.Name x px, iter, [], 0⟩] scope pos) 0 (.ref I) (.ref (I + 1)) (compEnvC scope ((x, I + 2 + 1) :: cl) (I + 2) env))
        (compPost (model prog w) A E (some (assign (.Name y py) env)) (fun _ s' => Q .next s') (.ref (I + 1)) (I + 2)) s₃ := by
    rintro s₃ rfl
    refine codeAny_compLoop_tests
      (fun k s' => ∃ h' tk i ys m' v0, s' = { s₁ with heap := h', toks := tk } ∧ i ≤ n ∧ k = n + 1 - i ∧ ys.length = i ∧ IsRangeIter h' I (0 + (i : Nat) * 1) ((n : Int) - (i : Nat)) 1 ∧ Fr h₀ env.locals h' m ∧ h'.Ns (I + 2) m' ∧ h'.IsCell (I + 3) v0 ∧ News h₀ env.locals h' ((I + 1, lst ys) :: news) ∧
        ∀ j y, ys[j]? = some y → G j y) ?_ (n + 1)
      ⟨H4, _, 0, [], _, _, rfl, Nat.zero_le _, rfl, rfl, ?_, F0, g3.keeps k4, g4, List.forall_mem_cons.mpr ⟨⟨k4 _ _ (k3 _ _ g2), nL _ (Nat.le_succ _), fresh₀ _ (Nat.le_succ _)⟩, N0⟩, fun j y e => by simp at e⟩
    · rintro k s' ⟨h', tk, i, ys, m', v0, rfl, hi, rfl, hyl, hst', F', hn', hc', N', hG⟩
      have N'' : News h₀ env.locals h' news := fun p hp => N' p (.tail _ hp)
      by_cases hlt : i < n
      · refine W.item i _ _ _ hlt hst' fun v h₂ tk₂ hPv hst₂ hk₂ => ?_
        obtain ⟨tv, rfl⟩ := hPv
        rw [Int.zero_add]
        have c2 : h₂.IsCell (I + 3) v0 := by obtain ⟨o, ho, hd⟩ := hc'; exact ⟨o, hk₂ _ _ (by simp) ho, hd⟩
        refine wpAny_assign_Name (wpAny_storeName_cell (by exact hkind) (hx _ _) (c := I + 3) (by exact List.lookup_cons_self) c2 fun h₃ hc₃ hs₃ => ?_)
        refine wpAny_tests_nil ?_
        simp only [if_true]
        obtain ⟨oK, heK, hoK⟩ := hc₃
        have k23 : ∀ b o, b ≠ I → b ≠ I + 3 → h'.get? b = some o → h₃.get? b = some o := fun b o hb hb2 e => hs₃.extBut b o hb2 (hk₂ b o (by simpa using hb) e)
        have hst₃ : IsRangeIter h₃ I (0 + ((i + 1 : Nat) : Nat) * 1) ((n : Int) - ((i + 1 : Nat) : Nat)) 1 := hs₃.extBut _ _ (by k_ne) hst₂
        have n₃ : h₃.Ns (I + 2) m' := hn'.at' fun o e => k23 _ _ (by omega) (by omega) e
        obtain ⟨oC, heC, hoC⟩ := ns_obj n₃
        have F₃ : Fr h₀ env.locals h₃ m := ⟨F'.ns.at' fun o e => k23 _ _ (fun q => nL I (Nat.le_refl _) q.symm) (fun q => nL (I + 3) (by omega) q.symm) e, fun b o e => k23 b o (fun q => by rw [q, fresh₀ I (Nat.le_refl _)] at e; cases e) (fun q => by rw [q, fresh₀ (I + 3) (by omega)] at e; cases e) (F'.keep b o e), F'.above⟩
        have N₃ : News h₀ env.locals h₃ ((I + 3, oK) :: (I + 2, oC) :: (I + 1, lst ys) :: (I, { cls := .type "range_iterator", dict := none, data := .fields #[rawInt (0 + ((i + 1 : Nat) : Nat) * 1), rawInt ((n : Int) - ((i + 1 : Nat) : Nat)), rawInt 1], slots := #[] }) :: news) := by
          refine List.forall_mem_cons.mpr ⟨⟨heK, nL _ (by omega), fresh₀ _ (by omega)⟩, List.forall_mem_cons.mpr ⟨⟨heC, nL _ (by omega), fresh₀ _ (by omega)⟩, List.forall_mem_cons.mpr ⟨⟨k23 _ _ (by omega) (by omega) (N' _ (.head _)).1, nL _ (by omega), fresh₀ _ (by omega)⟩, List.forall_mem_cons.mpr ⟨⟨hst₃, nL _ (Nat.le_refl _), fresh₀ _ (Nat.le_refl _)⟩, fun p hp => ?_⟩⟩⟩⟩
          have l := ltN p hp
          exact ⟨k23 _ _ (by omega) (by omega) (N'' p hp).1, (N'' p hp).2⟩
        refine wpAny_mono (turn i tv _ (I + 2) oC (I + 3) oK (I + 1) ys h₃ _ _ hlt hoK F₃ (fun p hp => by have l := ltN p hp; omega) (by omega) (by omega) N₃) (fun y s₄ q => ?_) fun _ _ e => e
        obtain ⟨h₇, tk₇, rfl, F₇, N₇, gy⟩ := q
        have eK := (N₇ _ (.head _)).1
        have eC := (N₇ _ (.tail _ (.head _))).1
        have eD := (N₇ _ (.tail _ (.tail _ (.head _)))).1
        have eI := (N₇ _ (.tail _ (.tail _ (.tail _ (.head _))))).1
        refine append_at (hsz := by show ys.toArray.size ≤ sizeLine; rw [List.size_toArray, hyl, sizeLine_eq]; omega) eD fun h₈ hs₈ hD₈ => ?_
        refine ⟨n + 1 - (i + 1), by omega, h₈, tk₇, i + 1, ys ++ [y], _, _, rfl, hlt, rfl, by rw [List.length_append, List.length_singleton, hyl], hs₈.extBut _ _ (by k_ne) eI, F₇.change hs₈ (nL _ (by omega)) (fresh₀ _ (by omega)),
          (hoC.ns eC).sameBut hs₈ (by k_ne), ⟨oK, hs₈.extBut _ _ (by k_ne) eK, hoK⟩, List.forall_mem_cons.mpr ⟨⟨hD₈.trans (congrArg some (lst_snoc ys y)), nL _ (by omega), fresh₀ _ (by omega)⟩, fun p hp => ?_⟩, fun j y' e => ?_⟩
        · have l := ltN p hp
          have zz := N₇ p (.tail _ (.tail _ (.tail _ (.tail _ hp))))
          exact ⟨hs₈.extBut _ _ (by k_ne) zz.1, zz.2⟩
        · rcases Nat.lt_or_ge j ys.length with hj | hj
          · rw [List.getElem?_append_left hj] at e; exact hG j y' e
          · rw [List.getElem?_append_right hj] at e
            have : j - ys.length = 0 := by
              rcases Nat.eq_zero_or_pos (j - ys.length) with h0 | h0
              · exact h0
              · rw [List.getElem?_eq_none (by rw [List.length_singleton]; exact h0)] at e; cases e
            rw [this] at e
            simp only [List.getElem?_cons_zero, Option.some.injEq] at e
            subst e
            have : j = i := by omega
            subst this
            exact gy
      · obtain rfl : i = n := Nat.le_antisymm hi (Nat.not_lt.mp hlt)
        refine W.done _ _ _ hst' fun h₂ tk₂ hk₂ => ?_
        have kI : ∀ b o, b ≠ I → h'.get? b = some o → h₂.get? b = some o := fun b o hb e => hk₂ b o (by simpa using hb) e
        have F₂ : Fr h₀ env.locals h₂ m := ⟨F'.ns.at' fun o e => kI _ _ (fun q => nL I (Nat.le_refl _) q.symm) e, fun b o e => kI b o (fun q => by rw [q, fresh₀ I (Nat.le_refl _)] at e; cases e) (F'.keep b o e), F'.above⟩
        have N₂ : News h₀ env.locals h₂ ((I + 1, lst ys) :: news) := fun p hp => ⟨kI _ _ (by
          rcases List.mem_cons.mp hp with rfl | hp
          · show I + 1 ≠ I; omega
          · have l := ltN p hp; omega) (N' p hp).1, (N' p hp).2⟩
        have n₂ : h₂.Ns (I + 2) m' := hn'.at' fun o e => kI _ _ (by omega) e
        show wpAny _ A (assign (.Name y py) env (.ref (I + 1))) _ _ _
        refine wpAny_assign_Name (wpAny_storeName_local hy F₂.ns (fun h₅ hn₅ hs₅ => ?_) hp)
        have hL₀ : h₀.get? env.locals = none := Heap.get?_none_of_le F₂.above
        have F₅ : Fr h₀ env.locals h₅ (fun z => if z = y then some (.ref (I + 1)) else m z) := ⟨hn₅, fun b o e => hs₅.extBut b o (fun q => by rw [q, hL₀] at e; cases e) (F₂.keep b o e), F₂.above⟩
        refine ⟨m', n₂.sameBut hs₅ (nL _ (by omega)), fun h₆ hs₆ => done (I + 1) h₆ _ ys hyl hG (F₅.change hs₆ (nL _ (by omega)) (fresh₀ _ (by omega))) (fun p hp => ?_) (fun p hp => by have l := ltN p hp; omega)⟩
        have z : h₅.get? p.1 = some p.2 := hs₅.extBut _ _ (N₂ p hp).2.1 (N₂ p hp).1
        refine ⟨hs₆.extBut _ _ ?_ z, (N₂ p hp).2⟩
        rcases List.mem_cons.mp hp with rfl | hp
        · show I + 1 ≠ I + 2; omega
        · have l := ltN p hp; k_ne
    · show IsRangeIter H4 I (0 + ((0 : Nat) : Nat) * 1) ((n : Int) - ((0 : Nat) : Nat)) 1
      simpa using k4 _ _ (k3 _ _ (k2 _ _ g1))
  have hst4 : IsRangeIter H4 I (0 + ((0 : Nat) : Nat) * 1) ((n : Int) - ((0 : Nat) : Nat)) 1 := by simpa using k4 _ _ (k3 _ _ (k2 _ _ g1))
  exact codeAny_compStart_list (loop _ rfl) (W.self 0 _ _ _ hst4 (loop _ rfl))
end
end Mine
end
section
open PySem PySem.W PyProof.Rows PySem.Spec PySem.Calls
set_option Elab.async false
set_option maxRecDepth 100000
set_option maxHeartbeats 0
namespace Mine
local macro_rules | `(tactic| k_room) => `(tactic| ktr_room)
local macro_rules | `(tactic| k_units) => `(tactic| ktr_units)
local macro_rules | `(tactic| k_all) => `(tactic| assumption)
local macro_rules | `(tactic| walk_at "loadName") => `(tactic| (k_here; k_dflt (refine' ldnCN ?N ?c ?m ?d ?_ ?x1 ?x2; (case N => k_asm); (case c => rfl); (case m => k_mem); (case d => k_asm); (case x1 => rfl); (case x2 => rfl); k_whole)))
local macro_rules | `(tactic| walk_at "binaryOp BitXor int int") => `(tactic| (k_here; (with_reducible show wpAny _ _ (binaryOp Operator.BitXor (Value.int (toI _) _) (Value.int (toI _) _)) _ _ _); (refine xor_K ?_)))
local macro_rules | `(tactic| walk_at "inplaceOp BitXor int int") => `(tactic| (k_here; (with_reducible show wpAny _ _ (inplaceOp Operator.BitXor (Value.int (toI _) _) (Value.int (toI _) _)) _ _ _); (refine ixor_K ?_)))
local macro_rules | `(tactic| walk_at "subscriptTail Name Name ref int") => `(tactic| (k_here; (with_reducible show wpAny _ _ (subscriptTail _ _ (Value.ref _) (Value.int _ _)) _ _ _); k_dflt (refine' item_at ?N ?m ?i ?x ?a ?b ?_ ?s; (case N => k_asm); (case m => repeat (first | exact List.Mem.head _ | refine List.Mem.tail _ ?_)); (case i => with_reducible assumption); (case x => first | exact at_row (by omega) | exact at_spot (by omega) | exact at_reach (by omega) | exact at_log _ | exact at_pow _); (case a => first | omega | exact toI_lo _ | exact fmod_lo _ (by decide)); (case b => first | omega | exact Int.lt_trans (toI_hi _) (by decide) | exact Int.lt_trans (fmod_hi _ (by decide)) (by decide)); (case s => with_unfolding_all rfl); k_whole); intro _))
local macro_rules | `(tactic| walk_at "subscriptTail Name Subscript ref int") => `(tactic| (k_here; (with_reducible show wpAny _ _ (subscriptTail _ _ (Value.ref _) (Value.int _ _)) _ _ _); k_dflt (refine' item_at ?N ?m ?i ?x ?a ?b ?_ ?s; (case N => k_asm); (case m => repeat (first | exact List.Mem.head _ | refine List.Mem.tail _ ?_)); (case i => with_reducible assumption); (case x => first | exact at_row (by omega) | exact at_spot (by omega) | exact at_reach (by omega) | exact at_log _ | exact at_pow _); (case a => first | omega | exact toI_lo _ | exact fmod_lo _ (by decide)); (case b => first | omega | exact Int.lt_trans (toI_hi _) (by decide) | exact Int.lt_trans (fmod_hi _ (by decide)) (by decide)); (case s => with_unfolding_all rfl); k_whole); intro _))
local macro_rules | `(tactic| walk_at "subscriptTail Name BinOp ref int") => `(tactic| (k_here; (with_reducible show wpAny _ _ (subscriptTail _ _ (Value.ref _) (Value.int _ _)) _ _ _); k_dflt (refine' item_at ?N ?m ?i ?x ?a ?b ?_ ?s; (case N => k_asm); (case m => repeat (first | exact List.Mem.head _ | refine List.Mem.tail _ ?_)); (case i => with_reducible assumption); (case x => first | exact at_row (by omega) | exact at_spot (by omega) | exact at_reach (by omega) | exact at_log _ | exact at_pow _); (case a => first | omega | exact toI_lo _ | exact fmod_lo _ (by decide)); (case b => first | omega | exact Int.lt_trans (toI_hi _) (by decide) | exact Int.lt_trans (fmod_hi _ (by decide)) (by decide)); (case s => with_unfolding_all rfl); k_whole); intro _))
local macro_rules | `(tactic| walk_at "exec Assign cons ListComp") => `(tactic| ((with_reducible show wpAny _ _ (exec (Stmt.Assign _ (PySem.Expr.ListComp _ _ _ _) _) _) _ _ _); refine Halt.go ?_))
local macro_rules | `(tactic| walk_at "eval ListComp") => `(tactic| ((with_reducible show wpAny _ _ (eval (PySem.Expr.ListComp _ _ _ _) _) _ _ _); refine Halt.go ?_))
local macro_rules | `(tactic| walk_at "CompSrcT") => `(tactic| ((with_reducible show LCt.CompSrcT _ _ _ _ _ _ _ _ _ _ _ _ _ _ _); refine Halt.go ?_))
local macro_rules | `(tactic| walk_at "CellSrc") => `(tactic| ((with_reducible show CellSrc _ _ _ _ _ _ _ _ _ _ _ _ _ _ _); refine Halt.go ?_))
theorem reach_ints {U : List Nat} {ys : List Value} (hl : ys.length = 26) (h : ∀ i y, ys[i]? = some y → ∃ t, y = Value.int (reachN XP U i : Int) t) : IntsAre ys (reachL U) := by
  have key : ∀ (n : Nat) (ys : List Value), ys.length = n → (∀ i y, ys[i]? = some y → ∃ t, y = Value.int (reachN XP U (26 - n + i) : Int) t) → n ≤ 26 → IntsAre ys ((List.range n).map fun p => (reachN XP U (26 - n + p) : Int)) := by
    intro n
    induction n with
    | zero =>
      intro ys hl _ _
      rw [List.length_eq_zero_iff.mp hl]
      exact .nil
    | succ n ih =>
      intro ys hl h hn
      cases ys with
      | nil => cases hl
      | cons y r =>
        obtain ⟨t, e⟩ := h 0 y rfl
        subst e
        rw [List.range_succ_eq_map, List.map_cons, List.map_map]
        refine .cons _ t ?_
        have q := ih r (by simpa using hl) (fun i y e => ?_) (by omega)
        · have e : ((fun p => (reachN XP U (26 - (n + 1) + p) : Int)) ∘ Nat.succ) = fun p => (reachN XP U (26 - n + p) : Int) := by
            funext p
            show (reachN XP U (26 - (n + 1) + (p + 1)) : Int) = _
            rw [show 26 - (n + 1) + (p + 1) = 26 - n + p by omega]
          rw [e]; exact q
        · obtain ⟨t, q⟩ := h (i + 1) y e
          rw [show 26 - (n + 1) + (i + 1) = 26 - n + i by omega] at q
          exact ⟨t, q⟩
  have q := key 26 ys hl (fun i y e => by rw [Nat.sub_self, Nat.zero_add]; exact h i y e) (Nat.le_refl _)
  unfold reachL
  simpa using q
theorem nat_mem {l : List Nat} {n : Int} (h : n ∈ natL l) : ∃ u, u ∈ l ∧ n = (u : Int) := by
  obtain ⟨u, hu, e⟩ := List.mem_map.mp h
  exact ⟨u, hu, e.symm⟩
theorem inner_fold (i : Nat) : ∀ (U : List Nat) (l : List Int), (natL U).foldl (fun l k => if k = (i : Int) then l else l ++ [(Mine.L (XP i ^^^ XP k.toNat) : Int)]) l = l ++ (U.filter (· != i)).map fun v => (Mine.L (XP i ^^^ XP v) : Int)
  | [], l => by simp [natL]
  | u :: U, l => by
    show (natL U).foldl _ (if (u : Int) = (i : Int) then l else l ++ [(Mine.L (XP i ^^^ XP (u : Int).toNat) : Int)]) = _
    rw [inner_fold i U, Int.toNat_natCast, List.filter_cons]
    by_cases h : u = i
    · subst h
      simp
    · rw [if_neg (by omega), if_pos (by simpa using h), List.map_cons, List.append_assoc]
      rfl
theorem cast_sum : ∀ l : List Nat, (l.map fun v : Nat => (v : Int)).sum = (l.sum : Int)
  | [] => rfl
  | v :: l => by rw [List.map_cons, List.sum_cons, List.sum_cons, cast_sum l, Int.natCast_add]
theorem inner_sum {U : List Nat} {i : Nat} : ((natL U).foldl (fun l k => if k = (i : Int) then l else l ++ [(Mine.L (XP i ^^^ XP k.toNat) : Int)]) []).sum = (reachN XP U i : Int) := by
  rw [inner_fold, List.nil_append]
  unfold reachN
  rw [← cast_sum, List.map_map]
  rfl
theorem body_14 : ∀ {w : World} {loose : List Str} {mean : ExcName → Option Value} {mg mb : Str → Option Value} {p : Program} {dp un : Nat} {gd : Option (List Code)} {fa : Addr} {ccd : Value} {outer : List Env} {A₀ : Around} {base h₀ : Heap} {L : Addr} {m : Str → Option Value} {s : Shared} {Q : Flow → Shared → Prop} {E : Value → Shared → Prop} {c1 c2 c3 c4 c5 c6 c7 c8 c9 rl pl xl sl kl ul : Addr} {o4 o5 o6 o7 o8 o9 : Obj} {vs pv xv sv kv uv : List Value} {e pe xe se ke ue rm ec st sd : Nat} {lv : Int} {tl tr : Tok} {r0 : List B},
  Below A₀ base outer h₀ → Fr h₀ L s.heap (fun y => if y = Str.ofString "level" then some (.int lv tl) else if y = Str.ofString "room" then some (.int (rm : Int) tr) else m y) → (hd.heap_39 w.params).In h₀ → News h₀ L s.heap [(rl, listOf (List.toArray vs) e), (435, tabObj #[]), (544, tabObj #[]), (c4, o4), (c5, o5), (c6, o6), (c7, o7), (c8, o8), (c9, o9), (pl, listOf (List.toArray pv) pe), (xl, listOf (List.toArray xv) xe), (sl, listOf (List.toArray sv) se), (kl, listOf (List.toArray kv) ke), (ul, listOf (List.toArray uv) ue)] → Top p loose mean mg mb h₀ → dp + 300 < recursionLimit → un + 3000 < cLine → PassesOwn (model PySem.Challenge.rw_bq0025_01.row.prog w) (ktrTop dp un gd (Str.ofString "law") lawS L fa ccd (lawCl c1 c2 c3 c4 c5 c6 c7 c8 c9) outer) (envX (Str.ofString "law") lawS L fa ccd (lawCl c1 c2 c3 c4 c5 c6 c7 c8 c9)) E →
  (∀ p ∈ [(435, tabObj #[]), (544, tabObj #[]), (c4, o4), (c5, o5), (c6, o6), (c7, o7), (c8, o8), (c9, o9), (pl, listOf (List.toArray pv) pe), (xl, listOf (List.toArray xv) xe), (sl, listOf (List.toArray sv) se), (kl, listOf (List.toArray kv) ke), (ul, listOf (List.toArray uv) ue)], p.1 ≠ rl) →
  o4.data = .cell (some (.ref rl)) → o5.data = .cell (some (.ref pl)) → o6.data = .cell (some (.ref xl)) → o7.data = .cell (some (.ref sl)) → o8.data = .cell (some (.ref kl)) → o9.data = .cell (some (.ref ul)) →
  IntsAre vs (r0.map toI) → IntsAre pv powL → IntsAre xv logL → IntsAre sv spotL → IntsAre kv (natL (knownN rm st sd)) → IntsAre uv (natL (lackN rm st sd)) →
  Lev lv rm → 26 = rm + ec → 0 < sd → sd < 23 → HeadOk rm r0 → (∀ u ∈ lackN rm st sd, r0.getD u 0#8 = 0#8) → AllBare s.gens →
  (∀ s' m' ps1 ps2, Fr h₀ L s'.heap m' → News h₀ L s'.heap [(435, tabObj ps1), (544, tabObj ps2)] → AllBare s'.gens → s'.os = s.os → Q (.ret (.bool true)) s') →
  wpAny (model PySem.Challenge.rw_bq0025_01.row.prog w) (ktrTop dp un gd (Str.ofString "law") lawS L fa ccd (lawCl c1 c2 c3 c4 c5 c6 c7 c8 c9) outer) (execs (lawB.drop 14) (envX (Str.ofString "law") lawS L fa ccd (lawCl c1 c2 c3 c4 c5 c6 c7 c8 c9))) Q E s := by
  k_with_none
  w_top off
  k_fill
  intro w loose mean mg mb p dp un gd fa ccd outer A₀ base h₀ L m s Q E c1 c2 c3 c4 c5 c6 c7 c8 c9 rl pl xl sl kl ul o4 o5 o6 o7 o8 o9 vs pv xv sv kv uv e pe xe se ke ue rm ec st sd lv tl tr r0 B F X N T hdp hun hE hoff d4 d5 d6 d7 d8 d9 i4 i5 i6 i7 i8 i9 hlv hec hsd0 hsd1 hrow hz hbare hret
  have hE0 := hE
  conv in (occs := *) lawS => all_goals whnf
  conv at hE in (occs := *) lawS => all_goals whnf
  conv in (List.drop _ _) => whnf
  have hU : ∀ v ∈ lackN rm st sd, v < 26 := fun v hv => (lack_mem.mp hv).1
  k_steps
  unfold Halt
  (rename Fr _ _ _ _ => F1); (rename News _ _ _ _ => N1)
  refine' Assign_ListComp_C F1 ?e1 ?e2 ?e3 ?e4 ?e5 ?e6 ?e7 ?e8 ?e9 ?e10 ?_
  case e1 => rfl
  case e2 => rfl
  case e3 => with_unfolding_all rfl
  case e4 => intro n; rfl
  case e5 => intro h; rfl
  case e6 => rfl
  case e7 => decide
  case e8 => intro cl' C; rfl
  case e9 => rfl
  case e10 => rfl
  k_steps
  unfold Halt
  (rename Fr _ _ _ _ => F2); (rename News _ _ _ _ => N2); (rename IsRange _ _ _ _ _ _ _ _ => rgX)
  refine ⟨_, _, _, _, 26, _, fun i y => ∃ t, y = Value.int (reachN XP (lackN rm st sd) i : Int) t, rfl, rfl, F2, N2, rgX, by decide, ?_, ?_⟩
  · intro i tv oI C oC K oK D ys h3 tk3 E' hi hoK F3 ltN hDC hCK N3
    refine post_halt ?_
    k_steps
    unfold Halt
    (rename Fr _ _ _ _ => F4); (rename News _ _ _ _ => N4)
    refine' LCt.ListComp_T F4 ?f1 ?f2 ?f3 ?f4 ?f5 ?_
    case f1 => with_unfolding_all rfl
    case f2 => decide
    case f3 => rfl
    case f4 => decide
    case f5 => rfl
    k_steps
    unfold Halt
    (rename Fr _ _ _ _ => F5); (rename News _ _ _ _ => N5)
    have hul : uv.length ≤ 26 := by
      rw [i9.length]; unfold natL; rw [List.length_map]; unfold lackN
      exact Nat.le_trans (List.length_filter_le _ _) (by simp)
    refine' LCt.CompSrcT.ledger (its := (List.toArray uv)) (k := ue) ?hh F5 N5 ?hmu ?hsz ?_
    case hh => rfl
    case hmu => repeat (first | exact List.Mem.head _ | refine List.Mem.tail _ ?_)
    case hsz => rw [List.size_toArray, sizeLine_eq]; omega
    intro gH
    refine kci_list (fun l k => if k = (i : Int) then l else l ++ [(Mine.L (XP i ^^^ XP k.toNat) : Int)]) i9 ?_ ?_ ?_
    · intro k t2 I2 oI2 C2 oC2 D2 m₂ ys2 l h9 tk9 E9 hk hy2 hC2 hx2 F11 N11 off ne mk
      obtain ⟨u, hu, rfl⟩ := nat_mem hk
      have hu26 := hU u hu
      dsimp only
      rw [Int.toNat_natCast]
      k_steps
      · (rename Fr _ _ _ _ => fE); (rename News _ _ _ _ => nE)
        refine LCg.CompEnd.intro fE nE _ (fun p hp => hp) off (.inr ⟨listOf (List.toArray uv) ue, ?_, rfl, _, rfl⟩) (kci_el (by rw [if_neg (by omega)]) rfl rfl)
        repeat (first | exact List.Mem.head _ | refine List.Mem.tail _ ?_)
      · (rename Fr _ _ _ _ => fE); (rename News _ _ _ _ => nE)
        refine LCg.CompEnd.intro fE nE _ (fun p hp => hp) off (.inr ⟨listOf (List.toArray uv) ue, ?_, rfl, _, rfl⟩) (kci_no (by rw [if_pos (by omega)]) rfl)
        repeat (first | exact List.Mem.head _ | refine List.Mem.tail _ ?_)
    · intro ys2 hy2 hl2 D2 h10 tk10 F12 N12 off12
      k_steps
      (rename Fr _ _ _ _ => fE); (rename News _ _ _ _ => nE)
      exact ElPost.intro fE (cb_drop nE (by kcj_in)) ⟨_, by rw [inner_sum]⟩
    · intro l k
      dsimp only
      split
      · exact Nat.le_succ _
      · simp
  · intro D h3 tk3 ys hyl hG F3 N3 ltD
    have hcl : IntsAre ys (reachL (lackN rm st sd)) := reach_ints hyl hG
    exact body_15 B F3 X (cb_drop N3 (by kcj_in)) T hdp hun hE0 (List.forall_mem_cons.mpr ⟨Nat.ne_of_gt (ltD _ (.head _)), hoff⟩) d4 d5 d6 d7 d8 d9 i4 i5 i6 i7 i8 i9 hcl hlv hec hsd0 hsd1 hrow hz hbare hret
end Mine
end
section
open PySem PySem.W PyProof.Rows PySem.Spec PySem.Calls
set_option Elab.async false
set_option maxRecDepth 100000
set_option maxHeartbeats 0
namespace Mine
local macro_rules | `(tactic| k_ne) => `(tactic| (refine neN ?_; (try dsimp only); first | assumption | (refine Ne.symm ?_; assumption) | (refine Nat.ne_of_lt ?_; assumption) | (refine Nat.ne_of_gt ?_; assumption) | omega))
local macro_rules | `(tactic| k_room) => `(tactic| ktr_room)
local macro_rules | `(tactic| k_units) => `(tactic| ktr_units)
local macro_rules | `(tactic| k_all) => `(tactic| assumption)
local macro_rules | `(tactic| walk_at "loadName") => `(tactic| (k_here; k_dflt (refine' ldnCN ?N ?c ?m ?d ?_ ?x1 ?x2; (case N => k_asm); (case c => rfl); (case m => k_mem); (case d => k_asm); (case x1 => rfl); (case x2 => rfl); k_whole)))
local macro_rules | `(tactic| walk_at "binaryOp BitXor int int") => `(tactic| (k_here; (with_reducible show wpAny _ _ (binaryOp Operator.BitXor (Value.int (toI _) _) (Value.int (toI _) _)) _ _ _); (refine xor_K ?_)))
local macro_rules | `(tactic| walk_at "inplaceOp BitXor int int") => `(tactic| (k_here; (with_reducible show wpAny _ _ (inplaceOp Operator.BitXor (Value.int (toI _) _) (Value.int (toI _) _)) _ _ _); (refine ixor_K ?_)))
local macro_rules | `(tactic| walk_at "subscriptTail Name Name ref int") => `(tactic| (k_here; (with_reducible show wpAny _ _ (subscriptTail _ _ (Value.ref _) (Value.int _ _)) _ _ _); k_dflt (refine' item_at ?N ?m ?i ?x ?a ?b ?_ ?s; (case N => k_asm); (case m => repeat (first | exact List.Mem.head _ | refine List.Mem.tail _ ?_)); (case i => with_reducible assumption); (case x => first | exact at_pow2 (by omega) (by omega) | exact at_row (by omega) | exact at_spot (by omega) | exact at_reach (by omega) | exact at_log _ | exact at_pow _); (case a => first | omega | exact toI_lo _ | exact fmod_lo _ (by decide)); (case b => first | omega | exact Int.lt_trans (toI_hi _) (by decide) | exact Int.lt_trans (fmod_hi _ (by decide)) (by decide)); (case s => with_unfolding_all rfl); k_whole); intro _))
local macro_rules | `(tactic| walk_at "subscriptTail Name Subscript ref int") => `(tactic| (k_here; (with_reducible show wpAny _ _ (subscriptTail _ _ (Value.ref _) (Value.int _ _)) _ _ _); k_dflt (refine' item_at ?N ?m ?i ?x ?a ?b ?_ ?s; (case N => k_asm); (case m => repeat (first | exact List.Mem.head _ | refine List.Mem.tail _ ?_)); (case i => with_reducible assumption); (case x => first | exact at_pow2 (by omega) (by omega) | exact at_row (by omega) | exact at_spot (by omega) | exact at_reach (by omega) | exact at_log _ | exact at_pow _); (case a => first | omega | exact toI_lo _ | exact fmod_lo _ (by decide)); (case b => first | omega | exact Int.lt_trans (toI_hi _) (by decide) | exact Int.lt_trans (fmod_hi _ (by decide)) (by decide)); (case s => with_unfolding_all rfl); k_whole); intro _))
local macro_rules | `(tactic| walk_at "subscriptTail Name BinOp ref int") => `(tactic| (k_here; (with_reducible show wpAny _ _ (subscriptTail _ _ (Value.ref _) (Value.int _ _)) _ _ _); refine Halt.go ?_))
local macro_rules | `(tactic| walk_at "CompSrc") => `(tactic| ((with_reducible show LCg.CompSrc _ _ _ _ _ _ _ _ _ _ _ _ _ _); refine Halt.go ?_))
local macro_rules | `(tactic| walk_at "binaryOp Add ref ref") => `(tactic| ((with_reducible show wpAny _ _ (binaryOp Operator.Add (Value.ref _) (Value.ref _)) _ _ _); refine Halt.go ?_))
local macro_rules | `(tactic| walk_at "compareOp NotIn int ref") => `(tactic| ((with_reducible show wpAny _ _ (compareOp CmpOp.NotIn (Value.int _ _) (Value.ref _)) _ _ _); refine Halt.go ?_))
local macro_rules | `(tactic| walk_at "execs cons") => `(tactic| ((with_reducible show wpAny _ _ (execs (Stmt.Assign [PySem.Expr.Name (Str.ofString "reach") _] _ _ :: _) _) _ _ _); refine Halt.go ?_))
local macro_rules | `(tactic| walk_at "eval ListComp") => `(tactic| ((with_reducible show wpAny _ _ (eval (PySem.Expr.ListComp _ _ _ _) _) _ _ _); refine Halt.go ?_))
local macro_rules | `(tactic| walk_at "CompSrcT") => `(tactic| ((with_reducible show LCt.CompSrcT _ _ _ _ _ _ _ _ _ _ _ _ _ _ _); refine Halt.go ?_))
local macro_rules | `(tactic| walk_at "CellSrc") => `(tactic| ((with_reducible show CellSrc _ _ _ _ _ _ _ _ _ _ _ _ _ _ _); refine Halt.go ?_))
theorem at_pow2 {k : Int} (h0 : 0 ≤ k) (h1 : k < 26) : powL[(25 - k).toNat]? = some (toI (XP k.toNat)) := by
  have q := at_pow (25 - k)
  rw [Int.fmod_eq_emod_of_nonneg _ (by decide), Int.emod_eq_of_lt (by omega) (by omega)] at q
  rw [q]
  unfold XP
  rw [← EZ_nat]
  congr 3
  omega
theorem spot_map : (rangeKs 0 26).map (fun k => toI (XP k.toNat)) = spotL := by
  unfold rangeKs spotL
  rw [List.map_map]
  refine List.map_congr_left fun k _ => ?_
  simp
theorem add_K {prog : Program} {w : World} {A : Around} {E : Value → Shared → Prop} {s : Shared} {h₀ : Heap} {L l b : Addr} {m : Str → Option Value} {news : List (Addr × Obj)} {vs ws : List Value} {ns ms : List Int} {e1 e2 : Nat} {Q : Value → Shared → Prop} (F : Fr h₀ L s.heap m) (N : News h₀ L s.heap news) (hl : (l, W.listOf (List.toArray vs) e1) ∈ news) (hb : (b, W.listOf (List.toArray ws) e2) ∈ news)
    (hi : IntsAre vs ns) (hj : IntsAre ws ms) (hsz : ns.length + ms.length ≤ 4096)
    (h : ∀ D h', Fr h₀ L h' m → News h₀ L h' ((D, W.listOf (List.toArray (vs ++ ws)) 0) :: news) → (∀ p ∈ news, @LT.lt Nat _ p.1 D) → IntsAre (vs ++ ws) (ns ++ ms) → Q (.ref D) { s with heap := h' }) :
    wpAny (model prog w) A (binaryOp .Add (.ref l) (.ref b)) Q E s :=
  add_lists_ints (hsz := by rw [sizeLine_eq]; omega) F N ⟨_, (N _ hl).1, rfl, _, rfl⟩ ⟨_, (N _ hb).1, rfl, _, rfl⟩ hi hj fun h' F' N' I' => h _ h' F' N' (fun p hp => Heap.lt_size (N p hp).1) I'
theorem known_ints {rm st sd : Nat} (h : 1 ≤ rm) : ([0, 1, (rm : Int) - 1] ++ natL (wishL rm st sd)) = natL (knownN rm st sd) := by
  unfold natL knownN
  rw [List.map_cons, List.map_cons, List.map_cons]
  show [0, 1, (rm : Int) - 1] ++ _ = (0 : Int) :: (1 : Int) :: ((rm - 1 : Nat) : Int) :: _
  rw [show ((rm - 1 : Nat) : Int) = (rm : Int) - 1 by omega]
  rfl
theorem any_nat {l : List Nat} {p : Nat} : (natL l).any (· == (p : Int)) = l.contains p := by
  unfold natL
  induction l with
  | nil => rfl
  | cons a r ih =>
    rw [List.map_cons, List.any_cons, ih, List.contains_cons]
    congr 1
    by_cases h : p = a
    · subst h; simp
    · have h2 : ¬ ((a : Int) = (p : Int)) := fun q => h (by omega)
      have e1 : (Int.ofNat a == (p : Int)) = false := by simpa using h2
      have e2 : (p == a) = false := by simpa using h
      rw [e1, e2]
theorem lack_fold (K : List Nat) : ∀ (U : List Nat) (l : List Int), (U.map fun p : Nat => (p : Int)).foldl (fun l k => if (natL K).any (· == k) = true then l else l ++ [k]) l = l ++ natL (U.filter fun p => !K.contains p)
  | [], l => by simp [natL]
  | u :: U, l => by
    rw [List.map_cons, List.foldl_cons, lack_fold K U, List.filter_cons, any_nat]
    cases h : K.contains u with
    | true => simp
    | false => simp [natL]
theorem lack_ints {rm st sd : Nat} : (rangeKs 0 26).foldl (fun l k => if (natL (knownN rm st sd)).any (· == k) = true then l else l ++ [k]) [] = natL (lackN rm st sd) := by
  have e : rangeKs 0 26 = (List.range 26).map fun p : Nat => (p : Int) := by
    unfold rangeKs
    refine List.map_congr_left fun k _ => by simp
  rw [e, lack_fold, List.nil_append]
  rfl
theorem notin_K {prog : Program} {w : World} {A : Around} {E : Value → Shared → Prop} {s : Shared} {h₀ : Heap} {L l : Addr} {news : List (Addr × Obj)} {vs : List Value} {ns : List Int} {e : Nat} {k : Int} {t : Tok} {Q : Value → Shared → Prop} (N : News h₀ L s.heap news) (hm : (l, W.listOf (List.toArray vs) e) ∈ news) (hi : IntsAre vs ns)
    (h : Q (.bool (!(ns.any (· == k)))) s) : wpAny (model prog w) A (compareOp .NotIn (.int k t) (.ref l)) Q E s :=
  notin_list_ints ⟨_, (N _ hm).1, rfl, _, rfl⟩ hi h
theorem body_11 : ∀ {w : World} {loose : List Str} {mean : ExcName → Option Value} {mg mb : Str → Option Value} {p : Program} {dp un : Nat} {gd : Option (List Code)} {fa : Addr} {ccd : Value} {outer : List Env} {A₀ : Around} {base h₀ : Heap} {L : Addr} {m : Str → Option Value} {s : Shared} {Q : Flow → Shared → Prop} {E : Value → Shared → Prop} {c1 c2 c3 c4 c5 c6 c7 c8 c9 rl pl xl wl : Addr} {o4 o5 o6 o7 o8 o9 : Obj} {vs pv xv wv : List Value} {e pe xe we rm ec st sd : Nat} {lv : Int} {tl tr : Tok} {r0 : List B},
  Below A₀ base outer h₀ → Fr h₀ L s.heap (fun y => if y = Str.ofString "wished" then some (.ref wl) else if y = Str.ofString "level" then some (.int lv tl) else if y = Str.ofString "room" then some (.int (rm : Int) tr) else m y) → (hd.heap_39 w.params).In h₀ → News h₀ L s.heap [(rl, listOf (List.toArray vs) e), (435, tabObj #[]), (544, tabObj #[]), (c4, o4), (c5, o5), (c6, o6), (c7, o7), (c8, o8), (c9, o9), (pl, listOf (List.toArray pv) pe), (xl, listOf (List.toArray xv) xe), (wl, listOf (List.toArray wv) we)] → Top p loose mean mg mb h₀ → dp + 300 < recursionLimit → un + 3000 < cLine → PassesOwn (model PySem.Challenge.rw_bq0025_01.row.prog w) (ktrTop dp un gd (Str.ofString "law") lawS L fa ccd (lawCl c1 c2 c3 c4 c5 c6 c7 c8 c9) outer) (envX (Str.ofString "law") lawS L fa ccd (lawCl c1 c2 c3 c4 c5 c6 c7 c8 c9)) E →
  (∀ p ∈ [(435, tabObj #[]), (544, tabObj #[]), (c4, o4), (c5, o5), (c6, o6), (c7, o7), (c8, o8), (c9, o9), (pl, listOf (List.toArray pv) pe), (xl, listOf (List.toArray xv) xe), (wl, listOf (List.toArray wv) we)], p.1 ≠ rl) →
  @LT.lt Nat _ 544 c4 → @LT.lt Nat _ c4 c5 → @LT.lt Nat _ c5 c6 → @LT.lt Nat _ c6 c7 → @LT.lt Nat _ c7 c8 → @LT.lt Nat _ c8 c9 → @LT.lt Nat _ c9 rl → @LT.lt Nat _ c9 pl → @LT.lt Nat _ c9 xl → (@Ne Nat wl c4 ∧ @Ne Nat wl c5 ∧ @Ne Nat wl c6 ∧ @Ne Nat wl c7 ∧ @Ne Nat wl c8 ∧ @Ne Nat wl c9) →
  o4.data = .cell (some (.ref rl)) → o5.data = .cell (some (.ref pl)) → o6.data = .cell (some (.ref xl)) → o7.data = .cell none → o8.data = .cell none → o9.data = .cell none →
  IntsAre vs (r0.map toI) → IntsAre pv powL → IntsAre xv logL → IntsAre wv (natL (wishL rm st sd)) →
  Lev lv rm → 26 = rm + ec → 0 < sd → sd < 23 → HeadOk rm r0 → (∀ u ∈ lackN rm st sd, r0.getD u 0#8 = 0#8) → AllBare s.gens →
  (∀ s' m' ps1 ps2, Fr h₀ L s'.heap m' → News h₀ L s'.heap [(435, tabObj ps1), (544, tabObj ps2)] → AllBare s'.gens → s'.os = s.os → Q (.ret (.bool true)) s') →
  wpAny (model PySem.Challenge.rw_bq0025_01.row.prog w) (ktrTop dp un gd (Str.ofString "law") lawS L fa ccd (lawCl c1 c2 c3 c4 c5 c6 c7 c8 c9) outer) (execs (lawB.drop 11) (envX (Str.ofString "law") lawS L fa ccd (lawCl c1 c2 c3 c4 c5 c6 c7 c8 c9))) Q E s := by
  k_with_none
  w_top off
  k_fill
  intro w loose mean mg mb p dp un gd fa ccd outer A₀ base h₀ L m s Q E c1 c2 c3 c4 c5 c6 c7 c8 c9 rl pl xl wl o4 o5 o6 o7 o8 o9 vs pv xv wv e pe xe we rm ec st sd lv tl tr r0 B F X N T hdp hun hE hoff q4 q5 q6 q7 q8 q9 q10 q11 q12 q13 d4 d5 d6 d7 d8 d9 i4 i5 i6 i7 hlv hec hsd0 hsd1 hrow hz hbare hret
  have hE0 := hE
  have : @LT.lt Nat _ 435 c7 := by omega
  have : @LT.lt Nat _ 544 c7 := by omega
  have : @LT.lt Nat _ c4 c7 := by omega
  have : @LT.lt Nat _ c5 c7 := by omega
  have : @LT.lt Nat _ c6 c7 := by omega
  have : @LT.lt Nat _ c7 rl := by omega
  have : @LT.lt Nat _ c7 pl := by omega
  have : @LT.lt Nat _ c7 xl := by omega
  have : @LT.lt Nat _ 435 c8 := by omega
  have : @LT.lt Nat _ 544 c8 := by omega
  have : @LT.lt Nat _ c4 c8 := by omega
  have : @LT.lt Nat _ c5 c8 := by omega
  have : @LT.lt Nat _ c6 c8 := by omega
  have : @LT.lt Nat _ c7 c8 := by omega
  have : @LT.lt Nat _ c8 rl := by omega
  have : @LT.lt Nat _ c8 pl := by omega
  have : @LT.lt Nat _ c8 xl := by omega
  have : @LT.lt Nat _ 435 c9 := by omega
  have : @LT.lt Nat _ 544 c9 := by omega
  have : @LT.lt Nat _ c4 c9 := by omega
  have : @LT.lt Nat _ c5 c9 := by omega
  have : @LT.lt Nat _ c6 c9 := by omega
  have : @LT.lt Nat _ c7 c9 := by omega
  have : @LT.lt Nat _ c8 c9 := by omega
  have : @LT.lt Nat _ c9 rl := by omega
  have : @LT.lt Nat _ c9 pl := by omega
  have : @LT.lt Nat _ c9 xl := by omega
  have : @LT.lt Nat _ 435 rl := by omega
  have : @LT.lt Nat _ 544 rl := by omega
  have : @LT.lt Nat _ c4 rl := by omega
  have : @LT.lt Nat _ c5 rl := by omega
  have : @LT.lt Nat _ c6 rl := by omega
  obtain ⟨_, _, _, nw7, nw8, nw9⟩ := q13
  conv in (occs := *) lawS => all_goals whnf
  conv at hE in (occs := *) lawS => all_goals whnf
  conv in (List.drop _ _) => whnf
  k_steps
  unfold Halt
  (rename Fr _ _ _ _ => F1); (rename News _ _ _ _ => N1)
  refine' LCg.ListComp_U F1 ?f1 ?f2 ?f3 ?f4 ?f5 ?_
  case f1 => with_unfolding_all rfl
  case f2 => decide
  case f3 => rfl
  case f4 => decide
  case f5 => rfl
  k_steps
  unfold Halt
  (rename Fr _ _ _ _ => F2); (rename News _ _ _ _ => N2); (rename IsRange _ _ _ _ _ _ _ _ => rgX)
  refine LCg.CompSrc.range (n := 26) (by rfl) F2 N2 rgX (rsm (by decide)) (rsz 26) (by rw [sizeLine_eq]; decide) ?_
  intro gH
  refine kcf_range (S := fun _ => True) (fun k => toI (XP k.toNat)) ?_ ?_
  · intro k t I2 oI C oC D m₂ ys h3 tk3 E' hk1 hk2 hC hx F3 N3 off ne mk
    refine post_halt ?_
    k_steps
    unfold Halt
    refine' item_at ?N ?m ?i ?x ?a ?b ?_ ?s
    case N => k_asm
    case m => repeat (first | exact List.Mem.head _ | refine List.Mem.tail _ ?_)
    case i => with_reducible assumption
    case x => exact at_pow2 (by omega) (by omega)
    case a => omega
    case b => omega
    case s => with_unfolding_all rfl
    intro tx
    k_steps
  · intro ys hys D h4 tk4 F4 N4 off4
    rw [spot_map] at hys
    have nD7 : @Ne Nat c7 D := off1_mem off4 (c7, o7) (by repeat (first | exact List.Mem.head _ | refine List.Mem.tail _ ?_))
    have nD8 : @Ne Nat c8 D := off1_mem off4 (c8, o8) (by repeat (first | exact List.Mem.head _ | refine List.Mem.tail _ ?_))
    have nD9 : @Ne Nat c9 D := off1_mem off4 (c9, o9) (by repeat (first | exact List.Mem.head _ | refine List.Mem.tail _ ?_))
    have nDr : @Ne Nat rl D := off1_mem off4 (rl, listOf (List.toArray vs) e) (by repeat (first | exact List.Mem.head _ | refine List.Mem.tail _ ?_))
    clear off4
    k_steps
    unfold Halt
    (rename Fr _ _ _ _ => F5); (rename News _ _ _ _ => N5)
    have hrm : Rm rm := by unfold Lev at hlv; unfold Rm; omega
    have hr2 : 9 ≤ rm ∧ rm ≤ 19 := by unfold Rm at hrm; omega
    refine' add_K F5 N5 ?m1 ?m2 (.cons _ _ (.cons _ _ (.cons _ _ .nil))) i7 ?hz ?_
    case m1 => repeat (first | exact List.Mem.head _ | refine List.Mem.tail _ ?_)
    case m2 => repeat (first | exact List.Mem.head _ | refine List.Mem.tail _ ?_)
    case hz => unfold natL wishL; simp; omega
    intro kl h6 F6 N6 lk1 I6
    rw [known_ints (by omega)] at I6
    have lk2 := lk1
    k_lt lk2
    iterate 13 (rcases lk2 with ⟨_, lk2⟩)
    clear F5 N5
    k_steps
    unfold Halt
    (rename Fr _ _ _ _ => F7); (rename News _ _ _ _ => N7)
    refine' LCt.ListComp_T F7 ?g1 ?g2 ?g3 ?g4 ?g5 ?_
    case g1 => with_unfolding_all rfl
    case g2 => decide
    case g3 => rfl
    case g4 => decide
    case g5 => rfl
    k_steps
    unfold Halt
    (rename Fr _ _ _ _ => F8); (rename News _ _ _ _ => N8); (rename IsRange _ _ _ _ _ _ _ _ => rg2)
    refine LCt.CompSrcT.range (n := 26) (by rfl) F8 N8 rg2 (rsm (by decide)) (rsz 26) (by rw [sizeLine_eq]; decide) ?_
    intro gH2
    refine kci_range (S := fun _ => True) (fun l k => if (natL (knownN rm st sd)).any (· == k) = true then l else l ++ [k]) ?_ ?_ ?_
    · intro k t2 I2 oI2 C2 oC2 D2 m₂ ys2 l h9 tk9 E9 hk1 hk2 hy2 hC2 hx2 F11 N11 off ne mk
      dsimp only
      k_steps
      unfold Halt
      (rename Fr _ _ _ _ => fE); (rename News _ _ _ _ => nE)
      refine' notin_K nE ?mk I6 ?_
      case mk => repeat (first | exact List.Mem.head _ | refine List.Mem.tail _ ?_)
      by_cases hk3 : (natL (knownN rm st sd)).any (· == k) = true
      · rw [if_pos hk3, hk3]
        k_steps
        (rename Fr _ _ _ _ => fF); (rename News _ _ _ _ => nF)
        exact LCg.CompEnd.intro fF nF _ (fun p hp => hp) off trivial (kci_no rfl rfl)
      · rw [if_neg hk3, Bool.eq_false_iff.mpr hk3]
        k_steps
        (rename Fr _ _ _ _ => fF); (rename News _ _ _ _ => nF)
        exact LCg.CompEnd.intro fF nF _ (fun p hp => hp) off trivial (kci_el rfl rfl rfl)
    · intro ys2 hy2 hl2 D2 h10 tk10 F12 N12 off12
      rw [lack_ints] at hy2
      have nE9 : @Ne Nat c9 D2 := off1_mem off12 (c9, o9) (by repeat (first | exact List.Mem.head _ | refine List.Mem.tail _ ?_))
      have nEr : @Ne Nat rl D2 := off1_mem off12 (rl, listOf (List.toArray vs) e) (by repeat (first | exact List.Mem.head _ | refine List.Mem.tail _ ?_))
      clear off12
      have hpl : @Ne Nat pl rl := hoff (pl, listOf (List.toArray pv) pe) (by repeat (first | exact List.Mem.head _ | refine List.Mem.tail _ ?_))
      have hxl : @Ne Nat xl rl := hoff (xl, listOf (List.toArray xv) xe) (by repeat (first | exact List.Mem.head _ | refine List.Mem.tail _ ?_))
      k_steps
      unfold Halt
      (rename Fr _ _ _ _ => F13); (rename News _ _ _ _ => N13)
      refine body_14 B (Fr.pull (x := Str.ofString "level") (v := .int lv tl) (Fr.pull (x := Str.ofString "room") (v := .int (rm : Int) tr) F13 rfl) rfl) X (cb_drop N13 (by kcj_in)) T hdp hun hE0 ?hoff2 d4 d5 d6 (by assumption) (by assumption) (by assumption) i4 i5 i6 hys I6 hy2 hlv hec hsd0 hsd1 hrow hz hbare hret
      repeat (refine List.forall_mem_cons.mpr ⟨by k_ne, ?_⟩)
      intro q hq
      cases hq
    · intro l k
      dsimp only
      split
      · exact Nat.le_succ _
      · simp
end Mine
end
section
open PySem PySem.W PyProof.Rows PySem.Spec PySem.Calls PyProof.V
set_option Elab.async false
set_option maxRecDepth 100000
namespace Mine
/-- a turn's end of a loop that reckons one int name, and changes its ledger -/
def NumPost (h₀ : Heap) (L : Addr) (x y : Str) (m₀ : Str → Option Value) (v : Int) (J : List (Addr × Obj) → Prop) (own : List (Addr × Obj)) (adr : List Addr) (s₁ : Shared) (Q : Flow → Shared → Prop) (f : Flow) (s₂ : Shared) : Prop :=
  match f with
  | .ret v => Q (.ret v) s₂
  | .brk => Q .next s₂
  | _ => InvEndN h₀ L (fun m' nx => (∃ ty, m' y = some (.int v ty)) ∧ (∀ z, z ≠ x → z ≠ y → m' z = m₀ z) ∧ J nx) own adr s₁ s₂
section
variable {prog : Program} {w : World} {A : Around} {E : Value → Shared → Prop} {s : Shared} {env : Env} {h₀ : Heap} {x : Str} {body : List Stmt} {Q : Flow → Shared → Prop}
theorem rng_num {r : Addr} {t₀ u₀ v₀ ty₀ : Tok} {n : Nat} {y : Str} {m₀ : Str → Option Value} {news : List (Addr × Obj)} (f : Nat → Int) (J : Nat → List (Addr × Obj) → Prop)
    (hh : A.handled = none) (hr : IsRange s.heap r 0 (n : Int) 1 t₀ u₀ v₀) (hnb : n < 2 ^ 20) (F : Fr h₀ env.locals s.heap m₀) (N : News h₀ env.locals s.heap news) (hy : m₀ y = some (.int (f 0) ty₀)) (hyx : y ≠ x) (hj : J 0 news)
    (turn : ∀ (i : Nat) t ty nx h tk own, i < n → nx.map (·.1) = news.map (·.1) → OwnOff own (news.map (·.1)) → J i nx → Fr h₀ env.locals h (fun z => if z = x then some (.int (i : Int) t) else if z = y then some (.int (f i) ty) else m₀ z) → News h₀ env.locals h (nx ++ own) →
      wpAny (model prog w) A (execs body env) (NumPost h₀ env.locals x y m₀ (f (i + 1)) (J (i + 1)) own (news.map (·.1)) { s with heap := h, toks := tk } Q) E { s with heap := h, toks := tk })
    (done : ∀ vx ty nx h tk, J n nx → Fr h₀ env.locals h (fun z => if z = x then vx else if z = y then some (.int (f n) ty) else m₀ z) → News h₀ env.locals h nx → Q .next { s with heap := h, toks := tk }) :
    wpAny (model prog w) A (pyIter (.ref r)) (fun it s₂ => LoopAtV prog w A h₀ env x body Q E it s₂) E s := by
  have hsz : Builtin.Range.rangeSize 0 (n : Int) 1 = (n : Int) := by simpa using rangeSize_nat (0 : Int) n
  have hs : Builtin.Range.small 0 (n : Int) 1 = true := small_one (by omega) (by omega) (by omega) (by omega)
  have em : ∀ {m : Str → Option Value} {v : Value} {w : Option Value}, m y = some v → (∀ z, z ≠ x → z ≠ y → m z = m₀ z) → (fun z => if z = x then w else m z) = fun z => if z = x then w else if z = y then some v else m₀ z := fun {m v w} h1 h2 => by
    funext z
    by_cases hx : z = x
    · simp [hx]
    · by_cases h : z = y
      · subst h; simp [hx, h1]
      · simp [hx, h, h2 z hx h]
  refine my_range (fun i m nx => (∃ ty, m y = some (.int (f i) ty)) ∧ (∀ z, z ≠ x → z ≠ y → m z = m₀ z) ∧ J i nx) hh hr hs hsz F N ⟨⟨_, hy⟩, fun _ _ _ => rfl, hj⟩ ?_ ?_
  · rintro i t m₁ nx h tk own hi ha hoff ⟨⟨ty, hty⟩, hm, hj'⟩ F₁ N₁
    rw [Int.zero_add, em hty hm] at F₁
    refine wpAny_mono (turn i t ty nx h tk own hi ha hoff hj' F₁ N₁) (fun fl s₂ p => ?_) fun _ _ e => e
    cases fl with
    | ret v => exact p
    | brk => exact p
    | next => exact p
    | cont => exact p
  · rintro m₁ nx h tk ⟨⟨ty, hty⟩, hm, hJ⟩ F₁ N₁
    have e : m₁ = fun z => if z = x then m₁ x else if z = y then some (.int (f n) ty) else m₀ z := by
      have q := em (w := m₁ x) hty hm
      rw [← q]
      funext z
      by_cases hx : z = x
      · simp [hx]
      · simp [hx]
    rw [e] at F₁
    exact done _ ty nx h tk hJ F₁ N₁
theorem NumPost.end2 {J : List (Addr × Obj) → Prop} {L : Addr} {x y : Str} {v : Int} {ty : Tok} {a b : Addr × Obj} {rest own : List (Addr × Obj)} {adr : List Addr} {m₀ m' : Str → Option Value} {h' : Heap} {tk : Nat} {s₁ : Shared} (F : Fr h₀ L h' m') (N : News h₀ L h' (a :: b :: (rest ++ own))) (hv : m' y = some (.int v ty)) (hm : ∀ z, z ≠ x → z ≠ y → m' z = m₀ z) (hJ : J (a :: b :: rest)) (ha : (a :: b :: rest).map (·.1) = adr) :
    NumPost h₀ L x y m₀ v J own adr s₁ Q .next { s₁ with heap := h', toks := tk } :=
  InvEnd.c2 (nx := rest) F N ⟨⟨ty, hv⟩, hm, hJ⟩ ha
end
end Mine
end
section
open PySem PySem.W PyProof.Rows PySem.Spec PySem.Calls
set_option Elab.async false
set_option maxRecDepth 100000
set_option maxHeartbeats 0
namespace Mine
local macro_rules | `(tactic| k_room) => `(tactic| ktr_room)
local macro_rules | `(tactic| k_units) => `(tactic| ktr_units)
local macro_rules | `(tactic| k_all) => `(tactic| assumption)
local macro_rules | `(tactic| walk_at "pyIter ref") => `(tactic| ((with_reducible show wpAny _ _ (pyIter (Value.ref _)) _ _ _); refine Halt.go ?_))
local macro_rules | `(tactic| walk_at "exec For Name Name cons nil") => `(tactic| (k_here; (rename Fr _ _ _ _ => lF'); (with_unfolding_all refine' For_invVF lF' ?k1 ?k2 ?_; (case k1 => exact rfl); (case k2 => exact rfl); k_whole)))
local macro_rules | `(tactic| walk_at "call builtin:list.append") => `(tactic| (k_here; (with_reducible show wpAny _ _ (call (Value.builtin _) [Value.ref _, _]) _ _ _); k_dflt (refine' app_list ?k1 ?k2 ?k3 ?z ?_; (case k1 => k_asm); (case k2 => k_asm); (case k3 => k_upd); (case z => size_fits); k_whole); intro h' F' N'; (try k_sweep)))
local macro_rules | `(tactic| walk_at "call builtin:list.append") => `(tactic| (k_here; (with_reducible show wpAny _ _ (call (Value.builtin _) [Value.ref _, Value.int _ _]) _ _ _); k_dflt (refine' app_ints ?k1 ?k2 ?k3 ?k4 ?z ?_; (case k1 => k_asm); (case k2 => k_asm); (case k3 => k_upd); (case k4 => with_reducible assumption); (case z => size_fits); k_whole); intro h' F' N' hi' hl'; (try k_sweep)))
local macro_rules | `(tactic| walk_at "setItem ref int") => `(tactic| ((with_reducible show wpAny _ _ (setItem (Value.ref _) (Value.int _ _) (Value.int _ _)) _ _ _); refine Halt.go ?_))
local macro_rules | `(tactic| walk_at "NumPost") => `(tactic| ((with_reducible show NumPost _ _ _ _ _ _ _ _ _ _ _ _ _); refine Halt.go ?_))
/-- the table of exponents after i turns -/
def expo (i : Nat) : List Nat := (List.range i).foldl (fun l j => l.set (expT.getD j 0) j) (List.replicate 256 0)
theorem expo_len (i : Nat) : (expo i).length = 256 := by
  unfold expo
  generalize List.range i = r
  have key : ∀ (r : List Nat) (l : List Nat), (r.foldl (fun l j => l.set (expT.getD j 0) j) l).length = l.length := by
    intro r
    induction r with
    | nil => intro l; rfl
    | cons a r ih => intro l; rw [List.foldl_cons, ih, List.length_set]
  rw [key, List.length_replicate]
theorem expo_end : expo 255 = logT := by decide +kernel
theorem expo_succ {i : Nat} (h : i < 255) : expo (i + 1) = (expo i).set (Mine.E i).toNat i := by
  have e : (Mine.E i).toNat = expT.getD i 0 := by
    have hl : i < expT.length := by rw [expT_len]; omega
    rw [E_get (List.getElem?_eq_getElem hl), List.getD_eq_getElem?_getD, List.getElem?_eq_getElem hl]
    rfl
  rw [e]
  unfold expo
  rw [List.range_succ, List.foldl_append]
  rfl
def expoI (i : Nat) : List Int := (expo i).map Int.ofNat
theorem expoI_succ {i : Nat} (h : i < 255) : (expoI i).set (toI (Mine.E i)).toNat (i : Int) = expoI (i + 1) := by
  unfold expoI
  rw [expo_succ h, List.map_set]
  rfl
theorem expoI_end : expoI 255 = logL := by unfold expoI logL; rw [expo_end]
theorem pow_end : (List.range 255).map (fun j => toI (Mine.E j)) = powL := by
  unfold powL
  apply List.ext_getElem?
  intro i
  rw [List.getElem?_map, List.map_take, List.getElem?_take]
  by_cases h : i < 255
  · have hl : i < expT.length := by rw [expT_len]; omega
    rw [if_pos h, List.getElem?_range h, List.getElem?_map, List.getElem?_eq_getElem hl]
    show some (toI (Mine.E i)) = some (Int.ofNat expT[i])
    unfold toI
    rw [E_get (List.getElem?_eq_getElem hl)]
    rfl
  · rw [if_neg h, List.getElem?_eq_none (by simpa using Nat.le_of_not_lt h)]
    rfl
theorem dbl_all : ((List.range 256).all fun n => if 255 < 2 * n then Builtin.bitXor ((n : Int) * 2) 285 == toI (xt (BitVec.ofNat 8 n)) else (n : Int) * 2 == toI (xt (BitVec.ofNat 8 n))) = true := by decide +kernel
theorem dbl (b : B) : (255 < toI b * 2 → Builtin.bitXor (toI b * 2) 285 = toI (xt b)) ∧ (¬ 255 < toI b * 2 → toI b * 2 = toI (xt b)) := by
  have q := List.all_eq_true.mp dbl_all b.toNat (by have := b.isLt; simpa using this)
  have e : BitVec.ofNat 8 b.toNat = b := by simp
  rw [e] at q
  unfold toI at q ⊢
  constructor
  · intro h
    rw [if_pos (by omega)] at q
    exact beq_iff_eq.mp q
  · intro h
    rw [if_neg (by omega)] at q
    exact beq_iff_eq.mp q
theorem E_succ (i : Nat) : Mine.E (i + 1) = xt (Mine.E i) := rfl
theorem set_second {prog : Program} {w : World} {A : Around} {E : Value → Shared → Prop} {s : Shared} {h₀ : Heap} {L le : Addr} {m : Str → Option Value} {a : Addr × Obj} {tl : List (Addr × Obj)} {us : List Value} {ns : List Int} {e : Nat} {k x : Int} {t u : Tok} {Q : Unit → Shared → Prop}
    (F : Fr h₀ L s.heap m) (N : News h₀ L s.heap (a :: (le, W.listOf (List.toArray us) e) :: tl)) (ha : a.1 ≠ le) (ho : ∀ p ∈ tl, p.1 ≠ le) (hi : IntsAre us ns) (h0 : 0 ≤ k) (h1 : k < ns.length) (hfit : k < 2 ^ 20)
    (h : ∀ h', Fr h₀ L h' m → News h₀ L h' (a :: (le, W.listOf (List.toArray (us.set k.toNat (.int x u))) e) :: tl) → IntsAre (us.set k.toNat (.int x u)) (ns.set k.toNat x) → Q () { s with heap := h' }) :
    wpAny (model prog w) A (setItem (.ref le) (.int k t) (.int x u)) Q E s :=
  ksa_set F N (.tail ha (.head ho)) hi h0 h1 (big_lo hfit) fun h' F' N' I' _ _ => h h' F' N' I'
theorem zeros_256 : (List.replicate (Int.toNat 256) [(0 : Int)]).flatten = expoI 0 := by decide +kernel
theorem lf_c : ∀ {w : World} {loose : List Str} {mean : ExcName → Option Value} {mg mb : Str → Option Value} {p : Program} {dp un : Nat} {gd : Option (List Code)} {cn : Str} {cs : Scope} {a : Addr} {ccd : Value} {cl : List (Str × Addr)} {outer : List Env} {A₀ : Around} {base h₀ : Heap} {L : Addr} {m : Str → Option Value} {news : List (Addr × Obj)} {s : Shared} {Q E : Value → Shared → Prop},
  Below A₀ base outer h₀ → Fr h₀ L s.heap m → (hd.heap_39 w.params).In h₀ → News h₀ L s.heap news → Top p loose mean mg mb h₀ → cs.kind = .function → dp + 2 < recursionLimit → un + 20 < cLine →
  (∀ t pl xl pv xv pe xe h' tk', Fr h₀ L h' m → News h₀ L h' ((t, { cls := .type "tuple", data := .seq #[.ref pl, .ref xl] }) :: (pl, listOf (List.toArray pv) pe) :: (xl, listOf (List.toArray xv) xe) :: news) → (∀ p ∈ news, @LT.lt Nat _ p.1 pl) → @LT.lt Nat _ pl xl → @LT.lt Nat _ xl t → IntsAre pv powL → IntsAre xv logL → Q (.ref t) { s with heap := h', toks := tk' }) →
  wpAny (model PySem.Challenge.rw_bq0025_01.row.prog w) (ktrTop dp un gd cn cs L a ccd cl outer) (call (.ref 563) []) Q E s := by
  k_with_none
  w_top off
  k_fill
  intro w loose mean mg mb p dp un gd cn cs a ccd cl outer A₀ base h₀ L m news s Q E B F X N T hk hdp hun hret
  refine wpAny_call ?_
  k_dflt (refine' code_def B F X N T ?kA ?kF ?kK ?k6 ?k7 ?k8 ?k9 ?kB ?_ ?c2 ?c3 ?c4 ?c5; (case kA => exact rfl); (case kF => exact rfl); (case kK => assumption); (case k6 => k_is); (case k7 => k_is); (case k8 => ktr_room); (case k9 => exact BindsTo.of_eq rfl); (case c5 => decide); (case kB => exact locs rfl); (case c2 => exact rfl); (case c3 => exact rfl); (case c4 => exact rfl); k_whole; intro g' L' h' FG' F' N' B' X' T'; (try dsimp only); (try k_lift B'); (try k_fold))
  k_steps
  unfold Halt
  (rename Fr _ _ _ _ => F8); (rename News _ _ _ _ => N8); (rename IsRange _ _ _ _ _ _ _ _ => rgX)
  obtain ⟨pl, xl, zs, m9, t9, F9, N9, I9, la, lb⟩ : ∃ (pl xl : Addr) (zs : List Value) (m9 : Str → Option Value) (t9 : Tok), Fr g' L' _ (fun y => if y = Str.ofString "powers" then some (Value.ref pl) else if y = Str.ofString "exponents" then some (.ref xl) else if y = Str.ofString "number" then some (.int 1 t9) else m9 y) ∧ News g' L' _ ((pl, listOf (List.toArray []) 0) :: (xl, listOf (List.toArray zs) 0) :: news) ∧ IntsAre zs ((List.replicate (Int.toNat 256) [(0 : Int)]).flatten) ∧ (∀ p ∈ news, @LT.lt Nat _ p.1 pl) ∧ @LT.lt Nat _ pl xl :=
    ⟨_, _, _, _, _, F8, cb_drop N8 (by kcj_in), by assumption, by assumption, by omega⟩
  rw [zeros_256] at I9
  refine rng_num (n := 255) (y := Str.ofString "number") (fun i => toI (Mine.E i)) (fun i nx => ∃ pv pe xv xe, nx = (pl, listOf (List.toArray pv) pe) :: (xl, listOf (List.toArray xv) xe) :: news ∧ IntsAre pv ((List.range i).map fun j => toI (Mine.E j)) ∧ IntsAre xv (expoI i)) (by rfl) rgX (by decide) F9 N9 rfl (by decide) ⟨_, _, _, _, rfl, .nil, I9⟩ ?_ ?_
  · rintro i t ty nx h2 tk2 own hi ha hoff ⟨pv, pe, xv, xe, rfl, Ip, Ix⟩ F2 N2
    simp only [List.cons_append] at N2
    have o1 : ∀ p ∈ news ++ own, p.1 ≠ pl := fun p hp => (List.mem_append.mp hp).elim (fun q => Nat.ne_of_lt (la p q)) (hoff.ne (.head _) p)
    have o2 : ∀ p ∈ news ++ own, p.1 ≠ xl := fun p hp => (List.mem_append.mp hp).elim (fun q => Nat.ne_of_lt (Nat.lt_trans (la p q) lb)) (hoff.ne (.tail _ (.head _)) p)
    have hb1 := toI_lo (Mine.E i)
    have hb2 := toI_hi (Mine.E i)
    have hpl : ((List.range i).map fun j => toI (Mine.E j)).length ≤ 255 := by rw [List.length_map, List.length_range]; omega
    k_steps
    unfold Halt
    (rename Fr _ _ _ _ => F3); (rename News _ _ _ _ => N3); (rename IntsAre _ _ => I3)
    refine set_second F3 N3 (Nat.ne_of_lt lb) o2 Ix hb1 (by unfold expoI; rw [List.length_map, expo_len]; exact hb2) (Int.lt_trans hb2 (by decide)) ?_
    intro h4 F4 N4 I4
    rw [expoI_succ hi] at I4
    clear F3 N3
    have e5 : (List.range (i + 1)).map (fun j => toI (Mine.E j)) = (List.range i).map (fun j => toI (Mine.E j)) ++ [toI (Mine.E i)] := by
      rw [List.range_succ, List.map_append]; rfl
    rw [← e5] at I3
    have hd := dbl (Mine.E i)
    k_steps
    all_goals unfold Halt
    · (rename Fr _ _ _ _ => F6); (rename News _ _ _ _ => N6)
      exact NumPost.end2 (rest := news) F6 N6 (by rw [E_succ, ← hd.1 (by omega)]; rfl) (by intro z z1 z2; simp only [if_neg z1, if_neg z2]) ⟨_, _, _, _, rfl, I3, I4⟩ rfl
    · (rename Fr _ _ _ _ => F6); (rename News _ _ _ _ => N6)
      exact NumPost.end2 (rest := news) F6 N6 (by rw [E_succ, ← hd.2 (by omega)]; rfl) (by intro z z1 z2; simp only [if_neg z1, if_neg z2]) ⟨_, _, _, _, rfl, I3, I4⟩ rfl
  · rintro vx ty nx h2 tk2 ⟨pv, pe, xv, xe, rfl, Ip, Ix⟩ F2 N2
    rw [pow_end] at Ip
    rw [expoI_end] at Ix
    k_steps
    exact hret _ _ _ _ _ _ _ _ _ (by assumption) (by assumption) la lb (by omega) Ip Ix
end Mine
end
section
open PySem PySem.W PyProof.Rows PySem.Spec PySem.Calls
set_option Elab.async false
set_option maxRecDepth 100000
set_option maxHeartbeats 0
namespace Mine
local macro_rules | `(tactic| k_room) => `(tactic| ktr_room)
local macro_rules | `(tactic| k_units) => `(tactic| ktr_units)
local macro_rules | `(tactic| k_all) => `(tactic| assumption)
local macro_rules | `(tactic| walk_at "loadName") => `(tactic| (k_here; k_dflt (refine' ldnCN ?N ?c ?m ?d ?_ ?x1 ?x2; (case N => k_asm); (case c => rfl); (case m => k_mem); (case d => k_asm); (case x1 => rfl); (case x2 => rfl); k_whole)))
local macro_rules | `(tactic| walk_at "call ref") => `(tactic| ((with_reducible show wpAny _ _ (call (Value.ref 563) _) _ _ _); refine Halt.go ?_))
local macro_rules | `(tactic| walk_at "execs cons") => `(tactic| ((with_reducible show wpAny _ _ (execs (Stmt.Assign [PySem.Expr.Name (Str.ofString "spots") _] _ _ :: _) _) _ _ _); refine Halt.go ?_))
theorem body_10 : ∀ {w : World} {loose : List Str} {mean : ExcName → Option Value} {mg mb : Str → Option Value} {p : Program} {dp un : Nat} {gd : Option (List Code)} {fa : Addr} {ccd : Value} {outer : List Env} {A₀ : Around} {base h₀ : Heap} {L : Addr} {m : Str → Option Value} {s : Shared} {Q : Flow → Shared → Prop} {E : Value → Shared → Prop} {c1 c2 c3 c4 c5 c6 c7 c8 c9 rl wl : Addr} {o4 o5 o6 o7 o8 o9 : Obj} {vs wv : List Value} {e we rm ec st sd : Nat} {lv : Int} {tl tr : Tok} {r0 : List B},
  Below A₀ base outer h₀ → Fr h₀ L s.heap (fun y => if y = Str.ofString "wished" then some (.ref wl) else if y = Str.ofString "level" then some (.int lv tl) else if y = Str.ofString "room" then some (.int (rm : Int) tr) else m y) → (hd.heap_39 w.params).In h₀ → News h₀ L s.heap [(rl, listOf (List.toArray vs) e), (435, tabObj #[]), (544, tabObj #[]), (c4, o4), (c5, o5), (c6, o6), (c7, o7), (c8, o8), (c9, o9), (wl, listOf (List.toArray wv) we)] → Top p loose mean mg mb h₀ → dp + 300 < recursionLimit → un + 3000 < cLine → PassesOwn (model PySem.Challenge.rw_bq0025_01.row.prog w) (ktrTop dp un gd (Str.ofString "law") lawS L fa ccd (lawCl c1 c2 c3 c4 c5 c6 c7 c8 c9) outer) (envX (Str.ofString "law") lawS L fa ccd (lawCl c1 c2 c3 c4 c5 c6 c7 c8 c9)) E →
  (∀ p ∈ [(435, tabObj #[]), (544, tabObj #[]), (c4, o4), (c5, o5), (c6, o6), (c7, o7), (c8, o8), (c9, o9), (wl, listOf (List.toArray wv) we)], p.1 ≠ rl) →
  @LT.lt Nat _ 544 c4 → @LT.lt Nat _ c4 c5 → @LT.lt Nat _ c5 c6 → @LT.lt Nat _ c6 c7 → @LT.lt Nat _ c7 c8 → @LT.lt Nat _ c8 c9 → @LT.lt Nat _ c9 rl → (@Ne Nat wl c4 ∧ @Ne Nat wl c5 ∧ @Ne Nat wl c6 ∧ @Ne Nat wl c7 ∧ @Ne Nat wl c8 ∧ @Ne Nat wl c9) →
  o4.data = .cell (some (.ref rl)) → o5.data = .cell none → o6.data = .cell none → o7.data = .cell none → o8.data = .cell none → o9.data = .cell none →
  IntsAre vs (r0.map toI) → IntsAre wv (natL (wishL rm st sd)) →
  Lev lv rm → 26 = rm + ec → 0 < sd → sd < 23 → HeadOk rm r0 → (∀ u ∈ lackN rm st sd, r0.getD u 0#8 = 0#8) → AllBare s.gens →
  (∀ s' m' ps1 ps2, Fr h₀ L s'.heap m' → News h₀ L s'.heap [(435, tabObj ps1), (544, tabObj ps2)] → AllBare s'.gens → s'.os = s.os → Q (.ret (.bool true)) s') →
  wpAny (model PySem.Challenge.rw_bq0025_01.row.prog w) (ktrTop dp un gd (Str.ofString "law") lawS L fa ccd (lawCl c1 c2 c3 c4 c5 c6 c7 c8 c9) outer) (execs (lawB.drop 10) (envX (Str.ofString "law") lawS L fa ccd (lawCl c1 c2 c3 c4 c5 c6 c7 c8 c9))) Q E s := by
  k_with_none
  w_top off
  k_fill
  intro w loose mean mg mb p dp un gd fa ccd outer A₀ base h₀ L m s Q E c1 c2 c3 c4 c5 c6 c7 c8 c9 rl wl o4 o5 o6 o7 o8 o9 vs wv e we rm ec st sd lv tl tr r0 B F X N T hdp hun hE hoff q4 q5 q6 q7 q8 q9 q10 q11 d4 d5 d6 d7 d8 d9 i4 i7 hlv hec hsd0 hsd1 hrow hz hbare hret
  have hE0 := hE
  conv in (occs := *) lawS => all_goals whnf
  conv at hE in (occs := *) lawS => all_goals whnf
  conv in (List.drop _ _) => whnf
  k_steps
  unfold Halt
  (rename Fr _ _ _ _ => F1); (rename News _ _ _ _ => N1)
  refine lf_c B F1 X N1 T rfl (by ktr_room) (by ktr_units) ?_
  intro tt pl xl pv xv pe xe h2 tk2 F2 N2 la lb lc ip ix
  have la2 := allLt_of la
  simp only [AllLt, and_true] at la2
  k_steps
  unfold Halt
  (rename Fr _ _ _ _ => F3); (rename News _ _ _ _ => N3)
  refine body_11 B (Fr.pull (x := Str.ofString "wished") (v := .ref wl) (Fr.pull (x := Str.ofString "level") (v := .int lv tl) (Fr.pull (x := Str.ofString "room") (v := .int (rm : Int) tr) F3 rfl) rfl) rfl) X (cb_drop N3 (by kcj_in)) T hdp hun hE0 ?hoff2 q4 q5 q6 q7 q8 q9 q10 (by omega) (by omega) q11 d4 (by assumption) (by assumption) d7 d8 d9 i4 ip ix i7 hlv hec hsd0 hsd1 hrow hz hbare hret
  have hwl : @Ne Nat wl rl := hoff (wl, listOf (List.toArray wv) we) (by repeat (first | exact List.Mem.head _ | refine List.Mem.tail _ ?_))
  repeat (refine List.forall_mem_cons.mpr ⟨by k_ne, ?_⟩)
  intro q hq
  cases hq
end Mine
end
section
open PySem PySem.W PyProof.Rows PySem.Spec PySem.Calls
set_option Elab.async false
set_option maxRecDepth 100000
set_option maxHeartbeats 0
namespace Mine
local macro_rules | `(tactic| k_room) => `(tactic| ktr_room)
local macro_rules | `(tactic| k_units) => `(tactic| ktr_units)
local macro_rules | `(tactic| k_all) => `(tactic| assumption)
local macro_rules | `(tactic| walk_at "loadName") => `(tactic| (k_here; k_dflt (refine' ldnCN ?N ?c ?m ?d ?_ ?x1 ?x2; (case N => k_asm); (case c => rfl); (case m => k_mem); (case d => k_asm); (case x1 => rfl); (case x2 => rfl); k_whole)))
local macro_rules | `(tactic| walk_at "pyIter ref") => `(tactic| ((with_reducible show wpAny _ _ (pyIter (Value.ref _)) _ _ _); refine Halt.go ?_))
local macro_rules | `(tactic| walk_at "exec For Name Name cons nil") => `(tactic| (k_here; (rename Fr _ _ _ _ => lF'); (with_unfolding_all refine' For_invVF lF' ?k1 ?k2 ?_; (case k1 => exact rfl); (case k2 => exact rfl); k_whole)))
local macro_rules | `(tactic| walk_at "setItem ref int") => `(tactic| ((with_reducible show wpAny _ _ (setItem (Value.ref _) (Value.int _ _) (Value.int _ _)) _ _ _); refine Halt.go ?_))
theorem at_wish {rm st sd k : Nat} (h : k < rm - 3) : (natL (wishL rm st sd))[((k : Int)).toNat]? = some (wishN rm st sd k : Int) := by
  unfold natL wishL
  rw [Int.toNat_natCast, List.getElem?_map, List.getElem?_map, List.getElem?_range h]
  rfl
theorem at_cell {ns : List Int} {k : Nat} (h : (k : Int) + 2 < (ns.length : Int)) : ns[((k : Int) + 2).toNat]? = some (ns.getD (k + 2) 0) := by
  have h2 : k + 2 < ns.length := by omega
  rw [show ((k : Int) + 2).toNat = k + 2 by omega, List.getElem?_eq_getElem h2, List.getD_eq_getElem?_getD, List.getElem?_eq_getElem h2]
  rfl
def ofI (v : Int) : B := BitVec.ofInt 8 v
theorem toI_ofI {v : Int} (h0 : 0 ≤ v) (h1 : v < 256) : toI (ofI v) = v := by
  unfold toI ofI
  rw [BitVec.toNat_ofInt]
  omega
theorem zeros_26 : (List.replicate (Int.toNat 26) [(0 : Int)]).flatten = (List.replicate 26 0#8).map toI := by decide +kernel
theorem set_ofI {row : List B} {k : Nat} {v : Int} (h0 : 0 ≤ v) (h1 : v < 256) : (row.map toI).set k v = (row.set k (ofI v)).map toI := by
  rw [List.map_set, toI_ofI h0 h1]
local macro_rules | `(tactic| walk_at "subscriptTail Name Name ref int") => `(tactic| (k_here; (with_reducible show wpAny _ _ (subscriptTail _ _ (Value.ref _) (Value.int _ _)) _ _ _); k_dflt (refine' item_at ?N ?m ?i ?x ?a ?b ?_ ?s; (case N => k_asm); (case m => repeat (first | exact List.Mem.head _ | refine List.Mem.tail _ ?_)); (case i => with_reducible assumption); (case x => first | assumption | exact at_wish (by omega) | exact at_cell (by omega)); (case a => first | omega | exact toI_lo _ | exact fmod_lo _ (by decide)); (case b => first | omega | exact Int.lt_trans (toI_hi _) (by decide) | exact Int.lt_trans (fmod_hi _ (by decide)) (by decide)); (case s => with_unfolding_all rfl); k_whole); intro _))
local macro_rules | `(tactic| walk_at "subscriptTail Name Constant ref int") => `(tactic| (k_here; (with_reducible show wpAny _ _ (subscriptTail _ _ (Value.ref _) (Value.int _ _)) _ _ _); k_dflt (refine' item_at ?N ?m ?i ?x ?a ?b ?_ ?s; (case N => k_asm); (case m => repeat (first | exact List.Mem.head _ | refine List.Mem.tail _ ?_)); (case i => with_reducible assumption); (case x => first | assumption | exact at_wish (by omega) | exact at_cell (by omega)); (case a => first | omega | exact toI_lo _ | exact fmod_lo _ (by decide)); (case b => first | omega | exact Int.lt_trans (toI_hi _) (by decide) | exact Int.lt_trans (fmod_hi _ (by decide)) (by decide)); (case s => with_unfolding_all rfl); k_whole); intro _))
local macro_rules | `(tactic| walk_at "subscriptTail Name BinOp ref int") => `(tactic| (k_here; (with_reducible show wpAny _ _ (subscriptTail _ _ (Value.ref _) (Value.int _ _)) _ _ _); k_dflt (refine' item_at ?N ?m ?i ?x ?a ?b ?_ ?s; (case N => k_asm); (case m => repeat (first | exact List.Mem.head _ | refine List.Mem.tail _ ?_)); (case i => with_reducible assumption); (case x => first | assumption | exact at_wish (by omega) | exact at_cell (by omega)); (case a => first | omega | exact toI_lo _ | exact fmod_lo _ (by decide)); (case b => first | omega | exact Int.lt_trans (toI_hi _) (by decide) | exact Int.lt_trans (fmod_hi _ (by decide)) (by decide)); (case s => with_unfolding_all rfl); k_whole); intro _))
theorem set_headO {prog : Program} {w : World} {A : Around} {E : Value → Shared → Prop} {s : Shared} {h₀ : Heap} {L le : Addr} {m : Str → Option Value} {tl : List (Addr × Obj)} {us : List Value} {ns : List Int} {e : Nat} {k x : Int} {t u : Tok} {Q : Unit → Shared → Prop}
    (F : Fr h₀ L s.heap m) (N : News h₀ L s.heap ((le, W.listOf (List.toArray us) e) :: tl)) (ho : ∀ p ∈ tl, p.1 ≠ le) (hi : IntsAre us ns) (h0 : 0 ≤ k) (h1 : k < ns.length) (hfit : k < 2 ^ 20)
    (h : ∀ h' us', Fr h₀ L h' m → News h₀ L h' ((le, W.listOf (List.toArray us') e) :: tl) → IntsAre us' (ns.set k.toNat x) → Q () { s with heap := h' }) :
    wpAny (model prog w) A (setItem (.ref le) (.int k t) (.int x u)) Q E s :=
  set_head F N ho hi h0 h1 hfit fun h' F' N' I' => h h' _ F' N' I'
/-- the row with its three written places -/
def row3 (rm : Nat) (a b c : B) : List B := (((List.replicate 26 0#8).set 0 a).set 1 b).set (rm - 1) c
theorem row3_len (rm : Nat) (a b c : B) : (row3 rm a b c).length = 26 := by unfold row3; simp
theorem row3_at {rm : Nat} {a b c : B} (h : 9 ≤ rm ∧ rm ≤ 19) (p : Nat) : (row3 rm a b c).getD p 0#8 = if p = rm - 1 then c else if p = 1 then b else if p = 0 then a else 0#8 := by
  unfold row3
  rw [getD_set (by simp; omega), getD_set (by simp), getD_set (by simp)]
  have hz : (List.replicate 26 0#8).getD p 0#8 = 0#8 := by
    rw [List.getD_eq_getElem?_getD, List.getElem?_replicate]
    split <;> rfl
  rw [hz]
/-- what the row keeps while the wished octets are written -/
def FillOk (rm st sd : Nat) (row : List B) : Prop := HeadOk rm row ∧ ∀ u ∈ lackN rm st sd, row.getD u 0#8 = 0#8
theorem FillOk.step {rm st sd k : Nat} {row : List B} (hr : Rm rm) (hk : k < rm - 3) (h : FillOk rm st sd row) (b : B) : FillOk rm st sd (row.set (wishN rm st sd k) b) := by
  have hw := wish_ok hr st sd k
  have hl : wishN rm st sd k < row.length := by rw [h.1.1]; exact hw.2.2.2
  refine ⟨⟨by rw [List.length_set]; exact h.1.1, ?_, ?_, ?_⟩, fun u hu => ?_⟩
  · rw [getD_set hl, if_neg (Ne.symm hw.1)]; exact h.1.2.1
  · rw [getD_set hl, if_neg (Ne.symm hw.2.1)]; exact h.1.2.2.1
  · rw [getD_set hl, if_neg (Ne.symm hw.2.2.1)]; exact h.1.2.2.2
  · have hne : u ≠ wishN rm st sd k := fun q => (lack_mem.mp hu).2 (by
      rw [q]; unfold knownN
      exact List.mem_cons_of_mem _ (List.mem_cons_of_mem _ (List.mem_cons_of_mem _ (List.mem_map.mpr ⟨k, List.mem_range.mpr hk, rfl⟩))))
    rw [getD_set hl, if_neg hne]; exact h.2 u hu
theorem FillOk.start {rm st sd : Nat} {a b c : B} (hr : Rm rm) (h0 : toI a = 64 + ((rm : Int) - 2) / 16) (h1 : toI b / 16 = ((rm : Int) - 2) % 16) (h2 : toI c % 16 = 0) : FillOk rm st sd (row3 rm a b c) := by
  have hr2 : 9 ≤ rm ∧ rm ≤ 19 := by unfold Rm at hr; omega
  refine ⟨⟨row3_len .., ?_, ?_, ?_⟩, fun u hu => ?_⟩
  · rw [row3_at hr2, if_neg (by omega), if_neg (by omega), if_pos rfl]; exact h0
  · rw [row3_at hr2, if_neg (by omega), if_pos rfl]; exact h1
  · rw [row3_at hr2, if_pos rfl]; exact h2
  · have q := (lack_mem.mp hu).2
    have n0 : u ≠ 0 := fun e => q (by rw [e]; unfold knownN; simp)
    have n1 : u ≠ 1 := fun e => q (by rw [e]; unfold knownN; simp)
    have n2 : u ≠ rm - 1 := fun e => q (by rw [e]; unfold knownN; simp)
    rw [row3_at hr2, if_neg n2, if_neg n1, if_neg n0]
theorem fmod16 (k : Int) : 0 ≤ k.fmod 16 ∧ k.fmod 16 < 16 := ⟨fmod_lo k (by decide), fmod_hi k (by decide)⟩
local macro_rules | `(tactic| walk_at "LedPost2") => `(tactic| ((with_reducible show LedPost2 _ _ _ _ _ _ _ _ _ _ _ _); refine Halt.go ?_))
theorem body_5 : ∀ {w : World} {loose : List Str} {mean : ExcName → Option Value} {mg mb : Str → Option Value} {p : Program} {dp un : Nat} {gd : Option (List Code)} {fa : Addr} {ccd : Value} {outer : List Env} {A₀ : Around} {base h₀ : Heap} {L : Addr} {m : Str → Option Value} {s : Shared} {Q : Flow → Shared → Prop} {E : Value → Shared → Prop} {c1 c2 c3 c4 c5 c6 c7 c8 c9 wl el : Addr} {o4 o5 o6 o7 o8 o9 : Obj} {wv cv : List Value} {we ee rm ec st sd : Nat} {lv : Int} {tl tr : Tok} {ns : List Int} {k0 : Int},
  Below A₀ base outer h₀ → Fr h₀ L s.heap (fun y => if y = Str.ofString "cells" then some (.ref el) else if y = Str.ofString "wished" then some (.ref wl) else if y = Str.ofString "level" then some (.int lv tl) else if y = Str.ofString "room" then some (.int (rm : Int) tr) else m y) → (hd.heap_39 w.params).In h₀ → News h₀ L s.heap [(435, tabObj #[]), (544, tabObj #[]), (c4, o4), (c5, o5), (c6, o6), (c7, o7), (c8, o8), (c9, o9), (wl, listOf (List.toArray wv) we), (el, listOf (List.toArray cv) ee)] → Top p loose mean mg mb h₀ → dp + 300 < recursionLimit → un + 3000 < cLine → PassesOwn (model PySem.Challenge.rw_bq0025_01.row.prog w) (ktrTop dp un gd (Str.ofString "law") lawS L fa ccd (lawCl c1 c2 c3 c4 c5 c6 c7 c8 c9) outer) (envX (Str.ofString "law") lawS L fa ccd (lawCl c1 c2 c3 c4 c5 c6 c7 c8 c9)) E →
  @LT.lt Nat _ 544 c4 → @LT.lt Nat _ c4 c5 → @LT.lt Nat _ c5 c6 → @LT.lt Nat _ c6 c7 → @LT.lt Nat _ c7 c8 → @LT.lt Nat _ c8 c9 → (@Ne Nat wl c4 ∧ @Ne Nat wl c5 ∧ @Ne Nat wl c6 ∧ @Ne Nat wl c7 ∧ @Ne Nat wl c8 ∧ @Ne Nat wl c9) → @LT.lt Nat _ c9 el →
  o4.data = .cell none → o5.data = .cell none → o6.data = .cell none → o7.data = .cell none → o8.data = .cell none → o9.data = .cell none →
  IntsAre wv (natL (wishL rm st sd)) → IntsAre cv ns → ns.length ≤ 64 → ns[0]? = some k0 →
  Lev lv rm → 26 = rm + ec → 0 < sd → sd < 23 → AllBare s.gens →
  (∀ s' m' ps1 ps2, Fr h₀ L s'.heap m' → News h₀ L s'.heap [(435, tabObj ps1), (544, tabObj ps2)] → AllBare s'.gens → s'.os = s.os → Q (.ret (.bool true)) s') →
  wpAny (model PySem.Challenge.rw_bq0025_01.row.prog w) (ktrTop dp un gd (Str.ofString "law") lawS L fa ccd (lawCl c1 c2 c3 c4 c5 c6 c7 c8 c9) outer) (execs (lawB.drop 5) (envX (Str.ofString "law") lawS L fa ccd (lawCl c1 c2 c3 c4 c5 c6 c7 c8 c9))) Q E s := by
  k_with_none
  w_top off
  k_fill
  intro w loose mean mg mb p dp un gd fa ccd outer A₀ base h₀ L m s Q E c1 c2 c3 c4 c5 c6 c7 c8 c9 wl el o4 o5 o6 o7 o8 o9 wv cv we ee rm ec st sd lv tl tr ns k0 B F X N T hdp hun hE q4 q5 q6 q7 q8 q9 q10 q11 d4 d5 d6 d7 d8 d9 i7 i8 hnl hk0 hlv hec hsd0 hsd1 hbare hret
  have hE0 := hE
  conv in (occs := *) lawS => all_goals whnf
  conv at hE in (occs := *) lawS => all_goals whnf
  conv in (List.drop _ _) => whnf
  have hrm : Rm rm := by unfold Lev at hlv; unfold Rm; omega
  have hr2 : 9 ≤ rm ∧ rm ≤ 19 := by unfold Rm at hrm; omega
  k_steps
  unfold Halt
  (rename Fr _ _ _ _ => F1); (rename News _ _ _ _ => N1); (rename IntsAre _ _ => I1)
  rw [zeros_26] at I1
  have e1 : (64 : Int) + ((rm : Int) - 2).fdiv 16 = 64 + ((rm : Int) - 2) / 16 := by rw [Int.fdiv_eq_ediv_of_nonneg _ (by decide)]
  have e2 : ((rm : Int) - 2).fmod 16 = ((rm : Int) - 2) % 16 := by rw [Int.fmod_eq_emod_of_nonneg _ (by decide)]
  have e3 := fmod16 (k0.fdiv 4)
  have e4 := fmod16 (k0.fdiv 64)
  refine' set_headO F1 N1 ?ho1 I1 ?a1 ?b1 ?c1 ?_
  case ho1 => (repeat (refine List.forall_mem_cons.mpr ⟨by k_ne, ?_⟩)); (intro q hq; cases hq)
  case a1 => decide
  case b1 => decide
  case c1 => decide
  intro h2 us2 F2 N2 I2
  clear F1 N1 I1
  rw [set_ofI (by omega) (by omega)] at I2
  k_steps
  unfold Halt
  (rename Fr _ _ _ _ => F3); (rename News _ _ _ _ => N3)
  refine' set_headO F3 N3 ?ho2 I2 ?a2 ?b2 ?c2 ?_
  case ho2 => (repeat (refine List.forall_mem_cons.mpr ⟨by k_ne, ?_⟩)); (intro q hq; cases hq)
  case a2 => decide
  case b2 => simp
  case c2 => decide
  intro h4 us4 F4 N4 I4
  clear F3 N3 I2
  rw [set_ofI (by omega) (by omega)] at I4
  k_steps
  unfold Halt
  (rename Fr _ _ _ _ => F5); (rename News _ _ _ _ => N5)
  refine' set_headO F5 N5 ?ho3 I4 ?a3 ?b3 ?c3 ?_
  case ho3 => (repeat (refine List.forall_mem_cons.mpr ⟨by k_ne, ?_⟩)); (intro q hq; cases hq)
  case a3 => omega
  case b3 => simp; omega
  case c3 => omega
  intro h6 us6 F6 N6 I6
  clear F5 N5 I4
  rw [set_ofI (by omega) (by omega), show ((rm : Int) - 1).toNat = rm - 1 by omega] at I6
  k_steps
  unfold Halt
  (rename Fr _ _ _ _ => F7); (rename News _ _ _ _ => N7); (rename IsRange _ _ _ _ _ _ _ _ => rgX)
  have hf : FillOk rm st sd (row3 rm (ofI (64 + ((rm : Int) - 2).fdiv 16)) (ofI (((rm : Int) - 2).fmod 16 * 16 + (k0.fdiv 4).fmod 16)) (ofI ((k0.fdiv 64).fmod 16 * 16))) :=
    FillOk.start hrm (by rw [toI_ofI (by omega) (by omega), e1]) (by rw [toI_ofI (by omega) (by omega), e2]; omega) (by rw [toI_ofI (by omega) (by omega)]; omega)
  obtain ⟨rl, us9, o4', N9, ⟨row9, I9, R9⟩, lr1, lr2, lr3, dr⟩ : ∃ (rl : Addr) (us9 : List Value) (o4' : Obj), News h₀ L _ [(rl, listOf (List.toArray us9) 0), (435, tabObj #[]), (544, tabObj #[]), (c4, o4'), (c5, o5), (c6, o6), (c7, o7), (c8, o8), (c9, o9), (wl, listOf (List.toArray wv) we), (el, listOf (List.toArray cv) ee)] ∧ (∃ row, IntsAre us9 (row.map toI) ∧ FillOk rm st sd row) ∧ @LT.lt Nat _ c9 rl ∧ @LT.lt Nat _ wl rl ∧ @LT.lt Nat _ el rl ∧ o4'.data = .cell (some (.ref rl)) :=
    ⟨_, _, _, cb_drop N7 (by kcj_in), ⟨_, I6, hf⟩, by omega, by omega, by omega, by assumption⟩
  clear N7 I6
  have er : ((rm : Int) - 3) = ((rm - 3 : Nat) : Int) := by omega
  rw [er] at rgX
  refine rng_led2 (n := rm - 3) (y := Str.ofString "k") (fun i nx => Chg (fun us => ∃ row, IntsAre us (row.map toI) ∧ FillOk rm st sd row) rl [(435, tabObj #[]), (544, tabObj #[]), (c4, o4'), (c5, o5), (c6, o6), (c7, o7), (c8, o8), (c9, o9), (wl, listOf (List.toArray wv) we), (el, listOf (List.toArray cv) ee)] nx) (by rfl) rgX (by omega) F7 N9 ⟨_, _, rfl, row9, I9, R9⟩ ?_ ?_
  · rintro i t vy nx h2 tk2 own hi ha hoff ⟨us, e', rfl, row, hI, hR⟩ F2 N2
    have ho : ∀ p ∈ ([(435, tabObj #[]), (544, tabObj #[]), (c4, o4'), (c5, o5), (c6, o6), (c7, o7), (c8, o8), (c9, o9), (wl, listOf (List.toArray wv) we), (el, listOf (List.toArray cv) ee)] : List (Addr × Obj)) ++ own, p.1 ≠ rl := by
      refine app_off (hoff.ne (.head _)) ?_
      repeat (refine List.forall_mem_cons.mpr ⟨by k_ne, ?_⟩)
      intro q hq; cases hq
    simp only [List.cons_append, List.nil_append] at N2 ho
    have hw := wish_ok hrm st sd i
    have hlen := hR.1.1
    k_steps
    all_goals unfold Halt
    all_goals (
      (rename Fr _ _ _ _ => F3); (rename News _ _ _ _ => N3)
      refine set_headO F3 N3 ho hI (by omega) (by rw [List.length_map]; omega) (by omega) ?_
      intro h4 us4 F4 N4 I4
      rw [Int.toNat_natCast, set_ofI (fmod_lo _ (by decide)) (fmod_hi _ (by decide))] at I4
      clear F3 N3
      k_steps
      unfold Halt
      (rename Fr _ _ _ _ => F5); (rename News _ _ _ _ => N5)
      exact Chg.end F5 N5 (by intro z z1 z2; simp only [if_neg z1]) ⟨_, I4, hR.step hrm hi _⟩)
  · rintro vx vy nx h2 tk2 ⟨us, e', rfl, row, hI, hR⟩ F2 N2
    refine body_10 B (Fr.pull (x := Str.ofString "wished") (v := .ref wl) (Fr.pull (x := Str.ofString "level") (v := .int lv tl) (Fr.pull (x := Str.ofString "room") (v := .int (rm : Int) tr) F2 rfl) rfl) rfl) X (cb_drop N2 (by kcj_in)) T hdp hun hE0 ?hoff2 q4 q5 q6 q7 q8 q9 lr1 q10 dr d5 d6 d7 d8 d9 hI i7 hlv hec hsd0 hsd1 hR.1 hR.2 hbare hret
    repeat (refine List.forall_mem_cons.mpr ⟨by k_ne, ?_⟩)
    intro q hq; cases hq
end Mine
end
section
open PySem PySem.W PyProof.Rows PySem.Spec PySem.Calls
set_option Elab.async false
set_option maxRecDepth 100000
set_option maxHeartbeats 0
namespace Mine
local macro_rules | `(tactic| k_room) => `(tactic| ktr_room)
local macro_rules | `(tactic| k_units) => `(tactic| ktr_units)
local macro_rules | `(tactic| k_all) => `(tactic| assumption)
local macro_rules | `(tactic| walk_at "loadName") => `(tactic| (k_here; k_dflt (refine' ldnCN ?N ?c ?m ?d ?_ ?x1 ?x2; (case N => k_asm); (case c => rfl); (case m => k_mem); (case d => k_asm); (case x1 => rfl); (case x2 => rfl); k_whole)))
local macro_rules | `(tactic| walk_at "subscriptTail Name Constant ref int") => `(tactic| (k_here; (with_reducible show wpAny _ _ (subscriptTail _ _ (Value.ref _) (Value.int _ _)) _ _ _); k_dflt (refine' item_at ?N ?m ?i ?x ?a ?b ?_ ?s; (case N => k_asm); (case m => repeat (first | exact List.Mem.head _ | refine List.Mem.tail _ ?_)); (case i => with_reducible assumption); (case x => assumption); (case a => first | omega | exact toI_lo _ | exact fmod_lo _ (by decide)); (case b => first | omega | exact Int.lt_trans (toI_hi _) (by decide) | exact Int.lt_trans (fmod_hi _ (by decide)) (by decide)); (case s => with_unfolding_all rfl); k_whole); intro _))
local macro_rules | `(tactic| walk_at "exec Assign cons ListComp") => `(tactic| ((with_reducible show wpAny _ _ (exec (Stmt.Assign _ (PySem.Expr.ListComp _ _ _ _) _) _) _ _ _); refine Halt.go ?_))
local macro_rules | `(tactic| walk_at "CompSrc") => `(tactic| ((with_reducible show LCg.CompSrc _ _ _ _ _ _ _ _ _ _ _ _ _ _); refine Halt.go ?_))
local macro_rules | `(tactic| walk_at "binaryOp Mult int int") => `(tactic| ((with_reducible show wpAny _ _ (binaryOp Operator.Mult (Value.int _ _) (Value.int _ _)) _ _ _); refine Halt.go ?_))
local macro_rules | `(tactic| walk_at "subscriptTail Name BinOp ref int") => `(tactic| ((with_reducible show wpAny _ _ (subscriptTail _ _ (Value.ref _) (Value.int _ _)) _ _ _); refine Halt.go ?_))
local macro_rules | `(tactic| walk_at "binaryOp Add ref ref") => `(tactic| ((with_reducible show wpAny _ _ (binaryOp Operator.Add (Value.ref _) (Value.ref _)) _ _ _); refine Halt.go ?_))
theorem free_ints {rm : Nat} (h : Rm rm) : rangeKs 2 ((rm : Int) - 1 - 2).toNat ++ rangeKs (rm : Int) (26 - (rm : Int)).toNat = natL (freeN rm) := by
  rcases h with rfl | rfl | rfl | rfl <;> decide +kernel
theorem at_free {rm st sd k : Nat} (h : Rm rm) : (natL (freeN rm))[((((st + sd * k) % 23 : Nat) : Int)).toNat]? = some (wishN rm st sd k : Int) := by
  have hl : (st + sd * k) % 23 < (freeN rm).length := by rw [(free_ok h).1]; omega
  unfold natL wishN
  rw [Int.toNat_natCast, List.getElem?_map, List.getElem?_eq_getElem hl, List.getD_eq_getElem?_getD, List.getElem?_eq_getElem hl]
  rfl
theorem wish_map {rm st sd : Nat} : (rangeKs 0 (rm - 3)).map (fun k => (wishN rm st sd k.toNat : Int)) = natL (wishL rm st sd) := by
  unfold rangeKs natL wishL
  rw [List.map_map, List.map_map]
  refine List.map_congr_left fun k _ => ?_
  simp
theorem small_bits : ((List.range 23).all fun n => decide (Builtin.Int.intBits (n : Int) ≤ 64)) = true := by decide +kernel
theorem small_bit {n : Nat} (h : n < 23) : Builtin.Int.intBits (n : Int) ≤ 64 := of_decide_eq_true (List.all_eq_true.mp small_bits n (by simpa using h))
theorem place_cast (st sd k : Nat) : ((st : Int) + (sd : Int) * (k : Int)).fmod 23 = (((st + sd * k) % 23 : Nat) : Int) := by
  rw [Int.fmod_eq_emod_of_nonneg _ (by decide), Int.natCast_emod, Int.natCast_add, Int.natCast_mul]
  rfl
theorem body_2 : ∀ {w : World} {loose : List Str} {mean : ExcName → Option Value} {mg mb : Str → Option Value} {p : Program} {dp un : Nat} {gd : Option (List Code)} {fa : Addr} {ccd : Value} {outer : List Env} {A₀ : Around} {base h₀ : Heap} {L : Addr} {m : Str → Option Value} {s : Shared} {Q : Flow → Shared → Prop} {E : Value → Shared → Prop} {c1 c2 c3 c4 c5 c6 c7 c8 c9 el : Addr} {o1 o2 o3 o4 o5 o6 o7 o8 o9 : Obj} {cv : List Value} {ee rm ec : Nat} {lv : Int} {tl tr : Tok} {ns : List Int} {k0 k1 : Int},
  Below A₀ base outer h₀ → Fr h₀ L s.heap (fun y => if y = Str.ofString "cells" then some (.ref el) else if y = Str.ofString "level" then some (.int lv tl) else if y = Str.ofString "room" then some (.int (rm : Int) tr) else m y) → (hd.heap_39 w.params).In h₀ → News h₀ L s.heap [(435, tabObj #[]), (544, tabObj #[]), (c1, o1), (c2, o2), (c3, o3), (c4, o4), (c5, o5), (c6, o6), (c7, o7), (c8, o8), (c9, o9), (el, listOf (List.toArray cv) ee)] → Top p loose mean mg mb h₀ → dp + 300 < recursionLimit → un + 3000 < cLine → PassesOwn (model PySem.Challenge.rw_bq0025_01.row.prog w) (ktrTop dp un gd (Str.ofString "law") lawS L fa ccd (lawCl c1 c2 c3 c4 c5 c6 c7 c8 c9) outer) (envX (Str.ofString "law") lawS L fa ccd (lawCl c1 c2 c3 c4 c5 c6 c7 c8 c9)) E →
  @LT.lt Nat _ 544 c1 → @LT.lt Nat _ c1 c2 → @LT.lt Nat _ c2 c3 → @LT.lt Nat _ c3 c4 → @LT.lt Nat _ c4 c5 → @LT.lt Nat _ c5 c6 → @LT.lt Nat _ c6 c7 → @LT.lt Nat _ c7 c8 → @LT.lt Nat _ c8 c9 → @LT.lt Nat _ c9 el →
  o1.data = .cell none → o2.data = .cell none → o3.data = .cell none → o4.data = .cell none → o5.data = .cell none → o6.data = .cell none → o7.data = .cell none → o8.data = .cell none → o9.data = .cell none →
  IntsAre cv ns → ns.length ≤ 64 → ns[0]? = some k0 → ns[1]? = some k1 →
  Lev lv rm → 26 = rm + ec → AllBare s.gens →
  (∀ s' m' ps1 ps2, Fr h₀ L s'.heap m' → News h₀ L s'.heap [(435, tabObj ps1), (544, tabObj ps2)] → AllBare s'.gens → s'.os = s.os → Q (.ret (.bool true)) s') →
  wpAny (model PySem.Challenge.rw_bq0025_01.row.prog w) (ktrTop dp un gd (Str.ofString "law") lawS L fa ccd (lawCl c1 c2 c3 c4 c5 c6 c7 c8 c9) outer) (execs (lawB.drop 2) (envX (Str.ofString "law") lawS L fa ccd (lawCl c1 c2 c3 c4 c5 c6 c7 c8 c9))) Q E s := by
  k_with_none
  w_top off
  k_fill
  intro w loose mean mg mb p dp un gd fa ccd outer A₀ base h₀ L m s Q E c1 c2 c3 c4 c5 c6 c7 c8 c9 el o1 o2 o3 o4 o5 o6 o7 o8 o9 cv ee rm ec lv tl tr ns k0 k1 B F X N T hdp hun hE q1 q2 q3 q4 q5 q6 q7 q8 q9 q11 d1 d2 d3 d4 d5 d6 d7 d8 d9 i8 hnl hk0 hk1 hlv hec hbare hret
  have hE0 := hE
  conv in (occs := *) lawS => all_goals whnf
  conv at hE in (occs := *) lawS => all_goals whnf
  conv in (List.drop _ _) => whnf
  have hrm : Rm rm := by unfold Lev at hlv; unfold Rm; omega
  have hr2 : 9 ≤ rm ∧ rm ≤ 19 := by unfold Rm at hrm; omega
  k_steps
  unfold Halt
  (rename Fr _ _ _ _ => F1); (rename News _ _ _ _ => N1)
  refine' add_K F1 N1 ?m1 ?m2 ?i1 ?i2 ?hz ?_
  case m1 => repeat (first | exact List.Mem.head _ | refine List.Mem.tail _ ?_)
  case m2 => repeat (first | exact List.Mem.head _ | refine List.Mem.tail _ ?_)
  case i1 => assumption
  case i2 => assumption
  case hz => rw [rangeKs_length, rangeKs_length]; omega
  intro fl h2 F2 N2 lf1 I2
  rw [free_ints hrm] at I2
  have lf2 := allLt_of lf1
  simp only [AllLt, and_true] at lf2
  clear F1 N1
  k_steps
  unfold Halt
  (rename Fr _ _ _ _ => F3); (rename News _ _ _ _ => N3)
  have s1 := fmod_lo k1 (n := 23) (by decide)
  have s2 := fmod_hi k1 (n := 23) (by decide)
  have s3 := fmod_lo (k1.fdiv 23) (n := 22) (by decide)
  have s4 := fmod_hi (k1.fdiv 23) (n := 22) (by decide)
  obtain ⟨st, est⟩ : ∃ st : Nat, (st : Int) = k1.fmod 23 := ⟨(k1.fmod 23).toNat, by omega⟩
  obtain ⟨sd, esd⟩ : ∃ sd : Nat, (sd : Int) = 1 + (k1.fdiv 23).fmod 22 := ⟨(1 + (k1.fdiv 23).fmod 22).toNat, by omega⟩
  have hsd0 : 0 < sd := by omega
  have hsd1 : sd < 23 := by omega
  have hst1 : st < 23 := by omega
  obtain ⟨fv, oa, ob, oc, ta, tb, N4, I4, da, db, dc⟩ : ∃ (fv : List Value) (oa ob oc : Obj) (ta tb : Tok), News h₀ L _ [(435, tabObj #[]), (544, tabObj #[]), (c1, oa), (c2, ob), (c3, oc), (c4, o4), (c5, o5), (c6, o6), (c7, o7), (c8, o8), (c9, o9), (el, listOf (List.toArray cv) ee), (fl, listOf (List.toArray fv) 0)] ∧ IntsAre fv (natL (freeN rm)) ∧ oa.data = .cell (some (.ref fl)) ∧ ob.data = .cell (some (.int (st : Int) ta)) ∧ oc.data = .cell (some (.int (sd : Int) tb)) :=
    ⟨_, _, _, _, _, _, cb_drop N3 (by kcj_in), I2, by assumption, by rw [est]; assumption, by rw [esd]; assumption⟩
  clear N3
  refine' LCg.Assign_ListComp_U F3 ?e1 ?e2 ?e3 ?e4 ?e5 ?e6 ?e7 ?e8 ?e9 ?_
  case e1 => rfl
  case e2 => with_unfolding_all rfl
  case e3 => with_unfolding_all rfl
  case e4 => decide
  case e5 => rfl
  case e6 => decide
  case e7 => rfl
  case e8 => rfl
  case e9 => rfl
  k_steps
  unfold Halt
  (rename Fr _ _ _ _ => F5); (rename News _ _ _ _ => N5); (rename IsRange _ _ _ _ _ _ _ _ => rgX)
  have er : ((rm : Int) - 3) = ((rm - 3 : Nat) : Int) := by omega
  rw [er] at rgX
  refine LCg.CompSrc.range (n := rm - 3) (by rfl) F5 N5 rgX (rsm (by omega)) (rsz _) (by rw [sizeLine_eq]; omega) ?_
  intro gH
  refine kcf_range (S := fun _ => True) (fun k => (wishN rm st sd k.toNat : Int)) ?_ ?_
  · intro k t I3 oI C oC D m₂ ys h6 tk6 E' hk1 hk2 hC hx F6 N6 off ne mk
    obtain ⟨kn, rfl⟩ : ∃ kn : Nat, k = (kn : Int) := ⟨k.toNat, by omega⟩
    refine post_halt ?_
    k_steps
    unfold Halt
    refine mul_int ?_ (IntMulOk.of_left (small_bit hsd1))
    k_steps
    unfold Halt
    rw [place_cast]
    (rename News _ _ _ _ => N8)
    refine' item_at N8 ?m ?i (at_free hrm) ?a ?b ?_ ?s
    case m => repeat (first | exact List.Mem.head _ | refine List.Mem.tail _ ?_)
    case i => exact I4
    case a => omega
    case b => omega
    case s => with_unfolding_all rfl
    intro tx
    k_steps
    exact kcf_el (by rw [Int.toNat_natCast]) rfl rfl
  · intro ys hys D h7 tk7 F7 N7 off7
    rw [wish_map] at hys
    simp only [LCg.Off1] at off7
    have q4' : @LT.lt Nat _ 544 c4 := by omega
    exact body_5 B (Fr.pull (x := Str.ofString "cells") (v := .ref el) (Fr.pull (x := Str.ofString "wished") (v := .ref D) (Fr.pull (x := Str.ofString "level") (v := .int lv tl) (Fr.pull (x := Str.ofString "room") (v := .int (rm : Int) tr) F7 rfl) rfl) rfl) rfl) X (cb_drop N7 (by kcj_in)) T hdp hun hE0 q4' q5 q6 q7 q8 q9 (by omega) q11 d4 d5 d6 d7 d8 d9 hys i8 hnl hk0 hlv hec hsd0 hsd1 hbare hret
end Mine
end
section
open PySem PySem.W PyProof.Rows PySem.Spec PySem.Calls
set_option Elab.async false
set_option maxRecDepth 100000
set_option maxHeartbeats 0
namespace Mine
local macro_rules | `(tactic| k_room) => `(tactic| ktr_room)
local macro_rules | `(tactic| k_units) => `(tactic| ktr_units)
local macro_rules | `(tactic| k_all) => `(tactic| assumption)
local macro_rules | `(tactic| walk_at "loadName") => `(tactic| (k_here; k_dflt (refine' ldnCN ?N ?c ?m ?d ?_ ?x1 ?x2; (case N => k_asm); (case c => rfl); (case m => k_mem); (case d => k_asm); (case x1 => rfl); (case x2 => rfl); k_whole)))
local macro_rules | `(tactic| walk_at "binaryOp Add ref ref") => `(tactic| ((with_reducible show wpAny _ _ (binaryOp Operator.Add (Value.ref _) (Value.ref _)) _ _ _); refine Halt.go ?_))
local macro_rules | `(tactic| walk_at "subscriptTail Name Constant ref int") => `(tactic| (k_here; (with_reducible show wpAny _ _ (subscriptTail _ _ (Value.ref _) (Value.int _ _)) _ _ _); k_dflt (refine' item_at ?N ?m ?i ?x ?a ?b ?_ ?s; (case N => k_asm); (case m => repeat (first | exact List.Mem.head _ | refine List.Mem.tail _ ?_)); (case i => with_reducible assumption); (case x => assumption); (case a => first | omega | exact toI_lo _ | exact fmod_lo _ (by decide)); (case b => first | omega | exact Int.lt_trans (toI_hi _) (by decide) | exact Int.lt_trans (fmod_hi _ (by decide)) (by decide)); (case s => with_unfolding_all rfl); k_whole); intro _))
local macro_rules | `(tactic| walk_at "execs cons") => `(tactic| ((with_reducible show wpAny _ _ (execs (Stmt.Assign [PySem.Expr.Name (Str.ofString "free") _] _ _ :: _) _) _ _ _); refine Halt.go ?_))
local macro_rules | `(tactic| walk_at "subscriptTail Name Slice ref ref") => `(tactic| (k_here; (with_reducible show wpAny _ _ (subscriptTail _ (PySem.Expr.Slice none (some _) none _) (Value.ref _) (Value.ref _)) _ _ _); k_dflt (refine' kmk_slice_ints ?F ?N ?l ?p ?q ?i ?m ?c ?_ ?s ?t ?z; (case F => k_asm); (case N => k_asm); (case l => exact Fr.lst (by k_asm) (by k_asm)); (case p => kmk_part); (case q => kmk_part); (case i => (with_reducible assumption)); (case m => exact kmk_upto (by with_reducible assumption) (by decide)); (case c => kmk_len); (case s => with_unfolding_all rfl); (case t => kmk_pure); (case z => exact kmk_sz (by with_reducible assumption) (by rw [sizeLine_eq]; omega))); intro D' ws' h' F' N' l1 hI' hC' hL'; (try simp only [Int.reduceNeg, Int.neg_neg, Int.reduceToNat] at hI' hC' hL'); (try k_lt l1); (try k_sweep)))
local macro_rules | `(tactic| walk_at "subscriptTail Name Slice ref ref") => `(tactic| ((with_reducible show wpAny _ _ (subscriptTail _ (PySem.Expr.Slice (some _) none none _) (Value.ref _) (Value.ref _)) _ _ _); refine Halt.go ?_))
theorem isl {h₀ h : Heap} {L l : Addr} {news : List (Addr × Obj)} {vs : List Value} {e : Nat} (N : News h₀ L h news) (hm : (l, W.listOf (List.toArray vs) e) ∈ news) : h.IsList l (List.toArray vs) := ⟨_, (N _ hm).1, rfl, _, rfl⟩
theorem cells_len (ns : List Int) : (ns.take 18 ++ ([0, 0] : List Int).drop (((ns.take 2).length : Int)).toNat).length ≤ 20 ∧ 2 ≤ (ns.take 18 ++ ([0, 0] : List Int).drop (((ns.take 2).length : Int)).toNat).length := by
  rw [List.length_append, List.length_drop, List.length_take, List.length_take, Int.toNat_natCast]
  simp only [List.length_cons, List.length_nil]
  omega
theorem body_0 : ∀ {w : World} {loose : List Str} {mean : ExcName → Option Value} {mg mb : Str → Option Value} {p : Program} {dp un : Nat} {gd : Option (List Code)} {fa : Addr} {ccd : Value} {outer : List Env} {A₀ : Around} {base h₀ : Heap} {L : Addr} {m : Str → Option Value} {s : Shared} {Q : Flow → Shared → Prop} {E : Value → Shared → Prop} {c1 c2 c3 c4 c5 c6 c7 c8 c9 scr : Addr} {o1 o2 o3 o4 o5 o6 o7 o8 o9 : Obj} {cv : List Value} {ns : List Int},
  Below A₀ base outer h₀ → Fr h₀ L s.heap (fun y => if y = Str.ofString "script" then some (.ref scr) else m y) → (hd.heap_39 w.params).In h₀ → News h₀ L s.heap [(435, tabObj #[]), (544, tabObj #[]), (c1, o1), (c2, o2), (c3, o3), (c4, o4), (c5, o5), (c6, o6), (c7, o7), (c8, o8), (c9, o9)] → Top p loose mean mg mb h₀ → dp + 300 < recursionLimit → un + 3000 < cLine → PassesOwn (model PySem.Challenge.rw_bq0025_01.row.prog w) (ktrTop dp un gd (Str.ofString "law") lawS L fa ccd (lawCl c1 c2 c3 c4 c5 c6 c7 c8 c9) outer) (envX (Str.ofString "law") lawS L fa ccd (lawCl c1 c2 c3 c4 c5 c6 c7 c8 c9)) E →
  @LT.lt Nat _ 544 c1 → @LT.lt Nat _ c1 c2 → @LT.lt Nat _ c2 c3 → @LT.lt Nat _ c3 c4 → @LT.lt Nat _ c4 c5 → @LT.lt Nat _ c5 c6 → @LT.lt Nat _ c6 c7 → @LT.lt Nat _ c7 c8 → @LT.lt Nat _ c8 c9 → h₀.IsList scr (List.toArray cv) →
  o1.data = .cell none → o2.data = .cell none → o3.data = .cell none → o4.data = .cell none → o5.data = .cell none → o6.data = .cell none → o7.data = .cell none → o8.data = .cell none → o9.data = .cell none →
  IntsAre cv ns → ns.length ≤ 64 →
  AllBare s.gens →
  (∀ s' m' ps1 ps2, Fr h₀ L s'.heap m' → News h₀ L s'.heap [(435, tabObj ps1), (544, tabObj ps2)] → AllBare s'.gens → s'.os = s.os → Q (.ret (.bool true)) s') →
  wpAny (model PySem.Challenge.rw_bq0025_01.row.prog w) (ktrTop dp un gd (Str.ofString "law") lawS L fa ccd (lawCl c1 c2 c3 c4 c5 c6 c7 c8 c9) outer) (execs (lawB.drop 0) (envX (Str.ofString "law") lawS L fa ccd (lawCl c1 c2 c3 c4 c5 c6 c7 c8 c9))) Q E s := by
  k_with_none
  w_top off
  k_fill
  intro w loose mean mg mb p dp un gd fa ccd outer A₀ base h₀ L m s Q E c1 c2 c3 c4 c5 c6 c7 c8 c9 scr o1 o2 o3 o4 o5 o6 o7 o8 o9 cv ns B F X N T hdp hun hE q1 q2 q3 q4 q5 q6 q7 q8 q9 hls d1 d2 d3 d4 d5 d6 d7 d8 d9 i8 hnl hbare hret
  have hE0 := hE
  conv in (occs := *) lawS => all_goals whnf
  conv at hE in (occs := *) lawS => all_goals whnf
  conv in (List.drop _ _) => whnf
  k_steps
  unfold Halt
  refine' kmk_slice_ints ?F8 ?N8 ?l8 ?p8 ?q8 ?i8 ?m8 ?c8 ?_ ?s8 ?t8 ?z8
  case F8 => k_asm
  case N8 => k_asm
  case l8 => exact isl (by k_asm) (by repeat (first | exact List.Mem.head _ | refine List.Mem.tail _ ?_))
  case p8 => kmk_part
  case q8 => kmk_part
  case i8 => exact IntsAre.cons _ _ (IntsAre.cons _ _ IntsAre.nil)
  case m8 => exact kmk_from (IntsAre.cons _ _ (IntsAre.cons _ _ IntsAre.nil)) (by omega)
  case c8 => kmk_len
  case s8 => with_unfolding_all rfl
  case t8 => kmk_pure
  case z8 => exact Nat.le_of_ble_eq_true rfl
  intro D' ws' h' F' N' l1 hI' hC' hL'
  simp only [Int.reduceNeg] at *
  k_lt l1
  k_steps
  unfold Halt
  (rename Fr _ _ _ _ => F1); (rename News _ _ _ _ => N1)
  refine' add_K F1 N1 ?m1 ?m2 ?i1 ?i2 ?hz ?_
  case m1 => repeat (first | exact List.Mem.head _ | refine List.Mem.tail _ ?_)
  case m2 => repeat (first | exact List.Mem.head _ | refine List.Mem.tail _ ?_)
  case i1 => assumption
  case i2 => assumption
  case hz =>
    have q := (cells_len ns).1
    rw [List.length_append] at q
    omega
  have hcl := cells_len ns
  generalize ns.take 18 ++ ([0, 0] : List Int).drop (((ns.take 2).length : Int)).toNat = ms at hcl ⊢
  intro el h2 F2 N2 lf1 I2
  have lf2 := allLt_of lf1
  simp only [AllLt, and_true] at lf2
  obtain ⟨k0, hk0⟩ : ∃ k0, ms[0]? = some k0 := ⟨_, List.getElem?_eq_getElem (by omega)⟩
  obtain ⟨k1, hk1⟩ : ∃ k1, ms[1]? = some k1 := ⟨_, List.getElem?_eq_getElem (by omega)⟩
  have N3 : News h₀ L _ [(435, tabObj #[]), (544, tabObj #[]), (c1, o1), (c2, o2), (c3, o3), (c4, o4), (c5, o5), (c6, o6), (c7, o7), (c8, o8), (c9, o9), (el, listOf (List.toArray _) 0)] := cb_drop N2 (by kcj_in)
  clear N1 F1 N2
  have q10 : @LT.lt Nat _ c9 el := by omega
  have hml : ms.length ≤ 64 := by omega
  k_steps
  all_goals unfold Halt
  all_goals ((rename Fr _ _ _ _ => F9); (rename News _ _ _ _ => N9))
  · exact body_2 (rm := 19) (ec := 7) (lv := 1) B (Fr.pull (x := Str.ofString "cells") (v := .ref el) (Fr.pull (x := Str.ofString "level") (v := .int 1 _) (Fr.pull (x := Str.ofString "room") (v := .int ((19 : Nat) : Int) _) F9 rfl) rfl) rfl) X (cb_drop N9 (by kcj_in)) T hdp hun hE0 q1 q2 q3 q4 q5 q6 q7 q8 q9 q10 d1 d2 d3 d4 d5 d6 d7 d8 d9 I2 hml hk0 hk1 (.inl ⟨rfl, rfl⟩) rfl hbare hret
  · exact body_2 (rm := 16) (ec := 10) (lv := 0) B (Fr.pull (x := Str.ofString "cells") (v := .ref el) (Fr.pull (x := Str.ofString "level") (v := .int 0 _) (Fr.pull (x := Str.ofString "room") (v := .int ((16 : Nat) : Int) _) F9 rfl) rfl) rfl) X (cb_drop N9 (by kcj_in)) T hdp hun hE0 q1 q2 q3 q4 q5 q6 q7 q8 q9 q10 d1 d2 d3 d4 d5 d6 d7 d8 d9 I2 hml hk0 hk1 (.inr (.inl ⟨rfl, rfl⟩)) rfl hbare hret
  · exact body_2 (rm := 13) (ec := 13) (lv := 3) B (Fr.pull (x := Str.ofString "cells") (v := .ref el) (Fr.pull (x := Str.ofString "level") (v := .int 3 _) (Fr.pull (x := Str.ofString "room") (v := .int ((13 : Nat) : Int) _) F9 rfl) rfl) rfl) X (cb_drop N9 (by kcj_in)) T hdp hun hE0 q1 q2 q3 q4 q5 q6 q7 q8 q9 q10 d1 d2 d3 d4 d5 d6 d7 d8 d9 I2 hml hk0 hk1 (.inr (.inr (.inl ⟨rfl, rfl⟩))) rfl hbare hret
  · exact body_2 (rm := 9) (ec := 17) (lv := 2) B (Fr.pull (x := Str.ofString "cells") (v := .ref el) (Fr.pull (x := Str.ofString "level") (v := .int 2 _) (Fr.pull (x := Str.ofString "room") (v := .int ((9 : Nat) : Int) _) F9 rfl) rfl) rfl) X (cb_drop N9 (by kcj_in)) T hdp hun hE0 q1 q2 q3 q4 q5 q6 q7 q8 q9 q10 d1 d2 d3 d4 d5 d6 d7 d8 d9 I2 hml hk0 hk1 (.inr (.inr (.inr ⟨rfl, rfl⟩))) rfl hbare hret
end Mine
end
section
open PySem PySem.W PyProof.Rows
set_option Elab.async false
set_option maxRecDepth 100000
set_option maxHeartbeats 0
namespace Mine
theorem CellsAre.split {cm : Str → Option Value} {n : Str} {c : Addr} {cs : List (Str × Addr)} {cells : List (Addr × Obj)} (x : CellsAre cm ((n, c) :: cs) cells) : ∃ o rest, cells = (c, o) :: rest ∧ o.data = .cell (cm n) ∧ CellsAre cm cs rest := by
  cases x with | cons h r => exact ⟨_, _, rfl, h, r⟩
theorem CellsAre.done {cm : Str → Option Value} {cells : List (Addr × Obj)} (x : CellsAre cm [] cells) : cells = [] := by
  cases x; rfl
local macro_rules | `(tactic| cells_open $x) => `(tactic| skip)
/-- the law gave True, the tables have grown, nothing else that stood has changed -/
def Told (tabs : List (Addr × Addr)) (s₁ : Shared) (r : Result) (s' : Shared) : Prop :=
  r = .ok (.ret (.bool true)) ∧ (∀ b o, (ghostOf s₁.heap tabs).get? b = some o → s'.heap.get? b = some o) ∧ GrownAll tabs s'.heap ∧ s'.os = s₁.os ∧ AllBare s'.gens
theorem my_post {M : Model} {A : Around} {cd : Code} {s s₁ : Shared} {cw : ClaimW} {cl : Str → Option Addr} {mean : ExcName → Option Value} {args : List WData} {tabs : List (Addr × Addr)} (hT : TabsAt tabs s₁.heap) (hr : ∀ x, cw.raises args x = false) (hp : cw.post args (.bool true) args = true)
    (h : codeAny M A cd (Told tabs s₁) s) : codeAny M A cd (GoodWG cw cl mean args s₁) s :=
  codeAny_mono h fun r s' ⟨e, hk, hg, hos, hb⟩ => by
    subst e
    have keep : ∀ b o, b ∉ tabs.map (·.2) → s₁.heap.get? b = some o → s'.heap.get? b = some o := fun b o hb e => hk b o (ghost_ne e hb)
    have tab : ∀ b o, b ∈ tabs.map (·.2) → s₁.heap.get? b = some o → isCodeTable s₁.heap b ∧ o = tabObj #[] ∧ ∃ ps, s'.heap.get? b = some (tabObj ps) := fun b o hb e => by
      obtain ⟨q, hq, rfl⟩ := List.mem_map.mp hb
      have t := hT q hq
      exact ⟨(t.1.tab t.2).isCodeTable, Option.some.inj (e.symm.trans t.2), hg.get q hq⟩
    refine ⟨.inl ⟨_, .bool true, [], rfl, hr, .bool true, hp, fun _ => ⟨.nil, fun _ ha => nomatch ha⟩⟩, ⟨fun b o e => ?_, fun b o e => ?_⟩, hos, hb⟩
    · by_cases hm : b ∈ tabs.map (·.2)
      · obtain ⟨ht, rfl, ps, hP⟩ := tab b o hm e
        exact .inr (.inl ⟨ht, rfl, #[], ps, rfl, by rw [Array.empty_append]; exact hP⟩)
      · exact .inl (keep b o hm e)
    · by_cases hm : b ∈ tabs.map (·.2)
      · obtain ⟨_, _, ps, hP⟩ := tab b o hm e
        exact ⟨_, hP⟩
      · exact ⟨o, keep b o hm e⟩
theorem law_holds : PySem.Challenge.rw_bq0025_01.Holds := hd (by
  k_with_none
  w_top off
  k_fill
  intro w s₀ s₁ mg mb G Y fa o pm cd doc dV kV ho hd hcd hD hmg hg args vals as hpre hlay hrd hwl hlo
  have KX := kIn_of Y
  have X := (Ground.X G).1
  have V := (Ground.X G).2
  refine Ground.open G ?_
  intro T B D TE TW
  try (refine guard_noD D (by decide +kernel) ?_; clear D)
  have hT9 : TabsAt [((439 : Addr), (435 : Addr)), ((548 : Addr), (544 : Addr))] _ := List.forall_mem_cons.mpr ⟨tab_of (x := Str.ofString "optimal_mode") (c := 439) (P := 435) T KX rfl (by kernel_rfl), List.forall_mem_cons.mpr ⟨tab_of (x := Str.ofString "create_data") (c := 548) (P := 544) T KX rfl (by kernel_rfl), fun _ h => nomatch h⟩⟩
  clear hmg
  wrow_args hpre hlay hrd hwl hlo
  all_goals (
    first | refine callC_kw (enter_call ?_) | refine enter_call ?_
    w_top on
    refine my_post hT9 (fun _ => rfl) ?hpost ?_
    case hpost => wrow_post
    w_call any ho hd hcd hD T F
    clear hd
    kn_ghosts F T
    k_drop
    skip)
  (rename Heap.IsList _ _ _ => hls); (rename IntsAre _ _ => hI); (rename CellsAre _ _ _ => x0); (rename News _ _ _ _ => N0); (rename Fr _ _ _ _ => F0); (rename Frag.In _ _ => X0); (rename Top _ _ _ _ _ _ => T0); (rename Below _ _ _ _ => B0)
  obtain ⟨o9, r1, e1, d9, x1⟩ := CellsAre.split x0
  obtain ⟨o8, r2, e2, d8, x2⟩ := CellsAre.split x1
  obtain ⟨o7, r3, e3, d7, x3⟩ := CellsAre.split x2
  obtain ⟨o6, r4, e4, d6, x4⟩ := CellsAre.split x3
  obtain ⟨o5, r5, e5, d5, x5⟩ := CellsAre.split x4
  obtain ⟨o4, r6, e6, d4, x6⟩ := CellsAre.split x5
  obtain ⟨o3, r7, e7, d3, x7⟩ := CellsAre.split x6
  obtain ⟨o2, r8, e8, d2, x8⟩ := CellsAre.split x7
  obtain ⟨o1, r9, e9, d1, x9⟩ := CellsAre.split x8
  have e10 := CellsAre.done x9
  subst e10 e9 e8 e7 e6 e5 e4 e3 e2 e1
  have l4 : @LT.lt Nat _ 544 s₁.heap.objs.size := Heap.lt_size (hT9 (548, 544) (.tail _ (.head _))).2
  have N1 : News (ghostOf s₁.heap [(439, 435), (548, 544)]) s₁.heap.objs.size _ [(435, tabObj #[]), (544, tabObj #[]), (s₁.heap.objs.size + 1, o1), (s₁.heap.objs.size + 1 + 1, o2), (s₁.heap.objs.size + 1 + 1 + 1, o3), (s₁.heap.objs.size + 1 + 1 + 1 + 1, o4), (s₁.heap.objs.size + 1 + 1 + 1 + 1 + 1, o5), (s₁.heap.objs.size + 1 + 1 + 1 + 1 + 1 + 1, o6), (s₁.heap.objs.size + 1 + 1 + 1 + 1 + 1 + 1 + 1, o7), (s₁.heap.objs.size + 1 + 1 + 1 + 1 + 1 + 1 + 1 + 1, o8), (s₁.heap.objs.size + 1 + 1 + 1 + 1 + 1 + 1 + 1 + 1 + 1, o9)] := cb_drop N0 (by kcj_in)
  have f1 : o1.data = .cell none := d1
  have f2 : o2.data = .cell none := d2
  have f3 : o3.data = .cell none := d3
  have f4 : o4.data = .cell none := d4
  have f5 : o5.data = .cell none := d5
  have f6 : o6.data = .cell none := d6
  have f7 : o7.data = .cell none := d7
  have f8 : o8.data = .cell none := d8
  have f9 : o9.data = .cell none := d9
  have F1 := Fr.pull (x := Str.ofString "script") F0 rfl
  refine body_0 B0 F1 X0 N1 T0 ?room ?units ?own (by omega) (by omega) (by omega) (by omega) (by omega) (by omega) (by omega) (by omega) (by omega) hls f1 f2 f3 f4 f5 f6 f7 f8 f9 hI (by omega) (AllBare.of_eq hg) ?_
  case room => decide
  case units => decide
  case own => exact PassesOwn.leaving
  intro s' m' ps1 ps2 F2 N2 hb hos
  exact ⟨rfl, F2.keep, ⟨⟨ps1, (N2 _ (.head _)).1⟩, ⟨ps2, (N2 _ (.tail _ (.head _))).1⟩, True.intro⟩, hos, hb⟩)
end Mine
end
theorem PySem.Challenge.cw_bq0025_01_holds : PySem.Challenge.rw_bq0025_01.Holds :=
  Mine.law_holds
