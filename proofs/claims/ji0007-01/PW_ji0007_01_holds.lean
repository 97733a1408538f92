import PyProof.Rows.All
import Wide.All
import OpenK.AllK
import Wide.FinOn
import PySem.Challenge.RW_ji0007_01
open PySem PySem.W PyProof.Rows
set_option Elab.async false
set_option linter.unusedVariables false
set_option linter.unusedSimpArgs false
set_option maxRecDepth 100000
set_option maxHeartbeats 4000000

namespace Mine
open_top hd for PySem.Challenge.rw_ji0007_01
end Mine

namespace Mine
/-- the program that the law is run in -/
abbrev PR : Program := PySem.Challenge.rw_ji0007_01.row.prog
section
variable (w : World) (mg mb : Str → Option Value) (mean : ExcName → Option Value)
/-- a contract of a def that hands back one int -/
abbrev IClaim (lv : Nat) (f : Addr) (pre : Prop) (vs : List Value) (R : Tok → Value) : Prop :=
  ∀ (news : List (Addr × Obj)) (dp un : Nat) (gd : Option (List Code)) (cn : Str) (cs : Scope) (a : Addr) (ccd : Value) (cl : List (Str × Addr)) (outer : List Env) (A₀ : Around) (base h₀ : Heap) (L : Addr) (m : Str → Option Value) (s : Shared) (Q E : Value → Shared → Prop),
    Below A₀ base outer h₀ → Fr h₀ L s.heap m → (hd.heap_39 w.params).In h₀ → News h₀ L s.heap news → Top hd.view_39 (looseW hd.view_39 []) mean mg mb h₀ → cs.kind = .function → pre →
    dp + lv < recursionLimit → un + 10 * lv < cLine →
    (∀ (t : Tok) (h' : Heap) (tk' : Nat), Fr h₀ L h' m → News h₀ L h' news → Q (R t) { s with heap := h', toks := tk' }) →
      wpAny (model PR w) (ktrTop dp un gd cn cs L a ccd cl outer) (call (.ref f) vs) Q E s
abbrev tup2 (x y : Int) (t1 t2 : Tok) (c : Nat) : Obj := { cls := .type "tuple", data := .seq #[.int x t1, .int y t2] c }
/-- a contract of a def that hands back a new pair of ints -/
abbrev TClaim (lv : Nat) (f : Addr) (pre : Prop) (vs : List Value) (r1 r2 : Int) : Prop :=
  ∀ (news : List (Addr × Obj)) (dp un : Nat) (gd : Option (List Code)) (cn : Str) (cs : Scope) (a : Addr) (ccd : Value) (cl : List (Str × Addr)) (outer : List Env) (A₀ : Around) (base h₀ : Heap) (L : Addr) (m : Str → Option Value) (s : Shared) (Q E : Value → Shared → Prop),
    Below A₀ base outer h₀ → Fr h₀ L s.heap m → (hd.heap_39 w.params).In h₀ → News h₀ L s.heap news → Top hd.view_39 (looseW hd.view_39 []) mean mg mb h₀ → cs.kind = .function → pre →
    dp + lv < recursionLimit → un + 10 * lv < cLine →
    (∀ (D : Addr) (t1 t2 : Tok) (c : Nat) (h' : Heap) (tk' : Nat), Fr h₀ L h' m → News h₀ L h' ((D, tup2 r1 r2 t1 t2 c) :: news) → (∀ p ∈ news, p.1 < D) → Q (.ref D) { s with heap := h', toks := tk' }) →
      wpAny (model PR w) (ktrTop dp un gd cn cs L a ccd cl outer) (call (.ref f) vs) Q E s
end
section
variable {w : World} {mg mb : Str → Option Value} {mean : ExcName → Option Value} {lv : Nat} {f : Addr} {pre : Prop} {vs : List Value} {R : Tok → Value} {r1 r2 : Int} {news : List (Addr × Obj)} {dp un : Nat} {gd : Option (List Code)} {cn : Str} {cs : Scope} {a : Addr} {ccd : Value} {cl : List (Str × Addr)} {outer : List Env} {A₀ : Around} {base h₀ : Heap} {L : Addr} {m : Str → Option Value} {s : Shared} {Q E : Value → Shared → Prop}
theorem IClaim.use (C : IClaim w mg mb mean lv f pre vs R) (hB : Below A₀ base outer h₀) (hF : Fr h₀ L s.heap m) (hX : (hd.heap_39 w.params).In h₀) (hN : News h₀ L s.heap news) (hT : Top hd.view_39 (looseW hd.view_39 []) mean mg mb h₀) (hk : cs.kind = .function) (hp : pre)
    (h1 : dp + lv < recursionLimit) (h2 : un + 10 * lv < cLine)
    (hr : ∀ (t : Tok) (h' : Heap) (tk' : Nat), Fr h₀ L h' m → News h₀ L h' news → Q (R t) { s with heap := h', toks := tk' }) :
    wpAny (model PR w) (ktrTop dp un gd cn cs L a ccd cl outer) (call (.ref f) vs) Q E s := C _ _ _ _ _ _ _ _ _ _ _ _ _ _ _ _ _ _ hB hF hX hN hT hk hp h1 h2 hr
theorem TClaim.use (C : TClaim w mg mb mean lv f pre vs r1 r2) (hB : Below A₀ base outer h₀) (hF : Fr h₀ L s.heap m) (hX : (hd.heap_39 w.params).In h₀) (hN : News h₀ L s.heap news) (hT : Top hd.view_39 (looseW hd.view_39 []) mean mg mb h₀) (hk : cs.kind = .function) (hp : pre)
    (h1 : dp + lv < recursionLimit) (h2 : un + 10 * lv < cLine)
    (hr : ∀ (D : Addr) (t1 t2 : Tok) (c : Nat) (h' : Heap) (tk' : Nat), Fr h₀ L h' m → News h₀ L h' ((D, tup2 r1 r2 t1 t2 c) :: news) → (∀ p ∈ news, p.1 < D) → Q (.ref D) { s with heap := h', toks := tk' }) :
    wpAny (model PR w) (ktrTop dp un gd cn cs L a ccd cl outer) (call (.ref f) vs) Q E s := C _ _ _ _ _ _ _ _ _ _ _ _ _ _ _ _ _ _ hB hF hX hN hT hk hp h1 h2 hr
end
theorem fm {x n : Int} (h : 0 < n) : x.fmod n = x % n := Int.fmod_eq_emod_of_nonneg _ (Int.le_of_lt h)
theorem fd {x n : Int} (h : 0 < n) : x.fdiv n = x / n := Int.fdiv_eq_ediv_of_nonneg _ (Int.le_of_lt h)
theorem sh1 {x : Int} : x.fdiv (2 ^ Int.toNat 1) = x / 2 := Int.fdiv_eq_ediv_of_nonneg _ (by decide)
/-- what the law builds: a ring's numbers -/
structure Ok (a q b h : Int) : Prop where
  ha : a = 2 * h
  hh : 1 ≤ h
  hb : 3 ≤ b
  hq : q = b * a + 1
  la : h ≤ 10 ^ 31
  lb : b ≤ 10 ^ 31
def redF (r n : Int) : Int := if n / 2 < r % n then r % n - n else r % n
def hiF (r a q : Int) : Int := if r % q - redF (r % q) a = q - 1 then 0 else (r % q - redF (r % q) a) / a
def loF (r a q : Int) : Int := if r % q - redF (r % q) a = q - 1 then redF (r % q) a - 1 else redF (r % q) a
def apF (v c a q : Int) : Int := min ((v - c * a) % q) (q - (v - c * a) % q)
def useF (h r a q : Int) : Int := if h = 1 then (if 0 < loF r a q then (hiF r a q + 1) % ((q - 1) / a) else (hiF r a q - 1) % ((q - 1) / a)) else hiF r a q
theorem Ok.a_pos {a q b h : Int} (o : Ok a q b h) : 0 < a := by have := o.ha; have := o.hh; omega
theorem Ok.q_pos {a q b h : Int} (o : Ok a q b h) : 0 < q := by
  have h1 : 0 ≤ b * a := Int.mul_nonneg (by have := o.hb; omega) (Int.le_of_lt o.a_pos)
  have := o.hq; omega
theorem Ok.m_is {a q b h : Int} (o : Ok a q b h) : (q - 1) / a = b := by
  rw [o.hq, Int.add_sub_cancel]; exact Int.mul_ediv_cancel _ (Int.ne_of_gt o.a_pos)
theorem Ok.q_top {a q b h : Int} (o : Ok a q b h) : q ≤ 10 ^ 64 := by
  have h1 := Int.mul_le_mul o.lb (show a ≤ 2 * 10 ^ 31 by have := o.ha; have := o.la; omega) (Int.le_of_lt o.a_pos) (by decide)
  have h2 := o.hq
  rw [h2]
  refine Int.le_trans (Int.add_le_add_right h1 1) ?_
  decide
def PyOk (a : Int) : Prop := ∀ x, Builtin.divisionGoesByPylong x a = false
theorem PyOk.at {a x : Int} {R : Prop} (h : PyOk a) : Builtin.divisionGoesByPylong x a = false ∨ R := .inl (h x)
theorem natAbs_le_pow {a : Int} (h1 : -10 ^ 70 ≤ a) (h2 : a ≤ 10 ^ 70) : a.natAbs < 2 ^ 300 := by omega
theorem log2_lt {n k : Nat} (h : n < 2 ^ k) (hk : 0 < k) : n.log2 < k := by
  by_cases h0 : n = 0
  · subst h0; simpa using hk
  · exact (Nat.log2_lt h0).mpr h
theorem pyOk {a : Int} (h1 : -10 ^ 70 ≤ a) (h2 : a ≤ 10 ^ 70) : PyOk a := fun _ =>
  PyProof.noPylong_of_log2 (Nat.lt_trans (log2_lt (natAbs_le_pow h1 h2) (by decide)) (by decide))
theorem mulOk {a b : Int} (h1 : -10 ^ 70 ≤ a) (h2 : a ≤ 10 ^ 70) (h3 : -10 ^ 70 ≤ b) (h4 : b ≤ 10 ^ 70) : IntMulOk a b := by
  have key : ∀ x : Int, x.natAbs < 2 ^ 300 → Builtin.Int.intBits x ≤ 300 := fun x hx => by
    have := log2_lt hx (by decide)
    unfold Builtin.Int.intBits
    split <;> omega
  exact mulOk_of_bits (key a (natAbs_le_pow h1 h2)) (key b (natAbs_le_pow h3 h4)) (by decide)
theorem tup_ret {h₀ h' : Heap} {L D : Addr} {m : Str → Option Value} {news : List (Addr × Obj)} {s : Shared} {Q : Value → Shared → Prop} {r1 r2 y1 y2 : Int} {t1 t2 : Tok} {c : Nat} {tk' : Nat}
    (hret : ∀ (D : Addr) (t1 t2 : Tok) (c : Nat) (h' : Heap) (tk' : Nat), Fr h₀ L h' m → News h₀ L h' ((D, tup2 r1 r2 t1 t2 c) :: news) → (∀ p ∈ news, p.1 < D) → Q (.ref D) { s with heap := h', toks := tk' })
    (e1 : y1 = r1) (e2 : y2 = r2) (F : Fr h₀ L h' m) (N : News h₀ L h' ((D, tup2 y1 y2 t1 t2 c) :: news)) (l : ∀ p ∈ news, p.1 < D) : Q (.ref D) { s with heap := h', toks := tk' } := by
  subst e1; subst e2
  exact hret _ _ _ _ _ _ F N l
end Mine

namespace Mine
section
variable {a q b h : Int}
theorem emod_one {p a c r : Int} (e : p = c * a + r) (h0 : 0 ≤ r) (h1 : r < a) : p % a = r := by
  subst e
  rw [Int.add_comm, Int.add_mul_emod_self_right]
  exact Int.emod_eq_of_lt h0 h1
theorem Ok.ba (o : Ok a q b h) : 3 * a ≤ b * a := Int.mul_le_mul_of_nonneg_right o.hb (Int.le_of_lt o.a_pos)
theorem Ok.half (o : Ok a q b h) : a / 2 = h := by have := o.ha; omega
theorem Ok.place0 (o : Ok a q b h) (v : Int) : 0 ≤ v % q := Int.emod_nonneg _ (Int.ne_of_gt o.q_pos)
theorem Ok.place1 (o : Ok a q b h) (v : Int) : v % q < q := Int.emod_lt_of_pos _ o.q_pos
theorem split_at (o : Ok a q b h) {p : Int} (h0 : 0 ≤ p) (h1 : p < q) :
    0 ≤ (p + h - 1) / a ∧ (p + h - 1) / a ≤ b ∧ -h < p - (p + h - 1) / a * a ∧ p - (p + h - 1) / a * a ≤ h := by
  have ha := o.ha
  have hh := o.hh
  have hq := o.hq
  have l1 := Int.ediv_mul_le (p + h - 1) (Int.ne_of_gt o.a_pos)
  have l2 := Int.lt_ediv_add_one_mul_self (p + h - 1) o.a_pos
  rw [Int.add_mul, Int.one_mul] at l2
  refine ⟨Int.ediv_nonneg (by omega) (Int.le_of_lt o.a_pos), ?_, by omega, by omega⟩
  have l3 : (p + h - 1) / a < b + 1 := Int.ediv_lt_of_lt_mul o.a_pos (by rw [Int.add_mul, Int.one_mul]; omega)
  omega
theorem red_is (o : Ok a q b h) {p k s : Int} (e : p = k * a + s) (h0 : -h < s) (h1 : s ≤ h) : redF p a = s := by
  have ha := o.ha
  have hh := o.hh
  unfold redF
  rw [o.half]
  by_cases hs : 0 ≤ s
  · rw [emod_one e hs (by omega), if_neg (by omega)]
  · have e' : p = (k - 1) * a + (s + a) := by rw [Int.sub_mul, Int.one_mul]; omega
    rw [emod_one e' (by omega) (by omega), if_pos (by omega)]
    omega
theorem block_eq (o : Ok a q b h) {k : Int} : k * a = q - 1 ↔ k = b := by
  have : q - 1 = b * a := by have := o.hq; omega
  rw [this]
  exact Int.mul_eq_mul_right_iff (Int.ne_of_gt o.a_pos)
theorem hi_of (o : Ok a q b h) {v k s : Int} (e : v % q = k * a + s) (h0 : -h < s) (h1 : s ≤ h) : hiF v a q = if k = b then 0 else k := by
  unfold hiF
  rw [red_is o e h0 h1]
  have e1 : v % q - s = k * a := by omega
  rw [e1, Int.mul_ediv_cancel _ (Int.ne_of_gt o.a_pos)]
  by_cases hk : k = b
  · rw [if_pos ((block_eq o).mpr hk), if_pos hk]
  · rw [if_neg (fun x => hk ((block_eq o).mp x)), if_neg hk]
theorem lo_of (o : Ok a q b h) {v k s : Int} (e : v % q = k * a + s) (h0 : -h < s) (h1 : s ≤ h) : loF v a q = if k = b then s - 1 else s := by
  unfold loF
  rw [red_is o e h0 h1]
  have e1 : v % q - s = k * a := by omega
  rw [e1]
  by_cases hk : k = b
  · rw [if_pos ((block_eq o).mpr hk), if_pos hk]
  · rw [if_neg (fun x => hk ((block_eq o).mp x)), if_neg hk]
/-- a value's block and its place within -/
theorem view (o : Ok a q b h) (v : Int) : ∃ k s, v % q = k * a + s ∧ -h < s ∧ s ≤ h ∧ 0 ≤ k ∧ k ≤ b ∧ (k = 0 → 0 ≤ s) ∧ (k = b → s ≤ 0) ∧
    ((k = b ∧ hiF v a q = 0 ∧ loF v a q = s - 1) ∨ (k < b ∧ hiF v a q = k ∧ loF v a q = s)) := by
  have p0 := o.place0 v
  have p1 := o.place1 v
  obtain ⟨k0, k1, s0, s1⟩ := split_at o p0 p1
  generalize hk : (v % q + h - 1) / a = k at k0 k1 s0 s1
  have e : v % q = k * a + (v % q - k * a) := by omega
  have h1 := hi_of o e s0 s1
  have h2 := lo_of o e s0 s1
  refine ⟨k, v % q - k * a, e, s0, s1, k0, k1, fun z => ?_, fun z => ?_, ?_⟩
  · subst z; rw [Int.zero_mul]; omega
  · subst z; have := o.hq; omega
  · by_cases z : k = b
    · rw [if_pos z] at h1 h2; exact .inl ⟨z, h1, h2⟩
    · rw [if_neg z] at h1 h2; exact .inr ⟨by omega, h1, h2⟩
theorem up_is {k b : Int} (h0 : 0 ≤ k) (h1 : k < b) : (k + 1 = b ∧ (k + 1) % b = 0) ∨ (k + 1 < b ∧ (k + 1) % b = k + 1) := by
  by_cases e : k + 1 = b
  · exact .inl ⟨e, by rw [e]; exact Int.emod_self⟩
  · exact .inr ⟨by omega, Int.emod_eq_of_lt (by omega) (by omega)⟩
theorem down_is {k b : Int} (h0 : 0 ≤ k) (h1 : k < b) : (k = 0 ∧ (k - 1) % b = b - 1) ∨ (0 < k ∧ (k - 1) % b = k - 1) := by
  by_cases e : k = 0
  · exact .inl ⟨e, emod_one (c := -1) (by omega) (by omega) (by omega)⟩
  · exact .inr ⟨by omega, Int.emod_eq_of_lt (by omega) (by omega)⟩
theorem use0 {v : Int} : useF 0 v a q = hiF v a q := if_neg (by decide)
theorem use1 (o : Ok a q b h) {v : Int} : useF 1 v a q = if 0 < loF v a q then (hiF v a q + 1) % b else (hiF v a q - 1) % b := by
  unfold useF
  rw [if_pos rfl, o.m_is]
theorem hi_range (o : Ok a q b h) (v : Int) : 0 ≤ hiF v a q ∧ hiF v a q < b := by
  have := o.hb
  obtain ⟨k, s, _, _, _, k0, k1, _, _, hv⟩ := view o v
  omega
theorem far_ok (o : Ok a q b h) (v : Int) : useF 1 v a q ≠ hiF v a q ∧ 0 ≤ useF 1 v a q ∧ useF 1 v a q < b := by
  have hb := o.hb
  obtain ⟨h0, h1⟩ := hi_range o v
  rw [use1 o]
  have u := up_is h0 h1
  have d := down_is h0 h1
  split <;> omega
theorem push_place (o : Ok a q b h) (v : Int) {t : Int} (t0 : -h ≤ t) (t1 : t ≤ h) :
    (v + t) % q = v % q + t ∨ (v + t) % q = v % q + t - q ∨ (v + t) % q = v % q + t + q := by
  have p0 := o.place0 v
  have p1 := o.place1 v
  have hq := o.hq
  have hba := o.ba
  have ha := o.ha
  have hh := o.hh
  have hv : v = (v / q) * q + v % q := by have := Int.emod_add_mul_ediv v q; rw [Int.mul_comm] at this; omega
  by_cases c1 : v % q + t < 0
  · refine .inr (.inr (emod_one (c := v / q - 1) ?_ (by omega) (by omega)))
    rw [Int.sub_mul, Int.one_mul]; omega
  · by_cases c2 : q ≤ v % q + t
    · refine .inr (.inl (emod_one (c := v / q + 1) ?_ (by omega) (by omega)))
      rw [Int.add_mul, Int.one_mul]; omega
    · exact .inl (emod_one (c := v / q) (by omega) (by omega) (by omega))
theorem small_mul {e a x : Int} (h : e * a = x) (ha : 0 < a) (x0 : -(2 * a) < x) (x1 : x < 2 * a) : e = -1 ∨ e = 0 ∨ e = 1 := by
  have h1 : e < 2 := Int.lt_of_mul_lt_mul_right (a := a) (by omega) (Int.le_of_lt ha)
  have h2 : -2 < e := Int.lt_of_mul_lt_mul_right (a := a) (by omega) (Int.le_of_lt ha)
  omega
/-- the hint tells the pushed value's block -/
theorem push_ok (o : Ok a q b h) (v : Int) {t : Int} (t0 : -h ≤ t) (t1 : t ≤ h) :
    useF (if hiF (v + t) a q = hiF v a q then 0 else 1) v a q = hiF (v + t) a q := by
  by_cases same : hiF (v + t) a q = hiF v a q
  · rw [if_pos same, use0, same]
  rw [if_neg same, use1 o]
  have hb := o.hb
  have ha := o.ha
  have hh := o.hh
  have hq := o.hq
  obtain ⟨r0, r1⟩ := hi_range o v
  have u := up_is r0 r1
  have d := down_is r0 r1
  obtain ⟨k, s, e, s0, s1, k0, k1, kz, kb, hv⟩ := view o v
  obtain ⟨k', s', e', s0', s1', k0', k1', kz', kb', hv'⟩ := view o (v + t)
  have key : ∃ c d : Int, (c = -1 ∨ c = 0 ∨ c = 1) ∧ (d = -1 ∨ d = 0 ∨ d = 1) ∧ k' = k + c * b + d ∧ d * a = s + t - s' + c := by
    have fin : ∀ c : Int, (c = -1 ∨ c = 0 ∨ c = 1) → (v + t) % q = v % q + t + c * q → ∃ c d : Int, (c = -1 ∨ c = 0 ∨ c = 1) ∧ (d = -1 ∨ d = 0 ∨ d = 1) ∧ k' = k + c * b + d ∧ d * a = s + t - s' + c := by
      intro c hc hp
      have hm : (k' - k - c * b) * a = s + t - s' + c := by
        rw [Int.sub_mul, Int.sub_mul, Int.mul_assoc]
        rw [hq, Int.mul_add] at hp
        rw [← hq] at hp
        omega
      exact ⟨c, k' - k - c * b, hc, small_mul hm o.a_pos (by omega) (by omega), by omega, hm⟩
    rcases push_place o v t0 t1 with x | x | x
    · exact fin 0 (by omega) (by omega)
    · exact fin (-1) (by omega) (by omega)
    · exact fin 1 (by omega) (by omega)
  obtain ⟨c, d', hc, hd, hk, hm⟩ := key
  rcases hc with rfl | rfl | rfl <;> rcases hd with rfl | rfl | rfl <;> split <;> omega
theorem rest_is (o : Ok a q b h) {v c x j : Int} (hx : x = v % q - c * a + j * q) (h0 : 0 ≤ x) (h1 : x < q) : apF v c a q = min x (q - x) := by
  have hv : v = (v / q) * q + v % q := by have := Int.emod_add_mul_ediv v q; rw [Int.mul_comm] at this; omega
  have e : (v - c * a) % q = x := by
    refine emod_one (c := v / q - j) ?_ h0 h1
    rw [Int.sub_mul]; omega
  unfold apF
  rw [e]
theorem near_ok (o : Ok a q b h) (v : Int) : apF v (hiF v a q) a q ≤ h := by
  have ha := o.ha
  have hh := o.hh
  have hq := o.hq
  have hba := o.ba
  obtain ⟨k, s, e, s0, s1, k0, k1, kz, kb, hv⟩ := view o v
  rcases hv with ⟨z, hi, _⟩ | ⟨z, hi, _⟩
  · rw [hi, rest_is o (x := v % q) (j := 0) (by omega) (o.place0 v) (o.place1 v)]
    subst z
    omega
  · rw [hi]
    by_cases hs : 0 ≤ s
    · rw [rest_is o (x := s) (j := 0) (by omega) hs (by omega)]; omega
    · rw [rest_is o (x := s + q) (j := 1) (by omega) (by omega) (by omega)]; omega
theorem far_size (o : Ok a q b h) (v : Int) : h ≤ apF v (useF 1 v a q) a q ∧ apF v (useF 1 v a q) a q ≤ a + 1 ∧ (apF v (useF 1 v a q) a q = a + 1 ↔ v % q = 0) := by
  have ha := o.ha
  have hh := o.hh
  have hq := o.hq
  have hba := o.ba
  have hb := o.hb
  obtain ⟨r0, r1⟩ := hi_range o v
  have u := up_is r0 r1
  have d := down_is r0 r1
  obtain ⟨k, s, e, s0, s1, k0, k1, kz, kb, hv⟩ := view o v
  have p0 := o.place0 v
  have p1 := o.place1 v
  have ka : 0 ≤ k * a := Int.mul_nonneg k0 (Int.le_of_lt o.a_pos)
  rw [use1 o]
  by_cases hl : 0 < loF v a q
  · rw [if_pos hl]
    have hk : k < b ∧ hiF v a q = k ∧ loF v a q = s := by omega
    rcases u with ⟨u1, u2⟩ | ⟨u1, u2⟩
    · rw [u2, rest_is o (x := v % q) (j := 0) (by omega) p0 p1]
      have : b * a = k * a + a := by rw [← u1, hk.2.1, Int.add_mul, Int.one_mul]
      omega
    · have e1 : (hiF v a q + 1) * a = k * a + a := by rw [hk.2.1, Int.add_mul, Int.one_mul]
      rw [u2, rest_is o (x := s - a + q) (j := 1) (by omega) (by omega) (by omega)]
      omega
  · rw [if_neg hl]
    rcases d with ⟨d1, d2⟩ | ⟨d1, d2⟩
    · rw [d2]
      have e1 : (b - 1) * a = b * a - a := by rw [Int.sub_mul, Int.one_mul]
      rcases hv with ⟨z, hi, lo⟩ | ⟨z, hi, lo⟩
      · subst z
        rw [rest_is o (x := s + a) (j := 0) (by omega) (by omega) (by omega)]
        omega
      · have z0 : k = 0 := by omega
        subst z0
        rw [Int.zero_mul] at e
        rw [rest_is o (x := a + 1) (j := 1) (by omega) (by omega) (by omega)]
        omega
    · rw [d2]
      rcases hv with ⟨z, hi, lo⟩ | ⟨z, hi, lo⟩
      · omega
      · have e1 : (hiF v a q - 1) * a = k * a - a := by rw [hi, Int.sub_mul, Int.one_mul]
        have e2 : a ≤ k * a := by
          have := Int.mul_le_mul_of_nonneg_right (show 1 ≤ k by omega) (Int.le_of_lt o.a_pos)
          omega
        rw [rest_is o (x := s + a) (j := 0) (by omega) (by omega) (by omega)]
        omega
theorem parts_hi (o : Ok a q b h) (v : Int) : hiF v a q = if (v % q + a / 2 - 1) / a = b then 0 else (v % q + a / 2 - 1) / a := by
  rw [o.half]
  obtain ⟨k0, k1, s0, s1⟩ := split_at o (o.place0 v) (o.place1 v)
  exact hi_of o (k := (v % q + h - 1) / a) (s := v % q - (v % q + h - 1) / a * a) (by omega) s0 s1
theorem parts_lo (o : Ok a q b h) (v : Int) : loF v a q = if (v % q + a / 2 - 1) / a = b then v % q - q else v % q - (v % q + a / 2 - 1) / a * a := by
  rw [o.half]
  obtain ⟨k0, k1, s0, s1⟩ := split_at o (o.place0 v) (o.place1 v)
  rw [lo_of o (k := (v % q + h - 1) / a) (s := v % q - (v % q + h - 1) / a * a) (by omega) s0 s1]
  have hq := o.hq
  by_cases z : (v % q + h - 1) / a = b
  · rw [if_pos z, if_pos z, z]; omega
  · rw [if_neg z, if_neg z]
theorem parts_mul (o : Ok a q b h) (v : Int) : IntMulOk ((v % q + a / 2 - 1) / a) a := by
  rw [o.half]
  obtain ⟨k0, k1, s0, s1⟩ := split_at o (o.place0 v) (o.place1 v)
  have := o.lb
  have := o.la
  have := o.ha
  have := o.a_pos
  exact mulOk (by omega) (by omega) (by omega) (by omega)
theorem ap_zero (v a b q : Int) : apF v 0 a q = apF v 0 b q := by simp only [apF, Int.zero_mul]
theorem and_neg {x : Int} (hx : x < 0) : Builtin.bitAnd x (-1) = x := by
  unfold Builtin.bitAnd
  rw [decide_eq_false (show ¬ 0 ≤ x by omega), decide_eq_false (show ¬ (0 : Int) ≤ -1 by decide)]
  show Builtin.bitNot _ = x
  have e : (Builtin.bitNot (-1)).toNat = 0 := by decide
  rw [e, Nat.or_zero]
  unfold Builtin.bitNot
  omega
theorem xor_neg {x : Int} (hx : x < 0) : Builtin.bitXor x (-1) = -x - 1 := by
  rw [bitXor_and, and_neg hx]; omega
theorem norm_eq (n : Int) : (8380417 - 1 : Int).fdiv (2 ^ Int.toNat 1) - Builtin.bitXor ((8380417 - 1 : Int).fdiv (2 ^ Int.toNat 1) - n.fmod 8380417) (((8380417 - 1 : Int).fdiv (2 ^ Int.toNat 1) - n.fmod 8380417).fdiv (2 ^ Int.toNat 31)) = apF n 0 1 8380417 := by
  have e1 : (8380417 - 1 : Int).fdiv (2 ^ Int.toNat 1) = 4190208 := by decide
  have e2 : (2 ^ Int.toNat 31 : Int) = 2147483648 := by decide
  rw [e1, e2, fm (by decide), fd (by decide)]
  unfold apF
  rw [Int.zero_mul, Int.sub_zero]
  have p0 := Int.emod_nonneg n (show (8380417 : Int) ≠ 0 by decide)
  have p1 := Int.emod_lt_of_pos n (show (0 : Int) < 8380417 by decide)
  by_cases hx : n % 8380417 ≤ 4190208
  · have e3 : (4190208 - n % 8380417) / 2147483648 = 0 := by omega
    rw [e3, bitXor_zero]; omega
  · have e3 : (4190208 - n % 8380417) / 2147483648 = -1 := by omega
    rw [e3, xor_neg (by omega)]; omega
theorem hint_eq (x y : Int) : (if (x != y) = true then (1 : Int) else 0) = if y = x then 0 else 1 := by
  by_cases e : y = x
  · subst e; simp
  · rw [if_neg e, if_pos (by simpa using fun z => e z.symm)]
end
end Mine

namespace Mine
section
variable (w : World) (mg mb : Str → Option Value) (mean : ExcName → Option Value)
local macro_rules | `(tactic| walk_at "binaryOp FloorDiv int int") => `(tactic| with_reducible refine floordiv_int (by assumption) ?_ (PyOk.at (by assumption)))
local macro_rules | `(tactic| walk_at "binaryOp Mult int int") => `(tactic| with_reducible refine mul_int ?_ (by assumption))
theorem fill : (PySem.Challenge.rw_ji0007_01, hd.heap_39) = (PySem.Challenge.rw_ji0007_01, hd.heap_39) := by k_fill; rfl
theorem reduce_c (r n : Int) (tr tn : Tok) :
    IClaim w mg mb mean 1 21 (0 < n) [.int r tr, .int n tn] (fun t => .int (redF r n) t) := by
  w_top off
  dsimp only [IClaim]; intros
  rename_i hn _ _ hret
  refine wpAny_call ?_
  k_dflt cell_enter
  k_steps
  all_goals (refine cb_retI hret ?_ (by assumption) (by assumption); simp only [sh1, fm hn, redF] at *)
  · exact (if_pos (by assumption)).symm
  · exact (if_neg (by assumption)).symm
local macro_rules | `(tactic| walk_at "call ref") => `(tactic| (k_here; k_dflt (refine' IClaim.use (reduce_c _ _ _ _ _ _ _ _) ?k1 ?k2 ?k3 ?k4 ?k5 ?k6 ?k7 ?k8 ?k9 ?_; (case k1 => k_asm); (case k2 => k_asm); (case k3 => k_asm); (case k4 => k_asm); (case k5 => k_asm); (case k6 => first | exact rfl | assumption); (case k7 => first | assumption | omega); (case k8 => ktr_room); (case k9 => ktr_units)); intro t9 h9 tk9 F9 N9; (try dsimp only); (try k_fold)))
theorem decompose_c (r a q b h : Int) (tr ta tq : Tok) :
    TClaim w mg mb mean 2 28 (Ok a q b h) [.int r tr, .int a ta, .int q tq] (hiF r a q) (loF r a q) := by
  w_top off
  dsimp only [TClaim]; intros
  rename_i hn _ _ hret
  have ha := hn.a_pos
  have hq := hn.q_pos
  have ha0 : a ≠ 0 := Int.ne_of_gt ha
  have hq0 : q ≠ 0 := Int.ne_of_gt hq
  have hpa : PyOk a := pyOk (by omega) (by have := hn.ha; have := hn.la; omega)
  refine wpAny_call ?_
  k_dflt cell_enter
  k_steps
  all_goals (simp only [fm hq, fd ha] at *)
  · exact tup_ret hret (if_pos (by assumption)).symm (if_pos (by assumption)).symm (by assumption) (by assumption) (by assumption)
  · exact tup_ret hret (if_neg (by assumption)).symm (if_neg (by assumption)).symm (by assumption) (by assumption) (by assumption)
local macro_rules | `(tactic| walk_at "call ref") => `(tactic| (k_here; k_dflt (refine' TClaim.use (decompose_c _ _ _ _ _ _ _ _ _ _ _ _) ?k1 ?k2 ?k3 ?k4 ?k5 ?k6 ?k7 ?k8 ?k9 ?_; (case k1 => k_asm); (case k2 => k_asm); (case k3 => k_asm); (case k4 => k_asm); (case k5 => k_asm); (case k6 => first | exact rfl | assumption); (case k7 => first | assumption | omega); (case k8 => ktr_room); (case k9 => ktr_units)); intro D9 t91 t92 c9 h9 tk9 F9 N9 l9; (try k_lt l9); (try dsimp only); (try k_fold)))
theorem high_c (r a q b h : Int) (tr ta tq : Tok) :
    IClaim w mg mb mean 3 35 (Ok a q b h) [.int r tr, .int a ta, .int q tq] (fun t => .int (hiF r a q) t) := by
  w_top off
  dsimp only [IClaim]; intros
  rename_i hn _ _ hret
  have ha := hn.a_pos
  have hq := hn.q_pos
  have ha0 : a ≠ 0 := Int.ne_of_gt ha
  have hq0 : q ≠ 0 := Int.ne_of_gt hq
  have hpa : PyOk a := pyOk (by omega) (by have := hn.ha; have := hn.la; omega)
  refine wpAny_call ?_
  k_dflt cell_enter
  k_steps
  all_goals (refine cb_retI hret rfl (by assumption) (by first | assumption | exact cb_drop (by assumption) (fun p hp => List.Mem.tail _ hp)))
local macro_rules | `(tactic| walk_at "call ref") => `(tactic| (k_here; k_dflt (refine' IClaim.use (high_c _ _ _ _ _ _ _ _ _ _ _ _) ?k1 ?k2 ?k3 ?k4 ?k5 ?k6 ?k7 ?k8 ?k9 ?_; (case k1 => k_asm); (case k2 => k_asm); (case k3 => k_asm); (case k4 => k_asm); (case k5 => k_asm); (case k6 => first | exact rfl | assumption); (case k7 => first | assumption | omega); (case k8 => ktr_room); (case k9 => ktr_units)); intro t9 h9 tk9 F9 N9; (try dsimp only); (try k_fold)))
theorem low_c (r a q b h : Int) (tr ta tq : Tok) :
    IClaim w mg mb mean 3 42 (Ok a q b h) [.int r tr, .int a ta, .int q tq] (fun t => .int (loF r a q) t) := by
  w_top off
  dsimp only [IClaim]; intros
  rename_i hn _ _ hret
  have ha := hn.a_pos
  have hq := hn.q_pos
  have ha0 : a ≠ 0 := Int.ne_of_gt ha
  have hq0 : q ≠ 0 := Int.ne_of_gt hq
  have hpa : PyOk a := pyOk (by omega) (by have := hn.ha; have := hn.la; omega)
  refine wpAny_call ?_
  k_dflt cell_enter
  k_steps
  all_goals (refine cb_retI hret rfl (by assumption) (by first | assumption | exact cb_drop (by assumption) (fun p hp => List.Mem.tail _ hp)))
local macro_rules | `(tactic| walk_at "call ref") => `(tactic| (k_here; k_dflt (refine' IClaim.use (low_c _ _ _ _ _ _ _ _ _ _ _ _) ?k1 ?k2 ?k3 ?k4 ?k5 ?k6 ?k7 ?k8 ?k9 ?_; (case k1 => k_asm); (case k2 => k_asm); (case k3 => k_asm); (case k4 => k_asm); (case k5 => k_asm); (case k6 => first | exact rfl | assumption); (case k7 => first | assumption | omega); (case k8 => ktr_room); (case k9 => ktr_units)); intro t9 h9 tk9 F9 N9; (try dsimp only); (try k_fold)))
theorem hint_c (z r a q b h : Int) (tz tr ta tq : Tok) :
    IClaim w mg mb mean 4 49 (Ok a q b h) [.int z tz, .int r tr, .int a ta, .int q tq] (fun t => .int (if hiF (r + z) a q = hiF r a q then 0 else 1) t) := by
  w_top off
  dsimp only [IClaim]; intros
  rename_i hn _ _ hret
  have ha := hn.a_pos
  have hq := hn.q_pos
  have ha0 : a ≠ 0 := Int.ne_of_gt ha
  have hq0 : q ≠ 0 := Int.ne_of_gt hq
  have hpa : PyOk a := pyOk (by omega) (by have := hn.ha; have := hn.la; omega)
  refine wpAny_call ?_
  k_dflt cell_enter
  k_steps
  all_goals (refine cb_retI hret ?_ (by assumption) (by first | assumption | exact cb_drop (by assumption) (fun p hp => List.Mem.tail _ hp)))
  exact hint_eq _ _
local macro_rules | `(tactic| walk_at "call ref") => `(tactic| (k_here; k_dflt (refine' IClaim.use (hint_c _ _ _ _ _ _ _ _ _ _ _ _ _ _) ?k1 ?k2 ?k3 ?k4 ?k5 ?k6 ?k7 ?k8 ?k9 ?_; (case k1 => k_asm); (case k2 => k_asm); (case k3 => k_asm); (case k4 => k_asm); (case k5 => k_asm); (case k6 => first | exact rfl | assumption); (case k7 => first | assumption | omega); (case k8 => ktr_room); (case k9 => ktr_units)); intro t9 h9 tk9 F9 N9; (try dsimp only); (try k_fold)))
theorem use_c (x r a q b h : Int) (tx tr ta tq : Tok) :
    IClaim w mg mb mean 4 56 (Ok a q b h) [.int x tx, .int r tr, .int a ta, .int q tq] (fun t => .int (useF x r a q) t) := by
  w_top off
  dsimp only [IClaim]; intros
  rename_i hn _ _ hret
  have ha := hn.a_pos
  have hq := hn.q_pos
  have ha0 : a ≠ 0 := Int.ne_of_gt ha
  have hq0 : q ≠ 0 := Int.ne_of_gt hq
  have hpa : PyOk a := pyOk (by omega) (by have := hn.ha; have := hn.la; omega)
  have hm : 0 < (q - 1).fdiv a := by rw [fd ha, hn.m_is]; have := hn.hb; omega
  refine wpAny_call ?_
  k_dflt cell_enter
  k_steps
  all_goals (refine cb_retI hret ?_ (by assumption) (by first | assumption | exact cb_drop (by assumption) (fun p hp => List.Mem.tail _ hp)); try simp only [fm hm]; try simp only [fd ha]; simp only [useF])
  · rw [if_pos (by assumption), if_pos (by assumption)]
  · rw [if_pos (by assumption), if_neg (by assumption)]
  · exact (if_neg (by assumption)).symm
local macro_rules | `(tactic| walk_at "call ref") => `(tactic| (k_here; k_dflt (refine' IClaim.use (use_c _ _ _ _ _ _ _ _ _ _ _ _ _ _) ?k1 ?k2 ?k3 ?k4 ?k5 ?k6 ?k7 ?k8 ?k9 ?_; (case k1 => k_asm); (case k2 => k_asm); (case k3 => k_asm); (case k4 => k_asm); (case k5 => k_asm); (case k6 => first | exact rfl | assumption); (case k7 => first | assumption | omega); (case k8 => ktr_room); (case k9 => ktr_units)); intro t9 h9 tk9 F9 N9; (try dsimp only); (try k_fold)))
end
end Mine

namespace Mine
section
variable (w : World) (mg mb : Str → Option Value) (mean : ExcName → Option Value)
local macro_rules | `(tactic| walk_at "binaryOp FloorDiv int int") => `(tactic| with_reducible refine floordiv_int (by assumption) ?_ (PyOk.at (by assumption)))
local macro_rules | `(tactic| walk_at "binaryOp Mult int int") => `(tactic| with_reducible refine mul_int ?_ (by assumption))
local macro_rules | `(tactic| walk_at "call ref") => `(tactic| (k_here; k_dflt (refine' IClaim.use (reduce_c _ _ _ _ _ _ _ _) ?k1 ?k2 ?k3 ?k4 ?k5 ?k6 ?k7 ?k8 ?k9 ?_; (case k1 => k_asm); (case k2 => k_asm); (case k3 => k_asm); (case k4 => k_asm); (case k5 => k_asm); (case k6 => first | exact rfl | assumption); (case k7 => first | assumption | trivial | omega); (case k8 => ktr_room); (case k9 => ktr_units)); intro t9 h9 tk9 F9 N9; (try dsimp only); (try k_fold)))
local macro_rules | `(tactic| walk_at "call ref") => `(tactic| (k_here; k_dflt (refine' TClaim.use (decompose_c _ _ _ _ _ _ _ _ _ _ _ _) ?k1 ?k2 ?k3 ?k4 ?k5 ?k6 ?k7 ?k8 ?k9 ?_; (case k1 => k_asm); (case k2 => k_asm); (case k3 => k_asm); (case k4 => k_asm); (case k5 => k_asm); (case k6 => first | exact rfl | assumption); (case k7 => first | assumption | trivial | omega); (case k8 => ktr_room); (case k9 => ktr_units)); intro D9 t91 t92 c9 h9 tk9 F9 N9 l9; (try k_lt l9); (try dsimp only); (try k_fold)))
local macro_rules | `(tactic| walk_at "call ref") => `(tactic| (k_here; k_dflt (refine' IClaim.use (high_c _ _ _ _ _ _ _ _ _ _ _ _) ?k1 ?k2 ?k3 ?k4 ?k5 ?k6 ?k7 ?k8 ?k9 ?_; (case k1 => k_asm); (case k2 => k_asm); (case k3 => k_asm); (case k4 => k_asm); (case k5 => k_asm); (case k6 => first | exact rfl | assumption); (case k7 => first | assumption | trivial | omega); (case k8 => ktr_room); (case k9 => ktr_units)); intro t9 h9 tk9 F9 N9; (try dsimp only); (try k_fold)))
local macro_rules | `(tactic| walk_at "call ref") => `(tactic| (k_here; k_dflt (refine' IClaim.use (low_c _ _ _ _ _ _ _ _ _ _ _ _) ?k1 ?k2 ?k3 ?k4 ?k5 ?k6 ?k7 ?k8 ?k9 ?_; (case k1 => k_asm); (case k2 => k_asm); (case k3 => k_asm); (case k4 => k_asm); (case k5 => k_asm); (case k6 => first | exact rfl | assumption); (case k7 => first | assumption | trivial | omega); (case k8 => ktr_room); (case k9 => ktr_units)); intro t9 h9 tk9 F9 N9; (try dsimp only); (try k_fold)))
local macro_rules | `(tactic| walk_at "call ref") => `(tactic| (k_here; k_dflt (refine' IClaim.use (hint_c _ _ _ _ _ _ _ _ _ _ _ _ _ _) ?k1 ?k2 ?k3 ?k4 ?k5 ?k6 ?k7 ?k8 ?k9 ?_; (case k1 => k_asm); (case k2 => k_asm); (case k3 => k_asm); (case k4 => k_asm); (case k5 => k_asm); (case k6 => first | exact rfl | assumption); (case k7 => first | assumption | trivial | omega); (case k8 => ktr_room); (case k9 => ktr_units)); intro t9 h9 tk9 F9 N9; (try dsimp only); (try k_fold)))
local macro_rules | `(tactic| walk_at "call ref") => `(tactic| (k_here; k_dflt (refine' IClaim.use (use_c _ _ _ _ _ _ _ _ _ _ _ _ _ _) ?k1 ?k2 ?k3 ?k4 ?k5 ?k6 ?k7 ?k8 ?k9 ?_; (case k1 => k_asm); (case k2 => k_asm); (case k3 => k_asm); (case k4 => k_asm); (case k5 => k_asm); (case k6 => first | exact rfl | assumption); (case k7 => first | assumption | trivial | omega); (case k8 => ktr_room); (case k9 => ktr_units)); intro t9 h9 tk9 F9 N9; (try dsimp only); (try k_fold)))
theorem parts_c (v a q b h : Int) (tv ta tq : Tok) :
    TClaim w mg mb mean 2 70 (Ok a q b h) [.int v tv, .int a ta, .int q tq] (hiF v a q) (loF v a q) := by
  w_top off
  dsimp only [TClaim]; intros
  rename_i hn _ _ hret
  have ha := hn.a_pos
  have hq := hn.q_pos
  have ha0 : a ≠ 0 := Int.ne_of_gt ha
  have hq0 : q ≠ 0 := Int.ne_of_gt hq
  have hpa : PyOk a := pyOk (by omega) (by have := hn.ha; have := hn.la; omega)
  have hml : IntMulOk ((v.fmod q + a.fdiv 2 - 1).fdiv a) a := by rw [fm hq, fd ha, fd (by decide : (0 : Int) < 2)]; exact parts_mul hn v
  refine wpAny_call ?_
  k_dflt cell_enter
  k_steps
  all_goals (try simp only [fm hq, fd ha, fd (show (0 : Int) < 2 by decide), hn.m_is] at *)
  · exact tup_ret hret ((parts_hi hn v).trans (if_pos (by assumption))).symm ((parts_lo hn v).trans (if_pos (by assumption))).symm (by assumption) (by assumption) (by assumption)
  · exact tup_ret hret ((parts_hi hn v).trans (if_neg (by assumption))).symm ((parts_lo hn v).trans (if_neg (by assumption))).symm (by assumption) (by assumption) (by assumption)
local macro_rules | `(tactic| walk_at "call ref") => `(tactic| (k_here; k_dflt (refine' TClaim.use (parts_c _ _ _ _ _ _ _ _ _ _ _ _) ?k1 ?k2 ?k3 ?k4 ?k5 ?k6 ?k7 ?k8 ?k9 ?_; (case k1 => k_asm); (case k2 => k_asm); (case k3 => k_asm); (case k4 => k_asm); (case k5 => k_asm); (case k6 => first | exact rfl | assumption); (case k7 => first | assumption | trivial | omega); (case k8 => ktr_room); (case k9 => ktr_units)); intro D9 t91 t92 c9 h9 tk9 F9 N9 l9; (try k_lt l9); (try dsimp only); (try k_fold)))
theorem apart_c (v c a q : Int) (tv tc ta tq : Tok) :
    IClaim w mg mb mean 2 77 (0 < q ∧ IntMulOk c a) [.int v tv, .int c tc, .int a ta, .int q tq] (fun t => .int (apF v c a q) t) := by
  w_top off
  dsimp only [IClaim]; intros
  rename_i hn _ _ hret
  obtain ⟨hq, hm⟩ := hn
  have hq0 : q ≠ 0 := Int.ne_of_gt hq
  refine wpAny_call ?_
  k_dflt cell_enter
  k_steps
  refine cb_retI hret ?_ (by assumption) (by assumption)
  rw [fm hq]
  unfold apF
  split <;> omega
local macro_rules | `(tactic| walk_at "call ref") => `(tactic| (k_here; k_dflt (refine' IClaim.use (apart_c _ _ _ _ _ _ _ _ _ _ _ _) ?k1 ?k2 ?k3 ?k4 ?k5 ?k6 ?k7 ?k8 ?k9 ?_; (case k1 => k_asm); (case k2 => k_asm); (case k3 => k_asm); (case k4 => k_asm); (case k5 => k_asm); (case k6 => first | exact rfl | assumption); (case k7 => first | assumption | trivial | omega); (case k8 => ktr_room); (case k9 => ktr_units)); intro t9 h9 tk9 F9 N9; (try dsimp only); (try k_fold)))
theorem norm_c (n b : Int) (tn tb tq : Tok) :
    IClaim w mg mb mean 2 63 True [.int n tn, .int b tb, .int 8380417 tq] (fun _ => .bool (decide (b ≤ apF n 0 1 8380417))) := by
  w_top off
  dsimp only [IClaim]; intros
  rename_i hn _ _ hret
  refine wpAny_call ?_
  k_dflt cell_enter
  k_steps
  exact cb_retB (x := decide (b ≤ apF n 0 1 8380417)) (fun t h' tk' F N => hret t h' tk' F N) (by rw [norm_eq]) (by assumption) (by assumption)
local macro_rules | `(tactic| walk_at "call ref") => `(tactic| (k_here; k_dflt (refine' IClaim.use (norm_c _ _ _ _ _ _ _ _ _) ?k1 ?k2 ?k3 ?k4 ?k5 ?k6 ?k7 ?k8 ?k9 ?_; (case k1 => k_asm); (case k2 => k_asm); (case k3 => k_asm); (case k4 => k_asm); (case k5 => k_asm); (case k6 => first | exact rfl | assumption); (case k7 => first | assumption | trivial | omega); (case k8 => ktr_room); (case k9 => ktr_units)); intro t9 h9 tk9 F9 N9; (try dsimp only); (try k_fold)))
end
end Mine

namespace Mine
def bodyOf : Stmt → List Stmt
  | .FunctionDef (body := b) .. => b
  | .For (body := b) .. => b
  | .While (body := b) .. => b
  | .If (body := b) .. => b
  | _ => []
def scopeOf : Stmt → Scope
  | .FunctionDef (scope := s) .. => s
  | _ => default
def nth : List Stmt → Nat → Stmt
  | st :: _, 0 => st
  | _ :: r, n + 1 => nth r n
  | [], _ => .Pass default
def lawDef : Stmt := nth PySem.Challenge.pw_ji0007_01.main.body 11
def lawBody : List Stmt := bodyOf lawDef
def lawScope : Scope := scopeOf lawDef
abbrev lawEnv (L fa : Addr) (cd : Value) : Env := envOf (Str.ofString "law") lawScope L fa cd
section
variable {M : Model} {A : Around} {env : Env} {Q : Flow → Shared → Prop} {E : Value → Shared → Prop}
structure CutNext (s₀ : Shared) (P : Heap → Prop) (s' : Shared) : Prop where
  out : ∃ h tk, s' = { s₀ with heap := h, toks := tk } ∧ P h
abbrev CutPost (s₀ : Shared) (P : Heap → Prop) (Q : Flow → Shared → Prop) (f : Flow) (s' : Shared) : Prop :=
  match f with
  | .next => CutNext s₀ P s'
  | f => Q f s'
theorem execs_cut_app {s₀ : Shared} {rest : List Stmt} (P : Heap → Prop) (h2 : ∀ h tk, P h → wpAny M A (execs rest env) Q E { s₀ with heap := h, toks := tk }) {Γ : Ctx} (hΓ : Γ.In A) : ∀ (pre : List Stmt) (p : Pos) (s : Shared),
    Sem.wp M Γ (execs pre env) (fun a _ s' => CutPost s₀ P Q a s') (fun e _ s' => E e s') p s → Sem.wp M Γ (execs (pre ++ rest) env) (fun a _ s' => Q a s') (fun e _ s' => E e s') p s
  | [], p, s, h1 => by
    obtain ⟨h, tk, e, q⟩ : ∃ h tk, s = { s₀ with heap := h, toks := tk } ∧ P h := CutNext.out h1
    rw [e]
    exact h2 h tk q Γ p hΓ
  | st :: pre, p, s, h1 => by
    rw [List.cons_append, execs_cons, Sem.wp_bind']
    rw [execs_cons, Sem.wp_bind'] at h1
    refine Sem.wp_mono M Γ _ (fun f p' s' h' => ?_) (fun _ _ _ h' => h') _ _ h1
    cases f with
    | next => exact execs_cut_app P h2 hΓ pre p' s' h'
    | _ => exact h'
/-- the first k statements bring P; the rest goes on from it -/
theorem execs_cut {s : Shared} {l : List Stmt} (k : Nat) (P : Heap → Prop)
    (h1 : wpAny M A (execs (l.take k) env) (CutPost s P Q) E s) (h2 : ∀ h tk, P h → wpAny M A (execs (l.drop k) env) Q E { s with heap := h, toks := tk }) : wpAny M A (execs l env) Q E s := fun Γ p hΓ => by
  have := execs_cut_app (s₀ := s) (rest := l.drop k) P h2 hΓ (l.take k) p s (h1 Γ p hΓ)
  rwa [List.take_append_drop] at this
/-- the k statements behind the i-th bring P; the rest goes on from it -/
theorem execs_cutN {s : Shared} {l : List Stmt} (i k j : Nat) (hj : i + k = j) (P : Heap → Prop)
    (h1 : wpAny M A (execs ((l.drop i).take k) env) (CutPost s P Q) E s) (h2 : ∀ h tk, P h → wpAny M A (execs (l.drop j) env) Q E { s with heap := h, toks := tk }) : wpAny M A (execs (l.drop i) env) Q E s := by
  subst hj
  refine execs_cut k P h1 ?_
  rw [List.drop_drop]
  exact h2
theorem law_chain {s : Shared} {lb : List Stmt} {P1 P2 P3 P4 P5 P6 : Heap → Prop}
    (h1 : wpAny M A (execs (lb.take 2) env) (CutPost s P1 Q) E s)
    (h2 : ∀ h tk, P1 h → wpAny M A (execs ((lb.drop 2).take 2) env) (CutPost { s with heap := h, toks := tk } P2 Q) E { s with heap := h, toks := tk })
    (h3 : ∀ h tk, P2 h → wpAny M A (execs ((lb.drop 4).take 1) env) (CutPost { s with heap := h, toks := tk } P3 Q) E { s with heap := h, toks := tk })
    (h4 : ∀ h tk, P3 h → wpAny M A (execs ((lb.drop 5).take 1) env) (CutPost { s with heap := h, toks := tk } P4 Q) E { s with heap := h, toks := tk })
    (h5 : ∀ h tk, P4 h → wpAny M A (execs ((lb.drop 6).take 1) env) (CutPost { s with heap := h, toks := tk } P5 Q) E { s with heap := h, toks := tk })
    (h6 : ∀ h tk, P5 h → wpAny M A (execs ((lb.drop 7).take 1) env) (CutPost { s with heap := h, toks := tk } P6 Q) E { s with heap := h, toks := tk })
    (h7 : ∀ h tk, P6 h → wpAny M A (execs (lb.drop 8) env) Q E { s with heap := h, toks := tk }) : wpAny M A (execs lb env) Q E s := by
  refine execs_cutN 0 2 2 rfl P1 h1 fun h tk hp => ?_
  refine execs_cutN 2 2 4 rfl P2 (h2 h tk hp) fun h tk hp => ?_
  refine execs_cutN 4 1 5 rfl P3 (h3 h tk hp) fun h tk hp => ?_
  refine execs_cutN 5 1 6 rfl P4 (h4 h tk hp) fun h tk hp => ?_
  refine execs_cutN 6 1 7 rfl P5 (h5 h tk hp) fun h tk hp => ?_
  refine execs_cutN 7 1 8 rfl P6 (h6 h tk hp) fun h tk hp => ?_
  exact h7 h tk hp
end
/-- a name of the frame, laid on top -/
theorem fr_lay {h₀ h : Heap} {L : Addr} {m : Str → Option Value} (x : Str) {v : Value} (hx : m x = some v) (F : Fr h₀ L h m) : Fr h₀ L h (fun y => if y = x then some v else m y) := by
  have e : (fun y => if y = x then some v else m y) = m := by
    funext y
    by_cases z : y = x
    · rw [if_pos z, z, hx]
    · rw [if_neg z]
  rw [e]; exact F
abbrev S (x : String) : Str := Str.ofString x
end Mine

namespace Mine
/-- told and kind stand in the frame -/
def PB (h₀ : Heap) (L : Addr) (l : Addr) (h : Heap) : Prop :=
  ∃ (D : Addr) (ws : List Value) (ts : List Int) (c : Nat) (tk : Tok), IntsAre ws ts ∧ ts.length = 3 ∧
    Fr h₀ L h (fun y => if y = S "kind" then some (.int ((ts.getD 0 0) % 6) tk) else if y = S "told" then some (.ref D) else List.lookup y [(S "script", .ref l)]) ∧
    News h₀ L h [(D, W.listOf ws.toArray c)]
/-- the ring's numbers stand in the frame -/
def PA (h₀ : Heap) (L : Addr) (l : Addr) (h : Heap) : Prop :=
  ∃ (a q b hf : Int) (ta tq tb th : Tok) (u : Str → Option Value), Ok a q b hf ∧
    Fr h₀ L h (fun y => if y = S "a" then some (.int a ta) else if y = S "q" then some (.int q tq) else if y = S "blocks" then some (.int b tb) else if y = S "half" then some (.int hf th) else if y = S "script" then some (.ref l) else u y)
section
variable {w : World} {mg mb : Str → Option Value} {mean : ExcName → Option Value} {h₀ : Heap} {L fa l : Addr} {cd : Value} {vs : List Value} {ns : List Int} {s : Shared} {Q : Flow → Shared → Prop} {E : Value → Shared → Prop}
theorem pb_intro {h : Heap} {D : Addr} {ws : List Value} {ts : List Int} {c : Nat} {tk : Tok} {k : Int} {news : List (Addr × Obj)} {i : Nat} (hi : IntsAre ws ts) (ht : ts.length = 3) (hj : i = 0) (hk : k = (ts.getD i 0).fmod 6)
  (F : Fr h₀ L h (fun y => if y = S "kind" then some (.int k tk) else if y = S "told" then some (.ref D) else List.lookup y [(S "script", .ref l)]))
  (N : News h₀ L h ((D, W.listOf ws.toArray c) :: news)) : PB h₀ L l h := by
  subst hj
  rw [fm (by decide)] at hk
  subst hk
  exact ⟨D, ws, ts, c, tk, hi, ht, F, cb_drop N fun p hp => by rw [List.mem_singleton.mp hp]; exact List.Mem.head _⟩
theorem law_start (B : Below callerA h₀ [] h₀) (X : (hd.heap_39 w.params).In h₀) (T : Top hd.view_39 (looseW hd.view_39 []) mean mg mb h₀) (hL : h₀.IsList l vs.toArray) (hI : IntsAre vs ns) (hlen : ns.length ≤ 63)
   (F : Fr h₀ L s.heap (fun x => List.lookup x [(S "script", .ref l)])) (N : News h₀ L s.heap []) :
   wpAny (model PR w) (callerA.deeper (lawEnv L fa cd)) (execs (lawBody.take 2) (lawEnv L fa cd)) (CutPost s (PB h₀ L l) Q) E s := by
  w_top off
  dsimp only [lawBody, lawDef, lawEnv, lawScope, PySem.Challenge.pw_ji0007_01, bodyOf, scopeOf, nth, List.take]
  (all_goals try k_fold)
  k_steps
  refine ⟨⟨_, _, rfl, ?_⟩⟩
  refine pb_intro (i := Int.toNat 0) (by assumption) ?_ rfl rfl (by assumption) (by assumption)
  simp only [List.length_append, List.length_take, List.length_flatten, List.map_replicate, List.length_cons, List.length_nil, List.sum_replicate_nat]
  omega
end
end Mine

namespace Mine
/-- 10 ** 30, sealed so that no step reckons with its figures -/
noncomputable def BIG : Int := Classical.choose (show ∃ n : Int, n = 10 ^ 30 from ⟨_, rfl⟩)
theorem big_is : BIG = 10 ^ 30 := Classical.choose_spec (show ∃ n : Int, n = 10 ^ 30 from ⟨_, rfl⟩)
theorem pow_big {prog : Program} {w : World} {A : Around} {E : Value → Shared → Prop} {s : Shared} {t u : Tok} {Q : Value → Shared → Prop} (h : Q (.int BIG s.toks) { s with toks := s.toks + 1 }) :
    wpAny (model prog w) A (binaryOp .Pow (.int 10 t) (.int 30 u)) Q E s := by
  refine pow_int_small (by decide) (by decide) (by decide) ?_
  have e : (10 : Int) ^ Int.toNat 30 = BIG := big_is.symm
  rw [e]; exact h
theorem big_pos : 0 < BIG := by rw [big_is]; decide
theorem big_mul (y z : Int) : IntMulOk (3 + y.fmod BIG) (2 + 2 * z.fmod BIG) := by
  rw [fm big_pos, fm big_pos]
  have h1 := Int.emod_nonneg y (Int.ne_of_gt big_pos)
  have h2 := Int.emod_lt_of_pos y big_pos
  have h3 := Int.emod_nonneg z (Int.ne_of_gt big_pos)
  have h4 := Int.emod_lt_of_pos z big_pos
  have h5 := big_is
  exact mulOk (by omega) (by omega) (by omega) (by omega)
local macro_rules | `(tactic| walk_at "binaryOp FloorDiv int int") => `(tactic| with_reducible refine floordiv_int (by assumption) ?_ (PyOk.at (by assumption)))
local macro_rules | `(tactic| walk_at "binaryOp Mult int int") => `(tactic| with_reducible refine mul_int ?_ (by assumption))
local macro_rules | `(tactic| walk_at "execs nil") => `(tactic| with_reducible refine wpAny_execs_nil ?_)
local macro_rules | `(tactic| walk_at "binaryOp Pow int int") => `(tactic| refine pow_big ?_)
/-- a and q stand in the frame -/
def PQ (h₀ : Heap) (L : Addr) (l : Addr) (h : Heap) : Prop :=
  ∃ (a q b hf : Int) (ta tq : Tok) (u : Str → Option Value), Ok a q b hf ∧
    Fr h₀ L h (fun y => if y = S "a" then some (.int a ta) else if y = S "q" then some (.int q tq) else if y = S "script" then some (.ref l) else u y)
theorem pq_intro {h₀ h : Heap} {L l D : Addr} {a q k : Int} {ta tq tk : Tok} (o : ∃ b hf, Ok a q b hf)
  (F : Fr h₀ L h (fun y => if y = S "q" then some (.int q tq) else if y = S "a" then some (.int a ta) else if y = S "kind" then some (.int k tk) else if y = S "told" then some (.ref D) else List.lookup y [(S "script", .ref l)])) : PQ h₀ L l h :=
  let ⟨b, hf, o⟩ := o
  ⟨a, q, b, hf, ta, tq, _, o, fr_lay (S "a") (by rfl) (fr_lay (S "q") (by rfl) (fr_lay (S "script") (by rfl) F))⟩
theorem ok0 : Ok 190464 8380417 44 95232 := ⟨by decide, by decide, by decide, by decide, by decide, by decide⟩
theorem ok1 : Ok 523776 8380417 16 261888 := ⟨by decide, by decide, by decide, by decide, by decide, by decide⟩
theorem ok3 (y z : Int) : Ok (2 + 2 * z.fmod 12) ((3 + y.fmod 9) * (2 + 2 * z.fmod 12) + 1) (3 + y.fmod 9) (1 + z.fmod 12) := by
  rw [fm (show (0 : Int) < 12 by decide), fm (show (0 : Int) < 9 by decide)]
  exact ⟨by omega, by omega, by omega, rfl, by omega, by omega⟩
theorem ok5 (y z : Int) : Ok (2 + 2 * z.fmod BIG) ((3 + y.fmod BIG) * (2 + 2 * z.fmod BIG) + 1) (3 + y.fmod BIG) (1 + z.fmod BIG) := by
  rw [fm big_pos, fm big_pos]
  have h1 := Int.emod_nonneg y (Int.ne_of_gt big_pos)
  have h2 := Int.emod_lt_of_pos y big_pos
  have h3 := Int.emod_nonneg z (Int.ne_of_gt big_pos)
  have h4 := Int.emod_lt_of_pos z big_pos
  have h5 := big_is
  exact ⟨by omega, by omega, by omega, rfl, by omega, by omega⟩
section
variable {w : World} {mg mb : Str → Option Value} {mean : ExcName → Option Value} {h₀ : Heap} {L fa l : Addr} {cd : Value} {vs : List Value} {ns : List Int} {s : Shared} {Q : Flow → Shared → Prop} {E : Value → Shared → Prop}
theorem law_nums (B : Below callerA h₀ [] h₀) (X : (hd.heap_39 w.params).In h₀) (T : Top hd.view_39 (looseW hd.view_39 []) mean mg mb h₀)
   (hp : PB h₀ L l s.heap) :
   wpAny (model PR w) (callerA.deeper (lawEnv L fa cd)) (execs ((lawBody.drop 2).take 2) (lawEnv L fa cd)) (CutPost s (PQ h₀ L l) Q) E s := by
  obtain ⟨D, ws, ts, c, tk, hI, h3, F, N⟩ := hp
  obtain ⟨x, y, z, rfl⟩ : ∃ x y z, ts = [x, y, z] := by
    match ts, h3 with
    | [x, y, z], _ => exact ⟨x, y, z, rfl⟩
  simp only [List.getD_cons_zero] at F
  have hb0 := big_pos
  have hb1 : BIG ≠ 0 := Int.ne_of_gt big_pos
  have hm : IntMulOk (3 + ([x, y, z].getD (Int.toNat 1) 0).fmod BIG) (2 + 2 * ([x, y, z].getD (Int.toNat 2) 0).fmod BIG) := big_mul _ _
  w_top off
  dsimp only [lawBody, lawDef, lawEnv, lawScope, PySem.Challenge.pw_ji0007_01, bodyOf, scopeOf, nth, List.take, List.drop]
  have hc : x % 6 = 0 ∨ x % 6 = 1 ∨ x % 6 = 2 ∨ x % 6 = 3 ∨ x % 6 = 4 ∨ x % 6 = 5 := by omega
  rcases hc with e | e | e | e | e | e
  all_goals rw [e] at F
  all_goals clear e
  (all_goals try k_fold)
  repeat' (first | (k_unfold; (try dsimp only)) | walk1 | (dsimp only; walk1) | (leave1; (try dsimp only)))
  all_goals (refine ⟨⟨_, _, rfl, ?_⟩⟩; refine pq_intro ?_ (by assumption))
  · exact ⟨_, _, ok0⟩
  · exact ⟨_, _, ok1⟩
  · exact ⟨_, _, ok1⟩
  · exact ⟨_, _, ok3 _ _⟩
  · exact ⟨_, _, ok3 _ _⟩
  · exact ⟨_, _, ok5 _ _⟩
theorem pa_intro {h : Heap} {a q b hf b' hf' : Int} {ta tq tb th : Tok} {u : Str → Option Value} (o : Ok a q b hf) (eb : b' = b) (eh : hf' = hf)
  (F : Fr h₀ L h (fun y => if y = S "blocks" then some (.int b' tb) else if y = S "half" then some (.int hf' th) else if y = S "a" then some (.int a ta) else if y = S "q" then some (.int q tq) else if y = S "script" then some (.ref l) else u y)) : PA h₀ L l h := by
  subst eb; subst eh
  exact ⟨a, q, _, _, ta, tq, tb, th, _, o, fr_lay (S "a") (by rfl) (fr_lay (S "q") (by rfl) (fr_lay (S "blocks") (by rfl) (fr_lay (S "half") (by rfl) (fr_lay (S "script") (by rfl) F))))⟩
theorem law_split (B : Below callerA h₀ [] h₀) (X : (hd.heap_39 w.params).In h₀) (T : Top hd.view_39 (looseW hd.view_39 []) mean mg mb h₀)
   (hp : PQ h₀ L l s.heap) :
   wpAny (model PR w) (callerA.deeper (lawEnv L fa cd)) (execs ((lawBody.drop 4).take 1) (lawEnv L fa cd)) (CutPost s (PA h₀ L l) Q) E s := by
  obtain ⟨a, q, b, hf, ta, tq, u, o, F⟩ := hp
  have N : News h₀ L s.heap [] := News.nil
  have ha0 : a ≠ 0 := Int.ne_of_gt o.a_pos
  have hpa : PyOk a := pyOk (by have := o.a_pos; omega) (by have := o.ha; have := o.la; omega)
  w_top off
  dsimp only [lawBody, lawDef, lawEnv, lawScope, PySem.Challenge.pw_ji0007_01, bodyOf, scopeOf, nth, List.take, List.drop]
  (all_goals try k_fold)
  repeat' (first | (k_unfold; (try dsimp only)) | walk1 | (dsimp only; walk1) | (leave1; (try dsimp only)))
  refine ⟨⟨_, _, rfl, ?_⟩⟩
  refine pa_intro o ?_ ?_ (by assumption)
  · rw [fd o.a_pos]; exact o.m_is
  · rw [fd (by decide)]; exact o.half
end
end Mine

namespace Mine
section
variable {prog : Program} {w : World} {A : Around} {E : Value → Shared → Prop} {s : Shared} {env : Env} {h₀ : Heap} {x : Str} {body : List Stmt} {Q : Flow → Shared → Prop}
/-- a turn's end: the kept names stand as they stood, the ledger too -/
structure KeepEnd (h₀ : Heap) (L : Addr) (kept : List Str) (m₀ : Str → Option Value) (led : List (Addr × Obj)) (s₁ s₂ : Shared) : Prop where
  out : ∃ h' tk m' news', s₂ = { s₁ with heap := h', toks := tk } ∧ Fr h₀ L h' m' ∧ News h₀ L h' news' ∧ (∀ p ∈ led, p ∈ news') ∧ kept.map m' = kept.map m₀
abbrev KeepPost (h₀ : Heap) (L : Addr) (kept : List Str) (m₀ : Str → Option Value) (led : List (Addr × Obj)) (s₁ : Shared) (Q : Flow → Shared → Prop) (f : Flow) (s₂ : Shared) : Prop :=
  match f with
  | .ret v => Q (.ret v) s₂
  | .brk => Q .next s₂
  | .next => KeepEnd h₀ L kept m₀ led s₁ s₂
  | .cont => KeepEnd h₀ L kept m₀ led s₁ s₂
theorem iter_keep {r : Addr} {a₀ b₀ c : Int} {t₀ u₀ v₀ : Tok} {n : Nat} {m₀ : Str → Option Value} {news : List (Addr × Obj)} (kept : List Str)
    (hh : A.handled = none) (hx : kept.contains x = false) (hr : IsRange s.heap r a₀ b₀ c t₀ u₀ v₀) (hsmall : Builtin.Range.small a₀ b₀ c = true) (hn : Builtin.Range.rangeSize a₀ b₀ c = (n : Int)) (F : Fr h₀ env.locals s.heap m₀) (N : News h₀ env.locals s.heap news)
    (turn : ∀ (i : Nat) t (m₁ : Str → Option Value) h tk own, i < n → Fr h₀ env.locals h m₁ → m₁ x = some (.int (a₀ + i * c) t) → kept.map m₁ = kept.map m₀ → News h₀ env.locals h (news ++ own) →
      wpAny (model prog w) A (execs body env) (KeepPost h₀ env.locals kept m₀ (news ++ own) { s with heap := h, toks := tk } Q) E { s with heap := h, toks := tk })
    (done : ∀ (m₁ : Str → Option Value) h tk, Fr h₀ env.locals h m₁ → kept.map m₁ = kept.map m₀ → News h₀ env.locals h news → Q .next { s with heap := h, toks := tk }) :
    wpAny (model prog w) A (pyIter (.ref r)) (fun it s₂ => LoopAtV prog w A h₀ env x body Q E it s₂) E s := by
  refine wpAny_pyIter_range hr hsmall ?_
  have W : Walks prog w A s.heap.objs.size [s.heap.objs.size] [s.heap.objs.size] n (fun i v => i < n ∧ ∃ t, v = .int (a₀ + i * c) t)
      (fun i h => IsRangeIter h s.heap.objs.size (a₀ + (i : Nat) * c) ((n : Int) - (i : Nat)) c) := (Walks.range hh _ a₀ c n).bound
  refine loop_invN (fun _ m nx => nx = news ∧ kept.map m = kept.map m₀) W ?_ ?_ ?_ ?_ (by show IsRangeIter _ _ _ _ _; rw [hn]; simpa using Heap.get?_push_size _ rfl) (F.push _) (fun p hp => ⟨Heap.get?_push_of_some _ (N p hp).1, (N p hp).2⟩) ⟨rfl, rfl⟩ ?_ ?_
  · intro hm
    exact absurd F.ns.lt ((List.mem_singleton.mp hm) ▸ Nat.lt_irrefl _)
  · intro b hb
    rw [List.mem_singleton.mp hb]
    exact next_is_new F
  · intro p hp hI
    exact absurd (Heap.lt_size (N p hp).1) ((List.mem_singleton.mp hI) ▸ Nat.lt_irrefl _)
  · intro p hp hI
    exact absurd (Heap.lt_size (N p hp).1) ((List.mem_singleton.mp hI) ▸ Nat.lt_irrefl _)
  · rintro i v m₁ nx h tk own hi ⟨_, t, rfl⟩ _ _ ⟨rfl, hm⟩ F₁ N₁
    have hm2 : kept.map (fun y => if y = x then some (Value.int (a₀ + i * c) t) else m₁ y) = kept.map m₀ := by
      rw [← hm]
      refine List.map_congr_left fun z hz => if_neg fun e => ?_
      subst e
      have := List.contains_iff_mem.mpr hz
      rw [hx] at this
      cases this
    refine wpAny_mono (turn i t _ h tk own hi F₁ (if_pos rfl) hm2 N₁) (fun f s₂ p => ?_) fun _ _ e => e
    have fin : KeepEnd h₀ env.locals kept m₀ (nx ++ own) { s with heap := h, toks := tk } s₂ →
        InvEndN h₀ env.locals (fun m' nx' => nx' = nx ∧ kept.map m' = kept.map m₀) own (nx.map (·.1)) { s with heap := h, toks := tk } s₂ := by
      rintro ⟨h', tk', m', news', e, F', N', hn', hk⟩
      exact ⟨h', tk', m', news', nx, e, F', N', fun p hp => hn' p (List.mem_append_left _ hp), fun p hp => hn' p (List.mem_append_right _ hp), rfl, rfl, hk⟩
    cases f with
    | ret v => exact p
    | brk => exact p
    | next => exact fin p
    | cont => exact fin p
  · rintro m₁ nx h tk ⟨rfl, hm⟩ F₁ N₁
    exact done m₁ h tk F₁ hm N₁
theorem range3_all : ∀ k : Fin 63, k.val % 3 = 0 → Builtin.Range.small 0 (k.val : Int) 3 = true ∧ Builtin.Range.rangeSize 0 (k.val : Int) 3 = ((k.val / 3 : Nat) : Int) := by decide +kernel
theorem range3 {k : Nat} (hk : k ≤ 62) (h3 : k % 3 = 0) : Builtin.Range.small 0 (k : Int) 3 = true ∧ Builtin.Range.rangeSize 0 (k : Int) 3 = ((k / 3 : Nat) : Int) :=
  range3_all ⟨k, by omega⟩ h3
end
end Mine

namespace Mine
local macro_rules | `(tactic| walk_at "execs nil") => `(tactic| with_reducible refine wpAny_execs_nil ?_)
local macro_rules | `(tactic| walk_at "binaryOp FloorDiv int int") => `(tactic| with_reducible refine floordiv_int (by assumption) ?_ (PyOk.at (by assumption)))
local macro_rules | `(tactic| walk_at "binaryOp Mult int int") => `(tactic| with_reducible refine mul_int ?_ (by assumption))
local macro_rules | `(tactic| walk_at "call ref") => `(tactic| (k_here; k_dflt (refine' IClaim.use (reduce_c _ _ _ _ _ _ _ _) ?k1 ?k2 ?k3 ?k4 ?k5 ?k6 ?k7 ?k8 ?k9 ?_; (case k1 => k_asm); (case k2 => k_asm); (case k3 => k_asm); (case k4 => k_asm); (case k5 => k_asm); (case k6 => first | exact rfl | assumption); (case k7 => first | assumption | omega); (case k8 => ktr_room); (case k9 => ktr_units)); intro t9 h9 tk9 F9 N9; (try dsimp only); (try k_fold)))
local macro_rules | `(tactic| walk_at "call ref") => `(tactic| (k_here; k_dflt (refine' TClaim.use (decompose_c _ _ _ _ _ _ _ _ _ _ _ _) ?k1 ?k2 ?k3 ?k4 ?k5 ?k6 ?k7 ?k8 ?k9 ?_; (case k1 => k_asm); (case k2 => k_asm); (case k3 => k_asm); (case k4 => k_asm); (case k5 => k_asm); (case k6 => first | exact rfl | assumption); (case k7 => first | assumption | omega); (case k8 => ktr_room); (case k9 => ktr_units)); intro D9 t91 t92 c9 h9 tk9 F9 N9 l9; (try k_lt l9); (try dsimp only); (try k_fold)))
local macro_rules | `(tactic| walk_at "call ref") => `(tactic| (k_here; k_dflt (refine' IClaim.use (high_c _ _ _ _ _ _ _ _ _ _ _ _) ?k1 ?k2 ?k3 ?k4 ?k5 ?k6 ?k7 ?k8 ?k9 ?_; (case k1 => k_asm); (case k2 => k_asm); (case k3 => k_asm); (case k4 => k_asm); (case k5 => k_asm); (case k6 => first | exact rfl | assumption); (case k7 => first | assumption | omega); (case k8 => ktr_room); (case k9 => ktr_units)); intro t9 h9 tk9 F9 N9; (try dsimp only); (try k_fold)))
local macro_rules | `(tactic| walk_at "call ref") => `(tactic| (k_here; k_dflt (refine' IClaim.use (low_c _ _ _ _ _ _ _ _ _ _ _ _) ?k1 ?k2 ?k3 ?k4 ?k5 ?k6 ?k7 ?k8 ?k9 ?_; (case k1 => k_asm); (case k2 => k_asm); (case k3 => k_asm); (case k4 => k_asm); (case k5 => k_asm); (case k6 => first | exact rfl | assumption); (case k7 => first | assumption | omega); (case k8 => ktr_room); (case k9 => ktr_units)); intro t9 h9 tk9 F9 N9; (try dsimp only); (try k_fold)))
local macro_rules | `(tactic| walk_at "call ref") => `(tactic| (k_here; k_dflt (refine' IClaim.use (hint_c _ _ _ _ _ _ _ _ _ _ _ _ _ _) ?k1 ?k2 ?k3 ?k4 ?k5 ?k6 ?k7 ?k8 ?k9 ?_; (case k1 => k_asm); (case k2 => k_asm); (case k3 => k_asm); (case k4 => k_asm); (case k5 => k_asm); (case k6 => first | exact rfl | assumption); (case k7 => first | assumption | omega); (case k8 => ktr_room); (case k9 => ktr_units)); intro t9 h9 tk9 F9 N9; (try dsimp only); (try k_fold)))
local macro_rules | `(tactic| walk_at "call ref") => `(tactic| (k_here; k_dflt (refine' IClaim.use (use_c _ _ _ _ _ _ _ _ _ _ _ _ _ _) ?k1 ?k2 ?k3 ?k4 ?k5 ?k6 ?k7 ?k8 ?k9 ?_; (case k1 => k_asm); (case k2 => k_asm); (case k3 => k_asm); (case k4 => k_asm); (case k5 => k_asm); (case k6 => first | exact rfl | assumption); (case k7 => first | assumption | omega); (case k8 => ktr_room); (case k9 => ktr_units)); intro t9 h9 tk9 F9 N9; (try dsimp only); (try k_fold)))
local macro_rules | `(tactic| walk_at "call ref") => `(tactic| (k_here; k_dflt (refine' TClaim.use (parts_c _ _ _ _ _ _ _ _ _ _ _ _) ?k1 ?k2 ?k3 ?k4 ?k5 ?k6 ?k7 ?k8 ?k9 ?_; (case k1 => k_asm); (case k2 => k_asm); (case k3 => k_asm); (case k4 => k_asm); (case k5 => k_asm); (case k6 => first | exact rfl | assumption); (case k7 => first | assumption | omega); (case k8 => ktr_room); (case k9 => ktr_units)); intro D9 t91 t92 c9 h9 tk9 F9 N9 l9; (try k_lt l9); (try dsimp only); (try k_fold)))
local macro_rules | `(tactic| walk_at "call ref") => `(tactic| (k_here; k_dflt (refine' IClaim.use (apart_c _ _ _ _ _ _ _ _ _ _ _ _) ?k1 ?k2 ?k3 ?k4 ?k5 ?k6 ?k7 ?k8 ?k9 ?_; (case k1 => k_asm); (case k2 => k_asm); (case k3 => k_asm); (case k4 => k_asm); (case k5 => k_asm); (case k6 => first | exact rfl | assumption); (case k7 => first | assumption | omega); (case k8 => ktr_room); (case k9 => ktr_units)); intro t9 h9 tk9 F9 N9; (try dsimp only); (try k_fold)))
local macro_rules | `(tactic| walk_at "call ref") => `(tactic| (k_here; k_dflt (refine' IClaim.use (norm_c _ _ _ _ _ _ _ _ _) ?k1 ?k2 ?k3 ?k4 ?k5 ?k6 ?k7 ?k8 ?k9 ?_; (case k1 => k_asm); (case k2 => k_asm); (case k3 => k_asm); (case k4 => k_asm); (case k5 => k_asm); (case k6 => first | exact rfl | assumption); (case k7 => first | assumption | omega); (case k8 => ktr_room); (case k9 => ktr_units)); intro t9 h9 tk9 F9 N9; (try dsimp only); (try k_fold)))
local macro_rules | `(tactic| walk_at "exec For Name Call cons nil") => `(tactic| (k_here; (rename Fr _ _ _ _ => lF'); (with_unfolding_all refine' For_invVF lF' ?k1 ?k2 ?_ (hE := by assumption); (case k1 => exact rfl); (case k2 => exact rfl); k_whole)))
section
variable {w : World} {mg mb : Str → Option Value} {mean : ExcName → Option Value} {h₀ : Heap} {L fa l : Addr} {cd : Value} {vs : List Value} {ns : List Int} {s : Shared} {Q : Flow → Shared → Prop} {E : Value → Shared → Prop}
theorem pa_again {h : Heap} {a q b hf : Int} {ta tq tb th : Tok} {m : Str → Option Value} (o : Ok a q b hf) (F : Fr h₀ L h m)
  (e1 : m (S "a") = some (.int a ta)) (e2 : m (S "q") = some (.int q tq)) (e3 : m (S "blocks") = some (.int b tb)) (e4 : m (S "half") = some (.int hf th)) (e5 : m (S "script") = some (.ref l)) : PA h₀ L l h :=
  ⟨a, q, b, hf, ta, tq, tb, th, _, o, fr_lay (S "a") e1 (fr_lay (S "q") e2 (fr_lay (S "blocks") e3 (fr_lay (S "half") e4 (fr_lay (S "script") e5 F))))⟩
theorem law_small (B : Below callerA h₀ [] h₀) (X : (hd.heap_39 w.params).In h₀) (T : Top hd.view_39 (looseW hd.view_39 []) mean mg mb h₀)
   (hE : PassesOwn (model PR w) (callerA.deeper (lawEnv L fa cd)) (lawEnv L fa cd) E) (hp : PA h₀ L l s.heap) :
   wpAny (model PR w) (callerA.deeper (lawEnv L fa cd)) (execs ((lawBody.drop 5).take 1) (lawEnv L fa cd)) (CutPost s (PA h₀ L l) Q) E s := by
  obtain ⟨a, q, b, hf, ta, tq, tb, th, u, o, F⟩ := hp
  have N : News h₀ L s.heap [] := News.nil
  have hq0 := o.q_pos
  w_top off
  dsimp only [lawBody, lawDef, lawEnv, lawScope, PySem.Challenge.pw_ji0007_01, bodyOf, scopeOf, nth, List.take, List.drop]
  (all_goals try k_fold)
  repeat' (first | (k_unfold; (try dsimp only)) | walk1 | (dsimp only; walk1) | (leave1; (try dsimp only)))
  all_goals (refine ⟨⟨_, _, rfl, ?_⟩⟩; exact pa_again o (by assumption) (by rfl) (by rfl) (by rfl) (by rfl) (by rfl))
end
end Mine

namespace Mine
local macro_rules | `(tactic| walk_at "execs nil") => `(tactic| with_reducible refine wpAny_execs_nil ?_)
local macro_rules | `(tactic| walk_at "binaryOp FloorDiv int int") => `(tactic| with_reducible refine floordiv_int (by assumption) ?_ (PyOk.at (by assumption)))
local macro_rules | `(tactic| walk_at "binaryOp Mult int int") => `(tactic| with_reducible refine mul_int ?_ (by assumption))
local macro_rules | `(tactic| walk_at "call ref") => `(tactic| (k_here; k_dflt (refine' IClaim.use (reduce_c _ _ _ _ _ _ _ _) ?k1 ?k2 ?k3 ?k4 ?k5 ?k6 ?k7 ?k8 ?k9 ?_; (case k1 => k_asm); (case k2 => k_asm); (case k3 => k_asm); (case k4 => k_asm); (case k5 => k_asm); (case k6 => first | exact rfl | assumption); (case k7 => first | assumption | omega); (case k8 => ktr_room); (case k9 => ktr_units)); intro t9 h9 tk9 F9 N9; (try dsimp only); (try k_fold)))
local macro_rules | `(tactic| walk_at "call ref") => `(tactic| (k_here; k_dflt (refine' TClaim.use (decompose_c _ _ _ _ _ _ _ _ _ _ _ _) ?k1 ?k2 ?k3 ?k4 ?k5 ?k6 ?k7 ?k8 ?k9 ?_; (case k1 => k_asm); (case k2 => k_asm); (case k3 => k_asm); (case k4 => k_asm); (case k5 => k_asm); (case k6 => first | exact rfl | assumption); (case k7 => first | assumption | omega); (case k8 => ktr_room); (case k9 => ktr_units)); intro D9 t91 t92 c9 h9 tk9 F9 N9 l9; (try k_lt l9); (try dsimp only); (try k_fold)))
local macro_rules | `(tactic| walk_at "call ref") => `(tactic| (k_here; k_dflt (refine' IClaim.use (high_c _ _ _ _ _ _ _ _ _ _ _ _) ?k1 ?k2 ?k3 ?k4 ?k5 ?k6 ?k7 ?k8 ?k9 ?_; (case k1 => k_asm); (case k2 => k_asm); (case k3 => k_asm); (case k4 => k_asm); (case k5 => k_asm); (case k6 => first | exact rfl | assumption); (case k7 => first | assumption | omega); (case k8 => ktr_room); (case k9 => ktr_units)); intro t9 h9 tk9 F9 N9; (try dsimp only); (try k_fold)))
local macro_rules | `(tactic| walk_at "call ref") => `(tactic| (k_here; k_dflt (refine' IClaim.use (low_c _ _ _ _ _ _ _ _ _ _ _ _) ?k1 ?k2 ?k3 ?k4 ?k5 ?k6 ?k7 ?k8 ?k9 ?_; (case k1 => k_asm); (case k2 => k_asm); (case k3 => k_asm); (case k4 => k_asm); (case k5 => k_asm); (case k6 => first | exact rfl | assumption); (case k7 => first | assumption | omega); (case k8 => ktr_room); (case k9 => ktr_units)); intro t9 h9 tk9 F9 N9; (try dsimp only); (try k_fold)))
local macro_rules | `(tactic| walk_at "call ref") => `(tactic| (k_here; k_dflt (refine' IClaim.use (hint_c _ _ _ _ _ _ _ _ _ _ _ _ _ _) ?k1 ?k2 ?k3 ?k4 ?k5 ?k6 ?k7 ?k8 ?k9 ?_; (case k1 => k_asm); (case k2 => k_asm); (case k3 => k_asm); (case k4 => k_asm); (case k5 => k_asm); (case k6 => first | exact rfl | assumption); (case k7 => first | assumption | omega); (case k8 => ktr_room); (case k9 => ktr_units)); intro t9 h9 tk9 F9 N9; (try dsimp only); (try k_fold)))
local macro_rules | `(tactic| walk_at "call ref") => `(tactic| (k_here; k_dflt (refine' IClaim.use (use_c _ _ _ _ _ _ _ _ _ _ _ _ _ _) ?k1 ?k2 ?k3 ?k4 ?k5 ?k6 ?k7 ?k8 ?k9 ?_; (case k1 => k_asm); (case k2 => k_asm); (case k3 => k_asm); (case k4 => k_asm); (case k5 => k_asm); (case k6 => first | exact rfl | assumption); (case k7 => first | assumption | omega); (case k8 => ktr_room); (case k9 => ktr_units)); intro t9 h9 tk9 F9 N9; (try dsimp only); (try k_fold)))
local macro_rules | `(tactic| walk_at "call ref") => `(tactic| (k_here; k_dflt (refine' TClaim.use (parts_c _ _ _ _ _ _ _ _ _ _ _ _) ?k1 ?k2 ?k3 ?k4 ?k5 ?k6 ?k7 ?k8 ?k9 ?_; (case k1 => k_asm); (case k2 => k_asm); (case k3 => k_asm); (case k4 => k_asm); (case k5 => k_asm); (case k6 => first | exact rfl | assumption); (case k7 => first | assumption | omega); (case k8 => ktr_room); (case k9 => ktr_units)); intro D9 t91 t92 c9 h9 tk9 F9 N9 l9; (try k_lt l9); (try dsimp only); (try k_fold)))
local macro_rules | `(tactic| walk_at "call ref") => `(tactic| (k_here; k_dflt (refine' IClaim.use (apart_c _ _ _ _ _ _ _ _ _ _ _ _) ?k1 ?k2 ?k3 ?k4 ?k5 ?k6 ?k7 ?k8 ?k9 ?_; (case k1 => k_asm); (case k2 => k_asm); (case k3 => k_asm); (case k4 => k_asm); (case k5 => k_asm); (case k6 => first | exact rfl | assumption); (case k7 => first | assumption | omega); (case k8 => ktr_room); (case k9 => ktr_units)); intro t9 h9 tk9 F9 N9; (try dsimp only); (try k_fold)))
local macro_rules | `(tactic| walk_at "call ref") => `(tactic| (k_here; k_dflt (refine' IClaim.use (norm_c _ _ _ _ _ _ _ _ _) ?k1 ?k2 ?k3 ?k4 ?k5 ?k6 ?k7 ?k8 ?k9 ?_; (case k1 => k_asm); (case k2 => k_asm); (case k3 => k_asm); (case k4 => k_asm); (case k5 => k_asm); (case k6 => first | exact rfl | assumption); (case k7 => first | assumption | omega); (case k8 => ktr_room); (case k9 => ktr_units)); intro t9 h9 tk9 F9 N9; (try dsimp only); (try k_fold)))
section
variable {w : World} {mg mb : Str → Option Value} {mean : ExcName → Option Value} {h₀ : Heap} {L fa l : Addr} {cd : Value} {vs : List Value} {ns : List Int} {s : Shared} {Q : Flow → Shared → Prop} {E : Value → Shared → Prop}
/-- the numbers stand in the frame, a list of the call's own -/
def PN (h₀ : Heap) (L : Addr) (h : Heap) : Prop :=
  ∃ (a q b hf : Int) (ta tq tb th : Tok) (D : Addr) (ws : List Value) (ks : List Int) (c : Nat) (u : Str → Option Value), Ok a q b hf ∧ IntsAre ws ks ∧ ks.length ≤ 36 ∧
    Fr h₀ L h (fun y => if y = S "a" then some (.int a ta) else if y = S "q" then some (.int q tq) else if y = S "blocks" then some (.int b tb) else if y = S "half" then some (.int hf th) else if y = S "numbers" then some (.ref D) else u y) ∧
    News h₀ L h [(D, W.listOf ws.toArray c)]
theorem pn_intro {h : Heap} {a q b hf : Int} {ta tq tb th : Tok} {D : Addr} {ws : List Value} {ks : List Int} {c : Nat} {m : Str → Option Value} {news : List (Addr × Obj)} (o : Ok a q b hf) (hi : IntsAre ws ks) (hl : ks.length ≤ 36) (F : Fr h₀ L h m)
  (e1 : m (S "a") = some (.int a ta)) (e2 : m (S "q") = some (.int q tq)) (e3 : m (S "blocks") = some (.int b tb)) (e4 : m (S "half") = some (.int hf th)) (e5 : m (S "numbers") = some (.ref D)) (N : News h₀ L h ((D, W.listOf ws.toArray c) :: news)) : PN h₀ L h :=
  ⟨a, q, b, hf, ta, tq, tb, th, D, ws, ks, c, _, o, hi, hl, fr_lay (S "a") e1 (fr_lay (S "q") e2 (fr_lay (S "blocks") e3 (fr_lay (S "half") e4 (fr_lay (S "numbers") e5 F)))), cb_drop N fun p hp => by rw [List.mem_singleton.mp hp]; exact List.Mem.head _⟩
theorem law_numbers (B : Below callerA h₀ [] h₀) (X : (hd.heap_39 w.params).In h₀) (T : Top hd.view_39 (looseW hd.view_39 []) mean mg mb h₀) (hL : h₀.IsList l vs.toArray) (hI : IntsAre vs ns) (hlen : ns.length ≤ 63)
   (hp : PA h₀ L l s.heap) :
   wpAny (model PR w) (callerA.deeper (lawEnv L fa cd)) (execs ((lawBody.drop 6).take 1) (lawEnv L fa cd)) (CutPost s (PN h₀ L) Q) E s := by
  obtain ⟨a, q, b, hf, ta, tq, tb, th, u, o, F⟩ := hp
  have N : News h₀ L s.heap [] := News.nil
  w_top off
  dsimp only [lawBody, lawDef, lawEnv, lawScope, PySem.Challenge.pw_ji0007_01, bodyOf, scopeOf, nth, List.take, List.drop]
  (all_goals try k_fold)
  repeat' (first | (k_unfold; (try dsimp only)) | walk1 | (dsimp only; walk1) | (leave1; (try dsimp only)))
  refine ⟨⟨_, _, rfl, ?_⟩⟩
  refine pn_intro o (by assumption) (by omega) (by assumption) (by rfl) (by rfl) (by rfl) (by rfl) (by rfl) (by assumption)
def mu (ks : List Int) : Nat := if ks.length = 0 then 3 else (3 - ks.length % 3) % 3
structure NumEnd (h₀ : Heap) (L D : Addr) (m₀ : Str → Option Value) (ks : List Int) (s₁ s₂ : Shared) : Prop where
  out : ∃ h' tk news' ws' ks' c', s₂ = { s₁ with heap := h', toks := tk } ∧ Fr h₀ L h' m₀ ∧ News h₀ L h' news' ∧ (D, W.listOf ws'.toArray c') ∈ news' ∧ IntsAre ws' ks' ∧ ks'.length = ks.length + 1 ∧ (ks.length = 0 ∨ ks.length % 3 ≠ 0)
abbrev NumPost (h₀ : Heap) (L D : Addr) (m₀ : Str → Option Value) (ks : List Int) (s₁ : Shared) (Q : Flow → Shared → Prop) (f : Flow) (s₂ : Shared) : Prop :=
  match f with
  | .ret v => Q (.ret v) s₂
  | .brk => Q .next s₂
  | .next => NumEnd h₀ L D m₀ ks s₁ s₂
  | .cont => NumEnd h₀ L D m₀ ks s₁ s₂
theorem while_nums {prog : Program} {A : Around} {env : Env} {test : Expr} {body : List Stmt} {pos : Pos} {m₀ : Str → Option Value} {D : Addr} {ws₀ : List Value} {ks₀ : List Int} {c₀ : Nat}
    (F : Fr h₀ L s.heap m₀) (N : News h₀ L s.heap [(D, W.listOf ws₀.toArray c₀)]) (hi : IntsAre ws₀ ks₀) (hb : ks₀.length + mu ks₀ ≤ 62)
    (turn : ∀ ws ks c h tk, IntsAre ws ks → ks.length ≤ 62 → Fr h₀ L h m₀ → News h₀ L h [(D, W.listOf ws.toArray c)] →
      wpAny (model prog w) A (isTrue test env (eval test env)) (fun b s₂ => if b = true then wpAny (model prog w) A (execs body env) (NumPost h₀ L D m₀ ks s Q) E s₂ else Q .next s₂) E { s with heap := h, toks := tk })
    (hE : PassesOwn (model prog w) A env E) : wpAny (model prog w) A (exec (.While test body [] pos) env) Q E s := by
  refine While_inv2 (n₀ := mu ks₀) (fun n m nx => m = m₀ ∧ ∃ ws ks c, nx = [(D, W.listOf ws.toArray c)] ∧ IntsAre ws ks ∧ ks.length + mu ks ≤ 62 ∧ n = mu ks) F N ⟨rfl, ws₀, ks₀, c₀, rfl, hi, hb, rfl⟩ ?_ hE
  rintro n m₁ nx h tk F₁ N₁ ⟨rfl, ws, ks, c, rfl, hi', hb', rfl⟩
  refine wpAny_mono (turn ws ks c h tk hi' (by omega) F₁ N₁) (fun b s₂ p => ?_) fun _ _ x => x
  cases b with
  | false => simpa using p
  | true =>
    simp only [if_true] at p ⊢
    refine wpAny_mono p (fun f s₃ q => ?_) fun _ _ x => x
    have fin : NumEnd h₀ L D m₁ ks s s₃ → WhileStep2 h₀ L s (fun n m nx => m = m₁ ∧ ∃ ws ks c, nx = [(D, W.listOf ws.toArray c)] ∧ IntsAre ws ks ∧ ks.length + mu ks ≤ 62 ∧ n = mu ks) Q (mu ks) .next s₃ := by
      rintro ⟨h', tk', news', ws', ks', c', e, F', N', hm, hi'', hl, hc⟩
      refine ⟨h', tk', m₁, [(D, W.listOf ws'.toArray c')], mu ks', e, F', cb_drop N' fun p hp => by rw [List.mem_singleton.mp hp]; exact hm, ?_, rfl, ws', ks', c', rfl, hi'', ?_, rfl⟩
      · unfold mu; rw [hl]; split <;> split <;> omega
      · unfold mu at hb' ⊢; rw [hl]; split <;> split at hb' <;> omega
    cases f with
    | ret v => exact q
    | brk => exact q
    | next => exact fin q
    | cont => exact fin q
theorem num_intro {h' : Heap} {tk : Nat} {D l' : Addr} {o' : Obj} {m₀ : Str → Option Value} {ws : List Value} {ks : List Int} {v : Int} {t : Tok} {c' : Nat}
    (F : Fr h₀ L h' m₀) (N : News h₀ L h' [(l', o'), (D, W.listOf (ws.toArray.push (.int v t)) c')]) (hi : IntsAre ws ks) (hc : ks.length = 0 ∨ ks.length % 3 ≠ 0) : NumEnd h₀ L D m₀ ks s { s with heap := h', toks := tk } := by
  refine ⟨⟨h', tk, _, ws ++ [.int v t], ks ++ [v], c', rfl, F, N, ?_, IntsAre.append hi (.cons v t .nil), by simp, hc⟩⟩
  have e : (ws ++ [Value.int v t]).toArray = ws.toArray.push (.int v t) := by simp
  rw [e]
  exact List.Mem.tail _ (List.Mem.head _)
/-- the same, their number a multiple of three -/
def PM (h₀ : Heap) (L : Addr) (h : Heap) : Prop :=
  ∃ (a q b hf : Int) (ta tq tb th : Tok) (D : Addr) (ws : List Value) (ks : List Int) (c : Nat) (u : Str → Option Value), Ok a q b hf ∧ IntsAre ws ks ∧ ks.length ≤ 62 ∧ ks.length % 3 = 0 ∧
    Fr h₀ L h (fun y => if y = S "a" then some (.int a ta) else if y = S "q" then some (.int q tq) else if y = S "blocks" then some (.int b tb) else if y = S "half" then some (.int hf th) else if y = S "numbers" then some (.ref D) else u y) ∧
    News h₀ L h [(D, W.listOf ws.toArray c)]
theorem law_while (B : Below callerA h₀ [] h₀) (X : (hd.heap_39 w.params).In h₀) (T : Top hd.view_39 (looseW hd.view_39 []) mean mg mb h₀)
   (hE : PassesOwn (model PR w) (callerA.deeper (lawEnv L fa cd)) (lawEnv L fa cd) E) (hp : PN h₀ L s.heap) :
   wpAny (model PR w) (callerA.deeper (lawEnv L fa cd)) (execs ((lawBody.drop 7).take 1) (lawEnv L fa cd)) (CutPost s (PM h₀ L) Q) E s := by
  obtain ⟨a, q, b, hf, ta, tq, tb, th, D, ws, ks, c, u, o, hi, hl, F, N⟩ := hp
  w_top off
  dsimp only [lawBody, lawDef, lawEnv, lawScope, PySem.Challenge.pw_ji0007_01, bodyOf, scopeOf, nth, List.take, List.drop]
  refine wpAny_execs_cons ?_
  refine while_nums F N hi ?_ ?_ hE
  · unfold mu; split <;> omega
  intro ws ks c h tk hi hl F N
  (all_goals try k_fold)
  repeat' (first | (k_unfold; (try dsimp only)) | walk1 | (dsimp only; walk1) | (leave1; (try dsimp only)))
  · refine num_intro (by assumption) (by assumption) hi (.inl ?_)
    have e : ks = [] := of_decide_eq_true (by assumption)
    rw [e]; rfl
  · refine num_intro (by assumption) (by assumption) hi (.inr ?_)
    have e : (ks.length : Int).fmod 3 ≠ 0 := by assumption
    rw [fm (by decide)] at e
    omega
  · refine ⟨⟨_, _, rfl, ?_⟩⟩
    have e : (ks.length : Int).fmod 3 = 0 := by assumption
    rw [fm (by decide)] at e
    exact ⟨a, q, b, hf, ta, tq, tb, th, D, ws, ks, c, u, o, hi, hl, by omega, by assumption, cb_drop (by assumption) fun p hp => by rw [List.mem_singleton.mp hp]; exact List.Mem.tail _ (List.Mem.head _)⟩
end
end Mine

namespace Mine
local macro_rules | `(tactic| walk_at "execs nil") => `(tactic| with_reducible refine wpAny_execs_nil ?_)
local macro_rules | `(tactic| walk_at "binaryOp FloorDiv int int") => `(tactic| with_reducible refine floordiv_int (by assumption) ?_ (PyOk.at (by assumption)))
local macro_rules | `(tactic| walk_at "binaryOp Mult int int") => `(tactic| with_reducible refine mul_int ?_ (by assumption))
local macro_rules | `(tactic| walk_at "call ref") => `(tactic| (k_here; k_dflt (refine' IClaim.use (reduce_c _ _ _ _ _ _ _ _) ?k1 ?k2 ?k3 ?k4 ?k5 ?k6 ?k7 ?k8 ?k9 ?_; (case k1 => k_asm); (case k2 => k_asm); (case k3 => k_asm); (case k4 => k_asm); (case k5 => k_asm); (case k6 => first | exact rfl | assumption); (case k7 => first | assumption | omega); (case k8 => ktr_room); (case k9 => ktr_units)); intro t9 h9 tk9 F9 N9; (try dsimp only); (try k_fold)))
local macro_rules | `(tactic| walk_at "call ref") => `(tactic| (k_here; k_dflt (refine' TClaim.use (decompose_c _ _ _ _ _ _ _ _ _ _ _ _) ?k1 ?k2 ?k3 ?k4 ?k5 ?k6 ?k7 ?k8 ?k9 ?_; (case k1 => k_asm); (case k2 => k_asm); (case k3 => k_asm); (case k4 => k_asm); (case k5 => k_asm); (case k6 => first | exact rfl | assumption); (case k7 => first | assumption | omega); (case k8 => ktr_room); (case k9 => ktr_units)); intro D9 t91 t92 c9 h9 tk9 F9 N9 l9; (try k_lt l9); (try dsimp only); (try k_fold)))
local macro_rules | `(tactic| walk_at "call ref") => `(tactic| (k_here; k_dflt (refine' IClaim.use (high_c _ _ _ _ _ _ _ _ _ _ _ _) ?k1 ?k2 ?k3 ?k4 ?k5 ?k6 ?k7 ?k8 ?k9 ?_; (case k1 => k_asm); (case k2 => k_asm); (case k3 => k_asm); (case k4 => k_asm); (case k5 => k_asm); (case k6 => first | exact rfl | assumption); (case k7 => first | assumption | omega); (case k8 => ktr_room); (case k9 => ktr_units)); intro t9 h9 tk9 F9 N9; (try dsimp only); (try k_fold)))
local macro_rules | `(tactic| walk_at "call ref") => `(tactic| (k_here; k_dflt (refine' IClaim.use (low_c _ _ _ _ _ _ _ _ _ _ _ _) ?k1 ?k2 ?k3 ?k4 ?k5 ?k6 ?k7 ?k8 ?k9 ?_; (case k1 => k_asm); (case k2 => k_asm); (case k3 => k_asm); (case k4 => k_asm); (case k5 => k_asm); (case k6 => first | exact rfl | assumption); (case k7 => first | assumption | omega); (case k8 => ktr_room); (case k9 => ktr_units)); intro t9 h9 tk9 F9 N9; (try dsimp only); (try k_fold)))
local macro_rules | `(tactic| walk_at "call ref") => `(tactic| (k_here; k_dflt (refine' IClaim.use (hint_c _ _ _ _ _ _ _ _ _ _ _ _ _ _) ?k1 ?k2 ?k3 ?k4 ?k5 ?k6 ?k7 ?k8 ?k9 ?_; (case k1 => k_asm); (case k2 => k_asm); (case k3 => k_asm); (case k4 => k_asm); (case k5 => k_asm); (case k6 => first | exact rfl | assumption); (case k7 => first | assumption | omega); (case k8 => ktr_room); (case k9 => ktr_units)); intro t9 h9 tk9 F9 N9; (try dsimp only); (try k_fold)))
local macro_rules | `(tactic| walk_at "call ref") => `(tactic| (k_here; k_dflt (refine' IClaim.use (use_c _ _ _ _ _ _ _ _ _ _ _ _ _ _) ?k1 ?k2 ?k3 ?k4 ?k5 ?k6 ?k7 ?k8 ?k9 ?_; (case k1 => k_asm); (case k2 => k_asm); (case k3 => k_asm); (case k4 => k_asm); (case k5 => k_asm); (case k6 => first | exact rfl | assumption); (case k7 => first | assumption | omega); (case k8 => ktr_room); (case k9 => ktr_units)); intro t9 h9 tk9 F9 N9; (try dsimp only); (try k_fold)))
local macro_rules | `(tactic| walk_at "call ref") => `(tactic| (k_here; k_dflt (refine' TClaim.use (parts_c _ _ _ _ _ _ _ _ _ _ _ _) ?k1 ?k2 ?k3 ?k4 ?k5 ?k6 ?k7 ?k8 ?k9 ?_; (case k1 => k_asm); (case k2 => k_asm); (case k3 => k_asm); (case k4 => k_asm); (case k5 => k_asm); (case k6 => first | exact rfl | assumption); (case k7 => first | assumption | omega); (case k8 => ktr_room); (case k9 => ktr_units)); intro D9 t91 t92 c9 h9 tk9 F9 N9 l9; (try k_lt l9); (try dsimp only); (try k_fold)))
local macro_rules | `(tactic| walk_at "call ref") => `(tactic| (k_here; k_dflt (refine' IClaim.use (apart_c _ _ _ _ _ _ _ _ _ _ _ _) ?k1 ?k2 ?k3 ?k4 ?k5 ?k6 ?k7 ?k8 ?k9 ?_; (case k1 => k_asm); (case k2 => k_asm); (case k3 => k_asm); (case k4 => k_asm); (case k5 => k_asm); (case k6 => first | exact rfl | assumption); (case k7 => first | assumption | omega); (case k8 => ktr_room); (case k9 => ktr_units)); intro t9 h9 tk9 F9 N9; (try dsimp only); (try k_fold)))
local macro_rules | `(tactic| walk_at "call ref") => `(tactic| (k_here; k_dflt (refine' IClaim.use (norm_c _ _ _ _ _ _ _ _ _) ?k1 ?k2 ?k3 ?k4 ?k5 ?k6 ?k7 ?k8 ?k9 ?_; (case k1 => k_asm); (case k2 => k_asm); (case k3 => k_asm); (case k4 => k_asm); (case k5 => k_asm); (case k6 => first | exact rfl | assumption); (case k7 => first | assumption | omega); (case k8 => ktr_room); (case k9 => ktr_units)); intro t9 h9 tk9 F9 N9; (try dsimp only); (try k_fold)))
def turnBody : List Stmt := bodyOf (nth lawBody 8)
section
variable {w : World} {mg mb : Str → Option Value} {mean : ExcName → Option Value} {h₀ : Heap} {L fa l D : Addr} {cd : Value} {ws : List Value} {ks : List Int} {s : Shared} {Q : Flow → Shared → Prop} {E : Value → Shared → Prop}
variable {a q b hf : Int} {ta tq tb th : Tok} {c : Nat} {own : List (Addr × Obj)}
/-- the frame of a turn: the ring's numbers, the list, and u for the rest -/
abbrev FT (a q b hf : Int) (ta tq tb th : Tok) (D : Addr) (u : Str → Option Value) : Str → Option Value := fun y =>
  if y = S "a" then some (.int a ta) else if y = S "q" then some (.int q tq) else if y = S "blocks" then some (.int b tb) else if y = S "half" then some (.int hf th) else if y = S "numbers" then some (.ref D) else u y
theorem ft_lay {h : Heap} {m : Str → Option Value} (F : Fr h₀ L h m) (e1 : m (S "a") = some (.int a ta)) (e2 : m (S "q") = some (.int q tq)) (e3 : m (S "blocks") = some (.int b tb)) (e4 : m (S "half") = some (.int hf th)) (e5 : m (S "numbers") = some (.ref D)) :
   Fr h₀ L h (FT a q b hf ta tq tb th D m) := fr_lay (S "a") e1 (fr_lay (S "q") e2 (fr_lay (S "blocks") e3 (fr_lay (S "half") e4 (fr_lay (S "numbers") e5 F))))
/-- behind the first statement -/
def P0 (h₀ : Heap) (L : Addr) (a q b hf : Int) (ta tq tb th : Tok) (D : Addr) (led : List (Addr × Obj)) (h : Heap) : Prop :=
  ∃ (x p st : Int) (tx tp ts : Tok) (u : Str → Option Value), News h₀ L h led ∧
    Fr h₀ L h (FT a q b hf ta tq tb th D (fun y => if y = S "first" then some (.int x tx) else if y = S "push" then some (.int p tp) else if y = S "style" then some (.int st ts) else u y))
theorem turn0 (B : Below callerA h₀ [] h₀) (X : (hd.heap_39 w.params).In h₀) (T : Top hd.view_39 (looseW hd.view_39 []) mean mg mb h₀)
   (hi : IntsAre ws ks) (hl : ks.length ≤ 62) {at' : Int} {t : Tok} {u : Str → Option Value} (h0 : 0 ≤ at') (h1 : at' + 2 < ks.length)
   (F : Fr h₀ L s.heap (FT a q b hf ta tq tb th D (fun y => if y = S "at" then some (.int at' t) else u y))) (N : News h₀ L s.heap ((D, W.listOf ws.toArray c) :: own)) :
   wpAny (model PR w) (callerA.deeper (lawEnv L fa cd)) (execs (turnBody.take 1) (lawEnv L fa cd)) (CutPost s (P0 h₀ L a q b hf ta tq tb th D ((D, W.listOf ws.toArray c) :: own)) Q) E s := by
  unfold FT at F
  w_top off
  dsimp only [turnBody, lawBody, lawDef, lawEnv, lawScope, PySem.Challenge.pw_ji0007_01, bodyOf, scopeOf, nth, List.take, List.drop]
  (all_goals try k_fold)
  repeat' (first | (k_unfold; (try dsimp only)) | walk1 | (dsimp only; walk1) | (leave1; (try dsimp only)))
  refine ⟨⟨_, _, rfl, ?_⟩⟩
  exact ⟨_, _, _, _, _, _, _, cb_drop (by assumption) fun p hp => List.Mem.tail _ hp, ft_lay (by assumption) (by rfl) (by rfl) (by rfl) (by rfl) (by rfl)⟩
/-- behind the value's making -/
def P1 (h₀ : Heap) (L : Addr) (a q b hf : Int) (ta tq tb th : Tok) (D : Addr) (led : List (Addr × Obj)) (h : Heap) : Prop :=
  ∃ (v t st : Int) (tv tt ts : Tok) (u : Str → Option Value), -hf ≤ t ∧ t ≤ hf ∧ News h₀ L h led ∧
    Fr h₀ L h (FT a q b hf ta tq tb th D (fun y => if y = S "value" then some (.int v tv) else if y = S "turn" then some (.int t tt) else if y = S "style" then some (.int st ts) else u y))
theorem turn_bound (hh : 1 ≤ hf) (p k : Int) : -hf ≤ [p.fmod (2 * hf + 1) - hf, hf, 0 - hf].getD (k.fmod 3).toNat 0 ∧ [p.fmod (2 * hf + 1) - hf, hf, 0 - hf].getD (k.fmod 3).toNat 0 ≤ hf := by
  rw [fm (show (0 : Int) < 3 by decide), fm (show 0 < 2 * hf + 1 by omega)]
  have h1 := Int.emod_nonneg p (show 2 * hf + 1 ≠ 0 by omega)
  have h2 := Int.emod_lt_of_pos p (show 0 < 2 * hf + 1 by omega)
  have hk : k % 3 = 0 ∨ k % 3 = 1 ∨ k % 3 = 2 := by omega
  rcases hk with e | e | e <;> rw [e]
  · show -hf ≤ p % (2 * hf + 1) - hf ∧ p % (2 * hf + 1) - hf ≤ hf
    omega
  · show -hf ≤ hf ∧ hf ≤ hf
    omega
  · show -hf ≤ 0 - hf ∧ 0 - hf ≤ hf
    omega
theorem p1_intro {h : Heap} {m : Str → Option Value} {v t st : Int} {tv tt ts : Tok} {p1 p2 : Addr × Obj} {led : List (Addr × Obj)} (hb : -hf ≤ t ∧ t ≤ hf) (F : Fr h₀ L h m) (N : News h₀ L h (p1 :: p2 :: led))
   (e1 : m (S "a") = some (.int a ta)) (e2 : m (S "q") = some (.int q tq)) (e3 : m (S "blocks") = some (.int b tb)) (e4 : m (S "half") = some (.int hf th)) (e5 : m (S "numbers") = some (.ref D))
   (ev : m (S "value") = some (.int v tv)) (et : m (S "turn") = some (.int t tt)) (es : m (S "style") = some (.int st ts)) : P1 h₀ L a q b hf ta tq tb th D led h := by
  refine ⟨v, t, st, tv, tt, ts, m, hb.1, hb.2, cb_drop N fun p hp => List.Mem.tail _ (List.Mem.tail _ hp), ?_⟩
  have em : (fun y => if y = S "value" then some (.int v tv) else if y = S "turn" then some (.int t tt) else if y = S "style" then some (.int st ts) else m y) = m := by
    funext y
    by_cases z1 : y = S "value"
    · rw [if_pos z1, z1, ev]
    rw [if_neg z1]
    by_cases z2 : y = S "turn"
    · rw [if_pos z2, z2, et]
    rw [if_neg z2]
    by_cases z3 : y = S "style"
    · rw [if_pos z3, z3, es]
    rw [if_neg z3]
  rw [em]
  exact ft_lay F e1 e2 e3 e4 e5
theorem seam_mul (o : Ok a q b hf) (x : Int) : IntMulOk (x.fmod (b + 1)) a := by
  have h1 := o.hb
  have h2 := o.lb
  have h3 := o.la
  have h4 := o.ha
  have h5 := o.a_pos
  rw [fm (show 0 < b + 1 by omega)]
  have h6 := Int.emod_nonneg x (show b + 1 ≠ 0 by omega)
  have h7 := Int.emod_lt_of_pos x (show 0 < b + 1 by omega)
  exact mulOk (by omega) (by omega) (by omega) (by omega)
theorem seam_mul2 (o : Ok a q b hf) (x : Int) : IntMulOk q (x.fmod 3 - 1) := by
  have h1 := o.q_top
  have h2 := o.q_pos
  rw [fm (by decide)]
  exact mulOk (by omega) (by omega) (by omega) (by omega)
theorem turn1 (B : Below callerA h₀ [] h₀) (X : (hd.heap_39 w.params).In h₀) (T : Top hd.view_39 (looseW hd.view_39 []) mean mg mb h₀) (o : Ok a q b hf)
   {led : List (Addr × Obj)} (hp : P0 h₀ L a q b hf ta tq tb th D led s.heap) :
   wpAny (model PR w) (callerA.deeper (lawEnv L fa cd)) (execs ((turnBody.drop 1).take 3) (lawEnv L fa cd)) (CutPost s (P1 h₀ L a q b hf ta tq tb th D led) Q) E s := by
  obtain ⟨x, p, st, tx, tp, ts, u, N, F⟩ := hp
  unfold FT at F
  have hh := o.hh
  have hb := o.hb
  have hz : 2 * hf + 1 ≠ 0 := by omega
  have hz2 : b + 1 ≠ 0 := by omega
  have hm1 := seam_mul o x
  have hm2 := seam_mul2 o (st.fdiv 15)
  w_top off
  dsimp only [turnBody, lawBody, lawDef, lawEnv, lawScope, PySem.Challenge.pw_ji0007_01, bodyOf, scopeOf, nth, List.take, List.drop]
  (all_goals try k_fold)
  repeat' (first | (k_unfold; (try dsimp only)) | walk1 | (dsimp only; walk1) | (leave1; (try dsimp only)))
  refine ⟨⟨_, _, rfl, ?_⟩⟩
  exact p1_intro (turn_bound hh _ _) (by assumption) (by assumption) (by rfl) (by rfl) (by rfl) (by rfl) (by rfl) (by rfl) (by rfl) (by rfl)
end
end Mine

namespace Mine
local macro_rules | `(tactic| walk_at "execs nil") => `(tactic| with_reducible refine wpAny_execs_nil ?_)
local macro_rules | `(tactic| walk_at "binaryOp FloorDiv int int") => `(tactic| with_reducible refine floordiv_int (by assumption) ?_ (PyOk.at (by assumption)))
local macro_rules | `(tactic| walk_at "binaryOp Mult int int") => `(tactic| with_reducible refine mul_int ?_ (by assumption))
local macro_rules | `(tactic| walk_at "call ref") => `(tactic| (k_here; k_dflt (refine' IClaim.use (reduce_c _ _ _ _ _ _ _ _) ?k1 ?k2 ?k3 ?k4 ?k5 ?k6 ?k7 ?k8 ?k9 ?_; (case k1 => k_asm); (case k2 => k_asm); (case k3 => k_asm); (case k4 => k_asm); (case k5 => k_asm); (case k6 => first | exact rfl | assumption); (case k7 => first | assumption | trivial | omega); (case k8 => ktr_room); (case k9 => ktr_units)); intro t9 h9 tk9 F9 N9; (try dsimp only); (try k_fold)))
local macro_rules | `(tactic| walk_at "call ref") => `(tactic| (k_here; k_dflt (refine' TClaim.use (decompose_c _ _ _ _ _ _ _ _ _ _ _ _) ?k1 ?k2 ?k3 ?k4 ?k5 ?k6 ?k7 ?k8 ?k9 ?_; (case k1 => k_asm); (case k2 => k_asm); (case k3 => k_asm); (case k4 => k_asm); (case k5 => k_asm); (case k6 => first | exact rfl | assumption); (case k7 => first | assumption | trivial | omega); (case k8 => ktr_room); (case k9 => ktr_units)); intro D9 t91 t92 c9 h9 tk9 F9 N9 l9; (try k_lt l9); (try dsimp only); (try k_fold)))
local macro_rules | `(tactic| walk_at "call ref") => `(tactic| (k_here; k_dflt (refine' IClaim.use (high_c _ _ _ _ _ _ _ _ _ _ _ _) ?k1 ?k2 ?k3 ?k4 ?k5 ?k6 ?k7 ?k8 ?k9 ?_; (case k1 => k_asm); (case k2 => k_asm); (case k3 => k_asm); (case k4 => k_asm); (case k5 => k_asm); (case k6 => first | exact rfl | assumption); (case k7 => first | assumption | trivial | omega); (case k8 => ktr_room); (case k9 => ktr_units)); intro t9 h9 tk9 F9 N9; (try dsimp only); (try k_fold)))
local macro_rules | `(tactic| walk_at "call ref") => `(tactic| (k_here; k_dflt (refine' IClaim.use (low_c _ _ _ _ _ _ _ _ _ _ _ _) ?k1 ?k2 ?k3 ?k4 ?k5 ?k6 ?k7 ?k8 ?k9 ?_; (case k1 => k_asm); (case k2 => k_asm); (case k3 => k_asm); (case k4 => k_asm); (case k5 => k_asm); (case k6 => first | exact rfl | assumption); (case k7 => first | assumption | trivial | omega); (case k8 => ktr_room); (case k9 => ktr_units)); intro t9 h9 tk9 F9 N9; (try dsimp only); (try k_fold)))
local macro_rules | `(tactic| walk_at "call ref") => `(tactic| (k_here; k_dflt (refine' IClaim.use (hint_c _ _ _ _ _ _ _ _ _ _ _ _ _ _) ?k1 ?k2 ?k3 ?k4 ?k5 ?k6 ?k7 ?k8 ?k9 ?_; (case k1 => k_asm); (case k2 => k_asm); (case k3 => k_asm); (case k4 => k_asm); (case k5 => k_asm); (case k6 => first | exact rfl | assumption); (case k7 => first | assumption | trivial | omega); (case k8 => ktr_room); (case k9 => ktr_units)); intro t9 h9 tk9 F9 N9; (try dsimp only); (try k_fold)))
local macro_rules | `(tactic| walk_at "call ref") => `(tactic| (k_here; k_dflt (refine' IClaim.use (use_c _ _ _ _ _ _ _ _ _ _ _ _ _ _) ?k1 ?k2 ?k3 ?k4 ?k5 ?k6 ?k7 ?k8 ?k9 ?_; (case k1 => k_asm); (case k2 => k_asm); (case k3 => k_asm); (case k4 => k_asm); (case k5 => k_asm); (case k6 => first | exact rfl | assumption); (case k7 => first | assumption | trivial | omega); (case k8 => ktr_room); (case k9 => ktr_units)); intro t9 h9 tk9 F9 N9; (try dsimp only); (try k_fold)))
local macro_rules | `(tactic| walk_at "call ref") => `(tactic| (k_here; k_dflt (refine' TClaim.use (parts_c _ _ _ _ _ _ _ _ _ _ _ _) ?k1 ?k2 ?k3 ?k4 ?k5 ?k6 ?k7 ?k8 ?k9 ?_; (case k1 => k_asm); (case k2 => k_asm); (case k3 => k_asm); (case k4 => k_asm); (case k5 => k_asm); (case k6 => first | exact rfl | assumption); (case k7 => first | assumption | trivial | omega); (case k8 => ktr_room); (case k9 => ktr_units)); intro D9 t91 t92 c9 h9 tk9 F9 N9 l9; (try k_lt l9); (try dsimp only); (try k_fold)))
local macro_rules | `(tactic| walk_at "call ref") => `(tactic| (k_here; k_dflt (refine' IClaim.use (apart_c _ _ _ _ _ _ _ _ _ _ _ _) ?k1 ?k2 ?k3 ?k4 ?k5 ?k6 ?k7 ?k8 ?k9 ?_; (case k1 => k_asm); (case k2 => k_asm); (case k3 => k_asm); (case k4 => k_asm); (case k5 => k_asm); (case k6 => first | exact rfl | assumption); (case k7 => first | assumption | trivial | omega); (case k8 => ktr_room); (case k9 => ktr_units)); intro t9 h9 tk9 F9 N9; (try dsimp only); (try k_fold)))
local macro_rules | `(tactic| walk_at "call ref") => `(tactic| (k_here; k_dflt (refine' IClaim.use (norm_c _ _ _ _ _ _ _ _ _) ?k1 ?k2 ?k3 ?k4 ?k5 ?k6 ?k7 ?k8 ?k9 ?_; (case k1 => k_asm); (case k2 => k_asm); (case k3 => k_asm); (case k4 => k_asm); (case k5 => k_asm); (case k6 => first | exact rfl | assumption); (case k7 => first | assumption | trivial | omega); (case k8 => ktr_room); (case k9 => ktr_units)); intro t9 h9 tk9 F9 N9; (try dsimp only); (try k_fold)))
section
variable {w : World} {mg mb : Str → Option Value} {mean : ExcName → Option Value} {h₀ : Heap} {L fa l D : Addr} {cd : Value} {ws : List Value} {ks : List Int} {s : Shared} {Q : Flow → Shared → Prop} {E : Value → Shared → Prop}
variable {a q b hf : Int} {ta tq tb th : Tok} {c : Nat} {own : List (Addr × Obj)}
theorem norm_same (v r : Int) : ¬ ((decide (apF v 0 a 8380417 + r - 1 ≤ apF v 0 1 8380417) != decide (r < 2)) = true) := by
  rw [ap_zero v a 1]
  have e : decide (apF v 0 1 8380417 + r - 1 ≤ apF v 0 1 8380417) = decide (r < 2) := decide_eq_decide.mpr (by omega)
  rw [e]; simp
theorem lay3 {h : Heap} {m : Str → Option Value} {x1 x2 x3 : Str} {v1 v2 v3 : Value} (F : Fr h₀ L h m)
   (e1 : m (S "a") = some (.int a ta)) (e2 : m (S "q") = some (.int q tq)) (e3 : m (S "blocks") = some (.int b tb)) (e4 : m (S "half") = some (.int hf th)) (e5 : m (S "numbers") = some (.ref D))
   (ev : m x1 = some v1) (et : m x2 = some v2) (es : m x3 = some v3) : Fr h₀ L h (FT a q b hf ta tq tb th D (fun y => if y = x1 then some v1 else if y = x2 then some v2 else if y = x3 then some v3 else m y)) := by
  have em : (fun y => if y = x1 then some v1 else if y = x2 then some v2 else if y = x3 then some v3 else m y) = m := by
    funext y
    by_cases z1 : y = x1
    · rw [if_pos z1, z1, ev]
    rw [if_neg z1]
    by_cases z2 : y = x2
    · rw [if_pos z2, z2, et]
    rw [if_neg z2]
    by_cases z3 : y = x3
    · rw [if_pos z3, z3, es]
    rw [if_neg z3]
  rw [em]
  exact ft_lay F e1 e2 e3 e4 e5
/-- the value, its push and its block stand in the frame -/
def P2 (h₀ : Heap) (L : Addr) (a q b hf : Int) (ta tq tb th : Tok) (D : Addr) (led : List (Addr × Obj)) (h : Heap) : Prop :=
  ∃ (v t : Int) (tv tt ts : Tok) (u : Str → Option Value), -hf ≤ t ∧ t ≤ hf ∧ News h₀ L h led ∧
    Fr h₀ L h (FT a q b hf ta tq tb th D (fun y => if y = S "value" then some (.int v tv) else if y = S "turn" then some (.int t tt) else if y = S "high" then some (.int (hiF v a q) ts) else u y))
theorem turn2 (B : Below callerA h₀ [] h₀) (X : (hd.heap_39 w.params).In h₀) (T : Top hd.view_39 (looseW hd.view_39 []) mean mg mb h₀) (o : Ok a q b hf)
   {led : List (Addr × Obj)} (hp : P1 h₀ L a q b hf ta tq tb th D led s.heap) :
   wpAny (model PR w) (callerA.deeper (lawEnv L fa cd)) (execs ((turnBody.drop 4).take 1) (lawEnv L fa cd)) (CutPost s (P1 h₀ L a q b hf ta tq tb th D led) Q) E s := by
  obtain ⟨v, t, st, tv, tt, ts, u, tlo, thi, N, F⟩ := hp
  unfold FT at F
  have hm1 : IntMulOk 0 a := IntMulOk.of_left (by decide)
  have hpre : (0 : Int) < 8380417 ∧ IntMulOk 0 a := ⟨by decide, hm1⟩
  w_top off
  dsimp only [turnBody, lawBody, lawDef, lawEnv, lawScope, PySem.Challenge.pw_ji0007_01, bodyOf, scopeOf, nth, List.take, List.drop]
  (all_goals try k_fold)
  repeat' (first | (k_unfold; (try dsimp only)) | walk1 | (dsimp only; walk1) | (leave1; (try dsimp only)))
  · exact absurd (by assumption) (norm_same (a := a) v (st.fmod 3))
  · refine ⟨⟨_, _, rfl, ?_⟩⟩
    exact ⟨v, t, st, tv, tt, ts, u, tlo, thi, by assumption, by assumption⟩
theorem turn3 (B : Below callerA h₀ [] h₀) (X : (hd.heap_39 w.params).In h₀) (T : Top hd.view_39 (looseW hd.view_39 []) mean mg mb h₀) (o : Ok a q b hf)
   {led : List (Addr × Obj)} (hp : P1 h₀ L a q b hf ta tq tb th D led s.heap) :
   wpAny (model PR w) (callerA.deeper (lawEnv L fa cd)) (execs ((turnBody.drop 5).take 2) (lawEnv L fa cd)) (CutPost s (P2 h₀ L a q b hf ta tq tb th D led) Q) E s := by
  obtain ⟨v, t, st, tv, tt, ts, u, tlo, thi, N, F⟩ := hp
  unfold FT at F
  w_top off
  dsimp only [turnBody, lawBody, lawDef, lawEnv, lawScope, PySem.Challenge.pw_ji0007_01, bodyOf, scopeOf, nth, List.take, List.drop]
  (all_goals try k_fold)
  repeat' (first | (k_unfold; (try dsimp only)) | walk1 | (dsimp only; walk1) | (leave1; (try dsimp only)))
  · exact absurd rfl (by assumption : hiF v a q ≠ hiF v a q)
  · exact absurd rfl (by assumption : loF v a q ≠ loF v a q)
  · refine ⟨⟨_, _, rfl, ?_⟩⟩
    exact ⟨v, t, _, _, _, _, tlo, thi, cb_drop (by assumption) fun p hp => List.Mem.tail _ (List.Mem.tail _ (List.Mem.tail _ hp)), lay3 (by assumption) (by rfl) (by rfl) (by rfl) (by rfl) (by rfl) (by rfl) (by rfl) (by rfl)⟩
theorem turn4 (B : Below callerA h₀ [] h₀) (X : (hd.heap_39 w.params).In h₀) (T : Top hd.view_39 (looseW hd.view_39 []) mean mg mb h₀) (o : Ok a q b hf)
   {led : List (Addr × Obj)} (hp : P2 h₀ L a q b hf ta tq tb th D led s.heap) :
   wpAny (model PR w) (callerA.deeper (lawEnv L fa cd)) (execs ((turnBody.drop 7).take 3) (lawEnv L fa cd)) (CutPost s (P2 h₀ L a q b hf ta tq tb th D led) Q) E s := by
  obtain ⟨v, t, tv, tt, ts, u, tlo, thi, N, F⟩ := hp
  unfold FT at F
  have hpush := push_ok o v tlo thi
  w_top off
  dsimp only [turnBody, lawBody, lawDef, lawEnv, lawScope, PySem.Challenge.pw_ji0007_01, bodyOf, scopeOf, nth, List.take, List.drop]
  (all_goals try k_fold)
  repeat' (first | (k_unfold; (try dsimp only)) | walk1 | (dsimp only; walk1) | (leave1; (try dsimp only)))
  · exact absurd (if_pos (by assumption)) (by assumption : (if hiF (v + t) a q = hiF v a q then (0 : Int) else 1) ≠ 0)
  · exact absurd hpush (by assumption)
  · refine ⟨⟨_, _, rfl, ?_⟩⟩
    exact ⟨v, t, _, _, _, _, tlo, thi, cb_drop (by assumption) fun p hp => List.Mem.tail _ hp, lay3 (by assumption) (by rfl) (by rfl) (by rfl) (by rfl) (by rfl) (by rfl) (by rfl) (by rfl)⟩
  · exact absurd (if_neg (by assumption)) (by assumption : (if hiF (v + t) a q = hiF v a q then (0 : Int) else 1) ≠ 1)
  · exact absurd hpush (by assumption)
  · refine ⟨⟨_, _, rfl, ?_⟩⟩
    exact ⟨v, t, _, _, _, _, tlo, thi, cb_drop (by assumption) fun p hp => List.Mem.tail _ hp, lay3 (by assumption) (by rfl) (by rfl) (by rfl) (by rfl) (by rfl) (by rfl) (by rfl) (by rfl)⟩
end
end Mine

namespace Mine
local macro_rules | `(tactic| walk_at "execs nil") => `(tactic| with_reducible refine wpAny_execs_nil ?_)
local macro_rules | `(tactic| walk_at "binaryOp FloorDiv int int") => `(tactic| with_reducible refine floordiv_int (by assumption) ?_ (PyOk.at (by assumption)))
local macro_rules | `(tactic| walk_at "binaryOp Mult int int") => `(tactic| with_reducible refine mul_int ?_ (by assumption))
local macro_rules | `(tactic| walk_at "call ref") => `(tactic| (k_here; k_dflt (refine' IClaim.use (reduce_c _ _ _ _ _ _ _ _) ?k1 ?k2 ?k3 ?k4 ?k5 ?k6 ?k7 ?k8 ?k9 ?_; (case k1 => k_asm); (case k2 => k_asm); (case k3 => k_asm); (case k4 => k_asm); (case k5 => k_asm); (case k6 => first | exact rfl | assumption); (case k7 => first | assumption | trivial | omega); (case k8 => ktr_room); (case k9 => ktr_units)); intro t9 h9 tk9 F9 N9; (try dsimp only); (try k_fold)))
local macro_rules | `(tactic| walk_at "call ref") => `(tactic| (k_here; k_dflt (refine' TClaim.use (decompose_c _ _ _ _ _ _ _ _ _ _ _ _) ?k1 ?k2 ?k3 ?k4 ?k5 ?k6 ?k7 ?k8 ?k9 ?_; (case k1 => k_asm); (case k2 => k_asm); (case k3 => k_asm); (case k4 => k_asm); (case k5 => k_asm); (case k6 => first | exact rfl | assumption); (case k7 => first | assumption | trivial | omega); (case k8 => ktr_room); (case k9 => ktr_units)); intro D9 t91 t92 c9 h9 tk9 F9 N9 l9; (try k_lt l9); (try dsimp only); (try k_fold)))
local macro_rules | `(tactic| walk_at "call ref") => `(tactic| (k_here; k_dflt (refine' IClaim.use (high_c _ _ _ _ _ _ _ _ _ _ _ _) ?k1 ?k2 ?k3 ?k4 ?k5 ?k6 ?k7 ?k8 ?k9 ?_; (case k1 => k_asm); (case k2 => k_asm); (case k3 => k_asm); (case k4 => k_asm); (case k5 => k_asm); (case k6 => first | exact rfl | assumption); (case k7 => first | assumption | trivial | omega); (case k8 => ktr_room); (case k9 => ktr_units)); intro t9 h9 tk9 F9 N9; (try dsimp only); (try k_fold)))
local macro_rules | `(tactic| walk_at "call ref") => `(tactic| (k_here; k_dflt (refine' IClaim.use (low_c _ _ _ _ _ _ _ _ _ _ _ _) ?k1 ?k2 ?k3 ?k4 ?k5 ?k6 ?k7 ?k8 ?k9 ?_; (case k1 => k_asm); (case k2 => k_asm); (case k3 => k_asm); (case k4 => k_asm); (case k5 => k_asm); (case k6 => first | exact rfl | assumption); (case k7 => first | assumption | trivial | omega); (case k8 => ktr_room); (case k9 => ktr_units)); intro t9 h9 tk9 F9 N9; (try dsimp only); (try k_fold)))
local macro_rules | `(tactic| walk_at "call ref") => `(tactic| (k_here; k_dflt (refine' IClaim.use (hint_c _ _ _ _ _ _ _ _ _ _ _ _ _ _) ?k1 ?k2 ?k3 ?k4 ?k5 ?k6 ?k7 ?k8 ?k9 ?_; (case k1 => k_asm); (case k2 => k_asm); (case k3 => k_asm); (case k4 => k_asm); (case k5 => k_asm); (case k6 => first | exact rfl | assumption); (case k7 => first | assumption | trivial | omega); (case k8 => ktr_room); (case k9 => ktr_units)); intro t9 h9 tk9 F9 N9; (try dsimp only); (try k_fold)))
local macro_rules | `(tactic| walk_at "call ref") => `(tactic| (k_here; k_dflt (refine' IClaim.use (use_c _ _ _ _ _ _ _ _ _ _ _ _ _ _) ?k1 ?k2 ?k3 ?k4 ?k5 ?k6 ?k7 ?k8 ?k9 ?_; (case k1 => k_asm); (case k2 => k_asm); (case k3 => k_asm); (case k4 => k_asm); (case k5 => k_asm); (case k6 => first | exact rfl | assumption); (case k7 => first | assumption | trivial | omega); (case k8 => ktr_room); (case k9 => ktr_units)); intro t9 h9 tk9 F9 N9; (try dsimp only); (try k_fold)))
local macro_rules | `(tactic| walk_at "call ref") => `(tactic| (k_here; k_dflt (refine' TClaim.use (parts_c _ _ _ _ _ _ _ _ _ _ _ _) ?k1 ?k2 ?k3 ?k4 ?k5 ?k6 ?k7 ?k8 ?k9 ?_; (case k1 => k_asm); (case k2 => k_asm); (case k3 => k_asm); (case k4 => k_asm); (case k5 => k_asm); (case k6 => first | exact rfl | assumption); (case k7 => first | assumption | trivial | omega); (case k8 => ktr_room); (case k9 => ktr_units)); intro D9 t91 t92 c9 h9 tk9 F9 N9 l9; (try k_lt l9); (try dsimp only); (try k_fold)))
local macro_rules | `(tactic| walk_at "call ref") => `(tactic| (k_here; k_dflt (refine' IClaim.use (apart_c _ _ _ _ _ _ _ _ _ _ _ _) ?k1 ?k2 ?k3 ?k4 ?k5 ?k6 ?k7 ?k8 ?k9 ?_; (case k1 => k_asm); (case k2 => k_asm); (case k3 => k_asm); (case k4 => k_asm); (case k5 => k_asm); (case k6 => first | exact rfl | assumption); (case k7 => first | assumption | trivial | omega); (case k8 => ktr_room); (case k9 => ktr_units)); intro t9 h9 tk9 F9 N9; (try dsimp only); (try k_fold)))
local macro_rules | `(tactic| walk_at "call ref") => `(tactic| (k_here; k_dflt (refine' IClaim.use (norm_c _ _ _ _ _ _ _ _ _) ?k1 ?k2 ?k3 ?k4 ?k5 ?k6 ?k7 ?k8 ?k9 ?_; (case k1 => k_asm); (case k2 => k_asm); (case k3 => k_asm); (case k4 => k_asm); (case k5 => k_asm); (case k6 => first | exact rfl | assumption); (case k7 => first | assumption | trivial | omega); (case k8 => ktr_room); (case k9 => ktr_units)); intro t9 h9 tk9 F9 N9; (try dsimp only); (try k_fold)))
section
variable {w : World} {mg mb : Str → Option Value} {mean : ExcName → Option Value} {h₀ : Heap} {L fa l D : Addr} {cd : Value} {ws : List Value} {ks : List Int} {s : Shared} {Q : Flow → Shared → Prop} {E : Value → Shared → Prop}
variable {a q b hf : Int} {ta tq tb th : Tok} {c : Nat} {own : List (Addr × Obj)}
theorem hi_mul (o : Ok a q b hf) {k : Int} (h0 : 0 ≤ k) (h1 : k < b) : IntMulOk k a := by
  have h2 := o.lb
  have h3 := o.la
  have h4 := o.ha
  have h5 := o.a_pos
  exact mulOk (by omega) (by omega) (by omega) (by omega)
theorem bne_same {x y z : Int} (e : x = y ↔ z = 0) : ¬ (((x == y) != (z == 0)) = true) := by
  by_cases h : z = 0
  · rw [e.mpr h, h]; simp
  · have h2 : ¬ x = y := fun w => h (e.mp w)
    rw [beq_eq_false_iff_ne.mpr h, beq_eq_false_iff_ne.mpr h2]; decide
abbrev KEPT : List Str := [S "a", S "q", S "blocks", S "half", S "numbers"]
theorem turn5 (B : Below callerA h₀ [] h₀) (X : (hd.heap_39 w.params).In h₀) (T : Top hd.view_39 (looseW hd.view_39 []) mean mg mb h₀) (o : Ok a q b hf)
   {led : List (Addr × Obj)} {m₀ : Str → Option Value} {s₁ : Shared} (hm : KEPT.map m₀ = [some (.int a ta), some (.int q tq), some (.int b tb), some (.int hf th), some (.ref D)])
   {h : Heap} {tk : Nat} (hp : P2 h₀ L a q b hf ta tq tb th D led h) :
   wpAny (model PR w) (callerA.deeper (lawEnv L fa cd)) (execs (turnBody.drop 10) (lawEnv L fa cd)) (KeepPost h₀ L KEPT m₀ led s₁ Q) E { s₁ with heap := h, toks := tk } := by
  obtain ⟨v, t, tv, tt, ts, u, tlo, thi, N, F⟩ := hp
  clear tlo thi
  unfold FT at F
  obtain ⟨f1, f2, f3⟩ := far_ok o v
  obtain ⟨g1, g2, g3⟩ := far_size o v
  obtain ⟨r1, r2⟩ := hi_range o v
  have hu0 : useF 0 v a q = hiF v a q := use0
  have hn := near_ok o v
  have hm1 : 0 < q ∧ IntMulOk (useF 0 v a q) a := ⟨o.q_pos, by rw [hu0]; exact hi_mul o r1 r2⟩
  have hm2 : 0 < q ∧ IntMulOk (useF 1 v a q) a := ⟨o.q_pos, hi_mul o f2 f3⟩
  have hq0 : q ≠ 0 := Int.ne_of_gt o.q_pos
  rw [← hu0] at hn
  rw [← fm o.q_pos] at g3
  w_top off
  dsimp only [turnBody, lawBody, lawDef, lawEnv, lawScope, PySem.Challenge.pw_ji0007_01, bodyOf, scopeOf, nth, List.take, List.drop]
  (all_goals try k_fold)
  repeat' (first | (k_unfold; (try dsimp only)) | walk1 | (dsimp only; walk1) | (leave1; (try dsimp only)))
  · exact absurd hu0 (by assumption)
  · exact absurd (by assumption) f1
  · exact absurd (by assumption) (bne_same g3)
  · refine ⟨⟨_, _, _, _, rfl, (by assumption), (by assumption), fun p hp => List.Mem.tail _ hp, ?_⟩⟩
    rw [hm]; rfl
theorem turn_ok (B : Below callerA h₀ [] h₀) (X : (hd.heap_39 w.params).In h₀) (T : Top hd.view_39 (looseW hd.view_39 []) mean mg mb h₀) (o : Ok a q b hf)
   (hi : IntsAre ws ks) (hl : ks.length ≤ 62) {at' : Int} {t : Tok} {m m₀ : Str → Option Value} (h0 : 0 ≤ at') (h1 : at' + 2 < ks.length)
   (hm : KEPT.map m₀ = [some (.int a ta), some (.int q tq), some (.int b tb), some (.int hf th), some (.ref D)]) (hk : KEPT.map m = KEPT.map m₀)
   (F : Fr h₀ L s.heap m) (e : m (S "at") = some (.int at' t)) (N : News h₀ L s.heap ((D, W.listOf ws.toArray c) :: own)) :
   wpAny (model PR w) (callerA.deeper (lawEnv L fa cd)) (execs turnBody (lawEnv L fa cd)) (KeepPost h₀ L KEPT m₀ ((D, W.listOf ws.toArray c) :: own) s Q) E s := by
  rw [hm] at hk
  simp only [KEPT, List.map_cons, List.map_nil, List.cons.injEq, and_true] at hk
  obtain ⟨k1, k2, k3, k4, k5⟩ := hk
  have F2 := ft_lay (fr_lay (S "at") e F) (by rw [if_neg (by decide)]; exact k1) (by rw [if_neg (by decide)]; exact k2) (by rw [if_neg (by decide)]; exact k3) (by rw [if_neg (by decide)]; exact k4) (by rw [if_neg (by decide)]; exact k5)
  refine execs_cut 1 _ (turn0 B X T hi hl h0 h1 F2 N) fun h tk hp => ?_
  refine execs_cut 3 _ (turn1 B X T o (s := { s with heap := h, toks := tk }) hp) fun h tk hp => ?_
  rw [List.drop_drop]
  refine execs_cut 1 _ (turn2 B X T o (s := { s with heap := h, toks := tk }) hp) fun h tk hp => ?_
  rw [List.drop_drop]
  refine execs_cut 2 _ (turn3 B X T o (s := { s with heap := h, toks := tk }) hp) fun h tk hp => ?_
  rw [List.drop_drop]
  refine execs_cut 3 _ (turn4 B X T o (s := { s with heap := h, toks := tk }) hp) fun h tk hp => ?_
  rw [List.drop_drop]
  exact turn5 B X T o hm hp
end
end Mine

namespace Mine
local macro_rules | `(tactic| walk_at "execs nil") => `(tactic| with_reducible refine wpAny_execs_nil ?_)
local macro_rules | `(tactic| walk_at "binaryOp FloorDiv int int") => `(tactic| with_reducible refine floordiv_int (by assumption) ?_ (PyOk.at (by assumption)))
local macro_rules | `(tactic| walk_at "binaryOp Mult int int") => `(tactic| with_reducible refine mul_int ?_ (by assumption))
local macro_rules | `(tactic| walk_at "call ref") => `(tactic| (k_here; k_dflt (refine' IClaim.use (reduce_c _ _ _ _ _ _ _ _) ?k1 ?k2 ?k3 ?k4 ?k5 ?k6 ?k7 ?k8 ?k9 ?_; (case k1 => k_asm); (case k2 => k_asm); (case k3 => k_asm); (case k4 => k_asm); (case k5 => k_asm); (case k6 => first | exact rfl | assumption); (case k7 => first | assumption | trivial | omega); (case k8 => ktr_room); (case k9 => ktr_units)); intro t9 h9 tk9 F9 N9; (try dsimp only); (try k_fold)))
local macro_rules | `(tactic| walk_at "call ref") => `(tactic| (k_here; k_dflt (refine' TClaim.use (decompose_c _ _ _ _ _ _ _ _ _ _ _ _) ?k1 ?k2 ?k3 ?k4 ?k5 ?k6 ?k7 ?k8 ?k9 ?_; (case k1 => k_asm); (case k2 => k_asm); (case k3 => k_asm); (case k4 => k_asm); (case k5 => k_asm); (case k6 => first | exact rfl | assumption); (case k7 => first | assumption | trivial | omega); (case k8 => ktr_room); (case k9 => ktr_units)); intro D9 t91 t92 c9 h9 tk9 F9 N9 l9; (try k_lt l9); (try dsimp only); (try k_fold)))
local macro_rules | `(tactic| walk_at "call ref") => `(tactic| (k_here; k_dflt (refine' IClaim.use (high_c _ _ _ _ _ _ _ _ _ _ _ _) ?k1 ?k2 ?k3 ?k4 ?k5 ?k6 ?k7 ?k8 ?k9 ?_; (case k1 => k_asm); (case k2 => k_asm); (case k3 => k_asm); (case k4 => k_asm); (case k5 => k_asm); (case k6 => first | exact rfl | assumption); (case k7 => first | assumption | trivial | omega); (case k8 => ktr_room); (case k9 => ktr_units)); intro t9 h9 tk9 F9 N9; (try dsimp only); (try k_fold)))
local macro_rules | `(tactic| walk_at "call ref") => `(tactic| (k_here; k_dflt (refine' IClaim.use (low_c _ _ _ _ _ _ _ _ _ _ _ _) ?k1 ?k2 ?k3 ?k4 ?k5 ?k6 ?k7 ?k8 ?k9 ?_; (case k1 => k_asm); (case k2 => k_asm); (case k3 => k_asm); (case k4 => k_asm); (case k5 => k_asm); (case k6 => first | exact rfl | assumption); (case k7 => first | assumption | trivial | omega); (case k8 => ktr_room); (case k9 => ktr_units)); intro t9 h9 tk9 F9 N9; (try dsimp only); (try k_fold)))
local macro_rules | `(tactic| walk_at "call ref") => `(tactic| (k_here; k_dflt (refine' IClaim.use (hint_c _ _ _ _ _ _ _ _ _ _ _ _ _ _) ?k1 ?k2 ?k3 ?k4 ?k5 ?k6 ?k7 ?k8 ?k9 ?_; (case k1 => k_asm); (case k2 => k_asm); (case k3 => k_asm); (case k4 => k_asm); (case k5 => k_asm); (case k6 => first | exact rfl | assumption); (case k7 => first | assumption | trivial | omega); (case k8 => ktr_room); (case k9 => ktr_units)); intro t9 h9 tk9 F9 N9; (try dsimp only); (try k_fold)))
local macro_rules | `(tactic| walk_at "call ref") => `(tactic| (k_here; k_dflt (refine' IClaim.use (use_c _ _ _ _ _ _ _ _ _ _ _ _ _ _) ?k1 ?k2 ?k3 ?k4 ?k5 ?k6 ?k7 ?k8 ?k9 ?_; (case k1 => k_asm); (case k2 => k_asm); (case k3 => k_asm); (case k4 => k_asm); (case k5 => k_asm); (case k6 => first | exact rfl | assumption); (case k7 => first | assumption | trivial | omega); (case k8 => ktr_room); (case k9 => ktr_units)); intro t9 h9 tk9 F9 N9; (try dsimp only); (try k_fold)))
local macro_rules | `(tactic| walk_at "call ref") => `(tactic| (k_here; k_dflt (refine' TClaim.use (parts_c _ _ _ _ _ _ _ _ _ _ _ _) ?k1 ?k2 ?k3 ?k4 ?k5 ?k6 ?k7 ?k8 ?k9 ?_; (case k1 => k_asm); (case k2 => k_asm); (case k3 => k_asm); (case k4 => k_asm); (case k5 => k_asm); (case k6 => first | exact rfl | assumption); (case k7 => first | assumption | trivial | omega); (case k8 => ktr_room); (case k9 => ktr_units)); intro D9 t91 t92 c9 h9 tk9 F9 N9 l9; (try k_lt l9); (try dsimp only); (try k_fold)))
local macro_rules | `(tactic| walk_at "call ref") => `(tactic| (k_here; k_dflt (refine' IClaim.use (apart_c _ _ _ _ _ _ _ _ _ _ _ _) ?k1 ?k2 ?k3 ?k4 ?k5 ?k6 ?k7 ?k8 ?k9 ?_; (case k1 => k_asm); (case k2 => k_asm); (case k3 => k_asm); (case k4 => k_asm); (case k5 => k_asm); (case k6 => first | exact rfl | assumption); (case k7 => first | assumption | trivial | omega); (case k8 => ktr_room); (case k9 => ktr_units)); intro t9 h9 tk9 F9 N9; (try dsimp only); (try k_fold)))
local macro_rules | `(tactic| walk_at "call ref") => `(tactic| (k_here; k_dflt (refine' IClaim.use (norm_c _ _ _ _ _ _ _ _ _) ?k1 ?k2 ?k3 ?k4 ?k5 ?k6 ?k7 ?k8 ?k9 ?_; (case k1 => k_asm); (case k2 => k_asm); (case k3 => k_asm); (case k4 => k_asm); (case k5 => k_asm); (case k6 => first | exact rfl | assumption); (case k7 => first | assumption | trivial | omega); (case k8 => ktr_room); (case k9 => ktr_units)); intro t9 h9 tk9 F9 N9; (try dsimp only); (try k_fold)))
section
variable {w : World} {mg mb : Str → Option Value} {mean : ExcName → Option Value} {h₀ : Heap} {L fa l D : Addr} {cd : Value} {vs ws : List Value} {ns ks : List Int} {s : Shared} {Q : Flow → Shared → Prop} {E : Value → Shared → Prop}
theorem law_main (B : Below callerA h₀ [] h₀) (X : (hd.heap_39 w.params).In h₀) (T : Top hd.view_39 (looseW hd.view_39 []) mean mg mb h₀)
   (hE : PassesOwn (model PR w) (callerA.deeper (lawEnv L fa cd)) (lawEnv L fa cd) E) (hp : PM h₀ L s.heap)
   (hQ : ∀ h tk m, Fr h₀ L h m → Q (.ret (.bool true)) { s with heap := h, toks := tk }) :
   wpAny (model PR w) (callerA.deeper (lawEnv L fa cd)) (execs (lawBody.drop 8) (lawEnv L fa cd)) Q E s := by
  obtain ⟨a, q, b, hf, ta, tq, tb, th, D, ws, ks, c, u, o, hi, hl, h3, F, N⟩ := hp
  obtain ⟨r1, r2⟩ := range3 hl h3
  w_top off
  dsimp only [lawBody, lawDef, lawEnv, lawScope, PySem.Challenge.pw_ji0007_01, bodyOf, scopeOf, nth, List.take, List.drop]
  refine wpAny_execs_cons ?_
  refine For_invVF F rfl rfl ?_ (hE := hE)
  (all_goals try k_fold)
  repeat' (first | ((fail_if_success with_reducible show wpAny _ _ (pyIter _) _ _ _); first | (k_unfold; (try dsimp only)) | walk1 | (dsimp only; walk1) | (leave1; (try dsimp only))))
  k_unfold
  (try dsimp only)
  with_unfolding_all refine iter_keep KEPT (by rfl) (by decide) (by assumption) r1 r2 (by assumption) (by assumption) ?_ ?_
  · intro i t m₁ h tk own hlt F1 e1 hk N1
    exact turn_ok (s := { s with heap := h, toks := tk }) B X T o hi hl (by omega) (by omega) (by rfl) hk F1 e1 N1
  · intro m₁ h tk F1 _ _
    refine wpAny_execs_cons ?_
    (all_goals try k_fold)
    repeat' (first | (k_unfold; (try dsimp only)) | walk1 | (dsimp only; walk1) | (leave1; (try dsimp only)))
    exact hQ _ _ _ F1
/-- the law's body, from its frame to its end -/
theorem law_body (B : Below callerA h₀ [] h₀) (X : (hd.heap_39 w.params).In h₀) (T : Top hd.view_39 (looseW hd.view_39 []) mean mg mb h₀) (hL : h₀.IsList l vs.toArray) (hI : IntsAre vs ns) (hlen : ns.length ≤ 63)
   (hE : PassesOwn (model PR w) (callerA.deeper (lawEnv L fa cd)) (lawEnv L fa cd) E)
   (F : Fr h₀ L s.heap (fun x => List.lookup x [(S "script", .ref l)])) (N : News h₀ L s.heap [])
   (hQ : ∀ h tk m, Fr h₀ L h m → Q (.ret (.bool true)) { s with heap := h, toks := tk }) :
   wpAny (model PR w) (callerA.deeper (lawEnv L fa cd)) (execs lawBody (lawEnv L fa cd)) Q E s :=
  law_chain (M := model PR w) (A := callerA.deeper (lawEnv L fa cd)) (env := lawEnv L fa cd) (Q := Q) (E := E) (s := s) (lb := lawBody) (P1 := PB h₀ L l) (P2 := PQ h₀ L l) (P3 := PA h₀ L l) (P4 := PA h₀ L l) (P5 := PN h₀ L) (P6 := PM h₀ L) (law_start (w := w) (mg := mg) (mb := mb) (mean := mean) (h₀ := h₀) (L := L) (fa := fa) (l := l) (cd := cd) (vs := vs) (ns := ns) (s := s) (Q := Q) (E := E) B X T hL hI hlen F N)
    (fun h tk hp => @law_nums w mg mb mean h₀ L fa l cd { s with heap := h, toks := tk } Q E B X T hp)
    (fun h tk hp => law_split (w := w) (mg := mg) (mb := mb) (mean := mean) (h₀ := h₀) (L := L) (fa := fa) (l := l) (cd := cd) (s := { s with heap := h, toks := tk }) (Q := Q) (E := E) B X T hp)
    (fun h tk hp => law_small (w := w) (mg := mg) (mb := mb) (mean := mean) (h₀ := h₀) (L := L) (fa := fa) (l := l) (cd := cd) (s := { s with heap := h, toks := tk }) (Q := Q) (E := E) B X T hE hp)
    (fun h tk hp => law_numbers (w := w) (mg := mg) (mb := mb) (mean := mean) (h₀ := h₀) (L := L) (fa := fa) (l := l) (cd := cd) (vs := vs) (ns := ns) (s := { s with heap := h, toks := tk }) (Q := Q) (E := E) B X T hL hI hlen hp)
    (fun h tk hp => law_while (w := w) (mg := mg) (mb := mb) (mean := mean) (h₀ := h₀) (L := L) (fa := fa) (cd := cd) (s := { s with heap := h, toks := tk }) (Q := Q) (E := E) B X T hE hp)
    (fun h tk hp => law_main (w := w) (mg := mg) (mb := mb) (mean := mean) (h₀ := h₀) (L := L) (fa := fa) (cd := cd) (s := { s with heap := h, toks := tk }) (Q := Q) (E := E) B X T hE hp hQ)
end
end Mine

set_option maxRecDepth 100000 in
set_option maxHeartbeats 8000000 in
theorem PySem.Challenge.cw_ji0007_01_holds : PySem.Challenge.rw_ji0007_01.Holds := by
  refine Mine.hd ?_
  w_strict (k_go0; (all_goals try k_fold))
  (rename Fr _ _ _ _ => F)
  refine' Mine.law_body ?kB ?kX ?kT ?kL ?kI ?kn ?kE ?kF ?kN ?kQ
  case kF => exact F
  case kB => assumption
  case kX => assumption
  case kT => assumption
  case kL => assumption
  case kI => assumption
  case kN => assumption
  case kn => omega
  case kE => passes_own
  case kQ =>
    intro h tk m F'
    kc_close
