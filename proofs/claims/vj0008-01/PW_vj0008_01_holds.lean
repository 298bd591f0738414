import PyProof.Rows.All
import Wide.All
import OpenK.AllK
import Wide.FinOn
import Lean
import PySem.Challenge.RW_vj0008_01
set_option Elab.async false
section
open PySem PySem.W PyProof.Rows
set_option Elab.async false
set_option maxRecDepth 100000 
set_option maxHeartbeats 8000000 
namespace Mine
open_top hd for PySem.Challenge.rw_vj0008_01
end Mine
end
section
/-! plain readings of the functions: no program in sight -/
namespace Mine
/-- the field's modulus and the order -/
def pP : Int := 115792089237316195423570985008687907853269984665640564039457584007908834671663
def pN : Int := 115792089237316195423570985008687907852837564279074904382605163141518161494337
def gX : Int := 55066263022277343669578718895168534326250603453777594175500187360389116729240
def gY : Int := 32670510020758816978083085130507043184471273380659243275938904335757337482424
abbrev Jac := Int × Int × Int
abbrev Aff := Int × Int
/-- pow(b, e, m) for 0 ≤ e, 1 < m -/
@[irreducible] def powm (b e m : Int) : Int := (((b % m).toNat ^ e.toNat % m.toNat : Nat) : Int)

def jdF (p : Jac) : Jac :=
  if p.2.1 = 0 then (0, 0, 0) else
  let ysq := p.2.1 ^ 2 % pP
  let S := 4 * p.1 * ysq % pP
  let M := (3 * p.1 ^ 2 + 0 * p.2.2 ^ 4) % pP
  let nx := (M ^ 2 - 2 * S) % pP
  let ny := (M * (S - nx) - 8 * ysq ^ 2) % pP
  let nz := 2 * p.2.1 * p.2.2 % pP
  (nx, ny, nz)
def jaF (p q : Jac) : Jac :=
  if p.2.1 = 0 then q else
  if q.2.1 = 0 then p else
  let U1 := p.1 * q.2.2 ^ 2 % pP
  let U2 := q.1 * p.2.2 ^ 2 % pP
  let S1 := p.2.1 * q.2.2 ^ 3 % pP
  let S2 := q.2.1 * p.2.2 ^ 3 % pP
  if U1 = U2 then (if S1 ≠ S2 then (0, 0, 1) else jdF p) else
  let H := U2 - U1
  let R := S2 - S1
  let H2 := H * H % pP
  let H3 := H * H2 % pP
  let U1H2 := U1 * H2 % pP
  let nx := (R ^ 2 - H3 - 2 * U1H2) % pP
  let ny := (R * (U1H2 - nx) - S1 * H3) % pP
  let nz := H * p.2.2 * q.2.2 % pP
  (nx, ny, nz)
/-- from the top bit -/
def jmF (a : Jac) (n : Nat) : Jac :=
  if a.2.1 = 0 ∨ n = 0 then (0, 0, 1) else
  if n = 1 then a else
  if n % 2 = 0 then jdF (jmF a (n / 2)) else jaF (jdF (jmF a (n / 2))) a
termination_by n
decreasing_by all_goals omega

def lsF (one other : Option Aff) : Option Aff :=
  match one, other with
  | none, o => o
  | some a, none => some a
  | some a, some b =>
    if a.1 = b.1 then
      if (a.2 + b.2) % pP = 0 then none else
      let slope := 3 * a.1 * a.1 * powm (2 * a.2) (pP - 2) pP % pP
      let x := (slope * slope - a.1 - b.1) % pP
      some (x, (slope * (a.1 - x) - a.2) % pP)
    else
      let slope := (b.2 - a.2) * powm (b.1 - a.1) (pP - 2) pP % pP
      let x := (slope * slope - a.1 - b.1) % pP
      some (x, (slope * (a.1 - x) - a.2) % pP)
/-- from the low bit -/
def ltF (found point : Option Aff) (many : Nat) : Option Aff :=
  if many = 0 then found else
  ltF (if many % 2 = 1 then lsF found point else found) (lsF point point) (many / 2)
termination_by many
decreasing_by omega

def liftF (x parity : Int) : Option Aff :=
  let square := (x * x * x + 7) % pP
  let y := powm square ((pP + 1) / 4) pP
  if y * y % pP ≠ square then none else some (x, if y % 2 = parity then y else pP - y)
def dueF (t r parity s a : Int) : Option Aff :=
  ltF none (lsF (ltF none (liftF r parity) s.toNat) (ltF none (some (gX, gY)) a.toNat)) t.toNat
/-- what inv promises -/
def IsInv (a n r : Int) : Prop := 0 ≤ r ∧ r < n ∧ ∀ u, (a * u) % n = 1 → (a * r) % n = 1

/-- big-endian octets -/
def beL : Nat → Nat → List UInt8
  | 0, _ => []
  | k + 1, n => beL k (n / 256) ++ [(n % 256).toUInt8]
@[irreducible] def octF (n : Int) : Array UInt8 := (beL 32 n.toNat).toArray
def keyF (p : Aff) : Array UInt8 := octF p.1 ++ octF p.2
@[irreducible] def fromBe (b : Array UInt8) : Int := ((b.toList.foldl (fun (acc : Nat) (c : UInt8) => acc * 256 + c.toNat) 0 : Nat) : Int)
end Mine
end
section
open PySem PySem.W PySem.Spec PySem.Calls PyProof.Rows
set_option maxRecDepth 100000
namespace Mine

theorem bits_P : Builtin.Int.intBits 115792089237316195423570985008687907853269984665640564039457584007908834671663 ≤ 256 := by decide +kernel
theorem bits_N : Builtin.Int.intBits 115792089237316195423570985008687907852837564279074904382605163141518161494337 ≤ 256 := by decide +kernel

abbrev tup3 (x y z : Int) (tx ty tz : Tok) (c : Nat) : Obj := {cls := .type "tuple", data := .seq #[.int x tx, .int y ty, .int z tz] c}
abbrev tup2 (x y : Int) (tx ty : Tok) (c : Nat) : Obj := {cls := .type "tuple", data := .seq #[.int x tx, .int y ty] c}
abbrev bitsLe (x : Int) : Prop := Builtin.Int.intBits x ≤ 300


/-- what a call needs -/
def GoesX (w : World) (loose : List Str) (mean : ExcName → Option Value) (mg mb : Str → Option Value) (f : Addr) (need : Nat) (news : List (Addr × Obj)) (vs : List Value)
    (Back : (h₀ : Heap) → (L : Addr) → (m : Str → Option Value) → (s : Shared) → (Q : Value → Shared → Prop) → Prop) : Prop :=
  ∀ (dp un : Nat) (gd : Option (List Code)) (cn : Str) (cs : Scope) (a : Addr) (ccd : Value) (cl : List (Str × Addr)) (outer : List Env) (A₀ : Around) (base h₀ : Heap) (L : Addr) (m : Str → Option Value) (s : Shared)
    (Q E : Value → Shared → Prop),
    Below A₀ base outer h₀ → Fr h₀ L s.heap m → (hd.heap_39 w.params).In h₀ → News h₀ L s.heap news → Top topProg loose mean mg mb h₀ → cs.kind = .function → dp + need < recursionLimit → un + 8 * need < cLine →
    Back h₀ L m s Q →
    wpAny (model PySem.Challenge.rw_vj0008_01.row.prog w) (ktrTop dp un gd cn cs L a ccd cl outer) (call (.ref f) vs) Q E s
def Small (v : Int) : Prop := 0 ≤ v ∧ v ≤ pP
def Small3 (v : Jac) : Prop := Small v.1 ∧ Small v.2.1 ∧ Small v.2.2
theorem Small.bits {v : Int} (h : Small v) : Builtin.Int.intBits v ≤ 300 := by
  refine PySem.intBits_le_iff.mpr ?_
  have h1 := h.1; have h2 := h.2
  simp only [pP] at h2
  omega
theorem Small.nonneg {v : Int} (h : Small v) : 0 ≤ v := h.1
theorem small_mod (a : Int) : Small (a % pP) := ⟨Int.emod_nonneg _ (by decide), Int.le_of_lt (Int.emod_lt_of_pos _ (by decide))⟩
theorem small_zero : Small 0 := ⟨by decide, by decide⟩
theorem small_one : Small 1 := ⟨by decide, by decide⟩
structure Hid (P : Prop) : Prop where
  out : P
/-- the call gives back a tuple of three ints -/
def Back3 (news : List (Addr × Obj)) (val : Jac) (h₀ : Heap) (L : Addr) (m : Str → Option Value) (s : Shared) (Q : Value → Shared → Prop) : Prop :=
  ∀ (D : Addr) (x y z : Int) (tx ty tz : Tok) (c : Nat) (h' : Heap) (tk' : Nat), Fr h₀ L h' m → News h₀ L h' ((D, tup3 x y z tx ty tz c) :: news) → Hid ((x, y, z) = val) → Small3 (x, y, z) → Q (.ref D) { s with heap := h', toks := tk' }
theorem back3 {news news' : List (Addr × Obj)} {val : Jac} {h₀ h' : Heap} {L : Addr} {m : Str → Option Value} {s : Shared} {Q : Value → Shared → Prop} (hret : Back3 news val h₀ L m s Q) (hsm : Small3 val)
    {D : Addr} {x y z : Int} {tx ty tz : Tok} {c tk' : Nat} (F : Fr h₀ L h' m) (N : News h₀ L h' news') (hm : (D, tup3 x y z tx ty tz c) ∈ news') (hs : ∀ p ∈ news, p ∈ news') (e : (x, y, z) = val) : Q (.ref D) { s with heap := h', toks := tk' } := by
  refine hret D x y z tx ty tz c h' tk' F (fun p hp => ?_) ⟨e⟩ (by rw [e]; exact hsm)
  rcases List.mem_cons.mp hp with rfl | hp
  · exact N _ hm
  · exact N p (hs p hp)
theorem goes_use {w : World} {loose mean mg mb} {f : Addr} {need : Nat} {news : List (Addr × Obj)} {vs : List Value} {Back} {dp un : Nat} {gd : Option (List Code)} {cn : Str} {cs : Scope} {a : Addr} {ccd : Value} {cl : List (Str × Addr)} {outer : List Env} {A₀ : Around} {base h₀ : Heap} {L : Addr} {m : Str → Option Value} {s : Shared}
    {Q E : Value → Shared → Prop} (B : Below A₀ base outer h₀) (F : Fr h₀ L s.heap m) (X : (hd.heap_39 w.params).In h₀) (N : News h₀ L s.heap news) (T : Top topProg loose mean mg mb h₀) (hk : cs.kind = .function)
    (C : GoesX w loose mean mg mb f need news vs Back) (h1 : dp + need < recursionLimit) (h2 : un + 8 * need < cLine) (hb : Back h₀ L m s Q) :
    wpAny (model PySem.Challenge.rw_vj0008_01.row.prog w) (ktrTop dp un gd cn cs L a ccd cl outer) (call (.ref f) vs) Q E s := C _ _ _ _ _ _ _ _ _ _ _ _ _ _ _ _ _ B F X N T hk h1 h2 hb
/-- an int -/
def BackI (news : List (Addr × Obj)) (P : Int → Prop) (h₀ : Heap) (L : Addr) (m : Str → Option Value) (s : Shared) (Q : Value → Shared → Prop) : Prop :=
  ∀ (i : Int) (t : Tok) (h' : Heap) (tk' : Nat), Fr h₀ L h' m → News h₀ L h' news → P i → Q (.int i t) { s with heap := h', toks := tk' }
theorem backI {news news' : List (Addr × Obj)} {P : Int → Prop} {h₀ h' : Heap} {L : Addr} {m : Str → Option Value} {s : Shared} {Q : Value → Shared → Prop} (hret : BackI news P h₀ L m s Q)
    {i : Int} {t : Tok} {tk' : Nat} (F : Fr h₀ L h' m) (N : News h₀ L h' news') (hs : ∀ p ∈ news, p ∈ news') (e : P i) : Q (.int i t) { s with heap := h', toks := tk' } := hret i t h' tk' F (fun p hp => N p (hs p hp)) e

theorem bits_fm {a b : Int} {n : Nat} (hb : 0 < b) (hbb : Builtin.Int.intBits b ≤ n) : Builtin.Int.intBits (a.fmod b) ≤ n := by
  have h1 := Int.fmod_nonneg_of_pos a hb
  have h2 := Int.fmod_lt_of_pos a hb
  refine Nat.le_trans ?_ hbb
  have h3 : (a.fmod b).natAbs < 2 ^ Builtin.Int.intBits b := by
    have : b.natAbs < 2 ^ Builtin.Int.intBits b := PySem.intBits_le_iff.mp (Nat.le_refl _)
    omega
  exact PySem.intBits_le_iff.mpr h3
section
variable {prog : Program} {w : World} {A : Around} {E : Value → Shared → Prop} {s : Shared} {a b : Int} {t u : Tok} {Q : Value → Shared → Prop}
theorem mod_h (hb : 0 < b) (hbb : Builtin.Int.intBits b ≤ 300) (h : ∀ (v : Int) (t' tk' : Nat), Hid (v = a % b) → Builtin.Int.intBits v ≤ 300 → Q (.int v t') { s with toks := tk' }) :
    wpAny (model prog w) A (binaryOp .Mod (.int a t) (.int b u)) Q E s :=
  PyProof.Rows.mod_int' (by omega) (h _ _ _ ⟨Int.fmod_eq_emod_of_nonneg a (Int.le_of_lt hb)⟩ (bits_fm hb hbb))
theorem pow_h {k m : Nat} (hk : k ≤ 10) (ha : Builtin.Int.intBits a ≤ m) (hm : m ≤ 2000) (h : ∀ (t' tk' : Nat), Q (.int (a ^ k) t') { s with toks := tk' }) :
    wpAny (model prog w) A (binaryOp .Pow (.int a t) (.int (k : Int) u)) Q E s := by
  refine PyProof.Rows.pow_int (by omega) ?_ ?_
  · have h1 : Builtin.Int.intBits a * k ≤ 2000 * 10 := Nat.mul_le_mul (Nat.le_trans ha hm) hk
    have e : (2 : Int) ^ 27 = 134217728 := by decide
    rw [e]
    have : ((Builtin.Int.intBits a * k : Nat) : Int) ≤ 20000 := by omega
    rw [Int.natCast_mul] at this
    omega
  · rw [Int.toNat_natCast]; exact h _ _
theorem pow_h2 {m : Nat} (ha : Builtin.Int.intBits a ≤ m) (hm : m ≤ 2000) (h : ∀ (t' tk' : Nat), Q (.int (a ^ 2) t') { s with toks := tk' }) : wpAny (model prog w) A (binaryOp .Pow (.int a t) (.int 2 u)) Q E s := pow_h (k := 2) (by decide) ha hm h
theorem pow_h3 {m : Nat} (ha : Builtin.Int.intBits a ≤ m) (hm : m ≤ 2000) (h : ∀ (t' tk' : Nat), Q (.int (a ^ 3) t') { s with toks := tk' }) : wpAny (model prog w) A (binaryOp .Pow (.int a t) (.int 3 u)) Q E s := pow_h (k := 3) (by decide) ha hm h
theorem pow_h4 {m : Nat} (ha : Builtin.Int.intBits a ≤ m) (hm : m ≤ 2000) (h : ∀ (t' tk' : Nat), Q (.int (a ^ 4) t') { s with toks := tk' }) : wpAny (model prog w) A (binaryOp .Pow (.int a t) (.int 4 u)) Q E s := pow_h (k := 4) (by decide) ha hm h
theorem mod_hP (h : ∀ (v : Int) (t' tk' : Nat), Hid (v = a % 115792089237316195423570985008687907853269984665640564039457584007908834671663) → Builtin.Int.intBits v ≤ 300 → Small v → Q (.int v t') { s with toks := tk' }) :
    wpAny (model prog w) A (binaryOp .Mod (.int a t) (.int 115792089237316195423570985008687907853269984665640564039457584007908834671663 u)) Q E s :=
  mod_h (by decide) (Nat.le_trans bits_P (by decide)) fun v t' tk' hv hb => h v t' tk' hv hb (by rw [hv.out]; exact small_mod a)
theorem mod_s (hb : 0 < b) (h : ∀ (v : Int) (t' tk' : Nat), Hid (v = a % b) → 0 ≤ v → v < b → Q (.int v t') { s with toks := tk' }) :
    wpAny (model prog w) A (binaryOp .Mod (.int a t) (.int b u)) Q E s :=
  PyProof.Rows.mod_int' (by omega) (h _ _ _ ⟨Int.fmod_eq_emod_of_nonneg a (Int.le_of_lt hb)⟩ (Int.fmod_nonneg_of_pos a hb) (Int.fmod_lt_of_pos a hb))
theorem noPy {a b : Int} (hbb : Builtin.Int.intBits b ≤ 2000) : Builtin.divisionGoesByPylong a b = false := by
  refine PyProof.noPylong_of_log2 ?_
  have h1 : b.natAbs < 2 ^ 2000 := PySem.intBits_le_iff.mp hbb
  rcases Nat.eq_zero_or_pos b.natAbs with h0 | h0
  · rw [h0]; decide
  · exact Nat.lt_of_lt_of_le ((Nat.log2_lt (Nat.ne_of_gt h0)).mpr h1) (by decide)
theorem mod_2 (h : ∀ (v : Int) (t' tk' : Nat), v = a % 2 → 0 ≤ v → v < 2 → Q (.int v t') { s with toks := tk' }) :
    wpAny (model prog w) A (binaryOp .Mod (.int a t) (.int 2 u)) Q E s :=
  mod_s (by decide) fun v t' tk' hv h1 h2 => h v t' tk' hv.out h1 h2
theorem div_s (hb : 0 < b) (hbb : Builtin.Int.intBits b ≤ 2000) (h : ∀ (v : Int) (t' tk' : Nat), Hid (v = a / b) → Q (.int v t') { s with toks := tk' }) :
    wpAny (model prog w) A (binaryOp .FloorDiv (.int a t) (.int b u)) Q E s :=
  PyProof.Rows.floordiv_int (by omega) (h _ _ _ ⟨Int.fdiv_eq_ediv_of_nonneg a (Int.le_of_lt hb)⟩) (.inl (noPy hbb))
theorem half_s (ha : 0 ≤ a) (h : ∀ (v : Int) (t' tk' : Nat), Hid (v = a / 2) → 0 ≤ v → 2 * v ≤ a → a < 2 * v + 2 → Q (.int v t') { s with toks := tk' }) :
    wpAny (model prog w) A (binaryOp .FloorDiv (.int a t) (.int 2 u)) Q E s :=
  div_s (by decide) (by decide +kernel) fun v t' tk' hv => h v t' tk' hv (by have := hv.out; omega) (by have := hv.out; omega) (by have := hv.out; omega)
theorem mul_h (hm : IntMulOk a b) (h : ∀ (t' tk' : Nat), Q (.int (a * b) t') { s with toks := tk' }) : wpAny (model prog w) A (binaryOp .Mult (.int a t) (.int b u)) Q E s := PyProof.Rows.mul_int (h _ _) hm
theorem add_h (h : ∀ (t' tk' : Nat), Q (.int (a + b) t') { s with toks := tk' }) : wpAny (model prog w) A (binaryOp .Add (.int a t) (.int b u)) Q E s := P.add_int (h _ _)
theorem sub_h (h : ∀ (t' tk' : Nat), Q (.int (a - b) t') { s with toks := tk' }) : wpAny (model prog w) A (binaryOp .Sub (.int a t) (.int b u)) Q E s := P.sub_int (h _ _)
end
def Back2 (news : List (Addr × Obj)) (P : Aff → Prop) (h₀ : Heap) (L : Addr) (m : Str → Option Value) (s : Shared) (Q : Value → Shared → Prop) : Prop :=
  ∀ (D : Addr) (x y : Int) (tx ty : Tok) (c : Nat) (h' : Heap) (tk' : Nat), Fr h₀ L h' m → News h₀ L h' ((D, tup2 x y tx ty c) :: news) → P (x, y) → Q (.ref D) { s with heap := h', toks := tk' }
theorem back2 {news news' : List (Addr × Obj)} {P : Aff → Prop} {h₀ h' : Heap} {L : Addr} {m : Str → Option Value} {s : Shared} {Q : Value → Shared → Prop} (hret : Back2 news P h₀ L m s Q)
    {D : Addr} {x y : Int} {tx ty : Tok} {c tk' : Nat} (F : Fr h₀ L h' m) (N : News h₀ L h' news') (hm : (D, tup2 x y tx ty c) ∈ news') (hs : ∀ p ∈ news, p ∈ news') (e : P (x, y)) : Q (.ref D) { s with heap := h', toks := tk' } := by
  refine hret D x y tx ty c h' tk' F (fun p hp => ?_) e
  rcases List.mem_cons.mp hp with rfl | hp
  · exact N _ hm
  · exact N p (hs p hp)
/-- the call raises BadSignature -/
def GoesE (w : World) (loose : List Str) (mean : ExcName → Option Value) (mg mb : Str → Option Value) (f : Addr) (need : Nat) (news : List (Addr × Obj)) (vs : List Value) : Prop :=
  ∀ (dp un : Nat) (gd : Option (List Code)) (cn : Str) (cs : Scope) (a : Addr) (ccd : Value) (cl : List (Str × Addr)) (outer : List Env) (A₀ : Around) (base h₀ : Heap) (L : Addr) (m : Str → Option Value) (s : Shared)
    (Q E : Value → Shared → Prop),
    Below A₀ base outer h₀ → Fr h₀ L s.heap m → (hd.heap_39 w.params).In h₀ → News h₀ L s.heap news → Top topProg loose mean mg mb h₀ → cs.kind = .function → KtsDicts (outer.filterMap (·.frame)) h₀ → dp + need < recursionLimit → un + 8 * need < cLine →
    (∀ (e t : Addr) (vs : List Value) (g' h' : Heap) (tk' : Nat), Fr h₀ L g' m → g'.UpToSlots h' → RaisedS base g' (envX cn cs L a ccd cl :: outer) e (.ref 41) t vs news h' → E (.ref e) { s with heap := h', toks := tk' }) →
    wpAny (model PySem.Challenge.rw_vj0008_01.row.prog w) (ktrTop dp un gd cn cs L a ccd cl outer) (call (.ref f) vs) Q E s
theorem goesE_use {w : World} {loose mean mg mb} {f : Addr} {need : Nat} {news : List (Addr × Obj)} {vs : List Value} {dp un : Nat} {gd : Option (List Code)} {cn : Str} {cs : Scope} {a : Addr} {ccd : Value} {cl : List (Str × Addr)} {outer : List Env} {A₀ : Around} {base h₀ : Heap} {L : Addr} {m : Str → Option Value} {s : Shared}
    {Q E : Value → Shared → Prop} (B : Below A₀ base outer h₀) (F : Fr h₀ L s.heap m) (X : (hd.heap_39 w.params).In h₀) (N : News h₀ L s.heap news) (T : Top topProg loose mean mg mb h₀) (hk : cs.kind = .function) (D : KtsDicts (outer.filterMap (·.frame)) h₀)
    (C : GoesE w loose mean mg mb f need news vs) (h1 : dp + need < recursionLimit) (h2 : un + 8 * need < cLine)
    (hb : ∀ (e t : Addr) (vs : List Value) (g' h' : Heap) (tk' : Nat), Fr h₀ L g' m → g'.UpToSlots h' → RaisedS base g' (envX cn cs L a ccd cl :: outer) e (.ref 41) t vs news h' → E (.ref e) { s with heap := h', toks := tk' }) :
    wpAny (model PySem.Challenge.rw_vj0008_01.row.prog w) (ktrTop dp un gd cn cs L a ccd cl outer) (call (.ref f) vs) Q E s := C _ _ _ _ _ _ _ _ _ _ _ _ _ _ _ _ _ B F X N T hk D h1 h2 hb
theorem raisedS_mono {base G : Heap} {l : List Env} {e : Addr} {cls : Value} {t : Addr} {vs : List Value} {news news' : List (Addr × Obj)} {h : Heap} (R : RaisedS base G l e cls t vs news' h) (hs : ∀ p ∈ news, p ∈ news') : RaisedS base G l e cls t vs news h := by
  obtain ⟨⟨B, h1, h0, h2, h3, h4⟩, h5⟩ := R
  exact ⟨⟨B, h1, h0, fun q hq => h2 q (hs q hq), h3, h4⟩, h5⟩
theorem raisedK_mono {base : Heap} {l : List Env} {e : Addr} {cls : Value} {t : Addr} {vs : List Value} {news news' : List (Addr × Obj)} {h : Heap} (R : RaisedK base l e cls t vs news' h) (hs : ∀ p ∈ news, p ∈ news') : RaisedK base l e cls t vs news h := by
  obtain ⟨⟨B, h1, h2, h3, h4⟩, h5⟩ := R
  exact ⟨⟨B, h1, fun q hq => h2 q (hs q hq), h3, h4⟩, h5⟩
/-- a truth value -/
def BackB (news : List (Addr × Obj)) (b : Bool) (h₀ : Heap) (L : Addr) (m : Str → Option Value) (s : Shared) (Q : Value → Shared → Prop) : Prop :=
  ∀ (h' : Heap) (tk' : Nat), Fr h₀ L h' m → News h₀ L h' news → Q (.bool b) { s with heap := h', toks := tk' }
theorem backB {news news' : List (Addr × Obj)} {b b' : Bool} {h₀ h' : Heap} {L : Addr} {m : Str → Option Value} {s : Shared} {Q : Value → Shared → Prop} (hret : BackB news b h₀ L m s Q)
    {tk' : Nat} (F : Fr h₀ L h' m) (N : News h₀ L h' news') (hs : ∀ p ∈ news, p ∈ news') (e : b' = b) : Q (.bool b') { s with heap := h', toks := tk' } := by
  subst e
  exact hret h' tk' F (fun p hp => N p (hs p hp))
/-- bytes -/
def BackY (news : List (Addr × Obj)) (b : Array UInt8) (h₀ : Heap) (L : Addr) (m : Str → Option Value) (s : Shared) (Q : Value → Shared → Prop) : Prop :=
  ∀ (t : Tok) (h' : Heap) (tk' : Nat), Fr h₀ L h' m → News h₀ L h' news → Q (.bytes b t) { s with heap := h', toks := tk' }
theorem backY {news news' : List (Addr × Obj)} {b b' : Array UInt8} {h₀ h' : Heap} {L : Addr} {m : Str → Option Value} {s : Shared} {Q : Value → Shared → Prop} (hret : BackY news b h₀ L m s Q)
    {t : Tok} {tk' : Nat} (F : Fr h₀ L h' m) (N : News h₀ L h' news') (hs : ∀ p ∈ news, p ∈ news') (e : b' = b) : Q (.bytes b' t) { s with heap := h', toks := tk' } := by
  subst e
  exact hret t h' tk' F (fun p hp => N p (hs p hp))
/-- a point or none -/
def OptAt (news : List (Addr × Obj)) (v : Value) (o : Option Aff) : Prop :=
  match o with
  | none => v = .none
  | some p => (∃ (D : Addr) (tx ty : Tok) (c : Nat), v = .ref D ∧ (D, tup2 p.1 p.2 tx ty c) ∈ news) ∨ (v = .ref 129 ∧ p = (gX, gY))
theorem OptAt.mono {news news' : List (Addr × Obj)} {v : Value} {o : Option Aff} (h : OptAt news v o) (hs : ∀ p ∈ news, p ∈ news') : OptAt news' v o := by
  cases o with
  | none => exact h
  | some p =>
    rcases h with ⟨D, tx, ty, c, e, hm⟩ | h
    · exact .inl ⟨D, tx, ty, c, e, hs _ hm⟩
    · exact .inr h
def SmallO (o : Option Aff) : Prop := ∀ p, o = some p → Small p.1 ∧ Small p.2
/-- the call gives back a point or none -/
def BackO (news : List (Addr × Obj)) (val : Option Aff) (h₀ : Heap) (L : Addr) (m : Str → Option Value) (s : Shared) (Q : Value → Shared → Prop) : Prop :=
  ∀ (v : Value) (tl : List (Addr × Obj)) (h' : Heap) (tk' : Nat), Fr h₀ L h' m → News h₀ L h' (tl ++ news) → OptAt (tl ++ news) v val → SmallO val → Q v { s with heap := h', toks := tk' }
theorem backO_some {news news' : List (Addr × Obj)} {val : Option Aff} {h₀ h' : Heap} {L : Addr} {m : Str → Option Value} {s : Shared} {Q : Value → Shared → Prop} (hret : BackO news val h₀ L m s Q) (hsm : SmallO val)
    {D : Addr} {x y : Int} {tx ty : Tok} {c tk' : Nat} (F : Fr h₀ L h' m) (N : News h₀ L h' news') (hm : (D, tup2 x y tx ty c) ∈ news') (hs : ∀ p ∈ news, p ∈ news') (e : val = some (x, y)) : Q (.ref D) { s with heap := h', toks := tk' } := by
  subst e
  refine hret (.ref D) [(D, tup2 x y tx ty c)] h' tk' F (fun p hp => ?_) (.inl ⟨D, tx, ty, c, rfl, .head _⟩) hsm
  rcases List.mem_cons.mp hp with rfl | hp
  · exact N _ hm
  · exact N p (hs p hp)
theorem backO_none {news news' : List (Addr × Obj)} {val : Option Aff} {h₀ h' : Heap} {L : Addr} {m : Str → Option Value} {s : Shared} {Q : Value → Shared → Prop} (hret : BackO news val h₀ L m s Q)
    {tk' : Nat} (F : Fr h₀ L h' m) (N : News h₀ L h' news') (hs : ∀ p ∈ news, p ∈ news') (e : val = none) : Q .none { s with heap := h', toks := tk' } := by
  subst e
  exact hret .none [] h' tk' F (fun p hp => N p (hs p hp)) rfl (fun _ h => nomatch h)
theorem backO_K {news news' : List (Addr × Obj)} {val : Option Aff} {h₀ h' : Heap} {L : Addr} {m : Str → Option Value} {s : Shared} {Q : Value → Shared → Prop} (hret : BackO news val h₀ L m s Q) (hsm : SmallO val)
    {tk' : Nat} (F : Fr h₀ L h' m) (N : News h₀ L h' news') (hs : ∀ p ∈ news, p ∈ news') (e : val = some (gX, gY)) : Q (.ref 129) { s with heap := h', toks := tk' } := by
  subst e
  exact hret (.ref 129) [] h' tk' F (fun p hp => N p (hs p hp)) (.inr ⟨rfl, rfl⟩) hsm
theorem bits_gX : Builtin.Int.intBits 55066263022277343669578718895168534326250603453777594175500187360389116729240 ≤ 300 := by decide +kernel
theorem bits_gY : Builtin.Int.intBits 32670510020758816978083085130507043184471273380659243275938904335757337482424 ≤ 300 := by decide +kernel
theorem backO_at {news news' : List (Addr × Obj)} {val : Option Aff} {h₀ h' : Heap} {L : Addr} {m : Str → Option Value} {s : Shared} {Q : Value → Shared → Prop} (hret : BackO news val h₀ L m s Q) (hsm : SmallO val)
    {v : Value} {tk' : Nat} (F : Fr h₀ L h' m) (N : News h₀ L h' news') (hs : ∀ p ∈ news, p ∈ news') (e : OptAt news' v val) : Q v { s with heap := h', toks := tk' } := by
  refine hret v news' h' tk' F (fun p hp => ?_) (e.mono fun p hp => List.mem_append_left _ hp) hsm
  rcases List.mem_append.mp hp with hp | hp
  · exact N p hp
  · exact N p (hs p hp)
end Mine
end
section
open PySem PySem.W PySem.Spec PySem.Calls PyProof.Rows
set_option maxRecDepth 100000
namespace Mine
def okName (cs : Scope) (k : NameKind) (x : Str) : Bool :=
  decide (cs.kind = .function) && decide (cs.names.lookup x = some k) && !(x == ("__debug__" : Str)) && !(x == ("__classdict__" : Str))
theorem okName.out {cs : Scope} {k : NameKind} {x : Str} (h : okName cs k x = true) : cs.kind = .function ∧ cs.names.lookup x = some k ∧ (x == ("__debug__" : Str)) = false ∧ (x == ("__classdict__" : Str)) = false := by
  simp only [okName, Bool.and_eq_true, decide_eq_true_eq, Bool.not_eq_true'] at h
  exact ⟨h.1.1.1, h.1.1.2, h.1.2, h.2⟩
theorem mem0 {α : Type _} {a : α} {l : List α} : a ∈ a :: l := List.Mem.head _
theorem mem1 {α : Type _} {a x0 : α} {l : List α} : a ∈ x0 :: a :: l := List.Mem.tail _ (List.Mem.head _)
theorem mem2 {α : Type _} {a x0 x1 : α} {l : List α} : a ∈ x0 :: x1 :: a :: l := List.Mem.tail _ (List.Mem.tail _ (List.Mem.head _))
theorem mem3 {α : Type _} {a x0 x1 x2 : α} {l : List α} : a ∈ x0 :: x1 :: x2 :: a :: l := List.Mem.tail _ (List.Mem.tail _ (List.Mem.tail _ (List.Mem.head _)))
theorem mem4 {α : Type _} {a x0 x1 x2 x3 : α} {l : List α} : a ∈ x0 :: x1 :: x2 :: x3 :: a :: l := List.Mem.tail _ (List.Mem.tail _ (List.Mem.tail _ (List.Mem.tail _ (List.Mem.head _))))
theorem mem5 {α : Type _} {a x0 x1 x2 x3 x4 : α} {l : List α} : a ∈ x0 :: x1 :: x2 :: x3 :: x4 :: a :: l := List.Mem.tail _ (List.Mem.tail _ (List.Mem.tail _ (List.Mem.tail _ (List.Mem.tail _ (List.Mem.head _)))))
theorem mem6 {α : Type _} {a x0 x1 x2 x3 x4 x5 : α} {l : List α} : a ∈ x0 :: x1 :: x2 :: x3 :: x4 :: x5 :: a :: l := List.Mem.tail _ (List.Mem.tail _ (List.Mem.tail _ (List.Mem.tail _ (List.Mem.tail _ (List.Mem.tail _ (List.Mem.head _))))))
theorem mem7 {α : Type _} {a x0 x1 x2 x3 x4 x5 x6 : α} {l : List α} : a ∈ x0 :: x1 :: x2 :: x3 :: x4 :: x5 :: x6 :: a :: l := List.Mem.tail _ (List.Mem.tail _ (List.Mem.tail _ (List.Mem.tail _ (List.Mem.tail _ (List.Mem.tail _ (List.Mem.tail _ (List.Mem.head _)))))))
theorem mem8 {α : Type _} {a x0 x1 x2 x3 x4 x5 x6 x7 : α} {l : List α} : a ∈ x0 :: x1 :: x2 :: x3 :: x4 :: x5 :: x6 :: x7 :: a :: l := List.Mem.tail _ (List.Mem.tail _ (List.Mem.tail _ (List.Mem.tail _ (List.Mem.tail _ (List.Mem.tail _ (List.Mem.tail _ (List.Mem.tail _ (List.Mem.head _))))))))
theorem mem9 {α : Type _} {a x0 x1 x2 x3 x4 x5 x6 x7 x8 : α} {l : List α} : a ∈ x0 :: x1 :: x2 :: x3 :: x4 :: x5 :: x6 :: x7 :: x8 :: a :: l := List.Mem.tail _ (List.Mem.tail _ (List.Mem.tail _ (List.Mem.tail _ (List.Mem.tail _ (List.Mem.tail _ (List.Mem.tail _ (List.Mem.tail _ (List.Mem.tail _ (List.Mem.head _)))))))))
theorem mem10 {α : Type _} {a x0 x1 x2 x3 x4 x5 x6 x7 x8 x9 : α} {l : List α} : a ∈ x0 :: x1 :: x2 :: x3 :: x4 :: x5 :: x6 :: x7 :: x8 :: x9 :: a :: l := List.Mem.tail _ (List.Mem.tail _ (List.Mem.tail _ (List.Mem.tail _ (List.Mem.tail _ (List.Mem.tail _ (List.Mem.tail _ (List.Mem.tail _ (List.Mem.tail _ (List.Mem.tail _ (List.Mem.head _))))))))))
theorem mem11 {α : Type _} {a x0 x1 x2 x3 x4 x5 x6 x7 x8 x9 x10 : α} {l : List α} : a ∈ x0 :: x1 :: x2 :: x3 :: x4 :: x5 :: x6 :: x7 :: x8 :: x9 :: x10 :: a :: l := List.Mem.tail _ (List.Mem.tail _ (List.Mem.tail _ (List.Mem.tail _ (List.Mem.tail _ (List.Mem.tail _ (List.Mem.tail _ (List.Mem.tail _ (List.Mem.tail _ (List.Mem.tail _ (List.Mem.tail _ (List.Mem.head _)))))))))))
theorem mem12 {α : Type _} {a x0 x1 x2 x3 x4 x5 x6 x7 x8 x9 x10 x11 : α} {l : List α} : a ∈ x0 :: x1 :: x2 :: x3 :: x4 :: x5 :: x6 :: x7 :: x8 :: x9 :: x10 :: x11 :: a :: l := List.Mem.tail _ (List.Mem.tail _ (List.Mem.tail _ (List.Mem.tail _ (List.Mem.tail _ (List.Mem.tail _ (List.Mem.tail _ (List.Mem.tail _ (List.Mem.tail _ (List.Mem.tail _ (List.Mem.tail _ (List.Mem.tail _ (List.Mem.head _))))))))))))
theorem mem13 {α : Type _} {a x0 x1 x2 x3 x4 x5 x6 x7 x8 x9 x10 x11 x12 : α} {l : List α} : a ∈ x0 :: x1 :: x2 :: x3 :: x4 :: x5 :: x6 :: x7 :: x8 :: x9 :: x10 :: x11 :: x12 :: a :: l := List.Mem.tail _ (List.Mem.tail _ (List.Mem.tail _ (List.Mem.tail _ (List.Mem.tail _ (List.Mem.tail _ (List.Mem.tail _ (List.Mem.tail _ (List.Mem.tail _ (List.Mem.tail _ (List.Mem.tail _ (List.Mem.tail _ (List.Mem.tail _ (List.Mem.head _)))))))))))))
theorem mem14 {α : Type _} {a x0 x1 x2 x3 x4 x5 x6 x7 x8 x9 x10 x11 x12 x13 : α} {l : List α} : a ∈ x0 :: x1 :: x2 :: x3 :: x4 :: x5 :: x6 :: x7 :: x8 :: x9 :: x10 :: x11 :: x12 :: x13 :: a :: l := List.Mem.tail _ (List.Mem.tail _ (List.Mem.tail _ (List.Mem.tail _ (List.Mem.tail _ (List.Mem.tail _ (List.Mem.tail _ (List.Mem.tail _ (List.Mem.tail _ (List.Mem.tail _ (List.Mem.tail _ (List.Mem.tail _ (List.Mem.tail _ (List.Mem.tail _ (List.Mem.head _))))))))))))))
theorem mem15 {α : Type _} {a x0 x1 x2 x3 x4 x5 x6 x7 x8 x9 x10 x11 x12 x13 x14 : α} {l : List α} : a ∈ x0 :: x1 :: x2 :: x3 :: x4 :: x5 :: x6 :: x7 :: x8 :: x9 :: x10 :: x11 :: x12 :: x13 :: x14 :: a :: l := List.Mem.tail _ (List.Mem.tail _ (List.Mem.tail _ (List.Mem.tail _ (List.Mem.tail _ (List.Mem.tail _ (List.Mem.tail _ (List.Mem.tail _ (List.Mem.tail _ (List.Mem.tail _ (List.Mem.tail _ (List.Mem.tail _ (List.Mem.tail _ (List.Mem.tail _ (List.Mem.tail _ (List.Mem.head _)))))))))))))))
theorem mem16 {α : Type _} {a x0 x1 x2 x3 x4 x5 x6 x7 x8 x9 x10 x11 x12 x13 x14 x15 : α} {l : List α} : a ∈ x0 :: x1 :: x2 :: x3 :: x4 :: x5 :: x6 :: x7 :: x8 :: x9 :: x10 :: x11 :: x12 :: x13 :: x14 :: x15 :: a :: l := List.Mem.tail _ (List.Mem.tail _ (List.Mem.tail _ (List.Mem.tail _ (List.Mem.tail _ (List.Mem.tail _ (List.Mem.tail _ (List.Mem.tail _ (List.Mem.tail _ (List.Mem.tail _ (List.Mem.tail _ (List.Mem.tail _ (List.Mem.tail _ (List.Mem.tail _ (List.Mem.tail _ (List.Mem.tail _ (List.Mem.head _))))))))))))))))
theorem mem17 {α : Type _} {a x0 x1 x2 x3 x4 x5 x6 x7 x8 x9 x10 x11 x12 x13 x14 x15 x16 : α} {l : List α} : a ∈ x0 :: x1 :: x2 :: x3 :: x4 :: x5 :: x6 :: x7 :: x8 :: x9 :: x10 :: x11 :: x12 :: x13 :: x14 :: x15 :: x16 :: a :: l := List.Mem.tail _ (List.Mem.tail _ (List.Mem.tail _ (List.Mem.tail _ (List.Mem.tail _ (List.Mem.tail _ (List.Mem.tail _ (List.Mem.tail _ (List.Mem.tail _ (List.Mem.tail _ (List.Mem.tail _ (List.Mem.tail _ (List.Mem.tail _ (List.Mem.tail _ (List.Mem.tail _ (List.Mem.tail _ (List.Mem.tail _ (List.Mem.head _)))))))))))))))))
theorem mem18 {α : Type _} {a x0 x1 x2 x3 x4 x5 x6 x7 x8 x9 x10 x11 x12 x13 x14 x15 x16 x17 : α} {l : List α} : a ∈ x0 :: x1 :: x2 :: x3 :: x4 :: x5 :: x6 :: x7 :: x8 :: x9 :: x10 :: x11 :: x12 :: x13 :: x14 :: x15 :: x16 :: x17 :: a :: l := List.Mem.tail _ (List.Mem.tail _ (List.Mem.tail _ (List.Mem.tail _ (List.Mem.tail _ (List.Mem.tail _ (List.Mem.tail _ (List.Mem.tail _ (List.Mem.tail _ (List.Mem.tail _ (List.Mem.tail _ (List.Mem.tail _ (List.Mem.tail _ (List.Mem.tail _ (List.Mem.tail _ (List.Mem.tail _ (List.Mem.tail _ (List.Mem.tail _ (List.Mem.head _))))))))))))))))))
theorem mem19 {α : Type _} {a x0 x1 x2 x3 x4 x5 x6 x7 x8 x9 x10 x11 x12 x13 x14 x15 x16 x17 x18 : α} {l : List α} : a ∈ x0 :: x1 :: x2 :: x3 :: x4 :: x5 :: x6 :: x7 :: x8 :: x9 :: x10 :: x11 :: x12 :: x13 :: x14 :: x15 :: x16 :: x17 :: x18 :: a :: l := List.Mem.tail _ (List.Mem.tail _ (List.Mem.tail _ (List.Mem.tail _ (List.Mem.tail _ (List.Mem.tail _ (List.Mem.tail _ (List.Mem.tail _ (List.Mem.tail _ (List.Mem.tail _ (List.Mem.tail _ (List.Mem.tail _ (List.Mem.tail _ (List.Mem.tail _ (List.Mem.tail _ (List.Mem.tail _ (List.Mem.tail _ (List.Mem.tail _ (List.Mem.tail _ (List.Mem.head _)))))))))))))))))))
theorem mem20 {α : Type _} {a x0 x1 x2 x3 x4 x5 x6 x7 x8 x9 x10 x11 x12 x13 x14 x15 x16 x17 x18 x19 : α} {l : List α} : a ∈ x0 :: x1 :: x2 :: x3 :: x4 :: x5 :: x6 :: x7 :: x8 :: x9 :: x10 :: x11 :: x12 :: x13 :: x14 :: x15 :: x16 :: x17 :: x18 :: x19 :: a :: l := List.Mem.tail _ (List.Mem.tail _ (List.Mem.tail _ (List.Mem.tail _ (List.Mem.tail _ (List.Mem.tail _ (List.Mem.tail _ (List.Mem.tail _ (List.Mem.tail _ (List.Mem.tail _ (List.Mem.tail _ (List.Mem.tail _ (List.Mem.tail _ (List.Mem.tail _ (List.Mem.tail _ (List.Mem.tail _ (List.Mem.tail _ (List.Mem.tail _ (List.Mem.tail _ (List.Mem.tail _ (List.Mem.head _))))))))))))))))))))
theorem mem21 {α : Type _} {a x0 x1 x2 x3 x4 x5 x6 x7 x8 x9 x10 x11 x12 x13 x14 x15 x16 x17 x18 x19 x20 : α} {l : List α} : a ∈ x0 :: x1 :: x2 :: x3 :: x4 :: x5 :: x6 :: x7 :: x8 :: x9 :: x10 :: x11 :: x12 :: x13 :: x14 :: x15 :: x16 :: x17 :: x18 :: x19 :: x20 :: a :: l := List.Mem.tail _ (List.Mem.tail _ (List.Mem.tail _ (List.Mem.tail _ (List.Mem.tail _ (List.Mem.tail _ (List.Mem.tail _ (List.Mem.tail _ (List.Mem.tail _ (List.Mem.tail _ (List.Mem.tail _ (List.Mem.tail _ (List.Mem.tail _ (List.Mem.tail _ (List.Mem.tail _ (List.Mem.tail _ (List.Mem.tail _ (List.Mem.tail _ (List.Mem.tail _ (List.Mem.tail _ (List.Mem.tail _ (List.Mem.head _)))))))))))))))))))))
theorem mem22 {α : Type _} {a x0 x1 x2 x3 x4 x5 x6 x7 x8 x9 x10 x11 x12 x13 x14 x15 x16 x17 x18 x19 x20 x21 : α} {l : List α} : a ∈ x0 :: x1 :: x2 :: x3 :: x4 :: x5 :: x6 :: x7 :: x8 :: x9 :: x10 :: x11 :: x12 :: x13 :: x14 :: x15 :: x16 :: x17 :: x18 :: x19 :: x20 :: x21 :: a :: l := List.Mem.tail _ (List.Mem.tail _ (List.Mem.tail _ (List.Mem.tail _ (List.Mem.tail _ (List.Mem.tail _ (List.Mem.tail _ (List.Mem.tail _ (List.Mem.tail _ (List.Mem.tail _ (List.Mem.tail _ (List.Mem.tail _ (List.Mem.tail _ (List.Mem.tail _ (List.Mem.tail _ (List.Mem.tail _ (List.Mem.tail _ (List.Mem.tail _ (List.Mem.tail _ (List.Mem.tail _ (List.Mem.tail _ (List.Mem.tail _ (List.Mem.head _))))))))))))))))))))))
theorem mem23 {α : Type _} {a x0 x1 x2 x3 x4 x5 x6 x7 x8 x9 x10 x11 x12 x13 x14 x15 x16 x17 x18 x19 x20 x21 x22 : α} {l : List α} : a ∈ x0 :: x1 :: x2 :: x3 :: x4 :: x5 :: x6 :: x7 :: x8 :: x9 :: x10 :: x11 :: x12 :: x13 :: x14 :: x15 :: x16 :: x17 :: x18 :: x19 :: x20 :: x21 :: x22 :: a :: l := List.Mem.tail _ (List.Mem.tail _ (List.Mem.tail _ (List.Mem.tail _ (List.Mem.tail _ (List.Mem.tail _ (List.Mem.tail _ (List.Mem.tail _ (List.Mem.tail _ (List.Mem.tail _ (List.Mem.tail _ (List.Mem.tail _ (List.Mem.tail _ (List.Mem.tail _ (List.Mem.tail _ (List.Mem.tail _ (List.Mem.tail _ (List.Mem.tail _ (List.Mem.tail _ (List.Mem.tail _ (List.Mem.tail _ (List.Mem.tail _ (List.Mem.tail _ (List.Mem.head _)))))))))))))))))))))))
theorem mem24 {α : Type _} {a x0 x1 x2 x3 x4 x5 x6 x7 x8 x9 x10 x11 x12 x13 x14 x15 x16 x17 x18 x19 x20 x21 x22 x23 : α} {l : List α} : a ∈ x0 :: x1 :: x2 :: x3 :: x4 :: x5 :: x6 :: x7 :: x8 :: x9 :: x10 :: x11 :: x12 :: x13 :: x14 :: x15 :: x16 :: x17 :: x18 :: x19 :: x20 :: x21 :: x22 :: x23 :: a :: l := List.Mem.tail _ (List.Mem.tail _ (List.Mem.tail _ (List.Mem.tail _ (List.Mem.tail _ (List.Mem.tail _ (List.Mem.tail _ (List.Mem.tail _ (List.Mem.tail _ (List.Mem.tail _ (List.Mem.tail _ (List.Mem.tail _ (List.Mem.tail _ (List.Mem.tail _ (List.Mem.tail _ (List.Mem.tail _ (List.Mem.tail _ (List.Mem.tail _ (List.Mem.tail _ (List.Mem.tail _ (List.Mem.tail _ (List.Mem.tail _ (List.Mem.tail _ (List.Mem.tail _ (List.Mem.head _))))))))))))))))))))))))
theorem mem25 {α : Type _} {a x0 x1 x2 x3 x4 x5 x6 x7 x8 x9 x10 x11 x12 x13 x14 x15 x16 x17 x18 x19 x20 x21 x22 x23 x24 : α} {l : List α} : a ∈ x0 :: x1 :: x2 :: x3 :: x4 :: x5 :: x6 :: x7 :: x8 :: x9 :: x10 :: x11 :: x12 :: x13 :: x14 :: x15 :: x16 :: x17 :: x18 :: x19 :: x20 :: x21 :: x22 :: x23 :: x24 :: a :: l := List.Mem.tail _ (List.Mem.tail _ (List.Mem.tail _ (List.Mem.tail _ (List.Mem.tail _ (List.Mem.tail _ (List.Mem.tail _ (List.Mem.tail _ (List.Mem.tail _ (List.Mem.tail _ (List.Mem.tail _ (List.Mem.tail _ (List.Mem.tail _ (List.Mem.tail _ (List.Mem.tail _ (List.Mem.tail _ (List.Mem.tail _ (List.Mem.tail _ (List.Mem.tail _ (List.Mem.tail _ (List.Mem.tail _ (List.Mem.tail _ (List.Mem.tail _ (List.Mem.tail _ (List.Mem.tail _ (List.Mem.head _)))))))))))))))))))))))))
theorem mem26 {α : Type _} {a x0 x1 x2 x3 x4 x5 x6 x7 x8 x9 x10 x11 x12 x13 x14 x15 x16 x17 x18 x19 x20 x21 x22 x23 x24 x25 : α} {l : List α} : a ∈ x0 :: x1 :: x2 :: x3 :: x4 :: x5 :: x6 :: x7 :: x8 :: x9 :: x10 :: x11 :: x12 :: x13 :: x14 :: x15 :: x16 :: x17 :: x18 :: x19 :: x20 :: x21 :: x22 :: x23 :: x24 :: x25 :: a :: l := List.Mem.tail _ (List.Mem.tail _ (List.Mem.tail _ (List.Mem.tail _ (List.Mem.tail _ (List.Mem.tail _ (List.Mem.tail _ (List.Mem.tail _ (List.Mem.tail _ (List.Mem.tail _ (List.Mem.tail _ (List.Mem.tail _ (List.Mem.tail _ (List.Mem.tail _ (List.Mem.tail _ (List.Mem.tail _ (List.Mem.tail _ (List.Mem.tail _ (List.Mem.tail _ (List.Mem.tail _ (List.Mem.tail _ (List.Mem.tail _ (List.Mem.tail _ (List.Mem.tail _ (List.Mem.tail _ (List.Mem.tail _ (List.Mem.head _))))))))))))))))))))))))))
theorem mem27 {α : Type _} {a x0 x1 x2 x3 x4 x5 x6 x7 x8 x9 x10 x11 x12 x13 x14 x15 x16 x17 x18 x19 x20 x21 x22 x23 x24 x25 x26 : α} {l : List α} : a ∈ x0 :: x1 :: x2 :: x3 :: x4 :: x5 :: x6 :: x7 :: x8 :: x9 :: x10 :: x11 :: x12 :: x13 :: x14 :: x15 :: x16 :: x17 :: x18 :: x19 :: x20 :: x21 :: x22 :: x23 :: x24 :: x25 :: x26 :: a :: l := List.Mem.tail _ (List.Mem.tail _ (List.Mem.tail _ (List.Mem.tail _ (List.Mem.tail _ (List.Mem.tail _ (List.Mem.tail _ (List.Mem.tail _ (List.Mem.tail _ (List.Mem.tail _ (List.Mem.tail _ (List.Mem.tail _ (List.Mem.tail _ (List.Mem.tail _ (List.Mem.tail _ (List.Mem.tail _ (List.Mem.tail _ (List.Mem.tail _ (List.Mem.tail _ (List.Mem.tail _ (List.Mem.tail _ (List.Mem.tail _ (List.Mem.tail _ (List.Mem.tail _ (List.Mem.tail _ (List.Mem.tail _ (List.Mem.tail _ (List.Mem.head _)))))))))))))))))))))))))))
theorem mem28 {α : Type _} {a x0 x1 x2 x3 x4 x5 x6 x7 x8 x9 x10 x11 x12 x13 x14 x15 x16 x17 x18 x19 x20 x21 x22 x23 x24 x25 x26 x27 : α} {l : List α} : a ∈ x0 :: x1 :: x2 :: x3 :: x4 :: x5 :: x6 :: x7 :: x8 :: x9 :: x10 :: x11 :: x12 :: x13 :: x14 :: x15 :: x16 :: x17 :: x18 :: x19 :: x20 :: x21 :: x22 :: x23 :: x24 :: x25 :: x26 :: x27 :: a :: l := List.Mem.tail _ (List.Mem.tail _ (List.Mem.tail _ (List.Mem.tail _ (List.Mem.tail _ (List.Mem.tail _ (List.Mem.tail _ (List.Mem.tail _ (List.Mem.tail _ (List.Mem.tail _ (List.Mem.tail _ (List.Mem.tail _ (List.Mem.tail _ (List.Mem.tail _ (List.Mem.tail _ (List.Mem.tail _ (List.Mem.tail _ (List.Mem.tail _ (List.Mem.tail _ (List.Mem.tail _ (List.Mem.tail _ (List.Mem.tail _ (List.Mem.tail _ (List.Mem.tail _ (List.Mem.tail _ (List.Mem.tail _ (List.Mem.tail _ (List.Mem.tail _ (List.Mem.head _))))))))))))))))))))))))))))
theorem mem29 {α : Type _} {a x0 x1 x2 x3 x4 x5 x6 x7 x8 x9 x10 x11 x12 x13 x14 x15 x16 x17 x18 x19 x20 x21 x22 x23 x24 x25 x26 x27 x28 : α} {l : List α} : a ∈ x0 :: x1 :: x2 :: x3 :: x4 :: x5 :: x6 :: x7 :: x8 :: x9 :: x10 :: x11 :: x12 :: x13 :: x14 :: x15 :: x16 :: x17 :: x18 :: x19 :: x20 :: x21 :: x22 :: x23 :: x24 :: x25 :: x26 :: x27 :: x28 :: a :: l := List.Mem.tail _ (List.Mem.tail _ (List.Mem.tail _ (List.Mem.tail _ (List.Mem.tail _ (List.Mem.tail _ (List.Mem.tail _ (List.Mem.tail _ (List.Mem.tail _ (List.Mem.tail _ (List.Mem.tail _ (List.Mem.tail _ (List.Mem.tail _ (List.Mem.tail _ (List.Mem.tail _ (List.Mem.tail _ (List.Mem.tail _ (List.Mem.tail _ (List.Mem.tail _ (List.Mem.tail _ (List.Mem.tail _ (List.Mem.tail _ (List.Mem.tail _ (List.Mem.tail _ (List.Mem.tail _ (List.Mem.tail _ (List.Mem.tail _ (List.Mem.tail _ (List.Mem.tail _ (List.Mem.head _)))))))))))))))))))))))))))))
section
variable {M : Model} {A : Around} {E : Value → Shared → Prop} {s : Shared} {K : Frag} {h₀ : Heap} {L a : Addr} {m mg mb : Str → Option Value} {cn : Str} {cs : Scope} {ccd : Value} {cl : List (Str × Addr)} {p : Program} {loose : List Str} {mean : ExcName → Option Value}
  {x : Str} {pos : Pos} {v : Value} {Q : Value → Shared → Prop} {news : List (Addr × Obj)} {c : Addr} {o : Obj}
theorem fL (hx : okName cs .local x = true) (F : Fr h₀ L s.heap m) (hv : m x = some v) (h : Q v s) : wpAny M A (eval (.Name x pos) (envX cn cs L a ccd cl)) Q E s :=
  nameX_L F hv h (okName.out hx).1 (okName.out hx).2.1 (okName.out hx).2.2.1
theorem fC (hx : okName cs .cell x = true) (hc : cl.lookup x = some c) (N : News h₀ L s.heap news) (hm : (c, o) ∈ news) (hd : o.data = .cell (some v)) (h : Q v s) : wpAny M A (eval (.Name x pos) (envX cn cs L a ccd cl)) Q E s :=
  nameX_C N hc hm hd h (okName.out hx).1 (okName.out hx).2.1 (okName.out hx).2.2.1
theorem fK (hx : okName cs .globalImplicit x = true) (F : Fr h₀ L s.heap m) (X : K.In h₀) (T : TopRead p loose mg mb h₀) (e : nsIn K mainGlobals x = some (some v)) (h : Q v s) : wpAny M A (eval (.Name x pos) (envX cn cs L a ccd cl)) Q E s :=
  nameX_K F X T e h (okName.out hx).1 (okName.out hx).2.1 (okName.out hx).2.2.1
theorem fLc (hx : okName cs .local x = true) (F : Fr h₀ L s.heap m) (hv : m x = some v) (h : Q v s) : wpAny M A (eval (.Name x pos) (envOfC cn cs L a ccd)) Q E s := fL hx F hv h
theorem fKc (hx : okName cs .globalImplicit x = true) (F : Fr h₀ L s.heap m) (X : K.In h₀) (T : TopRead p loose mg mb h₀) (e : nsIn K mainGlobals x = some (some v)) (h : Q v s) : wpAny M A (eval (.Name x pos) (envOfC cn cs L a ccd)) Q E s := fK hx F X T e h
theorem fLo (hx : okName cs .local x = true) (F : Fr h₀ L s.heap m) (hv : m x = some v) (h : Q v s) : wpAny M A (eval (.Name x pos) (envOf cn cs L a ccd)) Q E s := fL hx F hv h
theorem fKo (hx : okName cs .globalImplicit x = true) (F : Fr h₀ L s.heap m) (X : K.In h₀) (T : TopRead p loose mg mb h₀) (e : nsIn K mainGlobals x = some (some v)) (h : Q v s) : wpAny M A (eval (.Name x pos) (envOf cn cs L a ccd)) Q E s := fK hx F X T e h
theorem fCc (hx : okName cs .cell x = true) (hc : (cellsFrom (L + 1) cs.names []).lookup x = some c) (N : News h₀ L s.heap news) (hm : (c, o) ∈ news) (hd : o.data = .cell (some v)) (h : Q v s) : wpAny M A (eval (.Name x pos) (envOfC cn cs L a ccd)) Q E s := fC hx hc N hm hd h
end
section
variable {prog : Program} {w : World} {A : Around} {E : Value → Shared → Prop} {s : Shared} {h₀ : Heap} {L : Addr} {m : Str → Option Value} {Q : Value → Shared → Prop} {news : List (Addr × Obj)} {D : Addr} {e1 : Expr} {i : Nat} {pos : Pos} {x y z : Int} {tx ty tz u : Tok} {c : Nat}
theorem sub3_0 (N : News h₀ L s.heap news) (hm : (D, tup3 x y z tx ty tz c) ∈ news) (h : Q (.int x tx) s) :
    wpAny (model prog w) A (subscriptTail e1 (.Constant (.int 0) i pos) (.ref D) (.int 0 u)) Q E s :=
  item_tupleT (News.isTup N hm) (by decide) (by decide) rfl rfl h (by with_unfolding_all rfl)
theorem sub3_1 (N : News h₀ L s.heap news) (hm : (D, tup3 x y z tx ty tz c) ∈ news) (h : Q (.int y ty) s) :
    wpAny (model prog w) A (subscriptTail e1 (.Constant (.int 1) i pos) (.ref D) (.int 1 u)) Q E s :=
  item_tupleT (News.isTup N hm) (by decide) (by decide) rfl rfl h (by with_unfolding_all rfl)
theorem sub3_2 (N : News h₀ L s.heap news) (hm : (D, tup3 x y z tx ty tz c) ∈ news) (h : Q (.int z tz) s) :
    wpAny (model prog w) A (subscriptTail e1 (.Constant (.int 2) i pos) (.ref D) (.int 2 u)) Q E s :=
  item_tupleT (News.isTup N hm) (by decide) (by decide) rfl rfl h (by with_unfolding_all rfl)
theorem sub2_0 (N : News h₀ L s.heap news) (hm : (D, tup2 x y tx ty c) ∈ news) (h : Q (.int x tx) s) :
    wpAny (model prog w) A (subscriptTail e1 (.Constant (.int 0) i pos) (.ref D) (.int 0 u)) Q E s :=
  item_tupleT (News.isTup N hm) (by decide) (by decide) rfl rfl h (by with_unfolding_all rfl)
theorem sub2_1 (N : News h₀ L s.heap news) (hm : (D, tup2 x y tx ty c) ∈ news) (h : Q (.int y ty) s) :
    wpAny (model prog w) A (subscriptTail e1 (.Constant (.int 1) i pos) (.ref D) (.int 1 u)) Q E s :=
  item_tupleT (News.isTup N hm) (by decide) (by decide) rfl rfl h (by with_unfolding_all rfl)
end
end Mine
end
section
namespace Mine
theorem jd_small (p : Jac) : Small3 (jdF p) := by
  unfold jdF
  split
  · exact ⟨small_zero, small_zero, small_zero⟩
  · exact ⟨small_mod _, small_mod _, small_mod _⟩
theorem ja_small {p q : Jac} (hp : Small3 p) (hq : Small3 q) : Small3 (jaF p q) := by
  unfold jaF
  split
  · exact hq
  split
  · exact hp
  dsimp only
  split
  · split
    · exact ⟨small_zero, small_zero, small_one⟩
    · exact jd_small p
  · exact ⟨small_mod _, small_mod _, small_mod _⟩
theorem jm_small {a : Jac} (ha : Small3 a) (n : Nat) : Small3 (jmF a n) := by
  induction n using Nat.strongRecOn with
  | _ n ih =>
    rw [jmF]
    split
    · exact ⟨small_zero, small_zero, small_one⟩
    split
    · exact ha
    split
    · exact jd_small _
    · exact ja_small (jd_small _) ha

theorem jm_zero {p : Jac} {n : Nat} (h : p.2.1 = 0 ∨ n = 0) : (0, 0, 1) = jmF p n := by
  rw [jmF, if_pos h]
theorem jm_one {p : Jac} (hy : p.2.1 ≠ 0) : p = jmF p 1 := by
  rw [jmF, if_neg (by simp [hy]), if_pos rfl]
theorem jm_even {p t1 t2 : Jac} {n v : Int} (hy : p.2.1 ≠ 0) (h0 : 0 ≤ n) (hn0 : n ≠ 0) (hn1 : n ≠ 1) {b : Int} (hb : b = n % 2) (hb0 : b = 0) (hv : v = n / 2) (e1 : t1 = jmF p v.toNat) (e2 : t2 = jdF t1) : t2 = jmF p n.toNat := by
  rw [jmF, if_neg (by rintro (h | h); exact hy h; omega), if_neg (by omega), if_pos (by omega), e2, e1, hv]
  congr 2
  omega
theorem jm_odd {p t1 t2 t3 : Jac} {n v : Int} (hy : p.2.1 ≠ 0) (h0 : 0 ≤ n) (hn0 : n ≠ 0) (hn1 : n ≠ 1) {b : Int} (hb : b = n % 2) (hb1 : b = 1) (hv : v = n / 2) (e1 : t1 = jmF p v.toNat) (e2 : t2 = jdF t1) (e3 : t3 = jaF t2 p) : t3 = jmF p n.toNat := by
  rw [jmF, if_neg (by rintro (h | h); exact hy h; omega), if_neg (by omega), if_neg (by omega), e3, e2, e1, hv]
  congr 3
  omega
end Mine
end
section
/-! the extended Euclid of inv -/
open PySem
namespace Mine
structure InvJ (a n lm low hm high : Int) : Prop where
  lo : 0 ≤ low
  lt : low < high
  hi : 1 < high
  le : high ≤ n
  sz : (lm.natAbs : Int) * high + (hm.natAbs : Int) * low ≤ n
  c1 : n ∣ lm * a - low
  c2 : n ∣ hm * a - high
  cop : ∀ u, (a * u) % n = 1 → ∃ α β, α * low + β * high = 1
theorem invJ_init {a n : Int} (hn : 1 < n) : InvJ a n 1 (a % n) 0 n where
  lo := Int.emod_nonneg _ (by omega)
  lt := Int.emod_lt_of_pos _ (by omega)
  hi := hn
  le := Int.le_refl _
  sz := by simp
  c1 := by rw [Int.one_mul]; exact ⟨a / n, by have := Int.mul_ediv_add_emod a n; omega⟩
  c2 := by rw [Int.zero_mul]; exact ⟨-1, by omega⟩
  cop := by
    intro u hu
    refine ⟨u, (a / n) * u - (a * u) / n, ?_⟩
    have h1 := Int.mul_ediv_add_emod a n
    have h2 := Int.mul_ediv_add_emod (a * u) n
    rw [hu] at h2
    have h3 : u * (a % n) = a * u - n * (a / n) * u := by
      have : a % n = a - n * (a / n) := by omega
      rw [this, Int.mul_sub]
      grind
    grind
theorem invJ_step {a n lm low hm high r : Int} (J : InvJ a n lm low hm high) (h1 : 1 < low) (hr : r = high / low) : InvJ a n (hm - lm * r) (high - low * r) lm low := by
  have hd := Int.mul_ediv_add_emod high low
  have hm0 := Int.emod_nonneg high (show low ≠ 0 by omega)
  have hm1 := Int.emod_lt_of_pos high (show 0 < low by omega)
  have e : high - low * r = high % low := by rw [hr]; omega
  have hr0 : 0 ≤ r := by rw [hr]; exact Int.ediv_nonneg (by have := J.hi; omega) (by omega)
  refine ⟨by omega, by omega, h1, by have := J.lt; have := J.le; omega, ?_, ?_, J.c1, ?_⟩
  · have h2 : ((hm - lm * r).natAbs : Int) ≤ (hm.natAbs : Int) + (lm.natAbs : Int) * r := by
      have h3 : (hm - lm * r).natAbs ≤ hm.natAbs + (lm * r).natAbs := Int.natAbs_sub_le _ _
      have h4 : (lm * r).natAbs = lm.natAbs * r.natAbs := Int.natAbs_mul _ _
      have h5 : (r.natAbs : Int) = r := by omega
      have h6 : ((lm * r).natAbs : Int) = (lm.natAbs : Int) * r := by rw [h4, Int.natCast_mul, h5]
      omega
    have h3 : ((hm - lm * r).natAbs : Int) * low ≤ ((hm.natAbs : Int) + (lm.natAbs : Int) * r) * low := Int.mul_le_mul_of_nonneg_right h2 (by omega)
    have := J.sz
    have h4 : ((hm.natAbs : Int) + (lm.natAbs : Int) * r) * low + (lm.natAbs : Int) * (high - low * r) = (lm.natAbs : Int) * high + (hm.natAbs : Int) * low := by grind
    omega
  · have h2 := Int.dvd_sub J.c2 ((Int.dvd_mul_of_dvd_left J.c1 : _ ∣ _ * r))
    have h3 : (hm - lm * r) * a - (high - low * r) = (hm * a - high) - (lm * a - low) * r := by grind
    rw [h3]; exact h2
  · intro u hu
    obtain ⟨α, β, h⟩ := J.cop u hu
    exact ⟨β, α + β * r, by grind⟩
theorem invJ_end {a n lm low hm high : Int} (J : InvJ a n lm low hm high) (h1 : ¬ 1 < low) : IsInv a n (lm % n) := by
  have hn : 0 < n := by have := J.hi; have := J.le; omega
  refine ⟨Int.emod_nonneg _ (by omega), Int.emod_lt_of_pos _ hn, ?_⟩
  intro u hu
  obtain ⟨α, β, h⟩ := J.cop u hu
  have hlow : low = 1 := by
    rcases Int.lt_or_le low 1 with h0 | h0
    · have : low = 0 := by have := J.lo; omega
      rw [this, Int.mul_zero, Int.zero_add] at h
      have := J.hi
      have hd : high ∣ 1 := ⟨β, by rw [Int.mul_comm]; exact h.symm⟩
      have := Int.le_of_dvd (by decide) hd
      omega
    · omega
  have h2 := J.c1
  rw [hlow] at h2
  obtain ⟨k, hk⟩ := h2
  have h3 := Int.mul_ediv_add_emod lm n
  have h4 : a * (lm % n) = 1 + n * (k - a * (lm / n)) := by
    have : lm % n = lm - n * (lm / n) := by omega
    rw [this]
    grind
  rw [h4, Int.add_mul_emod_self_left]
  have := J.hi; have := J.le
  exact Int.emod_eq_of_lt (by decide) (by omega)
theorem invJ_start {a n v : Int} (hn : 1 < n) (hv : v = a % n) : InvJ a n 1 v 0 n := by
  subst hv; exact invJ_init hn
theorem invJ_less {a n lm low hm high r : Int} (J : InvJ a n lm low hm high) (h1 : 1 < low) (hr : r = high / low) : (high - low * r).toNat < low.toNat := by
  have hd := Int.mul_ediv_add_emod high low
  have hm0 := Int.emod_nonneg high (show low ≠ 0 by omega)
  have hm1 := Int.emod_lt_of_pos high (show 0 < low by omega)
  have e : high - low * r = high % low := by rw [hr]; omega
  omega
theorem IsInv.bits {a n r : Int} (J : IsInv a n r) (hn : Builtin.Int.intBits n ≤ 300) : Builtin.Int.intBits r ≤ 300 := by
  have h1 := PySem.intBits_le_iff.mp hn
  refine PySem.intBits_le_iff.mpr ?_
  have := J.1; have := J.2.1
  generalize 2 ^ 300 = M at *
  omega
theorem isInv_zero {n : Int} (hn : 1 < n) : IsInv 0 n 0 := ⟨by decide, by omega, fun u hu => by simp at hu⟩
theorem InvJ.bits_lm {a n lm low hm high : Int} (J : InvJ a n lm low hm high) (hn : Builtin.Int.intBits n ≤ 300) : Builtin.Int.intBits lm ≤ 300 := by
  have h1 := PySem.intBits_le_iff.mp hn
  refine PySem.intBits_le_iff.mpr ?_
  have h2 := J.sz
  have h3 : 0 ≤ (hm.natAbs : Int) * low := Int.mul_nonneg (by omega) J.lo
  have h4 : (lm.natAbs : Int) * 1 ≤ (lm.natAbs : Int) * high := Int.mul_le_mul_of_nonneg_left (by have := J.hi; omega) (by omega)
  have := J.hi; have := J.le
  generalize 2 ^ 300 = M at *
  omega
theorem InvJ.bits_low {a n lm low hm high : Int} (J : InvJ a n lm low hm high) (hn : Builtin.Int.intBits n ≤ 300) : Builtin.Int.intBits low ≤ 300 := by
  have h1 := PySem.intBits_le_iff.mp hn
  refine PySem.intBits_le_iff.mpr ?_
  have := J.lo; have := J.lt; have := J.le
  generalize 2 ^ 300 = M at *
  omega
theorem InvJ.bits_high {a n lm low hm high : Int} (J : InvJ a n lm low hm high) (hn : Builtin.Int.intBits n ≤ 300) : Builtin.Int.intBits high ≤ 300 := by
  have h1 := PySem.intBits_le_iff.mp hn
  refine PySem.intBits_le_iff.mpr ?_
  have := J.hi; have := J.le
  generalize 2 ^ 300 = M at *
  omega
section
variable {prog : Program} {w : World} {A : Around} {E : Value → Shared → Prop} {s : Shared} {a b : Int} {t u : Tok} {Q : Value → Shared → Prop}
theorem div_b {k m : Nat} (hb : 0 < b) (hbb : Builtin.Int.intBits b ≤ k) (hk : k ≤ 2000) (ha : Builtin.Int.intBits a ≤ m) (ha0 : 0 ≤ a) (h : ∀ (v : Int) (t' tk' : Nat), Hid (v = a / b) → Builtin.Int.intBits v ≤ m → Q (.int v t') { s with toks := tk' }) :
    wpAny (model prog w) A (binaryOp .FloorDiv (.int a t) (.int b u)) Q E s := by
  refine div_s hb (Nat.le_trans hbb hk) fun v t' tk' hv => h v t' tk' hv ?_
  have h1 := PySem.intBits_le_iff.mp ha
  refine PySem.intBits_le_iff.mpr ?_
  have h2 := hv.out
  have h3 : v ≤ a := by rw [h2]; exact Int.ediv_le_self _ ha0
  have h4 : 0 ≤ v := by rw [h2]; exact Int.ediv_nonneg ha0 (by omega)
  generalize 2 ^ m = M at *
  omega
end
end Mine
end
section
open PySem PySem.W PySem.Spec PySem.Calls PyProof.Rows
set_option maxRecDepth 100000
namespace Mine
theorem powMod_eq (b e m : Nat) : Builtin.powMod b e m = b ^ e % m := by
  have key : ∀ k, ((List.range k).reverse.foldl (fun p i => if e.testBit i then p * p % m * b % m else p * p % m) (b ^ (e >>> k) % m)) = b ^ e % m := by
    intro k
    induction k with
    | zero => simp
    | succ k ih =>
      rw [List.range_succ, List.reverse_append, List.reverse_singleton, List.foldl_append, List.foldl_cons, List.foldl_nil]
      have e1 : e >>> k = 2 * (e >>> (k + 1)) + (if e.testBit k then 1 else 0) := by
        rw [Nat.shiftRight_succ]
        have h := Nat.mod_two_eq_one_iff_testBit_zero (x := e >>> k)
        rw [Nat.testBit_shiftRight, Nat.add_zero] at h
        split
        · rename_i hb
          have := h.mpr hb
          omega
        · rename_i hb
          have : ¬ (e >>> k) % 2 = 1 := fun q => hb (h.mp q)
          omega
      have e2 : (if e.testBit k = true then (b ^ (e >>> (k + 1)) % m) * (b ^ (e >>> (k + 1)) % m) % m * b % m else (b ^ (e >>> (k + 1)) % m) * (b ^ (e >>> (k + 1)) % m) % m) = b ^ (e >>> k) % m := by
        rw [← Nat.mul_mod, ← Nat.pow_add]
        split
        · rename_i hb
          rw [if_pos hb] at e1
          rw [Nat.mod_mul_mod, ← Nat.pow_succ, e1]
          congr 2
          omega
        · rename_i hb
          rw [if_neg hb] at e1
          rw [e1]
          congr 2
          omega
      rw [e2, ih]
  unfold Builtin.powMod
  have h0 : e >>> (Builtin.Int.intBits (e : Int)) = 0 := by
    rw [Nat.shiftRight_eq_div_pow]
    refine Nat.div_eq_of_lt ?_
    have := PySem.intBits_le_iff.mp (Nat.le_refl (Builtin.Int.intBits (e : Int)))
    simpa using this
  have := key (Builtin.Int.intBits (e : Int))
  rw [h0, Nat.pow_zero] at this
  exact this
end Mine
namespace Mine
theorem kind_pow : builtinKind "pow" = none := by decide +kernel
theorem plain_pow : plainId "pow" = true := by decide +kernel
theorem entry_pow : entryFor table "pow" = some Builtin.«pow» := entryFor_of_fast (by kernel_rfl)
theorem args_pow3 (a b c : Value) : argsOk "pow" ⟨[a, b, c], []⟩ := by unfold argsOk; kernel_rfl
theorem args_int_pow3 (a b c : Value) : argsOk "int.__pow__" ⟨[a, b, c], []⟩ := by unfold argsOk; kernel_rfl
section
variable {prog : Program} {w : World} {A : Around} {E : Value → Shared → Prop} {s : Shared} {a n m : Int} {t u v : Tok} {Q : Value → Shared → Prop}
theorem call_int_pow3 (hn : 0 ≤ n) (hm : 1 < m) (h : Q (.int (powm a n m) s.toks) { s with toks := s.toks + 1 }) :
    wpAny (model prog w) A (call (.builtin "int.__pow__") [.int a t, .int n u, .int m v]) (fun v s' => v ≠ .notImplemented ∧ Q v s') E s := by
  refine wpAny_call_entry slot_int_pow (typeIs_int s a t) entry_int_pow ?_ (args_int_pow3 _ _ _)
  show wpAny _ _ (if (m == 0) = true then _ else _) _ _ s
  rw [if_neg (by simpa using (show m ≠ 0 by omega))]
  show wpAny _ _ (if (m.natAbs == 1) = true then _ else _) _ _ s
  rw [if_neg (by simpa using (show m.natAbs ≠ 1 by omega))]
  show wpAny _ _ (if n < 0 then _ else _) _ _ s
  rw [if_neg (by omega)]
  show wpAny _ _ (PySem.retInt (if (decide (m < 0) && _) = true then _ else ((Builtin.powMod (a % (m.natAbs : Int)).toNat n.natAbs m.natAbs : Nat) : Int))) _ _ s
  rw [if_neg (by simp; omega)]
  have e : ((Builtin.powMod (a % (m.natAbs : Int)).toNat n.natAbs m.natAbs : Nat) : Int) = powm a n m := by
    rw [powMod_eq]
    unfold powm
    have e1 : (m.natAbs : Int) = m := by omega
    have e2 : n.natAbs = n.toNat := by omega
    have e3 : m.natAbs = m.toNat := by omega
    rw [e1, e2, e3]
  rw [e]
  repeat (first | refine wpAny_pure ?_ | refine wpAny_mkInt ?_ | refine wpAny_rule ?_ | refine wpAny_bind ?_)
  exact ⟨_, rfl, by simp, h⟩
end
end Mine
end
section
open PySem PySem.W PySem.Spec PySem.Calls PyProof.Rows
set_option maxRecDepth 100000
namespace Mine
section
variable {prog : Program} {w : World} {A : Around} {E : Value → Shared → Prop} {s : Shared} {a n m : Int} {t u v : Tok} {Q : Value → Shared → Prop}
theorem call_pow3 (hn : 0 ≤ n) (hm : 1 < m) (h : ∀ (t' tk' : Nat), Q (.int (powm a n m) t') { s with toks := tk' }) :
    wpAny (model prog w) A (call (.builtin "pow") [.int a t, .int n u, .int m v]) Q E s := by
  refine call_function_entry kind_pow plain_pow entry_pow (args_pow3 _ _ _) ?_
  unfold Builtin.«pow»
  refine wpAny_bind (m := Builtin.Builtins.bindParams "pow" ["base", "exp", "mod"] 2 _) (wpAny_pure ?_)
  refine wpAny_bind (m := rule "pow.mod") (wpAny_rule ?_)
  refine wpAny_bind (m := typeOf (.int a t)) (wpAny_pure ?_)
  have f3 := (slot_int_pow).lookup
  have f4 := (slot_int_pow).bind (.int a t)
  have hc : wpAny (model prog w) A.in1 (callSpecial? (.int a t) "__pow__" [.int n u, .int m v]) (fun r s' => ∃ x, r = some x ∧ x ≠ .notImplemented ∧ Q x s') E s := by
    unfold callSpecial?
    have hs : specialOf (.int a t) "__pow__" = pure (some (.builtin "int.__pow__")) := f3
    rw [hs]
    refine wpAny_bind (wpAny_pure ?_)
    refine wpAny_holding ?_
    have f5 : bindSpecial (.builtin "int.__pow__") (.int a t) = pure (.builtin "int.__pow__", [.int a t]) := f4
    rw [f5]
    refine wpAny_bind (wpAny_pure ?_)
    refine wpAny_bind (wpAny_mono (call_int_pow3 hn hm (h _ _)) (fun v s' h' => wpAny_pure ⟨v, rfl, h'.1, h'.2⟩) fun _ _ x => x)
  have f6 : typeLookup (.type "int") "__pow__" = pure (some (.builtin "int.__pow__")) := f3
  show wpAny _ _ (typeLookup (.type "int") "__pow__" >>= _) _ _ s
  rw [f6]
  refine wpAny_bind (wpAny_pure ?_)
  dsimp only
  refine wpAny_bind (wpAny_mono hc (fun r s' hr => ?_) fun _ _ x => x)
  obtain ⟨x, rfl, hx, hq⟩ := hr
  dsimp only
  rw [if_pos (by simpa using hx)]
  exact wpAny_pure ⟨_, rfl, hq⟩
theorem powm_nonneg (a n m : Int) : 0 ≤ powm a n m := by unfold powm; omega
theorem powm_lt {a n m : Int} (hm : 1 < m) : powm a n m < m := by
  unfold powm
  have : (a % m).toNat ^ n.toNat % m.toNat < m.toNat := Nat.mod_lt _ (by omega)
  omega
theorem powm_bits {a n m : Int} {k : Nat} (hm : 1 < m) (hb : Builtin.Int.intBits m ≤ k) : Builtin.Int.intBits (powm a n m) ≤ k := by
  have h1 := PySem.intBits_le_iff.mp hb
  refine PySem.intBits_le_iff.mpr ?_
  have h2 := powm_nonneg a n m
  have h3 := powm_lt (a := a) (n := n) hm
  generalize 2 ^ k = M at *
  omega
theorem call_pow3_h (hn : 0 ≤ n) (hm : 1 < m) (hb : Builtin.Int.intBits m ≤ 256) (h : ∀ (x : Int) (t' tk' : Nat), Hid (x = powm a n m) → Builtin.Int.intBits x ≤ 300 → Q (.int x t') { s with toks := tk' }) :
    wpAny (model prog w) A (call (.builtin "pow") [.int a t, .int n u, .int m v]) Q E s :=
  call_pow3 hn hm fun t' tk' => h _ t' tk' ⟨rfl⟩ (Nat.le_trans (powm_bits hm hb) (by decide))
theorem call_pow3_P (hn : 0 ≤ n) (h : ∀ (x : Int) (t' tk' : Nat), Hid (x = powm a n 115792089237316195423570985008687907853269984665640564039457584007908834671663) → Builtin.Int.intBits x ≤ 300 → Small x → Q (.int x t') { s with toks := tk' }) :
    wpAny (model prog w) A (call (.builtin "pow") [.int a t, .int n u, .int 115792089237316195423570985008687907853269984665640564039457584007908834671663 v]) Q E s :=
  call_pow3_h hn (by decide) bits_P fun x t' tk' hx hb => h x t' tk' hx hb (by rw [hx.out]; exact ⟨powm_nonneg _ _ _, Int.le_of_lt (powm_lt (by decide))⟩)
end
end Mine
end
section
open PySem PySem.W PySem.Spec PySem.Calls PyProof.Rows
set_option maxRecDepth 100000
namespace Mine
def isIdF (p : Jac) : Bool := decide (p = (0, 0, 0)) || decide (p = (0, 0, 1))
theorem in_ids {w : World} {A : Around} {E : Value → Shared → Prop} {s : Shared} {Q : Value → Shared → Prop} {p : Addr} {x y z : Int} {tx ty tz : Tok} {c : Nat}
    (X : (hd.heap_39 w.params).In s.heap) (hp : s.heap.get? p = some (tup3 x y z tx ty tz c)) (hu : A.units + 64 < cLine) (h : Q (.bool (isIdF (x, y, z))) s) :
    wpAny (model PySem.Challenge.rw_vj0008_01.row.prog w) A (compareOp .In (.ref p) (.ref 31)) Q E s := by
  have h29 : s.heap.get? 29 = some _ := X 29 _ rfl
  have h30 : s.heap.get? 30 = some _ := X 30 _ rfl
  have h31 : s.heap.get? 31 = some _ := X 31 _ rfl
  have r29 : Reads s.heap (.ref 29) (.tuple [.int 0, .int 0, .int 0]) _ := .tuple h29 rfl rfl (.cons (.int _ _) (.cons (.int _ _) (.cons (.int _ _) .nil)))
  have r30 : Reads s.heap (.ref 30) (.tuple [.int 0, .int 0, .int 1]) _ := .tuple h30 rfl rfl (.cons (.int _ _) (.cons (.int _ _) (.cons (.int _ _) .nil)))
  have r31 : Reads s.heap (.ref 31) (.tuple [.tuple [.int 0, .int 0, .int 0], .tuple [.int 0, .int 0, .int 1]]) _ := .tuple h31 rfl rfl (.cons r29 (.cons r30 .nil))
  have rp : Reads s.heap (.ref p) (.tuple [.int x, .int y, .int z]) _ := .tuple hp rfl rfl (.cons (.int _ _) (.cons (.int _ _) (.cons (.int _ _) .nil)))
  refine SeqAt.in_tuple_reads r31 rp (by decide +kernel) (by rfl) ?_ ?_
  · have : PyData.depthAll [PyData.tuple [.int 0, .int 0, .int 0], PyData.tuple [.int 0, .int 0, .int 1]] ≤ 10 := by decide +kernel
    omega
  · have e : ([PyData.tuple [.int 0, .int 0, .int 0], PyData.tuple [.int 0, .int 0, .int 1]].any fun y_1 => PyData.eqv y_1 (.tuple [.int x, .int y, .int z])) = isIdF (x, y, z) := by
      simp [isIdF, PyData.eqv, PyData.eqvAll]
      rw [Bool.eq_iff_iff]
      simp
      grind
    rw [e]; exact h
end Mine
end
section
open PySem PySem.W PySem.Spec PySem.Calls PyProof.Rows
namespace Mine
theorem sum_small {a b : Option Aff} (ha : SmallO a) (hb : SmallO b) : SmallO (lsF a b) := by
  intro p hp
  cases a with
  | none => exact hb p (by simpa [lsF] using hp)
  | some a =>
    cases b with
    | none => exact ha p (by simpa [lsF] using hp)
    | some b =>
      simp only [lsF] at hp
      split at hp
      · split at hp
        · cases hp
        · cases hp; exact ⟨small_mod _, small_mod _⟩
      · cases hp; exact ⟨small_mod _, small_mod _⟩
theorem small_none : SmallO none := fun _ h => nomatch h
theorem times_small (n : Nat) : ∀ {f p : Option Aff}, SmallO f → SmallO p → SmallO (ltF f p n) := by
  induction n using Nat.strongRecOn with
  | _ n ih =>
    intro f p hf hp
    rw [ltF]
    split
    · exact hf
    · refine ih (n / 2) (by omega) ?_ (sum_small hp hp)
      split
      · exact sum_small hf hp
      · exact hf
abbrev TimesSt := Value × Value × List (Addr × Obj) × Int × Tok
def TimesLed (c : TimesSt) : List (Addr × Obj) := c.2.2.1
def TimesPs (c : TimesSt) : List (Str × Value) := [(Str.ofString "found", c.1), (Str.ofString "point", c.2.1), (Str.ofString "many", .int c.2.2.2.1 c.2.2.2.2)]
structure TimesFacts (news : List (Addr × Obj)) (val : Option Aff) (c : TimesSt) : Prop where
  sub : ∀ p ∈ news, p ∈ c.2.2.1
  pos : 0 ≤ c.2.2.2.1
  ex : ∃ f p, OptAt c.2.2.1 c.1 f ∧ OptAt c.2.2.1 c.2.1 p ∧ SmallO f ∧ SmallO p ∧ ltF f p c.2.2.2.1.toNat = val
theorem times_end {f p : Option Aff} {k : Int} {val : Option Aff} (h : ltF f p k.toNat = val) (hk : ¬ 0 < k) : f = val := by
  rw [ltF, if_pos (by omega)] at h
  exact h
theorem times_odd {f p : Option Aff} {k v : Int} {val : Option Aff} (h : ltF f p k.toNat = val) (hk : 0 < k) {b : Int} (hb : b = k % 2) (hb1 : b = 1) (hv : v = k / 2) : ltF (lsF f p) (lsF p p) v.toNat = val := by
  rw [ltF, if_neg (by omega), if_pos (by omega)] at h
  rw [← h, hv]
  congr 1
  omega
theorem times_even {f p : Option Aff} {k v : Int} {val : Option Aff} (h : ltF f p k.toNat = val) (hk : 0 < k) {b : Int} (hb : b = k % 2) (hb1 : b ≠ 1) (hv : v = k / 2) : ltF f (lsF p p) v.toNat = val := by
  rw [ltF, if_neg (by omega), if_neg (by omega)] at h
  rw [← h, hv]
  congr 1
  omega
end Mine
end
section
open PySem PySem.W PySem.Spec PySem.Calls PyProof.Rows
set_option maxRecDepth 100000
namespace Mine
open PySem.Builtin.Int (intBits)
theorem beL_length : ∀ k n, (beL k n).length = k
  | 0, _ => rfl
  | k + 1, n => by rw [beL, List.length_append, beL_length k]; rfl
theorem u8_mod (n : Nat) : ((n % 256).toUInt8).toNat = n % 256 := by
  show (UInt8.ofNat (n % 256)).toNat = n % 256
  rw [UInt8.toNat_ofNat']
  omega
theorem beL_ints : ∀ k (n : Nat), (beL k n).map (fun c => ((c.toNat : Nat) : Int)) = (KTBy.little k (n : Int)).reverse
  | 0, _ => rfl
  | k + 1, n => by
    rw [beL, List.map_append, beL_ints k, KTBy.little, List.reverse_cons, List.map_cons, List.map_nil, u8_mod]
    rfl
theorem ints_inj : ∀ {a b : List UInt8}, a.map (fun c => ((c.toNat : Nat) : Int)) = b.map (fun c => ((c.toNat : Nat) : Int)) → a = b
  | [], [], _ => rfl
  | [], _ :: _, h => by cases h
  | _ :: _, [], h => by cases h
  | x :: a, y :: b, h => by
    rw [List.map_cons, List.map_cons, List.cons.injEq] at h
    have : x = y := UInt8.toNat_inj.mp (Int.ofNat.inj h.1)
    rw [this, ints_inj h.2]
theorem low_be {x : Int} {k : Nat} (h0 : 0 ≤ x) (h1 : x < 256 ^ k) : (KTBy.low x k).reverse = beL k x.toNat := by
  apply ints_inj
  rw [List.map_reverse, KTBy.low_ints h0 h1, ← KTBy.little_eq, beL_ints, Int.toNat_of_nonneg h0]
section
variable {prog : Program} {w : World} {A : Around} {E : Value → Shared → Prop} {s : Shared} {x k : Int} {t u v : Tok} {Q : Value → Shared → Prop}
theorem to_bytes_r (hk0 : 0 ≤ k) (hk : k ≤ 1000) (h0 : 0 ≤ x) (h1 : x < 256 ^ k.toNat) (h : ∀ (t' k' : Nat), Q (.bytes (beL k.toNat x.toNat).toArray t') { s with toks := k' }) :
    wpAny (model prog w) A (call (.builtin "int.to_bytes") [.int x t, .int k u, .str (PySem.Str.ofString "big") v]) Q E s := by
  refine wpAny_call_entry KTBy.slot (typeIs_int s x t) KTBy.entry ?_ (KTBy.args _ _ _)
  have hb : intBits x ≤ 8 * k.toNat := KTBy.bits_le rfl h0 h1
  show wpAny _ _ (Builtin.Int.intOfSelf (.int x t) >>= fun y => _) _ _ s
  refine wpAny_bind (wpAny_of_eq (a := x) rfl ?_)
  refine wpAny_bind (m := Builtin.Int.intBindNamed "to_bytes" ["length", "byteorder", "signed"] 0 2 [.int k u, .str (PySem.Str.ofString "big") v] []) (wpAny_of_eq (a := [some (.int k u), some (.str (PySem.Str.ofString "big") v), none]) (by kernel_rfl) ?_)
  show wpAny _ _ (Builtin.Int.intIndex "int.to_bytes" (.int k u) >>= fun n => _) _ _ s
  refine wpAny_bind (wpAny_of_eq (a := k) rfl ?_)
  refine KTBy.if_not (by show (decide (k < -(2 ^ 63 : Int)) || decide (k ≥ 2 ^ 63)) = false; rw [decide_eq_false (show ¬ (k < -(2 ^ 63 : Int)) by omega), decide_eq_false (show ¬ (k ≥ 2 ^ 63) by omega)]; rfl) ?_
  refine wpAny_bind (wpAny_of_eq (a := PySem.Str.ofString "big") (by kernel_rfl) ?_)
  refine wpAny_bind (wpAny_of_eq (a := false) rfl ?_)
  refine wpAny_bind (wpAny_of_eq (a := false) (by kernel_rfl) ?_)
  refine wpAny_ite_false (decide_eq_false (show ¬ (k < 0) by omega)) ?_
  refine wpAny_ite_false (decide_eq_false (show ¬ (k > 2 ^ 63 - 1 - 33) by omega)) ?_
  refine wpAny_ite_false (decide_eq_false (show ¬ (k > (sizeLine : Int)) by rw [sizeLine_eq]; omega)) ?_
  refine KTBy.if_not (by show (decide (x < 0) && !false) = false; rw [decide_eq_false (show ¬ x < 0 by omega)]; rfl) ?_
  refine KTBy.if_not (by show (_ && decide ((intBits x : Int) > 8 * k)) = false; rw [decide_eq_false (show ¬ ((intBits x : Int) > 8 * k) by omega), Bool.and_false]) ?_
  refine wpAny_bind (wpAny_mkBytes (wpAny_pure ⟨_, rfl, ?_⟩) (by show (List.reverse (KTBy.low x k.toNat)).length ≤ sizeLine; rw [List.length_reverse, KTBy.low_length, sizeLine_eq]; omega))
  show Q (.bytes ((KTBy.low x k.toNat).reverse).toArray _) _
  rw [low_be h0 h1]
  exact h _ _
theorem grown_r {n : Nat} (hn : n < 2 ^ 8000) (h : Q (.int (n : Int) s.toks) { s with toks := s.toks + 1 }) : wpAny (model prog w) A (mkIntGrown (n : Int)) Q E s := by
  unfold mkIntGrown
  have hl : ¬ ((n : Int).natAbs.log2 ≥ bitsLine) := by
    rw [Int.natAbs_natCast]
    have hb : bitsLine = 134217728 := bitsLine_eq
    by_cases hz : n = 0
    · subst hz
      rw [hb]
      decide
    · have h1 := (Nat.log2_lt hz).mpr hn
      omega
  rw [if_neg hl]
  exact wpAny_mkInt h
theorem from_tree {b : Array UInt8} {P : Fin → Shared → Prop} (hl : b.size ≤ 1000) (h : P (.done (.ret (.int (fromBe b) s.toks))) { s with toks := s.toks + 1 }) :
    wpAny (model prog w) A (Builtin.«int.from_bytes» ⟨[.type "int", .bytes b t, .str (PySem.Str.ofString "big") u], []⟩) P E s := by
  unfold fromBe at h
  have hn : b.toList.foldl (fun (acc : Nat) (b : UInt8) => acc * 256 + b.toNat) 0 < 2 ^ 8000 := by
    have h1 := KFB.fold_lt b.toList 0
    rw [Nat.zero_add, Nat.one_mul, Array.length_toList] at h1
    have h2 : 256 ^ b.size ≤ 256 ^ 1000 := Nat.pow_le_pow_right (by decide) hl
    have h3 : (256 : Nat) ^ 1000 = 2 ^ 8000 := by rw [show (256 : Nat) = 2 ^ 8 by decide, ← Nat.pow_mul]
    rw [h3] at h2
    exact Nat.lt_of_lt_of_le h1 h2
  unfold Builtin.«int.from_bytes»
  refine wpAny_bind (wpAny_of_eq (a := true) KFB.type_int ?_)
  refine KFB.if_not rfl ?_
  refine wpAny_bind (wpAny_of_eq (a := true) F.conv_sub_int ?_)
  refine KFB.if_not rfl ?_
  refine wpAny_bind (wpAny_of_eq (a := [some (.bytes b t), some (.str (PySem.Str.ofString "big") u), none]) (by kernel_rfl) ?_)
  refine wpAny_bind (wpAny_of_eq (a := PySem.Str.ofString "big") (by kernel_rfl) ?_)
  refine wpAny_bind (wpAny_of_eq (a := false) rfl ?_)
  refine wpAny_bind (wpAny_of_eq (a := false) (by kernel_rfl) ?_)
  refine wpAny_bind (wpAny_of_eq (a := b) rfl ?_)
  show wpAny _ _ (mkIntGrown (b.toList.foldl (fun (acc : Int) (b : UInt8) => acc * 256 + (b.toNat : Int)) ((0 : Nat) : Int)) >>= fun v => _) _ _ _
  rw [KFB.foldI_eq]
  refine wpAny_bind (grown_r hn ?_)
  refine KFB.if_so (by decide +kernel) ?_
  exact wpAny_bind (wpAny_pure (wpAny_pure h))
theorem from_bytes_r {h₀ : Heap} {L : Addr} {news : List (Addr × Obj)} {x : Addr} {b : Array UInt8} (N : News h₀ L s.heap news) (hm : (x, KFB.bound) ∈ news) (hl : b.size ≤ 1000)
    (h : ∀ t' k', Q (.int (fromBe b) t') { s with toks := k' }) : wpAny (model prog w) A (call (.ref x) [.bytes b t, .str (PySem.Str.ofString "big") u]) Q E s :=
  KFB.call_of (KFB.at_of N hm) (fun z => from_tree hl z) (h _ _)
end
end Mine
end
section
open PySem PySem.W
namespace Mine
open PySem.Builtin.Int (intBits)
def ibK (x : Int) : Int := if (((intBits x : Nat) : Int) + 7).fdiv 8 = 0 then 1 else (((intBits x : Nat) : Int) + 7).fdiv 8
@[irreducible] def ibF (x : Int) : Array UInt8 := (beL (ibK x).toNat x.toNat).toArray
theorem ib_div (x : Int) : (((intBits x : Nat) : Int) + 7).fdiv 8 = (((intBits x + 7) / 8 : Nat) : Int) := by
  rw [Int.fdiv_eq_ediv_of_nonneg _ (by decide)]
  omega
theorem ib_pos {x : Int} (h0 : 0 ≤ x) : x < 256 ^ ((((intBits x : Nat) : Int) + 7).fdiv 8).toNat := by
  rw [ib_div, Int.toNat_natCast]
  have h := PySem.intBits_le_iff.mp (Nat.le_refl (intBits x))
  have h2 : 2 ^ intBits x ≤ 256 ^ ((intBits x + 7) / 8) := by
    rw [show (256 : Nat) = 2 ^ 8 by decide, ← Nat.pow_mul]
    exact Nat.pow_le_pow_right (by decide) (by omega)
  have h3 : x.natAbs < 256 ^ ((intBits x + 7) / 8) := Nat.lt_of_lt_of_le h h2
  rw [KTBy.p256]
  omega
theorem ib_zero {x : Int} (h0 : 0 ≤ x) (h : (((intBits x : Nat) : Int) + 7).fdiv 8 = 0) : x < 256 ^ (1 : Int).toNat := by
  have h1 := ib_pos h0
  rw [h] at h1
  have h2 : x < 1 := by simpa using h1
  have : (256 : Int) ^ (1 : Int).toNat = 256 := by decide
  omega
theorem ib_bound {x : Int} (hb : intBits x ≤ 300) : (((intBits x : Nat) : Int) + 7).fdiv 8 ≤ 1000 := by
  rw [ib_div]; omega
theorem ib_nonneg (x : Int) : 0 ≤ (((intBits x : Nat) : Int) + 7).fdiv 8 := by
  rw [ib_div]; omega
theorem beL_zero : ∀ k, beL k 0 = List.replicate k 0
  | 0 => rfl
  | k + 1 => by
    rw [beL, beL_zero k, List.replicate_succ']
    rfl
theorem beL_pad : ∀ (k m n : Nat), n < 256 ^ k → beL (m + k) n = List.replicate m 0 ++ beL k n
  | 0, m, n, h => by
    have : n = 0 := by simpa using h
    subst this
    rw [Nat.add_zero, beL_zero, beL, List.append_nil]
  | k + 1, m, n, h => by
    have h2 : n / 256 < 256 ^ k := by
      rw [Nat.pow_succ] at h
      exact Nat.div_lt_of_lt_mul (by rw [Nat.mul_comm]; exact h)
    show beL ((m + k) + 1) n = _
    rw [beL, beL_pad k m _ h2, beL, List.append_assoc]
theorem pad_ib {x : Int} (h0 : 0 ≤ x) (h1 : x < 2 ^ 256) : Array.replicate (32 - (ibF x).size) 0 ++ ibF x = octF x := by
  have hb : intBits x ≤ 256 := PySem.intBits_le_iff.mpr (by omega)
  have hk : (ibK x).toNat ≤ 32 := by
    unfold ibK
    split
    · decide
    · rw [ib_div]; omega
  have hx : x < 256 ^ (ibK x).toNat := by
    unfold ibK
    split
    · rename_i h; exact ib_zero h0 h
    · exact ib_pos h0
  have hn : x.toNat < 256 ^ (ibK x).toNat := by
    rw [KTBy.p256] at hx
    omega
  have hs : (ibF x).size = (ibK x).toNat := by unfold ibF; rw [List.size_toArray, beL_length]
  rw [hs]
  unfold octF
  have e : 32 = (32 - (ibK x).toNat) + (ibK x).toNat := by omega
  rw [show beL 32 x.toNat = List.replicate (32 - (ibK x).toNat) 0 ++ beL (ibK x).toNat x.toNat by rw [← beL_pad _ _ _ hn, ← e]]
  unfold ibF
  apply Array.ext'
  simp
theorem ib_size {x : Int} (h0 : 0 ≤ x) (h1 : x < 2 ^ 256) : (ibF x).size ≤ 32 := by
  have hb : intBits x ≤ 256 := PySem.intBits_le_iff.mpr (by omega)
  have hs : (ibF x).size = (ibK x).toNat := by unfold ibF; rw [List.size_toArray, beL_length]
  rw [hs]
  unfold ibK
  split
  · decide
  · rw [ib_div]; omega
theorem oct_size (x : Int) : (octF x).size = 32 := by unfold octF; rw [List.size_toArray, beL_length]
theorem fold_beL : ∀ (k n a : Nat), n < 256 ^ k → (beL k n).foldl (fun (acc : Nat) (c : UInt8) => acc * 256 + c.toNat) a = a * 256 ^ k + n
  | 0, n, a, h => by
    have : n = 0 := by simpa using h
    subst this
    simp [beL]
  | k + 1, n, a, h => by
    have h2 : n / 256 < 256 ^ k := by
      rw [Nat.pow_succ] at h
      exact Nat.div_lt_of_lt_mul (by rw [Nat.mul_comm]; exact h)
    rw [beL, List.foldl_append, fold_beL k _ a h2, List.foldl_cons, List.foldl_nil, u8_mod, Nat.pow_succ]
    have := Nat.div_add_mod n 256
    rw [Nat.add_mul, Nat.mul_assoc]
    omega
theorem from_oct {x : Int} (h0 : 0 ≤ x) (h1 : x < 2 ^ 256) : fromBe (octF x) = x := by
  unfold fromBe octF
  have e : (256 : Nat) ^ 32 = 2 ^ 256 := by decide
  have hn : x.toNat < 256 ^ 32 := by rw [e]; omega
  rw [show (beL 32 x.toNat).toArray.toList = beL 32 x.toNat from rfl, fold_beL 32 _ 0 hn]
  omega
theorem key_left (p : Aff) : (keyF p).extract 0 32 = octF p.1 := by
  unfold keyF
  rw [Array.extract_append, oct_size]
  have := oct_size p.1
  simp [Array.extract_eq_self_of_le, this]
theorem key_right (p : Aff) : (keyF p).extract 32 64 = octF p.2 := by
  unfold keyF
  rw [Array.extract_append, oct_size]
  have := oct_size p.1
  have := oct_size p.2
  simp [Array.extract_eq_self_of_le, *]
theorem key_size (p : Aff) : (keyF p).size = 64 := by
  unfold keyF
  rw [Array.size_append, oct_size, oct_size]
end Mine
end
section
open PySem PySem.W PySem.Spec PySem.Calls PyProof.Rows
set_option maxRecDepth 100000
namespace Mine
theorem slot_rjust : Slot "bytes" "rjust" "bytes.rjust" :=
  .of (owner := "bytes") (n := "rjust") (by rw [typeLookup_type, builtinLookup_eq_fast]; kernel_rfl) (by decide +kernel) (by decide +kernel) (by decide +kernel)
    (by first | exact .inl (by decide +kernel) | exact .inr (by decide +kernel)) (by rw [isSubtype_type]; kernel_rfl)
theorem type_rjust : typeOf (.builtin "bytes.rjust") = pure (.type "method_descriptor") := by show builtinType _ = _; rw [builtinType_eq_fast]; kernel_rfl
theorem entry_rjust : entryFor table "bytes.rjust" = some Builtin.«bytes.rjust» := entryFor_of_fast (by kernel_rfl)
theorem args_rjust (a b c : Value) : argsOk "bytes.rjust" ⟨[a, b, c], []⟩ := by unfold argsOk; kernel_rfl
theorem slot_join : Slot "bytes" "join" "bytes.join" :=
  .of (owner := "bytes") (n := "join") (by rw [typeLookup_type, builtinLookup_eq_fast]; kernel_rfl) (by decide +kernel) (by decide +kernel) (by decide +kernel)
    (by first | exact .inl (by decide +kernel) | exact .inr (by decide +kernel)) (by rw [isSubtype_type]; kernel_rfl)
theorem type_join : typeOf (.builtin "bytes.join") = pure (.type "method_descriptor") := by show builtinType _ = _; rw [builtinType_eq_fast]; kernel_rfl
theorem entry_join : entryFor table "bytes.join" = some Builtin.«bytes.join» := entryFor_of_fast (by kernel_rfl)
theorem args_join (a b : Value) : argsOk "bytes.join" ⟨[a, b], []⟩ := by unfold argsOk; kernel_rfl
section
variable {prog : Program} {w : World} {A : Around} {E : Value → Shared → Prop} {s : Shared} {b : Array UInt8} {t u v : Tok}
theorem meth_rjust {M : Model} {pl : Sem Bool} {Q : Value × List Value → Shared → Prop} (h : Q (.builtin "bytes.rjust", [.bytes b t]) s) : wpAny M A (getMethod (.bytes b t) (PySem.Str.ofString "rjust") pl) Q E s :=
  KBd.method_of (.bytes b t) (typeIs_bytes _ _ _) slot_rjust type_rjust KBd.noRef h
theorem meth_join {M : Model} {pl : Sem Bool} {Q : Value × List Value → Shared → Prop} (h : Q (.builtin "bytes.join", [.bytes b t]) s) : wpAny M A (getMethod (.bytes b t) (PySem.Str.ofString "join") pl) Q E s :=
  KBd.method_of (.bytes b t) (typeIs_bytes _ _ _) slot_join type_join KBd.noRef h
theorem rjust_r {Q : Value → Shared → Prop} (hb : b.size ≤ 32) (h : ∀ (t' k' : Nat), Q (.bytes (Array.replicate (32 - b.size) 0 ++ b) t') { s with toks := k' }) :
    wpAny (model prog w) A (call (.builtin "bytes.rjust") [.bytes b t, .int 32 u, .bytes #[0] v]) Q E s := by
  refine wpAny_call_entry slot_rjust (typeIs_bytes _ _ _) entry_rjust ?_ (args_rjust _ _ _)
  show wpAny _ _ (Builtin.Bytes.padM .bytes "rjust" _ _) _ _ _
  unfold Builtin.Bytes.padM
  refine wpAny_bind (wpAny_of_eq (a := (.bytes b t, [.int 32 u, .bytes #[0] v])) (by first | rfl | kernel_rfl) ?_)
  refine wpAny_bind (wpAny_of_eq (a := (32 : Int)) (by first | rfl | kernel_rfl) ?_)
  refine wpAny_bind (wpAny_of_eq (a := some #[0]) (by first | rfl | kernel_rfl) ?_)
  dsimp only
  refine wpAny_bind (wpAny_pure ?_)
  refine wpAny_bind (wpAny_of_eq (a := b) (by first | rfl | kernel_rfl) ?_)
  by_cases hc : (32 : Int) ≤ b.size
  · refine wpAny_ite_true (decide_eq_true hc) ?_
    have e : b.size = 32 := by omega
    refine wpAny_bind (wpAny_rule ?_)
    refine wpAny_bind (wpAny_of_eq (a := .bytes b t) (by first | rfl | kernel_rfl) ?_)
    refine wpAny_bind (wpAny_pure (wpAny_pure ⟨_, rfl, ?_⟩))
    have := h t s.toks
    rw [e] at this
    simpa using this
  · refine wpAny_ite_false (decide_eq_false hc) ?_
    refine wpAny_ite_false (by decide +kernel) ?_
    refine wpAny_bind (wpAny_mkBytes (wpAny_pure ⟨_, rfl, ?_⟩) (by simp [sizeLine_eq]; omega))
    have h9 := h s.toks (s.toks + 1)
    have e : Array.replicate (32 - b.size) (0 : UInt8) ++ b = Array.replicate ((32 : Int).toNat - b.size) 0 ++ b ++ Array.replicate ((32 : Int).toNat - b.size - ((32 : Int).toNat - b.size)) 0 := by
      rw [Nat.sub_self]
      simp
    rw [e] at h9
    exact h9
end
end Mine
end
section
open PySem PySem.W PySem.Spec PySem.Calls PyProof.Rows
set_option maxRecDepth 100000
namespace Mine
theorem for2 {β : Type} (f : Nat → β → Sem (ForInStep β)) (b : β) : (forIn [:2] b f : Sem β) = (f 0 b >>= fun r => match r with | .done b => pure b | .yield b => f 1 b >>= fun r => match r with | .done b => pure b | .yield b => pure b) := by
  rw [Std.Legacy.Range.forIn_eq_forIn_range']
  show forIn [0, 1] b f = _
  rw [List.forIn_cons]
  congr 1
end Mine
end
section
open PySem PySem.W PySem.Spec PySem.Calls PyProof.Rows
set_option maxRecDepth 100000
namespace Mine
theorem take {id : String} {c : Array UInt8} {u : Tok} : Builtin.Bytes.takeBuffer? id (.bytes c u) 0 = pure (some (c, none)) := by
  unfold Builtin.Bytes.takeBuffer?
  rw [KBy.special_eq KBy.look_buffer, KBy.own_buffer]
  rw [show ((0 : Int) == Builtin.Bytes.fullReadOnly) = false by decide +kernel, KBy.buffer_eq]
  kernel_rfl
theorem takeQ {id : String} {c : Array UInt8} {u : Tok} : Builtin.Bytes.takeBufferQuiet? id (.bytes c u) 0 = pure (some (c, none)) := by
  unfold Builtin.Bytes.takeBufferQuiet?
  rw [take]
  rfl
section
variable {prog : Program} {w : World} {A : Around} {E : Value → Shared → Prop} {s : Shared} {b : Array UInt8} {t u v : Tok}
theorem join_r {Q : Value → Shared → Prop} {D : Addr} {c d : Array UInt8} {n : Nat} (hD : s.heap.get? D = some { cls := .type "tuple", data := .seq #[.bytes c u, .bytes d v] n }) (hc : c.size ≤ 1000) (hd : d.size ≤ 1000)
    (h : ∀ (t' k' : Nat), Q (.bytes (c ++ d) t') { s with toks := k' }) :
    wpAny (model prog w) A (call (.builtin "bytes.join") [.bytes #[] t, .ref D]) Q E s := by
  refine wpAny_call_entry slot_join (typeIs_bytes _ _ _) entry_join ?_ (args_join _ _)
  show wpAny _ _ (Builtin.Bytes.joinM .bytes _) _ _ _
  unfold Builtin.Bytes.joinM
  refine wpAny_bind (wpAny_of_eq (a := (.bytes #[] t, .ref D)) (by first | rfl | kernel_rfl) ?_)
  have hs : ∀ {α : Type} (k : Option (Array Value) → Sem α) (Q' : α → Shared → Prop) (E' : Value → Shared → Prop), wpAny (model prog w) A.in1 (k (some #[.bytes c u, .bytes d v])) Q' E' s → wpAny (model prog w) A.in1 (seqItems? (.ref D) >>= k) Q' E' s := by
    intro α k Q' E' hk
    refine wpAny_bind ?_
    show wpAny _ _ (load D >>= fun o => _) _ _ _
    refine wpAny_bind (wpAny_load hD ?_)
    exact wpAny_pure hk
  have hj : wpAny (model prog w) A.in1 (Builtin.Bytes.joinItems (.ref D)) (fun r s' => r = .ref D ∧ s' = s) (fun _ _ => False) s := by
    unfold Builtin.Bytes.joinItems
    have ht : wpAny (model prog w) A.in1 (typeOf (.ref D)) (fun r s' => r = .type "tuple" ∧ s' = s) (fun _ _ => False) s := by
      show wpAny _ _ (do return (← load D).cls) _ _ _
      exact wpAny_bind (wpAny_load hD (wpAny_pure ⟨rfl, rfl⟩))
    refine wpAny_bind (wpAny_mono ht (fun r s' hr => ?_) (fun _ _ x => x))
    obtain ⟨rfl, rfl⟩ := hr
    refine wpAny_ite_true (by decide) ?_
    exact wpAny_pure ⟨rfl, rfl⟩
  show wpAny _ _ (Builtin.Bytes.joinItems (.ref D) >>= _) _ _ _
  refine wpAny_bind (wpAny_mono hj (fun r s' hr => ?_) (fun _ _ x => x.elim))
  obtain ⟨rfl, rfl⟩ := hr
  refine hs _ _ _ ?_
  dsimp only
  refine wpAny_ite_true rfl ?_
  show wpAny _ _ (forIn [:2] ((#[], []) : Array (Array UInt8) × List (Value × Option Value)) _ >>= _) _ _ _
  rw [for2]
  refine wpAny_bind (wpAny_bind (hs _ _ _ ?_))
  dsimp only
  refine wpAny_ite_false (by rfl) ?_
  refine wpAny_bind (wpAny_holding ?_)
  show wpAny _ _ (Builtin.Bytes.takeBufferQuiet? _ (.bytes c u) 0) _ _ _
  rw [takeQ]
  refine wpAny_pure ?_
  dsimp only
  refine hs _ _ _ ?_
  dsimp only
  refine wpAny_ite_false (by rfl) ?_
  refine wpAny_pure ?_
  dsimp only
  refine wpAny_bind (hs _ _ _ ?_)
  dsimp only
  refine wpAny_ite_false (by rfl) ?_
  refine wpAny_bind (wpAny_holding ?_)
  show wpAny _ _ (Builtin.Bytes.takeBufferQuiet? _ (.bytes d v) 0) _ _ _
  rw [takeQ]
  refine wpAny_pure ?_
  dsimp only
  refine hs _ _ _ ?_
  dsimp only
  refine wpAny_ite_false (by rfl) ?_
  refine wpAny_pure ?_
  dsimp only
  refine wpAny_pure ?_
  refine wpAny_bind (wpAny_of_eq (a := (#[] : Array UInt8)) rfl ?_)
  have ej : Builtin.Bytes.joined #[] [c, d] = c ++ d := by
    simp [Builtin.Bytes.joined]
  have hl : Builtin.Bytes.tooLong (Array.foldl (fun (x1 : Nat) (x2 : Array UInt8) => x1 + x2.size) ((#[] : Array UInt8).size * (#[c, d].size - 1)) #[c, d]) = false := by
    refine KBy.tooLong_not ?_
    show 0 * _ + c.size + d.size ≤ _
    omega
  refine KTBy.if_not hl ?_
  refine wpAny_bind (m := mkBytes (Builtin.Bytes.joined #[] [c, d])) (wpAny_mkBytes ?_ (by rw [ej, Array.size_append, sizeLine_eq]; omega))
  refine wpAny_bind (wpAny_holding (wpAny_point ?_))
  have lg : ∀ (x : Value) (keep : List Value) (Q' : Unit → Shared → Prop) (E' : Value → Shared → Prop) (s' : Shared), Q' () s' → wpAny (model prog w) A.in1 (letGo [x] keep) Q' E' s' := by
    intro x keep Q' E' s' hq
    show wpAny _ _ (holding keep point >>= fun _ => pure ()) _ _ _
    exact wpAny_bind (wpAny_holding (wpAny_point (wpAny_pure hq)))
  have jl : ∀ (keep : List Value) (Q' : Unit → Shared → Prop) (E' : Value → Shared → Prop) (s' : Shared), Q' () s' → wpAny (model prog w) A.in1 (Builtin.Bytes.joinLetGo [(.bytes c u, none), (.bytes d v, none)] keep) Q' E' s' := by
    intro keep Q' E' s' hq
    show wpAny _ _ (letGo [.bytes c u] _ >>= fun _ => letGo [.bytes d v] _ >>= fun _ => pure ()) _ _ _
    exact wpAny_bind (lg _ _ _ _ _ (wpAny_bind (lg _ _ _ _ _ (wpAny_pure hq))))
  refine wpAny_bind (jl _ _ _ _ ?_)
  refine wpAny_pure ⟨_, rfl, ?_⟩
  rw [ej]
  exact h _ _
end
end Mine
end
section
open PySem PySem.W
namespace Mine
theorem fm_range (l : List UInt8) (k : Nat) : ∀ n, ((List.range n).map (k + ·)).filterMap (fun i => l[i]?) = (l.drop k).take n
  | 0 => by simp
  | n + 1 => by
    rw [List.range_succ, List.map_append, List.filterMap_append, fm_range l k n, List.take_add_one, List.getElem?_drop]
    congr 1
theorem sliceRange_nat (k n : Nat) : PySem.sliceRange (k : Int) ((k + n : Nat) : Int) 1 = (List.range n).map (k + ·) := by
  unfold PySem.sliceRange
  rw [if_pos (by decide)]
  dsimp only
  have e : (if (k : Int) < ((k + n : Nat) : Int) then (((k + n : Nat) : Int) - (k : Int) + 1 - 1) / 1 else 0).toNat = n := by
    split <;> omega
  rw [e]
  refine List.map_congr_left fun i _ => ?_
  omega
theorem sliced_eq (b : Array UInt8) (k n : Nat) : Builtin.Bytes.sliced b (k : Int) ((k + n : Nat) : Int) 1 = ((b.toList.drop k).take n).toArray := by
  unfold Builtin.Bytes.sliced
  rw [sliceRange_nat, ← fm_range]
  congr 2
  funext i
  exact (Array.getElem?_toList).symm
theorem oct_len (x : Int) : (octF x).toList.length = 32 := by rw [Array.length_toList, oct_size]
theorem bounds_left {n : Nat} (h : 32 ≤ n) : sliceBounds (some 0) (some 32) none n = (((0 : Nat) : Int), ((0 + 32 : Nat) : Int), 1) := by
  simp only [sliceBounds, Option.getD_none]
  refine Prod.ext ?_ (Prod.ext ?_ rfl)
  · simp; omega
  · simp; omega
theorem bounds_right {n : Nat} (h : n = 64) : sliceBounds (some 32) (some 64) none n = (((32 : Nat) : Int), ((32 + 32 : Nat) : Int), 1) := by
  subst h; decide
theorem bounds_tail {n : Nat} (h : n = 33) : sliceBounds (some 1) none none n = (((1 : Nat) : Int), ((1 + 32 : Nat) : Int), 1) := by
  subst h; decide
theorem pick_left (x y : Int) : KBy.picked (octF x ++ octF y) (some 0) (some 32) = octF x := by
  have hs : (octF x ++ octF y).size = 64 := by rw [Array.size_append, oct_size, oct_size]
  unfold KBy.picked
  rw [bounds_left (by rw [hs]; decide)]
  dsimp only
  rw [sliced_eq]
  apply Array.ext'
  have := oct_len x
  simp [this]
theorem pick_right (x y : Int) : KBy.picked (octF x ++ octF y) (some 32) (some 64) = octF y := by
  have hs : (octF x ++ octF y).size = 64 := by rw [Array.size_append, oct_size, oct_size]
  unfold KBy.picked
  rw [bounds_right hs]
  dsimp only
  rw [sliced_eq]
  apply Array.ext'
  have h1 := oct_len x
  have h2 := oct_len y
  rw [Array.toList_append, List.drop_append_of_le_length (by omega), List.drop_eq_nil_of_le (by omega), List.nil_append, List.take_of_length_le (by omega)]
theorem pick_tail (c : UInt8) (x : Int) : KBy.picked (#[c] ++ octF x) (some 1) none = octF x := by
  have hs : (#[c] ++ octF x).size = 33 := by rw [Array.size_append, oct_size]; rfl
  unfold KBy.picked
  rw [bounds_tail hs]
  dsimp only
  rw [sliced_eq]
  apply Array.ext'
  have h2 := oct_len x
  rw [Array.toList_append]
  simp
  exact List.take_of_length_le (by simp [oct_size])
theorem whole_left (x y : Int) : KBy.whole (octF x ++ octF y) (some 0) (some 32) = false := by
  have hs : (octF x ++ octF y).size = 64 := by rw [Array.size_append, oct_size, oct_size]
  unfold KBy.whole
  rw [hs]
  rfl
theorem whole_right (x y : Int) : KBy.whole (octF x ++ octF y) (some 32) (some 64) = false := by
  have hs : (octF x ++ octF y).size = 64 := by rw [Array.size_append, oct_size, oct_size]
  unfold KBy.whole
  rw [hs]
  rfl
theorem whole_tail (c : UInt8) (x : Int) : KBy.whole (#[c] ++ octF x) (some 1) none = false := by
  have hs : (#[c] ++ octF x).size = 33 := by rw [Array.size_append, oct_size]; rfl
  unfold KBy.whole
  rw [hs]
  rfl
theorem add_size2 (x y : Int) : (octF x).size + (octF y).size ≤ 16777216 := by rw [oct_size, oct_size]; decide
theorem add_size1 (c : UInt8) (y : Int) : #[c].size + (octF y).size ≤ 16777216 := by rw [oct_size]; show 1 + 32 ≤ _; decide
theorem pick_left_size (x y : Int) : (KBy.picked (octF x ++ octF y) (some 0) (some 32)).size ≤ 16777216 := by rw [pick_left, oct_size]; decide
theorem pick_right_size (x y : Int) : (KBy.picked (octF x ++ octF y) (some 32) (some 64)).size ≤ 16777216 := by rw [pick_right, oct_size]; decide
theorem pick_tail_size (c : UInt8) (x : Int) : (KBy.picked (#[c] ++ octF x) (some 1) none).size ≤ 16777216 := by rw [pick_tail, oct_size]; decide
open PySem.Calls PyProof.Rows
theorem short_len (c : UInt8) (x : Int) : (#[c] ++ octF x).size = 33 := by rw [Array.size_append, oct_size]; rfl
theorem short_list (c : UInt8) (x : Int) : #[c] ++ octF x = (c :: (octF x).toList).toArray := by
  apply Array.ext'
  simp
section
variable {prog : Program} {w : World} {A : Around} {E : Value → Shared → Prop} {s : Shared} {t u : Tok} {Q : Value → Shared → Prop} {value slice : PySem.Expr}
theorem len_short {c : UInt8} {x : Int} (h : ∀ t' k', Q (.int 33 t') { s with toks := k' }) : wpAny (model prog w) A (call (.builtin "len") [.bytes (#[c] ++ octF x) t]) Q E s := by
  refine len_bytes (by rw [short_len]; decide) ?_
  rw [short_len]
  exact h _ _
theorem item_short {c : UInt8} {x : Int} (h : ∀ t' k', Q (.int (c.toNat : Int) t') { s with toks := k' })
    (hs : ∀ b : Array UInt8, subscripted slice false (.bytes b t) (.int 0 u) = operate [.bytes b t, .int 0 u] (getItem (.bytes b t) (.int 0 u)) := by intro _; with_unfolding_all rfl)
    (ht : ∀ (b : Array UInt8) r, letTemporaryGo value (.bytes b t) r = pure () := by intro _ _; with_unfolding_all rfl) :
    wpAny (model prog w) A (subscriptTail value slice (.bytes (#[c] ++ octF x) t) (.int 0 u)) Q E s := by
  rw [short_list]
  have hl : (c :: (octF x).toList).length = 33 := by rw [List.length_cons, oct_len]
  refine KBy.item_N (x := c :: (octF x).toList) (by rw [hl]; decide) (by decide) (by rw [hl]; decide) ?_ (hs _) (ht _)
  exact h _ _
theorem bitAnd_one (y : Int) (h : 0 ≤ y) : Builtin.bitAnd y 1 = y % 2 := by
  unfold Builtin.bitAnd
  rw [decide_eq_true h]
  show ((y.toNat &&& (1 : Int).toNat : Nat) : Int) = y % 2
  rw [show (1 : Int).toNat = 1 from rfl, Nat.and_one_is_mod]
  omega
theorem and_one_h {y : Int} (hy : 0 ≤ y) (h : ∀ (v : Int) (t' k' : Nat), v = y % 2 → 0 ≤ v → v < 2 → Q (.int v t') { s with toks := k' }) : wpAny (model prog w) A (binaryOp .BitAnd (.int y t) (.int 1 u)) Q E s := by
  refine and_int ?_
  rw [bitAnd_one y hy]
  exact h _ _ _ rfl (by omega) (by omega)
end
end Mine
end
section
open PySem PySem.W PySem.Spec PySem.Calls PyProof.Rows
set_option maxRecDepth 100000
namespace Mine
theorem g_small : SmallO (some (gX, gY)) := by
  intro p hp
  cases hp
  exact ⟨⟨by decide, by decide⟩, ⟨by decide, by decide⟩⟩
theorem K129 {w : World} {h : Heap} (X : (hd.heap_39 w.params).In h) : ∃ tx ty, h.get? 129 = some (tup2 gX gY tx ty 0) := ⟨_, _, X 129 _ rfl⟩
/-- a tuple of two ints in the ledger, or the base point's -/
def PtAt (news : List (Addr × Obj)) (D : Addr) (x y : Int) : Prop := (∃ (tx ty : Tok) (c : Nat), (D, tup2 x y tx ty c) ∈ news) ∨ (D = 129 ∧ x = gX ∧ y = gY)
theorem PtAt.isTup {w : World} {g h : Heap} {L : Addr} {m : Str → Option Value} {news news' : List (Addr × Obj)} {D : Addr} {x y : Int} (P : PtAt news D x y) (F : Fr g L h m) (X : (hd.heap_39 w.params).In g) (N : News g L h news') (hs : ∀ p ∈ news, p ∈ news') :
    ∃ tx ty, IsTup h D [.int x tx, .int y ty].toArray := by
  rcases P with ⟨tx, ty, c, hm⟩ | ⟨rfl, rfl, rfl⟩
  · exact ⟨tx, ty, _, (N _ (hs _ hm)).1, rfl, c, rfl⟩
  · obtain ⟨tx, ty, h9⟩ := K129 X
    exact ⟨tx, ty, _, F.keep _ _ h9, rfl, 0, rfl⟩
section
variable {w : World} {A : Around} {E : Value → Shared → Prop} {s : Shared} {g : Heap} {L : Addr} {m : Str → Option Value} {news news' : List (Addr × Obj)} {D : Addr} {x y : Int} {u : Tok} {value slice : PySem.Expr} {Q : Value → Shared → Prop} {prog : Program}
theorem pt_item0 (P : PtAt news D x y) (F : Fr g L s.heap m) (X : (hd.heap_39 w.params).In g) (N : News g L s.heap news') (hn : ∀ p ∈ news, p ∈ news') (h : ∀ t', Q (.int x t') s)
    (hs : subscripted slice false (.ref D) (.int 0 u) = operate [.ref D, .int 0 u] (getItem (.ref D) (.int 0 u)) := by with_unfolding_all rfl) :
    wpAny (model prog w) A (subscriptTail value slice (.ref D) (.int 0 u)) Q E s := by
  obtain ⟨tx, ty, ht⟩ := P.isTup F X N hn
  exact item_tupleT ht (by decide) (by decide) rfl rfl (h _) hs
theorem pt_item1 (P : PtAt news D x y) (F : Fr g L s.heap m) (X : (hd.heap_39 w.params).In g) (N : News g L s.heap news') (hn : ∀ p ∈ news, p ∈ news') (h : ∀ t', Q (.int y t') s)
    (hs : subscripted slice false (.ref D) (.int 1 u) = operate [.ref D, .int 1 u] (getItem (.ref D) (.int 1 u)) := by with_unfolding_all rfl) :
    wpAny (model prog w) A (subscriptTail value slice (.ref D) (.int 1 u)) Q E s := by
  obtain ⟨tx, ty, ht⟩ := P.isTup F X N hn
  exact item_tupleT ht (by decide) (by decide) rfl rfl (h _) hs
end
theorem OptAt.pt {news : List (Addr × Obj)} {v : Value} {x y : Int} (h : OptAt news v (some (x, y))) : ∃ D, v = .ref D ∧ PtAt news D x y := by
  rcases h with ⟨D, tx, ty, c, e, hm⟩ | ⟨e, h⟩
  · exact ⟨D, e, .inl ⟨tx, ty, c, hm⟩⟩
  · cases h; exact ⟨129, e, .inr ⟨rfl, rfl, rfl⟩⟩
theorem PtAt.opt {news : List (Addr × Obj)} {D : Addr} {x y : Int} (P : PtAt news D x y) : OptAt news (.ref D) (some (x, y)) := by
  rcases P with ⟨tx, ty, c, hm⟩ | ⟨rfl, rfl, rfl⟩
  · exact .inl ⟨D, tx, ty, c, rfl, hm⟩
  · exact .inr ⟨rfl, rfl⟩
end Mine
end
section
open PySem PySem.W PySem.Spec PySem.Calls PyProof.Rows
set_option maxRecDepth 100000
namespace Mine
section
variable {w : World} {A : Around} {E : Value → Shared → Prop} {s : Shared} {g : Heap} {L : Addr} {m : Str → Option Value} {news news' : List (Addr × Obj)} {D : Addr} {x y : Int} {u : Tok} {value : PySem.Expr} {i : Nat} {pos : Pos} {Q : Value → Shared → Prop} {prog : Program}
theorem ptC0 (P : PtAt news D x y) (F : Fr g L s.heap m) (X : (hd.heap_39 w.params).In g) (N : News g L s.heap news') (hn : ∀ p ∈ news, p ∈ news') (h : ∀ t', Q (.int x t') s) :
    wpAny (model prog w) A (subscriptTail value (.Constant (.int 0) i pos) (.ref D) (.int 0 u)) Q E s := pt_item0 P F X N hn h (by with_unfolding_all rfl)
theorem ptC1 (P : PtAt news D x y) (F : Fr g L s.heap m) (X : (hd.heap_39 w.params).In g) (N : News g L s.heap news') (hn : ∀ p ∈ news, p ∈ news') (h : ∀ t', Q (.int y t') s) :
    wpAny (model prog w) A (subscriptTail value (.Constant (.int 1) i pos) (.ref D) (.int 1 u)) Q E s := pt_item1 P F X N hn h (by with_unfolding_all rfl)
end
end Mine
end
section
open PySem PySem.W PySem.Spec PySem.Calls PyProof.Rows
set_option maxRecDepth 100000
namespace Mine
theorem kx_mem {env : Env} {L b : Addr} {outer : List Env} (hf : env.frame = some L) (hm : b ∈ (env :: outer).filterMap (·.frame)) : b = L ∨ b ∈ outer.filterMap (·.frame) := by
  obtain ⟨e', he, hf'⟩ := List.mem_filterMap.mp hm
  rcases List.mem_cons.mp he with rfl | he
  · exact .inl (Option.some.inj (hf'.symm.trans hf))
  · exact .inr (List.mem_filterMap.mpr ⟨e', he, hf'⟩)
/-- the exception goes on out of a frame of any make -/
theorem leave_onX {M : Model} {A : Around} {E : Value → Shared → Prop} {s' : Shared} {base g g₂ : Heap} {outer : List Env} {L e t : Addr} {m : Str → Option Value} {env : Env} {Q : Unit → Shared → Prop} {news : List (Addr × Obj)} {cls : Value} {vs : List Value}
    (hf : env.frame = some L) (K : Below A base outer g) (F : Fr g L g₂ m) (R : RaisedS base g₂ (env :: outer) e cls t vs news s'.heap) (hsm : g₂.UpToSlots s'.heap)
    (hQ : ∀ h', RaisedS base g outer e cls t vs news h' → g.UpToSlots h' → Q () { s' with heap := h' }) :
    wpAny M (A.deeper env) (leaving env (.ref e)) Q E s' := by
  obtain ⟨⟨B, hB, hBG, hl, hfl, hnew⟩, htup⟩ := R
  refine wpAny_leaves_onW (Around.frames_deeper K.stack) hf hfl fun h' x1 x2 => ?_
  refine hQ h' ⟨⟨B, hB, fun b o q nm => hBG b o (F.keep b o q) (fun hm => ?_), fun q hq => ⟨(hl q hq).1, kts_none F.keep (hl q hq).2.1, (hl q hq).2.2⟩, x1, hnew⟩, htup.of_slots x2⟩ ((Heap.UpToSlots.of_keeps F.keep).trans (hsm.trans x2))
  rcases kx_mem hf hm with z | z
  · rw [z, kts_self F] at q
    cases q
  · exact nm z
section
variable {prog : Program} {w : World} {A₀ A : Around} {s : Shared} {base h₀ : Heap} {outer : List Env} {L : Addr} {m : Str → Option Value} {env : Env} {news : List (Addr × Obj)} {K : Frag} {p : Program} {loose : List Str} {mean : ExcName → Option Value} {mg mb : Str → Option Value}
/-- what a callee that catches leaves behind -/
def LeaveT (A₀ : Around) (base : Heap) (outer : List Env) (fs : List Addr) (h₀ : Heap) (L : Addr) (m : Str → Option Value) (g : Heap) (R : Value → Shared → Prop) (v : Value) (s' : Shared) : Prop :=
  ∃ g' L' m' news', KtsTurn fs g g' ∧ Fr g' L' s'.heap m' ∧ News g' L' s'.heap news' ∧
    ∀ h₀', KtsTurn (outer.filterMap (·.frame)) h₀ h₀' → Fr h₀' L s'.heap m → News h₀' L s'.heap news' → Below A₀ base outer h₀' → R v s'
theorem groundT (B : Below A₀ base outer h₀) (F : Fr h₀ L s.heap m) (N : News h₀ L s.heap news) (hA : A.frames = some (env :: outer)) (hf : env.frame = some L) (hke : env.scope.kind = .function) (D : KtsDicts (outer.filterMap (·.frame)) h₀) {R : Value → Shared → Prop} :
    Fr h₀ L (hideAll s.heap (news.map (·.1))) m ∧ Below A base (env :: outer) (hideAll s.heap (news.map (·.1))) ∧ h₀.StaysIn (hideAll s.heap (news.map (·.1))) ∧ KtsDicts ((env :: outer).filterMap (·.frame)) (hideAll s.heap (news.map (·.1))) ∧
      ∀ v s', LeaveT A₀ base outer ((env :: outer).filterMap (·.frame)) h₀ L m (hideAll s.heap (news.map (·.1))) R v s' → R v s' := by
  obtain ⟨FG, BG, st, _⟩ := groundX (R := fun _ _ => True) B F N hA hf hke
  obtain ⟨oL, es, ep, hLg, hLd, hLk, hLf⟩ := FG.ns
  refine ⟨FG, BG, st, ?_, ?_⟩
  · intro b hb
    rcases kx_mem hf hb with rfl | hb
    · exact ⟨oL, es, ep, hLg, hLd⟩
    · obtain ⟨o, es', n', ho', hd'⟩ := D b hb
      exact ⟨o, es', n', st b o ho', hd'⟩
  · rintro v s' ⟨g', L', m', news', T', F', N', k⟩
    have nL₀ : h₀.get? L = none := kts_self F
    obtain ⟨sl, hs⟩ := T'.up hLg
    obtain ⟨T₁, S₁⟩ := kts_turn_at (h := s'.heap) (fs := outer.filterMap (·.frame)) (g := h₀)
      (fun b hb => by
        obtain ⟨_, o, ho', _⟩ := B.frames.mem hb
        exact ⟨o, ho'⟩)
      (fun b o e nmem => F'.keep b o (T'.other b o (st b o e) (fun q => by
        rcases kx_mem hf q with z | z
        · rw [z, nL₀] at e
          cases e
        · exact nmem z)))
      (fun b o e hm => by
        obtain ⟨sl', hs'⟩ := T'.up (st b o e)
        exact ⟨sl', F'.keep _ _ hs'⟩)
    have B₃ : Below A₀ base outer (ktsHeap s'.heap (outer.filterMap (·.frame)) h₀) := ⟨B.stack, fun b o e => T₁.other b o (B.stays b o e) (fun hm => by
      rw [(B.frames.mem hm).1] at e
      cases e), B.frames.of_keeps fun b o e _ => by
      obtain ⟨sl', hs'⟩ := T₁.up e
      exact ⟨_, hs', rfl⟩⟩
    refine k _ T₁ ⟨⟨_, es, ep, F'.keep _ _ hs, hLd, hLk, hLf⟩, S₁, by rw [T₁.size]; exact F.above⟩ (fun p hp => ⟨(N' p hp).1, fun q => ?_, ?_⟩) B₃
    · have := (N' p hp).2.2; rw [q, hs] at this; cases this
    · refine T₁.none_ _ ?_
      cases q : h₀.get? p.1 with
      | none => rfl
      | some o =>
        obtain ⟨sl', hs'⟩ := T'.up (st _ _ q)
        have := (N' p hp).2.2
        rw [hs'] at this
        cases this
variable {R : Result → Shared → Prop} {name qual : Str} {params : Arguments} {body : List Stmt} {scope : Scope} {dV kV doc pm cdv ct oc : Value} {an od : Option Addr} {osl : Array (Option Value)} {f : Addr} {args : Args} {binds : List (Str × Value)}
theorem code_defT (B : Below A₀ base outer h₀) (F : Fr h₀ L s.heap m) (X₀ : K.In h₀) (N : News h₀ L s.heap news) (T : Top p loose mean mg mb h₀) (D : KtsDicts (outer.filterMap (·.frame)) h₀) (hA : A.frames = some (env :: outer)) (hf : env.frame = some L) (hke : env.scope.kind = .function)
    (ho : K.lookup f = some ⟨oc, od, .func (fnOf name qual params body scope dV kV doc pm an cdv ct), osl⟩) (hcd : codeIn K cdv qual = true) (hroom : A.depth < recursionLimit)
    (hbind : BindsTo s (fnOf name qual params body scope dV kV doc pm an cdv ct) args binds) (hloc : ∀ y ∈ binds, scope.names.lookup y.1 = some .local)
    (h : ∀ g L' h₁, Fr h₀ L g m → Fr g L' h₁ (fun y => binds.reverse.lookup y) → News g L' h₁ news → Below A base (env :: outer) g → K.In g → Top p loose mean mg mb g → KtsDicts ((env :: outer).filterMap (·.frame)) g →
      wpAny (model prog w) (A.deeper (envOf qual scope L' f cdv)) (execs body (envOf qual scope L' f cdv))
        (fun fl s' => LeaveT A₀ base outer ((env :: outer).filterMap (·.frame)) h₀ L m g (fun v s' => R (.ok (.ret v)) s') (match fl with | .ret v => v | _ => .none) s')
        (fun e s' => wpAny (model prog w) (A.deeper (envOf qual scope L' f cdv)) (leaving (envOf qual scope L' f cdv) e) (fun _ s'' => R (.error e) s'') (fun e' s'' => R (.error e') s'') s')
        { s with heap := h₁, toks := s.toks + binds.length })
    (hco : scope.isCoroutine = false) (hgen : scope.isGenerator = false) (hk : scope.kind = .function)
    (hcell : ∀ x ∈ scope.names, x.2 ≠ .cell) : codeAny (model prog w) A (.call (.ref f) args) R s := by
  have X := X₀.keeps F.keep
  obtain ⟨FG, BG, st, DG, lv⟩ := groundT (R := fun v s' => R (.ok (.ret v)) s') B F N hA hf hke D
  refine codeAny_call_def (fd := fnOf name qual params body scope dV kV doc pm an cdv ct) (body := body) (binds := binds) hroom (X _ _ ho) rfl (T.nolimit.keeps F.keep) (codeRec_of X hcd) rfl hbind hcell hloc (fun h₁ hns hk₁ => ?_) hco hgen hk
  exact wpAny_mono (h _ s.heap.objs.size h₁ FG ⟨hns, fun b o e => hk₁ b o (of_hideAll _ e), Nat.le_of_eq (hideAll_size _ _)⟩
    (fun p hp => ⟨hk₁ _ _ (N p hp).1, Nat.ne_of_lt (Heap.lt_size (N p hp).1), hideAll_none _ (List.mem_map_of_mem hp)⟩) BG (X₀.keeps st) (T.keeps st) DG) (fun fl s' hl => lv _ _ hl) fun _ _ y => y
end
end Mine
end
section
open PySem PySem.W PySem.Spec PySem.Calls PyProof.Rows
namespace Mine
/-- the second coordinate that raw recovering takes -/
def yF (r v : Int) : Int :=
  let beta := powm ((r * r * r + 0 * r + 7) % pP) ((pP + 1) / 4) pP
  if (v + 27) % 2 ≠ beta % 2 then beta else pP - beta
def sqF (r : Int) : Int := (r * r * r + 0 * r + 7) % pP
/-- the second test -/
def BadTest (r y s : Int) : Prop := (sqF r - y * y) % pP ≠ 0 ∨ r % pN = 0 ∨ s % pN = 0
/-- the sum before the last multiplication -/
def sumF (r y s a : Int) : Jac := jaF (jmF (gX, gY, 1) a.toNat) (jmF (r, y, 1) s.toNat)
/-- the last factor is small, or the sum is the point at infinity -/
def RecPre (r v s a : Int) : Prop := ¬BadTest r (yF r v) s → ∀ i, IsInv r pN i → (0 ≤ i ∧ i < 1048576) ∨ (sumF r (yF r v) s a).2.1 = 0
theorem y_small (r v : Int) : Small (yF r v) := by
  unfold yF
  have h1 := powm_nonneg ((r * r * r + 0 * r + 7) % pP) ((pP + 1) / 4) pP
  have h2 := powm_lt (a := (r * r * r + 0 * r + 7) % pP) (n := (pP + 1) / 4) (m := pP) (by decide)
  dsimp only
  split
  · exact ⟨h1, by omega⟩
  · exact ⟨by omega, by omega⟩
section
variable {prog : Program} {w : World} {A : Around} {E : Value → Shared → Prop} {s : Shared} {a b : Int} {t u : Tok} {Q : Value → Shared → Prop}
theorem xor_bits (ha : 0 ≤ a) (ha1 : a < 2) (hb : 0 ≤ b) (hb1 : b < 2) : Builtin.bitXor a b = (a + b) % 2 := by
  have h1 : a = 0 ∨ a = 1 := by omega
  have h2 : b = 0 ∨ b = 1 := by omega
  rcases h1 with rfl | rfl <;> rcases h2 with rfl | rfl <;> decide
theorem xor_h (ha : 0 ≤ a) (ha1 : a < 2) (hb : 0 ≤ b) (hb1 : b < 2) (h : ∀ (v : Int) (t' tk' : Nat), v = (a + b) % 2 → Q (.int v t') { s with toks := tk' }) :
    wpAny (model prog w) A (binaryOp .BitXor (.int a t) (.int b u)) Q E s := by
  refine xor_int ?_
  rw [xor_bits ha ha1 hb hb1]
  exact h _ _ _ rfl
end
end Mine
end
section
open PySem PySem.W PySem.Spec PySem.Calls PyProof.Rows
set_option Elab.async false
set_option maxRecDepth 100000
set_option maxHeartbeats 1000000
namespace Mine
local macro_rules | `(tactic| bits_by_make) => `(tactic| first | with_reducible assumption | exact bits_P | exact bits_N | exact bits_gX | exact bits_gY | ((with_reducible apply PySem.intBits_pow_le); bits_by_make))
local macro_rules | `(tactic| walk_at "binaryOp Mod int int") => `(tactic| (k_here; (with_reducible refine mod_h ?ka ?kb ?_); (case ka => decide); (case kb => (first | exact Nat.le_trans bits_P (by decide) | exact Nat.le_trans bits_N (by decide) | (exact Nat.le_trans (PySem.intBits_le_64 (by decide) (by decide)) (by decide)))); intro v' t' tk' hv' hb'; (try dsimp only)))
local macro_rules | `(tactic| walk_at "binaryOp Pow int int") => `(tactic| (k_here; (with_reducible first | refine' pow_h2 ?kc ?kd ?_ | refine' pow_h3 ?kc ?kd ?_ | refine' pow_h4 ?kc ?kd ?_); (case kc => bits_by_make); (case kd => decide); intro t' tk'; (try dsimp only)))
local macro_rules | `(tactic| walk_at "binaryOp Mult int int") => `(tactic| (k_here; (with_reducible refine mul_h ?kc ?_); (case kc => mul_fits); intro t' tk'; (try dsimp only)))
local macro_rules | `(tactic| walk_at "binaryOp Add int int") => `(tactic| (k_here; (with_reducible refine add_h ?_); intro t' tk'; (try dsimp only)))
local macro_rules | `(tactic| walk_at "binaryOp Sub int int") => `(tactic| (k_here; (with_reducible refine sub_h ?_); intro t' tk'; (try dsimp only)))
local macro_rules | `(tactic| walk_at "binaryOp Mod int int") => `(tactic| (k_here; (with_reducible show wpAny _ _ (binaryOp Operator.Mod (Value.int _ _) (Value.int 2 _)) _ _ _); (with_reducible refine mod_2 ?_); intro v' t' tk' hv' hb' hb2'; (try dsimp only)))
local macro_rules | `(tactic| walk_at "binaryOp FloorDiv int int") => `(tactic| (k_here; (with_reducible show wpAny _ _ (binaryOp Operator.FloorDiv (Value.int _ _) (Value.int 2 _)) _ _ _); (with_reducible refine half_s ?ka ?_); (case ka => omega); intro v' t' tk' hv' hb' hb2' hb3'; (try dsimp only)))
local macro_rules | `(tactic| k_mem) => `(tactic| assumption)
local macro_rules | `(tactic| walk_at "call builtin:pow") => `(tactic| (k_here; (with_reducible refine' call_pow3_h ?_ ?_ ?_ ?_); (first | decide | decide +kernel | omega); (first | decide | decide +kernel | omega); (first | exact bits_P | exact bits_N); intro v' t' tk' hv' hb'; (try dsimp only)))
local macro_rules | `(tactic| walk_at "call builtin:pow") => `(tactic| (k_here; (with_reducible refine' call_pow3_P ?_ ?_); (first | decide | decide +kernel | omega); intro v' t' tk' hv' hb' hs'; (try dsimp only)))
local macro_rules | `(tactic| walk_at "binaryOp Mod int int") => `(tactic| (k_here; (with_reducible refine mod_hP ?_); intro v' t' tk' hv' hb' hs'; (try dsimp only)))
local macro_rules | `(tactic| walk_at "eval Name") => `(tactic| (k_here; name_kind "globalImplicit"; (with_reducible first | refine fKc (by decide +kernel) (by k_dflt k_asm) (by k_dflt k_asm) (by k_dflt k_asm) (by k_dflt k_is) ?_ | refine fKo (by decide +kernel) (by k_dflt k_asm) (by k_dflt k_asm) (by k_dflt k_asm) (by k_dflt k_is) ?_ | refine fK (by decide +kernel) (by k_dflt k_asm) (by k_dflt k_asm) (by k_dflt k_asm) (by k_dflt k_is) ?_); k_whole))
local macro_rules | `(tactic| walk_at "eval Name") => `(tactic| (k_here; name_kind "cell"; (with_reducible first | refine fCc (by decide +kernel) (by k_dflt (exact rfl)) (by k_dflt k_asm) (by k_dflt k_mem) (by k_dflt k_asm) ?_ | refine fC (by decide +kernel) (by k_dflt (exact rfl)) (by k_dflt k_asm) (by k_dflt k_mem) (by k_dflt k_asm) ?_); k_whole))
local macro_rules | `(tactic| walk_at "eval Name") => `(tactic| (k_here; name_kind "local"; (with_reducible first | refine fLc (by decide +kernel) (by k_dflt k_asm) (by k_dflt (exact rfl)) ?_ | refine fLo (by decide +kernel) (by k_dflt k_asm) (by k_dflt (exact rfl)) ?_ | refine fL (by decide +kernel) (by k_dflt k_asm) (by k_dflt (exact rfl)) ?_); k_whole))
local macro_rules | `(tactic| walk_at "callWith ref") => `(tactic| (k_here; (with_reducible first | show wpAny _ _ (callWith _ (Value.ref 136) _ _ _) _ _ _ | show wpAny _ _ (callWith _ (Value.ref 143) _ _ _) _ _ _ | show wpAny _ _ (callWith _ (Value.ref 150) _ _ _) _ _ _ | show wpAny _ _ (callWith _ (Value.ref 157) _ _ _) _ _ _ | show wpAny _ _ (callWith _ (Value.ref 164) _ _ _) _ _ _ | show wpAny _ _ (callWith _ (Value.ref 171) _ _ _) _ _ _ | show wpAny _ _ (callWith _ (Value.ref 178) _ _ _) _ _ _ | show wpAny _ _ (callWith _ (Value.ref 185) _ _ _) _ _ _ | show wpAny _ _ (callWith _ (Value.ref 190) _ _ _) _ _ _ | show wpAny _ _ (callWith _ (Value.ref 128) _ _ _) _ _ _ | show wpAny _ _ (callWith _ (Value.ref 114) _ _ _) _ _ _ | show wpAny _ _ (callWith _ (Value.ref 121) _ _ _) _ _ _ | show wpAny _ _ (callWith _ (Value.ref 107) _ _ _) _ _ _ | show wpAny _ _ (callWith _ (Value.ref 100) _ _ _) _ _ _ | show wpAny _ _ (callWith _ (Value.ref 93) _ _ _) _ _ _ | show wpAny _ _ (callWith _ (Value.ref 86) _ _ _) _ _ _ | show wpAny _ _ (callWith _ (Value.ref 79) _ _ _) _ _ _ | show wpAny _ _ (callWith _ (Value.ref 72) _ _ _) _ _ _ | show wpAny _ _ (callWith _ (Value.ref 65) _ _ _) _ _ _ | show wpAny _ _ (callWith _ (Value.ref 58) _ _ _) _ _ _ | show wpAny _ _ (callWith _ (Value.ref 51) _ _ _) _ _ _ | show wpAny _ _ (callWith _ (Value.ref 28) _ _ _) _ _ _ | show wpAny _ _ (callWith _ (Value.ref 21) _ _ _) _ _ _); (with_reducible refine callWith_K (by k_dflt k_asm) (by k_dflt k_is) ?_ (by k_dflt (exact rfl)) (by k_dflt (exact rfl))); k_whole))
local macro_rules | `(tactic| walk_at "subscriptTail Name Constant ref int") => `(tactic| (k_here; (with_reducible show wpAny _ _ (subscriptTail _ _ (Value.ref _) (Value.int 2 _)) _ _ _); k_dflt (refine sub3_2 (by k_asm) (by k_mem) ?_; k_whole)))
local macro_rules | `(tactic| walk_at "subscriptTail Name Constant ref int") => `(tactic| (k_here; (with_reducible show wpAny _ _ (subscriptTail _ _ (Value.ref _) (Value.int 1 _)) _ _ _); k_dflt (refine sub3_1 (by k_asm) (by k_mem) ?_; k_whole)))
local macro_rules | `(tactic| walk_at "subscriptTail Name Constant ref int") => `(tactic| (k_here; (with_reducible show wpAny _ _ (subscriptTail _ _ (Value.ref _) (Value.int 0 _)) _ _ _); k_dflt (refine sub3_0 (by k_asm) (by k_mem) ?_; k_whole)))
local macro_rules | `(tactic| walk_at "subscriptTail Name Constant ref int") => `(tactic| (k_here; (with_reducible show wpAny _ _ (subscriptTail _ _ (Value.ref _) (Value.int 1 _)) _ _ _); k_dflt (refine sub2_1 (by k_asm) (by k_mem) ?_; k_whole)))
local macro_rules | `(tactic| walk_at "subscriptTail Name Constant ref int") => `(tactic| (k_here; (with_reducible show wpAny _ _ (subscriptTail _ _ (Value.ref _) (Value.int 0 _)) _ _ _); k_dflt (refine sub2_0 (by k_asm) (by k_mem) ?_; k_whole)))
local macro_rules | `(tactic| k_mem) => `(tactic| with_reducible first | assumption | exact mem0 | exact mem1 | exact mem2 | exact mem3 | exact mem4 | exact mem5 | exact mem6 | exact mem7 | exact mem8 | exact mem9 | exact mem10 | exact mem11 | exact mem12 | exact mem13 | exact mem14 | exact mem15 | exact mem16 | exact mem17)
theorem c_jdouble {w : World} {loose mean mg mb} (p : Addr) (x y z : Int) (tx ty tz : Tok) (c : Nat) (news : List (Addr × Obj)) (hp : (p, tup3 x y z tx ty tz c) ∈ news) (hsm : Small3 (x, y, z)) :
    GoesX w loose mean mg mb 65 1 news [.ref p] (Back3 news (jdF (x, y, z))) := by
  unfold GoesX
  k_fill
  intro dp un gd cn cs a ccd cl outer A₀ base h₀ L m s Q E B F X N T hk hdp hu hret
  have hx : Builtin.Int.intBits x ≤ 300 := hsm.1.bits
  have hy : Builtin.Int.intBits y ≤ 300 := hsm.2.1.bits
  have hz : Builtin.Int.intBits z ≤ 300 := hsm.2.2.bits
  refine wpAny_call ?_
  k_dflt ktr_enter
  k_steps
  all_goals refine back3 hret (jd_small _) (by k_asm) (by k_asm) (by k_mem) (by intro q hq; (repeat (first | exact hq | apply List.mem_cons_of_mem))) ?_
  all_goals repeat (rename Hid _ => hz; obtain ⟨hz⟩ := hz; subst hz)
  all_goals unfold jdF
  · rw [if_neg (by assumption)]
    rfl
  · rw [if_pos (by assumption)]
end Mine
end
section
open PySem PySem.W PySem.Spec PySem.Calls PyProof.Rows
set_option Elab.async false
set_option maxRecDepth 100000
set_option maxHeartbeats 1000000
namespace Mine
local macro_rules | `(tactic| bits_by_make) => `(tactic| first | with_reducible assumption | exact bits_P | exact bits_N | exact bits_gX | exact bits_gY | ((with_reducible apply PySem.intBits_pow_le); bits_by_make))
local macro_rules | `(tactic| walk_at "binaryOp Mod int int") => `(tactic| (k_here; (with_reducible refine mod_h ?ka ?kb ?_); (case ka => decide); (case kb => (first | exact Nat.le_trans bits_P (by decide) | exact Nat.le_trans bits_N (by decide) | (exact Nat.le_trans (PySem.intBits_le_64 (by decide) (by decide)) (by decide)))); intro v' t' tk' hv' hb'; (try dsimp only)))
local macro_rules | `(tactic| walk_at "binaryOp Pow int int") => `(tactic| (k_here; (with_reducible first | refine' pow_h2 ?kc ?kd ?_ | refine' pow_h3 ?kc ?kd ?_ | refine' pow_h4 ?kc ?kd ?_); (case kc => bits_by_make); (case kd => decide); intro t' tk'; (try dsimp only)))
local macro_rules | `(tactic| walk_at "binaryOp Mult int int") => `(tactic| (k_here; (with_reducible refine mul_h ?kc ?_); (case kc => mul_fits); intro t' tk'; (try dsimp only)))
local macro_rules | `(tactic| walk_at "binaryOp Add int int") => `(tactic| (k_here; (with_reducible refine add_h ?_); intro t' tk'; (try dsimp only)))
local macro_rules | `(tactic| walk_at "binaryOp Sub int int") => `(tactic| (k_here; (with_reducible refine sub_h ?_); intro t' tk'; (try dsimp only)))
local macro_rules | `(tactic| walk_at "binaryOp Mod int int") => `(tactic| (k_here; (with_reducible show wpAny _ _ (binaryOp Operator.Mod (Value.int _ _) (Value.int 2 _)) _ _ _); (with_reducible refine mod_2 ?_); intro v' t' tk' hv' hb' hb2'; (try dsimp only)))
local macro_rules | `(tactic| walk_at "binaryOp FloorDiv int int") => `(tactic| (k_here; (with_reducible show wpAny _ _ (binaryOp Operator.FloorDiv (Value.int _ _) (Value.int 2 _)) _ _ _); (with_reducible refine half_s ?ka ?_); (case ka => omega); intro v' t' tk' hv' hb' hb2' hb3'; (try dsimp only)))
local macro_rules | `(tactic| k_mem) => `(tactic| assumption)
local macro_rules | `(tactic| walk_at "call builtin:pow") => `(tactic| (k_here; (with_reducible refine' call_pow3_h ?_ ?_ ?_ ?_); (first | decide | decide +kernel | omega); (first | decide | decide +kernel | omega); (first | exact bits_P | exact bits_N); intro v' t' tk' hv' hb'; (try dsimp only)))
local macro_rules | `(tactic| walk_at "call builtin:pow") => `(tactic| (k_here; (with_reducible refine' call_pow3_P ?_ ?_); (first | decide | decide +kernel | omega); intro v' t' tk' hv' hb' hs'; (try dsimp only)))
local macro_rules | `(tactic| walk_at "binaryOp Mod int int") => `(tactic| (k_here; (with_reducible refine mod_hP ?_); intro v' t' tk' hv' hb' hs'; (try dsimp only)))
local macro_rules | `(tactic| walk_at "call ref") => `(tactic| (k_here; (with_reducible show wpAny _ _ (call (Value.ref 65) [Value.ref _]) _ _ _); k_dflt (refine goes_use (by k_asm) (by k_asm) (by k_asm) (by k_asm) (by k_asm) (by first | exact rfl | assumption) (c_jdouble _ _ _ _ _ _ _ _ _ (by k_mem) (by assumption)) (by ktr_room) (by ktr_units) ?_; k_whole; intro D' x' y' z' tx' ty' tz' c' h' tk' F' N' e' s3'; (have hb1' := s3'.1.bits); (have hb2' := s3'.2.1.bits); (have hb3' := s3'.2.2.bits); (try dsimp only); (try k_fold))))
local macro_rules | `(tactic| walk_at "eval Name") => `(tactic| (k_here; name_kind "globalImplicit"; (with_reducible first | refine fKc (by decide +kernel) (by k_dflt k_asm) (by k_dflt k_asm) (by k_dflt k_asm) (by k_dflt k_is) ?_ | refine fKo (by decide +kernel) (by k_dflt k_asm) (by k_dflt k_asm) (by k_dflt k_asm) (by k_dflt k_is) ?_ | refine fK (by decide +kernel) (by k_dflt k_asm) (by k_dflt k_asm) (by k_dflt k_asm) (by k_dflt k_is) ?_); k_whole))
local macro_rules | `(tactic| walk_at "eval Name") => `(tactic| (k_here; name_kind "cell"; (with_reducible first | refine fCc (by decide +kernel) (by k_dflt (exact rfl)) (by k_dflt k_asm) (by k_dflt k_mem) (by k_dflt k_asm) ?_ | refine fC (by decide +kernel) (by k_dflt (exact rfl)) (by k_dflt k_asm) (by k_dflt k_mem) (by k_dflt k_asm) ?_); k_whole))
local macro_rules | `(tactic| walk_at "eval Name") => `(tactic| (k_here; name_kind "local"; (with_reducible first | refine fLc (by decide +kernel) (by k_dflt k_asm) (by k_dflt (exact rfl)) ?_ | refine fLo (by decide +kernel) (by k_dflt k_asm) (by k_dflt (exact rfl)) ?_ | refine fL (by decide +kernel) (by k_dflt k_asm) (by k_dflt (exact rfl)) ?_); k_whole))
local macro_rules | `(tactic| walk_at "callWith ref") => `(tactic| (k_here; (with_reducible first | show wpAny _ _ (callWith _ (Value.ref 136) _ _ _) _ _ _ | show wpAny _ _ (callWith _ (Value.ref 143) _ _ _) _ _ _ | show wpAny _ _ (callWith _ (Value.ref 150) _ _ _) _ _ _ | show wpAny _ _ (callWith _ (Value.ref 157) _ _ _) _ _ _ | show wpAny _ _ (callWith _ (Value.ref 164) _ _ _) _ _ _ | show wpAny _ _ (callWith _ (Value.ref 171) _ _ _) _ _ _ | show wpAny _ _ (callWith _ (Value.ref 178) _ _ _) _ _ _ | show wpAny _ _ (callWith _ (Value.ref 185) _ _ _) _ _ _ | show wpAny _ _ (callWith _ (Value.ref 190) _ _ _) _ _ _ | show wpAny _ _ (callWith _ (Value.ref 128) _ _ _) _ _ _ | show wpAny _ _ (callWith _ (Value.ref 114) _ _ _) _ _ _ | show wpAny _ _ (callWith _ (Value.ref 121) _ _ _) _ _ _ | show wpAny _ _ (callWith _ (Value.ref 107) _ _ _) _ _ _ | show wpAny _ _ (callWith _ (Value.ref 100) _ _ _) _ _ _ | show wpAny _ _ (callWith _ (Value.ref 93) _ _ _) _ _ _ | show wpAny _ _ (callWith _ (Value.ref 86) _ _ _) _ _ _ | show wpAny _ _ (callWith _ (Value.ref 79) _ _ _) _ _ _ | show wpAny _ _ (callWith _ (Value.ref 72) _ _ _) _ _ _ | show wpAny _ _ (callWith _ (Value.ref 65) _ _ _) _ _ _ | show wpAny _ _ (callWith _ (Value.ref 58) _ _ _) _ _ _ | show wpAny _ _ (callWith _ (Value.ref 51) _ _ _) _ _ _ | show wpAny _ _ (callWith _ (Value.ref 28) _ _ _) _ _ _ | show wpAny _ _ (callWith _ (Value.ref 21) _ _ _) _ _ _); (with_reducible refine callWith_K (by k_dflt k_asm) (by k_dflt k_is) ?_ (by k_dflt (exact rfl)) (by k_dflt (exact rfl))); k_whole))
local macro_rules | `(tactic| walk_at "subscriptTail Name Constant ref int") => `(tactic| (k_here; (with_reducible show wpAny _ _ (subscriptTail _ _ (Value.ref _) (Value.int 2 _)) _ _ _); k_dflt (refine sub3_2 (by k_asm) (by k_mem) ?_; k_whole)))
local macro_rules | `(tactic| walk_at "subscriptTail Name Constant ref int") => `(tactic| (k_here; (with_reducible show wpAny _ _ (subscriptTail _ _ (Value.ref _) (Value.int 1 _)) _ _ _); k_dflt (refine sub3_1 (by k_asm) (by k_mem) ?_; k_whole)))
local macro_rules | `(tactic| walk_at "subscriptTail Name Constant ref int") => `(tactic| (k_here; (with_reducible show wpAny _ _ (subscriptTail _ _ (Value.ref _) (Value.int 0 _)) _ _ _); k_dflt (refine sub3_0 (by k_asm) (by k_mem) ?_; k_whole)))
local macro_rules | `(tactic| walk_at "subscriptTail Name Constant ref int") => `(tactic| (k_here; (with_reducible show wpAny _ _ (subscriptTail _ _ (Value.ref _) (Value.int 1 _)) _ _ _); k_dflt (refine sub2_1 (by k_asm) (by k_mem) ?_; k_whole)))
local macro_rules | `(tactic| walk_at "subscriptTail Name Constant ref int") => `(tactic| (k_here; (with_reducible show wpAny _ _ (subscriptTail _ _ (Value.ref _) (Value.int 0 _)) _ _ _); k_dflt (refine sub2_0 (by k_asm) (by k_mem) ?_; k_whole)))
local macro_rules | `(tactic| k_mem) => `(tactic| with_reducible first | assumption | exact mem0 | exact mem1 | exact mem2 | exact mem3 | exact mem4 | exact mem5 | exact mem6 | exact mem7 | exact mem8 | exact mem9 | exact mem10 | exact mem11 | exact mem12 | exact mem13 | exact mem14 | exact mem15 | exact mem16 | exact mem17)
theorem c_jadd {w : World} {loose mean mg mb} (p q : Addr) (x y z x2 y2 z2 : Int) (tx ty tz tx2 ty2 tz2 : Tok) (c c2 : Nat) (news : List (Addr × Obj)) (hp : (p, tup3 x y z tx ty tz c) ∈ news) (hq : (q, tup3 x2 y2 z2 tx2 ty2 tz2 c2) ∈ news) (hsm : Small3 (x, y, z)) (hsm2 : Small3 (x2, y2, z2)) :
    GoesX w loose mean mg mb 72 2 news [.ref p, .ref q] (Back3 news (jaF (x, y, z) (x2, y2, z2))) := by
  unfold GoesX
  k_fill
  intro dp un gd cn cs a ccd cl outer A₀ base h₀ L m s Q E B F X N T hk hdp hu hret
  have hx : Builtin.Int.intBits x ≤ 300 := hsm.1.bits
  have hy : Builtin.Int.intBits y ≤ 300 := hsm.2.1.bits
  have hz : Builtin.Int.intBits z ≤ 300 := hsm.2.2.bits
  have hx2 : Builtin.Int.intBits x2 ≤ 300 := hsm2.1.bits
  have hy2 : Builtin.Int.intBits y2 ≤ 300 := hsm2.2.1.bits
  have hz2 : Builtin.Int.intBits z2 ≤ 300 := hsm2.2.2.bits
  refine wpAny_call ?_
  k_dflt ktr_enter
  k_steps
  all_goals refine back3 hret (ja_small hsm hsm2) (by k_asm) (by k_asm) (by k_mem) (by intro q hq; (repeat (first | exact hq | apply List.mem_cons_of_mem))) ?_
  all_goals (try (rename Hid ((_, _, _) = _) => hj; obtain ⟨hj⟩ := hj))
  all_goals repeat (rename Hid _ => hz; obtain ⟨hz⟩ := hz; subst hz)
  all_goals unfold jaF
  all_goals dsimp only
  all_goals first
    | rw [if_pos (by assumption)]
    | rw [if_neg (by assumption), if_pos (by assumption)]
    | (rw [if_neg (by assumption), if_neg (by assumption), if_pos (by assumption), if_pos (by assumption)]; done)
    | (rw [if_neg (by assumption), if_neg (by assumption), if_pos (by assumption), if_neg (by intro h; exact h (by assumption))]; assumption)
    | (rw [if_neg (by assumption), if_neg (by assumption), if_neg (by assumption)]; rfl)
end Mine
end
section
open PySem PySem.W PySem.Spec PySem.Calls PyProof.Rows
set_option Elab.async false
set_option maxRecDepth 100000
set_option maxHeartbeats 1000000
namespace Mine
local macro_rules | `(tactic| walk_at "pad") => `(tactic| skip)
local macro_rules | `(tactic| bits_by_make) => `(tactic| first | with_reducible assumption | exact bits_P | exact bits_N | ((with_reducible apply PySem.intBits_pow_le); bits_by_make))
local macro_rules | `(tactic| walk_at "binaryOp Mod int int") => `(tactic| (k_here; (with_reducible refine mod_h ?ka ?kb ?_); (case ka => decide); (case kb => (first | exact Nat.le_trans bits_P (by decide) | exact Nat.le_trans bits_N (by decide) | (exact Nat.le_trans (PySem.intBits_le_64 (by decide) (by decide)) (by decide)))); intro v' t' tk' hv' hb'; (try dsimp only)))
local macro_rules | `(tactic| walk_at "binaryOp Pow int int") => `(tactic| (k_here; (with_reducible first | refine' pow_h2 ?kc ?kd ?_ | refine' pow_h3 ?kc ?kd ?_ | refine' pow_h4 ?kc ?kd ?_); (case kc => bits_by_make); (case kd => decide); intro t' tk'; (try dsimp only)))
local macro_rules | `(tactic| walk_at "binaryOp Mult int int") => `(tactic| (k_here; (with_reducible refine mul_h ?kc ?_); (case kc => mul_fits); intro t' tk'; (try dsimp only)))
local macro_rules | `(tactic| walk_at "binaryOp Add int int") => `(tactic| (k_here; (with_reducible refine add_h ?_); intro t' tk'; (try dsimp only)))
local macro_rules | `(tactic| walk_at "binaryOp Sub int int") => `(tactic| (k_here; (with_reducible refine sub_h ?_); intro t' tk'; (try dsimp only)))
local macro_rules | `(tactic| walk_at "binaryOp Mod int int") => `(tactic| (k_here; (with_reducible show wpAny _ _ (binaryOp Operator.Mod (Value.int _ _) (Value.int 2 _)) _ _ _); (with_reducible refine mod_2 ?_); intro v' t' tk' hv' hb' hb2'; (try dsimp only)))
local macro_rules | `(tactic| walk_at "binaryOp FloorDiv int int") => `(tactic| (k_here; (with_reducible show wpAny _ _ (binaryOp Operator.FloorDiv (Value.int _ _) (Value.int 2 _)) _ _ _); (with_reducible refine half_s ?ka ?_); (case ka => omega); intro v' t' tk' hv' hb' hb2' hb3'; (try dsimp only)))
local macro_rules | `(tactic| walk_at "call ref") => `(tactic| (k_here; (with_reducible show wpAny _ _ (call (Value.ref 65) [Value.ref _]) _ _ _); k_dflt (refine goes_use (by k_asm) (by k_asm) (by k_asm) (by k_asm) (by k_asm) (by first | exact rfl | assumption) (c_jdouble _ _ _ _ _ _ _ _ _ (by k_mem) (by assumption)) (by ktr_room) (by ktr_units) ?_; k_whole; intro D' x' y' z' tx' ty' tz' c' h' tk' F' N' e' s3'; (have hb1' := s3'.1.bits); (have hb2' := s3'.2.1.bits); (have hb3' := s3'.2.2.bits); (try dsimp only); (try k_fold))))
local macro_rules | `(tactic| walk_at "call ref") => `(tactic| (k_here; (with_reducible show wpAny _ _ (call (Value.ref 72) [Value.ref _, Value.ref _]) _ _ _); k_dflt (refine goes_use (by k_asm) (by k_asm) (by k_asm) (by k_asm) (by k_asm) (by first | exact rfl | assumption) (c_jadd _ _ _ _ _ _ _ _ _ _ _ _ _ _ _ _ _ (by k_mem) (by k_mem) (by assumption) (by assumption)) (by ktr_room) (by ktr_units) ?_; k_whole; intro D' x' y' z' tx' ty' tz' c' h' tk' F' N' e' s3'; (have hb1' := s3'.1.bits); (have hb2' := s3'.2.1.bits); (have hb3' := s3'.2.2.bits); (try dsimp only); (try k_fold))))
local macro_rules | `(tactic| k_mem) => `(tactic| assumption)
local macro_rules | `(tactic| walk_at "eval Name") => `(tactic| (k_here; name_kind "globalImplicit"; (with_reducible first | refine fKc (by decide +kernel) (by k_dflt k_asm) (by k_dflt k_asm) (by k_dflt k_asm) (by k_dflt k_is) ?_ | refine fKo (by decide +kernel) (by k_dflt k_asm) (by k_dflt k_asm) (by k_dflt k_asm) (by k_dflt k_is) ?_ | refine fK (by decide +kernel) (by k_dflt k_asm) (by k_dflt k_asm) (by k_dflt k_asm) (by k_dflt k_is) ?_); k_whole))
local macro_rules | `(tactic| walk_at "eval Name") => `(tactic| (k_here; name_kind "cell"; (with_reducible first | refine fCc (by decide +kernel) (by k_dflt (exact rfl)) (by k_dflt k_asm) (by k_dflt k_mem) (by k_dflt k_asm) ?_ | refine fC (by decide +kernel) (by k_dflt (exact rfl)) (by k_dflt k_asm) (by k_dflt k_mem) (by k_dflt k_asm) ?_); k_whole))
local macro_rules | `(tactic| walk_at "eval Name") => `(tactic| (k_here; name_kind "local"; (with_reducible first | refine fLc (by decide +kernel) (by k_dflt k_asm) (by k_dflt (exact rfl)) ?_ | refine fLo (by decide +kernel) (by k_dflt k_asm) (by k_dflt (exact rfl)) ?_ | refine fL (by decide +kernel) (by k_dflt k_asm) (by k_dflt (exact rfl)) ?_); k_whole))
local macro_rules | `(tactic| walk_at "callWith ref") => `(tactic| (k_here; (with_reducible first | show wpAny _ _ (callWith _ (Value.ref 136) _ _ _) _ _ _ | show wpAny _ _ (callWith _ (Value.ref 143) _ _ _) _ _ _ | show wpAny _ _ (callWith _ (Value.ref 150) _ _ _) _ _ _ | show wpAny _ _ (callWith _ (Value.ref 157) _ _ _) _ _ _ | show wpAny _ _ (callWith _ (Value.ref 164) _ _ _) _ _ _ | show wpAny _ _ (callWith _ (Value.ref 171) _ _ _) _ _ _ | show wpAny _ _ (callWith _ (Value.ref 178) _ _ _) _ _ _ | show wpAny _ _ (callWith _ (Value.ref 185) _ _ _) _ _ _ | show wpAny _ _ (callWith _ (Value.ref 190) _ _ _) _ _ _ | show wpAny _ _ (callWith _ (Value.ref 128) _ _ _) _ _ _ | show wpAny _ _ (callWith _ (Value.ref 114) _ _ _) _ _ _ | show wpAny _ _ (callWith _ (Value.ref 121) _ _ _) _ _ _ | show wpAny _ _ (callWith _ (Value.ref 107) _ _ _) _ _ _ | show wpAny _ _ (callWith _ (Value.ref 100) _ _ _) _ _ _ | show wpAny _ _ (callWith _ (Value.ref 93) _ _ _) _ _ _ | show wpAny _ _ (callWith _ (Value.ref 86) _ _ _) _ _ _ | show wpAny _ _ (callWith _ (Value.ref 79) _ _ _) _ _ _ | show wpAny _ _ (callWith _ (Value.ref 72) _ _ _) _ _ _ | show wpAny _ _ (callWith _ (Value.ref 65) _ _ _) _ _ _ | show wpAny _ _ (callWith _ (Value.ref 58) _ _ _) _ _ _ | show wpAny _ _ (callWith _ (Value.ref 51) _ _ _) _ _ _ | show wpAny _ _ (callWith _ (Value.ref 28) _ _ _) _ _ _ | show wpAny _ _ (callWith _ (Value.ref 21) _ _ _) _ _ _); (with_reducible refine callWith_K (by k_dflt k_asm) (by k_dflt k_is) ?_ (by k_dflt (exact rfl)) (by k_dflt (exact rfl))); k_whole))
local macro_rules | `(tactic| walk_at "subscriptTail Name Constant ref int") => `(tactic| (k_here; (with_reducible show wpAny _ _ (subscriptTail _ _ (Value.ref _) (Value.int 2 _)) _ _ _); k_dflt (refine sub3_2 (by k_asm) (by k_mem) ?_; k_whole)))
local macro_rules | `(tactic| walk_at "subscriptTail Name Constant ref int") => `(tactic| (k_here; (with_reducible show wpAny _ _ (subscriptTail _ _ (Value.ref _) (Value.int 1 _)) _ _ _); k_dflt (refine sub3_1 (by k_asm) (by k_mem) ?_; k_whole)))
local macro_rules | `(tactic| walk_at "subscriptTail Name Constant ref int") => `(tactic| (k_here; (with_reducible show wpAny _ _ (subscriptTail _ _ (Value.ref _) (Value.int 0 _)) _ _ _); k_dflt (refine sub3_0 (by k_asm) (by k_mem) ?_; k_whole)))
local macro_rules | `(tactic| walk_at "subscriptTail Name Constant ref int") => `(tactic| (k_here; (with_reducible show wpAny _ _ (subscriptTail _ _ (Value.ref _) (Value.int 1 _)) _ _ _); k_dflt (refine sub2_1 (by k_asm) (by k_mem) ?_; k_whole)))
local macro_rules | `(tactic| walk_at "subscriptTail Name Constant ref int") => `(tactic| (k_here; (with_reducible show wpAny _ _ (subscriptTail _ _ (Value.ref _) (Value.int 0 _)) _ _ _); k_dflt (refine sub2_0 (by k_asm) (by k_mem) ?_; k_whole)))
local macro_rules | `(tactic| k_mem) => `(tactic| with_reducible first | assumption | exact mem0 | exact mem1 | exact mem2 | exact mem3 | exact mem4 | exact mem5 | exact mem6 | exact mem7 | exact mem8 | exact mem9 | exact mem10 | exact mem11 | exact mem12 | exact mem13 | exact mem14 | exact mem15 | exact mem16 | exact mem17)

def JmulAt (w : World) (loose : List Str) (mean : ExcName → Option Value) (mg mb : Str → Option Value) (k : Nat) (M : Int) : Prop :=
  ∀ (p : Addr) (x y z : Int) (tx ty tz : Tok) (c : Nat) (n : Int) (tn : Tok) (news : List (Addr × Obj)) (_hp : (p, tup3 x y z tx ty tz c) ∈ news) (_hsm : Small3 (x, y, z)) (_h0 : 0 ≤ n) (_hn : n < M),
      GoesX w loose mean mg mb 86 (k + 3) news [.ref p, .int n tn] (Back3 news (jmF (x, y, z) n.toNat))
theorem jmul_use {w : World} {loose mean mg mb} {k : Nat} {M : Int} (H : JmulAt w loose mean mg mb k M) {p : Addr} {x y z : Int} {tx ty tz : Tok} {c : Nat} {n : Int} {tn : Tok} {news : List (Addr × Obj)} (hp : (p, tup3 x y z tx ty tz c) ∈ news) (hsm : Small3 (x, y, z)) (h0 : 0 ≤ n) (hn : n < M) :
      GoesX w loose mean mg mb 86 (k + 3) news [.ref p, .int n tn] (Back3 news (jmF (x, y, z) n.toNat)) := H p x y z tx ty tz c n tn news hp hsm h0 hn
local macro_rules | `(tactic| walk_at "exec Raise some none") => `(tactic| (k_here; exfalso; omega))
local macro_rules | `(tactic| walk_at "call ref") => `(tactic| (k_here; (with_reducible show wpAny _ _ (call (Value.ref 86) [Value.ref _, Value.int _ _]) _ _ _); k_dflt (refine goes_use (by k_asm) (by k_asm) (by k_asm) (by k_asm) (by k_asm) (by first | exact rfl | assumption) (jmul_use (by assumption) (by k_mem) (by assumption) (by omega) (by omega)) (by ktr_room) (by ktr_units) ?_; k_whole; intro D' x' y' z' tx' ty' tz' c' h' tk' F' N' e' s3'; (have hb1' := s3'.1.bits); (have hb2' := s3'.2.1.bits); (have hb3' := s3'.2.2.bits); (try dsimp only); (try k_fold))))

theorem c_jmul_step {w : World} {loose mean mg mb} (k : Nat) (M M' : Int) (hM : M' ≤ 1048576) (hMM : M' ≤ 2 * M ∨ M' ≤ 2) (IH : JmulAt w loose mean mg mb k M) : JmulAt w loose mean mg mb (k + 1) M' := by
  intro p x y z tx ty tz c n tn news hp hsm h0 hn
  unfold GoesX
  k_fill
  intro dp un gd cn cs a ccd cl outer A₀ base h₀ L m s Q E B F X N T hk hdp hu hret
  have hx : Builtin.Int.intBits x ≤ 300 := hsm.1.bits
  have hy : Builtin.Int.intBits y ≤ 300 := hsm.2.1.bits
  have hz : Builtin.Int.intBits z ≤ 300 := hsm.2.2.bits
  refine wpAny_call ?_
  k_dflt ktr_enter
  k_steps
  all_goals refine back3 hret (jm_small hsm _) (by k_asm) (by k_asm) (by k_mem) (by intro q hq; (repeat (first | exact hq | apply List.mem_cons_of_mem))) ?_
  all_goals first
    | exact jm_zero (.inl (by assumption))
    | exact jm_zero (.inr (by omega))
    | (rename n = 1 => h1; subst h1; exact jm_one (by assumption))
    | exact jm_even (by assumption) h0 (by assumption) (by assumption) (by assumption) (by assumption) (Hid.out (by assumption)) (Hid.out (by assumption)) (Hid.out (by assumption))
    | exact jm_odd (by assumption) h0 (by assumption) (by assumption) (by assumption) (by assumption) (Hid.out (by assumption)) (Hid.out (by assumption)) (Hid.out (by assumption)) (Hid.out (by assumption))
theorem c_jmulAt {w : World} {loose mean mg mb} : JmulAt w loose mean mg mb 20 1048576 := by
  have h0 : JmulAt w loose mean mg mb 0 0 := fun _ _ _ _ _ _ _ _ _ _ _ _ _ h0 hn => absurd h0 (by omega)
  have all : ∀ k : Nat, k ≤ 20 → JmulAt w loose mean mg mb k (if k = 0 then 0 else ((2 ^ k : Nat) : Int)) := by
    intro k
    induction k with
    | zero => intro _; simpa using h0
    | succ k ih =>
      intro hk
      have hp : 2 ^ (k + 1) ≤ 2 ^ 20 := Nat.pow_le_pow_right (by decide) hk
      refine c_jmul_step k _ _ ?_ ?_ (ih (by omega))
      · rw [if_neg (by omega)]
        omega
      · rw [if_neg (by omega)]
        split
        · subst_vars; right; decide
        · left; rw [Nat.pow_succ]; omega
  exact all 20 (Nat.le_refl _)
/-- jacobian_multiply by a small factor -/
theorem c_jmul {w : World} {loose mean mg mb} (p : Addr) (x y z : Int) (tx ty tz : Tok) (c : Nat) (n : Int) (tn : Tok) (news : List (Addr × Obj)) (hp : (p, tup3 x y z tx ty tz c) ∈ news) (hsm : Small3 (x, y, z)) (h0 : 0 ≤ n) (hn : n < 1048576) :
    GoesX w loose mean mg mb 86 23 news [.ref p, .int n tn] (Back3 news (jmF (x, y, z) n.toNat)) := c_jmulAt p x y z tx ty tz c n tn news hp hsm h0 hn
/-- jacobian_multiply of the point at infinity -/
theorem c_jmul0 {w : World} {loose mean mg mb} (p : Addr) (x y z : Int) (tx ty tz : Tok) (c : Nat) (n : Int) (tn : Tok) (news : List (Addr × Obj)) (hp : (p, tup3 x y z tx ty tz c) ∈ news) (hy0 : y = 0) :
    GoesX w loose mean mg mb 86 1 news [.ref p, .int n tn] (Back3 news (0, 0, 1)) := by
  unfold GoesX
  k_fill
  intro dp un gd cn cs a ccd cl outer A₀ base h₀ L m s Q E B F X N T hk hdp hu hret
  refine wpAny_call ?_
  k_dflt ktr_enter
  k_steps
  all_goals refine back3 hret ⟨small_zero, small_zero, small_one⟩ (by k_asm) (by k_asm) (by k_mem) (by intro q hq; (repeat (first | exact hq | apply List.mem_cons_of_mem))) ?_
  all_goals first | rfl | (exfalso; omega) | (exfalso; exact absurd hy0 (by assumption))
theorem c_jmulX {w : World} {loose mean mg mb} (p : Addr) (x y z : Int) (tx ty tz : Tok) (c : Nat) (n : Int) (tn : Tok) (news : List (Addr × Obj)) (hp : (p, tup3 x y z tx ty tz c) ∈ news) (hsm : Small3 (x, y, z)) (h : (0 ≤ n ∧ n < 1048576) ∨ y = 0) :
    GoesX w loose mean mg mb 86 23 news [.ref p, .int n tn] (Back3 news (jmF (x, y, z) n.toNat)) := by
  rcases h with ⟨h0, h1⟩ | h
  · exact c_jmul p x y z tx ty tz c n tn news hp hsm h0 h1
  · intro dp un gd cn cs a ccd cl outer A₀ base h₀ L m s Q E B F X N T hk hdp hu hret
    refine c_jmul0 p x y z tx ty tz c n tn news hp h dp un gd cn cs a ccd cl outer A₀ base h₀ L m s Q E B F X N T hk (by omega) (by omega) ?_
    rw [← jm_zero (p := (x, y, z)) (n := n.toNat) (.inl h)] at hret
    exact hret
end Mine
end
section
open PySem PySem.W PySem.Spec PySem.Calls PyProof.Rows
set_option Elab.async false
set_option maxRecDepth 100000
set_option maxHeartbeats 1000000
namespace Mine
local macro_rules | `(tactic| bits_by_make) => `(tactic| first | with_reducible assumption | exact bits_P | exact bits_N | ((with_reducible apply PySem.intBits_pow_le); bits_by_make))
local macro_rules | `(tactic| walk_at "binaryOp Mod int int") => `(tactic| (k_here; (with_reducible refine mod_h ?ka ?kb ?_); (case ka => decide); (case kb => (first | exact Nat.le_trans bits_P (by decide) | exact Nat.le_trans bits_N (by decide) | (exact Nat.le_trans (PySem.intBits_le_64 (by decide) (by decide)) (by decide)))); intro v' t' tk' hv' hb'; (try dsimp only)))
local macro_rules | `(tactic| walk_at "binaryOp Pow int int") => `(tactic| (k_here; (with_reducible first | refine' pow_h2 ?kc ?kd ?_ | refine' pow_h3 ?kc ?kd ?_ | refine' pow_h4 ?kc ?kd ?_); (case kc => bits_by_make); (case kd => decide); intro t' tk'; (try dsimp only)))
local macro_rules | `(tactic| walk_at "binaryOp Mult int int") => `(tactic| (k_here; (with_reducible refine mul_h ?kc ?_); (case kc => mul_fits); intro t' tk'; (try dsimp only)))
local macro_rules | `(tactic| walk_at "binaryOp Add int int") => `(tactic| (k_here; (with_reducible refine add_h ?_); intro t' tk'; (try dsimp only)))
local macro_rules | `(tactic| walk_at "binaryOp Sub int int") => `(tactic| (k_here; (with_reducible refine sub_h ?_); intro t' tk'; (try dsimp only)))
local macro_rules | `(tactic| walk_at "binaryOp Mod int int") => `(tactic| (k_here; (with_reducible show wpAny _ _ (binaryOp Operator.Mod (Value.int _ _) (Value.int 2 _)) _ _ _); (with_reducible refine mod_2 ?_); intro v' t' tk' hv' hb' hb2'; (try dsimp only)))
local macro_rules | `(tactic| walk_at "binaryOp FloorDiv int int") => `(tactic| (k_here; (with_reducible show wpAny _ _ (binaryOp Operator.FloorDiv (Value.int _ _) (Value.int 2 _)) _ _ _); (with_reducible refine half_s ?ka ?_); (case ka => omega); intro v' t' tk' hv' hb' hb2' hb3'; (try dsimp only)))
local macro_rules | `(tactic| k_mem) => `(tactic| assumption)
local macro_rules | `(tactic| bits_by_make) => `(tactic| first | exact InvJ.bits_lm (by assumption) (by assumption) | exact InvJ.bits_low (by assumption) (by assumption) | exact InvJ.bits_high (by assumption) (by assumption))
local macro_rules | `(tactic| walk_at "binaryOp Mod int int") => `(tactic| (k_here; (with_reducible refine' mod_h ?_ ?_ ?_); omega; assumption; intro v' t' tk' hv' hb'; (try dsimp only)))
local macro_rules | `(tactic| walk_at "binaryOp FloorDiv int int") => `(tactic| (k_here; k_dflt (refine div_b (k := 300) (m := 300) (by omega) (InvJ.bits_low (by assumption) (by assumption)) (by decide) (InvJ.bits_high (by assumption) (by assumption)) (by have hJ' := InvJ.hi (by assumption); omega) ?_); intro v' t' tk' hv' hb'; (try dsimp only)))
local macro_rules | `(tactic| walk_at "exec While Compare cons nil") => `(tactic| k_extra "exec While Compare cons nil")
theorem c_inv {w : World} {loose mean mg mb} (a n : Int) (ta tn : Tok) (news : List (Addr × Obj)) (hn1 : 1 < n) (hn : Builtin.Int.intBits n ≤ 300) :
    GoesX w loose mean mg mb 58 1 news [.int a ta, .int n tn] (BackI news (IsInv a n)) := by
  unfold GoesX
  k_fill
  intro dp un gd cn cs a0 ccd cl outer A₀ base h₀ L m s Q E B F X N T hk hdp hu hret
  refine wpAny_call ?_
  k_dflt ktr_enter
  (k_with "exec While Compare cons nil" => k_while (fun _ lm hm low high => InvJ a n lm low hm high) (fun _ lm hm low high => low.toNat) "lm" "hm" "low" "high")
  (k_with "state" => first | exact invJ_start (by assumption) (Hid.out (by assumption)) | exact invJ_step (by assumption) (by omega) (Hid.out (by assumption)))
  (k_with "measure" => exact invJ_less (by assumption) (by omega) (Hid.out (by assumption)))
  k_steps
  all_goals refine backI hret (by k_asm) (by k_asm) (by intro q hq; (repeat (first | exact hq | apply List.mem_cons_of_mem))) ?_
  all_goals first
    | (rename a = 0 => hz; subst hz; exact isInv_zero hn1)
    | (rename Hid _ => hz; rw [hz.out]; exact invJ_end (by assumption) (by assumption))
end Mine
end
section
open PySem PySem.W PySem.Spec PySem.Calls PyProof.Rows
set_option Elab.async false
set_option maxRecDepth 100000
set_option maxHeartbeats 1000000
namespace Mine
local macro_rules | `(tactic| bits_by_make) => `(tactic| first | with_reducible assumption | exact bits_P | exact bits_N | ((with_reducible apply PySem.intBits_pow_le); bits_by_make))
local macro_rules | `(tactic| walk_at "binaryOp Mod int int") => `(tactic| (k_here; (with_reducible refine mod_h ?ka ?kb ?_); (case ka => decide); (case kb => (first | exact Nat.le_trans bits_P (by decide) | exact Nat.le_trans bits_N (by decide) | (exact Nat.le_trans (PySem.intBits_le_64 (by decide) (by decide)) (by decide)))); intro v' t' tk' hv' hb'; (try dsimp only)))
local macro_rules | `(tactic| walk_at "binaryOp Pow int int") => `(tactic| (k_here; (with_reducible first | refine' pow_h2 ?kc ?kd ?_ | refine' pow_h3 ?kc ?kd ?_ | refine' pow_h4 ?kc ?kd ?_); (case kc => bits_by_make); (case kd => decide); intro t' tk'; (try dsimp only)))
local macro_rules | `(tactic| walk_at "binaryOp Mult int int") => `(tactic| (k_here; (with_reducible refine mul_h ?kc ?_); (case kc => mul_fits); intro t' tk'; (try dsimp only)))
local macro_rules | `(tactic| walk_at "binaryOp Add int int") => `(tactic| (k_here; (with_reducible refine add_h ?_); intro t' tk'; (try dsimp only)))
local macro_rules | `(tactic| walk_at "binaryOp Sub int int") => `(tactic| (k_here; (with_reducible refine sub_h ?_); intro t' tk'; (try dsimp only)))
local macro_rules | `(tactic| walk_at "binaryOp Mod int int") => `(tactic| (k_here; (with_reducible show wpAny _ _ (binaryOp Operator.Mod (Value.int _ _) (Value.int 2 _)) _ _ _); (with_reducible refine mod_2 ?_); intro v' t' tk' hv' hb' hb2'; (try dsimp only)))
local macro_rules | `(tactic| walk_at "binaryOp FloorDiv int int") => `(tactic| (k_here; (with_reducible show wpAny _ _ (binaryOp Operator.FloorDiv (Value.int _ _) (Value.int 2 _)) _ _ _); (with_reducible refine half_s ?ka ?_); (case ka => omega); intro v' t' tk' hv' hb' hb2' hb3'; (try dsimp only)))
local macro_rules | `(tactic| k_mem) => `(tactic| assumption)
local macro_rules | `(tactic| walk_at "call builtin:pow") => `(tactic| (k_here; (with_reducible refine' call_pow3_h ?_ ?_ ?_ ?_); (first | decide | decide +kernel | omega); (first | decide | decide +kernel | omega); (first | exact bits_P | exact bits_N); intro v' t' tk' hv' hb'; (try dsimp only)))
theorem lift_small {x par : Int} (hx : Small x) : SmallO (liftF x par) := by
  intro p hp
  unfold liftF at hp
  dsimp only at hp
  split at hp
  · cases hp
  · cases hp
    refine ⟨hx, ?_⟩
    have h1 := powm_nonneg ((x * x * x + 7) % pP) ((pP + 1) / 4) pP
    have h2 := powm_lt (a := (x * x * x + 7) % pP) (n := (pP + 1) / 4) (m := pP) (by decide)
    dsimp only
    split
    · exact ⟨h1, by omega⟩
    · exact ⟨by omega, by omega⟩
theorem c_lifted {w : World} {loose mean mg mb} (x par : Int) (tx tp : Tok) (news : List (Addr × Obj)) (hx : Small x) :
    GoesX w loose mean mg mb 171 1 news [.int x tx, .int par tp] (BackO news (liftF x par)) := by
  unfold GoesX
  k_fill
  intro dp un gd cn cs a0 ccd cl outer A₀ base h₀ L m s Q E B F X N T hk hdp hu hret
  have hxb := hx.bits
  refine wpAny_call ?_
  k_dflt ktr_enter
  k_steps
  all_goals first
    | (refine backO_none hret (by k_asm) (by k_asm) (by intro q hq; (repeat (first | exact hq | apply List.mem_cons_of_mem))) ?_)
    | (refine backO_some hret (lift_small hx) (by k_asm) (by k_asm) (by k_mem) (by intro q hq; (repeat (first | exact hq | apply List.mem_cons_of_mem))) ?_)
  all_goals repeat (rename Hid _ => hz; obtain ⟨hz⟩ := hz; subst hz)
  all_goals unfold liftF
  all_goals dsimp only
  all_goals first
    | (rw [if_pos (by assumption)]; done)
    | (rw [if_neg (by intro h; exact h (by assumption)), if_pos (Eq.trans (Eq.symm (by assumption)) (by assumption))]; rfl)
    | (rw [if_neg (by intro h; exact h (by assumption)), if_neg (by intro h; exact absurd (Eq.trans (by assumption) h) (by assumption))]; rfl)
end Mine
end
section
open PySem PySem.W PySem.Spec PySem.Calls PyProof.Rows
set_option Elab.async false
set_option maxRecDepth 100000
set_option maxHeartbeats 1000000
namespace Mine
local macro_rules | `(tactic| bits_by_make) => `(tactic| first | with_reducible assumption | exact bits_P | exact bits_N | exact bits_gX | exact bits_gY | ((with_reducible apply PySem.intBits_pow_le); bits_by_make))
local macro_rules | `(tactic| walk_at "binaryOp Mod int int") => `(tactic| (k_here; (with_reducible refine mod_h ?ka ?kb ?_); (case ka => decide); (case kb => (first | exact Nat.le_trans bits_P (by decide) | exact Nat.le_trans bits_N (by decide) | (exact Nat.le_trans (PySem.intBits_le_64 (by decide) (by decide)) (by decide)))); intro v' t' tk' hv' hb'; (try dsimp only)))
local macro_rules | `(tactic| walk_at "binaryOp Pow int int") => `(tactic| (k_here; (with_reducible first | refine' pow_h2 ?kc ?kd ?_ | refine' pow_h3 ?kc ?kd ?_ | refine' pow_h4 ?kc ?kd ?_); (case kc => bits_by_make); (case kd => decide); intro t' tk'; (try dsimp only)))
local macro_rules | `(tactic| walk_at "binaryOp Mult int int") => `(tactic| (k_here; (with_reducible refine mul_h ?kc ?_); (case kc => mul_fits); intro t' tk'; (try dsimp only)))
local macro_rules | `(tactic| walk_at "binaryOp Add int int") => `(tactic| (k_here; (with_reducible refine add_h ?_); intro t' tk'; (try dsimp only)))
local macro_rules | `(tactic| walk_at "binaryOp Sub int int") => `(tactic| (k_here; (with_reducible refine sub_h ?_); intro t' tk'; (try dsimp only)))
local macro_rules | `(tactic| walk_at "binaryOp Mod int int") => `(tactic| (k_here; (with_reducible show wpAny _ _ (binaryOp Operator.Mod (Value.int _ _) (Value.int 2 _)) _ _ _); (with_reducible refine mod_2 ?_); intro v' t' tk' hv' hb' hb2'; (try dsimp only)))
local macro_rules | `(tactic| walk_at "binaryOp FloorDiv int int") => `(tactic| (k_here; (with_reducible show wpAny _ _ (binaryOp Operator.FloorDiv (Value.int _ _) (Value.int 2 _)) _ _ _); (with_reducible refine half_s ?ka ?_); (case ka => omega); intro v' t' tk' hv' hb' hb2' hb3'; (try dsimp only)))
local macro_rules | `(tactic| k_mem) => `(tactic| assumption)
local macro_rules | `(tactic| walk_at "call builtin:pow") => `(tactic| (k_here; (with_reducible refine' call_pow3_h ?_ ?_ ?_ ?_); (first | decide | decide +kernel | omega); (first | decide | decide +kernel | omega); (first | exact bits_P | exact bits_N); intro v' t' tk' hv' hb'; (try dsimp only)))
local macro_rules | `(tactic| walk_at "call builtin:pow") => `(tactic| (k_here; (with_reducible refine' call_pow3_P ?_ ?_); (first | decide | decide +kernel | omega); intro v' t' tk' hv' hb' hs'; (try dsimp only)))
local macro_rules | `(tactic| walk_at "binaryOp Mod int int") => `(tactic| (k_here; (with_reducible refine mod_hP ?_); intro v' t' tk' hv' hb' hs'; (try dsimp only)))
local macro_rules | `(tactic| walk_at "call ref") => `(tactic| (k_here; (with_reducible show wpAny _ _ (call (Value.ref 58) [Value.int _ _, Value.int _ _]) _ _ _); k_dflt (refine goes_use (by k_asm) (by k_asm) (by k_asm) (by k_asm) (by k_asm) (by first | exact rfl | assumption) (c_inv _ _ _ _ _ (by first | decide | decide +kernel | omega) (by first | exact Nat.le_trans bits_P (by decide) | exact Nat.le_trans bits_N (by decide))) (by ktr_room) (by ktr_units) ?_; k_whole; intro i' t' h' tk' F' N' e'; (have e9' := Hid.mk e'); clear e'; (have hb9' := IsInv.bits e9'.out (by first | exact Nat.le_trans bits_P (by decide) | exact Nat.le_trans bits_N (by decide))); (try dsimp only); (try k_fold))))
/-- from_jacobian's two coordinates -/
def IsAffOf (p : Jac) (q : Aff) : Prop := ∃ z, IsInv p.2.2 pP z ∧ q = (p.1 * z ^ 2 % pP, p.2.1 * z ^ 3 % pP)
theorem c_fromJ {w : World} {loose mean mg mb} (p : Addr) (x y z : Int) (tx ty tz : Tok) (c : Nat) (news : List (Addr × Obj)) (hp : (p, tup3 x y z tx ty tz c) ∈ news) (hsm : Small3 (x, y, z)) :
    GoesX w loose mean mg mb 79 2 news [.ref p] (Back2 news (IsAffOf (x, y, z))) := by
  unfold GoesX
  k_fill
  intro dp un gd cn cs a ccd cl outer A₀ base h₀ L m s Q E B F X N T hk hdp hu hret
  have hx : Builtin.Int.intBits x ≤ 300 := hsm.1.bits
  have hy : Builtin.Int.intBits y ≤ 300 := hsm.2.1.bits
  have hz : Builtin.Int.intBits z ≤ 300 := hsm.2.2.bits
  refine wpAny_call ?_
  k_dflt ktr_enter
  k_steps
  all_goals refine back2 hret (by k_asm) (by k_asm) (by k_mem) (by intro q hq; (repeat (first | exact hq | apply List.mem_cons_of_mem))) ?_
  all_goals (rename Hid (IsInv _ _ _) => hj; obtain ⟨hj⟩ := hj)
  all_goals repeat (rename Hid _ => hz; obtain ⟨hz⟩ := hz; subst hz)
  all_goals exact ⟨_, hj, rfl⟩
local macro_rules | `(tactic| walk_at "compareOp In ref ref") => `(tactic| (k_here; k_dflt (refine in_ids (by k_in) (News.get (by k_asm) (by k_mem)) (by ktr_units) ?_)))
theorem c_isId {w : World} {loose mean mg mb} (p : Addr) (x y z : Int) (tx ty tz : Tok) (c : Nat) (news : List (Addr × Obj)) (hp : (p, tup3 x y z tx ty tz c) ∈ news) :
    GoesX w loose mean mg mb 93 12 news [.ref p] (BackB news (isIdF (x, y, z))) := by
  unfold GoesX
  k_fill
  intro dp un gd cn cs a ccd cl outer A₀ base h₀ L m s Q E B F X N T hk hdp hu hret
  refine wpAny_call ?_
  k_dflt ktr_enter
  k_steps
  refine backB hret (by k_asm) (by k_asm) (by intro q hq; (repeat (first | exact hq | apply List.mem_cons_of_mem))) rfl
end Mine
end
section
open PySem PySem.W PySem.Spec PySem.Calls PyProof.Rows
set_option Elab.async false
set_option maxRecDepth 100000
set_option maxHeartbeats 1000000
namespace Mine
local macro_rules | `(tactic| walk_at "pad") => `(tactic| skip)
local macro_rules | `(tactic| bits_by_make) => `(tactic| first | with_reducible assumption | exact bits_P | exact bits_N | exact bits_gX | exact bits_gY | ((with_reducible apply PySem.intBits_pow_le); bits_by_make))
local macro_rules | `(tactic| walk_at "binaryOp Mod int int") => `(tactic| (k_here; (with_reducible refine mod_h ?ka ?kb ?_); (case ka => decide); (case kb => (first | exact Nat.le_trans bits_P (by decide) | exact Nat.le_trans bits_N (by decide) | (exact Nat.le_trans (PySem.intBits_le_64 (by decide) (by decide)) (by decide)))); intro v' t' tk' hv' hb'; (try dsimp only)))
local macro_rules | `(tactic| walk_at "binaryOp Pow int int") => `(tactic| (k_here; (with_reducible first | refine' pow_h2 ?kc ?kd ?_ | refine' pow_h3 ?kc ?kd ?_ | refine' pow_h4 ?kc ?kd ?_); (case kc => bits_by_make); (case kd => decide); intro t' tk'; (try dsimp only)))
local macro_rules | `(tactic| walk_at "binaryOp Mult int int") => `(tactic| (k_here; (with_reducible refine mul_h ?kc ?_); (case kc => mul_fits); intro t' tk'; (try dsimp only)))
local macro_rules | `(tactic| walk_at "binaryOp Add int int") => `(tactic| (k_here; (with_reducible refine add_h ?_); intro t' tk'; (try dsimp only)))
local macro_rules | `(tactic| walk_at "binaryOp Sub int int") => `(tactic| (k_here; (with_reducible refine sub_h ?_); intro t' tk'; (try dsimp only)))
local macro_rules | `(tactic| walk_at "binaryOp Mod int int") => `(tactic| (k_here; (with_reducible show wpAny _ _ (binaryOp Operator.Mod (Value.int _ _) (Value.int 2 _)) _ _ _); (with_reducible refine mod_2 ?_); intro v' t' tk' hv' hb' hb2'; (try dsimp only)))
local macro_rules | `(tactic| walk_at "binaryOp FloorDiv int int") => `(tactic| (k_here; (with_reducible show wpAny _ _ (binaryOp Operator.FloorDiv (Value.int _ _) (Value.int 2 _)) _ _ _); (with_reducible refine half_s ?ka ?_); (case ka => omega); intro v' t' tk' hv' hb' hb2' hb3'; (try dsimp only)))
local macro_rules | `(tactic| k_mem) => `(tactic| assumption)
local macro_rules | `(tactic| walk_at "call builtin:pow") => `(tactic| (k_here; (with_reducible refine' call_pow3_h ?_ ?_ ?_ ?_); (first | decide | decide +kernel | omega); (first | decide | decide +kernel | omega); (first | exact bits_P | exact bits_N); intro v' t' tk' hv' hb'; (try dsimp only)))
local macro_rules | `(tactic| walk_at "call builtin:pow") => `(tactic| (k_here; (with_reducible refine' call_pow3_P ?_ ?_); (first | decide | decide +kernel | omega); intro v' t' tk' hv' hb' hs'; (try dsimp only)))
local macro_rules | `(tactic| walk_at "binaryOp Mod int int") => `(tactic| (k_here; (with_reducible refine mod_hP ?_); intro v' t' tk' hv' hb' hs'; (try dsimp only)))
local macro_rules | `(tactic| walk_at "subscriptTail") => `(tactic| (k_here; (with_reducible show wpAny _ _ (subscriptTail _ _ (Value.ref _) (Value.int 0 _)) _ _ _); k_dflt (refine pt_item0 (by with_reducible assumption) (by k_asm) (by k_asm) (by k_asm) (by intro q hq; (repeat (first | exact hq | apply List.mem_append_right | apply List.mem_cons_of_mem))) ?_); intro t'; (try dsimp only)))
local macro_rules | `(tactic| walk_at "subscriptTail") => `(tactic| (k_here; (with_reducible show wpAny _ _ (subscriptTail _ _ (Value.ref _) (Value.int 1 _)) _ _ _); k_dflt (refine pt_item1 (by with_reducible assumption) (by k_asm) (by k_asm) (by k_asm) (by intro q hq; (repeat (first | exact hq | apply List.mem_append_right | apply List.mem_cons_of_mem))) ?_); intro t'; (try dsimp only)))
theorem c_sum {w : World} {loose mean mg mb} (v1 v2 : Value) (o1 o2 : Option Aff) (news : List (Addr × Obj)) (H1 : OptAt news v1 o1) (H2 : OptAt news v2 o2) (S1 : SmallO o1) (S2 : SmallO o2) :
    GoesX w loose mean mg mb 143 1 news [v1, v2] (BackO news (lsF o1 o2)) := by
  unfold GoesX
  k_fill
  intro dp un gd cn cs a0 ccd cl outer A₀ base h₀ L m s Q E B F X N T hk hdp hu hret
  have hsm := sum_small S1 S2
  rcases o1 with _ | ⟨x1, y1⟩ <;> rcases o2 with _ | ⟨x2, y2⟩
  · obtain rfl := H1
    obtain rfl := H2
    refine wpAny_call ?_
    k_dflt ktr_enter
    k_steps
    refine backO_none hret (by k_asm) (by k_asm) (by intro q hq; (repeat (first | exact hq | apply List.mem_cons_of_mem))) rfl
  · obtain rfl := H1
    obtain ⟨D2, rfl, P2⟩ := H2.pt
    refine wpAny_call ?_
    k_dflt ktr_enter
    k_steps
    exact backO_at hret hsm (by k_asm) (by k_asm) (by intro q hq; (repeat (first | exact hq | apply List.mem_cons_of_mem))) (OptAt.mono P2.opt (by intro q hq; (repeat (first | exact hq | apply List.mem_cons_of_mem))))
  · obtain rfl := H2
    obtain ⟨D1, rfl, P1⟩ := H1.pt
    refine wpAny_call ?_
    k_dflt ktr_enter
    k_steps
    exact backO_at hret hsm (by k_asm) (by k_asm) (by intro q hq; (repeat (first | exact hq | apply List.mem_cons_of_mem))) (OptAt.mono P1.opt (by intro q hq; (repeat (first | exact hq | apply List.mem_cons_of_mem))))
  · have b1 := (S1 _ rfl).1.bits
    have b2 := (S1 _ rfl).2.bits
    have b3 := (S2 _ rfl).1.bits
    have b4 := (S2 _ rfl).2.bits
    obtain ⟨D1, rfl, P1⟩ := H1.pt
    obtain ⟨D2, rfl, P2⟩ := H2.pt
    clear H1 H2
    refine wpAny_call ?_
    k_dflt ktr_enter
    k_steps
    all_goals first
      | (refine backO_none hret (by k_asm) (by k_asm) (by intro q hq; (repeat (first | exact hq | apply List.mem_cons_of_mem))) ?_)
      | (refine backO_some hret hsm (by k_asm) (by k_asm) (by k_mem) (by intro q hq; (repeat (first | exact hq | apply List.mem_cons_of_mem))) ?_)
    all_goals repeat (rename Hid _ => hz; obtain ⟨hz⟩ := hz; subst hz)
    all_goals simp only [lsF]
    all_goals first
      | (rw [if_pos (by assumption), if_pos (by assumption)]; done)
      | (rw [if_pos (by assumption), if_neg (by assumption)]; rfl)
      | (rw [if_neg (by assumption)]; rfl)
end Mine
end
section
open PySem PySem.W PySem.Spec PySem.Calls PyProof.Rows
set_option Elab.async false
set_option maxRecDepth 100000
set_option maxHeartbeats 1000000
namespace Mine
local macro_rules | `(tactic| bits_by_make) => `(tactic| first | with_reducible assumption | exact bits_P | exact bits_N | ((with_reducible apply PySem.intBits_pow_le); bits_by_make))
local macro_rules | `(tactic| walk_at "binaryOp Mod int int") => `(tactic| (k_here; (with_reducible refine mod_h ?ka ?kb ?_); (case ka => decide); (case kb => (first | exact Nat.le_trans bits_P (by decide) | exact Nat.le_trans bits_N (by decide) | (exact Nat.le_trans (PySem.intBits_le_64 (by decide) (by decide)) (by decide)))); intro v' t' tk' hv' hb'; (try dsimp only)))
local macro_rules | `(tactic| walk_at "binaryOp Pow int int") => `(tactic| (k_here; (with_reducible first | refine' pow_h2 ?kc ?kd ?_ | refine' pow_h3 ?kc ?kd ?_ | refine' pow_h4 ?kc ?kd ?_); (case kc => bits_by_make); (case kd => decide); intro t' tk'; (try dsimp only)))
local macro_rules | `(tactic| walk_at "binaryOp Mult int int") => `(tactic| (k_here; (with_reducible refine mul_h ?kc ?_); (case kc => mul_fits); intro t' tk'; (try dsimp only)))
local macro_rules | `(tactic| walk_at "binaryOp Add int int") => `(tactic| (k_here; (with_reducible refine add_h ?_); intro t' tk'; (try dsimp only)))
local macro_rules | `(tactic| walk_at "binaryOp Sub int int") => `(tactic| (k_here; (with_reducible refine sub_h ?_); intro t' tk'; (try dsimp only)))
local macro_rules | `(tactic| walk_at "binaryOp Mod int int") => `(tactic| (k_here; (with_reducible show wpAny _ _ (binaryOp Operator.Mod (Value.int _ _) (Value.int 2 _)) _ _ _); (with_reducible refine mod_2 ?_); intro v' t' tk' hv' hb' hb2'; (try dsimp only)))
local macro_rules | `(tactic| walk_at "binaryOp FloorDiv int int") => `(tactic| (k_here; (with_reducible show wpAny _ _ (binaryOp Operator.FloorDiv (Value.int _ _) (Value.int 2 _)) _ _ _); (with_reducible refine half_s ?ka ?_); (case ka => omega); intro v' t' tk' hv' hb' hb2' hb3'; (try dsimp only)))
local macro_rules | `(tactic| k_mem) => `(tactic| assumption)
local macro_rules | `(tactic| walk_at "call builtin:pow") => `(tactic| (k_here; (with_reducible refine' call_pow3_h ?_ ?_ ?_ ?_); (first | decide | decide +kernel | omega); (first | decide | decide +kernel | omega); (first | exact bits_P | exact bits_N); intro v' t' tk' hv' hb'; (try dsimp only)))
local macro_rules | `(tactic| walk_at "call ref") => `(tactic| (k_here; (with_reducible show wpAny _ _ (call (Value.ref 143) [_, _]) _ _ _); k_dflt (refine goes_use (by k_asm) (by k_asm) (by k_asm) (by k_asm) (by k_asm) (by first | exact rfl | assumption) (c_sum _ _ _ _ _ (by first | assumption | (refine OptAt.mono (by assumption) ?_; intro q hq; (repeat (first | exact hq | apply List.mem_append_right | apply List.mem_cons_of_mem)))) (by first | assumption | (refine OptAt.mono (by assumption) ?_; intro q hq; (repeat (first | exact hq | apply List.mem_append_right | apply List.mem_cons_of_mem)))) (by assumption) (by assumption)) (by ktr_room) (by ktr_units) ?_; k_whole; intro v9' tl9' h' tk' F' N' o9' s9'; (try dsimp only); (try k_fold))))
local macro_rules | `(tactic| walk_at "exec While Compare cons nil") => `(tactic| k_extra "exec While Compare cons nil")
theorem c_times {w : World} {loose mean mg mb} (vp : Value) (op : Option Aff) (n : Int) (tn : Tok) (news : List (Addr × Obj)) (H1 : OptAt news vp op) (S1 : SmallO op) (h0 : 0 ≤ n) :
    GoesX w loose mean mg mb 150 2 news [vp, .int n tn] (BackO news (ltF none op n.toNat)) := by
  unfold GoesX
  k_fill
  intro dp un gd cn cs a0 ccd cl outer A₀ base h₀ L m s Q E B F X N T hk hdp hu hret
  have hsm := times_small n.toNat small_none S1
  generalize hval : ltF none op n.toNat = val at hret hsm
  refine wpAny_call ?_
  k_dflt ktr_enter
  (k_with "exec While Compare cons nil" => ((rename Fr _ _ _ _ => lF'); (rename News _ _ _ _ => lN'); refine ksw_while TimesLed TimesPs (TimesFacts news val) [Str.ofString "found", Str.ofString "point", Str.ofString "many"] (fun _ => True) (fun c => c.2.2.2.1.toNat) (.none, vp, news, n, tn) lF' lN' ⟨fun _ h => h, h0, none, op, rfl, H1, small_none, S1, hval⟩ (by kst_all) True.intro ?_; clear lF' lN'; intro c u kH kTk kFacts kInv kFr kNews; obtain ⟨vf, vq, tl, k, tk⟩ := c; obtain ⟨kSub, kPos, f, p, kO1, kO2, kS1, kS2, kV⟩ := kFacts; dsimp only [TimesLed, TimesPs] at kNews kFr kPos kO1 kO2 kSub kV; try k_fold))
  k_steps
  all_goals first
    | (have e := times_end kV (by omega)
       subst e
       exact backO_at hret hsm (by k_asm) (by k_asm) kSub kO1)
    | (refine ksw_end (σ := TimesSt) (_, _, _, _, _) (by k_asm) (by k_asm) (fun _ h => h) ?_ (by kst_all) (by intro z h2 h3; have q1 : z ≠ Str.ofString "found" := h2 _ (.head _); have q2 : z ≠ Str.ofString "point" := h2 _ (.tail _ (.head _)); have q3 : z ≠ Str.ofString "many" := h2 _ (.tail _ (.tail _ (.head _))); simp [q1, q2, q3, kstB]) True.intro ?_; exact ⟨(by intro q hq; have hq := kSub q hq; (repeat (first | exact hq | apply List.mem_append_right | apply List.mem_cons_of_mem))), by dsimp only; omega, _, _, (by first | assumption | (refine OptAt.mono (by assumption) ?_; intro q hq; (repeat (first | exact hq | apply List.mem_append_right | apply List.mem_cons_of_mem)))), (by first | assumption | (refine OptAt.mono (by assumption) ?_; intro q hq; (repeat (first | exact hq | apply List.mem_append_right | apply List.mem_cons_of_mem)))), by assumption, by assumption, times_odd kV (by omega) (by assumption) (by assumption) (Hid.out (by assumption))⟩; (dsimp only; omega))
    | (refine ksw_end (σ := TimesSt) (_, _, _, _, _) (by k_asm) (by k_asm) (fun _ h => h) ?_ (by kst_all) (by intro z h2 h3; have q1 : z ≠ Str.ofString "found" := h2 _ (.head _); have q2 : z ≠ Str.ofString "point" := h2 _ (.tail _ (.head _)); have q3 : z ≠ Str.ofString "many" := h2 _ (.tail _ (.tail _ (.head _))); simp [q1, q2, q3, kstB]) True.intro ?_; exact ⟨(by intro q hq; have hq := kSub q hq; (repeat (first | exact hq | apply List.mem_append_right | apply List.mem_cons_of_mem))), by dsimp only; omega, _, _, (by first | assumption | (refine OptAt.mono (by assumption) ?_; intro q hq; (repeat (first | exact hq | apply List.mem_append_right | apply List.mem_cons_of_mem)))), (by first | assumption | (refine OptAt.mono (by assumption) ?_; intro q hq; (repeat (first | exact hq | apply List.mem_append_right | apply List.mem_cons_of_mem)))), by assumption, by assumption, times_even kV (by omega) (by assumption) (by assumption) (Hid.out (by assumption))⟩; (dsimp only; omega))
end Mine
end
section
open PySem PySem.W PySem.Spec PySem.Calls PyProof.Rows
set_option Elab.async false
set_option maxRecDepth 100000
set_option maxHeartbeats 1000000
namespace Mine
local macro_rules | `(tactic| bits_by_make) => `(tactic| first | with_reducible assumption | exact bits_P | exact bits_N | ((with_reducible apply PySem.intBits_pow_le); bits_by_make))
local macro_rules | `(tactic| walk_at "binaryOp Mod int int") => `(tactic| (k_here; (with_reducible refine mod_h ?ka ?kb ?_); (case ka => decide); (case kb => (first | exact Nat.le_trans bits_P (by decide) | exact Nat.le_trans bits_N (by decide) | (exact Nat.le_trans (PySem.intBits_le_64 (by decide) (by decide)) (by decide)))); intro v' t' tk' hv' hb'; (try dsimp only)))
local macro_rules | `(tactic| walk_at "binaryOp Pow int int") => `(tactic| (k_here; (with_reducible first | refine' pow_h2 ?kc ?kd ?_ | refine' pow_h3 ?kc ?kd ?_ | refine' pow_h4 ?kc ?kd ?_); (case kc => bits_by_make); (case kd => decide); intro t' tk'; (try dsimp only)))
local macro_rules | `(tactic| walk_at "binaryOp Mult int int") => `(tactic| (k_here; (with_reducible refine mul_h ?kc ?_); (case kc => mul_fits); intro t' tk'; (try dsimp only)))
local macro_rules | `(tactic| walk_at "binaryOp Add int int") => `(tactic| (k_here; (with_reducible refine add_h ?_); intro t' tk'; (try dsimp only)))
local macro_rules | `(tactic| walk_at "binaryOp Sub int int") => `(tactic| (k_here; (with_reducible refine sub_h ?_); intro t' tk'; (try dsimp only)))
local macro_rules | `(tactic| walk_at "binaryOp Mod int int") => `(tactic| (k_here; (with_reducible show wpAny _ _ (binaryOp Operator.Mod (Value.int _ _) (Value.int 2 _)) _ _ _); (with_reducible refine mod_2 ?_); intro v' t' tk' hv' hb' hb2'; (try dsimp only)))
local macro_rules | `(tactic| walk_at "binaryOp FloorDiv int int") => `(tactic| (k_here; (with_reducible show wpAny _ _ (binaryOp Operator.FloorDiv (Value.int _ _) (Value.int 2 _)) _ _ _); (with_reducible refine half_s ?ka ?_); (case ka => omega); intro v' t' tk' hv' hb' hb2' hb3'; (try dsimp only)))
local macro_rules | `(tactic| k_mem) => `(tactic| assumption)
local macro_rules | `(tactic| walk_at "call builtin:pow") => `(tactic| (k_here; (with_reducible refine' call_pow3_h ?_ ?_ ?_ ?_); (first | decide | decide +kernel | omega); (first | decide | decide +kernel | omega); (first | exact bits_P | exact bits_N); intro v' t' tk' hv' hb'; (try dsimp only)))
local macro_rules | `(tactic| walk_at "call builtin:int.to_bytes") => `(tactic| (k_here; k_dflt (refine to_bytes_r (by first | decide | exact ib_nonneg _ | omega) (by first | decide | exact ib_bound (by assumption) | omega) (by first | assumption | omega) (by first | assumption | exact ib_zero (by assumption) (by assumption) | exact ib_pos (by assumption) | omega) ?_); intro t' k'; (try dsimp only)))
local macro_rules | `(tactic| walk_at "call ref") => `(tactic| (k_here; (with_reducible show wpAny _ _ (call (Value.ref _) [Value.bytes _ _, Value.str _ _]) _ _ _); k_dflt (refine from_bytes_r (by k_asm) (by k_mem) (by with_reducible assumption) ?_); intro t' k'; (try dsimp only)))
local macro_rules | `(tactic| walk_at "getMethod bytes") => `(tactic| (k_here; (with_reducible first | refine meth_rjust ?_ | refine meth_join ?_)))
local macro_rules | `(tactic| walk_at "call builtin:bytes.rjust") => `(tactic| (k_here; k_dflt (refine rjust_r (by with_reducible assumption) ?_); intro t' k'; (try dsimp only)))
local macro_rules | `(tactic| walk_at "call builtin:bytes.join") => `(tactic| (k_here; k_dflt (refine join_r (News.get (by k_asm) (by k_mem)) (by first | exact small_oct _ | with_reducible assumption) (by first | exact small_oct _ | with_reducible assumption) ?_); intro t' k'; (try dsimp only)))
theorem c_octets {w : World} {loose mean mg mb} (x : Int) (tx : Tok) (news : List (Addr × Obj)) (h0 : 0 ≤ x) (h1 : x < 256 ^ (32 : Int).toNat) :
    GoesX w loose mean mg mb 157 1 news [.int x tx] (BackY news (octF x)) := by
  unfold GoesX
  k_fill
  intro dp un gd cn cs a0 ccd cl outer A₀ base h₀ L m s Q E B F X N T hk hdp hu hret
  refine wpAny_call ?_
  k_dflt ktr_enter
  k_steps
  all_goals exact backY hret (by k_asm) (by k_asm) (by intro q hq; (repeat (first | exact hq | apply List.mem_cons_of_mem))) (by unfold octF; rfl)
theorem c_be {w : World} {loose mean mg mb} (b : Array UInt8) (tx : Tok) (news : List (Addr × Obj)) (h0 : b.size ≤ 1000) :
    GoesX w loose mean mg mb 21 1 news [.bytes b tx] (BackI news (fun i => i = fromBe b)) := by
  unfold GoesX
  k_fill
  intro dp un gd cn cs a0 ccd cl outer A₀ base h₀ L m s Q E B F X N T hk hdp hu hret
  refine wpAny_call ?_
  k_dflt ktr_enter
  k_steps
  all_goals exact backI hret (by k_asm) (by k_asm) (by intro q hq; (repeat (first | exact hq | apply List.mem_cons_of_mem))) rfl
theorem c_intbe {w : World} {loose mean mg mb} (x : Int) (tx : Tok) (news : List (Addr × Obj)) (h0 : 0 ≤ x) (hb : Builtin.Int.intBits x ≤ 300) :
    GoesX w loose mean mg mb 28 1 news [.int x tx] (BackY news (ibF x)) := by
  unfold GoesX
  k_fill
  intro dp un gd cn cs a0 ccd cl outer A₀ base h₀ L m s Q E B F X N T hk hdp hu hret
  refine wpAny_call ?_
  k_dflt ktr_enter
  k_steps
  all_goals refine backY hret (by k_asm) (by k_asm) (by intro q hq; (repeat (first | exact hq | apply List.mem_cons_of_mem))) ?_
  all_goals unfold ibF ibK
  all_goals first
    | (rw [if_pos (by assumption)]; done)
    | (rw [if_neg (by assumption)])
theorem c_pad {w : World} {loose mean mg mb} (b : Array UInt8) (tx : Tok) (news : List (Addr × Obj)) (h0 : b.size ≤ 32) :
    GoesX w loose mean mg mb 51 1 news [.bytes b tx] (BackY news (Array.replicate (32 - b.size) 0 ++ b)) := by
  unfold GoesX
  k_fill
  intro dp un gd cn cs a0 ccd cl outer A₀ base h₀ L m s Q E B F X N T hk hdp hu hret
  refine wpAny_call ?_
  k_dflt ktr_enter
  k_steps
  all_goals exact backY hret (by k_asm) (by k_asm) (by intro q hq; (repeat (first | exact hq | apply List.mem_cons_of_mem))) rfl
theorem Small.lt {x : Int} (h : Small x) : x < 2 ^ 256 := Int.lt_of_le_of_lt h.2 (by decide)
theorem c_octets2 {w : World} {loose mean mg mb} (x : Int) (tx : Tok) (news : List (Addr × Obj)) (h0 : Small x) :
    GoesX w loose mean mg mb 157 1 news [.int x tx] (BackY news (octF x)) := c_octets x tx news h0.1 (by rw [show (256 : Int) ^ (32 : Int).toNat = 2 ^ 256 by decide]; exact h0.lt)
theorem c_padib {w : World} {loose mean mg mb} (x : Int) (tx : Tok) (news : List (Addr × Obj)) (h0 : Small x) :
    GoesX w loose mean mg mb 51 1 news [.bytes (ibF x) tx] (BackY news (octF x)) := by
  have h := c_pad (w := w) (loose := loose) (mean := mean) (mg := mg) (mb := mb) (ibF x) tx news (ib_size h0.1 h0.lt)
  rw [pad_ib h0.1 h0.lt] at h
  exact h
theorem c_intbe2 {w : World} {loose mean mg mb} (x : Int) (tx : Tok) (news : List (Addr × Obj)) (h0 : Small x) :
    GoesX w loose mean mg mb 28 1 news [.int x tx] (BackY news (ibF x)) := c_intbe x tx news h0.1 h0.bits
theorem small_oct (x : Int) : (octF x).size ≤ 1000 := by rw [oct_size]; decide
theorem c_beo {w : World} {loose mean mg mb} (x : Int) (tx : Tok) (news : List (Addr × Obj)) (h0 : Small x) :
    GoesX w loose mean mg mb 21 1 news [.bytes (octF x) tx] (BackI news (fun i => i = x)) := by
  have h := c_be (w := w) (loose := loose) (mean := mean) (mg := mg) (mb := mb) (octF x) tx news (small_oct x)
  rw [from_oct h0.1 h0.lt] at h
  exact h
end Mine
end
section
open PySem PySem.W PySem.Spec PySem.Calls PyProof.Rows
set_option Elab.async false
set_option maxRecDepth 100000
set_option maxHeartbeats 1000000
namespace Mine
local macro_rules | `(tactic| bits_by_make) => `(tactic| first | with_reducible assumption | exact bits_P | exact bits_N | ((with_reducible apply PySem.intBits_pow_le); bits_by_make))
local macro_rules | `(tactic| walk_at "binaryOp Mod int int") => `(tactic| (k_here; (with_reducible refine mod_h ?ka ?kb ?_); (case ka => decide); (case kb => (first | exact Nat.le_trans bits_P (by decide) | exact Nat.le_trans bits_N (by decide) | (exact Nat.le_trans (PySem.intBits_le_64 (by decide) (by decide)) (by decide)))); intro v' t' tk' hv' hb'; (try dsimp only)))
local macro_rules | `(tactic| walk_at "binaryOp Pow int int") => `(tactic| (k_here; (with_reducible first | refine' pow_h2 ?kc ?kd ?_ | refine' pow_h3 ?kc ?kd ?_ | refine' pow_h4 ?kc ?kd ?_); (case kc => bits_by_make); (case kd => decide); intro t' tk'; (try dsimp only)))
local macro_rules | `(tactic| walk_at "binaryOp Mult int int") => `(tactic| (k_here; (with_reducible refine mul_h ?kc ?_); (case kc => mul_fits); intro t' tk'; (try dsimp only)))
local macro_rules | `(tactic| walk_at "binaryOp Add int int") => `(tactic| (k_here; (with_reducible refine add_h ?_); intro t' tk'; (try dsimp only)))
local macro_rules | `(tactic| walk_at "binaryOp Sub int int") => `(tactic| (k_here; (with_reducible refine sub_h ?_); intro t' tk'; (try dsimp only)))
local macro_rules | `(tactic| walk_at "binaryOp Mod int int") => `(tactic| (k_here; (with_reducible show wpAny _ _ (binaryOp Operator.Mod (Value.int _ _) (Value.int 2 _)) _ _ _); (with_reducible refine mod_2 ?_); intro v' t' tk' hv' hb' hb2'; (try dsimp only)))
local macro_rules | `(tactic| walk_at "binaryOp FloorDiv int int") => `(tactic| (k_here; (with_reducible show wpAny _ _ (binaryOp Operator.FloorDiv (Value.int _ _) (Value.int 2 _)) _ _ _); (with_reducible refine half_s ?ka ?_); (case ka => omega); intro v' t' tk' hv' hb' hb2' hb3'; (try dsimp only)))
local macro_rules | `(tactic| k_mem) => `(tactic| assumption)
local macro_rules | `(tactic| walk_at "call builtin:pow") => `(tactic| (k_here; (with_reducible refine' call_pow3_h ?_ ?_ ?_ ?_); (first | decide | decide +kernel | omega); (first | decide | decide +kernel | omega); (first | exact bits_P | exact bits_N); intro v' t' tk' hv' hb'; (try dsimp only)))
local macro_rules | `(tactic| walk_at "call builtin:pow") => `(tactic| (k_here; (with_reducible refine' call_pow3_P ?_ ?_); (first | decide | decide +kernel | omega); intro v' t' tk' hv' hb' hs'; (try dsimp only)))
local macro_rules | `(tactic| walk_at "binaryOp Mod int int") => `(tactic| (k_here; (with_reducible refine mod_hP ?_); intro v' t' tk' hv' hb' hs'; (try dsimp only)))
local macro_rules | `(tactic| walk_at "call ref") => `(tactic| (k_here; (with_reducible show wpAny _ _ (call (Value.ref 157) [Value.int _ _]) _ _ _); k_dflt (refine goes_use (by k_asm) (by k_asm) (by k_asm) (by k_asm) (by k_asm) (by first | exact rfl | assumption) (c_octets2 _ _ _ (by with_reducible assumption)) (by ktr_room) (by ktr_units) ?_; k_whole; intro t' h' tk' F' N'; (try dsimp only); (try k_fold))))
local macro_rules | `(tactic| walk_at "call ref") => `(tactic| (k_here; (with_reducible show wpAny _ _ (call (Value.ref 21) [Value.bytes _ _]) _ _ _); k_dflt (refine goes_use (by k_asm) (by k_asm) (by k_asm) (by k_asm) (by k_asm) (by first | exact rfl | assumption) (c_be _ _ _ (by first | exact small_oct _ | with_reducible assumption)) (by ktr_room) (by ktr_units) ?_; k_whole; intro i' t' h' tk' F' N' e'; subst e'; (try dsimp only); (try k_fold))))
local macro_rules | `(tactic| walk_at "call ref") => `(tactic| (k_here; (with_reducible show wpAny _ _ (call (Value.ref 21) [Value.bytes (octF _) _]) _ _ _); k_dflt (refine goes_use (by k_asm) (by k_asm) (by k_asm) (by k_asm) (by k_asm) (by first | exact rfl | assumption) (c_beo _ _ _ (by with_reducible assumption)) (by ktr_room) (by ktr_units) ?_; k_whole; intro i' t' h' tk' F' N' e'; subst e'; (try dsimp only); (try k_fold))))
local macro_rules | `(tactic| walk_at "call ref") => `(tactic| (k_here; (with_reducible show wpAny _ _ (call (Value.ref 28) [Value.int _ _]) _ _ _); k_dflt (refine goes_use (by k_asm) (by k_asm) (by k_asm) (by k_asm) (by k_asm) (by first | exact rfl | assumption) (c_intbe2 _ _ _ (by with_reducible assumption)) (by ktr_room) (by ktr_units) ?_; k_whole; intro t' h' tk' F' N'; (try dsimp only); (try k_fold))))
local macro_rules | `(tactic| walk_at "call ref") => `(tactic| (k_here; (with_reducible show wpAny _ _ (call (Value.ref 51) [Value.bytes (ibF _) _]) _ _ _); k_dflt (refine goes_use (by k_asm) (by k_asm) (by k_asm) (by k_asm) (by k_asm) (by first | exact rfl | assumption) (c_padib _ _ _ (by with_reducible assumption)) (by ktr_room) (by ktr_units) ?_; k_whole; intro t' h' tk' F' N'; (try dsimp only); (try k_fold))))
local macro_rules | `(tactic| walk_at "call builtin:int.to_bytes") => `(tactic| (k_here; k_dflt (refine to_bytes_r (by first | decide | exact ib_nonneg _ | omega) (by first | decide | exact ib_bound (by assumption) | omega) (by first | assumption | omega) (by first | assumption | exact ib_zero (by assumption) (by assumption) | exact ib_pos (by assumption) | omega) ?_); intro t' k'; (try dsimp only)))
local macro_rules | `(tactic| walk_at "call ref") => `(tactic| (k_here; (with_reducible show wpAny _ _ (call (Value.ref _) [Value.bytes _ _, Value.str _ _]) _ _ _); k_dflt (refine from_bytes_r (by k_asm) (by k_mem) (by with_reducible assumption) ?_); intro t' k'; (try dsimp only)))
local macro_rules | `(tactic| walk_at "getMethod bytes") => `(tactic| (k_here; (with_reducible first | refine meth_rjust ?_ | refine meth_join ?_)))
local macro_rules | `(tactic| walk_at "call builtin:bytes.rjust") => `(tactic| (k_here; k_dflt (refine rjust_r (by with_reducible assumption) ?_); intro t' k'; (try dsimp only)))
local macro_rules | `(tactic| walk_at "call builtin:bytes.join") => `(tactic| (k_here; k_dflt (refine join_r (News.get (by k_asm) (by k_mem)) (by first | exact small_oct _ | with_reducible assumption) (by first | exact small_oct _ | with_reducible assumption) ?_); intro t' k'; (try dsimp only)))
local macro_rules | `(tactic| walk_at "binaryOp Add bytes bytes") => `(tactic| (k_here; (with_reducible refine KBy.add_bytes ?_ ?_); (first | exact add_size2 _ _ | exact add_size1 _ _); intro t' k'; (try dsimp only)))
local macro_rules | `(tactic| walk_at "subscriptTail") => `(tactic| (k_here; (with_reducible show wpAny _ _ (subscriptTail _ (Expr.Slice _ _ none _) (Value.bytes _ _) (Value.ref _)) _ _ _); (with_reducible rename Fr _ _ _ _ => F'); (with_reducible rename News _ _ _ _ => N'); (first | (refine KBy.slice_N (s := ⟨_, _, _, _, _⟩) F' N' (by constructor) (by constructor) (whole_left _ _) (pick_left_size _ _) ?_; rw [pick_left]) | (refine KBy.slice_N (s := ⟨_, _, _, _, _⟩) F' N' (by constructor) (by constructor) (whole_right _ _) (pick_right_size _ _) ?_; rw [pick_right]) | (refine KBy.slice_N (s := ⟨_, _, _, _, _⟩) F' N' (by constructor) (by constructor) (whole_tail _ _) (pick_tail_size _ _) ?_; rw [pick_tail])); intro h' t' k' F' N'; (try dsimp only)))
local macro_rules | `(tactic| walk_at "call builtin:len") => `(tactic| (k_here; (with_reducible show wpAny _ _ (call (Value.builtin "len") [Value.bytes (_ ++ octF _) _]) _ _ _); k_dflt (refine len_short ?_); intro t' k'; (try dsimp only)))
local macro_rules | `(tactic| walk_at "subscriptTail") => `(tactic| (k_here; (with_reducible show wpAny _ _ (subscriptTail _ _ (Value.bytes (_ ++ octF _) _) (Value.int _ _)) _ _ _); (refine item_short ?_); intro t' k'; (try dsimp only)))
local macro_rules | `(tactic| walk_at "binaryOp BitAnd int int") => `(tactic| (k_here; (with_reducible refine and_one_h ?_ ?_); (first | omega | exact Small.nonneg (by with_reducible assumption)); intro v' t' k' hv' h0' h1'; (try dsimp only)))
theorem c_key {w : World} {loose mean mg mb} (p : Addr) (x y : Int) (tx ty : Tok) (c : Nat) (news : List (Addr × Obj)) (hp : (p, tup2 x y tx ty c) ∈ news) (x0 : Small x) (y0 : Small y) :
    GoesX w loose mean mg mb 164 2 news [.ref p] (BackY news (octF x ++ octF y)) := by
  unfold GoesX
  k_fill
  intro dp un gd cn cs a0 ccd cl outer A₀ base h₀ L m s Q E B F X N T hk hdp hu hret
  refine wpAny_call ?_
  k_dflt ktr_enter
  k_steps
  all_goals exact backY hret (by k_asm) (by k_asm) (by intro q hq; (repeat (first | exact hq | apply List.mem_cons_of_mem))) rfl
theorem c_encode {w : World} {loose mean mg mb} (p : Addr) (x y : Int) (tx ty : Tok) (c : Nat) (news : List (Addr × Obj)) (hp : (p, tup2 x y tx ty c) ∈ news) (x0 : Small x) (y0 : Small y) :
    GoesX w loose mean mg mb 107 2 news [.ref p] (BackY news (octF x ++ octF y)) := by
  unfold GoesX
  k_fill
  intro dp un gd cn cs a0 ccd cl outer A₀ base h₀ L m s Q E B F X N T hk hdp hu hret
  refine wpAny_call ?_
  k_dflt ktr_enter
  k_steps
  all_goals exact backY hret (by k_asm) (by k_asm) (by intro q hq; (repeat (first | exact hq | apply List.mem_cons_of_mem))) rfl
theorem c_decode {w : World} {loose mean mg mb} (x y : Int) (t : Tok) (news : List (Addr × Obj)) (x0 : Small x) (y0 : Small y) :
    GoesX w loose mean mg mb 100 2 news [.bytes (octF x ++ octF y) t] (Back2 news (fun q => q = (x, y))) := by
  unfold GoesX
  k_fill
  intro dp un gd cn cs a0 ccd cl outer A₀ base h₀ L m s Q E B F X N T hk hdp hu hret
  refine wpAny_call ?_
  k_dflt ktr_enter
  have e1 := from_oct x0.1 x0.lt
  have e2 := from_oct y0.1 y0.lt
  k_steps
  all_goals exact back2 hret (by k_asm) (by k_asm) (by k_mem) (by intro q hq; (repeat (first | exact hq | apply List.mem_cons_of_mem))) rfl
end Mine
end
section
open PySem PySem.W PySem.Spec PySem.Calls PyProof.Rows
set_option Elab.async false
set_option maxRecDepth 100000
set_option maxHeartbeats 1000000
namespace Mine
local macro_rules | `(tactic| bits_by_make) => `(tactic| first | with_reducible assumption | exact bits_P | exact bits_N | ((with_reducible apply PySem.intBits_pow_le); bits_by_make))
local macro_rules | `(tactic| walk_at "binaryOp Mod int int") => `(tactic| (k_here; (with_reducible refine mod_h ?ka ?kb ?_); (case ka => decide); (case kb => (first | exact Nat.le_trans bits_P (by decide) | exact Nat.le_trans bits_N (by decide) | (exact Nat.le_trans (PySem.intBits_le_64 (by decide) (by decide)) (by decide)))); intro v' t' tk' hv' hb'; (try dsimp only)))
local macro_rules | `(tactic| walk_at "binaryOp Pow int int") => `(tactic| (k_here; (with_reducible first | refine' pow_h2 ?kc ?kd ?_ | refine' pow_h3 ?kc ?kd ?_ | refine' pow_h4 ?kc ?kd ?_); (case kc => bits_by_make); (case kd => decide); intro t' tk'; (try dsimp only)))
local macro_rules | `(tactic| walk_at "binaryOp Mult int int") => `(tactic| (k_here; (with_reducible refine mul_h ?kc ?_); (case kc => mul_fits); intro t' tk'; (try dsimp only)))
local macro_rules | `(tactic| walk_at "binaryOp Add int int") => `(tactic| (k_here; (with_reducible refine add_h ?_); intro t' tk'; (try dsimp only)))
local macro_rules | `(tactic| walk_at "binaryOp Sub int int") => `(tactic| (k_here; (with_reducible refine sub_h ?_); intro t' tk'; (try dsimp only)))
local macro_rules | `(tactic| walk_at "binaryOp Mod int int") => `(tactic| (k_here; (with_reducible show wpAny _ _ (binaryOp Operator.Mod (Value.int _ _) (Value.int 2 _)) _ _ _); (with_reducible refine mod_2 ?_); intro v' t' tk' hv' hb' hb2'; (try dsimp only)))
local macro_rules | `(tactic| walk_at "binaryOp FloorDiv int int") => `(tactic| (k_here; (with_reducible show wpAny _ _ (binaryOp Operator.FloorDiv (Value.int _ _) (Value.int 2 _)) _ _ _); (with_reducible refine half_s ?ka ?_); (case ka => omega); intro v' t' tk' hv' hb' hb2' hb3'; (try dsimp only)))
local macro_rules | `(tactic| k_mem) => `(tactic| assumption)
local macro_rules | `(tactic| walk_at "call builtin:pow") => `(tactic| (k_here; (with_reducible refine' call_pow3_h ?_ ?_ ?_ ?_); (first | decide | decide +kernel | omega); (first | decide | decide +kernel | omega); (first | exact bits_P | exact bits_N); intro v' t' tk' hv' hb'; (try dsimp only)))
local macro_rules | `(tactic| walk_at "call builtin:pow") => `(tactic| (k_here; (with_reducible refine' call_pow3_P ?_ ?_); (first | decide | decide +kernel | omega); intro v' t' tk' hv' hb' hs'; (try dsimp only)))
local macro_rules | `(tactic| walk_at "binaryOp Mod int int") => `(tactic| (k_here; (with_reducible refine mod_hP ?_); intro v' t' tk' hv' hb' hs'; (try dsimp only)))
local macro_rules | `(tactic| walk_at "call ref") => `(tactic| (k_here; (with_reducible show wpAny _ _ (call (Value.ref 157) [Value.int _ _]) _ _ _); k_dflt (refine goes_use (by k_asm) (by k_asm) (by k_asm) (by k_asm) (by k_asm) (by first | exact rfl | assumption) (c_octets2 _ _ _ (by with_reducible assumption)) (by ktr_room) (by ktr_units) ?_; k_whole; intro t' h' tk' F' N'; (try dsimp only); (try k_fold))))
local macro_rules | `(tactic| walk_at "call ref") => `(tactic| (k_here; (with_reducible show wpAny _ _ (call (Value.ref 21) [Value.bytes _ _]) _ _ _); k_dflt (refine goes_use (by k_asm) (by k_asm) (by k_asm) (by k_asm) (by k_asm) (by first | exact rfl | assumption) (c_be _ _ _ (by first | exact small_oct _ | with_reducible assumption)) (by ktr_room) (by ktr_units) ?_; k_whole; intro i' t' h' tk' F' N' e'; subst e'; (try dsimp only); (try k_fold))))
local macro_rules | `(tactic| walk_at "call ref") => `(tactic| (k_here; (with_reducible show wpAny _ _ (call (Value.ref 21) [Value.bytes (octF _) _]) _ _ _); k_dflt (refine goes_use (by k_asm) (by k_asm) (by k_asm) (by k_asm) (by k_asm) (by first | exact rfl | assumption) (c_beo _ _ _ (by with_reducible assumption)) (by ktr_room) (by ktr_units) ?_; k_whole; intro i' t' h' tk' F' N' e'; subst e'; (try dsimp only); (try k_fold))))
local macro_rules | `(tactic| walk_at "call ref") => `(tactic| (k_here; (with_reducible show wpAny _ _ (call (Value.ref 28) [Value.int _ _]) _ _ _); k_dflt (refine goes_use (by k_asm) (by k_asm) (by k_asm) (by k_asm) (by k_asm) (by first | exact rfl | assumption) (c_intbe2 _ _ _ (by with_reducible assumption)) (by ktr_room) (by ktr_units) ?_; k_whole; intro t' h' tk' F' N'; (try dsimp only); (try k_fold))))
local macro_rules | `(tactic| walk_at "call ref") => `(tactic| (k_here; (with_reducible show wpAny _ _ (call (Value.ref 51) [Value.bytes (ibF _) _]) _ _ _); k_dflt (refine goes_use (by k_asm) (by k_asm) (by k_asm) (by k_asm) (by k_asm) (by first | exact rfl | assumption) (c_padib _ _ _ (by with_reducible assumption)) (by ktr_room) (by ktr_units) ?_; k_whole; intro t' h' tk' F' N'; (try dsimp only); (try k_fold))))
local macro_rules | `(tactic| walk_at "call ref") => `(tactic| (k_here; (with_reducible show wpAny _ _ (call (Value.ref 100) [Value.bytes (octF _ ++ octF _) _]) _ _ _); k_dflt (refine goes_use (by k_asm) (by k_asm) (by k_asm) (by k_asm) (by k_asm) (by first | exact rfl | assumption) (c_decode _ _ _ _ (by with_reducible assumption) (by with_reducible assumption)) (by ktr_room) (by ktr_units) ?_; k_whole; intro D' x' y' tx' ty' c' h' tk' F' N' e'; cases e'; (try dsimp only); (try k_fold))))
local macro_rules | `(tactic| walk_at "call ref") => `(tactic| (k_here; (with_reducible show wpAny _ _ (call (Value.ref 107) [Value.ref _]) _ _ _); k_dflt (refine goes_use (by k_asm) (by k_asm) (by k_asm) (by k_asm) (by k_asm) (by first | exact rfl | assumption) (c_encode _ _ _ _ _ _ _ (by k_mem) (by with_reducible assumption) (by with_reducible assumption)) (by ktr_room) (by ktr_units) ?_; k_whole; intro t' h' tk' F' N'; (try dsimp only); (try k_fold))))
local macro_rules | `(tactic| walk_at "call builtin:int.to_bytes") => `(tactic| (k_here; k_dflt (refine to_bytes_r (by first | decide | exact ib_nonneg _ | omega) (by first | decide | exact ib_bound (by assumption) | omega) (by first | assumption | omega) (by first | assumption | exact ib_zero (by assumption) (by assumption) | exact ib_pos (by assumption) | omega) ?_); intro t' k'; (try dsimp only)))
local macro_rules | `(tactic| walk_at "call ref") => `(tactic| (k_here; (with_reducible show wpAny _ _ (call (Value.ref _) [Value.bytes _ _, Value.str _ _]) _ _ _); k_dflt (refine from_bytes_r (by k_asm) (by k_mem) (by with_reducible assumption) ?_); intro t' k'; (try dsimp only)))
local macro_rules | `(tactic| walk_at "getMethod bytes") => `(tactic| (k_here; (with_reducible first | refine meth_rjust ?_ | refine meth_join ?_)))
local macro_rules | `(tactic| walk_at "call builtin:bytes.rjust") => `(tactic| (k_here; k_dflt (refine rjust_r (by with_reducible assumption) ?_); intro t' k'; (try dsimp only)))
local macro_rules | `(tactic| walk_at "call builtin:bytes.join") => `(tactic| (k_here; k_dflt (refine join_r (News.get (by k_asm) (by k_mem)) (by first | exact small_oct _ | with_reducible assumption) (by first | exact small_oct _ | with_reducible assumption) ?_); intro t' k'; (try dsimp only)))
local macro_rules | `(tactic| walk_at "binaryOp Add bytes bytes") => `(tactic| (k_here; (with_reducible refine KBy.add_bytes ?_ ?_); (first | exact add_size2 _ _ | exact add_size1 _ _); intro t' k'; (try dsimp only)))
local macro_rules | `(tactic| walk_at "subscriptTail") => `(tactic| (k_here; (with_reducible show wpAny _ _ (subscriptTail _ (Expr.Slice _ _ none _) (Value.bytes _ _) (Value.ref _)) _ _ _); (with_reducible rename Fr _ _ _ _ => F'); (with_reducible rename News _ _ _ _ => N'); (first | (refine KBy.slice_N (s := ⟨_, _, _, _, _⟩) F' N' (by constructor) (by constructor) (whole_left _ _) (pick_left_size _ _) ?_; rw [pick_left]) | (refine KBy.slice_N (s := ⟨_, _, _, _, _⟩) F' N' (by constructor) (by constructor) (whole_right _ _) (pick_right_size _ _) ?_; rw [pick_right]) | (refine KBy.slice_N (s := ⟨_, _, _, _, _⟩) F' N' (by constructor) (by constructor) (whole_tail _ _) (pick_tail_size _ _) ?_; rw [pick_tail])); intro h' t' k' F' N'; (try dsimp only)))
local macro_rules | `(tactic| walk_at "call builtin:len") => `(tactic| (k_here; (with_reducible show wpAny _ _ (call (Value.builtin "len") [Value.bytes (_ ++ octF _) _]) _ _ _); k_dflt (refine len_short ?_); intro t' k'; (try dsimp only)))
local macro_rules | `(tactic| walk_at "subscriptTail") => `(tactic| (k_here; (with_reducible show wpAny _ _ (subscriptTail _ _ (Value.bytes (_ ++ octF _) _) (Value.int _ _)) _ _ _); (refine item_short ?_); intro t' k'; (try dsimp only)))
local macro_rules | `(tactic| walk_at "binaryOp BitAnd int int") => `(tactic| (k_here; (with_reducible refine and_one_h ?_ ?_); (first | omega | exact Small.nonneg (by with_reducible assumption)); intro v' t' k' hv' h0' h1'; (try dsimp only)))
local macro_rules | `(tactic| walk_at "eval Name") => `(tactic| (k_here; name_kind "globalImplicit"; (with_reducible first | refine fKc (by decide +kernel) (by k_dflt k_asm) (by k_dflt k_asm) (by k_dflt k_asm) (by k_dflt k_is) ?_ | refine fKo (by decide +kernel) (by k_dflt k_asm) (by k_dflt k_asm) (by k_dflt k_asm) (by k_dflt k_is) ?_ | refine fK (by decide +kernel) (by k_dflt k_asm) (by k_dflt k_asm) (by k_dflt k_asm) (by k_dflt k_is) ?_); k_whole))
local macro_rules | `(tactic| walk_at "eval Name") => `(tactic| (k_here; name_kind "cell"; (with_reducible first | refine fCc (by decide +kernel) (by k_dflt (exact rfl)) (by k_dflt k_asm) (by k_dflt k_mem) (by k_dflt k_asm) ?_ | refine fC (by decide +kernel) (by k_dflt (exact rfl)) (by k_dflt k_asm) (by k_dflt k_mem) (by k_dflt k_asm) ?_); k_whole))
local macro_rules | `(tactic| walk_at "eval Name") => `(tactic| (k_here; name_kind "local"; (with_reducible first | refine fLc (by decide +kernel) (by k_dflt k_asm) (by k_dflt (exact rfl)) ?_ | refine fLo (by decide +kernel) (by k_dflt k_asm) (by k_dflt (exact rfl)) ?_ | refine fL (by decide +kernel) (by k_dflt k_asm) (by k_dflt (exact rfl)) ?_); k_whole))
local macro_rules | `(tactic| walk_at "callWith ref") => `(tactic| (k_here; (with_reducible first | show wpAny _ _ (callWith _ (Value.ref 136) _ _ _) _ _ _ | show wpAny _ _ (callWith _ (Value.ref 143) _ _ _) _ _ _ | show wpAny _ _ (callWith _ (Value.ref 150) _ _ _) _ _ _ | show wpAny _ _ (callWith _ (Value.ref 157) _ _ _) _ _ _ | show wpAny _ _ (callWith _ (Value.ref 164) _ _ _) _ _ _ | show wpAny _ _ (callWith _ (Value.ref 171) _ _ _) _ _ _ | show wpAny _ _ (callWith _ (Value.ref 178) _ _ _) _ _ _ | show wpAny _ _ (callWith _ (Value.ref 185) _ _ _) _ _ _ | show wpAny _ _ (callWith _ (Value.ref 190) _ _ _) _ _ _ | show wpAny _ _ (callWith _ (Value.ref 128) _ _ _) _ _ _ | show wpAny _ _ (callWith _ (Value.ref 114) _ _ _) _ _ _ | show wpAny _ _ (callWith _ (Value.ref 121) _ _ _) _ _ _ | show wpAny _ _ (callWith _ (Value.ref 107) _ _ _) _ _ _ | show wpAny _ _ (callWith _ (Value.ref 100) _ _ _) _ _ _ | show wpAny _ _ (callWith _ (Value.ref 93) _ _ _) _ _ _ | show wpAny _ _ (callWith _ (Value.ref 86) _ _ _) _ _ _ | show wpAny _ _ (callWith _ (Value.ref 79) _ _ _) _ _ _ | show wpAny _ _ (callWith _ (Value.ref 72) _ _ _) _ _ _ | show wpAny _ _ (callWith _ (Value.ref 65) _ _ _) _ _ _ | show wpAny _ _ (callWith _ (Value.ref 58) _ _ _) _ _ _ | show wpAny _ _ (callWith _ (Value.ref 51) _ _ _) _ _ _ | show wpAny _ _ (callWith _ (Value.ref 28) _ _ _) _ _ _ | show wpAny _ _ (callWith _ (Value.ref 21) _ _ _) _ _ _); (with_reducible refine callWith_K (by k_dflt k_asm) (by k_dflt k_is) ?_ (by k_dflt (exact rfl)) (by k_dflt (exact rfl))); k_whole))
local macro_rules | `(tactic| walk_at "subscriptTail Name Constant ref int") => `(tactic| (k_here; (with_reducible show wpAny _ _ (subscriptTail _ _ (Value.ref _) (Value.int 2 _)) _ _ _); k_dflt (refine sub3_2 (by k_asm) (by k_mem) ?_; k_whole)))
local macro_rules | `(tactic| walk_at "subscriptTail Name Constant ref int") => `(tactic| (k_here; (with_reducible show wpAny _ _ (subscriptTail _ _ (Value.ref _) (Value.int 1 _)) _ _ _); k_dflt (refine sub3_1 (by k_asm) (by k_mem) ?_; k_whole)))
local macro_rules | `(tactic| walk_at "subscriptTail Name Constant ref int") => `(tactic| (k_here; (with_reducible show wpAny _ _ (subscriptTail _ _ (Value.ref _) (Value.int 0 _)) _ _ _); k_dflt (refine sub3_0 (by k_asm) (by k_mem) ?_; k_whole)))
local macro_rules | `(tactic| walk_at "subscriptTail Name Constant ref int") => `(tactic| (k_here; (with_reducible show wpAny _ _ (subscriptTail _ _ (Value.ref _) (Value.int 1 _)) _ _ _); k_dflt (refine sub2_1 (by k_asm) (by k_mem) ?_; k_whole)))
local macro_rules | `(tactic| walk_at "subscriptTail Name Constant ref int") => `(tactic| (k_here; (with_reducible show wpAny _ _ (subscriptTail _ _ (Value.ref _) (Value.int 0 _)) _ _ _); k_dflt (refine sub2_0 (by k_asm) (by k_mem) ?_; k_whole)))
local macro_rules | `(tactic| k_mem) => `(tactic| with_reducible first | assumption | exact mem0 | exact mem1 | exact mem2 | exact mem3 | exact mem4 | exact mem5 | exact mem6 | exact mem7 | exact mem8 | exact mem9 | exact mem10 | exact mem11 | exact mem12 | exact mem13 | exact mem14 | exact mem15 | exact mem16 | exact mem17)
def compF (x y : Int) : Array UInt8 := (if y % 2 = 0 then #[2] else #[3]) ++ octF x
theorem c_compress {w : World} {loose mean mg mb} (x y : Int) (t : Tok) (news : List (Addr × Obj)) (x0 : Small x) (y0 : Small y) :
    GoesX w loose mean mg mb 114 4 news [.bytes (octF x ++ octF y) t] (BackY news (compF x y)) := by
  unfold GoesX
  k_fill
  intro dp un gd cn cs a0 ccd cl outer A₀ base h₀ L m s Q E B F X N T hk hdp hu hret
  refine wpAny_call ?_
  k_dflt ktr_enter
  k_steps
  all_goals refine backY hret (by k_asm) (by k_asm) (by intro q hq; (repeat (first | exact hq | apply List.mem_cons_of_mem))) ?_
  all_goals subst_vars
  all_goals unfold compF
  all_goals first
    | (rw [if_pos (by assumption)]; done)
    | (rw [if_neg (by assumption)])
/-- the root of the square, of the parity that the mark says -/
def decF (c : UInt8) (x : Int) : Int :=
  let y := powm ((x ^ 3 + 0 * x + 7) % pP) ((pP + 1) / 4) pP
  if (c = 2 ∧ y % 2 = 1) ∨ (c = 3 ∧ y % 2 = 0) then -y % pP else y
theorem dec2_flip {x sq y b v : Int} (h1 : sq = (x ^ 3 + 0 * x + 7) % pP) (h2 : y = powm sq ((pP + 1) / 4) pP) (h3 : b = y % 2) (h4 : b = 1) (h5 : v = -y % pP) : v = decF 2 x := by
  unfold decF
  dsimp only
  rw [← h1, ← h2, ← h3, if_pos (.inl ⟨rfl, h4⟩), h5]
theorem dec2_keep {x sq y b : Int} (h1 : sq = (x ^ 3 + 0 * x + 7) % pP) (h2 : y = powm sq ((pP + 1) / 4) pP) (h3 : b = y % 2) (h4 : b ≠ 1) : y = decF 2 x := by
  unfold decF
  dsimp only
  rw [← h1, ← h2, ← h3, if_neg]
  rintro (⟨_, h⟩ | ⟨h, _⟩)
  · exact h4 h
  · exact absurd h (by decide)
theorem dec3_flip {x sq y b v : Int} (h1 : sq = (x ^ 3 + 0 * x + 7) % pP) (h2 : y = powm sq ((pP + 1) / 4) pP) (h3 : b = y % 2) (h4 : b = 0) (h5 : v = -y % pP) : v = decF 3 x := by
  unfold decF
  dsimp only
  rw [← h1, ← h2, ← h3, if_pos (.inr ⟨rfl, h4⟩), h5]
theorem dec3_keep {x sq y b : Int} (h1 : sq = (x ^ 3 + 0 * x + 7) % pP) (h2 : y = powm sq ((pP + 1) / 4) pP) (h3 : b = y % 2) (h4 : b ≠ 0) : y = decF 3 x := by
  unfold decF
  dsimp only
  rw [← h1, ← h2, ← h3, if_neg]
  rintro (⟨h, _⟩ | ⟨_, h⟩)
  · exact absurd h (by decide)
  · exact h4 h
theorem c_decompress {w : World} {loose mean mg mb} (c : UInt8) (hc : c = 2 ∨ c = 3) (x : Int) (t : Tok) (news : List (Addr × Obj)) (x0 : Small x) :
    GoesX w loose mean mg mb 121 4 news [.bytes (#[c] ++ octF x) t] (BackY news (octF x ++ octF (decF c x))) := by
  unfold GoesX
  k_fill
  intro dp un gd cn cs a0 ccd cl outer A₀ base h₀ L m s Q E B F X N T hk hdp hu hret
  have hxb := x0.bits
  rcases hc with rfl | rfl
  · refine wpAny_call ?_
    k_dflt ktr_enter
    k_steps
    all_goals refine backY hret (by k_asm) (by k_asm) (by intro q hq; (repeat (first | exact hq | apply List.mem_cons_of_mem))) ?_
    all_goals first
      | exact congrArg (fun z => octF _ ++ octF z) (dec2_flip (Hid.out (by assumption)) (Hid.out (by assumption)) (by assumption) (by assumption) (Hid.out (by assumption)))
      | exact congrArg (fun z => octF _ ++ octF z) (dec2_keep (Hid.out (by assumption)) (Hid.out (by assumption)) (by assumption) (by assumption))
  · refine wpAny_call ?_
    k_dflt ktr_enter
    k_steps
    all_goals refine backY hret (by k_asm) (by k_asm) (by intro q hq; (repeat (first | exact hq | apply List.mem_cons_of_mem))) ?_
    all_goals first
      | exact congrArg (fun z => octF _ ++ octF z) (dec3_flip (Hid.out (by assumption)) (Hid.out (by assumption)) (by assumption) (by assumption) (Hid.out (by assumption)))
      | exact congrArg (fun z => octF _ ++ octF z) (dec3_keep (Hid.out (by assumption)) (Hid.out (by assumption)) (by assumption) (by assumption))
end Mine
end
section
open PySem PySem.W PySem.Spec PySem.Calls PyProof.Rows
set_option Elab.async false
set_option maxRecDepth 100000
set_option maxHeartbeats 1000000
namespace Mine
local macro_rules | `(tactic| bits_by_make) => `(tactic| first | with_reducible assumption | exact bits_P | exact bits_N | exact bits_gX | exact bits_gY | ((with_reducible apply PySem.intBits_pow_le); bits_by_make))
local macro_rules | `(tactic| walk_at "binaryOp Mod int int") => `(tactic| (k_here; (with_reducible refine mod_h ?ka ?kb ?_); (case ka => decide); (case kb => (first | exact Nat.le_trans bits_P (by decide) | exact Nat.le_trans bits_N (by decide) | (exact Nat.le_trans (PySem.intBits_le_64 (by decide) (by decide)) (by decide)))); intro v' t' tk' hv' hb'; (try dsimp only)))
local macro_rules | `(tactic| walk_at "binaryOp Pow int int") => `(tactic| (k_here; (with_reducible first | refine' pow_h2 ?kc ?kd ?_ | refine' pow_h3 ?kc ?kd ?_ | refine' pow_h4 ?kc ?kd ?_); (case kc => bits_by_make); (case kd => decide); intro t' tk'; (try dsimp only)))
local macro_rules | `(tactic| walk_at "binaryOp Mult int int") => `(tactic| (k_here; (with_reducible refine mul_h ?kc ?_); (case kc => mul_fits); intro t' tk'; (try dsimp only)))
local macro_rules | `(tactic| walk_at "binaryOp Add int int") => `(tactic| (k_here; (with_reducible refine add_h ?_); intro t' tk'; (try dsimp only)))
local macro_rules | `(tactic| walk_at "binaryOp Sub int int") => `(tactic| (k_here; (with_reducible refine sub_h ?_); intro t' tk'; (try dsimp only)))
local macro_rules | `(tactic| walk_at "binaryOp Mod int int") => `(tactic| (k_here; (with_reducible show wpAny _ _ (binaryOp Operator.Mod (Value.int _ _) (Value.int 2 _)) _ _ _); (with_reducible refine mod_2 ?_); intro v' t' tk' hv' hb' hb2'; (try dsimp only)))
local macro_rules | `(tactic| walk_at "binaryOp FloorDiv int int") => `(tactic| (k_here; (with_reducible show wpAny _ _ (binaryOp Operator.FloorDiv (Value.int _ _) (Value.int 2 _)) _ _ _); (with_reducible refine half_s ?ka ?_); (case ka => omega); intro v' t' tk' hv' hb' hb2' hb3'; (try dsimp only)))
local macro_rules | `(tactic| k_mem) => `(tactic| assumption)
local macro_rules | `(tactic| walk_at "call builtin:pow") => `(tactic| (k_here; (with_reducible refine' call_pow3_h ?_ ?_ ?_ ?_); (first | decide | decide +kernel | omega); (first | decide | decide +kernel | omega); (first | exact bits_P | exact bits_N); intro v' t' tk' hv' hb'; (try dsimp only)))
local macro_rules | `(tactic| walk_at "call builtin:pow") => `(tactic| (k_here; (with_reducible refine' call_pow3_P ?_ ?_); (first | decide | decide +kernel | omega); intro v' t' tk' hv' hb' hs'; (try dsimp only)))
local macro_rules | `(tactic| walk_at "binaryOp Mod int int") => `(tactic| (k_here; (with_reducible refine mod_hP ?_); intro v' t' tk' hv' hb' hs'; (try dsimp only)))
local macro_rules | `(tactic| walk_at "call ref") => `(tactic| (k_here; (with_reducible show wpAny _ _ (call (Value.ref 143) [_, _]) _ _ _); k_dflt (refine goes_use (by k_asm) (by k_asm) (by k_asm) (by k_asm) (by k_asm) (by first | exact rfl | assumption) (c_sum _ _ _ _ _ (by first | with_reducible assumption | assumption | (refine OptAt.mono (by assumption) ?_; intro q hq; (repeat (first | exact hq | apply List.mem_append_right | apply List.mem_cons_of_mem)))) (by first | with_reducible assumption | assumption | (refine OptAt.mono (by assumption) ?_; intro q hq; (repeat (first | exact hq | apply List.mem_append_right | apply List.mem_cons_of_mem)))) (by with_reducible assumption) (by with_reducible assumption)) (by ktr_room) (by ktr_units) ?_; k_whole; intro v9' tl9' h' tk' F' N' o9' s9'; (try dsimp only); (try k_fold))))
local macro_rules | `(tactic| walk_at "call ref") => `(tactic| (k_here; (with_reducible show wpAny _ _ (call (Value.ref 150) [_, Value.int _ _]) _ _ _); k_dflt (refine goes_use (by k_asm) (by k_asm) (by k_asm) (by k_asm) (by k_asm) (by first | exact rfl | assumption) (c_times _ _ _ _ _ (by first | with_reducible assumption | assumption | (refine OptAt.mono (by assumption) ?_; intro q hq; (repeat (first | exact hq | apply List.mem_append_right | apply List.mem_cons_of_mem)))) (by with_reducible assumption) (by first | with_reducible assumption | omega)) (by ktr_room) (by ktr_units) ?_; k_whole; intro v9' tl9' h' tk' F' N' o9' s9'; (try dsimp only); (try k_fold))))
local macro_rules | `(tactic| walk_at "call ref") => `(tactic| (k_here; (with_reducible show wpAny _ _ (call (Value.ref 171) [Value.int _ _, Value.int _ _]) _ _ _); k_dflt (refine goes_use (by k_asm) (by k_asm) (by k_asm) (by k_asm) (by k_asm) (by first | exact rfl | assumption) (c_lifted _ _ _ _ _ (by with_reducible assumption)) (by ktr_room) (by ktr_units) ?_; k_whole; intro v9' tl9' h' tk' F' N' o9' s9'; (try dsimp only); (try k_fold))))
local macro_rules | `(tactic| walk_at "call ref") => `(tactic| (k_here; (with_reducible show wpAny _ _ (call (Value.ref 150) [Value.ref 129, Value.int _ _]) _ _ _); k_dflt (refine goes_use (by k_asm) (by k_asm) (by k_asm) (by k_asm) (by k_asm) (by first | exact rfl | assumption) (c_times _ (some (gX, gY)) _ _ _ (.inr ⟨rfl, rfl⟩) g_small (by first | with_reducible assumption | omega)) (by ktr_room) (by ktr_units) ?_; k_whole; intro v9' tl9' h' tk' F' N' o9' s9'; (try dsimp only); (try k_fold))))
theorem c_due {w : World} {loose mean mg mb} (t r par sv a : Int) (t1 t2 t3 t4 t5 : Tok) (news : List (Addr × Obj)) (hr : Small r) (ht : 0 ≤ t) (hs : 0 ≤ sv) (ha : 0 ≤ a) :
    GoesX w loose mean mg mb 185 4 news [.int t t1, .int r t2, .int par t3, .int sv t4, .int a t5] (BackO news (dueF t r par sv a)) := by
  unfold GoesX
  k_fill
  intro dp un gd cn cs a0 ccd cl outer A₀ base h₀ L m s Q E B F X N T hk hdp hu hret
  refine wpAny_call ?_
  k_dflt ktr_enter
  k_steps
  all_goals exact backO_at hret (by assumption) (by k_asm) (by k_asm) (by intro q hq; (repeat (first | exact hq | apply List.mem_append_right | apply List.mem_cons_of_mem))) (by assumption)
end Mine
end
section
open PySem PySem.W PySem.Spec PySem.Calls PyProof.Rows
set_option Elab.async false
set_option maxRecDepth 100000
set_option maxHeartbeats 1000000
namespace Mine
local macro_rules | `(tactic| bits_by_make) => `(tactic| first | with_reducible assumption | exact bits_P | exact bits_N | exact bits_gX | exact bits_gY | ((with_reducible apply PySem.intBits_pow_le); bits_by_make))
local macro_rules | `(tactic| walk_at "binaryOp Mod int int") => `(tactic| (k_here; (with_reducible refine mod_h ?ka ?kb ?_); (case ka => decide); (case kb => (first | exact Nat.le_trans bits_P (by decide) | exact Nat.le_trans bits_N (by decide) | (exact Nat.le_trans (PySem.intBits_le_64 (by decide) (by decide)) (by decide)))); intro v' t' tk' hv' hb'; (try dsimp only)))
local macro_rules | `(tactic| walk_at "binaryOp Pow int int") => `(tactic| (k_here; (with_reducible first | refine' pow_h2 ?kc ?kd ?_ | refine' pow_h3 ?kc ?kd ?_ | refine' pow_h4 ?kc ?kd ?_); (case kc => bits_by_make); (case kd => decide); intro t' tk'; (try dsimp only)))
local macro_rules | `(tactic| walk_at "binaryOp Mult int int") => `(tactic| (k_here; (with_reducible refine mul_h ?kc ?_); (case kc => mul_fits); intro t' tk'; (try dsimp only)))
local macro_rules | `(tactic| walk_at "binaryOp Add int int") => `(tactic| (k_here; (with_reducible refine add_h ?_); intro t' tk'; (try dsimp only)))
local macro_rules | `(tactic| walk_at "binaryOp Sub int int") => `(tactic| (k_here; (with_reducible refine sub_h ?_); intro t' tk'; (try dsimp only)))
local macro_rules | `(tactic| walk_at "binaryOp Mod int int") => `(tactic| (k_here; (with_reducible show wpAny _ _ (binaryOp Operator.Mod (Value.int _ _) (Value.int 2 _)) _ _ _); (with_reducible refine mod_2 ?_); intro v' t' tk' hv' hb' hb2'; (try dsimp only)))
local macro_rules | `(tactic| walk_at "binaryOp FloorDiv int int") => `(tactic| (k_here; (with_reducible show wpAny _ _ (binaryOp Operator.FloorDiv (Value.int _ _) (Value.int 2 _)) _ _ _); (with_reducible refine half_s ?ka ?_); (case ka => omega); intro v' t' tk' hv' hb' hb2' hb3'; (try dsimp only)))
local macro_rules | `(tactic| k_mem) => `(tactic| assumption)
local macro_rules | `(tactic| walk_at "callWith ref") => `(tactic| (k_here; (with_reducible show wpAny _ _ (callWith _ (Value.ref _) _ (backTo _ (starEach [] _)) []) _ _ _); k_dflt (refine callWith_F0 (FnAt.of (by k_asm) (by k_mem)) ?_); (try dsimp only [List.nil_append, List.cons_append])))
local macro_rules | `(tactic| walk_at "call ref") => `(tactic| (k_here; (with_reducible show wpAny _ _ (call (Value.ref _) []) _ _ _); k_dflt (refine goesE_use (by k_asm) (by k_asm) (by k_asm) (by k_asm) (by k_asm) (by first | exact rfl | assumption) (by assumption) (by assumption) (by ktr_room) (by ktr_units) ?_; k_whole); intro e' t' vs' g' h' tk' FX' UX' RX'; (try dsimp only at UX' RX' ⊢)))
theorem c_bad {w : World} {loose mean mg mb} (lam : Addr) (oc : Value) (od : Option Addr) (fd : FuncData) (sl : Array (Option Value)) (n : Nat) (hn : n < 60) (news : List (Addr × Obj)) (hlam : (lam, ⟨oc, od, .func fd, sl⟩) ∈ news) (H : GoesE w loose mean mg mb lam n news [])
    (dp un : Nat) (gd : Option (List Code)) (cn : Str) (cs : Scope) (a : Addr) (ccd : Value) (cl : List (Str × Addr)) (outer : List Env) (A₀ : Around) (base h₀ : Heap) (L : Addr) (m : Str → Option Value) (s : Shared)
    (Q E : Value → Shared → Prop) (B : Below A₀ base outer h₀) (F : Fr h₀ L s.heap m) (X : (hd.heap_39 w.params).In h₀) (N : News h₀ L s.heap news) (T : Top topProg loose mean mg mb h₀) (hk : cs.kind = .function)
    (XB : (hd.heap_39 w.params).In base) (TB : Top topProg loose mean mg mb base) (D : KtsDicts (outer.filterMap (·.frame)) h₀) (hdp : dp + (n + 2) < recursionLimit) (hu : un + 8 * (n + 2) < cLine)
    (hret : ∀ (h₀' h' : Heap) (tk' : Nat), KtsTurn (outer.filterMap (·.frame)) h₀ h₀' → Fr h₀' L h' m → News h₀' L h' news → Below A₀ base outer h₀' → Q (.bool true) { s with heap := h', toks := tk' }) :
    wpAny (model PySem.Challenge.rw_vj0008_01.row.prog w) (ktrTop dp un gd cn cs L a ccd cl outer) (call (.ref 178) [.ref lam]) Q E s := by
  revert X
  k_fill
  intro X
  refine wpAny_call ?_
  k_dflt (refine' code_defT ?k1 ?k2 ?k3 ?k4 ?k5 ?kD ?kA ?kF ?kK ?k6 ?k7 ?k8 ?k9 ?kB ?_ ?c2 ?c3 ?c4 ?c5; (case kA => exact rfl); (case kF => exact rfl); (case kK => assumption); (case k1 => k_asm); (case k2 => k_asm); (case k3 => k_asm); (case k4 => k_asm); (case k5 => k_asm); (case kD => assumption); (case k6 => k_is); (case k7 => k_is); (case k8 => ktr_room); (case k9 => exact BindsTo.of_eq rfl); (case c5 => decide); (case kB => exact locs rfl); (case c2 => exact rfl); (case c3 => exact rfl); (case c4 => exact rfl); k_whole)
  intro g' L' h' FG' F' N' B' X' T' D'
  (try dsimp only)
  (try k_fold)
  k_steps
  all_goals (
    show LeaveT _ _ _ _ _ _ _ _ _ _ _
    exact ⟨_, _, _, _, (by assumption), (by k_asm), (by k_asm), fun h₁ T₁ F₁ N₁ B₁ => hret h₁ _ _ T₁ F₁ N₁ B₁⟩)
end Mine
end
section
open PySem PySem.W PySem.Spec PySem.Calls PyProof.Rows
set_option maxRecDepth 100000
namespace Mine
theorem small_flip {v : Int} (h : Small v) : Small (115792089237316195423570985008687907853269984665640564039457584007908834671663 - v) := by
  have h1 := h.1; have h2 := h.2
  simp only [pP] at h2
  exact ⟨by omega, by simp only [pP]; omega⟩
theorem g_small3 : Small3 (55066263022277343669578718895168534326250603453777594175500187360389116729240, 32670510020758816978083085130507043184471273380659243275938904335757337482424, 1) := ⟨(g_small _ rfl).1, (g_small _ rfl).2, small_one⟩
theorem sub_P {prog : Program} {w : World} {A : Around} {E : Value → Shared → Prop} {s : Shared} {b : Int} {t u : Tok} {Q : Value → Shared → Prop} (hb : Small b)
    (h : ∀ (v : Int) (t' tk' : Nat), Hid (v = 115792089237316195423570985008687907853269984665640564039457584007908834671663 - b) → Builtin.Int.intBits v ≤ 300 → Small v → Q (.int v t') { s with toks := tk' }) :
    wpAny (model prog w) A (binaryOp .Sub (.int 115792089237316195423570985008687907853269984665640564039457584007908834671663 t) (.int b u)) Q E s :=
  sub_h fun t' tk' => h _ _ _ ⟨rfl⟩ (small_flip hb).bits (small_flip hb)
theorem aff_small {p : Jac} {q : Aff} (h : IsAffOf p q) : Small q.1 ∧ Small q.2 := by
  obtain ⟨z, _, e⟩ := h
  rw [e]
  exact ⟨small_mod _, small_mod _⟩
theorem av_pre {v zz av y : Int} (h : Hid (v = (115792089237316195423570985008687907852837564279074904382605163141518161494337 - zz) % 115792089237316195423570985008687907852837564279074904382605163141518161494337)) (h1 : av = (pN - zz) % pN) (h2 : av < 1048576) : (0 ≤ v ∧ v < 1048576) ∨ y = 0 := by
  have h3 := h.out
  simp only [pN] at h1
  left
  omega
theorem y_hi {r v beta sq a b x : Int} (h1 : Hid (sq = (r * r * r + 0 * r + 7) % 115792089237316195423570985008687907853269984665640564039457584007908834671663))
    (h2 : Hid (beta = powm sq (((115792089237316195423570985008687907853269984665640564039457584007908834671663 : Int) + 1).fdiv 4) 115792089237316195423570985008687907853269984665640564039457584007908834671663))
    (h3 : a = (v + 27) % 2) (h4 : b = beta % 2) (h5 : x = (a + b) % 2) (h6 : x ≠ 0) : beta = yF r v := by
  have e1 := h1.out
  have e2 := h2.out
  have e : beta = powm ((r * r * r + 0 * r + 7) % pP) ((pP + 1) / 4) pP := by rw [e2, e1]; rfl
  simp only [yF]
  rw [← e, if_pos (by omega)]
theorem y_lo {r v beta sq a b x y : Int} (h1 : Hid (sq = (r * r * r + 0 * r + 7) % 115792089237316195423570985008687907853269984665640564039457584007908834671663))
    (h2 : Hid (beta = powm sq (((115792089237316195423570985008687907853269984665640564039457584007908834671663 : Int) + 1).fdiv 4) 115792089237316195423570985008687907853269984665640564039457584007908834671663))
    (h3 : a = (v + 27) % 2) (h4 : b = beta % 2) (h5 : x = (a + b) % 2) (h6 : x = 0) (h7 : Hid (y = 115792089237316195423570985008687907853269984665640564039457584007908834671663 - beta)) : y = yF r v := by
  have e1 := h1.out
  have e2 := h2.out
  have e3 := h7.out
  have e : beta = powm ((r * r * r + 0 * r + 7) % pP) ((pP + 1) / 4) pP := by rw [e2, e1]; rfl
  simp only [yF]
  rw [← e, if_neg (by omega), e3]
  rfl
theorem rec_q {r y sv av zz v' : Int} {G S q : Jac} (hq : Hid (q = jaF G S)) (hg : Hid (G = jmF (55066263022277343669578718895168534326250603453777594175500187360389116729240, 32670510020758816978083085130507043184471273380659243275938904335757337482424, 1) v'.toNat))
    (hv : Hid (v' = (115792089237316195423570985008687907852837564279074904382605163141518161494337 - zz) % 115792089237316195423570985008687907852837564279074904382605163141518161494337)) (hav : av = (pN - zz) % pN)
    (hs : Hid (S = jmF (r, y, 1) sv.toNat)) : q = sumF r y sv av := by
  rw [hq.out, hg.out, hs.out, hv.out, hav]
  rfl
theorem not_bad {r v y sv sq w w1 w2 : Int}
    (h1 : Hid (sq = (r * r * r + 0 * r + 7) % 115792089237316195423570985008687907853269984665640564039457584007908834671663))
    (h2 : Hid (w = (sq - y * y) % 115792089237316195423570985008687907853269984665640564039457584007908834671663)) (h3 : w = 0)
    (h4 : Hid (w1 = r % 115792089237316195423570985008687907852837564279074904382605163141518161494337)) (h5 : w1 ≠ 0)
    (h6 : Hid (w2 = sv % 115792089237316195423570985008687907852837564279074904382605163141518161494337)) (h7 : w2 ≠ 0) (hy : y = yF r v) : ¬BadTest r (yF r v) sv := by
  have e1 := h1.out
  have e2 := h2.out
  rintro (h | h | h)
  · rw [← hy, sqF] at h
    rw [e2, e1] at h3
    exact h h3
  · have e4 := h4.out; rw [pN, ← e4] at h; exact h5 h
  · have e4 := h6.out; rw [pN, ← e4] at h; exact h7 h
theorem rec_pre {r v y sv av zz v' i X Y Z sq w w1 w2 : Int} {G S : Jac} (h : RecPre r v sv av) (hi : Hid (IsInv r 115792089237316195423570985008687907852837564279074904382605163141518161494337 i)) (hq : Hid ((X, Y, Z) = jaF G S)) (hg : Hid (G = jmF (55066263022277343669578718895168534326250603453777594175500187360389116729240, 32670510020758816978083085130507043184471273380659243275938904335757337482424, 1) v'.toNat))
    (hv : Hid (v' = (115792089237316195423570985008687907852837564279074904382605163141518161494337 - zz) % 115792089237316195423570985008687907852837564279074904382605163141518161494337)) (hav : av = (pN - zz) % pN)
    (hs : Hid (S = jmF (r, y, 1) sv.toNat))
    (h1 : Hid (sq = (r * r * r + 0 * r + 7) % 115792089237316195423570985008687907853269984665640564039457584007908834671663))
    (h2 : Hid (w = (sq - y * y) % 115792089237316195423570985008687907853269984665640564039457584007908834671663)) (h3 : w = 0)
    (h4 : Hid (w1 = r % 115792089237316195423570985008687907852837564279074904382605163141518161494337)) (h5 : w1 ≠ 0)
    (h6 : Hid (w2 = sv % 115792089237316195423570985008687907852837564279074904382605163141518161494337)) (h7 : w2 ≠ 0) (hy : y = yF r v) : (0 ≤ i ∧ i < 1048576) ∨ Y = 0 := by
  have e := rec_q hq hg hv hav hs
  rcases h (not_bad h1 h2 h3 h4 h5 h6 h7 hy) i hi.out with h | h
  · exact .inl h
  · rw [← hy, ← e] at h
    exact .inr h
def RecE (r v s a : Int) : Prop := BadTest r (yF r v) s ∨ ∃ i, IsInv r pN i ∧ isIdF (jmF (sumF r (yF r v) s a) i.toNat) = true
def RecQ (r v s a : Int) (q : Aff) : Prop := ¬BadTest r (yF r v) s ∧ ∃ i, IsInv r pN i ∧ isIdF (jmF (sumF r (yF r v) s a) i.toNat) = false ∧ IsAffOf (jmF (sumF r (yF r v) s a) i.toNat) q
theorem recE_a {r v y s a sq w : Int} (h1 : Hid (sq = (r * r * r + 0 * r + 7) % 115792089237316195423570985008687907853269984665640564039457584007908834671663))
    (h2 : Hid (w = (sq - y * y) % 115792089237316195423570985008687907853269984665640564039457584007908834671663)) (h3 : w ≠ 0) (hy : y = yF r v) : RecE r v s a := by
  refine .inl (.inl ?_)
  rw [← hy, sqF]
  have e1 := h1.out
  have e2 := h2.out
  rw [e2, e1] at h3
  exact h3
theorem recE_b {r v s a w : Int} (h2 : Hid (w = r % 115792089237316195423570985008687907852837564279074904382605163141518161494337)) (h3 : w = 0) : RecE r v s a := by
  have e2 := h2.out
  exact .inl (.inr (.inl (by rw [pN, ← e2, h3])))
theorem recE_c {r v s a w : Int} (h2 : Hid (w = s % 115792089237316195423570985008687907852837564279074904382605163141518161494337)) (h3 : w = 0) : RecE r v s a := by
  have e2 := h2.out
  exact .inl (.inr (.inr (by rw [pN, ← e2, h3])))
theorem recE_d {r v y sv av zz v' i : Int} {G S q p : Jac} (hid : isIdF p = true) (hp : Hid (p = jmF q i.toNat)) (hi : Hid (IsInv r 115792089237316195423570985008687907852837564279074904382605163141518161494337 i)) (hq : Hid (q = jaF G S)) (hg : Hid (G = jmF (55066263022277343669578718895168534326250603453777594175500187360389116729240, 32670510020758816978083085130507043184471273380659243275938904335757337482424, 1) v'.toNat))
    (hv : Hid (v' = (115792089237316195423570985008687907852837564279074904382605163141518161494337 - zz) % 115792089237316195423570985008687907852837564279074904382605163141518161494337)) (hav : av = (pN - zz) % pN)
    (hs : Hid (S = jmF (r, y, 1) sv.toNat)) (hy : y = yF r v) : RecE r v sv av := by
  refine .inr ⟨i, hi.out, ?_⟩
  rw [← hy, ← rec_q hq hg hv hav hs, ← hp.out]
  exact hid
theorem recQ_e {r v y sv av zz v' i sq w w1 w2 : Int} {G S q p : Jac} {o : Aff} (ho : IsAffOf p o) (hid : isIdF p = false) (hp : Hid (p = jmF q i.toNat)) (hi : Hid (IsInv r 115792089237316195423570985008687907852837564279074904382605163141518161494337 i)) (hq : Hid (q = jaF G S)) (hg : Hid (G = jmF (55066263022277343669578718895168534326250603453777594175500187360389116729240, 32670510020758816978083085130507043184471273380659243275938904335757337482424, 1) v'.toNat))
    (hv : Hid (v' = (115792089237316195423570985008687907852837564279074904382605163141518161494337 - zz) % 115792089237316195423570985008687907852837564279074904382605163141518161494337)) (hav : av = (pN - zz) % pN)
    (hs : Hid (S = jmF (r, y, 1) sv.toNat))
    (h1 : Hid (sq = (r * r * r + 0 * r + 7) % 115792089237316195423570985008687907853269984665640564039457584007908834671663))
    (h2 : Hid (w = (sq - y * y) % 115792089237316195423570985008687907853269984665640564039457584007908834671663)) (h3 : w = 0)
    (h4 : Hid (w1 = r % 115792089237316195423570985008687907852837564279074904382605163141518161494337)) (h5 : w1 ≠ 0)
    (h6 : Hid (w2 = sv % 115792089237316195423570985008687907852837564279074904382605163141518161494337)) (h7 : w2 ≠ 0) (hy : y = yF r v) : RecQ r v sv av o := by
  refine ⟨not_bad h1 h2 h3 h4 h5 h6 h7 hy, i, hi.out, ?_, ?_⟩
  · rw [← hy, ← rec_q hq hg hv hav hs, ← hp.out]
    exact hid
  · rw [← hy, ← rec_q hq hg hv hav hs, ← hp.out]
    exact ho
end Mine
end
section
open PySem PySem.W PySem.Spec PySem.Calls PyProof.Rows
set_option Elab.async false
set_option maxRecDepth 100000
set_option maxHeartbeats 1000000
namespace Mine
local macro_rules | `(tactic| bits_by_make) => `(tactic| first | with_reducible assumption | exact bits_P | exact bits_N | exact bits_gX | exact bits_gY | ((with_reducible apply PySem.intBits_pow_le); bits_by_make))
local macro_rules | `(tactic| walk_at "binaryOp Mod int int") => `(tactic| (k_here; (with_reducible refine mod_h ?ka ?kb ?_); (case ka => decide); (case kb => (first | exact Nat.le_trans bits_P (by decide) | exact Nat.le_trans bits_N (by decide) | (exact Nat.le_trans (PySem.intBits_le_64 (by decide) (by decide)) (by decide)))); intro v' t' tk' hv' hb'; (try dsimp only)))
local macro_rules | `(tactic| walk_at "binaryOp Pow int int") => `(tactic| (k_here; (with_reducible first | refine' pow_h2 ?kc ?kd ?_ | refine' pow_h3 ?kc ?kd ?_ | refine' pow_h4 ?kc ?kd ?_); (case kc => bits_by_make); (case kd => decide); intro t' tk'; (try dsimp only)))
local macro_rules | `(tactic| walk_at "binaryOp Mult int int") => `(tactic| (k_here; (with_reducible refine mul_h ?kc ?_); (case kc => mul_fits); intro t' tk'; (try dsimp only)))
local macro_rules | `(tactic| walk_at "binaryOp Add int int") => `(tactic| (k_here; (with_reducible refine add_h ?_); intro t' tk'; (try dsimp only)))
local macro_rules | `(tactic| walk_at "binaryOp Sub int int") => `(tactic| (k_here; (with_reducible refine sub_h ?_); intro t' tk'; (try dsimp only)))
local macro_rules | `(tactic| walk_at "binaryOp Mod int int") => `(tactic| (k_here; (with_reducible show wpAny _ _ (binaryOp Operator.Mod (Value.int _ _) (Value.int 2 _)) _ _ _); (with_reducible refine mod_2 ?_); intro v' t' tk' hv' hb' hb2'; (try dsimp only)))
local macro_rules | `(tactic| walk_at "binaryOp FloorDiv int int") => `(tactic| (k_here; (with_reducible show wpAny _ _ (binaryOp Operator.FloorDiv (Value.int _ _) (Value.int 2 _)) _ _ _); (with_reducible refine half_s ?ka ?_); (case ka => omega); intro v' t' tk' hv' hb' hb2' hb3'; (try dsimp only)))
local macro_rules | `(tactic| k_mem) => `(tactic| assumption)
local macro_rules | `(tactic| walk_at "call builtin:pow") => `(tactic| (k_here; (with_reducible refine' call_pow3_h ?_ ?_ ?_ ?_); (first | decide | decide +kernel | omega); (first | decide | decide +kernel | omega); (first | exact bits_P | exact bits_N); intro v' t' tk' hv' hb'; (try dsimp only)))
local macro_rules | `(tactic| walk_at "call builtin:pow") => `(tactic| (k_here; (with_reducible refine' call_pow3_P ?_ ?_); (first | decide | decide +kernel | omega); intro v' t' tk' hv' hb' hs'; (try dsimp only)))
local macro_rules | `(tactic| walk_at "binaryOp Mod int int") => `(tactic| (k_here; (with_reducible refine mod_hP ?_); intro v' t' tk' hv' hb' hs'; (try dsimp only)))
local macro_rules | `(tactic| walk_at "call ref") => `(tactic| (k_here; (with_reducible show wpAny _ _ (call (Value.ref 58) [Value.int _ _, Value.int _ _]) _ _ _); k_dflt (refine goes_use (by k_asm) (by k_asm) (by k_asm) (by k_asm) (by k_asm) (by first | exact rfl | assumption) (c_inv _ _ _ _ _ (by first | decide | decide +kernel | omega) (by first | exact Nat.le_trans bits_P (by decide) | exact Nat.le_trans bits_N (by decide))) (by ktr_room) (by ktr_units) ?_; k_whole; intro i' t' h' tk' F' N' e'; (have e9' := Hid.mk e'); clear e'; (have hb9' := IsInv.bits e9'.out (by first | exact Nat.le_trans bits_P (by decide) | exact Nat.le_trans bits_N (by decide))); (try dsimp only); (try k_fold))))
local macro_rules | `(tactic| walk_at "call ref") => `(tactic| (k_here; (with_reducible show wpAny _ _ (call (Value.ref 72) [Value.ref _, Value.ref _]) _ _ _); k_dflt (refine goes_use (by k_asm) (by k_asm) (by k_asm) (by k_asm) (by k_asm) (by first | exact rfl | assumption) (c_jadd _ _ _ _ _ _ _ _ _ _ _ _ _ _ _ _ _ (by k_mem) (by k_mem) (by assumption) (by assumption)) (by ktr_room) (by ktr_units) ?_; k_whole; intro D' x' y' z' tx' ty' tz' c' h' tk' F' N' e' s3'; (have hb1' := s3'.1.bits); (have hb2' := s3'.2.1.bits); (have hb3' := s3'.2.2.bits); (try dsimp only); (try k_fold))))
local macro_rules | `(tactic| walk_at "call ref") => `(tactic| (k_here; (with_reducible show wpAny _ _ (call (Value.ref 79) [Value.ref _]) _ _ _); k_dflt (refine goes_use (by k_asm) (by k_asm) (by k_asm) (by k_asm) (by k_asm) (by first | exact rfl | assumption) (c_fromJ _ _ _ _ _ _ _ _ _ (by k_mem) (by with_reducible assumption)) (by ktr_room) (by ktr_units) ?_; k_whole; intro D' x' y' tx' ty' c' h' tk' F' N' e'; (try dsimp only); (try k_fold))))
local macro_rules | `(tactic| walk_at "call ref") => `(tactic| (k_here; (with_reducible show wpAny _ _ (call (Value.ref 86) [Value.ref _, Value.int _ _]) _ _ _); k_dflt (refine goes_use (by k_asm) (by k_asm) (by k_asm) (by k_asm) (by k_asm) (by first | exact rfl | assumption) (c_jmul _ _ _ _ _ _ _ _ _ _ _ (by k_mem) (by with_reducible assumption) (by omega) (by omega)) (by ktr_room) (by ktr_units) ?_; k_whole; intro D' x' y' z' tx' ty' tz' c' h' tk' F' N' e' s3'; (have hb1' := s3'.1.bits); (have hb2' := s3'.2.1.bits); (have hb3' := s3'.2.2.bits); (try dsimp only); (try k_fold))))
local macro_rules | `(tactic| walk_at "call ref") => `(tactic| (k_here; (with_reducible show wpAny _ _ (call (Value.ref 93) [Value.ref _]) _ _ _); k_dflt (refine goes_use (by k_asm) (by k_asm) (by k_asm) (by k_asm) (by k_asm) (by first | exact rfl | assumption) (c_isId _ _ _ _ _ _ _ _ _ (by k_mem)) (by ktr_room) (by ktr_units) ?_; k_whole; intro h' tk' F' N'; (try dsimp only); (try k_fold))))
local macro_rules | `(tactic| walk_at "call ref") => `(tactic| (k_here; (with_reducible show wpAny _ _ (call (Value.ref 107) [Value.ref _]) _ _ _); k_dflt (refine goes_use (by k_asm) (by k_asm) (by k_asm) (by k_asm) (by k_asm) (by first | exact rfl | assumption) (c_encode _ _ _ _ _ _ _ (by k_mem) (by with_reducible assumption) (by with_reducible assumption)) (by ktr_room) (by ktr_units) ?_; k_whole; intro t' h' tk' F' N'; (try dsimp only); (try k_fold))))
local macro_rules | `(tactic| walk_at "call ref") => `(tactic| (k_here; (with_reducible show wpAny _ _ (call (Value.ref 21) [Value.bytes _ _]) _ _ _); k_dflt (refine goes_use (by k_asm) (by k_asm) (by k_asm) (by k_asm) (by k_asm) (by first | exact rfl | assumption) (c_be _ _ _ (by first | exact small_oct _ | with_reducible assumption)) (by ktr_room) (by ktr_units) ?_; k_whole; intro i' t' h' tk' F' N' e'; subst e'; (try dsimp only); (try k_fold))))
local macro_rules | `(tactic| walk_at "call ref") => `(tactic| (k_here; (with_reducible show wpAny _ _ (call (Value.ref 21) [Value.bytes (octF _) _]) _ _ _); k_dflt (refine goes_use (by k_asm) (by k_asm) (by k_asm) (by k_asm) (by k_asm) (by first | exact rfl | assumption) (c_beo _ _ _ (by with_reducible assumption)) (by ktr_room) (by ktr_units) ?_; k_whole; intro i' t' h' tk' F' N' e'; subst e'; (try dsimp only); (try k_fold))))
local macro_rules | `(tactic| walk_at "eval Name") => `(tactic| (k_here; name_kind "globalImplicit"; (with_reducible first | refine fKc (by decide +kernel) (by k_dflt k_asm) (by k_dflt k_asm) (by k_dflt k_asm) (by k_dflt k_is) ?_ | refine fKo (by decide +kernel) (by k_dflt k_asm) (by k_dflt k_asm) (by k_dflt k_asm) (by k_dflt k_is) ?_ | refine fK (by decide +kernel) (by k_dflt k_asm) (by k_dflt k_asm) (by k_dflt k_asm) (by k_dflt k_is) ?_); k_whole))
local macro_rules | `(tactic| walk_at "eval Name") => `(tactic| (k_here; name_kind "cell"; (with_reducible first | refine fCc (by decide +kernel) (by k_dflt (exact rfl)) (by k_dflt k_asm) (by k_dflt k_mem) (by k_dflt k_asm) ?_ | refine fC (by decide +kernel) (by k_dflt (exact rfl)) (by k_dflt k_asm) (by k_dflt k_mem) (by k_dflt k_asm) ?_); k_whole))
local macro_rules | `(tactic| walk_at "eval Name") => `(tactic| (k_here; name_kind "local"; (with_reducible first | refine fLc (by decide +kernel) (by k_dflt k_asm) (by k_dflt (exact rfl)) ?_ | refine fLo (by decide +kernel) (by k_dflt k_asm) (by k_dflt (exact rfl)) ?_ | refine fL (by decide +kernel) (by k_dflt k_asm) (by k_dflt (exact rfl)) ?_); k_whole))
local macro_rules | `(tactic| walk_at "callWith ref") => `(tactic| (k_here; (with_reducible first | show wpAny _ _ (callWith _ (Value.ref 136) _ _ _) _ _ _ | show wpAny _ _ (callWith _ (Value.ref 143) _ _ _) _ _ _ | show wpAny _ _ (callWith _ (Value.ref 150) _ _ _) _ _ _ | show wpAny _ _ (callWith _ (Value.ref 157) _ _ _) _ _ _ | show wpAny _ _ (callWith _ (Value.ref 164) _ _ _) _ _ _ | show wpAny _ _ (callWith _ (Value.ref 171) _ _ _) _ _ _ | show wpAny _ _ (callWith _ (Value.ref 178) _ _ _) _ _ _ | show wpAny _ _ (callWith _ (Value.ref 185) _ _ _) _ _ _ | show wpAny _ _ (callWith _ (Value.ref 190) _ _ _) _ _ _ | show wpAny _ _ (callWith _ (Value.ref 128) _ _ _) _ _ _ | show wpAny _ _ (callWith _ (Value.ref 114) _ _ _) _ _ _ | show wpAny _ _ (callWith _ (Value.ref 121) _ _ _) _ _ _ | show wpAny _ _ (callWith _ (Value.ref 107) _ _ _) _ _ _ | show wpAny _ _ (callWith _ (Value.ref 100) _ _ _) _ _ _ | show wpAny _ _ (callWith _ (Value.ref 93) _ _ _) _ _ _ | show wpAny _ _ (callWith _ (Value.ref 86) _ _ _) _ _ _ | show wpAny _ _ (callWith _ (Value.ref 79) _ _ _) _ _ _ | show wpAny _ _ (callWith _ (Value.ref 72) _ _ _) _ _ _ | show wpAny _ _ (callWith _ (Value.ref 65) _ _ _) _ _ _ | show wpAny _ _ (callWith _ (Value.ref 58) _ _ _) _ _ _ | show wpAny _ _ (callWith _ (Value.ref 51) _ _ _) _ _ _ | show wpAny _ _ (callWith _ (Value.ref 28) _ _ _) _ _ _ | show wpAny _ _ (callWith _ (Value.ref 21) _ _ _) _ _ _); (with_reducible refine callWith_K (by k_dflt k_asm) (by k_dflt k_is) ?_ (by k_dflt (exact rfl)) (by k_dflt (exact rfl))); k_whole))
local macro_rules | `(tactic| walk_at "subscriptTail Name Constant ref int") => `(tactic| (k_here; (with_reducible show wpAny _ _ (subscriptTail _ _ (Value.ref _) (Value.int 2 _)) _ _ _); k_dflt (refine sub3_2 (by k_asm) (by k_mem) ?_; k_whole)))
local macro_rules | `(tactic| walk_at "subscriptTail Name Constant ref int") => `(tactic| (k_here; (with_reducible show wpAny _ _ (subscriptTail _ _ (Value.ref _) (Value.int 1 _)) _ _ _); k_dflt (refine sub3_1 (by k_asm) (by k_mem) ?_; k_whole)))
local macro_rules | `(tactic| walk_at "subscriptTail Name Constant ref int") => `(tactic| (k_here; (with_reducible show wpAny _ _ (subscriptTail _ _ (Value.ref _) (Value.int 0 _)) _ _ _); k_dflt (refine sub3_0 (by k_asm) (by k_mem) ?_; k_whole)))
local macro_rules | `(tactic| walk_at "subscriptTail Name Constant ref int") => `(tactic| (k_here; (with_reducible show wpAny _ _ (subscriptTail _ _ (Value.ref _) (Value.int 1 _)) _ _ _); k_dflt (refine sub2_1 (by k_asm) (by k_mem) ?_; k_whole)))
local macro_rules | `(tactic| walk_at "subscriptTail Name Constant ref int") => `(tactic| (k_here; (with_reducible show wpAny _ _ (subscriptTail _ _ (Value.ref _) (Value.int 0 _)) _ _ _); k_dflt (refine sub2_0 (by k_asm) (by k_mem) ?_; k_whole)))
local macro_rules | `(tactic| k_mem) => `(tactic| with_reducible first | assumption | exact mem0 | exact mem1 | exact mem2 | exact mem3 | exact mem4 | exact mem5 | exact mem6 | exact mem7 | exact mem8 | exact mem9 | exact mem10 | exact mem11 | exact mem12 | exact mem13 | exact mem14 | exact mem15 | exact mem16 | exact mem17)
theorem c_rec_b2 {w : World} {loose mean mg mb} (oc : Array UInt8) (D : Addr) (r sv : Int) (t0 t1 t2 t3 : Tok) (c : Nat) (news : List (Addr × Obj)) (hp : (D, tup3 2 r sv t1 t2 t3 c) ∈ news) :
    GoesE w loose mean mg mb 128 40 news [.bytes oc t0, .ref D] := by
  unfold GoesE
  k_fill
  intro dp un gd cn cs a0 ccd cl outer A₀ base h₀ L m s Q E B F X N T hk DD hdp hu hret
  refine wpAny_call ?_
  k_dflt ktr_enter
  k_steps
  all_goals
    refine hret _ _ _ _ _ _ (by with_reducible assumption) (by with_reducible assumption) (raisedS_mono (by with_reducible assumption) ?_)
    (intro q hq; (repeat (first | exact hq | apply List.mem_cons_of_mem)))
theorem c_rec_bm1 {w : World} {loose mean mg mb} (oc : Array UInt8) (D : Addr) (r sv : Int) (t0 t1 t2 t3 : Tok) (c : Nat) (news : List (Addr × Obj)) (hp : (D, tup3 (-1) r sv t1 t2 t3 c) ∈ news) :
    GoesE w loose mean mg mb 128 40 news [.bytes oc t0, .ref D] := by
  unfold GoesE
  k_fill
  intro dp un gd cn cs a0 ccd cl outer A₀ base h₀ L m s Q E B F X N T hk DD hdp hu hret
  refine wpAny_call ?_
  k_dflt ktr_enter
  k_steps
  all_goals
    refine hret _ _ _ _ _ _ (by with_reducible assumption) (by with_reducible assumption) (raisedS_mono (by with_reducible assumption) ?_)
    (intro q hq; (repeat (first | exact hq | apply List.mem_cons_of_mem)))
theorem c_rec_b27 {w : World} {loose mean mg mb} (oc : Array UInt8) (D : Addr) (r sv : Int) (t0 t1 t2 t3 : Tok) (c : Nat) (news : List (Addr × Obj)) (hp : (D, tup3 27 r sv t1 t2 t3 c) ∈ news) :
    GoesE w loose mean mg mb 128 40 news [.bytes oc t0, .ref D] := by
  unfold GoesE
  k_fill
  intro dp un gd cn cs a0 ccd cl outer A₀ base h₀ L m s Q E B F X N T hk DD hdp hu hret
  refine wpAny_call ?_
  k_dflt ktr_enter
  k_steps
  all_goals
    refine hret _ _ _ _ _ _ (by with_reducible assumption) (by with_reducible assumption) (raisedS_mono (by with_reducible assumption) ?_)
    (intro q hq; (repeat (first | exact hq | apply List.mem_cons_of_mem)))
end Mine
end
section
open PySem PySem.W PySem.Spec PySem.Calls PyProof.Rows
set_option Elab.async false
set_option maxRecDepth 100000
set_option maxHeartbeats 1000000
namespace Mine
local macro_rules | `(tactic| bits_by_make) => `(tactic| first | with_reducible assumption | exact bits_P | exact bits_N | exact bits_gX | exact bits_gY | ((with_reducible apply PySem.intBits_pow_le); bits_by_make))
local macro_rules | `(tactic| walk_at "binaryOp Mod int int") => `(tactic| (k_here; (with_reducible refine mod_h ?ka ?kb ?_); (case ka => decide); (case kb => (first | exact Nat.le_trans bits_P (by decide) | exact Nat.le_trans bits_N (by decide) | (exact Nat.le_trans (PySem.intBits_le_64 (by decide) (by decide)) (by decide)))); intro v' t' tk' hv' hb'; (try dsimp only)))
local macro_rules | `(tactic| walk_at "binaryOp Pow int int") => `(tactic| (k_here; (with_reducible first | refine' pow_h2 ?kc ?kd ?_ | refine' pow_h3 ?kc ?kd ?_ | refine' pow_h4 ?kc ?kd ?_); (case kc => bits_by_make); (case kd => decide); intro t' tk'; (try dsimp only)))
local macro_rules | `(tactic| walk_at "binaryOp Mult int int") => `(tactic| (k_here; (with_reducible refine mul_h ?kc ?_); (case kc => mul_fits); intro t' tk'; (try dsimp only)))
local macro_rules | `(tactic| walk_at "binaryOp Add int int") => `(tactic| (k_here; (with_reducible refine add_h ?_); intro t' tk'; (try dsimp only)))
local macro_rules | `(tactic| walk_at "binaryOp Sub int int") => `(tactic| (k_here; (with_reducible refine sub_h ?_); intro t' tk'; (try dsimp only)))
local macro_rules | `(tactic| walk_at "binaryOp Mod int int") => `(tactic| (k_here; (with_reducible show wpAny _ _ (binaryOp Operator.Mod (Value.int _ _) (Value.int 2 _)) _ _ _); (with_reducible refine mod_2 ?_); intro v' t' tk' hv' hb' hb2'; (try dsimp only)))
local macro_rules | `(tactic| walk_at "binaryOp FloorDiv int int") => `(tactic| (k_here; (with_reducible show wpAny _ _ (binaryOp Operator.FloorDiv (Value.int _ _) (Value.int 2 _)) _ _ _); (with_reducible refine half_s ?ka ?_); (case ka => omega); intro v' t' tk' hv' hb' hb2' hb3'; (try dsimp only)))
local macro_rules | `(tactic| k_mem) => `(tactic| assumption)
local macro_rules | `(tactic| walk_at "call builtin:pow") => `(tactic| (k_here; (with_reducible refine' call_pow3_h ?_ ?_ ?_ ?_); (first | decide | decide +kernel | omega); (first | decide | decide +kernel | omega); (first | exact bits_P | exact bits_N); intro v' t' tk' hv' hb'; (try dsimp only)))
local macro_rules | `(tactic| walk_at "call builtin:pow") => `(tactic| (k_here; (with_reducible refine' call_pow3_P ?_ ?_); (first | decide | decide +kernel | omega); intro v' t' tk' hv' hb' hs'; (try dsimp only)))
local macro_rules | `(tactic| walk_at "binaryOp Mod int int") => `(tactic| (k_here; (with_reducible refine mod_hP ?_); intro v' t' tk' hv' hb' hs'; (try dsimp only)))
local macro_rules | `(tactic| walk_at "call ref") => `(tactic| (k_here; (with_reducible show wpAny _ _ (call (Value.ref 58) [Value.int _ _, Value.int _ _]) _ _ _); k_dflt (refine goes_use (by k_asm) (by k_asm) (by k_asm) (by k_asm) (by k_asm) (by first | exact rfl | assumption) (c_inv _ _ _ _ _ (by first | decide | decide +kernel | omega) (by first | exact Nat.le_trans bits_P (by decide) | exact Nat.le_trans bits_N (by decide))) (by ktr_room) (by ktr_units) ?_; k_whole; intro i' t' h' tk' F' N' e'; (have e9' := Hid.mk e'); clear e'; (have hb9' := IsInv.bits e9'.out (by first | exact Nat.le_trans bits_P (by decide) | exact Nat.le_trans bits_N (by decide))); (try dsimp only); (try k_fold))))
local macro_rules | `(tactic| walk_at "call ref") => `(tactic| (k_here; (with_reducible show wpAny _ _ (call (Value.ref 72) [Value.ref _, Value.ref _]) _ _ _); k_dflt (refine goes_use (by k_asm) (by k_asm) (by k_asm) (by k_asm) (by k_asm) (by first | exact rfl | assumption) (c_jadd _ _ _ _ _ _ _ _ _ _ _ _ _ _ _ _ _ (by k_mem) (by k_mem) (by assumption) (by assumption)) (by ktr_room) (by ktr_units) ?_; k_whole; intro D' x' y' z' tx' ty' tz' c' h' tk' F' N' e' s3'; (have hb1' := s3'.1.bits); (have hb2' := s3'.2.1.bits); (have hb3' := s3'.2.2.bits); (try dsimp only); (try k_fold))))
local macro_rules | `(tactic| walk_at "call ref") => `(tactic| (k_here; (with_reducible show wpAny _ _ (call (Value.ref 79) [Value.ref _]) _ _ _); k_dflt (refine goes_use (by k_asm) (by k_asm) (by k_asm) (by k_asm) (by k_asm) (by first | exact rfl | assumption) (c_fromJ _ _ _ _ _ _ _ _ _ (by k_mem) (by with_reducible assumption)) (by ktr_room) (by ktr_units) ?_; k_whole; intro D' x' y' tx' ty' c' h' tk' F' N' e'; (have q1' := (aff_small e').1); (have q2' := (aff_small e').2); (try dsimp only at q1' q2'); (try dsimp only); (try k_fold))))
local macro_rules | `(tactic| walk_at "call ref") => `(tactic| (k_here; (with_reducible show wpAny _ _ (call (Value.ref 86) [Value.ref _, Value.int _ _]) _ _ _); k_dflt (refine goes_use (by k_asm) (by k_asm) (by k_asm) (by k_asm) (by k_asm) (by first | exact rfl | assumption) (c_jmulX _ _ _ _ _ _ _ _ _ _ _ (by k_mem) (by first | with_reducible assumption | with_reducible exact g_small3 | (refine ⟨?_, ?_, small_one⟩ <;> with_reducible assumption) | exact ⟨g_small _ rfl |>.1, g_small _ rfl |>.2, small_one⟩) (by first | (left; constructor <;> omega) | with_reducible exact av_pre (by with_reducible assumption) (by with_reducible assumption) (by with_reducible assumption) | with_reducible exact rec_pre (by with_reducible assumption) (by with_reducible assumption) (by with_reducible assumption) (by with_reducible assumption) (by with_reducible assumption) (by with_reducible assumption) (by with_reducible assumption) (by with_reducible assumption) (by with_reducible assumption) (by with_reducible assumption) (by with_reducible assumption) (by with_reducible assumption) (by with_reducible assumption) (by with_reducible assumption) (by first | with_reducible exact y_hi (by with_reducible assumption) (by with_reducible assumption) (by with_reducible assumption) (by with_reducible assumption) (by with_reducible assumption) (by with_reducible assumption) | with_reducible exact y_lo (by with_reducible assumption) (by with_reducible assumption) (by with_reducible assumption) (by with_reducible assumption) (by with_reducible assumption) (by with_reducible assumption) (by with_reducible assumption)))) (by ktr_room) (by ktr_units) ?_; k_whole; intro D' x' y' z' tx' ty' tz' c' h' tk' F' N' e' s3'; (have hb1' := s3'.1.bits); (have hb2' := s3'.2.1.bits); (have hb3' := s3'.2.2.bits); (try dsimp only); (try k_fold))))
local macro_rules | `(tactic| walk_at "call ref") => `(tactic| (k_here; (with_reducible show wpAny _ _ (call (Value.ref 93) [Value.ref _]) _ _ _); k_dflt (refine goes_use (by k_asm) (by k_asm) (by k_asm) (by k_asm) (by k_asm) (by first | exact rfl | assumption) (c_isId _ _ _ _ _ _ _ _ _ (by k_mem)) (by ktr_room) (by ktr_units) ?_; k_whole; intro h' tk' F' N'; (try dsimp only); (try k_fold))))
local macro_rules | `(tactic| walk_at "call ref") => `(tactic| (k_here; (with_reducible show wpAny _ _ (call (Value.ref 107) [Value.ref _]) _ _ _); k_dflt (refine goes_use (by k_asm) (by k_asm) (by k_asm) (by k_asm) (by k_asm) (by first | exact rfl | assumption) (c_encode _ _ _ _ _ _ _ (by k_mem) (by with_reducible assumption) (by with_reducible assumption)) (by ktr_room) (by ktr_units) ?_; k_whole; intro t' h' tk' F' N'; (try dsimp only); (try k_fold))))
local macro_rules | `(tactic| walk_at "call ref") => `(tactic| (k_here; (with_reducible show wpAny _ _ (call (Value.ref 21) [Value.bytes _ _]) _ _ _); k_dflt (refine goes_use (by k_asm) (by k_asm) (by k_asm) (by k_asm) (by k_asm) (by first | exact rfl | assumption) (c_be _ _ _ (by first | exact small_oct _ | with_reducible assumption)) (by ktr_room) (by ktr_units) ?_; k_whole; intro i' t' h' tk' F' N' e'; subst e'; (try dsimp only); (try k_fold))))
local macro_rules | `(tactic| walk_at "call ref") => `(tactic| (k_here; (with_reducible show wpAny _ _ (call (Value.ref 21) [Value.bytes (octF _) _]) _ _ _); k_dflt (refine goes_use (by k_asm) (by k_asm) (by k_asm) (by k_asm) (by k_asm) (by first | exact rfl | assumption) (c_beo _ _ _ (by with_reducible assumption)) (by ktr_room) (by ktr_units) ?_; k_whole; intro i' t' h' tk' F' N' e'; subst e'; (try dsimp only); (try k_fold))))
local macro_rules | `(tactic| walk_at "binaryOp BitXor int int") => `(tactic| (k_here; (with_reducible refine xor_h ?_ ?_ ?_ ?_ ?_); (first | decide | omega); (first | decide | omega); (first | decide | omega); (first | decide | omega); intro v' t' tk' hv'; (try dsimp only)))
local macro_rules | `(tactic| walk_at "binaryOp Sub int int") => `(tactic| (k_here; (with_reducible refine sub_P (by with_reducible assumption) ?_); intro v' t' tk' hv' hb' hs'; (try dsimp only)))
local macro_rules | `(tactic| walk_at "eval Name") => `(tactic| (k_here; name_kind "globalImplicit"; (with_reducible first | refine fKc (by decide +kernel) (by k_dflt k_asm) (by k_dflt k_asm) (by k_dflt k_asm) (by k_dflt k_is) ?_ | refine fKo (by decide +kernel) (by k_dflt k_asm) (by k_dflt k_asm) (by k_dflt k_asm) (by k_dflt k_is) ?_ | refine fK (by decide +kernel) (by k_dflt k_asm) (by k_dflt k_asm) (by k_dflt k_asm) (by k_dflt k_is) ?_); k_whole))
local macro_rules | `(tactic| walk_at "eval Name") => `(tactic| (k_here; name_kind "cell"; (with_reducible first | refine fCc (by decide +kernel) (by k_dflt (exact rfl)) (by k_dflt k_asm) (by k_dflt k_mem) (by k_dflt k_asm) ?_ | refine fC (by decide +kernel) (by k_dflt (exact rfl)) (by k_dflt k_asm) (by k_dflt k_mem) (by k_dflt k_asm) ?_); k_whole))
local macro_rules | `(tactic| walk_at "eval Name") => `(tactic| (k_here; name_kind "local"; (with_reducible first | refine fLc (by decide +kernel) (by k_dflt k_asm) (by k_dflt (exact rfl)) ?_ | refine fLo (by decide +kernel) (by k_dflt k_asm) (by k_dflt (exact rfl)) ?_ | refine fL (by decide +kernel) (by k_dflt k_asm) (by k_dflt (exact rfl)) ?_); k_whole))
local macro_rules | `(tactic| walk_at "callWith ref") => `(tactic| (k_here; (with_reducible first | show wpAny _ _ (callWith _ (Value.ref 136) _ _ _) _ _ _ | show wpAny _ _ (callWith _ (Value.ref 143) _ _ _) _ _ _ | show wpAny _ _ (callWith _ (Value.ref 150) _ _ _) _ _ _ | show wpAny _ _ (callWith _ (Value.ref 157) _ _ _) _ _ _ | show wpAny _ _ (callWith _ (Value.ref 164) _ _ _) _ _ _ | show wpAny _ _ (callWith _ (Value.ref 171) _ _ _) _ _ _ | show wpAny _ _ (callWith _ (Value.ref 178) _ _ _) _ _ _ | show wpAny _ _ (callWith _ (Value.ref 185) _ _ _) _ _ _ | show wpAny _ _ (callWith _ (Value.ref 190) _ _ _) _ _ _ | show wpAny _ _ (callWith _ (Value.ref 128) _ _ _) _ _ _ | show wpAny _ _ (callWith _ (Value.ref 114) _ _ _) _ _ _ | show wpAny _ _ (callWith _ (Value.ref 121) _ _ _) _ _ _ | show wpAny _ _ (callWith _ (Value.ref 107) _ _ _) _ _ _ | show wpAny _ _ (callWith _ (Value.ref 100) _ _ _) _ _ _ | show wpAny _ _ (callWith _ (Value.ref 93) _ _ _) _ _ _ | show wpAny _ _ (callWith _ (Value.ref 86) _ _ _) _ _ _ | show wpAny _ _ (callWith _ (Value.ref 79) _ _ _) _ _ _ | show wpAny _ _ (callWith _ (Value.ref 72) _ _ _) _ _ _ | show wpAny _ _ (callWith _ (Value.ref 65) _ _ _) _ _ _ | show wpAny _ _ (callWith _ (Value.ref 58) _ _ _) _ _ _ | show wpAny _ _ (callWith _ (Value.ref 51) _ _ _) _ _ _ | show wpAny _ _ (callWith _ (Value.ref 28) _ _ _) _ _ _ | show wpAny _ _ (callWith _ (Value.ref 21) _ _ _) _ _ _); (with_reducible refine callWith_K (by k_dflt k_asm) (by k_dflt k_is) ?_ (by k_dflt (exact rfl)) (by k_dflt (exact rfl))); k_whole))
local macro_rules | `(tactic| walk_at "subscriptTail Name Constant ref int") => `(tactic| (k_here; (with_reducible show wpAny _ _ (subscriptTail _ _ (Value.ref _) (Value.int 2 _)) _ _ _); k_dflt (refine sub3_2 (by k_asm) (by k_mem) ?_; k_whole)))
local macro_rules | `(tactic| walk_at "subscriptTail Name Constant ref int") => `(tactic| (k_here; (with_reducible show wpAny _ _ (subscriptTail _ _ (Value.ref _) (Value.int 1 _)) _ _ _); k_dflt (refine sub3_1 (by k_asm) (by k_mem) ?_; k_whole)))
local macro_rules | `(tactic| walk_at "subscriptTail Name Constant ref int") => `(tactic| (k_here; (with_reducible show wpAny _ _ (subscriptTail _ _ (Value.ref _) (Value.int 0 _)) _ _ _); k_dflt (refine sub3_0 (by k_asm) (by k_mem) ?_; k_whole)))
local macro_rules | `(tactic| walk_at "subscriptTail Name Constant ref int") => `(tactic| (k_here; (with_reducible show wpAny _ _ (subscriptTail _ _ (Value.ref _) (Value.int 1 _)) _ _ _); k_dflt (refine sub2_1 (by k_asm) (by k_mem) ?_; k_whole)))
local macro_rules | `(tactic| walk_at "subscriptTail Name Constant ref int") => `(tactic| (k_here; (with_reducible show wpAny _ _ (subscriptTail _ _ (Value.ref _) (Value.int 0 _)) _ _ _); k_dflt (refine sub2_0 (by k_asm) (by k_mem) ?_; k_whole)))
local macro_rules | `(tactic| k_mem) => `(tactic| with_reducible first | assumption | exact mem0 | exact mem1 | exact mem2 | exact mem3 | exact mem4 | exact mem5 | exact mem6 | exact mem7 | exact mem8 | exact mem9 | exact mem10 | exact mem11 | exact mem12 | exact mem13 | exact mem14 | exact mem15 | exact mem16 | exact mem17)
theorem notin01 {prog : Program} {w : World} {A : Around} {E : Value → Shared → Prop} {s : Shared} {Q : Value → Shared → Prop} {v : Int} {t ta tb : Tok} {D : Addr} (hv : v = 0 ∨ v = 1) (ht : IsTup s.heap D [.int 0 ta, .int 1 tb].toArray) (h : Q (.bool false) s) :
    wpAny (model prog w) A (compareOp .NotIn (.int v t) (.ref D)) Q E s := by
  rcases hv with rfl | rfl
  · exact notin_tuple_ints (ns := [0, 1]) ht (by repeat constructor) h
  · exact notin_tuple_ints (ns := [0, 1]) ht (by repeat constructor) h
local macro_rules | `(tactic| walk_at "compareOp NotIn int ref") => `(tactic| (k_here; k_dflt (refine notin01 (by with_reducible assumption) (News.isTup (by k_asm) (by k_mem)) ?_; k_whole)))
theorem c_recV {w : World} {loose mean mg mb} (v : Int) (hv : v = 0 ∨ v = 1) (zz : Int) (D : Addr) (r sv : Int) (t0 t1 t2 t3 : Tok) (c : Nat) (news : List (Addr × Obj)) (hp : (D, tup3 v r sv t1 t2 t3 c) ∈ news) (hz : Small zz) (hr : Small r) (hs0 : 0 ≤ sv) (hs1 : sv < 1048576)
    (av : Int) (hav : av = (pN - zz) % pN) (hav1 : av < 1048576) (hpre : RecPre r v sv av)
    (dp un : Nat) (gd : Option (List Code)) (cn : Str) (cs : Scope) (a : Addr) (ccd : Value) (cl : List (Str × Addr)) (outer : List Env) (A₀ : Around) (base h₀ : Heap) (L : Addr) (m : Str → Option Value) (s : Shared)
    (Q E : Value → Shared → Prop) (B : Below A₀ base outer h₀) (F : Fr h₀ L s.heap m) (N : News h₀ L s.heap news) (T : Top topProg loose mean mg mb h₀) (hk : cs.kind = .function)
    (DD : KtsDicts (outer.filterMap (·.frame)) h₀) (hdp : dp + 40 < recursionLimit) (hu : un + 8 * 40 < cLine) (X : (hd.heap_39 w.params).In h₀)
    (hE : RecE r v sv av → ∀ (e t : Addr) (vs : List Value) (g' h' : Heap) (tk' : Nat), Fr h₀ L g' m → g'.UpToSlots h' → RaisedS base g' (envX cn cs L a ccd cl :: outer) e (.ref 41) t vs news h' → E (.ref e) { s with heap := h', toks := tk' })
    (hQ : ∀ (q : Aff), RecQ r v sv av q → ∀ (t : Tok) (h' : Heap) (tk' : Nat), Fr h₀ L h' m → News h₀ L h' news → Q (.bytes (octF q.1 ++ octF q.2) t) { s with heap := h', toks := tk' }) :
    wpAny (model PySem.Challenge.rw_vj0008_01.row.prog w) (ktrTop dp un gd cn cs L a ccd cl outer) (call (.ref 128) [.bytes (octF zz) t0, .ref D]) Q E s := by
  revert X
  k_fill
  intro X
  have hrb := hr.bits
  have hsb : Builtin.Int.intBits sv ≤ 300 := Nat.le_trans (PySem.intBits_le_64 (by omega) (by omega)) (by decide)
  refine wpAny_call ?_
  k_dflt ktr_enter
  k_steps
  all_goals first
    | (refine hE ?_ _ _ _ _ _ _ (by with_reducible assumption) (by with_reducible assumption) (raisedS_mono (by with_reducible assumption) ?_)
       · first
         | with_reducible exact recE_a (by with_reducible assumption) (by with_reducible assumption) (by with_reducible assumption) (by first | with_reducible exact y_hi (by with_reducible assumption) (by with_reducible assumption) (by with_reducible assumption) (by with_reducible assumption) (by with_reducible assumption) (by with_reducible assumption) | with_reducible exact y_lo (by with_reducible assumption) (by with_reducible assumption) (by with_reducible assumption) (by with_reducible assumption) (by with_reducible assumption) (by with_reducible assumption) (by with_reducible assumption))
         | with_reducible exact recE_b (by with_reducible assumption) (by with_reducible assumption)
         | with_reducible exact recE_c (by with_reducible assumption) (by with_reducible assumption)
         | with_reducible exact recE_d (by with_reducible assumption) (by with_reducible assumption) (by with_reducible assumption) (by with_reducible assumption) (by with_reducible assumption) (by with_reducible assumption) (by with_reducible assumption) (by with_reducible assumption) (by first | with_reducible exact y_hi (by with_reducible assumption) (by with_reducible assumption) (by with_reducible assumption) (by with_reducible assumption) (by with_reducible assumption) (by with_reducible assumption) | with_reducible exact y_lo (by with_reducible assumption) (by with_reducible assumption) (by with_reducible assumption) (by with_reducible assumption) (by with_reducible assumption) (by with_reducible assumption) (by with_reducible assumption))
       · (intro q hq; (repeat (first | exact hq | apply List.mem_cons_of_mem))))
    | (refine hQ (_, _) ?_ _ _ _ (by k_asm) (fun p hp => (show News _ _ _ _ by k_asm) p ?_)
       · with_reducible exact recQ_e (by with_reducible assumption) (by with_reducible assumption) (by with_reducible assumption) (by with_reducible assumption) (by with_reducible assumption) (by with_reducible assumption) (by with_reducible assumption) (by with_reducible assumption) (by with_reducible assumption) (by with_reducible assumption) (by with_reducible assumption) (by with_reducible assumption) (by with_reducible assumption) (by with_reducible assumption) (by with_reducible assumption) (by with_reducible assumption) (by first | with_reducible exact y_hi (by with_reducible assumption) (by with_reducible assumption) (by with_reducible assumption) (by with_reducible assumption) (by with_reducible assumption) (by with_reducible assumption) | with_reducible exact y_lo (by with_reducible assumption) (by with_reducible assumption) (by with_reducible assumption) (by with_reducible assumption) (by with_reducible assumption) (by with_reducible assumption) (by with_reducible assumption))
       · (repeat (first | exact hp | apply List.mem_cons_of_mem)))
end Mine
end
section
open PySem PySem.W PySem.Spec PySem.Calls PyProof.Rows
set_option Elab.async false
set_option maxRecDepth 100000
set_option maxHeartbeats 1000000
namespace Mine
local macro_rules | `(tactic| bits_by_make) => `(tactic| first | with_reducible assumption | exact bits_P | exact bits_N | exact bits_gX | exact bits_gY | ((with_reducible apply PySem.intBits_pow_le); bits_by_make))
local macro_rules | `(tactic| walk_at "binaryOp Mod int int") => `(tactic| (k_here; (with_reducible refine mod_h ?ka ?kb ?_); (case ka => decide); (case kb => (first | exact Nat.le_trans bits_P (by decide) | exact Nat.le_trans bits_N (by decide) | (exact Nat.le_trans (PySem.intBits_le_64 (by decide) (by decide)) (by decide)))); intro v' t' tk' hv' hb'; (try dsimp only)))
local macro_rules | `(tactic| walk_at "binaryOp Pow int int") => `(tactic| (k_here; (with_reducible first | refine' pow_h2 ?kc ?kd ?_ | refine' pow_h3 ?kc ?kd ?_ | refine' pow_h4 ?kc ?kd ?_); (case kc => bits_by_make); (case kd => decide); intro t' tk'; (try dsimp only)))
local macro_rules | `(tactic| walk_at "binaryOp Mult int int") => `(tactic| (k_here; (with_reducible refine mul_h ?kc ?_); (case kc => mul_fits); intro t' tk'; (try dsimp only)))
local macro_rules | `(tactic| walk_at "binaryOp Add int int") => `(tactic| (k_here; (with_reducible refine add_h ?_); intro t' tk'; (try dsimp only)))
local macro_rules | `(tactic| walk_at "binaryOp Sub int int") => `(tactic| (k_here; (with_reducible refine sub_h ?_); intro t' tk'; (try dsimp only)))
local macro_rules | `(tactic| walk_at "binaryOp Mod int int") => `(tactic| (k_here; (with_reducible show wpAny _ _ (binaryOp Operator.Mod (Value.int _ _) (Value.int 2 _)) _ _ _); (with_reducible refine mod_2 ?_); intro v' t' tk' hv' hb' hb2'; (try dsimp only)))
local macro_rules | `(tactic| walk_at "binaryOp FloorDiv int int") => `(tactic| (k_here; (with_reducible show wpAny _ _ (binaryOp Operator.FloorDiv (Value.int _ _) (Value.int 2 _)) _ _ _); (with_reducible refine half_s ?ka ?_); (case ka => omega); intro v' t' tk' hv' hb' hb2' hb3'; (try dsimp only)))
local macro_rules | `(tactic| k_mem) => `(tactic| assumption)
local macro_rules | `(tactic| walk_at "call builtin:pow") => `(tactic| (k_here; (with_reducible refine' call_pow3_h ?_ ?_ ?_ ?_); (first | decide | decide +kernel | omega); (first | decide | decide +kernel | omega); (first | exact bits_P | exact bits_N); intro v' t' tk' hv' hb'; (try dsimp only)))
local macro_rules | `(tactic| walk_at "call builtin:pow") => `(tactic| (k_here; (with_reducible refine' call_pow3_P ?_ ?_); (first | decide | decide +kernel | omega); intro v' t' tk' hv' hb' hs'; (try dsimp only)))
local macro_rules | `(tactic| walk_at "binaryOp Mod int int") => `(tactic| (k_here; (with_reducible refine mod_hP ?_); intro v' t' tk' hv' hb' hs'; (try dsimp only)))
theorem listN {h₀ h : Heap} {L D : Addr} {news : List (Addr × Obj)} {its : Array Value} {n : Nat} (N : News h₀ L h news) (hm : (D, listOf its n) ∈ news) : h.IsList D its := ⟨_, (N _ hm).1, rfl, _, rfl⟩
theorem item_two0 {prog : Program} {w : World} {A : Around} {E : Value → Shared → Prop} {s : Shared} {value slice : Expr} {l : Addr} {x y : Value} {u : Tok} {Q : Value → Shared → Prop} (hl : s.heap.IsList l #[x, y]) (h : Q x s)
    (hs : subscripted slice false (.ref l) (.int 0 u) = operate [.ref l, .int 0 u] (getItem (.ref l) (.int 0 u)) := by with_unfolding_all rfl) (hg : ∀ r, letTemporaryGo value (.ref l) r = pure () := by intro _; with_unfolding_all rfl) :
    wpAny (model prog w) A (subscriptTail value slice (.ref l) (.int 0 u)) Q E s := PyProof.Rows.item_list hl (by decide) (by decide) rfl h hs hg
theorem item_two1 {prog : Program} {w : World} {A : Around} {E : Value → Shared → Prop} {s : Shared} {value slice : Expr} {l : Addr} {x y : Value} {u : Tok} {Q : Value → Shared → Prop} (hl : s.heap.IsList l #[x, y]) (h : Q y s)
    (hs : subscripted slice false (.ref l) (.int 1 u) = operate [.ref l, .int 1 u] (getItem (.ref l) (.int 1 u)) := by with_unfolding_all rfl) (hg : ∀ r, letTemporaryGo value (.ref l) r = pure () := by intro _; with_unfolding_all rfl) :
    wpAny (model prog w) A (subscriptTail value slice (.ref l) (.int 1 u)) Q E s := PyProof.Rows.item_list hl (by decide) (by decide) rfl h hs hg
local macro_rules | `(tactic| walk_at "subscriptTail") => `(tactic| (k_here; (with_reducible show wpAny _ _ (subscriptTail _ _ (Value.ref _) (Value.int 0 _)) _ _ _); k_dflt (refine item_two0 (listN (by k_asm) (by k_mem)) ?_)))
local macro_rules | `(tactic| walk_at "subscriptTail") => `(tactic| (k_here; (with_reducible show wpAny _ _ (subscriptTail _ _ (Value.ref _) (Value.int 1 _)) _ _ _); k_dflt (refine item_two1 (listN (by k_asm) (by k_mem)) ?_)))
theorem apart_of {h₀ h : Heap} {L D B : Addr} {news : List (Addr × Obj)} {its js : Array Value} {n c : Nat} (N : News h₀ L h ((D, {cls := .type "tuple", data := .seq js c}) :: news)) (hB : (B, listOf its n) ∈ news) : D ≠ B := by
  intro q
  have a := (N _ (.head _)).1
  have b := (N _ (.tail _ hB)).1
  simp only [q] at a
  rw [b] at a
  have e : Value.type "list" = Value.type "tuple" := congrArg Obj.cls (Option.some.inj a)
  injection e with e
  exact absurd e (by decide)
local macro_rules | `(tactic| walk_at "setItem ref int") => `(tactic| (k_here; (rename ∀ _, Upd _ _ _ _ _ => hU'); k_dflt (refine ki_set (q := [_, Value.int _ _]) (by k_asm) (by k_asm) (by decide) (by decide) rfl (Upd.tail (apart_of (by with_reducible assumption) (by with_reducible assumption)) (hU' _)) ?_); intro h' F' N'; (try dsimp only)))
theorem len_ints {prog : Program} {w : World} {A : Around} {E : Value → Shared → Prop} {s : Shared} {l : Addr} {vs : List Value} {ns : List Int} {Q : Value → Shared → Prop} (hl : s.heap.IsList l vs.toArray) (hi : IntsAre vs ns) (hlen : ns.length ≤ 64)
    (h : ∀ (t' tk' : Nat), Q (.int (ns.length : Int) t') { s with toks := tk' }) : wpAny (model prog w) A (call (.builtin "len") [.ref l]) Q E s := by
  have e : vs.toArray.size = ns.length := (List.size_toArray).trans hi.length
  refine call_len_list hl (by rw [e]; omega) ?_
  have hh := h (s.toks + 1) (s.toks + 1 + 1)
  rw [← e] at hh
  exact hh
theorem div_t {prog : Program} {w : World} {A : Around} {E : Value → Shared → Prop} {s : Shared} {a b : Int} {t u : Tok} {Q : Value → Shared → Prop} (ha : 0 ≤ a) (ha1 : a < 1000) (hb : 0 < b) (hb1 : b ≤ 64)
    (h : ∀ (v : Int) (t' tk' : Nat), 0 ≤ v → v < 1000 → Builtin.Int.intBits v ≤ 300 → Q (.int v t') { s with toks := tk' }) : wpAny (model prog w) A (binaryOp .FloorDiv (.int a t) (.int b u)) Q E s := by
  refine div_s hb (Nat.le_trans (PySem.intBits_le_64 (by omega) (by omega)) (by decide)) fun v t' tk' hv => ?_
  have e := hv.out
  have h1 : 0 ≤ v := by rw [e]; exact Int.ediv_nonneg ha (Int.le_of_lt hb)
  have h2 : v ≤ a := by rw [e]; exact Int.ediv_le_self _ ha
  exact h v t' tk' h1 (by omega) (Nat.le_trans (PySem.intBits_le_64 (by omega) (by omega)) (by decide))
local macro_rules | `(tactic| walk_at "call builtin:len") => `(tactic| (k_here; k_dflt (refine len_ints (listN (by k_asm) (by first | with_reducible assumption | (apply List.mem_cons_of_mem; (rename ∀ _, (_, listOf _ _) ∈ _ => hU'); exact hU' _))) (by with_reducible assumption) (by with_reducible assumption) ?_); intro t' tk'; (try dsimp only)))
local macro_rules | `(tactic| walk_at "subscriptTail") => `(tactic| (k_here; (with_reducible show wpAny _ _ (subscriptTail _ (Expr.BinOp _ _ _ _) (Value.ref _) (Value.int _ _)) _ _ _); k_dflt (refine item_list_ints (listN (by k_asm) (by first | with_reducible assumption | (apply List.mem_cons_of_mem; (rename ∀ _, (_, listOf _ _) ∈ _ => hU'); exact hU' _))) (by with_reducible assumption) (by omega) (by omega) (by omega) ?_); intro t'; (try dsimp only)))
local macro_rules | `(tactic| walk_at "binaryOp Mod int int") => `(tactic| (k_here; (with_reducible refine mod_s (by omega) ?_); intro v' t' tk' hv' hb' hb2'; (try dsimp only)))
local macro_rules | `(tactic| walk_at "binaryOp FloorDiv int int") => `(tactic| (k_here; (with_reducible refine div_t (by omega) (by omega) (by omega) (by omega) ?_); intro v' t' tk' hv' hb' hb2'; (try dsimp only)))
theorem c_take {w : World} {loose mean mg mb} (Bx Rw : Addr) (vs : List Value) (ns : List Int) (at' : Int) (ta tm : Tok) (n1 n2 : Nat) (many : Int) (news : List (Addr × Obj)) (g : Tok → List (Addr × Obj))
    (hB : (Bx, listOf #[.ref Rw, .int at' ta] n1) ∈ news) (hi : IntsAre vs ns) (hlen : ns.length ≤ 64) (U : ∀ t', Upd Bx (listOf #[.ref Rw, .int at' ta] n1) (listOf #[.ref Rw, .int (at' + 1) t'] n1) news (g t'))
    (hRg : ∀ t', (Rw, listOf vs.toArray n2) ∈ g t') (h0 : 0 ≤ at') (h1 : at' < 1000) (hm : 0 < many) (hm1 : many ≤ 1000) :
    GoesX w loose mean mg mb 136 4 news [.ref Bx, .int many tm] (fun h₀ L m s Q => ∀ (v : Int) (t ta' : Tok) (h' : Heap) (tk' : Nat), Fr h₀ L h' m → News h₀ L h' (g ta') → 0 ≤ v → v < many → Q (.int v t) { s with heap := h', toks := tk' }) := by
  have hab : Builtin.Int.intBits at' ≤ 300 := Nat.le_trans (PySem.intBits_le_64 (by omega) (by omega)) (by decide)
  unfold GoesX
  k_fill
  intro dp un gd cn cs a ccd cl outer A₀ base h₀ L m s Q E B F X N T hk hdp hu hret
  refine wpAny_call ?_
  k_dflt ktr_enter
  k_steps
  all_goals exact hret _ _ _ _ _ (by k_asm) (fun p hp => (show News _ _ _ _ by with_reducible assumption) p (.tail _ hp)) (by with_reducible assumption) (by with_reducible assumption)
end Mine
end
section
/-! primes by a generator (Lucas) and a pigeonhole -/
namespace Mine
def pwm (m : Nat) : Nat → Nat → Nat → Nat → Nat
  | 0, _, _, acc => acc % m
  | f + 1, b, e, acc => pwm m f (b * b % m) (e / 2) (if e % 2 = 1 then acc * b % m else acc)
theorem pwm_eq (m : Nat) : ∀ (f b e acc : Nat), e < 2 ^ f → pwm m f b e acc = acc * b ^ e % m := by
  intro f
  induction f with
  | zero =>
    intro b e acc h
    have : e = 0 := by rw [Nat.pow_zero] at h; omega
    subst this
    simp [pwm]
  | succ f ih =>
    intro b e acc h
    rw [pwm, ih _ _ _ (by rw [Nat.pow_succ] at h; omega)]
    have h1 : (b * b % m) ^ (e / 2) % m = b ^ (2 * (e / 2)) % m := by
      rw [← Nat.pow_mod, Nat.pow_mul, Nat.pow_two]
    split
    · rename_i h2
      have h3 : e = 2 * (e / 2) + 1 := by omega
      conv => rhs; rw [h3]
      rw [Nat.mul_mod, h1, Nat.mod_mod, ← Nat.mul_mod, Nat.pow_succ]
      congr 1
      rw [Nat.mul_assoc, Nat.mul_comm b]
    · have h3 : e = 2 * (e / 2) := by omega
      conv => rhs; rw [h3]
      rw [Nat.mul_mod, h1, ← Nat.mul_mod]
theorem pigeon : ∀ (n : Nat) (f : Nat → Nat), (∀ i, i < n → f i < n) → (∀ i j, i < n → j < n → f i = f j → i = j) → ∀ y, y < n → ∃ i, i < n ∧ f i = y := by
  intro n
  induction n with
  | zero => intro f _ _ y h; omega
  | succ n ih =>
    intro f hf hi y hy
    have key := ih (fun i => if f i = n then f n else f i)
      (by
        intro i h
        try dsimp only
        have h1 := hf i (by omega)
        have h2 := hf n (by omega)
        have h3 := hi i n (by omega) (by omega)
        split
        · rcases Nat.lt_or_ge (f n) n with h4 | h4
          · exact h4
          · have := h3 (by omega); omega
        · omega)
      (by
        intro i j h1 h2 h
        try dsimp only at h
        have a1 := hi i j (by omega) (by omega)
        have a2 := hi i n (by omega) (by omega)
        have a3 := hi j n (by omega) (by omega)
        split at h <;> split at h
        · exact a1 (by omega)
        · have := a3 (by omega); omega
        · have := a2 (by omega); omega
        · exact a1 h)
    by_cases h1 : f n = y
    · exact ⟨n, by omega, h1⟩
    by_cases h2 : y = n
    · have h3 := hf n (by omega)
      obtain ⟨i, h4, h5⟩ := key (f n) (by omega)
      try dsimp only at h5
      split at h5
      · exact ⟨i, by omega, by omega⟩
      · have := hi i n (by omega) (by omega) h5; omega
    · obtain ⟨i, h4, h5⟩ := key y (by omega)
      try dsimp only at h5
      split at h5
      · omega
      · exact ⟨i, by omega, h5⟩
def IsP (p : Nat) : Prop := 2 ≤ p ∧ ∀ d, d ∣ p → d = 1 ∨ d = p
theorem least {P : Nat → Prop} : ∀ n, 0 < n → P n → ∃ d, 0 < d ∧ P d ∧ ∀ e, 0 < e → e < d → ¬P e := by
  intro n
  induction n using Nat.strongRecOn with
  | _ n ih =>
    intro h0 h
    by_cases hx : ∃ e, 0 < e ∧ e < n ∧ P e
    · obtain ⟨e, h1, h2, h3⟩ := hx
      exact ih e h2 h1 h3
    · exact ⟨n, h0, h, fun e h1 h2 h3 => hx ⟨e, h1, h2, h3⟩⟩
theorem has_factor : ∀ (L : List Nat), (∀ q ∈ L, IsP q) → ∀ e, e ∣ L.foldr (· * ·) 1 → e ≠ 1 → ∃ q ∈ L, q ∣ e := by
  intro L
  induction L with
  | nil =>
    intro _ e h h1
    exact absurd (Nat.dvd_one.mp h) h1
  | cons q L ih =>
    intro hL e h h1
    rw [List.foldr_cons] at h
    rcases (hL q (.head _)).2 (Nat.gcd e q) (Nat.gcd_dvd_right e q) with h2 | h2
    · obtain ⟨q', h3, h4⟩ := ih (fun q' hq => hL q' (.tail _ hq)) e (Nat.Coprime.dvd_of_dvd_mul_left h2 h) h1
      exact ⟨q', .tail _ h3, h4⟩
    · exact ⟨q, .head _, by rw [← h2]; exact Nat.gcd_dvd_left e q⟩
theorem one_mul_mod {p a b : Nat} (h1 : 1 < p) (h : a % p = 1) : a * b % p = b % p := by
  rw [Nat.mul_mod, h, Nat.one_mul, Nat.mod_mod]
theorem one_pow_mod {p a k : Nat} (h1 : 1 < p) (h : a % p = 1) : a ^ k % p = 1 := by
  rw [Nat.pow_mod, h, Nat.one_pow, Nat.mod_eq_of_lt h1]
theorem lucas {p g : Nat} (L : List Nat) (hp : 1 < p) (hL : ∀ q ∈ L, IsP q) (hM : L.foldr (· * ·) 1 = p - 1) (h1 : g ^ (p - 1) % p = 1) (h2 : ∀ q ∈ L, g ^ ((p - 1) / q) % p ≠ 1) :
    IsP p ∧ ∀ a, 0 < a → a < p → a ^ (p - 1) % p = 1 := by
  obtain ⟨d, d0, dP, dm⟩ := least (P := fun k => g ^ k % p = 1) (p - 1) (by omega) h1
  have hdM : d ∣ p - 1 := by
    have e := Nat.div_add_mod (p - 1) d
    have e1 : g ^ (p - 1) % p = g ^ ((p - 1) % d) % p := by
      conv => lhs; rw [← e, Nat.pow_add, Nat.pow_mul]
      exact one_mul_mod hp (one_pow_mod hp dP)
    have h3 := Nat.mod_lt (p - 1) d0
    rcases Nat.eq_zero_or_pos ((p - 1) % d) with h4 | h4
    · exact Nat.dvd_of_mod_eq_zero h4
    · exact absurd (e1.symm.trans h1) (dm _ h4 h3)
  have hd : d = p - 1 := by
    obtain ⟨e, he⟩ := hdM
    by_cases h3 : e = 1
    · rw [he, h3, Nat.mul_one]
    · obtain ⟨q, hq, k, hk⟩ := has_factor L hL e (by rw [hM, he]; exact Nat.dvd_mul_left e d) h3
      have q2 := (hL q hq).1
      refine absurd ?_ (h2 q hq)
      have e1 : (p - 1) / q = d * k := by
        rw [he, hk, ← Nat.mul_assoc, Nat.mul_comm d q, Nat.mul_assoc]
        exact Nat.mul_div_cancel_left _ (by omega)
      rw [e1, Nat.pow_mul]
      exact one_pow_mod hp dP
  subst hd
  have hne : ∀ i, i < p - 1 → g ^ i % p ≠ 0 := by
    intro i hi h0
    have e : g ^ (p - 1) = g ^ i * g ^ (p - 1 - i) := by rw [← Nat.pow_add]; congr 1; omega
    rw [e, Nat.mul_mod, h0, Nat.zero_mul, Nat.zero_mod] at h1
    omega
  have hinj : ∀ i j, i < j → j < p - 1 → g ^ i % p ≠ g ^ j % p := by
    intro i j hi hj h
    refine dm (j - i) (by omega) (by omega) ?_
    show g ^ (j - i) % p = 1
    have e : g ^ (p - 1) = g ^ i * g ^ (p - 1 - i) := by rw [← Nat.pow_add]; congr 1; omega
    have e2 : g ^ (p - 1) * g ^ (j - i) = g ^ j * g ^ (p - 1 - i) := by rw [← Nat.pow_add, ← Nat.pow_add]; congr 1; omega
    rw [← one_mul_mod hp h1, e2, Nat.mul_mod, ← h, ← Nat.mul_mod, ← e, h1]
  have hsur := pigeon (p - 1) (fun i => g ^ i % p - 1)
    (by
      intro i hi
      have a1 := hne i hi
      have a2 := Nat.mod_lt (g ^ i) (show p > 0 by omega)
      try dsimp only
      omega)
    (by
      intro i j hi hj h
      try dsimp only at h
      have a1 := hne i hi
      have a2 := hne j hj
      rcases Nat.lt_trichotomy i j with h3 | h3 | h3
      · exact absurd (by omega) (hinj i j h3 hj)
      · exact h3
      · exact absurd (by omega) (hinj j i h3 hi))
  have hall : ∀ a, 0 < a → a < p → a ^ (p - 1) % p = 1 := by
    intro a a0 a1
    obtain ⟨i, hi, h3⟩ := hsur (a - 1) (by omega)
    try dsimp only at h3
    have a2 := hne i hi
    have h4 : a = g ^ i % p := by omega
    rw [h4, ← Nat.pow_mod, ← Nat.pow_mul, Nat.mul_comm, Nat.pow_mul]
    exact one_pow_mod hp h1
  refine ⟨⟨by omega, fun d hd => ?_⟩, hall⟩
  by_cases h3 : d = p
  · exact .inr h3
  · have h4 := Nat.le_of_dvd (by omega) hd
    have h5 := Nat.pos_of_dvd_of_pos hd (by omega)
    have h6 := hall d h5 (by omega)
    have h7 := Nat.div_add_mod (d ^ (p - 1)) p
    rw [h6] at h7
    have h8 : d ∣ d ^ (p - 1) := ⟨d ^ (p - 2), by rw [Nat.mul_comm, ← Nat.pow_succ]; congr 1; omega⟩
    rw [← h7] at h8
    have h9 : d ∣ 1 := (Nat.dvd_add_right (Nat.dvd_trans hd (Nat.dvd_mul_right p _))).mp h8
    exact .inl (Nat.dvd_one.mp h9)
theorem lucas_c {p g : Nat} (L : List Nat) (hp : 1 < p) (hb : p ≤ 2 ^ 256) (hL : ∀ q ∈ L, IsP q) (hc : (L.foldr (· * ·) 1 == p - 1) && (pwm p 256 g (p - 1) 1 == 1) && L.all (fun q => pwm p 256 g ((p - 1) / q) 1 != 1)) :
    IsP p ∧ ∀ a, 0 < a → a < p → a ^ (p - 1) % p = 1 := by
  simp only [Bool.and_eq_true, beq_iff_eq, List.all_eq_true, bne_iff_ne, ne_eq] at hc
  obtain ⟨⟨c1, c2⟩, c3⟩ := hc
  refine lucas (g := g) L hp hL c1 ?_ ?_
  · rw [pwm_eq _ _ _ _ _ (by omega), Nat.one_mul] at c2
    exact c2
  · intro q hq h
    refine c3 q hq ?_
    have : (p - 1) / q ≤ p - 1 := Nat.div_le_self _ _
    rw [pwm_eq _ _ _ _ _ (by omega), Nat.one_mul]
    exact h
theorem prime_2 : IsP 2 := ⟨by decide, fun d h => by have := Nat.le_of_dvd (by decide) h; have := Nat.pos_of_dvd_of_pos h (by decide); omega⟩
theorem prime_3' : IsP 3 ∧ ∀ a, 0 < a → a < 3 → a ^ (3 - 1) % 3 = 1 :=
  lucas_c (g := 2) [2] (by decide +kernel) (by decide +kernel) (by simp only [List.forall_mem_cons]; exact ⟨prime_2, fun _ h => nomatch h⟩) (by decide +kernel)
theorem prime_7' : IsP 7 ∧ ∀ a, 0 < a → a < 7 → a ^ (7 - 1) % 7 = 1 :=
  lucas_c (g := 3) [2, 3] (by decide +kernel) (by decide +kernel) (by simp only [List.forall_mem_cons]; exact ⟨prime_2, prime_3'.1, fun _ h => nomatch h⟩) (by decide +kernel)
theorem prime_5' : IsP 5 ∧ ∀ a, 0 < a → a < 5 → a ^ (5 - 1) % 5 = 1 :=
  lucas_c (g := 2) [2, 2] (by decide +kernel) (by decide +kernel) (by simp only [List.forall_mem_cons]; exact ⟨prime_2, prime_2, fun _ h => nomatch h⟩) (by decide +kernel)
theorem prime_13441' : IsP 13441 ∧ ∀ a, 0 < a → a < 13441 → a ^ (13441 - 1) % 13441 = 1 :=
  lucas_c (g := 11) [2, 2, 2, 2, 2, 2, 2, 3, 5, 7] (by decide +kernel) (by decide +kernel) (by simp only [List.forall_mem_cons]; exact ⟨prime_2, prime_2, prime_2, prime_2, prime_2, prime_2, prime_2, prime_3'.1, prime_5'.1, prime_7'.1, fun _ h => nomatch h⟩) (by decide +kernel)
theorem prime_29' : IsP 29 ∧ ∀ a, 0 < a → a < 29 → a ^ (29 - 1) % 29 = 1 :=
  lucas_c (g := 2) [2, 2, 7] (by decide +kernel) (by decide +kernel) (by simp only [List.forall_mem_cons]; exact ⟨prime_2, prime_2, prime_7'.1, fun _ h => nomatch h⟩) (by decide +kernel)
theorem prime_31' : IsP 31 ∧ ∀ a, 0 < a → a < 31 → a ^ (31 - 1) % 31 = 1 :=
  lucas_c (g := 3) [2, 3, 5] (by decide +kernel) (by decide +kernel) (by simp only [List.forall_mem_cons]; exact ⟨prime_2, prime_3'.1, prime_5'.1, fun _ h => nomatch h⟩) (by decide +kernel)
theorem prime_11' : IsP 11 ∧ ∀ a, 0 < a → a < 11 → a ^ (11 - 1) % 11 = 1 :=
  lucas_c (g := 2) [2, 5] (by decide +kernel) (by decide +kernel) (by simp only [List.forall_mem_cons]; exact ⟨prime_2, prime_5'.1, fun _ h => nomatch h⟩) (by decide +kernel)
theorem prime_13' : IsP 13 ∧ ∀ a, 0 < a → a < 13 → a ^ (13 - 1) % 13 = 1 :=
  lucas_c (g := 2) [2, 2, 3] (by decide +kernel) (by decide +kernel) (by simp only [List.forall_mem_cons]; exact ⟨prime_2, prime_2, prime_3'.1, fun _ h => nomatch h⟩) (by decide +kernel)
theorem prime_7723' : IsP 7723 ∧ ∀ a, 0 < a → a < 7723 → a ^ (7723 - 1) % 7723 = 1 :=
  lucas_c (g := 3) [2, 3, 3, 3, 11, 13] (by decide +kernel) (by decide +kernel) (by simp only [List.forall_mem_cons]; exact ⟨prime_2, prime_3'.1, prime_3'.1, prime_3'.1, prime_11'.1, prime_13'.1, fun _ h => nomatch h⟩) (by decide +kernel)
theorem prime_17' : IsP 17 ∧ ∀ a, 0 < a → a < 17 → a ^ (17 - 1) % 17 = 1 :=
  lucas_c (g := 3) [2, 2, 2, 2] (by decide +kernel) (by decide +kernel) (by simp only [List.forall_mem_cons]; exact ⟨prime_2, prime_2, prime_2, prime_2, fun _ h => nomatch h⟩) (by decide +kernel)
theorem prime_443' : IsP 443 ∧ ∀ a, 0 < a → a < 443 → a ^ (443 - 1) % 443 = 1 :=
  lucas_c (g := 2) [2, 13, 17] (by decide +kernel) (by decide +kernel) (by simp only [List.forall_mem_cons]; exact ⟨prime_2, prime_13'.1, prime_17'.1, fun _ h => nomatch h⟩) (by decide +kernel)
theorem prime_887' : IsP 887 ∧ ∀ a, 0 < a → a < 887 → a ^ (887 - 1) % 887 = 1 :=
  lucas_c (g := 5) [2, 443] (by decide +kernel) (by decide +kernel) (by simp only [List.forall_mem_cons]; exact ⟨prime_2, prime_443'.1, fun _ h => nomatch h⟩) (by decide +kernel)
theorem prime_5323' : IsP 5323 ∧ ∀ a, 0 < a → a < 5323 → a ^ (5323 - 1) % 5323 = 1 :=
  lucas_c (g := 5) [2, 3, 887] (by decide +kernel) (by decide +kernel) (by simp only [List.forall_mem_cons]; exact ⟨prime_2, prime_3'.1, prime_887'.1, fun _ h => nomatch h⟩) (by decide +kernel)
theorem prime_131' : IsP 131 ∧ ∀ a, 0 < a → a < 131 → a ^ (131 - 1) % 131 = 1 :=
  lucas_c (g := 2) [2, 5, 13] (by decide +kernel) (by decide +kernel) (by simp only [List.forall_mem_cons]; exact ⟨prime_2, prime_5'.1, prime_13'.1, fun _ h => nomatch h⟩) (by decide +kernel)
theorem prime_2621' : IsP 2621 ∧ ∀ a, 0 < a → a < 2621 → a ^ (2621 - 1) % 2621 = 1 :=
  lucas_c (g := 2) [2, 2, 5, 131] (by decide +kernel) (by decide +kernel) (by simp only [List.forall_mem_cons]; exact ⟨prime_2, prime_2, prime_5'.1, prime_131'.1, fun _ h => nomatch h⟩) (by decide +kernel)
theorem prime_24809' : IsP 24809 ∧ ∀ a, 0 < a → a < 24809 → a ^ (24809 - 1) % 24809 = 1 :=
  lucas_c (g := 6) [2, 2, 2, 7, 443] (by decide +kernel) (by decide +kernel) (by simp only [List.forall_mem_cons]; exact ⟨prime_2, prime_2, prime_2, prime_7'.1, prime_443'.1, fun _ h => nomatch h⟩) (by decide +kernel)
theorem prime_97' : IsP 97 ∧ ∀ a, 0 < a → a < 97 → a ^ (97 - 1) % 97 = 1 :=
  lucas_c (g := 5) [2, 2, 2, 2, 2, 3] (by decide +kernel) (by decide +kernel) (by simp only [List.forall_mem_cons]; exact ⟨prime_2, prime_2, prime_2, prime_2, prime_2, prime_3'.1, fun _ h => nomatch h⟩) (by decide +kernel)
theorem prime_971' : IsP 971 ∧ ∀ a, 0 < a → a < 971 → a ^ (971 - 1) % 971 = 1 :=
  lucas_c (g := 6) [2, 5, 97] (by decide +kernel) (by decide +kernel) (by simp only [List.forall_mem_cons]; exact ⟨prime_2, prime_5'.1, prime_97'.1, fun _ h => nomatch h⟩) (by decide +kernel)
theorem prime_1373' : IsP 1373 ∧ ∀ a, 0 < a → a < 1373 → a ^ (1373 - 1) % 1373 = 1 :=
  lucas_c (g := 2) [2, 2, 7, 7, 7] (by decide +kernel) (by decide +kernel) (by simp only [List.forall_mem_cons]; exact ⟨prime_2, prime_2, prime_7'.1, prime_7'.1, prime_7'.1, fun _ h => nomatch h⟩) (by decide +kernel)
theorem prime_13331831' : IsP 13331831 ∧ ∀ a, 0 < a → a < 13331831 → a ^ (13331831 - 1) % 13331831 = 1 :=
  lucas_c (g := 13) [2, 5, 971, 1373] (by decide +kernel) (by decide +kernel) (by simp only [List.forall_mem_cons]; exact ⟨prime_2, prime_5'.1, prime_971'.1, prime_1373'.1, fun _ h => nomatch h⟩) (by decide +kernel)
theorem prime_173378833005251801' : IsP 173378833005251801 ∧ ∀ a, 0 < a → a < 173378833005251801 → a ^ (173378833005251801 - 1) % 173378833005251801 = 1 :=
  lucas_c (g := 6) [2, 2, 2, 5, 5, 2621, 24809, 13331831] (by decide +kernel) (by decide +kernel) (by simp only [List.forall_mem_cons]; exact ⟨prime_2, prime_2, prime_2, prime_5'.1, prime_5'.1, prime_2621'.1, prime_24809'.1, prime_13331831'.1, fun _ h => nomatch h⟩) (by decide +kernel)
theorem prime_22149492674086928081353' : IsP 22149492674086928081353 ∧ ∀ a, 0 < a → a < 22149492674086928081353 → a ^ (22149492674086928081353 - 1) % 22149492674086928081353 = 1 :=
  lucas_c (g := 5) [2, 2, 2, 3, 5323, 173378833005251801] (by decide +kernel) (by decide +kernel) (by simp only [List.forall_mem_cons]; exact ⟨prime_2, prime_2, prime_2, prime_3'.1, prime_5323'.1, prime_173378833005251801'.1, fun _ h => nomatch h⟩) (by decide +kernel)
theorem prime_132896956044521568488119' : IsP 132896956044521568488119 ∧ ∀ a, 0 < a → a < 132896956044521568488119 → a ^ (132896956044521568488119 - 1) % 132896956044521568488119 = 1 :=
  lucas_c (g := 6) [2, 3, 22149492674086928081353] (by decide +kernel) (by decide +kernel) (by simp only [List.forall_mem_cons]; exact ⟨prime_2, prime_3'.1, prime_22149492674086928081353'.1, fun _ h => nomatch h⟩) (by decide +kernel)
theorem prime_271' : IsP 271 ∧ ∀ a, 0 < a → a < 271 → a ^ (271 - 1) % 271 = 1 :=
  lucas_c (g := 6) [2, 3, 3, 3, 5] (by decide +kernel) (by decide +kernel) (by simp only [List.forall_mem_cons]; exact ⟨prime_2, prime_3'.1, prime_3'.1, prime_3'.1, prime_5'.1, fun _ h => nomatch h⟩) (by decide +kernel)
theorem prime_1627' : IsP 1627 ∧ ∀ a, 0 < a → a < 1627 → a ^ (1627 - 1) % 1627 = 1 :=
  lucas_c (g := 3) [2, 3, 271] (by decide +kernel) (by decide +kernel) (by simp only [List.forall_mem_cons]; exact ⟨prime_2, prime_3'.1, prime_271'.1, fun _ h => nomatch h⟩) (by decide +kernel)
theorem prime_41' : IsP 41 ∧ ∀ a, 0 < a → a < 41 → a ^ (41 - 1) % 41 = 1 :=
  lucas_c (g := 6) [2, 2, 2, 5] (by decide +kernel) (by decide +kernel) (by simp only [List.forall_mem_cons]; exact ⟨prime_2, prime_2, prime_2, prime_5'.1, fun _ h => nomatch h⟩) (by decide +kernel)
theorem prime_83' : IsP 83 ∧ ∀ a, 0 < a → a < 83 → a ^ (83 - 1) % 83 = 1 :=
  lucas_c (g := 2) [2, 41] (by decide +kernel) (by decide +kernel) (by simp only [List.forall_mem_cons]; exact ⟨prime_2, prime_41'.1, fun _ h => nomatch h⟩) (by decide +kernel)
theorem prime_2657' : IsP 2657 ∧ ∀ a, 0 < a → a < 2657 → a ^ (2657 - 1) % 2657 = 1 :=
  lucas_c (g := 3) [2, 2, 2, 2, 2, 83] (by decide +kernel) (by decide +kernel) (by simp only [List.forall_mem_cons]; exact ⟨prime_2, prime_2, prime_2, prime_2, prime_2, prime_83'.1, fun _ h => nomatch h⟩) (by decide +kernel)
theorem prime_67' : IsP 67 ∧ ∀ a, 0 < a → a < 67 → a ^ (67 - 1) % 67 = 1 :=
  lucas_c (g := 2) [2, 3, 11] (by decide +kernel) (by decide +kernel) (by simp only [List.forall_mem_cons]; exact ⟨prime_2, prime_3'.1, prime_11'.1, fun _ h => nomatch h⟩) (by decide +kernel)
theorem prime_4423' : IsP 4423 ∧ ∀ a, 0 < a → a < 4423 → a ^ (4423 - 1) % 4423 = 1 :=
  lucas_c (g := 3) [2, 3, 11, 67] (by decide +kernel) (by decide +kernel) (by simp only [List.forall_mem_cons]; exact ⟨prime_2, prime_3'.1, prime_11'.1, prime_67'.1, fun _ h => nomatch h⟩) (by decide +kernel)
theorem prime_101' : IsP 101 ∧ ∀ a, 0 < a → a < 101 → a ^ (101 - 1) % 101 = 1 :=
  lucas_c (g := 2) [2, 2, 5, 5] (by decide +kernel) (by decide +kernel) (by simp only [List.forall_mem_cons]; exact ⟨prime_2, prime_2, prime_5'.1, prime_5'.1, fun _ h => nomatch h⟩) (by decide +kernel)
theorem prime_239' : IsP 239 ∧ ∀ a, 0 < a → a < 239 → a ^ (239 - 1) % 239 = 1 :=
  lucas_c (g := 7) [2, 7, 17] (by decide +kernel) (by decide +kernel) (by simp only [List.forall_mem_cons]; exact ⟨prime_2, prime_7'.1, prime_17'.1, fun _ h => nomatch h⟩) (by decide +kernel)
theorem prime_96557' : IsP 96557 ∧ ∀ a, 0 < a → a < 96557 → a ^ (96557 - 1) % 96557 = 1 :=
  lucas_c (g := 2) [2, 2, 101, 239] (by decide +kernel) (by decide +kernel) (by simp only [List.forall_mem_cons]; exact ⟨prime_2, prime_2, prime_101'.1, prime_239'.1, fun _ h => nomatch h⟩) (by decide +kernel)
theorem prime_103' : IsP 103 ∧ ∀ a, 0 < a → a < 103 → a ^ (103 - 1) % 103 = 1 :=
  lucas_c (g := 5) [2, 3, 17] (by decide +kernel) (by decide +kernel) (by simp only [List.forall_mem_cons]; exact ⟨prime_2, prime_3'.1, prime_17'.1, fun _ h => nomatch h⟩) (by decide +kernel)
theorem prime_41201' : IsP 41201 ∧ ∀ a, 0 < a → a < 41201 → a ^ (41201 - 1) % 41201 = 1 :=
  lucas_c (g := 3) [2, 2, 2, 2, 5, 5, 103] (by decide +kernel) (by decide +kernel) (by simp only [List.forall_mem_cons]; exact ⟨prime_2, prime_2, prime_2, prime_2, prime_5'.1, prime_5'.1, prime_103'.1, fun _ h => nomatch h⟩) (by decide +kernel)
theorem prime_53' : IsP 53 ∧ ∀ a, 0 < a → a < 53 → a ^ (53 - 1) % 53 = 1 :=
  lucas_c (g := 2) [2, 2, 13] (by decide +kernel) (by decide +kernel) (by simp only [List.forall_mem_cons]; exact ⟨prime_2, prime_2, prime_13'.1, fun _ h => nomatch h⟩) (by decide +kernel)
theorem prime_107590001' : IsP 107590001 ∧ ∀ a, 0 < a → a < 107590001 → a ^ (107590001 - 1) % 107590001 = 1 :=
  lucas_c (g := 3) [2, 2, 2, 2, 5, 5, 5, 5, 7, 29, 53] (by decide +kernel) (by decide +kernel) (by simp only [List.forall_mem_cons]; exact ⟨prime_2, prime_2, prime_2, prime_2, prime_5'.1, prime_5'.1, prime_5'.1, prime_5'.1, prime_7'.1, prime_29'.1, prime_53'.1, fun _ h => nomatch h⟩) (by decide +kernel)
theorem prime_19' : IsP 19 ∧ ∀ a, 0 < a → a < 19 → a ^ (19 - 1) % 19 = 1 :=
  lucas_c (g := 2) [2, 3, 3] (by decide +kernel) (by decide +kernel) (by simp only [List.forall_mem_cons]; exact ⟨prime_2, prime_3'.1, prime_3'.1, fun _ h => nomatch h⟩) (by decide +kernel)
theorem prime_419' : IsP 419 ∧ ∀ a, 0 < a → a < 419 → a ^ (419 - 1) % 419 = 1 :=
  lucas_c (g := 2) [2, 11, 19] (by decide +kernel) (by decide +kernel) (by simp only [List.forall_mem_cons]; exact ⟨prime_2, prime_11'.1, prime_19'.1, fun _ h => nomatch h⟩) (by decide +kernel)
theorem prime_20113' : IsP 20113 ∧ ∀ a, 0 < a → a < 20113 → a ^ (20113 - 1) % 20113 = 1 :=
  lucas_c (g := 10) [2, 2, 2, 2, 3, 419] (by decide +kernel) (by decide +kernel) (by simp only [List.forall_mem_cons]; exact ⟨prime_2, prime_2, prime_2, prime_2, prime_3'.1, prime_419'.1, fun _ h => nomatch h⟩) (by decide +kernel)
theorem prime_1206781' : IsP 1206781 ∧ ∀ a, 0 < a → a < 1206781 → a ^ (1206781 - 1) % 1206781 = 1 :=
  lucas_c (g := 10) [2, 2, 3, 5, 20113] (by decide +kernel) (by decide +kernel) (by simp only [List.forall_mem_cons]; exact ⟨prime_2, prime_2, prime_3'.1, prime_5'.1, prime_20113'.1, fun _ h => nomatch h⟩) (by decide +kernel)
theorem prime_7240687' : IsP 7240687 ∧ ∀ a, 0 < a → a < 7240687 → a ^ (7240687 - 1) % 7240687 = 1 :=
  lucas_c (g := 3) [2, 3, 1206781] (by decide +kernel) (by decide +kernel) (by simp only [List.forall_mem_cons]; exact ⟨prime_2, prime_3'.1, prime_1206781'.1, fun _ h => nomatch h⟩) (by decide +kernel)
theorem prime_255515944373312847190720520512484175977' : IsP 255515944373312847190720520512484175977 ∧ ∀ a, 0 < a → a < 255515944373312847190720520512484175977 → a ^ (255515944373312847190720520512484175977 - 1) % 255515944373312847190720520512484175977 = 1 :=
  lucas_c (g := 3) [2, 2, 2, 7, 7, 11, 1627, 2657, 4423, 96557, 41201, 107590001, 7240687] (by decide +kernel) (by decide +kernel) (by simp only [List.forall_mem_cons]; exact ⟨prime_2, prime_2, prime_2, prime_7'.1, prime_7'.1, prime_11'.1, prime_1627'.1, prime_2657'.1, prime_4423'.1, prime_96557'.1, prime_41201'.1, prime_107590001'.1, prime_7240687'.1, fun _ h => nomatch h⟩) (by decide +kernel)
theorem prime_Q' : IsP 205115282021455665897114700593932402728804164701536103180137503955397371 ∧ ∀ a, 0 < a → a < 205115282021455665897114700593932402728804164701536103180137503955397371 → a ^ (205115282021455665897114700593932402728804164701536103180137503955397371 - 1) % 205115282021455665897114700593932402728804164701536103180137503955397371 = 1 :=
  lucas_c (g := 10) [2, 3, 5, 29, 29, 31, 7723, 132896956044521568488119, 255515944373312847190720520512484175977] (by decide +kernel) (by decide +kernel) (by simp only [List.forall_mem_cons]; exact ⟨prime_2, prime_3'.1, prime_5'.1, prime_29'.1, prime_29'.1, prime_31'.1, prime_7723'.1, prime_132896956044521568488119'.1, prime_255515944373312847190720520512484175977'.1, fun _ h => nomatch h⟩) (by decide +kernel)
theorem prime_P' : IsP 115792089237316195423570985008687907853269984665640564039457584007908834671663 ∧ ∀ a, 0 < a → a < 115792089237316195423570985008687907853269984665640564039457584007908834671663 → a ^ (115792089237316195423570985008687907853269984665640564039457584007908834671663 - 1) % 115792089237316195423570985008687907853269984665640564039457584007908834671663 = 1 :=
  lucas_c (g := 3) [2, 3, 7, 13441, 205115282021455665897114700593932402728804164701536103180137503955397371] (by decide +kernel) (by decide +kernel) (by simp only [List.forall_mem_cons]; exact ⟨prime_2, prime_3'.1, prime_7'.1, prime_13441'.1, prime_Q'.1, fun _ h => nomatch h⟩) (by decide +kernel)
theorem prime_37' : IsP 37 ∧ ∀ a, 0 < a → a < 37 → a ^ (37 - 1) % 37 = 1 :=
  lucas_c (g := 2) [2, 2, 3, 3] (by decide +kernel) (by decide +kernel) (by simp only [List.forall_mem_cons]; exact ⟨prime_2, prime_2, prime_3'.1, prime_3'.1, fun _ h => nomatch h⟩) (by decide +kernel)
theorem prime_149' : IsP 149 ∧ ∀ a, 0 < a → a < 149 → a ^ (149 - 1) % 149 = 1 :=
  lucas_c (g := 2) [2, 2, 37] (by decide +kernel) (by decide +kernel) (by simp only [List.forall_mem_cons]; exact ⟨prime_2, prime_2, prime_37'.1, fun _ h => nomatch h⟩) (by decide +kernel)
theorem prime_631' : IsP 631 ∧ ∀ a, 0 < a → a < 631 → a ^ (631 - 1) % 631 = 1 :=
  lucas_c (g := 3) [2, 3, 3, 5, 7] (by decide +kernel) (by decide +kernel) (by simp only [List.forall_mem_cons]; exact ⟨prime_2, prime_3'.1, prime_3'.1, prime_5'.1, prime_7'.1, fun _ h => nomatch h⟩) (by decide +kernel)
theorem prime_23' : IsP 23 ∧ ∀ a, 0 < a → a < 23 → a ^ (23 - 1) % 23 = 1 :=
  lucas_c (g := 5) [2, 11] (by decide +kernel) (by decide +kernel) (by simp only [List.forall_mem_cons]; exact ⟨prime_2, prime_11'.1, fun _ h => nomatch h⟩) (by decide +kernel)
theorem prime_16699' : IsP 16699 ∧ ∀ a, 0 < a → a < 16699 → a ^ (16699 - 1) % 16699 = 1 :=
  lucas_c (g := 3) [2, 3, 11, 11, 23] (by decide +kernel) (by decide +kernel) (by simp only [List.forall_mem_cons]; exact ⟨prime_2, prime_3'.1, prime_11'.1, prime_11'.1, prime_23'.1, fun _ h => nomatch h⟩) (by decide +kernel)
theorem prime_2861' : IsP 2861 ∧ ∀ a, 0 < a → a < 2861 → a ^ (2861 - 1) % 2861 = 1 :=
  lucas_c (g := 2) [2, 2, 5, 11, 13] (by decide +kernel) (by decide +kernel) (by simp only [List.forall_mem_cons]; exact ⟨prime_2, prime_2, prime_5'.1, prime_11'.1, prime_13'.1, fun _ h => nomatch h⟩) (by decide +kernel)
theorem prime_85831' : IsP 85831 ∧ ∀ a, 0 < a → a < 85831 → a ^ (85831 - 1) % 85831 = 1 :=
  lucas_c (g := 3) [2, 3, 5, 2861] (by decide +kernel) (by decide +kernel) (by simp only [List.forall_mem_cons]; exact ⟨prime_2, prime_3'.1, prime_5'.1, prime_2861'.1, fun _ h => nomatch h⟩) (by decide +kernel)
theorem prime_2011' : IsP 2011 ∧ ∀ a, 0 < a → a < 2011 → a ^ (2011 - 1) % 2011 = 1 :=
  lucas_c (g := 3) [2, 3, 5, 67] (by decide +kernel) (by decide +kernel) (by simp only [List.forall_mem_cons]; exact ⟨prime_2, prime_3'.1, prime_5'.1, prime_67'.1, fun _ h => nomatch h⟩) (by decide +kernel)
theorem prime_4681609' : IsP 4681609 ∧ ∀ a, 0 < a → a < 4681609 → a ^ (4681609 - 1) % 4681609 = 1 :=
  lucas_c (g := 23) [2, 2, 2, 3, 97, 2011] (by decide +kernel) (by decide +kernel) (by simp only [List.forall_mem_cons]; exact ⟨prime_2, prime_2, prime_2, prime_3'.1, prime_97'.1, prime_2011'.1, fun _ h => nomatch h⟩) (by decide +kernel)
theorem prime_107361793816595537' : IsP 107361793816595537 ∧ ∀ a, 0 < a → a < 107361793816595537 → a ^ (107361793816595537 - 1) % 107361793816595537 = 1 :=
  lucas_c (g := 3) [2, 2, 2, 2, 16699, 85831, 4681609] (by decide +kernel) (by decide +kernel) (by simp only [List.forall_mem_cons]; exact ⟨prime_2, prime_2, prime_2, prime_2, prime_16699'.1, prime_85831'.1, prime_4681609'.1, fun _ h => nomatch h⟩) (by decide +kernel)
theorem prime_59' : IsP 59 ∧ ∀ a, 0 < a → a < 59 → a ^ (59 - 1) % 59 = 1 :=
  lucas_c (g := 2) [2, 29] (by decide +kernel) (by decide +kernel) (by simp only [List.forall_mem_cons]; exact ⟨prime_2, prime_29'.1, fun _ h => nomatch h⟩) (by decide +kernel)
theorem prime_4051' : IsP 4051 ∧ ∀ a, 0 < a → a < 4051 → a ^ (4051 - 1) % 4051 = 1 :=
  lucas_c (g := 10) [2, 3, 3, 3, 3, 5, 5] (by decide +kernel) (by decide +kernel) (by simp only [List.forall_mem_cons]; exact ⟨prime_2, prime_3'.1, prime_3'.1, prime_3'.1, prime_3'.1, prime_5'.1, prime_5'.1, fun _ h => nomatch h⟩) (by decide +kernel)
theorem prime_113' : IsP 113 ∧ ∀ a, 0 < a → a < 113 → a ^ (113 - 1) % 113 = 1 :=
  lucas_c (g := 3) [2, 2, 2, 2, 7] (by decide +kernel) (by decide +kernel) (by simp only [List.forall_mem_cons]; exact ⟨prime_2, prime_2, prime_2, prime_2, prime_7'.1, fun _ h => nomatch h⟩) (by decide +kernel)
theorem prime_120233' : IsP 120233 ∧ ∀ a, 0 < a → a < 120233 → a ^ (120233 - 1) % 120233 = 1 :=
  lucas_c (g := 3) [2, 2, 2, 7, 19, 113] (by decide +kernel) (by decide +kernel) (by simp only [List.forall_mem_cons]; exact ⟨prime_2, prime_2, prime_2, prime_7'.1, prime_19'.1, prime_113'.1, fun _ h => nomatch h⟩) (by decide +kernel)
theorem prime_199' : IsP 199 ∧ ∀ a, 0 < a → a < 199 → a ^ (199 - 1) % 199 = 1 :=
  lucas_c (g := 3) [2, 3, 3, 11] (by decide +kernel) (by decide +kernel) (by simp only [List.forall_mem_cons]; exact ⟨prime_2, prime_3'.1, prime_3'.1, prime_11'.1, fun _ h => nomatch h⟩) (by decide +kernel)
theorem prime_797' : IsP 797 ∧ ∀ a, 0 < a → a < 797 → a ^ (797 - 1) % 797 = 1 :=
  lucas_c (g := 2) [2, 2, 199] (by decide +kernel) (by decide +kernel) (by simp only [List.forall_mem_cons]; exact ⟨prime_2, prime_2, prime_199'.1, fun _ h => nomatch h⟩) (by decide +kernel)
theorem prime_9349' : IsP 9349 ∧ ∀ a, 0 < a → a < 9349 → a ^ (9349 - 1) % 9349 = 1 :=
  lucas_c (g := 2) [2, 2, 3, 19, 41] (by decide +kernel) (by decide +kernel) (by simp only [List.forall_mem_cons]; exact ⟨prime_2, prime_2, prime_3'.1, prime_19'.1, prime_41'.1, fun _ h => nomatch h⟩) (by decide +kernel)
theorem prime_44706919' : IsP 44706919 ∧ ∀ a, 0 < a → a < 44706919 → a ^ (44706919 - 1) % 44706919 = 1 :=
  lucas_c (g := 6) [2, 3, 797, 9349] (by decide +kernel) (by decide +kernel) (by simp only [List.forall_mem_cons]; exact ⟨prime_2, prime_3'.1, prime_797'.1, prime_9349'.1, fun _ h => nomatch h⟩) (by decide +kernel)
theorem prime_174723607534414371449' : IsP 174723607534414371449 ∧ ∀ a, 0 < a → a < 174723607534414371449 → a ^ (174723607534414371449 - 1) % 174723607534414371449 = 1 :=
  lucas_c (g := 3) [2, 2, 2, 17, 59, 4051, 120233, 44706919] (by decide +kernel) (by decide +kernel) (by simp only [List.forall_mem_cons]; exact ⟨prime_2, prime_2, prime_2, prime_17'.1, prime_59'.1, prime_4051'.1, prime_120233'.1, prime_44706919'.1, fun _ h => nomatch h⟩) (by decide +kernel)
theorem prime_109' : IsP 109 ∧ ∀ a, 0 < a → a < 109 → a ^ (109 - 1) % 109 = 1 :=
  lucas_c (g := 6) [2, 2, 3, 3, 3] (by decide +kernel) (by decide +kernel) (by simp only [List.forall_mem_cons]; exact ⟨prime_2, prime_2, prime_3'.1, prime_3'.1, prime_3'.1, fun _ h => nomatch h⟩) (by decide +kernel)
theorem prime_73' : IsP 73 ∧ ∀ a, 0 < a → a < 73 → a ^ (73 - 1) % 73 = 1 :=
  lucas_c (g := 5) [2, 2, 2, 3, 3] (by decide +kernel) (by decide +kernel) (by simp only [List.forall_mem_cons]; exact ⟨prime_2, prime_2, prime_2, prime_3'.1, prime_3'.1, fun _ h => nomatch h⟩) (by decide +kernel)
theorem prime_293' : IsP 293 ∧ ∀ a, 0 < a → a < 293 → a ^ (293 - 1) % 293 = 1 :=
  lucas_c (g := 2) [2, 2, 73] (by decide +kernel) (by decide +kernel) (by simp only [List.forall_mem_cons]; exact ⟨prime_2, prime_2, prime_73'.1, fun _ h => nomatch h⟩) (by decide +kernel)
theorem prime_2731' : IsP 2731 ∧ ∀ a, 0 < a → a < 2731 → a ^ (2731 - 1) % 2731 = 1 :=
  lucas_c (g := 3) [2, 3, 5, 7, 13] (by decide +kernel) (by decide +kernel) (by simp only [List.forall_mem_cons]; exact ⟨prime_2, prime_3'.1, prime_5'.1, prime_7'.1, prime_13'.1, fun _ h => nomatch h⟩) (by decide +kernel)
theorem prime_305873' : IsP 305873 ∧ ∀ a, 0 < a → a < 305873 → a ^ (305873 - 1) % 305873 = 1 :=
  lucas_c (g := 3) [2, 2, 2, 2, 7, 2731] (by decide +kernel) (by decide +kernel) (by simp only [List.forall_mem_cons]; exact ⟨prime_2, prime_2, prime_2, prime_2, prime_7'.1, prime_2731'.1, fun _ h => nomatch h⟩) (by decide +kernel)
theorem prime_1409' : IsP 1409 ∧ ∀ a, 0 < a → a < 1409 → a ^ (1409 - 1) % 1409 = 1 :=
  lucas_c (g := 3) [2, 2, 2, 2, 2, 2, 2, 11] (by decide +kernel) (by decide +kernel) (by simp only [List.forall_mem_cons]; exact ⟨prime_2, prime_2, prime_2, prime_2, prime_2, prime_2, prime_2, prime_11'.1, fun _ h => nomatch h⟩) (by decide +kernel)
theorem prime_28181' : IsP 28181 ∧ ∀ a, 0 < a → a < 28181 → a ^ (28181 - 1) % 28181 = 1 :=
  lucas_c (g := 2) [2, 2, 5, 1409] (by decide +kernel) (by decide +kernel) (by simp only [List.forall_mem_cons]; exact ⟨prime_2, prime_2, prime_5'.1, prime_1409'.1, fun _ h => nomatch h⟩) (by decide +kernel)
theorem prime_545358713' : IsP 545358713 ∧ ∀ a, 0 < a → a < 545358713 → a ^ (545358713 - 1) % 545358713 = 1 :=
  lucas_c (g := 5) [2, 2, 2, 41, 59, 28181] (by decide +kernel) (by decide +kernel) (by simp only [List.forall_mem_cons]; exact ⟨prime_2, prime_2, prime_2, prime_41'.1, prime_59'.1, prime_28181'.1, fun _ h => nomatch h⟩) (by decide +kernel)
theorem prime_461' : IsP 461 ∧ ∀ a, 0 < a → a < 461 → a ^ (461 - 1) % 461 = 1 :=
  lucas_c (g := 2) [2, 2, 5, 23] (by decide +kernel) (by decide +kernel) (by simp only [List.forall_mem_cons]; exact ⟨prime_2, prime_2, prime_5'.1, prime_23'.1, fun _ h => nomatch h⟩) (by decide +kernel)
theorem prime_1871' : IsP 1871 ∧ ∀ a, 0 < a → a < 1871 → a ^ (1871 - 1) % 1871 = 1 :=
  lucas_c (g := 14) [2, 5, 11, 17] (by decide +kernel) (by decide +kernel) (by simp only [List.forall_mem_cons]; exact ⟨prime_2, prime_5'.1, prime_11'.1, prime_17'.1, fun _ h => nomatch h⟩) (by decide +kernel)
theorem prime_1627771' : IsP 1627771 ∧ ∀ a, 0 < a → a < 1627771 → a ^ (1627771 - 1) % 1627771 = 1 :=
  lucas_c (g := 3) [2, 3, 5, 29, 1871] (by decide +kernel) (by decide +kernel) (by simp only [List.forall_mem_cons]; exact ⟨prime_2, prime_3'.1, prime_5'.1, prime_29'.1, prime_1871'.1, fun _ h => nomatch h⟩) (by decide +kernel)
theorem prime_297159362677' : IsP 297159362677 ∧ ∀ a, 0 < a → a < 297159362677 → a ^ (297159362677 - 1) % 297159362677 = 1 :=
  lucas_c (g := 2) [2, 2, 3, 3, 11, 461, 1627771] (by decide +kernel) (by decide +kernel) (by simp only [List.forall_mem_cons]; exact ⟨prime_2, prime_2, prime_3'.1, prime_3'.1, prime_11'.1, prime_461'.1, prime_1627771'.1, fun _ h => nomatch h⟩) (by decide +kernel)
theorem prime_29047611873442575647497758179' : IsP 29047611873442575647497758179 ∧ ∀ a, 0 < a → a < 29047611873442575647497758179 → a ^ (29047611873442575647497758179 - 1) % 29047611873442575647497758179 = 1 :=
  lucas_c (g := 2) [2, 293, 305873, 545358713, 297159362677] (by decide +kernel) (by decide +kernel) (by simp only [List.forall_mem_cons]; exact ⟨prime_2, prime_293'.1, prime_305873'.1, prime_545358713'.1, prime_297159362677'.1, fun _ h => nomatch h⟩) (by decide +kernel)
theorem prime_341948486974166000522343609283189' : IsP 341948486974166000522343609283189 ∧ ∀ a, 0 < a → a < 341948486974166000522343609283189 → a ^ (341948486974166000522343609283189 - 1) % 341948486974166000522343609283189 = 1 :=
  lucas_c (g := 2) [2, 2, 3, 3, 3, 109, 29047611873442575647497758179] (by decide +kernel) (by decide +kernel) (by simp only [List.forall_mem_cons]; exact ⟨prime_2, prime_2, prime_3'.1, prime_3'.1, prime_3'.1, prime_109'.1, prime_29047611873442575647497758179'.1, fun _ h => nomatch h⟩) (by decide +kernel)
theorem prime_N' : IsP 115792089237316195423570985008687907852837564279074904382605163141518161494337 ∧ ∀ a, 0 < a → a < 115792089237316195423570985008687907852837564279074904382605163141518161494337 → a ^ (115792089237316195423570985008687907852837564279074904382605163141518161494337 - 1) % 115792089237316195423570985008687907852837564279074904382605163141518161494337 = 1 :=
  lucas_c (g := 7) [2, 2, 2, 2, 2, 2, 3, 149, 631, 107361793816595537, 174723607534414371449, 341948486974166000522343609283189] (by decide +kernel) (by decide +kernel) (by simp only [List.forall_mem_cons]; exact ⟨prime_2, prime_2, prime_2, prime_2, prime_2, prime_2, prime_3'.1, prime_149'.1, prime_631'.1, prime_107361793816595537'.1, prime_174723607534414371449'.1, prime_341948486974166000522343609283189'.1, fun _ h => nomatch h⟩) (by decide +kernel)
end Mine
end
section
/-! polynomial identities by one big integer (Kronecker's substitution) -/
open Lean.Grind
namespace Mine
namespace Kro
def kB : Nat := 2 ^ 64
def kK : Nat := 16
abbrev Tm := Int × Nat × Nat × Nat
def ex (t : Tm) : Nat := t.2.1 + kK * t.2.2.1 + kK * kK * t.2.2.2
def sumI (f : Tm → Int) : List Tm → Int
  | [] => 0
  | t :: L => f t + sumI f L
def nrm : List Tm → Nat
  | [] => 0
  | t :: L => t.1.natAbs + nrm L
def zL (s : Nat) (L : List Tm) : Int := sumI (fun t => t.1 * (kB : Int) ^ (ex t - s)) L
def tmul (a b : Tm) : Tm := (a.1 * b.1, a.2.1 + b.2.1, a.2.2.1 + b.2.2.1, a.2.2.2 + b.2.2.2)
def mulL : List Tm → List Tm → List Tm
  | [], _ => []
  | t :: L, M => M.map (tmul t) ++ mulL L M
section
variable {R : Type} [CommRing R] (x1 x2 x3 : R)
def ci (z : Int) : R := @Int.cast R Ring.intCast z
theorem ci_add (a b : Int) : ci (R := R) (a + b) = ci a + ci b := Ring.intCast_add a b
theorem ci_mul (a b : Int) : ci (R := R) (a * b) = ci a * ci b := Ring.intCast_mul a b
theorem ci_neg (a : Int) : ci (R := R) (-a) = -ci a := Ring.intCast_neg a
theorem ci_zero : ci (R := R) 0 = 0 := Ring.intCast_zero
theorem ci_one : ci (R := R) 1 = 1 := Ring.intCast_one
def mono (t : Tm) : R := x1 ^ t.2.1 * x2 ^ t.2.2.1 * x3 ^ t.2.2.2
def rL : List Tm → R
  | [] => 0
  | t :: L => ci t.1 * mono x1 x2 x3 t + rL L
theorem sumI_app (f : Tm → Int) (L M : List Tm) : sumI f (L ++ M) = sumI f L + sumI f M := by
  induction L with
  | nil => simp [sumI]
  | cons t L ih => simp only [List.cons_append, sumI, ih]; omega
theorem nrm_app (L M : List Tm) : nrm (L ++ M) = nrm L + nrm M := by
  induction L with
  | nil => simp [nrm]
  | cons t L ih => simp only [List.cons_append, nrm, ih]; omega
theorem rL_app (L M : List Tm) : rL x1 x2 x3 (L ++ M) = rL x1 x2 x3 L + rL x1 x2 x3 M := by
  induction L with
  | nil => simp only [List.nil_append, rL]; grind
  | cons t L ih => simp only [List.cons_append, rL, ih]; grind
theorem ex_mul (a b : Tm) : ex (tmul a b) = ex a + ex b := by
  simp only [ex, tmul, Nat.mul_add]; omega
theorem z_map (t : Tm) (M : List Tm) : zL 0 (M.map (tmul t)) = t.1 * (kB : Int) ^ ex t * zL 0 M := by
  induction M with
  | nil => simp [zL, sumI]
  | cons u M ih =>
    simp only [zL] at ih ⊢
    simp only [List.map_cons, sumI, ih, ex_mul, Nat.sub_zero, Int.pow_add]
    have : (tmul t u).1 = t.1 * u.1 := rfl
    rw [this]
    grind
theorem z_mul (L M : List Tm) : zL 0 (mulL L M) = zL 0 L * zL 0 M := by
  induction L with
  | nil => simp [zL, sumI, mulL]
  | cons t L ih =>
    have h := z_map t M
    simp only [zL] at ih h ⊢
    simp only [mulL, sumI_app, h, ih, sumI, Nat.sub_zero]
    grind
theorem n_map (t : Tm) (M : List Tm) : nrm (M.map (tmul t)) = t.1.natAbs * nrm M := by
  induction M with
  | nil => simp [nrm]
  | cons u M ih => simp only [List.map_cons, nrm, ih, tmul, Int.natAbs_mul, Nat.mul_add]
theorem n_mul (L M : List Tm) : nrm (mulL L M) = nrm L * nrm M := by
  induction L with
  | nil => simp [nrm, mulL]
  | cons t L ih => simp only [mulL, nrm_app, n_map, ih, nrm, Nat.add_mul]
theorem mono_mul (a b : Tm) : mono x1 x2 x3 (tmul a b) = mono x1 x2 x3 a * mono x1 x2 x3 b := by
  simp only [mono, tmul, Semiring.pow_add]
  grind
theorem r_map (t : Tm) (M : List Tm) : rL x1 x2 x3 (M.map (tmul t)) = ci t.1 * mono x1 x2 x3 t * rL x1 x2 x3 M := by
  induction M with
  | nil => simp only [List.map_nil, rL]; grind
  | cons u M ih =>
    have e : ci (R := R) (tmul t u).1 = ci t.1 * ci u.1 := by simp only [tmul, ci_mul]
    simp only [List.map_cons, rL, ih, mono_mul, e]
    grind
theorem r_mul (L M : List Tm) : rL x1 x2 x3 (mulL L M) = rL x1 x2 x3 L * rL x1 x2 x3 M := by
  induction L with
  | nil => simp only [mulL, rL]; grind
  | cons t L ih =>
    simp only [mulL, rL_app, r_map, ih, rL]
    grind
theorem mem_mul {L M : List Tm} {t : Tm} (h : t ∈ mulL L M) : ∃ a ∈ L, ∃ b ∈ M, t = tmul a b := by
  induction L with
  | nil => simp [mulL] at h
  | cons u L ih =>
    simp only [mulL, List.mem_append, List.mem_map] at h
    rcases h with ⟨b, hb, e⟩ | h
    · exact ⟨u, .head _, b, hb, e.symm⟩
    · obtain ⟨a, ha, b, hb, e⟩ := ih h
      exact ⟨a, .tail _ ha, b, hb, e⟩
def negL (L : List Tm) : List Tm := L.map fun t => (-t.1, t.2)
theorem z_neg (L : List Tm) : zL 0 (negL L) = - zL 0 L := by
  induction L with
  | nil => simp [zL, negL, sumI]
  | cons t L ih =>
    simp only [zL, negL] at ih ⊢
    simp only [List.map_cons, sumI, ih]
    have : ex (-t.1, t.2) = ex t := rfl
    rw [this]; grind
theorem n_neg (L : List Tm) : nrm (negL L) = nrm L := by
  induction L with
  | nil => rfl
  | cons t L ih =>
    simp only [negL] at ih ⊢
    simp only [List.map_cons, nrm, ih, Int.natAbs_neg]
theorem r_neg (L : List Tm) : rL x1 x2 x3 (negL L) = - rL x1 x2 x3 L := by
  induction L with
  | nil => simp only [negL, List.map_nil, rL]; grind
  | cons t L ih =>
    simp only [negL] at ih ⊢
    have : mono x1 x2 x3 (-t.1, t.2) = mono x1 x2 x3 t := rfl
    simp only [List.map_cons, rL, ih, this, ci_neg]
    grind
theorem mem_neg {L : List Tm} {t : Tm} (h : t ∈ negL L) : ∃ a ∈ L, t.2 = a.2 := by
  simp only [negL, List.mem_map] at h
  obtain ⟨a, ha, e⟩ := h
  exact ⟨a, ha, by rw [← e]⟩
/-- digits are unique -/
theorem digits {a b c a' b' c' K : Nat} (ha : a < K) (hb : b < K) (ha' : a' < K) (hb' : b' < K) (h : a + K * b + K * K * c = a' + K * b' + K * K * c') : a = a' ∧ b = b' ∧ c = c' := by
  have e : ∀ a b c : Nat, a + K * b + K * K * c = a + K * (b + K * c) := by intro a b c; rw [Nat.mul_add, Nat.mul_assoc]; omega
  rw [e, e] at h
  have h1 : (a + K * (b + K * c)) % K = (a' + K * (b' + K * c')) % K := by rw [h]
  rw [Nat.add_mul_mod_self_left, Nat.add_mul_mod_self_left, Nat.mod_eq_of_lt ha, Nat.mod_eq_of_lt ha'] at h1
  subst h1
  have h2 : b + K * c = b' + K * c' := Nat.eq_of_mul_eq_mul_left (show 0 < K by omega) (by omega)
  have h3 : (b + K * c) % K = (b' + K * c') % K := by rw [h2]
  rw [Nat.add_mul_mod_self_left, Nat.add_mul_mod_self_left, Nat.mod_eq_of_lt hb, Nat.mod_eq_of_lt hb'] at h3
  subst h3
  exact ⟨rfl, rfl, Nat.eq_of_mul_eq_mul_left (show 0 < K by omega) (by omega)⟩
theorem split_sum (p : Tm → Bool) (f : Tm → Int) (L : List Tm) : sumI f L = sumI f (L.filter p) + sumI f (L.filter (fun t => !p t)) := by
  induction L with
  | nil => simp [sumI]
  | cons t L ih =>
    by_cases h : p t <;> simp [List.filter_cons, h, sumI, ih] <;> omega
theorem split_nrm (p : Tm → Bool) (L : List Tm) : nrm L = nrm (L.filter p) + nrm (L.filter (fun t => !p t)) := by
  induction L with
  | nil => simp [nrm]
  | cons t L ih =>
    by_cases h : p t <;> simp [List.filter_cons, h, nrm, ih] <;> omega
theorem split_r (p : Tm → Bool) (L : List Tm) : rL x1 x2 x3 L = rL x1 x2 x3 (L.filter p) + rL x1 x2 x3 (L.filter (fun t => !p t)) := by
  induction L with
  | nil => simp only [List.filter_nil, rL]; grind
  | cons t L ih =>
    by_cases h : p t
    · simp only [List.filter_cons, h, rL, ih, ↓reduceIte, Bool.not_true, Bool.false_eq_true]; grind
    · simp only [List.filter_cons, h, rL, ih, ↓reduceIte, Bool.not_false, Bool.false_eq_true]; grind
theorem sum_le (L : List Tm) : (sumI (fun t => t.1) L).natAbs ≤ nrm L := by
  induction L with
  | nil => simp [sumI, nrm]
  | cons t L ih => simp only [sumI, nrm]; omega
theorem sum_congr {f g : Tm → Int} {L : List Tm} (h : ∀ t ∈ L, f t = g t) : sumI f L = sumI g L := by
  induction L with
  | nil => rfl
  | cons t L ih => simp only [sumI, h t (.head _), ih (fun u hu => h u (.tail _ hu))]
theorem sum_scale (c : Int) (f : Tm → Int) (L : List Tm) : sumI (fun t => c * f t) L = c * sumI f L := by
  induction L with
  | nil => simp [sumI]
  | cons t L ih => simp only [sumI, ih, Int.mul_add]
theorem r_same {m : R} {L : List Tm} (h : ∀ t ∈ L, mono x1 x2 x3 t = m) : rL x1 x2 x3 L = ci (sumI (fun t => t.1) L) * m := by
  induction L with
  | nil => simp only [rL, sumI, ci_zero]; grind
  | cons t L ih =>
    simp only [rL, sumI, ih (fun u hu => h u (.tail _ hu)), h t (.head _), ci_add]
    grind
theorem peel : ∀ (f : Nat) (L : List Tm) (s : Nat), (∀ t ∈ L, s ≤ ex t ∧ ex t < s + f ∧ t.2.1 < kK ∧ t.2.2.1 < kK) → nrm L < kB → zL s L = 0 → rL x1 x2 x3 L = 0 := by
  intro f
  induction f with
  | zero =>
    intro L s h _ _
    match L with
    | [] => rfl
    | t :: L => have := h t (.head _); omega
  | succ f ih =>
    intro L s h hn hz
    have hB : (0 : Int) < (kB : Int) := by decide
    have e0 := split_sum (fun t => decide (ex t = s)) (fun t => t.1 * (kB : Int) ^ (ex t - s)) L
    have n0 := split_nrm (fun t => decide (ex t = s)) L
    have e1 : sumI (fun t => t.1 * (kB : Int) ^ (ex t - s)) (L.filter fun t => decide (ex t = s)) = sumI (fun t => t.1) (L.filter fun t => decide (ex t = s)) := by
      apply sum_congr
      intro t ht
      have := (List.mem_filter.mp ht).2
      simp only [decide_eq_true_eq] at this
      simp [this]
    have e2 : sumI (fun t => t.1 * (kB : Int) ^ (ex t - s)) (L.filter fun t => !decide (ex t = s)) = (kB : Int) * sumI (fun t => t.1 * (kB : Int) ^ (ex t - (s + 1))) (L.filter fun t => !decide (ex t = s)) := by
      rw [← sum_scale]
      apply sum_congr
      intro t ht
      have h1 := List.mem_filter.mp ht
      have h2 := h1.2
      simp only [Bool.not_eq_true', decide_eq_false_iff_not] at h2
      have h3 := h t h1.1
      have : ex t - s = (ex t - (s + 1)) + 1 := by omega
      rw [this, Int.pow_succ]
      grind
    have hs := sum_le (L.filter fun t => decide (ex t = s))
    have hz' : sumI (fun t => t.1 * (kB : Int) ^ (ex t - s)) L = 0 := hz
    rw [e0, e1, e2] at hz'
    have hS : sumI (fun t => t.1) (L.filter fun t => decide (ex t = s)) = 0 := by
      have hd : (kB : Int) ∣ sumI (fun t => t.1) (L.filter fun t => decide (ex t = s)) := ⟨-sumI (fun t => t.1 * (kB : Int) ^ (ex t - (s + 1))) (L.filter fun t => !decide (ex t = s)), by rw [Int.mul_neg]; omega⟩
      exact Int.eq_zero_of_dvd_of_natAbs_lt_natAbs hd (by rw [Int.natAbs_natCast]; omega)
    rw [hS, Int.zero_add] at hz'
    have hZ : zL (s + 1) (L.filter fun t => !decide (ex t = s)) = 0 := by
      rcases Int.mul_eq_zero.mp hz' with h1 | h1
      · omega
      · exact h1
    rw [split_r x1 x2 x3 (fun t => decide (ex t = s)) L]
    have r2 := ih (L.filter fun t => !decide (ex t = s)) (s + 1)
      (by
        intro t ht
        have h1 := List.mem_filter.mp ht
        have h2 := h1.2
        simp only [Bool.not_eq_true', decide_eq_false_iff_not] at h2
        have h3 := h t h1.1
        omega)
      (by omega) hZ
    rw [r2]
    have r1 : rL x1 x2 x3 (L.filter fun t => decide (ex t = s)) = 0 := by
      cases hL : L.filter fun t => decide (ex t = s) with
      | nil => rfl
      | cons u M =>
        rw [← hL]
        have hu : u ∈ L.filter fun t => decide (ex t = s) := by rw [hL]; exact .head _
        rw [r_same x1 x2 x3 (m := mono x1 x2 x3 u), hS, ci_zero]
        · grind
        · intro t ht
          have t1 := List.mem_filter.mp ht
          have u1 := List.mem_filter.mp hu
          have t2 := t1.2
          have u2 := u1.2
          simp only [decide_eq_true_eq] at t2 u2
          have t3 := h t t1.1
          have u3 := h u u1.1
          obtain ⟨a1, a2, a3⟩ := digits t3.2.2.1 t3.2.2.2 u3.2.2.1 u3.2.2.2 (show _ = _ from t2.trans u2.symm)
          simp only [mono, a1, a2, a3]
    rw [r1]
    grind
/-- a number with its bounds -/
structure Nm where
  v : Int
  n : Nat
  d : Nat
  e : Nat
  f : Nat
def Rep (a : Nm) (r : R) : Prop := ∃ L : List Tm, zL 0 L = a.v ∧ rL x1 x2 x3 L = r ∧ nrm L ≤ a.n ∧ ∀ t ∈ L, t.2.1 ≤ a.d ∧ t.2.2.1 ≤ a.e ∧ t.2.2.2 ≤ a.f
def Nm.add (a b : Nm) : Nm := ⟨a.v + b.v, a.n + b.n, max a.d b.d, max a.e b.e, max a.f b.f⟩
def Nm.sub (a b : Nm) : Nm := ⟨a.v - b.v, a.n + b.n, max a.d b.d, max a.e b.e, max a.f b.f⟩
def Nm.mul (a b : Nm) : Nm := match a.n * b.n with
  | 0 => ⟨0, 0, 0, 0, 0⟩
  | n + 1 => ⟨a.v * b.v, n + 1, a.d + b.d, a.e + b.e, a.f + b.f⟩
def Nm.cst (z : Int) : Nm := ⟨z, z.natAbs, 0, 0, 0⟩
variable {x1 x2 x3}
theorem rep_add {a b : Nm} {r s : R} (h1 : Rep x1 x2 x3 a r) (h2 : Rep x1 x2 x3 b s) : Rep x1 x2 x3 (a.add b) (r + s) := by
  obtain ⟨L, z1, r1, n1, d1⟩ := h1
  obtain ⟨M, z2, r2, n2, d2⟩ := h2
  refine ⟨L ++ M, ?_, ?_, ?_, ?_⟩
  · simp only [zL] at z1 z2 ⊢; rw [sumI_app, z1, z2]; rfl
  · rw [rL_app, r1, r2]
  · rw [nrm_app]; simp only [Nm.add]; omega
  · intro t ht
    simp only [Nm.add]
    rcases List.mem_append.mp ht with h | h
    · have := d1 t h; omega
    · have := d2 t h; omega
theorem rep_sub {a b : Nm} {r s : R} (h1 : Rep x1 x2 x3 a r) (h2 : Rep x1 x2 x3 b s) : Rep x1 x2 x3 (a.sub b) (r - s) := by
  obtain ⟨L, z1, r1, n1, d1⟩ := h1
  obtain ⟨M, z2, r2, n2, d2⟩ := h2
  refine ⟨L ++ negL M, ?_, ?_, ?_, ?_⟩
  · have := z_neg M
    simp only [zL] at z1 z2 this ⊢; rw [sumI_app, z1, this, z2]; simp only [Nm.sub]; omega
  · rw [rL_app, r1, r_neg, r2]; grind
  · rw [nrm_app, n_neg]; simp only [Nm.sub]; omega
  · intro t ht
    simp only [Nm.sub]
    rcases List.mem_append.mp ht with h | h
    · have := d1 t h; omega
    · obtain ⟨u, hu, e⟩ := mem_neg h
      have := d2 u hu; rw [e]; omega
theorem nrm_zero {L : List Tm} (h : nrm L = 0) : rL x1 x2 x3 L = 0 := by
  induction L with
  | nil => rfl
  | cons t L ih =>
    simp only [nrm] at h
    have h1 : t.1 = 0 := by omega
    simp only [rL, h1, ih (by omega), ci_zero]
    grind
theorem rep_mul {a b : Nm} {r s : R} (h1 : Rep x1 x2 x3 a r) (h2 : Rep x1 x2 x3 b s) : Rep x1 x2 x3 (a.mul b) (r * s) := by
  obtain ⟨L, z1, r1, n1, d1⟩ := h1
  obtain ⟨M, z2, r2, n2, d2⟩ := h2
  have hn : nrm (mulL L M) ≤ a.n * b.n := by rw [n_mul]; exact Nat.mul_le_mul n1 n2
  unfold Nm.mul
  split
  · rename_i h0
    refine ⟨[], rfl, ?_, Nat.le_refl _, fun _ h => nomatch h⟩
    have := nrm_zero (x1 := x1) (x2 := x2) (x3 := x3) (L := mulL L M) (by omega)
    rw [r_mul, r1, r2] at this
    exact this.symm
  · rename_i n h0
    refine ⟨mulL L M, ?_, ?_, ?_, ?_⟩
    · rw [z_mul, z1, z2]
    · rw [r_mul, r1, r2]
    · rw [h0] at hn; exact hn
    · intro t ht
      obtain ⟨u, hu, w, hw, e⟩ := mem_mul ht
      have a1 := d1 u hu
      have a2 := d2 w hw
      subst e
      simp only [tmul]
      omega
theorem rep_cst (z : Int) : Rep x1 x2 x3 (Nm.cst z) (ci z) := by
  refine ⟨[(z, 0, 0, 0)], ?_, ?_, ?_, ?_⟩
  · simp [zL, sumI, ex, Nm.cst]
  · simp only [rL, mono]
    grind
  · simp [nrm, Nm.cst]
  · intro t ht
    rcases List.mem_singleton.mp ht with rfl
    simp [Nm.cst]
theorem rep_x1 : Rep x1 x2 x3 ⟨(kB : Nat), 1, 1, 0, 0⟩ x1 := by
  refine ⟨[(1, 1, 0, 0)], ?_, ?_, ?_, ?_⟩
  · simp [zL, sumI, ex]; rw [Int.pow_succ, Int.pow_zero, Int.one_mul]
  · simp only [rL, mono, ci_one]; grind
  · simp [nrm]
  · intro t ht
    rcases List.mem_singleton.mp ht with rfl
    simp
theorem rep_x2 : Rep x1 x2 x3 ⟨((kB ^ kK : Nat) : Int), 1, 0, 1, 0⟩ x2 := by
  refine ⟨[(1, 0, 1, 0)], ?_, ?_, ?_, ?_⟩
  · simp [zL, sumI, ex]
  · simp only [rL, mono, ci_one]; grind
  · simp [nrm]
  · intro t ht
    rcases List.mem_singleton.mp ht with rfl
    simp
theorem rep_x3 : Rep x1 x2 x3 ⟨((kB ^ (kK * kK) : Nat) : Int), 1, 0, 0, 1⟩ x3 := by
  refine ⟨[(1, 0, 0, 1)], ?_, ?_, ?_, ?_⟩
  · simp [zL, sumI, ex]
  · simp only [rL, mono, ci_one]; grind
  · simp [nrm]
  · intro t ht
    rcases List.mem_singleton.mp ht with rfl
    simp
def Nm.isZero (a : Nm) : Bool := decide (a.v = 0) && Nat.blt a.n kB && Nat.blt a.d kK && Nat.blt a.e kK
theorem rep_zero {a : Nm} {r : R} (h : Rep x1 x2 x3 a r) (hz : a.isZero = true) : r = 0 := by
  obtain ⟨L, z1, r1, n1, d1⟩ := h
  simp only [Nm.isZero, Bool.and_eq_true, decide_eq_true_eq, Nat.blt_eq] at hz
  obtain ⟨⟨⟨c1, c2⟩, c3⟩, c4⟩ := hz
  rw [← r1]
  refine peel x1 x2 x3 (kK + kK * kK + kK * kK * (a.f + 1)) L 0 ?_ (by omega) (by rw [z1, c1])
  intro t ht
  have h1 := d1 t ht
  refine ⟨by omega, ?_, by omega, by omega⟩
  have h2 : kK * kK * t.2.2.2 ≤ kK * kK * a.f := Nat.mul_le_mul_left _ (by omega)
  have h3 : kK * t.2.2.1 ≤ kK * kK := Nat.mul_le_mul_left _ (by omega)
  simp only [ex, Nat.mul_add]
  simp only [kK] at *
  omega
end
/-- operations, and what they mean in a ring -/
structure Ops where
  T : Type
  add : T → T → T
  sub : T → T → T
  mul : T → T → T
  cst : Int → T
  isZ : T → Bool
def Ops.base : Ops := ⟨Nm, Nm.add, Nm.sub, Nm.mul, Nm.cst, Nm.isZero⟩
/-- with a root of c -/
def Ops.ext (O : Ops) (c : O.T) : Ops :=
  ⟨O.T × O.T, fun a b => (O.add a.1 b.1, O.add a.2 b.2), fun a b => (O.sub a.1 b.1, O.sub a.2 b.2),
    fun a b => (O.add (O.mul a.1 b.1) (O.mul c (O.mul a.2 b.2)), O.add (O.mul a.1 b.2) (O.mul a.2 b.1)), fun z => (O.cst z, O.cst 0), fun a => O.isZ a.1 && O.isZ a.2⟩
section
variable {R : Type} [CommRing R]
structure Sound (O : Ops) (rel : O.T → R → Prop) : Prop where
  add : ∀ {a b r s}, rel a r → rel b s → rel (O.add a b) (r + s)
  sub : ∀ {a b r s}, rel a r → rel b s → rel (O.sub a b) (r - s)
  mul : ∀ {a b r s}, rel a r → rel b s → rel (O.mul a b) (r * s)
  cst : ∀ z : Int, rel (O.cst z) (ci z)
  zer : ∀ {a r}, rel a r → O.isZ a = true → r = 0
theorem sound_base (x1 x2 x3 : R) : Sound Ops.base (Rep x1 x2 x3) := ⟨rep_add, rep_sub, rep_mul, rep_cst, rep_zero⟩
def relE {O : Ops} (rel : O.T → R → Prop) (y : R) (a : O.T × O.T) (r : R) : Prop := ∃ r0 r1 : R, rel a.1 r0 ∧ rel a.2 r1 ∧ r = r0 + r1 * y
theorem sound_ext {O : Ops} {rel : O.T → R → Prop} (S : Sound O rel) {c : O.T} {y cr : R} (hc : rel c cr) (hy : y * y = cr) : Sound (O.ext c) (relE rel y) where
  add := by
    rintro a b r s ⟨r0, r1, h0, h1, e⟩ ⟨s0, s1, k0, k1, f⟩
    exact ⟨r0 + s0, r1 + s1, S.add h0 k0, S.add h1 k1, by rw [e, f]; grind⟩
  sub := by
    rintro a b r s ⟨r0, r1, h0, h1, e⟩ ⟨s0, s1, k0, k1, f⟩
    exact ⟨r0 - s0, r1 - s1, S.sub h0 k0, S.sub h1 k1, by rw [e, f]; grind⟩
  mul := by
    rintro a b r s ⟨r0, r1, h0, h1, e⟩ ⟨s0, s1, k0, k1, f⟩
    exact ⟨r0 * s0 + cr * (r1 * s1), r0 * s1 + r1 * s0, S.add (S.mul h0 k0) (S.mul hc (S.mul h1 k1)), S.add (S.mul h0 k1) (S.mul h1 k0), by rw [e, f]; grind⟩
  cst := by
    intro z
    exact ⟨ci z, ci 0, S.cst z, S.cst 0, by rw [ci_zero]; grind⟩
  zer := by
    rintro a r ⟨r0, r1, h0, h1, e⟩ hz
    have hz' : (O.isZ a.1 && O.isZ a.2) = true := hz
    rw [Bool.and_eq_true] at hz'
    rw [e, S.zer h0 hz'.1, S.zer h1 hz'.2]; grind
theorem rel_lift {O : Ops} {rel : O.T → R → Prop} (S : Sound O rel) {y : R} {a : O.T} {r : R} (h : rel a r) : relE (O := O) rel y (a, O.cst 0) r := ⟨r, ci 0, h, S.cst 0, by rw [ci_zero]; grind⟩
theorem rel_root {O : Ops} {rel : O.T → R → Prop} (S : Sound O rel) {y : R} : relE (O := O) rel y (O.cst 0, O.cst 1) y := ⟨ci 0, ci 1, S.cst 0, S.cst 1, by rw [ci_zero, ci_one]; grind⟩
end
end Kro
end Mine
end
section
/-! associativity of the complete sum -/
open Lean.Grind
namespace Mine
section
variable {R : Type} [CommRing R]
open Kro
def coO (O : Ops) (p q : O.T × O.T × O.T) : O.T × O.T × O.T :=
  let A := O.add (O.mul p.1 q.2.1) (O.mul q.1 p.2.1)
  let B := O.mul p.2.1 q.2.1
  let D := O.mul (O.cst 21) (O.mul p.2.2 q.2.2)
  let G := O.add (O.mul p.1 q.2.2) (O.mul q.1 p.2.2)
  let H := O.add (O.mul p.2.1 q.2.2) (O.mul q.2.1 p.2.2)
  let J := O.mul (O.cst 3) (O.mul p.1 q.1)
  (O.sub (O.mul A (O.sub B D)) (O.mul (O.mul (O.cst 21) H) G), O.add (O.mul (O.add B D) (O.sub B D)) (O.mul (O.mul (O.cst 21) J) G), O.add (O.mul H (O.add B D)) (O.mul J A))
abbrev Tri (R : Type) := R × R × R
def co (p q : Tri R) : Tri R :=
  let A := p.1 * q.2.1 + q.1 * p.2.1
  let B := p.2.1 * q.2.1
  let D := ci 21 * (p.2.2 * q.2.2)
  let G := p.1 * q.2.2 + q.1 * p.2.2
  let H := p.2.1 * q.2.2 + q.2.1 * p.2.2
  let J := ci 3 * (p.1 * q.1)
  (A * (B - D) - (ci 21 * H) * G, (B + D) * (B - D) + (ci 21 * J) * G, H * (B + D) + J * A)
def rel3 {O : Ops} (rel : O.T → R → Prop) (p : O.T × O.T × O.T) (q : Tri R) : Prop := rel p.1 q.1 ∧ rel p.2.1 q.2.1 ∧ rel p.2.2 q.2.2
theorem co_ok {O : Ops} {rel : O.T → R → Prop} (S : Sound O rel) {p q : O.T × O.T × O.T} {P Q : Tri R} (h : rel3 rel p P) (k : rel3 rel q Q) : rel3 rel (coO O p q) (co P Q) := by
  obtain ⟨h1, h2, h3⟩ := h
  obtain ⟨k1, k2, k3⟩ := k
  refine ⟨?_, ?_, ?_⟩ <;> (simp only [coO, co]; repeat (first | assumption | exact S.cst _ | apply S.add | apply S.sub | apply S.mul))
def O0 : Ops := Ops.base
def X1 : Nm := ⟨(kB : Nat), 1, 1, 0, 0⟩
def X2 : Nm := ⟨((kB ^ kK : Nat) : Int), 1, 0, 1, 0⟩
def X3 : Nm := ⟨((kB ^ (kK * kK) : Nat) : Int), 1, 0, 0, 1⟩
def cub (O : Ops) (x : O.T) : O.T := O.add (O.mul x (O.mul x x)) (O.cst 7)
def O1 : Ops := O0.ext (cub O0 X1)
def O2 : Ops := O1.ext (cub O1 (X2, O0.cst 0))
def O3 : Ops := O2.ext (cub O2 ((X3, O0.cst 0), O1.cst 0))
def P1 : O3.T × O3.T × O3.T := ((((X1, O0.cst 0), O1.cst 0), O2.cst 0), ((((O0.cst 0, O0.cst 1)), O1.cst 0), O2.cst 0), O3.cst 1)
def P2 : O3.T × O3.T × O3.T := ((((X2, O0.cst 0), O1.cst 0), O2.cst 0), ((O1.cst 0, O1.cst 1), O2.cst 0), O3.cst 1)
def P3 : O3.T × O3.T × O3.T := ((((X3, O0.cst 0), O1.cst 0), O2.cst 0), (O2.cst 0, O2.cst 1), O3.cst 1)
theorem cub_ok {O : Ops} {rel : O.T → R → Prop} (S : Sound O rel) {x : O.T} {r : R} (h : rel x r) : rel (cub O x) (r * (r * r) + ci 7) := S.add (S.mul h (S.mul h h)) (S.cst 7)
structure Curve (x y : R) : Prop where
  eq : y * y = x * (x * x) + ci 7
def Rel3 (x1 y1 x2 y2 x3 y3 : R) : O3.T → R → Prop := relE (O := O2) (relE (O := O1) (relE (O := O0) (Rep x1 x2 x3) y1) y2) y3
theorem sound1 {x1 y1 x2 x3 : R} (h1 : Curve x1 y1) : Sound O1 (relE (O := O0) (Rep x1 x2 x3) y1) := sound_ext (sound_base x1 x2 x3) (cub_ok (sound_base x1 x2 x3) rep_x1) h1.eq
theorem sound2 {x1 y1 x2 y2 x3 : R} (h1 : Curve x1 y1) (h2 : Curve x2 y2) : Sound O2 (relE (O := O1) (relE (O := O0) (Rep x1 x2 x3) y1) y2) := sound_ext (sound1 h1) (cub_ok (sound1 h1) (rel_lift (sound_base x1 x2 x3) rep_x2)) h2.eq
theorem sound3 {x1 y1 x2 y2 x3 y3 : R} (h1 : Curve x1 y1) (h2 : Curve x2 y2) (h3 : Curve x3 y3) : Sound O3 (Rel3 x1 y1 x2 y2 x3 y3) := sound_ext (sound2 h1 h2) (cub_ok (sound2 h1 h2) (rel_lift (sound1 h1) (rel_lift (sound_base x1 x2 x3) rep_x3))) h3.eq
section
variable {x1 y1 x2 y2 x3 y3 : R} (h1 : Curve x1 y1) (h2 : Curve x2 y2) (h3 : Curve x3 y3)
include h1 h2 h3
theorem p1_ok : rel3 (Rel3 x1 y1 x2 y2 x3 y3) P1 (x1, y1, ci 1) := ⟨rel_lift (sound2 h1 h2) (rel_lift (sound1 h1) (rel_lift (sound_base x1 x2 x3) rep_x1)), rel_lift (sound2 h1 h2) (rel_lift (sound1 h1) (rel_root (sound_base x1 x2 x3))), (sound3 h1 h2 h3).cst 1⟩
theorem p2_ok : rel3 (Rel3 x1 y1 x2 y2 x3 y3) P2 (x2, y2, ci 1) := ⟨rel_lift (sound2 h1 h2) (rel_lift (sound1 h1) (rel_lift (sound_base x1 x2 x3) rep_x2)), rel_lift (sound2 h1 h2) (rel_root (sound1 h1)), (sound3 h1 h2 h3).cst 1⟩
theorem p3_ok : rel3 (Rel3 x1 y1 x2 y2 x3 y3) P3 (x3, y3, ci 1) := ⟨rel_lift (sound2 h1 h2) (rel_lift (sound1 h1) (rel_lift (sound_base x1 x2 x3) rep_x3)), rel_root (sound2 h1 h2), (sound3 h1 h2 h3).cst 1⟩
end
def lhs : O3.T × O3.T × O3.T := coO O3 (coO O3 P1 P2) P3
def rhs : O3.T × O3.T × O3.T := coO O3 P1 (coO O3 P2 P3)
theorem chk_XZ : O3.isZ (O3.sub (O3.mul lhs.1 rhs.2.2) (O3.mul lhs.2.2 rhs.1)) = true := by decide +kernel
theorem chk_YZ : O3.isZ (O3.sub (O3.mul lhs.2.1 rhs.2.2) (O3.mul lhs.2.2 rhs.2.1)) = true := by decide +kernel
theorem ass_XZ {x1 y1 x2 y2 x3 y3 : R} (h1 : Curve x1 y1) (h2 : Curve x2 y2) (h3 : Curve x3 y3) :
    (co (co (x1, y1, ci 1) (x2, y2, ci 1)) (x3, y3, ci 1)).1 * (co (x1, y1, ci 1) (co (x2, y2, ci 1) (x3, y3, ci 1))).2.2 - (co (co (x1, y1, ci 1) (x2, y2, ci 1)) (x3, y3, ci 1)).2.2 * (co (x1, y1, ci 1) (co (x2, y2, ci 1) (x3, y3, ci 1))).1 = 0 := by
  have S := sound3 h1 h2 h3
  have l := co_ok S (co_ok S (p1_ok h1 h2 h3) (p2_ok h1 h2 h3)) (p3_ok h1 h2 h3)
  have r := co_ok S (p1_ok h1 h2 h3) (co_ok S (p2_ok h1 h2 h3) (p3_ok h1 h2 h3))
  exact S.zer (S.sub (S.mul l.1 r.2.2) (S.mul l.2.2 r.1)) chk_XZ
theorem ass_YZ {x1 y1 x2 y2 x3 y3 : R} (h1 : Curve x1 y1) (h2 : Curve x2 y2) (h3 : Curve x3 y3) :
    (co (co (x1, y1, ci 1) (x2, y2, ci 1)) (x3, y3, ci 1)).2.1 * (co (x1, y1, ci 1) (co (x2, y2, ci 1) (x3, y3, ci 1))).2.2 - (co (co (x1, y1, ci 1) (x2, y2, ci 1)) (x3, y3, ci 1)).2.2 * (co (x1, y1, ci 1) (co (x2, y2, ci 1) (x3, y3, ci 1))).2.1 = 0 := by
  have S := sound3 h1 h2 h3
  have l := co_ok S (co_ok S (p1_ok h1 h2 h3) (p2_ok h1 h2 h3)) (p3_ok h1 h2 h3)
  have r := co_ok S (p1_ok h1 h2 h3) (co_ok S (p2_ok h1 h2 h3) (p3_ok h1 h2 h3))
  exact S.zer (S.sub (S.mul l.2.1 r.2.2) (S.mul l.2.2 r.2.1)) chk_YZ
end
end Mine
end
section
/-! the field, and the affine law as the complete sum -/
open Lean.Grind
namespace Mine
open Kro
def pNat : Nat := 115792089237316195423570985008687907853269984665640564039457584007908834671663
/-- a field that the ints map onto -/
structure Fld (R : Type) [CommRing R] : Prop where
  ker : ∀ a : Int, ci (R := R) a = 0 ↔ a % pP = 0
  sur : ∀ r : R, ∃ a : Int, r = ci a
theorem the_field : ∃ (R : Type) (i : CommRing R), @Fld R i := by
  haveI : NeZero pNat := ⟨by decide⟩
  refine ⟨Fin pNat, inferInstance, ⟨?_, ?_⟩⟩
  · intro a
    exact IsCharP.intCast_eq_zero_iff pNat a
  · intro r
    refine ⟨(r.val : Int), ?_⟩
    show r = @Int.cast (Fin pNat) Ring.intCast (r.val : Int)
    rw [Ring.intCast_natCast]
    show r = Fin.ofNat pNat r.val
    exact (Fin.ofNat_val_eq_self r).symm
section
variable {R : Type} [CommRing R]
theorem ci_sub (a b : Int) : ci (R := R) (a - b) = ci a - ci b := Ring.intCast_sub a b
theorem ci_ext (F : Fld R) {a b : Int} : ci (R := R) a = ci b ↔ a % pP = b % pP := by
  have h1 : ci (R := R) a = ci b ↔ ci (R := R) (a - b) = 0 := by rw [ci_sub]; grind
  rw [h1, F.ker]
  exact Int.emod_eq_emod_iff_emod_sub_eq_zero.symm
theorem ci_mod (F : Fld R) (a : Int) : ci (R := R) (a % pP) = ci a := (ci_ext F).mpr (Int.emod_emod _ _)
theorem ci_inj (F : Fld R) {a b : Int} (ha : 0 ≤ a) (ha' : a < pP) (hb : 0 ≤ b) (hb' : b < pP) (h : ci (R := R) a = ci b) : a = b := by
  have := (ci_ext F).mp h
  rwa [Int.emod_eq_of_lt ha ha', Int.emod_eq_of_lt hb hb'] at this
theorem ci_ne (F : Fld R) {a : Int} (h : a % pP ≠ 0) : ci (R := R) a ≠ 0 := fun e => h ((F.ker a).mp e)
theorem ci_pow (a : Int) (n : Nat) : ci (R := R) (a ^ n) = ci a ^ n := by
  induction n with
  | zero => rw [Int.pow_zero, ci_one, Semiring.pow_zero]
  | succ n ih => rw [Int.pow_succ, ci_mul, ih, Semiring.pow_succ]
theorem ci_powm (F : Fld R) (b e : Int) (he : 0 ≤ e) : ci (R := R) (powm b e pP) = ci b ^ e.toNat := by
  have h1 : powm b e pP = ((b % pP) ^ e.toNat) % pP := by
    unfold powm
    rw [Int.natCast_emod, Int.natCast_pow, Int.toNat_of_nonneg (Int.emod_nonneg _ (by decide)), Int.toNat_of_nonneg (by decide)]
  rw [h1, ci_mod F, ci_pow, ci_mod F]
theorem fermat (F : Fld R) {x : R} (h : x ≠ 0) : x ^ (pNat - 1) = 1 := by
  obtain ⟨a, rfl⟩ := F.sur x
  have h0 : a % pP ≠ 0 := fun e => h ((F.ker a).mpr e)
  have h1 := Int.emod_nonneg a (show pP ≠ 0 by decide)
  have h2 := Int.emod_lt_of_pos a (show 0 < pP by decide)
  have h3 := prime_P'.2 (a % pP).toNat (by omega) (by have : (115792089237316195423570985008687907853269984665640564039457584007908834671663 : Int) = pP := rfl; omega)
  rw [← ci_mod F a, ← ci_pow, ← ci_one, ci_ext F]
  have h4 : (((a % pP).toNat ^ (pNat - 1) % pNat : Nat) : Int) = 1 := by rw [show (a % pP).toNat ^ (pNat - 1) % pNat = 1 from h3]; rfl
  rw [Int.natCast_emod, Int.natCast_pow, Int.toNat_of_nonneg h1] at h4
  rw [show ((1 : Int) % pP) = 1 by decide]
  exact h4
theorem inv_ex (F : Fld R) {x : R} (h : x ≠ 0) : x * x ^ (pNat - 2) = 1 := by
  have := fermat F h
  have e : pNat - 1 = (pNat - 2) + 1 := rfl
  rw [e, Semiring.pow_succ] at this
  rw [CommRing.mul_comm]; exact this
theorem nzd (F : Fld R) {x y : R} (h : x * y = 0) : x = 0 ∨ y = 0 := by
  rcases Classical.em (x = 0) with h1 | h1
  · exact .inl h1
  · right
    have := inv_ex F h1
    have e : y = (x * x ^ (pNat - 2)) * y := by rw [this]; grind
    have e2 : (x * x ^ (pNat - 2)) * y = (x * y) * x ^ (pNat - 2) := by grind
    rw [e, e2, h]; grind
theorem mul_ne (F : Fld R) {x y : R} (hx : x ≠ 0) (hy : y ≠ 0) : x * y ≠ 0 := fun h => (nzd F h).elim hx hy
theorem can (F : Fld R) {x y z : R} (hx : x ≠ 0) (h : x * y = x * z) : y = z := by
  have : x * (y - z) = 0 := by grind
  rcases nzd F this with h1 | h1
  · exact absurd h1 hx
  · grind
theorem ne2 (F : Fld R) : ci (R := R) 2 ≠ 0 := ci_ne F (by decide)
theorem pow_zero' (n : Nat) (h : n ≠ 0) : (0 : R) ^ n = 0 := by
  obtain ⟨m, rfl⟩ := Nat.exists_eq_succ_of_ne_zero h
  rw [Semiring.pow_succ]; grind
theorem pow_mul' (x : R) (m n : Nat) : x ^ (m * n) = (x ^ m) ^ n := by
  induction n with
  | zero => rw [Nat.mul_zero, Semiring.pow_zero, Semiring.pow_zero]
  | succ n ih => rw [Nat.mul_succ, Semiring.pow_add, ih, Semiring.pow_succ]
theorem cube7 : pwm pNat 256 (pNat - 7) ((pNat - 1) / 3) 1 ≠ 1 := by decide +kernel
/-- -7 is no cube -/
theorem no_cube (F : Fld R) (x : R) : x * (x * x) + ci 7 ≠ 0 := by
  intro h
  obtain ⟨a, rfl⟩ := F.sur x
  have hx : ci (R := R) a ≠ 0 := by
    intro e
    rw [e] at h
    exact ci_ne (R := R) (a := 7) F (by decide) (by grind)
  have h1 := fermat F hx
  have h2 : ci (R := R) a ^ 3 = ci (-7) := by rw [ci_neg]; grind
  have h3 : pNat - 1 = 3 * ((pNat - 1) / 3) := by decide
  rw [h3, pow_mul', h2, ← ci_pow, ← ci_one, ci_ext F] at h1
  have h4 := cube7
  rw [pwm_eq _ _ _ _ _ (by decide), Nat.one_mul] at h4
  apply h4
  have h5 : (((pNat - 7) ^ ((pNat - 1) / 3) % pNat : Nat) : Int) = ((-7 : Int) ^ ((pNat - 1) / 3)) % pP := by
    rw [Int.natCast_emod, Int.natCast_pow, show (pNat : Int) = pP from rfl]
    have e1 : ci (R := R) (((pNat - 7 : Nat) : Int) ^ ((pNat - 1) / 3)) = ci ((-7 : Int) ^ ((pNat - 1) / 3)) := by
      rw [ci_pow, ci_pow]
      congr 1
      rw [ci_ext F]
      decide
    exact (ci_ext F).mp e1
  rw [h1] at h5
  rw [show ((1 : Int) % pP) = 1 by decide] at h5
  omega
/-- a point in the curve, its coordinates reduced -/
structure Pt1 (F : Fld R) (a : Aff) : Prop where
  x0 : 0 ≤ a.1
  x1 : a.1 < pP
  y0 : 0 ≤ a.2
  y1 : a.2 < pP
  on : Curve (R := R) (ci a.1) (ci a.2)
def OnC (F : Fld R) (o : Option Aff) : Prop := ∀ a, o = some a → Pt1 F a
def emb (o : Option Aff) : Tri R := match o with
  | none => (0, 1, 0)
  | some a => (ci a.1, ci a.2, ci 1)
def sm (k : R) (t : Tri R) : Tri R := (k * t.1, k * t.2.1, k * t.2.2)
/-- a triple stands for a point -/
def Rp (o : Option Aff) (t : Tri R) : Prop := ∃ k : R, k ≠ 0 ∧ t = sm k (emb o)
theorem tri_ext {a b : Tri R} (h1 : a.1 = b.1) (h2 : a.2.1 = b.2.1) (h3 : a.2.2 = b.2.2) : a = b := Prod.ext h1 (Prod.ext h2 h3)
theorem co_sm (k l : R) (s t : Tri R) : co (sm k s) (sm l t) = sm (k * k * (l * l)) (co s t) := by
  apply tri_ext <;> (simp only [co, sm]; grind)
theorem co_comm (s t : Tri R) : co s t = co t s := by
  apply tri_ext <;> (simp only [co]; grind)
theorem y_ne (F : Fld R) {a : Aff} (h : Pt1 F a) : ci (R := R) a.2 ≠ 0 := by
  intro e
  have := h.on.eq
  rw [e] at this
  exact no_cube F (ci a.1) (by rw [← this]; grind)
theorem rp_uniq (F : Fld R) {o o' : Option Aff} {s t : Tri R} (h : OnC F o) (h' : OnC F o') (r : Rp o s) (r' : Rp o' t) (e1 : s.1 * t.2.2 - s.2.2 * t.1 = 0) (e2 : s.2.1 * t.2.2 - s.2.2 * t.2.1 = 0) : o = o' := by
  obtain ⟨k, hk, rfl⟩ := r
  obtain ⟨l, hl, rfl⟩ := r'
  cases o with
  | none =>
    cases o' with
    | none => rfl
    | some b =>
      exfalso
      simp only [sm, emb, ci_one] at e2
      exact mul_ne F hk hl (by grind)
  | some a =>
    cases o' with
    | none =>
      exfalso
      simp only [sm, emb, ci_one] at e2
      exact mul_ne F hk hl (by grind)
    | some b =>
      have ha := h a rfl
      have hb := h' b rfl
      simp only [sm, emb, ci_one] at e1 e2
      have f1 : (k * l) * ci (R := R) a.1 = (k * l) * ci b.1 := by grind
      have f2 : (k * l) * ci (R := R) a.2 = (k * l) * ci b.2 := by grind
      have g1 := can F (mul_ne F hk hl) f1
      have g2 := can F (mul_ne F hk hl) f2
      have i1 := ci_inj F ha.x0 ha.x1 hb.x0 hb.x1 g1
      have i2 := ci_inj F ha.y0 ha.y1 hb.y0 hb.y1 g2
      rw [show a = b from Prod.ext i1 i2]
end
end Mine
end
section
/-! chord and tangent -/
open Lean.Grind
namespace Mine
open Kro
section
variable {R : Type} [CommRing R]
/-- l is the slope through two points of the curve (or the tangent's) -/
structure Slope (x1 y1 x2 y2 l : R) : Prop where
  on : Curve x1 y1
  e1 : y2 = y1 + l * (x2 - x1)
  e2 : l * (y1 + y2) = x1 * x1 + x1 * x2 + x2 * x2
theorem ci7 : ci (R := R) 7 = 7 := Ring.intCast_ofNat 7
theorem ci21 : ci (R := R) 21 = 21 := Ring.intCast_ofNat 21
theorem ci3 : ci (R := R) 3 = 3 := Ring.intCast_ofNat 3
theorem ci2 : ci (R := R) 2 = 2 := Ring.intCast_ofNat 2
theorem slope_on {x1 y1 x2 y2 l : R} (S : Slope x1 y1 x2 y2 l) : Curve (l * l - x1 - x2) (l * (x1 - (l * l - x1 - x2)) - y1) := by
  obtain ⟨⟨h1⟩, h2, h3⟩ := S
  refine ⟨?_⟩
  rw [ci7] at *
  grind
theorem slope_co {x1 y1 x2 y2 l : R} (S : Slope x1 y1 x2 y2 l) : co (x1, y1, ci 1) (x2, y2, ci 1) = sm (co (x1, y1, ci 1) (x2, y2, ci 1)).2.2 (l * l - x1 - x2, l * (x1 - (l * l - x1 - x2)) - y1, ci 1) := by
  obtain ⟨⟨h1⟩, h2, h3⟩ := S
  apply tri_ext
  · simp only [co, sm, ci_one, ci7, ci21, ci3] at *
    subst h2
    grind
  · simp only [co, sm, ci_one, ci7, ci21, ci3] at *
    subst h2
    grind
  · simp only [co, sm, ci_one]
    grind
theorem slope_add (F : Fld R) {x1 y1 x2 y2 l : R} (h1 : Curve x1 y1) (h2 : Curve x2 y2) (hd : x2 - x1 ≠ 0) (hl : l * (x2 - x1) = y2 - y1) : Slope x1 y1 x2 y2 l := by
  refine ⟨h1, by grind, can F hd ?_⟩
  have a1 := h1.eq
  have a2 := h2.eq
  grind
theorem slope_dbl (F : Fld R) {x y l : R} (h : Curve x y) (hl : l * (ci 2 * y) = ci 3 * (x * x)) : Slope x y x y l := by
  refine ⟨h, by grind, ?_⟩
  rw [ci2, ci3] at hl
  grind
theorem curve_y (F : Fld R) {x y : R} (h : Curve x y) : y ≠ 0 := by
  intro e
  have := h.eq
  rw [e] at this
  exact no_cube F x (by rw [← this]; grind)
theorem curve_neg {x y : R} (h : Curve x y) : Curve x (-y) := ⟨by have := h.eq; grind⟩
/-- the third coordinate of a chord -/
theorem z_chord {x1 y1 x2 y2 m : R} (h2 : Curve x2 y2) (S : Slope x1 y1 x2 (-y2) m) : (co (x1, y1, ci 1) (x2, y2, ci 1)).2.2 = (m * (x1 - (m * m - x1 - x2)) - y1) * ((x2 - x1) * ((x2 - x1) * (x2 - x1))) := by
  obtain ⟨⟨h1⟩, h3, h4⟩ := S
  have h5 := h2.eq
  have h6 : y2 = -(y1 + m * (x2 - x1)) := by grind
  simp only [co, ci_one, ci7, ci21, ci3] at *
  subst h6
  grind
theorem z_tangent {x y : R} (h : Curve x y) : (co (x, y, ci 1) (x, y, ci 1)).2.2 = ci 2 * (ci 2 * ci 2) * (y * (y * y)) := by
  have h1 := h.eq
  simp only [co, ci_one, ci7, ci21, ci3, ci2] at *
  grind
/-- a point and its opposite -/
theorem co_opp {x y m : R} (S : Slope x y x y m) : co (x, y, ci 1) (x, -y, ci 1) = (0, (m * (x - (m * m - x - x)) - y) * (ci 2 * (ci 2 * ci 2) * (y * (y * y))), 0) := by
  obtain ⟨⟨h1⟩, h3, h4⟩ := S
  apply tri_ext
  · simp only [co, ci_one]; grind
  · simp only [co, ci_one, ci7, ci21, ci3, ci2] at *; grind
  · simp only [co, ci_one]; grind
end
end Mine
end
section
/-! the affine sum is the complete sum; it associates -/
open Lean.Grind
namespace Mine
open Kro
section
variable {R : Type} [CommRing R]
theorem pt_eq (F : Fld R) {a b : Aff} (ha : Pt1 F a) (hb : Pt1 F b) (h1 : ci (R := R) a.1 = ci b.1) (h2 : ci (R := R) a.2 = ci b.2) : a = b :=
  Prod.ext (ci_inj F ha.x0 ha.x1 hb.x0 hb.x1 h1) (ci_inj F ha.y0 ha.y1 hb.y0 hb.y1 h2)
theorem mod_nn (a : Int) : 0 ≤ a % pP := Int.emod_nonneg _ (by decide)
theorem mod_lt' (a : Int) : a % pP < pP := Int.emod_lt_of_pos _ (by decide)
theorem pP_toNat : (pP - 2).toNat = pNat - 2 := by decide
theorem inv_p (F : Fld R) {a : Int} (h : ci (R := R) a ≠ 0) : ci (R := R) a * ci (powm a (pP - 2) pP) = 1 := by
  rw [ci_powm F _ _ (by decide), pP_toNat]
  exact inv_ex F h
/-- what the affine sum is -/
inductive Sum3 (F : Fld R) (a b : Aff) : Option Aff → Prop where
  | opp (h1 : a.1 = b.1) (h2 : ci (R := R) b.2 = - ci a.2) : Sum3 F a b none
  | some (c : Aff) (l : R) (S : Slope (ci a.1) (ci a.2) (ci b.1) (ci b.2) l) (hc : Pt1 F c) (h1 : ci (R := R) c.1 = l * l - ci a.1 - ci b.1) (h2 : ci (R := R) c.2 = l * (ci a.1 - ci c.1) - ci a.2)
      (hne : a.1 ≠ b.1 ∨ a = b) : Sum3 F a b (some c)
theorem slope_pt (F : Fld R) {a b : Aff} {l : Int} (S : Slope (ci (R := R) a.1) (ci a.2) (ci b.1) (ci b.2) (ci l)) (hne : a.1 ≠ b.1 ∨ a = b) :
    Sum3 F a b (some ((l * l - a.1 - b.1) % pP, (l * (a.1 - (l * l - a.1 - b.1) % pP) - a.2) % pP)) := by
  have e1 : ci (R := R) ((l * l - a.1 - b.1) % pP) = ci l * ci l - ci a.1 - ci b.1 := by rw [ci_mod F, ci_sub, ci_sub, ci_mul]
  have e2 : ci (R := R) ((l * (a.1 - (l * l - a.1 - b.1) % pP) - a.2) % pP) = ci l * (ci a.1 - (ci l * ci l - ci a.1 - ci b.1)) - ci a.2 := by rw [ci_mod F, ci_sub, ci_mul, ci_sub, e1]
  refine .some _ (ci l) S ⟨mod_nn _, mod_lt' _, mod_nn _, mod_lt' _, ?_⟩ e1 (by rw [e1]; exact e2) hne
  show Curve (R := R) (ci ((l * l - a.1 - b.1) % pP)) (ci ((l * (a.1 - (l * l - a.1 - b.1) % pP) - a.2) % pP))
  rw [e1, e2]
  exact slope_on S
theorem ls_sum (F : Fld R) {a b : Aff} (ha : Pt1 F a) (hb : Pt1 F b) : Sum3 F a b (lsF (some a) (some b)) := by
  simp only [lsF]
  split
  · rename_i h1
    split
    · rename_i h2
      refine .opp h1 ?_
      have h3 : ci (R := R) (a.2 + b.2) = 0 := (F.ker _).mpr h2
      rw [ci_add] at h3
      grind
    · rename_i h2
      have h3 : ci (R := R) (a.2 + b.2) ≠ 0 := ci_ne F h2
      rw [ci_add] at h3
      have h4 : (ci (R := R) a.2 + ci b.2) * (ci b.2 - ci a.2) = 0 := by
        have k1 := ha.on.eq
        have k2 := hb.on.eq
        rw [← h1] at k2
        grind
      have h5 : ci (R := R) b.2 = ci a.2 := by
        rcases nzd F h4 with h | h
        · exact absurd h h3
        · grind
      have hab : a = b := pt_eq F ha hb (by rw [h1]) h5.symm
      refine slope_pt F ?_ (.inr hab)
      rw [← hab]
      refine slope_dbl F ha.on ?_
      have hi := inv_p F (a := 2 * a.2) (by rw [ci_mul]; exact mul_ne F (ne2 F) (y_ne F ha))
      rw [ci_mod F, ci_mul, ci_mul, ci_mul]
      rw [ci_mul] at hi
      grind
  · rename_i h1
    refine slope_pt F ?_ (.inl h1)
    have hd : ci (R := R) b.1 - ci a.1 ≠ 0 := by
      intro e
      exact h1 (ci_inj F ha.x0 ha.x1 hb.x0 hb.x1 (by grind))
    refine slope_add F ha.on hb.on hd ?_
    have hi := inv_p F (a := b.1 - a.1) (by rw [ci_sub]; exact hd)
    rw [ci_mod F, ci_mul, ci_sub]
    rw [ci_sub] at hi
    grind
theorem ls_on (F : Fld R) {o o' : Option Aff} (h : OnC F o) (h' : OnC F o') : OnC F (lsF o o') := by
  cases o with
  | none => simpa [lsF] using h'
  | some a =>
    cases o' with
    | none => simpa [lsF] using h
    | some b =>
      have := ls_sum F (h a rfl) (h' b rfl)
      generalize lsF (some a) (some b) = z at this
      cases this with
      | opp => intro c hc; cases hc
      | some c l S hc => intro c' hc'; cases hc'; exact hc
theorem tangent_ex (F : Fld R) {x y : R} (h : Curve x y) : ∃ m, Slope x y x y m := by
  have hi := inv_ex F (mul_ne F (ne2 F) (curve_y F h))
  exact ⟨ci 3 * (x * x) * (ci 2 * y) ^ (pNat - 2), slope_dbl F h (by grind)⟩
theorem chord_ex (F : Fld R) {x1 y1 x2 y2 : R} (h1 : Curve x1 y1) (h2 : Curve x2 y2) (hd : x2 - x1 ≠ 0) : ∃ m, Slope x1 y1 x2 y2 m := by
  have hi := inv_ex F hd
  exact ⟨(y2 - y1) * (x2 - x1) ^ (pNat - 2), slope_add F h1 h2 hd (by grind)⟩
theorem ls_rp (F : Fld R) {a b : Aff} (ha : Pt1 F a) (hb : Pt1 F b) : Rp (R := R) (lsF (some a) (some b)) (co (emb (some a)) (emb (some b))) := by
  have := ls_sum F ha hb
  generalize lsF (some a) (some b) = z at this
  cases this with
  | opp h1 h2 =>
    simp only [emb]
    obtain ⟨m, S⟩ := tangent_ex F ha.on
    rw [← h1, h2, co_opp S]
    have c := slope_on S
    refine ⟨_, mul_ne F (curve_y F c) (mul_ne F (mul_ne F (ne2 F) (mul_ne F (ne2 F) (ne2 F))) (mul_ne F (y_ne F ha) (mul_ne F (y_ne F ha) (y_ne F ha)))), ?_⟩
    apply tri_ext <;> (simp only [sm, emb]; grind)
  | some c l S hc h1 h2 hne =>
    simp only [emb]
    refine ⟨(co (R := R) (ci a.1, ci a.2, ci 1) (ci b.1, ci b.2, ci 1)).2.2, ?_, ?_⟩
    · rcases hne with h | rfl
      · have hd : ci (R := R) b.1 - ci a.1 ≠ 0 := by
          intro e
          exact h (ci_inj F ha.x0 ha.x1 hb.x0 hb.x1 (by grind))
        obtain ⟨m, M⟩ := chord_ex F ha.on (curve_neg hb.on) hd
        rw [z_chord hb.on M]
        exact mul_ne F (curve_y F (slope_on M)) (mul_ne F hd (mul_ne F hd hd))
      · rw [z_tangent ha.on]
        exact mul_ne F (mul_ne F (ne2 F) (mul_ne F (ne2 F) (ne2 F))) (mul_ne F (y_ne F ha) (mul_ne F (y_ne F ha) (y_ne F ha)))
    · have e := slope_co S
      rw [← h1, ← h2] at e
      exact e
theorem rp_emb (F : Fld R) (o : Option Aff) : Rp (R := R) o (emb o) := ⟨1, by rw [← ci_one]; exact ci_ne F (by decide), by apply tri_ext <;> (simp only [sm]; grind)⟩
theorem rp_sm (F : Fld R) {o : Option Aff} {t : Tri R} {k : R} (hk : k ≠ 0) (h : Rp o t) : Rp o (sm k t) := by
  obtain ⟨l, hl, rfl⟩ := h
  exact ⟨k * l, mul_ne F hk hl, by apply tri_ext <;> (simp only [sm]; grind)⟩
theorem co_id (x y : R) : co (0, 1, 0) (x, y, ci 1) = sm y (x, y, ci 1) := by
  apply tri_ext <;> (simp only [co, sm, ci_one]; grind)
theorem ls_rp' (F : Fld R) {o o' : Option Aff} (h : OnC F o) (h' : OnC F o') (hs : ¬(o = none ∧ o' = none)) {s t : Tri R} (r : Rp o s) (r' : Rp o' t) : Rp (lsF o o') (co s t) := by
  obtain ⟨k, hk, rfl⟩ := r
  obtain ⟨l, hl, rfl⟩ := r'
  rw [co_sm]
  refine rp_sm F (mul_ne F (mul_ne F hk hk) (mul_ne F hl hl)) ?_
  cases o with
  | none =>
    cases o' with
    | none => exact absurd ⟨rfl, rfl⟩ hs
    | some b =>
      simp only [lsF, emb]
      rw [co_id]
      exact ⟨_, y_ne F (h' b rfl), rfl⟩
  | some a =>
    cases o' with
    | none =>
      simp only [lsF, emb]
      rw [co_comm, co_id]
      exact ⟨_, y_ne F (h a rfl), rfl⟩
    | some b => exact ls_rp F (h a rfl) (h' b rfl)
theorem ls_none_r (o : Option Aff) : lsF o none = o := by cases o <;> rfl
theorem ls_none_l (o : Option Aff) : lsF none o = o := rfl
theorem ls_comm (F : Fld R) {o o' : Option Aff} (h : OnC F o) (h' : OnC F o') : lsF o o' = lsF o' o := by
  cases o with
  | none => rw [ls_none_r]; rfl
  | some a =>
    cases o' with
    | none => rfl
    | some b =>
      have r1 := ls_rp F (h a rfl) (h' b rfl)
      have r2 := ls_rp F (h' b rfl) (h a rfl)
      rw [co_comm] at r2
      exact rp_uniq F (ls_on F h h') (ls_on F h' h) r1 r2 (by grind) (by grind)
theorem ls_assoc (F : Fld R) {o o' o'' : Option Aff} (h : OnC F o) (h' : OnC F o') (h'' : OnC F o'') : lsF (lsF o o') o'' = lsF o (lsF o' o'') := by
  cases o with
  | none => rfl
  | some a =>
    cases o' with
    | none => rfl
    | some b =>
      cases o'' with
      | none => rw [ls_none_r, ls_none_r]
      | some c =>
        have r1 := ls_rp' F (ls_on F h h') h'' (by simp) (ls_rp F (h a rfl) (h' b rfl)) (rp_emb F (some c))
        have r2 := ls_rp' F h (ls_on F h' h'') (by simp) (rp_emb F (some a)) (ls_rp F (h' b rfl) (h'' c rfl))
        exact rp_uniq F (ls_on F (ls_on F h h') h'') (ls_on F h (ls_on F h' h'')) r1 r2 (ass_XZ (h a rfl).on (h' b rfl).on (h'' c rfl).on) (ass_YZ (h a rfl).on (h' b rfl).on (h'' c rfl).on)
/-- the opposite -/
def ng (o : Option Aff) : Option Aff := match o with
  | none => none
  | some a => some (a.1, pP - a.2)
theorem pt_pos (F : Fld R) {a : Aff} (h : Pt1 F a) : 0 < a.2 := by
  rcases Int.lt_or_eq_of_le h.y0 with h1 | h1
  · exact h1
  · exact absurd (by rw [← h1, ci_zero]) (y_ne F h)
theorem ci_flip (F : Fld R) (a : Int) : ci (R := R) (pP - a) = - ci a := by
  rw [ci_sub, (F.ker pP).mpr (by decide)]; grind
theorem ng_pt (F : Fld R) {a : Aff} (h : Pt1 F a) : Pt1 F (a.1, pP - a.2) := by
  have := pt_pos F h
  have := h.y1
  refine ⟨h.x0, h.x1, by simp only; omega, by simp only; omega, ?_⟩
  simp only [ci_flip F]
  exact curve_neg h.on
theorem ng_on (F : Fld R) {o : Option Aff} (h : OnC F o) : OnC F (ng o) := by
  cases o with
  | none => intro a ha; cases ha
  | some a => intro b hb; cases hb; exact ng_pt F (h a rfl)
theorem ng_emb (F : Fld R) (o : Option Aff) : Rp (R := R) (ng o) ((emb (R := R) o).1, -(emb (R := R) o).2.1, (emb (R := R) o).2.2) := by
  cases o with
  | none => exact ⟨-1, by rw [← ci_one, ← ci_neg]; exact ci_ne F (by decide), by apply tri_ext <;> (simp only [sm, emb, ng]; grind)⟩
  | some a => exact ⟨1, by rw [← ci_one]; exact ci_ne F (by decide), by apply tri_ext <;> (simp only [sm, emb, ng, ci_flip F]; grind)⟩
theorem ng_rp (F : Fld R) {o : Option Aff} {t : Tri R} (h : Rp o t) : Rp (ng o) (t.1, -t.2.1, t.2.2) := by
  obtain ⟨k, hk, rfl⟩ := h
  have := rp_sm F hk (ng_emb (R := R) F o)
  have e : sm k ((emb (R := R) o).1, -(emb (R := R) o).2.1, (emb (R := R) o).2.2) = ((sm k (emb o)).1, -(sm k (emb (R := R) o)).2.1, (sm k (emb o)).2.2) := by
    apply tri_ext <;> (simp only [sm]; (try grind))
  rw [e] at this
  exact this
theorem ls_ng (F : Fld R) {o o' : Option Aff} (h : OnC F o) (h' : OnC F o') : lsF (ng o) (ng o') = ng (lsF o o') := by
  cases o with
  | none => rfl
  | some a =>
    cases o' with
    | none => rfl
    | some b =>
      have r1 := ls_rp' F (ng_on F h) (ng_on F h') (by simp [ng]) (ng_emb (R := R) F (some a)) (ng_emb (R := R) F (some b))
      have r2 := ng_rp F (ls_rp (R := R) F (h a rfl) (h' b rfl))
      refine rp_uniq F (ls_on F (ng_on F h) (ng_on F h')) (ng_on F (ls_on F h h')) r1 r2 ?_ ?_
      · simp only [co, emb]; grind
      · simp only [co, emb]; grind
theorem ls_opp (F : Fld R) {o : Option Aff} (h : OnC F o) : lsF o (ng o) = none := by
  cases o with
  | none => rfl
  | some a =>
    simp only [ng, lsF]
    rw [if_pos True.intro, if_pos (by rw [show a.2 + (pP - a.2) = pP by omega]; decide)]
end
end Mine
end
section
/-! multiples, both ways -/
open Lean.Grind
namespace Mine
open Kro
def nm : Nat → Option Aff → Option Aff
  | 0, _ => none
  | n + 1, o => lsF (nm n o) o
def isIdP (p : Jac) : Prop := p = (0, 0, 0) ∨ p = (0, 0, 1)
section
variable {R : Type} [CommRing R]
theorem none_on (F : Fld R) : OnC F none := fun _ h => nomatch h
theorem nm_on (F : Fld R) {o : Option Aff} (h : OnC F o) (n : Nat) : OnC F (nm n o) := by
  induction n with
  | zero => exact none_on F
  | succ n ih => exact ls_on F ih h
theorem nm_add (F : Fld R) {o : Option Aff} (h : OnC F o) (m n : Nat) : nm (m + n) o = lsF (nm m o) (nm n o) := by
  induction n with
  | zero => rw [Nat.add_zero, nm, ls_none_r]
  | succ n ih => rw [← Nat.add_assoc, nm, ih, nm, ls_assoc F (nm_on F h m) (nm_on F h n) h]
theorem nm_none (n : Nat) : nm n none = none := by
  induction n with
  | zero => rfl
  | succ n ih => rw [nm, ih]; rfl
theorem nm_one (o : Option Aff) : nm 1 o = o := rfl
theorem nm_mul (F : Fld R) {o : Option Aff} (h : OnC F o) (m n : Nat) : nm (m * n) o = nm m (nm n o) := by
  induction m with
  | zero => rw [Nat.zero_mul]; rfl
  | succ m ih => rw [Nat.succ_mul, nm_add F h, ih]; rfl
theorem nm_two (o : Option Aff) : lsF o o = nm 2 o := rfl
theorem nm_ng (F : Fld R) {o : Option Aff} (h : OnC F o) (n : Nat) : nm n (ng o) = ng (nm n o) := by
  induction n with
  | zero => rfl
  | succ n ih => rw [nm, ih, ls_ng F (nm_on F h n) h]; rfl
theorem lt_nm (F : Fld R) (n : Nat) : ∀ (f o : Option Aff), OnC F f → OnC F o → ltF f o n = lsF f (nm n o) := by
  induction n using Nat.strongRecOn with
  | _ n ih =>
    intro f o hf ho
    rw [ltF]
    split
    · rename_i h; subst h; rw [nm, ls_none_r]
    · rename_i h
      have e : nm n o = lsF (nm (n % 2) o) (nm (n / 2) (lsF o o)) := by
        rw [nm_two, ← nm_mul F ho, ← nm_add F ho]; congr 1; omega
      split
      · rename_i h2
        rw [ih (n / 2) (by omega) _ _ (ls_on F hf ho) (ls_on F ho ho), e, h2, nm_one, ls_assoc F hf ho (nm_on F (ls_on F ho ho) _)]
      · rename_i h2
        have h3 : n % 2 = 0 := by omega
        rw [ih (n / 2) (by omega) _ _ hf (ls_on F ho ho), e, h3, nm, ls_none_l]
/-- a Jacobian triple stands for a point -/
def Jr (p : Jac) (o : Option Aff) : Prop := match o with
  | none => isIdP p
  | some a => ci (R := R) p.2.2 ≠ 0 ∧ ci (R := R) p.1 = ci a.1 * (ci p.2.2 * ci p.2.2) ∧ ci (R := R) p.2.1 = ci a.2 * (ci p.2.2 * (ci p.2.2 * ci p.2.2))
theorem jr_y (F : Fld R) {p : Jac} {a : Aff} (ha : Pt1 F a) (h : Jr (R := R) p (some a)) : p.2.1 ≠ 0 := by
  intro e
  have h3 := h.2.2
  rw [e, ci_zero] at h3
  exact mul_ne F (y_ne F ha) (mul_ne F h.1 (mul_ne F h.1 h.1)) h3.symm
theorem id_y {p : Jac} (h : isIdP p) : p.2.1 = 0 := by rcases h with rfl | rfl <;> rfl
theorem ci4 : ci (R := R) 4 = 4 := Ring.intCast_ofNat 4
theorem ci8 : ci (R := R) 8 = 8 := Ring.intCast_ofNat 8
theorem sq' (x : R) : x ^ 2 = x * x := by grind
theorem cu' (x : R) : x ^ 3 = x * (x * x) := by grind
theorem dbl_some (F : Fld R) {a : Aff} (ha : Pt1 F a) : ∃ c l, lsF (some a) (some a) = some c ∧ Slope (R := R) (ci a.1) (ci a.2) (ci a.1) (ci a.2) l ∧ Pt1 F c ∧ ci (R := R) c.1 = l * l - ci a.1 - ci a.1 ∧ ci (R := R) c.2 = l * (ci a.1 - ci c.1) - ci a.2 := by
  have h := ls_sum F ha ha
  generalize lsF (some a) (some a) = z at h
  cases h with
  | opp h1 h2 =>
    exfalso
    have : ci (R := R) 2 * ci a.2 = 0 := by rw [ci2]; grind
    exact mul_ne F (ne2 F) (y_ne F ha) this
  | some c l S hc h1 h2 hne => exact ⟨c, l, rfl, S, hc, h1, h2⟩
theorem jd_r (F : Fld R) {p : Jac} {o : Option Aff} (ho : OnC F o) (h : Jr (R := R) p o) : Jr (R := R) (jdF p) (lsF o o) := by
  cases o with
  | none =>
    rw [jdF, if_pos (id_y h)]
    exact .inl rfl
  | some a =>
    have ha := ho a rfl
    obtain ⟨c, l, e, S, hc, h1, h2⟩ := dbl_some F ha
    rw [e, jdF, if_neg (jr_y F ha h)]
    obtain ⟨hz, hx, hy⟩ := h
    have hl := S.e2
    obtain ⟨X, Y, Z⟩ := p
    simp only [Jr, ci_mod F, ci_sub, ci_mul, ci_add, ci_pow, ci_zero, ci2, ci3, ci4, ci8] at *
    refine ⟨?_, ?_, ?_⟩
    · rw [hy]
      have := mul_ne F (mul_ne F (ne2 F) (mul_ne F (y_ne F ha) (mul_ne F hz (mul_ne F hz hz)))) hz
      rwa [ci2] at this
    · rw [hx, hy, h1]; grind
    · rw [hx, hy, h2, h1]; grind
theorem ja_r (F : Fld R) {p q : Jac} {o o' : Option Aff} (ho : OnC F o) (ho' : OnC F o') (h : Jr (R := R) p o) (h' : Jr (R := R) q o') : Jr (R := R) (jaF p q) (lsF o o') := by
  cases o with
  | none =>
    rw [jaF, if_pos (id_y h)]
    exact h'
  | some a =>
    have ha := ho a rfl
    cases o' with
    | none =>
      rw [jaF, if_neg (jr_y F ha h), if_pos (id_y h')]
      exact h
    | some b =>
      have hb := ho' b rfl
      have hyp := jr_y F ha h
      have hyq := jr_y F hb h'
      have hd := jd_r F (o := some a) ho h
      have hs := ls_sum F ha hb
      obtain ⟨hz, hx, hy⟩ := h
      obtain ⟨kz, kx, ky⟩ := h'
      have hzz := mul_ne F (mul_ne F hz hz) (mul_ne F kz kz)
      have hzzz := mul_ne F (mul_ne F hz (mul_ne F hz hz)) (mul_ne F kz (mul_ne F kz kz))
      have hU : (p.1 * q.2.2 ^ 2 % pP = q.1 * p.2.2 ^ 2 % pP) ↔ a.1 = b.1 := by
        rw [← ci_ext F, ci_mul, ci_mul, ci_pow, ci_pow, hx, kx, sq', sq']
        constructor
        · intro e
          exact ci_inj F ha.x0 ha.x1 hb.x0 hb.x1 (can F hzz (by grind))
        · intro e; rw [e]; grind
      have hS : (p.2.1 * q.2.2 ^ 3 % pP = q.2.1 * p.2.2 ^ 3 % pP) ↔ a.2 = b.2 := by
        rw [← ci_ext F, ci_mul, ci_mul, ci_pow, ci_pow, hy, ky, cu', cu']
        constructor
        · intro e
          exact ci_inj F ha.y0 ha.y1 hb.y0 hb.y1 (can F hzzz (by grind))
        · intro e; rw [e]; grind
      rw [jaF, if_neg hyp, if_neg hyq]
      dsimp only
      split
      · rename_i e
        have e1 := hU.mp e
        split
        · rename_i f
          have f1 : a.2 ≠ b.2 := fun k => f (hS.mpr k)
          generalize lsF (some a) (some b) = z at hs
          cases hs with
          | opp h1 h2 => exact .inr rfl
          | some c l S hc h1 h2 hne =>
            rcases hne with k | k
            · exact absurd e1 k
            · rw [k] at f1; exact absurd rfl f1
        · rename_i f
          have f1 : a.2 = b.2 := hS.mp (Decidable.not_not.mp f)
          rw [← show a = b from Prod.ext e1 f1]
          exact hd
      · rename_i e
        have e1 : a.1 ≠ b.1 := fun k => e (hU.mpr k)
        generalize lsF (some a) (some b) = z at hs
        cases hs with
        | opp h1 h2 => exact absurd h1 e1
        | some c l S hc h1 h2 hne =>
          have hdx : ci (R := R) b.1 - ci a.1 ≠ 0 := by
            intro k
            exact e1 (ci_inj F ha.x0 ha.x1 hb.x0 hb.x1 (by grind))
          have g1 := S.e1
          obtain ⟨X1, Y1, Z1⟩ := p
          obtain ⟨X2, Y2, Z2⟩ := q
          simp only [Jr, ci_mod F, ci_sub, ci_mul, ci_add, ci_pow, ci_zero, ci2, ci3, ci4, ci8] at *
          refine ⟨?_, ?_, ?_⟩
          · have := mul_ne F (mul_ne F (mul_ne F hdx hzz) hz) kz
            rw [hx, kx]
            intro k; apply this; rw [← k]; grind
          · rw [hx, hy, kx, ky, h1]; grind
          · rw [hx, hy, kx, ky, h2, h1]; grind
theorem jm_r (F : Fld R) {p : Jac} {o : Option Aff} (ho : OnC F o) (h : Jr (R := R) p o) (n : Nat) : Jr (R := R) (jmF p n) (nm n o) := by
  induction n using Nat.strongRecOn with
  | _ n ih =>
    rw [jmF]
    split
    · rename_i k
      cases o with
      | none => rw [nm_none]; exact .inr rfl
      | some a =>
        have := jr_y F (ho a rfl) h
        have hn : n = 0 := by rcases k with k | k; exact absurd k this; exact k
        rw [hn]; exact .inr rfl
    · rename_i k
      split
      · rename_i k1; rw [k1, nm_one]; exact h
      · rename_i k1
        have i1 := ih (n / 2) (by omega)
        have i2 := jd_r F (nm_on F ho _) i1
        rw [← nm_add F ho] at i2
        split
        · rename_i k2
          have e : n / 2 + n / 2 = n := by omega
          rw [e] at i2; exact i2
        · rename_i k2
          have i3 := ja_r F (nm_on F ho _) ho i2 h
          have e : nm n o = lsF (nm (n / 2 + n / 2) o) o := by
            have : n = (n / 2 + n / 2) + 1 := by omega
            conv => lhs; rw [this]
            rfl
          rw [e]; exact i3
end
end Mine
end
section
/-! what the law's walk asks of the plain readings -/
open Lean.Grind
namespace Mine
open Kro
theorem t_inv {t : Int} (h0 : 1 ≤ t) (h1 : t ≤ 560) : (powm t (pN - 2) pN * t) % pN = 1 := by
  have h2 := prime_N'.2 t.toNat (by omega) (by omega)
  have e : ((t.toNat ^ (115792089237316195423570985008687907852837564279074904382605163141518161494337 - 1) % 115792089237316195423570985008687907852837564279074904382605163141518161494337 : Nat) : Int) = 1 := by rw [h2]; rfl
  have h3 : t % pN = t := Int.emod_eq_of_lt (by omega) (by simp only [pN]; omega)
  unfold powm
  rw [h3]
  rw [Int.natCast_emod, Int.natCast_pow] at e ⊢
  have h4 : Nat.succ (pN - 2).toNat = 115792089237316195423570985008687907852837564279074904382605163141518161494337 - 1 := by decide
  have h5 : ((pN.toNat : Nat) : Int) = pN := Int.toNat_of_nonneg (by decide)
  have h6 : ((t.toNat : Nat) : Int) = t := Int.toNat_of_nonneg (by omega)
  rw [h6] at e ⊢
  rw [h5, Int.mul_emod, Int.emod_emod, ← Int.mul_emod, ← Int.pow_succ, h4]
  exact e
theorem inv_uniq {r t i : Int} (h : (r * t) % pN = 1) (h0 : 0 ≤ t) (h1 : t < pN) (hi : IsInv r pN i) : i = t := by
  obtain ⟨i0, i1, hi⟩ := hi
  have h2 := hi t h
  have e : (i * (r * t)) % pN = (t * (r * i)) % pN := by congr 1; grind
  rw [Int.mul_emod, h, Int.mul_emod t, h2, Int.mul_one, Int.mul_one, Int.emod_emod, Int.emod_emod, Int.emod_eq_of_lt i0 i1, Int.emod_eq_of_lt h0 h1] at e
  exact e
theorem sqF_eq (r : Int) : sqF r = (r * r * r + 7) % pP := by unfold sqF; congr 1; omega
def betaF (r : Int) : Int := powm ((r * r * r + 7) % pP) ((pP + 1) / 4) pP
theorem beta0 (r : Int) : 0 ≤ betaF r := powm_nonneg _ _ _
theorem beta1 (r : Int) : betaF r < pP := powm_lt (by decide)
theorem yF_eq (r v : Int) : yF r v = if (v + 27) % 2 ≠ betaF r % 2 then betaF r else pP - betaF r := by
  unfold yF betaF
  have : r * r * r + 0 * r + 7 = r * r * r + 7 := by omega
  rw [this]
theorem lift_eq (x p : Int) : liftF x p = if betaF x * betaF x % pP ≠ (x * x * x + 7) % pP then none else some (x, if betaF x % 2 = p then betaF x else pP - betaF x) := rfl
theorem flip_sq (b : Int) : (pP - b) * (pP - b) % pP = b * b % pP := by
  have : (pP - b) * (pP - b) = b * b + pP * (pP - 2 * b) := by grind
  rw [this, Int.add_mul_emod_self_left]
theorem yF_sq (r v : Int) : yF r v * yF r v % pP = betaF r * betaF r % pP := by
  rw [yF_eq]
  split
  · rfl
  · exact flip_sq _
theorem lift_none_iff (x p : Int) : liftF x p = none ↔ betaF x * betaF x % pP ≠ (x * x * x + 7) % pP := by
  rw [lift_eq]
  split <;> simp_all
theorem lift_none_bad {x p v s : Int} (h : liftF x p = none) : BadTest x (yF x v) s := by
  have h1 := (lift_none_iff x p).mp h
  refine .inl ?_
  intro h2
  apply h1
  rw [sqF_eq] at h2
  have h3 : ((x * x * x + 7) % pP) % pP = yF x v * yF x v % pP := Int.emod_eq_emod_iff_emod_sub_eq_zero.mpr h2
  rw [Int.emod_emod, yF_sq] at h3
  exact h3.symm
theorem bad_pre {r v s a : Int} (h : BadTest r (yF r v) s) : RecPre r v s a := fun h' => absurd h h'
theorem bad_noQ {r v s a : Int} (h : BadTest r (yF r v) s) (q : Aff) : ¬RecQ r v s a q := fun h' => h'.1 h
theorem bad_r0 {v s : Int} : BadTest 0 (yF 0 v) s := .inr (.inl (by decide))
theorem bad_s0 {r v : Int} : BadTest r (yF r v) 0 := .inr (.inr (by decide))
theorem id_iff {p : Jac} : isIdF p = true ↔ isIdP p := by simp [isIdF, isIdP]
section
variable {R : Type} [CommRing R]
theorem root (F : Fld R) {y : R} (h : y ≠ 0) : (y * y) ^ ((pP + 1) / 4).toNat * (y * y) ^ ((pP + 1) / 4).toNat = y * y := by
  have e : (pNat - 1) + 2 = 2 * (((pP + 1) / 4).toNat + ((pP + 1) / 4).toNat) := by decide
  have h1 : y * y = y ^ 2 := (sq' y).symm
  rw [← Semiring.pow_add, h1, ← pow_mul', ← e, Semiring.pow_add, fermat F h]
  grind
theorem beta_root (F : Fld R) {a : Aff} (h : Pt1 F a) : betaF a.1 = a.2 ∨ betaF a.1 = pP - a.2 := by
  have h1 : ci (R := R) (betaF a.1) * ci (betaF a.1) = ci a.2 * ci a.2 := by
    unfold betaF
    rw [ci_powm F _ _ (by decide), ci_mod F]
    have : ci (R := R) (a.1 * a.1 * a.1 + 7) = ci a.2 * ci a.2 := by rw [h.on.eq, ci_add, ci_mul, ci_mul]; grind
    rw [this]
    exact root F (y_ne F h)
  have h2 : (ci (R := R) (betaF a.1) - ci a.2) * (ci (betaF a.1) + ci a.2) = 0 := by grind
  have p0 := pt_pos F h
  rcases nzd F h2 with h3 | h3
  · left
    exact ci_inj F (beta0 _) (beta1 _) h.y0 h.y1 (by grind)
  · right
    exact ci_inj F (beta0 _) (beta1 _) (by have := h.y1; omega) (by omega) (by rw [ci_flip F]; grind)
theorem yF_same (F : Fld R) {a : Aff} (h : Pt1 F a) {v : Int} (hv : v = a.2 % 2) : yF a.1 v = a.2 := by
  have p0 := pt_pos F h
  rw [yF_eq]
  have hp : pP % 2 = 1 := by decide
  rcases beta_root F h with e | e <;> rw [e]
  · rw [if_pos (by omega)]
  · rw [if_neg (by omega)]; omega
theorem yF_other (F : Fld R) {a : Aff} (h : Pt1 F a) {v : Int} (hv : v = 1 - a.2 % 2) : yF a.1 v = pP - a.2 := by
  have p0 := pt_pos F h
  rw [yF_eq]
  have hp : pP % 2 = 1 := by decide
  rcases beta_root F h with e | e <;> rw [e]
  · rw [if_neg (by omega)]
  · rw [if_pos (by omega)]
theorem lift_pt (F : Fld R) {x v : Int} (x0 : 0 ≤ x) (x1 : x < pP) (hv : v = 0 ∨ v = 1) (h : ∃ p a, liftF x p = some a) : liftF x v = some (x, yF x v) ∧ Pt1 F (x, yF x v) := by
  obtain ⟨p, a, h⟩ := h
  have h1 : betaF x * betaF x % pP = (x * x * x + 7) % pP := by
    rcases Classical.em (betaF x * betaF x % pP = (x * x * x + 7) % pP) with h2 | h2
    · exact h2
    · rw [(lift_none_iff x p).mpr h2] at h; cases h
  have on : Curve (R := R) (ci x) (ci (yF x v)) := by
    refine ⟨?_⟩
    rw [← ci_mul]
    have e1 : ci (R := R) (yF x v * yF x v) = ci (x * x * x + 7) := (ci_ext F).mpr (by rw [yF_sq, h1])
    rw [e1, ci_add, ci_mul, ci_mul]; grind
  have b0 : betaF x ≠ 0 := by
    intro e
    have h3 := no_cube F (ci (R := R) x)
    apply h3
    rw [← ci_mul, ← ci_mul, ← ci_add, F.ker]
    have : x * (x * x) + 7 = x * x * x + 7 := by grind
    rw [this, ← h1, e]; decide
  have c0 := beta0 x
  have c1 := beta1 x
  constructor
  · rw [lift_eq, if_neg (by rw [h1]; simp), yF_eq]
    congr 2
    rcases hv with rfl | rfl
    · by_cases hb : betaF x % 2 = 0
      · rw [if_pos hb, if_pos (by omega)]
      · rw [if_neg hb, if_neg (by omega)]
    · by_cases hb : betaF x % 2 = 1
      · rw [if_pos hb, if_pos (by omega)]
      · rw [if_neg hb, if_neg (by omega)]
  · refine ⟨x0, x1, ?_, ?_, on⟩
    · show 0 ≤ yF x v
      rw [yF_eq]; split <;> omega
    · show yF x v < pP
      rw [yF_eq]; split <;> omega
theorem g_pt (F : Fld R) : Pt1 F (gX, gY) := by
  refine ⟨by decide, by decide, by decide, by decide, ⟨?_⟩⟩
  show ci (R := R) gY * ci gY = ci gX * (ci gX * ci gX) + ci 7
  rw [← ci_mul, ← ci_mul, ← ci_mul, ← ci_add, ci_ext F]
  decide +kernel
theorem on_some (F : Fld R) {a : Aff} (h : Pt1 F a) : OnC F (some a) := by intro b hb; cases hb; exact h
theorem jr_emb (F : Fld R) {x y : Int} : Jr (R := R) (x, y, 1) (some (x, y)) := by
  refine ⟨by rw [ci_one, ← ci_one]; exact ci_ne F (by decide), ?_, ?_⟩ <;> (simp only [ci_one]; grind)
theorem due_eq (F : Fld R) {t r v s a y : Int} (hy : Pt1 F (r, y)) (hl : liftF r v = some (r, y)) : dueF t r v s a = nm t.toNat (lsF (nm s.toNat (some (r, y))) (nm a.toNat (some (gX, gY)))) ∧ OnC F (lsF (nm s.toNat (some (r, y))) (nm a.toNat (some (gX, gY)))) := by
  have o1 := nm_on F (on_some F hy) s.toNat
  have o2 := nm_on F (on_some F (g_pt F)) a.toNat
  constructor
  · unfold dueF
    rw [hl, lt_nm F _ _ _ (none_on F) (on_some F hy), lt_nm F _ _ _ (none_on F) (on_some F (g_pt F)), ls_none_l, ls_none_l, lt_nm F _ _ _ (none_on F) (ls_on F o1 o2), ls_none_l]
  · exact ls_on F o1 o2
theorem sum_jr (F : Fld R) {r y s a : Int} (hy : Pt1 F (r, y)) : Jr (R := R) (sumF r y s a) (lsF (nm a.toNat (some (gX, gY))) (nm s.toNat (some (r, y)))) :=
  ja_r F (nm_on F (on_some F (g_pt F)) _) (nm_on F (on_some F hy) _) (jm_r F (on_some F (g_pt F)) (jr_emb F) _) (jm_r F (on_some F hy) (jr_emb F) _)
theorem aff_eq (F : Fld R) {p : Jac} {d q : Aff} (hd : Pt1 F d) (hj : Jr (R := R) p (some d)) (hq : IsAffOf p q) : q = d := by
  obtain ⟨z, hz, e⟩ := hq
  obtain ⟨hz0, hx, hy⟩ := hj
  have h1 : ci (R := R) p.2.2 * ci z = 1 := by
    have h2 := inv_p F hz0
    have h3 := hz.2.2 (powm p.2.2 (pP - 2) pP) (by
      rw [← ci_mul, ← ci_one, ci_ext F] at h2
      exact h2)
    rw [← ci_mul, ← ci_one, ci_ext F]
    exact h3
  subst e
  refine Prod.ext ?_ ?_
  · refine ci_inj F (mod_nn _) (mod_lt' _) hd.x0 hd.x1 ?_
    rw [ci_mod F, ci_mul, ci_pow, hx]; grind
  · refine ci_inj F (mod_nn _) (mod_lt' _) hd.y0 hd.y1 ?_
    rw [ci_mod F, ci_mul, ci_pow, hy]; grind
theorem jr_id (F : Fld R) {p : Jac} {o : Option Aff} (ho : OnC F o) (h : Jr (R := R) p o) : isIdF p = true ↔ o = none := by
  cases o with
  | none => exact ⟨fun _ => rfl, fun _ => id_iff.mpr h⟩
  | some a =>
    refine ⟨fun k => ?_, fun k => nomatch k⟩
    exact absurd (id_y (id_iff.mp k)) (jr_y F (ho a rfl) h)
end
/-- recovering at the law's points -/
theorem rec_main {t r v s a : Int} (t0 : 1 ≤ t) (t1 : t ≤ 560) (hr : r = powm t (pN - 2) pN) (hv : v = 0 ∨ v = 1) (hl : ∃ p b, liftF r p = some b) (s0 : 1 ≤ s) (s1 : s ≤ 1000) :
    RecPre r v s a ∧ (dueF t r v s a = none → ∀ q, ¬RecQ r v s a q) ∧ (∀ d, dueF t r v s a = some d → ¬RecE r v s a ∧ ∀ q, RecQ r v s a q → q = d) := by
  obtain ⟨R, i, F⟩ := the_field
  have hN := t_inv t0 t1
  rw [← hr] at hN
  have r0 : 0 ≤ r := by rw [hr]; exact powm_nonneg _ _ _
  have r1 : r < pN := by rw [hr]; exact powm_lt (by decide)
  have tN : t < pN := by simp only [pN]; omega
  have hr1 : r < pP := by simp only [pN] at r1; simp only [pP]; omega
  obtain ⟨l1, l2⟩ := lift_pt F r0 hr1 hv hl
  obtain ⟨d1, d2⟩ := due_eq F (t := t) (s := s) (a := a) l2 l1
  have j1 := sum_jr F (s := s) (a := a) l2
  rw [ls_comm F (nm_on F (on_some F (g_pt F)) _) (nm_on F (on_some F l2) _)] at j1
  have j2 : ∀ i, IsInv r pN i → Jr (R := R) (jmF (sumF r (yF r v) s a) i.toNat) (dueF t r v s a) := by
    intro i hi
    have := inv_uniq hN (by omega) tN hi
    subst this
    rw [d1]
    exact jm_r F d2 j1 _
  have od : OnC F (dueF t r v s a) := by rw [d1]; exact nm_on F d2 _
  have nb : ¬BadTest r (yF r v) s := by
    rintro (h | h | h)
    · apply h
      have h3 : ((r * r * r + 7) % pP) % pP = yF r v * yF r v % pP := by
        rw [Int.emod_emod, yF_sq]
        obtain ⟨p, b, hb⟩ := hl
        rcases Classical.em (betaF r * betaF r % pP = (r * r * r + 7) % pP) with h2 | h2
        · exact h2.symm
        · rw [(lift_none_iff r p).mpr h2] at hb; cases hb
      rw [sqF_eq]
      exact Int.emod_eq_emod_iff_emod_sub_eq_zero.mp h3
    · rw [Int.mul_emod, h, Int.zero_mul] at hN
      exact absurd hN (by decide)
    · rw [Int.emod_eq_of_lt (by omega) (by simp only [pN]; omega)] at h
      omega
  refine ⟨fun _ i hi => ?_, ?_, ?_⟩
  · have := inv_uniq hN (by omega) tN hi
    left; omega
  · rintro hd q ⟨_, i, hi, hf, _⟩
    have := (jr_id F od (j2 i hi)).mpr hd
    rw [this] at hf; cases hf
  · intro d hd
    constructor
    · rintro (h | ⟨i, hi, hf⟩)
      · exact nb h
      · have := (jr_id F od (j2 i hi)).mp hf
        rw [hd] at this; cases this
    · rintro q ⟨_, i, hi, _, hq⟩
      have j3 := j2 i hi
      rw [hd] at j3
      exact aff_eq F (od d hd) j3 hq
/-- the base's first multiples -/
def gs : Nat → Jac
  | 0 => (0, 0, 1)
  | n + 1 => jaF (gs n) (gX, gY, 1)
def chk : Nat → Jac → Bool
  | 0, _ => true
  | n + 1, p => !decide (p.2.1 = 0) && chk n (jaF p (gX, gY, 1))
theorem chk_gs : ∀ (n k m : Nat), chk n (gs k) = true → k ≤ m → m < k + n → (gs m).2.1 ≠ 0 := by
  intro n
  induction n with
  | zero => intro k m _ h1 h2; omega
  | succ n ih =>
    intro k m h h1 h2
    simp only [chk, Bool.and_eq_true, Bool.not_eq_true', decide_eq_false_iff_not] at h
    rcases Nat.eq_or_lt_of_le h1 with e | e
    · rw [← e]; exact h.1
    · exact ih (k + 1) m h.2 e (by omega)
theorem chk60 : chk 60 (gs 1) = true := by decide +kernel
theorem g_some {m : Int} (h0 : 1 ≤ m) (h1 : m ≤ 60) : ∃ d, ltF none (some (gX, gY)) m.toNat = some d := by
  obtain ⟨R, i, F⟩ := the_field
  have oG := on_some F (g_pt F)
  have hj : ∀ n, Jr (R := R) (gs n) (nm n (some (gX, gY))) := by
    intro n
    induction n with
    | zero => exact .inr rfl
    | succ n ih => exact ja_r F (nm_on F oG n) oG ih (jr_emb F)
  have h2 := chk_gs 60 1 m.toNat chk60 (by omega) (by omega)
  rw [lt_nm F _ _ _ (none_on F) oG, ls_none_l]
  have h3 := hj m.toNat
  generalize nm m.toNat (some (gX, gY)) = o at h3
  cases o with
  | none => exact absurd (id_y h3) h2
  | some d => exact ⟨d, rfl⟩
/-- the opposite of a small multiple of the base -/
theorem rec_last {m s av : Int} {d : Aff} (h0 : 1 ≤ m) (h1 : m ≤ 60) (s0 : 1 ≤ s) (s1 : s ≤ 1000) (hd : ltF none (some (gX, gY)) m.toNat = some d) (ha : av = s * m) :
    RecPre d.1 (1 - d.2 % 2) s av ∧ ∀ q, ¬RecQ d.1 (1 - d.2 % 2) s av q := by
  obtain ⟨R, i, F⟩ := the_field
  have oG := on_some F (g_pt F)
  rw [lt_nm F _ _ _ (none_on F) oG, ls_none_l] at hd
  have od : OnC F (some d) := by rw [← hd]; exact nm_on F oG _
  have pd := od d rfl
  have hn : some (d.1, pP - d.2) = ng (some d) := rfl
  have pn := ng_pt F pd
  have j := sum_jr F (s := s) (a := av) pn
  have e : lsF (nm av.toNat (some (gX, gY))) (nm s.toNat (some (d.1, pP - d.2))) = none := by
    have e1 : av.toNat = s.toNat * m.toNat := by rw [ha, Int.toNat_mul (by omega) (by omega)]
    rw [hn, nm_ng F od, ← hd, ← nm_mul F oG, e1]
    exact ls_opp F (nm_on F oG _)
  rw [e] at j
  have hy := yF_other F pd (v := 1 - d.2 % 2) rfl
  unfold RecPre RecQ
  rw [hy]
  refine ⟨fun _ i _ => .inr (id_y j), ?_⟩
  rintro q ⟨_, i, _, hf, _⟩
  have j2 := jm_r F (none_on F) j i.toNat
  rw [nm_none] at j2
  rw [(jr_id F (none_on F) j2).mpr rfl] at hf
  cases hf
theorem last_av {s m : Int} (s0 : 1 ≤ s) (s1 : s ≤ 1000) (h0 : 1 ≤ m) (h1 : m ≤ 1000) : (pN - (-s * m) % pN) % pN = s * m ∧ 0 ≤ s * m ∧ s * m < 1048576 := by
  have h2 : 0 ≤ s * m := Int.mul_nonneg (by omega) (by omega)
  have h3 : s * m ≤ 1000 * 1000 := Int.mul_le_mul s1 h1 (by omega) (by omega)
  have h4 : 0 < s * m := Int.mul_pos (by omega) (by omega)
  refine ⟨?_, h2, by omega⟩
  have h5 : -s * m = -(s * m) := Int.neg_mul _ _
  rw [h5]
  generalize s * m = k at *
  simp only [pN] at *
  omega
theorem first_av {a : Int} (a0 : 0 ≤ a) (a1 : a < 1000) : (pN - (pN - a) % pN) % pN = a := by
  simp only [pN]; omega
theorem due_small {t r v s a : Int} (t0 : 1 ≤ t) (t1 : t ≤ 560) (hr : r = powm t (pN - 2) pN) (hv : v = 0 ∨ v = 1) (hl : ∃ p b, liftF r p = some b) {d : Aff} (h : dueF t r v s a = some d) :
    decF (if d.2 % 2 = 0 then 2 else 3) d.1 = d.2 := by
  obtain ⟨R, i, F⟩ := the_field
  have r0 : 0 ≤ r := by rw [hr]; exact powm_nonneg _ _ _
  have r1 : r < pN := by rw [hr]; exact powm_lt (by decide)
  have hr1 : r < pP := by simp only [pN] at r1; simp only [pP]; omega
  obtain ⟨l1, l2⟩ := lift_pt F r0 hr1 hv hl
  obtain ⟨d1, d2⟩ := due_eq F (t := t) (s := s) (a := a) l2 l1
  have od : OnC F (dueF t r v s a) := by rw [d1]; exact nm_on F d2 _
  have pd := od d h
  have p0 := pt_pos F pd
  have p1 := pd.y1
  have hb := beta_root F pd
  have hp : pP % 2 = 1 := by decide
  have e : powm ((d.1 ^ 3 + 0 * d.1 + 7) % pP) ((pP + 1) / 4) pP = betaF d.1 := by
    unfold betaF
    have : d.1 ^ 3 + 0 * d.1 + 7 = d.1 * d.1 * d.1 + 7 := by grind
    rw [this]
  unfold decF
  rw [e]
  dsimp only
  have hneg : ∀ b : Int, 0 < b → b < pP → -b % pP = pP - b := by
    intro b b0 b1
    simp only [pP] at *
    omega
  rcases hb with hb | hb <;> rw [hb]
  · by_cases h2 : d.2 % 2 = 0
    · rw [if_pos h2, if_neg]; rintro (⟨_, k⟩ | ⟨k, _⟩); omega; exact absurd k (by decide)
    · rw [if_neg h2, if_neg]; rintro (⟨k, _⟩ | ⟨_, k⟩); exact absurd k (by decide); omega
  · by_cases h2 : d.2 % 2 = 0
    · rw [if_pos h2, if_pos (.inl ⟨rfl, by omega⟩), hneg _ (by omega) (by omega)]; omega
    · rw [if_neg h2, if_pos (.inr ⟨rfl, by omega⟩), hneg _ (by omega) (by omega)]; omega
end Mine
end
section
open PySem PySem.W PySem.Spec PySem.Calls PyProof.Rows
set_option Elab.async false
set_option maxRecDepth 100000
set_option maxHeartbeats 1000000
namespace Mine
local macro_rules | `(tactic| bits_by_make) => `(tactic| first | with_reducible assumption | exact bits_P | exact bits_N | exact bits_gX | exact bits_gY | ((with_reducible apply PySem.intBits_pow_le); bits_by_make))
local macro_rules | `(tactic| walk_at "binaryOp Mod int int") => `(tactic| (k_here; (with_reducible refine mod_h ?ka ?kb ?_); (case ka => decide); (case kb => (first | exact Nat.le_trans bits_P (by decide) | exact Nat.le_trans bits_N (by decide) | (exact Nat.le_trans (PySem.intBits_le_64 (by decide) (by decide)) (by decide)))); intro v' t' tk' hv' hb'; (try dsimp only)))
local macro_rules | `(tactic| walk_at "binaryOp Pow int int") => `(tactic| (k_here; (with_reducible first | refine' pow_h2 ?kc ?kd ?_ | refine' pow_h3 ?kc ?kd ?_ | refine' pow_h4 ?kc ?kd ?_); (case kc => bits_by_make); (case kd => decide); intro t' tk'; (try dsimp only)))
local macro_rules | `(tactic| walk_at "binaryOp Mult int int") => `(tactic| (k_here; (with_reducible refine mul_h ?kc ?_); (case kc => mul_fits); intro t' tk'; (try dsimp only)))
local macro_rules | `(tactic| walk_at "binaryOp Add int int") => `(tactic| (k_here; (with_reducible refine add_h ?_); intro t' tk'; (try dsimp only)))
local macro_rules | `(tactic| walk_at "binaryOp Sub int int") => `(tactic| (k_here; (with_reducible refine sub_h ?_); intro t' tk'; (try dsimp only)))
local macro_rules | `(tactic| walk_at "binaryOp Mod int int") => `(tactic| (k_here; (with_reducible show wpAny _ _ (binaryOp Operator.Mod (Value.int _ _) (Value.int 2 _)) _ _ _); (with_reducible refine mod_2 ?_); intro v' t' tk' hv' hb' hb2'; (try dsimp only)))
local macro_rules | `(tactic| walk_at "binaryOp FloorDiv int int") => `(tactic| (k_here; (with_reducible show wpAny _ _ (binaryOp Operator.FloorDiv (Value.int _ _) (Value.int 2 _)) _ _ _); (with_reducible refine half_s ?ka ?_); (case ka => omega); intro v' t' tk' hv' hb' hb2' hb3'; (try dsimp only)))
local macro_rules | `(tactic| k_mem) => `(tactic| assumption)
local macro_rules | `(tactic| walk_at "call builtin:pow") => `(tactic| (k_here; (with_reducible refine' call_pow3_h ?_ ?_ ?_ ?_); (first | decide | decide +kernel | omega); (first | decide | decide +kernel | omega); (first | exact bits_P | exact bits_N); intro v' t' tk' hv' hb'; (try dsimp only)))
local macro_rules | `(tactic| walk_at "call builtin:pow") => `(tactic| (k_here; (with_reducible refine' call_pow3_P ?_ ?_); (first | decide | decide +kernel | omega); intro v' t' tk' hv' hb' hs'; (try dsimp only)))
local macro_rules | `(tactic| walk_at "binaryOp Mod int int") => `(tactic| (k_here; (with_reducible refine mod_hP ?_); intro v' t' tk' hv' hb' hs'; (try dsimp only)))
local macro_rules | `(tactic| walk_at "call ref") => `(tactic| (k_here; (with_reducible show wpAny _ _ (call (Value.ref 157) [Value.int _ _]) _ _ _); k_dflt (refine goes_use (by k_asm) (by k_asm) (by k_asm) (by k_asm) (by k_asm) (by first | exact rfl | assumption) (c_octets2 _ _ _ (by with_reducible assumption)) (by ktr_room) (by ktr_units) ?_; k_whole; intro t' h' tk' F' N'; (try dsimp only); (try k_fold))))
local macro_rules | `(tactic| walk_at "subscriptTail") => `(tactic| (k_here; (with_reducible show wpAny _ _ (subscriptTail _ _ (Value.ref _) (Value.int 0 _)) _ _ _); k_dflt (refine pt_item0 (by with_reducible assumption) (by k_asm) (by k_asm) (by k_asm) (by intro q hq; (repeat (first | exact hq | apply List.mem_append_right | apply List.mem_cons_of_mem))) ?_); intro t'; (try dsimp only)))
local macro_rules | `(tactic| walk_at "subscriptTail") => `(tactic| (k_here; (with_reducible show wpAny _ _ (subscriptTail _ _ (Value.ref _) (Value.int 1 _)) _ _ _); k_dflt (refine pt_item1 (by with_reducible assumption) (by k_asm) (by k_asm) (by k_asm) (by intro q hq; (repeat (first | exact hq | apply List.mem_append_right | apply List.mem_cons_of_mem))) ?_); intro t'; (try dsimp only)))
local macro_rules | `(tactic| walk_at "binaryOp Add bytes bytes") => `(tactic| (k_here; (with_reducible refine KBy.add_bytes ?_ ?_); (first | exact add_size2 _ _ | exact add_size1 _ _); intro t' k'; (try dsimp only)))
/-- pow to the order -/
theorem call_pow3_N {prog : Program} {w : World} {A : Around} {E : Value → Shared → Prop} {s : Shared} {a n : Int} {t u v : Tok} {Q : Value → Shared → Prop} (hn : 0 ≤ n) (h : ∀ (x : Int) (t' tk' : Nat), Hid (x = powm a n 115792089237316195423570985008687907852837564279074904382605163141518161494337) → Small x → Q (.int x t') { s with toks := tk' }) :
    wpAny (model prog w) A (call (.builtin "pow") [.int a t, .int n u, .int 115792089237316195423570985008687907852837564279074904382605163141518161494337 v]) Q E s :=
  call_pow3_h hn (by decide) bits_N fun x t' tk' hx hb => h x t' tk' hx (by
    rw [hx.out]
    have h1 := powm_nonneg a n 115792089237316195423570985008687907852837564279074904382605163141518161494337
    have h2 := powm_lt (a := a) (n := n) (m := 115792089237316195423570985008687907852837564279074904382605163141518161494337) (by decide)
    exact ⟨h1, by simp only [pP]; omega⟩)
theorem c_keyP {w : World} {loose mean mg mb} (p : Addr) (x y : Int) (news : List (Addr × Obj)) (hp : PtAt news p x y) (x0 : Small x) (y0 : Small y) :
    GoesX w loose mean mg mb 164 2 news [.ref p] (BackY news (octF x ++ octF y)) := by
  unfold GoesX
  k_fill
  intro dp un gd cn cs a0 ccd cl outer A₀ base h₀ L m s Q E B F X N T hk hdp hu hret
  refine wpAny_call ?_
  k_dflt ktr_enter
  k_steps
  all_goals exact backY hret (by k_asm) (by k_asm) (by intro q hq; (repeat (first | exact hq | apply List.mem_cons_of_mem))) rfl
/-- none, or a tuple -/
theorem optAt_cases {news : List (Addr × Obj)} {v : Value} {o : Option Aff} (h : OptAt news v o) : (v = .none ∧ o = none) ∨ ∃ D p, v = .ref D ∧ o = some p ∧ PtAt news D p.1 p.2 := by
  cases o with
  | none => exact .inl ⟨h, rfl⟩
  | some p =>
    obtain ⟨D, e, P⟩ := OptAt.pt (x := p.1) (y := p.2) h
    exact .inr ⟨D, p, e, rfl, P⟩
/-- the loop of the law: t goes up until a point has the first coordinate -/
theorem law_loop {prog : Program} {w : World} {A : Around} {E : Value → Shared → Prop} {s : Shared} {env : Env} {h₀ : Heap} {x : Str} {body : List Stmt} {Q : Flow → Shared → Prop} {r : Addr} {t₀ u₀ v₀ : Tok} {m₀ : Str → Option Value}
    {d0 d1 d2 bx rw c6 c5 c3 c2 c1 k1 k2 : Addr × Obj} {cR : Addr} {oR : Obj} {rv tv : Int} {tr tt : Tok}
    (hh : A.handled = none) (hr : IsRange s.heap r 0 60 1 t₀ u₀ v₀) (F : Fr h₀ env.locals s.heap m₀) (N : News h₀ env.locals s.heap [d0, d1, d2, bx, rw, c6, c5, (cR, oR), c3, c2, c1, k1, k2])
    (hR : oR.data = .cell (some (.int rv tr))) (hm1 : m₀ (Str.ofString "t") = some (.int tv tt)) (hm2 : m₀ (Str.ofString "point") = some .none) (hb : 1 ≤ tv ∧ tv ≤ 500)
    (turn : ∀ (oR : Obj) (rv : Int) (tr : Tok) (tv : Int) (tt : Tok) (k : Int) t (u : Str → Option Value) h tk own (pre : List Int), 1 ≤ tv → tv ≤ 560 → pre.length < 60 → oR.data = .cell (some (.int rv tr)) → OwnOff own ([(cR, oR), bx, rw, c6, c5, c3, c2, c1, k1, k2].map (·.1)) → (tv ≤ 500 + (pre.length : Int)) →
      Fr h₀ env.locals h (fun y => if y = x then some (.int k t) else kstB (fun z => if [Str.ofString "t", Str.ofString "point"].contains z then u z else m₀ z) [(Str.ofString "t", .int tv tt), (Str.ofString "point", .none)] y) → News h₀ env.locals h ((cR, oR) :: bx :: rw :: c6 :: c5 :: c3 :: c2 :: c1 :: k1 :: k2 :: own) →
      wpAny (model prog w) A (execs body env) (InvPostN h₀ env.locals (KstS (σ := Obj × Int × Tok) (fun c => [(cR, c.1), bx, rw, c6, c5, c3, c2, c1, k1, k2]) (fun c => [(Str.ofString "t", .int c.2.1 c.2.2), (Str.ofString "point", .none)]) (fun c => 1 ≤ c.2.1 ∧ ∃ rv tr, c.1.data = .cell (some (.int rv tr))) x [Str.ofString "t", Str.ofString "point"] m₀ (fun pre c => c.2.1 ≤ 500 + (pre.length : Int)) (pre ++ [k])) own ([(cR, oR), bx, rw, c6, c5, c3, c2, c1, k1, k2].map (·.1)) { s with heap := h, toks := tk } Q) E { s with heap := h, toks := tk })
    (done : ∀ (oR : Obj) (tv : Int) (tt : Tok) (u : Str → Option Value) h tk, Fr h₀ env.locals h (fun y => if y = x then u y else kstB (fun z => if [Str.ofString "t", Str.ofString "point"].contains z then u z else m₀ z) [(Str.ofString "t", .int tv tt), (Str.ofString "point", .none)] y) → News h₀ env.locals h [(cR, oR), bx, rw, c6, c5, c3, c2, c1, k1, k2] → Q .next { s with heap := h, toks := tk }) :
    wpAny (model prog w) A (pyIter (.ref r)) (fun it s₂ => LoopAtV prog w A h₀ env x body Q E it s₂) E s := by
  refine kst_range (n := 60) (σ := Obj × Int × Tok) (fun c => [(cR, c.1), bx, rw, c6, c5, c3, c2, c1, k1, k2]) (fun c => [(Str.ofString "t", .int c.2.1 c.2.2), (Str.ofString "point", .none)]) (fun c => 1 ≤ c.2.1 ∧ ∃ rv tr, c.1.data = .cell (some (.int rv tr))) [Str.ofString "t", Str.ofString "point"] (fun pre c => c.2.1 ≤ 500 + (pre.length : Int)) (oR, tv, tt) hh hr (by decide) (by decide) F ?_ ⟨hb.1, rv, tr, hR⟩ ?_ ?_ ?_ ?_
  · intro p hp
    refine N p ?_
    simp only [List.mem_cons, List.not_mem_nil, or_false] at hp ⊢
    rcases hp with h | h | h | h | h | h | h | h | h | h <;> simp [h]
  · intro p hp
    simp only [List.mem_cons, List.not_mem_nil, or_false] at hp
    rcases hp with rfl | rfl
    · exact hm1
    · exact hm2
  · simpa using hb.2
  · rintro ⟨oR, tv, tt⟩ pre k t u h tk own hk hlt hoff ⟨h1, rv, tr, h2⟩ hP F₁ N₁
    exact turn oR rv tr tv tt k t u h tk own pre h1 (by dsimp only at hP; omega) hlt h2 hoff hP F₁ N₁
  · rintro ⟨oR, tv, tt⟩ u h tk ⟨h1, rv, tr, h2⟩ hP F₁ N₁
    exact done oR tv tt u h tk F₁ N₁
theorem law_turn_end {h₀ : Heap} {L : Addr} {s₁ : Shared} {h' : Heap} {tk : Nat} {bx rw c6 c5 c3 c2 c1 k1 k2 : Addr × Obj} {cR : Addr} {oR oR' : Obj} {own : List (Addr × Obj)} {m₀ u : Str → Option Value} {v : Value} {tv tv' rv k : Int} {tt tt' tr : Tok} {pre : List Int}
    (F : Fr h₀ L h' (fun y => if y = Str.ofString "t" then some (.int tv' tt') else if y = Str.ofString "point" then some .none else if y = Str.ofString "turn" then some v else kstB (fun z => if [Str.ofString "t", Str.ofString "point"].contains z then u z else m₀ z) [(Str.ofString "t", .int tv tt), (Str.ofString "point", .none)] y))
    (N : News h₀ L h' ((cR, oR') :: bx :: rw :: c6 :: c5 :: c3 :: c2 :: c1 :: k1 :: k2 :: own)) (hR : oR'.data = .cell (some (.int rv tr))) (h1 : 1 ≤ tv') (h2 : tv' ≤ 500 + ((pre.length : Int) + 1)) :
    InvEndN h₀ L (KstS (σ := Obj × Int × Tok) (fun c => [(cR, c.1), bx, rw, c6, c5, c3, c2, c1, k1, k2]) (fun c => [(Str.ofString "t", .int c.2.1 c.2.2), (Str.ofString "point", .none)]) (fun c => 1 ≤ c.2.1 ∧ ∃ rv tr, c.1.data = .cell (some (.int rv tr))) (Str.ofString "turn") [Str.ofString "t", Str.ofString "point"] m₀ (fun pre c => c.2.1 ≤ 500 + (pre.length : Int)) (pre ++ [k])) own ([(cR, oR), bx, rw, c6, c5, c3, c2, c1, k1, k2].map (·.1)) s₁ { s₁ with heap := h', toks := tk } := by
  have e1 : Str.ofString "point" ≠ Str.ofString "t" := by decide
  refine kst_end (σ := Obj × Int × Tok) (oR', tv', tt') F N ?_ ?_ rfl ⟨h1, rv, tr, hR⟩ ?_ ?_ ?_
  · intro p hp
    rcases List.mem_cons.mp hp with rfl | hp
    · exact .head _
    · exact .tail _ (List.mem_append_left own hp)
  · intro p hp
    exact .tail _ (List.mem_append_right [bx, rw, c6, c5, c3, c2, c1, k1, k2] hp)
  · intro p hp
    simp only [List.mem_cons, List.not_mem_nil, or_false] at hp
    rcases hp with rfl | rfl
    · simp
    · simp [e1]
  · intro z hz h2 h3
    have q1 : z ≠ Str.ofString "t" := h2 _ (.head _)
    have q2 : z ≠ Str.ofString "point" := h2 _ (.tail _ (.head _))
    simp [q1, q2, hz, kstB]
  · simp only [List.length_append, List.length_cons, List.length_nil]
    omega
theorem mod_hN {prog : Program} {w : World} {A : Around} {E : Value → Shared → Prop} {s : Shared} {a : Int} {t u : Tok} {Q : Value → Shared → Prop} (h : ∀ (v : Int) (t' tk' : Nat), Hid (v = a % 115792089237316195423570985008687907852837564279074904382605163141518161494337) → Small v → Q (.int v t') { s with toks := tk' }) :
    wpAny (model prog w) A (binaryOp .Mod (.int a t) (.int 115792089237316195423570985008687907852837564279074904382605163141518161494337 u)) Q E s :=
  mod_s (by decide) fun v t' tk' hv h0 h1 => h v t' tk' hv ⟨h0, by simp only [pP]; omega⟩
theorem news_tail {h₀ h : Heap} {L : Addr} {tl l : List (Addr × Obj)} (N : News h₀ L h (tl ++ l)) : News h₀ L h l := fun p hp => N p (List.mem_append_right tl hp)
theorem news_cut {h₀ h : Heap} {L : Addr} {p1 p2 p3 p4 p5 p6 p7 p8 p9 p10 : Addr × Obj} {own : List (Addr × Obj)} (N : News h₀ L h (p1 :: p2 :: p3 :: p4 :: p5 :: p6 :: p7 :: p8 :: p9 :: p10 :: own)) : News h₀ L h [p1, p2, p3, p4, p5, p6, p7, p8, p9, p10] :=
  fun p hp => N p (show p ∈ [p1, p2, p3, p4, p5, p6, p7, p8, p9, p10] ++ own from List.mem_append_left own hp)
end Mine
end
section
open PySem PySem.W PySem.Spec PySem.Calls PyProof.Rows
set_option maxRecDepth 100000
namespace Mine
/-- recovering is refused at these -/
structure BadRow (zz v r sv : Int) : Prop where
  hz : Small zz
  hr : Small r
  s0 : 0 ≤ sv
  s1 : sv < 1048576
  hv : v = 0 ∨ v = 1
  ex : ∃ av, av = (pN - zz) % pN ∧ av < 1048576 ∧ RecPre r v sv av ∧ ∀ q, ¬RecQ r v sv av q
/-- recovering gives d at these -/
structure GoodRow (zz v r sv : Int) (d : Aff) : Prop where
  hz : Small zz
  hr : Small r
  s0 : 0 ≤ sv
  s1 : sv < 1048576
  hv : v = 0 ∨ v = 1
  ex : ∃ av, av = (pN - zz) % pN ∧ av < 1048576 ∧ RecPre r v sv av ∧ ¬RecE r v sv av ∧ ∀ q, RecQ r v sv av q → q = d
theorem c_recE {w : World} {loose mean mg mb} (zz v : Int) (D : Addr) (r sv : Int) (t0 t1 t2 t3 : Tok) (c : Nat) (news : List (Addr × Obj)) (hp : (D, tup3 v r sv t1 t2 t3 c) ∈ news) (hb : BadRow zz v r sv) :
    GoesE w loose mean mg mb 128 40 news [.bytes (octF zz) t0, .ref D] := by
  obtain ⟨av, h1, h2, h3, h4⟩ := hb.ex
  unfold GoesE
  intro dp un gd cn cs a0 ccd cl outer A₀ base h₀ L m s Q E B F X N T hk DD hdp hu hret
  rcases hb.hv with rfl | rfl
  · exact c_recV 0 (.inl rfl) zz D r sv t0 t1 t2 t3 c news hp hb.hz hb.hr hb.s0 hb.s1 av h1 h2 h3 dp un gd cn cs a0 ccd cl outer A₀ base h₀ L m s Q E B F N T hk DD hdp hu X (fun _ => hret) (fun q hq => absurd hq (h4 q))
  · exact c_recV 1 (.inr rfl) zz D r sv t0 t1 t2 t3 c news hp hb.hz hb.hr hb.s0 hb.s1 av h1 h2 h3 dp un gd cn cs a0 ccd cl outer A₀ base h₀ L m s Q E B F N T hk DD hdp hu X (fun _ => hret) (fun q hq => absurd hq (h4 q))
/-- the direct call -/
theorem c_told {w : World} {loose mean mg mb} (zz v : Int) (d : Aff) (D : Addr) (r sv : Int) (t0 t1 t2 t3 : Tok) (c : Nat) (news : List (Addr × Obj)) (hp : (D, tup3 v r sv t1 t2 t3 c) ∈ news) (hb : GoodRow zz v r sv d)
    {dp un : Nat} {gd : Option (List Code)} {cn : Str} {cs : Scope} {a : Addr} {ccd : Value} {cl : List (Str × Addr)} {outer : List Env} {A₀ : Around} {base h₀ : Heap} {L : Addr} {m : Str → Option Value} {s : Shared}
    {Q E : Value → Shared → Prop} (B : Below A₀ base outer h₀) (F : Fr h₀ L s.heap m) (X : (hd.heap_39 w.params).In h₀) (N : News h₀ L s.heap news) (T : Top topProg loose mean mg mb h₀) (hk : cs.kind = .function) (DD : KtsDicts (outer.filterMap (·.frame)) h₀)
    (hdp : dp + 40 < recursionLimit) (hu : un + 8 * 40 < cLine) (hret : BackY news (octF d.1 ++ octF d.2) h₀ L m s Q) :
    wpAny (model PySem.Challenge.rw_vj0008_01.row.prog w) (ktrTop dp un gd cn cs L a ccd cl outer) (call (.ref 128) [.bytes (octF zz) t0, .ref D]) Q E s := by
  obtain ⟨av, h1, h2, h3, h4, h5⟩ := hb.ex
  rcases hb.hv with rfl | rfl
  · exact c_recV 0 (.inl rfl) zz D r sv t0 t1 t2 t3 c news hp hb.hz hb.hr hb.s0 hb.s1 av h1 h2 h3 dp un gd cn cs a ccd cl outer A₀ base h₀ L m s Q E B F N T hk DD hdp hu X (fun he => absurd he h4) (fun q hq => by rw [h5 q hq]; exact hret)
  · exact c_recV 1 (.inr rfl) zz D r sv t0 t1 t2 t3 c news hp hb.hz hb.hr hb.s0 hb.s1 av h1 h2 h3 dp un gd cn cs a ccd cl outer A₀ base h₀ L m s Q E B F N T hk DD hdp hu X (fun he => absurd he h4) (fun q hq => by rw [h5 q hq]; exact hret)
theorem ktsD_of {env : Env} {outer : List Env} {h₀ g : Heap} {L : Addr} {m : Str → Option Value} (D : KtsDicts (outer.filterMap (·.frame)) h₀) (hf : env.frame = some L) (FG : Fr h₀ L g m) : KtsDicts ((env :: outer).filterMap (·.frame)) g := by
  intro b hb
  rcases kx_mem hf hb with rfl | hb
  · obtain ⟨oL, es, ep, hLg, hLd, _⟩ := FG.ns
    exact ⟨oL, es, ep, hLg, hLd⟩
  · obtain ⟨o, es', n', ho', hd'⟩ := D b hb
    exact ⟨o, es', n', FG.keep b o ho', hd'⟩
theorem kts_same {g g' : Heap} (T : KtsTurn [] g g') : ∀ b, g'.get? b = g.get? b := by
  intro b
  cases h : g.get? b with
  | none => exact T.none_ b h
  | some o => exact T.other b o h (fun h => nomatch h)
theorem bad_s0row {zz v r : Int} (hz : Small zz) (hr : Small r) (ha : (pN - zz) % pN < 1048576) (hv : v = 0 ∨ v = 1) : BadRow zz v r 0 :=
  ⟨hz, hr, by decide, by decide, hv, _, rfl, ha, bad_pre bad_s0, bad_noQ bad_s0⟩
theorem bad_r0row {zz v s : Int} (hz : Small zz) (s0 : 0 ≤ s) (s1 : s < 1048576) (ha : (pN - zz) % pN < 1048576) (hv : v = 0 ∨ v = 1) : BadRow zz v 0 s :=
  ⟨hz, small_zero, s0, s1, hv, _, rfl, ha, bad_pre bad_r0, bad_noQ bad_r0⟩
theorem bad_xrow {zz v x s p : Int} (hz : Small zz) (hx : Small x) (s0 : 0 ≤ s) (s1 : s < 1048576) (ha : (pN - zz) % pN < 1048576) (hv : v = 0 ∨ v = 1) (h : liftF x p = none) : BadRow zz v x s :=
  ⟨hz, hx, s0, s1, hv, _, rfl, ha, bad_pre (lift_none_bad h), bad_noQ (lift_none_bad h)⟩
theorem zz_of {zz a : Int} (h : Hid (zz = (115792089237316195423570985008687907852837564279074904382605163141518161494337 - a) % 115792089237316195423570985008687907852837564279074904382605163141518161494337)) (a0 : 0 ≤ a) (a1 : a < 1000) : (pN - zz) % pN = a := by
  rw [h.out]; exact first_av a0 a1
theorem zz_lt {zz a : Int} (h : Hid (zz = (115792089237316195423570985008687907852837564279074904382605163141518161494337 - a) % 115792089237316195423570985008687907852837564279074904382605163141518161494337)) (a0 : 0 ≤ a) (a1 : a < 1000) : (pN - zz) % pN < 1048576 := by
  rw [zz_of h a0 a1]; omega
/-- what the law knows once its point is found -/
structure LawAt (t r par zz a : Int) : Prop where
  t0 : 1 ≤ t
  t1 : t ≤ 560
  hr : r = powm t (pN - 2) pN
  hl : ∃ b, liftF r par = some b
  hz : Small zz
  hzz : (pN - zz) % pN = a
  a0 : 0 ≤ a
  a1 : a < 1000
theorem lawAt_mk {t r par zz a : Int} {b : Aff} (hr : Hid (r = powm t (115792089237316195423570985008687907852837564279074904382605163141518161494337 - 2) 115792089237316195423570985008687907852837564279074904382605163141518161494337)) (hl : Hid (liftF r par = some b))
    (hzz : Hid (zz = (115792089237316195423570985008687907852837564279074904382605163141518161494337 - a) % 115792089237316195423570985008687907852837564279074904382605163141518161494337)) (hz : Small zz) (t0 : 1 ≤ t) (t1 : t ≤ 560) (a0 : 0 ≤ a) (a1 : a < 1000) : LawAt t r par zz a :=
  ⟨t0, t1, hr.out, ⟨b, hl.out⟩, hz, zz_of hzz a0 a1, a0, a1⟩
theorem LawAt.small {t r par zz a : Int} (h : LawAt t r par zz a) : Small r := by
  rw [h.hr]
  have h1 := powm_nonneg t (pN - 2) pN
  have h2 := powm_lt (a := t) (n := pN - 2) (m := pN) (by decide)
  exact ⟨h1, by simp only [pN] at h2; simp only [pP, pN]; omega⟩
theorem LawAt.bad {t r par zz s a v : Int} (h : LawAt t r par zz a) (hd : Hid (dueF t r v s a = none)) (hv : v = 0 ∨ v = 1) (s0 : 1 ≤ s) (s1 : s ≤ 1000) : BadRow zz v r s := by
  obtain ⟨b, hb⟩ := h.hl
  obtain ⟨h1, h2, h3⟩ := rec_main (a := a) h.t0 h.t1 h.hr hv ⟨par, b, hb⟩ s0 s1
  exact ⟨h.hz, h.small, by omega, by omega, hv, a, h.hzz.symm, by have := h.a1; omega, h1, h2 hd.out⟩
theorem LawAt.good {t r par zz s a v : Int} {d : Aff} (h : LawAt t r par zz a) (hd : Hid (dueF t r v s a = some d)) (hv : v = 0 ∨ v = 1) (s0 : 1 ≤ s) (s1 : s ≤ 1000) : GoodRow zz v r s d := by
  obtain ⟨b, hb⟩ := h.hl
  obtain ⟨h1, h2, h3⟩ := rec_main (a := a) h.t0 h.t1 h.hr hv ⟨par, b, hb⟩ s0 s1
  exact ⟨h.hz, h.small, by omega, by omega, hv, a, h.hzz.symm, by have := h.a1; omega, h1, (h3 d hd.out).1, (h3 d hd.out).2⟩
theorem LawAt.dec {t r par zz s a v : Int} {d : Aff} (h : LawAt t r par zz a) (hd : Hid (dueF t r v s a = some d)) (hv : v = 0 ∨ v = 1) : decF (if d.2 % 2 = 0 then 2 else 3) d.1 = d.2 := by
  obtain ⟨b, hb⟩ := h.hl
  exact due_small h.t0 h.t1 h.hr hv ⟨par, b, hb⟩ hd.out
theorem LawAt.s0 {t r par zz a v : Int} (h : LawAt t r par zz a) (hv : v = 0 ∨ v = 1) : BadRow zz v r 0 :=
  bad_s0row h.hz h.small (by rw [h.hzz]; have := h.a1; omega) hv
/-- law_bad at the law's own frame -/
theorem c_bad0 {w : World} {loose mean mg mb} {lam : Addr} {oc : Value} {od : Option Addr} {fd : FuncData} {sl : Array (Option Value)} {news : List (Addr × Obj)}
    {dp un : Nat} {gd : Option (List Code)} {cn : Str} {cs : Scope} {a : Addr} {ccd : Value} {cl : List (Str × Addr)} {A₀ : Around} {base h₀ : Heap} {L : Addr} {m : Str → Option Value} {s : Shared}
    {Q E : Value → Shared → Prop} (B : Below A₀ base [] h₀) (F : Fr h₀ L s.heap m) (X : (hd.heap_39 w.params).In h₀) (N : News h₀ L s.heap news) (T : Top topProg loose mean mg mb h₀) (hk : cs.kind = .function)
    (XB : (hd.heap_39 w.params).In base) (TB : Top topProg loose mean mg mb base) (hlam : (lam, ⟨oc, od, .func fd, sl⟩) ∈ news) (hdp : dp + 52 < recursionLimit) (hu : un + 8 * 52 < cLine)
    (H : GoesE w loose mean mg mb lam 50 news [])
    (hret : ∀ (h' : Heap) (tk' : Nat), Fr h₀ L h' m → News h₀ L h' news → Q (.bool true) { s with heap := h', toks := tk' }) :
    wpAny (model PySem.Challenge.rw_vj0008_01.row.prog w) (ktrTop dp un gd cn cs L a ccd cl []) (call (.ref 178) [.ref lam]) Q E s :=
  c_bad lam oc od fd sl 50 (by decide) news hlam H dp un gd cn cs a ccd cl [] A₀ base h₀ L m s Q E B F X N T hk XB TB ktsDicts_nil hdp hu
    (fun h₀' h' tk' T' F' N' _ => by
      have e := kts_same T'
      refine hret h' tk' ⟨F'.ns, fun b o hb => F'.keep b o ((e b).trans hb), by rw [← T'.size]; exact F'.above⟩ (fun p hp => ⟨(N' p hp).1, (N' p hp).2.1, (e p.1).symm.trans (N' p hp).2.2⟩))
/-- where a raise goes on, found by its name -/
def HretE (h₀ : Heap) (L : Addr) (m : Str → Option Value) (cn : Str) (cs : Scope) (a : Addr) (ccd : Value) (cl : List (Str × Addr)) (outer : List Env) (base : Heap) (news : List (Addr × Obj)) (s : Shared) (E : Value → Shared → Prop) : Prop :=
  ∀ (e t : Addr) (vs : List Value) (g' h' : Heap) (tk' : Nat), Fr h₀ L g' m → g'.UpToSlots h' → RaisedS base g' (envX cn cs L a ccd cl :: outer) e (.ref 41) t vs news h' → E (.ref e) { s with heap := h', toks := tk' }
theorem PtAt.mono {news news' : List (Addr × Obj)} {D : Addr} {x y : Int} (h : PtAt news D x y) (hs : ∀ p ∈ news, p ∈ news') : PtAt news' D x y := by
  rcases h with ⟨tx, ty, c, hm⟩ | h
  · exact .inl ⟨tx, ty, c, hs _ hm⟩
  · exact .inr h
/-- one entry of the ledger that the point lies in (or another, where it is the base point) -/
theorem due_entry {h₀ h : Heap} {L : Addr} {tl news : List (Addr × Obj)} {D : Addr} {x y : Int} {o0 oi ot : Obj} {oc : Array UInt8} {tc tv ta : Tok} {vt at' : Int} {b0 it bt bb rw : Addr} {cb : Nat} {ps1 ps2 : Array Value}
    (P : PtAt (tl ++ news) D x y) (N : News h₀ L h (tl ++ news)) (hd0 : o0.data = .cell (some (.bytes oc tc))) (hic : oi.cls = .type "list_iterator") (htd : ot.data = .cell (some (.int vt tv)))
    (h0 : (b0, o0) ∈ news) (hi : (it, oi) ∈ news) (ht : (bt, ot) ∈ news) (hb : (bb, listOf #[.ref rw, .int at' ta] cb) ∈ news) (h1 : (192, tabObj ps1) ∈ news) (h2 : (187, tabObj ps2) ∈ news)
    (ni : @Ne Nat b0 it) (nt : @Ne Nat b0 bt) (nb : @Ne Nat b0 bb) (n1 : @Ne Nat b0 192) (n2 : @Ne Nat b0 187) :
    ∃ D0 O0, News h₀ L h ((D0, O0) :: news) ∧ PtAt ((D0, O0) :: news) D x y ∧ @Ne Nat D0 it ∧ @Ne Nat D0 bt ∧ @Ne Nat D0 bb ∧ @Ne Nat D0 192 ∧ @Ne Nat D0 187 := by
  have N0 := news_tail N
  rcases P with ⟨tx, ty, c, hm⟩ | h
  · have hD := N _ hm
    have ap : ∀ b o, (b, o) ∈ news → (o.cls ≠ .type "tuple" ∨ ∀ its n, o.data ≠ .seq its n) → @Ne Nat D b := by
      intro b o hbo hne e
      have e' : D = b := e
      have a1 := hD.1
      have a2 := (N0 _ hbo).1
      simp only [e'] at a1
      rw [a2] at a1
      have e2 := Option.some.inj a1
      subst e2
      rcases hne with k | k
      · exact k rfl
      · exact k _ _ rfl
    refine ⟨D, tup2 x y tx ty c, ?_, .inl ⟨tx, ty, c, .head _⟩, ?_, ?_, ?_, ?_, ?_⟩
    · intro p hp
      rcases List.mem_cons.mp hp with rfl | hp
      · exact hD
      · exact N0 p hp
    · exact ap _ _ hi (.inl (by rw [hic]; intro k; injection k with k; exact absurd k (by decide)))
    · exact ap _ _ ht (.inr (by rw [htd]; intro its n k; cases k))
    · exact ap _ _ hb (.inl (by intro k; have k : Value.type "list" = Value.type "tuple" := k; injection k with k; exact absurd k (by decide)))
    · exact ap _ _ h1 (by first | exact .inr (by intro its n k; cases k) | exact .inl (by intro k; cases k))
    · exact ap _ _ h2 (by first | exact .inr (by intro its n k; cases k) | exact .inl (by intro k; cases k))
  · refine ⟨b0, o0, ?_, .inr h, ni, nt, nb, n1, n2⟩
    intro p hp
    rcases List.mem_cons.mp hp with rfl | hp
    · exact N0 _ h0
    · exact N0 p hp
/-- the direct call, its tuple looked up last -/
theorem c_toldO {w : World} {loose mean mg mb} {zz v : Int} {d : Aff} {D : Addr} {r sv : Int} {t0 t1 t2 t3 : Tok} {c : Nat} {news : List (Addr × Obj)}
    {dp un : Nat} {gd : Option (List Code)} {cn : Str} {cs : Scope} {a : Addr} {ccd : Value} {cl : List (Str × Addr)} {A₀ : Around} {base h₀ : Heap} {L : Addr} {m : Str → Option Value} {s : Shared}
    {Q E : Value → Shared → Prop} (B : Below A₀ base [] h₀) (F : Fr h₀ L s.heap m) (X : (hd.heap_39 w.params).In h₀) (N : News h₀ L s.heap news) (T : Top topProg loose mean mg mb h₀) (hk : cs.kind = .function)
    (hp : (D, tup3 v r sv t1 t2 t3 c) ∈ news) (hb : GoodRow zz v r sv d) (hdp : dp + 40 < recursionLimit) (hu : un + 8 * 40 < cLine) (hret : BackY news (octF d.1 ++ octF d.2) h₀ L m s Q) :
    wpAny (model PySem.Challenge.rw_vj0008_01.row.prog w) (ktrTop dp un gd cn cs L a ccd cl []) (call (.ref 128) [.bytes (octF zz) t0, .ref D]) Q E s :=
  c_told zz v d D r sv t0 t1 t2 t3 c news hp hb B F X N T hk ktsDicts_nil hdp hu hret
/-- the mark of a parity -/
def mark (y : Int) : UInt8 := if y % 2 = 0 then 2 else 3
theorem mark_or (y : Int) : mark y = 2 ∨ mark y = 3 := by unfold mark; split <;> simp
theorem comp_eq (x y : Int) : compF x y = #[mark y] ++ octF x := by unfold compF mark; split <;> rfl
theorem mark_v {v y : Int} (hv : v = y % 2) : (2 + v).toNat.toUInt8 = mark y := by
  have h : y % 2 = 0 ∨ y % 2 = 1 := by omega
  unfold mark
  rcases h with h | h <;> rw [hv, h]
  · rfl
  · rfl
theorem c_compress2 {w : World} {loose mean mg mb} (x y : Int) (t : Tok) (news : List (Addr × Obj)) (x0 : Small x) (y0 : Small y) :
    GoesX w loose mean mg mb 114 4 news [.bytes (octF x ++ octF y) t] (BackY news (#[mark y] ++ octF x)) := by
  rw [← comp_eq]; exact c_compress x y t news x0 y0
theorem c_decompress2 {w : World} {loose mean mg mb} (x y : Int) (t : Tok) (news : List (Addr × Obj)) (x0 : Small x) (h : Hid (decF (if y % 2 = 0 then 2 else 3) x = y)) :
    GoesX w loose mean mg mb 121 4 news [.bytes (#[mark y] ++ octF x) t] (BackY news (octF x ++ octF y)) := by
  have e : decF (mark y) x = y := h.out
  have := c_decompress (w := w) (loose := loose) (mean := mean) (mg := mg) (mb := mb) (mark y) (mark_or y) x t news x0
  rw [e] at this
  exact this
section
variable {prog : Program} {w : World} {A : Around} {E : Value → Shared → Prop} {s : Shared} {t u : Tok} {Q : Value → Shared → Prop}
theorem add_mark {v x y : Int} (hv : v = y % 2) (h : ∀ (t' tk' : Nat), Q (.bytes (#[mark y] ++ octF x) t') { s with toks := tk' }) :
    wpAny (model prog w) A (binaryOp .Add (.bytes #[(2 + v).toNat.toUInt8] t) (.bytes (octF x) u)) Q E s := by
  rw [mark_v hv]
  refine KBy.add_bytes (add_size1 _ _) ?_
  intro t' k'
  exact h t' k'
theorem ne_same {b : Array UInt8} (h : Q (.bool false) s) : wpAny (model prog w) A (compareOp .NotEq (.bytes b t) (.bytes b u)) Q E s := by
  refine ne_bytes ?_
  simpa using h
end
end Mine
end
section
open PySem PySem.W PySem.Spec PySem.Calls PyProof.Rows
set_option maxRecDepth 100000
namespace Mine
theorem mk_env {name qual : Str} {params : Arguments} {body : PySem.Expr} {scope : Scope} {env env' : Env} {pos : Pos} {fl : Nat} {clos : List (Str × Addr)} (h1 : closureFor scope env = pure clos) (h2 : closureFor scope env' = pure clos) (h3 : env.globals = env'.globals) (h4 : env.code = env'.code) (h5 : env.scope.kind = env'.scope.kind) (h6 : env.builtins = env'.builtins) :
    makeFunction name qual params (.expr body) scope env [] [] [] pos fl = makeFunction name qual params (.expr body) scope env' [] [] [] pos fl := by
  rw [makeFunction_eq, makeFunction_eq]
  simp only [List.zip_nil_right, List.filterMap_nil, List.isEmpty_nil, if_true, pure_bind]
  unfold makeTail functionCode codeAt
  rw [h1, h2, h3, h4, h5, h6]
section
variable {prog : Program} {w : World} {A₀ A : Around} {s : Shared} {base h₀ : Heap} {outer : List Env} {L : Addr} {m : Str → Option Value} {env : Env} {news : List (Addr × Obj)} {K : Frag} {p : Program} {loose : List Str} {mean : ExcName → Option Value} {mg mb : Str → Option Value}
variable {R : Result → Shared → Prop} {name qual : Str} {params : Arguments} {body : List Stmt} {scope : Scope} {dV kV doc pm cdv ct oc : Value} {an od : Option Addr} {osl : Array (Option Value)} {f : Addr} {args : Args} {binds : List (Str × Value)}
/-- enter a def with cells whose body catches -/
theorem code_defCT (B : Below A₀ base outer h₀) (F : Fr h₀ L s.heap m) (X₀ : K.In h₀) (N : News h₀ L s.heap news) (T : Top p loose mean mg mb h₀) (D : KtsDicts (outer.filterMap (·.frame)) h₀) (hA : A.frames = some (env :: outer)) (hf : env.frame = some L) (hke : env.scope.kind = .function)
    (ho : K.lookup f = some ⟨oc, od, .func (fnOf name qual params body scope dV kV doc pm an cdv ct), osl⟩) (hcd : codeIn K cdv qual = true) (hroom : A.depth < recursionLimit)
    (hbind : BindsTo s (fnOf name qual params body scope dV kV doc pm an cdv ct) args binds) (hkind : (binds.all fun y => scope.names.lookup y.1 == some .local || scope.names.lookup y.1 == some .cell) = true)
    (hnd : ((cellsFrom 0 scope.names []).map (·.1)).Nodup)
    (h : ∀ g L' h₁ tk cells, Fr h₀ L g m → Fr g L' h₁ (bindL (envOfC qual scope L' f cdv).kindOf binds fun _ => none) → News g L' h₁ (cells ++ news) →
      CellsAre (bindC (envOfC qual scope L' f cdv).kindOf binds fun _ => none) (cellsFrom (L' + 1) scope.names []) cells → Below A base (env :: outer) g → K.In g → Top p loose mean mg mb g → (∀ p ∈ news, p.1 < L') → KtsDicts ((env :: outer).filterMap (·.frame)) g →
      wpAny (model prog w) (A.deeper (envOfC qual scope L' f cdv)) (execs body (envOfC qual scope L' f cdv))
        (fun fl s' => LeaveT A₀ base outer ((env :: outer).filterMap (·.frame)) h₀ L m g (fun v s' => R (.ok (.ret v)) s') (match fl with | .ret v => v | _ => .none) s')
        (fun e s' => wpAny (model prog w) (A.deeper (envOfC qual scope L' f cdv)) (leaving (envOfC qual scope L' f cdv) e) (fun _ s'' => R (.error e) s'') (fun e' s'' => R (.error e') s'') s')
        { s with heap := h₁, toks := tk })
    (hco : scope.isCoroutine = false) (hgen : scope.isGenerator = false) (hk : scope.kind = .function) : codeAny (model prog w) A (.call (.ref f) args) R s := by
  have X := X₀.keeps F.keep
  obtain ⟨FG, BG, st, DG, lv⟩ := groundT (R := fun v s' => R (.ok (.ret v)) s') B F N hA hf hke D
  refine codeAny_call_function (fd := fnOf name qual params body scope dV kV doc pm an cdv ct) hroom (X _ _ ho) rfl hco hgen rfl (codeRec_of X hcd) (hbind _ _ _ _ ?_)
  refine wpAny_newFunctionEnv_cells hk (kindsX hkind _) fun env' he s' x => ?_
  subst he
  have hlim := (T.nolimit).keeps F.keep
  refine ⟨hlim.keeps x.toInCall.keep, codeAny_func ?_⟩
  obtain ⟨h₁, tk, rfl, _⟩ := x.done
  have hk₁ := x.toInCall.keep
  obtain ⟨cells, NC, Y⟩ := Cl.news (h₀ := s.heap) (Nat.le_refl _) fun n c hm => ⟨x.cell n c (lookup_of_mem_nodup (cellsFrom_names scope.names 0 (s.heap.objs.size + 1) [] [] rfl ▸ hnd) hm), x.above n c hm⟩
  have Nall : News (hideAll s.heap (news.map (·.1))) s.heap.objs.size h₁ (cells ++ news) := by
    intro p hp
    rcases List.mem_append.mp hp with hp | hp
    · refine ⟨(NC p hp).1, (NC p hp).2.1, ?_⟩
      cases q : (hideAll s.heap (news.map (·.1))).get? p.1 with
      | none => rfl
      | some o =>
        have := of_hideAll _ q
        rw [(NC p hp).2.2] at this
        cases this
    · exact ⟨hk₁ _ _ (N p hp).1, Nat.ne_of_lt (Heap.lt_size (N p hp).1), hideAll_none _ (List.mem_map_of_mem hp)⟩
  have Fnew : Fr (hideAll s.heap (news.map (·.1))) s.heap.objs.size h₁ (bindL (envOfC qual scope s.heap.objs.size f cdv).kindOf binds fun _ => none) :=
    ⟨x.toInCall.ns, fun b o e => hk₁ b o (of_hideAll _ e), Nat.le_of_eq (hideAll_size _ _)⟩
  exact wpAny_mono (h _ s.heap.objs.size h₁ tk cells FG Fnew Nall Y BG (X₀.keeps st) (T.keeps st) (fun p hp => Heap.lt_size (N p hp).1) DG) (fun fl s' hl => lv _ _ hl) fun _ _ y => y
end
end Mine
end
section
open PySem PySem.W PySem.Spec PySem.Calls PyProof.Rows
set_option maxRecDepth 100000
namespace Mine
theorem small_lt {x : Int} (h0 : 0 ≤ x) (h1 : x < 1048576) : Small x := ⟨h0, by simp only [pP]; omega⟩
/-- after the search for a first coordinate -/
def NoneQ (s : Shared) (h₀ : Heap) (L : Addr) (m₀ : Str → Option Value) (led : List (Addr × Obj)) (f : Flow) (s' : Shared) : Prop :=
  f = .next ∧ ∃ (xv : Int) (tx : Tok) (u : Str → Option Value) (h : Heap) (tk : Nat), s' = { s with heap := h, toks := tk } ∧ 1 ≤ xv ∧ xv ≤ 1100 ∧
    Fr h₀ L h (fun y => if y = Str.ofString "turn" then u y else kstB (fun z => if [Str.ofString "x"].contains z then u z else m₀ z) [(Str.ofString "x", .int xv tx)] y) ∧ News h₀ L h led
theorem noneQ_brk {s : Shared} {h₀ : Heap} {L : Addr} {m₀ u : Str → Option Value} {led own : List (Addr × Obj)} {xv : Int} {tx : Tok} {v : Value} {h : Heap} {tk : Nat}
    (F : Fr h₀ L h (fun y => if y = Str.ofString "turn" then some v else kstB (fun z => if [Str.ofString "x"].contains z then u z else m₀ z) [(Str.ofString "x", .int xv tx)] y)) (N : News h₀ L h (led ++ own)) (h1 : 1 ≤ xv) (h2 : xv ≤ 1100) :
    NoneQ s h₀ L m₀ led .next { s with heap := h, toks := tk } := by
  refine ⟨rfl, xv, tx, fun y => if y = Str.ofString "turn" then some v else u y, h, tk, rfl, h1, h2, ?_, fun p hp => N p (List.mem_append_left _ hp)⟩
  have e : (fun y => if y = Str.ofString "turn" then (fun y => if y = Str.ofString "turn" then some v else u y) y else kstB (fun z => if [Str.ofString "x"].contains z then (fun y => if y = Str.ofString "turn" then some v else u y) z else m₀ z) [(Str.ofString "x", .int xv tx)] y) =
      (fun y => if y = Str.ofString "turn" then some v else kstB (fun z => if [Str.ofString "x"].contains z then u z else m₀ z) [(Str.ofString "x", .int xv tx)] y) := by
    funext y
    by_cases hy : y = Str.ofString "turn"
    · simp [hy]
    · simp [hy, kstB]
  rw [e]
  exact F
theorem none_loop {prog : Program} {w : World} {A : Around} {E : Value → Shared → Prop} {s : Shared} {env : Env} {h₀ : Heap} {body : List Stmt} {Q : Flow → Shared → Prop} {r : Addr} {t₀ u₀ v₀ : Tok} {m₀ : Str → Option Value} {led : List (Addr × Obj)} {xv : Int} {tx : Tok}
    (hh : A.handled = none) (hr : IsRange s.heap r 0 60 1 t₀ u₀ v₀) (F : Fr h₀ env.locals s.heap m₀) (N : News h₀ env.locals s.heap led) (hm : m₀ (Str.ofString "x") = some (.int xv tx)) (hb : 1 ≤ xv ∧ xv ≤ 1000)
    (turn : ∀ (xv : Int) (tx : Tok) (k : Int) t (u : Str → Option Value) h tk own (pre : List Int), 1 ≤ xv → xv ≤ 1060 → pre.length < 60 → OwnOff own (led.map (·.1)) → xv ≤ 1000 + (pre.length : Int) →
      Fr h₀ env.locals h (fun y => if y = Str.ofString "turn" then some (.int k t) else kstB (fun z => if [Str.ofString "x"].contains z then u z else m₀ z) [(Str.ofString "x", .int xv tx)] y) → News h₀ env.locals h (led ++ own) →
      wpAny (model prog w) A (execs body env) (InvPostN h₀ env.locals (KstS (σ := Int × Tok) (fun _ => led) (fun c => [(Str.ofString "x", .int c.1 c.2)]) (fun c => 1 ≤ c.1) (Str.ofString "turn") [Str.ofString "x"] m₀ (fun pre c => c.1 ≤ 1000 + (pre.length : Int)) (pre ++ [k])) own (led.map (·.1)) { s with heap := h, toks := tk } (NoneQ s h₀ env.locals m₀ led)) E { s with heap := h, toks := tk })
    (rest : ∀ (xv : Int) (tx : Tok) (u : Str → Option Value) h tk, 1 ≤ xv → xv ≤ 1100 → Fr h₀ env.locals h (fun y => if y = Str.ofString "turn" then u y else kstB (fun z => if [Str.ofString "x"].contains z then u z else m₀ z) [(Str.ofString "x", .int xv tx)] y) → News h₀ env.locals h led → Q .next { s with heap := h, toks := tk }) :
    wpAny (model prog w) A (pyIter (.ref r)) (fun it s₂ => LoopAtV prog w A h₀ env (Str.ofString "turn") body Q E it s₂) E s := by
  refine kst_range (n := 60) (σ := Int × Tok) (fun _ => led) (fun c => [(Str.ofString "x", .int c.1 c.2)]) (fun c => 1 ≤ c.1) [Str.ofString "x"] (fun pre c => c.1 ≤ 1000 + (pre.length : Int)) (xv, tx) hh hr (by decide) (by decide) F N hb.1 ?_ ?_ ?_ ?_
  · intro p hp
    simp only [List.mem_cons, List.not_mem_nil, or_false] at hp
    rcases hp with rfl
    exact hm
  · simpa using hb.2
  · rintro ⟨xv, tx⟩ pre k t u h tk own hk hlt hoff h1 hP F₁ N₁
    refine wpAny_mono (turn xv tx k t u h tk own pre h1 (by dsimp only at hP; omega) hlt hoff hP F₁ N₁) (fun f s' hq => ?_) fun _ _ e => e
    have key : ∀ s', NoneQ s h₀ env.locals m₀ led .next s' → Q .next s' := by
      rintro s' ⟨_, xv, tx, u, h, tk, rfl, h1, h2, F', N'⟩
      exact rest xv tx u h tk h1 h2 F' N'
    cases f with
    | next => exact hq
    | cont => exact hq
    | brk => exact key _ hq
    | ret v => exact absurd hq.1 (by intro k; cases k)
  · rintro ⟨xv, tx⟩ u h tk h1 hP F₁ N₁
    refine rest xv tx u h tk h1 ?_ F₁ N₁
    dsimp only at hP
    simp only [rangeKs_length] at hP
    omega
theorem none_turn_end {h₀ : Heap} {L : Addr} {s₁ : Shared} {h' : Heap} {tk : Nat} {led own : List (Addr × Obj)} {m₀ u : Str → Option Value} {v : Value} {xv xv' k : Int} {tx tx' : Tok} {pre : List Int}
    (F : Fr h₀ L h' (fun y => if y = Str.ofString "x" then some (.int xv' tx') else if y = Str.ofString "turn" then some v else kstB (fun z => if [Str.ofString "x"].contains z then u z else m₀ z) [(Str.ofString "x", .int xv tx)] y))
    (N : News h₀ L h' (led ++ own)) (h1 : 1 ≤ xv') (h2 : xv' ≤ 1000 + ((pre.length : Int) + 1)) :
    InvEndN h₀ L (KstS (σ := Int × Tok) (fun _ => led) (fun c => [(Str.ofString "x", .int c.1 c.2)]) (fun c => 1 ≤ c.1) (Str.ofString "turn") [Str.ofString "x"] m₀ (fun pre c => c.1 ≤ 1000 + (pre.length : Int)) (pre ++ [k])) own (led.map (·.1)) s₁ { s₁ with heap := h', toks := tk } := by
  refine kst_end (σ := Int × Tok) (xv', tx') F N (fun p hp => List.mem_append_left _ hp) (fun p hp => List.mem_append_right _ hp) rfl h1 ?_ ?_ ?_
  · intro p hp
    simp only [List.mem_cons, List.not_mem_nil, or_false] at hp
    rcases hp with rfl
    simp
  · intro z hz h2 h3
    have q1 : z ≠ Str.ofString "x" := h2 _ (.head _)
    simp [q1, hz, kstB]
  · simp only [List.length_append, List.length_cons, List.length_nil]
    omega
end Mine
end
section
open PySem PySem.W PySem.Spec PySem.Calls PyProof.Rows
set_option maxRecDepth 100000
namespace Mine
section
variable {M : Model} {A : Around} {E : Value → Shared → Prop} {s : Shared}
/-- a comprehension's frame with one cell -/
theorem newEnv_one {scope : Scope} {env : Env} {cl : List (Str × Addr)} {x : Str} {qual : Str} {Q : Env → Shared → Prop}
    (h1 : ∀ n, cellsFrom n scope.names cl = (x, n) :: cl) (h2 : ∀ h : Heap, pushCells h scope.names = h.push { cls := .type "cell", data := .cell none })
    (hQ : Q { scope := scope, locals := s.heap.objs.size, globals := env.globals, cells := (x, s.heap.objs.size + 1) :: cl, qual := qual, func := none, code := env.code, frame := env.frame, builtins := env.builtins }
      { s with heap := (s.heap.push { cls := .type "dict", data := .dict #[] }).push { cls := .type "cell", data := .cell none } }) :
    wpAny M A (newFunctionEnv scope env.globals cl [] qual none .none (some env)) Q E s := by
  simp only [newFunctionEnv, Option.isSome_some, if_true]
  refine wpAny_bind (wpAny_alloc ?_)
  refine wpAny_bind (wpAny_layCells _ (fun name kind cells => by cases hkc : kind == NameKind.cell <;> simp [hkc]) _ _ _ _ ?_)
  rw [show ({ s with heap := s.heap.push { cls := .type "dict", data := .dict #[] } } : Shared).heap.objs.size = s.heap.objs.size + 1 from Heap.size_push .., h1, h2]
  refine wpAny_bind ?_
  rw [List.forIn_nil]
  exact wpAny_pure (wpAny_pure hQ)
end
section
variable {prog : Program} {w : World} {A : Around} {E : Value → Shared → Prop} {s : Shared} {env : Env} {L : Addr} {m : Str → Option Value}
/-- the comprehension's environment -/
def cEnv (scope : Scope) (env : Env) (cl : List (Str × Addr)) (x : Str) (C : Addr) : Env :=
  { scope := relabel scope env, locals := C, globals := env.globals, cells := (x, C + 1) :: cl, qual := env.qual, func := none, code := env.code, frame := env.frame, builtins := env.builtins }
/-- what one element leaves -/
def RowPost (L : Addr) (m : Str → Option Value) (s : Shared) (I D C : Addr) (ok oC oD oI : Obj) (Inv : Heap → List (Addr × Obj) → Prop) (y : Value) (s' : Shared) : Prop :=
  y = .bool true ∧ ∃ (h₀' : Heap) (news' : List (Addr × Obj)) (h' : Heap) (tk' : Nat), s' = { s with heap := h', toks := tk' } ∧ Inv h₀' news' ∧ (∀ p ∈ news', p.1 ≠ I ∧ p.1 ≠ D ∧ p.1 ≠ C ∧ p.1 ≠ C + 1) ∧
      Fr h₀' L h' m ∧ News h₀' L h' ((C + 1, ok) :: (C, oC) :: (D, oD) :: (I, oI) :: news')
/-- one element's evaluation: it gives True, and the base may turn -/
def RowStep (prog : Program) (w : World) (A : Around) (L : Addr) (m : Str → Option Value) (s : Shared) (elt : PySem.Expr) (cenv : Env) (its : Array Value) (I D C : Addr) (Inv : Nat → Heap → List (Addr × Obj) → Prop) : Prop :=
  ∀ (i : Nat) (v : Value) (h₀ : Heap) (news : List (Addr × Obj)) (h : Heap) (tk : Nat) (oI oD oC ok : Obj) (E' : Value → Shared → Prop), its[i]? = some v → Inv i h₀ news → (∀ p ∈ news, p.1 ≠ I ∧ p.1 ≠ D ∧ p.1 ≠ C ∧ p.1 ≠ C + 1) →
    Fr h₀ L h m → News h₀ L h ((C + 1, ok) :: (C, oC) :: (D, oD) :: (I, oI) :: news) → ok.data = .cell (some v) → (∃ es ep, oC.data = .dict es ep) → oD.cls = .type "list" → oI.cls = .type "list_iterator" →
    wpAny (model prog w) A (eval elt cenv) (RowPost L m s I D C ok oC oD oI (Inv (i + 1))) E' { s with heap := h, toks := tk }
theorem but_news {h₀ h h' : Heap} {b : Addr} {l : List (Addr × Obj)} (N : News h₀ L h l) (hs : ∀ a o, a ≠ b → h.get? a = some o → h'.get? a = some o) (hb : ∀ p ∈ l, p.1 ≠ b) : News h₀ L h' l :=
  fun p hp => ⟨hs _ _ (hb p hp) (N p hp).1, (N p hp).2⟩
theorem but_fr {h₀ h h' : Heap} {b : Addr} (F : Fr h₀ L h m) (hs : ∀ a o, a ≠ b → h.get? a = some o → h'.get? a = some o) (hL : L ≠ b) (hb : h₀.get? b = none) : Fr h₀ L h' m :=
  ⟨F.ns.at' fun o e => hs _ _ hL e, fun a o e => hs _ _ (fun q => by rw [q, hb] at e; cases e) (F.keep a o e), F.above⟩
theorem rows_loop {elt iter : PySem.Expr} {x : Str} {px : Pos} {scope : Scope} {pos : Pos} {cl : List (Str × Addr)} {its : Array Value} {l I D C : Addr} {Inv : Nat → Heap → List (Addr × Obj) → Prop} {R : Result → Shared → Prop} {nl : Nat} {h₀ : Heap} {news : List (Addr × Obj)} {oC : Obj}
    (hh : A.handled = none) (hkind : scope.kind = .function) (hx : (relabel scope env).names.lookup x = some .cell) (hID : I ≠ D) (hIC : I ≠ C) (hIk : I ≠ C + 1) (hDC : D ≠ C) (hDk : D ≠ C + 1)
    (hl : ∀ i h₀ news, Inv i h₀ news → (l, listOf its nl) ∈ news) (hsz : its.size ≤ 100) (hCd : ∃ es ep, oC.data = .dict es ep) (hCn : ∀ h : Heap, h.get? C = some oC → ∃ m, h.Ns C m)
    (step : RowStep prog w A L m s elt (cEnv scope env cl x C) its I D C Inv)
    (hInv : Inv 0 h₀ news) (off : ∀ p ∈ news, p.1 ≠ I ∧ p.1 ≠ D ∧ p.1 ≠ C ∧ p.1 ≠ C + 1) (F : Fr h₀ L s.heap m) {oI oD ok : Obj} (N : News h₀ L s.heap ((C + 1, ok) :: (C, oC) :: (D, oD) :: (I, oI) :: news))
    (hk0 : ok.data = .cell none) (hD0 : oD.cls = .type "list" ∧ ∃ n, oD.data = .seq #[] n) (hI0 : oI.cls = .type "list_iterator" ∧ oI.data = .fields #[.ref l, .int 0 0])
    (fin : ∀ (h₀ : Heap) (news : List (Addr × Obj)) (h : Heap) (tk : Nat), Inv its.size h₀ news → Fr h₀ L h m → News h₀ L h news → (∀ p ∈ news, p.1 ≠ C) → L ≠ C → h₀.get? C = none → D ≠ C → h₀.get? D = none → D ≠ L → h.IsList D (Array.replicate its.size (.bool true)) → (∃ m, h.Ns C m) → R (.ok .next) { s with heap := h, toks := tk }) :
    codeAny (model prog w) A (.compLoop (.ListComp elt [⟨.Name x px, iter, [], 0⟩] scope pos) 0 (.ref I) (.ref D) (cEnv scope env cl x C)) R s := by
  refine codeAny_compLoop_tests (fun k s' => ∃ (h₀ : Heap) (news : List (Addr × Obj)) (h : Heap) (tk i : Nat) (oI oD ok : Obj) (vk : Option Value), s' = { s with heap := h, toks := tk } ∧ i ≤ its.size ∧ k = its.size + 1 - i ∧ Inv i h₀ news ∧
      (∀ p ∈ news, p.1 ≠ I ∧ p.1 ≠ D ∧ p.1 ≠ C ∧ p.1 ≠ C + 1) ∧ Fr h₀ L h m ∧ News h₀ L h ((C + 1, ok) :: (C, oC) :: (D, oD) :: (I, oI) :: news) ∧ ok.data = .cell vk ∧
      (oD.cls = .type "list" ∧ ∃ n, oD.data = .seq (Array.replicate i (.bool true)) n) ∧ (oI.cls = .type "list_iterator" ∧ oI.data = .fields #[.ref l, .int i 0])) ?_ (its.size + 1)
    ⟨h₀, news, s.heap, s.toks, 0, oI, oD, ok, none, rfl, Nat.zero_le _, rfl, hInv, off, F, N, hk0, hD0, hI0⟩
  rintro k s' ⟨h₀, news, h, tk, i, oI, oD, ok, vk, rfl, hi, rfl, hInv, off, F, N, hk0, hD0, hI0⟩
  have NI := N (I, oI) (by simp)
  have ND := N (D, oD) (by simp)
  have NC := N (C, oC) (by simp)
  have Nk := N (C + 1, ok) (by simp)
  have Nl := N (l, listOf its nl) (by simp [hl _ _ _ hInv])
  have hlI : l ≠ I := (off _ (hl _ _ _ hInv)).1
  have hit : h.IsListIter I l i := ⟨oI, NI.1, hI0.1, hI0.2⟩
  have hls : h.IsList l its := ⟨_, Nl.1, rfl, _, rfl⟩
  have Nn : News h₀ L h news := fun p hp => N p (by simp [hp])
  by_cases hlt : i < its.size
  · refine wpAny_pyNext_list_item hit hls (x := its[i]) (by simp [hlt]) fun h₁ hit₁ hs₁ => ?_
    obtain ⟨oI₁, eI₁, cI₁, dI₁⟩ := hit₁
    have F₁ : Fr h₀ L h₁ m := but_fr F (fun a o ha e => hs₁.extBut a o ha e) (Ne.symm NI.2.1) NI.2.2
    have N₁ : News h₀ L h₁ ((C + 1, ok) :: (C, oC) :: (D, oD) :: (I, oI₁) :: news) := by
      intro p hp
      simp only [List.mem_cons] at hp
      rcases hp with rfl | rfl | rfl | rfl | hp
      · exact ⟨hs₁.extBut _ _ (Ne.symm hIk) Nk.1, Nk.2⟩
      · exact ⟨hs₁.extBut _ _ (Ne.symm hIC) NC.1, NC.2⟩
      · exact ⟨hs₁.extBut _ _ (Ne.symm hID) ND.1, ND.2⟩
      · exact ⟨eI₁, NI.2⟩
      · exact ⟨hs₁.extBut _ _ (off p hp).1 (Nn p hp).1, (Nn p hp).2⟩
    have Nk₁ := N₁ (C + 1, ok) (by simp)
    refine wpAny_assign_Name (wpAny_storeName_cell (c := C + 1) (v₀ := vk) (by simp [cEnv, relabel, hkind]) hx (by simp [cEnv]) ⟨ok, Nk₁.1, hk0⟩ fun h₂ hc₂ hs₂ => ?_)
    obtain ⟨ok₂, ek₂, dk₂⟩ := hc₂
    have F₂ : Fr h₀ L h₂ m := but_fr F₁ (fun a o ha e => hs₂.extBut a o ha e) (Ne.symm Nk.2.1) Nk.2.2
    have N₂ : News h₀ L h₂ ((C + 1, ok₂) :: (C, oC) :: (D, oD) :: (I, oI₁) :: news) := by
      intro p hp
      simp only [List.mem_cons] at hp
      rcases hp with rfl | rfl | rfl | rfl | hp
      · exact ⟨ek₂, Nk.2⟩
      · exact ⟨hs₂.extBut _ _ (Nat.ne_of_lt (Nat.lt_succ_self C)) (N₁ _ (by simp)).1, NC.2⟩
      · exact ⟨hs₂.extBut _ _ hDk (N₁ _ (by simp)).1, ND.2⟩
      · exact ⟨hs₂.extBut _ _ hIk (N₁ _ (by simp)).1, NI.2⟩
      · exact ⟨hs₂.extBut _ _ (off p hp).2.2.2 (N₁ p (by simp [hp])).1, (Nn p hp).2⟩
    refine wpAny_tests_nil ?_
    simp only [if_true]
    refine wpAny_mono (step i its[i] h₀ news h₂ _ oI₁ oD oC ok₂ _ (by simp [hlt]) hInv off F₂ N₂ dk₂ hCd hD0.1 cI₁) (fun y s₄ hy => ?_) fun _ _ e => e
    obtain ⟨rfl, h₀', news', h₄, tk₄, rfl, hInv', off', F₄, N₄⟩ := hy
    obtain ⟨hDc, nD, hDd⟩ := hD0
    have ND₄ := N₄ (D, oD) (by simp)
    refine wpAny_list_append (items := Array.replicate i (.bool true)) ⟨oD, ND₄.1, hDc, nD, hDd⟩ (fun h₅ hl₅ hs₅ => ?_) (by simp only [Array.size_replicate]; rw [sizeLine_eq]; omega)
    obtain ⟨oD₅, eD₅, cD₅, n₅, dD₅⟩ := hl₅
    refine ⟨its.size + 1 - (i + 1), by omega, h₀', news', h₅, tk₄, i + 1, oI₁, oD₅, ok₂, some its[i], rfl, hlt, rfl, hInv', off', but_fr F₄ (fun a o ha e => hs₅.extBut a o ha e) (Ne.symm ND₄.2.1) ND₄.2.2, ?_, dk₂, ⟨cD₅, n₅, ?_⟩, cI₁, dI₁⟩
    · intro p hp
      simp only [List.mem_cons] at hp
      rcases hp with rfl | rfl | rfl | rfl | hp
      · exact ⟨hs₅.extBut _ _ (Ne.symm hDk) (N₄ _ (by simp)).1, (N₄ (C + 1, ok₂) (by simp)).2⟩
      · exact ⟨hs₅.extBut _ _ (Ne.symm hDC) (N₄ _ (by simp)).1, (N₄ (C, oC) (by simp)).2⟩
      · exact ⟨eD₅, ND₄.2⟩
      · exact ⟨hs₅.extBut _ _ hID (N₄ _ (by simp)).1, (N₄ (I, oI₁) (by simp)).2⟩
      · exact ⟨hs₅.extBut _ _ (off' p hp).2.1 (N₄ p (by simp [hp])).1, (N₄ p (by simp [hp])).2⟩
    · rw [dD₅, Array.replicate_succ]
  · have hin : i = its.size := by omega
    subst hin
    refine wpAny_pyNext_list_end hh hit hls (by simp) fun h₁ hs₁ => ?_
    obtain ⟨hDc, nD, hDd⟩ := hD0
    refine fin h₀ news h₁ _ hInv (but_fr F (fun a o ha e => hs₁ a o ha e) (Ne.symm NI.2.1) NI.2.2) (fun p hp => ⟨hs₁ _ _ (off p hp).1 (Nn p hp).1, (Nn p hp).2⟩) (fun p hp => (off p hp).2.2.1) (Ne.symm NC.2.1) NC.2.2 hDC ND.2.2 ND.2.1
      ⟨oD, hs₁ _ _ (Ne.symm hID) ND.1, hDc, nD, hDd⟩ (hCn h₁ (hs₁ _ _ (Ne.symm hIC) NC.1))
end
section
variable {prog : Program} {w : World} {A : Around} {E : Value → Shared → Prop} {s : Shared} {env : Env} {L : Addr} {m : Str → Option Value}
theorem ns_empty {h : Heap} {a : Addr} (e : h.get? a = some { cls := .type "dict", data := .dict #[] }) : h.Ns a (fun _ => none) := by
  refine ⟨_, #[], 0, e, rfl, ?_, ?_⟩
  · intro e he; simp at he
  · intro name; simp [nsFind, findBy]
/-- the list of a comprehension with one cell -/
theorem rows_comp {elt iter : PySem.Expr} {x : Str} {px : Pos} {scope : Scope} {pos : Pos} {cl : List (Str × Addr)} {Q : Value → Shared → Prop}
    (hclos : closureFor scope env = pure cl) (hkind : scope.kind = .function) (hnames : ∀ y ∈ scope.names, y.2 = .local → scope.names.lookup y.1 = some .local) (hx : (relabel scope env).names.lookup x = some .cell)
    (hc1 : ∀ n, cellsFrom n scope.names cl = (x, n) :: cl) (hc2 : ∀ h : Heap, pushCells h scope.names = h.push { cls := .type "cell", data := .cell none })
    (hs : ∀ x, foldedSetIterable iter env x = pure x)
    (h : wpAny (model prog w) A (eval iter env) (fun xv s₁ => ∃ (l : Addr) (its : Array Value) (nl : Nat) (h₀ : Heap) (news : List (Addr × Obj)) (Inv : Nat → Heap → List (Addr × Obj) → Prop), xv = .ref l ∧ A.handled = none ∧ Fr h₀ L s₁.heap m ∧ News h₀ L s₁.heap news ∧ Inv 0 h₀ news ∧
      (∀ i h₀ news, Inv i h₀ news → (l, listOf its nl) ∈ news) ∧ its.size ≤ 100 ∧ (∀ (s₁ : Shared) (I D C : Addr), (∀ p ∈ news, p.1 < I) → RowStep prog w A L m s₁ elt (cEnv scope env cl x C) its I D C Inv) ∧
      (∀ (h₀ : Heap) (news : List (Addr × Obj)) (h : Heap) (tk : Nat) (D : Addr), Inv its.size h₀ news → Fr h₀ L h m → News h₀ L h news → h.IsList D (Array.replicate its.size (.bool true)) → Q (.ref D) { s₁ with heap := h, toks := tk })) E s) :
    wpAny (model prog w) A (eval (.ListComp elt [⟨.Name x px, iter, [], 0⟩] scope pos) env) Q E s := by
  rw [eval_ListComp]
  refine wpAny_comprehension_free (use := none) rfl hs hclos hkind hnames (wpAny_mono h (fun xv s₁ h₁ => ?_) fun _ _ e => e)
  obtain ⟨l, its, nl, h₀, news, Inv, rfl, hh, F, N, hInv, hl, hsz, step, fin⟩ := h₁
  have Nl := N _ (hl _ _ _ hInv)
  have hls : s₁.heap.IsList l its := ⟨_, Nl.1, rfl, _, rfl⟩
  refine wpAny_pyIter_list hls ?_
  refine wpAny_newObj_type ?_
  refine newEnv_one hc1 hc2 ?_
  dsimp only
  generalize hH1 : s₁.heap.push { cls := .type "list_iterator", data := .fields #[.ref l, .int 0 0] } = H1
  generalize hH2 : H1.push { cls := .type "list", dict := none, data := .seq ([] : List Value).toArray } = H2
  generalize hH3 : H2.push { cls := .type "dict", data := .dict #[] } = H3
  generalize hH4 : H3.push { cls := .type "cell", data := .cell none } = H4
  have z1 : H1.objs.size = s₁.heap.objs.size + 1 := by rw [← hH1, Heap.size_push]
  have z2 : H2.objs.size = s₁.heap.objs.size + 2 := by rw [← hH2, Heap.size_push, z1]
  have z3 : H3.objs.size = s₁.heap.objs.size + 3 := by rw [← hH3, Heap.size_push, z2]
  have up1 : ∀ b o, s₁.heap.get? b = some o → H1.get? b = some o := fun b o e => hH1 ▸ Heap.get?_push_of_some _ e
  have up2 : ∀ b o, H1.get? b = some o → H2.get? b = some o := fun b o e => hH2 ▸ Heap.get?_push_of_some _ e
  have up3 : ∀ b o, H2.get? b = some o → H3.get? b = some o := fun b o e => hH3 ▸ Heap.get?_push_of_some _ e
  have up4 : ∀ b o, H3.get? b = some o → H4.get? b = some o := fun b o e => hH4 ▸ Heap.get?_push_of_some _ e
  have up : ∀ b o, s₁.heap.get? b = some o → H4.get? b = some o := fun b o e => up4 _ _ (up3 _ _ (up2 _ _ (up1 _ _ e)))
  have eI : H4.get? s₁.heap.objs.size = some { cls := .type "list_iterator", data := .fields #[.ref l, .int 0 0] } := up4 _ _ (up3 _ _ (up2 _ _ (hH1 ▸ Heap.get?_push_size _ rfl)))
  have eD : H4.get? H1.objs.size = some { cls := .type "list", dict := none, data := .seq ([] : List Value).toArray } := up4 _ _ (up3 _ _ (hH2 ▸ Heap.get?_push_size _ rfl))
  have eC : H4.get? H2.objs.size = some { cls := .type "dict", data := .dict #[] } := up4 _ _ (hH3 ▸ Heap.get?_push_size _ rfl)
  have ek : H4.get? (H2.objs.size + 1) = some { cls := .type "cell", data := .cell none } := by
    have : H2.objs.size + 1 = H3.objs.size := by rw [z3, z2]
    rw [this]
    exact hH4 ▸ Heap.get?_push_size _ rfl
  have hLs : L < s₁.heap.objs.size := F.ns.lt
  have fresh : ∀ b, s₁.heap.objs.size ≤ b → h₀.get? b = none := fun b hb => Heap.get?_none_of_le (Nat.le_trans F.above (Nat.le_trans (Nat.le_of_lt hLs) hb))
  have old : ∀ p ∈ news, p.1 < s₁.heap.objs.size := fun p hp => Heap.lt_size (N p hp).1
  have F4 : Fr h₀ L H4 m := ⟨F.ns.at' fun o e => up _ _ e, fun b o e => up _ _ (F.keep b o e), F.above⟩
  have N4 : News h₀ L H4 ((H2.objs.size + 1, { cls := .type "cell", data := .cell none }) :: (H2.objs.size, { cls := .type "dict", data := .dict #[] }) :: (H1.objs.size, { cls := .type "list", dict := none, data := .seq ([] : List Value).toArray }) ::
      (s₁.heap.objs.size, { cls := .type "list_iterator", data := .fields #[.ref l, .int 0 0] }) :: news) := by
    intro p hp
    simp only [List.mem_cons] at hp
    rcases hp with rfl | rfl | rfl | rfl | hp
    · exact ⟨ek, Nat.ne_of_gt (show L < H2.objs.size + 1 by rw [z2]; exact Nat.lt_succ_of_lt (Nat.lt_succ_of_lt (Nat.lt_succ_of_lt hLs))), fresh _ (show s₁.heap.objs.size ≤ H2.objs.size + 1 by rw [z2]; omega)⟩
    · exact ⟨eC, Nat.ne_of_gt (show L < H2.objs.size by rw [z2]; exact Nat.lt_succ_of_lt (Nat.lt_succ_of_lt hLs)), fresh _ (show s₁.heap.objs.size ≤ H2.objs.size by rw [z2]; omega)⟩
    · exact ⟨eD, Nat.ne_of_gt (show L < H1.objs.size by rw [z1]; exact Nat.lt_succ_of_lt hLs), fresh _ (show s₁.heap.objs.size ≤ H1.objs.size by rw [z1]; omega)⟩
    · exact ⟨eI, Nat.ne_of_gt hLs, fresh _ (Nat.le_refl _)⟩
    · exact ⟨up _ _ (N p hp).1, (N p hp).2⟩
  have off : ∀ p ∈ news, p.1 ≠ s₁.heap.objs.size ∧ p.1 ≠ H1.objs.size ∧ p.1 ≠ H2.objs.size ∧ p.1 ≠ H2.objs.size + 1 := by
    intro p hp
    have := old p hp
    rw [z1, z2]
    exact ⟨Nat.ne_of_lt this, Nat.ne_of_lt (Nat.lt_succ_of_lt this), Nat.ne_of_lt (Nat.lt_succ_of_lt (Nat.lt_succ_of_lt this)), Nat.ne_of_lt (Nat.lt_succ_of_lt (Nat.lt_succ_of_lt (Nat.lt_succ_of_lt this)))⟩
  have loop : codeAny (model prog w) A (.compLoop (.ListComp elt [⟨.Name x px, iter, [], 0⟩] scope pos) 0 (.ref s₁.heap.objs.size) (.ref H1.objs.size) (cEnv scope env cl x H2.objs.size))
      (compPost (model prog w) A E none Q (.ref H1.objs.size) H2.objs.size) { s₁ with heap := H4 } := by
    refine rows_loop (s := { s₁ with heap := H4 }) (l := l) (its := its) (nl := nl) (Inv := Inv) (h₀ := h₀) (news := news) hh hkind hx
      (by rw [z1]; exact Nat.ne_of_lt (Nat.lt_succ_self _)) (by rw [z2]; exact Nat.ne_of_lt (Nat.lt_succ_of_lt (Nat.lt_succ_self _))) (by rw [z2]; exact Nat.ne_of_lt (Nat.lt_succ_of_lt (Nat.lt_succ_of_lt (Nat.lt_succ_self _))))
      (by rw [z1, z2]; exact Nat.ne_of_lt (Nat.lt_succ_self _)) (by rw [z1, z2]; exact Nat.ne_of_lt (Nat.lt_succ_of_lt (Nat.lt_succ_self _))) hl hsz ⟨_, _, rfl⟩ (fun h e => ⟨_, ns_empty e⟩)
      (step _ _ _ _ old) hInv off F4 N4 rfl ⟨rfl, _, rfl⟩ ⟨rfl, rfl⟩ ?_
    intro h₀' news' h' tk' hI' F' N' offC hLC hC0 hDC hD0 hDL hlist ⟨m', hns⟩
    refine ⟨m', hns, fun h'' hs'' => ?_⟩
    obtain ⟨oD, eD', cD', nD', dD'⟩ := hlist
    exact fin h₀' news' h'' tk' H1.objs.size hI' (but_fr F' (fun a o ha e => hs''.extBut a o ha e) hLC hC0) (but_news N' (fun a o ha e => hs''.extBut a o ha e) offC) ⟨oD, hs''.extBut _ _ hDC eD', cD', nD', dD'⟩
  exact codeAny_compStart_list loop (wpAny_pyIter_listiter (l := l) (i := 0) ⟨_, eI, rfl, rfl⟩ loop)
end
end Mine
end
section
open PySem PySem.W PySem.Spec PySem.Calls PyProof.Rows
set_option maxRecDepth 100000
namespace Mine
def posOf : PySem.Expr → Pos
  | .Call _ [.Lambda _ _ _ p] _ _ => p
  | _ => default
def tab1 (p : Pos) (c' : Addr) : Obj := tabObj (#[] ++ #[rawInt p.line, rawInt p.col, .ref c'])
/-- between two elements: the base may have turned; the table is empty or holds the lambda's code -/
def RowsInv (A₀ : Around) (base : Heap) (outer : List Env) (g : Heap) (N0 : List (Addr × Obj)) (gU : Obj → List (Addr × Obj)) (p : Pos) (qual : Str) (i : Nat) (h₀ : Heap) (news : List (Addr × Obj)) : Prop :=
  Below A₀ base outer h₀ ∧ KtsTurn (outer.filterMap (·.frame)) g h₀ ∧ KtsDicts (outer.filterMap (·.frame)) h₀ ∧ UpdF 187 (tabObj #[]) N0 gU ∧
    ((i = 0 ∧ news = N0) ∨ i ≠ 0 ∧ ∃ (c' : Addr) (oc : Obj) (vs : Array Value) (t : Tok), news = (c', oc) :: gU (tab1 p c') ∧ oc.data = .fields vs ∧ vs[1]? = some (.str qual t) ∧ ∀ q ∈ N0, q.1 < c')
theorem clos_env {scope : Scope} {env : Env} {cn : Str} {L a : Addr} {ccd : Value} : closureFor scope env = closureFor scope (envX cn env.scope L a ccd env.cells) := rfl
section
variable {M : Model} {A : Around} {E : Value → Shared → Prop} {s : Shared} {h₀ : Heap} {L c P : Addr} {m mg mb : Str → Option Value} {news : List (Addr × Obj)} {g : Obj → List (Addr × Obj)} {env : Env}
  {p : Program} {loose : List Str} {mean : ExcName → Option Value} {qual : Str} {params : Arguments} {body : PySem.Expr} {scope : Scope} {ps : Array Value} {pos : Pos} {clos : List (Str × Addr)}
/-- a lambda made in any environment -/
theorem lam_nest {Q : Value → Shared → Prop} (F : Fr h₀ L s.heap m) (N : News h₀ L s.heap news) (T : Top p loose mean mg mb h₀) (C : CodeHd h₀ c P) (hg : env.globals = mainGlobals) (hcd : env.code = .ref c) (hk : env.builtins = builtinsNs) (U : UpdF P (tabObj ps) news g) (ht : TriplesOk ps.toList) (hnf : codeAmong pos ps.toList = none)
    (hcl : closureFor scope env = pure clos) (hdef : defaultsOf params env = ([], []))
    (h : ∀ f c' oc vs t ctv h' tk, Fr h₀ L h' m →
      News h₀ L h' ((f, kla_obj "<lambda>" (env.qual ++ "<lambda>") params body scope clos ((mg "__name__").getD .none) c' ctv) :: (c', oc) :: g (tabObj (ps ++ #[rawInt pos.line, rawInt pos.col, .ref c']))) →
      oc.data = .fields vs → vs[1]? = some (.str (env.qual ++ "<lambda>") t) → (∀ q ∈ news, q.1 < c') → c' < f → Q (.ref f) { s with heap := h', toks := tk }) :
    wpAny M A (eval (.Lambda params body scope pos) env) Q E s := by
  refine kla_eval hdef ?_
  rw [mk_env (env' := envX env.qual env.scope L 0 (.ref c) env.cells) hcl (clos_env (env := env) ▸ hcl) hg hcd rfl hk]
  exact kla_nest F N T C rfl U ht hnf (clos_env (env := env) ▸ hcl) h
theorem lam_hit {Q : Value → Shared → Prop} {c' : Addr} (F : Fr h₀ L s.heap m) (N : News h₀ L s.heap news) (T : Top p loose mean mg mb h₀) (C : CodeHd h₀ c P) (hg : env.globals = mainGlobals) (hcd : env.code = .ref c) (hk : env.builtins = builtinsNs) (hmem : (P, tabObj ps) ∈ news) (ht : TriplesOk ps.toList) (hf : codeAmong pos ps.toList = some (.ref c'))
    (hcl : closureFor scope env = pure clos) (hdef : defaultsOf params env = ([], []))
    (h : ∀ f ctv h' tk, Fr h₀ L h' m → News h₀ L h' ((f, kla_obj "<lambda>" (env.qual ++ "<lambda>") params body scope clos ((mg "__name__").getD .none) c' ctv) :: news) → (∀ q ∈ news, q.1 < f) → Q (.ref f) { s with heap := h', toks := tk }) :
    wpAny M A (eval (.Lambda params body scope pos) env) Q E s := by
  refine kla_eval hdef ?_
  rw [mk_env (env' := envX env.qual env.scope L 0 (.ref c) env.cells) hcl (clos_env (env := env) ▸ hcl) hg hcd rfl hk]
  exact kla_hit F N T C rfl hmem ht hf (clos_env (env := env) ▸ hcl) h
end
section
variable {prog : Program} {w : World} {A : Around} {E : Value → Shared → Prop} {s : Shared} {env : Env} {L : Addr} {m : Str → Option Value}
theorem rows_bad {elt iter : PySem.Expr} {x : Str} {px : Pos} {scope : Scope} {pos : Pos} {cl : List (Str × Addr)} {Q : Value → Shared → Prop} {A₀ : Around} {base g : Heap} {outer : List Env}
    (_F : Fr g L s.heap m) (B : Below A₀ base outer g) (D : KtsDicts (outer.filterMap (·.frame)) g)
    (hclos : closureFor scope env = pure cl) (hkind : scope.kind = .function) (hnames : ∀ y ∈ scope.names, y.2 = .local → scope.names.lookup y.1 = some .local) (hx : (relabel scope env).names.lookup x = some .cell)
    (hc1 : ∀ n, cellsFrom n scope.names cl = (x, n) :: cl) (hc2 : ∀ h : Heap, pushCells h scope.names = h.push { cls := .type "cell", data := .cell none })
    (hs : ∀ x, foldedSetIterable iter env x = pure x)
    (h : wpAny (model prog w) A (eval iter env) (fun xv s₁ => ∃ (l : Addr) (its : Array Value) (nl : Nat) (N0 : List (Addr × Obj)) (gU : Obj → List (Addr × Obj)), xv = .ref l ∧ A.handled = none ∧ Fr g L s₁.heap m ∧ News g L s₁.heap N0 ∧ UpdF 187 (tabObj #[]) N0 gU ∧
      (l, listOf its nl) ∈ N0 ∧ its.size ≤ 100 ∧ (∀ (s₁ : Shared) (I D C : Addr), (∀ p ∈ N0, p.1 < I) → RowStep prog w A L m s₁ elt (cEnv scope env cl x C) its I D C (RowsInv A₀ base outer g N0 gU (posOf elt) (env.qual ++ "<lambda>"))) ∧
      (∀ (h₀ : Heap) (news : List (Addr × Obj)) (h : Heap) (tk : Nat) (D : Addr), RowsInv A₀ base outer g N0 gU (posOf elt) (env.qual ++ "<lambda>") its.size h₀ news → Fr h₀ L h m → News h₀ L h news → h.IsList D (Array.replicate its.size (.bool true)) → Q (.ref D) { s₁ with heap := h, toks := tk })) E s) :
    wpAny (model prog w) A (eval (.ListComp elt [⟨.Name x px, iter, [], 0⟩] scope pos) env) Q E s := by
  refine rows_comp (L := L) (m := m) hclos hkind hnames hx hc1 hc2 hs (wpAny_mono h (fun xv s₁ h₁ => ?_) fun _ _ e => e)
  obtain ⟨l, its, nl, N0, gU, rfl, hh, F, N, U, hm, hsz, step, fin⟩ := h₁
  refine ⟨l, its, nl, g, N0, RowsInv A₀ base outer g N0 gU (posOf elt) (env.qual ++ "<lambda>"), rfl, hh, F, N, ⟨B, .refl, D, U, .inl ⟨rfl, rfl⟩⟩, ?_, hsz, step, fin⟩
  rintro i h₀ news ⟨_, _, _, _, ⟨_, rfl⟩ | ⟨_, c', oc, vs, t, rfl, _⟩⟩
  · exact hm
  · obtain ⟨own, rest, rfl, hgr, h1, h2⟩ := U.split
    refine .tail _ ?_
    rw [hgr]
    rcases List.mem_append.mp hm with hm | hm
    · exact List.mem_append_left _ hm
    · rcases List.mem_cons.mp hm with e | hm
      · exfalso
        have e2 : listOf its nl = tabObj #[] := congrArg Prod.snd e
        have e3 := congrArg Obj.data e2
        cases e3
      · exact List.mem_append_right _ (.tail _ hm)
end
theorem rowA {x zz par sv : Int} (h : Hid (liftF x 0 = none)) (h0 : 1 ≤ x) (h1 : x ≤ 1100) (hz : Small zz) (ha : (pN - zz) % pN < 1048576) (hv : par = 0 ∨ par = 1) (s0 : 1 ≤ sv) (s1 : sv ≤ 1000) : BadRow zz par x sv ∧ BadRow zz par x 0 :=
  ⟨bad_xrow hz (small_lt (by omega) (by omega)) (by omega) (by omega) ha hv h.out, bad_s0row hz (small_lt (by omega) (by omega)) ha hv⟩
theorem rowB {zz par sv : Int} (hz : Small zz) (ha : (pN - zz) % pN < 1048576) (hv : par = 0 ∨ par = 1) (s0 : 1 ≤ sv) (s1 : sv ≤ 1000) : BadRow zz par 0 sv := bad_r0row hz (by omega) (by omega) ha hv
/-- law_bad, its lambda looked up in the ledger -/
theorem c_bad1 {w : World} {loose mean mg mb} {lam : Addr} {oc : Value} {od : Option Addr} {fd : FuncData} {sl : Array (Option Value)} {news : List (Addr × Obj)}
    {dp un : Nat} {gd : Option (List Code)} {cn : Str} {cs : Scope} {a : Addr} {ccd : Value} {cl : List (Str × Addr)} {outer : List Env} {A₀ : Around} {base h₀ : Heap} {L : Addr} {m : Str → Option Value} {s : Shared}
    {Q E : Value → Shared → Prop} (B : Below A₀ base outer h₀) (F : Fr h₀ L s.heap m) (X : (hd.heap_39 w.params).In h₀) (N : News h₀ L s.heap news) (T : Top topProg loose mean mg mb h₀) (hk : cs.kind = .function)
    (XB : (hd.heap_39 w.params).In base) (TB : Top topProg loose mean mg mb base) (D : KtsDicts (outer.filterMap (·.frame)) h₀) (hlam : (lam, ⟨oc, od, .func fd, sl⟩) ∈ news) (hdp : dp + 52 < recursionLimit) (hu : un + 8 * 52 < cLine)
    (H : GoesE w loose mean mg mb lam 50 news [])
    (hret : ∀ (h₀' h' : Heap) (tk' : Nat), KtsTurn (outer.filterMap (·.frame)) h₀ h₀' → Fr h₀' L h' m → News h₀' L h' news → Below A₀ base outer h₀' → Q (.bool true) { s with heap := h', toks := tk' }) :
    wpAny (model PySem.Challenge.rw_vj0008_01.row.prog w) (ktrTop dp un gd cn cs L a ccd cl outer) (call (.ref 178) [.ref lam]) Q E s :=
  c_bad lam oc od fd sl 50 (by decide) news hlam H dp un gd cn cs a ccd cl outer A₀ base h₀ L m s Q E B F X N T hk XB TB D hdp hu hret
theorem nameC_K {M : Model} {A : Around} {E : Value → Shared → Prop} {s : Shared} {K : Frag} {h₀ : Heap} {L a C : Addr} {m mg mb : Str → Option Value} {cn : Str} {cs sc : Scope} {ccd : Value} {cl0 cl1 : List (Str × Addr)} {x1 : Str} {p : Program} {loose : List Str}
    {x : Str} {pos : Pos} {v : Value} {Q : Value → Shared → Prop} (F : Fr h₀ L s.heap m) (X : K.In h₀) (T : TopRead p loose mg mb h₀) (e : nsIn K mainGlobals x = some (some v)) (h : Q v s)
    (hk : (relabel sc (envX cn cs L a ccd cl0)).kind = .function) (hx : (cEnv sc (envX cn cs L a ccd cl0) cl1 x1 C).kindOf x = some .globalImplicit) (hd : (x == ("__debug__" : Str)) = false) :
    wpAny M A (eval (.Name x pos) (cEnv sc (envX cn cs L a ccd cl0) cl1 x1 C)) Q E s :=
  Name_function_global hk hx (loadGlobal_global (env := cEnv sc (envX cn cs L a ccd cl0) cl1 x1 C) (T.g.keeps F.keep) (mg_of X T.g e) h) hd
section
variable {A₀ : Around} {base g h₀ h₁ h₂ : Heap} {outer : List Env} {N0 : List (Addr × Obj)} {gU : Obj → List (Addr × Obj)} {p : Pos} {qual : Str} {L I D C c' f : Addr} {m : Str → Option Value} {s : Shared} {ok oC oD oI oc lam : Obj} {tk : Nat} {vs : Array Value} {t : Tok}
theorem upd_off {o : Obj} (U : UpdF 187 (tabObj #[]) N0 gU) (off : ∀ q ∈ N0, q.1 ≠ I ∧ q.1 ≠ D ∧ q.1 ≠ C ∧ q.1 ≠ C + 1) : ∀ q ∈ gU o, q.1 ≠ I ∧ q.1 ≠ D ∧ q.1 ≠ C ∧ q.1 ≠ C + 1 := by
  obtain ⟨own, rest, rfl, hgr, h1, h2⟩ := U.split
  intro q hq
  rw [hgr] at hq
  rcases List.mem_append.mp hq with hq | hq
  · exact off q (List.mem_append_left _ hq)
  · rcases List.mem_cons.mp hq with rfl | hq
    · exact off (187, tabObj #[]) (List.mem_append_right _ (.head _))
    · exact off q (List.mem_append_right _ (.tail _ hq))
theorem row_new (T₁ : KtsTurn (outer.filterMap (·.frame)) g h₀) (D₁ : KtsDicts (outer.filterMap (·.frame)) h₀) (U : UpdF 187 (tabObj #[]) N0 gU) (off : ∀ q ∈ N0, q.1 ≠ I ∧ q.1 ≠ D ∧ q.1 ≠ C ∧ q.1 ≠ C + 1)
    (T₂ : KtsTurn (outer.filterMap (·.frame)) h₀ h₁) (F₂ : Fr h₁ L h₂ m) (B₂ : Below A₀ base outer h₁) (N₂ : News h₁ L h₂ ((f, lam) :: (c', oc) :: (C + 1, ok) :: (C, oC) :: (D, oD) :: (I, oI) :: gU (tab1 p c')))
    (d1 : oc.data = .fields vs) (d2 : vs[1]? = some (.str qual t)) (lc : ∀ q ∈ (C + 1, ok) :: (C, oC) :: (D, oD) :: (I, oI) :: N0, q.1 < c') :
    RowPost L m s I D C ok oC oD oI (RowsInv A₀ base outer g N0 gU p qual (i + 1)) (.bool true) { s with heap := h₂, toks := tk } := by
  refine ⟨rfl, h₁, (c', oc) :: gU (tab1 p c'), h₂, tk, rfl, ⟨B₂, T₁.trans T₂, D₁.turn T₂, U, .inr ⟨Nat.succ_ne_zero i, c', oc, vs, t, rfl, d1, d2, fun q hq => lc q (by simp [hq])⟩⟩, ?_, F₂, ?_⟩
  · intro q hq
    rcases List.mem_cons.mp hq with rfl | hq
    · exact ⟨Ne.symm (Nat.ne_of_lt (lc (I, oI) (by simp))), Ne.symm (Nat.ne_of_lt (lc (D, oD) (by simp))), Ne.symm (Nat.ne_of_lt (lc (C, oC) (by simp))), Ne.symm (Nat.ne_of_lt (lc (C + 1, ok) (by simp)))⟩
    · exact upd_off U off q hq
  · intro q hq
    refine N₂ q ?_
    simp only [List.mem_cons] at hq ⊢
    rcases hq with h | h | h | h | h | h <;> simp [h]
theorem row_hit (T₁ : KtsTurn (outer.filterMap (·.frame)) g h₀) (D₁ : KtsDicts (outer.filterMap (·.frame)) h₀) (U : UpdF 187 (tabObj #[]) N0 gU) (off : ∀ q ∈ (c', oc) :: gU (tab1 p c'), q.1 ≠ I ∧ q.1 ≠ D ∧ q.1 ≠ C ∧ q.1 ≠ C + 1)
    (T₂ : KtsTurn (outer.filterMap (·.frame)) h₀ h₁) (F₂ : Fr h₁ L h₂ m) (B₂ : Below A₀ base outer h₁) (N₂ : News h₁ L h₂ ((f, lam) :: (C + 1, ok) :: (C, oC) :: (D, oD) :: (I, oI) :: (c', oc) :: gU (tab1 p c')))
    (d1 : oc.data = .fields vs) (d2 : vs[1]? = some (.str qual t)) (lc : ∀ q ∈ N0, q.1 < c') :
    RowPost L m s I D C ok oC oD oI (RowsInv A₀ base outer g N0 gU p qual (i + 1)) (.bool true) { s with heap := h₂, toks := tk } := by
  refine ⟨rfl, h₁, (c', oc) :: gU (tab1 p c'), h₂, tk, rfl, ⟨B₂, T₁.trans T₂, D₁.turn T₂, U, .inr ⟨Nat.succ_ne_zero i, c', oc, vs, t, rfl, d1, d2, lc⟩⟩, off, F₂, ?_⟩
  intro q hq
  refine N₂ q ?_
  exact .tail _ hq
end
theorem g_open {news : List (Addr × Obj)} {v : Value} {m : Int} (o9 : OptAt news v (ltF none (some (gX, gY)) m.toNat)) (s9 : SmallO (ltF none (some (gX, gY)) m.toNat)) (h0 : 1 ≤ m) (h1 : m ≤ 60) :
    ∃ (D : Addr) (d : Aff), v = .ref D ∧ Hid (ltF none (some (gX, gY)) m.toNat = some d) ∧ PtAt news D d.1 d.2 ∧ Small d.1 ∧ Small d.2 := by
  obtain ⟨d, hd⟩ := g_some h0 h1
  rw [hd] at o9
  obtain ⟨D, e, P⟩ := OptAt.pt (x := d.1) (y := d.2) o9
  exact ⟨D, d, e, ⟨hd⟩, P, (s9 d hd).1, (s9 d hd).2⟩
def NotTup (o : Obj) : Prop := (∃ v, o.data = .cell v) ∨ ∃ ps, o = tabObj ps
theorem pt_entry {h₀ h : Heap} {L : Addr} {tl news : List (Addr × Obj)} {D : Addr} {x y : Int} {ps : Array Value} (P : PtAt (tl ++ news) D x y) (N : News h₀ L h (tl ++ news)) (h0 : (192, tabObj ps) ∈ news) :
    ∃ D0 O0, News h₀ L h ((D0, O0) :: news) ∧ PtAt [(D0, O0)] D x y ∧ ∀ b o, (b, o) ∈ news → @Ne Nat 192 b → NotTup o → @Ne Nat D0 b := by
  have N0 := news_tail N
  rcases P with ⟨tx, ty, c, hm⟩ | h
  · have hD := N _ hm
    refine ⟨D, tup2 x y tx ty c, ?_, .inl ⟨tx, ty, c, .head _⟩, ?_⟩
    · intro p hp
      rcases List.mem_cons.mp hp with rfl | hp
      · exact hD
      · exact N0 p hp
    · intro b o hbo _ hne e
      have e' : D = b := e
      have a1 := hD.1
      have a2 := (N0 _ hbo).1
      simp only [e'] at a1
      rw [a2] at a1
      have e2 := Option.some.inj a1
      subst e2
      rcases hne with ⟨v, k⟩ | ⟨ps, k⟩
      · cases k
      · have k2 := congrArg Obj.data k
        cases k2
  · refine ⟨192, tabObj ps, ?_, .inr h, fun b o _ hb _ => hb⟩
    intro p hp
    rcases List.mem_cons.mp hp with rfl | hp
    · exact N0 _ h0
    · exact N0 p hp
theorem last_row {m sv zz v : Int} {d : Aff} (hd : Hid (ltF none (some (gX, gY)) m.toNat = some d)) (hzz : Hid (zz = (-sv * m) % 115792089237316195423570985008687907852837564279074904382605163141518161494337)) (hv : v = d.2 % 2) (hz : Small zz) (hx : Small d.1) (h0 : 1 ≤ m) (h1 : m ≤ 60) (s0 : 1 ≤ sv) (s1 : sv ≤ 1000) : BadRow zz (1 - v) d.1 sv := by
  obtain ⟨a1, a2⟩ := rec_last h0 h1 s0 s1 hd.out rfl
  obtain ⟨b1, b2, b3⟩ := last_av s0 s1 h0 (show m ≤ 1000 by omega)
  rw [hv]
  refine ⟨hz, hx, by omega, by omega, by omega, sv * m, ?_, b3, a1, a2⟩
  rw [hzz.out]
  exact b1.symm
theorem same_fr {g g' h : Heap} {L : Addr} {m : Str → Option Value} (T : KtsTurn [] g g') (F : Fr g' L h m) : Fr g L h m :=
  ⟨F.ns, fun b o hb => F.keep b o ((kts_same T b).trans hb), by rw [← T.size]; exact F.above⟩
theorem same_news {g g' h : Heap} {L : Addr} {l : List (Addr × Obj)} (T : KtsTurn [] g g') (N : News g' L h l) : News g L h l :=
  fun p hp => ⟨(N p hp).1, (N p hp).2.1, (kts_same T p.1).symm.trans (N p hp).2.2⟩
theorem two_news {g h : Heap} {L : Addr} {l : List (Addr × Obj)} {ps1 ps2 : Array Value} (N : News g L h l) (h1 : (187, tabObj ps1) ∈ l) (h2 : (192, tabObj ps2) ∈ l) : News g L h [(187, tabObj ps1), (192, tabObj ps2)] := by
  intro p hp
  simp only [List.mem_cons, List.not_mem_nil, or_false] at hp
  rcases hp with rfl | rfl
  · exact N _ h1
  · exact N _ h2
end Mine
end
section
open PySem PySem.W PySem.Spec PySem.Calls PyProof.Rows
set_option Elab.async false
set_option maxRecDepth 100000
set_option maxHeartbeats 1000000
namespace Mine
local macro_rules | `(tactic| bits_by_make) => `(tactic| first | with_reducible assumption | exact bits_P | exact bits_N | exact bits_gX | exact bits_gY | ((with_reducible apply PySem.intBits_pow_le); bits_by_make))
local macro_rules | `(tactic| walk_at "binaryOp Mod int int") => `(tactic| (k_here; (with_reducible refine mod_h ?ka ?kb ?_); (case ka => decide); (case kb => (first | exact Nat.le_trans bits_P (by decide) | exact Nat.le_trans bits_N (by decide) | (exact Nat.le_trans (PySem.intBits_le_64 (by decide) (by decide)) (by decide)))); intro v' t' tk' hv' hb'; (try dsimp only)))
local macro_rules | `(tactic| walk_at "binaryOp Pow int int") => `(tactic| (k_here; (with_reducible first | refine' pow_h2 ?kc ?kd ?_ | refine' pow_h3 ?kc ?kd ?_ | refine' pow_h4 ?kc ?kd ?_); (case kc => bits_by_make); (case kd => decide); intro t' tk'; (try dsimp only)))
local macro_rules | `(tactic| walk_at "binaryOp Mult int int") => `(tactic| (k_here; (with_reducible refine mul_h ?kc ?_); (case kc => mul_fits); intro t' tk'; (try dsimp only)))
local macro_rules | `(tactic| walk_at "binaryOp Add int int") => `(tactic| (k_here; (with_reducible refine add_h ?_); intro t' tk'; (try dsimp only)))
local macro_rules | `(tactic| walk_at "binaryOp Sub int int") => `(tactic| (k_here; (with_reducible refine sub_h ?_); intro t' tk'; (try dsimp only)))
local macro_rules | `(tactic| walk_at "binaryOp Mod int int") => `(tactic| (k_here; (with_reducible show wpAny _ _ (binaryOp Operator.Mod (Value.int _ _) (Value.int 2 _)) _ _ _); (with_reducible refine mod_2 ?_); intro v' t' tk' hv' hb' hb2'; (try dsimp only)))
local macro_rules | `(tactic| walk_at "binaryOp FloorDiv int int") => `(tactic| (k_here; (with_reducible show wpAny _ _ (binaryOp Operator.FloorDiv (Value.int _ _) (Value.int 2 _)) _ _ _); (with_reducible refine half_s ?ka ?_); (case ka => omega); intro v' t' tk' hv' hb' hb2' hb3'; (try dsimp only)))
local macro_rules | `(tactic| k_mem) => `(tactic| assumption)
local macro_rules | `(tactic| walk_at "call builtin:pow") => `(tactic| (k_here; (with_reducible refine' call_pow3_h ?_ ?_ ?_ ?_); (first | decide | decide +kernel | omega); (first | decide | decide +kernel | omega); (first | exact bits_P | exact bits_N); intro v' t' tk' hv' hb'; (try dsimp only)))
local macro_rules | `(tactic| walk_at "call builtin:pow") => `(tactic| (k_here; (with_reducible refine' call_pow3_P ?_ ?_); (first | decide | decide +kernel | omega); intro v' t' tk' hv' hb' hs'; (try dsimp only)))
local macro_rules | `(tactic| walk_at "binaryOp Mod int int") => `(tactic| (k_here; (with_reducible refine mod_hP ?_); intro v' t' tk' hv' hb' hs'; (try dsimp only)))
local macro_rules | `(tactic| walk_at "call ref") => `(tactic| (k_here; (with_reducible show wpAny _ _ (call (Value.ref 143) [_, _]) _ _ _); k_dflt (refine goes_use (by k_asm) (by k_asm) (by k_asm) (by k_asm) (by k_asm) (by first | exact rfl | assumption) (c_sum _ _ _ _ _ (by first | with_reducible assumption | assumption | (refine OptAt.mono (by assumption) ?_; intro q hq; (repeat (first | exact hq | apply List.mem_append_right | apply List.mem_cons_of_mem)))) (by first | with_reducible assumption | assumption | (refine OptAt.mono (by assumption) ?_; intro q hq; (repeat (first | exact hq | apply List.mem_append_right | apply List.mem_cons_of_mem)))) (by with_reducible assumption) (by with_reducible assumption)) (by ktr_room) (by ktr_units) ?_; k_whole; intro v9' tl9' h' tk' F' N' o9' s9'; (try dsimp only); (try k_fold))))
local macro_rules | `(tactic| walk_at "call ref") => `(tactic| (k_here; (with_reducible show wpAny _ _ (call (Value.ref 150) [_, Value.int _ _]) _ _ _); k_dflt (refine goes_use (by k_asm) (by k_asm) (by k_asm) (by k_asm) (by k_asm) (by first | exact rfl | assumption) (c_times _ _ _ _ _ (by first | with_reducible assumption | assumption | (refine OptAt.mono (by assumption) ?_; intro q hq; (repeat (first | exact hq | apply List.mem_append_right | apply List.mem_cons_of_mem)))) (by with_reducible assumption) (by first | with_reducible assumption | omega)) (by ktr_room) (by ktr_units) ?_; k_whole; intro v9' tl9' h' tk' F' N' o9' s9'; (try dsimp only); (try k_fold))))
local macro_rules | `(tactic| walk_at "call ref") => `(tactic| (k_here; (with_reducible show wpAny _ _ (call (Value.ref 150) [Value.ref 129, Value.int _ _]) _ _ _); k_dflt (refine goes_use (by k_asm) (by k_asm) (by k_asm) (by k_asm) (by k_asm) (by first | exact rfl | assumption) (c_times _ (some (gX, gY)) _ _ _ (.inr ⟨rfl, rfl⟩) g_small (by first | with_reducible assumption | omega)) (by ktr_room) (by ktr_units) ?_; k_whole; intro v9' tl9' h' tk' F' N' o9' s9'; (try dsimp only); (try k_fold))))
local macro_rules | `(tactic| walk_at "call ref") => `(tactic| (k_here; (with_reducible show wpAny _ _ (call (Value.ref 157) [Value.int _ _]) _ _ _); k_dflt (refine goes_use (by k_asm) (by k_asm) (by k_asm) (by k_asm) (by k_asm) (by first | exact rfl | assumption) (c_octets2 _ _ _ (by with_reducible assumption)) (by ktr_room) (by ktr_units) ?_; k_whole; intro t' h' tk' F' N'; (try dsimp only); (try k_fold))))
local macro_rules | `(tactic| walk_at "call ref") => `(tactic| (k_here; (with_reducible show wpAny _ _ (call (Value.ref 171) [Value.int _ _, Value.int _ _]) _ _ _); k_dflt (refine goes_use (by k_asm) (by k_asm) (by k_asm) (by k_asm) (by k_asm) (by first | exact rfl | assumption) (c_lifted _ _ _ _ _ (by first | with_reducible assumption | exact small_lt (by omega) (by omega))) (by ktr_room) (by ktr_units) ?_; k_whole; intro v9' tl9' h' tk' F' N' o9' s9'; (have N' := news_tail N'); (rcases optAt_cases o9' with ⟨e1', e2'⟩ | ⟨D9', p9', e1', e2', P9'⟩); (all_goals (subst e1'; (have e3' := Hid.mk e2'); clear e2' o9')); (all_goals (try dsimp only)); (all_goals (try k_fold)))))
local macro_rules | `(tactic| walk_at "call ref") => `(tactic| (k_here; (with_reducible show wpAny _ _ (call (Value.ref 136) [Value.ref _, Value.int _ _]) _ _ _); k_dflt (refine goes_use (by k_asm) (by k_asm) (by k_asm) (by k_asm) (by k_asm) (by first | exact rfl | assumption) (c_take _ _ _ _ _ _ _ _ _ _ _ _ (by k_mem) (by with_reducible assumption) (by omega) (fun t' => by k_upd) (fun t' => by k_mem) (by omega) (by omega) (by omega) (by omega)) (by ktr_room) (by ktr_units) ?_; k_whole; intro v' t' ta' h' tk' F' N' hv' hb'; (try dsimp only at N'); (try dsimp only); (try k_fold))))
local macro_rules | `(tactic| walk_at "exec For Name Call cons nil") => `(tactic| (k_here; (rename Fr _ _ _ _ => lF'); (with_unfolding_all refine For_invVF lF' (by exact rfl) (by exact rfl) ?_; k_whole)))
local macro_rules | `(tactic| walk_at "pyIter ref") => `(tactic| (k_here; (with_reducible show wpAny _ _ (pyIter (Value.ref _)) (fun it s₂ => LoopAtV _ _ _ _ _ _ _ _ _ it s₂) _ _); (rename Fr _ _ _ _ => lF'); (rename News _ _ _ _ => lN'); (rename IsRange _ _ _ _ _ _ _ _ => rgX); (with_unfolding_all refine none_loop (by rfl) rgX lF' lN' (by rfl) (by omega) ?_ ?_); (clear lF' lN'); (intro kX kTX kK kT kU kH kTk kOwn kPre kB1 kB2 kLt kOff kInv kFr kNews; (try k_fold)); rotate_left; (intro kX kTX kU kH kTk kB1 kB2 kFr kNews; (try k_fold)); rotate_left))
local macro_rules | `(tactic| walk_at "InvEndN") => `(tactic| (with_unfolding_all refine none_turn_end (by k_asm) (by k_asm) (by omega) (by omega)))
local macro_rules | `(tactic| walk_at "NoneQ") => `(tactic| (with_unfolding_all refine noneQ_brk (by k_asm) (by k_asm) (by omega) (by omega)))
local macro_rules | `(tactic| walk_at "callWith ref") => `(tactic| (k_here; (with_reducible show wpAny _ _ (callWith _ (Value.ref 178) _ _ _) _ _ _); k_dflt (refine callWith_K (by k_asm) (by k_is) ?_; k_whole)))
local macro_rules | `(tactic| walk_at "eval Lambda") => `(tactic| (k_here; k_dflt (refine lam_nest (P := 187) (by k_asm) (by k_asm) (by k_asm) (by with_reducible assumption) (by exact rfl) (by exact rfl) (by exact rfl) (by k_updF) (by kn_triples) (by kn_among) (by exact rfl) (by exact rfl) ?_; k_whole); intro f' c' oc' vs' t' ct' h' tk' F' N' d1' d2' l1 l2; (try dsimp only at N'); (have l3 := Hid.mk l1); (try k_lt l1); (try k_lt2 l2)))
local macro_rules | `(tactic| walk_at "eval Lambda") => `(tactic| (k_here; k_dflt (refine lam_hit (P := 187) (by k_asm) (by k_asm) (by k_asm) (by with_reducible assumption) (by exact rfl) (by exact rfl) (by exact rfl) (by k_mem) (by kn_triples) (by kn_hit) (by exact rfl) (by exact rfl) ?_; k_whole); intro f' ct' h' tk' F' N' l1; (try dsimp only at N'); (try k_lt l1)))
local macro_rules | `(tactic| walk_at "eval Name") => `(tactic| (k_here; (with_reducible show wpAny _ _ (eval _ (cEnv _ _ _ _ _)) _ _ _); k_dflt (refine nameC_K (by k_asm) (by k_asm) (by k_asm) (by k_is) ?_ (by exact rfl) (by exact rfl) (by decide); k_whole)))
local macro_rules | `(tactic| walk_at "binaryOp Mod int int") => `(tactic| (k_here; (with_reducible refine mod_hN ?_); intro v' t' tk' hv' hs'; (try dsimp only)))
local macro_rules | `(tactic| walk_at "subscriptTail Name Constant ref int") => `(tactic| (k_here; (with_reducible show wpAny _ _ (subscriptTail _ _ (Value.ref _) (Value.int 0 _)) _ _ _); k_dflt (refine ptC0 (by with_reducible assumption) (by k_asm) (by k_asm) (by k_asm) (fun q hq => by rw [List.mem_singleton.mp hq]; k_mem) ?_); intro t'; (try dsimp only)))
local macro_rules | `(tactic| walk_at "subscriptTail Name Constant ref int") => `(tactic| (k_here; (with_reducible show wpAny _ _ (subscriptTail _ _ (Value.ref _) (Value.int 1 _)) _ _ _); k_dflt (refine ptC1 (by with_reducible assumption) (by k_asm) (by k_asm) (by k_asm) (fun q hq => by rw [List.mem_singleton.mp hq]; k_mem) ?_); intro t'; (try dsimp only)))
local macro_rules | `(tactic| walk_at "call ref") => `(tactic| (k_here; (with_reducible show wpAny _ _ (call (Value.ref 128) [Value.bytes _ _, Value.ref _]) (fun v s' => LeaveK _ _ _ _ _ v s') _ _); k_dflt (refine goesE_use (by k_asm) (by k_asm) (by k_asm) (by k_asm) (by k_asm) (by first | exact rfl | assumption) (by with_reducible assumption) (by first | (exact c_rec_b2 _ _ _ _ _ _ _ _ _ _ (List.Mem.head _)) | (exact c_rec_bm1 _ _ _ _ _ _ _ _ _ _ (List.Mem.head _)) | (exact c_rec_b27 _ _ _ _ _ _ _ _ _ _ (List.Mem.head _)) | (refine c_recE _ _ _ _ _ _ _ _ _ _ _ (List.Mem.head _) ?_; first | with_reducible assumption | exact LawAt.s0 (by with_reducible assumption) (by omega))) (by ktr_room) (by ktr_units) ?_; k_whole); intro e' t' vs' g' h' tk' FX' UX' RX'; (try dsimp only)))
local macro_rules | `(tactic| walk_at "GoesE") => `(tactic| (unfold GoesE; intro dp un gd cn cs a0 ccd cl outer A₀ base h₀ L m s Q E B F X N T hk DD hdp hu hret; (have hret' : HretE h₀ L m cn cs a0 ccd cl outer base _ s E := hret); clear hret; refine wpAny_call ?_; k_dflt (refine kla_code (by k_asm) (by k_asm) (by k_asm) (by k_asm) (by k_asm) (by exact rfl) (by exact rfl) (by assumption) (by k_mem) (by exact codeRec_news (by k_asm) (by k_mem) (by assumption) (by assumption)) (by ktr_room) (by exact rfl) (by exact locs rfl) ?_ (by exact rfl) (by exact rfl) (by exact rfl) (by decide); k_whole); intro g' L' h' FG' F' N' B' X' T'; (try dsimp only); (try k_fold); (have DD' := ktsD_of (env := envX cn cs L a0 ccd cl) DD rfl FG')))
local macro_rules | `(tactic| walk_at "leaving") => `(tactic| (refine leave_onX (by exact rfl) (by with_reducible assumption) (by with_reducible assumption) (by with_reducible assumption) (by with_reducible assumption) ?_; intro h9 R9 U9; (rename HretE _ _ _ _ _ _ _ _ _ _ _ _ _ => hB); exact hB _ _ _ _ _ _ (by with_reducible assumption) U9 (raisedS_mono R9 (by intro q hq; (repeat (first | exact hq | apply List.mem_cons_of_mem))))))
local macro_rules | `(tactic| walk_at "leaving ref") => `(tactic| (refine leave_onX (by exact rfl) (by with_reducible assumption) (by with_reducible assumption) (by with_reducible assumption) (by with_reducible assumption) ?_; intro h9 R9 U9; (rename HretE _ _ _ _ _ _ _ _ _ _ _ _ _ => hB); exact hB _ _ _ _ _ _ (by with_reducible assumption) U9 (raisedS_mono R9 (by intro q hq; (repeat (first | exact hq | apply List.mem_cons_of_mem))))))
local macro_rules | `(tactic| walk_at "call ref") => `(tactic| (k_here; (with_reducible show wpAny _ _ (call (Value.ref 178) [Value.ref _]) _ _ _); k_dflt (refine c_bad1 (by k_asm) (by k_asm) (by k_asm) (by k_asm) (by k_asm) (by first | exact rfl | assumption) (by k_asm) (by k_asm) (by with_reducible assumption) (by k_mem) (by ktr_room) (by ktr_units) ?_ ?_; k_whole); rotate_left; intro g' h' tk' T' F' N' B'; (try dsimp only); (try k_fold); rotate_left))
local macro_rules | `(tactic| walk_at "call ref") => `(tactic| (k_here; (with_reducible show wpAny _ _ (call (Value.ref 128) [Value.bytes _ _, Value.ref _]) (fun v s' => LeaveK _ _ _ _ _ v s') _ _); k_dflt (refine goesE_use (by k_asm) (by k_asm) (by k_asm) (by k_asm) (by k_asm) (by first | exact rfl | assumption) (by with_reducible assumption) (c_recE _ _ _ _ _ _ _ _ _ _ _ (by k_mem) (by first | with_reducible assumption | exact last_row (by with_reducible assumption) (by with_reducible assumption) (by with_reducible assumption) (by with_reducible assumption) (by with_reducible assumption) (by omega) (by omega) (by omega) (by omega))) (by ktr_room) (by ktr_units) ?_; k_whole); intro e' t' vs' g' h' tk' FX' UX' RX'; (try dsimp only)))
local macro_rules | `(tactic| walk_at "eval Name") => `(tactic| (k_here; name_kind "globalImplicit"; (with_reducible first | refine fKc (by decide +kernel) (by k_dflt k_asm) (by k_dflt k_asm) (by k_dflt k_asm) (by k_dflt k_is) ?_ | refine fKo (by decide +kernel) (by k_dflt k_asm) (by k_dflt k_asm) (by k_dflt k_asm) (by k_dflt k_is) ?_ | refine fK (by decide +kernel) (by k_dflt k_asm) (by k_dflt k_asm) (by k_dflt k_asm) (by k_dflt k_is) ?_); k_whole))
local macro_rules | `(tactic| walk_at "eval Name") => `(tactic| (k_here; name_kind "cell"; (with_reducible first | refine fCc (by decide +kernel) (by k_dflt (exact rfl)) (by k_dflt k_asm) (by k_dflt k_mem) (by k_dflt k_asm) ?_ | refine fC (by decide +kernel) (by k_dflt (exact rfl)) (by k_dflt k_asm) (by k_dflt k_mem) (by k_dflt k_asm) ?_); k_whole))
local macro_rules | `(tactic| walk_at "eval Name") => `(tactic| (k_here; name_kind "local"; (with_reducible first | refine fLc (by decide +kernel) (by k_dflt k_asm) (by k_dflt (exact rfl)) ?_ | refine fLo (by decide +kernel) (by k_dflt k_asm) (by k_dflt (exact rfl)) ?_ | refine fL (by decide +kernel) (by k_dflt k_asm) (by k_dflt (exact rfl)) ?_); k_whole))
local macro_rules | `(tactic| walk_at "callWith ref") => `(tactic| (k_here; (with_reducible first | show wpAny _ _ (callWith _ (Value.ref 136) _ _ _) _ _ _ | show wpAny _ _ (callWith _ (Value.ref 143) _ _ _) _ _ _ | show wpAny _ _ (callWith _ (Value.ref 150) _ _ _) _ _ _ | show wpAny _ _ (callWith _ (Value.ref 157) _ _ _) _ _ _ | show wpAny _ _ (callWith _ (Value.ref 164) _ _ _) _ _ _ | show wpAny _ _ (callWith _ (Value.ref 171) _ _ _) _ _ _ | show wpAny _ _ (callWith _ (Value.ref 178) _ _ _) _ _ _ | show wpAny _ _ (callWith _ (Value.ref 185) _ _ _) _ _ _ | show wpAny _ _ (callWith _ (Value.ref 190) _ _ _) _ _ _ | show wpAny _ _ (callWith _ (Value.ref 128) _ _ _) _ _ _ | show wpAny _ _ (callWith _ (Value.ref 114) _ _ _) _ _ _ | show wpAny _ _ (callWith _ (Value.ref 121) _ _ _) _ _ _ | show wpAny _ _ (callWith _ (Value.ref 107) _ _ _) _ _ _ | show wpAny _ _ (callWith _ (Value.ref 100) _ _ _) _ _ _ | show wpAny _ _ (callWith _ (Value.ref 93) _ _ _) _ _ _ | show wpAny _ _ (callWith _ (Value.ref 86) _ _ _) _ _ _ | show wpAny _ _ (callWith _ (Value.ref 79) _ _ _) _ _ _ | show wpAny _ _ (callWith _ (Value.ref 72) _ _ _) _ _ _ | show wpAny _ _ (callWith _ (Value.ref 65) _ _ _) _ _ _ | show wpAny _ _ (callWith _ (Value.ref 58) _ _ _) _ _ _ | show wpAny _ _ (callWith _ (Value.ref 51) _ _ _) _ _ _ | show wpAny _ _ (callWith _ (Value.ref 28) _ _ _) _ _ _ | show wpAny _ _ (callWith _ (Value.ref 21) _ _ _) _ _ _); (with_reducible refine callWith_K (by k_dflt k_asm) (by k_dflt k_is) ?_ (by k_dflt (exact rfl)) (by k_dflt (exact rfl))); k_whole))
local macro_rules | `(tactic| k_mem) => `(tactic| with_reducible first | assumption | exact mem0 | exact mem1 | exact mem2 | exact mem3 | exact mem4 | exact mem5 | exact mem6 | exact mem7 | exact mem8 | exact mem9 | exact mem10 | exact mem11 | exact mem12 | exact mem13 | exact mem14 | exact mem15 | exact mem16 | exact mem17 | exact mem18 | exact mem19 | exact mem20 | exact mem21 | exact mem22 | exact mem23 | exact mem24 | exact mem25 | exact mem26 | exact mem27 | exact mem28 | exact mem29)
local macro_rules | `(tactic| ktr_room) => `(tactic| first | ((simp only [depth_under_make, depth_under_kw, depth_in1, depth_deeper, depth_caller, recursionLimit]); decide) | omega)
local macro_rules | `(tactic| ktr_units) => `(tactic| first | ((have hcL9 := cLine_is); (simp only [units_in1, units_deeper, Around.mark_units, units_caller, cLine] at hcL9 ⊢); omega) | omega)
set_option maxHeartbeats 4000000
theorem c_none {w : World} {loose mean mg mb} (Bx Rw : Addr) (vs : List Value) (ns : List Int) (at' : Int) (ta : Tok) (n1 n2 : Nat) (zz par sv : Int) (t0 tp ts : Tok) (ps : Array Value)
    (hi : IntsAre vs ns) (hlen : ns.length ≤ 64) (ha0 : 0 ≤ at') (ha1 : at' < 900) (hz : Small zz) (hza : (pN - zz) % pN < 1048576) (hv : par = 0 ∨ par = 1) (s0 : 1 ≤ sv) (s1 : sv ≤ 1000)
    {dp un : Nat} {gd : Option (List Code)} {cn : Str} {cs : Scope} {a : Addr} {ccd : Value} {cl : List (Str × Addr)} {A₀ : Around} {base h₀ : Heap} {L : Addr} {m : Str → Option Value} {s : Shared}
    {Q E : Value → Shared → Prop} (B : Below A₀ base [] h₀) (F : Fr h₀ L s.heap m) (X : (hd.heap_39 w.params).In h₀)
    (N : News h₀ L s.heap [(Bx, listOf #[.ref Rw, .int at' ta] n1), (Rw, listOf vs.toArray n2), (187, tabObj #[]), (192, tabObj ps)]) (T : Top topProg loose mean mg mb h₀) (hk : cs.kind = .function)
    (q1 : @Ne Nat Bx Rw) (q2 : @Ne Nat Bx 187) (q3 : @Ne Nat Bx 192) (q4 : @Ne Nat Rw 187) (q5 : @Ne Nat Rw 192)
    (XB : (hd.heap_39 w.params).In base) (TB : Top topProg loose mean mg mb base) (C9 : CodeHd base 189 187) (hdp : dp + 80 < recursionLimit) (hu : un + 8 * 80 < cLine)
    (hret : ∀ (h' : Heap) (tk' : Nat) (ps1 ps2 : Array Value), Fr h₀ L h' m → News h₀ L h' [(187, tabObj ps1), (192, tabObj ps2)] → Q (.bool true) { s with heap := h', toks := tk' }) :
    wpAny (model PySem.Challenge.rw_vj0008_01.row.prog w) (ktrTop dp un gd cn cs L a ccd cl []) (call (.ref 190) [.ref Bx, .bytes (octF zz) t0, .int par tp, .int sv ts]) Q E s := by
  revert X
  k_fill
  intro X
  refine wpAny_call ?_
  k_dflt (refine code_defCT (by k_asm) (by k_asm) (by k_asm) (by k_asm) (by k_asm) (by exact ktsDicts_nil) (by exact rfl) (by exact rfl) (by assumption) (by k_is) (by k_is) (by ktr_room) (by exact BindsTo.of_eq rfl) (by exact rfl) (by decide +kernel) ?_ (by exact rfl) (by exact rfl) (by exact rfl); k_whole)
  intro g' L' h' tk' cells' FG' F' N' Y' B' X' T' l1 D'
  (try k_lt l1)
  k_cells Y'
  (try simp only [List.cons_append, List.nil_append] at N')
  (try dsimp only)
  (try k_lift B')
  (try k_fold)
  k_steps
  · have rb := rowB hz hza hv s0 s1
    have ra := rowA (by with_reducible assumption) (by with_reducible assumption) (by with_reducible assumption) hz hza hv s0 s1
    obtain ⟨ra1, ra2⟩ := ra
    refine rows_bad (L := L') (g := g') (by k_asm) (by assumption) (by assumption) (by exact rfl) (by exact rfl) (by decide) (by exact rfl) (fun _ => by exact rfl) (fun _ => by exact rfl) (fun _ => by exact rfl) ?_
    walk1
    refine ⟨_, _, _, _, _, rfl, by exact rfl, by k_asm, by k_asm, by k_updF, by k_mem, by exact Nat.le_of_ble_eq_true rfl, ?_, ?_⟩
    · intro s₁ I D C hI i v h₀' news h tk oI oD oC ok E' hv' hInv off F₁ N₁ dk hC hDc hIc
      obtain ⟨B₁, T₁, D₁, U₁, hN⟩ := hInv
      have X₁ : (hd.heap_39 w.params).In h₀' := XB.keeps B₁.stays
      have TT₁ := TB.keeps B₁.stays
      have C₁ : CodeHd h₀' 189 187 := C9.keeps B₁.stays
      rcases hN with ⟨rfl, rfl⟩ | ⟨hi0, c', oc, vs', t', rfl, d1, d2, l2⟩
      · have o := off (187, tabObj #[]) (by k_mem)
        have o1 : @Ne Nat 187 I := o.1
        have o2 : @Ne Nat 187 D := o.2.1
        have o3 : @Ne Nat 187 C := o.2.2.1
        have o4 : @Ne Nat 187 (C + 1) := o.2.2.2
        simp only [List.getElem?_toArray, List.getElem?_cons_zero, List.getElem?_cons_succ, Option.some.injEq] at hv'
        subst hv'
        k_steps
        exact row_new T₁ D₁ U₁ off (by assumption) (by k_asm) (by assumption) (by k_asm) (by assumption) (by assumption) (Hid.out (by assumption))
      · dsimp only at off N₁
        match i, hi0, hv' with
        | 0, hi0, hv' => exact absurd rfl hi0
        | 1, _, hv' =>
          simp only [List.getElem?_toArray, List.getElem?_cons_zero, List.getElem?_cons_succ, Option.some.injEq] at hv'
          subst hv'
          k_steps
          exact row_hit T₁ D₁ U₁ off (by assumption) (by k_asm) (by assumption) (by k_asm) d1 d2 l2
        | 2, _, hv' =>
          simp only [List.getElem?_toArray, List.getElem?_cons_zero, List.getElem?_cons_succ, Option.some.injEq] at hv'
          subst hv'
          k_steps
          exact row_hit T₁ D₁ U₁ off (by assumption) (by k_asm) (by assumption) (by k_asm) d1 d2 l2
        | k + 3, _, hv' => simp at hv'
    · intro h₀' news h tk D hInv F₁ N₁ hL
      have hL' : h.IsList D [Value.bool true, Value.bool true, Value.bool true].toArray := hL
      clear hL
      obtain ⟨B₁, T₁, D₁, U₁, hN⟩ := hInv
      have X₁ : (hd.heap_39 w.params).In h₀' := XB.keeps B₁.stays
      have TT₁ := TB.keeps B₁.stays
      have C₁ : CodeHd h₀' 189 187 := C9.keeps B₁.stays
      rcases hN with ⟨h0, _⟩ | ⟨_, c', oc, vs', t', rfl, d1, d2, l2⟩
      · simp at h0
      · dsimp only at N₁
        (try k_lt l2)
        k_steps
        (rename OptAt _ _ (ltF _ _ _) => o9; rename SmallO (ltF _ _ _) => s9; rename News _ _ _ (_ ++ _) => N9)
        obtain ⟨D9, d, rfl, hd9, P9, x9, y9⟩ := g_open o9 s9 (by omega) (by omega)
        obtain ⟨D0, O0, N0', P0, ap⟩ := pt_entry P9 N9 (by k_mem)
        have f1 := ap (L' + 1) _ (by k_mem) (by omega) (.inl ⟨_, by assumption⟩)
        have f2 := ap (L' + 1 + 1) _ (by k_mem) (by omega) (.inl ⟨_, by assumption⟩)
        have f3 := ap (L' + 1 + 1 + 1) _ (by k_mem) (by omega) (.inl ⟨_, by assumption⟩)
        have f4 := ap 187 _ (by k_mem) (by omega) (.inr ⟨_, rfl⟩)
        clear P9 o9 s9 N9 ap
        k_steps
        show LeaveT _ _ _ _ _ _ _ _ _ _ _
        exact ⟨_, _, _, _, T₁.trans (by assumption), by k_asm, by k_asm, fun h₁ T₂ F₂ N₂ B₂ => hret _ _ _ _ (same_fr T₂ F₂) (same_news T₂ (two_news N₂ (by k_mem) (by k_mem)))⟩
  · have rb := rowB hz hza hv s0 s1
    refine rows_bad (L := L') (g := g') (by k_asm) (by assumption) (by assumption) (by exact rfl) (by exact rfl) (by decide) (by exact rfl) (fun _ => by exact rfl) (fun _ => by exact rfl) (fun _ => by exact rfl) ?_
    walk1
    refine ⟨_, _, _, _, _, rfl, by exact rfl, by k_asm, by k_asm, by k_updF, by k_mem, by exact Nat.le_of_ble_eq_true rfl, ?_, ?_⟩
    · intro s₁ I D C hI i v h₀' news h tk oI oD oC ok E' hv' hInv off F₁ N₁ dk hC hDc hIc
      obtain ⟨B₁, T₁, D₁, U₁, hN⟩ := hInv
      have X₁ : (hd.heap_39 w.params).In h₀' := XB.keeps B₁.stays
      have TT₁ := TB.keeps B₁.stays
      have C₁ : CodeHd h₀' 189 187 := C9.keeps B₁.stays
      rcases hN with ⟨rfl, rfl⟩ | ⟨hi0, c', oc, vs', t', rfl, d1, d2, l2⟩
      · have o := off (187, tabObj #[]) (by k_mem)
        have o1 : @Ne Nat 187 I := o.1
        have o2 : @Ne Nat 187 D := o.2.1
        have o3 : @Ne Nat 187 C := o.2.2.1
        have o4 : @Ne Nat 187 (C + 1) := o.2.2.2
        simp only [List.getElem?_toArray, List.getElem?_cons_zero, List.getElem?_cons_succ, Option.some.injEq] at hv'
        subst hv'
        k_steps
        exact row_new T₁ D₁ U₁ off (by assumption) (by k_asm) (by assumption) (by k_asm) (by assumption) (by assumption) (Hid.out (by assumption))
      · dsimp only at off N₁
        match i, hi0, hv' with
        | 0, hi0, hv' => exact absurd rfl hi0
        | k + 1, _, hv' => simp at hv'
    · intro h₀' news h tk D hInv F₁ N₁ hL
      have hL' : h.IsList D [Value.bool true].toArray := hL
      clear hL
      obtain ⟨B₁, T₁, D₁, U₁, hN⟩ := hInv
      have X₁ : (hd.heap_39 w.params).In h₀' := XB.keeps B₁.stays
      have TT₁ := TB.keeps B₁.stays
      have C₁ : CodeHd h₀' 189 187 := C9.keeps B₁.stays
      rcases hN with ⟨h0, _⟩ | ⟨_, c', oc, vs', t', rfl, d1, d2, l2⟩
      · simp at h0
      · dsimp only at N₁
        (try k_lt l2)
        k_steps
        (rename OptAt _ _ (ltF _ _ _) => o9; rename SmallO (ltF _ _ _) => s9; rename News _ _ _ (_ ++ _) => N9)
        obtain ⟨D9, d, rfl, hd9, P9, x9, y9⟩ := g_open o9 s9 (by omega) (by omega)
        obtain ⟨D0, O0, N0', P0, ap⟩ := pt_entry P9 N9 (by k_mem)
        have f1 := ap (L' + 1) _ (by k_mem) (by omega) (.inl ⟨_, by assumption⟩)
        have f2 := ap (L' + 1 + 1) _ (by k_mem) (by omega) (.inl ⟨_, by assumption⟩)
        have f3 := ap (L' + 1 + 1 + 1) _ (by k_mem) (by omega) (.inl ⟨_, by assumption⟩)
        have f4 := ap 187 _ (by k_mem) (by omega) (.inr ⟨_, rfl⟩)
        clear P9 o9 s9 N9 ap
        k_steps
        show LeaveT _ _ _ _ _ _ _ _ _ _ _
        exact ⟨_, _, _, _, T₁.trans (by assumption), by k_asm, by k_asm, fun h₁ T₂ F₂ N₂ B₂ => hret _ _ _ _ (same_fr T₂ F₂) (same_news T₂ (two_news N₂ (by k_mem) (by k_mem)))⟩
end Mine
end
section
open PySem PySem.W PySem.Spec PySem.Calls PyProof.Rows
set_option maxRecDepth 100000
namespace Mine
theorem LawAt.zlt {t r par zz a : Int} (h : LawAt t r par zz a) : (pN - zz) % pN < 1048576 := by
  rw [h.hzz]; have := h.a1; omega
/-- law_none, the ledger cut to what it wants -/
theorem c_none0 {w : World} {loose mean mg mb} {Bx Rw : Addr} {vs : List Value} {ns : List Int} {at' : Int} {ta : Tok} {n1 n2 : Nat} {t r par zz a' sv : Int} {t0 tp ts : Tok} {ps : Array Value} {news : List (Addr × Obj)}
    {dp un : Nat} {gd : Option (List Code)} {cn : Str} {cs : Scope} {a : Addr} {ccd : Value} {cl : List (Str × Addr)} {A₀ : Around} {base h₀ : Heap} {L : Addr} {m : Str → Option Value} {s : Shared}
    {Q E : Value → Shared → Prop} (B : Below A₀ base [] h₀) (F : Fr h₀ L s.heap m) (X : (hd.heap_39 w.params).In h₀) (N : News h₀ L s.heap news) (T : Top topProg loose mean mg mb h₀) (hk : cs.kind = .function)
    (XB : (hd.heap_39 w.params).In base) (TB : Top topProg loose mean mg mb base) (C9 : CodeHd base 189 187)
    (m1 : (Bx, listOf #[.ref Rw, .int at' ta] n1) ∈ news) (m2 : (Rw, listOf vs.toArray n2) ∈ news) (m3 : (187, tabObj #[]) ∈ news) (m4 : (192, tabObj ps) ∈ news)
    (q1 : @Ne Nat Bx Rw) (q2 : @Ne Nat Bx 187) (q3 : @Ne Nat Bx 192) (q4 : @Ne Nat Rw 187) (q5 : @Ne Nat Rw 192)
    (hi : IntsAre vs ns) (LA : LawAt t r par zz a') (hlen : ns.length ≤ 64) (ha0 : 0 ≤ at') (ha1 : at' < 900) (hv : par = 0 ∨ par = 1) (s0 : 1 ≤ sv) (s1 : sv ≤ 1000) (hdp : dp + 80 < recursionLimit) (hu : un + 8 * 80 < cLine)
    (hret : ∀ (h' : Heap) (tk' : Nat) (ps1 ps2 : Array Value), Fr h₀ L h' m → News h₀ L h' [(187, tabObj ps1), (192, tabObj ps2)] → Q (.bool true) { s with heap := h', toks := tk' }) :
    wpAny (model PySem.Challenge.rw_vj0008_01.row.prog w) (ktrTop dp un gd cn cs L a ccd cl []) (call (.ref 190) [.ref Bx, .bytes (octF zz) t0, .int par tp, .int sv ts]) Q E s := by
  refine c_none Bx Rw vs ns at' ta n1 n2 zz par sv t0 tp ts ps hi hlen ha0 ha1 LA.hz LA.zlt hv s0 s1 B F X ?_ T hk q1 q2 q3 q4 q5 XB TB C9 hdp hu hret
  intro p hp
  simp only [List.mem_cons, List.not_mem_nil, or_false] at hp
  rcases hp with rfl | rfl | rfl | rfl
  · exact N _ m1
  · exact N _ m2
  · exact N _ m3
  · exact N _ m4
theorem post_true (ns : List Int) : PySem.Challenge.rw_vj0008_01.row.claim.post [ofPy (PyData.list (List.map PyData.int ns))] (WData.bool true) [ofPy (PyData.list (List.map PyData.int ns))] = true := by
  wrow_post
end Mine
end
section
open PySem PySem.W PySem.Spec PySem.Calls PyProof.Rows
set_option Elab.async false
set_option maxRecDepth 100000
set_option maxHeartbeats 1000000
namespace Mine
local macro_rules | `(tactic| bits_by_make) => `(tactic| first | with_reducible assumption | exact bits_P | exact bits_N | exact bits_gX | exact bits_gY | ((with_reducible apply PySem.intBits_pow_le); bits_by_make))
local macro_rules | `(tactic| walk_at "binaryOp Mod int int") => `(tactic| (k_here; (with_reducible refine mod_h ?ka ?kb ?_); (case ka => decide); (case kb => (first | exact Nat.le_trans bits_P (by decide) | exact Nat.le_trans bits_N (by decide) | (exact Nat.le_trans (PySem.intBits_le_64 (by decide) (by decide)) (by decide)))); intro v' t' tk' hv' hb'; (try dsimp only)))
local macro_rules | `(tactic| walk_at "binaryOp Pow int int") => `(tactic| (k_here; (with_reducible first | refine' pow_h2 ?kc ?kd ?_ | refine' pow_h3 ?kc ?kd ?_ | refine' pow_h4 ?kc ?kd ?_); (case kc => bits_by_make); (case kd => decide); intro t' tk'; (try dsimp only)))
local macro_rules | `(tactic| walk_at "binaryOp Mult int int") => `(tactic| (k_here; (with_reducible refine mul_h ?kc ?_); (case kc => mul_fits); intro t' tk'; (try dsimp only)))
local macro_rules | `(tactic| walk_at "binaryOp Add int int") => `(tactic| (k_here; (with_reducible refine add_h ?_); intro t' tk'; (try dsimp only)))
local macro_rules | `(tactic| walk_at "binaryOp Sub int int") => `(tactic| (k_here; (with_reducible refine sub_h ?_); intro t' tk'; (try dsimp only)))
local macro_rules | `(tactic| walk_at "binaryOp Mod int int") => `(tactic| (k_here; (with_reducible show wpAny _ _ (binaryOp Operator.Mod (Value.int _ _) (Value.int 2 _)) _ _ _); (with_reducible refine mod_2 ?_); intro v' t' tk' hv' hb' hb2'; (try dsimp only)))
local macro_rules | `(tactic| walk_at "binaryOp FloorDiv int int") => `(tactic| (k_here; (with_reducible show wpAny _ _ (binaryOp Operator.FloorDiv (Value.int _ _) (Value.int 2 _)) _ _ _); (with_reducible refine half_s ?ka ?_); (case ka => omega); intro v' t' tk' hv' hb' hb2' hb3'; (try dsimp only)))
local macro_rules | `(tactic| k_mem) => `(tactic| assumption)
local macro_rules | `(tactic| walk_at "call builtin:pow") => `(tactic| (k_here; (with_reducible refine' call_pow3_h ?_ ?_ ?_ ?_); (first | decide | decide +kernel | omega); (first | decide | decide +kernel | omega); (first | exact bits_P | exact bits_N); intro v' t' tk' hv' hb'; (try dsimp only)))
local macro_rules | `(tactic| walk_at "call builtin:pow") => `(tactic| (k_here; (with_reducible refine' call_pow3_P ?_ ?_); (first | decide | decide +kernel | omega); intro v' t' tk' hv' hb' hs'; (try dsimp only)))
local macro_rules | `(tactic| walk_at "binaryOp Mod int int") => `(tactic| (k_here; (with_reducible refine mod_hP ?_); intro v' t' tk' hv' hb' hs'; (try dsimp only)))
local macro_rules | `(tactic| walk_at "call ref") => `(tactic| (k_here; (with_reducible show wpAny _ _ (call (Value.ref 143) [_, _]) _ _ _); k_dflt (refine goes_use (by k_asm) (by k_asm) (by k_asm) (by k_asm) (by k_asm) (by first | exact rfl | assumption) (c_sum _ _ _ _ _ (by first | with_reducible assumption | assumption | (refine OptAt.mono (by assumption) ?_; intro q hq; (repeat (first | exact hq | apply List.mem_append_right | apply List.mem_cons_of_mem)))) (by first | with_reducible assumption | assumption | (refine OptAt.mono (by assumption) ?_; intro q hq; (repeat (first | exact hq | apply List.mem_append_right | apply List.mem_cons_of_mem)))) (by with_reducible assumption) (by with_reducible assumption)) (by ktr_room) (by ktr_units) ?_; k_whole; intro v9' tl9' h' tk' F' N' o9' s9'; (try dsimp only); (try k_fold))))
local macro_rules | `(tactic| walk_at "call ref") => `(tactic| (k_here; (with_reducible show wpAny _ _ (call (Value.ref 150) [_, Value.int _ _]) _ _ _); k_dflt (refine goes_use (by k_asm) (by k_asm) (by k_asm) (by k_asm) (by k_asm) (by first | exact rfl | assumption) (c_times _ _ _ _ _ (by first | with_reducible assumption | assumption | (refine OptAt.mono (by assumption) ?_; intro q hq; (repeat (first | exact hq | apply List.mem_append_right | apply List.mem_cons_of_mem)))) (by with_reducible assumption) (by first | with_reducible assumption | omega)) (by ktr_room) (by ktr_units) ?_; k_whole; intro v9' tl9' h' tk' F' N' o9' s9'; (try dsimp only); (try k_fold))))
local macro_rules | `(tactic| walk_at "call ref") => `(tactic| (k_here; (with_reducible show wpAny _ _ (call (Value.ref 157) [Value.int _ _]) _ _ _); k_dflt (refine goes_use (by k_asm) (by k_asm) (by k_asm) (by k_asm) (by k_asm) (by first | exact rfl | assumption) (c_octets2 _ _ _ (by with_reducible assumption)) (by ktr_room) (by ktr_units) ?_; k_whole; intro t' h' tk' F' N'; (try dsimp only); (try k_fold))))
local macro_rules | `(tactic| walk_at "call ref") => `(tactic| (k_here; (with_reducible show wpAny _ _ (call (Value.ref 171) [Value.int _ _, Value.int _ _]) _ _ _); k_dflt (refine goes_use (by k_asm) (by k_asm) (by k_asm) (by k_asm) (by k_asm) (by first | exact rfl | assumption) (c_lifted _ _ _ _ _ (by with_reducible assumption)) (by ktr_room) (by ktr_units) ?_; k_whole; intro v9' tl9' h' tk' F' N' o9' s9'; (have N' := news_tail N'); (rcases optAt_cases o9' with ⟨e1', e2'⟩ | ⟨D9', p9', e1', e2', P9'⟩); (all_goals (subst e1'; (have e3' := Hid.mk e2'); clear e2' o9')); (all_goals (try dsimp only)); (all_goals (try k_fold)))))
local macro_rules | `(tactic| walk_at "call ref") => `(tactic| (k_here; (with_reducible show wpAny _ _ (call (Value.ref 136) [Value.ref _, Value.int _ _]) _ _ _); k_dflt (refine goes_use (by k_asm) (by k_asm) (by k_asm) (by k_asm) (by k_asm) (by first | exact rfl | assumption) (c_take _ _ _ _ _ _ _ _ _ _ _ _ (by k_mem) (by with_reducible assumption) (by omega) (fun t' => by k_upd) (fun t' => by k_mem) (by omega) (by omega) (by omega) (by omega)) (by ktr_room) (by ktr_units) ?_; k_whole; intro v' t' ta' h' tk' F' N' hv' hb'; (try dsimp only at N'); (try dsimp only); (try k_fold))))
local macro_rules | `(tactic| walk_at "exec For Name Call cons nil") => `(tactic| (k_here; (rename Fr _ _ _ _ => lF'); (with_unfolding_all refine' For_invVF lF' ?k1 ?k2 ?_; (case k1 => exact rfl); (case k2 => exact rfl); k_whole)))
local macro_rules | `(tactic| walk_at "pyIter ref") => `(tactic| (k_here; (with_reducible show wpAny _ _ (pyIter (Value.ref _)) (fun it s₂ => LoopAtV _ _ _ _ _ _ _ _ _ it s₂) _ _); (rename Fr _ _ _ _ => lF'); (rename News _ _ _ _ => lN'); (rename IsRange _ _ _ _ _ _ _ _ => rgX); (with_unfolding_all refine law_loop (by rfl) rgX lF' lN' (by assumption) (by rfl) (by rfl) (by omega) ?_ ?_); (clear lF' lN'); (intro kO kR kTR kT kTT kK kTK kU kH kTk kOwn kPre kB1 kB2 kLt kCell kOff kInv kFr kNews; (try k_fold)); rotate_left; (intro kO kT kTT kU kH kTk kFr kNews; (try k_fold)); rotate_left))
local macro_rules | `(tactic| walk_at "call builtin:pow") => `(tactic| (k_here; (with_reducible refine' call_pow3_N ?_ ?_); (first | decide | decide +kernel | omega); intro v' t' tk' hv' hs'; (try dsimp only)))
local macro_rules | `(tactic| walk_at "binaryOp Mod int int") => `(tactic| (k_here; (with_reducible refine mod_hN ?_); intro v' t' tk' hv' hs'; (try dsimp only)))
local macro_rules | `(tactic| walk_at "InvEndN") => `(tactic| (with_unfolding_all refine law_turn_end (by k_asm) (by k_asm) (by assumption) (by omega) (by omega)))
local macro_rules | `(tactic| walk_at "callWith ref") => `(tactic| (k_here; (with_reducible show wpAny _ _ (callWith _ (Value.ref 178) _ _ _) _ _ _); k_dflt (refine callWith_K (by k_asm) (by k_is) ?_; k_whole)))
local macro_rules | `(tactic| walk_at "exec For Name List cons nil") => `(tactic| (k_here; (rename Fr _ _ _ _ => lF'); (with_unfolding_all refine' For_turns lF' ?_; k_whole)))
local macro_rules | `(tactic| walk_at "exec For Name List cons nil") => `(tactic| (k_here; (with_reducible show wpAny _ _ (exec (Stmt.For (Expr.Name (Str.ofString "odd") _) _ _ _ _) _) _ _ _); (have LA' := lawAt_mk (by with_reducible assumption) (by with_reducible assumption) (by with_reducible assumption) (by with_reducible assumption) (by omega) (by omega) (by omega) (by omega)); (rename News _ _ _ _ => lN'); (with_reducible have lN' := news_cut lN'); (rename Fr _ _ _ _ => lF'); (with_unfolding_all refine' For_turns lF' ?_; k_whole)))
local macro_rules | `(tactic| walk_at "call ref") => `(tactic| (k_here; (with_reducible show wpAny _ _ (call (Value.ref 185) [Value.int _ _, Value.int _ _, Value.int _ _, Value.int _ _, Value.int _ _]) _ _ _); k_dflt ((refine goes_use (by k_asm) (by k_asm) (by k_asm) (by k_asm) (by k_asm) (by first | exact rfl | assumption) (c_due _ _ _ _ _ _ _ _ _ _ _ (by with_reducible assumption) (by omega) (by omega) (by omega)) (by ktr_room) (by ktr_units) ?_; k_whole; intro v9' tl9' h' tk' F' N' o9' s9'); (rcases optAt_cases o9' with ⟨e1', e2'⟩ | ⟨D9', p9', e1', e2', P9'⟩); ((subst e1'; (have e3' := Hid.mk e2'); (have N' := news_tail N'); (have hB9' := LawAt.bad (by with_reducible assumption) e3' (by omega) (by omega) (by omega)); clear e2' o9'); (try dsimp only); (try k_fold)); rotate_left; (subst e1'; (have e3' := Hid.mk e2'); (have s8' := s9' _ e2'); (have x9' := s8'.1); (have y9' := s8'.2); (have hG9' := LawAt.good (by with_reducible assumption) e3' (by omega) (by omega) (by omega)); (have hE9' := Hid.mk (LawAt.dec (by with_reducible assumption) e3' (by omega))); (obtain ⟨D0', O0', N', P0', n1', n2', n3', n4', n5'⟩ := due_entry P9' N' (by with_reducible assumption) (by with_reducible assumption) (by with_reducible assumption) (by k_mem) (by k_mem) (by k_mem) (by k_mem) (by k_mem) (by k_mem) (by (refine neN ?_; (try dsimp only); omega)) (by (refine neN ?_; (try dsimp only); omega)) (by (refine neN ?_; (try dsimp only); omega)) (by (refine neN ?_; (try dsimp only); omega)) (by (refine neN ?_; (try dsimp only); omega))); clear P9' e2' o9' s9' s8'; (try dsimp only); (try k_fold)); rotate_left)))
local macro_rules | `(tactic| walk_at "call ref") => `(tactic| (k_here; (with_reducible show wpAny _ _ (call (Value.ref 164) [Value.ref _]) _ _ _); k_dflt (refine goes_use (by k_asm) (by k_asm) (by k_asm) (by k_asm) (by k_asm) (by first | exact rfl | assumption) (c_keyP _ _ _ _ (by first | with_reducible assumption | (refine PtAt.mono (by assumption) ?_; intro q hq; (repeat (first | exact hq | apply List.mem_append_right | apply List.mem_cons_of_mem)))) (by with_reducible assumption) (by with_reducible assumption)) (by ktr_room) (by ktr_units) ?_; k_whole; intro t' h' tk' F' N'; (try dsimp only); (try k_fold))))
local macro_rules | `(tactic| walk_at "call ref") => `(tactic| (k_here; (with_reducible show wpAny _ _ (call (Value.ref 128) [Value.bytes _ _, Value.ref _]) _ _ _); k_dflt (refine c_toldO (by k_asm) (by k_asm) (by k_asm) (by k_asm) (by k_asm) (by first | exact rfl | assumption) (by exact List.Mem.head _) (by with_reducible assumption) (by ktr_room) (by ktr_units) ?_; k_whole; intro t' h' tk' F' N'; (try dsimp only); (try k_fold))))
local macro_rules | `(tactic| walk_at "binaryOp Add bytes bytes") => `(tactic| (k_here; (with_reducible refine add_mark (by with_reducible assumption) ?_); intro t' k'; (try dsimp only)))
local macro_rules | `(tactic| walk_at "compareOp NotEq bytes bytes") => `(tactic| (k_here; (with_reducible refine ne_same ?_)))
local macro_rules | `(tactic| walk_at "call ref") => `(tactic| (k_here; (with_reducible show wpAny _ _ (call (Value.ref 114) [Value.bytes _ _]) _ _ _); k_dflt (refine goes_use (by k_asm) (by k_asm) (by k_asm) (by k_asm) (by k_asm) (by first | exact rfl | assumption) (c_compress2 _ _ _ _ (by with_reducible assumption) (by with_reducible assumption)) (by ktr_room) (by ktr_units) ?_; k_whole; intro t' h' tk' F' N'; (try dsimp only); (try k_fold))))
local macro_rules | `(tactic| walk_at "call ref") => `(tactic| (k_here; (with_reducible show wpAny _ _ (call (Value.ref 121) [Value.bytes _ _]) _ _ _); k_dflt (refine goes_use (by k_asm) (by k_asm) (by k_asm) (by k_asm) (by k_asm) (by first | exact rfl | assumption) (c_decompress2 _ _ _ _ (by with_reducible assumption) (by with_reducible assumption)) (by ktr_room) (by ktr_units) ?_; k_whole; intro t' h' tk' F' N'; (try dsimp only); (try k_fold))))
local macro_rules | `(tactic| walk_at "call ref") => `(tactic| (k_here; (with_reducible show wpAny _ _ (call (Value.ref 128) [Value.bytes _ _, Value.ref _]) (fun v s' => LeaveK _ _ _ _ _ v s') _ _); k_dflt (refine goesE_use (by k_asm) (by k_asm) (by k_asm) (by k_asm) (by k_asm) (by first | exact rfl | assumption) (by with_reducible assumption) (by first | (exact c_rec_b2 _ _ _ _ _ _ _ _ _ _ (List.Mem.head _)) | (exact c_rec_bm1 _ _ _ _ _ _ _ _ _ _ (List.Mem.head _)) | (exact c_rec_b27 _ _ _ _ _ _ _ _ _ _ (List.Mem.head _)) | (refine c_recE _ _ _ _ _ _ _ _ _ _ _ (List.Mem.head _) ?_; first | with_reducible assumption | exact LawAt.s0 (by with_reducible assumption) (by omega))) (by ktr_room) (by ktr_units) ?_; k_whole); intro e' t' vs' g' h' tk' FX' UX' RX'; (try dsimp only)))
local macro_rules | `(tactic| walk_at "GoesE") => `(tactic| (unfold GoesE; intro dp un gd cn cs a0 ccd cl outer A₀ base h₀ L m s Q E B F X N T hk DD hdp hu hret; (have hret' : HretE h₀ L m cn cs a0 ccd cl outer base _ s E := hret); clear hret; refine wpAny_call ?_; k_dflt (refine kla_code (by k_asm) (by k_asm) (by k_asm) (by k_asm) (by k_asm) (by exact rfl) (by exact rfl) (by assumption) (by k_mem) (by exact codeRec_news (by k_asm) (by k_mem) (by assumption) (by assumption)) (by ktr_room) (by exact rfl) (by exact locs rfl) ?_ (by exact rfl) (by exact rfl) (by exact rfl) (by decide); k_whole); intro g' L' h' FG' F' N' B' X' T'; (try dsimp only); (try k_fold); (have DD' := ktsD_of (env := envX cn cs L a0 ccd cl) DD rfl FG')))
local macro_rules | `(tactic| walk_at "leaving") => `(tactic| (refine leave_onX (by exact rfl) (by with_reducible assumption) (by with_reducible assumption) (by with_reducible assumption) (by with_reducible assumption) ?_; intro h9 R9 U9; (rename HretE _ _ _ _ _ _ _ _ _ _ _ _ _ => hB); exact hB _ _ _ _ _ _ (by with_reducible assumption) U9 (raisedS_mono R9 (by intro q hq; (repeat (first | exact hq | apply List.mem_cons_of_mem))))))
local macro_rules | `(tactic| walk_at "leaving ref") => `(tactic| (refine leave_onX (by exact rfl) (by with_reducible assumption) (by with_reducible assumption) (by with_reducible assumption) (by with_reducible assumption) ?_; intro h9 R9 U9; (rename HretE _ _ _ _ _ _ _ _ _ _ _ _ _ => hB); exact hB _ _ _ _ _ _ (by with_reducible assumption) U9 (raisedS_mono R9 (by intro q hq; (repeat (first | exact hq | apply List.mem_cons_of_mem))))))
local macro_rules | `(tactic| walk_at "call ref") => `(tactic| (k_here; (with_reducible show wpAny _ _ (call (Value.ref 178) [Value.ref _]) _ _ _); k_dflt (refine c_bad0 (by k_asm) (by k_asm) (by k_asm) (by k_asm) (by k_asm) (by first | exact rfl | assumption) (by k_asm) (by k_asm) (by k_mem) (by ktr_room) (by ktr_units) ?_ ?_; k_whole); rotate_left; intro h' tk' F' N'; (try dsimp only); (try k_fold); rotate_left))
local macro_rules | `(tactic| wrow_close) => `(tactic| (k_dflt (exact goodW_bool (by k_asm) (by assumption) (fun _ => by exact rfl) (post_true _))))
local macro_rules | `(tactic| walk_at "call ref") => `(tactic| (k_here; (with_reducible show wpAny _ _ (call (Value.ref 190) [Value.ref _, Value.bytes _ _, Value.int _ _, Value.int _ _]) _ _ _); k_dflt (refine c_none0 (by k_asm) (by k_asm) (by k_asm) (by k_asm) (by k_asm) (by first | exact rfl | assumption) (by k_asm) (by k_asm) (by assumption) (by k_mem) (by k_mem) (by k_mem) (by k_mem) (by (refine neN ?_; (try dsimp only); omega)) (by (refine neN ?_; (try dsimp only); omega)) (by (refine neN ?_; (try dsimp only); omega)) (by (refine neN ?_; (try dsimp only); omega)) (by (refine neN ?_; (try dsimp only); omega)) (by with_reducible assumption) (by with_reducible assumption) (by omega) (by omega) (by omega) (by omega) (by omega) (by omega) (by ktr_room) (by ktr_units) ?_; k_whole); intro h' tk' ps1' ps2' F' N'; (try dsimp only); (try k_fold)))
local macro_rules | `(tactic| walk_at "eval Name") => `(tactic| (k_here; name_kind "globalImplicit"; (with_reducible first | refine fKc (by decide +kernel) (by k_dflt k_asm) (by k_dflt k_asm) (by k_dflt k_asm) (by k_dflt k_is) ?_ | refine fKo (by decide +kernel) (by k_dflt k_asm) (by k_dflt k_asm) (by k_dflt k_asm) (by k_dflt k_is) ?_ | refine fK (by decide +kernel) (by k_dflt k_asm) (by k_dflt k_asm) (by k_dflt k_asm) (by k_dflt k_is) ?_); k_whole))
local macro_rules | `(tactic| walk_at "eval Name") => `(tactic| (k_here; name_kind "cell"; (with_reducible first | refine fCc (by decide +kernel) (by k_dflt (exact rfl)) (by k_dflt k_asm) (by k_dflt k_mem) (by k_dflt k_asm) ?_ | refine fC (by decide +kernel) (by k_dflt (exact rfl)) (by k_dflt k_asm) (by k_dflt k_mem) (by k_dflt k_asm) ?_); k_whole))
local macro_rules | `(tactic| walk_at "eval Name") => `(tactic| (k_here; name_kind "local"; (with_reducible first | refine fLc (by decide +kernel) (by k_dflt k_asm) (by k_dflt (exact rfl)) ?_ | refine fLo (by decide +kernel) (by k_dflt k_asm) (by k_dflt (exact rfl)) ?_ | refine fL (by decide +kernel) (by k_dflt k_asm) (by k_dflt (exact rfl)) ?_); k_whole))
local macro_rules | `(tactic| walk_at "callWith ref") => `(tactic| (k_here; (with_reducible first | show wpAny _ _ (callWith _ (Value.ref 136) _ _ _) _ _ _ | show wpAny _ _ (callWith _ (Value.ref 143) _ _ _) _ _ _ | show wpAny _ _ (callWith _ (Value.ref 150) _ _ _) _ _ _ | show wpAny _ _ (callWith _ (Value.ref 157) _ _ _) _ _ _ | show wpAny _ _ (callWith _ (Value.ref 164) _ _ _) _ _ _ | show wpAny _ _ (callWith _ (Value.ref 171) _ _ _) _ _ _ | show wpAny _ _ (callWith _ (Value.ref 178) _ _ _) _ _ _ | show wpAny _ _ (callWith _ (Value.ref 185) _ _ _) _ _ _ | show wpAny _ _ (callWith _ (Value.ref 190) _ _ _) _ _ _ | show wpAny _ _ (callWith _ (Value.ref 128) _ _ _) _ _ _ | show wpAny _ _ (callWith _ (Value.ref 114) _ _ _) _ _ _ | show wpAny _ _ (callWith _ (Value.ref 121) _ _ _) _ _ _ | show wpAny _ _ (callWith _ (Value.ref 107) _ _ _) _ _ _ | show wpAny _ _ (callWith _ (Value.ref 100) _ _ _) _ _ _ | show wpAny _ _ (callWith _ (Value.ref 93) _ _ _) _ _ _ | show wpAny _ _ (callWith _ (Value.ref 86) _ _ _) _ _ _ | show wpAny _ _ (callWith _ (Value.ref 79) _ _ _) _ _ _ | show wpAny _ _ (callWith _ (Value.ref 72) _ _ _) _ _ _ | show wpAny _ _ (callWith _ (Value.ref 65) _ _ _) _ _ _ | show wpAny _ _ (callWith _ (Value.ref 58) _ _ _) _ _ _ | show wpAny _ _ (callWith _ (Value.ref 51) _ _ _) _ _ _ | show wpAny _ _ (callWith _ (Value.ref 28) _ _ _) _ _ _ | show wpAny _ _ (callWith _ (Value.ref 21) _ _ _) _ _ _); (with_reducible refine callWith_K (by k_dflt k_asm) (by k_dflt k_is) ?_ (by k_dflt (exact rfl)) (by k_dflt (exact rfl))); k_whole))
local macro_rules | `(tactic| walk_at "subscriptTail Name Constant ref int") => `(tactic| (k_here; (with_reducible show wpAny _ _ (subscriptTail _ _ (Value.ref _) (Value.int 0 _)) _ _ _); k_dflt (refine ptC0 (by with_reducible assumption) (by k_asm) (by k_asm) (by k_asm) (by intro q hq; (repeat (first | exact hq | apply List.mem_append_right | apply List.mem_cons_of_mem))) ?_); intro t'; (try dsimp only)))
local macro_rules | `(tactic| walk_at "subscriptTail Name Constant ref int") => `(tactic| (k_here; (with_reducible show wpAny _ _ (subscriptTail _ _ (Value.ref _) (Value.int 1 _)) _ _ _); k_dflt (refine ptC1 (by with_reducible assumption) (by k_asm) (by k_asm) (by k_asm) (by intro q hq; (repeat (first | exact hq | apply List.mem_append_right | apply List.mem_cons_of_mem))) ?_); intro t'; (try dsimp only)))
local macro_rules | `(tactic| k_mem) => `(tactic| with_reducible first | assumption | exact mem0 | exact mem1 | exact mem2 | exact mem3 | exact mem4 | exact mem5 | exact mem6 | exact mem7 | exact mem8 | exact mem9 | exact mem10 | exact mem11 | exact mem12 | exact mem13 | exact mem14 | exact mem15 | exact mem16 | exact mem17 | exact mem18 | exact mem19 | exact mem20 | exact mem21 | exact mem22 | exact mem23 | exact mem24 | exact mem25 | exact mem26 | exact mem27 | exact mem28 | exact mem29)
local macro_rules | `(tactic| ktr_room) => `(tactic| first | ((simp only [depth_under_make, depth_under_kw, depth_in1, depth_deeper, depth_caller, recursionLimit]); decide) | omega)
local macro_rules | `(tactic| ktr_units) => `(tactic| first | ((have hcL9 := cLine_is); (simp only [units_in1, units_deeper, Around.mark_units, units_caller, cLine] at hcL9 ⊢); omega) | omega)
theorem slimF {h₀ h : Heap} {L : Addr} {m : Str → Option Value} {x : Str} {v : Value} (F : Fr h₀ L h m) (e : m x = some v) {P : Prop} (k : ∀ m₁ : Str → Option Value, Fr h₀ L h (fun y => if y = x then some v else m₁ y) → P) : P :=
  k m (by
    have e2 : (fun y => if y = x then some v else m y) = m := by
      funext y
      by_cases hy : y = x
      · simp [hy, e]
      · simp [hy]
    rw [e2]; exact F)
set_option maxHeartbeats 16000000
theorem X : PySem.Challenge.rw_vj0008_01.Holds := hd (by
  k_go0
  (rename CellsAre _ _ _ => X0')
  clear X0'
  iterate 6 (rename _ = Data.cell _ => e9'; (have e8' := Hid.mk (show _ = Data.cell none from e9')); clear e9')
  iterate 6 (rename Hid _ => e9'; (have e8' := e9'.out); clear e9')
  (rename Fr _ _ _ _ => F9')
  refine slimF F9' (x := Str.ofString "script") (by exact rfl) ?_
  clear F9'
  intro m9' F9'
  (rename Heap.CodeRec _ _ _ => c9'); (rename Dflts _ _ _ _ _ _ => d9'); clear c9' d9'
  dsimp only
  k_steps)
end Mine
end
theorem PySem.Challenge.cw_vj0008_01_holds : PySem.Challenge.rw_vj0008_01.Holds := by
  exact Mine.X
