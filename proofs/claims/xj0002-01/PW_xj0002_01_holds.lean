import PyProof.Rows.All
import PyProof.Tail
import Wide.All
import OpenK.AllK
import Wide.FinOn
import PySem.Challenge.RW_xj0002_01
open PySem PySem.W PyProof.Rows
set_option Elab.async false
set_option linter.all false
namespace Mine
set_option maxRecDepth 100000 in
set_option maxHeartbeats 8000000 in
open_top hd for PySem.Challenge.rw_xj0002_01
end Mine
section
open PySem PySem.W PyProof.Rows PySem.Calls
namespace Mine
noncomputable abbrev LS : List Str := looseW hd.view_39 [Str.ofString "_quoted", Str.ofString "_paren_depth"]

/-- the call of `f` at `vs` gives back `r` over a ledger `news'` with `Out r news'` -/
def Con (w : World) (mean : ExcName → Option Value) (mg mb : Str → Option Value) (f : Addr) (vs : List Value) (news : List (Addr × Obj)) (dd uu : Nat) (Out : Value → List (Addr × Obj) → Prop) : Prop :=
  ∀ (dp un : Nat) (gd : Option (List Code)) (cn : Str) (cs : Scope) (a : Addr) (ccd : Value) (cl : List (Str × Addr)) (outer : List Env) (A₀ : Around) (base h₀ : Heap) (L : Addr) (m : Str → Option Value) (s : Shared)
    (Q E : Value → Shared → Prop),
    Below A₀ base outer h₀ → PyProof.Rows.Fr h₀ L s.heap m → (hd.heap_39 w.params).In h₀ → News h₀ L s.heap news → Top hd.view_39 LS mean mg mb h₀ → cs.kind = .function → dp + dd < recursionLimit → un + uu < cLine →
    (∀ r news' h' tk', Fr h₀ L h' m → News h₀ L h' news' → Out r news' → Q r { s with heap := h', toks := tk' }) →
    wpAny (model PySem.Challenge.rw_xj0002_01.row.prog w) (ktrTop dp un gd cn cs L a ccd cl outer) (call (.ref f) vs) Q E s
theorem sub_cons {α : Type} {a : α} {A B : List α} (h : ∀ p ∈ A, p ∈ B) : ∀ p ∈ a :: A, p ∈ a :: B := by
  intro p hp
  rcases List.mem_cons.mp hp with rfl | hp
  · exact .head _
  · exact .tail _ (h p hp)
theorem sub_skip {α : Type} {b : α} {A B : List α} (h : ∀ p ∈ A, p ∈ B) : ∀ p ∈ A, p ∈ b :: B := fun p hp => .tail _ (h p hp)
end Mine
end
section
open PySem PySem.W PyProof.Rows PySem.Calls
set_option maxRecDepth 100000
namespace Mine
abbrev tup2 (x y : Int) (t u : Tok) (n : Nat) : Obj := { cls := .type "tuple", data := .seq #[.int x t, .int y u] n }

theorem intBits_log (x : Int) (h : x ≠ 0) : Builtin.Int.intBits x = x.natAbs.log2 + 1 := by
  unfold Builtin.Int.intBits
  simp [h]

theorem noPy {a b : Int} (h : (Builtin.Int.intBits a : Int) - Builtin.Int.intBits b ≤ 4000) (hb : b ≠ 0) : Builtin.divisionGoesByPylong a b = false := by
  unfold Builtin.divisionGoesByPylong
  rw [intBits_log b hb] at h
  by_cases ha : a = 0
  · subst ha
    simp
  · rw [intBits_log a ha] at h
    simp only [beq_iff_eq, ha, hb, if_false, Bool.and_eq_false_iff, decide_eq_false_iff_not]
    right
    omega

theorem Con.use {w : World} {mean : ExcName → Option Value} {mg mb : Str → Option Value} {f : Addr} {vs : List Value} {news : List (Addr × Obj)} {dd uu : Nat} {Out : Value → List (Addr × Obj) → Prop}
    {dp un : Nat} {gd : Option (List Code)} {cn : Str} {cs : Scope} {a : Addr} {ccd : Value} {cl : List (Str × Addr)} {outer : List Env} {A₀ : Around} {base h₀ : Heap} {L : Addr} {m : Str → Option Value} {s : Shared}
    {Q E : Value → Shared → Prop} (C : Con w mean mg mb f vs news dd uu Out)
    (B : Below A₀ base outer h₀) (F : Fr h₀ L s.heap m) (X : (hd.heap_39 w.params).In h₀) (N : News h₀ L s.heap news) (T : Top hd.view_39 LS mean mg mb h₀) (hk : cs.kind = .function) (hd : dp + dd < recursionLimit) (hu : un + uu < cLine)
    (h : ∀ r news' h' tk', Fr h₀ L h' m → News h₀ L h' news' → Out r news' → Q r { s with heap := h', toks := tk' }) :
    wpAny (model PySem.Challenge.rw_xj0002_01.row.prog w) (ktrTop dp un gd cn cs L a ccd cl outer) (call (.ref f) vs) Q E s := C _ _ _ _ _ _ _ _ _ _ _ _ _ _ _ _ _ B F X N T hk hd hu h

theorem tup_ret {h₀ h' : Heap} {L : Addr} {m : Str → Option Value} {news x : List (Addr × Obj)} {s : Shared} {Q : Value → Shared → Prop} {D : Addr} {q r X Y : Int} {t u : Tok} {tk : Nat}
    (hret : ∀ r news' h' tk', Fr h₀ L h' m → News h₀ L h' news' → (∃ D t u, news' = (D, tup2 X Y t u 0) :: news ∧ r = .ref D ∧ ∀ p ∈ news, p.1 < D) → Q r { s with heap := h', toks := tk' })
    (F : Fr h₀ L h' m) (N : News h₀ L h' ((D, tup2 q r t u 0) :: x)) (hs : ∀ p ∈ news, p ∈ x) (hl : ∀ p ∈ news, p.1 < D) (e1 : q = X) (e2 : r = Y) : Q (.ref D) { s with heap := h', toks := tk } := by
  subst e1; subst e2
  refine hret _ ((D, tup2 q r t u 0) :: news) _ _ F (cb_drop N fun p hp => ?_) ⟨_, _, _, rfl, rfl, hl⟩
  rcases List.mem_cons.mp hp with rfl | hp
  · exact List.Mem.head _
  · exact List.Mem.tail _ (hs p hp)

theorem divmod_D {w : World} {A : Around} {E : Value → Shared → Prop} {s : Shared} {h₀ : Heap} {L : Addr} {m : Str → Option Value} {news : List (Addr × Obj)} {prog : Program} {a b : Int} {t u : Tok} {Q : Value → Shared → Prop} (F : Fr h₀ L s.heap m) (N : News h₀ L s.heap news) (hb : b ≠ 0)
    (hp : Builtin.divisionGoesByPylong a b = false)
    (h : ∀ D h' tk t u, Fr h₀ L h' m → News h₀ L h' ((D, tup2 (a.fdiv b) (a.fmod b) t u 0) :: news) → (∀ p ∈ news, p.1 < D) → Q (.ref D) { s with heap := h', toks := tk }) :
    wpAny (model prog w) A (call (.builtin "divmod") [.int a t, .int b u]) Q E s :=
  divmod_N F N hb (fun h' F' N' => h _ h' _ _ _ F' N' fun p hp => Heap.lt_size (N p hp).1) (Or.inl hp)


set_option maxHeartbeats 8000000 in
theorem div0 (w : World) (mean : ExcName → Option Value) (mg mb : Str → Option Value) (news : List (Addr × Obj)) (a b : Int) (t u v : Tok) (n : Int)
    (hb : 0 < b) (ha : 0 ≤ a) (hn : n = Builtin.Int.intBits b) (hs : (Builtin.Int.intBits a : Int) - n ≤ 4000) :
    Con w mean mg mb 38 [.int a t, .int b u, .int n v] news 1 8 (fun r n' => ∃ D t u, n' = (D, tup2 (a / b) (a % b) t u 0) :: news ∧ r = .ref D ∧ ∀ p ∈ news, p.1 < D) := by
  have hpy := noPy (hn ▸ hs) (by omega)
  have e1 : a.fdiv b = a / b := Int.fdiv_eq_ediv_of_nonneg a (by omega)
  have e2 : a.fmod b = a % b := Int.fmod_eq_emod_of_nonneg a (by omega)
  unfold Con
  w_top off
  k_with_none
  k_fill
  k_with "call builtin:divmod" => (k_here; k_dflt (refine' divmod_D ?k1 ?k2 ?k3 ?k4 ?_; (case k1 => k_asm); (case k2 => k_asm); (case k3 => omega); (case k4 => assumption); k_whole); intro D9 h9 tk9 t9 u9 F9 N9 l9; (try k_lt l9); (try k_sweep))
  intro dp un gd cn cs a0 ccd cl outer A₀ base h₀ L m s Q E B F X N T hk hd hu hret
  refine wpAny_call ?_
  k_dflt cell_enter
  k_steps
  all_goals exact hret _ _ _ _ (by k_asm) (by k_asm) ⟨_, _, _, by rw [e1, e2], rfl, by assumption⟩
end Mine
end
section
open PySem PySem.W PyProof.Rows PySem.Calls
set_option maxRecDepth 100000
namespace Mine

theorem bitOr_pp {x y : Int} (hx : 0 ≤ x) (hy : 0 ≤ y) : Builtin.bitOr x y = ((x.toNat ||| y.toNat : Nat) : Int) := by
  rw [bitOr_and, bitAnd_pp hx hy]
  have e := nat_or_add_and x.toNat y.toNat
  omega

theorem bitOr_shl {x y : Int} {k : Nat} (hx : 0 ≤ x) (hy : 0 ≤ y) (hl : y < 2 ^ k) : Builtin.bitOr (x * 2 ^ k) y = x * 2 ^ k + y := by
  obtain ⟨a, rfl⟩ := Int.eq_ofNat_of_zero_le hx
  obtain ⟨b, rfl⟩ := Int.eq_ofNat_of_zero_le hy
  have e : ((a : Int) * 2 ^ k) = ((a * 2 ^ k : Nat) : Int) := by
    rw [Int.natCast_mul, Int.natCast_pow]; rfl
  have hl' : b < 2 ^ k := by
    have : ((b : Nat) : Int) < ((2 ^ k : Nat) : Int) := by rw [Int.natCast_pow]; exact hl
    exact Int.ofNat_lt.mp this
  rw [e, bitOr_pp (Int.natCast_nonneg _) (Int.natCast_nonneg _), Int.toNat_natCast, Int.toNat_natCast]
  have h := Nat.shiftLeft_add_eq_or_of_lt hl' a
  rw [Nat.shiftLeft_eq] at h
  rw [← h, Int.natCast_add]

def Inv3 (A b q r : Int) : Prop := q * b + r = A ∧ r < b
theorem Inv3.step {A b q r : Int} (h : Inv3 A b q r) : Inv3 A b (q - 1) (r + b) ∨ ¬ r < 0 := by
  obtain ⟨h1, h2⟩ := h
  by_cases hr : r < 0
  · refine .inl ⟨?_, by omega⟩
    rw [Int.sub_mul, Int.one_mul]
    omega
  · exact .inr hr
theorem Inv3.step' {A b q r : Int} (h : Inv3 A b q r) (hr : r < 0) : Inv3 A b (q - 1) (r + b) := h.step.resolve_right (fun n => n hr)
theorem Inv3.fin {A b q r : Int} (h : Inv3 A b q r) (hr : ¬ r < 0) : q = A / b ∧ r = A % b := by
  obtain ⟨h1, h2⟩ := h
  have hb : 0 < b := by omega
  have e := (Int.ediv_emod_unique hb (a := A) (r := r) (q := q)).mpr ⟨by rw [Int.mul_comm]; omega, by omega, h2⟩
  exact ⟨e.1.symm, e.2.symm⟩

structure D3 (a12 a3 b b1 b2 n : Int) : Prop where
  hb : b = b1 * 2 ^ n.toNat + b2
  b20 : 0 ≤ b2
  b2l : b2 < 2 ^ n.toNat
  b10 : 0 < b1
  a0 : 0 ≤ a12
  al : a12 < b
  a30 : 0 ≤ a3
  a3l : a3 < 2 ^ n.toNat
  hn : n = Builtin.Int.intBits b1
  hl : n ≤ 4000

theorem pow_pos' (n : Int) : (0 : Int) < 2 ^ n.toNat := Int.pow_pos (by decide)

section
variable {a12 a3 b b1 b2 n : Int} (H : D3 a12 a3 b b1 b2 n)
include H
theorem D3.start1 (e : a12.fdiv (2 ^ n.toNat) = b1) : Inv3 (a12 * 2 ^ n.toNat + a3) b (1 * 2 ^ n.toNat - 1) (Builtin.bitOr ((a12 - b1 * 2 ^ n.toNat + b1) * 2 ^ n.toNat) a3 - (1 * 2 ^ n.toNat - 1) * b2) := by
  have hP := pow_pos' n
  have h := fdiv_fmod_facts a12 (2 ^ n.toNat)
  have hd : a12.fdiv (2 ^ n.toNat) * 2 ^ n.toNat ≤ a12 := by
    rw [Int.fdiv_eq_ediv_of_nonneg _ (Int.le_of_lt hP)]
    exact Int.ediv_mul_le _ (by omega)
  rw [e] at hd
  have hx : 0 ≤ a12 - b1 * 2 ^ n.toNat + b1 := by have := H.b10; omega
  rw [bitOr_shl hx H.a30 H.a3l]
  have hb := H.hb
  have al := H.al
  have b20 := H.b20
  have b2l := H.b2l
  have a3l := H.a3l
  generalize (2 : Int) ^ n.toNat = P at *
  subst hb
  have key : (1 * P - 1) * (b1 * P + b2) + ((a12 - b1 * P + b1) * P + a3 - (1 * P - 1) * b2) = a12 * P + a3 := by
    have e : P * (b1 * P) = b1 * P * P := Int.mul_comm _ _
    simp only [Int.sub_mul, Int.add_mul, Int.mul_add, Int.mul_sub, Int.one_mul, Int.mul_one]
    omega
  refine ⟨key, ?_⟩
  -- r = A - q b < b
  have h1 : a12 * P ≤ (b1 * P + b2 - 1) * P := Int.mul_le_mul_of_nonneg_right (by omega) (by omega)
  have h2 : (1 * P - 1) * (b1 * P + b2) = (b1 * P + b2 - 1) * P + P - (b1 * P + b2) := by
    simp only [Int.sub_mul, Int.add_mul, Int.mul_add, Int.mul_sub, Int.one_mul, Int.mul_one]
    rw [Int.mul_comm P (b1 * P), Int.mul_comm P b2]
    omega
  omega
theorem D3.start2 : Inv3 (a12 * 2 ^ n.toNat + a3) b (a12 / b1) (Builtin.bitOr ((a12 % b1) * 2 ^ n.toNat) a3 - (a12 / b1) * b2) := by
  have hP := pow_pos' n
  have b10 := H.b10
  have hx : 0 ≤ a12 % b1 := Int.emod_nonneg _ (by omega)
  have hx2 : a12 % b1 < b1 := Int.emod_lt_of_pos _ b10
  have hq : 0 ≤ a12 / b1 := Int.ediv_nonneg H.a0 (by omega)
  have hd : b1 * (a12 / b1) + a12 % b1 = a12 := Int.mul_ediv_add_emod a12 b1
  rw [bitOr_shl hx H.a30 H.a3l]
  have hb := H.hb
  have al := H.al
  have b20 := H.b20
  have b2l := H.b2l
  have a3l := H.a3l
  generalize (2 : Int) ^ n.toNat = P at *
  generalize a12 / b1 = q at *
  generalize a12 % b1 = r at *
  subst hb
  subst hd
  refine ⟨?_, ?_⟩
  · have e : q * (b1 * P) = b1 * q * P := by rw [← Int.mul_assoc, Int.mul_comm q b1]
    rw [Int.mul_add, Int.add_mul, e]
    omega
  · have h1 : r * P ≤ (b1 - 1) * P := Int.mul_le_mul_of_nonneg_right (by omega) (by omega)
    have h2 : 0 ≤ q * b2 := Int.mul_nonneg hq b20
    rw [Int.sub_mul, Int.one_mul] at h1
    omega
theorem D3.n0 : 0 ≤ n := by have := H.hn; omega
theorem D3.b1l : b1 < 2 ^ n.toNat := by
  have h : Builtin.Int.intBits b1 ≤ n.toNat := by have := H.hn; omega
  have h2 := intBits_le_iff.mp h
  have h3 : ((b1.natAbs : Nat) : Int) < ((2 ^ n.toNat : Nat) : Int) := Int.ofNat_lt.mpr h2
  rw [Int.natCast_pow] at h3
  have := H.b10
  have e : ((2 : Nat) : Int) = 2 := rfl
  rw [e] at h3
  omega
theorem D3.bits_b1 : Builtin.Int.intBits b1 ≤ 4000 := by have := H.hn; have := H.hl; omega
theorem D3.bits_b2 : Builtin.Int.intBits b2 ≤ 4000 := by
  have h : Builtin.Int.intBits b2 ≤ n.toNat := by
    refine intBits_le_iff.mpr ?_
    have h3 := H.b2l
    have h4 := H.b20
    have e : (2 : Int) ^ n.toNat = ((2 ^ n.toNat : Nat) : Int) := by rw [Int.natCast_pow]; rfl
    rw [e] at h3
    omega
  have := H.hl; have := H.n0; omega
theorem D3.bits_a12 : (Builtin.Int.intBits a12 : Int) ≤ 2 * n := by
  have h : Builtin.Int.intBits a12 ≤ 2 * n.toNat := by
    refine intBits_le_iff.mpr ?_
    have h1 := H.b1l
    have h3 := H.b2l
    have h4 := H.al
    have h5 := H.a0
    have hb := H.hb
    have hP := pow_pos' n
    have e : (2 : Int) ^ n.toNat = ((2 ^ n.toNat : Nat) : Int) := by rw [Int.natCast_pow]; rfl
    have e2 : 2 ^ (2 * n.toNat) = 2 ^ n.toNat * 2 ^ n.toNat := by rw [Nat.two_mul, Nat.pow_add]
    rw [e2]
    have h6 : (b1 + 1) * 2 ^ n.toNat ≤ (2 : Int) ^ n.toNat * 2 ^ n.toNat := Int.mul_le_mul_of_nonneg_right (by omega) (by omega)
    rw [Int.add_mul, Int.one_mul] at h6
    have h7 : a12 < (2 : Int) ^ n.toNat * 2 ^ n.toNat := by omega
    rw [e, ← Int.natCast_mul] at h7
    generalize 2 ^ n.toNat * 2 ^ n.toNat = M at h7
    omega
  have := H.n0; omega
theorem D3.gap : (Builtin.Int.intBits a12 : Int) - n ≤ 4000 := by have := H.bits_a12; have := H.hl; omega
theorem D3.bits_a12' : Builtin.Int.intBits a12 ≤ 8000 := by have := H.bits_a12; have := H.hl; omega
theorem D3.bits_a3 : Builtin.Int.intBits a3 ≤ 4000 := by
  have h : Builtin.Int.intBits a3 ≤ n.toNat := by
    refine intBits_le_iff.mpr ?_
    have h3 := H.a3l
    have h4 := H.a30
    have e : (2 : Int) ^ n.toNat = ((2 ^ n.toNat : Nat) : Int) := by rw [Int.natCast_pow]; rfl
    rw [e] at h3
    omega
  have := H.hl; have := H.n0; omega
theorem D3.bits_q : Builtin.Int.intBits (a12 / b1) ≤ 8000 := by
  rw [← Int.fdiv_eq_ediv_of_nonneg _ (by have := H.b10; omega : 0 ≤ b1)]
  exact intBits_fdiv_le H.bits_a12'
theorem D3.bits_r : Builtin.Int.intBits (a12 % b1) ≤ 8000 := by
  rw [← Int.fmod_eq_emod_of_nonneg _ (by have := H.b10; omega : 0 ≤ b1)]
  exact Nat.le_trans (intBits_fmod_le H.bits_a12' H.bits_b1) (by decide)
end
end Mine
end
section
open PySem PySem.W PyProof.Rows PySem.Calls
set_option maxRecDepth 100000
namespace Mine

local macro_rules | `(tactic| bits_by_make) => `(tactic| first | with_reducible assumption | ((with_reducible refine kbm_pow _ ?_); omega))

set_option maxHeartbeats 8000000 in
theorem div3 (w : World) (mean : ExcName → Option Value) (mg mb : Str → Option Value) (news : List (Addr × Obj)) (a12 a3 b b1 b2 n : Int) (t1 t2 t3 t4 t5 t6 : Tok) (H : D3 a12 a3 b b1 b2 n) :
    Con w mean mg mb 45 [.int a12 t1, .int a3 t2, .int b t3, .int b1 t4, .int b2 t5, .int n t6] news 3 40
      (fun r n' => ∃ D t u, n' = (D, tup2 ((a12 * 2 ^ n.toNat + a3) / b) ((a12 * 2 ^ n.toNat + a3) % b) t u 0) :: news ∧ r = .ref D ∧ ∀ p ∈ news, p.1 < D) := by
  have g1 := H.n0
  have g2 := H.hl
  have g3 := H.bits_b1
  have g4 := H.bits_b2
  have g5 := H.bits_a12'
  have g6 := H.bits_a3
  have g7 := H.bits_q
  have g8 := H.bits_r
  have g9 := H.b10
  have g10 := H.a0
  have g11 := H.gap
  have g12 := H.hn
  have g13 : 0 < b := by have := H.a0; have := H.al; omega
  unfold Con
  w_top off
  k_with_none
  k_fill
  k_with "call ref cons nil" => (k_here; (with_reducible show wpAny _ _ (call (Value.ref 38) _ _) _ _ _); k_dflt (refine' Con.use (div0 _ _ _ _ _ _ _ _ _ _ _ ?c1 ?c2 ?c3 ?c4) ?k1 ?k2 ?k3 ?k4 ?k5 ?kK ?kd ?ku ?_; (case k1 => k_asm); (case k2 => k_asm); (case k3 => k_asm); (case k4 => k_asm); (case k5 => k_asm); (case kK => first | exact rfl | assumption); (case kd => ktr_room); (case ku => ktr_units); (case c1 => assumption); (case c2 => assumption); (case c3 => assumption); (case c4 => assumption)); intro r9 n9 h9 tk9 F9 N9 O9; obtain ⟨D9, t9, u9, e9, e9', l9⟩ := O9; subst e9; subst e9'; (try dsimp only); (try k_lt l9); (try k_sweep); (try k_fold))
  k_with "binaryOp LShift int int" => (k_here; (with_reducible refine lshift_int ?kbn ?kbs ?_); (case kbn => assumption); (case kbs => (refine' kbm_shl ?kba ?kbc ?kbd; (case kba => bits_by_make); (case kbc => omega); (case kbd => decide))))
  k_with "binaryOp Mult int int" => (k_here; (with_reducible refine mul_int ?_ ?km); rotate_left; (with_reducible apply PyProof.Rows.mulOk_of_bits); (focus bits_by_make); (focus bits_by_make); (focus decide))
  intro dp un gd cn cs a0 ccd cl outer A₀ base h₀ L m s Q E B F X N T hk hd hu hret
  refine wpAny_call ?_
  k_dflt cell_enter
  k_with "exec While Compare cons nil" => k_while (fun _ q r => Inv3 (a12 * 2 ^ n.toNat + a3) b q r) (fun _ q r => (-r).toNat) "q" "r"
  k_with "state" => first | exact D3.start1 H (by assumption) | exact D3.start2 H | exact Inv3.step' (by assumption) (by assumption)
  k_steps
  all_goals
    obtain ⟨e1, e2⟩ := Inv3.fin kInv (by assumption)
    rename _ ∧ AllLt _ _ => hl
    exact tup_ret hret (by k_asm) (by k_asm) (fun p hp => List.Mem.tail _ hp) (ktn_ltOf hl.2) e1 e2
end Mine
end
section
open PySem PySem.W PyProof.Rows PySem.Calls
set_option maxRecDepth 100000
namespace Mine

theorem bitAnd_mask {x : Int} (hx : 0 ≤ x) (k : Nat) : Builtin.bitAnd x (1 * 2 ^ k - 1) = x % 2 ^ k := by
  obtain ⟨a, rfl⟩ := Int.eq_ofNat_of_zero_le hx
  have hp : 0 < 2 ^ k := Nat.two_pow_pos k
  have e : (1 * (2 : Int) ^ k - 1) = ((2 ^ k - 1 : Nat) : Int) := by
    have e2 : (2 : Int) ^ k = ((2 ^ k : Nat) : Int) := by rw [Int.natCast_pow]; rfl
    rw [e2]
    omega
  have e2 : (2 : Int) ^ k = ((2 ^ k : Nat) : Int) := by rw [Int.natCast_pow]; rfl
  rw [e, bitAnd_pp (Int.natCast_nonneg _) (Int.natCast_nonneg _), Int.toNat_natCast, Int.toNat_natCast, Nat.and_two_pow_sub_one_eq_mod, e2, Int.natCast_emod]

structure D2e (a b n : Int) : Prop where
  a0 : 0 ≤ a
  b0 : 0 < b
  hn : n = Builtin.Int.intBits b
  al : a < b * 2 ^ n.toNat
  nl : n ≤ 8000
  ev : n % 2 = 0

abbrev hf (n : Int) : Int := n.fdiv (2 ^ (1 : Int).toNat)
theorem hf_eq (n : Int) : hf n = n / 2 := by
  unfold hf
  show n.fdiv (2 ^ 1) = n / 2
  rw [Int.fdiv_eq_ediv_of_nonneg _ (by decide)]
  rfl

theorem castpow (k : Nat) : (2 : Int) ^ k = ((2 ^ k : Nat) : Int) := by rw [Int.natCast_pow]; rfl

section
variable {a b n : Int} (H : D2e a b n)
include H
theorem D2e.h0 : 0 ≤ hf n ∧ n.toNat = (hf n).toNat + (hf n).toNat := by
  have h := hf_eq n
  have := H.hn
  have := H.ev
  omega
theorem D2e.pp : (2 : Int) ^ n.toNat = 2 ^ (hf n).toNat * 2 ^ (hf n).toNat := by rw [H.h0.2, Int.pow_add]
theorem D2e.bits : 2 ^ (n.toNat - 1) ≤ b ∧ b < 2 ^ n.toNat ∧ 1 ≤ n := by
  have b0 := H.b0
  have hn := H.hn
  have h1 : Builtin.Int.intBits b ≤ n.toNat := by omega
  have h2 := intBits_le_iff.mp h1
  have h3 : 1 ≤ Builtin.Int.intBits b := by
    rw [intBits_log b (by omega)]; omega
  have h4 : ¬ Builtin.Int.intBits b ≤ n.toNat - 1 := by omega
  have h5 : ¬ b.natAbs < 2 ^ (n.toNat - 1) := fun h => h4 (intBits_le_iff.mpr h)
  rw [castpow, castpow]
  omega
theorem D2e.first : D3 (a.fdiv (2 ^ n.toNat)) (Builtin.bitAnd (a.fdiv (2 ^ (hf n).toNat)) (1 * 2 ^ (hf n).toNat - 1)) b (b.fdiv (2 ^ (hf n).toNat)) (Builtin.bitAnd b (1 * 2 ^ (hf n).toNat - 1)) (hf n) := by
  have pp := H.pp
  obtain ⟨bl, bu, n1⟩ := H.bits
  obtain ⟨h0, hh⟩ := H.h0
  have hP := pow_pos' (hf n)
  have a0 := H.a0
  have b0 := H.b0
  have al := H.al
  have hq : 0 ≤ a / 2 ^ (hf n).toNat := Int.ediv_nonneg a0 (by omega)
  rw [Int.fdiv_eq_ediv_of_nonneg a (by omega : (0:Int) ≤ 2 ^ n.toNat), Int.fdiv_eq_ediv_of_nonneg a (by omega : (0:Int) ≤ 2 ^ (hf n).toNat), Int.fdiv_eq_ediv_of_nonneg b (by omega : (0:Int) ≤ 2 ^ (hf n).toNat), bitAnd_mask hq, bitAnd_mask (by omega)]
  have hbd : b / 2 ^ (hf n).toNat < 2 ^ (hf n).toNat := Int.ediv_lt_of_lt_mul hP (by rw [← pp]; exact bu)
  have hm : 1 ≤ (hf n).toNat := by have := H.ev; have := hf_eq n; omega
  have hlow : 2 ^ ((hf n).toNat - 1) ≤ b / 2 ^ (hf n).toNat := by
    refine (Int.le_ediv_iff_mul_le hP).mpr ?_
    rw [← Int.pow_add]
    have e : (hf n).toNat - 1 + (hf n).toNat = n.toNat - 1 := by omega
    rw [e]; exact bl
  have hpos : 0 < b / 2 ^ (hf n).toNat := Int.lt_of_lt_of_le (Int.pow_pos (by decide)) hlow
  refine ⟨?_, Int.emod_nonneg _ (by omega), Int.emod_lt_of_pos _ hP, hpos, Int.ediv_nonneg a0 (by omega), ?_, Int.emod_nonneg _ (by omega), Int.emod_lt_of_pos _ hP, ?_, ?_⟩
  · rw [Int.mul_comm]; exact (Int.mul_ediv_add_emod b _).symm
  · exact Int.ediv_lt_of_lt_mul (by omega) al
  · have h1 : Builtin.Int.intBits (b / 2 ^ (hf n).toNat) ≤ (hf n).toNat := by
      refine intBits_le_iff.mpr ?_
      rw [castpow] at hbd hpos ⊢
      omega
    have h2 : ¬ Builtin.Int.intBits (b / 2 ^ (hf n).toNat) ≤ (hf n).toNat - 1 := by
      intro h
      have h3 := intBits_le_iff.mp h
      rw [castpow ((hf n).toNat - 1)] at hlow
      omega
    omega
  · have := H.nl; have := hf_eq n; omega
end
section
variable {a b n : Int} (H : D2e a b n) {q1 r1 : Int} (e1 : q1 = ((a.fdiv (2 ^ n.toNat)) * 2 ^ (hf n).toNat + Builtin.bitAnd (a.fdiv (2 ^ (hf n).toNat)) (1 * 2 ^ (hf n).toNat - 1)) / b)
  (e2 : r1 = ((a.fdiv (2 ^ n.toNat)) * 2 ^ (hf n).toNat + Builtin.bitAnd (a.fdiv (2 ^ (hf n).toNat)) (1 * 2 ^ (hf n).toNat - 1)) % b)
include H
theorem D2e.A1 : (a.fdiv (2 ^ n.toNat)) * 2 ^ (hf n).toNat + Builtin.bitAnd (a.fdiv (2 ^ (hf n).toNat)) (1 * 2 ^ (hf n).toNat - 1) = a / 2 ^ (hf n).toNat := by
  have hP := pow_pos' (hf n)
  have a0 := H.a0
  have hq : 0 ≤ a / 2 ^ (hf n).toNat := Int.ediv_nonneg a0 (by omega)
  rw [H.pp, Int.fdiv_eq_ediv_of_nonneg a (Int.le_of_lt (Int.mul_pos hP hP)), Int.fdiv_eq_ediv_of_nonneg a (by omega : (0:Int) ≤ 2 ^ (hf n).toNat), bitAnd_mask hq, ← Int.ediv_ediv_of_nonneg (by omega)]
  rw [Int.mul_comm]
  exact Int.mul_ediv_add_emod _ _
theorem D2e.second : D3 (((a.fdiv (2 ^ n.toNat)) * 2 ^ (hf n).toNat + Builtin.bitAnd (a.fdiv (2 ^ (hf n).toNat)) (1 * 2 ^ (hf n).toNat - 1)) % b) (Builtin.bitAnd a (1 * 2 ^ (hf n).toNat - 1)) b (b.fdiv (2 ^ (hf n).toNat)) (Builtin.bitAnd b (1 * 2 ^ (hf n).toNat - 1)) (hf n) := by
  have F := H.first
  have hP := pow_pos' (hf n)
  refine ⟨F.hb, F.b20, F.b2l, F.b10, Int.emod_nonneg _ (by have := H.b0; omega), Int.emod_lt_of_pos _ H.b0, ?_, ?_, F.hn, F.hl⟩
  · rw [bitAnd_mask H.a0]; exact Int.emod_nonneg _ (by omega)
  · rw [bitAnd_mask H.a0]; exact Int.emod_lt_of_pos _ hP
theorem D2e.last : 
    Builtin.bitOr ((((a.fdiv (2 ^ n.toNat)) * 2 ^ (hf n).toNat + Builtin.bitAnd (a.fdiv (2 ^ (hf n).toNat)) (1 * 2 ^ (hf n).toNat - 1)) / b) * 2 ^ (hf n).toNat)
      (((((a.fdiv (2 ^ n.toNat)) * 2 ^ (hf n).toNat + Builtin.bitAnd (a.fdiv (2 ^ (hf n).toNat)) (1 * 2 ^ (hf n).toNat - 1)) % b) * 2 ^ (hf n).toNat + Builtin.bitAnd a (1 * 2 ^ (hf n).toNat - 1)) / b) = a / b ∧
    ((((a.fdiv (2 ^ n.toNat)) * 2 ^ (hf n).toNat + Builtin.bitAnd (a.fdiv (2 ^ (hf n).toNat)) (1 * 2 ^ (hf n).toNat - 1)) % b) * 2 ^ (hf n).toNat + Builtin.bitAnd a (1 * 2 ^ (hf n).toNat - 1)) % b = a % b := by
  rw [H.A1, bitAnd_mask H.a0]
  have hP := pow_pos' (hf n)
  have a0 := H.a0
  have b0 := H.b0
  have ea := Int.mul_ediv_add_emod a (2 ^ (hf n).toNat)
  have m0 := Int.emod_nonneg a (show (2:Int) ^ (hf n).toNat ≠ 0 by omega)
  have ml := Int.emod_lt_of_pos a hP
  have hq0 : 0 ≤ a / 2 ^ (hf n).toNat := Int.ediv_nonneg a0 (by omega)
  generalize hP' : (2 : Int) ^ (hf n).toNat = P at *
  have eb := Int.mul_ediv_add_emod (a / P) b
  have r0 := Int.emod_nonneg (a / P) (show b ≠ 0 by omega)
  have rl := Int.emod_lt_of_pos (a / P) b0
  have qq : 0 ≤ a / P / b := Int.ediv_nonneg hq0 (by omega)
  have e2 := Int.mul_ediv_add_emod ((a / P % b) * P + a % P) b
  have s0 := Int.emod_nonneg ((a / P % b) * P + a % P) (show b ≠ 0 by omega)
  have sl := Int.emod_lt_of_pos ((a / P % b) * P + a % P) b0
  have hA2 : (a / P % b) * P + a % P < P * b := by
    have h1 : (a / P % b) * P ≤ (b - 1) * P := Int.mul_le_mul_of_nonneg_right (by omega) (by omega)
    rw [Int.sub_mul, Int.one_mul, Int.mul_comm b P] at h1
    omega
  have hA0 : 0 ≤ (a / P % b) * P + a % P := by
    have := Int.mul_nonneg r0 (Int.le_of_lt hP)
    omega
  have k0 : 0 ≤ ((a / P % b) * P + a % P) / b := Int.ediv_nonneg hA0 (by omega)
  have kl : ((a / P % b) * P + a % P) / b < P := Int.ediv_lt_of_lt_mul b0 hA2
  have fin : a = b * ((a / P / b) * P + ((a / P % b) * P + a % P) / b) + ((a / P % b) * P + a % P) % b := by
    generalize ((a / P % b) * P + a % P) / b = k at *
    generalize ((a / P % b) * P + a % P) % b = z at *
    generalize a / P % b = r at *
    generalize a / P / b = q at *
    generalize a % P = y at *
    generalize a / P = x at *
    subst eb
    have : P * (b * q + r) = b * (q * P) + r * P := by
      rw [Int.mul_add, Int.mul_comm P r, Int.mul_comm P (b * q), Int.mul_assoc]
    rw [Int.mul_add]
    omega
  have u := (Int.ediv_emod_unique b0 (a := a) (q := (a / P / b) * P + ((a / P % b) * P + a % P) / b) (r := ((a / P % b) * P + a % P) % b)).mpr ⟨by omega, s0, sl⟩
  refine ⟨?_, u.2.symm⟩
  subst hP'
  rw [bitOr_shl qq k0 kl]
  exact u.1.symm
end
end Mine
end
section
open PySem PySem.W PyProof.Rows PySem.Calls
set_option maxRecDepth 100000
namespace Mine

structure D2 (a b n : Int) : Prop where
  a0 : 0 ≤ a
  b0 : 0 < b
  hn : n = Builtin.Int.intBits b
  al : a < b * 2 ^ n.toNat
  nl : n ≤ 7990

section
variable {a b n : Int} (H : D2 a b n)
include H
theorem D2.even (e : Builtin.bitAnd n 1 = 0) : D2e a b n := ⟨H.a0, H.b0, H.hn, H.al, by have := H.nl; omega, by rw [bitAnd_m1] at e; exact e⟩
theorem D2.odd (e : Builtin.bitAnd n 1 ≠ 0) : D2e (a * 2 ^ (1 : Int).toNat) (b * 2 ^ (1 : Int).toNat) (n + 1) := by
  rw [bitAnd_m1] at e
  have p1 : (2 : Int) ^ (1 : Int).toNat = 2 := rfl
  rw [p1]
  have a0 := H.a0
  have b0 := H.b0
  have hn := H.hn
  have nl := H.nl
  refine ⟨by omega, by omega, ?_, ?_, by omega, by omega⟩
  · have h1 : Builtin.Int.intBits (b * 2) ≤ n.toNat + 1 := by
      refine intBits_le_iff.mpr ?_
      have h2 := intBits_le_iff.mp (show Builtin.Int.intBits b ≤ n.toNat by omega)
      rw [Nat.pow_succ]
      omega
    have h2 : ¬ Builtin.Int.intBits (b * 2) ≤ n.toNat := by
      intro h
      have h3 := intBits_le_iff.mp h
      have h4 : ¬ Builtin.Int.intBits b ≤ n.toNat - 1 := by omega
      refine h4 (intBits_le_iff.mpr ?_)
      have e : n.toNat = n.toNat - 1 + 1 := by omega
      rw [e, Nat.pow_succ] at h3
      omega
    omega
  · have e : (n + 1).toNat = n.toNat + 1 := by omega
    have h := H.al
    rw [e, Int.pow_succ, Int.mul_assoc b 2, Int.mul_comm 2, Int.mul_assoc _ 2 2, ← Int.mul_assoc b]
    omega
theorem D2.bits_a : Builtin.Int.intBits a ≤ 30000 := by
  have hn := H.hn
  have nl := H.nl
  have h : Builtin.Int.intBits (b * 2 ^ n.toNat) ≤ 30000 := Nat.le_trans (bits_mul (m := 7990) (n := 2 * 7990 + 1) (by omega) (Nat.le_trans (intBits_pow_le (m := 2) (intBits_le_iff.mpr (by decide)) n.toNat) (by omega))) (by decide)
  have al := H.al
  have a0 := H.a0
  exact bits_of_natAbs_le (by omega) h
end
theorem odd_last {a b : Int} (_h : 0 < b) : (a * 2 ^ (1 : Int).toNat) / (b * 2 ^ (1 : Int).toNat) = a / b ∧ ((a * 2 ^ (1 : Int).toNat) % (b * 2 ^ (1 : Int).toNat)).fdiv (2 ^ (1 : Int).toNat) = a % b := by
  have p1 : (2 : Int) ^ (1 : Int).toNat = 2 := rfl
  rw [p1, Int.fdiv_eq_ediv_of_nonneg _ (by decide)]
  refine ⟨Int.mul_ediv_mul_of_pos_left a b (by decide), ?_⟩
  have e : a * 2 % (b * 2) = a % b * 2 := by rw [Int.mul_comm a 2, Int.mul_comm b 2, Int.mul_emod_mul_of_pos _ _ (by decide), Int.mul_comm]
  rw [e]
  exact Int.mul_ediv_cancel _ (by decide)

theorem bits_ediv' {x y : Int} {m : Nat} (h : Builtin.Int.intBits x ≤ m) : Builtin.Int.intBits (x / y) ≤ m := bits_of_natAbs_le (Int.natAbs_ediv_le_natAbs x y) h
theorem bits_and' {x y : Int} {m : Nat} (hy : 0 ≤ y) (h : Builtin.Int.intBits y ≤ m) : Builtin.Int.intBits (Builtin.bitAnd x y) ≤ m := by
  have h1 := bitAnd_range x hy
  exact bits_of_natAbs_le (by omega) h
theorem mask_nonneg (k : Int) : 0 ≤ 1 * (2 : Int) ^ k.toNat - 1 := by have := pow_pos' k; omega
local macro_rules | `(tactic| bits_by_make) => `(tactic| first | with_reducible assumption | ((with_reducible refine kbm_pow _ ?_); omega) | ((with_reducible apply bits_ediv'); bits_by_make) | ((with_reducible apply bits_and'); (focus with_reducible exact mask_nonneg _); bits_by_make))

set_option maxHeartbeats 8000000 in
theorem div1 (w : World) (mean : ExcName → Option Value) (mg mb : Str → Option Value) (news : List (Addr × Obj)) (a b n : Int) (t1 t2 t3 : Tok) (H : D2 a b n) :
    Con w mean mg mb 38 [.int a t1, .int b t2, .int n t3] news 6 80
      (fun r n' => ∃ D t u, n' = (D, tup2 (a / b) (a % b) t u 0) :: news ∧ r = .ref D ∧ ∀ p ∈ news, p.1 < D) := by
  have g1 := H.hn
  have g2 := H.nl
  have g3 := H.a0
  have g4 := H.b0
  have g5 := H.bits_a
  have g6 : Builtin.Int.intBits b ≤ 30000 := by omega
  have g7 : 0 ≤ n := by omega
  have g8 : 0 ≤ n.fdiv (2 ^ (1 : Int).toNat) := by have := hf_eq n; unfold hf at this; omega
  have g9 : n.fdiv (2 ^ (1 : Int).toNat) ≤ 4000 := by have := hf_eq n; unfold hf at this; omega
  have g10 : 0 ≤ (n + 1).fdiv (2 ^ (1 : Int).toNat) := by have := hf_eq (n + 1); unfold hf at this; omega
  have g11 : (n + 1).fdiv (2 ^ (1 : Int).toNat) ≤ 4000 := by have := hf_eq (n + 1); unfold hf at this; omega
  have g12 : 0 ≤ n + 1 := by omega
  have hE := H.even
  have hO := H.odd
  have hpy : (Builtin.Int.intBits a : Int) - n ≤ 4000 → Builtin.divisionGoesByPylong a b = false := fun h => noPy (g1 ▸ h) (by omega)
  have e1 : a.fdiv b = a / b := Int.fdiv_eq_ediv_of_nonneg a (by omega)
  have e2 : a.fmod b = a % b := Int.fmod_eq_emod_of_nonneg a (by omega)
  unfold Con
  w_top off
  k_with_none
  k_fill
  k_with "call builtin:divmod" => (k_here; k_dflt (refine' divmod_D ?k1 ?k2 ?k3 ?k4 ?_; (case k1 => k_asm); (case k2 => k_asm); (case k3 => omega); (case k4 => ((rename (_ → Builtin.divisionGoesByPylong _ _ = false) => hpy9); exact hpy9 (by assumption))); k_whole); intro D9 h9 tk9 t9 u9 F9 N9 l9; (try k_lt l9); (try k_sweep))
  k_with "call ref cons nil" => (k_here; (with_reducible show wpAny _ _ (call (Value.ref 45) _ _) _ _ _); k_dflt (refine' Con.use (div3 _ _ _ _ _ _ _ _ _ _ _ _ _ _ _ _ _ ?c1) ?k1 ?k2 ?k3 ?k4 ?k5 ?kK ?kd ?ku ?_; (case k1 => k_asm); (case k2 => k_asm); (case k3 => k_asm); (case k4 => k_asm); (case k5 => k_asm); (case kK => first | exact rfl | assumption); (case kd => ktr_room); (case ku => ktr_units); (case c1 => ((rename (Builtin.bitAnd _ 1 = 0 → D2e _ _ _) => hE9); (rename (Builtin.bitAnd _ 1 ≠ 0 → D2e _ _ _) => hO9); first | exact D2e.first (hE9 (by assumption)) | exact D2e.first (hO9 (by assumption)) | exact D2e.second (hE9 (by assumption)) | exact D2e.second (hO9 (by assumption))))); intro r9 n9 h9 tk9 F9 N9 O9; obtain ⟨D9, t9, u9, e9, e9', l9⟩ := O9; subst e9; subst e9'; (try dsimp only); (try k_lt l9); (try k_sweep); (try k_fold))
  k_with "binaryOp LShift int int" => (k_here; (with_reducible refine lshift_int ?kbn ?kbs ?_); (case kbn => first | assumption | decide | omega); (case kbs => (refine' kbm_shl ?kba ?kbc ?kbd; (case kba => bits_by_make); (case kbc => omega); (case kbd => decide))))
  k_with "inplaceOp LShift int int" => (k_here; (with_reducible refine ilshift_int ?kbn ?kbs ?_); (case kbn => first | assumption | decide | omega); (case kbs => (refine' kbm_shl ?kba ?kbc ?kbd; (case kba => bits_by_make); (case kbc => omega); (case kbd => decide))))
  intro dp un gd cn cs a0 ccd cl outer A₀ base h₀ L m s Q E B F X N T hk hd hu hret
  refine wpAny_call ?_
  k_dflt cell_enter
  k_steps
  · exact tup_ret hret (by k_asm) (by k_asm) (fun p hp => hp) (by assumption) e1 e2
  all_goals first
    | (exfalso; contradiction)
    | (rename _ ∧ _ ∧ _ ∧ AllLt _ _ => hl; exact tup_ret hret (by k_asm) (by k_asm) (fun p hp => .tail _ (.tail _ (.tail _ hp))) (ktn_ltOf hl.2.2.2) (D2e.last (hE (by assumption))).1 (D2e.last (hE (by assumption))).2)
    | (rename _ ∧ _ ∧ _ ∧ AllLt _ _ => hl; exact tup_ret hret (by k_asm) (by k_asm) (fun p hp => .tail _ (.tail _ (.tail _ hp))) (ktn_ltOf hl.2.2.2) ((D2e.last (hO (by assumption))).1.trans (odd_last g4).1) ((congrArg (fun z : Int => z.fdiv (2 ^ (1 : Int).toNat)) (D2e.last (hO (by assumption))).2).trans (odd_last g4).2))
end Mine
end
section
open PySem PySem.W PyProof.Rows PySem.Calls
set_option maxRecDepth 100000
namespace Mine
/-- how two texts lie to each other -/
def cmpL (x y : List Nat) : Int := if y < x then 1 else if x < y then -1 else 0
theorem cmpL_val (x y : List Nat) : b2i (decide (y < x)) - b2i (decide (x < y)) = cmpL x y := by
  unfold cmpL
  by_cases h1 : y < x
  · have h2 : ¬ x < y := fun h => List.lt_asymm h h1
    simp [b2i, h1, h2]
  · by_cases h2 : x < y <;> simp [b2i, h1, h2]
set_option maxHeartbeats 8000000 in
theorem strcoll (w : World) (mean : ExcName → Option Value) (mg mb : Str → Option Value) (news : List (Addr × Obj)) (x y : Str) (t u : Tok) :
    Con w mean mg mb 72 [.str x t, .str y u] news 1 8 (fun r n' => n' = news ∧ ∃ t, r = .int (cmpL x.cps.toList y.cps.toList) t) := by
  unfold Con
  w_top off
  k_with_none
  k_fill
  intro dp un gd cn cs a ccd cl outer A₀ base h₀ L m s Q E B F X N T hk hd hu hret
  refine wpAny_call ?_
  k_dflt cell_enter
  k_steps
  exact hret _ _ _ _ (by k_asm) (by k_asm) ⟨rfl, _, by rw [cmpL_val]⟩
end Mine
end
section
open PySem PySem.W PyProof.Rows PySem.Calls
set_option maxRecDepth 100000
namespace Mine
abbrev tup3 (x y z : Int) (t u v : Tok) (n : Nat) : Obj := { cls := .type "tuple", data := .seq #[.int x t, .int y u, .int z v] n }

def tabS (p : Int × Int × Int × Int) (k : Int) : Int × Int × Int × Int :=
  if k = 65 then (2 * p.1 + p.2.1, p.1 + p.2.1, 2 * p.2.2.1 + p.2.2.2, p.2.2.1 + p.2.2.2)
  else (5 * p.1 + 2 * p.2.1, 2 * p.1 + p.2.1, 5 * p.2.2.1 + 2 * p.2.2.2, 2 * p.2.2.1 + p.2.2.2)
def tabF (l : List Int) : Int × Int × Int × Int := l.foldl tabS (1, 0, 0, 1)
def TabI (l : List Int) (a m c d : Int) : Prop := tabF l = (a, m, c, d)
theorem TabI.start : TabI [] 1 0 0 1 := rfl
theorem isA (k : Nat) : (({ cps := #[k] } : Str) == Str.ofString "A") = decide (k = 65) := by
  have e : Str.ofString "A" = { cps := #[65] } := by decide +kernel
  rw [e]
  by_cases h : k = 65
  · subst h; decide +kernel
  · rw [decide_eq_false h]
    rw [beq_eq_false_iff_ne]
    intro q
    injection q with q
    injection q with q
    injection q with q
    exact h q
theorem TabI.stepA {l : List Int} {a m c d : Int} {k : Nat} (h : TabI l a m c d) (hk : (({ cps := #[k] } : Str) == Str.ofString "A") = true) : TabI (l ++ [(k : Int)]) (2 * a + m) (a + m) (2 * c + d) (c + d) := by
  rw [isA, decide_eq_true_eq] at hk
  unfold TabI tabF at *
  rw [List.foldl_append, h]
  simp [tabS, hk]
theorem TabI.stepB {l : List Int} {a m c d : Int} {k : Nat} (h : TabI l a m c d) (hk : (({ cps := #[k] } : Str) == Str.ofString "A") = false) : TabI (l ++ [(k : Int)]) (5 * a + 2 * m) (2 * a + m) (5 * c + 2 * d) (2 * c + d) := by
  rw [isA, decide_eq_false_iff_not] at hk
  have hk' : ¬ (k : Int) = 65 := by omega
  unfold TabI tabF at *
  rw [List.foldl_append, h]
  simp [tabS, hk']
theorem tup3_ret {h₀ h' : Heap} {L : Addr} {m : Str → Option Value} {news x : List (Addr × Obj)} {s : Shared} {Q : Value → Shared → Prop} {D : Addr} {p q r X Y Z : Int} {t u v : Tok} {tk : Nat}
    (hret : ∀ r news' h' tk', Fr h₀ L h' m → News h₀ L h' news' → (∃ D t u v, news' = (D, tup3 X Y Z t u v 0) :: news ∧ r = .ref D ∧ ∀ p ∈ news, p.1 < D) → Q r { s with heap := h', toks := tk' })
    (F : Fr h₀ L h' m) (N : News h₀ L h' ((D, tup3 p q r t u v 0) :: x)) (hs : ∀ p ∈ news, p ∈ x) (hl : ∀ p ∈ news, p.1 < D) (e1 : p = X) (e2 : q = Y) (e3 : r = Z) : Q (.ref D) { s with heap := h', toks := tk } := by
  subst e1; subst e2; subst e3
  refine hret _ ((D, tup3 p q r t u v 0) :: news) _ _ F (cb_drop N fun p hp => ?_) ⟨_, _, _, _, rfl, rfl, hl⟩
  rcases List.mem_cons.mp hp with rfl | hp
  · exact List.Mem.head _
  · exact List.Mem.tail _ (hs p hp)

set_option maxHeartbeats 8000000 in
theorem lawTable (w : World) (mean : ExcName → Option Value) (mg mb : Str → Option Value) (news : List (Addr × Obj)) (x : Str) (t : Tok) (hx : x.length ≤ 1000) :
    Con w mean mg mb 93 [.str x t] news 1 8 (fun r n' => ∃ D t u v, n' = (D, tup3 (tabF (KStt.codes x)).2.1 ((tabF (KStt.codes x)).1 - 2 * (tabF (KStt.codes x)).2.1) (tabF (KStt.codes x)).2.2.1 t u v 0) :: news ∧ r = .ref D ∧ ∀ p ∈ news, p.1 < D) := by
  unfold Con
  w_top off
  k_with_none
  k_fill
  intro dp un gd cn cs a0 ccd cl outer A₀ base h₀ L m s Q E B F X N T hk hd hu hret
  refine wpAny_call ?_
  k_dflt cell_enter
  k_with "pyIter str" => k_state (fun pre a m c d => TabI pre a m c d) "a" "m" "c" "d"
  k_with "state" => first | exact TabI.start | exact TabI.stepA (by assumption) (by assumption) | exact TabI.stepB (by assumption) (by assumption)
  k_steps
  rename _ ∧ AllLt _ _ => hl
  have e : tabF (KStt.codes x) = _ := kInv
  exact tup3_ret hret (by k_asm) (by k_asm) (fun p hp => .tail _ hp) (ktn_ltOf hl.2) (by rw [e]) (by rw [e]) (by rw [e])
end Mine
end
section
open PySem PySem.W PyProof.Rows PySem.Calls
set_option maxRecDepth 100000
namespace Mine

def ap (n : Nat) : List UInt8 := if h : n = 0 then [] else ap (n / 16) ++ [UInt8.ofNat (65 + n % 16)]
termination_by n
decreasing_by omega
theorem ap_zero : ap 0 = [] := by rw [ap]; rfl
theorem ap_step {n : Nat} (h : n ≠ 0) : ap n = ap (n / 16) ++ [UInt8.ofNat (65 + n % 16)] := by rw [ap, dif_neg h]

def ApI (N : Nat) (num : Int) (val : Array UInt8) : Prop := 0 ≤ num ∧ ap num.toNat ++ val.toList = ap N
theorem ApI.start (n : Int) : ApI n.natAbs (if n < 0 then -n else n) #[] := by
  refine ⟨by split <;> omega, ?_⟩
  have e : (if n < 0 then -n else n).toNat = n.natAbs := by split <;> omega
  rw [e]
  simp
theorem ApI.fin {N : Nat} {num : Int} {val : Array UInt8} (h : ApI N num val) (e : num = 0) : val = (ap N).toArray := by
  obtain ⟨_, h2⟩ := h
  subst e
  rw [← h2]
  show val = (ap 0 ++ val.toList).toArray
  rw [ap_zero]
  simp
theorem ApI.size {N : Nat} {num : Int} {val : Array UInt8} (h : ApI N num val) (hN : (ap N).length ≤ 64) : val.size ≤ 64 := by
  obtain ⟨_, h2⟩ := h
  rw [← h2, List.length_append] at hN
  have e : val.toList.length = val.size := Array.length_toList
  omega
theorem ApI.room {N : Nat} {num : Int} {val : Array UInt8} (h : ApI N num val) (hN : (ap N).length ≤ 64) (b : UInt8) : (#[b]).size + val.size ≤ 16777216 := by
  have := h.size hN
  show 1 + val.size ≤ _
  omega
theorem ApI.step {N : Nat} {num : Int} {val : Array UInt8} (h : ApI N num val) (e : num ≠ 0) : ApI N (num.fdiv 16) (#[UInt8.ofNat (65 + (num.fmod 16).toNat)] ++ val) := by
  obtain ⟨h1, h2⟩ := h
  obtain ⟨k, rfl⟩ := Int.eq_ofNat_of_zero_le h1
  rw [Int.fdiv_eq_ediv_of_nonneg _ (by decide), Int.fmod_eq_emod_of_nonneg _ (by decide)]
  refine ⟨by omega, ?_⟩
  have e1 : ((k : Int) / 16).toNat = k / 16 := by omega
  have e2 : ((k : Int) % 16).toNat = k % 16 := by omega
  rw [e1, e2, ← h2, Int.toNat_natCast, ap_step (n := k) (by omega)]
  simp
theorem ApI.less {N : Nat} {num : Int} {val : Array UInt8} (h : ApI N num val) (e : num ≠ 0) : (num.fdiv 16).toNat < num.toNat := by
  obtain ⟨h1, _⟩ := h
  rw [Int.fdiv_eq_ediv_of_nonneg _ (by decide)]
  omega
abbrev AP : Array UInt8 := #[65, 66, 67, 68, 69, 70, 71, 72, 73, 74, 75, 76, 77, 78, 79, 80]
theorem ap_picked : ∀ k : Fin 16, KBy.picked AP (some ((k.val : Nat) : Int)) (some ((k.val : Nat) + 1 : Int)) = #[UInt8.ofNat (65 + k.val)] := by decide +kernel
theorem ap_picked' {i : Int} (h0 : 0 ≤ i) (h1 : i < 16) : KBy.picked AP (some i) (some (i + 1)) = #[UInt8.ofNat (65 + i.toNat)] := by
  obtain ⟨k, rfl⟩ := Int.eq_ofNat_of_zero_le h0
  exact ap_picked ⟨k, by omega⟩
theorem fmod16 (x : Int) : 0 ≤ x.fmod 16 ∧ x.fmod 16 < 16 := by
  rw [Int.fmod_eq_emod_of_nonneg _ (by decide)]
  omega
theorem ap_slice {prog : Program} {w : World} {A : Around} {E : Value → Shared → Prop} {s : Shared} {value slice : PySem.Expr} {t : Tok} {h₀ : Heap} {L : Addr} {m : PySem.Str → Option Value} {news : List (Addr × Obj)} {u v : Tok} {Q : Value → Shared → Prop} {i : Int}
    (hF : Fr h₀ L s.heap m) (hN : News h₀ L s.heap news) (hi : 0 ≤ i ∧ i < 16) (h : ∀ h' t' k, Fr h₀ L h' m → News h₀ L h' news → Q (.bytes #[UInt8.ofNat (65 + i.toNat)] t') { s with heap := h', toks := k })
    (hs : subscripted slice false (.bytes AP t) (.ref s.heap.objs.size) = operate [.ref s.heap.objs.size, .bytes AP t] (getItem (.bytes AP t) (.ref s.heap.objs.size)) := by with_unfolding_all rfl)
    (ht : ∀ r, letTemporaryGo value (.bytes AP t) r = pure () := by intro _; with_unfolding_all rfl) :
    wpAny (model prog w) A (subscriptTail value slice (.bytes AP t) (.ref s.heap.objs.size)) Q E { s with heap := s.heap.push { cls := .type "slice", data := .fields #[.int i u, .int (i + 1) v, .none] } } :=
  KBc.slice_K hF hN rfl (.int i u) (.int (i + 1) v) (by decide) (fun h' t' k F' N' _ => by rw [ap_picked' hi.1 hi.2]; exact h h' t' k F' N') hs ht


set_option maxHeartbeats 8000000 in
theorem int2ap (w : World) (mean : ExcName → Option Value) (mg mb : Str → Option Value) (news : List (Addr × Obj)) (n : Int) (t : Tok) (hn : (ap n.natAbs).length ≤ 64) :
    Con w mean mg mb 65 [.int n t] news 1 8 (fun r n' => n' = news ∧ ∃ t, r = .bytes (ap n.natAbs).toArray t) := by
  unfold Con
  w_top off
  k_with_none
  k_fill
  k_with "call builtin:divmod" => (k_here; k_dflt (refine' divmod_D ?k1 ?k2 ?k3 ?k4 ?_; (case k1 => k_asm); (case k2 => k_asm); (case k3 => decide); (case k4 => exact noPylong_of_log2 (by decide +kernel)); k_whole); intro D9 h9 tk9 t9 u9 F9 N9 l9; (try k_lt l9); (try k_sweep))
  k_with "subscriptTail" => (k_here; (with_reducible show wpAny _ _ (subscriptTail _ (Expr.Slice _ _ none _) (Value.bytes _ _) (Value.ref _)) _ _ _); (with_reducible rename Fr _ _ _ _ => F'); (with_reducible rename News _ _ _ _ => N'); (refine ap_slice (s := ⟨_, _, _, _, _⟩) F' N' (fmod16 _) ?_); intro _ _ _ _ _)
  k_with "binaryOp Add bytes bytes" => (k_here; (rename ApI _ _ _ => hI9); (rename List.length _ ≤ 64 => hN9); (refine KBy.add_bytes (ApI.room hI9 hN9 _) ?_); intro _ _)
  intro dp un gd cn cs a0 ccd cl outer A₀ base h₀ L m s Q E B F X N T hk hd hu hret
  refine wpAny_call ?_
  k_dflt cell_enter
  k_with "exec While Name cons nil" => k_while (fun _ num val => ApI n.natAbs num val) (fun _ num _ => num.toNat) "num" "val"
  k_with "state" => first | exact ApI.start _ | exact ApI.step (by assumption) (by assumption)
  k_with "measure" => exact ApI.less (by assumption) (by assumption)
  k_steps
  have e := kInv.fin (by assumption)
  exact hret _ _ _ _ (by k_asm) (by k_asm) ⟨rfl, _, by rw [e]⟩
end Mine
end
section
open PySem PySem.W PyProof.Rows PySem.Calls PySem.Builtin
set_option maxRecDepth 100000
namespace Mine

theorem slot_bytes_count : Slot "bytes" "count" "bytes.count" :=
  .of (owner := "bytes") (n := "count") (by rw [typeLookup_type, builtinLookup_eq_fast]; kernel_rfl) (by decide +kernel) (by decide +kernel) (by decide +kernel)
    (by first | exact .inl (by decide +kernel) | exact .inr (by decide +kernel)) (by rw [isSubtype_type]; kernel_rfl)
theorem type_bytes_count : typeOf (.builtin "bytes.count") = pure (.type "method_descriptor") := by show builtinType _ = _; rw [builtinType_eq_fast]; kernel_rfl
theorem entry_bytes_count : entryFor table "bytes.count" = some Builtin.«bytes.count» := entryFor_of_tree (by kernel_rfl)
theorem args_bytes_count_2 (a b : Value) : argsOk "bytes.count" ⟨[a, b], []⟩ := by
  unfold argsOk; rw [signature?_of (id := "bytes.count") (n := ['t', 'n', 'u', 'o', 'c']) (o := ['s', 'e', 't', 'y', 'b']) (by kernel_rfl) PySem.W.FB.owner_bytes]; kernel_rfl
theorem slot_bytes_join : Slot "bytes" "join" "bytes.join" :=
  .of (owner := "bytes") (n := "join") (by rw [typeLookup_type, builtinLookup_eq_fast]; kernel_rfl) (by decide +kernel) (by decide +kernel) (by decide +kernel)
    (by first | exact .inl (by decide +kernel) | exact .inr (by decide +kernel)) (by rw [isSubtype_type]; kernel_rfl)
theorem type_bytes_join : typeOf (.builtin "bytes.join") = pure (.type "method_descriptor") := by show builtinType _ = _; rw [builtinType_eq_fast]; kernel_rfl
theorem entry_bytes_join : entryFor table "bytes.join" = some Builtin.«bytes.join» := entryFor_of_tree (by kernel_rfl)
theorem args_bytes_join_2 (a b : Value) : argsOk "bytes.join" ⟨[a, b], []⟩ := by
  unfold argsOk; rw [signature?_of (id := "bytes.join") (n := ['n', 'i', 'o', 'j']) (o := ['s', 'e', 't', 'y', 'b']) (by kernel_rfl) PySem.W.FB.owner_bytes]; kernel_rfl
theorem plainAttrs_bytes : PlainAttrs "bytes" :=
  ⟨⟨"bytes.__getattribute__", by rw [typeLookup_type, builtinLookup_eq_fast]; kernel_rfl, by decide +kernel⟩, by rw [typeLookup_type, builtinLookup_eq_fast]; kernel_rfl⟩
theorem plainAttrs_pat : PlainAttrs "re.Pattern" :=
  ⟨⟨"object.__getattribute__", by rw [typeLookup_type, builtinLookup_eq_fast]; kernel_rfl, by decide +kernel⟩, by rw [typeLookup_type, builtinLookup_eq_fast]; kernel_rfl⟩
theorem slot_pat_sub : Slot "re.Pattern" "sub" "re.Pattern.sub" :=
  .of (owner := "re.Pattern") (n := "sub") (by rw [typeLookup_type, builtinLookup_eq_fast]; kernel_rfl) (by decide +kernel) (by decide +kernel) (by decide +kernel)
    (by first | exact .inl (by decide +kernel) | exact .inr (by decide +kernel)) (by rw [isSubtype_type]; kernel_rfl)
theorem type_pat_sub : typeOf (.builtin "re.Pattern.sub") = pure (.type "method_descriptor") := by show builtinType _ = _; rw [builtinType_eq_fast]; kernel_rfl
theorem entry_pat_sub : entryFor table "re.Pattern.sub" = some Builtin.«re.Pattern.sub» := entryFor_of_tree (by kernel_rfl)
theorem entry_sub_loop : entryFor table "re.Pattern.sub.loop" = some Builtin.«re.Pattern.sub.loop» := entryFor_of_tree (by kernel_rfl)
theorem args_pat_sub (a b c : Value) : argsOk "re.Pattern.sub" ⟨[a, b, c], []⟩ := by
  unfold argsOk; kernel_rfl
theorem look_call_bytes : typeLookup (.type "bytes") "__call__" = pure none := by rw [typeLookup_type, builtinLookup_eq_fast]; kernel_rfl

section
variable {prog : Program} {w : World} {A : Around} {E : Value → Shared → Prop} {s : Shared} {b c : Array UInt8} {t u : Tok}

theorem bound_none : Bytes.bound? none = pure none := rfl

theorem count_bytes {Q : Value → Shared → Prop} (hc : c.size = 1) (h : ∀ t' k, Q (.int ((if (b.size : Int) < 1 then 0 else (Bytes.occurrences b c 0 b.size).length : Nat) : Int) t') { s with toks := k }) :
    wpAny (model prog w) A (call (.builtin "bytes.count") [.bytes b t, .bytes c u]) Q E s := by
  refine wpAny_call_entry slot_bytes_count (typeIs_bytes s b t) entry_bytes_count ?_ (args_bytes_count_2 _ _)
  have hw : Bytes.window b.size none none = (0, (b.size : Int)) := by
    unfold Bytes.window
    have h0 : ¬ (b.size : Int) < 0 := by omega
    simp [h0]
  have he : c.isEmpty = false := by
    rw [Array.isEmpty_eq_false_iff]
    intro q
    subst q
    exact absurd hc (by decide)
  show wpAny _ _ (Bytes.countM .bytes ⟨[.bytes b t, .bytes c u], []⟩) _ _ s
  unfold Bytes.countM
  refine wpAny_bind ?_
  unfold Bytes.searchArgs
  refine wpAny_bind (wpAny_of_eq (a := (.bytes b t, [.bytes c u])) rfl ?_)
  refine wpAny_bind (wpAny_of_eq (a := none) rfl ?_)
  refine wpAny_bind (wpAny_of_eq (a := none) rfl ?_)
  refine wpAny_bind (wpAny_of_eq (a := some c) KBy.buffer_eq ?_)
  refine wpAny_bind (wpAny_pure ?_)
  refine wpAny_bind (wpAny_of_eq (a := b) rfl ?_)
  show wpAny _ _ (pure (b, c, if (Bytes.window b.size none none).2 - (Bytes.window b.size none none).1 < (c.size : Int) then none else some ((Bytes.window b.size none none).1.toNat, (Bytes.window b.size none none).2.toNat))) _ _ s
  rw [hw, hc]
  refine wpAny_pure ?_
  show wpAny _ _ (match (if (b.size : Int) - 0 < ((1 : Nat) : Int) then (none : Option (Nat × Nat)) else some ((0 : Int).toNat, (b.size : Int).toNat)) with
    | none => retInt 0
    | some (lo, hi) => if c.isEmpty then (do rule s!"{Bytes.Kind.bytes.name}.count.empty-sub"; retInt (hi - lo + 1 : Nat)) else retInt (Bytes.occurrences b c lo hi).length) _ _ s
  by_cases hlt : (b.size : Int) < 1
  · have h1 : (b.size : Int) - 0 < ((1 : Nat) : Int) := by omega
    rw [if_pos h1]
    rw [if_pos hlt] at h
    exact wpAny_bind (wpAny_mkInt (wpAny_pure ⟨_, rfl, h _ _⟩))
  · have h1 : ¬ (b.size : Int) - 0 < ((1 : Nat) : Int) := by omega
    rw [if_neg h1, he]
    rw [if_neg hlt] at h
    exact wpAny_bind (wpAny_mkInt (wpAny_pure ⟨_, rfl, h _ _⟩))
end
end Mine
end
section
open PySem PySem.W PyProof.Rows PySem.Calls PySem.Builtin
set_option maxRecDepth 100000
namespace Mine
inductive BytesAre : List Value → List (Array UInt8) → Prop
  | nil : BytesAre [] []
  | cons {b : Array UInt8} {t : Tok} {vs : List Value} {bs : List (Array UInt8)} (h : BytesAre vs bs) : BytesAre (.bytes b t :: vs) (b :: bs)
theorem BytesAre.length {vs : List Value} {bs : List (Array UInt8)} (h : BytesAre vs bs) : vs.length = bs.length := by
  induction h with
  | nil => rfl
  | cons _ ih => simp [ih]
theorem BytesAre.get {vs : List Value} {bs : List (Array UInt8)} (h : BytesAre vs bs) : ∀ {i : Nat} {b : Array UInt8}, bs[i]? = some b → ∃ t, vs[i]? = some (.bytes b t) := by
  induction h with
  | nil => intro i b e; simp at e
  | @cons b0 t vs bs h ih =>
    intro i b e
    cases i with
    | zero => simp at e; subst e; exact ⟨t, by simp⟩
    | succ i => simp at e; obtain ⟨t', h'⟩ := ih e; exact ⟨t', by simpa using h'⟩


theorem take_eq {id : String} {b : Array UInt8} {t : Tok} : Bytes.takeBufferQuiet? id (.bytes b t) 0 = pure (some (b, none)) := by
  unfold Bytes.takeBufferQuiet? Bytes.takeBuffer?
  rw [KBy.special_eq KBy.look_buffer, KBy.own_buffer, show ((0 : Int) == Bytes.fullReadOnly) = false from by decide +kernel, KBy.buffer_eq]
  kernel_rfl

theorem one_or {M : Model} {A : Around} {E : Value → Shared → Prop} {s : Shared} {Q : PySem.Fin → Shared → Prop} {items : Array Value} {F : Value → Sem PySem.Fin} {G : Sem PySem.Fin}
    (h1 : ∀ x, items = #[x] → wpAny M A (F x) Q E s) (h2 : wpAny M A G Q E s) : wpAny M A (match items with | #[x] => F x | _ => G) Q E s := by
  rcases items with ⟨_ | ⟨x, _ | ⟨y, r⟩⟩⟩
  · exact h2
  · exact h1 x rfl
  · exact h2
def Plain (l : List (Value × Option Value)) : Prop := ∀ p ∈ l, p.1.onHeap = false ∧ p.2 = none
section
variable {M : Model} {A : Around} {E : Value → Shared → Prop} {s : Shared}
theorem wpAny_joinLetGo : ∀ {taken : List (Value × Option Value)} {keep : List Value} {Q : Unit → Shared → Prop}, Plain taken → Q () s → wpAny M A (Bytes.joinLetGo taken keep) Q E s
  | [], _, _, _, h => wpAny_pure h
  | (x, w) :: rest, keep, Q, hp, h => by
    have hw : w = none := (hp _ (.head _)).2
    subst hw
    unfold Bytes.joinLetGo
    refine wpAny_bind (m := letGo [x] _) ?_
    unfold letGo
    refine wpAny_bind (wpAny_holding (wpAny_point ?_))
    exact wpAny_pure (wpAny_joinLetGo (fun p hp' => hp p (.tail _ hp')) h)
end
section
variable {prog : Program} {w : World} {A : Around} {E : Value → Shared → Prop} {s : Shared} {t : Tok} {l : Addr} {vs : List Value} {bs : List (Array UInt8)}
theorem sum_fold (bs : List (Array UInt8)) : ∀ k : Nat, bs.foldl (fun n b => n + b.size) k = k + (bs.map (·.size)).sum := by
  induction bs with
  | nil => intro k; simp
  | cons b r ih => intro k; rw [List.foldl_cons, ih, List.map_cons, List.sum_cons]; omega
set_option maxHeartbeats 4000000 in
theorem join_bytes {Q : Value → Shared → Prop} (hl : s.heap.IsList l vs.toArray) (hv : BytesAre vs bs) (hz : (bs.map (·.size)).sum ≤ 16777216) (hj : (Bytes.joined #[] bs).size ≤ 16777216) (h : ∀ t' k, Q (.bytes (Bytes.joined #[] bs) t') { s with toks := k }) :
    wpAny (model prog w) A (call (.builtin "bytes.join") [.bytes #[] t, .ref l]) Q E s := by
  obtain ⟨o, ho, hc, n, hd⟩ := id hl
  refine wpAny_call_entry slot_bytes_join (typeIs_bytes s _ t) entry_bytes_join ?_ (args_bytes_join_2 _ _)
  show wpAny _ _ (Bytes.joinM .bytes ⟨[.bytes #[] t, .ref l], []⟩) _ _ s
  unfold Bytes.joinM
  refine wpAny_bind (wpAny_of_eq (a := (.bytes #[] t, .ref l)) rfl ?_)
  refine wpAny_bind (m := Bytes.joinItems (.ref l)) ?_
  unfold Bytes.joinItems
  refine wpAny_bind (wpAny_typeOf hl.typeIs ?_)
  refine wpAny_pure ?_
  have hseq : ∀ {α : Type} {A : Around} {Q : α → Shared → Prop} {k : Option (Array Value) → Sem α}, wpAny (model prog w) A (k (some vs.toArray)) Q E s → wpAny (model prog w) A (seqItems? (.ref l) >>= k) Q E s := by
    intro α A Q k h
    refine wpAny_bind ?_
    unfold seqItems?
    refine wpAny_bind (wpAny_load ho ?_)
    rw [hd]
    exact wpAny_pure h
  refine hseq ?_
  dsimp only
  rw [if_pos (show (Bytes.Kind.bytes == Bytes.Kind.bytes) = true from rfl)]
  refine one_or ?_ ?_
  · intro x hit
    have hvx : vs = [x] := by
      have := congrArg Array.toList hit
      simpa using this
    subst hvx
    cases hv with
    | @cons b t' _ bs' hv' =>
      cases hv'
      refine wpAny_bind (wpAny_typeOf (typeIs_bytes _ b t') ?_)
      rw [if_pos (show (Value.type "bytes" == Value.type "bytes") = true from by decide +kernel)]
      refine wpAny_bind (wpAny_rule ?_)
      have e : Bytes.joined #[] [b] = b := by
        unfold Bytes.joined
        simp
      rw [e] at h
      exact wpAny_pure ⟨_, rfl, h _ _⟩
  · refine wpAny_bind ?_
    rw [Std.Legacy.Range.forIn_eq_forIn_range']
    refine wpAny_forIn_list _ (fun rest (st : Array (Array UInt8) × List (Value × Option Value)) s' => s' = s ∧ Plain st.2 ∧ ∃ i, rest = List.range' i (bs.length - i) ∧ i ≤ bs.length ∧ st.1 = (bs.take i).toArray) _ ?_ ?_ _ _ ?_
    · rintro x rest st s' ⟨rfl, hp, i, hr, hi, hst⟩
      have hlt : i < bs.length := by
        rcases Nat.lt_or_ge i bs.length with hlt | hge
        · exact hlt
        · rw [show bs.length - i = 0 by omega] at hr
          cases hr
      rw [show bs.length - i = (bs.length - (i + 1)) + 1 by omega, List.range'_succ] at hr
      injection hr with hx hrest
      subst hx
      obtain ⟨t', hg⟩ := hv.get (i := x) (b := bs[x]) (by simp [hlt])
      have hgd : vs.toArray.getD x .none = .bytes bs[x] t' := by
        simp only [Array.getD_eq_getD_getElem?, List.getElem?_toArray, hg, Option.getD_some]
      refine hseq ?_
      dsimp only
      have hany : (st.2.any fun x => x.fst.onHeap) = false := by
        rw [List.any_eq_false]
        intro p hp'
        rw [(hp p hp').1]
        exact Bool.false_ne_true
      rw [if_neg (by rw [hany]; decide)]
      refine wpAny_bind (wpAny_holding ?_)
      rw [hgd]
      refine wpAny_of_eq take_eq ?_
      refine hseq ?_
      dsimp only
      rw [if_neg (show ¬ (vs.toArray.size != vs.toArray.size) = true from by rw [bne_self_eq_false]; exact Bool.false_ne_true)]
      refine wpAny_pure ⟨rfl, ?_, x + 1, hrest, hlt, ?_⟩
      · intro p hp'
        rcases List.mem_append.mp hp' with hp' | hp'
        · exact hp p hp'
        · rw [List.mem_singleton.mp hp']
          exact ⟨rfl, rfl⟩
      · have e2 : bs.take (x + 1) = bs.take x ++ [bs[x]] := by rw [List.take_add_one]; simp [hlt]
        have e3 : st.1.push bs[x] = (bs.take (x + 1)).toArray := by rw [hst, e2, List.push_toArray]
        exact e3
    · rintro st s' ⟨rfl, hp, i, hr, hi, hst⟩
      have hi' : i = bs.length := by
        rcases Nat.lt_or_ge i bs.length with hlt | hge
        · rw [show bs.length - i = (bs.length - (i + 1)) + 1 by omega, List.range'_succ] at hr
          cases hr
        · omega
      subst hi'
      rw [List.take_length] at hst
      refine wpAny_bind (wpAny_of_eq (a := #[]) rfl ?_)
      have hl : Bytes.tooLong (Array.foldl (fun x1 x2 => x1 + x2.size) ((#[] : Array UInt8).size * (st.1.size - 1)) st.1) = false := by
        refine KBy.tooLong_not ?_
        rw [hst, List.foldl_toArray, sum_fold]
        show 0 * _ + _ ≤ _
        omega
      rw [if_neg (by rw [hl]; exact Bool.false_ne_true)]
      have hst' : st.1.toList = bs := by rw [hst]
      rw [hst']
      refine wpAny_bind (m := mkBytes (Bytes.joined #[] bs)) (wpAny_mkBytes ?_ (by rw [sizeLine_eq]; exact hj))
      refine wpAny_bind (wpAny_holding (wpAny_point ?_))
      refine wpAny_bind (wpAny_joinLetGo hp ?_)
      exact wpAny_pure ⟨_, rfl, h _ _⟩
    · have hp0 : Plain [] := fun _ hp => nomatch hp
      refine ⟨rfl, hp0, 0, ?_, Nat.zero_le _, rfl⟩
      rw [Nat.sub_zero, ← hv.length]
      simp [Std.Legacy.Range.size]
end
end Mine
end
section
open PySem PySem.W PyProof.Rows PySem.Calls PySem.Builtin PySem.Builtin.Re
set_option maxRecDepth 100000
namespace Mine

def drive : Nat → Sre.M → Option Sre.M
  | 0, _ => none
  | k + 1, m => if (m.runFor 4).outcome.isSome then some (m.runFor 4) else drive k (m.runFor 4)

section
variable {M : Model} {A : Around} {E : Value → Shared → Prop} {s : Shared}
theorem wpAny_reDrive {Q : Sre.M → Shared → Prop} : ∀ {k n : Nat} {m m' : Sre.M}, drive k m = some m' → k ≤ n → Q m' s → wpAny M A (reDrive n m) Q E s
  | 0, _, _, _, h, _, _ => by cases h
  | k + 1, 0, _, _, _, hk, _ => by omega
  | k + 1, n + 1, m, m', h, hk, hq => by
    unfold drive at h
    unfold reDrive
    show wpAny M A (if (m.runFor 4).outcome.isSome = true then pure (m.runFor 4) else (rule "sre.turn" >>= fun _ => reDrive n (m.runFor 4))) Q E s
    by_cases ho : (m.runFor 4).outcome.isSome = true
    · rw [if_pos ho] at h ⊢
      injection h with h
      subst h
      exact wpAny_pure hq
    · rw [if_neg ho] at h ⊢
      exact wpAny_bind (wpAny_rule (wpAny_reDrive h (by omega) hq))
def outOf (m : Sre.M) : Option (Option Sre.M) := match m.outcome with
  | some .matched => some (some m)
  | some .failed => some none
  | _ => none
theorem wpAny_reRunToEnd {Q : Option Sre.M → Shared → Prop} {k : Nat} {m m' : Sre.M} {r : Option Sre.M} (h : drive k m = some m') (hk : k ≤ 2 ^ 64) (ho : outOf m' = some r) (hq : Q r s) : wpAny M A (reRunToEnd m) Q E s := by
  unfold reRunToEnd
  refine wpAny_bind (wpAny_reDrive h hk ?_)
  refine wpAny_bind (wpAny_forIn_list _ (fun _ _ s' => s' = s) _ ?_ ?_ _ _ rfl)
  · rintro x rest b s' rfl
    show wpAny _ _ (if m'.seen.has x = true then (rule (Sre.names.getD x "") >>= fun _ => pure (ForInStep.yield PUnit.unit)) else pure (ForInStep.yield PUnit.unit)) _ _ _
    by_cases hx : m'.seen.has x = true
    · rw [if_pos hx]
      exact wpAny_bind (wpAny_rule (wpAny_pure rfl))
    · rw [if_neg hx]
      exact wpAny_pure rfl
  · rintro b s' rfl
    unfold outOf at ho
    split at ho
    · rename_i e
      rw [e]
      injection ho with ho
      subst ho
      exact wpAny_pure hq
    · rename_i e
      rw [e]
      injection ho with ho
      subst ho
      exact wpAny_pure hq
    · cases ho
end

/-- the next match from `start`: its ends, or none -/
def nextM (code text : Array Nat) (start : Nat) (must : Bool) : Option (Option Sre.M) := (drive 4000 (Sre.forSearch code text 0 start text.size must)).bind outOf

/-- the pieces that `sub` gathers: `b''` for each match -/
def subL (code text : Array Nat) : Nat → Nat → Nat → Bool → Option (List (Array UInt8))
  | 0, _, _, _ => none
  | f + 1, done, start, must => match nextM code text start must with
    | none => none
    | some none => some (if done < text.size then [(text.extract done text.size).map (·.toUInt8)] else [])
    | some (some m) => (subL code text f m.handed m.handed (m.handed == m.start)).map fun r => (if done < m.start then [(text.extract done m.start).map (·.toUInt8)] else []) ++ #[] :: r
end Mine
end
section
open PySem
set_option maxRecDepth 100000
namespace Mine
abbrev code : Array Nat := #[14, 8, 1, 2, 4294967295, 1, 1, 34, 0, 16, 34, 28, 22, 0, 4294967295, 7, 11, 13, 7, 21, 16, 34, 16, 92, 0, 15, 8, 6, 16, 92, 2, 15, 2, 0, 1, 16, 34, 1]

abbrev Fm := Sre.Frame
abbrev F0 (p : Nat) (om : Bool) : Fm := { wait := .nextStart, pc := 9, pos := p, outermost := om }
abbrev K0 : Sre.Kept := { lastmark := -1, lastindex := -1, whole := true, marks := #[] }
abbrev FP (q : Nat) (c : Int) (om : Bool) : Fm := { wait := .possMore, pc := 11, pos := q, outermost := om, count := c, kept := K0, loop := 0 }
abbrev FN (a q : Nat) : Fm := { wait := .nextBranch, pc := a, pos := q, outermost := false, kept := K0 }
abbrev L0 : Array Sre.Loop := #[{ pc := 0, outer := none }]

abbrev mk (text : Array Nat) (start pos pc handed : Nat) (om ma : Bool) (loops : Array Sre.Loop) (inner : Option Nat) (frames : List Fm) (weight : Nat) (answer : Option Bool) (seen : Sre.Seen)  : Sre.M :=
  { code := code, text := text, lim := text.size, start := start, lastStart := text.size, wholeText := false, mustAdvance := ma, pc := pc, pos := pos, handed := handed, outermost := om, marks := #[], lastmark := -1, lastindex := -1,
    loops := loops, inner := inner, frames := frames, weight := weight, answer := answer, seen := seen, outcome := none }

section
variable {text : Array Nat} {p q h : Nat} {om ma : Bool} {sn : Sre.Seen} {c : Int}
abbrev stA (text : Array Nat) (p : Nat) (om ma : Bool) (sn : Sre.Seen)  : Sre.M := mk text p p 9 p om ma #[] none [F0 p om] 1 none sn
abbrev stC (text : Array Nat) (p q : Nat) (om ma : Bool) (c : Int) (sn : Sre.Seen)  : Sre.M := mk text p q 15 q false ma L0 (some 0) [FP q c om, F0 p om] 2 none sn
abbrev stE (text : Array Nat) (p q : Nat) (om ma : Bool) (sn : Sre.Seen)  : Sre.M := mk text p q 35 q om ma #[] none [F0 p om] 1 none sn
abbrev stX (text : Array Nat) (p q pc h : Nat) (om ma : Bool) (sn : Sre.Seen)  : Sre.M := mk text p q pc h om ma #[] none [F0 p om] 1 (some false) sn

theorem A_step1 (h1 : p < text.size) (h2 : text.getD p 0 = 34) : ∃ sn', (stA text p om ma sn).step = mk text p (p + 1) 11 p om ma #[] none [F0 p om] 1 none sn' := by
  have e : (stA text p om ma sn).step = (if p ≥ text.size then ({ stA text p om ma sn with seen := sn.add 16 }).say false else
    match Sre.accepts code 9 (text.getD p 0) (sn.add 16) with
    | .error why => ({ stA text p om ma sn with seen := sn.add 16 }).stick why
    | .ok (false, seen) => ({ stA text p om ma sn with seen := seen }).say false
    | .ok (true, seen) => { stA text p om ma sn with seen := seen, pc := 9 + Sre.itemWidth code 9, pos := p + 1 }) := rfl
  rw [e, if_neg (by omega), h2]
  exact ⟨_, rfl⟩
theorem B_step : ∃ sn', (mk text p (p + 1) 11 h om ma #[] none [F0 p om] 1 none sn).step = stC text p (p + 1) om ma 0 sn' := ⟨_, rfl⟩
theorem A_fail1 (h1 : ¬ (p < text.size ∧ text.getD p 0 = 34)) : ∃ sn', (stA text p om ma sn).step = stX text p p 9 p om ma sn' := by
  have e : (stA text p om ma sn).step = (if p ≥ text.size then ({ stA text p om ma sn with seen := sn.add 16 }).say false else
    match Sre.accepts code 9 (text.getD p 0) (sn.add 16) with
    | .error why => ({ stA text p om ma sn with seen := sn.add 16 }).stick why
    | .ok (false, seen) => ({ stA text p om ma sn with seen := seen }).say false
    | .ok (true, seen) => { stA text p om ma sn with seen := seen, pc := 9 + Sre.itemWidth code 9, pos := p + 1 }) := rfl
  rw [e]
  by_cases hp : p ≥ text.size
  · rw [if_pos hp]; exact ⟨_, rfl⟩
  · rw [if_neg hp]
    have hne : (text.getD p 0 == 34) = false := by
      rw [beq_eq_false_iff_ne]; intro q; exact h1 ⟨by omega, q⟩
    have ea : Sre.accepts code 9 (text.getD p 0) (sn.add 16) = .ok (text.getD p 0 == 34, sn.add 16) := rfl
    rw [ea, hne]
    exact ⟨_, rfl⟩

theorem X_next (h1 : p < text.size) {pc : Nat} : (stX text p q pc h om ma sn).step = stA text (p + 1) false false sn := by
  have e : (stX text p q pc h om ma sn).step = (if p < text.size then ({ (mk text p p 9 h om false #[] none [] 0 none sn) with mustAdvance := false }).attemptFrom (p + 1) false else (mk text p p 9 h om ma #[] none [] 0 none sn).say false) := rfl
  rw [e, if_pos h1]
  rfl
theorem X_last (h1 : ¬ p < text.size) {pc : Nat} : (stX text p q pc h om ma sn).step = (mk text p p 9 h om ma #[] none [] 0 (some false) sn) := by
  have e : (stX text p q pc h om ma sn).step = (if p < text.size then ({ (mk text p p 9 h om false #[] none [] 0 none sn) with mustAdvance := false }).attemptFrom (p + 1) false else (mk text p p 9 h om ma #[] none [] 0 none sn).say false) := rfl
  rw [e, if_neg h1]
  rfl

abbrev stD (text : Array Nat) (p q pos pc hd a : Nat) (om ma : Bool) (c : Int) (an : Option Bool) (sn : Sre.Seen) : Sre.M := mk text p pos pc hd false ma L0 (some 0) [FN a q, FP q c om, F0 p om] 3 an sn
abbrev stP (text : Array Nat) (p q pos pc hd : Nat) (om ma : Bool) (c : Int) (an : Option Bool) (sn : Sre.Seen) : Sre.M := mk text p pos pc hd false ma L0 (some 0) [FP q c om, F0 p om] 2 an sn

theorem C_step : ∃ sn', (stC text p q om ma c sn).step = stD text p q q 17 q 16 om ma c none sn' := ⟨_, rfl⟩
theorem acc17 (x : Nat) (sn : Sre.Seen) : ∃ s1 s2 s3, Sre.accepts code 17 x sn = if x == 34 then .ok (false, s1) else if x == 92 then .ok (false, s2) else .ok (true, s3) := ⟨_, _, _, rfl⟩
theorem D1_eq : ∃ sn', (stD text p q q 17 q 16 om ma c none sn).step = (if q ≥ text.size then stD text p q q 17 q 16 om ma c (some false) sn' else
    match Sre.accepts code 17 (text.getD q 0) sn' with
    | .error why => (stD text p q q 17 q 16 om ma c none sn').stick why
    | .ok (false, seen) => stD text p q q 17 q 16 om ma c (some false) seen
    | .ok (true, seen) => stD text p q (q + 1) 25 q 16 om ma c none seen) := ⟨_, rfl⟩
theorem D1_yes (h1 : q < text.size) (h2 : text.getD q 0 ≠ 34) (h3 : text.getD q 0 ≠ 92) : ∃ sn', (stD text p q q 17 q 16 om ma c none sn).step = stD text p q (q + 1) 25 q 16 om ma c none sn' := by
  obtain ⟨sn', e⟩ := D1_eq (text := text) (p := p) (q := q) (om := om) (ma := ma) (c := c) (sn := sn)
  obtain ⟨s1, s2, s3, ea⟩ := acc17 (text.getD q 0) sn'
  rw [e, if_neg (by omega), ea, if_neg (by simpa using h2), if_neg (by simpa using h3)]
  exact ⟨_, rfl⟩
theorem D1_no (h1 : ¬ (q < text.size ∧ text.getD q 0 ≠ 34 ∧ text.getD q 0 ≠ 92)) : ∃ sn', (stD text p q q 17 q 16 om ma c none sn).step = stD text p q q 17 q 16 om ma c (some false) sn' := by
  obtain ⟨sn', e⟩ := D1_eq (text := text) (p := p) (q := q) (om := om) (ma := ma) (c := c) (sn := sn)
  obtain ⟨s1, s2, s3, ea⟩ := acc17 (text.getD q 0) sn'
  rw [e]
  by_cases hq : q ≥ text.size
  · rw [if_pos hq]; exact ⟨_, rfl⟩
  · rw [if_neg hq, ea]
    by_cases h34 : text.getD q 0 = 34
    · rw [if_pos (by simpa using h34)]; exact ⟨_, rfl⟩
    · rw [if_neg (by simpa using h34)]
      have h92 : text.getD q 0 = 92 := by
        by_cases h : text.getD q 0 = 92
        · exact h
        · exact absurd ⟨by omega, h34, h⟩ h1
      rw [if_pos (by simpa using h92)]; exact ⟨_, rfl⟩
theorem J25 {pos a : Nat} : ∃ sn', (stD text p q pos 25 h a om ma c none sn).step = stD text p q pos 34 h a om ma c none sn' := ⟨_, rfl⟩
theorem J31 {pos a : Nat} : ∃ sn', (stD text p q pos 31 h a om ma c none sn).step = stD text p q pos 34 h a om ma c none sn' := ⟨_, rfl⟩
theorem S34 {pos a : Nat} : ∃ sn', (stD text p q pos 34 h a om ma c none sn).step = stD text p q pos 34 pos a om ma c (some true) sn' := ⟨_, rfl⟩
theorem N_yes {pos pc a : Nat} : (stD text p q pos pc h a om ma c (some true) sn).step = stP text p q q a h om ma c (some true) sn := rfl
theorem N16_no {pos pc : Nat} : (stD text p q pos pc h 16 om ma c (some false) sn).step = stD text p q q 28 q 27 om ma c none sn := rfl
theorem N27_no {pos pc : Nat} : (stD text p q pos pc h 27 om ma c (some false) sn).step = stP text p q q 27 h om ma c (some false) sn := rfl
theorem P_yes {pos pc : Nat} (hc : 0 ≤ c) (hq : q ≠ h) : (stP text p q pos pc h om ma c (some true) sn).step = stC text p h om ma (c + 1) sn := by
  have e : (stP text p q pos pc h om ma c (some true) sn).step = (if (c + 1 : Int) < ((0 : Nat) : Int) then (mk text p q 11 h om ma L0 (some 0) [F0 p om] 1 none sn).attempt { (mk text p q 11 h om ma L0 (some 0) [F0 p om] 1 none sn).frame .possBelow with loop := 0, count := c + 1 } 15 h false
    else if ((decide ((c + 1 : Int) < ((4294967295 : Nat) : Int)) || (4294967295 : Nat) == Sre.maxRepeat) && (some q != some h)) = true then stC text p h om ma (c + 1) sn
    else { (mk text p q 11 h om ma L0 (some 0) [F0 p om] 1 none sn) with inner := none, loops := #[], pc := 35, pos := h }) := rfl
  rw [e, if_neg (by omega), if_pos]
  have h1 : ((4294967295 : Nat) == Sre.maxRepeat) = true := by decide
  have h2 : (some q != some h) = true := by
    rw [bne_iff_ne]; intro e; injection e with e; exact hq e
  rw [h1, h2, Bool.or_true, Bool.true_and]
theorem P_no {pos pc : Nat} (hc : 0 ≤ c) : (stP text p q pos pc h om ma c (some false) sn).step = stE text p q om ma sn := by
  have e : (stP text p q pos pc h om ma c (some false) sn).step = (if (c : Int) < ((0 : Nat) : Int) then (mk text p q 11 q om ma L0 (some 0) [F0 p om] 1 none sn).attempt { (mk text p q 11 q om ma L0 (some 0) [F0 p om] 1 none sn).frame .possBelow with loop := 0, count := c } 15 q false
    else if ((decide ((c : Int) < ((4294967295 : Nat) : Int)) || (4294967295 : Nat) == Sre.maxRepeat) && (some q != some q)) = true then stC text p q om ma c sn
    else stE text p q om ma sn) := rfl
  rw [e, if_neg (by omega), if_neg]
  have h2 : (some q != some q) = false := by rw [bne_self_eq_false]
  rw [h2, Bool.and_false]
  exact Bool.false_ne_true
theorem D2_eq : ∃ sn', (stD text p q q 28 q 27 om ma c none sn).step = (if q ≥ text.size then stD text p q q 28 q 27 om ma c (some false) sn' else
    match Sre.accepts code 28 (text.getD q 0) sn' with
    | .error why => (stD text p q q 28 q 27 om ma c none sn').stick why
    | .ok (false, seen) => stD text p q q 28 q 27 om ma c (some false) seen
    | .ok (true, seen) => stD text p q (q + 1) 30 q 27 om ma c none seen) := ⟨_, rfl⟩
theorem acc28 (x : Nat) (sn : Sre.Seen) : Sre.accepts code 28 x sn = .ok (x == 92, sn) := rfl
theorem D2_yes (h1 : q < text.size) (h2 : text.getD q 0 = 92) : ∃ sn', (stD text p q q 28 q 27 om ma c none sn).step = stD text p q (q + 1) 30 q 27 om ma c none sn' := by
  obtain ⟨sn', e⟩ := D2_eq (text := text) (p := p) (q := q) (om := om) (ma := ma) (c := c) (sn := sn)
  rw [e, if_neg (by omega), acc28, h2]
  exact ⟨_, rfl⟩
theorem D2_no (h1 : ¬ (q < text.size ∧ text.getD q 0 = 92)) : ∃ sn', (stD text p q q 28 q 27 om ma c none sn).step = stD text p q q 28 q 27 om ma c (some false) sn' := by
  obtain ⟨sn', e⟩ := D2_eq (text := text) (p := p) (q := q) (om := om) (ma := ma) (c := c) (sn := sn)
  rw [e]
  by_cases hq : q ≥ text.size
  · rw [if_pos hq]; exact ⟨_, rfl⟩
  · rw [if_neg hq, acc28]
    have hne : (text.getD q 0 == 92) = false := by rw [beq_eq_false_iff_ne]; intro e; exact h1 ⟨by omega, e⟩
    rw [hne]
    exact ⟨_, rfl⟩
theorem D3_eq {pos : Nat} : ∃ sn', (stD text p q pos 30 h 27 om ma c none sn).step = (if pos ≥ text.size then stD text p q pos 30 h 27 om ma c (some false) sn' else
    match Sre.accepts code 30 (text.getD pos 0) sn' with
    | .error why => (stD text p q pos 30 h 27 om ma c none sn').stick why
    | .ok (false, seen) => stD text p q pos 30 h 27 om ma c (some false) seen
    | .ok (true, seen) => stD text p q (pos + 1) 31 h 27 om ma c none seen) := ⟨_, rfl⟩
theorem acc30 (x : Nat) (sn : Sre.Seen) : Sre.accepts code 30 x sn = .ok (x != 10, sn) := rfl
theorem D3_yes {pos : Nat} (h1 : pos < text.size) (h2 : text.getD pos 0 ≠ 10) : ∃ sn', (stD text p q pos 30 h 27 om ma c none sn).step = stD text p q (pos + 1) 31 h 27 om ma c none sn' := by
  obtain ⟨sn', e⟩ := D3_eq (text := text) (p := p) (q := q) (om := om) (ma := ma) (c := c) (sn := sn) (pos := pos) (h := h)
  have hne : (text.getD pos 0 != 10) = true := by rw [bne_iff_ne]; exact h2
  rw [e, if_neg (by omega), acc30, hne]
  exact ⟨_, rfl⟩
theorem D3_no {pos : Nat} (h1 : ¬ (pos < text.size ∧ text.getD pos 0 ≠ 10)) : ∃ sn', (stD text p q pos 30 h 27 om ma c none sn).step = stD text p q pos 30 h 27 om ma c (some false) sn' := by
  obtain ⟨sn', e⟩ := D3_eq (text := text) (p := p) (q := q) (om := om) (ma := ma) (c := c) (sn := sn) (pos := pos) (h := h)
  rw [e]
  by_cases hq : pos ≥ text.size
  · rw [if_pos hq]; exact ⟨_, rfl⟩
  · rw [if_neg hq, acc30]
    have hne : (text.getD pos 0 != 10) = false := by
      rw [bne_eq_false_iff_eq]
      by_cases h : text.getD pos 0 = 10
      · exact h
      · exact absurd ⟨by omega, h⟩ h1
    rw [hne]
    exact ⟨_, rfl⟩
theorem E_eq : ∃ sn', (stE text p q om ma sn).step = (if q ≥ text.size then stX text p q 35 q om ma sn' else
    match Sre.accepts code 35 (text.getD q 0) sn' with
    | .error why => (stE text p q om ma sn').stick why
    | .ok (false, seen) => stX text p q 35 q om ma seen
    | .ok (true, seen) => mk text p (q + 1) 37 q om ma #[] none [F0 p om] 1 none seen) := ⟨_, rfl⟩
theorem acc35 (x : Nat) (sn : Sre.Seen) : Sre.accepts code 35 x sn = .ok (x == 34, sn) := rfl
theorem E_yes (h1 : q < text.size) (h2 : text.getD q 0 = 34) : ∃ sn', (stE text p q om ma sn).step = mk text p (q + 1) 37 q om ma #[] none [F0 p om] 1 none sn' := by
  obtain ⟨sn', e⟩ := E_eq (text := text) (p := p) (q := q) (om := om) (ma := ma) (sn := sn)
  rw [e, if_neg (by omega), acc35, h2]
  exact ⟨_, rfl⟩
theorem E_no (h1 : ¬ (q < text.size ∧ text.getD q 0 = 34)) : ∃ sn', (stE text p q om ma sn).step = stX text p q 35 q om ma sn' := by
  obtain ⟨sn', e⟩ := E_eq (text := text) (p := p) (q := q) (om := om) (ma := ma) (sn := sn)
  rw [e]
  by_cases hq : q ≥ text.size
  · rw [if_pos hq]; exact ⟨_, rfl⟩
  · rw [if_neg hq, acc35]
    have hne : (text.getD q 0 == 34) = false := by rw [beq_eq_false_iff_ne]; intro e; exact h1 ⟨by omega, e⟩
    rw [hne]
    exact ⟨_, rfl⟩
theorem G_step (hne : q ≠ p) : ∃ sn', (mk text p q 37 h om ma #[] none [F0 p om] 1 none sn).step = mk text p q 37 q om ma #[] none [F0 p om] 1 (some true) sn' := by
  have e : ∃ sn', (mk text p q 37 h om ma #[] none [F0 p om] 1 none sn).step = (if (om && ((false && q != text.size) || (ma && q == p))) = true then (mk text p q 37 h om ma #[] none [F0 p om] 1 none sn').say false else mk text p q 37 q om ma #[] none [F0 p om] 1 (some true) sn') := ⟨_, rfl⟩
  obtain ⟨sn', e⟩ := e
  have hq : (q == p) = false := by rw [beq_eq_false_iff_ne]; exact hne
  rw [e, hq, Bool.and_false, Bool.false_and, Bool.or_false, Bool.and_false, if_neg Bool.false_ne_true]
  exact ⟨_, rfl⟩
theorem Y_step {pc : Nat} : (mk text p q pc h om ma #[] none [F0 p om] 1 (some true) sn).step = mk text p p 9 h om ma #[] none [] 0 (some true) sn := rfl
theorem Z_yes {pos pc w : Nat} : (mk text p pos pc h om ma #[] none [] w (some true) sn).step = { mk text p pos pc h om ma #[] none [] w (some true) sn with outcome := some .matched } := rfl
theorem Z_no {pos pc w : Nat} : (mk text p pos pc h om ma #[] none [] w (some false) sn).step = { mk text p pos pc h om ma #[] none [] w (some false) sn with outcome := some .failed } := rfl
end
end Mine
end
section
open PySem
set_option maxRecDepth 100000
namespace Mine

theorem step_done {m : Sre.M} (h : m.outcome.isSome = true) : m.step = m := by
  unfold Sre.M.step
  rw [if_pos h]
theorem runFor_done {m : Sre.M} (h : m.outcome.isSome = true) : ∀ n, m.runFor n = m
  | 0 => rfl
  | n + 1 => by unfold Sre.M.runFor; rw [if_pos h]
theorem runFor_succ (n : Nat) (m : Sre.M) : m.runFor (n + 1) = m.step.runFor n := by
  show (if m.outcome.isSome = true then m else m.step.runFor n) = _
  by_cases h : m.outcome.isSome = true
  · rw [if_pos h, step_done h, runFor_done h]
  · rw [if_neg h]
theorem runFor_add : ∀ (a b : Nat) (m : Sre.M), m.runFor (a + b) = (m.runFor a).runFor b
  | 0, b, m => by rw [Nat.zero_add]; rfl
  | a + 1, b, m => by rw [Nat.succ_add, runFor_succ, runFor_succ, runFor_add a b]

/-- m comes to m' within n steps -/
def To (n : Nat) (m m' : Sre.M) : Prop := ∃ k, k ≤ n ∧ m.runFor k = m'
theorem To.refl (m : Sre.M) : To 0 m m := ⟨0, Nat.le_refl _, rfl⟩
theorem To.step {n : Nat} {m m' : Sre.M} (h : To n m.step m') : To (n + 1) m m' := by
  obtain ⟨k, hk, e⟩ := h
  exact ⟨k + 1, by omega, by rw [runFor_succ, e]⟩
theorem To.trans {a b : Nat} {m m' m'' : Sre.M} (h : To a m m') (g : To b m' m'') : To (a + b) m m'' := by
  obtain ⟨k, hk, e⟩ := h
  obtain ⟨j, hj, f⟩ := g
  exact ⟨k + j, by omega, by rw [runFor_add, e, f]⟩
theorem To.le {a b : Nat} {m m' : Sre.M} (h : To a m m') (g : a ≤ b) : To b m m' := by
  obtain ⟨k, hk, e⟩ := h
  exact ⟨k, by omega, e⟩
theorem To.st {n : Nat} {m m1 m' : Sre.M} (e : m.step = m1) (h : To n m1 m') : To (n + 1) m m' := .step (e ▸ h)

/-- how many signs the quoted run takes, behind its opening mark -/
def scanL : List Nat → Option Nat
  | [] => none
  | c :: r => if c = 34 then some 1 else if c = 92 then (match r with | [] => none | d :: r' => if d = 10 then none else (scanL r').map (· + 2)) else (scanL r).map (· + 1)
theorem scan34 (r : List Nat) : scanL (34 :: r) = some 1 := by unfold scanL; rfl
theorem scan92n : scanL [92] = none := by unfold scanL; rfl
theorem scan92b (r : List Nat) : scanL (92 :: 10 :: r) = none := by unfold scanL; rfl
theorem scan92 {d : Nat} (r : List Nat) (h : d ≠ 10) : scanL (92 :: d :: r) = (scanL r).map (· + 2) := by
  conv => lhs; unfold scanL
  simp [h]
theorem scanO {x : Nat} (r : List Nat) (h : x ≠ 34) (h' : x ≠ 92) : scanL (x :: r) = (scanL r).map (· + 1) := by
  conv => lhs; unfold scanL
  simp [h, h']
def nextL : List Nat → Nat → Option (Nat × Nat)
  | [], _ => none
  | c :: r, p => if c = 34 then (match scanL r with | some k => some (p, p + 1 + k) | none => nextL r (p + 1)) else nextL r (p + 1)

section
variable {text : Array Nat} {p q h : Nat} {om ma : Bool} {sn : Sre.Seen} {c : Int}
def Hit (text : Array Nat) (p e : Nat) (m : Sre.M) : Prop := m.outcome = some .matched ∧ m.start = p ∧ m.handed = e
theorem drop_cons {l : List Nat} {q x : Nat} {r : List Nat} (e : text.toList.drop q = x :: r) : q < text.size ∧ text.getD q 0 = x ∧ text.toList.drop (q + 1) = r := by
  have h1 : q < text.toList.length := by
    rcases Nat.lt_or_ge q text.toList.length with h | h
    · exact h
    · rw [List.drop_of_length_le h] at e; cases e
  rw [List.drop_eq_getElem_cons h1] at e
  injection e with e1 e2
  have h2 : q < text.size := by rw [← Array.length_toList]; exact h1
  refine ⟨h2, ?_, e2⟩
  rw [← e1]
  simp [Array.getD, h2]
theorem drop_nil {q : Nat} (e : text.toList.drop q = []) : ¬ q < text.size := by
  intro h
  rw [← Array.length_toList] at h
  rw [List.drop_eq_getElem_cons h] at e
  cases e

theorem E_run (hq : p < q) : (q < text.size ∧ text.getD q 0 = 34 → ∃ m', To 5 (stE text p q om ma sn) m' ∧ Hit text p (q + 1) m') ∧
    (¬ (q < text.size ∧ text.getD q 0 = 34) → ∃ q' pc h' sn', To 1 (stE text p q om ma sn) (stX text p q' pc h' om ma sn')) := by
  refine ⟨fun h => ?_, fun h => ?_⟩
  · obtain ⟨s1, e1⟩ := E_yes (p := p) (om := om) (ma := ma) (sn := sn) h.1 h.2
    obtain ⟨s2, e2⟩ := G_step (text := text) (p := p) (q := q + 1) (h := q) (om := om) (ma := ma) (sn := s1) (by omega)
    exact ⟨_, (To.st e1 (.st e2 (.st Y_step (.st Z_yes (.refl _))))).le (by omega), rfl, rfl, rfl⟩
  · obtain ⟨s1, e1⟩ := E_no (p := p) (om := om) (ma := ma) (sn := sn) h
    exact ⟨_, _, _, _, .st e1 (.refl _)⟩

theorem C_run : ∀ (n : Nat) (l : List Nat), l.length ≤ n → ∀ (q : Nat) (c : Int) (sn : Sre.Seen), text.toList.drop q = l → p < q → 0 ≤ c →
    (∀ k, scanL l = some k → ∃ m', To (12 * (l.length + 1)) (stC text p q om ma c sn) m' ∧ Hit text p (q + k) m') ∧
    (scanL l = none → ∃ q' pc h' sn', To (12 * (l.length + 1)) (stC text p q om ma c sn) (stX text p q' pc h' om ma sn')) := by
  -- the way on when both branches fail
  have fails : ∀ (q : Nat) (c : Int) (sn : Sre.Seen), 0 ≤ c → ¬ (q < text.size ∧ text.getD q 0 ≠ 34 ∧ text.getD q 0 ≠ 92) → ¬ (q < text.size ∧ text.getD q 0 = 92) →
      ∃ sn', To 6 (stC text p q om ma c sn) (stE text p q om ma sn') := by
    intro q c sn hc h1 h2
    obtain ⟨s1, e1⟩ := C_step (text := text) (p := p) (q := q) (om := om) (ma := ma) (c := c) (sn := sn)
    obtain ⟨s2, e2⟩ := D1_no (text := text) (p := p) (q := q) (om := om) (ma := ma) (c := c) (sn := s1) h1
    obtain ⟨s3, e3⟩ := D2_no (text := text) (p := p) (q := q) (om := om) (ma := ma) (c := c) (sn := s2) h2
    exact ⟨_, .st e1 (.st e2 (.st N16_no (.st e3 (.st N27_no (.st (P_no hc) (.refl _))))))⟩
  intro n
  induction n with
  | zero =>
    intro l hl q c sn e hp hc
    have hl0 : l = [] := List.eq_nil_of_length_eq_zero (by omega)
    subst hl0
    have hq := drop_nil e
    refine ⟨fun k hk => by simp [scanL] at hk, fun _ => ?_⟩
    obtain ⟨s1, t1⟩ := fails q c sn hc (fun h => hq h.1) (fun h => hq h.1)
    obtain ⟨q', pc, h', s2, t2⟩ := (E_run (text := text) (om := om) (ma := ma) (sn := s1) hp).2 (fun h => hq h.1)
    exact ⟨_, _, _, _, (t1.trans t2).le (by simp)⟩
  | succ n ih =>
    intro l hl q c sn e hp hc
    cases l with
    | nil =>
      have hq := drop_nil e
      refine ⟨fun k hk => by simp [scanL] at hk, fun _ => ?_⟩
      obtain ⟨s1, t1⟩ := fails q c sn hc (fun h => hq h.1) (fun h => hq h.1)
      obtain ⟨q', pc, h', s2, t2⟩ := (E_run (text := text) (om := om) (ma := ma) (sn := s1) hp).2 (fun h => hq h.1)
      exact ⟨_, _, _, _, (t1.trans t2).le (by simp)⟩
    | cons x r =>
      obtain ⟨hq, hx, hr⟩ := drop_cons (l := []) e
      by_cases h34 : x = 34
      · subst h34
        obtain ⟨s1, t1⟩ := fails q c sn hc (fun h => h.2.1 hx) (fun h => by rw [hx] at h; exact absurd h.2 (by decide))
        obtain ⟨m', t2, hm⟩ := (E_run (text := text) (om := om) (ma := ma) (sn := s1) hp).1 ⟨hq, hx⟩
        refine ⟨fun k hk => ?_, fun hk => by rw [scan34] at hk; cases hk⟩
        rw [scan34] at hk
        cases hk
        exact ⟨m', (t1.trans t2).le (by simp; omega), hm⟩
      · by_cases h92 : x = 92
        · subst h92
          obtain ⟨s1, e1⟩ := C_step (text := text) (p := p) (q := q) (om := om) (ma := ma) (c := c) (sn := sn)
          obtain ⟨s2, e2⟩ := D1_no (text := text) (p := p) (q := q) (om := om) (ma := ma) (c := c) (sn := s1) (fun h => h.2.2 hx)
          obtain ⟨s3, e3⟩ := D2_yes (text := text) (p := p) (q := q) (om := om) (ma := ma) (c := c) (sn := s2) hq hx
          have t0 : To 4 (stC text p q om ma c sn) (stD text p q (q + 1) 30 q 27 om ma c none s3) := .st e1 (.st e2 (.st N16_no (.st e3 (.refl _))))
          have bad : ¬ (q + 1 < text.size ∧ text.getD (q + 1) 0 ≠ 10) → ∃ q' pc h' sn', To (12 * ((92 :: r).length + 1)) (stC text p q om ma c sn) (stX text p q' pc h' om ma sn') := by
            intro hb
            obtain ⟨s4, e4⟩ := D3_no (text := text) (p := p) (q := q) (h := q) (om := om) (ma := ma) (c := c) (sn := s3) hb
            obtain ⟨q', pc, h', s5, t5⟩ := (E_run (text := text) (om := om) (ma := ma) (sn := s4) hp).2 (fun h => by rw [hx] at h; exact absurd h.2 (by decide))
            exact ⟨_, _, _, _, (t0.trans (To.st e4 (.st N27_no (.st (P_no hc) t5)))).le (by simp; omega)⟩
          cases r with
          | nil =>
            have hq1 := drop_nil hr
            exact ⟨fun k hk => (by rw [scan92n] at hk; cases hk), fun _ => bad fun h => hq1 h.1⟩
          | cons d r' =>
            obtain ⟨hq1, hd, hr'⟩ := drop_cons (l := []) hr
            by_cases h10 : d = 10
            · subst h10
              exact ⟨fun k hk => (by rw [scan92b] at hk; cases hk), fun _ => bad fun h => h.2 hd⟩
            · obtain ⟨s4, e4⟩ := D3_yes (text := text) (p := p) (q := q) (h := q) (om := om) (ma := ma) (c := c) (sn := s3) hq1 (by rw [hd]; exact h10)
              obtain ⟨s5, e5⟩ := J31 (text := text) (p := p) (q := q) (h := q) (om := om) (ma := ma) (c := c) (sn := s4) (pos := q + 1 + 1) (a := 27)
              obtain ⟨s6, e6⟩ := S34 (text := text) (p := p) (q := q) (h := q) (om := om) (ma := ma) (c := c) (sn := s5) (pos := q + 1 + 1) (a := 27)
              have t1 := t0.trans (To.st e4 (.st e5 (.st e6 (.st N_yes (.st (P_yes hc (by omega)) (.refl _))))))
              obtain ⟨i1, i2⟩ := ih r' (by simp at hl; omega) (q + 1 + 1) (c + 1) s6 hr' (by omega) (by omega)
              refine ⟨fun k hk => ?_, fun hk => ?_⟩
              · rw [scan92 _ h10] at hk; simp at hk
                obtain ⟨k', hk', rfl⟩ := hk
                obtain ⟨m', t2, hm⟩ := i1 k' hk'
                refine ⟨m', (t1.trans t2).le (by simp; omega), ?_⟩
                rw [show q + (k' + 2) = q + 1 + 1 + k' by omega]
                exact hm
              · rw [scan92 _ h10] at hk; simp at hk
                obtain ⟨q', pc, h', s7, t2⟩ := i2 hk
                exact ⟨_, _, _, _, (t1.trans t2).le (by simp; omega)⟩
        · obtain ⟨s1, e1⟩ := C_step (text := text) (p := p) (q := q) (om := om) (ma := ma) (c := c) (sn := sn)
          obtain ⟨s2, e2⟩ := D1_yes (text := text) (p := p) (q := q) (om := om) (ma := ma) (c := c) (sn := s1) hq (by rw [hx]; exact h34) (by rw [hx]; exact h92)
          obtain ⟨s5, e5⟩ := J25 (text := text) (p := p) (q := q) (h := q) (om := om) (ma := ma) (c := c) (sn := s2) (pos := q + 1) (a := 16)
          obtain ⟨s6, e6⟩ := S34 (text := text) (p := p) (q := q) (h := q) (om := om) (ma := ma) (c := c) (sn := s5) (pos := q + 1) (a := 16)
          have t1 : To 6 (stC text p q om ma c sn) (stC text p (q + 1) om ma (c + 1) s6) := To.st e1 (.st e2 (.st e5 (.st e6 (.st N_yes (.st (P_yes hc (by omega)) (.refl _))))))
          obtain ⟨i1, i2⟩ := ih r (by simp at hl; omega) (q + 1) (c + 1) s6 hr (by omega) (by omega)
          refine ⟨fun k hk => ?_, fun hk => ?_⟩
          · rw [scanO _ h34 h92] at hk; simp at hk
            obtain ⟨k', hk', rfl⟩ := hk
            obtain ⟨m', t2, hm⟩ := i1 k' hk'
            refine ⟨m', (t1.trans t2).le (by simp; omega), ?_⟩
            rw [show q + (k' + 1) = q + 1 + k' by omega]
            exact hm
          · rw [scanO _ h34 h92] at hk; simp at hk
            obtain ⟨q', pc, h', s7, t2⟩ := i2 hk
            exact ⟨_, _, _, _, (t1.trans t2).le (by simp; omega)⟩

theorem A_run : ∀ (l : List Nat) (N : Nat), l.length ≤ N → ∀ (p : Nat) (om ma : Bool) (sn : Sre.Seen), text.toList.drop p = l → p ≤ text.size →
    (∀ a b, nextL l p = some (a, b) → ∃ m', To ((12 * (N + 3)) * (l.length + 1)) (stA text p om ma sn) m' ∧ Hit text a b m') ∧
    (nextL l p = none → ∃ m', To ((12 * (N + 3)) * (l.length + 1)) (stA text p om ma sn) m' ∧ m'.outcome = some .failed) := by
  intro l
  induction l with
  | nil =>
    intro N hN p om ma sn e hp
    have hq := drop_nil e
    refine ⟨fun a b h => by simp [nextL] at h, fun _ => ?_⟩
    obtain ⟨s1, e1⟩ := A_fail1 (p := p) (om := om) (ma := ma) (sn := sn) (fun h : p < text.size ∧ text.getD p 0 = 34 => hq h.1)
    exact ⟨_, (To.st e1 (.st (X_last hq) (.st Z_no (.refl _)))).le (by simp; omega), rfl⟩
  | cons x r ih =>
    intro N hN p om ma sn e hp
    obtain ⟨hq, hx, hr⟩ := drop_cons (l := []) e
    have go : ∀ (k : Nat) (m0 : Sre.M) (s1 : Sre.Seen) (q' pc h' : Nat), k + 1 ≤ 12 * (N + 3) → To k m0 (stX text p q' pc h' om ma s1) →
        (∀ a b, nextL r (p + 1) = some (a, b) → ∃ m', To ((12 * (N + 3)) * ((x :: r).length + 1)) m0 m' ∧ Hit text a b m') ∧
        (nextL r (p + 1) = none → ∃ m', To ((12 * (N + 3)) * ((x :: r).length + 1)) m0 m' ∧ m'.outcome = some .failed) := by
      intro k m0 s1 q' pc h' hk t0
      obtain ⟨i1, i2⟩ := ih N (by simp at hN; omega) (p + 1) false false s1 hr (by omega)
      have hb : k + 1 + (12 * (N + 3)) * (r.length + 1) ≤ (12 * (N + 3)) * ((x :: r).length + 1) := by
        rw [List.length_cons, Nat.mul_add _ (r.length + 1) 1, Nat.mul_one]
        omega
      have t1 : To (k + 1) m0 (stA text (p + 1) false false s1) := t0.trans (.st (X_next hq) (.refl _))
      refine ⟨fun a b h => ?_, fun h => ?_⟩
      · obtain ⟨m', t2, hm⟩ := i1 a b h
        exact ⟨m', (t1.trans t2).le hb, hm⟩
      · obtain ⟨m', t2, hm⟩ := i2 h
        exact ⟨m', (t1.trans t2).le hb, hm⟩
    by_cases h34 : x = 34
    · subst h34
      obtain ⟨s1, e1⟩ := A_step1 (om := om) (ma := ma) (sn := sn) hq hx
      obtain ⟨s2, e2⟩ := B_step (text := text) (p := p) (h := p) (om := om) (ma := ma) (sn := s1)
      obtain ⟨c1, c2⟩ := C_run (text := text) (p := p) (om := om) (ma := ma) r.length r (Nat.le_refl _) (p + 1) 0 s2 hr (by omega) (Int.le_refl _)
      have hrl : r.length ≤ N := by simp at hN; omega
      have hb0 : 2 + 12 * (r.length + 1) + 1 ≤ 12 * (N + 3) := by omega
      cases hs : scanL r with
      | some k =>
        refine ⟨fun a b h => ?_, fun h => by simp [nextL, hs] at h⟩
        simp [nextL, hs] at h
        obtain ⟨rfl, rfl⟩ := h
        obtain ⟨m', t2, hm⟩ := c1 k hs
        refine ⟨m', (To.st e1 (.st e2 t2)).le ?_, hm⟩
        have : (12 * (N + 3)) * 1 ≤ (12 * (N + 3)) * ((34 :: r).length + 1) := Nat.mul_le_mul_left _ (by simp)
        omega
      | none =>
        obtain ⟨q', pc, h', s3, t2⟩ := c2 hs
        obtain ⟨g1, g2⟩ := go (12 * (r.length + 1) + 1 + 1) _ s3 q' pc h' (by omega) (To.st e1 (.st e2 t2))
        refine ⟨fun a b h => g1 a b ?_, fun h => g2 ?_⟩
        · simpa [nextL, hs] using h
        · simpa [nextL, hs] using h
    · obtain ⟨s1, e1⟩ := A_fail1 (p := p) (om := om) (ma := ma) (sn := sn) (fun h : p < text.size ∧ text.getD p 0 = 34 => h34 (by rw [← hx]; exact h.2))
      obtain ⟨g1, g2⟩ := go 1 _ s1 p 9 p (by omega) (To.st e1 (.refl _))
      refine ⟨fun a b h => g1 a b ?_, fun h => g2 ?_⟩
      · simpa [nextL, h34] using h
      · simpa [nextL, h34] using h

theorem nextL_short {l : List Nat} (p : Nat) (h : l.length < 2) : nextL l p = none := by
  cases l with
  | nil => rfl
  | cons x r =>
    have hr : r = [] := List.eq_nil_of_length_eq_zero (by simp at h; omega)
    subst hr
    by_cases hx : x = 34
    · subst hx; rfl
    · simp [nextL, hx]

theorem search_run (start : Nat) (ma : Bool) (hs : start ≤ text.size) :
    (∀ a b, nextL (text.toList.drop start) start = some (a, b) → ∃ m', To ((12 * (text.size + 3)) * (text.size + 1)) (Sre.forSearch code text 0 start text.size ma) m' ∧ Hit text a b m') ∧
    (nextL (text.toList.drop start) start = none → ∃ m', To ((12 * (text.size + 3)) * (text.size + 1)) (Sre.forSearch code text 0 start text.size ma) m' ∧ m'.outcome = some .failed) := by
  have hl : (text.toList.drop start).length = text.size - start := by simp
  have e : Sre.forSearch code text 0 start text.size ma = (if (decide (start > text.size) || decide (text.size - start < 2)) = true then { mk text start start 9 start true ma #[] none [] 0 (some false) (({} : Sre.Seen).add 14) with lastStart := 0 } else stA text start true ma (({} : Sre.Seen).add 14)) := rfl
  by_cases h2 : text.size - start < 2
  · have hn := nextL_short (l := text.toList.drop start) start (by rw [hl]; exact h2)
    rw [e, if_pos (by simp [h2])]
    refine ⟨fun a b h => (by rw [hn] at h; cases h), fun _ => ⟨{ mk text start start 9 start true ma #[] none [] 0 (some false) (({} : Sre.Seen).add 14) with lastStart := 0, outcome := some .failed }, (To.st rfl (.refl _)).le ?_, rfl⟩⟩
    have : 0 < (12 * (text.size + 3)) * (text.size + 1) := Nat.mul_pos (by omega) (by omega)
    omega
  · have h3 : ¬ start > text.size := by omega
    rw [e, if_neg (by simp [h2, h3])]
    obtain ⟨i1, i2⟩ := A_run (text := text) (text.toList.drop start) text.size (by rw [hl]; omega) start true ma (({} : Sre.Seen).add 14) rfl hs
    have hb : (12 * (text.size + 3)) * ((text.toList.drop start).length + 1) ≤ (12 * (text.size + 3)) * (text.size + 1) := Nat.mul_le_mul_left _ (by rw [hl]; omega)
    refine ⟨fun a b h => ?_, fun h => ?_⟩
    · obtain ⟨m', t, hm⟩ := i1 a b h
      exact ⟨m', t.le hb, hm⟩
    · obtain ⟨m', t, hm⟩ := i2 h
      exact ⟨m', t.le hb, hm⟩

theorem drive_of : ∀ (k n : Nat) (m m' : Sre.M), m.runFor n = m' → m'.outcome.isSome = true → n ≤ 4 * (k + 1) → drive (k + 1) m = some m'
  | 0, n, m, m', e, ho, hn => by
    have e4 : m.runFor 4 = m' := by
      rw [show 4 = n + (4 - n) by omega, runFor_add, e, runFor_done ho]
    unfold drive
    rw [e4, if_pos ho]
  | k + 1, n, m, m', e, ho, hn => by
    unfold drive
    by_cases h4 : (m.runFor 4).outcome.isSome = true
    · rw [if_pos h4]
      congr 1
      rcases Nat.le_total n 4 with h | h
      · rw [show 4 = n + (4 - n) by omega, runFor_add, e, runFor_done ho]
      · rw [← e, show n = 4 + (n - 4) by omega, runFor_add, runFor_done h4]
    · rw [if_neg h4]
      have hn4 : 4 ≤ n := by
        rcases Nat.lt_or_ge n 4 with h | h
        · exfalso
          apply h4
          rw [show 4 = n + (4 - n) by omega, runFor_add, e, runFor_done ho]
          exact ho
        · exact h
      refine drive_of k (n - 4) (m.runFor 4) m' ?_ ho (by omega)
      rw [← runFor_add, show 4 + (n - 4) = n by omega]
      exact e
end
section
variable {M : Model} {A : Around} {E : Value → Shared → Prop} {s : Shared} {text : Array Nat}
theorem wpAny_search {Q : Option Sre.M → Shared → Prop} {start : Nat} {ma : Bool} (hs : start ≤ text.size) (hz : text.size ≤ 16777216)
    (h1 : ∀ a b m', nextL (text.toList.drop start) start = some (a, b) → m'.start = a → m'.handed = b → Q (some m') s)
    (h2 : nextL (text.toList.drop start) start = none → Q none s) : wpAny M A (PySem.Builtin.Re.reRunToEnd (Sre.forSearch code text 0 start text.size ma)) Q E s := by
  obtain ⟨r1, r2⟩ := search_run (text := text) start ma hs
  have hb : (12 * (text.size + 3)) * (text.size + 1) ≤ 2 ^ 60 := by
    have : (12 * (text.size + 3)) * (text.size + 1) ≤ (12 * (16777216 + 3)) * (16777216 + 1) := Nat.mul_le_mul (by omega) (by omega)
    exact Nat.le_trans this (by decide)
  cases hn : nextL (text.toList.drop start) start with
  | some ab =>
    obtain ⟨a, b⟩ := ab
    obtain ⟨m', ⟨k, hk, e⟩, ho, ha, hbb⟩ := r1 a b hn
    refine wpAny_reRunToEnd (drive_of k k _ m' e (by rw [ho]; rfl) (by omega)) ?_ (r := some m') ?_ (h1 a b m' hn ha hbb)
    · have : (2 : Nat) ^ 60 + 1 ≤ 2 ^ 64 := by decide
      omega
    · unfold outOf
      rw [ho]
  | none =>
    obtain ⟨m', ⟨k, hk, e⟩, ho⟩ := r2 hn
    refine wpAny_reRunToEnd (drive_of k k _ m' e (by rw [ho]; rfl) (by omega)) ?_ (r := none) ?_ (h2 hn)
    · have : (2 : Nat) ^ 60 + 1 ≤ 2 ^ 64 := by decide
      omega
    · unfold outOf
      rw [ho]
end
end Mine
end
section
open PySem PySem.W PyProof.Rows PySem.Calls PySem.Builtin PySem.Builtin.Re
set_option maxRecDepth 100000
namespace Mine

def subP (text : Array Nat) : Nat → Nat → Option (List (Array UInt8))
  | 0, _ => none
  | f + 1, p => match nextL (text.toList.drop p) p with
    | none => some (if p < text.size then [(text.extract p text.size).map (·.toUInt8)] else [])
    | some (a, b) => (subP text f b).map fun r => (if p < a then [(text.extract p a).map (·.toUInt8)] else []) ++ #[] :: r

abbrev codeVs (ts : List Tok) : List Value := code.toList.zipWith (fun (c : Nat) t => Value.int (c : Int) t) ts

structure PatAt (h : Heap) : Prop where
  pat : ∃ b t1 t2 sl, h.get? 50 = some ⟨.type "re.Pattern", none, .fields #[.bytes b t1, .int 0 t2, .int 0 0, .none, .none, .ref 49, .int 1 0], sl⟩
  tup : ∃ c d xs n sl, h.get? 49 = some ⟨c, d, .seq xs n, sl⟩ ∧ xs.map reRawOf = code.map Int.ofNat

section
variable {M : Model} {A : Around} {E : Value → Shared → Prop} {s : Shared} {b : Array UInt8} {u : Tok}
abbrev tgt (b : Array UInt8) (u : Tok) : ReTarget := { pattern := .ref 50, string := .bytes b u, code := code, text := b.map (·.toNat), kind := 1, groups := 0, pos := 0, lim := (b.map (·.toNat)).size }
theorem wp_no {α : Type} {c : Prop} [Decidable c] {x y : Sem α} {Q : α → Shared → Prop} (h : ¬ c) (hy : wpAny M A y Q E s) : wpAny M A (if c then x else y) Q E s := by rw [if_neg h]; exact hy
theorem wp_yes {α : Type} {c : Prop} [Decidable c] {x y : Sem α} {Q : α → Shared → Prop} (h : c) (hx : wpAny M A x Q E s) : wpAny M A (if c then x else y) Q E s := by rw [if_pos h]; exact hx
theorem text_eq : reTextOf (.bytes b u) = pure (b.map (·.toNat), 1) := by
  unfold reTextOf
  show (Bytes.bufferQuiet? "_sre" (.bytes b u) >>= fun r => _) = _
  rw [KBy.quiet_eq]
  rfl
theorem instB : isInstance (.bytes b u) (.type "bytes") = pure true := KBy.isInstance_eq
theorem wpAny_target {Q : ReTarget → Shared → Prop} (H : PatAt s.heap) (h : Q (tgt b u) s) : wpAny M A (reWholeTarget (.ref 50) (.bytes b u)) Q E s := by
  obtain ⟨b0, t1, t2, sl, hp⟩ := H.pat
  obtain ⟨c, d, xs, n, sl', ht, hx⟩ := H.tup
  unfold reWholeTarget
  refine wpAny_bind (m := fieldsOf (.ref 50)) ?_
  unfold fieldsOf
  refine wpAny_bind (wpAny_load hp (wpAny_pure ?_))
  refine wpAny_bind (wpAny_of_eq text_eq ?_)
  dsimp only
  refine wp_no (fun h => absurd (show false = true from h) Bool.false_ne_true) ?_
  refine wp_no (fun h => absurd (show false = true from h) Bool.false_ne_true) ?_
  refine wpAny_bind (m := reNoCollectionInside (.bytes b u) 1) ?_
  unfold reNoCollectionInside
  refine wp_yes (by rfl) ?_
  refine wpAny_bind (wpAny_of_eq instB ?_)
  refine wp_no (fun h => absurd (show false = true from h) Bool.false_ne_true) ?_
  refine wpAny_pure ?_
  refine wpAny_bind (m := reRawItems (.ref 49)) ?_
  unfold reRawItems
  refine wpAny_bind (m := seqItems? (.ref 49)) ?_
  unfold seqItems?
  refine wpAny_bind (wpAny_load ht ?_)
  refine wpAny_pure (wpAny_pure ?_)
  refine wpAny_pure ?_
  have e : (Array.map reRawOf ((some xs).getD #[])).map (·.toNat) = code := by
    show (xs.map reRawOf).map _ = _
    rw [hx]
    decide +kernel
  rw [e]
  exact h
end

section
variable {prog : Program} {w : World} {A : Around} {E : Value → Shared → Prop} {s : Shared} {b : Array UInt8} {u : Tok} {h₀ : Heap} {L P : Addr} {m : Str → Option Value} {news : List (Addr × Obj)}

theorem nextL_le : ∀ (l : List Nat) (p a b : Nat), nextL l p = some (a, b) → p ≤ a ∧ a < b ∧ b ≤ p + l.length := by
  have hsc : ∀ (n : Nat) (l : List Nat), l.length ≤ n → ∀ k, scanL l = some k → 1 ≤ k ∧ k ≤ l.length := by
    intro n
    induction n with
    | zero =>
      intro l hl k hk
      have : l = [] := List.eq_nil_of_length_eq_zero (by omega)
      subst this
      cases hk
    | succ n ih =>
      intro l hl k hk
      cases l with
      | nil => cases hk
      | cons x r =>
        by_cases h34 : x = 34
        · subst h34; rw [scan34] at hk; cases hk; simp
        · by_cases h92 : x = 92
          · subst h92
            cases r with
            | nil => rw [scan92n] at hk; cases hk
            | cons d r' =>
              by_cases h10 : d = 10
              · subst h10; rw [scan92b] at hk; cases hk
              · rw [scan92 _ h10] at hk
                simp at hk
                obtain ⟨k', hk', rfl⟩ := hk
                have := ih r' (by simp at hl; omega) k' hk'
                simp; omega
          · rw [scanO _ h34 h92] at hk
            simp at hk
            obtain ⟨k', hk', rfl⟩ := hk
            have := ih r (by simp at hl; omega) k' hk'
            simp; omega
  intro l
  induction l with
  | nil => intro p a b h; cases h
  | cons x r ih =>
    intro p a b h
    have step : nextL r (p + 1) = some (a, b) → p ≤ a ∧ a < b ∧ b ≤ p + (x :: r).length := by
      intro h
      have := ih (p + 1) a b h
      simp; omega
    by_cases h34 : x = 34
    · subst h34
      cases hs : scanL r with
      | some k =>
        simp [nextL, hs] at h
        obtain ⟨rfl, rfl⟩ := h
        have := hsc r.length r (Nat.le_refl _) k hs
        simp; omega
      | none => exact step (by simpa [nextL, hs] using h)
    · exact step (by simpa [nextL, h34] using h)

theorem slice_eq (text : Array Nat) (i j : Nat) {Q : Value → Shared → Prop} (hz : text.size ≤ 16777216) (h : ∀ t k, Q (.bytes ((text.extract i j).map (·.toUInt8)) t) { s with toks := k }) :
    wpAny (model prog w) A (reSlice text 1 i j) Q E s := by
  unfold reSlice
  rw [if_neg (by decide)]
  refine wpAny_mkBytes (h _ _) ?_
  rw [sizeLine_eq, Array.size_map, Array.size_extract]
  omega

theorem BytesAre.app {vs : List Value} {bs : List (Array UInt8)} {x : Array UInt8} {t : Tok} (h : BytesAre vs bs) : BytesAre (vs ++ [.bytes x t]) (bs ++ [x]) := by
  induction h with
  | nil => exact .cons .nil
  | cons _ ih => exact .cons ih
theorem next_eq {p : Nat} {must : Bool} : reNextFound (tgt b u) p must = reRunToEnd (Sre.forSearch code (b.map (·.toNat)) 0 p (b.map (·.toNat)).size must) := rfl
theorem plain_loop : plainId "re.Pattern.sub.loop" = true := by decide +kernel
theorem push_step {vs : List Value} {c : Nat} {x : Value} {Q : Unit → Shared → Prop} {M : Model} (F : Fr h₀ L s.heap m) (N : News h₀ L s.heap ((P, W.listOf vs.toArray c) :: news)) (hP : ∀ q ∈ news, q.1 ≠ P) (hz : vs.length ≤ 10000000)
    (h : ∀ h' c', Fr h₀ L h' m → News h₀ L h' ((P, W.listOf (vs ++ [x]).toArray c') :: news) → Q () { s with heap := h' }) : wpAny M A (updateSeq P (·.push x)) Q E s := by
  have hg := (N _ (.head _)).1
  refine wpAny_updateSeq hg rfl ?_ (by rw [List.size_toArray, sizeLine_eq]; omega) (by rw [Array.size_push, List.size_toArray, sizeLine_eq]; omega)
  obtain ⟨F', N'⟩ := news_upd (pre := []) (o' := W.listOf (vs ++ [x]).toArray (c + 1)) (f := Obj.mapSeq (·.push x)) F N (fun _ hp => nomatch hp) hP (by unfold Obj.mapSeq; simp [W.listOf]) rfl
  exact h _ _ F' N'

set_option maxHeartbeats 400000 in
/-- the loop of `sub`, from `p` on -/
theorem sub_loop {R : Result → Shared → Prop} {r0 : Tok} : ∀ (f p : Nat) (rest : List (Array UInt8)) (vs : List Value) (bs : List (Array UInt8)) (c : Nat) (must : Bool) (t2 : Int) (s : Shared),
    subP (b.map (·.toNat)) f p = some rest → p ≤ b.size → b.size ≤ 1000000 → Fr h₀ L s.heap m → News h₀ L s.heap ((P, W.listOf vs.toArray c) :: news) → (∀ q ∈ news, q.1 ≠ P) → (∀ h, Fr h₀ L h m → PatAt h) →
    BytesAre vs bs → vs.length + 3 * f ≤ 10000000 → ((bs ++ rest).map (·.size)).sum ≤ 16777216 → (Bytes.joined #[] (bs ++ rest)).size ≤ 16777216 →
    (∀ t' k h', Fr h₀ L h' m → News h₀ L h' news → R (.ok (.ret (.bytes (Bytes.joined #[] (bs ++ rest)) t'))) { s with heap := h', toks := k }) →
    codeAny (model prog w) A (.builtin "re.Pattern.sub.loop" ⟨[.ref 50, .bytes b u, .bytes #[] r0, .int 0 0, .int 0 0, .int t2 0, .int p 0, .int p 0, .bool must, .ref P, .bool false], []⟩) R s := by
  intro f
  induction f with
  | zero => intro p rest vs bs c must t2 s hs; cases hs
  | succ f ih =>
    intro p rest vs bs c must t2 s hs hp hz F N hP hPat hv hlen hsum hj hR
    refine codeAny_builtin entry_sub_loop ?_
    show wpAny _ _ (reWholeTarget (.ref 50) (.bytes b u) >>= fun t => _) _ _ s
    refine wpAny_bind (wpAny_target (hPat _ F) ?_)
    dsimp only
    refine wp_yes (by rfl) ?_
    refine wpAny_bind (m := reLiteralCannotBeTurned (.bytes #[] r0)) ?_
    unfold reLiteralCannotBeTurned
    refine wpAny_bind (wpAny_of_eq (a := none) rfl ?_)
    refine wp_yes (by rfl) ?_
    refine wpAny_bind (wpAny_of_eq instB ?_)
    refine wp_no (fun h => absurd (show false = true from h) Bool.false_ne_true) ?_
    refine wpAny_pure ?_
    have ep : (p : Int).toNat = p := Int.toNat_natCast p
    have esz : (b.map (·.toNat)).size = b.size := Array.size_map ..
    rw [ep]
    refine wpAny_bind ?_
    refine wp_no (fun h => absurd (show false = true from h) Bool.false_ne_true) ?_
    rw [next_eq]
    unfold subP at hs
    have key : ∀ (vs : List Value) (bs : List (Array UInt8)) (c : Nat) (a b' : Nat) (m' : Sre.M) (r : List (Array UInt8)) (s1 : Shared), m'.start = a → m'.handed = b' → b' ≤ b.size → subP (b.map (·.toNat)) f b' = some r →
        BytesAre vs bs → vs.length + 3 * f + 1 ≤ 10000000 → ((bs ++ #[] :: r).map (·.size)).sum ≤ 16777216 → (Bytes.joined #[] (bs ++ #[] :: r)).size ≤ 16777216 → Fr h₀ L s1.heap m → News h₀ L s1.heap ((P, W.listOf vs.toArray c) :: news) →
        (∀ t' k h', Fr h₀ L h' m → News h₀ L h' news → R (.ok (.ret (.bytes (Bytes.joined #[] (bs ++ #[] :: r)) t'))) { s1 with heap := h', toks := k }) →
        wpAny (model prog w) (A.under (Code.builtin "re.Pattern.sub.loop" ⟨[.ref 50, .bytes b u, .bytes #[] r0, .int 0 0, .int 0 0, .int t2 0, .int p 0, .int p 0, .bool must, .ref P, .bool false], []⟩))
          (updateSeq P (fun x => x.push (.bytes #[] r0)) >>= fun _ => again (Code.builtin "re.Pattern.sub.loop" ⟨[.ref 50, .bytes b u, .bytes #[] r0, rawInt 0, rawInt 0, rawInt (t2 + 1), rawInt m'.handed, rawInt m'.handed, .bool (m'.handed == m'.start), .ref P, .bool false], []⟩))
          (fun fin s' => match fin with | .done f => R (.ok f) s' | .again c' => c'.quiet = true ∧ codeAny (model prog w) A c' R s') (fun e s' => R (.error e) s') s1 := by
      intro vs bs c a b' m' r s1 ha hb hb' hr hv hl hsum hj F1 N1 hR
      refine wpAny_bind (push_step F1 N1 hP (by omega) fun h' c' F2 N2 => ?_)
      refine wpAny_pure ⟨plainId_quiet plain_loop _, ?_⟩
      have eb : (bs ++ [#[]]) ++ r = bs ++ #[] :: r := by simp
      rw [hb]
      refine ih b' r _ (bs ++ [#[]]) c' _ (t2 + 1) _ hr hb' hz F2 N2 hP hPat hv.app (by simp; omega) (by rw [eb]; exact hsum) (by rw [eb]; exact hj) ?_
      rw [eb]
      exact hR
    have hz1 : p ≤ (b.map (·.toNat)).size := by rw [esz]; exact hp
    have hz2 : (b.map (·.toNat)).size ≤ 16777216 := by rw [esz]; omega
    have ws := fun Q E => @wpAny_search (model prog w) (A.under (Code.builtin "re.Pattern.sub.loop" ⟨[.ref 50, .bytes b u, .bytes #[] r0, .int 0 0, .int 0 0, .int t2 0, .int p 0, .int p 0, .bool must, .ref P, .bool false], []⟩)) E s (b.map (·.toNat)) Q p must hz1 hz2
    refine ws _ _ ?_ ?_
    · intro a b' m' hn ha hb
      rw [hn] at hs
      have hle := nextL_le _ _ _ _ hn
      simp only [List.length_drop, Array.length_toList, esz] at hle
      dsimp only at hs
      cases hr : subP (b.map (·.toNat)) f b' with
      | none => rw [hr] at hs; cases hs
      | some r =>
        rw [hr] at hs
        simp only [Option.map_some, Option.some.injEq] at hs
        dsimp only
        rw [ha]
        by_cases hlt : p < a
        · refine wp_yes hlt ?_
          rw [if_pos hlt] at hs
          refine wpAny_bind (slice_eq _ p a (by rw [esz]; omega) fun t k => ?_)
          have hl9 : vs.length ≤ 10000000 := by omega
          refine wpAny_bind ?_
          refine push_step F N hP hl9 ?_
          intro h' c' F2 N2
          refine wp_yes (by rfl) ?_
          refine wpAny_bind (wpAny_pure ?_)
          refine wp_yes (by rfl) ?_
          subst hs
          rw [← List.append_assoc] at hsum hj hR
          have := key _ _ c' a b' m' r { s with heap := h', toks := k } ha hb (by omega) hr hv.app (by simp; omega) hsum hj F2 N2 hR
          rw [ha] at this
          exact this
        · refine wp_no hlt ?_
          rw [if_neg hlt, List.nil_append] at hs
          refine wp_yes (by rfl) ?_
          refine wpAny_bind (wpAny_pure ?_)
          refine wp_yes (by rfl) ?_
          subst hs
          have := key _ _ c a b' m' r s ha hb (by omega) hr hv (by omega) hsum hj F N hR
          rw [ha] at this
          exact this
    · intro hn
      rw [hn] at hs
      dsimp only at hs
      rw [Option.some.injEq] at hs
      dsimp only
      have last : ∀ (X : Value → Sem PySem.Fin) (vs : List Value) (bs : List (Array UInt8)) (c : Nat) (s1 : Shared), BytesAre vs bs → (bs.map (·.size)).sum ≤ 16777216 → (Bytes.joined #[] bs).size ≤ 16777216 → Fr h₀ L s1.heap m → News h₀ L s1.heap ((P, W.listOf vs.toArray c) :: news) →
          (∀ t' k h', Fr h₀ L h' m → News h₀ L h' news → R (.ok (.ret (.bytes (Bytes.joined #[] bs) t'))) { s1 with heap := h', toks := k }) →
          wpAny (model prog w) (A.under (Code.builtin "re.Pattern.sub.loop" ⟨[.ref 50, .bytes b u, .bytes #[] r0, .int 0 0, .int 0 0, .int t2 0, .int p 0, .int p 0, .bool must, .ref P, .bool false], []⟩))
            (reSlice (b.map (·.toNat)) 1 0 0 >>= fun joiner => seqItems? (.ref P) >>= fun x => (if ((x.getD #[]).isEmpty = true) then (pure joiner >>= fun text => if false = true then X text else ret text) else (call (.builtin (if (1 == 0) = true then "str.join" else "bytes.join")) [joiner, .ref P] >>= fun text => if false = true then X text else ret text)))
            (fun fin s' => match fin with | .done f => R (.ok f) s' | .again c' => c'.quiet = true ∧ codeAny (model prog w) A c' R s') (fun e s' => R (.error e) s') s1 := by
        intro X vs bs c s1 hv hsum hj F1 N1 hR
        have hN : News h₀ L s1.heap news := fun q hq => N1 q (.tail _ hq)
        refine wpAny_bind (slice_eq _ 0 0 (by rw [esz]; omega) fun t k => ?_)
        have e0 : ((b.map (·.toNat)).extract 0 0).map (·.toUInt8) = #[] := by simp
        rw [e0]
        refine wpAny_bind (m := seqItems? (.ref P)) ?_
        unfold seqItems?
        refine wpAny_bind (wpAny_load (N1 _ (.head _)).1 ?_)
        refine wpAny_pure ?_
        by_cases hemp : ((some vs.toArray).getD #[]).isEmpty = true
        · refine wp_yes hemp ?_
          refine wpAny_bind (wpAny_pure ?_)
          refine wp_no Bool.false_ne_true ?_
          have hvn : vs = [] := by
            have := Array.isEmpty_iff.1 hemp
            simpa using this
          subst hvn
          cases hv
          exact wpAny_pure (hR _ _ _ F1 hN)
        · refine wp_no hemp ?_
          have hl : s1.heap.IsList P vs.toArray := ⟨_, (N1 _ (.head _)).1, rfl, c, rfl⟩
          refine wpAny_bind (join_bytes (s := { s1 with heap := s1.heap, toks := k }) hl hv hsum hj fun t' k' => ?_)
          refine wp_no Bool.false_ne_true ?_
          exact wpAny_pure (hR _ _ _ F1 hN)
      by_cases hlt : p < b.size
      · refine wp_yes (by rw [esz]; exact hlt) ?_
        rw [if_pos (by rw [esz]; exact hlt)] at hs
        refine wpAny_bind (slice_eq _ p _ (by rw [esz]; omega) fun t k => ?_)
        have hl9 : vs.length ≤ 10000000 := by omega
        refine wpAny_bind ?_
        refine push_step F N hP hl9 ?_
        intro h' c' F2 N2
        subst hs
        exact last _ _ _ c' { s with heap := h', toks := k } hv.app hsum hj F2 N2 hR
      · refine wp_no (by rw [esz]; exact hlt) ?_
        rw [if_neg (by rw [esz]; exact hlt)] at hs
        subst hs
        rw [List.append_nil] at hsum hj hR
        exact last _ _ _ c s hv hsum hj F N hR
end
end Mine
end
section
open PySem PySem.W PyProof.Rows PySem.Calls PySem.Builtin PySem.Builtin.Re
set_option maxRecDepth 100000
namespace Mine
section
variable {prog : Program} {w : World} {A : Around} {E : Value → Shared → Prop} {s : Shared} {b : Array UInt8} {u r0 : Tok} {h₀ : Heap} {L : Addr} {m : Str → Option Value} {news : List (Addr × Obj)}
theorem named_eq (x y : Value) : reNamed "re.Pattern.sub" "sub" ["repl", "string", "count"] 2 [x, y] [] = pure [some x, some y, none] := rfl
set_option maxHeartbeats 1000000 in
theorem sub_bytes {Q : Value → Shared → Prop} {f : Nat} {rest : List (Array UInt8)} (F : Fr h₀ L s.heap m) (N : News h₀ L s.heap news) (hPat : ∀ h, Fr h₀ L h m → PatAt h) (hz : b.size ≤ 1000000) (hf : f ≤ 1000000) (hs : subP (b.map (·.toNat)) f 0 = some rest)
    (hsum : (rest.map (·.size)).sum ≤ 16777216) (hj : (Bytes.joined #[] rest).size ≤ 16777216)
    (h : ∀ t' k h', Fr h₀ L h' m → News h₀ L h' news → Q (.bytes (Bytes.joined #[] rest) t') { s with heap := h', toks := k }) :
    wpAny (model prog w) A (call (.builtin "re.Pattern.sub") [.ref 50, .bytes #[] r0, .bytes b u]) Q E s := by
  obtain ⟨b0, t1, t2, sl, hp⟩ := (hPat _ F).pat
  have hT : s.TypeIs (.ref 50) "re.Pattern" := ⟨_, hp, rfl⟩
  refine wpAny_call (codeAny_call_builtin slot_pat_sub.plain entry_pat_sub (slot_pat_sub.check _ _ _ _ _ _ _ _ hT (args_pat_sub _ _ _) ?_))
  show wpAny _ _ (reSubstitute "re.Pattern.sub" "sub" false ⟨[.ref 50, .bytes #[] r0, .bytes b u], []⟩) _ _ s
  unfold reSubstitute
  refine wpAny_bind (wpAny_of_eq (named_eq _ _) ?_)
  dsimp only
  refine wpAny_bind (wpAny_pure ?_)
  refine wpAny_bind (wpAny_of_eq (KBy.special_eq look_call_bytes) ?_)
  refine wp_no (fun h => absurd (show false = true from h) Bool.false_ne_true) ?_
  refine wpAny_bind (wpAny_of_eq (a := none) rfl ?_)
  dsimp only
  refine wpAny_bind (wpAny_of_eq KBy.quiet_eq ?_)
  dsimp only
  refine wpAny_bind (wpAny_pure ?_)
  refine wp_no (fun h => absurd (show false = true from h) Bool.false_ne_true) ?_
  refine wp_yes (by decide +kernel) ?_
  refine wpAny_bind (wpAny_pure ?_)
  refine wpAny_bind (wpAny_holding (wpAny_target (hPat _ F) ?_))
  refine wp_no (fun h => absurd (show false = true from h) Bool.false_ne_true) ?_
  have hP : ∀ q ∈ news, q.1 ≠ s.heap.objs.size := fun q hq => Nat.ne_of_lt (Heap.lt_size (N q hq).1)
  refine wpAny_bind (newList_N F N fun h' F' N' => ?_)
  refine wpAny_pure ⟨plainId_quiet plain_loop _, ?_⟩
  exact sub_loop f 0 rest [] [] 0 false 0 _ hs (Nat.zero_le _) hz F' N' hP hPat .nil (by simp; omega) (by simpa using hsum) (by simpa using hj) (by simpa using h)
end
end Mine
end
section
open PySem PySem.W PyProof.Rows PySem.Calls
set_option maxRecDepth 100000
namespace Mine
def cntB (r : Array UInt8) (c : UInt8) : Nat := if (r.size : Int) < 1 then 0 else (Builtin.Bytes.occurrences r #[c] 0 r.size).length
/-- what a text of bytes adds to the depth -/
def pd (b : Array UInt8) : Option Int :=
  if b.size ≤ 1000 then match subP (b.map (·.toNat)) (b.size + 1) 0 with
    | none => none
    | some rest => if (rest.map (·.size)).sum ≤ 16777216 ∧ (Builtin.Bytes.joined #[] rest).size ≤ 16777216 then some ((cntB (Builtin.Bytes.joined #[] rest) 40 : Int) - cntB (Builtin.Bytes.joined #[] rest) 41) else none
  else none
structure Pd (b : Array UInt8) (d : Int) (rest : List (Array UInt8)) : Prop where
  hz : b.size ≤ 1000
  hs : subP (b.map (·.toNat)) (b.size + 1) 0 = some rest
  hsum : (rest.map (·.size)).sum ≤ 16777216
  hj : (Builtin.Bytes.joined #[] rest).size ≤ 16777216
  hd : (cntB (Builtin.Bytes.joined #[] rest) 40 : Int) - cntB (Builtin.Bytes.joined #[] rest) 41 = d
theorem pd_open {b : Array UInt8} {d : Int} (h : pd b = some d) : ∃ rest, Pd b d rest := by
  unfold pd at h
  split at h
  · rename_i hz
    cases hs : subP (b.map (·.toNat)) (b.size + 1) 0 with
    | none => rw [hs] at h; cases h
    | some rest =>
      rw [hs] at h
      dsimp only at h
      split at h
      · rename_i hc
        exact ⟨rest, hz, hs, hc.1, hc.2, Option.some.inj h⟩
      · cases h
  · cases h

theorem patAt {w : World} {h : Heap} (X : (hd.heap_39 w.params).In h) : PatAt h := by
  have h50 := X 50 _ rfl
  have h49 := X 49 _ rfl
  exact ⟨⟨_, _, _, _, h50⟩, ⟨_, _, _, _, _, h49, by decide +kernel⟩⟩

theorem patAtF {w : World} {h₀ : Heap} {L : Addr} {m : Str → Option Value} (X : (hd.heap_39 w.params).In h₀) : ∀ h, Fr h₀ L h m → PatAt h := fun _ F => patAt (X.keeps F.keep)
theorem getMethod_sub {M : Model} {A : Around} {E : Value → Shared → Prop} {s : Shared} {w : World} {pl : Sem Bool} {Q : Value × List Value → Shared → Prop} (X : (hd.heap_39 w.params).In s.heap) (h : Q (.builtin "re.Pattern.sub", [.ref 50]) s) :
    wpAny M A (getMethod (.ref 50) (Str.ofString "sub") pl) Q E s := by
  have h50 := X 50 _ rfl
  exact getMethod_builtin (T := "re.Pattern") ⟨_, h50, rfl⟩ plainAttrs_pat slot_pat_sub type_pat_sub (fun a e => by cases e; exact ⟨_, h50, rfl⟩) h
theorem getMethod_count {M : Model} {A : Around} {E : Value → Shared → Prop} {s : Shared} {b : Array UInt8} {t : Tok} {pl : Sem Bool} {Q : Value × List Value → Shared → Prop} (h : Q (.builtin "bytes.count", [.bytes b t]) s) :
    wpAny M A (getMethod (.bytes b t) (Str.ofString "count") pl) Q E s :=
  getMethod_builtin (T := "bytes") (typeIs_bytes s b t) plainAttrs_bytes slot_bytes_count type_bytes_count (fun a e => by cases e) h
theorem getMethod_join {M : Model} {A : Around} {E : Value → Shared → Prop} {s : Shared} {b : Array UInt8} {t : Tok} {pl : Sem Bool} {Q : Value × List Value → Shared → Prop} (h : Q (.builtin "bytes.join", [.bytes b t]) s) :
    wpAny M A (getMethod (.bytes b t) (Str.ofString "join") pl) Q E s :=
  getMethod_builtin (T := "bytes") (typeIs_bytes s b t) plainAttrs_bytes slot_bytes_join type_bytes_join (fun a e => by cases e) h


set_option maxHeartbeats 8000000 in
theorem depth2 (w : World) (mean : ExcName → Option Value) (mg mb : Str → Option Value) (news : List (Addr × Obj)) (b : Array UInt8) (k : Int) (t u : Tok) (d : Int) (hpd : pd b = some d) :
    Con w mean mg mb 58 [.bytes b t, .int k u] news 1 80 (fun r n' => n' = news ∧ ∃ t, r = .int (k + d) t) := by
  obtain ⟨rest, HP⟩ := pd_open hpd
  unfold Con
  w_top off
  k_with_none
  k_fill
  k_with "getMethod ref" => (k_here; (with_reducible show wpAny _ _ (getMethod (Value.ref 50) _ _) _ _ _); k_dflt (refine' getMethod_sub ?k1 ?_; (case k1 => k_in)))
  k_with "getMethod bytes" => (k_here; (with_reducible refine getMethod_count ?_))
  k_with "call builtin:re.Pattern.sub" => (k_here; (rename Pd _ _ _ => hP9); k_dflt (refine' sub_bytes ?k1 ?k2 ?k3 ?k4 ?k5 ?k6 ?k7 ?k8 ?_; (case k1 => k_asm); (case k2 => k_asm); (case k3 => exact patAtF (by k_asm)); (case k6 => exact hP9.hs); (case k4 => exact Nat.le_trans hP9.hz (by decide)); (case k5 => exact Nat.le_trans (Nat.succ_le_succ hP9.hz) (by decide)); (case k7 => exact hP9.hsum); (case k8 => exact hP9.hj); k_whole); intro t9 tk9 h9 F9 N9; (try k_sweep))
  k_with "call builtin:bytes.count" => (k_here; k_dflt (refine' count_bytes ?k1 ?_; (case k1 => rfl)); intro t9 tk9)
  intro dp un gd cn cs a0 ccd cl outer A₀ base h₀ L m s Q E B F X N T hk hd hu hret
  refine wpAny_call ?_
  k_dflt (refine' code_def ?k1 ?k2 ?k3 ?k4 ?k5 ?kA ?kF ?kK ?k6 ?k7 ?k8 ?k9 ?kB ?_ ?c2 ?c3 ?c4 ?c5; (case kA => exact rfl); (case kF => exact rfl); (case kK => assumption); (case k1 => k_asm); (case k2 => k_asm); (case k3 => k_asm); (case k4 => k_asm); (case k5 => k_asm); (case k6 => k_is); (case k7 => k_is); (case k8 => ktr_room); (case k9 => exact binds_K (by k_in) rfl (by k_is) rfl rfl rfl); (case c5 => decide); (case kB => exact locs rfl); (case c2 => exact rfl); (case c3 => exact rfl); (case c4 => exact rfl); k_whole; intro g' L' h' FG' F' N' B' X' T'; (try dsimp only); (try k_lift B'); (try k_fold))
  k_steps
  all_goals exact hret _ _ _ _ (by k_asm) (by k_asm) ⟨rfl, _, by rename Pd _ _ _ => HP; rw [← HP.hd, ← Int.add_sub_assoc]; rfl⟩

set_option maxHeartbeats 8000000 in
theorem depth1 (w : World) (mean : ExcName → Option Value) (mg mb : Str → Option Value) (news : List (Addr × Obj)) (b : Array UInt8) (t : Tok) (d : Int) (hpd : pd b = some d) :
    Con w mean mg mb 58 [.bytes b t] news 1 80 (fun r n' => n' = news ∧ ∃ t, r = .int (0 + d) t) := by
  obtain ⟨rest, HP⟩ := pd_open hpd
  unfold Con
  w_top off
  k_with_none
  k_fill
  k_with "getMethod ref" => (k_here; (with_reducible show wpAny _ _ (getMethod (Value.ref 50) _ _) _ _ _); k_dflt (refine' getMethod_sub ?k1 ?_; (case k1 => k_in)))
  k_with "getMethod bytes" => (k_here; (with_reducible refine getMethod_count ?_))
  k_with "call builtin:re.Pattern.sub" => (k_here; (rename Pd _ _ _ => hP9); k_dflt (refine' sub_bytes ?k1 ?k2 ?k3 ?k4 ?k5 ?k6 ?k7 ?k8 ?_; (case k1 => k_asm); (case k2 => k_asm); (case k3 => exact patAtF (by k_asm)); (case k6 => exact hP9.hs); (case k4 => exact Nat.le_trans hP9.hz (by decide)); (case k5 => exact Nat.le_trans (Nat.succ_le_succ hP9.hz) (by decide)); (case k7 => exact hP9.hsum); (case k8 => exact hP9.hj); k_whole); intro t9 tk9 h9 F9 N9; (try k_sweep))
  k_with "call builtin:bytes.count" => (k_here; k_dflt (refine' count_bytes ?k1 ?_; (case k1 => rfl)); intro t9 tk9)
  intro dp un gd cn cs a0 ccd cl outer A₀ base h₀ L m s Q E B F X N T hk hd hu hret
  refine wpAny_call ?_
  k_dflt (refine' code_def ?k1 ?k2 ?k3 ?k4 ?k5 ?kA ?kF ?kK ?k6 ?k7 ?k8 ?k9 ?kB ?_ ?c2 ?c3 ?c4 ?c5; (case kA => exact rfl); (case kF => exact rfl); (case kK => assumption); (case k1 => k_asm); (case k2 => k_asm); (case k3 => k_asm); (case k4 => k_asm); (case k5 => k_asm); (case k6 => k_is); (case k7 => k_is); (case k8 => ktr_room); (case k9 => exact binds_K (by k_in) rfl (by k_is) rfl rfl rfl); (case c5 => decide); (case kB => exact locs rfl); (case c2 => exact rfl); (case c3 => exact rfl); (case c4 => exact rfl); k_whole; intro g' L' h' FG' F' N' B' X' T'; (try dsimp only); (try k_lift B'); (try k_fold))
  k_steps
  all_goals exact hret _ _ _ _ (by k_asm) (by k_asm) ⟨rfl, _, by rename Pd _ _ _ => HP; rw [← HP.hd, ← Int.add_sub_assoc]; rfl⟩
end Mine
end
section
open PySem PySem.W PyProof.Rows PySem.Calls
set_option maxRecDepth 100000
namespace Mine
abbrev ints3 (x y z : Int) (t u v : Tok) (n : Nat) : Obj := W.listOf #[.int x t, .int y u, .int z v] n

def ConL (w : World) (mean : ExcName → Option Value) (mg mb : Str → Option Value) (f : Addr) (l : Addr) (lv : List Value) (news : List (Addr × Obj)) (dd uu : Nat) (Out : Value → List (Addr × Obj) → Prop) : Prop :=
  ∀ (dp un : Nat) (gd : Option (List Code)) (cn : Str) (cs : Scope) (a : Addr) (ccd : Value) (cl : List (Str × Addr)) (outer : List Env) (A₀ : Around) (base h₀ : Heap) (L : Addr) (m : Str → Option Value) (s : Shared)
    (Q E : Value → Shared → Prop),
    Below A₀ base outer h₀ → base.IsList l lv.toArray → PyProof.Rows.Fr h₀ L s.heap m → (hd.heap_39 w.params).In h₀ → News h₀ L s.heap news → Top hd.view_39 LS mean mg mb h₀ → cs.kind = .function → dp + dd < recursionLimit → un + uu < cLine →
    (∀ r news' h' tk', Fr h₀ L h' m → News h₀ L h' news' → Out r news' → Q r { s with heap := h', toks := tk' }) →
    wpAny (model PySem.Challenge.rw_xj0002_01.row.prog w) (ktrTop dp un gd cn cs L a ccd cl outer) (call (.ref f) [.ref l]) Q E s

theorem ints3_of {vs : List Value} {ns : List Int} (h : IntsAre vs ns) (hl : ns.length = 3) : ∃ x y z t u v, vs = [.int x t, .int y u, .int z v] := by
  match ns, hl with
  | [x, y, z], _ =>
    have hv := h.length
    match vs, hv with
    | [a, b, c], _ =>
      obtain ⟨t, ht⟩ := h.get 0 x rfl
      obtain ⟨u, hu⟩ := h.get 1 y rfl
      obtain ⟨v, hv⟩ := h.get 2 z rfl
      simp at ht hu hv
      exact ⟨x, y, z, t, u, v, by rw [ht, hu, hv]⟩

set_option maxHeartbeats 8000000 in
theorem cells (w : World) (mean : ExcName → Option Value) (mg mb : Str → Option Value) (news : List (Addr × Obj)) (l : Addr) (lv : List Value) (ns : List Int) (hI : IntsAre lv ns) (hlen : ns.length ≤ 63) :
    ConL w mean mg mb 79 l lv news 1 8 (fun r n' => ∃ D x y z t u v c, n' = (D, ints3 x y z t u v c) :: news ∧ r = .ref D ∧ ∀ p ∈ news, p.1 < D) := by
  unfold ConL
  w_top off
  k_with_none
  k_fill
  intro dp un gd cn cs a0 ccd cl outer A₀ base h₀ L m s Q E B hL F X N T hk hd hu hret
  refine wpAny_call ?_
  k_dflt cell_enter
  k_with "pyIter ref" => k_state (fun pre xs => xs.length = 3) "cells"
  k_steps
  rename IntsAre _ _ => hI0
  obtain ⟨x, y, z, t, u, v, e⟩ := ints3_of hI0 kInv
  subst e
  exact hret _ _ _ _ (by k_asm) (by k_asm) ⟨_, _, _, _, _, _, _, _, rfl, rfl, by assumption⟩
end Mine
end
section
open PySem PySem.W PyProof.Rows PySem.Calls
set_option maxRecDepth 100000
namespace Mine
def GI (f s low high : Int) : Prop := 0 ≤ low ∧ 0 ≤ high ∧ Int.gcd low high = Int.gcd f s ∧ 0 < f ∧ low ≤ 7 ∧ high ≤ 7
theorem GI.start {x y : Int} : GI (1 + x.fmod 7) (1 + y.fmod 7) (1 + x.fmod 7) (1 + y.fmod 7) := by
  rw [Int.fmod_eq_emod_of_nonneg _ (by decide), Int.fmod_eq_emod_of_nonneg _ (by decide)]
  exact ⟨by omega, by omega, rfl, by omega, by omega, by omega⟩
theorem GI.step {f s low high : Int} (h : GI f s low high) (hh : high ≠ 0) : GI f s high (low.fmod high) := by
  obtain ⟨h1, h2, h3, h4, h5, h6⟩ := h
  have hp : 0 < high := by omega
  rw [Int.fmod_eq_emod_of_nonneg _ h2]
  have hl := Int.emod_lt_of_pos low hp
  refine ⟨h2, Int.emod_nonneg _ hh, ?_, h4, h6, by omega⟩
  rw [← h3]
  obtain ⟨a, rfl⟩ := Int.eq_ofNat_of_zero_le h1
  obtain ⟨b, rfl⟩ := Int.eq_ofNat_of_zero_le h2
  show Nat.gcd b (((a : Int) % (b : Int)).natAbs) = Nat.gcd a b
  rw [← Int.natCast_emod, Int.natAbs_natCast, Nat.gcd_comm a b, Nat.gcd_comm b (a % b)]
  exact (Nat.gcd_rec b a).symm
theorem GI.less {f s low high : Int} (h : GI f s low high) (hh : high ≠ 0) : (low.fmod high).toNat < high.toNat := by
  obtain ⟨h1, h2, h3, h4, h5⟩ := h
  have hp : 0 < high := by omega
  rw [Int.fmod_eq_emod_of_nonneg _ h2]
  have hl := Int.emod_lt_of_pos low hp
  omega
theorem GI.fin {f s low high : Int} (h : GI f s low high) (hh : high = 0) : low = Int.gcd f s ∧ 0 < low ∧ low ≤ 7 := by
  obtain ⟨h1, h2, h3, h4, h5, h6⟩ := h
  subst hh
  rw [Int.gcd_zero_right] at h3
  have h0 : 0 < Int.gcd f s := Int.gcd_pos_of_ne_zero_left s (by omega)
  omega
theorem GI.ne {f s low high : Int} (h : GI f s low high) (hh : high = 0) : low ≠ 0 := by have := (h.fin hh).2.1; omega
theorem GI.py {f s low high x : Int} (h : GI f s low high) (hh : high = 0) : Builtin.divisionGoesByPylong x low = false := by
  have := h.fin hh
  exact PyProof.noPylong_small (by omega)


set_option maxHeartbeats 8000000 in
theorem counts (w : World) (mean : ExcName → Option Value) (mg mb : Str → Option Value) (nw : List (Addr × Obj)) (D : Addr) (x y z : Int) (t u v : Tok) (c : Nat) :
    Con w mean mg mb 86 [.ref D] ((D, ints3 x y z t u v c) :: nw) 1 8 (fun r n' => ∃ D' t1 u1, n' = (D', tup2 ((1 + x.fmod 7).fdiv ((1 + x.fmod 7).gcd (1 + y.fmod 7))) ((1 + y.fmod 7).fdiv ((1 + x.fmod 7).gcd (1 + y.fmod 7))) t1 u1 0) :: (D, ints3 x y z t u v c) :: nw ∧ r = .ref D' ∧ ∀ p ∈ (D, ints3 x y z t u v c) :: nw, p.1 < D') := by
  unfold Con
  w_top off
  k_with_none
  k_fill
  k_with "binaryOp FloorDiv int int" => (k_here; (rename GI _ _ _ _ => hG9); (with_reducible refine floordiv_int (GI.ne hG9 (by assumption)) ?_ (Or.inl (GI.py hG9 (by assumption)))))
  intro dp un gd cn cs a0 ccd cl outer A₀ base h₀ L m s Q E B F X N T hk hd hu hret
  refine wpAny_call ?_
  k_dflt cell_enter
  k_with "exec While Compare cons nil" => k_while (fun _ low high => GI (1 + x.fmod 7) (1 + y.fmod 7) low high) (fun _ low high => high.toNat) "low" "high"
  k_with "state" => first | exact GI.start | exact GI.step (by assumption) (by assumption)
  k_with "measure" => exact GI.less (by assumption) (by assumption)
  k_steps
  rename GI _ _ _ _ => hG
  have f := (hG.fin (by assumption)).1
  rename _ ∧ _ ∧ AllLt _ _ => hl
  refine tup_ret (X := (1 + x.fmod 7).fdiv ((1 + x.fmod 7).gcd (1 + y.fmod 7))) (Y := (1 + y.fmod 7).fdiv ((1 + x.fmod 7).gcd (1 + y.fmod 7))) hret (by k_asm) (by k_asm) (fun p hp => .tail _ hp) ?_ (by rw [f]; rfl) (by rw [f]; rfl)
  intro p hp
  rcases List.mem_cons.mp hp with rfl | hp
  · exact hl.2.1
  · exact ktn_ltOf hl.2.2 p hp
end Mine
end
section
open PySem PySem.W PyProof.Rows PySem.Calls
set_option maxRecDepth 100000
namespace Mine
structure DivOk (a b n : Int) : Prop where
  a0 : 0 ≤ a
  b0 : 0 < b
  hn : n = Builtin.Int.intBits b
  bits : (Builtin.Int.intBits a : Int) - n ≤ 4000

theorem divOk_of {a b : Int} (a0 : 0 ≤ a) (b0 : 0 < b) (h : Builtin.Int.intBits a ≤ 4000) : DivOk a b (Builtin.Int.intBits b) := ⟨a0, b0, rfl, by omega⟩

local macro_rules | `(tactic| walk_at "call ref") => `(tactic| (k_here; (with_reducible show wpAny _ _ (call (Value.ref 38) _ _) _ _ _); k_dflt (refine' Con.use (div0 _ _ _ _ _ _ _ _ _ _ _ (DivOk.b0 ?c1) (DivOk.a0 ?c1) (DivOk.hn ?c1) (DivOk.bits ?c1)) ?k1 ?k2 ?k3 ?k4 ?k5 ?kK ?kd ?ku ?_; (case k1 => k_asm); (case k2 => k_asm); (case k3 => k_asm); (case k4 => k_asm); (case k5 => k_asm); (case kK => first | exact rfl | assumption); (case kd => ktr_room); (case ku => ktr_units); (case c1 => assumption)); intro r9 n9 h9 tk9 F9 N9 O9; obtain ⟨D9, t9, u9, e9, e9', l9⟩ := O9; subst e9; subst e9'; (try dsimp only); (try k_lt l9); (try k_sweep); (try k_fold)))
local macro_rules | `(tactic| walk_at "call ref") => `(tactic| (k_here; (with_reducible show wpAny _ _ (call (Value.ref 93) _ _) _ _ _); k_dflt (refine' Con.use (lawTable _ _ _ _ _ _ _ ?c1) ?k1 ?k2 ?k3 ?k4 ?k5 ?kK ?kd ?ku ?_; (case k1 => k_asm); (case k2 => k_asm); (case k3 => k_asm); (case k4 => k_asm); (case k5 => k_asm); (case kK => first | exact rfl | assumption); (case kd => ktr_room); (case ku => ktr_units); (case c1 => assumption)); intro r9 n9 h9 tk9 F9 N9 O9; obtain ⟨D9, t9, u9, v9, e9, e9', l9⟩ := O9; subst e9; subst e9'; (try dsimp only); (try k_lt l9); (try k_sweep); (try k_fold)))

abbrev tZ (x : Str) : Int := (tabF (KStt.codes x)).2.1
abbrev tS (x : Str) : Int := (tabF (KStt.codes x)).1 - 2 * (tabF (KStt.codes x)).2.1
abbrev tT (x : Str) : Int := (tabF (KStt.codes x)).2.2.1
structure FitsOk (x y : Str) : Prop where
  hx : x.length ≤ 1000
  hy : y.length ≤ 1000
  hxy : (x ++ y).length ≤ 1000
  d1 : DivOk ((x.length : Int) * Txt.count (x ++ y) (Str.ofString "B")) ((x ++ y).length : Nat) (Builtin.Int.intBits (((x ++ y).length : Nat) : Int))
  e1 : ((x.length : Int) * Txt.count (x ++ y) (Str.ofString "B")) / ((x ++ y).length : Nat) = Txt.count x (Str.ofString "B")
  e1' : ((x.length : Int) * Txt.count (x ++ y) (Str.ofString "B")) % ((x ++ y).length : Nat) = 1
  bx : Builtin.Int.intBits (tZ x) ≤ 1000
  by' : Builtin.Int.intBits (tZ y) ≤ 1000
  bs : Builtin.Int.intBits (tS (x ++ y)) ≤ 1000
  d2 : DivOk (tZ x * tZ x + tZ y * tZ y) (tZ (x ++ y)) (Builtin.Int.intBits (tZ (x ++ y)))
  e2 : (tZ x * tZ x + tZ y * tZ y) / tZ (x ++ y) = 3 * tZ x * tZ y - tZ (x ++ y)
  e2' : (tZ x * tZ x + tZ y * tZ y) % tZ (x ++ y) = 0
  d3 : DivOk (tS (x ++ y) * tS (x ++ y) + 1) (tZ (x ++ y)) (Builtin.Int.intBits (tZ (x ++ y)))
  e3 : (tS (x ++ y) * tS (x ++ y) + 1) / tZ (x ++ y) = 2 * tZ (x ++ y) - tS (x ++ y) - tT (x ++ y)
  e3' : (tS (x ++ y) * tS (x ++ y) + 1) % tZ (x ++ y) = 0

theorem eqv2 (a b c d : Int) : PyData.eqv (.tuple [.int a, .int b]) (.tuple [.int c, .int d]) = decide (a = c ∧ b = d) := by
  simp only [PyData.eqv, PyData.eqvAll]
  by_cases h : a = c <;> by_cases h' : b = d <;> simp [h, h']
section
variable {prog : Program} {w : World} {A : Around} {E : Value → Shared → Prop} {s : Shared} {D D' : Addr} {a b c d : Int} {t u t' u' : Tok} {n n' : Nat} {Q : Value → Shared → Prop}
theorem ne_tup2 (h1 : s.heap.get? D = some (tup2 a b t u n)) (h2 : s.heap.get? D' = some (tup2 c d t' u' n')) (hu : A.units + 64 < cLine) (h : Q (.bool (!decide (a = c ∧ b = d))) s) :
    wpAny (model prog w) A (compareOp .NotEq (.ref D) (.ref D')) Q E s :=
  ne_dataH (reads_tuple_at h1 rfl rfl (.cons (.int _ _) (.cons (.int _ _) .nil))) (reads_tuple_at h2 rfl rfl (.cons (.int _ _) (.cons (.int _ _) .nil))) rfl rfl hu (by rw [eqv2]; exact h)
theorem eq_tup2 (h1 : s.heap.get? D = some (tup2 a b t u n)) (h2 : s.heap.get? D' = some (tup2 c d t' u' n')) (hu : A.units + 64 < cLine) (h : Q (.bool (decide (a = c ∧ b = d))) s) :
    wpAny (model prog w) A (compareOp .Eq (.ref D) (.ref D')) Q E s :=
  eq_dataH (reads_tuple_at h1 rfl rfl (.cons (.int _ _) (.cons (.int _ _) .nil))) (reads_tuple_at h2 rfl rfl (.cons (.int _ _) (.cons (.int _ _) .nil))) rfl rfl hu (by rw [eqv2]; exact h)
end
local macro_rules | `(tactic| walk_at "compareOp NotEq ref ref") => `(tactic| (k_here; k_dflt (refine' ne_tup2 (News.get ?k1 ?k2) (News.get ?k3 ?k4) ?k5 ?_; (case k1 => k_asm); (case k2 => k_mem); (case k3 => k_asm); (case k4 => k_mem); (case k5 => ktr_units))))
local macro_rules | `(tactic| walk_at "compareOp Eq ref ref") => `(tactic| (k_here; k_dflt (refine' eq_tup2 (News.get ?k1 ?k2) (News.get ?k3 ?k4) ?k5 ?_; (case k1 => k_asm); (case k2 => k_mem); (case k3 => k_asm); (case k4 => k_mem); (case k5 => ktr_units))))

local macro_rules | `(tactic| bits_by_make) => `(tactic| first | with_reducible assumption)
local macro_rules | `(tactic| walk_at "binaryOp Mult int int") => `(tactic| (k_here; (with_reducible refine mul_int ?_ ?km); rotate_left; (with_reducible apply PyProof.Rows.mulOk_of_bits); (focus bits_by_make); (focus bits_by_make); (focus decide)))

set_option maxHeartbeats 8000000 in
theorem fits (w : World) (mean : ExcName → Option Value) (mg mb : Str → Option Value) (news : List (Addr × Obj)) (x y : Str) (t u : Tok) (H : FitsOk x y) :
    Con w mean mg mb 107 [.str x t, .str y u] news 3 200 (fun r n' => n' = news ∧ r = .bool true) := by
  have hx := H.hx
  have hy := H.hy
  have hxy := H.hxy
  have d1 := H.d1
  have d2 := H.d2
  have d3 := H.d3
  have bx := H.bx
  have by' := H.by'
  have bs := H.bs
  unfold Con
  w_top off
  k_with_none
  k_fill
  intro dp un gd cn cs a0 ccd cl outer A₀ base h₀ L m s Q E B F X N T hk hd hu hret
  refine wpAny_call ?_
  k_dflt cell_enter
  k_steps
  all_goals first
    | exact hret _ news _ _ (by k_asm) (cb_drop (by k_asm) (by intro p hp; repeat (first | exact hp | apply List.Mem.tail))) ⟨rfl, congrArg Value.bool (decide_eq_true ⟨H.e3, H.e3'⟩)⟩
    | (exfalso; rename ¬ (_ ∧ _) => hn; exact hn ⟨H.e1, H.e1'⟩)
    | (exfalso; rename ¬ (_ ∧ _) => hn; exact hn ⟨H.e2, H.e2'⟩)
end Mine
end
section
open PySem PySem.W PyProof.Rows PySem.Calls
set_option maxRecDepth 100000
namespace Mine
structure GreatOk (x : Str) : Prop where
  hx : x.length ≤ 1000
  bz : Builtin.Int.intBits (tZ x) ≤ 1000
  bs : Builtin.Int.intBits (tS x) ≤ 1000
  bt : Builtin.Int.intBits (tT x) ≤ 1000
  z0 : 0 < tZ x
  eq : tS x * tS x + 1 = tZ x * (2 * tZ x - tS x - tT x)
  q0 : 0 ≤ 2 * tZ x - tS x - tT x
  ql : 2 * tZ x - tS x - tT x ≤ 2 * tZ x

abbrev uN (c : Int) : Int := 3 ^ (2590 + c.fmod 8).toNat
abbrev oV (x : Str) (c : Int) : Int := (c.fdiv 8).fmod (tZ x * uN c)
@[irreducible] def pA : Int := 2 ^ 4100
@[irreducible] def pB : Int := 2 ^ 4099
theorem pA_eq : pA = 2 ^ 4100 := by unfold pA; rfl
theorem pB_eq : pB = 2 ^ 4099 := by unfold pB; rfl
abbrev T1 (c : Int) : Int := pA - 1 - (c.fdiv 8).fmod 4096
abbrev T2 (c : Int) : Int := pB + 1 + (c.fdiv 8).fmod pB

theorem three_pow (k : Nat) : (2 : Nat) ^ 4105 ≤ 3 ^ (2590 + k) := by
  have h : (2 : Nat) ^ 4105 ≤ 3 ^ 2590 := by decide +kernel
  exact Nat.le_trans h (Nat.pow_le_pow_right (by decide) (by omega))
theorem fm8 (c : Int) : 0 ≤ c.fmod 8 ∧ c.fmod 8 < 8 := by
  rw [Int.fmod_eq_emod_of_nonneg _ (by decide)]
  omega
theorem uN_pos (c : Int) : 0 < uN c := Int.pow_pos (by decide)
theorem uN_big (c : Int) : (2 : Int) ^ 4105 ≤ uN c := by
  have h := three_pow (c.fmod 8).toNat
  have e : (2590 + c.fmod 8).toNat = 2590 + (c.fmod 8).toNat := by have := fm8 c; omega
  unfold uN
  rw [e]
  have h2 : ((2 ^ 4105 : Nat) : Int) ≤ ((3 ^ (2590 + (c.fmod 8).toNat) : Nat) : Int) := Int.ofNat_le.mpr h
  rw [Int.natCast_pow, Int.natCast_pow] at h2
  exact h2
theorem uN_bits (c : Int) : Builtin.Int.intBits (uN c) ≤ 5200 := by
  refine Nat.le_trans (intBits_pow_le (m := 2) (intBits_le_iff.mpr (by decide)) _) ?_
  have := fm8 c
  omega
theorem T_bounds (c : Int) : 0 ≤ T1 c ∧ T1 c ≤ 2 ^ 4100 ∧ 0 ≤ T2 c ∧ T2 c ≤ 2 ^ 4100 := by
  have hp : (2 : Int) ^ 4100 = 2 ^ 4099 * 2 := Int.pow_succ 2 4099
  have h12 : (4096 : Int) ≤ 2 ^ 4099 := by
    have : (2 : Int) ^ 4099 = 2 ^ 12 * 2 ^ 4087 := by rw [← Int.pow_add]
    rw [this]
    have h1 : (0 : Int) < 2 ^ 4087 := Int.pow_pos (by decide)
    have : (2 : Int) ^ 12 = 4096 := by decide
    rw [this]
    omega
  have f1 := Int.emod_nonneg (c.fdiv 8) (show (4096 : Int) ≠ 0 by decide)
  have f2 := Int.emod_lt_of_pos (c.fdiv 8) (show (0 : Int) < 4096 by decide)
  have hq : (0 : Int) < 2 ^ 4099 := Int.pow_pos (by decide)
  have g1 := Int.emod_nonneg (c.fdiv 8) (show (2 : Int) ^ 4099 ≠ 0 by omega)
  have g2 := Int.emod_lt_of_pos (c.fdiv 8) hq
  unfold T1 T2
  rw [pA_eq, pB_eq, Int.fmod_eq_emod_of_nonneg _ (by decide), Int.fmod_eq_emod_of_nonneg _ (by omega)]
  generalize (2 : Int) ^ 4099 = P at *
  generalize (2 : Int) ^ 4100 = R at *
  omega
theorem T_bits (c : Int) : Builtin.Int.intBits (T1 c) ≤ 4101 ∧ Builtin.Int.intBits (T2 c) ≤ 4101 := by
  obtain ⟨h1, h2, h3, h4⟩ := T_bounds c
  have key : ∀ T : Int, 0 ≤ T → T ≤ 2 ^ 4100 → Builtin.Int.intBits T ≤ 4101 := by
    intro T h h'
    refine intBits_le_iff.mpr ?_
    have e : (2 : Int) ^ 4100 = ((2 ^ 4100 : Nat) : Int) := by rw [Int.natCast_pow]; rfl
    have e2 : (2 : Nat) ^ 4101 = 2 ^ 4100 * 2 := Nat.pow_succ 2 4100
    have hp : 0 < (2 : Nat) ^ 4100 := Nat.two_pow_pos _
    rw [e] at h'
    rw [e2]
    generalize (2 : Nat) ^ 4100 = P at *
    omega
  exact ⟨key _ h1 h2, key _ h3 h4⟩

theorem pB_ne : pB ≠ 0 := by rw [pB_eq]; exact Int.ne_of_gt (Int.pow_pos (by decide))
theorem pow_A {prog : Program} {w : World} {A : Around} {E : Value → Shared → Prop} {s : Shared} {t u : Tok} {Q : Value → Shared → Prop} (h : Q (.int pA s.toks) { s with toks := s.toks + 1 }) : wpAny (model prog w) A (binaryOp .Pow (.int 2 t) (.int 4100 u)) Q E s := by
  rw [pA_eq] at h
  exact pow_int (by decide) (by decide) h
theorem pow_B {prog : Program} {w : World} {A : Around} {E : Value → Shared → Prop} {s : Shared} {t u : Tok} {Q : Value → Shared → Prop} (h : Q (.int pB s.toks) { s with toks := s.toks + 1 }) : wpAny (model prog w) A (binaryOp .Pow (.int 2 t) (.int 4099 u)) Q E s := by
  rw [pB_eq] at h
  exact pow_int (by decide) (by decide) h
section
variable {x : Str} {c : Int} (H : GreatOk x)
include H
theorem GreatOk.zu : 0 < tZ x * uN c := Int.mul_pos H.z0 (uN_pos c)
theorem GreatOk.ne : tZ x * uN c ≠ 0 := by have := H.zu (c := c); omega
theorem GreatOk.ov : 0 ≤ oV x c ∧ oV x c < tZ x * uN c := by
  have h := H.zu (c := c)
  unfold oV
  rw [Int.fmod_eq_emod_of_nonneg _ (by omega)]
  exact ⟨Int.emod_nonneg _ (by omega), Int.emod_lt_of_pos _ h⟩
theorem GreatOk.core {T : Int} (t0 : 0 ≤ T) (tl : T ≤ 2 ^ 4100) :
    D2 ((tS x * tS x + 1) * uN c * T + oV x c) (tZ x * uN c) (Builtin.Int.intBits (tZ x * uN c)) ∧
    ((tS x * tS x + 1) * uN c * T + oV x c) / (tZ x * uN c) = (2 * tZ x - tS x - tT x) * T ∧ ((tS x * tS x + 1) * uN c * T + oV x c) % (tZ x * uN c) = oV x c := by
  have hzu := H.zu (c := c)
  obtain ⟨o0, ol⟩ := H.ov (c := c)
  have z0 := H.z0
  have q0 := H.q0
  have ql := H.ql
  have u0 := uN_pos c
  have ub := uN_big c
  have bz := H.bz
  have ubits := uN_bits c
  rw [H.eq]
  generalize 2 * tZ x - tS x - tT x = q at *
  have ea : tZ x * q * uN c * T + oV x c = (tZ x * uN c) * (q * T) + oV x c := by
    congr 1
    rw [Int.mul_assoc (tZ x) q, Int.mul_comm q (uN c), ← Int.mul_assoc (tZ x) (uN c) q, Int.mul_assoc]
  rw [ea]
  have qT : 0 ≤ q * T := Int.mul_nonneg q0 t0
  have hn : tZ x * uN c < 2 ^ (Builtin.Int.intBits (tZ x * uN c)) := by
    have h := intBits_le_iff.mp (Nat.le_refl (Builtin.Int.intBits (tZ x * uN c)))
    have h2 : (((tZ x * uN c).natAbs : Nat) : Int) < ((2 ^ Builtin.Int.intBits (tZ x * uN c) : Nat) : Int) := Int.ofNat_lt.mpr h
    rw [Int.natCast_pow] at h2
    have e : ((2 : Nat) : Int) = 2 := rfl
    rw [e] at h2
    generalize tZ x * uN c = b at *
    omega
  have big : q * T < tZ x * uN c := by
    have h1 : q * T ≤ (2 * tZ x) * 2 ^ 4100 := Int.le_trans (Int.mul_le_mul_of_nonneg_right ql t0) (Int.mul_le_mul_of_nonneg_left tl (by omega))
    have h2 : tZ x * 2 ^ 4105 ≤ tZ x * uN c := Int.mul_le_mul_of_nonneg_left ub (by omega)
    have e : (2 : Int) ^ 4105 = 2 ^ 4100 * 32 := by rw [show (32 : Int) = 2 ^ 5 from by decide, ← Int.pow_add]
    rw [e, ← Int.mul_assoc] at h2
    rw [Int.mul_assoc, Int.mul_comm 2] at h1
    have hp : 0 < tZ x * 2 ^ 4100 := Int.mul_pos z0 (Int.pow_pos (by decide))
    generalize tZ x * 2 ^ 4100 = W at *
    omega
  have d := (Int.ediv_emod_unique hzu (a := (tZ x * uN c) * (q * T) + oV x c) (q := q * T) (r := oV x c)).mpr ⟨by omega, o0, ol⟩
  refine ⟨⟨?_, hzu, rfl, ?_, ?_⟩, d.1, d.2⟩
  · have := Int.mul_nonneg (Int.le_of_lt hzu) qT
    omega
  · rw [Int.toNat_natCast]
    generalize (2 : Int) ^ (Builtin.Int.intBits (tZ x * uN c)) = M at *
    generalize tZ x * uN c = b at *
    have h1 : b * (q * T) ≤ b * (M - 1) := Int.mul_le_mul_of_nonneg_left (by omega) (by omega)
    rw [Int.mul_sub, Int.mul_one] at h1
    omega
  · have := intBits_mul_le bz ubits
    omega
end
end Mine
end
section
open PySem PySem.W PyProof.Rows PySem.Calls
set_option maxRecDepth 100000
namespace Mine
local macro_rules | `(tactic| walk_at "call ref") => `(tactic| (k_here; (with_reducible show wpAny _ _ (call (Value.ref 93) _ _) _ _ _); k_dflt (refine' Con.use (lawTable _ _ _ _ _ _ _ ?c1) ?k1 ?k2 ?k3 ?k4 ?k5 ?kK ?kd ?ku ?_; (case k1 => k_asm); (case k2 => k_asm); (case k3 => k_asm); (case k4 => k_asm); (case k5 => k_asm); (case kK => first | exact rfl | assumption); (case kd => ktr_room); (case ku => ktr_units); (case c1 => assumption)); intro r9 n9 h9 tk9 F9 N9 O9; obtain ⟨D9, t9, u9, v9, e9, e9', l9⟩ := O9; subst e9; subst e9'; (try dsimp only); (try k_lt l9); (try k_sweep); (try k_fold)))
local macro_rules | `(tactic| walk_at "call ref") => `(tactic| (k_here; (with_reducible show wpAny _ _ (call (Value.ref 38) _ _) _ _ _); k_dflt (refine' Con.use (div1 _ _ _ _ _ _ _ _ _ _ _ ?c1) ?k1 ?k2 ?k3 ?k4 ?k5 ?kK ?kd ?ku ?_; (case k1 => k_asm); (case k2 => k_asm); (case k3 => k_asm); (case k4 => k_asm); (case k5 => k_asm); (case kK => first | exact rfl | assumption); (case kd => ktr_room); (case ku => ktr_units); (case c1 => with_reducible assumption)); intro r9 n9 h9 tk9 F9 N9 O9; obtain ⟨D9, t9, u9, e9, e9', l9⟩ := O9; subst e9; subst e9'; (try dsimp only); (try k_lt l9); (try k_sweep); (try k_fold)))
local macro_rules | `(tactic| walk_at "compareOp NotEq ref ref") => `(tactic| (k_here; k_dflt (refine' ne_tup2 (News.get ?k1 ?k2) (News.get ?k3 ?k4) ?k5 ?_; (case k1 => k_asm); (case k2 => k_mem); (case k3 => k_asm); (case k4 => k_mem); (case k5 => ktr_units))))
local macro_rules | `(tactic| bits_by_make) => `(tactic| with_reducible assumption)
local macro_rules | `(tactic| walk_at "binaryOp Mult int int") => `(tactic| (k_here; (with_reducible refine mul_int ?_ ?km); rotate_left; (with_reducible apply PyProof.Rows.mulOk_of_bits); (focus bits_by_make); (focus bits_by_make); (focus decide)))
local macro_rules | `(tactic| walk_at "binaryOp Pow int int") => `(tactic| (k_here; (with_reducible first | refine pow_A ?_ | refine pow_B ?_)))
local macro_rules | `(tactic| walk_at "binaryOp Mod int int") => `(tactic| (k_here; (with_reducible refine mod_int' ?km ?_); (case km => first | assumption | decide | exact GreatOk.ne (by assumption))))

set_option maxHeartbeats 8000000 in
theorem great (w : World) (mean : ExcName → Option Value) (mg mb : Str → Option Value) (news : List (Addr × Obj)) (x : Str) (c : Int) (t u : Tok) (H : GreatOk x) :
    Con w mean mg mb 114 [.str x t, .int c u] news 8 300 (fun r n' => n' = news ∧ r = .bool true) := by
  have hx := H.hx
  have b1 := H.bz
  have b2 := H.bs
  have b3 := H.bt
  have b4 := uN_bits c
  have n2 := pB_ne
  have hA : ∀ T, T ∈ [T1 c, T2 c] → Builtin.Int.intBits T ≤ 4101 ∧ D2 ((tS x * tS x + 1) * uN c * T + oV x c) (tZ x * uN c) (Builtin.Int.intBits (tZ x * uN c)) ∧
      ((tS x * tS x + 1) * uN c * T + oV x c) / (tZ x * uN c) = (2 * tZ x - tS x - tT x) * T ∧ ((tS x * tS x + 1) * uN c * T + oV x c) % (tZ x * uN c) = oV x c := by
    intro T hT
    rcases List.mem_cons.mp hT with rfl | hT
    · exact ⟨(T_bits c).1, H.core (c := c) (T_bounds c).1 (T_bounds c).2.1⟩
    · rw [List.mem_singleton.mp hT]
      exact ⟨(T_bits c).2, H.core (c := c) (T_bounds c).2.2.1 (T_bounds c).2.2.2⟩
  unfold Con
  w_top off
  k_with_none
  k_fill
  intro dp un gd cn cs a0 ccd cl outer A₀ base h₀ L m s Q E B F X N T hk hd hu hret
  refine wpAny_call ?_
  k_dflt cell_enter
  k_steps
  rename Fr _ _ _ _ => lF'
  rename News _ _ _ _ => lN'
  with_unfolding_all refine' kst_listL (σ := Unit) (ns := [T1 c, T2 c]) (fun _ => _) (fun _ => []) (fun _ => True) [Str.ofString "told"] (fun _ _ => True) () (by rfl) (fun _ => List.Mem.head _) (.cons _ _ (.cons _ _ .nil)) lF' lN' trivial (List.forall_mem_nil _) trivial ?_ ?_
  all_goals clear lF' lN'
  · intro c9 kPre kPost kN kT kU kH kTk kOwn kEq kMem kOff kFacts kInv kFr kNews
    dsimp only [kstB] at kFr
    obtain ⟨bT, dT, e1, e2⟩ := hA _ kMem
    have kMark := kstMark
    try k_fold
    k_steps
    all_goals (exfalso; rename ¬ (_ ∧ _) => hn; exact hn ⟨e1, e2⟩)
  · intro c9 kU kH kTk kFacts kInv kFr kNews
    dsimp only [kstB] at kFr
    have kMark := kstMark
    try k_fold
    k_steps
    exact hret _ news _ _ (by k_asm) (cb_drop (by k_asm) (by intro p hp; repeat (first | exact hp | apply List.Mem.tail))) ⟨rfl, rfl⟩
end Mine
end
section
open PySem PySem.W PyProof.Rows PySem.Calls
set_option maxRecDepth 100000
namespace Mine
theorem sl_to {x : Str} {j : Int} (h0 : 0 ≤ j) (h1 : j ≤ x.length) : Txt.slice x none (some j) = ⟨(x.cps.toList.take j.toNat).toArray⟩ := by
  have h := eq_of_beq (slice_closes_to (x := x) (j := j) ⟨h0, by simpa [Str.length] using h1⟩)
  rw [h]; simp
theorem sl_from {x : Str} {i : Int} (h0 : 0 ≤ i) (h1 : i ≤ x.length) : Txt.slice x (some i) none = ⟨(x.cps.toList.drop i.toNat).toArray⟩ := by
  rw [slice_from_eq h0 h1 rfl]
  congr 2
  apply List.take_of_length_le
  simp [Str.length] at *
  omega
def bF (l : List Nat) (pre : List Int) : Int := pre.foldl (fun b p => if cmpL (l.drop p.toNat) (l.drop b.toNat) = -1 then p else b) 1
theorem bF_append (l : List Nat) (pre : List Int) (p : Int) : bF l (pre ++ [p]) = if cmpL (l.drop p.toNat) (l.drop (bF l pre).toNat) = -1 then p else bF l pre := by
  unfold bF
  rw [List.foldl_append]
  rfl
structure BestI (x : Str) (pre : List Int) (b : Int) : Prop where
  lo : 1 ≤ b
  hi : b < x.length
  eq : b = bF x.cps.toList pre
theorem BestI.start {x : Str} (h : ¬ (x.length : Int) < 2) : BestI x [] 1 := ⟨by decide, by omega, rfl⟩
theorem BestI.stepY {x : Str} {pre : List Int} {b k : Int} (I : BestI x pre b) (e : k = 2 + (pre.length : Int)) (lt : pre.length < ((x.length : Int) - 2).toNat)
    (c : cmpL (Txt.slice x (some k) none).cps.toList (Txt.slice x (some b) none).cps.toList = -1) : BestI x (pre ++ [k]) k := by
  have lo := I.lo
  have hi := I.hi
  rw [sl_from (by omega) (by omega), sl_from (by omega) (by omega)] at c
  refine ⟨by omega, by omega, ?_⟩
  rw [bF_append, ← I.eq, if_pos c]
theorem BestI.stepN {x : Str} {pre : List Int} {b k : Int} (I : BestI x pre b) (e : k = 2 + (pre.length : Int)) (lt : pre.length < ((x.length : Int) - 2).toNat)
    (c : ¬ cmpL (Txt.slice x (some k) none).cps.toList (Txt.slice x (some b) none).cps.toList = -1) : BestI x (pre ++ [k]) b := by
  have lo := I.lo
  have hi := I.hi
  rw [sl_from (by omega) (by omega), sl_from (by omega) (by omega)] at c
  refine ⟨lo, hi, ?_⟩
  rw [bF_append, ← I.eq, if_neg c]
def headCat : List (Array UInt8) → List (Array UInt8)
  | [] => []
  | a :: r => (#[40] ++ a) :: r
def lastCat (l : List (Array UInt8)) : List (Array UInt8) := l.set (l.length - 1) ((l[l.length - 1]?.getD #[]) ++ #[41])
def nestL : Nat → List Nat → List (Array UInt8) × List (List Nat × List Nat)
  | 0, _ => ([], [])
  | n + 1, l =>
    if l.length < 2 then ([if l = [65] then #[34, 92, 34, 40, 34] else #[34, 41, 92, 92, 34]], []) else
    let b := (bF l (rangeKs 2 (l.length - 2))).toNat
    let L := nestL n (l.take b)
    let R := nestL n (l.drop b)
    (headCat L.1 ++ lastCat R.1, (l.take b, l.drop b) :: (L.2 ++ R.2))
theorem bF_bounds (l : List Nat) : ∀ (pre : List Int), (∀ p ∈ pre, 1 ≤ p ∧ p < l.length) → 2 ≤ l.length → 1 ≤ bF l pre ∧ bF l pre < l.length := by
  intro pre
  unfold bF
  have key : ∀ (b : Int), 1 ≤ b ∧ b < l.length → (∀ p ∈ pre, 1 ≤ p ∧ p < l.length) → 1 ≤ pre.foldl (fun b p => if cmpL (l.drop p.toNat) (l.drop b.toNat) = -1 then p else b) b ∧ pre.foldl (fun b p => if cmpL (l.drop p.toNat) (l.drop b.toNat) = -1 then p else b) b < l.length := by
    induction pre with
    | nil => intro b hb _; exact hb
    | cons p r ih =>
      intro b hb hp
      rw [List.foldl_cons]
      refine ih _ ?_ fun q hq => hp q (.tail _ hq)
      split
      · exact hp p (.head _)
      · exact hb
  intro hp hl
  exact key 1 (by omega) hp
theorem cut_bounds (l : List Nat) (h : ¬ l.length < 2) : 1 ≤ (bF l (rangeKs 2 (l.length - 2))).toNat ∧ (bF l (rangeKs 2 (l.length - 2))).toNat < l.length := by
  have := bF_bounds l (rangeKs 2 (l.length - 2)) (by
    intro p hp
    simp only [rangeKs, List.mem_map, List.mem_range] at hp
    obtain ⟨a, ha, rfl⟩ := hp
    omega) (by omega)
  omega
theorem headCat_length (l : List (Array UInt8)) : (headCat l).length = l.length := by cases l <;> rfl
theorem lastCat_length (l : List (Array UInt8)) : (lastCat l).length = l.length := by simp [lastCat]
theorem nestL_length : ∀ (n : Nat) (l : List Nat), 1 ≤ l.length → l.length ≤ n → (nestL n l).1.length = l.length ∧ (nestL n l).2.length + 1 = l.length
  | 0, l, h, h' => by omega
  | n + 1, l, h, h' => by
    unfold nestL
    split
    · simp only [List.length_cons, List.length_nil]; omega
    · rename_i hl
      have hb := cut_bounds l hl
      generalize (bF l (rangeKs 2 (l.length - 2))).toNat = b at *
      have h1 := nestL_length n (l.take b) (by simp; omega) (by simp; omega)
      have h2 := nestL_length n (l.drop b) (by simp; omega) (by simp; omega)
      simp only [List.length_append, headCat_length, lastCat_length, List.length_cons]
      simp only [List.length_take, List.length_drop] at h1 h2
      omega
theorem nestL_size : ∀ (n : Nat) (l : List Nat), ∀ b ∈ (nestL n l).1, b.size ≤ 5 + n
  | 0, l, b, hb => by cases hb
  | n + 1, l, b, hb => by
    unfold nestL at hb
    split at hb
    · rw [List.mem_singleton.mp hb]
      split <;> (show (5 : Nat) ≤ _; omega)
    · rcases List.mem_append.mp hb with h | h
      · cases e : (nestL n (l.take (bF l (rangeKs 2 (l.length - 2))).toNat)).1 with
        | nil => rw [e] at h; cases h
        | cons a r =>
          rw [e] at h
          rcases List.mem_cons.mp h with rfl | h
          · have := nestL_size n _ a (by rw [e]; exact .head _)
            simp only [Array.size_append, List.size_toArray, List.length_cons, List.length_nil]
            omega
          · have := nestL_size n _ b (by rw [e]; exact .tail _ h)
            omega
      · have h := List.mem_or_eq_of_mem_set h
        rcases h with h | rfl
        · have := nestL_size n _ b h
          omega
        · simp only [Array.size_append, List.size_toArray, List.length_cons, List.length_nil]
          cases e : (nestL n (l.drop (bF l (rangeKs 2 (l.length - 2))).toNat)).1[(nestL n (l.drop (bF l (rangeKs 2 (l.length - 2))).toNat)).1.length - 1]? with
          | none => rw [Option.getD_none]; show 0 + (0 + 1) ≤ _; omega
          | some v =>
            have := nestL_size n _ v (List.mem_of_getElem? e)
            rw [Option.getD_some]
            omega
inductive CutsAre (own : List (Addr × Obj)) : List Value → List (List Nat × List Nat) → Prop
  | nil : CutsAre own [] []
  | cons {a : Addr} {l r : List Nat} {t u : Tok} {n : Nat} {vs : List Value} {ps : List (List Nat × List Nat)} (hm : (a, (⟨.type "tuple", none, .seq #[.str ⟨l.toArray⟩ t, .str ⟨r.toArray⟩ u] n, #[]⟩ : Obj)) ∈ own) (h : CutsAre own vs ps) : CutsAre own (.ref a :: vs) ((l, r) :: ps)
theorem CutsAre.length {own : List (Addr × Obj)} {vs : List Value} {ps : List (List Nat × List Nat)} (h : CutsAre own vs ps) : vs.length = ps.length := by
  induction h with
  | nil => rfl
  | cons _ _ ih => simp [ih]
theorem CutsAre.mono {own own' : List (Addr × Obj)} (hs : ∀ p ∈ own, p ∈ own') {vs : List Value} {ps : List (List Nat × List Nat)} (h : CutsAre own vs ps) : CutsAre own' vs ps := by
  induction h with
  | nil => exact .nil
  | cons hm _ ih => exact .cons (hs _ hm) ih
theorem CutsAre.append {own : List (Addr × Obj)} {vs vs' : List Value} {ps ps' : List (List Nat × List Nat)} (h : CutsAre own vs ps) (h' : CutsAre own vs' ps') : CutsAre own (vs ++ vs') (ps ++ ps') := by
  induction h with
  | nil => exact h'
  | cons hm _ ih => exact .cons hm ih
theorem BytesAre.append {vs vs' : List Value} {ps ps' : List (Array UInt8)} (h : BytesAre vs ps) (h' : BytesAre vs' ps') : BytesAre (vs ++ vs') (ps ++ ps') := by
  induction h with
  | nil => exact h'
  | cons _ ih => exact .cons ih
theorem BytesAre.set {vs : List Value} {ps : List (Array UInt8)} (h : BytesAre vs ps) (b : Array UInt8) (t : Tok) : ∀ i, BytesAre (vs.set i (.bytes b t)) (ps.set i b) := by
  induction h with
  | nil => intro i; exact .nil
  | cons h ih =>
    intro i
    cases i with
    | zero => exact .cons h
    | succ i => exact .cons (ih i)
end Mine
end
section
open PySem PySem.W PyProof.Rows PySem.Calls
set_option maxRecDepth 100000
namespace Mine

structure Hold (p : Prop) : Prop where
  h : p
def NestOut (n : Nat) (x : Str) (C : Addr) (cv : List Value) (news : List (Addr × Obj)) (r : Value) (n' : List (Addr × Obj)) : Prop :=
  ∃ D vals cvs own c1 c2, r = .ref D ∧ n' = (D, W.listOf (List.toArray vals) c1) :: (C, W.listOf (cv ++ cvs).toArray c2) :: (own ++ news) ∧ BytesAre vals (nestL n x.cps.toList).1 ∧ CutsAre own cvs (nestL n x.cps.toList).2 ∧
    (∀ p ∈ own, p.2.cls = .type "tuple") ∧ (∀ p ∈ news, p.1 < D) ∧ C < D
def NestAll (w : World) (mean : ExcName → Option Value) (mg mb : Str → Option Value) (n : Nat) : Prop :=
  ∀ (x : Str) (t : Tok) (C : Addr) (cv : List Value) (cn0 : Nat) (news : List (Addr × Obj)), 1 ≤ x.length → x.length ≤ n → cv.length + x.length ≤ 1000 → (∀ p ∈ news, p.1 ≠ C) →
    Con w mean mg mb 100 [.str x t, .ref C] ((C, W.listOf cv.toArray cn0) :: news) (n + 3) (20 * n + 40) (NestOut n x C cv news)

theorem news_swap {h₀ : Heap} {L : Addr} {h : Heap} {a b : Addr × Obj} {l : List (Addr × Obj)} (N : News h₀ L h (a :: b :: l)) : News h₀ L h (b :: a :: l) := by
  intro q hq
  refine N q ?_
  rcases List.mem_cons.mp hq with rfl | hq
  · exact .tail _ (.head _)
  · rcases List.mem_cons.mp hq with rfl | hq
    · exact .head _
    · exact .tail _ (.tail _ hq)
theorem news_rot {h₀ : Heap} {L : Addr} {h : Heap} {a b d : Addr × Obj} {o l : List (Addr × Obj)} (N : News h₀ L h (a :: b :: (o ++ d :: l))) : News h₀ L h (d :: a :: b :: (o ++ l)) := by
  intro q hq
  refine N q ?_
  simp only [List.mem_cons, List.mem_append] at hq ⊢
  rcases hq with h | h | h | h | h <;> simp [h]
theorem ne_of_cls {h₀ : Heap} {L : Addr} {h : Heap} {l : List (Addr × Obj)} (N : News h₀ L h l) {p q : Addr × Obj} (hp : p ∈ l) (hq : q ∈ l) (hc : p.2.cls ≠ q.2.cls) : p.1 ≠ q.1 := by
  intro e
  have h1 := (N p hp).1
  have h2 := (N q hq).1
  rw [e, h2] at h1
  exact hc (by rw [Option.some.inj h1])
theorem ne_of_tl {h₀ : Heap} {L : Addr} {h : Heap} {l : List (Addr × Obj)} {C : Addr} {its : Array Value} {n : Nat} (N : News h₀ L h l) {p : Addr × Obj} (hp : p ∈ l) (ht : p.2.cls = .type "tuple") (hq : (C, W.listOf its n) ∈ l) : p.1 ≠ C := by
  refine ne_of_cls N (q := (C, W.listOf its n)) hp hq ?_
  rw [ht]
  show Value.type "tuple" ≠ Value.type "list"
  decide
theorem apart2 {h₀ : Heap} {L : Addr} {h : Heap} {a c : Addr × Obj} {o1 l : List (Addr × Obj)} {D2 : Addr} {its : Array Value} {n : Nat} (N : News h₀ L h (a :: (D2, W.listOf its n) :: c :: (o1 ++ l))) (hc : c.1 < D2) (ht : ∀ p ∈ o1, p.2.cls = .type "tuple") (hd : ∀ p ∈ l, p.1 < D2) :
    ∀ p ∈ c :: (o1 ++ l), p.1 ≠ D2 := by
  intro p hp
  rcases List.mem_cons.mp hp with rfl | hp
  · exact Nat.ne_of_lt hc
  · rcases List.mem_append.mp hp with hp | hp
    · exact ne_of_tl N (.tail _ (.tail _ (.tail _ (List.mem_append.mpr (.inl hp))))) (ht p hp) (.tail _ (.head _))
    · exact Nat.ne_of_lt (hd p hp)
theorem apart1 {h₀ : Heap} {L : Addr} {h : Heap} {b c : Addr × Obj} {o1 o2 l : List (Addr × Obj)} {D1 : Addr} {its : Array Value} {n : Nat} (N : News h₀ L h ((D1, W.listOf its n) :: b :: c :: (o2 ++ (o1 ++ l)))) (hb : D1 < b.1) (hc : c.1 < D1) (ht2 : ∀ p ∈ o2, p.2.cls = .type "tuple") (ht1 : ∀ p ∈ o1, p.2.cls = .type "tuple") (hd : ∀ p ∈ l, p.1 < D1) :
    ∀ p ∈ b :: c :: (o2 ++ (o1 ++ l)), p.1 ≠ D1 := by
  intro p hp
  rcases List.mem_cons.mp hp with rfl | hp
  · exact Nat.ne_of_gt hb
  · rcases List.mem_cons.mp hp with rfl | hp
    · exact Nat.ne_of_lt hc
    · rcases List.mem_append.mp hp with hp | hp
      · exact ne_of_tl N (.tail _ (.tail _ (.tail _ (List.mem_append.mpr (.inl hp))))) (ht2 p hp) (.head _)
      · rcases List.mem_append.mp hp with hp | hp
        · exact ne_of_tl N (.tail _ (.tail _ (.tail _ (List.mem_append.mpr (.inr (List.mem_append.mpr (.inl hp))))))) (ht1 p hp) (.head _)
        · exact Nat.ne_of_lt (hd p hp)
section
variable {prog : Program} {w : World} {A : Around} {E : Value → Shared → Prop} {s : Shared} {h₀ : Heap} {L D : Addr} {m : Str → Option Value} {rest : List (Addr × Obj)} {vs : List Value} {n : Nat} {k : Int} {t : Tok} {v : Value}
theorem item_at {value slice : PySem.Expr} {l : Addr} {u : Tok} {Q : Value → Shared → Prop} (hl : s.heap.IsList l vs.toArray) (h0 : 0 ≤ k) (hfit : k < 2 ^ 63) (hx : vs[k.toNat]? = some v) (h : Q v s)
    (hs : subscripted slice false (.ref l) (.int k u) = operate [.ref l, .int k u] (getItem (.ref l) (.int k u)) := by with_unfolding_all rfl) :
    wpAny (model prog w) A (subscriptTail value slice (.ref l) (.int k u)) Q E s :=
  tail_any hl.typeIs slot_list_getitem.lookup (wpAny_getItem_list hl h0 hfit (by simpa using hx) h) hs
theorem item_last {value slice : PySem.Expr} {l : Addr} {u : Tok} {Q : Value → Shared → Prop} (hl : s.heap.IsList l vs.toArray) (h0 : 0 < vs.length) (hx : vs[vs.length - 1]? = some v) (h : Q v s)
    (hs : subscripted slice false (.ref l) (.int (-1) u) = operate [.ref l, .int (-1) u] (getItem (.ref l) (.int (-1) u)) := by with_unfolding_all rfl) :
    wpAny (model prog w) A (subscriptTail value slice (.ref l) (.int (-1) u)) Q E s :=
  tail_any hl.typeIs slot_list_getitem.lookup (wpAny_getItem_list_neg hl (by decide) (by rw [List.size_toArray]; omega) (by decide) (by
    have e : (-1 + (vs.toArray.size : Int)).toNat = vs.length - 1 := by rw [List.size_toArray]; omega
    rw [e]
    simpa using hx) h) hs
theorem item_lastN {value slice : PySem.Expr} {news : List (Addr × Obj)} {l : Addr} {u : Tok} {Q : Value → Shared → Prop} (N : News h₀ L s.heap news) (hm : (l, W.listOf vs.toArray n) ∈ news) (h0 : 0 < vs.length) (hx : vs[vs.length - 1]? = some v) (h : Q v s)
    (hs : subscripted slice false (.ref l) (.int (-1) u) = operate [.ref l, .int (-1) u] (getItem (.ref l) (.int (-1) u)) := by with_unfolding_all rfl) :
    wpAny (model prog w) A (subscriptTail value slice (.ref l) (.int (-1) u)) Q E s := item_last (PySem.IsL.isList (N _ hm).1) h0 hx h hs
theorem item_zeroN {value slice : PySem.Expr} {news : List (Addr × Obj)} {l : Addr} {u : Tok} {Q : Value → Shared → Prop} (N : News h₀ L s.heap news) (hm : (l, W.listOf vs.toArray n) ∈ news) (hx : vs[0]? = some v) (h : Q v s)
    (hs : subscripted slice false (.ref l) (.int 0 u) = operate [.ref l, .int 0 u] (getItem (.ref l) (.int 0 u)) := by with_unfolding_all rfl) :
    wpAny (model prog w) A (subscriptTail value slice (.ref l) (.int 0 u)) Q E s := item_at (PySem.IsL.isList (N _ hm).1) (by decide) (by decide) hx h hs
theorem set_at {Q : Unit → Shared → Prop} (F : Fr h₀ L s.heap m) (N : News h₀ L s.heap ((D, W.listOf vs.toArray n) :: rest)) (hap : ∀ p ∈ rest, p.1 ≠ D) (h0 : 0 ≤ k) (h1 : k < vs.length) (hfit : k < 2 ^ 63)
    (h : ∀ h', Fr h₀ L h' m → News h₀ L h' ((D, W.listOf (vs.set k.toNat v).toArray n) :: rest) → Q () { s with heap := h' }) : wpAny (model prog w) A (setItem (.ref D) (.int k t) v) Q E s := by
  have z := N _ (.head _)
  refine ki_setAt z.1 h0 hfit (by rw [List.size_toArray]; exact h1) (h _ (F.change (Heap.SameBut.update ..) z.2.1 z.2.2) (ki_turn (pre := []) _ N (fun _ h => nomatch h) hap ?_ ?_))
  · show vs.toArray.setIfInBounds k.toNat v = _
    apply Array.toList_inj.mp
    simp
  · simp
theorem set_zero {Q : Unit → Shared → Prop} (F : Fr h₀ L s.heap m) (N : News h₀ L s.heap ((D, W.listOf vs.toArray n) :: rest)) (hap : ∀ p ∈ rest, p.1 ≠ D) (h1 : 0 < vs.length)
    (h : ∀ h', Fr h₀ L h' m → News h₀ L h' ((D, W.listOf (vs.set 0 v).toArray n) :: rest) → Q () { s with heap := h' }) : wpAny (model prog w) A (setItem (.ref D) (.int 0 t) v) Q E s :=
  set_at F N hap (by decide) (by omega) (by decide) h
theorem set_back {Q : Unit → Shared → Prop} (F : Fr h₀ L s.heap m) (N : News h₀ L s.heap ((D, W.listOf vs.toArray n) :: rest)) (hap : ∀ p ∈ rest, p.1 ≠ D) (h1 : 0 < vs.length)
    (h : ∀ h', Fr h₀ L h' m → News h₀ L h' ((D, W.listOf (vs.set (vs.length - 1) v).toArray n) :: rest) → Q () { s with heap := h' }) : wpAny (model prog w) A (setItem (.ref D) (.int (-1) t) v) Q E s := by
  have z := N _ (.head _)
  refine ki_setBack z.1 (by decide) (by rw [List.size_toArray]; omega) (by decide) (h _ (F.change (Heap.SameBut.update ..) z.2.1 z.2.2) (ki_turn (pre := []) _ N (fun _ h => nomatch h) hap ?_ ?_))
  · have e : (-1 + (vs.toArray.size : Int)).toNat = vs.length - 1 := by rw [List.size_toArray]; omega
    show vs.toArray.setIfInBounds (-1 + (vs.toArray.size : Int)).toNat v = _
    rw [e]
    apply Array.toList_inj.mp
    simp
  · simp
theorem set_back2 {Q : Unit → Shared → Prop} {D1 : Addr} {o : Obj} (F : Fr h₀ L s.heap m) (N : News h₀ L s.heap ((D1, o) :: (D, W.listOf vs.toArray n) :: rest)) (hD : D1 < D) (hap : ∀ p ∈ rest, p.1 ≠ D) (h1 : 0 < vs.length)
    (h : ∀ h', Fr h₀ L h' m → News h₀ L h' ((D, W.listOf (vs.set (vs.length - 1) v).toArray n) :: (D1, o) :: rest) → Q () { s with heap := h' }) : wpAny (model prog w) A (setItem (.ref D) (.int (-1) t) v) Q E s :=
  set_back F (news_swap N) (fun p hp => by
    rcases List.mem_cons.mp hp with rfl | hp
    · exact Nat.ne_of_lt hD
    · exact hap p hp) h1 h
theorem add_listsN {news : List (Addr × Obj)} {a b : Addr} {ws : List Value} {n2 : Nat} {Q : Value → Shared → Prop} (F : Fr h₀ L s.heap m) (N : News h₀ L s.heap news) (h1 : (a, W.listOf vs.toArray n) ∈ news) (h2 : (b, W.listOf ws.toArray n2) ∈ news) (hz : vs.length + ws.length ≤ 1000)
    (h : ∀ D h', Fr h₀ L h' m → News h₀ L h' ((D, W.listOf (vs ++ ws).toArray 0) :: news) → (∀ p ∈ news, p.1 < D) → Q (.ref D) { s with heap := h' }) : wpAny (model prog w) A (binaryOp .Add (.ref a) (.ref b)) Q E s :=
  add_lists F N (PySem.IsL.isList (N _ h1).1) (PySem.IsL.isList (N _ h2).1) (fun h' F' N' => h _ h' F' N' fun p hp => Heap.lt_size (N p hp).1) (by rw [sizeLine_eq]; omega)
theorem append_top {Q : Value → Shared → Prop} (F : Fr h₀ L s.heap m) {p : Addr × Obj} (N : News h₀ L s.heap (p :: (D, W.listOf vs.toArray n) :: rest)) (h1 : p.1 ≠ D) (hap : ∀ p ∈ rest, p.1 ≠ D) (hsz : vs.length ≤ 16777216)
    (h : ∀ h', Fr h₀ L h' m → News h₀ L h' ((D, W.listOf (vs ++ [v]).toArray (n + 1)) :: p :: rest) → Q .none { s with heap := h' }) : wpAny (model prog w) A (call (.builtin "list.append") [.ref D, v]) Q E s := by
  refine append_second F N h1 hap (fun h' F' N' => h h' F' ?_) (by rw [List.size_toArray, sizeLine_eq]; exact hsz)
  have e : (vs ++ [v]).toArray = vs.toArray.push v := by simp
  rw [e]
  intro q hq
  refine N' q ?_
  rcases List.mem_cons.mp hq with rfl | hq
  · exact .tail _ (.head _)
  · rcases List.mem_cons.mp hq with rfl | hq
    · exact .head _
    · exact .tail _ (.tail _ hq)
end

theorem nest_fin {h₀ : Heap} {L : Addr} {h : Heap} {a b d c p : Addr × Obj} {o1 o2 l : List (Addr × Obj)} (N : News h₀ L h (a :: b :: d :: c :: (o2 ++ (o1 ++ p :: l)))) : News h₀ L h (a :: c :: ((p :: (o1 ++ o2)) ++ l)) := by
  intro q hq
  refine N q ?_
  simp only [List.mem_cons, List.mem_append] at hq ⊢
  rcases hq with h | h | (h | h | h) | h <;> simp [h]
theorem str_A (x : Str) : (x == Str.ofString "A") = decide (x.cps.toList = [65]) := by
  have e : Str.ofString "A" = ⟨#[65]⟩ := by decide +kernel
  rw [e]
  by_cases h : x.cps.toList = [65]
  · have hx : x = ⟨#[65]⟩ := by
      cases x
      congr 1
      exact Array.toList_inj.mp h
    rw [hx]
    decide
  · rw [decide_eq_false h]
    refine beq_eq_false_iff_ne.mpr fun hx => h ?_
    rw [hx]
theorem nest_leaf {n : Nat} {x : Str} {C D : Addr} {cv : List Value} {news : List (Addr × Obj)} {b : Array UInt8} {t : Tok} {k k' : Nat} (hx : (x.length : Int) < 2) (hb : b = if x.cps.toList = [65] then #[34, 92, 34, 40, 34] else #[34, 41, 92, 92, 34])
    (hl : C < D ∧ AllLt D news) : NestOut (n + 1) x C cv news (.ref D) ((D, W.listOf #[.bytes b t] k) :: (C, W.listOf cv.toArray k') :: news) := by
  have hl2 : x.cps.toList.length < 2 := by rw [Array.length_toList]; exact Int.ofNat_lt.mp hx
  refine ⟨D, [.bytes b t], [], [], k, k', rfl, by rw [List.append_nil]; rfl, ?_, ?_, (fun _ h => nomatch h), ktn_ltOf hl.2, hl.1⟩
  · unfold nestL
    rw [if_pos hl2, hb]
    exact .cons .nil
  · unfold nestL
    rw [if_pos hl2]
    exact .nil
theorem nest_more {n : Nat} {x : Str} {C D D' : Addr} {cv cv1 cv2 vl vr : List Value} {news own1 own2 : List (Addr × Obj)} {bst : Int} {bl br : Array UInt8} {t u t1 t2 : Tok} {k k' kk : Nat} (hx : ¬ (x.length : Int) < 2) (hB : BestI x (rangeKs 2 ((x.length : Int) - 2).toNat) bst)
    (hb1 : BytesAre vl (nestL n (Txt.slice x none (some bst)).cps.toList).1) (hc1 : CutsAre own1 cv1 (nestL n (Txt.slice x none (some bst)).cps.toList).2) (ht1 : ∀ p ∈ own1, p.2.cls = .type "tuple")
    (hb2 : BytesAre vr (nestL n (Txt.slice x (some bst) none).cps.toList).1) (hc2 : CutsAre own2 cv2 (nestL n (Txt.slice x (some bst) none).cps.toList).2) (ht2 : ∀ p ∈ own2, p.2.cls = .type "tuple")
    (hbl : (nestL n (Txt.slice x none (some bst)).cps.toList).1[0]? = some bl) (hbr : (nestL n (Txt.slice x (some bst) none).cps.toList).1[vr.length - 1]? = some br)
    (hl : ∀ p ∈ news, p.1 < D) (hC : C < D) :
    NestOut (n + 1) x C cv news (.ref D) ((D, W.listOf (vl.set 0 (.bytes (#[40] ++ bl) t1) ++ vr.set (vr.length - 1) (.bytes (br ++ #[41]) t2)).toArray k) :: (C, W.listOf (cv ++ [Value.ref D'] ++ cv1 ++ cv2).toArray k') ::
      (((D', (⟨.type "tuple", none, .seq #[.str (Txt.slice x none (some bst)) t, .str (Txt.slice x (some bst) none) u] kk, #[]⟩ : Obj)) :: (own1 ++ own2)) ++ news)) := by
  have b1 := hB.lo
  have b2 := hB.hi
  have eq := hB.eq
  have e1 := sl_to (x := x) (j := bst) (by omega) (by omega)
  have e2 := sl_from (x := x) (i := bst) (by omega) (by omega)
  have hl2 : ¬ x.cps.toList.length < 2 := by rw [Array.length_toList]; exact fun h => hx (Int.ofNat_lt.mpr h)
  have er : ((x.length : Int) - 2).toNat = x.cps.toList.length - 2 := by rw [Array.length_toList]; show ((x.length : Int) - 2).toNat = x.length - 2; omega
  rw [er] at eq
  rw [e1] at hb1 hc1 hbl
  rw [e2] at hb2 hc2 hbr
  rw [e1, e2]
  rw [eq] at hb1 hb2 hc1 hc2 hbl hbr ⊢
  have y2 := hb2.length
  refine ⟨D, vl.set 0 (.bytes (#[40] ++ bl) t1) ++ vr.set (vr.length - 1) (.bytes (br ++ #[41]) t2), Value.ref D' :: (cv1 ++ cv2), (_ :: (own1 ++ own2)), k, k', rfl, by simp only [List.append_assoc, List.cons_append, List.nil_append]; rfl, ?_, ?_, ?_, hl, hC⟩
  · unfold nestL
    rw [if_neg hl2]
    refine BytesAre.append ?_ ?_
    · generalize (nestL n (x.cps.toList.take (bF x.cps.toList (rangeKs 2 (x.cps.toList.length - 2))).toNat)).1 = q at *
      cases hb1 with
      | nil => cases hbl
      | cons h =>
        cases hbl
        exact .cons h
    · have h := hb2.set (br ++ #[41]) t2 (vr.length - 1)
      unfold lastCat
      rw [← y2, hbr]
      exact h
  · unfold nestL
    rw [if_neg hl2]
    refine .cons (.head _) (CutsAre.append (CutsAre.mono ?_ hc1) (CutsAre.mono ?_ hc2))
    · intro p hp; exact .tail _ (List.mem_append.mpr (.inl hp))
    · intro p hp; exact .tail _ (List.mem_append.mpr (.inr hp))
  · intro p hp
    rcases List.mem_cons.mp hp with rfl | hp
    · rfl
    · rcases List.mem_append.mp hp with hp | hp
      · exact ht1 p hp
      · exact ht2 p hp

theorem BestI.val {x : Str} {pre : List Int} {b : Int} (_ : BestI x pre b) : ∃ c : Int, c = b := ⟨b, rfl⟩
set_option maxHeartbeats 8000000 in
theorem nest_step (w : World) (mean : ExcName → Option Value) (mg mb : Str → Option Value) (n : Nat) (IH : NestAll w mean mg mb n) (hn : n ≤ 100) : NestAll w mean mg mb (n + 1) := by
  intro x t C cv cn0 news hx1 hxn hcv hC
  unfold Con
  w_top off
  k_with_none
  k_fill
  k_with "call ref cons nil" => (k_here; (with_reducible show wpAny _ _ (call (Value.ref 72) _ _) _ _ _); k_dflt (refine' Con.use (strcoll _ _ _ _ _ _ _ _ _) ?k1 ?k2 ?k3 ?k4 ?k5 ?kK ?kd ?ku ?_; (case k1 => k_asm); (case k2 => k_asm); (case k3 => k_asm); (case k4 => k_asm); (case k5 => k_asm); (case kK => first | exact rfl | assumption); (case kd => ktr_room); (case ku => ktr_units)); intro r9 n9 h9 tk9 F9 N9 O9; obtain ⟨e9, t9, e9'⟩ := O9; subst e9; subst e9'; (try dsimp only); (try k_sweep); (try k_fold))
  k_with "binaryOp Add ref ref" => (k_here; k_dflt (refine' add_listsN ?k1 ?k2 ?k3 ?k4 ?k5 ?_; (case k1 => k_asm); (case k2 => k_asm); (case k3 => k_mem); (case k4 => k_mem); (case k5 => (simp only [List.length_set]; assumption))); intro D9 h9 F9 N9 l9; (try dsimp only))
  k_with "subscriptTail Name Constant ref int" => (k_here; (with_reducible show wpAny _ _ (subscriptTail _ _ (Value.ref _) (Value.int 0 _)) _ _ _); k_dflt (refine' item_zeroN ?k1 ?k2 ?k4 ?_ ?k5; (case k1 => k_asm); (case k2 => k_mem); (case k4 => assumption); (case k5 => with_unfolding_all rfl)))
  k_with "setItem ref int" => (k_here; (with_reducible show wpAny _ _ (setItem (Value.ref _) (Value.int 0 _) _) _ _ _); k_dflt (refine' set_zero ?k1 ?k2 ?k3 ?k4 ?_; (case k1 => k_asm); (case k2 => k_asm); (case k3 => assumption); (case k4 => assumption)); intro h9 F9 N9; (try dsimp only); (try k_sweep))
  k_with "subscriptTail Name UnaryOp ref int" => (k_here; (with_reducible show wpAny _ _ (subscriptTail _ _ (Value.ref _) (Value.int (-1) _)) _ _ _); k_dflt (refine' item_lastN ?k1 ?k2 ?k3 ?k4 ?_ ?k5; (case k1 => k_asm); (case k2 => k_mem); (case k3 => assumption); (case k4 => assumption); (case k5 => with_unfolding_all rfl)))
  k_with "setItem ref int" => (k_here; (with_reducible show wpAny _ _ (setItem (Value.ref _) (Value.int (-1) _) _) _ _ _); k_dflt (refine' set_back2 ?k1 ?k2 ?k3 ?k4 ?k5 ?_; (case k1 => k_asm); (case k2 => k_asm); (case k3 => assumption); (case k4 => assumption); (case k5 => assumption)); intro h9 F9 N9; (try dsimp only); (try k_sweep))
  intro dp un gd cn cs a0 ccd cl outer A₀ base h₀ L m s Q E B F X N T hk hd hu hret
  refine wpAny_call ?_
  k_dflt cell_enter
  k_with "pyIter ref" => k_state (fun pre best => BestI x pre best) "best"
  k_with "state" => first | exact BestI.start (by assumption) | exact BestI.stepY (by assumption) (by assumption) (by assumption) (by assumption) | exact BestI.stepN (by assumption) (by assumption) (by assumption) (by assumption)
  k_steps
  · rename (Str.length _ : Int) < 2 => hl
    rename (_ == _) = true => hA
    rename _ ∧ AllLt _ news => lD
    rw [str_A] at hA
    exact hret _ _ _ _ (by k_asm) (by k_asm) (nest_leaf hl (by rw [if_pos (of_decide_eq_true hA)]) lD)
  · rename (Str.length _ : Int) < 2 => hl
    rename (_ == _) = false => hA
    rename _ ∧ AllLt _ news => lD
    rw [str_A] at hA
    exact hret _ _ _ _ (by k_asm) (by k_asm) (nest_leaf hl (by rw [if_neg (of_decide_eq_false hA)]) lD)
  · rename BestI _ _ _ => hB
    obtain ⟨bst, hbq⟩ := BestI.val hB
    subst hbq
    have b1 := hB.lo
    have b2 := hB.hi
    have e1 := sl_to (x := x) (j := _) (Int.le_trans (by decide) b1) (Int.le_of_lt b2)
    have e2 := sl_from (x := x) (i := _) (Int.le_trans (by decide) b1) (Int.le_of_lt b2)
    have g1 : (Txt.slice x none (some bst)).length = _ := congrArg Str.length e1
    have g2 : (Txt.slice x (some bst) none).length = _ := congrArg Str.length e2
    simp only [Str.length, List.size_toArray, List.length_take, List.length_drop, Array.length_toList] at g1 g2
    have exl : x.cps.size = x.length := rfl
    rw [exl] at g1 g2
    rename Fr _ _ _ _ => F1
    rename News _ _ _ _ => N1
    rename _ ∧ AllLt _ news => lD
    refine append_top F1 N1 (Nat.ne_of_gt lD.1) hC (by omega) ?_
    intro h2 F2 N2
    try dsimp only
    k_steps
    rename Fr _ _ _ _ => F3
    rename News _ _ _ _ => N3
    k_dflt (refine' Con.use (IH _ _ _ _ _ _ ?c1 ?c2 ?c3 ?c4) ?k1 ?k2 ?k3 ?k4 ?k5 ?kK ?kd ?ku ?_)
    case k1 => k_asm
    case k2 => exact F3
    case k3 => k_asm
    case k4 => exact N3
    case k5 => k_asm
    case kK => exact rfl
    case kd => ktr_room
    case ku => ktr_units
    case c1 => show 1 ≤ Array.size _; omega
    case c2 => show Array.size _ ≤ n; omega
    case c3 =>
      rw [List.length_append]
      show _ + 1 + Array.size _ ≤ 1000
      omega
    case c4 =>
      intro p hp
      rcases List.mem_cons.mp hp with rfl | hp
      · exact Nat.ne_of_gt lD.1
      · exact hC p hp
    intro r1 n1 h4 tk4 F4 N4 O4
    obtain ⟨D1, vl, cv1, own1, k1, k2, rfl, rfl, hb1, hc1, ht1, hd1, hC1⟩ := O4
    try k_sweep
    try dsimp only
    k_steps
    rename Fr _ _ _ _ => F5
    rename News _ _ _ _ => N5
    k_dflt (refine' Con.use (IH _ _ _ _ _ _ ?c1 ?c2 ?c3 ?c4) ?k1 ?k2 ?k3 ?k4 ?k5 ?kK ?kd ?ku ?_)
    case k1 => k_asm
    case k2 => exact F5
    case k3 => k_asm
    case k4 => exact news_swap N5
    case k5 => k_asm
    case kK => exact rfl
    case kd => ktr_room
    case ku => ktr_units
    case c1 => show 1 ≤ Array.size _; omega
    case c2 => show Array.size _ ≤ n; omega
    case c3 =>
      have hl := hc1.length
      have hl2 := (nestL_length n (Txt.slice x none (some bst)).cps.toList (by rw [Array.length_toList, g1]; omega) (by rw [Array.length_toList, g1]; omega)).2
      rw [Array.length_toList, g1] at hl2
      rw [List.length_append, List.length_append]
      show _ + 1 + _ + Array.size _ ≤ 1000
      omega
    case c4 =>
      intro p hp
      rcases List.mem_cons.mp hp with rfl | hp
      · exact Nat.ne_of_gt hC1
      · rcases List.mem_append.mp hp with hp | hp
        · exact ne_of_tl N5 (.tail _ (.tail _ (List.mem_append.mpr (.inl hp)))) (ht1 p hp) (.tail _ (.head _))
        · rcases List.mem_cons.mp hp with rfl | hp
          · exact Nat.ne_of_gt lD.1
          · exact hC p hp
    intro r2 n2 h6 tk6 F6 N6 O6
    obtain ⟨D2, vr, cv2, own2, j1, j2, rfl, rfl, hb2, hc2, ht2, hd2, hC2⟩ := O6
    replace N6 := news_rot N6
    have hD12 : D1 < D2 := hd2 _ (.head _)
    have hD2 := apart2 N6 hC2 ht2 (fun p hp => hd2 p (.tail _ hp))
    have hD1 := apart1 N6 hD12 hC1 ht2 ht1 hd1
    try k_sweep
    try dsimp only
    have q1 := nestL_length n (Txt.slice x none (some bst)).cps.toList (by rw [Array.length_toList, g1]; omega) (by rw [Array.length_toList, g1]; omega)
    have q2 := nestL_length n (Txt.slice x (some bst) none).cps.toList (by rw [Array.length_toList, g2]; omega) (by rw [Array.length_toList, g2]; omega)
    have z1 := nestL_size n (Txt.slice x none (some bst)).cps.toList
    have z2 := nestL_size n (Txt.slice x (some bst) none).cps.toList
    rw [Array.length_toList, g1] at q1
    rw [Array.length_toList, g2] at q2
    have y1 := hb1.length
    have y2 := hb2.length
    obtain ⟨bl, hbl⟩ : ∃ bl, (nestL n (Txt.slice x none (some bst)).cps.toList).1[0]? = some bl := ⟨_, List.getElem?_eq_getElem (by omega)⟩
    obtain ⟨br, hbr⟩ : ∃ br, (nestL n (Txt.slice x (some bst) none).cps.toList).1[vr.length - 1]? = some br := ⟨_, List.getElem?_eq_getElem (by omega)⟩
    have sl := z1 bl (List.mem_of_getElem? hbl)
    have sr := z2 br (List.mem_of_getElem? hbr)
    obtain ⟨tl, htl⟩ := hb1.get hbl
    obtain ⟨tr, htr⟩ := hb2.get hbr
    have v1 : 0 < vl.length := by omega
    have v2 : 0 < vr.length := by omega
    have v3 : vl.length + vr.length = x.length := by omega
    have v4 : (nestL n (Txt.slice x none (some bst)).cps.toList).1.length = vl.length := y1.symm
    have v5 : (nestL n (Txt.slice x (some bst) none).cps.toList).1.length = vr.length := y2.symm
    have v7 : vl.length + vr.length ≤ 1000 := by omega
    have v6 : bl.size + br.size ≤ 1000 := by omega
    have keep : Hold (((x.length : Int) < 2 → False) ∧ 1 ≤ bst ∧ bst < x.length ∧ vl.length + vr.length = x.length ∧ bl.size + br.size ≤ 1000) := ⟨⟨by assumption, b1, b2, v3, v6⟩⟩
    clear q1 q2 y1 y2 g1 g2 z1 z2 exl sl sr hxn hx1 b1 b2 v3 v4 v5
    repeat (rename (Str.length (Txt.slice _ _ _) ≤ _) => hz; clear hz)
    rename ¬ (_ < _) => hz; clear hz
    k_steps
    rename (∀ p : Addr × Obj, p ∈ _ → p.1 < _) => l9
    rename News _ _ _ _ => Nz
    refine hret _ _ _ _ (by k_asm) (nest_fin Nz) (nest_more (fun h => keep.h.1 h) hB hb1 hc1 ht1 hb2 hc2 ht2 hbl hbr ?hl ?hC)
    case hl =>
      intro p hp
      exact l9 p (.tail _ (.tail _ (.tail _ (List.mem_append.mpr (.inr (List.mem_append.mpr (.inr (.tail _ hp))))))))
    case hC => exact l9 (C, _) (.tail _ (.tail _ (.head _)))
theorem nest (w : World) (mean : ExcName → Option Value) (mg mb : Str → Option Value) : ∀ n : Nat, n ≤ 100 → NestAll w mean mg mb n
  | 0, _ => fun x _ _ _ _ _ h h' => by omega
  | n + 1, h => nest_step w mean mg mb n (nest w mean mg mb n (by omega)) (by omega)
end Mine
end
section
open PySem PySem.W PyProof.Rows PySem.Calls
set_option maxRecDepth 100000
namespace Mine
@[irreducible] def pdv (b : Array UInt8) : Int := (pd b).getD 0
@[irreducible] def sumPd (bs : List (Array UInt8)) : Int := (bs.map pdv).sum
def sliceF (rs : List Int) (here k : Int) : List Int := List.take (min ((if k > here then k else here) + 1).toNat rs.length - (if k < here then k else here).toNat) (List.drop (if k < here then k else here).toNat rs)
@[irreducible] def aboveF (rs : List Int) (here : Int) (pre : List Int) : Int := ((pre.countP fun k => (sliceF rs here k).contains (rs.getD k.toNat 0) && (sliceF rs here k).all (fun a => decide (rs.getD k.toNat 0 ≤ a)) : Nat) : Int)
structure DepI (c : Int) (bs : List (Array UInt8)) (pre : List Int) (depth : Int) : Prop where
  eq : depth = c + sumPd (bs.take pre.length)
structure AboI (rs : List Int) (here : Int) (pre : List Int) (above : Int) : Prop where
  eq : above = aboveF rs here pre
theorem DepI.start {c : Int} {bs : List (Array UInt8)} : DepI c bs [] c := ⟨by unfold sumPd; simp⟩
theorem DepI.step {c k d : Int} {bs : List (Array UInt8)} {pre : List Int} (I : DepI c bs pre d) (e : k = 1 + (pre.length : Int)) (lt : pre.length < ((bs.length : Int) - 1).toNat) : DepI c bs (pre ++ [k]) (d + pdv (bs.getD (k - 1).toNat #[])) := by
  refine ⟨?_⟩
  have hk : (k - 1).toNat = pre.length := by omega
  have hl : pre.length < bs.length := by omega
  rw [I.eq, hk, List.length_append, List.length_singleton, List.take_succ_eq_append_getElem hl]
  unfold sumPd
  rw [List.map_append, List.sum_append]
  simp only [List.map_cons, List.map_nil, List.sum_cons, List.sum_nil, List.getD, List.getElem?_eq_getElem hl, Option.getD_some]
  omega
theorem AboI.start {rs : List Int} {here : Int} : AboI rs here [] 0 := ⟨by unfold aboveF; simp⟩
theorem AboI.stepY {rs : List Int} {here k a M : Int} {pre : List Int} (I : AboI rs here pre a) (h1 : M ∈ sliceF rs here k) (h2 : ∀ x ∈ sliceF rs here k, M ≤ x) (e : rs.getD k.toNat 0 = M) : AboI rs here (pre ++ [k]) (a + 1) := by
  refine ⟨?_⟩
  rw [I.eq]
  unfold aboveF
  have hc : ((sliceF rs here k).contains (rs.getD k.toNat 0) && (sliceF rs here k).all (fun a => decide (rs.getD k.toNat 0 ≤ a))) = true := by
    rw [e, Bool.and_eq_true]
    refine ⟨List.contains_iff_mem.mpr h1, List.all_eq_true.mpr fun x hx => decide_eq_true (h2 x hx)⟩
  rw [List.countP_append, List.countP_cons, hc]
  simp
theorem AboI.stepN {rs : List Int} {here k a M : Int} {pre : List Int} (I : AboI rs here pre a) (h1 : M ∈ sliceF rs here k) (h2 : ∀ x ∈ sliceF rs here k, M ≤ x) (e : rs.getD k.toNat 0 ≠ M) : AboI rs here (pre ++ [k]) a := by
  refine ⟨?_⟩
  rw [I.eq]
  unfold aboveF
  have hc : ((sliceF rs here k).contains (rs.getD k.toNat 0) && (sliceF rs here k).all (fun a => decide (rs.getD k.toNat 0 ≤ a))) = false := by
    rw [Bool.eq_false_iff]
    intro h
    rw [Bool.and_eq_true] at h
    have m1 := h2 _ (List.contains_iff_mem.mp h.1)
    have m2 := of_decide_eq_true (List.all_eq_true.mp h.2 M h1)
    omega
  rw [List.countP_append, List.countP_cons, hc]
  simp
structure DeepOk (bs : List (Array UInt8)) (rs : List Int) : Prop where
  len : bs.length ≤ 100
  lenr : rs.length = bs.length + 1
  len1 : 1 ≤ bs.length
  hpd : ∀ k : Nat, pd (bs.getD k #[]) = some (pdv (bs.getD k #[]))
  bal : ∀ j : Nat, j < bs.length - 1 → sumPd (bs.take (j + 1)) = aboveF rs (1 + j) (rangeKs 1 (bs.length - 1))
  plast : pd (bs.getD (bs.length - 1) #[] ++ #[34, 40]) = some (1 - sumPd (bs.take (bs.length - 1)))
  slast : (bs.getD (bs.length - 1) #[]).size ≤ 1000
  pjoin : pd (Builtin.Bytes.joined #[] bs) = some 0
  sjoin : (bs.map (·.size)).sum ≤ 16777216
  sjoin' : (Builtin.Bytes.joined #[] bs).size ≤ 16777216
theorem DeepOk.turn {c k d a : Int} {bs : List (Array UInt8)} {rs pre : List Int} (H : DeepOk bs rs) (I : DepI c bs (pre ++ [k]) d) (e : k = 1 + (pre.length : Int)) (lt : pre.length < ((bs.length : Int) - 1).toNat)
    (A : AboI rs k (rangeKs 1 ((bs.length : Int) - 1).toNat) a) : d = c + a := by
  have hb := H.bal pre.length (by omega)
  have e2 : ((bs.length : Int) - 1).toNat = bs.length - 1 := by omega
  rw [I.eq, A.eq, List.length_append, List.length_singleton, hb, e2, e]

theorem DeepOk.last {c d : Int} {bs : List (Array UInt8)} {rs : List Int} (H : DeepOk bs rs) (I : DepI c bs (rangeKs 1 ((bs.length : Int) - 1).toNat) d) : d + (1 - sumPd (bs.take (bs.length - 1))) = c + 1 := by
  have e2 : ((bs.length : Int) - 1).toNat = bs.length - 1 := by omega
  rw [I.eq, rangeKs_length, e2]
  omega
section
variable {prog : Program} {w : World} {A : Around} {E : Value → Shared → Prop} {s : Shared} {h₀ : Heap} {L D : Addr} {m : Str → Option Value} {rest : List (Addr × Obj)} {vs : List Value} {bs : List (Array UInt8)} {n : Nat} {k : Int} {t : Tok} {v : Value}
theorem item_bytesN {value slice : PySem.Expr} {news : List (Addr × Obj)} {l : Addr} {u : Tok} {Q : Value → Shared → Prop} (N : News h₀ L s.heap news) (hm : (l, W.listOf vs.toArray n) ∈ news) (hb : BytesAre vs bs) (h0 : 0 ≤ k) (h1 : k < bs.length) (hfit : k < 2 ^ 63) (h : ∀ t, Q (.bytes (bs.getD k.toNat #[]) t) s)
    (hs : subscripted slice false (.ref l) (.int k u) = operate [.ref l, .int k u] (getItem (.ref l) (.int k u)) := by with_unfolding_all rfl) :
    wpAny (model prog w) A (subscriptTail value slice (.ref l) (.int k u)) Q E s := by
  have hk : k.toNat < bs.length := by omega
  obtain ⟨t, ht⟩ := hb.get (List.getElem?_eq_getElem hk)
  have e : bs.getD k.toNat #[] = bs[k.toNat] := by simp [List.getD, List.getElem?_eq_getElem hk]
  have h' := h t
  rw [e] at h'
  exact item_at (PySem.IsL.isList (N _ hm).1) h0 hfit ht h' hs
theorem item_lastB {value slice : PySem.Expr} {news : List (Addr × Obj)} {l : Addr} {u : Tok} {Q : Value → Shared → Prop} (N : News h₀ L s.heap news) (hm : (l, W.listOf vs.toArray n) ∈ news) (hb : BytesAre vs bs) (h1 : 1 ≤ bs.length) (h : ∀ t, Q (.bytes (bs.getD (bs.length - 1) #[]) t) s)
    (hs : subscripted slice false (.ref l) (.int (-1) u) = operate [.ref l, .int (-1) u] (getItem (.ref l) (.int (-1) u)) := by with_unfolding_all rfl) :
    wpAny (model prog w) A (subscriptTail value slice (.ref l) (.int (-1) u)) Q E s := by
  have hk : bs.length - 1 < bs.length := by omega
  obtain ⟨t, ht⟩ := hb.get (List.getElem?_eq_getElem hk)
  have e : bs.getD (bs.length - 1) #[] = bs[bs.length - 1] := by simp [List.getD, List.getElem?_eq_getElem hk]
  have h' := h t
  rw [e] at h'
  have ht' : vs[vs.length - 1]? = some (.bytes bs[bs.length - 1] t) := by rw [hb.length]; exact ht
  exact item_lastN N hm (by rw [hb.length]; omega) ht' h' hs
theorem len_bytesN {news : List (Addr × Obj)} {l : Addr} {Q : Value → Shared → Prop} (N : News h₀ L s.heap news) (hm : (l, W.listOf vs.toArray n) ∈ news) (hb : BytesAre vs bs) (hl : bs.length ≤ 100) (h : Q (.int bs.length (s.toks + 1)) { s with toks := s.toks + 1 + 1 }) :
    wpAny (model prog w) A (call (.builtin "len") [.ref l]) Q E s := by
  have e : ((vs.toArray.size : Nat) : Int) = bs.length := by rw [List.size_toArray, hb.length]
  refine call_len_list (PySem.IsL.isList (N _ hm).1) (by rw [e]; omega) ?_
  rw [e]
  exact h
end


set_option maxHeartbeats 8000000 in
theorem deep (w : World) (mean : ExcName → Option Value) (mg mb : Str → Option Value) (news : List (Addr × Obj)) (Dn Dr : Addr) (vs rv : List Value) (n1 n2 : Nat) (bs : List (Array UInt8)) (rs : List Int) (c : Int) (t : Tok) (H : DeepOk bs rs) (hb : BytesAre vs bs) (hr : IntsAre rv rs) :
    Con w mean mg mb 121 [.ref Dn, .ref Dr, .int c t] ((Dn, W.listOf vs.toArray n1) :: (Dr, W.listOf rv.toArray n2) :: news) 8 300 (fun r n' => n' = ((Dn, W.listOf vs.toArray n1) :: (Dr, W.listOf rv.toArray n2) :: news) ∧ r = .bool true) := by
  have hl := H.len
  have hl1 := H.len1
  have hlr := H.lenr
  have hvl := hb.length
  have hsl := H.slast
  unfold Con
  w_top off
  k_with_none
  k_fill
  k_with "call builtin:len" => (k_here; (with_reducible show wpAny _ _ (call (Value.builtin "len") [Value.ref _]) _ _ _); k_dflt (refine' len_bytesN ?k1 ?k2 ?k3 ?k4 ?_; (case k1 => k_asm); (case k2 => k_mem); (case k3 => with_reducible assumption); (case k4 => with_reducible assumption)))
  k_with "call ref cons nil" => (k_here; (with_reducible show wpAny _ _ (call (Value.ref 58) [_, _] _) _ _ _); k_dflt (refine' Con.use (depth2 _ _ _ _ _ _ _ _ _ _ ?c1) ?k1 ?k2 ?k3 ?k4 ?k5 ?kK ?kd ?ku ?_; (case k1 => k_asm); (case k2 => k_asm); (case k3 => k_asm); (case k4 => k_asm); (case k5 => k_asm); (case kK => first | exact rfl | assumption); (case kd => ktr_room); (case ku => ktr_units); (case c1 => (rename DeepOk _ _ => hD9; first | exact hD9.plast | exact hD9.hpd _))); intro r9 n9 h9 tk9 F9 N9 O9; obtain ⟨e9, t9, e9'⟩ := O9; subst e9; subst e9'; (try dsimp only); (try k_sweep); (try k_fold))
  k_with "subscriptTail" => (k_here; (with_reducible show wpAny _ _ (subscriptTail _ _ (Value.ref _) (Value.int _ _)) _ _ _); k_dflt (refine' item_bytesN ?k1 ?k2 ?k3 ?k4 ?k5 ?k6 ?_ ?k7; (case k1 => k_asm); (case k2 => k_mem); (case k3 => with_reducible assumption); (case k4 => omega); (case k5 => omega); (case k6 => omega); (case k7 => with_unfolding_all rfl)); intro t9; (try dsimp only))
  k_with "subscriptTail" => (k_here; (with_reducible show wpAny _ _ (subscriptTail _ _ (Value.ref _) (Value.int (-1) _)) _ _ _); k_dflt (refine' item_lastB ?k1 ?k2 ?k3 ?k4 ?_ ?k7; (case k1 => k_asm); (case k2 => k_mem); (case k3 => with_reducible assumption); (case k4 => with_reducible assumption); (case k7 => with_unfolding_all rfl)); intro t9; (try dsimp only))
  k_with "getMethod bytes" => (k_here; (with_reducible refine getMethod_join ?_))
  k_with "call builtin:bytes.join" => (k_here; (rename DeepOk _ _ => hD9); k_dflt (refine' join_bytes (News.isList ?k1 ?k2) ?k3 (DeepOk.sjoin hD9) (DeepOk.sjoin' hD9) ?_; (case k1 => k_asm); (case k2 => k_mem); (case k3 => with_reducible assumption)); intro t9 tk9; (try dsimp only))
  k_with "call ref cons nil" => (k_here; (with_reducible show wpAny _ _ (call (Value.ref 58) [_] _) _ _ _); k_dflt (refine' Con.use (depth1 _ _ _ _ _ _ _ _ ?c1) ?k1 ?k2 ?k3 ?k4 ?k5 ?kK ?kd ?ku ?_; (case k1 => k_asm); (case k2 => k_asm); (case k3 => k_asm); (case k4 => k_asm); (case k5 => k_asm); (case kK => first | exact rfl | assumption); (case kd => ktr_room); (case ku => ktr_units); (case c1 => (rename DeepOk _ _ => hD9; exact hD9.pjoin))); intro r9 n9 h9 tk9 F9 N9 O9; obtain ⟨e9, t9, e9'⟩ := O9; subst e9; subst e9'; (try dsimp only); (try k_sweep); (try k_fold))
  intro dp un gd cn cs a0 ccd cl outer A₀ base h₀ L m s Q E B F X N T hk hd hu hret
  refine wpAny_call ?_
  k_dflt cell_enter
  k_with "pyIter ref" => first | (k_state (fun pre above => AboI rs kN pre above) "above") | k_state (fun pre depth => DepI c bs pre depth) "depth"
  k_with "state" => first | exact DepI.start | exact AboI.start | exact DepI.step (by assumption) (by assumption) (by assumption) | exact AboI.stepY (by assumption) (by assumption) (by assumption) (by assumption) | exact AboI.stepN (by assumption) (by assumption) (by assumption) (by assumption)
  k_with "InvPostN next" => k_dflt ((dsimp only [InvPostN]); (rename News _ _ _ _ => nE9); (try simp only [List.push_toArray] at nE9); (refine kst_end ⟨_, _⟩ (by assumption) nE9 (by ((try dsimp only); (repeat (first | refine sub_cons ?_ | refine sub_skip ?_)); first | exact fun p hp => hp | exact fun p hp => List.mem_append.mpr (.inl hp))) (by intro p hp; (repeat (with_reducible first | exact hp | exact List.mem_append.mpr (.inr hp) | apply List.mem_cons_of_mem))) (by rfl) (by kst_facts) (by kst_all) (by kst_same) (by kst_p)))
  k_steps
  · exfalso
    rename (_ ≠ _) => hn
    exact hn (H.turn (DepI.step (by assumption) (by assumption) (by assumption)) (by assumption) (by assumption) (by assumption))
  · exfalso
    rename (_ ≠ _) => hn
    exact hn (H.last (by assumption))
  · exact hret _ _ _ _ (by k_asm) (by k_asm) ⟨rfl, rfl⟩
end Mine
end
section
open PySem PySem.W PyProof.Rows PySem.Calls
set_option maxRecDepth 100000
namespace Mine
theorem runs_toks {M : Model} {Γ : Ctx} {p : Pos} {t : Sem Fin} {fs : List Frame} {s : Shared} {e : End} {s' : Shared} (h : Runs M Γ p t fs s e s') : s.toks ≤ s'.toks := by
  induction h with
  | done => exact Nat.le_refl _
  | raise => exact Nat.le_refl _
  | yield => exact Nat.le_refl _
  | fresh _ ih => exact Nat.le_trans (Nat.le_succ _) ih
  | call _ _ i1 i2 => exact Nat.le_trans i1 i2
  | resumeFresh _ _ _ _ i1 i2 => exact Nat.le_trans i1 i2
  | resumeSuspended _ _ _ _ i1 i2 => exact Nat.le_trans i1 i2
  | segRet _ _ i1 i2 => exact Nat.le_trans i1 i2
  | segGen _ _ i1 i2 => exact Nat.le_trans i1 i2
  | segSuspGen _ _ _ _ i1 i2 => exact Nat.le_trans i1 i2
  | _ => assumption
theorem wakes_toks {M : Model} {Γ : Ctx} {p : Pos} {g : Nat} {r : Resume} {s : Shared} {res : GenResult} {s' : Shared} (h : Wakes M Γ p g r s res s') : s.toks ≤ s'.toks := by
  unfold Wakes at h
  split at h
  · cases h
  · split at h
    · obtain ⟨e₁, s₁, h1, _, _, rfl⟩ := h
      have := runs_toks h1
      simpa [Shared.setGen] using this
    · rw [h.2]; exact Nat.le_refl _
    · rw [h.2]; exact Nat.le_refl _
  · obtain ⟨e₁, s₁, h1, _, _, rfl⟩ := h
    have := runs_toks h1
    simpa [Shared.setGen] using this
  · rw [h.2]; exact Nat.le_refl _
  · rw [h.2]; exact Nat.le_refl _
theorem wp_toks {α : Type} {M : Model} {Γ : Ctx} {t : Sem α} {Q : α → Pos → Shared → Prop} {E : Value → Pos → Shared → Prop} (n : Nat) :
    ∀ {p : Pos} {s : Shared}, n ≤ s.toks → Sem.wp M Γ t (fun a p' s' => n ≤ s'.toks → Q a p' s') E p s → Sem.wp M Γ t Q E p s := by
  induction t with
  | pure a => intro p s hn h; rw [Sem.wp] at h ⊢; exact h hn
  | raise e => intro p s hn h; rw [Sem.wp] at h ⊢; exact h
  | unsupported _ => intro p s hn h; rw [Sem.wp] at h; exact h.elim
  | finish _ => intro p s hn h; rw [Sem.wp] at h; exact h.elim
  | rule _ k ih => intro p s hn h; rw [Sem.wp] at h ⊢; exact ih _ hn h
  | «at» _ k ih => intro p s hn h; rw [Sem.wp] at h ⊢; exact ih _ hn h
  | load a b k ih => intro p s hn h; rw [Sem.wp] at h ⊢; obtain ⟨o, h1, h2⟩ := h; exact ⟨o, h1, ih _ hn h2⟩
  | update a b f k ih => intro p s hn h; rw [Sem.wp] at h ⊢; exact ⟨h.1, ih _ hn h.2⟩
  | loadIfAlive a k ih => intro p s hn h; rw [Sem.wp] at h ⊢; exact ih _ hn h
  | point _ k ih => intro p s hn h; rw [Sem.wp] at h ⊢; exact ih _ hn h
  | register _ _ => intro p s hn h; rw [Sem.wp] at h; exact h.elim
  | alloc o k ih => intro p s hn h; rw [Sem.wp] at h ⊢; exact ih _ hn h
  | fresh k ih => intro p s hn h; rw [Sem.wp] at h ⊢; exact ih _ (Nat.le_succ_of_le hn) h
  | ask k ih => intro p s hn h; rw [Sem.wp] at h ⊢; exact ih _ hn h
  | choose src n k ih => intro p s hn h; rw [Sem.wp] at h ⊢; exact ⟨h.1, ih _ hn h.2⟩
  | os q l k ih => intro p s hn h; rw [Sem.wp] at h ⊢; exact ih _ hn h
  | call c hd g l k ih =>
    intro p s hn h
    rw [Sem.wp] at h ⊢
    obtain ⟨r, s', h1, h2⟩ := h
    exact ⟨r, s', h1, ih _ (Nat.le_trans hn (runs_toks h1)) h2⟩
  | handled own k ih => intro p s hn h; rw [Sem.wp] at h ⊢; exact ih _ hn h
  | genState g k ih => intro p s hn h; rw [Sem.wp] at h ⊢; obtain ⟨st, h1, h2⟩ := h; exact ⟨st, h1, ih _ hn h2⟩
  | newGen c k ih => intro p s hn h; rw [Sem.wp] at h ⊢; exact ih _ hn h
  | resume g r l k ih =>
    intro p s hn h
    rw [Sem.wp] at h ⊢
    obtain ⟨res, s', h1, h2⟩ := h
    exact ⟨res, s', h1, ih _ (Nat.le_trans hn (wakes_toks h1)) h2⟩
  | yield => intro p s hn h; rw [Sem.wp] at h; exact h.elim
  | stack k ih => intro p s hn h; rw [Sem.wp] at h ⊢; exact ih _ hn h
  | fork => intro p s hn h; rw [Sem.wp] at h; exact h.elim
  | thread k ih => intro p s hn h; rw [Sem.wp] at h ⊢; exact ih _ hn h
  | await => intro p s hn h; rw [Sem.wp] at h; exact h.elim
/-- a token is never given twice: the next one only grows -/
theorem wpAny_toks {α : Type} {M : Model} {A : Around} {t : Sem α} {Q : α → Shared → Prop} {E : Value → Shared → Prop} {s : Shared}
    (h : wpAny M A t (fun a s' => s.toks ≤ s'.toks → Q a s') E s) : wpAny M A t Q E s :=
  fun Γ p hΓ => wp_toks s.toks (Nat.le_refl _) (h Γ p hΓ)
end Mine
end
section
open PySem PySem.W PyProof.Rows PySem.Calls
set_option maxRecDepth 100000
namespace Mine
open PySem.Builtin PySem.Builtin._codecs
/-- the text that the bytes of an ASCII text make -/
def ascS (b : Array UInt8) : PySem.Str := ⟨b.map (·.toNat)⟩
theorem ascii_find {b : Array UInt8} (h : ∀ x ∈ b.toList, x.toNat < 128) (p : Nat) (hp : p < b.size) : asciiDecoder.find true b p = .text [b[p].toNat] (p + 1) := by
  have h' : b[p].toNat < 128 := h _ (by simp)
  show (if (b.getD p 0).toNat < 128 then Found.char (b.getD p 0).toNat (p + 1) else _) = _
  have e : b.getD p 0 = b[p] := by simp [Array.getD, hp]
  rw [e, if_pos h']
  rfl
theorem forIn_steps {σ : Type} (f : Nat → σ → Sem (ForInStep σ)) (g : Nat → σ) : ∀ (k i : Nat), (∀ j, i ≤ j → j < i + k → ∀ x, f x (g j) = pure (.yield (g (j + 1)))) → forIn (List.range' i k) (g i) f = pure (g (i + k))
  | 0, i, _ => rfl
  | k + 1, i, h => by
    rw [List.range'_succ, List.forIn_cons, h i (Nat.le_refl _) (by omega)]
    show forIn (List.range' (i + 1) k) (g (i + 1)) f = _
    rw [forIn_steps f g k (i + 1) fun j h1 h2 x => h j (by omega) (by omega) x]
    congr 2
    omega
theorem bind_steps {σ β : Type} (f : Nat → σ → Sem (ForInStep σ)) (g : Nat → σ) (k : σ → Sem β) (n : Nat) (h : ∀ j, 0 ≤ j → j < 0 + n → ∀ x, f x (g j) = pure (.yield (g (j + 1)))) : (forIn (List.range' 0 n) (g 0) f >>= k) = k (g n) := by
  rw [forIn_steps f g n 0 h, Nat.zero_add]
  rfl
theorem run_ascii {id : String} {b : Array UInt8} (h : ∀ x ∈ b.toList, x.toNat < 128) (hb : b.size ≤ 1000) : runDecoder id asciiDecoder none true b 0 [] = pure ((ascS b).cps, b.size) := by
  unfold runDecoder
  simp only [Std.Legacy.Range.forIn_eq_forIn_range', Std.Legacy.Range.size, Nat.sub_zero, Nat.add_sub_cancel, Nat.div_one]
  refine Eq.trans (bind_steps _ (fun j => (j, ((b.toList.take j).map (·.toNat)).toArray, ({} : Faults))) _ b.size ?_) ?_
  · intro j _ hj x
    have hj' : j < b.size := by omega
    dsimp only
    rw [if_neg, if_neg (by omega), ascii_find h j hj']
    · dsimp only
      congr 4
      rw [List.take_succ_eq_append_getElem (by simpa using hj')]
      simp
    · have : sizeLine = 16777216 := by rw [sizeLine_eq]
      simp only [List.size_toArray, List.length_map, List.length_take, this]
      omega
  · show pure ((List.map (·.toNat) (List.take b.size b.toList)).toArray, b.size) = pure ((ascS b).cps, b.size)
    congr 2
    apply Array.toList_inj.mp
    rw [List.take_of_length_le (by simp)]
    simp [ascS]
theorem road_ascii {id : String} {b : Array UInt8} : decodeRoad id b (PySem.Str.ofString "ascii") none [] = (runDecoder id asciiDecoder none true b 0 [] >>= fun r => mkStr ⟨r.1⟩) := by kernel_rfl
theorem meets_ascii {b : Array UInt8} {t t1 t2 : Tok} {d : PySem.Str} (h : ∀ x ∈ b.toList, x.toNat < 128) (hb : b.size ≤ 1000) :
    Meets («_codecs.decode.text» ⟨[.bytes b t, .str (PySem.Str.ofString "ascii") t1, .none, .str d t2], []⟩) (fun _ R s => R (.ok (.ret (.str (ascS b) s.toks))) { s with toks := s.toks + 1 }) := by
  refine .of_wp fun prog w A R s hS => ?_
  show wpAny _ _ (Bytes.bytesLike _ (.bytes b t) >>= fun r => _) _ _ s
  refine wpAny_bind (wpAny_of_eq KBd.like_eq ?_)
  refine wpAny_bind (wpAny_of_eq KBd.held_eq ?_)
  show wpAny _ _ (_codecs.decodeRoad _ b (PySem.Str.ofString "ascii") none [] >>= fun v => _) _ _ s
  rw [road_ascii, run_ascii h hb]
  refine wpAny_bind (wpAny_bind (wpAny_pure ?_))
  exact wpAny_mkStr (wpAny_pure ⟨_, rfl, hS⟩) (by rw [sizeLine_eq]; show (b.map _).size ≤ _; rw [Array.size_map]; omega)
theorem entry_ascii {c : UInt8} {cs : List UInt8} {t u : Tok} : «bytes.decode» ⟨[.bytes (c :: cs).toArray t, .str (PySem.Str.ofString "ascii") u], []⟩ = (mkStr (PySem.Str.ofString "utf-8") >>= fun _ => mkStr (PySem.Str.ofString "ascii") >>= fun e => mkStr (PySem.Str.ofString "bytes.decode") >>= fun d =>
    call (.builtin "_codecs.decode.text") [.bytes (c :: cs).toArray t, e, .none, d] >>= fun v => ret v) := by kernel_rfl
theorem args_decode_2 (a b : Value) : argsOk "bytes.decode" ⟨[a, b], []⟩ := by
  unfold argsOk; rw [signature?_of (id := "bytes.decode") (n := ['e', 'd', 'o', 'c', 'e', 'd']) (o := ['s', 'e', 't', 'y', 'b']) (by kernel_rfl) FB.owner_bytes]; kernel_rfl
theorem meets_decodeA {c : UInt8} {cs : List UInt8} {t u : Tok} (h : ∀ x ∈ c :: cs, x.toNat < 128) (hb : (c :: cs).length ≤ 1000) :
    Meets («bytes.decode» ⟨[.bytes (c :: cs).toArray t, .str (PySem.Str.ofString "ascii") u], []⟩) (fun _ R s => ∀ t' k, R (.ok (.ret (.str (ascS (c :: cs).toArray) t'))) { s with toks := k }) := by
  refine .of_wp fun prog w A R s hS => ?_
  rw [entry_ascii]
  refine wpAny_bind (wpAny_mkStr ?_ (by decide))
  refine wpAny_bind (wpAny_mkStr ?_ (by decide))
  refine wpAny_bind (wpAny_mkStr ?_ (by decide))
  exact wpAny_bind (call_function_meets KBd.kind_text KBd.plain_text KBd.entry_text (KBd.args_text _ _ _ _) (meets_ascii (by simpa using h) (by simpa using hb)) (wpAny_pure ⟨_, rfl, hS _ _⟩))
theorem decode_ascii {prog : Program} {w : World} {A : Around} {E : Value → Shared → Prop} {s : Shared} {b : Array UInt8} {t u : Tok} {Q : Value → Shared → Prop} (h0 : b.toList ≠ []) (h : ∀ x ∈ b.toList, x.toNat < 128) (hb : b.size ≤ 1000) (hq : ∀ t' k, Q (.str (ascS b) t') { s with toks := k }) :
    wpAny (model prog w) A (call (.builtin "bytes.decode") [.bytes b t, .str (PySem.Str.ofString "ascii") u]) Q E s := by
  obtain ⟨l⟩ := b
  cases l with
  | nil => exact absurd rfl h0
  | cons c cs => exact call_meets FB.slot_bytes_decode (typeIs_bytes _ _ _) FB.entry_bytes_decode (args_decode_2 _ _) (meets_decodeA h (by simpa using hb)) hq
end Mine
end
section
open PySem PySem.W PyProof.Rows PySem.Calls
set_option maxRecDepth 100000
namespace Mine
open PySem.Builtin PySem.Builtin.Str PySem.StrLaws
def hits (l : List Nat) (y a k : Nat) : List Nat := (List.range' a k).filter fun i => decide (l[i]? = some y)
theorem hits_yes {l : List Nat} {y a k : Nat} (h : l[a]? = some y) : hits l y a (k + 1) = a :: hits l y (a + 1) k := by
  unfold hits
  rw [List.range'_succ, List.filter_cons, decide_eq_true h]
  rfl
theorem hits_no {l : List Nat} {y a k : Nat} (h : ¬ l[a]? = some y) : hits l y a (k + 1) = hits l y (a + 1) k := by
  unfold hits
  rw [List.range'_succ, List.filter_cons, decide_eq_false h]
  rfl
theorem occ_run (x : PySem.Str) (y lim : Nat) : ∀ (k i : Nat) (st : Array Nat × Nat), st.snd ≤ i → st.fst.size ≤ i → i + k ≤ lim →
    (forIn (List.range' i k) st (occBody x ⟨#[y]⟩ x.length lim)).run.fst.toList = st.fst.toList ++ hits x.cps.toList y i k
  | 0, i, st, _, _, _ => by
    show st.fst.toList = st.fst.toList ++ []
    rw [List.append_nil]
  | k + 1, i, st, h1, h2, h3 => by
    rw [List.range'_succ, List.forIn_cons]
    unfold occBody
    by_cases hc : x.cps.toList[i]? = some y
    · rw [if_pos ⟨⟨⟨by omega, h1⟩, ((subAt_one x y i).mpr hc).1⟩, ((subAt_one x y i).mpr hc).2⟩, hits_yes hc]
      refine (occ_run x y lim k (i + 1) _ (Nat.le_refl _) (by simp; omega) (by omega)).trans ?_
      simp
    · rw [if_neg fun h => hc ((subAt_one x y i).mp ⟨h.1.2, h.2⟩), hits_no hc]
      exact occ_run x y lim k (i + 1) _ (by show st.snd ≤ _; omega) (by show st.fst.size ≤ _; omega) (by omega)
theorem occ_one (x : PySem.Str) (y : Nat) : occurrences x ⟨#[y]⟩ 0 x.length (x.length + 1) = hits x.cps.toList y 0 (x.length + 1) := by
  rw [occ_eq, occ_run x y (x.length + 1) (x.length + 1 - 0) 0 _ (Nat.le_refl _) (Nat.le_refl _) (by omega)]
  rfl
theorem join_hits (x : PySem.Str) (y z : Nat) : ∀ (k a b : Nat), a ≤ b → b + k = x.length + 1 →
    (PySem.Str.join ⟨#[z]⟩ (partsFrom x 1 a (hits x.cps.toList y b k))).cps.toList = (x.cps.toList.drop a).take (b - a) ++ (x.cps.toList.drop b).map (fun c => if c = y then z else c)
  | 0, a, b, hab, hb => by
    have hl : x.cps.toList.length = x.length := Array.length_toList
    show (strSub x a x.length).cps.toList = _
    rw [strSub_toList, List.drop_of_length_le (i := b) (by omega), List.map_nil, List.append_nil, List.take_of_length_le (by rw [List.length_drop]; omega), List.take_of_length_le (by rw [List.length_drop]; omega)]
  | k + 1, a, b, hab, hb => by
    have hl : x.cps.toList.length = x.length := Array.length_toList
    by_cases hc : x.cps.toList[b]? = some y
    · rw [hits_yes hc]
      have hbn : b < x.cps.toList.length := by
        rcases Nat.lt_or_ge b x.cps.toList.length with h | h
        · exact h
        · rw [List.getElem?_eq_none h] at hc; cases hc
      have ih := join_hits x y z k (b + 1) (b + 1) (Nat.le_refl _) (by omega)
      obtain ⟨p, r, e⟩ := partsFrom_ne x 1 (b + 1) (hits x.cps.toList y (b + 1) k)
      show (PySem.Str.join ⟨#[z]⟩ (strSub x a b :: partsFrom x 1 (b + 1) (hits x.cps.toList y (b + 1) k))).cps.toList = _
      rw [e] at ih ⊢
      show ((strSub x a b ++ (⟨#[z]⟩ : PySem.Str) ++ PySem.Str.join ⟨#[z]⟩ (p :: r))).cps.toList = _
      rw [PySem.Str.cps_append, PySem.Str.cps_append, Array.toList_append, Array.toList_append, ih, strSub_toList, List.drop_eq_getElem_cons hbn]
      have e2 : x.cps.toList[b] = y := by rw [List.getElem?_eq_getElem hbn] at hc; exact Option.some.inj hc
      rw [e2]
      simp
    · rw [hits_no hc, join_hits x y z k a (b + 1) (by omega) (by omega)]
      rcases Nat.lt_or_ge b x.cps.toList.length with h | h
      · have hn : x.cps.toList[b] ≠ y := fun e => hc (by rw [List.getElem?_eq_getElem h, e])
        rw [List.drop_eq_getElem_cons h, List.map_cons, if_neg hn]
        have e3 : b + 1 - a = (b - a) + 1 := by omega
        have h4 : b - a < (x.cps.toList.drop a).length := by rw [List.length_drop]; omega
        rw [e3, List.take_succ_eq_append_getElem h4, List.append_assoc]
        congr 2
        simp
        congr 1
        omega
      · rw [List.drop_of_length_le h, List.drop_of_length_le (i := b + 1) (by omega), List.take_of_length_le (by rw [List.length_drop]; omega), List.take_of_length_le (by rw [List.length_drop]; omega)]
theorem replace_one (x : PySem.Str) (y z : Nat) : PySem.Txt.replace x ⟨#[y]⟩ ⟨#[z]⟩ = ⟨(x.cps.toList.map fun c => if c = y then z else c).toArray⟩ := by
  have key := join_hits x y z (x.length + 1) 0 0 (Nat.le_refl _) (by omega)
  rw [← occ_one, ← partsBetween_eq x _ 1, ← glued_eq_join] at key
  unfold PySem.Txt.replace
  have hw : x = ⟨x.cps.toList.toArray⟩ := by simp
  refine mk_of_toList ?_
  split
  · rename_i h
    have h0 : occurrences x ⟨#[y]⟩ 0 x.length (x.length + 1) = [] := by
      simp only [Bool.or_eq_true, Bool.and_eq_true] at h
      rcases h with h | h
      · exact List.isEmpty_iff.mp h
      · exact absurd h.1 (by show ¬ (((1 : Nat) == 0) = true); decide)
    rw [h0] at key
    have e : glued ⟨#[z]⟩ (partsBetween x [] 1) = x := by
      rw [partsBetween_eq, glued_eq_join]
      exact sub_whole x
    rw [e] at key
    simpa using key
  · rw [List.drop_zero, Nat.sub_zero, List.take_zero, List.nil_append] at key
    exact key
end Mine
end
section
open PySem PySem.W PyProof.Rows PySem.Calls
set_option maxRecDepth 100000
namespace Mine
/-- where the quotient rises -/
def upsL (p q : Nat) : List Nat := (List.range (p + q)).map fun k => (k + 1) * q / (p + q) - k * q / (p + q)
def letsL (p q : Nat) : List Nat := (upsL p q).map (65 + ·)
def restsL (p q : Nat) : List Int := (List.range (p + q + 1)).map fun k => ((k * q % (p + q) : Nat) : Int)
def wdS (p q : Nat) : Str := ⟨(letsL p q).toArray⟩
def divOkB (a b : Int) : Bool := decide (0 ≤ a ∧ 0 < b ∧ Builtin.Int.intBits a ≤ 4000)
theorem divOkB_of {a b : Int} (h : divOkB a b = true) : DivOk a b (Builtin.Int.intBits b) := by
  have h := of_decide_eq_true h
  exact divOk_of h.1 h.2.1 h.2.2
def fitsB (x y : Str) : Bool :=
  divOkB ((x.length : Int) * Txt.count (x ++ y) (Str.ofString "B")) ((x ++ y).length : Nat) && divOkB (tZ x * tZ x + tZ y * tZ y) (tZ (x ++ y)) && divOkB (tS (x ++ y) * tS (x ++ y) + 1) (tZ (x ++ y)) &&
  decide (x.length ≤ 1000 ∧ y.length ≤ 1000 ∧ (x ++ y).length ≤ 1000 ∧
  ((x.length : Int) * Txt.count (x ++ y) (Str.ofString "B")) / ((x ++ y).length : Nat) = Txt.count x (Str.ofString "B") ∧
  ((x.length : Int) * Txt.count (x ++ y) (Str.ofString "B")) % ((x ++ y).length : Nat) = 1 ∧
  Builtin.Int.intBits (tZ x) ≤ 1000 ∧ Builtin.Int.intBits (tZ y) ≤ 1000 ∧ Builtin.Int.intBits (tS (x ++ y)) ≤ 1000 ∧
  (tZ x * tZ x + tZ y * tZ y) / tZ (x ++ y) = 3 * tZ x * tZ y - tZ (x ++ y) ∧ (tZ x * tZ x + tZ y * tZ y) % tZ (x ++ y) = 0 ∧
  (tS (x ++ y) * tS (x ++ y) + 1) / tZ (x ++ y) = 2 * tZ (x ++ y) - tS (x ++ y) - tT (x ++ y) ∧ (tS (x ++ y) * tS (x ++ y) + 1) % tZ (x ++ y) = 0)
theorem fitsB_of {x y : Str} (h : fitsB x y = true) : FitsOk x y := by
  unfold fitsB at h
  simp only [Bool.and_eq_true] at h
  obtain ⟨⟨⟨h1, h2⟩, h3⟩, h4⟩ := h
  obtain ⟨a1, a2, a3, a4, a5, a6, a7, a8, a9, b1, b2, b3⟩ := of_decide_eq_true h4
  exact ⟨a1, a2, a3, divOkB_of h1, a4, a5, a6, a7, a8, divOkB_of h2, a9, b1, divOkB_of h3, b2, b3⟩
def greatB (x : Str) : Bool := decide (x.length ≤ 1000 ∧ Builtin.Int.intBits (tZ x) ≤ 1000 ∧ Builtin.Int.intBits (tS x) ≤ 1000 ∧ Builtin.Int.intBits (tT x) ≤ 1000 ∧ 0 < tZ x ∧
  tS x * tS x + 1 = tZ x * (2 * tZ x - tS x - tT x) ∧ 0 ≤ 2 * tZ x - tS x - tT x ∧ 2 * tZ x - tS x - tT x ≤ 2 * tZ x)
theorem greatB_of {x : Str} (h : greatB x = true) : GreatOk x := by
  obtain ⟨a1, a2, a3, a4, a5, a6, a7, a8⟩ := of_decide_eq_true h
  exact ⟨a1, a2, a3, a4, a5, a6, a7, a8⟩
def ordB (l : List Nat) (rs : List Int) (n : Nat) : Bool := (List.range n).all fun i => (List.range n).all fun j => decide (cmpL (l.drop i) (l.drop j) = b2i (decide (rs.getD j 0 < rs.getD i 0)) - b2i (decide (rs.getD i 0 < rs.getD j 0)))
def sumP (bs : List (Array UInt8)) : Int := (bs.map fun b => (pd b).getD 0).sum
theorem sumP_eq (bs : List (Array UInt8)) : sumPd bs = sumP bs := by
  unfold sumPd pdv sumP
  rfl
def abvF (rs : List Int) (here : Int) (pre : List Int) : Int := ((pre.countP fun k => (sliceF rs here k).contains (rs.getD k.toNat 0) && (sliceF rs here k).all (fun a => decide (rs.getD k.toNat 0 ≤ a)) : Nat) : Int)
theorem abvF_eq (rs : List Int) (here : Int) (pre : List Int) : aboveF rs here pre = abvF rs here pre := by
  unfold aboveF abvF
  rfl
def deepB (bs : List (Array UInt8)) (rs : List Int) : Bool :=
  decide (bs.length ≤ 100 ∧ rs.length = bs.length + 1 ∧ 1 ≤ bs.length ∧ (bs.getD (bs.length - 1) #[]).size ≤ 1000 ∧ (bs.map (·.size)).sum ≤ 16777216 ∧ (Builtin.Bytes.joined #[] bs).size ≤ 16777216) &&
  (bs.all fun b => (pd b).isSome) && ((List.range (bs.length - 1)).all fun j => decide (sumP (bs.take (j + 1)) = abvF rs (1 + j) (rangeKs 1 (bs.length - 1)))) &&
  decide (pd (bs.getD (bs.length - 1) #[] ++ #[34, 40]) = some (1 - sumP (bs.take (bs.length - 1)))) && decide (pd (Builtin.Bytes.joined #[] bs) = some 0)
theorem deepB_of {bs : List (Array UInt8)} {rs : List Int} (h : deepB bs rs = true) : DeepOk bs rs := by
  unfold deepB at h
  simp only [Bool.and_eq_true] at h
  obtain ⟨⟨⟨⟨h1, h2⟩, h3⟩, h4⟩, h5⟩ := h
  obtain ⟨a1, a2, a3, a4, a5, a6⟩ := of_decide_eq_true h1
  refine ⟨a1, a2, a3, ?_, ?_, ?_, a4, of_decide_eq_true h5, a5, a6⟩
  · intro k
    have hs : (pd (bs.getD k #[])).isSome = true := by
      rcases Nat.lt_or_ge k bs.length with hk | hk
      · have e : bs.getD k #[] = bs[k] := by simp [List.getD, List.getElem?_eq_getElem hk]
        rw [e]
        exact List.all_eq_true.mp h2 _ (List.getElem_mem hk)
      · have e : bs.getD k #[] = #[] := by simp [List.getD, List.getElem?_eq_none hk]
        rw [e]
        decide +kernel
    obtain ⟨v, hv⟩ := Option.isSome_iff_exists.mp hs
    unfold pdv
    rw [hv]
    rfl
  · intro j hj
    rw [sumP_eq, abvF_eq]
    exact of_decide_eq_true (List.all_eq_true.mp h3 j (List.mem_range.mpr hj))
  · rw [sumP_eq]
    exact of_decide_eq_true h4
def wordB (p q : Nat) : Bool :=
  (nestL 14 (letsL p q)).2.all (fun c => fitsB ⟨c.1.toArray⟩ ⟨c.2.toArray⟩) && greatB (wdS p q) && ordB (upsL p q) (restsL p q) (p + q) && deepB (nestL 14 (letsL p q)).1 (restsL p q)
theorem w1 : ((List.range 7).all fun b => Nat.gcd 1 (b + 1) != 1 || wordB 1 (b + 1)) = true := by decide +kernel
theorem w2 : ((List.range 7).all fun b => Nat.gcd 2 (b + 1) != 1 || wordB 2 (b + 1)) = true := by decide +kernel
theorem w3 : ((List.range 7).all fun b => Nat.gcd 3 (b + 1) != 1 || wordB 3 (b + 1)) = true := by decide +kernel
theorem w4 : ((List.range 7).all fun b => Nat.gcd 4 (b + 1) != 1 || wordB 4 (b + 1)) = true := by decide +kernel
theorem w5 : ((List.range 7).all fun b => Nat.gcd 5 (b + 1) != 1 || wordB 5 (b + 1)) = true := by decide +kernel
theorem w6 : ((List.range 7).all fun b => Nat.gcd 6 (b + 1) != 1 || wordB 6 (b + 1)) = true := by decide +kernel
theorem w7 : ((List.range 7).all fun b => Nat.gcd 7 (b + 1) != 1 || wordB 7 (b + 1)) = true := by decide +kernel
theorem words {p q : Nat} (p1 : 1 ≤ p) (p7 : p ≤ 7) (q1 : 1 ≤ q) (q7 : q ≤ 7) (h : Nat.gcd p q = 1) : wordB p q = true := by
  have key : ∀ P, ((List.range 7).all fun b => Nat.gcd P (b + 1) != 1 || wordB P (b + 1)) = true → Nat.gcd P q = 1 → wordB P q = true := by
    intro P hP hg
    have := List.all_eq_true.mp hP (q - 1) (List.mem_range.mpr (by omega))
    have e : q - 1 + 1 = q := by omega
    rw [e, hg] at this
    simpa using this
  have : p = 1 ∨ p = 2 ∨ p = 3 ∨ p = 4 ∨ p = 5 ∨ p = 6 ∨ p = 7 := by omega
  rcases this with rfl | rfl | rfl | rfl | rfl | rfl | rfl
  · exact key _ w1 h
  · exact key _ w2 h
  · exact key _ w3 h
  · exact key _ w4 h
  · exact key _ w5 h
  · exact key _ w6 h
  · exact key _ w7 h
structure WordOk (p q : Nat) : Prop where
  fits : ∀ c ∈ (nestL 14 (letsL p q)).2, FitsOk ⟨c.1.toArray⟩ ⟨c.2.toArray⟩
  great : GreatOk (wdS p q)
  ord : ∀ i j, i < p + q → j < p + q → cmpL ((upsL p q).drop i) ((upsL p q).drop j) = b2i (decide ((restsL p q).getD j 0 < (restsL p q).getD i 0)) - b2i (decide ((restsL p q).getD i 0 < (restsL p q).getD j 0))
  deep : DeepOk (nestL 14 (letsL p q)).1 (restsL p q)
theorem word_ok {p q : Nat} (p1 : 1 ≤ p) (p7 : p ≤ 7) (q1 : 1 ≤ q) (q7 : q ≤ 7) (h : Nat.gcd p q = 1) : WordOk p q := by
  have hw := words p1 p7 q1 q7 h
  unfold wordB at hw
  simp only [Bool.and_eq_true] at hw
  obtain ⟨⟨⟨h1, h2⟩, h3⟩, h4⟩ := hw
  refine ⟨fun c hc => fitsB_of (List.all_eq_true.mp h1 c hc), greatB_of h2, fun i j hi hj => ?_, deepB_of h4⟩
  exact of_decide_eq_true (List.all_eq_true.mp (List.all_eq_true.mp h3 i (List.mem_range.mpr hi)) j (List.mem_range.mpr hj))
end Mine
end
section
open PySem PySem.W PyProof.Rows PySem.Calls
set_option maxRecDepth 100000
namespace Mine
structure PQ (p q : Nat) : Prop where
  p1 : 1 ≤ p
  p7 : p ≤ 7
  q1 : 1 ≤ q
  q7 : q ≤ 7
  co : Nat.gcd p q = 1
theorem PQ.word {p q : Nat} (h : PQ p q) : WordOk p q := word_ok h.p1 h.p7 h.q1 h.q7 h.co
theorem upsL_length (p q : Nat) : (upsL p q).length = p + q := by simp [upsL]
/-- what the quotient of `k` is told as -/
def qt (p q k : Nat) : Nat := k * q / (p + q)
theorem upsL_get (p q k : Nat) (h : k < p + q) : (upsL p q)[k]? = some (qt p q (k + 1) - qt p q k) := by
  unfold upsL qt
  rw [List.getElem?_map, List.getElem?_range h]
  rfl
theorem qt_step (p q k : Nat) (h : 1 ≤ p) : qt p q (k + 1) = qt p q k ∨ qt p q (k + 1) = qt p q k + 1 := by
  unfold qt
  have hn : 0 < p + q := by omega
  have e : (k + 1) * q = k * q + q := by rw [Nat.add_mul, Nat.one_mul]
  rw [e]
  generalize k * q = x
  have h1 : x / (p + q) ≤ (x + q) / (p + q) := Nat.div_le_div_right (Nat.le_add_right x q)
  have h2 : (x + q) / (p + q) ≤ (x + (p + q)) / (p + q) := Nat.div_le_div_right (by omega)
  rw [Nat.add_div_right x hn] at h2
  omega
theorem upsL_le {p q : Nat} (h : 1 ≤ p) : ∀ u ∈ upsL p q, u ≤ 1 := by
  intro u hu
  obtain ⟨k, hk⟩ := List.getElem?_of_mem hu
  have hl : k < p + q := by
    have := (List.getElem?_eq_some_iff.mp hk).1
    rwa [upsL_length] at this
  rw [upsL_get p q k hl] at hk
  injection hk with hk
  have := qt_step p q k h
  omega
def numF (low rise : Int) (l : List Nat) : Int := l.foldl (fun (n : Int) (u : Nat) => 16 * n + low + rise * (u : Int)) 2
theorem numF_snoc (low rise : Int) (l : List Nat) (u : Nat) : numF low rise (l ++ [u]) = 16 * numF low rise l + low + rise * (u : Int) := by
  unfold numF
  rw [List.foldl_append]
  rfl
structure LR (low rise : Int) : Prop where
  l0 : 0 ≤ low
  l7 : low ≤ 7
  r1 : 1 ≤ rise
  r8 : rise ≤ 8
theorem LR.of (z : Int) : LR (z.fmod 8) (1 + (z.fdiv 8).fmod 8) := by
  rw [Int.fmod_eq_emod_of_nonneg _ (by decide), Int.fmod_eq_emod_of_nonneg _ (by decide)]
  exact ⟨by omega, by omega, by omega, by omega⟩
theorem LR.digit {low rise : Int} (h : LR low rise) {u : Nat} (hu : u ≤ 1) : 0 ≤ low + rise * (u : Int) ∧ low + rise * (u : Int) ≤ 15 := by
  have := h.l0; have := h.l7; have := h.r1; have := h.r8
  have : u = 0 ∨ u = 1 := by omega
  rcases this with rfl | rfl <;> simp <;> omega
theorem numF_bounds {low rise : Int} (h : LR low rise) : ∀ (n : Nat) (l : List Nat), l.length = n → (∀ u ∈ l, u ≤ 1) → 2 ≤ numF low rise l ∧ numF low rise l < 3 * 16 ^ n
  | 0, l, hl, _ => by
    rw [List.eq_nil_of_length_eq_zero hl]
    show (2 : Int) ≤ 2 ∧ (2 : Int) < 3 * 16 ^ 0
    decide
  | n + 1, l, hl, hu => by
    have hne : l ≠ [] := by intro e; rw [e] at hl; cases hl
    rw [← List.dropLast_concat_getLast hne, numF_snoc]
    have ih := numF_bounds h n l.dropLast (by simp; omega) fun u hm => hu u (List.dropLast_subset l hm)
    have d := h.digit (hu _ (List.getLast_mem hne))
    have e : (16 : Int) ^ (n + 1) = 16 ^ n * 16 := Int.pow_succ 16 n
    rw [e]
    generalize rise * ((l.getLast hne : Nat) : Int) = r at *
    generalize (16 : Int) ^ n = P at *
    omega
structure LoopI (p q : Nat) (low rise : Int) (pre : List Int) (number : Int) (text : Str) : Prop where
  num : number = numF low rise ((upsL p q).take pre.length)
  txt : text = ⟨(((upsL p q).take pre.length).map (65 + ·)).toArray⟩
theorem LoopI.start {p q : Nat} {low rise : Int} : LoopI p q low rise [] 2 (Str.ofString "") := ⟨rfl, by rw [List.length_nil, List.take_zero]; decide +kernel⟩
theorem ab_item (u : Nat) (hu : u ≤ 1) : Txt.item (Str.ofString "AB") ((u : Int).fmod 2) = ⟨#[65 + u]⟩ := by
  have : u = 0 ∨ u = 1 := by omega
  rcases this with rfl | rfl <;> decide +kernel
theorem LoopI.step {p q : Nat} {low rise k number : Int} {text : Str} {pre : List Int} (h : 1 ≤ p) (I : LoopI p q low rise pre number text) (e : k = 0 + (pre.length : Int)) (lt : pre.length < p + q) :
    LoopI p q low rise (pre ++ [k]) (16 * number + low + rise * ((qt p q (k + 1).toNat : Int) - (qt p q k.toNat : Int))) (text ++ Txt.item (Str.ofString "AB") (((qt p q (k + 1).toNat : Int) - (qt p q k.toNat : Int)).fmod 2)) := by
  have e1 : (k + 1).toNat = pre.length + 1 := by omega
  have e2 : k.toNat = pre.length := by omega
  have hs := qt_step p q pre.length h
  have ht : (upsL p q).take (pre.length + 1) = (upsL p q).take pre.length ++ [qt p q (pre.length + 1) - qt p q pre.length] := by
    rw [List.take_succ_eq_append_getElem (by rw [upsL_length]; exact lt)]
    have := upsL_get p q pre.length lt
    rw [List.getElem?_eq_getElem (by rw [upsL_length]; exact lt)] at this
    rw [Option.some.inj this]
  have hd : (qt p q (k + 1).toNat : Int) - (qt p q k.toNat : Int) = ((qt p q (pre.length + 1) - qt p q pre.length : Nat) : Int) := by
    rw [e1, e2]
    omega
  rw [hd]
  refine ⟨?_, ?_⟩
  · rw [List.length_append, List.length_singleton, ht, numF_snoc, ← I.num]
  · rw [List.length_append, List.length_singleton, ht, ab_item _ (by omega), I.txt, List.map_append]
    show (⟨_ ++ _⟩ : Str) = _
    simp
theorem LoopI.size {p q : Nat} {low rise number : Int} {text : Str} {pre : List Int} (I : LoopI p q low rise pre number text) : text.length ≤ p + q := by
  rw [I.txt]
  show ((((upsL p q).take pre.length).map (65 + ·)).toArray).size ≤ _
  simp [upsL_length]
  omega
theorem LoopI.bits {p q : Nat} {low rise number : Int} {text : Str} {pre : List Int} (hpq : PQ p q) (h : LR low rise) (I : LoopI p q low rise pre number text) : Builtin.Int.intBits number ≤ 64 := by
  have hl : ((upsL p q).take pre.length).length ≤ 14 := by
    rw [List.length_take, upsL_length]
    have := hpq.p7; have := hpq.q7
    omega
  have b := numF_bounds h _ ((upsL p q).take pre.length) rfl fun u hu => upsL_le hpq.p1 u (List.mem_of_mem_take hu)
  rw [← I.num] at b
  have hp : (16 : Int) ^ ((upsL p q).take pre.length).length ≤ 16 ^ 14 := by
    have h1 : (16 : Nat) ^ ((upsL p q).take pre.length).length ≤ 16 ^ 14 := Nat.pow_le_pow_right (by decide) hl
    have h2 := Int.ofNat_le.mpr h1
    rw [Int.natCast_pow, Int.natCast_pow] at h2
    exact h2
  refine intBits_le_iff.mpr ?_
  have e : (16 : Int) ^ 14 = 72057594037927936 := by decide
  have e' : (2 : Nat) ^ 64 = 18446744073709551616 := by decide
  rw [e] at hp
  rw [e']
  generalize (16 : Int) ^ ((upsL p q).take pre.length).length = P at *
  omega
theorem LR.bits {low rise : Int} (h : LR low rise) : Builtin.Int.intBits rise ≤ 4 := by
  have := h.r1; have := h.r8
  exact intBits_le_iff.mpr (by omega)
theorem up_bits {p q : Nat} (h : 1 ≤ p) {k : Int} (hk : 0 ≤ k) : Builtin.Int.intBits ((qt p q (k + 1).toNat : Int) - (qt p q k.toNat : Int)) ≤ 1 := by
  have e : (k + 1).toNat = k.toNat + 1 := by omega
  have := qt_step p q k.toNat h
  rw [e]
  exact intBits_le_iff.mpr (by omega)
theorem ap_two : ap 2 = [67] := by
  rw [ap_step (by decide), show 2 / 16 = 0 from rfl, ap_zero]
  rfl
theorem ap_numF {low rise : Int} (h : LR low rise) : ∀ (n : Nat) (l : List Nat), l.length = n → (∀ u ∈ l, u ≤ 1) → ap (numF low rise l).natAbs = 67 :: l.map fun (u : Nat) => UInt8.ofNat (65 + (low + rise * (u : Int)).toNat)
  | 0, l, hl, _ => by
    rw [List.eq_nil_of_length_eq_zero hl]
    exact ap_two
  | n + 1, l, hl, hu => by
    have hne : l ≠ [] := by intro e; rw [e] at hl; cases hl
    have hu' : ∀ u ∈ l.dropLast, u ≤ 1 := fun u hm => hu u (List.dropLast_subset l hm)
    have ih := ap_numF h n l.dropLast (by simp; omega) hu'
    have b := numF_bounds h n l.dropLast (by simp; omega) hu'
    have d := h.digit (hu _ (List.getLast_mem hne))
    rw [← List.dropLast_concat_getLast hne, numF_snoc, List.map_append, List.map_singleton, ← List.cons_append, ← ih]
    generalize hr : low + rise * ((l.getLast hne : Nat) : Int) = r at *
    have e1 : (16 * numF low rise l.dropLast + low + rise * ((l.getLast hne : Nat) : Int)).natAbs = 16 * (numF low rise l.dropLast).natAbs + r.toNat := by omega
    rw [e1, ap_step (by omega)]
    have e2 : (16 * (numF low rise l.dropLast).natAbs + r.toNat) / 16 = (numF low rise l.dropLast).natAbs := by omega
    have e3 : (16 * (numF low rise l.dropLast).natAbs + r.toNat) % 16 = r.toNat := by omega
    rw [e2, e3]
/-- the letter of a sign -/
def let1 (low rise : Int) (u : Nat) : Nat := 65 + (low + rise * (u : Int)).toNat
def wordS (low rise : Int) (p q : Nat) : Str := ⟨(67 :: (upsL p q).map (let1 low rise)).toArray⟩
section
variable {low rise number : Int} {p q : Nat} {text : Str} {pre : List Int} (h : LR low rise) (hpq : PQ p q) (I : LoopI p q low rise pre number text) (hl : pre.length = p + q)
include h hpq I hl
theorem LoopI.num' : number = numF low rise (upsL p q) := by
  rw [I.num, hl, List.take_of_length_le (by rw [upsL_length]; exact Nat.le_refl _)]
theorem LoopI.txt' : text = wdS p q := by
  rw [I.txt, hl, List.take_of_length_le (by rw [upsL_length]; exact Nat.le_refl _)]
  rfl
theorem LoopI.ap : ap number.natAbs = 67 :: (upsL p q).map fun u => UInt8.ofNat (let1 low rise u) := by
  rw [I.num' h hpq hl]
  exact ap_numF h _ _ rfl (upsL_le hpq.p1)
theorem LoopI.ap_len : (Mine.ap number.natAbs).length ≤ 64 := by
  rw [I.ap h hpq hl, List.length_cons, List.length_map, upsL_length]
  have := hpq.p7; have := hpq.q7
  omega
theorem LoopI.ap_asc : ∀ x ∈ (Mine.ap number.natAbs).toArray.toList, x.toNat < 128 := by
  intro x hx
  rw [I.ap h hpq hl] at hx
  rcases List.mem_cons.mp hx with rfl | hx
  · decide
  · obtain ⟨u, hu, rfl⟩ := List.mem_map.mp hx
    have := h.digit (upsL_le hpq.p1 u hu)
    have e : let1 low rise u < 128 := by unfold let1; omega
    show (let1 low rise u) % 2 ^ 8 < 128
    omega
theorem LoopI.word : ascS (Mine.ap number.natAbs).toArray = wordS low rise p q := by
  rw [I.ap h hpq hl]
  unfold ascS wordS
  congr 1
  rw [List.map_toArray, List.map_cons, List.map_map]
  congr 2
  refine List.map_congr_left fun u hu => ?_
  have := h.digit (upsL_le hpq.p1 u hu)
  show (let1 low rise u) % 2 ^ 8 = let1 low rise u
  have e : let1 low rise u < 128 := by unfold let1; omega
  omega
end
theorem ofA : Str.ofString "A" = ⟨#[65]⟩ := by decide +kernel
theorem ofB : Str.ofString "B" = ⟨#[66]⟩ := by decide +kernel
theorem ofC : Str.ofString "C" = ⟨#[67]⟩ := by decide +kernel
theorem word_eq {low rise : Int} (h : LR low rise) {p q : Nat} (hp : 1 ≤ p) :
    Str.ofString "C" ++ Txt.replace (Txt.replace (wdS p q) (Str.ofString "B") ⟨#[(65 + low + rise).toNat]⟩) (Str.ofString "A") ⟨#[(65 + low).toNat]⟩ = wordS low rise p q := by
  rw [ofA, ofB, ofC, replace_one, replace_one]
  unfold wordS wdS letsL
  apply Str.ext'
  show #[67] ++ _ = _
  apply Array.toList_inj.mp
  simp only [List.map_map, Array.toList_append, List.cons_append, List.nil_append, List.cons.injEq, true_and]
  refine List.map_congr_left fun u hu => ?_
  have := upsL_le hp u hu
  have := h.l0; have := h.l7; have := h.r1; have := h.r8
  have : u = 0 ∨ u = 1 := by omega
  rcases this with rfl | rfl
  · simp [let1]; omega
  · have h1 : ¬ (65 + low + rise).toNat = 65 := by omega
    show (if (if 65 + 1 = 66 then (65 + low + rise).toNat else 65 + 1) = 65 then (65 + low).toNat else (if 65 + 1 = 66 then (65 + low + rise).toNat else 65 + 1)) = 65 + (low + rise * ((1 : Nat) : Int)).toNat
    rw [if_pos rfl, if_neg h1]
    omega
theorem map_lt {f : Nat → Nat} : ∀ (x y : List Nat), (∀ a ∈ x ++ y, ∀ b ∈ x ++ y, a < b ↔ f a < f b) → (x.map f < y.map f ↔ x < y)
  | [], [], _ => by simp
  | [], b :: y, _ => by simp
  | a :: x, [], _ => by simp
  | a :: x, b :: y, h => by
    have ih := map_lt x y fun c hc d hd => h c (by simp at hc ⊢; rcases hc with h | h <;> simp [h]) d (by simp at hd ⊢; rcases hd with h | h <;> simp [h])
    have h1 := h a (by simp) b (by simp)
    have h2 := h b (by simp) a (by simp)
    rw [List.map_cons, List.map_cons, List.cons_lt_cons_iff, List.cons_lt_cons_iff, ih, ← h1]
    have : f a = f b ↔ a = b := by
      constructor
      · intro e; omega
      · rintro rfl; rfl
    rw [this]
theorem map_cmp {f : Nat → Nat} (x y : List Nat) (h : ∀ a ∈ x ++ y, ∀ b ∈ x ++ y, a < b ↔ f a < f b) : cmpL (x.map f) (y.map f) = cmpL x y := by
  have h1 := map_lt x y h
  have h2 := map_lt y x fun a ha b hb => h a (by simp at ha ⊢; rcases ha with h | h <;> simp [h]) b (by simp at hb ⊢; rcases hb with h | h <;> simp [h])
  unfold cmpL
  simp only [h1, h2]
theorem let1_lt {low rise : Int} (h : LR low rise) {a b : Nat} (ha : a ≤ 1) (hb : b ≤ 1) : a < b ↔ let1 low rise a < let1 low rise b := by
  have := h.l0; have := h.l7; have := h.r1; have := h.r8
  unfold let1
  have e1 : a = 0 ∨ a = 1 := by omega
  have e2 : b = 0 ∨ b = 1 := by omega
  rcases e1 with rfl | rfl <;> rcases e2 with rfl | rfl <;> simp <;> omega
theorem word_ord {low rise : Int} (h : LR low rise) {p q : Nat} (hpq : PQ p q) {i j : Nat} (hi : i < p + q) (hj : j < p + q) :
    cmpL ((wordS low rise p q).cps.toList.drop (i + 1)) ((wordS low rise p q).cps.toList.drop (j + 1)) = b2i (decide ((restsL p q).getD j 0 < (restsL p q).getD i 0)) - b2i (decide ((restsL p q).getD i 0 < (restsL p q).getD j 0)) := by
  have e : ∀ k, (wordS low rise p q).cps.toList.drop (k + 1) = ((upsL p q).drop k).map (let1 low rise) := by
    intro k
    show (67 :: (upsL p q).map (let1 low rise)).drop (k + 1) = _
    rw [List.drop_succ_cons, List.map_drop]
  have hm : ∀ a ∈ (upsL p q).drop i ++ (upsL p q).drop j, a ≤ 1 := by
    intro a ha
    rcases List.mem_append.mp ha with h | h <;> exact upsL_le hpq.p1 a (List.mem_of_mem_drop h)
  rw [e, e, map_cmp _ _ (fun a ha b hb => let1_lt h (hm a ha) (hm b hb))]
  exact hpq.word.ord i j hi hj
theorem wdS_length (p q : Nat) : (wdS p q).length = p + q := by
  show ((letsL p q).toArray).size = _
  simp [letsL, upsL_length]
theorem wordS_length (low rise : Int) (p q : Nat) : (wordS low rise p q).length = p + q + 1 := by
  show ((67 :: (upsL p q).map (let1 low rise)).toArray).size = _
  simp [upsL_length]
theorem replace_length (x : Str) (y z : Nat) : (Txt.replace x ⟨#[y]⟩ ⟨#[z]⟩).length = x.length := by
  rw [replace_one]
  show ((x.cps.toList.map fun c => if c = y then z else c).toArray).size = x.cps.size
  simp
/-- the room for a replaced text -/
theorem rep1_room {x : Str} {c : Nat} (h : x.length ≤ 1000) : x.length + (x.length + 1) * (⟨#[c]⟩ : Str).length ≤ 16777216 := by
  show x.length + (x.length + 1) * 1 ≤ _
  omega
theorem rep2_room {x : Str} {c d : Nat} (h : x.length ≤ 1000) : (Txt.replace x (Str.ofString "B") ⟨#[c]⟩).length + ((Txt.replace x (Str.ofString "B") ⟨#[c]⟩).length + 1) * (⟨#[d]⟩ : Str).length ≤ 16777216 := by
  rw [ofB, replace_length]
  exact rep1_room h
theorem rep_len {x : Str} {c d : Nat} (h : x.length ≤ 1000) : (Str.ofString "C").length + (Txt.replace (Txt.replace x (Str.ofString "B") ⟨#[c]⟩) (Str.ofString "A") ⟨#[d]⟩).length ≤ 16777216 := by
  rw [ofA, ofB, ofC, replace_length, replace_length]
  show 1 + x.length ≤ _
  omega
theorem ap_zero' : (ap (0 : Int).natAbs).length ≤ 64 := by
  show (ap 0).length ≤ 64
  rw [ap_zero]
  decide
end Mine
end
section
open PySem PySem.W PyProof.Rows PySem.Calls
set_option maxRecDepth 100000
namespace Mine
theorem compRest_ind {prog : Program} {w : World} {A : Around} {s : Shared} {h₀ : Heap} {L : Addr} {m : Str → Option Value} {env : Env} {elt : PySem.Expr} {x : Str} {scope : Scope} {cl : List (Str × Addr)} {S : List (Addr × Obj) → Prop} {P : Nat → Value → Prop}
    {Fin : List Value → List (Addr × Obj) → Prop} {n : Nat} (Inv : Nat → List Value → List (Addr × Obj) → Prop)
    (turn : ∀ i ys news v I oI C oC D m₂ h tk (E' : Value → Shared → Prop), i < n → Inv i ys news → P i v → LCg.NsObj oC m₂ → m₂ x = some v → Fr h₀ L h m → News h₀ L h ((I, oI) :: (C, oC) :: (D, LCg.lst ys) :: news) → LCg.Off3 I C D news → ((@Ne Nat I C) ∧ (@Ne Nat I D) ∧ (@Ne Nat C D)) →
      wpAny (model prog w) A (eval elt (compEnvC scope cl C env)) (LCg.CompEnd h₀ L m { s with heap := h, toks := tk } I oI C oC D (LCg.lst ys) S (fun y news' => Inv (i + 1) (ys ++ [y]) news')) E' { s with heap := h, toks := tk })
    (fin : ∀ ys news, Inv n ys news → Fin ys news) : ∀ (k i : Nat) (ys : List Value) (news : List (Addr × Obj)), i + k = n → Inv i ys news → LCg.CompRest prog w A h₀ L m env elt x scope cl s S P Fin k i ys news
  | 0, i, ys, news, e, I => by
    have : i = n := by omega
    subst this
    exact fin _ _ I
  | k + 1, i, ys, news, e, I => by
    refine LCg.CompRest.succ fun v I' oI C oC D m₂ h tk E' hP hC hx F N off ne => ?_
    refine wpAny_mono (turn i ys news v I' oI C oC D m₂ h tk E' (by omega) I hP hC hx F N off ne) (fun y s₂ hs => ?_) fun _ _ e => e
    obtain ⟨h', tk', news', e1, F', N', off', hS', r⟩ := hs
    exact ⟨h', tk', news', e1, F', N', off', hS', compRest_ind Inv turn fin k (i + 1) _ _ (by omega) r⟩
inductive TupsAre (own : List (Addr × Obj)) : List Value → List (Int × Int) → Prop
  | nil : TupsAre own [] []
  | cons {a : Addr} {l r : Int} {t u : Tok} {vs : List Value} {ps : List (Int × Int)} (hm : (a, tup2 l r t u 0) ∈ own) (h : TupsAre own vs ps) : TupsAre own (.ref a :: vs) ((l, r) :: ps)
theorem TupsAre.mono {own own' : List (Addr × Obj)} (hs : ∀ p ∈ own, p ∈ own') {vs : List Value} {ps : List (Int × Int)} (h : TupsAre own vs ps) : TupsAre own' vs ps := by
  induction h with
  | nil => exact .nil
  | cons hm _ ih => exact .cons (hs _ hm) ih
theorem TupsAre.snoc {own : List (Addr × Obj)} {vs : List Value} {ps : List (Int × Int)} {a : Addr} {l r : Int} {t u : Tok} (h : TupsAre own vs ps) (hm : (a, tup2 l r t u 0) ∈ own) : TupsAre own (vs ++ [.ref a]) (ps ++ [(l, r)]) := by
  induction h with
  | nil => exact .cons hm .nil
  | cons hm' _ ih => exact .cons hm' ih
theorem TupsAre.length {own : List (Addr × Obj)} {vs : List Value} {ps : List (Int × Int)} (h : TupsAre own vs ps) : vs.length = ps.length := by
  induction h with
  | nil => rfl
  | cons _ _ ih => simp [ih]
end Mine
end
section
open PySem PySem.W PyProof.Rows PySem.Calls
set_option maxRecDepth 100000
namespace Mine
theorem ConL.use {w : World} {mean : ExcName → Option Value} {mg mb : Str → Option Value} {f l : Addr} {lv : List Value} {news : List (Addr × Obj)} {dd uu : Nat} {Out : Value → List (Addr × Obj) → Prop}
    {dp un : Nat} {gd : Option (List Code)} {cn : Str} {cs : Scope} {a : Addr} {ccd : Value} {cl : List (Str × Addr)} {outer : List Env} {A₀ : Around} {base h₀ : Heap} {L : Addr} {m : Str → Option Value} {s : Shared}
    {Q E : Value → Shared → Prop} (C : ConL w mean mg mb f l lv news dd uu Out)
    (B : Below A₀ base outer h₀) (hl : base.IsList l lv.toArray) (F : Fr h₀ L s.heap m) (X : (hd.heap_39 w.params).In h₀) (N : News h₀ L s.heap news) (T : Top hd.view_39 LS mean mg mb h₀) (hk : cs.kind = .function) (hd : dp + dd < recursionLimit) (hu : un + uu < cLine)
    (h : ∀ r news' h' tk', Fr h₀ L h' m → News h₀ L h' news' → Out r news' → Q r { s with heap := h', toks := tk' }) :
    wpAny (model PySem.Challenge.rw_xj0002_01.row.prog w) (ktrTop dp un gd cn cs L a ccd cl outer) (call (.ref f) [.ref l]) Q E s := C _ _ _ _ _ _ _ _ _ _ _ _ _ _ _ _ _ B hl F X N T hk hd hu h

theorem Con.mono {w : World} {mean : ExcName → Option Value} {mg mb : Str → Option Value} {f : Addr} {vs : List Value} {news : List (Addr × Obj)} {dd uu : Nat} {Out Out' : Value → List (Addr × Obj) → Prop} (C : Con w mean mg mb f vs news dd uu Out) (hO : ∀ r n, Out r n → Out' r n) : Con w mean mg mb f vs news dd uu Out' :=
  fun _ _ _ _ _ _ _ _ _ _ _ _ _ _ _ _ _ B F X N T hk hd hu h => C _ _ _ _ _ _ _ _ _ _ _ _ _ _ _ _ _ B F X N T hk hd hu fun r n h' tk' F' N' o => h r n h' tk' F' N' (hO r n o)
theorem pq_all : ∀ a ∈ List.range 7, ∀ b ∈ List.range 7, ∃ p q : Nat, p ∈ List.range 8 ∧ q ∈ List.range 8 ∧ (1 + (a : Int)).fdiv ((1 + (a : Int)).gcd (1 + (b : Int))) = p ∧ (1 + (b : Int)).fdiv ((1 + (a : Int)).gcd (1 + (b : Int))) = q ∧ 1 ≤ p ∧ 1 ≤ q ∧ Nat.gcd p q = 1 := by
  intro a ha b hb
  have key : ∀ a ∈ List.range 7, ∀ b ∈ List.range 7, ((1 + (a : Int)).fdiv ((1 + (a : Int)).gcd (1 + (b : Int)))).toNat ∈ List.range 8 ∧ ((1 + (b : Int)).fdiv ((1 + (a : Int)).gcd (1 + (b : Int)))).toNat ∈ List.range 8 ∧
      (1 + (a : Int)).fdiv ((1 + (a : Int)).gcd (1 + (b : Int))) = (((1 + (a : Int)).fdiv ((1 + (a : Int)).gcd (1 + (b : Int)))).toNat : Int) ∧ (1 + (b : Int)).fdiv ((1 + (a : Int)).gcd (1 + (b : Int))) = (((1 + (b : Int)).fdiv ((1 + (a : Int)).gcd (1 + (b : Int)))).toNat : Int) ∧
      1 ≤ ((1 + (a : Int)).fdiv ((1 + (a : Int)).gcd (1 + (b : Int)))).toNat ∧ 1 ≤ ((1 + (b : Int)).fdiv ((1 + (a : Int)).gcd (1 + (b : Int)))).toNat ∧ Nat.gcd ((1 + (a : Int)).fdiv ((1 + (a : Int)).gcd (1 + (b : Int)))).toNat ((1 + (b : Int)).fdiv ((1 + (a : Int)).gcd (1 + (b : Int)))).toNat = 1 := by decide +kernel
  obtain ⟨h1, h2, h3, h4, h5, h6, h7⟩ := key a ha b hb
  exact ⟨_, _, h1, h2, h3, h4, h5, h6, h7⟩
theorem pq_of (x y : Int) : ∃ p q : Nat, (1 + x.fmod 7).fdiv ((1 + x.fmod 7).gcd (1 + y.fmod 7)) = p ∧ (1 + y.fmod 7).fdiv ((1 + x.fmod 7).gcd (1 + y.fmod 7)) = q ∧ PQ p q := by
  have hx := Int.fmod_eq_emod_of_nonneg x (show (0 : Int) ≤ 7 by decide)
  have hy := Int.fmod_eq_emod_of_nonneg y (show (0 : Int) ≤ 7 by decide)
  obtain ⟨a, ha⟩ : ∃ a : Nat, x.fmod 7 = a := ⟨(x.fmod 7).toNat, by omega⟩
  obtain ⟨b, hb⟩ : ∃ b : Nat, y.fmod 7 = b := ⟨(y.fmod 7).toNat, by omega⟩
  rw [ha, hb]
  obtain ⟨p, q, h1, h2, h3, h4, h5, h6, h7⟩ := pq_all a (List.mem_range.mpr (by omega)) b (List.mem_range.mpr (by omega))
  have := List.mem_range.mp h1
  have := List.mem_range.mp h2
  exact ⟨p, q, h3, h4, h5, by omega, h6, by omega, h7⟩
theorem counts' (w : World) (mean : ExcName → Option Value) (mg mb : Str → Option Value) (nw : List (Addr × Obj)) (D : Addr) (x y z : Int) (t u v : Tok) (c : Nat) :
    Con w mean mg mb 86 [.ref D] ((D, ints3 x y z t u v c) :: nw) 1 8 (fun r n' => ∃ D' t1 u1, ∃ p q : Nat, n' = (D', tup2 (p : Int) (q : Int) t1 u1 0) :: (D, ints3 x y z t u v c) :: nw ∧ r = .ref D' ∧ (∀ p ∈ (D, ints3 x y z t u v c) :: nw, p.1 < D') ∧ PQ p q) :=
  (counts w mean mg mb nw D x y z t u v c).mono fun r n ⟨D', t1, u1, h1, h2, h3⟩ => by
    obtain ⟨p, q, e1, e2, h⟩ := pq_of x y
    rw [e1, e2] at h1
    exact ⟨D', t1, u1, p, q, h1, h2, h3, h⟩

local macro_rules | `(tactic| walk_at "call ref") => `(tactic| (k_here; (with_reducible show wpAny _ _ (call (Value.ref 38) _ _) _ _ _); k_dflt (refine' Con.use (div0 _ _ _ _ _ _ _ _ _ _ _ (DivOk.b0 ?c1) (DivOk.a0 ?c1) (DivOk.hn ?c1) (DivOk.bits ?c1)) ?k1 ?k2 ?k3 ?k4 ?k5 ?kK ?kd ?ku ?_; (case k1 => k_asm); (case k2 => k_asm); (case k3 => k_asm); (case k4 => k_asm); (case k5 => k_asm); (case kK => first | exact rfl | assumption); (case kd => ktr_room); (case ku => ktr_units); (case c1 => assumption)); intro r9 n9 h9 tk9 F9 N9 O9; obtain ⟨D9, t9, u9, e9, e9', l9⟩ := O9; subst e9; subst e9'; (try dsimp only)))
theorem told_div {p q : Nat} (h : PQ p q) {i : Nat} (hi : i < p + q + 1) : DivOk ((0 + (i : Int)) * (q : Int)) ((p : Int) + (q : Int)) (Builtin.Int.intBits ((p : Int) + (q : Int))) := by
  have p1 := h.p1
  have p7 := h.p7
  have q1 := h.q1
  have q7 := h.q7
  have h0 : 0 ≤ (0 + (i : Int)) * (q : Int) := Int.mul_nonneg (by omega) (by omega)
  have h1 : (0 + (i : Int)) * (q : Int) ≤ 14 * 7 := Int.mul_le_mul (by omega) (by omega) (by omega) (by decide)
  exact divOk_of h0 (by omega) (Nat.le_trans (intBits_le_iff (m := 10) |>.mpr (by omega)) (by decide))
def rst (p q k : Nat) : Nat := k * q % (p + q)
def toldL (p q : Nat) (i : Nat) : List (Int × Int) := (List.range i).map fun (k : Nat) => ((qt p q k : Int), (rst p q k : Int))
def ToldInv (p q : Nat) (news0 : List (Addr × Obj)) (i : Nat) (ys : List Value) (news : List (Addr × Obj)) : Prop := ∃ own, news = news0 ++ own ∧ TupsAre own ys (toldL p q i)
theorem toldL_snoc (p q : Nat) (i : Nat) : toldL p q (i + 1) = toldL p q i ++ [((qt p q i : Int), (rst p q i : Int))] := by
  unfold toldL
  rw [List.range_succ, List.map_append]
  rfl
theorem qt_eq (p q i : Nat) : ((0 + (i : Int)) * (q : Int)) / ((p : Int) + (q : Int)) = (qt p q i : Int) := by
  unfold qt
  rw [Int.zero_add, ← Int.natCast_mul, ← Int.natCast_add, ← Int.natCast_ediv]
theorem rst_eq (p q i : Nat) : ((0 + (i : Int)) * (q : Int)) % ((p : Int) + (q : Int)) = (rst p q i : Int) := by
  unfold rst
  rw [Int.zero_add, ← Int.natCast_mul, ← Int.natCast_add, ← Int.natCast_emod]
theorem told_turn {h₀ : Heap} {L I C D D9 : Addr} {m : Str → Option Value} {s₁ : Shared} {oI oC : Obj} {h' : Heap} {tk : Nat} {p q : Nat} {i : Nat} {ys : List Value} {N0 own : List (Addr × Obj)} {x y : Int} {t u : Tok}
    (F : Fr h₀ L h' m) (N : News h₀ L h' ((D9, tup2 x y t u 0) :: (I, oI) :: (C, oC) :: (D, LCg.lst ys) :: (N0 ++ own))) (lz : ∀ p ∈ (I, oI) :: (C, oC) :: (D, LCg.lst ys) :: (N0 ++ own), p.1 < D9) (off : LCg.Off3 I C D (N0 ++ own))
    (ht : TupsAre own ys (toldL p q i)) (ex : x = (qt p q i : Int)) (ey : y = (rst p q i : Int)) :
    LCg.CompEnd h₀ L m s₁ I oI C oC D (LCg.lst ys) (fun _ => True) (fun y news' => ToldInv p q N0 (i + 1) (ys ++ [y]) news') (.ref D9) { s₁ with heap := h', toks := tk } := by
  refine LCg.CompEnd.intro F N (N0 ++ ((D9, tup2 x y t u 0) :: own)) ?_ (LCg.Off3.of ?_) True.intro ⟨_, rfl, ?_⟩
  · intro p hp
    simp only [List.mem_cons, List.mem_append] at hp ⊢
    rcases hp with h | h | h | h | h | h <;> simp [h]
  · intro p hp
    have hm := off.mem
    rcases List.mem_append.mp hp with h | h
    · exact hm p (List.mem_append.mpr (.inl h))
    · rcases List.mem_cons.mp h with rfl | h
      · exact ⟨Nat.ne_of_gt (lz (I, oI) (.head _)), Nat.ne_of_gt (lz (C, oC) (.tail _ (.head _))), Nat.ne_of_gt (lz (D, _) (.tail _ (.tail _ (.head _))))⟩
      · exact hm p (List.mem_append.mpr (.inr h))
  · rw [toldL_snoc, ← ex, ← ey]
    exact (ht.mono fun p hp => .tail _ hp).snoc (.head _)
end Mine
end
section
open PySem PySem.W PyProof.Rows PySem.Calls
set_option maxRecDepth 100000
namespace Mine
theorem TupsAre.get {own : List (Addr × Obj)} {vs : List Value} {ps : List (Int × Int)} (h : TupsAre own vs ps) : ∀ {i : Nat} {l r : Int}, ps[i]? = some (l, r) → ∃ a t u, vs[i]? = some (.ref a) ∧ (a, tup2 l r t u 0) ∈ own := by
  induction h with
  | nil => intro i l r e; cases e
  | cons hm h ih =>
    intro i l r e
    cases i with
    | zero => cases e; exact ⟨_, _, _, rfl, hm⟩
    | succ i => exact ih e
theorem toldL_get {p q n k : Nat} (h : k < n) : (toldL p q n)[k]? = some ((qt p q k : Int), (rst p q k : Int)) := by
  unfold toldL
  rw [List.getElem?_map, List.getElem?_range h]
  rfl
theorem toldL_length (p q n : Nat) : (toldL p q n).length = n := by simp [toldL]
section
variable {prog : Program} {w : World} {A : Around} {E : Value → Shared → Prop} {s : Shared} {h₀ : Heap} {L D : Addr} {m : Str → Option Value} {rest : List (Addr × Obj)} {vs : List Value} {n : Nat} {k : Int} {t : Tok} {v : Value}
theorem told_item {value slice : PySem.Expr} {news own : List (Addr × Obj)} {l : Addr} {u : Tok} {p q : Nat} {Q : Value → Shared → Prop} (N : News h₀ L s.heap news) (hm : (l, LCg.lst vs) ∈ news) (ht : TupsAre own vs (toldL p q n)) (h0 : 0 ≤ k) (h1 : k < n) (hfit : k < 2 ^ 63)
    (h : ∀ a t u, (a, tup2 (qt p q k.toNat : Int) (rst p q k.toNat : Int) t u 0) ∈ own → Q (.ref a) s)
    (hs : subscripted slice false (.ref l) (.int k u) = operate [.ref l, .int k u] (getItem (.ref l) (.int k u)) := by with_unfolding_all rfl) :
    wpAny (model prog w) A (subscriptTail value slice (.ref l) (.int k u)) Q E s := by
  obtain ⟨a, t, u', e, hmem⟩ := ht.get (toldL_get (p := p) (q := q) (show k.toNat < n by omega))
  exact item_at (PySem.IsL.isList (N _ hm).1) h0 hfit e (h a t u' hmem) hs
theorem told_part {value slice : PySem.Expr} {news own : List (Addr × Obj)} {a : Addr} {x y : Int} {t u u' : Tok} {c : Nat} {Q : Value → Shared → Prop} (N : News h₀ L s.heap news) (sub : ∀ p ∈ own, p ∈ news) (hm : (a, tup2 x y t u c) ∈ own) (h : Q (.int x t) s)
    (hs : subscripted slice false (.ref a) (.int 0 u') = operate [.ref a, .int 0 u'] (getItem (.ref a) (.int 0 u')) := by with_unfolding_all rfl) :
    wpAny (model prog w) A (subscriptTail value slice (.ref a) (.int 0 u')) Q E s :=
  item_tupleT (l := [.int x t, .int y u]) (j := 0) ⟨_, (N _ (sub _ hm)).1, rfl, _, rfl⟩ (by decide) (by decide) (show seqIndex? 0 2 = some 0 by decide) rfl h hs
end
theorem decode_asciiX {prog : Program} {w : World} {A : Around} {E : Value → Shared → Prop} {s : Shared} {b : Array UInt8} {x : Str} {t u : Tok} {Q : Value → Shared → Prop} (hx : ascS b = x) (h0 : b.toList ≠ []) (h : ∀ x ∈ b.toList, x.toNat < 128) (hb : b.size ≤ 1000) (hq : ∀ t' k, Q (.str x t') { s with toks := k }) :
    wpAny (model prog w) A (call (.builtin "bytes.decode") [.bytes b t, .str (PySem.Str.ofString "ascii") u]) Q E s := by
  subst hx
  exact decode_ascii h0 h hb hq
theorem noneBooked {w : World} {h : Heap} (X : (hd.heap_39 w.params).In h) : NoneBooked h := by
  exact ⟨h.nsMap cStatics, .of_isNs (isNs_of_in X (by kernel_rfl)), nsMap_none_of_in X (by kernel_rfl) (by kernel_rfl)⟩
theorem add_word {prog : Program} {w : World} {A : Around} {E : Value → Shared → Prop} {s : Shared} {low rise c d : Int} {p q : Nat} {t u : Tok} {Q : Value → Shared → Prop} (h : LR low rise) (hpq : PQ p q) (hc : c = 65 + low + rise) (hd : d = 65 + low) (hq : ∀ t' k, Q (.str (wordS low rise p q) t') { s with toks := k }) :
    wpAny (model prog w) A (binaryOp .Add (.str (Str.ofString "C") t) (.str (Txt.replace (Txt.replace (wdS p q) (Str.ofString "B") ⟨#[c.toNat]⟩) (Str.ofString "A") ⟨#[d.toNat]⟩) u)) Q E s := by
  subst hc
  subst hd
  have hl : (wdS p q).length ≤ 1000 := by
    have := hpq.p7; have := hpq.q7
    rw [wdS_length]
    omega
  refine add_str ?_ (by rw [sizeLine_eq]; exact rep_len hl)
  rw [word_eq h hpq.p1]
  exact hq
end Mine
end
section
open PySem PySem.W PyProof.Rows PySem.Calls
set_option maxRecDepth 100000
namespace Mine
theorem qt0 (p q : Nat) : qt p q (Int.toNat 0) = 0 := by
  show 0 * q / (p + q) = 0
  rw [Nat.zero_mul, Nat.zero_div]
theorem ap_q0 (p q : Nat) : (ap ((qt p q (Int.toNat 0) : Nat) : Int).natAbs).length ≤ 64 := by
  rw [qt0]
  exact ap_zero'
theorem ap_ne {x : Nat} {l : List UInt8} {c : UInt8} (e : ap x = c :: l) : (ap x).toArray.toList ≠ [] := by
  rw [e]
  intro h
  cases h
theorem nes_same {prog : Program} {w : World} {A : Around} {E : Value → Shared → Prop} {s : Shared} {a b : Str} {t u : Tok} {Q : Value → Shared → Prop} (e : a = b) (h : Q (.bool false) s) : wpAny (model prog w) A (compareOp .NotEq (.str a t) (.str b u)) Q E s := by
  subst e
  refine PyProof.Rows.ne_str ?_
  rw [bne_self_eq_false]
  exact h
theorem neb_q0 {prog : Program} {w : World} {A : Around} {E : Value → Shared → Prop} {s : Shared} {p q : Nat} {t u : Tok} {Q : Value → Shared → Prop} (h : Q (.bool false) s) : wpAny (model prog w) A (compareOp .NotEq (.bytes (ap ((qt p q (Int.toNat 0) : Nat) : Int).natAbs).toArray t) (.bytes #[] u)) Q E s := by
  refine ne_bytes ?_
  have e : ((ap ((qt p q (Int.toNat 0) : Nat) : Int).natAbs).toArray.toList != (#[] : Array UInt8).toList) = false := by
    rw [qt0]
    change ((ap 0).toArray.toList != (#[] : Array UInt8).toList) = false
    rw [ap_zero]
    decide
  rw [e]
  exact h
end Mine
end
section
open PySem PySem.W PyProof.Rows PySem.Calls
set_option maxRecDepth 100000
namespace Mine
abbrev tupSS (l r : List Nat) (t u : Tok) (n : Nat) : Obj := ⟨.type "tuple", none, .seq #[.str ⟨l.toArray⟩ t, .str ⟨r.toArray⟩ u] n, #[]⟩
theorem CutsAre.get {own : List (Addr × Obj)} {vs : List Value} {ps : List (List Nat × List Nat)} (h : CutsAre own vs ps) : ∀ {i : Nat} {v : Value}, vs[i]? = some v → ∃ a l r t u n, v = .ref a ∧ ps[i]? = some (l, r) ∧ (a, tupSS l r t u n) ∈ own := by
  induction h with
  | nil => intro i v e; cases e
  | cons hm h ih =>
    intro i v e
    cases i with
    | zero => cases e; exact ⟨_, _, _, _, _, _, rfl, rfl, hm⟩
    | succ i => exact ih e
def CutEnd (h₀ : Heap) (L : Addr) (s : Shared) (x y : Str) (m₀ : Str → Option Value) (news own : List (Addr × Obj)) (f : Flow) (s₂ : Shared) : Prop :=
  f = .next ∧ ∃ h' tk m₂, s₂ = { s with heap := h', toks := tk } ∧ Fr h₀ L h' m₂ ∧ News h₀ L h' (news ++ own) ∧ ∀ z, z ≠ x → z ≠ y → m₂ z = m₀ z
section
variable {prog : Program} {w : World} {A : Around} {E : Value → Shared → Prop} {s : Shared} {env : Env} {h₀ : Heap} {target : PySem.Expr} {body : List Stmt} {Q : Flow → Shared → Prop}
theorem fr_two {L : Addr} {h : Heap} {x y : Str} {m₁ m₀ : Str → Option Value} (F : Fr h₀ L h m₁) (hm : ∀ z, z ≠ x → z ≠ y → m₁ z = m₀ z) : Fr h₀ L h (fun z => if z = x then m₁ z else if z = y then m₁ z else m₀ z) := by
  have e : (fun z => if z = x then m₁ z else if z = y then m₁ z else m₀ z) = m₁ := by
    funext z
    by_cases h1 : z = x
    · simp [h1]
    · by_cases h2 : z = y
      · simp [h2]
      · simp only [if_neg h1, if_neg h2]
        exact (hm z h1 h2).symm
  rw [e]
  exact F
theorem cuts_iter {l : Addr} {vs : List Value} {c : Nat} {R news : List (Addr × Obj)} {cuts : List (List Nat × List Nat)} {m₀ : Str → Option Value} (x y : Str)
    (hh : A.handled = none) (F : Fr h₀ env.locals s.heap m₀) (N : News h₀ env.locals s.heap news) (hm : (l, W.listOf vs.toArray c) ∈ news) (hR : ∀ p ∈ R, p ∈ news) (hC : CutsAre R vs cuts)
    (turn : ∀ a lr rr t u n (kU : Str → Option Value) own s₁, (lr, rr) ∈ cuts → Fr h₀ env.locals s₁.heap (fun z => if z = x then kU z else if z = y then kU z else m₀ z) → News h₀ env.locals s₁.heap ((a, tupSS lr rr t u n) :: (news ++ own)) →
      wpAny (model prog w) A (assign target env (.ref a)) (fun _ s₃ => wpAny (model prog w) A (execs body env) (CutEnd h₀ env.locals s₁ x y m₀ news own) E s₃) E s₁)
    (done : ∀ (kU : Str → Option Value) h tk, Fr h₀ env.locals h (fun z => if z = x then kU z else if z = y then kU z else m₀ z) → News h₀ env.locals h news → Q .next { s with heap := h, toks := tk }) :
    wpAny (model prog w) A (pyIter (.ref l)) (fun it s₂ => LoopAtT prog w A h₀ env target body Q E it s₂) E s := by
  have hls : s.heap.IsList l vs.toArray := PySem.IsL.isList (N _ hm).1
  have hlt : l < s.heap.objs.size := Heap.lt_size (N _ hm).1
  have hne : l ≠ s.heap.objs.size := Nat.ne_of_lt hlt
  refine wpAny_pyIter_list hls ?_
  have W := Walks.list (prog := prog) (w := w) hh s.heap.objs.size l hne vs.toArray
  have hlen : vs.toArray.size = vs.length := by simp
  rw [hlen] at W
  let J' : Nat → (Str → Option Value) → List (Addr × Obj) → Prop := fun i m₁ news₁ => news₁ = news ∧ ∀ z, z ≠ x → z ≠ y → m₁ z = m₀ z
  refine ⟨_, _, _, vs.length, _, _, m₀, news, J', rfl, W, ?_, ?_, ?_, ⟨⟨_, Heap.get?_push_size _ rfl, rfl, rfl⟩, hls.at fun o e => Heap.get?_push_of_some _ e⟩, F.push _, (fun p hp => ⟨Heap.get?_push_of_some _ (N p hp).1, (N p hp).2⟩),
    (fun i s' v Q' st hQ' => letGo_listiter st.1 hQ'), ⟨rfl, fun _ _ _ => rfl⟩, ?_, ?_⟩
  · intro hm'
    rcases List.mem_cons.mp hm' with e | hm'
    · exact absurd F.ns.lt (e ▸ Nat.lt_irrefl _)
    · exact (N _ hm).2.1 (List.mem_singleton.mp hm').symm
  · intro b hb
    rw [List.mem_singleton.mp hb]
    exact next_is_new F
  · intro p hp hI
    exact absurd (Heap.lt_size (N p hp).1) ((List.mem_singleton.mp hI) ▸ Nat.lt_irrefl _)
  · rintro i v m₁ news₁ s₁ own hin hP ⟨rfl, hJ⟩ hoff _ _ _ _ F₁ N₁
    obtain ⟨a, lr, rr, t, u, n, rfl, hps, hmem⟩ := hC.get (i := i) (v := v) (by simpa using hP)
    have N₂ : News h₀ env.locals s₁.heap ((a, tupSS lr rr t u n) :: (news₁ ++ own)) := by
      intro p hp
      rcases List.mem_cons.mp hp with rfl | hp
      · exact N₁ _ (List.mem_append.mpr (.inr (hR _ hmem)))
      · rcases List.mem_append.mp hp with h | h
        · exact N₁ _ (List.mem_append.mpr (.inr h))
        · exact N₁ _ (List.mem_append.mpr (.inl h))
    refine wpAny_mono (turn a lr rr t u n m₁ own s₁ (List.mem_of_getElem? hps) (fr_two F₁ hJ) N₂) (fun _ s₃ hs₃ => wpAny_mono hs₃ (fun f s₂ hf => ?_) fun _ _ e => e) fun _ _ e => e
    obtain ⟨rfl, h', tk, m₂, rfl, F', N', hm₂⟩ := hf
    refine LoopStepU.intro F' (fun p hp => ?_) hoff ⟨rfl, hm₂⟩
    rcases List.mem_append.mp hp with h | h
    · exact N' _ (List.mem_append.mpr (.inr h))
    · exact N' _ (List.mem_append.mpr (.inl h))
  · rintro h' tk m' news' F' N' _ ⟨rfl, hJ⟩
    exact done m' h' tk (fr_two F' hJ) N'
theorem CutEnd.intro {L : Addr} {x y : Str} {m₀ m₂ : Str → Option Value} {news own all : List (Addr × Obj)} {h' : Heap} {tk : Nat} (F : Fr h₀ L h' m₂) (N : News h₀ L h' all) (hs : ∀ p ∈ news ++ own, p ∈ all) (hm : ∀ z, z ≠ x → z ≠ y → m₂ z = m₀ z) :
    CutEnd h₀ L s x y m₀ news own .next { s with heap := h', toks := tk } := ⟨rfl, h', tk, m₂, rfl, F, fun p hp => N p (hs p hp), hm⟩
end
end Mine
end
section
open PySem PySem.W PyProof.Rows PySem.Calls
set_option maxRecDepth 100000
namespace Mine
theorem ledger_nest {h₀ : Heap} {L : Addr} {h : Heap} {a b d8 d9 dc e1 e2 : Addr × Obj} {o1 o2 : List (Addr × Obj)} (N : News h₀ L h (a :: b :: (o1 ++ (d8 :: d9 :: dc :: e1 :: e2 :: o2)))) : News h₀ L h (a :: b :: d8 :: dc :: e1 :: e2 :: (o1 ++ o2)) := by
  intro q hq
  refine N q ?_
  simp only [List.mem_cons, List.mem_append] at hq ⊢
  rcases hq with h | h | h | h | h | h | h | h <;> simp [h]
end Mine
end
section
open PySem PySem.W PyProof.Rows PySem.Calls
set_option maxRecDepth 100000
namespace Mine
def rstF (p q i : Nat) : List Int := (List.range i).map fun k => (rst p q k : Int)
theorem rstF_succ (p q i : Nat) : rstF p q (i + 1) = rstF p q i ++ [(rst p q i : Int)] := by
  unfold rstF
  rw [List.range_succ, List.map_append]
  rfl
theorem rstF_eq (p q : Nat) : rstF p q (p + q + 1) = restsL p q := rfl
section
variable {prog : Program} {w : World} {A : Around} {E : Value → Shared → Prop} {s : Shared} {h₀ : Heap} {L : Addr} {m : Str → Option Value} {env : Env}
theorem rests_ind {x x₂ : Str} {pos : Pos} {scope : Scope} {cl : List (Str × Addr)} {S : List (Addr × Obj) → Prop} {Fin : List Value → List (Addr × Obj) → Prop} {p q n : Nat} {R news : List (Addr × Obj)} {vs : List Value}
    (hR : ∀ p ∈ R, p ∈ news) (ht : TupsAre R vs (toldL p q n)) (hS : S news)
    (hk : ∀ C, (compEnvC scope cl C env).scope.kind = .function) (hl : ∀ C, (compEnvC scope cl C env).kindOf x₂ = some .local) (hd : (x₂ == ("__debug__" : Str)) = false)
    (fin : ∀ ys, IntsAre ys (rstF p q n) → Fin ys news) : ∀ (k i : Nat) (ys : List Value), i + k = n → IntsAre ys (rstF p q i) → LCp.CompRestP prog w A h₀ L m env (.Name x₂ pos) x x₂ scope cl s S (fun i v => vs.toArray[i]? = some v) Fin k i ys news
  | 0, i, ys, e, hI => by
    have : i = n := by omega
    subst this
    exact fin _ hI
  | k + 1, i, ys, e, hI => by
    refine LCp.CompRestP.succ fun v hv => ?_
    obtain ⟨a, t, u, ha, hm⟩ := ht.get (toldL_get (p := p) (q := q) (show i < n by omega))
    have hva : v = .ref a := by
      have hv' : vs[i]? = some v := by simpa using hv
      rw [ha] at hv'
      exact (Option.some.inj hv').symm
    subst hva
    refine ⟨a, _, _, _, _, rfl, hR _ hm, rfl, rfl, ?_⟩
    intro I oI C oC D m₂ h tk E' hC hx hy F N off ne
    refine LCgL.ld_own N (List.Mem.tail _ (.head _)) hC hy ?_ (hk C) (hl C) hd
    refine LCg.CompEnd.intro F N news (fun p hp => hp) off hS ?_
    refine rests_ind hR ht hS hk hl hd fin k (i + 1) _ (by omega) ?_
    rw [rstF_succ]
    exact intsAre_append hI (.cons _ _ .nil)
end
end Mine
end
section
open PySem PySem.W PyProof.Rows PySem.Calls
set_option maxRecDepth 100000
namespace Mine
theorem ne_same {prog : Program} {w : World} {A : Around} {E : Value → Shared → Prop} {s : Shared} {a b : Int} {t u : Tok} {Q : Value → Shared → Prop} (e : a = b) (h : Q (.bool false) s) : wpAny (model prog w) A (compareOp .NotEq (.int a t) (.int b u)) Q E s := by
  subst e
  refine ne_int ?_
  rw [bne_self_eq_false]
  exact h
theorem word_ord' {low rise : Int} (h : LR low rise) {p q : Nat} (hpq : PQ p q) {i j : Int} (hi0 : 0 ≤ i) (hi : i < (p : Int) + q) (hj0 : 0 ≤ j) (hj : j < (p : Int) + q) :
    cmpL (Txt.slice (wordS low rise p q) (some (i + 1)) none).cps.toList (Txt.slice (wordS low rise p q) (some (j + 1)) none).cps.toList =
      b2i (decide ((restsL p q).getD j.toNat 0 < (restsL p q).getD i.toNat 0)) - b2i (decide ((restsL p q).getD i.toNat 0 < (restsL p q).getD j.toNat 0)) := by
  have hl := wordS_length low rise p q
  have e1 : (i + 1).toNat = i.toNat + 1 := by omega
  have e2 : (j + 1).toNat = j.toNat + 1 := by omega
  rw [sl_from (by omega) (by omega), sl_from (by omega) (by omega), e1, e2]
  exact word_ord h hpq (by omega) (by omega)
theorem restsL_length (p q : Nat) : (restsL p q).length = p + q + 1 := by simp [restsL]
end Mine
end
section
open PySem PySem.W PyProof.Rows PySem.Calls
set_option maxRecDepth 100000
namespace Mine
local macro_rules | `(tactic| bits_by_make) => `(tactic| first | with_reducible assumption | (rename LoopI _ _ _ _ _ _ _ => hI9; (first | exact LoopI.bits (by assumption) (by assumption) hI9)) | exact LR.bits (by assumption) | exact up_bits (by assumption) (by omega) | exact intBits_le_iff.mpr (by decide))
set_option maxHeartbeats 16000000 in
theorem main : PySem.Challenge.rw_xj0002_01.Holds := hd (by
  k_with_none
  k_go0
  all_goals try k_fold
  w_top off
  k_with "call ref cons nil" => (k_here; (with_reducible show wpAny _ _ (call (Value.ref 38) _ _) _ _ _); k_dflt (refine' Con.use (div0 _ _ _ _ _ _ _ _ _ _ _ (DivOk.b0 ?c1) (DivOk.a0 ?c1) (DivOk.hn ?c1) (DivOk.bits ?c1)) ?k1 ?k2 ?k3 ?k4 ?k5 ?kK ?kd ?ku ?_; (case k1 => k_asm); (case k2 => k_asm); (case k3 => k_asm); (case k4 => k_asm); (case k5 => k_asm); (case kK => first | exact rfl | assumption); (case kd => ktr_room); (case ku => ktr_units); (case c1 => assumption)); intro r9 n9 h9 tk9 F9 N9 O9; obtain ⟨D9, t9, u9, e9, e9', l9⟩ := O9; subst e9; subst e9'; (try dsimp only))
  k_with "call ref" => (k_here; (with_reducible show wpAny _ _ (call (Value.ref 79) _ _) _ _ _); k_dflt (refine' ConL.use (cells _ _ _ _ _ _ _ _ ?c1 ?c2) ?k1 ?kl ?k2 ?k3 ?k4 ?k5 ?kK ?kd ?ku ?_; (case k1 => k_asm); (case kl => assumption); (case k2 => k_asm); (case k3 => k_asm); (case k4 => k_asm); (case k5 => k_asm); (case kK => first | exact rfl | assumption); (case kd => ktr_room); (case ku => ktr_units); (case c1 => assumption); (case c2 => omega)); intro r9 n9 h9 tk9 F9 N9 O9; obtain ⟨Dc, cx, cy, cz, ct, cu, cv, cc, e9, e9', l9⟩ := O9; subst e9; subst e9'; (try dsimp only); (try k_lt l9); (try k_sweep); (try k_fold))
  k_with "call ref" => (k_here; (with_reducible show wpAny _ _ (call (Value.ref 86) _ _) _ _ _); k_dflt (refine' Con.use (counts' _ _ _ _ _ _ _ _ _ _ _ _ _) ?k1 ?k2 ?k3 ?k4 ?k5 ?kK ?kd ?ku ?_; (case k1 => k_asm); (case k2 => k_asm); (case k3 => k_asm); (case k4 => k_asm); (case k5 => k_asm); (case kK => first | exact rfl | assumption); (case kd => ktr_room); (case ku => ktr_units)); intro r9 n9 h9 tk9 F9 N9 O9; obtain ⟨D9, t9, u9, pp, qq, e9, e9', l9, hpq⟩ := O9; subst e9; subst e9'; (try dsimp only); (try k_lt l9); (try k_sweep); (try k_fold))
  k_with "CompSrc Call cons ref" => k_dflt (
    have p1 := hpq.p1
    have p7 := hpq.p7
    have q1 := hpq.q1
    have q7 := hpq.q7
    rename IsRange _ _ _ _ _ _ _ _ => hr
    refine LCg.CompSrc.range (n := pp + qq + 1) (by rfl) (by k_asm) (by k_asm) hr (small_one (by omega) (by omega) (by omega) (by omega)) (by rw [rangeSize_nat, Int.sub_zero]; omega) (by rw [sizeLine_eq]; omega) ?_
    intro g'
    refine compRest_ind (ToldInv pp qq _) ?_ ?_ _ 0 [] _ (Nat.zero_add _) ⟨[], (List.append_nil _).symm, .nil⟩
    · intro i ys news v I oI C oC D m₂ h tk E' hi hI hP hC hx F N off ne
      obtain ⟨own, rfl, ht⟩ := hI
      obtain ⟨tk', rfl⟩ := hP
      have hdv := told_div hpq hi
      k_steps
      rename Fr _ _ _ _ => Fz
      rename News _ _ _ _ => Nz
      rename (∀ p : Addr × Obj, p ∈ _ → p.1 < _) => lz
      exact told_turn Fz Nz lz off ht (qt_eq _ _ _) (rst_eq _ _ _)
    intro ys news hI
    obtain ⟨own, rfl, ht⟩ := hI
    unfold LCg.FinA
    intro D8 h8 tk8 F8 N8 o8
    (try simp only [LCg.Off1, and_true] at o8)
    (try simp only [List.nil_append, List.cons_append] at N8)
    try dsimp only
    have hLR := LR.of cz
    have hwl : (wdS pp qq).length ≤ 1000 := by rw [wdS_length]; omega
    k_with "binaryOp Mult int int" => (k_here; (with_reducible refine mul_int ?_ ?km); rotate_left; (with_reducible apply PyProof.Rows.mulOk_of_bits); (focus bits_by_make); (focus bits_by_make); (focus decide))
    k_with "subscriptTail Subscript Name BinOp Constant ref int" => (k_here; (with_reducible show wpAny _ _ (subscriptTail _ _ (Value.ref _) (Value.int 0 _)) _ _ _); k_dflt ((rename (_ ∈ own) => hm9); (refine' told_part ?k1 ?k2 hm9 ?_ ?k7; (case k1 => k_asm); (case k2 => (intro p hp; simp only [List.mem_cons, List.mem_append, hp, true_or, or_true])); (case k7 => with_unfolding_all rfl)); clear hm9))
    k_with "subscriptTail Subscript Name Name Constant ref int" => (k_here; (with_reducible show wpAny _ _ (subscriptTail _ _ (Value.ref _) (Value.int 0 _)) _ _ _); k_dflt ((rename (_ ∈ own) => hm9); (refine' told_part ?k1 ?k2 hm9 ?_ ?k7; (case k1 => k_asm); (case k2 => (intro p hp; simp only [List.mem_cons, List.mem_append, hp, true_or, or_true])); (case k7 => with_unfolding_all rfl)); clear hm9))
    k_with "subscriptTail Subscript Name Constant Constant ref int" => (k_here; (with_reducible show wpAny _ _ (subscriptTail _ _ (Value.ref _) (Value.int 0 _)) _ _ _); k_dflt ((rename (_ ∈ own) => hm9); (refine' told_part ?k1 ?k2 hm9 ?_ ?k7; (case k1 => k_asm); (case k2 => (intro p hp; simp only [List.mem_cons, List.mem_append, hp, true_or, or_true])); (case k7 => with_unfolding_all rfl)); clear hm9))
    k_with "subscriptTail Name BinOp ref int" => (k_here; (with_reducible show wpAny _ _ (subscriptTail _ _ (Value.ref D8) (Value.int _ _)) _ _ _); k_dflt ((refine' told_item ?k1 ?k2 ht ?k4 ?k5 ?k6 ?_ ?k7; (case k1 => k_asm); (case k2 => k_mem); (case k4 => omega); (case k5 => omega); (case k6 => omega); (case k7 => with_unfolding_all rfl)); intro a9 t9 u9 hm9; (try dsimp only)))
    k_with "subscriptTail Name Name ref int" => (k_here; (with_reducible show wpAny _ _ (subscriptTail _ _ (Value.ref D8) (Value.int _ _)) _ _ _); k_dflt ((refine' told_item ?k1 ?k2 ht ?k4 ?k5 ?k6 ?_ ?k7; (case k1 => k_asm); (case k2 => k_mem); (case k4 => omega); (case k5 => omega); (case k6 => omega); (case k7 => with_unfolding_all rfl)); intro a9 t9 u9 hm9; (try dsimp only)))
    k_with "subscriptTail Name Constant ref int" => (k_here; (with_reducible show wpAny _ _ (subscriptTail _ _ (Value.ref D8) (Value.int _ _)) _ _ _); k_dflt ((refine' told_item ?k1 ?k2 ht ?k4 ?k5 ?k6 ?_ ?k7; (case k1 => k_asm); (case k2 => k_mem); (case k4 => omega); (case k5 => omega); (case k6 => omega); (case k7 => with_unfolding_all rfl)); intro a9 t9 u9 hm9; (try dsimp only)))
    k_with "pyIter ref" => k_state (fun pre number text => LoopI pp qq (cz.fmod 8) (1 + (cz.fdiv 8).fmod 8) pre number text) "number" "text"
    k_with "state" => first | exact LoopI.start | exact LoopI.step (by assumption) (by assumption) (by assumption) (by omega)
    k_with "InvPostN next" => k_dflt ((dsimp only [InvPostN]); (rename News _ _ _ _ => nE9); (try simp only [List.push_toArray] at nE9); (refine kst_end ⟨_, _, _, _⟩ (by assumption) nE9 (by ((try dsimp only); (repeat (refine sub_cons ?_)); first | exact fun p hp => hp | exact fun p hp => List.mem_append.mpr (.inl hp))) (by intro p hp; (repeat (with_reducible first | exact hp | exact List.mem_append.mpr (.inr hp) | apply List.mem_cons_of_mem))) (by rfl) (by kst_facts) (by kst_all) (by kst_same) (by kst_p)))
    k_with "binaryOp Add str str" => k_dflt (k_here; (rename LoopI _ _ _ _ _ _ _ => hI9); (refine add_str ?_ ?hz); rotate_left; (focus (have hz9 := LoopI.size hI9; rw [sizeLine_eq]; (show _ + 1 ≤ _); omega)); (intro t9 k9))
    k_with "call ref" => (k_here; (with_reducible show wpAny _ _ (call (Value.ref 65) _ _) _ _ _); k_dflt (refine' Con.use (int2ap _ _ _ _ _ _ _ ?c1) ?k1 ?k2 ?k3 ?k4 ?k5 ?kK ?kd ?ku ?_; (case k1 => k_asm); (case k2 => k_asm); (case k3 => k_asm); (case k4 => k_asm); (case k5 => k_asm); (case kK => first | exact rfl | assumption); (case kd => ktr_room); (case ku => ktr_units); (case c1 => first | assumption | (rw [Int.natAbs_neg]; assumption) | exact ap_q0 _ _)); intro r9 n9 h9 tk9 F9 N9 O9; obtain ⟨e9, t9, e9'⟩ := O9; subst e9; subst e9'; (try dsimp only); (try k_sweep); (try k_fold))
    k_with "call ref" => (k_here; (with_reducible show wpAny _ _ (call (Value.ref 65) _ _) _ _ _); (rename LoopI _ _ _ _ _ _ _ => hI9); have hlen : (rangeKs 0 ((pp : Int) + (qq : Int) - 0).toNat).length = pp + qq := (by rw [rangeKs_length]; omega); have hap := LoopI.ap_len hLR hpq hI9 hlen; have hasc := LoopI.ap_asc hLR hpq hI9 hlen; have hword := LoopI.word hLR hpq hI9 hlen; have hne := ap_ne (LoopI.ap hLR hpq hI9 hlen); obtain rfl := LoopI.txt' hLR hpq hI9 hlen; clear hI9)
    k_with "call builtin:bytes.decode" => (k_here; refine' decode_asciiX ?x1 ?x2 ?x3 ?x4 ?_; (case x1 => first | exact hword | exact (congrArg (fun k => ascS (ap k).toArray) (Int.natAbs_neg _)).trans hword); (case x2 => first | exact hne | (rw [Int.natAbs_neg]; exact hne)); (case x3 => first | exact hasc | (rw [Int.natAbs_neg]; exact hasc)); (case x4 => (rw [List.size_toArray]; first | omega | (rw [Int.natAbs_neg]; omega))); intro t9 k9)
    k_with "call builtin:str.replace" => (k_here; refine wpAny_toks ?_; refine' SC.replaceA ?x1 ?x2 ?x3 ?x4 ?_ ?x5; (case x1 => (show @Ne Nat _ _; (try dsimp only); omega)); (case x2 => (show @Ne Nat _ _; (try dsimp only); omega)); (case x3 => (show @Ne Nat _ _; (try dsimp only); omega)); (case x4 => first | exact rep1_room hwl | exact rep2_room hwl); (case x5 => exact noneBooked (by k_in)); intro t9 k9 hk9; (try dsimp only at hk9))
    k_with "binaryOp Add str str" => (k_here; (with_reducible show wpAny _ _ (binaryOp _ (Value.str (Str.ofString "C") _) (Value.str (Txt.replace _ _ _) _)) _ _ _); k_dflt (refine' add_word hLR hpq ?x1 ?x2 ?_; (case x1 => rfl); (case x2 => rfl); intro t9 k9))
    k_with "compareOp NotEq str str" => (k_here; refine nes_same rfl ?_)
    k_with "compareOp NotEq bytes bytes" => (k_here; k_dflt (refine neb_q0 ?_))
    k_with "call ref" => k_dflt (
      k_here
      (with_reducible show wpAny _ _ (call (Value.ref 100) _ _) _ _ _)
      rename _ ∧ _ ∧ _ ∧ _ ∧ _ ∧ AllLt _ own => l1
      have hW := hpq.word
      have hwl2 : (wdS pp qq).length = pp + qq := wdS_length _ _
      refine' Con.use (nest _ _ _ _ 14 (by decide) (wdS pp qq) _ _ [] 0 _ ?p1 ?p2 ?p3 ?p4) ?k1 ?k2 ?k3 ?k4 ?k5 ?kK ?kd ?ku ?_
      case k1 => k_asm
      case k2 => k_asm
      case k3 => k_asm
      case k4 => k_asm
      case k5 => k_asm
      case kK => first | exact rfl | assumption
      case kd => ktr_room
      case ku => ktr_units
      case p1 => omega
      case p2 => omega
      case p3 => show 0 + _ ≤ _; omega
      case p4 => exact fun p hp => Nat.ne_of_lt (ktn_ltOf (by exact l1) p hp)
      intro r9 n9 hN tkN FN N9 O9
      obtain ⟨Dn, vals, cvs, ownN, c1, c2, rfl, rfl, hbs, hcs, htup, hltD, hltC⟩ := O9
      have NN : News _ _ _ (_ :: (_, W.listOf cvs.toArray c2) :: _) := ledger_nest N9
      have hRt := ht.mono (own' := ownN ++ own) (fun p hp => List.mem_append.mpr (.inr hp))
      have hRc := hcs.mono (own' := ownN ++ own) (fun p hp => List.mem_append.mpr (.inl hp))
      clear N9 hltD
      generalize ownN ++ own = R at NN hRt hRc
      change CutsAre R cvs (nestL 14 (letsL pp qq)).2 at hRc
      change BytesAre vals (nestL 14 (letsL pp qq)).1 at hbs
      try dsimp only
      k_with "call ref" => (k_here; (with_reducible show wpAny _ _ (call (Value.ref 107) _ _) _ _ _); k_dflt (refine' Con.use (fits _ _ _ _ _ _ _ _ _ ?c1) ?k1 ?k2 ?k3 ?k4 ?k5 ?kK ?kd ?ku ?_; (case k1 => k_asm); (case k2 => k_asm); (case k3 => k_asm); (case k4 => k_asm); (case k5 => k_asm); (case kK => first | exact rfl | assumption); (case kd => ktr_room); (case ku => ktr_units); (case c1 => with_reducible assumption)); intro r9 n9 h9 tk9 F9 N9 O9; obtain ⟨e9, e9'⟩ := O9; subst e9; subst e9'; (try dsimp only); (try k_sweep); (try k_fold))
      k_with "call ref" => (k_here; (with_reducible show wpAny _ _ (call (Value.ref 114) _ _) _ _ _); k_dflt (refine' Con.use (great _ _ _ _ _ _ _ _ _ hW.great) ?k1 ?k2 ?k3 ?k4 ?k5 ?kK ?kd ?ku ?_; (case k1 => k_asm); (case k2 => k_asm); (case k3 => k_asm); (case k4 => k_asm); (case k5 => k_asm); (case kK => first | exact rfl | assumption); (case kd => ktr_room); (case ku => ktr_units)); intro r9 n9 h9 tk9 F9 N9 O9; obtain ⟨e9, e9'⟩ := O9; subst e9; subst e9'; (try dsimp only); (try k_sweep); (try k_fold))
      k_with "exec For Tuple Name cons nil" => (k_here; (rename Fr _ _ _ _ => lF'); refine For_invTF lF' ?_ (by intro _; rfl))
      k_with "pyIter ref" => (k_here; (with_reducible show wpAny _ _ (pyIter (Value.ref _)) (fun it s₂ => LoopAtT _ _ _ _ _ _ _ _ _ it s₂) _ _); k_dflt (refine' cuts_iter (Str.ofString "left") (Str.ofString "right") ?c1 ?c2 ?c3 ?c4 ?c5 hRc ?c6 ?_; (case c1 => exact rfl); (case c2 => k_asm); (case c3 => k_asm); (case c4 => k_mem); (case c5 => (intro p hp; simp only [List.mem_cons, List.mem_append, hp, true_or, or_true]))); (focus (intro a9 lr rr t9 u9 n9 kV kOwn s9 hm9 F9 N9; (have hfit := hW.fits _ hm9); (try simp only [List.cons_append] at N9); (try k_sweep); (try k_fold))); rotate_left; intro kV h9 tk9 F9 N9; (try k_sweep); (try k_fold))
      k_with "CutEnd" => exact CutEnd.intro (by k_asm) (by k_asm) (fun p hp => List.Mem.tail _ hp) (by intro z h1 h2; simp [h1, h2]))
    k_with "SrcLP" => k_dflt (
      k_here
      have hys : ys.length = pp + qq + 1 := by rw [hRt.length, toldL_length]
      refine' LCp.SrcLP.ledger (its := ys.toArray) (by rfl) ?k1 ?k2 ?k3 ?k4 ?_
      case k1 => k_asm
      case k2 => k_asm
      case k3 => k_mem
      case k4 => rw [sizeLine_eq, List.size_toArray]; omega
      intro g9
      refine rests_ind (p := pp) (q := qq) (n := pp + qq + 1) (R := R) (by intro p hp; simp only [List.mem_cons, List.mem_append, hp, true_or, or_true]) hRt (Or.inr ⟨_, by k_mem, rfl, _, rfl⟩) (fun _ => rfl) (fun _ => rfl) (by decide) ?fin _ 0 [] (by rw [List.size_toArray]; omega) .nil
      intro yr hIr
      rw [rstF_eq] at hIr
      unfold LCg.FinA
      intro Dr hr8 tkr FR NR oR
      try dsimp only at FR
      (try simp only [LCg.Off1, and_true] at oR)
      (try dsimp only)
      have hrl := restsL_length pp qq
      have hww : (wordS (cz.fmod 8) (1 + (cz.fdiv 8).fmod 8) pp qq).length = pp + qq + 1 := wordS_length _ _ _ _
      have NR2 : News _ _ _ ((Dr, W.listOf yr.toArray yr.length) :: _) := NR
      clear NR
      k_with "call ref" => (k_here; (with_reducible show wpAny _ _ (call (Value.ref 72) _ _) _ _ _); k_dflt (refine' Con.use (strcoll _ _ _ _ _ _ _ _ _) ?k1 ?k2 ?k3 ?k4 ?k5 ?kK ?kd ?ku ?_; (case k1 => k_asm); (case k2 => k_asm); (case k3 => k_asm); (case k4 => k_asm); (case k5 => k_asm); (case kK => first | exact rfl | assumption); (case kd => ktr_room); (case ku => ktr_units)); intro r9 n9 h9 tk9 F9 N9 O9; obtain ⟨e9, t9, e9'⟩ := O9; subst e9; subst e9'; (try dsimp only); (try k_sweep); (try k_fold))
      k_with "eval Name" => (k_here; (with_reducible show wpAny _ _ (eval (Expr.Name (Str.ofString "size") _) _) _ _ _); k_dflt (refine' nameX_C ?N ?c ?m ?d ?_ ?a ?b; (case a => rfl); (case b => rfl); (case N => k_asm); (case c => rfl); (case m => k_mem); (case d => k_asm); k_whole))
      k_with "InvPostN next" => k_dflt ((dsimp only [InvPostN]); (rename News _ _ _ _ => nE9); (refine' kst_end () ?x1 nE9 ?x2 ?x3 ?x4 True.intro (List.forall_mem_nil _) ?x5 True.intro; (case x1 => assumption); (case x2 => ((try dsimp only); (try (rename IntsAre yr _ => hI9; simp only [IntsAre.length hI9])); (repeat (refine sub_cons ?_)); first | exact fun p hp => hp | exact fun p hp => List.mem_append.mpr (.inl hp))); (case x3 => (intro p hp; simp only [List.mem_cons, List.mem_append, hp, true_or, or_true])); (case x4 => rfl); (case x5 => (intro z h1 h2 h3; simp only [List.contains_cons, List.contains_nil, Bool.or_false, Bool.or_eq_false_iff, beq_eq_false_iff_ne, ne_eq] at h3; simp [h1, h3]))))
      k_with "compareOp NotEq int int" => (k_here; refine ne_same (word_ord' hLR hpq (by omega) (by omega) (by omega) (by omega)) ?_)
      k_with "pyIter ref" => k_search (fun (pre : List Int) => True))
    k_with "call ref" => k_dflt (
      k_here
      (with_reducible show wpAny _ _ (call (Value.ref 121) _ _) _ _ _)
      rename News _ _ _ _ => NZ
      have NZ2 := news_swap NZ
      refine' Con.use (deep _ _ _ _ _ Dn Dr vals yr _ _ _ _ _ _ hW.deep hbs hIr) ?k1 ?k2 ?k3 ?k4 ?k5 ?kK ?kd ?ku ?_
      case k1 => k_asm
      case k2 => k_asm
      case k3 => k_asm
      case k4 => exact NZ2
      case k5 => k_asm
      case kK => first | exact rfl | assumption
      case kd => ktr_room
      case ku => ktr_units
      intro r9 n9 h9 tk9 F9 N9 O9
      obtain ⟨e9, e9'⟩ := O9
      subst e9
      subst e9'
      try dsimp only
      k_end
      w_end
      refine goodW_bool (by assumption) (by assumption) (raisesW_false ?_) ?_
      · wrow_none_raised
      · first | exact postW_of (by rfl) (PySem.W.w_eq_bool (PySem.W.w_res rfl) PySem.W.w_lit) rfl | exact postW_of (by wrow_shape) (by wtm_val) (by first | rfl | w_fin)))
  k_steps)
end Mine
end
theorem PySem.Challenge.cw_xj0002_01_holds : PySem.Challenge.rw_xj0002_01.Holds :=
  Mine.main
