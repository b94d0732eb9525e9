import PyProof.Rows.All
import Wide.All
import OpenK.AllK
import Wide.FinOn
import PySem.Challenge.RW_ag5012_01
open PySem PySem.W PyProof.Rows
set_option Elab.async false
set_option maxRecDepth 100000
set_option maxHeartbeats 8000000
set_option rowWalk.seconds 0
namespace Mine
open_top hd for PySem.Challenge.rw_ag5012_01
end Mine
-- Base
namespace Mine
/-- a contract of a def: whatever the ledger, a call hands back R and leaves frame and ledger -/
abbrev Con (r u : Nat) (f : Addr) (pre : Prop) (vs : List Value) (R : Tok → Value) : Prop :=
  ∀ (w : World) (loose : List Str) (mean : ExcName → Option Value) (mg mb : Str → Option Value) (news : List (Addr × Obj))
    (dp un : Nat) (gd : Option (List Code)) (cn : Str) (cs : Scope) (a : Addr) (ccd : Value) (cl : List (Str × Addr)) (outer : List Env) (A₀ : Around) (base h₀ : Heap) (L : Addr) (m : Str → Option Value) (s : Shared) (Q E : Value → Shared → Prop),
    Below A₀ base outer h₀ → Fr h₀ L s.heap m → (hd.heap_39 w.params).In h₀ → News h₀ L s.heap news → Top hd.view_39 loose mean mg mb h₀ → cs.kind = .function →
    pre → dp + r < recursionLimit → un + u < cLine → CbRet h₀ L m news s Q R →
      wpAny (model PySem.Challenge.rw_ag5012_01.row.prog w) (ktrTop dp un gd cn cs L a ccd cl outer) (call (.ref f) vs) Q E s

def fac : Nat → Int
  | 0 => 1
  | n + 1 => (n + 1 : Int) * fac n

/-- x (x - step) (x - 2 step) .. of n factors -/
def ff (x step : Int) : Nat → Int
  | 0 => 1
  | n + 1 => ff x step n * (x - step * n)

theorem bits_of_lt {a : Int} {m : Nat} (h : a.natAbs < 2 ^ m) : Builtin.Int.intBits a ≤ m := intBits_le_iff.mpr h
theorem ff_abs {x step : Int} (hx : -(10^20) ≤ x ∧ x ≤ 10^20) (hs : -1 ≤ step ∧ step ≤ 1) : ∀ n : Nat, n ≤ 18 → (ff x step n).natAbs < 2 ^ (67 * n + 1) := by
  intro n
  induction n with
  | zero => intro _; simp [ff]
  | succ n ih =>
    intro hn
    have h1 := ih (by omega)
    have h2 : (x - step * (n : Int)).natAbs < 2 ^ 67 := by
      have h3 : step = -1 ∨ step = 0 ∨ step = 1 := by omega
      rcases h3 with rfl | rfl | rfl <;> omega
    show ((ff x step n) * (x - step * (n : Int))).natAbs < _
    rw [Int.natAbs_mul, show 67 * (n + 1) + 1 = (67 * n + 1) + 67 by omega, Nat.pow_add]
    exact Nat.mul_lt_mul'' h1 h2
theorem ff_mulOk {x step k : Int} {n : Nat} (hx : -(10^20) ≤ x ∧ x ≤ 10^20) (hs : -1 ≤ step ∧ step ≤ 1) (hn : n < 18) (hk : k = (n : Int)) : IntMulOk (ff x step n) (x - step * k) := by
  subst hk
  refine IntMulOk.of_bits (Nat.le_trans (bits_of_lt (ff_abs hx hs n (by omega))) (Nat.le_trans (show 67 * n + 1 ≤ 2000 by omega) (by decide))) (Nat.le_trans (bits_of_lt (m := 67) ?_) (by decide))
  have h3 : step = -1 ∨ step = 0 ∨ step = 1 := by omega
  rcases h3 with rfl | rfl | rfl <;> omega
end Mine
-- C1
namespace Mine
local macro_rules | `(tactic| walk_at "pyIter ref") => `(tactic| k_extra "pyIter ref")
theorem fac_end {n : Int} (hp : 0 ≤ n ∧ n ≤ 18) : (List.foldl (fun (σ : TyM [MakeM.int]) (k : Int) => ((σ.1 * k, ()) : TyM [MakeM.int])) (((1 : Int), ()) : TyM [MakeM.int]) (rangeInts 2 1 (n + 1 - 2).toNat)).1 = fac n.toNat := by
  obtain ⟨n, rfl⟩ := Int.eq_ofNat_of_zero_le hp.1
  have h : n ≤ 18 := by omega
  have key : ∀ i : Nat, i ≤ 18 → (List.foldl (fun (σ : TyM [MakeM.int]) (k : Int) => ((σ.1 * k, ()) : TyM [MakeM.int])) (((1 : Int), ()) : TyM [MakeM.int]) (rangeInts 2 1 ((i : Int) + 1 - 2).toNat)).1 = fac (i : Int).toNat := by decide +kernel
  exact key n h
theorem fac_ne (n : Nat) : fac n ≠ 0 := by
  have key : ∀ n : Nat, 0 < fac n := by
    intro n
    induction n with
    | zero => decide
    | succ n ih => exact Int.mul_pos (by omega) ih
  have := key n
  omega
theorem fac_log {k : Int} (h : k ≤ 18) : (fac k.toNat).natAbs.log2 < 9000 := by
  have key : ∀ n : Nat, n ≤ 18 → (fac n).natAbs.log2 < 9000 := by decide +kernel
  exact key k.toNat (by omega)
theorem c_ifac (n : Int) (t : Tok) : Con 1 8 21 (0 ≤ n ∧ n ≤ 18) [.int n t] (fun t => .int (fac n.toNat) t) := by
  w_top off; unfold Con; dsimp only [CbRet]; k_fill; intros; rename_i hret; have hMk := kstMark; refine wpAny_call ?_; k_dflt cell_enter; k_with_none
  (k_with "tree" => exact fac_end (by assumption))
  k_steps
  all_goals cb_end hret
end Mine
-- C2
namespace Mine
local macro_rules | `(tactic| walk_at "pyIter ref") => `(tactic| k_extra "pyIter ref")
local macro_rules | `(tactic| walk_at "no such key") => `(tactic| fail)
theorem ff_step {x step out k : Int} {pre : List Int} (h : out = ff x step pre.length) (hk : k = 0 + (pre.length : Int)) : out * (x - step * k) = ff x step (pre ++ [k]).length := by
  subst h; subst hk
  rw [List.length_append]; simp [ff]
theorem ff_end {x step out n : Int} (h : out = ff x step (rangeKs 0 (n - 0).toNat).length) : out = ff x step n.toNat := by
  rw [h, rangeKs_length, Int.sub_zero]
theorem ff_mulOk' {x step k out n : Int} {pre : List Int} (h : out = ff x step pre.length) (hk : k = 0 + (pre.length : Int)) (hl : pre.length < (n - 0).toNat) (hn : (0 ≤ n ∧ n ≤ 18) ∧ (-(10^20) ≤ x ∧ x ≤ 10^20) ∧ (-1 ≤ step ∧ step ≤ 1)) : IntMulOk out (x - step * k) := by
  subst h; exact ff_mulOk hn.2.1 hn.2.2 (by omega) (by omega)
local macro_rules | `(tactic| mul_fits) => `(tactic| (exact ff_mulOk' (by assumption) (by assumption) (by assumption) (by assumption)))
theorem c_fall (x many step : Int) (t t2 t3 : Tok) : Con 1 8 47 ((0 ≤ many ∧ many ≤ 18) ∧ (-(10^20) ≤ x ∧ x ≤ 10^20) ∧ (-1 ≤ step ∧ step ≤ 1)) [.int x t, .int many t2, .int step t3] (fun t => .int (ff x step many.toNat) t) := by
  w_top off; unfold Con; dsimp only [CbRet]; k_fill; intros; rename_i hret; have hMk := kstMark; refine wpAny_call ?_; k_dflt cell_enter; k_with_none
  (k_with "state" => first | (with_unfolding_all exact rfl) | exact ff_step (by assumption) (by assumption))
  (k_with "tree" => exact ff_end (by assumption))
  (k_with "pyIter ref" => k_state_given ["x", "step"] (fun x step pre out => out = ff x step pre.length) "out")
  k_steps
  all_goals cb_end hret
end Mine
-- C3
namespace Mine
local macro_rules | `(tactic| walk_at "pyIter ref") => `(tactic| k_extra "pyIter ref")
local macro_rules | `(tactic| walk_at "no such key") => `(tactic| fail)
def stp (m : Int) (L : List Int) (j : Int) : List Int := L.set j.toNat ((m - 1) * L.getD j.toNat 0 + L.getD (j - 1).toNat 0)
def row (k : Nat) : Nat → List Int
  | 0 => (List.replicate (k + 1) 0).set 1 1
  | i + 1 => (downKs (if 2 + (i : Int) < (k : Int) then 2 + (i : Int) else (k : Int)) ((if 2 + (i : Int) < (k : Int) then 2 + (i : Int) else (k : Int)) - 0).toNat).foldl (stp (2 + (i : Int))) (row k i)
def s1 (n k : Int) : Int := if n ≤ k then (if (n == k) = true then 1 else 0) else if k < 1 then 0 else (-1) ^ (n + k).toNat * (row k.toNat (n - 1).toNat).getD k.toNat 0
theorem rep_flat (n : Nat) : (List.replicate n [(0 : Int)]).flatten = List.replicate n 0 := by
  induction n with
  | zero => rfl
  | succ n ih => rw [List.replicate_succ, List.replicate_succ, List.flatten_cons, ih]; rfl
theorem s1_init {n k : Int} (hp : (0 ≤ n ∧ n ≤ 9) ∧ (0 ≤ k ∧ k ≤ 12)) : (List.replicate (k + 1).toNat [(0 : Int)]).flatten.set (Int.toNat 1) 1 = row k.toNat ([] : List Int).length ∧
   ((List.replicate (k + 1).toNat [(0 : Int)]).flatten.set (Int.toNat 1) 1).length = (k + 1).toNat := by
  obtain ⟨k, rfl⟩ := Int.eq_ofNat_of_zero_le hp.2.1
  rw [rep_flat]
  constructor
  · show _ = (List.replicate (k + 1) 0).set 1 1
    rfl
  · simp
theorem s1_in0 {m : Int} {L L2 : List Int} {n : Nat} (h : L2 = L ∧ L.length = n) : L = ([] : List Int).foldl (stp m) L ∧ L.length = n := ⟨rfl, h.2⟩
theorem s1_in1 {m j : Int} {L L0 pre : List Int} {n : Nat} (h : L = pre.foldl (stp m) L0) (hl : L.length = n) :
    L.set j.toNat ((m - 1) * L.getD j.toNat 0 + L.getD (j - 1).toNat 0) = (pre ++ [j]).foldl (stp m) L0 ∧ (L.set j.toNat ((m - 1) * L.getD j.toNat 0 + L.getD (j - 1).toNat 0)).length = n := by
  constructor
  · rw [List.foldl_append, ← h]; rfl
  · rw [List.length_set]; exact hl
theorem s1_out {n m k : Int} {L L0 pre : List Int} (hp : (0 ≤ n ∧ n ≤ 9) ∧ (0 ≤ k ∧ k ≤ 12)) (hm : m = 2 + (pre.length : Int)) (h0 : L0 = row k.toNat pre.length) (h : L = (downKs (if m < k then m else k) ((if m < k then m else k) - 0).toNat).foldl (stp m) L0) (hl : L.length = (k + 1).toNat) :
    L = row k.toNat (pre ++ [m]).length ∧ L.length = (k + 1).toNat := by
  obtain ⟨k, rfl⟩ := Int.eq_ofNat_of_zero_le hp.2.1
  refine ⟨?_, hl⟩
  subst hm; subst h0; subst h
  rw [List.length_append]
  rfl
theorem s1_e1 {n k : Int} (h : n ≤ k) : (if (n == k) = true then 1 else 0) = s1 n k := by rw [s1, if_pos h]
theorem s1_e2 {n k : Int} (h : ¬ n ≤ k) (h2 : k < 1) : 0 = s1 n k := by rw [s1, if_neg h, if_pos h2]
theorem s1_e3 {n k : Int} {L : List Int} (hp : (0 ≤ n ∧ n ≤ 9) ∧ (0 ≤ k ∧ k ≤ 12)) (h : ¬ n ≤ k) (h2 : ¬ k < 1) (hL : L = row k.toNat (rangeKs 2 (n + 1 - 2).toNat).length) : (-1) ^ (n + k).toNat * L.getD k.toNat 0 = s1 n k := by
  rw [s1, if_neg h, if_neg h2, hL, rangeKs_length]
  rw [show n + 1 - 2 = n - 1 by omega]
theorem negpow_ok (e : Nat) (b : Int) : IntMulOk ((-1) ^ e) b := by
  refine IntMulOk.of_left (bits_of_lt ?_)
  rw [Int.natAbs_pow]
  simp
local macro_rules | `(tactic| mul_fits) => `(tactic| exact negpow_ok _ _)
local macro_rules | `(tactic| walk_at "InvEndN") => `(tactic| k_dflt ((rename News _ _ _ _ => nE'); (try simp only [List.push_toArray] at nE'); (refine' kst_end ⟨_, _, _⟩ ?F nE' ?hn ?ho ?ha ?hf ?hk ?hr ?hp); (case F => assumption); (case hn => first | kst_in | kst_inAny); (case ho => first | (intro p hp; kst_mem) | kst_anyIn); (case ha => rfl); (case hf => (try dsimp only); assumption); (case hk => kst_all); (case hr => kst_same); (case hp => (try dsimp only); k_extra "state")))
theorem c_s1 (n k : Int) (t t2  : Tok) : Con 1 8 33 ((0 ≤ n ∧ n ≤ 9) ∧ (0 ≤ k ∧ k ≤ 12)) [.int n t, .int k t2] (fun t => .int (s1 n k) t) := by
  w_top off; unfold Con; dsimp only [CbRet]; k_fill; intros; rename_i hret; have hMk := kstMark; refine wpAny_call ?_; k_dflt cell_enter; k_with_none
  (k_with "state" => first | (with_unfolding_all exact s1_init (by assumption)) | (with_unfolding_all exact s1_in0 ⟨rfl, by assumption⟩) | exact s1_in1 (by assumption) (by assumption) | exact s1_out (by assumption) (by assumption) (by assumption) (by assumption) (by assumption))
  (k_with "pyIter ref" => (k_of "m" => k_state_given ["k"] (fun k pre L => L = row k.toNat pre.length ∧ L.length = (k+1).toNat) "L"))
  (k_with "pyIter ref" => (k_of "j" => k_state_given ["L!", "m", "k"] (fun L₀ m k pre L => L = pre.foldl (stp m) L₀ ∧ L.length = (k + 1).toNat) "L"))
  (k_with "tree" => first | exact s1_e1 (by assumption) | exact s1_e2 (by assumption) (by assumption) | exact s1_e3 (by assumption) (by assumption) (by assumption) (by assumption))
  k_steps
  all_goals cb_end hret
end Mine
-- C4
namespace Mine
local macro_rules | `(tactic| walk_at "pyIter ref") => `(tactic| k_extra "pyIter ref")
local macro_rules | `(tactic| walk_at "no such key") => `(tactic| fail)
theorem powj_ok {j n t : Int} (hj : 0 ≤ j ∧ j ≤ 12) (hn : 0 ≤ n ∧ n ≤ 9) : IntMulOk t (j ^ n.toNat) := by
  refine IntMulOk.of_right (bits_of_lt ?_)
  obtain ⟨j, rfl⟩ := Int.eq_ofNat_of_zero_le hj.1
  obtain ⟨n, rfl⟩ := Int.eq_ofNat_of_zero_le hn.1
  rw [Int.natAbs_pow]
  show j ^ n < 2 ^ 64
  have h1 : j ≤ 12 := by omega
  have h2 : n ≤ 9 := by omega
  exact Nat.lt_of_le_of_lt (Nat.le_trans (Nat.pow_le_pow_left h1 n) (Nat.pow_le_pow_right (by decide) h2)) (by decide)
theorem powj_ok' {j n k t : Int} {pre : List Int} (hk : j = 0 + (pre.length : Int)) (hl : pre.length < (k + 1 - 0).toNat) (hp : (0 ≤ n ∧ n ≤ 9) ∧ (0 ≤ k ∧ k ≤ 12)) : IntMulOk t (j ^ n.toNat) := powj_ok (by omega) (by omega)
def st2 (n k : Int) : Nat → Int × Int
  | 0 => (0, 1)
  | i + 1 => ((if Builtin.bitAnd (k + (i : Int)) 1 = 0 then (st2 n k i).1 + (st2 n k i).2 * (i : Int) ^ n.toNat else (st2 n k i).1 - (st2 n k i).2 * (i : Int) ^ n.toNat), ((st2 n k i).2 * (k - (i : Int))).fdiv ((i : Int) + 1))
def s2 (n k : Int) : Int := if n ≤ k then (if (n == k) = true then 1 else 0) else if k ≤ 1 then (if (k == 1) = true then 1 else 0) else (st2 n k (k + 1).toNat).1.fdiv (fac k.toNat)
theorem s2_t {n k j s t : Int} {pre : List Int} (hj : j = 0 + (pre.length : Int)) (h1 : s = (st2 n k pre.length).1) (h2 : t = (st2 n k pre.length).2) (hb : Builtin.bitAnd (k + j) 1 ≠ 0) :
    s - t * j ^ n.toNat = (st2 n k (pre ++ [j]).length).1 ∧ (t * (k - j)).fdiv (j + 1) = (st2 n k (pre ++ [j]).length).2 := by
  rw [Int.zero_add] at hj
  subst hj; subst h1; subst h2
  rw [List.length_append]
  exact ⟨by show _ = (if _ then _ else _); rw [if_neg hb], rfl⟩
theorem s2_f {n k j s t : Int} {pre : List Int} (hj : j = 0 + (pre.length : Int)) (h1 : s = (st2 n k pre.length).1) (h2 : t = (st2 n k pre.length).2) (hb : Builtin.bitAnd (k + j) 1 = 0) :
    s + t * j ^ n.toNat = (st2 n k (pre ++ [j]).length).1 ∧ (t * (k - j)).fdiv (j + 1) = (st2 n k (pre ++ [j]).length).2 := by
  rw [Int.zero_add] at hj
  subst hj; subst h1; subst h2
  rw [List.length_append]
  exact ⟨by show _ = (if _ then _ else _); rw [if_pos hb], rfl⟩
theorem s2_e1 {n k : Int} (h : n ≤ k) : (if (n == k) = true then 1 else 0) = s2 n k := by rw [s2, if_pos h]
theorem s2_e2 {n k : Int} (h : ¬ n ≤ k) (h2 : k ≤ 1) : (if (k == 1) = true then 1 else 0) = s2 n k := by rw [s2, if_neg h, if_pos h2]
theorem s2_e3 {n k s : Int} (h : ¬ n ≤ k) (h2 : ¬ k ≤ 1) (hs : s = (st2 n k (rangeKs 0 (k + 1 - 0).toNat).length).1) : s.fdiv (fac k.toNat) = s2 n k := by
  rw [s2, if_neg h, if_neg h2, hs, rangeKs_length, Int.sub_zero]
local macro_rules | `(tactic| mul_fits) => `(tactic| exact powj_ok' (by assumption) (by assumption) (by assumption))
local macro_rules | `(tactic| walk_at "call ref") => `(tactic| (k_here; (with_reducible show wpAny _ _ (call (Value.ref 21) _) _ _ _); k_dflt (refine' c_ifac _ _ _ _ _ _ _ _ _ _ _ _ _ _ _ _ _ _ _ _ _ _ _ _ _ ?k1 ?k2 ?k3 ?k4 ?k5 ?k6 ?k7 ?k8 ?k9 ?_; (case k1 => k_asm); (case k2 => k_asm); (case k3 => k_asm); (case k4 => k_asm); (case k5 => k_asm); (case k6 => first | exact rfl | assumption); (case k7 => first | assumption | omega | l_fact); (case k8 => ktr_room); (case k9 => ktr_units); (intro t9 h9 tk9 F9 N9); (try dsimp only); (try k_fold))))
local macro_rules | `(tactic| walk_at "binaryOp FloorDiv int int") => `(tactic| (k_here; (with_reducible refine floordiv_int ?kbe ?_ (Or.inl (PyProof.noPylong_of_log2 ?kbp))); (case kbe => exact fac_ne _); (case kbp => exact fac_log (by omega))))
theorem c_s2 (n k : Int) (t t2  : Tok) : Con 2 16 40 ((0 ≤ n ∧ n ≤ 9) ∧ (0 ≤ k ∧ k ≤ 12)) [.int n t, .int k t2] (fun t => .int (s2 n k) t) := by
  w_top off; unfold Con; dsimp only [CbRet]; k_fill; intros; rename_i hret; have hMk := kstMark; refine wpAny_call ?_; k_dflt cell_enter; k_with_none
  (k_with "state" => first | (with_unfolding_all exact ⟨rfl, rfl⟩) | exact s2_t (by assumption) (by assumption) (by assumption) (by assumption) | exact s2_f (by assumption) (by assumption) (by assumption) (by assumption))
  (k_with "pyIter ref" => k_state_given ["n", "k"] (fun n k pre s t => s = (st2 n k pre.length).1 ∧ t = (st2 n k pre.length).2) "s" "t")
  (k_with "tree" => first | exact s2_e1 (by assumption) | exact s2_e2 (by assumption) (by assumption) | exact s2_e3 (by assumption) (by assumption) (by assumption))
  k_steps
  all_goals cb_end hret
end Mine
-- C6
namespace Mine
local macro_rules | `(tactic| walk_at "pyIter ref") => `(tactic| k_extra "pyIter ref")
local macro_rules | `(tactic| walk_at "no such key") => `(tactic| fail)
local macro_rules | `(tactic| walk_at "call ref") => `(tactic| (k_here; (with_reducible show wpAny _ _ (call (Value.ref 21) _) _ _ _); k_dflt (refine' c_ifac _ _ _ _ _ _ _ _ _ _ _ _ _ _ _ _ _ _ _ _ _ _ _ _ _ ?k1 ?k2 ?k3 ?k4 ?k5 ?k6 ?k7 ?k8 ?k9 ?_; (case k1 => k_asm); (case k2 => k_asm); (case k3 => k_asm); (case k4 => k_asm); (case k5 => k_asm); (case k6 => first | exact rfl | assumption); (case k7 => first | assumption | omega | l_fact); (case k8 => ktr_room); (case k9 => ktr_units); (intro t9 h9 tk9 F9 N9); (try dsimp only); (try k_fold))))
local macro_rules | `(tactic| walk_at "call ref") => `(tactic| (k_here; (with_reducible show wpAny _ _ (call (Value.ref 47) _) _ _ _); k_dflt (refine' c_fall _ _ _ _ _ _ _ _ _ _ _ _ _ _ _ _ _ _ _ _ _ _ _ _ _ _ _ _ _ ?k1 ?k2 ?k3 ?k4 ?k5 ?k6 ?k7 ?k8 ?k9 ?_; (case k1 => k_asm); (case k2 => k_asm); (case k3 => k_asm); (case k4 => k_asm); (case k5 => k_asm); (case k6 => first | exact rfl | assumption); (case k7 => first | assumption | omega | l_fact); (case k8 => ktr_room); (case k9 => ktr_units); (intro t9 h9 tk9 F9 N9); (try dsimp only); (try k_fold))))
local macro_rules | `(tactic| walk_at "binaryOp FloorDiv int int") => `(tactic| (k_here; (with_reducible refine floordiv_int ?kbe ?_ (Or.inl (PyProof.noPylong_of_log2 ?kbp))); (case kbe => exact fac_ne _); (case kbp => exact fac_log (by omega))))
theorem c_choose (n k : Int) (t t2 : Tok) : Con 2 16 54 ((0 ≤ n ∧ n ≤ 18) ∧ (0 ≤ k ∧ k ≤ 18)) [.int n t, .int k t2] (fun t => .int ((ff n 1 k.toNat).fdiv (fac k.toNat)) t) := by
  w_top off; unfold Con; dsimp only [CbRet]; k_fill; intros; rename_i hret; have hMk := kstMark; refine wpAny_call ?_; k_dflt cell_enter; k_with_none
  k_steps
  all_goals cb_end hret
end Mine
-- Own
section
open PySem.Calls
namespace Mine
def OwnRet (V : Int) (s : Shared) (r : Result) (s' : Shared) : Prop := ∃ t h' tk', r = .ok (.ret (.int V t)) ∧ s' = { s with heap := h', toks := tk' }
theorem own_end {V y : Int} {s : Shared} {t : Tok} {h' : Heap} {tk' : Nat} (e : y = V) : OwnRet V s (.ok (.ret (.int y t))) { s with heap := h', toks := tk' } := ⟨t, h', tk', by rw [e], rfl⟩
section
variable {prog : Program} {w : World} {A A₀ : Around} {s : Shared} {K : Frag} {L : Addr} {h₀ base : Heap} {m mg mb : Str → Option Value} {p : Program} {loose : List Str} {mean : ExcName → Option Value}
theorem code_own {env : Env} {outer : List Env} {R : Result → Shared → Prop} {name qual : Str} {params : Arguments} {body : List Stmt} {scope : Scope} {dV kV doc pm cdv ct oc : Value} {an od : Option Addr} {osl : Array (Option Value)} {f : Addr} {args : Args} {binds : List (Str × Value)}
    (R₂ : Result → Shared → Prop) (hR : ∀ r s', R₂ r s' → (∀ b o, s.heap.get? b = some o → s'.heap.get? b = some o) → R r s') (hRe : ∀ e s', R₂ (.error e) s' → False)
    (B : Below A₀ base outer h₀) (F : Fr h₀ L s.heap m) (X₀ : K.In h₀) (T : Top p loose mean mg mb h₀) (hA : A.frames = some (env :: outer)) (hf : env.frame = some L) (hke : env.scope.kind = .function)
    (ho : K.lookup f = some ⟨oc, od, .func (fnOf name qual params body scope dV kV doc pm an cdv ct), osl⟩) (hcd : codeIn K cdv qual = true) (hroom : A.depth < recursionLimit)
    (hbind : BindsTo s (fnOf name qual params body scope dV kV doc pm an cdv ct) args binds) (hloc : ∀ y ∈ binds, scope.names.lookup y.1 = some .local)
    (h : ∀ g L' h₁, Fr h₀ L g m → Fr g L' h₁ (fun y => binds.reverse.lookup y) → News g L' h₁ [] → Below A base (env :: outer) g → K.In g → Top p loose mean mg mb g →
      wpAny (model prog w) (A.deeper (envOf qual scope L' f cdv)) (execs body (envOf qual scope L' f cdv))
        (fun fl s' => LeaveK h₀ L m g R₂ (match fl with | .ret v => v | _ => .none) s')
        (fun e s' => wpAny (model prog w) (A.deeper (envOf qual scope L' f cdv)) (leaving (envOf qual scope L' f cdv) e) (fun _ s'' => R₂ (.error e) s'') (fun e' s'' => R₂ (.error e') s'') s')
        { s with heap := h₁, toks := s.toks + binds.length })
    (hco : scope.isCoroutine = false) (hgen : scope.isGenerator = false) (hk : scope.kind = .function)
    (hcell : ∀ x ∈ scope.names, x.2 ≠ .cell) : codeAny (model prog w) A (.call (.ref f) args) R s := by
  have N : News h₀ L s.heap [] := fun _ hp => nomatch hp
  obtain ⟨FG, BG, st, lv⟩ := groundX (R := R₂) B F N hA hf hke
  refine codeAny_call_def (fd := fnOf name qual params body scope dV kV doc pm an cdv ct) (body := body) (binds := binds) hroom ((X₀.keeps F.keep) _ _ ho) rfl (T.nolimit.keeps F.keep) (codeRec_of (X₀.keeps F.keep) hcd) rfl hbind hcell hloc (fun h₁ hns hk₁ => ?_) hco hgen hk
  refine wpAny_mono (h s.heap s.heap.objs.size h₁ F ⟨hns, hk₁, Nat.le_refl _⟩ (fun _ hp => nomatch hp) BG (X₀.keeps st) (T.keeps st)) (fun fl s' hl => ?_) (fun e s' hw => ?_)
  · have keep : ∀ b o, s.heap.get? b = some o → s'.heap.get? b = some o := by
      obtain ⟨L', m', news', F', _, _⟩ := hl
      exact F'.keep
    exact hR _ _ (lv _ _ hl) keep
  · exact wpAny_mono hw (fun _ s'' x => (hRe _ _ x).elim) (fun _ s'' x => (hRe _ _ x).elim)
end
theorem own_R {V : Int} {h₀ : Heap} {L : Addr} {m : Str → Option Value} {news : List (Addr × Obj)} {s : Shared} {Q E : Value → Shared → Prop} (F : Fr h₀ L s.heap m) (N : News h₀ L s.heap news)
    (hret : ∀ (t : Tok) (h' : Heap) (tk' : Nat), Fr h₀ L h' m → News h₀ L h' news → Q (.int V t) { s with heap := h', toks := tk' }) :
    ∀ r s', OwnRet V s r s' → (∀ b o, s.heap.get? b = some o → s'.heap.get? b = some o) → (match r with | .ok (.ret v) => Q v s' | .ok _ => False | .error e => E e s') := by
  rintro r s' ⟨t, h', tk', rfl, rfl⟩ keep
  exact hret t h' tk' (F.keeps keep) fun p hp => ⟨keep _ _ (N p hp).1, (N p hp).2⟩
theorem own_Re {V : Int} {s : Shared} : ∀ e s', OwnRet V s (.error e) s' → False := by
  rintro e s' ⟨t, h', tk', e', _⟩
  cases e'
end Mine
end
-- Rng
section
open PySem.Calls PyProof.V PySem.Spec
namespace Mine
def stepKs (a c : Int) (n : Nat) : List Int := (List.range n).map fun (i : Nat) => a + (i : Int) * c
theorem stepKs_length (a c : Int) (n : Nat) : (stepKs a c n).length = n := by simp [stepKs]
theorem kstB_out {x : Str} {L : Addr} {h₀ h : Heap} {ps : List (Str × Value)} {stored : List Str} {m₀ m₁ : Str → Option Value} (h1 : ∀ p ∈ ps, m₁ p.1 = some p.2) (h2 : ∀ z, z ≠ x → (∀ p ∈ ps, z ≠ p.1) → stored.contains z = false → m₁ z = m₀ z)
    (F : Fr h₀ L h m₁) : Fr h₀ L h (kstB (fun z => if z = x then m₁ z else if stored.contains z then m₁ z else m₀ z) ps) := by
  have em : kstB (fun z => if z = x then m₁ z else if stored.contains z then m₁ z else m₀ z) ps = m₁ := by
    funext z
    refine kstB_eq h1 fun hn => ?_
    by_cases hx : z = x
    · rw [if_pos hx]
    · rw [if_neg hx]
      cases h3 : stored.contains z with
      | true => rfl
      | false => exact (h2 z hx hn h3).symm
  rw [em]
  exact F
section
variable {prog : Program} {w : World} {A : Around} {E : Value → Shared → Prop} {s : Shared} {env : Env} {h₀ : Heap} {x : Str} {body : List Stmt} {Q : Flow → Shared → Prop}
/-- a loop over a range of any step, by what holds of the ints taken; the loop's own name may be a letter too -/
theorem rng_inv {σ : Type} {r : Addr} {a₀ b₀ c : Int} {t₀ u₀ v₀ : Tok} {n : Nat} {m₀ : Str → Option Value} (Led : σ → List (Addr × Obj)) (ps : σ → List (Str × Value)) (Facts : σ → Prop) (stored : List Str) (P : List Int → σ → Prop) (c₀ : σ)
    (hh : A.handled = none) (hr : IsRange s.heap r a₀ b₀ c t₀ u₀ v₀) (hsmall : Builtin.Range.small a₀ b₀ c = true) (hn : Builtin.Range.rangeSize a₀ b₀ c = (n : Int)) (F : Fr h₀ env.locals s.heap m₀) (N : News h₀ env.locals s.heap (Led c₀)) (hf : Facts c₀) (hk : ∀ p ∈ ps c₀, m₀ p.1 = some p.2) (hp : P [] c₀)
    (turn : ∀ (cc : σ) (pre : List Int) (k : Int) t (u : Str → Option Value) h tk own, k = a₀ + (pre.length : Int) * c → pre.length < n → OwnOff own ((Led c₀).map (·.1)) → Facts cc → P pre cc →
      Fr h₀ env.locals h (fun y => if y = x then some (.int k t) else kstB (fun z => if stored.contains z then u z else m₀ z) (ps cc) y) → News h₀ env.locals h (Led cc ++ own) →
      wpAny (model prog w) A (execs body env) (InvPostN h₀ env.locals (KstS Led ps Facts x stored m₀ P (pre ++ [k])) own ((Led c₀).map (·.1)) { s with heap := h, toks := tk } Q) E { s with heap := h, toks := tk })
    (done : ∀ (cc : σ) (u : Str → Option Value) h tk, Facts cc → P (stepKs a₀ c n) cc → Fr h₀ env.locals h (kstB (fun z => if z = x then u z else if stored.contains z then u z else m₀ z) (ps cc)) → News h₀ env.locals h (Led cc) → Q .next { s with heap := h, toks := tk }) :
    wpAny (model prog w) A (pyIter (.ref r)) (fun it s₂ => LoopAtV prog w A h₀ env x body Q E it s₂) E s := by
  refine wpAny_pyIter_range hr hsmall ?_
  have W : Walks prog w A s.heap.objs.size [s.heap.objs.size] [s.heap.objs.size] n (fun i v => i < n ∧ ∃ t, v = .int (a₀ + i * c) t)
      (fun i h => IsRangeIter h s.heap.objs.size (a₀ + (i : Nat) * c) ((n : Int) - (i : Nat)) c) := (Walks.range hh _ a₀ c n).bound
  refine loop_invN (fun i m nx => KstS Led ps Facts x stored m₀ P ((stepKs a₀ c n).take i) m nx) W ?_ ?_ ?_ ?_ (by show IsRangeIter _ _ _ _ _; rw [hn]; simpa using Heap.get?_push_size _ rfl) (F.push _) (fun p hp => ⟨Heap.get?_push_of_some _ (N p hp).1, (N p hp).2⟩) ⟨c₀, rfl, hf, hk, fun _ _ _ _ => rfl, by simpa using hp⟩ ?_ ?_
  · exact fun hm => absurd F.ns.lt ((List.mem_singleton.mp hm) ▸ Nat.lt_irrefl _)
  · intro b hb
    rw [List.mem_singleton.mp hb]
    exact next_is_new F
  · exact fun p hp hI => absurd (Heap.lt_size (N p hp).1) ((List.mem_singleton.mp hI) ▸ Nat.lt_irrefl _)
  · exact fun p hp hI => absurd (Heap.lt_size (N p hp).1) ((List.mem_singleton.mp hI) ▸ Nat.lt_irrefl _)
  · rintro i v m₁ nx h tk own hi ⟨_, t, rfl⟩ _ hoff ⟨cc, rfl, hf', h1, h2, hp'⟩ F₁ N₁
    have hk' : (stepKs a₀ c n)[i]? = some (a₀ + (i : Int) * c) := by simp [stepKs, hi]
    have hs : (stepKs a₀ c n).take (i + 1) = (stepKs a₀ c n).take i ++ [a₀ + (i : Int) * c] := by simp [List.take_add_one, hk']
    have hlen : ((stepKs a₀ c n).take i).length = i := by rw [List.length_take, stepKs_length]; omega
    rw [hs]
    exact turn cc _ _ t m₁ h tk own (by rw [hlen]) (by rw [hlen]; exact hi) hoff hf' hp' (kst_fr h1 h2 F₁) N₁
  · rintro m₁ nx h tk ⟨cc, rfl, hf', h1, h2, hp'⟩ F₁ N₁
    have hl : (stepKs a₀ c n).take n = stepKs a₀ c n := List.take_of_length_le (Nat.le_of_eq (stepKs_length _ _ _))
    rw [hl] at hp'
    exact done cc m₁ h tk hf' hp' (kstB_out h1 h2 F₁) N₁
end
theorem small_euA {m : Int} (h : 0 ≤ m ∧ m ≤ 19) : Builtin.Range.small 1 (m + 1) 1 = true := small_one (by omega) (by omega) (by omega) (by omega)
theorem size_euB {n : Int} (h : 0 ≤ n) : Builtin.Range.rangeSize (n + 1) (-1) (-2) = (((n + 1) / 2 + 1).toNat : Int) := by
  unfold Builtin.Range.rangeSize
  simp only [show ¬ ((-2 : Int) > 0) by decide, if_false]
  rw [if_pos (by omega)]
  simp only [show (-(-2) : Int) = 2 from rfl]
  omega
theorem small_euB {n : Int} (h : 0 ≤ n ∧ n ≤ 19) : Builtin.Range.small (n + 1) (-1) (-2) = true := by
  obtain ⟨n, rfl⟩ := Int.eq_ofNat_of_zero_le h.1
  have key : ∀ i : Nat, i ≤ 19 → Builtin.Range.small ((i : Int) + 1) (-1) (-2) = true := by decide +kernel
  exact key n (by omega)
end Mine
end
-- C5
namespace Mine
local macro_rules | `(tactic| walk_at "pyIter ref") => `(tactic| k_extra "pyIter ref")
local macro_rules | `(tactic| walk_at "no such key") => `(tactic| fail)
local macro_rules | `(tactic| walk_at "no such key") => `(tactic| fail)
def stA (a : List Int) (j : Int) : List Int := a.set (j + 1).toNat ((j - 1) * a.getD j.toNat 0 + (j + 1) * a.getD (j + 2).toNat 0)
def suA (a : List Int) (s : Int) (k : Int) : Int := s + a.getD (k + 1).toNat 0
def js (n : Int) : List Int := stepKs (n + 1) (-2) ((n + 1) / 2 + 1).toNat
def aR : Nat → List Int
  | 0 => [0, 0, 1, 0, 0, 0]
  | i + 1 => (js ((i : Int) + 1)).foldl stA (aR i) ++ [0]
def suE : Nat → Int
  | 0 => 1
  | i + 1 => (js ((i : Int) + 1)).foldl (suA (aR (i + 1))) 0
def eu (m : Int) : Int := if Builtin.bitAnd m 1 ≠ 0 then 0 else ((-1) ^ (m.fdiv 2).toNat * suE m.toNat).fdiv (2 ^ m.toNat)
abbrev SO : Type := Int × Nat × List Value × List Int × Nat × Int × Nat
abbrev ledO (D : Addr) (rest : List (Addr × Obj)) : SO → List (Addr × Obj) := fun c => (D, W.listOf c.2.2.1.toArray c.2.2.2.2.1) :: rest
abbrev psO : SO → List (Str × Value) := fun c => [(Str.ofString "n", .int c.1 c.2.1), (Str.ofString "suma", .int c.2.2.2.2.2.1 c.2.2.2.2.2.2)]
abbrev faO : SO → Prop := fun c => IntsAre c.2.2.1 c.2.2.2.1
abbrev pO (m : Int) : List Int → SO → Prop := fun pre c => c.1 = (if pre.length = 0 then m else (pre.length : Int)) ∧ c.2.2.2.1 = aR pre.length ∧ c.2.2.2.1.length = 6 + pre.length ∧ c.2.2.2.2.2.1 = suE pre.length
abbrev SI : Type := List Value × List Int × Nat
abbrev ledI (D : Addr) (rest : List (Addr × Obj)) : SI → List (Addr × Obj) := fun c => (D, W.listOf c.1.toArray c.2.2) :: rest
abbrev faI : SI → Prop := fun c => IntsAre c.1 c.2.1
abbrev pI (a : List Int) : List Int → SI → Prop := fun pre c => c.2.1 = pre.foldl stA a ∧ c.2.1.length = a.length
abbrev SJ : Type := Int × Nat
abbrev ledJ (led : List (Addr × Obj)) : SJ → List (Addr × Obj) := fun _ => led
abbrev psJ : SJ → List (Str × Value) := fun c => [(Str.ofString "suma", .int c.1 c.2)]
abbrev pJ (a : List Int) : List Int → SJ → Prop := fun pre c => c.1 = pre.foldl (suA a) 0
theorem eu_nv {n nv : Int} (hp : 0 ≤ n ∧ n ≤ 19) (h : nv = (if (stepKs 1 1 (n + 1 - 1).toNat).length = 0 then n else ((stepKs 1 1 (n + 1 - 1).toNat).length : Int))) : nv = n := by
  rw [stepKs_length] at h
  split at h <;> omega
theorem eu_sj {a ns pre : List Int} {j : Int} (h1 : ns = pre.foldl stA a) (h2 : ns.length = a.length) :
    ns.set (j + 1).toNat ((j - 1) * ns.getD j.toNat 0 + (j + 1) * ns.getD (j + 2).toNat 0) = (pre ++ [j]).foldl stA a ∧ (ns.set (j + 1).toNat ((j - 1) * ns.getD j.toNat 0 + (j + 1) * ns.getD (j + 2).toNat 0)).length = a.length :=
  ⟨by rw [List.foldl_append, ← h1]; rfl, by rw [List.length_set]; exact h2⟩
theorem eu_sk {a pre : List Int} {k s : Int} (h1 : s = pre.foldl (suA a) 0) : s + a.getD (k + 1).toNat 0 = (pre ++ [k]).foldl (suA a) 0 := by
  rw [List.foldl_append, ← h1]; rfl
theorem eu_so {n k s : Int} {pre ns ns1 : List Int} (hk : k = 1 + (pre.length : Int) * 1) (h1 : ns = aR pre.length) (h2 : ns.length = 6 + pre.length) (h3 : ns1 = (stepKs (k + 1) (-2) ((k + 1) / 2 + 1).toNat).foldl stA ns) (h4 : ns1.length = ns.length)
    (h5 : s = (stepKs (k + 1) (-2) ((k + 1) / 2 + 1).toNat).foldl (suA (ns1 ++ [0])) 0) :
    k = (if (pre ++ [k]).length = 0 then n else ((pre ++ [k]).length : Int)) ∧ ns1 ++ [0] = aR (pre ++ [k]).length ∧ (ns1 ++ [0]).length = 6 + (pre ++ [k]).length ∧ s = suE (pre ++ [k]).length := by
  have e : k = (pre.length : Int) + 1 := by omega
  subst h1
  have ea : ns1 ++ [0] = aR (pre ++ [k]).length := by
    rw [h3, e, List.length_append]; rfl
  refine ⟨?_, ea, ?_, ?_⟩
  · rw [if_neg (by simp), List.length_append]; simp; omega
  · rw [List.length_append, List.length_append, h4, h2]; simp; omega
  · rw [h5, ea, e, List.length_append]; rfl
theorem eu_p1 {n : Int} (hp : 0 ≤ n ∧ n ≤ 19) : 0 ≤ n.fdiv 2 ∧ n.fdiv 2 ≤ 1000000 := by
  rw [Int.fdiv_eq_ediv_of_nonneg _ (by decide)]
  omega
theorem eu_2ne (n : Nat) : (2 : Int) ^ n ≠ 0 := Int.ne_of_gt (Int.pow_pos (by decide))
theorem eu_2log {n : Int} (hp : 0 ≤ n ∧ n ≤ 19) : ((2 : Int) ^ n.toNat).natAbs.log2 < 9000 := by
  have key : ∀ i : Nat, i ≤ 19 → ((2 : Int) ^ i).natAbs.log2 < 9000 := by decide +kernel
  exact key _ (by omega)
theorem negpow_ok2 (e : Nat) (b : Int) : IntMulOk ((-1) ^ e) b := by
  refine IntMulOk.of_left (bits_of_lt ?_)
  rw [Int.natAbs_pow]
  simp
theorem eu_e1 {n : Int} (h : Builtin.bitAnd n 1 ≠ 0) : 0 = eu n := by rw [eu, if_pos h]
theorem eu_e2 {n s : Int} (h : Builtin.bitAnd n 1 = 0) (hs : s = suE (stepKs 1 1 (n + 1 - 1).toNat).length) : ((-1) ^ (n.fdiv 2).toNat * s).fdiv (2 ^ n.toNat) = eu n := by
  rw [eu, if_neg (fun h' => h' h), hs, stepKs_length]
  rw [show n + 1 - 1 = n by omega]
local macro_rules | `(tactic| mul_fits) => `(tactic| exact negpow_ok2 _ _)
local macro_rules | `(tactic| walk_at "binaryOp Pow int int") => `(tactic| (k_here; (with_reducible refine pow_int_small ?ka ?kb ?kc ?_); (case ka => first | exact (eu_p1 (by assumption)).1 | omega); (case kb => first | exact (eu_p1 (by assumption)).2 | omega); (case kc => decide)))
local macro_rules | `(tactic| walk_at "binaryOp FloorDiv int int") => `(tactic| (k_here; (with_reducible refine floordiv_int ?kbe ?_ (Or.inl (PyProof.noPylong_of_log2 ?kbp))); (case kbe => first | exact eu_2ne _ | decide); (case kbp => first | exact eu_2log (by assumption) | decide)))
theorem sub_I {x b : Addr × Obj} {own more : List (Addr × Obj)} : ∀ p ∈ x :: b :: own, p ∈ x :: b :: (own ++ more) := fun p hp =>
  (List.mem_cons.mp hp).elim (fun h => h ▸ .head _) fun h => .tail _ ((List.mem_cons.mp h).elim (fun h => h ▸ .head _) fun h => .tail _ (List.mem_append_left _ h))
theorem sub_O {x b : Addr × Obj} {own : List (Addr × Obj)} : ∀ p ∈ [x, b], p ∈ x :: b :: own := fun p hp =>
  (List.mem_cons.mp hp).elim (fun h => h ▸ .head _) fun h => .tail _ ((List.mem_singleton.mp h) ▸ .head _)
theorem sub_own {x b : Addr × Obj} {own more : List (Addr × Obj)} : ∀ p ∈ more, p ∈ x :: b :: (own ++ more) := fun _ hp => .tail _ (.tail _ (List.mem_append_right _ hp))
theorem sub_own0 {x b : Addr × Obj} {more : List (Addr × Obj)} : ∀ p ∈ more, p ∈ x :: b :: more := fun _ hp => .tail _ (.tail _ hp)
theorem hr_I {x z : Str} {v : Option Value} {u m₀ : Str → Option Value} (h1 : z ≠ x) : (fun y => if y = x then v else kstB (fun z => if ([] : List Str).contains z = true then u z else m₀ z) [] y) z = m₀ z := by
  show ite _ _ _ = _; rw [if_neg h1]; rfl
theorem hr_J {x su z : Str} {v v2 : Option Value} {w w' : Value} {u m₀ : Str → Option Value} (h1 : z ≠ x) (h2 : ∀ p ∈ [(su, w')], z ≠ p.1) : (fun y => if y = su then v2 else (if y = x then v else kstB (fun z => if ([] : List Str).contains z = true then u z else m₀ z) [(su, w)] y)) z = m₀ z := by
  have h3 : z ≠ su := h2 _ (.head _)
  show ite _ _ (ite _ _ (ite _ _ _)) = _; rw [if_neg h3, if_neg h1, if_neg h3]; rfl
theorem hr_O {n su j k z : Str} {u u1 u2 m₀ : Str → Option Value} {a b : Option Value} {c d e c' d' : Value} (h1 : z ≠ n) (h2 : ∀ p ∈ [(n, c'), (su, d')], z ≠ p.1) (h3 : [j, k].contains z = false) :
    kstB (fun z => if z = k then u2 z else if ([] : List Str).contains z = true then u2 z else (if z = su then a else kstB (fun z => if z = j then u1 z else if ([] : List Str).contains z = true then u1 z else (if z = n then b else kstB (fun z => if [j, k].contains z = true then u z else m₀ z) [(n, c), (su, d)] z)) [] z)) [(su, e)] z = m₀ z := by
  have h4 : z ≠ su := h2 _ (.tail _ (.head _))
  have h5 : z ≠ j ∧ z ≠ k := by simpa using h3
  simp [kstB, h1, h4, h5.1, h5.2]
local macro_rules | `(tactic| walk_at "InvEndN") => `(tactic| k_dflt ((rename News _ _ _ _ => nE'); (try simp only [List.push_toArray] at nE'); (first | (refine' kst_end (σ := SI) ⟨_, _, _⟩ ?F nE' ?hn ?ho ?ha ?hf ?hk ?hr ?hp) | (refine' kst_end (σ := SJ) ⟨_, _⟩ ?F nE' ?hn ?ho ?ha ?hf ?hk ?hr ?hp) | (refine' kst_end (σ := SO) ⟨_, _, _, _, _, _, _⟩ ?F nE' ?hn ?ho ?ha ?hf ?hk ?hr ?hp)); (case F => assumption); (case hn => ((first | exact sub_I | exact sub_O))); (case ho => ((first | exact sub_own | exact sub_own0))); (case ha => ((rfl))); (case hf => ((first | trivial | ((try dsimp only); assumption) | ((try dsimp only); exact IntsAre.append (by assumption) (.cons _ _ .nil))))); (case hk => kst_all); (case hr => (intro z h1 h2 h3; (first | exact hr_I h1 | exact hr_J h1 h2 | exact hr_O h1 h2 h3))); (case hp => ((try dsimp only); (k_extra "state"))))) 
theorem c_eu (n : Int) (t : Tok) : Con 1 8 26 (0 ≤ n ∧ n ≤ 19) [.int n t] (fun t => .int (eu n) t) := by
  w_top off
  unfold Con; dsimp only [CbRet]; k_fill; intros; rename_i hN hT hK hp hd hu hret; have hMk := kstMark; refine wpAny_call ?_
  k_dflt (refine' code_own (OwnRet (eu n) _) (own_R (by assumption) (by assumption) hret) own_Re ?k1 ?k2 ?k3 ?k5 ?kA ?kF ?kK ?k6 ?k7 ?k8 ?k9 ?kB ?_ ?c2 ?c3 ?c4 ?c5; (case kA => exact rfl); (case kF => exact rfl); (case kK => assumption); (case k1 => k_asm); (case k2 => k_asm); (case k3 => k_asm); (case k5 => k_asm); (case k6 => k_is); (case k7 => k_is); (case k8 => ktr_room); (case k9 => exact BindsTo.of_eq rfl); (case c5 => decide); (case kB => exact locs rfl); (case c2 => exact rfl); (case c3 => exact rfl); (case c4 => exact rfl); k_whole; clear hret hN; intro g' L' h' FG' F' N' B' X' T'; (try dsimp only); (try k_lift B'); (try k_fold))
  k_with_none
  (k_with "pyIter ref" => (k_of "n" => (
    (rename Fr _ _ _ _ => lF')
    (rename News _ _ _ _ => lN')
    (rename IsRange _ _ _ _ _ _ _ _ => rgX)
    (with_unfolding_all refine' rng_inv (ledO _ _) psO faO [Str.ofString "j", Str.ofString "k"] (pO n) ⟨_, _, _, _, _, _, _⟩ (by rfl) rgX (small_euA hp) (rangeSize_nat _ _) lF' lN' ?kf ?kk ?kp ?_ ?_)
    case kf => ((with_unfolding_all exact .cons _ _ (.cons _ _ (.cons _ _ (.cons _ _ (.cons _ _ (.cons _ _ .nil)))))))
    case kk => ((kst_all))
    case kp => ((with_unfolding_all exact ⟨rfl, rfl, rfl, rfl⟩))
    all_goals (try clear lF' lN')
    focus (rintro ⟨nv, nt, vs, ns, cap, sm, smt⟩ pre k t u h tk own hkk hkl hoff hff ⟨hp1, hp2, hp3, hp4⟩ lF lN)
    rotate_left
    focus (rintro ⟨nv, nt, vs, ns, cap, sm, smt⟩ u h tk hff ⟨hp1, hp2, hp3, hp4⟩ lF lN; have hnv := eu_nv hp hp1; dsimp only at hnv; subst hnv; clear hp1)
    rotate_left
    all_goals (try dsimp only [ledO, ledI, ledJ, psO, psJ, faO, faI] at *)
    all_goals (try simp only [List.append_eq, List.cons_append, List.nil_append] at lN)
    all_goals (try simp only [List.append_eq, List.cons_append, List.nil_append] at hoff)
    skip)))
  (k_with "pyIter ref" => (k_of "j" => (
    (rename Fr _ _ _ _ => lF')
    (rename News _ _ _ _ => lN')
    (rename IsRange _ _ _ _ _ _ _ _ => rgX)
    (with_unfolding_all refine' rng_inv (ledI _ _) (fun _ => []) faI [] (pI ns) ⟨_, _, _⟩ (by rfl) rgX (small_euB (by omega)) (size_euB (by omega)) lF' lN' ?kf ?kk ?kp ?_ ?_)
    case kf => ((with_unfolding_all assumption))
    case kk => ((kst_all))
    case kp => ((with_unfolding_all exact ⟨rfl, rfl⟩))
    all_goals (try clear lF' lN')
    focus (rintro ⟨vs1, ns1, cap1⟩ pre k t u h tk own hkk hkl hoff hff ⟨hp1, hp2⟩ lF lN)
    rotate_left
    focus (rintro ⟨vs1, ns1, cap1⟩ u h tk hff ⟨hp1, hp2⟩ lF lN)
    rotate_left
    all_goals (try dsimp only [ledO, ledI, ledJ, psO, psJ, faO, faI] at *)
    all_goals (try simp only [List.append_eq, List.cons_append, List.nil_append] at lN)
    all_goals (try simp only [List.append_eq, List.cons_append, List.nil_append] at hoff)
    skip)))
  (k_with "pyIter ref" => (k_of "k" => (
    (rename Fr _ _ _ _ => lF')
    (rename News _ _ _ _ => lN')
    (try simp only [List.push_toArray] at lN')
    (rename IsRange _ _ _ _ _ _ _ _ => rgX)
    (with_unfolding_all refine' rng_inv (ledJ _) psJ (fun _ => True) [] (pJ (ns1 ++ [0])) ⟨_, _⟩ (by rfl) rgX (small_euB (by omega)) (size_euB (by omega)) lF' lN' trivial ?kk ?kp ?_ ?_)
    case kk => ((kst_all))
    case kp => ((with_unfolding_all exact rfl))
    all_goals (try clear lF' lN')
    focus (rintro ⟨sm, smt⟩ pre k t u h tk own hkk hkl hoff hff hp1 lF lN)
    rotate_left
    focus (rintro ⟨sm, smt⟩ u h tk hff hp1 lF lN)
    rotate_left
    all_goals (try dsimp only [ledO, ledI, ledJ, psO, psJ, faO, faI] at *)
    all_goals (try simp only [List.append_eq, List.cons_append, List.nil_append] at lN)
    all_goals (try simp only [List.append_eq, List.cons_append, List.nil_append] at hoff)
    skip)))
  (k_with "state" => (first | exact eu_sj (by assumption) (by assumption) | exact eu_sk (by assumption) | exact eu_so (by assumption) (by assumption) (by assumption) (by assumption) (by assumption) (by assumption)))
  k_steps
  all_goals exact own_end (by first | exact eu_e1 (by assumption) | exact eu_e2 (by assumption) (by assumption))
end Mine
-- ForC
section
open PySem.Calls PyProof.V PySem.Spec
namespace Mine
def IsCell (o : Obj) : Prop := ∃ c, o.data = .cell c
/-- a turn's end: the frame as it was, the ledger as it was but for one cell -/
def CellPost (h₀ : Heap) (L : Addr) (m₀ : Str → Option Value) (pre post own : List (Addr × Obj)) (cx : Addr) (s : Shared) (Q : Flow → Shared → Prop) (f : Flow) (s' : Shared) : Prop :=
  match f with
  | .ret v => Q (.ret v) s'
  | .brk => Q .next s'
  | _ => ∃ h' tk' ox, s' = { s with heap := h', toks := tk' } ∧ IsCell ox ∧ Fr h₀ L h' m₀ ∧ News h₀ L h' (pre ++ (cx, ox) :: post) ∧ ∀ p ∈ own, h'.get? p.1 = some p.2
theorem CellPost.intro {h₀ : Heap} {L : Addr} {m₀ : Str → Option Value} {pre post own news : List (Addr × Obj)} {cx : Addr} {ox : Obj} {s : Shared} {Q : Flow → Shared → Prop} {h' : Heap} {tk' : Nat} (F : Fr h₀ L h' m₀) (N : News h₀ L h' news)
    (hs : ∀ p ∈ pre ++ (cx, ox) :: post, p ∈ news) (ho : ∀ p ∈ own, p ∈ news) {c : Option Value} (hc : ox.data = .cell c) : CellPost h₀ L m₀ pre post own cx s Q .next { s with heap := h', toks := tk' } :=
  ⟨h', tk', ox, rfl, ⟨c, hc⟩, F, fun p hp => N p (hs p hp), fun p hp => (N p (ho p hp)).1⟩
section
variable {prog : Program} {w : World} {A : Around} {E : Value → Shared → Prop} {s : Shared} {env : Env} {h₀ : Heap} {body : List Stmt} {Q : Flow → Shared → Prop}
theorem for_cell {x : Str} {px : Pos} {l cx : Addr} {vs : List Value} {nn : Nat} {m₀ : Str → Option Value} {pre post : List (Addr × Obj)} {ox₀ : Obj} (hh : A.handled = none) (F : Fr h₀ env.locals s.heap m₀)
    (Nl : News h₀ env.locals s.heap [(l, W.listOf vs.toArray nn)]) (N : News h₀ env.locals s.heap (pre ++ (cx, ox₀) :: post)) (hc : IsCell ox₀) (hoff : ∀ p ∈ pre ++ (cx, ox₀) :: post, p.1 ≠ l)
    (turn : ∀ v ox I oI ol h tk, v ∈ vs → IsCell ox → (∀ p ∈ pre ++ (cx, ox) :: post, @Ne Nat p.1 I) → @Ne Nat l I → Fr h₀ env.locals h m₀ → News h₀ env.locals h ((I, oI) :: (l, ol) :: (pre ++ (cx, ox) :: post)) →
      wpAny (model prog w) A (assign (.Name x px) env v) (fun _ s₃ => wpAny (model prog w) A (execs body env) (CellPost h₀ env.locals m₀ pre post [(I, oI), (l, ol)] cx { s with heap := h, toks := tk } Q) E s₃) E { s with heap := h, toks := tk })
    (done : ∀ h tk ox, IsCell ox → Fr h₀ env.locals h m₀ → News h₀ env.locals h (pre ++ (cx, ox) :: post) → Q .next { s with heap := h, toks := tk }) :
    wpAny (model prog w) A (pyIter (.ref l)) (fun it s₂ => TurnsAt prog w A h₀ env (.Name x px) body Q E it s₂) E s := by
  have hax := Nl _ (.head _)
  have hl : s.heap.IsList l vs.toArray := ⟨_, hax.1, rfl, nn, rfl⟩
  have hlt : l < s.heap.objs.size := Heap.lt_size hax.1
  have hne : l ≠ s.heap.objs.size := Nat.ne_of_lt hlt
  refine wpAny_pyIter_list hl ?_
  have adr : ∀ ox : Obj, (pre ++ (cx, ox) :: post).map (·.1) = pre.map (·.1) ++ cx :: post.map (·.1) := fun ox => by simp
  have small : ∀ b ∈ pre.map (·.1) ++ cx :: post.map (·.1), b ≠ s.heap.objs.size ∧ b ≠ l := fun b hb => by
    rw [← adr ox₀] at hb
    obtain ⟨p, hp, rfl⟩ := List.mem_map.mp hb
    exact ⟨Nat.ne_of_lt (Heap.lt_size (N p hp).1), hoff p hp⟩
  have offI : ∀ (ox : Obj), ∀ p ∈ pre ++ (cx, ox) :: post, p.1 ∉ [s.heap.objs.size] := fun ox p hp hm =>
    (small p.1 (by rw [← adr ox]; exact List.mem_map_of_mem hp)).1 (List.mem_singleton.mp hm)
  let J : Nat → (Str → Option Value) → List (Addr × Obj) → Prop := fun _ m nx => m = m₀ ∧ ∃ ox, IsCell ox ∧ nx = pre ++ (cx, ox) :: post
  have W := KTurns.ofWalks (target := .Name x px) (Walks.list (prog := prog) (w := w) hh s.heap.objs.size l hne vs.toArray) fun i v s Q E st q => letGo_listiter st.1 q
  refine ⟨s.heap.objs.size, _, _, vs.toArray.size, _, _, _, m₀, pre ++ (cx, ox₀) :: post, J, rfl, W, ?_, ?_, offI ox₀, ⟨⟨_, Heap.get?_push_size _ rfl, rfl, rfl⟩, hl.at fun o e => Heap.get?_push_of_some _ e⟩, F.push _, (fun p hp => ⟨Heap.get?_push_of_some _ (N p hp).1, (N p hp).2⟩), ⟨rfl, ox₀, hc, rfl⟩, ?_, ?_⟩
  · intro hI
    rcases List.mem_cons.mp hI with e | hI
    · exact absurd F.ns.lt (e ▸ Nat.lt_irrefl _)
    · exact hax.2.1 (List.mem_singleton.mp hI).symm
  · intro b hb
    rw [List.mem_singleton.mp hb]
    exact next_is_new F
  · rintro i v m₁ news₁ h₁ tk₁ own hi hP ⟨rfl, ox, hox, rfl⟩ _ hown hget hall hst F₁ N₁
    have hv : v ∈ vs := by
      have hP' : vs[i]? = some v := by simpa using hP
      exact List.mem_of_getElem? hP'
    obtain ⟨oI, hoI, hoI2⟩ := hst.1
    have hI₀ : h₀.get? s.heap.objs.size = none := next_is_new F
    have hl₀ : h₀.get? l = none := hax.2.2
    have hIL : s.heap.objs.size ≠ env.locals := fun e => absurd F.ns.lt (e ▸ Nat.lt_irrefl _)
    obtain ⟨ol, hl₁, _⟩ := hst.2
    have N₂ : News h₀ env.locals h₁ ((s.heap.objs.size, oI) :: (l, ol) :: (pre ++ (cx, ox) :: post)) := fun p hp => by
      rcases List.mem_cons.mp hp with rfl | hp
      · exact ⟨hoI, hIL, hI₀⟩
      · rcases List.mem_cons.mp hp with rfl | hp
        · exact ⟨hl₁, hax.2.1, hl₀⟩
        · exact N₁ p (List.mem_append.mpr (.inr hp))
    refine wpAny_mono (turn v ox s.heap.objs.size oI ol h₁ tk₁ hv hox (fun p hp => (small p.1 (by rw [← adr ox]; exact List.mem_map_of_mem hp)).1) hne F₁ N₂) (fun _ s₃ h₃ => wpAny_mono h₃ (fun f s₄ p => ?_) fun _ _ e => e) fun _ _ e => e
    have fin : (∃ h' tk' ox, s₄ = { s with heap := h', toks := tk' } ∧ IsCell ox ∧ Fr h₀ env.locals h' m₁ ∧ News h₀ env.locals h' (pre ++ (cx, ox) :: post) ∧ ∀ p ∈ [(s.heap.objs.size, oI), (l, ol)], h'.get? p.1 = some p.2) →
        LoopStepU h₀ env.locals [s.heap.objs.size] own (J (i + 1)) { s with heap := h₁, toks := tk₁ } .next s₄ := by
      rintro ⟨h', tk', ox', rfl, hox', F', N', K'⟩
      refine ⟨rfl, h', tk', m₁, pre ++ (cx, ox') :: post, rfl, F', fun p hp => ?_, offI ox', rfl, ox', hox', rfl⟩
      rcases List.mem_append.mp hp with hp | hp
      · have h1 := hget p hp
        have h2 := hown p hp
        refine ⟨?_, (N₁ p (List.mem_append.mpr (.inl hp))).2⟩
        rcases List.mem_cons.mp h2 with h3 | h3
        · have h4 : p.2 = oI := by rw [h3, hoI] at h1; exact (Option.some.inj h1).symm
          rw [h3, h4]; exact K' _ (.head _)
        · have h3 := List.mem_singleton.mp h3
          have h4 : p.2 = ol := by rw [h3, hl₁] at h1; exact (Option.some.inj h1).symm
          rw [h3, h4]; exact K' _ (.tail _ (.head _))
      · exact N' p hp
    cases f with
    | ret v => exact p
    | brk => exact p
    | next => exact fin p
    | cont => exact fin p
  · rintro h' tk m' news' F' N' _ ⟨rfl, ox, hox, rfl⟩
    exact done h' tk ox hox F' N'
end
end Mine
end
-- Cut
namespace Mine
/-- behind the first statement: a holds some int -/
def CutA (h₀ : Heap) (L : Addr) (m : Str → Option Value) (cells : List (Addr × Obj)) (s : Shared) (f : Flow) (s' : Shared) : Prop :=
  ∃ (a : Int) (t : Tok) (h' : Heap) (tk' : Nat), f = .next ∧ s' = { s with heap := h', toks := tk' } ∧ Fr h₀ L h' (fun y => if y = Str.ofString "a" then some (.int a t) else m y) ∧ News h₀ L h' cells
theorem CutA.intro {h₀ : Heap} {L : Addr} {m m' : Str → Option Value} {cells news : List (Addr × Obj)} {s : Shared} {h' : Heap} {tk' : Nat} {a : Int} {t : Tok}
    (F : Fr h₀ L h' m') (hm : m' = fun y => if y = Str.ofString "a" then some (.int a t) else m y) (N : News h₀ L h' news) (hn : ∀ p ∈ cells, p ∈ news) : CutA h₀ L m cells s .next { s with heap := h', toks := tk' } :=
  ⟨a, t, h', tk', rfl, rfl, hm ▸ F, fun p hp => N p (hn p hp)⟩
section
variable {M : Model} {A : Around} {E : Value → Shared → Prop} {s : Shared} {h₀ : Heap} {L : Addr} {m : Str → Option Value} {cells : List (Addr × Obj)} {Q : Flow → Shared → Prop} {T : Sem Flow}
theorem cutA (_F : Fr h₀ L s.heap m) (_N : News h₀ L s.heap cells) (h1 : wpAny M A T (CutA h₀ L m cells s) E s)
    (h2 : ∀ (a : Int) (t : Tok) (h' : Heap) (tk' : Nat), Fr h₀ L h' (fun y => if y = Str.ofString "a" then some (.int a t) else m y) → News h₀ L h' cells → Q .next { s with heap := h', toks := tk' }) : wpAny M A T Q E s :=
  wpAny_mono h1 (fun _ _ ⟨a, t, h', tk', e1, e2, F', N'⟩ => by subst e1; subst e2; exact h2 a t h' tk' F' N') fun _ _ x => x
end
theorem sub_skip {x : Addr × Obj} {l : List (Addr × Obj)} : ∀ p ∈ l, p ∈ x :: l := fun _ h => .tail _ h
theorem sub_self {l : List (Addr × Obj)} : ∀ p ∈ l, p ∈ l := fun _ h => h
theorem news_head {h₀ h : Heap} {L : Addr} {a : Addr × Obj} {l : List (Addr × Obj)} (N : News h₀ L h (a :: l)) : News h₀ L h [a] := fun p hp => N p ((List.mem_singleton.mp hp) ▸ .head _)
theorem news_pick {h₀ h : Heap} {L : Addr} {a b c d e f p q r s t u v w : Addr × Obj} (N : News h₀ L h [a, b, c, d, e, f, p, q, r, s, t, u, v, w]) : News h₀ L h ([p, q, r, s] ++ t :: [u, v, w]) := fun x hx => N x (.tail _ (.tail _ (.tail _ (.tail _ (.tail _ (.tail _ hx))))))
theorem ints_mem {vs : List Value} {ns : List Int} (hi : IntsAre vs ns) {v : Value} (hv : v ∈ vs) : ∃ n t, v = .int n t := by
  obtain ⟨i, hi'⟩ := List.mem_iff_getElem?.mp hv
  obtain ⟨k, t, e, _⟩ := IntsAre.at hi i v hi'
  exact ⟨k, t, e⟩
end Mine
-- XOps
namespace Mine
section
variable {prog : Program} {w : World} {A : Around} {E : Value → Shared → Prop} {s : Shared} {t u : Tok} {Q : Value → Shared → Prop}
theorem pow_1020 (h : Q (.int 100000000000000000000 s.toks) { s with toks := s.toks + 1 }) : wpAny (model prog w) A (binaryOp .Pow (.int 10 t) (.int 20 u)) Q E s :=
  pow_int_small (by decide) (by decide) (by decide) (by
    have e : (10 : Int) ^ (20 : Int).toNat = 100000000000000000000 := by decide
    rw [e]; exact h)
theorem mul_2x (h : Q (.int 200000000000000000000 s.toks) { s with toks := s.toks + 1 }) : wpAny (model prog w) A (binaryOp .Mult (.int 2 t) (.int 100000000000000000000 u)) Q E s :=
  mul_int (by exact h) (IntMulOk.of_left (by decide))
theorem mod_x {x : Int} (h : ∀ y, 0 ≤ y → y < 200000000000000000000 → Q (.int y s.toks) { s with toks := s.toks + 1 }) : wpAny (model prog w) A (binaryOp .Mod (.int x t) (.int 200000000000000000000 u)) Q E s :=
  PyProof.Rows.mod_int' (by decide) (h _ (fmod_lo x (by decide)) (fmod_hi x (by decide)))
end
theorem bits_x {x : Int} (hx : -100000000000000000000 ≤ x ∧ x ≤ 100000000000000000000) : Builtin.Int.intBits x ≤ 67 := bits_of_lt (by omega)
theorem powx_ok {x k : Int} (hx : -100000000000000000000 ≤ x ∧ x ≤ 100000000000000000000) (hk : 0 ≤ k ∧ k ≤ 9) : (Builtin.Int.intBits x : Int) * k ≤ 2 ^ 27 := by
  have h1 := bits_x hx
  have h2 : (Builtin.Int.intBits x : Int) * k ≤ 67 * k := Int.mul_le_mul_of_nonneg_right (by omega) hk.1
  omega
end Mine
namespace Mine
section
variable {prog : Program} {w : World} {A : Around} {E : Value → Shared → Prop} {s : Shared} {t u : Tok} {Q : Value → Shared → Prop}
theorem ne_int_eq {a b : Int} (h : a = b) (k : Q (.bool false) s) : wpAny (model prog w) A (compareOp .NotEq (.int a t) (.int b u)) Q E s :=
  PyProof.Rows.ne_int (by subst h; rw [bne_self_eq_false]; exact k)
end
end Mine
namespace Mine
section
variable {prog : Program} {w : World} {A : Around} {E : Value → Shared → Prop} {s : Shared} {h₀ : Heap} {L : Addr} {news : List (Addr × Obj)} {Q : Value → Shared → Prop}
theorem rangeKs_get {n : Nat} {k : Int} (h0 : 0 ≤ k) (h1 : k < (n : Int)) : (rangeKs 0 n)[k.toNat]? = some k := by
  have h2 : k.toNat < n := by omega
  simp only [rangeKs, List.getElem?_map, List.getElem?_range h2, Option.map_some]
  congr 1; omega
theorem item_map {value slice : PySem.Expr} {l : Addr} {ys : List Value} {c : Nat} {k : Int} {u : Tok} {f : Int → Int} {n : Nat} (N : News h₀ L s.heap news) (hm : (l, ({ cls := .type "list", data := .seq ys.toArray c } : Obj)) ∈ news)
    (hi : IntsAre ys (List.map f (rangeKs 0 n))) (h0 : 0 ≤ k) (h1 : k < (n : Int)) (h2 : k < 1000) (h : ∀ t, Q (.int (f k) t) s)
    (hs : subscripted slice false (.ref l) (.int k u) = operate [.ref l, .int k u] (getItem (.ref l) (.int k u)) := by with_unfolding_all rfl) :
    wpAny (model prog w) A (subscriptTail value slice (.ref l) (.int k u)) Q E s := by
  have hl : s.heap.IsList l ys.toArray := ⟨_, (N _ hm).1, rfl, c, rfl⟩
  have hx : (List.map f (rangeKs 0 n))[k.toNat]? = some (f k) := by rw [List.getElem?_map, rangeKs_get h0 h1]; rfl
  obtain ⟨t, ht⟩ := IntsAre.get hi k.toNat (f k) hx
  exact tail_any hl.typeIs slot_list_getitem.lookup (wpAny_getItem_list hl h0 (by omega) (by simpa using ht) (h t)) hs
end
end Mine
namespace Mine
section
variable {prog : Program} {w : World} {A : Around} {E : Value → Shared → Prop} {s : Shared} {h₀ : Heap} {L : Addr} {news : List (Addr × Obj)} {Q : Value → Shared → Prop}
theorem item_s {value slice : PySem.Expr} {l : Addr} {ys : List Value} {c : Nat} {n k : Int} {u : Tok} {f : Int → Int} (N : News h₀ L s.heap news) (hm : (l, ({ cls := .type "list", data := .seq ys.toArray c } : Obj)) ∈ news)
    (hi : IntsAre ys (List.map f (rangeKs 0 (n + 1 - 0).toNat))) (hn : 0 ≤ n ∧ n ≤ 9) (h0 : 0 ≤ k) (h1 : k < 0 + ((n + 1 - 0).toNat : Int)) (h : ∀ t, Q (.int (f k) t) s)
    (hs : subscripted slice false (.ref l) (.int k u) = operate [.ref l, .int k u] (getItem (.ref l) (.int k u)) := by with_unfolding_all rfl) :
    wpAny (model prog w) A (subscriptTail value slice (.ref l) (.int k u)) Q E s :=
  item_map N hm hi h0 (by omega) (by omega) h hs
theorem pow_xk {n k y : Int} {t u : Tok} (hy : 0 ≤ y) (hy' : y < 200000000000000000000) (hn : 0 ≤ n ∧ n ≤ 9) (h0 : 0 ≤ k) (h1 : k < 0 + ((n + 1 - 0).toNat : Int)) (h : Q (.int ((y - 100000000000000000000) ^ k.toNat) s.toks) { s with toks := s.toks + 1 }) :
    wpAny (model prog w) A (binaryOp .Pow (.int (y - 100000000000000000000) t) (.int k u)) Q E s :=
  PyProof.Rows.pow_int h0 (powx_ok (by omega) (by omega)) h
theorem pow_xn {n y : Int} {t u : Tok} (hy : 0 ≤ y) (hy' : y < 200000000000000000000) (hn : 0 ≤ n ∧ n ≤ 9) (h : Q (.int ((y - 100000000000000000000) ^ n.toNat) s.toks) { s with toks := s.toks + 1 }) :
    wpAny (model prog w) A (binaryOp .Pow (.int (y - 100000000000000000000) t) (.int n u)) Q E s :=
  PyProof.Rows.pow_int hn.1 (powx_ok (by omega) (by omega)) h
end
theorem pre_xn {n y : Int} (hy : 0 ≤ y) (hy' : y < 200000000000000000000) (hn : 0 ≤ n ∧ n ≤ 9) {st : Int} (hs : -1 ≤ st ∧ st ≤ 1) : (0 ≤ n ∧ n ≤ 18) ∧ (-(10^20) ≤ y - 100000000000000000000 ∧ y - 100000000000000000000 ≤ 10^20) ∧ (-1 ≤ st ∧ st ≤ 1) := by omega
theorem pre_xk {n k y : Int} (hy : 0 ≤ y) (hy' : y < 200000000000000000000) (hn : 0 ≤ n ∧ n ≤ 9) (h0 : 0 ≤ k) (h1 : k < 0 + ((n + 1 - 0).toNat : Int)) {st : Int} (hs : -1 ≤ st ∧ st ≤ 1) : (0 ≤ k ∧ k ≤ 18) ∧ (-(10^20) ≤ y - 100000000000000000000 ∧ y - 100000000000000000000 ≤ 10^20) ∧ (-1 ≤ st ∧ st ≤ 1) := by omega
end Mine
-- Law0
namespace Mine
/-- the law's own def, as the top leaves it -/
noncomputable def lawFd (P : Params) : Option FuncData := match (hd.heap_39 P).lookup 59 with
  | some ⟨_, _, .func f, _⟩ => some f
  | _ => none
noncomputable def lawB (P : Params) : List Stmt := match lawFd P with
  | some f => (match f.body with
    | .stmts b => b
    | _ => [])
  | none => []
noncomputable def lawS (P : Params) : Scope := match lawFd P with
  | some f => f.scope
  | none => { kind := .function, names := [], isGenerator := false, isCoroutine := false }
noncomputable def loopB (P : Params) : List Stmt := match (lawB P).drop 3 with
  | .For _ _ b _ _ :: _ => b
  | _ => []
noncomputable def loopX (P : Params) : Expr := match (lawB P).drop 3 with
  | .For x _ _ _ _ :: _ => x
  | _ => .Name (Str.ofString "x") ⟨0, 0, 0, 0⟩
noncomputable def lawE (P : Params) (L : Addr) : Env := envOfC (Str.ofString "law") (lawS P) L 59 (.ref 58)
noncomputable def stmtN (P : Params) (i : Nat) : List Stmt := (lawB P).drop i
abbrev prg : Program := PySem.Challenge.rw_ag5012_01.row.prog
theorem bits_s1 {n k : Int} (hn : 0 ≤ n ∧ n ≤ 9) (hk : 0 ≤ k ∧ k ≤ 12) : Builtin.Int.intBits (s1 n k) ≤ 64 := by
  obtain ⟨n, rfl⟩ := Int.eq_ofNat_of_zero_le hn.1
  obtain ⟨k, rfl⟩ := Int.eq_ofNat_of_zero_le hk.1
  have key : ∀ i : Nat, i ≤ 9 → ∀ j : Nat, j ≤ 12 → Builtin.Int.intBits (s1 i j) ≤ 64 := by decide +kernel
  exact key n (by omega) k (by omega)
theorem bits_s2 {n k : Int} (hn : 0 ≤ n ∧ n ≤ 9) (hk : 0 ≤ k ∧ k ≤ 12) : Builtin.Int.intBits (s2 n k) ≤ 64 := by
  obtain ⟨n, rfl⟩ := Int.eq_ofNat_of_zero_le hn.1
  obtain ⟨k, rfl⟩ := Int.eq_ofNat_of_zero_le hk.1
  have key : ∀ i : Nat, i ≤ 9 → ∀ j : Nat, j ≤ 12 → Builtin.Int.intBits (s2 i j) ≤ 64 := by decide +kernel
  exact key n (by omega) k (by omega)
theorem mul_s1 {n k b : Int} (hn : 0 ≤ n ∧ n ≤ 9) (h0 : 0 ≤ k) (h1 : k < 0 + ((n + 1 - 0).toNat : Int)) : IntMulOk (s1 n k) b := IntMulOk.of_left (bits_s1 hn (by omega))
theorem mul_s2 {n k b : Int} (hn : 0 ≤ n ∧ n ≤ 9) (h0 : 0 ≤ k) (h1 : k < 0 + ((n + 1 - 0).toNat : Int)) : IntMulOk (s2 n k) b := IntMulOk.of_left (bits_s2 hn (by omega))
theorem mul_abs {a b : Int} (h : Builtin.Int.intBits a ≤ 64) : IntMulOk (a.natAbs : Int) b := IntMulOk.of_left (intBits_natAbs_le h)
theorem mul_s1a {n k b : Int} (hn : 0 ≤ n ∧ n ≤ 9) (h0 : 0 ≤ k) (h1 : k < 0 + ((n + 1 - 0).toNat : Int)) : IntMulOk ((s1 n k).natAbs : Int) b := mul_abs (bits_s1 hn (by omega))
theorem mul_s1b {n k b : Int} (hn : 0 ≤ n ∧ n ≤ 9) (h0 : 0 ≤ k) (h1 : k < 0 + ((n + 1 - 0).toNat : Int)) : IntMulOk (if s1 n k < 0 then -s1 n k else s1 n k) b := by
  refine IntMulOk.of_left ?_
  split
  · exact intBits_neg_le (bits_s1 hn (by omega))
  · exact bits_s1 hn (by omega)
end Mine
-- Poly
namespace Mine
def pev (x : Int) : List Int → Int
  | [] => 0
  | c :: r => c + x * pev x r
def padd : List Int → List Int → List Int
  | [], b => b
  | a, [] => a
  | a :: r, b :: t => (a + b) :: padd r t
def psc (c : Int) (l : List Int) : List Int := l.map (c * ·)
theorem pev_padd (x : Int) : ∀ a b : List Int, pev x (padd a b) = pev x a + pev x b
  | [], b => by simp [padd, pev]
  | a :: r, [] => by simp [padd, pev]
  | a :: r, b :: t => by
    show (a + b) + x * pev x (padd r t) = (a + x * pev x r) + (b + x * pev x t)
    rw [pev_padd x r t, Int.mul_add]; omega
theorem pev_psc (x c : Int) : ∀ a : List Int, pev x (psc c a) = c * pev x a
  | [] => by simp [psc, pev]
  | a :: r => by
    show c * a + x * pev x (psc c r) = c * (a + x * pev x r)
    rw [pev_psc x c r, Int.mul_add, Int.mul_left_comm]
def ffp (st : Int) : Nat → List Int
  | 0 => [1]
  | n + 1 => padd (0 :: ffp st n) (psc (-(st * n)) (ffp st n))
theorem ff_pev (x st : Int) : ∀ n : Nat, ff x st n = pev x (ffp st n)
  | 0 => by simp [ff, ffp, pev]
  | n + 1 => by
    show ff x st n * (x - st * n) = pev x (padd (0 :: ffp st n) (psc (-(st * n)) (ffp st n)))
    rw [pev_padd, pev_psc, ff_pev x st n]
    show _ = 0 + x * pev x (ffp st n) + _
    rw [Int.mul_sub, Int.neg_mul, Int.mul_comm x, Int.mul_comm (st * n)]; omega
theorem rangeKs_succ (n : Nat) : rangeKs 0 (n + 1) = rangeKs 0 n ++ [(n : Int)] := by
  simp [rangeKs, List.range_succ]
theorem pev_snoc (x c : Int) : ∀ l : List Int, pev x (l ++ [c]) = pev x l + c * x ^ l.length
  | [] => by simp [pev]
  | a :: r => by
    show a + x * pev x (r ++ [c]) = a + x * pev x r + c * x ^ (r.length + 1)
    rw [pev_snoc x c r, Int.mul_add, Int.pow_succ, Int.mul_left_comm x c, Int.mul_comm x (x ^ r.length), Int.add_assoc]
theorem sum_pev (x : Int) (c : Int → Int) : ∀ n : Nat, (List.map (fun k => c k * x ^ k.toNat) (rangeKs 0 n)).sum = pev x (List.map c (rangeKs 0 n))
  | 0 => rfl
  | n + 1 => by
    rw [rangeKs_succ, List.map_append, List.map_append, List.sum_append, sum_pev x c n]
    show _ = pev x (List.map c (rangeKs 0 n) ++ [c n])
    rw [pev_snoc, List.length_map, rangeKs_length]
    simp
def psum : List (List Int) → List Int
  | [] => []
  | a :: r => padd a (psum r)
theorem sum_ffp (x : Int) (c : Int → Int) : ∀ l : List Int, (List.map (fun k => c k * ff x 1 k.toNat) l).sum = pev x (psum (l.map fun k => psc (c k) (ffp 1 k.toNat)))
  | [] => rfl
  | k :: r => by
    show c k * ff x 1 k.toNat + (List.map (fun k => c k * ff x 1 k.toNat) r).sum = pev x (padd (psc (c k) (ffp 1 k.toNat)) (psum (r.map fun k => psc (c k) (ffp 1 k.toNat))))
    rw [pev_padd, pev_psc, sum_ffp x c r, ff_pev]
theorem pow_pev (x : Int) : ∀ n : Nat, x ^ n = pev x (List.replicate n 0 ++ [1])
  | n => by
    have z : ∀ m : Nat, pev x (List.replicate m 0) = 0 := by
      intro m
      induction m with
      | zero => rfl
      | succ m ih => rw [List.replicate_succ]; show 0 + x * pev x (List.replicate m 0) = 0; rw [ih]; simp
    rw [pev_snoc, z, List.length_replicate]; simp
theorem eq1 {x n : Int} (hn : 0 ≤ n ∧ n ≤ 9) : ff x 1 n.toNat = (List.map (fun k => s1 n k * x ^ k.toNat) (rangeKs 0 (n + 1 - 0).toNat)).sum := by
  rw [sum_pev x (s1 n), ff_pev]
  obtain ⟨n, rfl⟩ := Int.eq_ofNat_of_zero_le hn.1
  have key : ∀ i : Nat, i ≤ 9 → ffp 1 (i : Int).toNat = List.map (s1 i) (rangeKs 0 ((i : Int) + 1 - 0).toNat) := by decide +kernel
  rw [key n (by omega)]
theorem eq2 {x n : Int} (hn : 0 ≤ n ∧ n ≤ 9) : ff x (-1) n.toNat = (List.map (fun k => (if s1 n k < 0 then -s1 n k else s1 n k) * x ^ k.toNat) (rangeKs 0 (n + 1 - 0).toNat)).sum := by
  rw [sum_pev x (fun k => if s1 n k < 0 then -s1 n k else s1 n k), ff_pev]
  obtain ⟨n, rfl⟩ := Int.eq_ofNat_of_zero_le hn.1
  have key : ∀ i : Nat, i ≤ 9 → ffp (-1) (i : Int).toNat = List.map (fun k => if s1 i k < 0 then -s1 i k else s1 i k) (rangeKs 0 ((i : Int) + 1 - 0).toNat) := by decide +kernel
  rw [key n (by omega)]
theorem eq3 {x n : Int} (hn : 0 ≤ n ∧ n ≤ 9) : x ^ n.toNat = (List.map (fun k => s2 n k * ff x 1 k.toNat) (rangeKs 0 (n + 1 - 0).toNat)).sum := by
  rw [sum_ffp x (s2 n), pow_pev]
  obtain ⟨n, rfl⟩ := Int.eq_ofNat_of_zero_le hn.1
  have key : ∀ i : Nat, i ≤ 9 → List.replicate (i : Int).toNat 0 ++ [1] = psum ((rangeKs 0 ((i : Int) + 1 - 0).toNat).map fun k => psc (s2 i k) (ffp 1 k.toNat)) := by decide +kernel
  rw [key n (by omega)]
end Mine
-- Turn
namespace Mine
local macro_rules | `(tactic| walk_at "pyIter ref") => `(tactic| k_extra "pyIter ref")
local macro_rules | `(tactic| walk_at "call ref") => `(tactic| (k_here; (with_reducible show wpAny _ _ (call (Value.ref 21) _) _ _ _); k_dflt (refine' c_ifac _ _ _ _ _ _ _ _ _ _ _ _ _ _ _ _ _ _ _ _ _ _ _ _ _ ?k1 ?k2 ?k3 ?k4 ?k5 ?k6 ?k7 ?k8 ?k9 ?_; (case k1 => k_asm); (case k2 => k_asm); (case k3 => k_asm); (case k4 => k_asm); (case k5 => k_asm); (case k6 => first | exact rfl | assumption); (case k7 => first | assumption | exact pre_xn (by assumption) (by assumption) (by assumption) (by decide) | exact pre_xk (by assumption) (by assumption) (by assumption) (by assumption) (by assumption) (by decide) | omega | l_fact); (case k8 => ktr_room); (case k9 => ktr_units); (intro t9 h9 tk9 F9 N9); (try dsimp only); (try k_fold))))
local macro_rules | `(tactic| walk_at "call ref") => `(tactic| (k_here; (with_reducible show wpAny _ _ (call (Value.ref 47) _) _ _ _); k_dflt (refine' c_fall _ _ _ _ _ _ _ _ _ _ _ _ _ _ _ _ _ _ _ _ _ _ _ _ _ _ _ _ _ ?k1 ?k2 ?k3 ?k4 ?k5 ?k6 ?k7 ?k8 ?k9 ?_; (case k1 => k_asm); (case k2 => k_asm); (case k3 => k_asm); (case k4 => k_asm); (case k5 => k_asm); (case k6 => first | exact rfl | assumption); (case k7 => first | assumption | exact pre_xn (by assumption) (by assumption) (by assumption) (by decide) | exact pre_xk (by assumption) (by assumption) (by assumption) (by assumption) (by assumption) (by decide) | omega | l_fact); (case k8 => ktr_room); (case k9 => ktr_units); (intro t9 h9 tk9 F9 N9); (try dsimp only); (try k_fold))))
local macro_rules | `(tactic| walk_at "call ref") => `(tactic| (k_here; (with_reducible show wpAny _ _ (call (Value.ref 33) _) _ _ _); k_dflt (refine' c_s1 _ _ _ _ _ _ _ _ _ _ _ _ _ _ _ _ _ _ _ _ _ _ _ _ _ _ _ ?k1 ?k2 ?k3 ?k4 ?k5 ?k6 ?k7 ?k8 ?k9 ?_; (case k1 => k_asm); (case k2 => k_asm); (case k3 => k_asm); (case k4 => k_asm); (case k5 => k_asm); (case k6 => first | exact rfl | assumption); (case k7 => first | assumption | exact pre_xn (by assumption) (by assumption) (by assumption) (by decide) | exact pre_xk (by assumption) (by assumption) (by assumption) (by assumption) (by assumption) (by decide) | omega | l_fact); (case k8 => ktr_room); (case k9 => ktr_units); (intro t9 h9 tk9 F9 N9); (try dsimp only); (try k_fold))))
local macro_rules | `(tactic| walk_at "call ref") => `(tactic| (k_here; (with_reducible show wpAny _ _ (call (Value.ref 40) _) _ _ _); k_dflt (refine' c_s2 _ _ _ _ _ _ _ _ _ _ _ _ _ _ _ _ _ _ _ _ _ _ _ _ _ _ _ ?k1 ?k2 ?k3 ?k4 ?k5 ?k6 ?k7 ?k8 ?k9 ?_; (case k1 => k_asm); (case k2 => k_asm); (case k3 => k_asm); (case k4 => k_asm); (case k5 => k_asm); (case k6 => first | exact rfl | assumption); (case k7 => first | assumption | exact pre_xn (by assumption) (by assumption) (by assumption) (by decide) | exact pre_xk (by assumption) (by assumption) (by assumption) (by assumption) (by assumption) (by decide) | omega | l_fact); (case k8 => ktr_room); (case k9 => ktr_units); (intro t9 h9 tk9 F9 N9); (try dsimp only); (try k_fold))))
local macro_rules | `(tactic| walk_at "call ref") => `(tactic| (k_here; (with_reducible show wpAny _ _ (call (Value.ref 26) _) _ _ _); k_dflt (refine' c_eu _ _ _ _ _ _ _ _ _ _ _ _ _ _ _ _ _ _ _ _ _ _ _ _ _ ?k1 ?k2 ?k3 ?k4 ?k5 ?k6 ?k7 ?k8 ?k9 ?_; (case k1 => k_asm); (case k2 => k_asm); (case k3 => k_asm); (case k4 => k_asm); (case k5 => k_asm); (case k6 => first | exact rfl | assumption); (case k7 => first | assumption | exact pre_xn (by assumption) (by assumption) (by assumption) (by decide) | exact pre_xk (by assumption) (by assumption) (by assumption) (by assumption) (by assumption) (by decide) | omega | l_fact); (case k8 => ktr_room); (case k9 => ktr_units); (intro t9 h9 tk9 F9 N9); (try dsimp only); (try k_fold))))
local macro_rules | `(tactic| walk_at "call ref") => `(tactic| (k_here; (with_reducible show wpAny _ _ (call (Value.ref 54) _) _ _ _); k_dflt (refine' c_choose _ _ _ _ _ _ _ _ _ _ _ _ _ _ _ _ _ _ _ _ _ _ _ _ _ _ _ ?k1 ?k2 ?k3 ?k4 ?k5 ?k6 ?k7 ?k8 ?k9 ?_; (case k1 => k_asm); (case k2 => k_asm); (case k3 => k_asm); (case k4 => k_asm); (case k5 => k_asm); (case k6 => first | exact rfl | assumption); (case k7 => first | assumption | exact pre_xn (by assumption) (by assumption) (by assumption) (by decide) | exact pre_xk (by assumption) (by assumption) (by assumption) (by assumption) (by assumption) (by decide) | omega | l_fact); (case k8 => ktr_room); (case k9 => ktr_units); (intro t9 h9 tk9 F9 N9); (try dsimp only); (try k_fold))))
local macro_rules | `(tactic| walk_at "call builtin:max") => `(tactic| (k_here; (with_reducible show wpAny _ _ (call (Value.builtin _) [Value.int _ _, Value.int _ _]) _ _ _); k_dflt (refine' max_two_N ?hh ?mF ?mN ?_; (case hh => with_unfolding_all rfl); (case mF => k_asm); (case mN => k_asm); k_whole); intro hM tkM FM NM))
local macro_rules | `(tactic| walk_at "call builtin:min") => `(tactic| (k_here; (with_reducible show wpAny _ _ (call (Value.builtin _) [Value.int _ _, Value.int _ _]) _ _ _); k_dflt (refine' min_two_N ?hh ?mF ?mN ?_; (case hh => with_unfolding_all rfl); (case mF => k_asm); (case mN => k_asm); k_whole); intro hM tkM FM NM))
local macro_rules | `(tactic| walk_at "binaryOp Pow int int") => `(tactic| (k_here; k_dflt (first | (with_reducible refine pow_1020 ?_) | (refine pow_xk (by assumption) (by assumption) (by assumption) (by assumption) (by assumption) ?_) | (refine pow_xn (by assumption) (by assumption) (by assumption) ?_))))
local macro_rules | `(tactic| walk_at "binaryOp Mult int int") => `(tactic| (with_reducible refine mul_2x ?_))
local macro_rules | `(tactic| walk_at "binaryOp Mod int int") => `(tactic| ((with_reducible refine mod_x ?_); intro y9 hy9 hy9'))
local macro_rules | `(tactic| walk_at "subscriptTail Name Name ref int") => `(tactic| (k_here; k_dflt (refine' item_s ?qN ?qm ?qi ?q0 ?q1 ?q2 ?_; (case qN => k_asm); (case qm => k_mem); (case qi => assumption); (case q0 => assumption); (case q1 => assumption); (case q2 => assumption); k_whole); intro t9))
local macro_rules | `(tactic| mul_fits) => `(tactic| first | exact mul_s1 (by assumption) (by assumption) (by assumption) | exact mul_s2 (by assumption) (by assumption) (by assumption) | exact mul_s1a (by assumption) (by assumption) (by assumption) | exact mul_s1b (by assumption) (by assumption) (by assumption))
local macro_rules | `(tactic| walk_at "compareOp NotEq int int") => `(tactic| ((refine ne_int_eq ?hne ?_); (case hne => first | exact eq1 (by assumption) | exact eq2 (by assumption) | exact eq3 (by assumption)); (try ((rename (_ ≠ _ ∧ _) => hz); clear hz)); skip))
theorem t_turn (w : World) (loose : List Str) (mean : ExcName → Option Value) (mg mb : Str → Option Value) (h₀ : Heap) (L fa : Nat) (cd : Value) (s : Shared) (m : Str → Option Value) (E : Value → Shared → Prop)
    (n x : Int) (tn xt : Tok) (I l D1 D2 : Nat) (oI ol o1 o2 o3 ox o5 o6 : Obj) (ys1 ys2 : List Value) (cv : Option Value) (px : Pos)
    (K0 : Below callerA h₀ [] h₀) (X : (hd.heap_39 w.params).In h₀) (T : Top hd.view_39 loose mean mg mb h₀)
    (hn : 0 ≤ n ∧ n ≤ 9) (d1 : o1.data = .cell (some (.int n tn))) (d2 : o2.data = .cell (some (.ref D1))) (d3 : o3.data = .cell (some (.ref D2))) (dx : ox.data = .cell cv)
    (I1 : IntsAre ys1 (List.map (fun k' => s1 n k') (rangeKs 0 (n + 1 - 0).toNat))) (I2 : IntsAre ys2 (List.map (fun k' => s2 n k') (rangeKs 0 (n + 1 - 0).toNat)))
    (hc : I ≠ L + 1 + 1 + 1 + 1 ∧ l ≠ L + 1 + 1 + 1 + 1 ∧ D2 ≠ L + 1 + 1 + 1 + 1 ∧ D1 ≠ L + 1 + 1 + 1 + 1)
    (F : Fr h₀ L s.heap m) (N : News h₀ L s.heap [(I, oI), (l, ol), (D2, LCg.lst ys2), (D1, LCg.lst ys1), (L + 1 + 1 + 1 + 1 + 1 + 1, o6), (L + 1 + 1 + 1 + 1 + 1, o5), (L + 1 + 1 + 1 + 1, ox), (L + 1 + 1 + 1, o3), (L + 1 + 1, o2), (L + 1, o1)]) :
    wpAny (model PySem.Challenge.rw_ag5012_01.row.prog w) (callerA.deeper (envOfC (Str.ofString "law") (lawS w.params) L fa cd)) (assign (.Name (Str.ofString "x") px) (envOfC (Str.ofString "law") (lawS w.params) L fa cd) (.int x xt))
      (fun _ s₃ => wpAny (model PySem.Challenge.rw_ag5012_01.row.prog w) (callerA.deeper (envOfC (Str.ofString "law") (lawS w.params) L fa cd)) (execs (loopB w.params) (envOfC (Str.ofString "law") (lawS w.params) L fa cd))
        (CellPost h₀ L m [(D2, LCg.lst ys2), (D1, LCg.lst ys1), (L + 1 + 1 + 1 + 1 + 1 + 1, o6), (L + 1 + 1 + 1 + 1 + 1, o5)] [(L + 1 + 1 + 1, o3), (L + 1 + 1, o2), (L + 1, o1)] [(I, oI), (l, ol)] (L + 1 + 1 + 1 + 1) s (fun _ _ => False)) E s₃) E s := by
  w_top off
  revert X; k_fill; intro X
  obtain ⟨S, hS⟩ : ∃ S, S = lawS w.params := ⟨_, rfl⟩
  rw [← hS]
  conv at hS => rhs; whnf
  subst hS
  obtain ⟨B, hB⟩ : ∃ B, B = loopB w.params := ⟨_, rfl⟩
  rw [← hB]
  conv at hB => rhs; whnf
  subst hB
  have hMk := kstMark
  k_with_none
  k_steps
  (rename Fr _ _ _ _ => lF)
  (rename News _ _ _ _ => lN)
  refine' CellPost.intro lF lN ?hs ?ho ?hc
  case hs => lcg_sub
  case ho => lcg_sub
  case hc => assumption
end Mine
-- ROps
namespace Mine
section
variable {prog : Program} {w : World} {A : Around} {E : Value → Shared → Prop} {s : Shared} {t u : Tok} {Q : Value → Shared → Prop} {h₀ : Heap} {L : Addr} {news : List (Addr × Obj)}
theorem mod_gen {x b : Int} (hb : 0 < b) (h : ∀ z, 0 ≤ z → z < b → Q (.int z s.toks) { s with toks := s.toks + 1 }) : wpAny (model prog w) A (binaryOp .Mod (.int x t) (.int b u)) Q E s :=
  PyProof.Rows.mod_int' (by omega) (h _ (fmod_lo x hb) (fmod_hi x hb))
theorem ite_consts {M : Model} {env : Env} {c : Prop} [Decidable c] {i j : Int} {k1 k2 : Tok} {p1 p2 : Pos} (h : Q (.int (if c then i else j) s.toks) { s with toks := s.toks + 1 }) :
    if c then wpAny M A (eval (.Constant (.int i) k1 p1) env) Q E s else wpAny M A (eval (.Constant (.int j) k2 p2) env) Q E s := by
  by_cases hc : c
  · rw [if_pos hc] at h ⊢; exact wpAny_Constant_int h
  · rw [if_neg hc] at h ⊢; exact wpAny_Constant_int h
theorem news_tail {h : Heap} {a : Addr × Obj} {l : List (Addr × Obj)} (N : News h₀ L h (a :: l)) : News h₀ L h l := fun p hp => N p (.tail _ hp)
theorem eq_int_eq {a b : Int} (h : a = b) (k : Q (.bool true) s) : wpAny (model prog w) A (compareOp .Eq (.int a t) (.int b u)) Q E s :=
  PyProof.Rows.eq_int (by subst h; rw [beq_self_eq_true]; exact k)
theorem item_r {value slice : PySem.Expr} {l : Addr} {ys : List Value} {c : Nat} {n m k : Int} {u : Tok} {f : Int → Int} (N : News h₀ L s.heap news) (hm : (l, ({ cls := .type "list", data := .seq ys.toArray c } : Obj)) ∈ news)
    (hi : IntsAre ys (List.map f (rangeKs 0 (n + 1 - 0).toNat))) (hn : 0 ≤ n ∧ n ≤ 9) (hm0 : 0 ≤ m) (hmn : m < n + 1) (h0 : m ≤ k) (h1 : k < m + ((n + 1 - m).toNat : Int)) (h : ∀ t, Q (.int (f k) t) s)
    (hs : subscripted slice false (.ref l) (.int k u) = operate [.ref l, .int k u] (getItem (.ref l) (.int k u)) := by with_unfolding_all rfl) :
    wpAny (model prog w) A (subscriptTail value slice (.ref l) (.int k u)) Q E s :=
  item_map N hm hi (by omega) (by omega) (by omega) h hs
theorem item_b {value slice : PySem.Expr} {l : Addr} {ys : List Value} {c : Nat} {n b k : Int} {u : Tok} {f : Int → Int} (N : News h₀ L s.heap news) (hm : (l, ({ cls := .type "list", data := .seq ys.toArray c } : Obj)) ∈ news)
    (hi : IntsAre ys (List.map f (rangeKs 0 (n + 1 - 0).toNat))) (hn : 0 ≤ n ∧ n ≤ 9) (hb : 0 ≤ b) (h0 : 0 ≤ k) (h1 : k < 0 + (((if b < n then b else n) + 1 - 0).toNat : Int)) (h : ∀ t, Q (.int (f k) t) s)
    (hs : subscripted slice false (.ref l) (.int k u) = operate [.ref l, .int k u] (getItem (.ref l) (.int k u)) := by with_unfolding_all rfl) :
    wpAny (model prog w) A (subscriptTail value slice (.ref l) (.int k u)) Q E s :=
  item_map N hm hi h0 (by split at h1 <;> omega) (by split at h1 <;> omega) h hs
end
theorem pre_km {n m k : Int} (hn : 0 ≤ n ∧ n ≤ 9) (hm0 : 0 ≤ m) (hmn : m < n + 1) (h0 : m ≤ k) (h1 : k < m + ((n + 1 - m).toNat : Int)) : (0 ≤ k ∧ k ≤ 9) ∧ (0 ≤ m ∧ m ≤ 12) := by omega
theorem mul_s1m {n m k b : Int} (hn : 0 ≤ n ∧ n ≤ 9) (hm0 : 0 ≤ m) (hmn : m < n + 1) (h0 : m ≤ k) (h1 : k < m + ((n + 1 - m).toNat : Int)) : IntMulOk (s1 n k) b := IntMulOk.of_left (bits_s1 hn (by omega))
theorem mul_s2m {n m k b : Int} (hn : 0 ≤ n ∧ n ≤ 9) (hm0 : 0 ≤ m) (hmn : m < n + 1) (h0 : m ≤ k) (h1 : k < m + ((n + 1 - m).toNat : Int)) : IntMulOk (s2 n k) b := IntMulOk.of_left (bits_s2 hn (by omega))
theorem s1_0 {n k : Int} (h : n < k) : s1 n k = 0 := by
  rw [s1, if_pos (by omega), if_neg (by simp; omega)]
theorem s2_0 {n k : Int} (h : n < k) : s2 n k = 0 := by
  rw [s2, if_pos (by omega), if_neg (by simp; omega)]
theorem eu_0 {k : Int} (h : 0 ≤ k ∧ k ≤ 9) : eu (2 * k + 1) = 0 := by
  obtain ⟨k, rfl⟩ := Int.eq_ofNat_of_zero_le h.1
  have key : ∀ i : Nat, i ≤ 9 → eu (2 * (i : Int) + 1) = 0 := by decide +kernel
  exact key k (by omega)
theorem c_s1z (n k : Int) (t t2 : Tok) : Con 1 8 33 ((0 ≤ n ∧ n ≤ 9) ∧ n < k ∧ k ≤ 12) [.int n t, .int k t2] (fun t => .int 0 t) := by
  intro w loose mean mg mb news dp un gd cn cs a ccd cl outer A₀ base h₀ L m s Q E B F X N T hk hp hd hu hret
  refine c_s1 n k t t2 w loose mean mg mb news dp un gd cn cs a ccd cl outer A₀ base h₀ L m s Q E B F X N T hk ⟨hp.1, by omega, hp.2.2⟩ hd hu ?_
  dsimp only [CbRet]
  rw [s1_0 hp.2.1]
  exact hret
theorem c_s2z (n k : Int) (t t2 : Tok) : Con 2 16 40 ((0 ≤ n ∧ n ≤ 9) ∧ n < k ∧ k ≤ 12) [.int n t, .int k t2] (fun t => .int 0 t) := by
  intro w loose mean mg mb news dp un gd cn cs a ccd cl outer A₀ base h₀ L m s Q E B F X N T hk hp hd hu hret
  refine c_s2 n k t t2 w loose mean mg mb news dp un gd cn cs a ccd cl outer A₀ base h₀ L m s Q E B F X N T hk ⟨hp.1, by omega, hp.2.2⟩ hd hu ?_
  dsimp only [CbRet]
  rw [s2_0 hp.2.1]
  exact hret
theorem c_euz (k : Int) (t : Tok) : Con 1 8 26 (0 ≤ k ∧ k ≤ 9) [.int (2 * k + 1) t] (fun t => .int 0 t) := by
  intro w loose mean mg mb news dp un gd cn cs a ccd cl outer A₀ base h₀ L m s Q E B F X N T hk hp hd hu hret
  refine c_eu (2 * k + 1) t w loose mean mg mb news dp un gd cn cs a ccd cl outer A₀ base h₀ L m s Q E B F X N T hk (by omega) hd hu ?_
  dsimp only [CbRet]
  rw [eu_0 hp]
  exact hret
end Mine
-- ROps2
namespace Mine
theorem pre_z {n k : Int} (hn : 0 ≤ n ∧ n ≤ 9) (h0 : 0 ≤ k) (h1 : k < 0 + ((3 - 0 : Int).toNat : Int)) : (0 ≤ n ∧ n ≤ 9) ∧ n < n + 1 + k ∧ n + 1 + k ≤ 12 := by omega
theorem pre_k9 {n k : Int} (hn : 0 ≤ n ∧ n ≤ 9) (h0 : 0 ≤ k) (h1 : k < 0 + ((n + 1 - 0).toNat : Int)) : 0 ≤ k ∧ k ≤ 9 := by omega
theorem pre_n18 {n : Int} (hn : 0 ≤ n ∧ n ≤ 9) : 0 ≤ n ∧ n ≤ 18 := by omega
theorem pre_bk {n b k z : Int} (hn : 0 ≤ n ∧ n ≤ 9) (hb0 : 0 ≤ b) (hb : b < 6) (hz : z ≤ n) (h0 : 0 ≤ k) (h1 : k < 0 + ((z + 1 - 0).toNat : Int)) : (0 ≤ 1 + b ∧ 1 + b ≤ 18) ∧ (0 ≤ k ∧ k ≤ 18) := by omega
theorem pre_bk2 {n k z : Int} (hn : 0 ≤ n ∧ n ≤ 9) (hz : z ≤ n) (h0 : 0 ≤ k) (h1 : k < 0 + ((z + 1 - 0).toNat : Int)) : 0 ≤ k ∧ k ≤ 18 := by omega
theorem pre_2 {n k : Int} (hn : 0 ≤ n ∧ n ≤ 9) (h0 : 0 ≤ k) (h1 : k < 0 + ((n + 1 - 0).toNat : Int)) : (0 ≤ 2 * n ∧ 2 * n ≤ 18) ∧ (0 ≤ 2 * k ∧ 2 * k ≤ 18) := by omega
theorem pre_2e {n k : Int} (hn : 0 ≤ n ∧ n ≤ 9) (h0 : 0 ≤ k) (h1 : k < 0 + ((n + 1 - 0).toNat : Int)) : 0 ≤ 2 * k ∧ 2 * k ≤ 19 := by omega
theorem bits_fac {k : Int} (hk : k ≤ 18) : Builtin.Int.intBits (fac k.toNat) ≤ 64 := by
  have key : ∀ i : Nat, i ≤ 18 → Builtin.Int.intBits (fac i) ≤ 64 := by decide +kernel
  exact key _ (by omega)
theorem bits_eu {k : Int} (hk : 0 ≤ k ∧ k ≤ 9) : Builtin.Int.intBits (eu (2 * k)) ≤ 64 := by
  obtain ⟨k, rfl⟩ := Int.eq_ofNat_of_zero_le hk.1
  have key : ∀ i : Nat, i ≤ 9 → Builtin.Int.intBits (eu (2 * (i : Int))) ≤ 64 := by decide +kernel
  exact key _ (by omega)
theorem mul_fac {n k z c : Int} (hn : 0 ≤ n ∧ n ≤ 9) (hz : z ≤ n) (h0 : 0 ≤ k) (h1 : k < 0 + ((z + 1 - 0).toNat : Int)) : IntMulOk c (fac k.toNat) := IntMulOk.of_right (bits_fac (by omega))
theorem mul_s2r {n k z c : Int} (hn : 0 ≤ n ∧ n ≤ 9) (hz : z ≤ n) (h0 : 0 ≤ k) (h1 : k < 0 + ((z + 1 - 0).toNat : Int)) : IntMulOk c (s2 n k) := IntMulOk.of_right (bits_s2 hn (by omega))
theorem mul_eu {n k c : Int} (hn : 0 ≤ n ∧ n ≤ 9) (h0 : 0 ≤ k) (h1 : k < 0 + ((n + 1 - 0).toNat : Int)) : IntMulOk c (eu (2 * k)) := IntMulOk.of_right (bits_eu (by omega))
theorem mul_two (k : Int) : IntMulOk 2 k := IntMulOk.of_left (by decide)
section
variable {prog : Program} {w : World} {A : Around} {E : Value → Shared → Prop} {s : Shared} {t u : Tok} {Q : Value → Shared → Prop} {h₀ : Heap} {L : Addr} {m : Str → Option Value} {news : List (Addr × Obj)}
theorem min_gen {a b : Int} (hh : A.handled = none) (F : Fr h₀ L s.heap m) (N : News h₀ L s.heap news)
    (h : ∀ z t h' tk, z ≤ a → z ≤ b → (z = a ∨ z = b) → Fr h₀ L h' m → News h₀ L h' news → Q (.int z t) { s with heap := h', toks := tk }) : wpAny (model prog w) A (call (.builtin "min") [.int a t, .int b u]) Q E s :=
  min_two_N hh F N fun h' tk F' N' => h _ _ h' tk (by split <;> omega) (by split <;> omega) (by split <;> simp) F' N'
theorem item_z {value slice : PySem.Expr} {l : Addr} {ys : List Value} {c : Nat} {n z k : Int} {u : Tok} {f : Int → Int} (N : News h₀ L s.heap news) (hm : (l, ({ cls := .type "list", data := .seq ys.toArray c } : Obj)) ∈ news)
    (hi : IntsAre ys (List.map f (rangeKs 0 (n + 1 - 0).toNat))) (hn : 0 ≤ n ∧ n ≤ 9) (hz : z ≤ n) (h0 : 0 ≤ k) (h1 : k < 0 + ((z + 1 - 0).toNat : Int)) (h : ∀ t, Q (.int (f k) t) s)
    (hs : subscripted slice false (.ref l) (.int k u) = operate [.ref l, .int k u] (getItem (.ref l) (.int k u)) := by with_unfolding_all rfl) :
    wpAny (model prog w) A (subscriptTail value slice (.ref l) (.int k u)) Q E s :=
  item_map N hm hi h0 (by omega) (by omega) h hs
theorem pow_bn {b n : Int} (hb0 : 0 ≤ b) (hb : b < 6) (hn : 0 ≤ n ∧ n ≤ 9) (h : Q (.int ((1 + b) ^ n.toNat) s.toks) { s with toks := s.toks + 1 }) : wpAny (model prog w) A (binaryOp .Pow (.int (1 + b) t) (.int n u)) Q E s :=
  pow_int_small hn.1 (by omega) (by omega) h
end
theorem e4 {n : Int} (hn : 0 ≤ n ∧ n ≤ 9) : (List.map (fun k => if k < 0 then -k else k) (List.map (fun k => s1 n k) (rangeKs 0 (n + 1 - 0).toNat))).sum = fac n.toNat := by
  obtain ⟨n, rfl⟩ := Int.eq_ofNat_of_zero_le hn.1
  have key : ∀ i : Nat, i ≤ 9 → (List.map (fun k => if k < 0 then -k else k) (List.map (fun k => s1 (i : Int) k) (rangeKs 0 ((i : Int) + 1 - 0).toNat))).sum = fac (i : Int).toNat := by decide +kernel
  exact key n (by omega)
theorem e5 {n m : Int} (hn : 0 ≤ n ∧ n ≤ 9) (h0 : 0 ≤ m) (h1 : m < n + 1) : (List.map (fun k => s1 n k * s2 k m) (rangeKs m (n + 1 - m).toNat)).sum = if (m == n) = true then 1 else 0 := by
  obtain ⟨n, rfl⟩ := Int.eq_ofNat_of_zero_le hn.1
  obtain ⟨m, rfl⟩ := Int.eq_ofNat_of_zero_le h0
  have key : ∀ i : Nat, i ≤ 9 → ∀ j : Nat, j ≤ i → (List.map (fun k => s1 (i : Int) k * s2 k (j : Int)) (rangeKs (j : Int) ((i : Int) + 1 - (j : Int)).toNat)).sum = if ((j : Int) == (i : Int)) = true then 1 else 0 := by decide +kernel
  exact key n (by omega) m (by omega)
theorem e6 {n m : Int} (hn : 0 ≤ n ∧ n ≤ 9) (h0 : 0 ≤ m) (h1 : m < n + 1) : (List.map (fun k => s2 n k * s1 k m) (rangeKs m (n + 1 - m).toNat)).sum = if (m == n) = true then 1 else 0 := by
  obtain ⟨n, rfl⟩ := Int.eq_ofNat_of_zero_le hn.1
  obtain ⟨m, rfl⟩ := Int.eq_ofNat_of_zero_le h0
  have key : ∀ i : Nat, i ≤ 9 → ∀ j : Nat, j ≤ i → (List.map (fun k => s2 (i : Int) k * s1 k (j : Int)) (rangeKs (j : Int) ((i : Int) + 1 - (j : Int)).toNat)).sum = if ((j : Int) == (i : Int)) = true then 1 else 0 := by decide +kernel
  exact key n (by omega) m (by omega)
theorem e10 {n b z : Int} (hn : 0 ≤ n ∧ n ≤ 9) (hb0 : 0 ≤ b) (hb : b < 6) (h1 : z ≤ n) (h2 : z ≤ 1 + b) (h3 : z = n ∨ z = 1 + b) :
    (List.map (fun k => (ff (1 + b) 1 k.toNat).fdiv (fac k.toNat) * fac k.toNat * s2 n k) (rangeKs 0 (z + 1 - 0).toNat)).sum = (1 + b) ^ n.toNat := by
  obtain ⟨n, rfl⟩ := Int.eq_ofNat_of_zero_le hn.1
  obtain ⟨b, rfl⟩ := Int.eq_ofNat_of_zero_le hb0
  have key : ∀ i : Nat, i ≤ 9 → ∀ j : Nat, j ≤ 5 → (List.map (fun k => (ff (1 + (j : Int)) 1 k.toNat).fdiv (fac k.toNat) * fac k.toNat * s2 (i : Int) k) (rangeKs 0 ((min (i : Int) (1 + (j : Int))) + 1 - 0).toNat)).sum = (1 + (j : Int)) ^ (i : Int).toNat := by decide +kernel
  have hz : z = min (n : Int) (1 + (b : Int)) := by omega
  rw [hz]
  exact key n (by omega) b (by omega)
theorem e11 {n : Int} (hn : 0 ≤ n ∧ n ≤ 9) : (List.map (fun k => (ff (2 * n) 1 (2 * k).toNat).fdiv (fac (2 * k).toNat) * eu (2 * k)) (rangeKs 0 (n + 1 - 0).toNat)).sum = if (n == 0) = true then 1 else 0 := by
  obtain ⟨n, rfl⟩ := Int.eq_ofNat_of_zero_le hn.1
  have key : ∀ i : Nat, i ≤ 9 → (List.map (fun k => (ff (2 * (i : Int)) 1 (2 * k).toNat).fdiv (fac (2 * k).toNat) * eu (2 * k)) (rangeKs 0 ((i : Int) + 1 - 0).toNat)).sum = if ((i : Int) == 0) = true then 1 else 0 := by decide +kernel
  exact key n (by omega)
end Mine
-- Next
namespace Mine
/-- a statement's end: the next one comes, the frame is mA, the ledger is one of Led -/
def NextPost (h₀ : Heap) (L : Addr) (mA : Str → Option Value) (s : Shared) (Led : List (Addr × Obj) → Prop) (f : Flow) (s' : Shared) : Prop :=
  f = .next ∧ ∃ h' tk' news, s' = { s with heap := h', toks := tk' } ∧ Fr h₀ L h' mA ∧ News h₀ L h' news ∧ Led news
theorem NextPost.intro {h₀ : Heap} {L : Addr} {mA : Str → Option Value} {s : Shared} {Led : List (Addr × Obj) → Prop} {h' : Heap} {tk' : Nat} {news news' : List (Addr × Obj)} (F : Fr h₀ L h' mA) (N : News h₀ L h' news') (hl : Led news) (hs : ∀ p ∈ news, p ∈ news') :
    NextPost h₀ L mA s Led .next { s with heap := h', toks := tk' } := ⟨rfl, h', tk', news, rfl, F, fun p hp => N p (hs p hp), hl⟩
section
variable {M : Model} {A : Around} {E : Value → Shared → Prop} {s : Shared} {h₀ : Heap} {L : Addr} {mA : Str → Option Value} {Q : Flow → Shared → Prop} {T : Sem Flow}
theorem cutS (Led : List (Addr × Obj) → Prop) (_F : Fr h₀ L s.heap mA) (h1 : wpAny M A T (NextPost h₀ L mA s Led) E s)
    (h2 : ∀ h' tk' news, Fr h₀ L h' mA → News h₀ L h' news → Led news → Q .next { s with heap := h', toks := tk' }) : wpAny M A T Q E s :=
  wpAny_mono h1 (fun _ _ ⟨e1, h', tk', news, e2, F', N', hl⟩ => by subst e1; subst e2; exact h2 h' tk' news F' N' hl) fun _ _ x => x
end
theorem news_drop5 {h₀ h : Heap} {L : Addr} {a b c d e p q r s t u v w : Addr × Obj} (N : News h₀ L h [a, b, c, d, e, p, q, r, s, t, u, v, w]) : News h₀ L h [p, q, r, s, t, u, v, w] := fun x hx => N x (.tail _ (.tail _ (.tail _ (.tail _ (.tail _ hx)))))
theorem fold_no {ks : List Int} (h : decide (List.foldl (fun (l : List Int) (_ : Int) => l) [] ks = []) = false) : False := by
  have e : ∀ (ks l : List Int), List.foldl (fun (l : List Int) (_ : Int) => l) l ks = l := by
    intro ks
    induction ks with
    | nil => intro l; rfl
    | cons k r ih => intro l; exact ih l
  rw [e] at h
  simp at h
/-- the ledger behind the loop, the cells of m and boxes open -/
abbrev led (L D1 D2 : Nat) (ys1 ys2 : List Value) (o6 o5 ox o3 o2 o1 : Obj) : List (Addr × Obj) := [(D2, LCg.lst ys2), (D1, LCg.lst ys1), (L + 1 + 1 + 1 + 1 + 1 + 1, o6), (L + 1 + 1 + 1 + 1 + 1, o5), (L + 1 + 1 + 1 + 1, ox), (L + 1 + 1 + 1, o3), (L + 1 + 1, o2), (L + 1, o1)]
end Mine
-- Rest
namespace Mine
local macro_rules | `(tactic| walk_at "pyIter ref") => `(tactic| k_extra "pyIter ref")
local macro_rules | `(tactic| walk_at "call ref") => `(tactic| (k_here; (with_reducible show wpAny _ _ (call (Value.ref 21) _) _ _ _); k_dflt (refine' c_ifac _ _ _ _ _ _ _ _ _ _ _ _ _ _ _ _ _ _ _ _ _ _ _ _ _ ?k1 ?k2 ?k3 ?k4 ?k5 ?k6 ?k7 ?k8 ?k9 ?_; (case k7 => first | exact pre_n18 (by assumption) | exact pre_bk2 (by assumption) (by assumption) (by assumption) (by assumption)); (case k1 => k_asm); (case k2 => k_asm); (case k3 => k_asm); (case k4 => k_asm); (case k5 => k_asm); (case k6 => first | exact rfl | assumption); (case k8 => ktr_room); (case k9 => ktr_units); (intro t9 h9 tk9 F9 N9); (try dsimp only); (try k_fold))))
local macro_rules | `(tactic| walk_at "call ref") => `(tactic| (k_here; (with_reducible show wpAny _ _ (call (Value.ref 33) _) _ _ _); k_dflt (refine' c_s1 _ _ _ _ _ _ _ _ _ _ _ _ _ _ _ _ _ _ _ _ _ _ _ _ _ _ _ ?k1 ?k2 ?k3 ?k4 ?k5 ?k6 ?k7 ?k8 ?k9 ?_; (case k7 => first | exact pre_km (by assumption) (by assumption) (by assumption) (by assumption) (by assumption)); (case k1 => k_asm); (case k2 => k_asm); (case k3 => k_asm); (case k4 => k_asm); (case k5 => k_asm); (case k6 => first | exact rfl | assumption); (case k8 => ktr_room); (case k9 => ktr_units); (intro t9 h9 tk9 F9 N9); (try dsimp only); (try k_fold))))
local macro_rules | `(tactic| walk_at "call ref") => `(tactic| (k_here; (with_reducible show wpAny _ _ (call (Value.ref 40) _) _ _ _); k_dflt (refine' c_s2 _ _ _ _ _ _ _ _ _ _ _ _ _ _ _ _ _ _ _ _ _ _ _ _ _ _ _ ?k1 ?k2 ?k3 ?k4 ?k5 ?k6 ?k7 ?k8 ?k9 ?_; (case k7 => first | exact pre_km (by assumption) (by assumption) (by assumption) (by assumption) (by assumption)); (case k1 => k_asm); (case k2 => k_asm); (case k3 => k_asm); (case k4 => k_asm); (case k5 => k_asm); (case k6 => first | exact rfl | assumption); (case k8 => ktr_room); (case k9 => ktr_units); (intro t9 h9 tk9 F9 N9); (try dsimp only); (try k_fold))))
local macro_rules | `(tactic| walk_at "call ref") => `(tactic| (k_here; (with_reducible show wpAny _ _ (call (Value.ref 26) _) _ _ _); k_dflt (refine' c_eu _ _ _ _ _ _ _ _ _ _ _ _ _ _ _ _ _ _ _ _ _ _ _ _ _ ?k1 ?k2 ?k3 ?k4 ?k5 ?k6 ?k7 ?k8 ?k9 ?_; (case k7 => first | exact pre_2e (by assumption) (by assumption) (by assumption)); (case k1 => k_asm); (case k2 => k_asm); (case k3 => k_asm); (case k4 => k_asm); (case k5 => k_asm); (case k6 => first | exact rfl | assumption); (case k8 => ktr_room); (case k9 => ktr_units); (intro t9 h9 tk9 F9 N9); (try dsimp only); (try k_fold))))
local macro_rules | `(tactic| walk_at "call ref") => `(tactic| (k_here; (with_reducible show wpAny _ _ (call (Value.ref 54) _) _ _ _); k_dflt (refine' c_choose _ _ _ _ _ _ _ _ _ _ _ _ _ _ _ _ _ _ _ _ _ _ _ _ _ _ _ ?k1 ?k2 ?k3 ?k4 ?k5 ?k6 ?k7 ?k8 ?k9 ?_; (case k7 => first | exact pre_bk (by assumption) (by assumption) (by assumption) (by assumption) (by assumption) (by assumption) | exact pre_2 (by assumption) (by assumption) (by assumption)); (case k1 => k_asm); (case k2 => k_asm); (case k3 => k_asm); (case k4 => k_asm); (case k5 => k_asm); (case k6 => first | exact rfl | assumption); (case k8 => ktr_room); (case k9 => ktr_units); (intro t9 h9 tk9 F9 N9); (try dsimp only); (try k_fold))))
local macro_rules | `(tactic| walk_at "call ref") => `(tactic| (k_here; (with_reducible show wpAny _ _ (call (Value.ref 33) _) _ _ _); k_dflt (refine' c_s1z _ _ _ _ _ _ _ _ _ _ _ _ _ _ _ _ _ _ _ _ _ _ _ _ _ _ _ ?k1 ?k2 ?k3 ?k4 ?k5 ?k6 ?k7 ?k8 ?k9 ?_; (case k7 => first | exact pre_z (by assumption) (by assumption) (by assumption)); (case k1 => k_asm); (case k2 => k_asm); (case k3 => k_asm); (case k4 => k_asm); (case k5 => k_asm); (case k6 => first | exact rfl | assumption); (case k8 => ktr_room); (case k9 => ktr_units); (intro t9 h9 tk9 F9 N9); (try dsimp only); (try k_fold))))
local macro_rules | `(tactic| walk_at "call ref") => `(tactic| (k_here; (with_reducible show wpAny _ _ (call (Value.ref 40) _) _ _ _); k_dflt (refine' c_s2z _ _ _ _ _ _ _ _ _ _ _ _ _ _ _ _ _ _ _ _ _ _ _ _ _ _ _ ?k1 ?k2 ?k3 ?k4 ?k5 ?k6 ?k7 ?k8 ?k9 ?_; (case k7 => first | exact pre_z (by assumption) (by assumption) (by assumption)); (case k1 => k_asm); (case k2 => k_asm); (case k3 => k_asm); (case k4 => k_asm); (case k5 => k_asm); (case k6 => first | exact rfl | assumption); (case k8 => ktr_room); (case k9 => ktr_units); (intro t9 h9 tk9 F9 N9); (try dsimp only); (try k_fold))))
local macro_rules | `(tactic| walk_at "call ref") => `(tactic| (k_here; (with_reducible show wpAny _ _ (call (Value.ref 26) _) _ _ _); k_dflt (refine' c_euz _ _ _ _ _ _ _ _ _ _ _ _ _ _ _ _ _ _ _ _ _ _ _ _ _ ?k1 ?k2 ?k3 ?k4 ?k5 ?k6 ?k7 ?k8 ?k9 ?_; (case k7 => first | exact pre_k9 (by assumption) (by assumption) (by assumption)); (case k1 => k_asm); (case k2 => k_asm); (case k3 => k_asm); (case k4 => k_asm); (case k5 => k_asm); (case k6 => first | exact rfl | assumption); (case k8 => ktr_room); (case k9 => ktr_units); (intro t9 h9 tk9 F9 N9); (try dsimp only); (try k_fold))))
local macro_rules | `(tactic| walk_at "call builtin:min") => `(tactic| (k_here; (with_reducible show wpAny _ _ (call (Value.builtin _) [Value.int _ _, Value.int _ _]) _ _ _); k_dflt (refine' min_gen ?hh ?mF ?mN ?_; (case hh => with_unfolding_all rfl); (case mF => k_asm); (case mN => k_asm); k_whole); intro zM tM hM tkM hz1 hz2 hz3 FM NM))
local macro_rules | `(tactic| walk_at "subscriptTail Name Name ref int") => `(tactic| (k_here; k_dflt (first
  | (refine' item_s ?qN ?qm ?qi ?q0 ?q1 ?q2 ?_; (case qN => k_asm); (case qm => k_mem); (case qi => assumption); (case q0 => assumption); (case q1 => assumption); (case q2 => assumption); k_whole)
  | (refine' item_r ?qN ?qm ?qi ?q0 ?q1 ?q2 ?q3 ?q4 ?_; (case qN => k_asm); (case qm => k_mem); (case qi => assumption); (case q0 => assumption); (case q3 => assumption); (case q4 => assumption); (case q1 => assumption); (case q2 => assumption); k_whole)
  | (refine' item_z ?qN ?qm ?qi ?q0 ?q1 ?q2 ?q3 ?_; (case qN => k_asm); (case qm => k_mem); (case qi => assumption); (case q0 => assumption); (case q2 => assumption); (case q3 => assumption); (case q1 => assumption); k_whole)); intro t9))
local macro_rules | `(tactic| mul_fits) => `(tactic| first | exact mul_two _ | exact mul_s1m (by assumption) (by assumption) (by assumption) (by assumption) (by assumption) | exact mul_s2m (by assumption) (by assumption) (by assumption) (by assumption) (by assumption) | exact mul_fac (by assumption) (by assumption) (by assumption) (by assumption) | exact mul_s2r (by assumption) (by assumption) (by assumption) (by assumption) | exact mul_eu (by assumption) (by assumption) (by assumption))
local macro_rules | `(tactic| walk_at "compareOp NotEq int int") => `(tactic| ((refine ne_int_eq ?hne ?_); (case hne => first | exact e4 (by assumption) | exact e5 (by assumption) (by assumption) (by assumption) | exact e6 (by assumption) (by assumption) (by assumption) | exact e10 (by assumption) (by assumption) (by assumption) (by assumption) (by assumption) (by assumption)); ((rename News _ _ _ _ => lN9); (have lN8 := news_tail lN9); clear lN9); (try ((rename (_ ≠ _ ∧ _) => hz); clear hz))))
local macro_rules | `(tactic| walk_at "compareOp Eq int int") => `(tactic| ((refine eq_int_eq ?hne ?_); (case hne => first | exact e11 (by assumption))))
local macro_rules | `(tactic| walk_at "binaryOp Pow int int") => `(tactic| (with_reducible refine pow_bn (by assumption) (by assumption) (by assumption) ?_))
local macro_rules | `(tactic| walk_at "ite") => `(tactic| ((with_reducible refine ite_consts ?_)))
local macro_rules | `(tactic| walk_at "binaryOp Mod int int") => `(tactic| ((with_reducible refine mod_gen ?hb ?_); (case hb => omega); intro z9 hz9 hz9'))
local macro_rules | `(tactic| walk_at "isTrue Compare") => `(tactic| (k_here; ((rename News _ _ _ _ => lN9); (have lN8 := news_drop5 lN9); clear lN9); (repeat ((rename (_ ≠ _ ∧ _) => hz); clear hz)); walk1))
def RestPost (h₀ : Heap) (L : Addr) (m : Str → Option Value) (s : Shared) (f : Flow) (s' : Shared) : Prop := f = .ret (.bool true) ∧ ∃ h' tk', s' = { s with heap := h', toks := tk' } ∧ Fr h₀ L h' m
theorem t_rest (w : World) (loose : List Str) (mean : ExcName → Option Value) (mg mb : Str → Option Value) (h₀ : Heap) (L fa : Nat) (cd : Value) (s : Shared) (m : Str → Option Value) (E : Value → Shared → Prop)
    (n a : Int) (tn ta : Tok) (D1 D2 : Nat) (o1 o2 o3 ox o5 o6 : Obj) (ys1 ys2 : List Value) (cv c5 c6 : Option Value)
    (K0 : Below callerA h₀ [] h₀) (X : (hd.heap_39 w.params).In h₀) (T : Top hd.view_39 loose mean mg mb h₀)
    (hn : 0 ≤ n ∧ n ≤ 9) (d1 : o1.data = .cell (some (.int n tn))) (d2 : o2.data = .cell (some (.ref D1))) (d3 : o3.data = .cell (some (.ref D2))) (dx : ox.data = .cell cv) (d5 : o5.data = .cell c5) (d6 : o6.data = .cell c6)
    (I1 : IntsAre ys1 (List.map (fun k' => s1 n k') (rangeKs 0 (n + 1 - 0).toNat))) (I2 : IntsAre ys2 (List.map (fun k' => s2 n k') (rangeKs 0 (n + 1 - 0).toNat)))
    (hc : (D2 ≠ L + 1 + 1 + 1 + 1 + 1 ∧ D1 ≠ L + 1 + 1 + 1 + 1 + 1) ∧ D2 ≠ L + 1 + 1 + 1 + 1 + 1 + 1 ∧ D1 ≠ L + 1 + 1 + 1 + 1 + 1 + 1)
    (F : Fr h₀ L s.heap (fun y => if y = Str.ofString "a" then some (.int a ta) else m y)) (N : News h₀ L s.heap [(D2, LCg.lst ys2), (D1, LCg.lst ys1), (L + 1 + 1 + 1 + 1 + 1 + 1, o6), (L + 1 + 1 + 1 + 1 + 1, o5), (L + 1 + 1 + 1 + 1, ox), (L + 1 + 1 + 1, o3), (L + 1 + 1, o2), (L + 1, o1)]) :
    wpAny (model PySem.Challenge.rw_ag5012_01.row.prog w) (callerA.deeper (envOfC (Str.ofString "law") (lawS w.params) L fa cd)) (execs (stmtN w.params 4) (envOfC (Str.ofString "law") (lawS w.params) L fa cd)) (RestPost h₀ L (fun y => if y = Str.ofString "a" then some (.int a ta) else m y) s) E s := by
  w_top off
  revert X; k_fill; intro X
  obtain ⟨S, hS⟩ : ∃ S, S = lawS w.params := ⟨_, rfl⟩
  rw [← hS]
  conv at hS => rhs; whnf
  subst hS
  obtain ⟨B, hB⟩ : ∃ B, B = stmtN w.params 4 := ⟨_, rfl⟩
  rw [← hB]
  conv at hB => rhs; whnf
  subst hB
  have hMk := kstMark
  k_with_none
  -- 5
  refine wpAny_execs_cons ?_
  refine cutS (fun nw => nw = led L D1 D2 ys1 ys2 o6 o5 ox o3 o2 o1) F ?_ ?_
  · k_steps
    (rename Fr _ _ _ _ => lF)
    (rename News _ _ _ _ => lN)
    refine NextPost.intro lF lN rfl ?_
    lcg_sub
  clear F N
  rintro h5 tk5 _ F N rfl
  dsimp only
  -- 6
  refine wpAny_execs_cons ?_
  refine cutS (fun nw => ∃ o5' z t, o5'.data = .cell (some (.int z t)) ∧ 0 ≤ z ∧ z < n + 1 ∧ nw = led L D1 D2 ys1 ys2 o6 o5' ox o3 o2 o1) F ?_ ?_
  · k_steps
    (rename Fr _ _ _ _ => lF)
    (rename News _ _ _ _ => lN)
    refine NextPost.intro lF lN ⟨_, _, _, by assumption, by assumption, by assumption, rfl⟩ ?_
    lcg_sub
  clear F N d5
  rintro h6 tk6 _ F N ⟨o5, z, tz, d5, hz0, hz1, rfl⟩
  dsimp only
  -- 7
  refine wpAny_execs_cons ?_
  refine cutS (fun nw => nw = led L D1 D2 ys1 ys2 o6 o5 ox o3 o2 o1) F ?_ ?_
  · k_steps
    (rename Fr _ _ _ _ => lF)
    (rename News _ _ _ _ => lN)
    refine NextPost.intro lF lN rfl ?_
    lcg_sub
  clear F N
  rintro h7 tk7 _ F N rfl
  dsimp only
  clear hz0 hz1
  -- 8
  refine wpAny_execs_cons ?_
  refine cutS (fun nw => ∃ o6' z t, o6'.data = .cell (some (.int (1 + z) t)) ∧ 0 ≤ z ∧ z < 6 ∧ nw = led L D1 D2 ys1 ys2 o6' o5 ox o3 o2 o1) F ?_ ?_
  · k_steps
    (rename Fr _ _ _ _ => lF)
    (rename News _ _ _ _ => lN)
    refine NextPost.intro lF lN ⟨_, _, _, by assumption, by assumption, by assumption, rfl⟩ ?_
    lcg_sub
  clear F N d6
  rintro h8 tk8 _ F N ⟨o6, zb, tb, d6, hb0, hb1, rfl⟩
  dsimp only
  -- 9
  refine wpAny_execs_cons ?_
  refine cutS (fun nw => nw = led L D1 D2 ys1 ys2 o6 o5 ox o3 o2 o1) F ?_ ?_
  · k_steps
    all_goals first
      | exact (fold_no (by assumption)).elim
      | ((rename Fr _ _ _ _ => lF); (rename News _ _ _ _ => lN); (refine NextPost.intro lF lN rfl ?_); lcg_sub)
  clear F N
  rintro h9 tk9 _ F N rfl
  dsimp only
  -- 10
  refine wpAny_execs_cons ?_
  refine cutS (fun nw => nw = led L D1 D2 ys1 ys2 o6 o5 ox o3 o2 o1) F ?_ ?_
  · k_steps
    (rename Fr _ _ _ _ => lF)
    (rename News _ _ _ _ => lN)
    refine NextPost.intro lF lN rfl ?_
    lcg_sub
  clear F N
  rintro h10 tk10 _ F N rfl
  dsimp only
  clear hb0 hb1
  -- 11
  k_steps
  (rename Fr _ _ _ _ => lF)
  exact ⟨rfl, _, _, rfl, lF⟩
end Mine
-- Glue
namespace Mine
theorem CellPost.weaken {h₀ : Heap} {L : Addr} {m₀ : Str → Option Value} {pre post own : List (Addr × Obj)} {cx : Addr} {s : Shared} {Q : Flow → Shared → Prop} {f : Flow} {s' : Shared} (h : CellPost h₀ L m₀ pre post own cx s (fun _ _ => False) f s') : CellPost h₀ L m₀ pre post own cx s Q f s' := by
  cases f with
  | ret v => exact h.elim
  | brk => exact h.elim
  | next => exact h
  | cont => exact h
theorem turn_glue {M : Model} {A : Around} {E : Value → Shared → Prop} {env : Env} {body : List Stmt} {h₀ : Heap} {L : Addr} {m₀ : Str → Option Value} {pre post own : List (Addr × Obj)} {cx : Addr} {s s₀ : Shared} {Q : Flow → Shared → Prop} {T : Sem Unit}
    (h : wpAny M A T (fun _ s₃ => wpAny M A (execs body env) (CellPost h₀ L m₀ pre post own cx s (fun _ _ => False)) E s₃) E s₀) :
    wpAny M A T (fun _ s₃ => wpAny M A (execs body env) (CellPost h₀ L m₀ pre post own cx s Q) E s₃) E s₀ :=
  wpAny_mono h (fun _ _ h1 => wpAny_mono h1 (fun _ _ h2 => h2.weaken) fun _ _ e => e) fun _ _ e => e
theorem rest_glue {M : Model} {A : Around} {E : Value → Shared → Prop} {env : Env} {body : List Stmt} {h₀ : Heap} {L : Addr} {m : Str → Option Value} {s : Shared} {Q : Flow → Shared → Prop}
    (h : wpAny M A (execs body env) (RestPost h₀ L m s) E s) (k : ∀ h' tk', Fr h₀ L h' m → Q (.ret (.bool true)) { s with heap := h', toks := tk' }) : wpAny M A (execs body env) Q E s :=
  wpAny_mono h (fun _ _ ⟨e1, h', tk', e2, F⟩ => by subst e1; subst e2; exact k h' tk' F) fun _ _ e => e
theorem fm10 (a : Int) : 0 ≤ a.fmod 10 ∧ a.fmod 10 ≤ 9 := ⟨fmod_lo a (by decide), by have := fmod_hi a (n := 10) (by decide); omega⟩
theorem news_flat {h₀ h : Heap} {L : Addr} {p q r s t u v w : Addr × Obj} (N : News h₀ L h ([p, q, r, s] ++ t :: [u, v, w])) : News h₀ L h [p, q, r, s, t, u, v, w] := N
theorem news_flat2 {h₀ h : Heap} {L : Addr} {a b p q r s t u v w : Addr × Obj} (N : News h₀ L h (a :: b :: ([p, q, r, s] ++ t :: [u, v, w]))) : News h₀ L h [a, b, p, q, r, s, t, u, v, w] := N
end Mine
-- L1
namespace Mine
local macro_rules | `(tactic| walk_at "pyIter ref") => `(tactic| k_extra "pyIter ref")
local macro_rules | `(tactic| walk_at "call ref") => `(tactic| (k_here; (with_reducible show wpAny _ _ (call (Value.ref 21) _) _ _ _); k_dflt (refine' c_ifac _ _ _ _ _ _ _ _ _ _ _ _ _ _ _ _ _ _ _ _ _ _ _ _ _ ?k1 ?k2 ?k3 ?k4 ?k5 ?k6 ?k7 ?k8 ?k9 ?_; (case k1 => k_asm); (case k2 => k_asm); (case k3 => k_asm); (case k4 => k_asm); (case k5 => k_asm); (case k6 => first | exact rfl | assumption); (case k7 => first | assumption | omega | l_fact); (case k8 => ktr_room); (case k9 => ktr_units); (intro t9 h9 tk9 F9 N9); (try dsimp only); (try k_fold))))
local macro_rules | `(tactic| walk_at "call ref") => `(tactic| (k_here; (with_reducible show wpAny _ _ (call (Value.ref 47) _) _ _ _); k_dflt (refine' c_fall _ _ _ _ _ _ _ _ _ _ _ _ _ _ _ _ _ _ _ _ _ _ _ _ _ _ _ _ _ ?k1 ?k2 ?k3 ?k4 ?k5 ?k6 ?k7 ?k8 ?k9 ?_; (case k1 => k_asm); (case k2 => k_asm); (case k3 => k_asm); (case k4 => k_asm); (case k5 => k_asm); (case k6 => first | exact rfl | assumption); (case k7 => first | assumption | omega | l_fact); (case k8 => ktr_room); (case k9 => ktr_units); (intro t9 h9 tk9 F9 N9); (try dsimp only); (try k_fold))))
local macro_rules | `(tactic| walk_at "call ref") => `(tactic| (k_here; (with_reducible show wpAny _ _ (call (Value.ref 33) _) _ _ _); k_dflt (refine' c_s1 _ _ _ _ _ _ _ _ _ _ _ _ _ _ _ _ _ _ _ _ _ _ _ _ _ _ _ ?k1 ?k2 ?k3 ?k4 ?k5 ?k6 ?k7 ?k8 ?k9 ?_; (case k1 => k_asm); (case k2 => k_asm); (case k3 => k_asm); (case k4 => k_asm); (case k5 => k_asm); (case k6 => first | exact rfl | assumption); (case k7 => first | assumption | omega | l_fact); (case k8 => ktr_room); (case k9 => ktr_units); (intro t9 h9 tk9 F9 N9); (try dsimp only); (try k_fold))))
local macro_rules | `(tactic| walk_at "call ref") => `(tactic| (k_here; (with_reducible show wpAny _ _ (call (Value.ref 40) _) _ _ _); k_dflt (refine' c_s2 _ _ _ _ _ _ _ _ _ _ _ _ _ _ _ _ _ _ _ _ _ _ _ _ _ _ _ ?k1 ?k2 ?k3 ?k4 ?k5 ?k6 ?k7 ?k8 ?k9 ?_; (case k1 => k_asm); (case k2 => k_asm); (case k3 => k_asm); (case k4 => k_asm); (case k5 => k_asm); (case k6 => first | exact rfl | assumption); (case k7 => first | assumption | omega | l_fact); (case k8 => ktr_room); (case k9 => ktr_units); (intro t9 h9 tk9 F9 N9); (try dsimp only); (try k_fold))))
local macro_rules | `(tactic| walk_at "call ref") => `(tactic| (k_here; (with_reducible show wpAny _ _ (call (Value.ref 26) _) _ _ _); k_dflt (refine' c_eu _ _ _ _ _ _ _ _ _ _ _ _ _ _ _ _ _ _ _ _ _ _ _ _ _ ?k1 ?k2 ?k3 ?k4 ?k5 ?k6 ?k7 ?k8 ?k9 ?_; (case k1 => k_asm); (case k2 => k_asm); (case k3 => k_asm); (case k4 => k_asm); (case k5 => k_asm); (case k6 => first | exact rfl | assumption); (case k7 => first | assumption | omega | l_fact); (case k8 => ktr_room); (case k9 => ktr_units); (intro t9 h9 tk9 F9 N9); (try dsimp only); (try k_fold))))
local macro_rules | `(tactic| walk_at "call ref") => `(tactic| (k_here; (with_reducible show wpAny _ _ (call (Value.ref 54) _) _ _ _); k_dflt (refine' c_choose _ _ _ _ _ _ _ _ _ _ _ _ _ _ _ _ _ _ _ _ _ _ _ _ _ _ _ ?k1 ?k2 ?k3 ?k4 ?k5 ?k6 ?k7 ?k8 ?k9 ?_; (case k1 => k_asm); (case k2 => k_asm); (case k3 => k_asm); (case k4 => k_asm); (case k5 => k_asm); (case k6 => first | exact rfl | assumption); (case k7 => first | assumption | omega | l_fact); (case k8 => ktr_room); (case k9 => ktr_units); (intro t9 h9 tk9 F9 N9); (try dsimp only); (try k_fold))))


local macro_rules | `(tactic| walk_at "exec For Name Subscript cons nil") => `(tactic| (k_here; (rename Fr _ _ _ _ => lF'); (with_unfolding_all refine' For_turns lF' ?_)))

local macro_rules | `(tactic| walk_at "binaryOp Pow int int") => `(tactic| (k_here; k_dflt (first | (with_reducible refine pow_1020 ?_) | (refine' pow_int ?pa ?pb ?_; (case pa => omega); (case pb => exact powx_ok (by omega) (by omega))))))
local macro_rules | `(tactic| walk_at "binaryOp Mult int int") => `(tactic| (with_reducible refine mul_2x ?_))
local macro_rules | `(tactic| walk_at "binaryOp Mod int int") => `(tactic| ((with_reducible refine mod_x ?_); intro y9 hy9 hy9'))
local macro_rules | `(tactic| walk_at "call builtin:max") => `(tactic| (k_here; (with_reducible show wpAny _ _ (call (Value.builtin _) [Value.int _ _, Value.int _ _]) _ _ _); k_dflt (refine' max_two_N ?hh ?mF ?mN ?_; (case hh => with_unfolding_all rfl); (case mF => k_asm); (case mN => k_asm); k_whole); intro hM tkM FM NM))
local macro_rules | `(tactic| walk_at "call builtin:min") => `(tactic| (k_here; (with_reducible show wpAny _ _ (call (Value.builtin _) [Value.int _ _, Value.int _ _]) _ _ _); k_dflt (refine' min_two_N ?hh ?mF ?mN ?_; (case hh => with_unfolding_all rfl); (case mF => k_asm); (case mN => k_asm); k_whole); intro hM tkM FM NM))
theorem t1 : PySem.Challenge.rw_ag5012_01.Holds := hd (by
  k_with_none
  k_go0
  (all_goals try k_fold)
  refine wpAny_execs_cons ?_
  (rename Fr _ _ _ _ => lF)
  (rename News _ _ _ _ => lN)
  (rename IntsAre _ _ => lI)
  refine cutA lF lN ?_ ?_
  · (rename List Int => ns)
    cases ns with
    | nil => (k_steps; all_goals ((rename Fr _ _ _ _ => lF2); (rename News _ _ _ _ => lN2); (first | exact CutA.intro lF2 rfl lN2 sub_self | exact CutA.intro lF2 rfl lN2 sub_skip)))
    | cons n0 ns => (k_steps; all_goals ((rename Fr _ _ _ _ => lF2); (rename News _ _ _ _ => lN2); (first | exact CutA.intro lF2 rfl lN2 sub_self | exact CutA.intro lF2 rfl lN2 sub_skip)))
  · intro a ta hA tkA FA NA
    clear lF lN
    dsimp only
    k_steps
    (rename Fr _ _ _ _ => lF)
    (rename News _ _ _ _ => lN)
    (rename IntsAre _ _ => lI)
    (with_unfolding_all refine' for_cell (by rfl) lF (news_head lN) (news_pick lN) ?hc ?hoff ?turn ?done)
    case hc => ((exact ⟨_, by assumption⟩))
    case hoff => (((simp only [List.cons_append, List.nil_append]); k_all))
    case turn =>
      intro v ox I oI ol h tk hv hox hoffI hlI F N
      obtain ⟨x, xt, rfl⟩ := ints_mem lI hv
      obtain ⟨cv, hcv⟩ := hox
      clear lF lN
      (rename Below _ _ _ _ => hK0)
      (rename Frag.In _ _ => hX)
      (rename Top _ _ _ _ _ _ => hT)
      simp only [List.cons_append, List.nil_append, List.forall_mem_cons] at hoffI
      have hx1 := hoffI.2.2.2.2.1
      refine turn_glue ?_
      (refine' t_turn _ _ _ _ _ _ _ _ _ _ _ _ _ _ _ _ _ _ _ _ _ _ _ _ _ _ _ _ _ _ _ _ hK0 hX hT (fm10 a) ?d1 ?d2 ?d3 hcv ?I1 ?I2 ?hc F (news_flat2 N))
      case d1 => (assumption)
      case d2 => (assumption)
      case d3 => (assumption)
      case I1 => (assumption)
      case I2 => (assumption)
      case hc => ((exact ⟨fun e => hx1 e.symm, by k_ne, by k_ne, by k_ne⟩))
    case done =>
      intro h tk ox hox F N
      obtain ⟨cv, hcv⟩ := hox
      clear lF lN
      (rename Below _ _ _ _ => hK0)
      (rename Frag.In _ _ => hX)
      (rename Top _ _ _ _ _ _ => hT)
      dsimp only
      (refine' rest_glue (t_rest _ _ _ _ _ _ _ _ _ _ _ _ _ _ _ _ _ _ _ _ _ _ _ _ _ _ _ _ _ hK0 hX hT (fm10 a) ?d1 ?d2 ?d3 hcv ?d5 ?d6 ?I1 ?I2 ?hc F (news_flat N)) ?_)
      case d1 => (assumption)
      case d2 => (assumption)
      case d3 => (assumption)
      case d5 => (assumption)
      case d6 => (assumption)
      case I1 => (assumption)
      case I2 => (assumption)
      case hc => ((exact ⟨⟨by k_ne, by k_ne⟩, by k_ne, by k_ne⟩))
      intro h' tk' F'
      k_steps)
end Mine
theorem PySem.Challenge.cw_ag5012_01_holds : PySem.Challenge.rw_ag5012_01.Holds := by
  exact Mine.t1
