import JvmDerived
import JvmDerived.Pilot.@@N@@Statement
import JvmDerived.Pilot.@@N@@Code
set_option linter.unusedVariables false
set_option linter.unusedSimpArgs false
namespace Jvm.RoadKit
open Sem ClassFile Op Lib Jvm.Stand Jvm.Free Jvm.LawKit
section New
variable {p : Program} {l : Launch} {e : Env} {R : Room} {s : State} {m : MethodId} {args : Array Value} {below : List Frame} {meth : Method} {c : Code} {T : State} {locs : List Loc} {cells slots : Nat}
theorem retI (X : Stand p l e R s m args below meth c T locs cells slots) (hx : p.tables.exec = Jvm.exec) {pc : Nat} {Ls : Array Slot} {z : Int32} {rest : List Value} (hret : meth.sig.returnType = some .int) (hd : decode c.code pc = .ok (.ireturn, 1)) {fs : List Frame}
    (hl : ∀ (f : JFrame) (acts : List Action), f.method = m → f.locked = none → f.entered = [] → (doReturn e (T.setTop f) acts (some (.int z))).1 = T.setFrames fs) : Steps p.tables e below (T.setTop (mkF m pc Ls (.int z :: rest))) (T.setFrames fs) := by
  have hm' : T.vm.method? m = some meth := X.method'
  have hn : narrow .int (.int z) = .int z := rfl
  show Steps p.tables e below (T.setTop { method := m, pc := pc, locals := Ls, stack := _ :: rest, locked := none }) _
  jvm_step X.here [X.here.top, hx, hd, hm', hret, hn]
  first | (intro acts; rw [hl _ acts rfl rfl rfl]) | rw [hl _ _ rfl rfl rfl]
  exact Steps.refl _
end New
end Jvm.RoadKit

namespace Jvm.Pilot.@@N@@
open Jvm Jvm.ClassFile Sem Op Lib Jvm.Free Jvm.Stand Jvm.LawKit Jvm.RoadKit Bundle Jvm.Pilot.@@N@@.Jvm.D


def own_fd (x y : Int64) : Int64 := if lcmpW (x ^^^ y) (0 : Int64) < (0 : Int32) then (if lcmpW ((x / y) * y) x = (0 : Int32) then x / y else x / y - 1) else x / y
def own_fm (x y : Int64) : Int64 := if lcmpW (x ^^^ y) (0 : Int64) < (0 : Int32) then (if lcmpW (x - x / y * y) (0 : Int64) = (0 : Int32) then x - x / y * y else (x - x / y * y) + y) else x - x / y * y
theorem own_xs {x y : Int64} (hy : 0 < y.toInt) : lcmpW (x ^^^ y) (0 : Int64) < (0 : Int32) ↔ x.toInt < 0 := by
  have e0 : (0 : Int64).toInt = 0 := rfl
  rw [lw_lt, Int64.lt_iff_toInt_lt, e0]
  have h := c_xorSL x y
  constructor
  · intro q
    by_cases c : x.toInt < 0
    · exact c
    · have := h.2.2.2 (by omega) (by omega)
      omega
  · intro q
    exact h.2.1 q (by omega)
theorem own_nm1 {y : Int64} (hy : 0 < y.toInt) : y ≠ -1 := fun q => by
  rw [q] at hy
  have : (-1 : Int64).toInt = -1 := rfl
  omega
theorem own_fdi (x y : Int64) (hy : 0 < y.toInt) : (own_fd x y).toInt = x.toInt / y.toInt := by
  obtain ⟨d, hd⟩ : ∃ d, y.toInt = d := ⟨_, rfl⟩
  have hq := c_ldiv x y d hd (own_nm1 hy)
  rw [hd] at hy ⊢
  unfold own_fd
  have rx := rng64 x
  by_cases c : x.toInt < 0
  · rw [if_pos ((own_xs (by omega)).mpr c)]
    have q := hq.2 c
    obtain ⟨X, hX⟩ : ∃ X, X = -x.toInt := ⟨_, rfl⟩
    rw [← hX] at q
    have hdm := Int.mul_ediv_add_emod X d
    have hm0 := Int.emod_nonneg X (b := d) (by omega)
    have hm1 := Int.emod_lt_of_pos X (b := d) hy
    have hq0 : 0 ≤ X / d := Int.ediv_nonneg (by omega) (by omega)
    have hml := c_lmul (x / y) y
    rw [q, hd, Int.neg_mul, Int.mul_comm (X / d) d] at hml
    have hr := rng64 (x / y * y)
    have hc0 : 0 ≤ d * (X / d) := Int.mul_nonneg (by omega) hq0
    have hc1 : 1 * (X / d) ≤ d * (X / d) := Int.mul_le_mul_of_nonneg_right (by omega) hq0
    rw [Int.one_mul] at hc1
    have e1 : (x / y * y).toInt = -(d * (X / d)) := by
      generalize d * (X / d) = c at *
      omega
    have hE : lcmpW (x / y * y) x = 0 ↔ X % d = 0 := by
      rw [lw_eq, ← Int64.toInt_inj, e1]
      omega
    by_cases g : X % d = 0
    · rw [if_pos (hE.mpr g), q]
      have e : x.toInt = -(X / d) * d := by rw [Int.neg_mul, Int.mul_comm]; omega
      rw [e, Int.mul_ediv_cancel _ (by omega)]
    · rw [if_neg (fun z => g (hE.mp z))]
      have hs := c_lsub (x / y) 1
      have hr2 := rng64 (x / y - 1)
      have eo : (1 : Int64).toInt = 1 := rfl
      rw [q, eo] at hs
      have hz1 : d - X % d < d := by omega
      have hz0 : 0 ≤ d - X % d := by omega
      have e2 : (x / y - 1).toInt = -(X / d) - 1 := by
        generalize d * (X / d) = c at *
        generalize X / d = c2 at *
        omega
      rw [e2]
      have e3 : x.toInt = (d - X % d) + (-(X / d) - 1) * d := by
        have : (-(X / d) - 1) * d = -(d * (X / d)) - d := by rw [Int.sub_mul, Int.neg_mul, Int.one_mul, Int.mul_comm]
        omega
      rw [e3, Int.add_mul_ediv_right _ _ (Int.ne_of_gt hy), Int.ediv_eq_zero_of_lt hz0 hz1, Int.zero_add]
  · rw [if_neg (fun z => c ((own_xs (by omega)).mp z))]
    exact hq.1 (by omega)
theorem own_fmi (x y : Int64) (hy : 0 < y.toInt) : (own_fm x y).toInt = x.toInt % y.toInt := by
  obtain ⟨d, hd⟩ : ∃ d, y.toInt = d := ⟨_, rfl⟩
  have hq := c_lrem x y d hd
  rw [hd] at hy ⊢
  unfold own_fm
  by_cases c : x.toInt < 0
  · rw [if_pos ((own_xs (by omega)).mpr c)]
    have q := hq.2 c
    have hm0 := Int.emod_nonneg (-x.toInt) (b := d) (by omega)
    have hm1 := Int.emod_lt_of_pos (-x.toInt) (b := d) hy
    have e0 : (0 : Int64).toInt = 0 := rfl
    have hE : lcmpW (x - x / y * y) 0 = 0 ↔ (-x.toInt) % d = 0 := by
      rw [lw_eq, ← Int64.toInt_inj, q, e0]
      omega
    have hdm := Int.mul_ediv_add_emod (-x.toInt) d
    by_cases g : (-x.toInt) % d = 0
    · rw [if_pos (hE.mpr g), q, g]
      have e : x.toInt = 0 + (-((-x.toInt) / d)) * d := by rw [Int.neg_mul, Int.mul_comm]; omega
      rw [e, Int.add_mul_emod_self_right]
      simp
    · rw [if_neg (fun z => g (hE.mp z))]
      have hs := c_ladd (x - x / y * y) y
      have hr2 := rng64 ((x - x / y * y) + y)
      rw [q, hd] at hs
      have hry := rng64 y
      have e2 : ((x - x / y * y) + y).toInt = d - (-x.toInt) % d := by omega
      rw [e2]
      have e3 : x.toInt = (d - (-x.toInt) % d) + (-((-x.toInt) / d) - 1) * d := by
        have : (-((-x.toInt) / d) - 1) * d = -(d * ((-x.toInt) / d)) - d := by rw [Int.sub_mul, Int.neg_mul, Int.one_mul, Int.mul_comm]
        omega
      conv => rhs; rw [e3]
      rw [Int.add_mul_emod_self_right]
      exact (Int.emod_eq_of_lt (by omega) (by omega)).symm
  · rw [if_neg (fun z => c ((own_xs (by omega)).mp z))]
    exact hq.1 (by omega)
def own_phi (O : Int64) : List Int64 → List Int64 → Int64 → Int64
  | x :: xs, c :: cs, a => own_phi O xs cs (if lcmpW x O < (0 : Int32) then a else a + c)
  | _, _, a => a
def own_tm (O x c : Int64) : Int64 := if lcmpW x O < (0 : Int32) then 0 else c
theorem own_phia (O : Int64) : ∀ (bs cs : List Int64) (a : Int64), own_phi O bs cs a = a + own_phi O bs cs 0
  | [], _, a => by simp [own_phi]
  | _ :: _, [], a => by simp [own_phi]
  | x :: xs, c :: cs, a => by
    simp only [own_phi]
    rw [own_phia O xs cs (if lcmpW x O < (0 : Int32) then a else a + c), own_phia O xs cs (if lcmpW x O < (0 : Int32) then 0 else 0 + c)]
    split
    · simp
    · simp [Int64.add_assoc]
theorem own_phic (O x c : Int64) (xs cs : List Int64) : own_phi O (x :: xs) (c :: cs) 0 = own_tm O x c + own_phi O xs cs 0 := by
  simp only [own_phi, own_tm]
  rw [own_phia]
  split <;> simp
theorem own_set (O b c : Int64) : ∀ (bs cs : List Int64) (s : Nat), s < bs.length → s < cs.length → own_phi O (bs.set s b) (cs.set s c) 0 + own_tm O (bs.getD s 0) (cs.getD s 0) = own_phi O bs cs 0 + own_tm O b c
  | [], _, _, h, _ => absurd h (Nat.not_lt_zero _)
  | _ :: _, [], _, _, h => absurd h (Nat.not_lt_zero _)
  | x :: xs, y :: ys, 0, _, _ => by
    simp only [List.set_cons_zero, own_phic, List.getD_cons_zero]
    rw [Int64.add_assoc, Int64.add_assoc, Int64.add_comm (own_tm O b c), Int64.add_comm (own_phi O xs ys 0), Int64.add_assoc]
  | x :: xs, y :: ys, s + 1, h1, h2 => by
    simp only [List.set_cons_succ, own_phic, List.getD_cons_succ]
    rw [Int64.add_assoc, own_set O b c xs ys s (by simpa using h1) (by simpa using h2), Int64.add_assoc]
def own_inv (kn : Nat) (last : Int) (bs cs : List Int64) : Prop := bs.length = kn ∧ cs.length = kn ∧ ∀ s, s < kn → (bs.getD s 0).toInt = -9223372036854775808 ∨ ((bs.getD s 0).toInt % (kn : Int) = (s : Int) ∧ (bs.getD s 0).toInt ≤ last)
def own_slot (b : Int64) (kn : Nat) : Nat := (b.toInt % (kn : Int)).toNat
def own_b1 (bs : List Int64) (s : Nat) (b : Int64) : List Int64 := if bs.getD s 0 = b then bs else bs.set s b
def own_c1 (bs cs : List Int64) (s : Nat) (b : Int64) : List Int64 := if bs.getD s 0 = b then cs else cs.set s 0
def own_c2 (bs cs : List Int64) (s : Nat) (b : Int64) : List Int64 := (own_c1 bs cs s b).set s ((own_c1 bs cs s b).getD s 0 + 1)
def own_one (O b : Int64) : Int64 := if lcmpW b O < (0 : Int32) then 0 else 1
theorem own_slotlt (b : Int64) {kn : Nat} (hk : 0 < kn) : own_slot b kn < kn := by
  have h0 := Int.emod_nonneg b.toInt (b := (kn : Int)) (by omega)
  have h1 := Int.emod_lt_of_pos b.toInt (b := (kn : Int)) (by omega)
  unfold own_slot
  omega
theorem own_gets {l : List Int64} {s t : Nat} {x : Int64} (hs : s < l.length) : (l.set s x).getD t 0 = if t = s then x else l.getD t 0 := by
  simp only [List.getD_eq_getElem?_getD, List.getElem?_set]
  by_cases h : s = t
  · subst h; simp [hs]
  · simp [h, Ne.symm h]
theorem own_sets {l : List Int64} {s : Nat} (hs : s < l.length) : l.set s (l.getD s 0) = l := by
  rw [List.getD_eq_getElem?_getD, List.getElem?_eq_getElem hs]
  simp
theorem own_canc {a b c : Int64} (h : a + c = b + c) : a = b := by
  have := congrArg (fun z => z - c) h
  simpa [Int64.sub_eq_add_neg, Int64.add_assoc, Int64.add_right_neg] using this
theorem own_step {O b : Int64} {kn : Nat} {last : Int} {bs cs : List Int64} (hk : 0 < kn) (hi : own_inv kn last bs cs) (hl : last ≤ b.toInt) (hb : b.toInt < O.toInt + kn) (hO : -9223372036854775808 < O.toInt) :
    own_inv kn b.toInt (own_b1 bs (own_slot b kn) b) (own_c2 bs cs (own_slot b kn) b) ∧ own_phi O (own_b1 bs (own_slot b kn) b) (own_c2 bs cs (own_slot b kn) b) 0 = own_phi O bs cs 0 + own_one O b := by
  have hs := own_slotlt b hk
  have hsm : ((own_slot b kn : Nat) : Int) = b.toInt % (kn : Int) := by
    have h0 := Int.emod_nonneg b.toInt (b := (kn : Int)) (by omega)
    unfold own_slot
    omega
  generalize own_slot b kn = s at hs hsm
  obtain ⟨h1, h2, h3⟩ := hi
  by_cases e : bs.getD s 0 = b
  · have eb : own_b1 bs s b = bs := if_pos e
    have ec : own_c1 bs cs s b = cs := if_pos e
    unfold own_c2
    rw [eb, ec]
    refine ⟨⟨h1, by rw [List.length_set]; exact h2, fun t ht => ?_⟩, ?_⟩
    · rcases h3 t ht with q | ⟨q1, q2⟩
      · exact Or.inl q
      · exact Or.inr ⟨q1, by omega⟩
    · have q := own_set O b (cs.getD s 0 + 1) bs cs s (by omega) (by omega)
      have q2 : bs.set s b = bs := by rw [← e]; exact own_sets (by omega)
      rw [q2, e] at q
      refine own_canc (c := own_tm O b (cs.getD s 0)) (q.trans ?_)
      unfold own_tm own_one
      split
      · simp
      · rw [Int64.add_assoc, Int64.add_comm 1]
  · have eb : own_b1 bs s b = bs.set s b := if_neg e
    have ec : own_c1 bs cs s b = cs.set s 0 := if_neg e
    have e2 : own_c2 bs cs s b = cs.set s 1 := by
      unfold own_c2
      rw [ec, own_gets (by omega), if_pos rfl, List.set_set]
      rfl
    rw [eb, e2]
    refine ⟨⟨by rw [List.length_set]; exact h1, by rw [List.length_set]; exact h2, fun t ht => ?_⟩, ?_⟩
    · rw [own_gets (by omega)]
      by_cases c : t = s
      · rw [if_pos c]
        exact Or.inr ⟨by rw [← hsm, c], Int.le_refl _⟩
      · rw [if_neg c]
        rcases h3 t ht with q | ⟨q1, q2⟩
        · exact Or.inl q
        · exact Or.inr ⟨q1, by omega⟩
    · have q := own_set O b 1 bs cs s (by omega) (by omega)
      have z : own_tm O (bs.getD s 0) (cs.getD s 0) = 0 := by
        unfold own_tm
        rw [if_pos]
        rw [lw_lt, Int64.lt_iff_toInt_lt]
        rcases h3 s hs with g | ⟨g1, g2⟩
        · omega
        · have ne : (bs.getD s 0).toInt ≠ b.toInt := fun w => e (Int64.toInt_inj.mp w)
          have d1 := Int.mul_ediv_add_emod (bs.getD s 0).toInt (kn : Int)
          have d2 := Int.mul_ediv_add_emod b.toInt (kn : Int)
          have lt : (bs.getD s 0).toInt / (kn : Int) < b.toInt / (kn : Int) := by
            rcases Int.lt_or_le ((bs.getD s 0).toInt / (kn : Int)) (b.toInt / (kn : Int)) with w | w
            · exact w
            · have := Int.mul_le_mul_of_nonneg_left w (show (0 : Int) ≤ (kn : Int) by omega)
              omega
          have m := Int.mul_le_mul_of_nonneg_left (show (bs.getD s 0).toInt / (kn : Int) + 1 ≤ b.toInt / (kn : Int) from lt) (show (0 : Int) ≤ (kn : Int) by omega)
          rw [Int.mul_add, Int.mul_one] at m
          omega
      rw [z] at q
      rw [Int64.add_zero] at q
      exact q
theorem own_start {O x : Int64} (hx : x.toInt = -9223372036854775808) (hO : -9223372036854775808 < O.toInt) : ∀ kn : Nat, own_phi O (List.replicate kn x) (List.replicate kn 0) 0 = 0
  | 0 => rfl
  | n + 1 => by
    rw [List.replicate_succ, List.replicate_succ, own_phic, own_start hx hO n]
    unfold own_tm
    rw [if_pos (by rw [lw_lt, Int64.lt_iff_toInt_lt]; omega)]
    rfl
theorem own_invs {x : Int64} (hx : x.toInt = -9223372036854775808) (kn : Nat) (last : Int) : own_inv kn last (List.replicate kn x) (List.replicate kn 0) := by
  refine ⟨by simp, by simp, fun s hs => Or.inl ?_⟩
  rw [List.getD_eq_getElem?_getD]
  simp [hs, hx]


def own_min (a b : Int32) : Int32 := if b < a then b else a
def own_max (a b : Int64) : Int64 := if lcmpW a b < (0 : Int32) then b else a
def own_off (s : Int32) (x b : Int64) : Int64 := if s = 0 then 0 else if s = 1 then b - 1 else (x &&& (9223372036854775807 : Int64)) - (x &&& (9223372036854775807 : Int64)) / b * b
theorem own_ge {i n : Nat} (h : i + 0 = n) : ¬ Int32.ofNat i < Int32.ofNat n := by
  have : i = n := by omega
  rw [this]; exact Int32.lt_irrefl
theorem own_lt {i k n : Nat} (h : i + (k + 1) = n) (hn : n ≤ 4) : Int32.ofNat i < Int32.ofNat n := by
  rw [Int32.lt_iff_toInt_lt, Int32.toInt_ofNat_of_lt (by omega), Int32.toInt_ofNat_of_lt (by omega)]
  omega
theorem own_ltn {i n : Nat} (h : i < n) (hn : n ≤ 4) : Int32.ofNat i < Int32.ofNat n := own_lt (k := n - i - 1) (by omega) hn
theorem own_nn {i : Nat} (hn : i ≤ 4) : ¬ Int32.ofNat i < 0 := by
  rw [Int32.lt_iff_toInt_lt, Int32.toInt_ofNat_of_lt (by omega)]
  have e0 : (0 : Int32).toInt = 0 := rfl
  omega
theorem own_cl {i : Nat} (hn : i ≤ 4) : (Int32.ofNat i).toNatClampNeg = i := clamp_of rfl (by omega)
theorem own_vset {Z : State} {h : Heap} {a : Addr} {k : ClassId} {z : Int32} {vs : List Int64} {d : Value} {i : Nat} {x : Int64} (hi : i ≤ 4) (V : Arv Z h a k .long z ((vs.map Value.long).set (Int32.ofNat i).toNatClampNeg (.long x)) d) : Arv Z h a k .long z ((vs.set i x).map Value.long) d := by
  rw [List.map_set]
  rw [own_cl hi] at V
  exact V
theorem own_vget {vs : List Int64} {i : Nat} (hi : i ≤ 4) : (vs.map Value.long).getD (Int32.ofNat i).toNatClampNeg (.long 0) = .long (vs.getD i 0) := by
  rw [own_cl hi]
  simp only [List.getD_eq_getElem?_getD, List.getElem?_map]
  cases vs[i]? <;> rfl
theorem own_kl {n : Nat} (hn : n ≤ 4) : (Int32.ofNat n).toInt64.toInt = (n : Int) := by
  rw [c_i2l, Int32.toInt_ofNat_of_lt (by omega)]
theorem own_slotI (b : Int64) {kn : Nat} (hk : 0 < kn) (hn : kn ≤ 4) : (own_fm b (Int32.ofNat kn).toInt64).toInt32 = Int32.ofNat (own_slot b kn) := by
  have h := own_fmi b (Int32.ofNat kn).toInt64 (by rw [own_kl hn]; omega)
  rw [own_kl hn] at h
  have h0 := Int.emod_nonneg b.toInt (b := (kn : Int)) (by omega)
  have h1 := Int.emod_lt_of_pos b.toInt (b := (kn : Int)) (by omega)
  have q := c_l2i (own_fm b (Int32.ofNat kn).toInt64)
  have r := rng32 (own_fm b (Int32.ofNat kn).toInt64).toInt32
  apply Int32.toInt_inj.mp
  have hs := own_slotlt b hk
  rw [Int32.toInt_ofNat_of_lt (by omega)]
  unfold own_slot
  omega
theorem own_phid (O : Int64) {bs cs : List Int64} {i : Nat} (acc : Int64) (h1 : i < bs.length) (h2 : i < cs.length) : own_phi O (bs.drop i) (cs.drop i) acc = own_phi O (bs.drop (i + 1)) (cs.drop (i + 1)) (if lcmpW (bs.getD i 0) O < (0 : Int32) then acc else acc + cs.getD i 0) := by
  have e1 : bs.getD i 0 = bs[i] := by simp [List.getD_eq_getElem?_getD, h1]
  have e2 : cs.getD i 0 = cs[i] := by simp [List.getD_eq_getElem?_getD, h2]
  rw [List.drop_eq_getElem_cons h1, List.drop_eq_getElem_cons h2, own_phi, e1, e2]
theorem own_repl {n : Nat} {q : Int64} : ∀ {vs : List Int64}, vs.length = n → (∀ j, j < n → vs.getD j 0 = q) → vs = List.replicate n q := fun {vs} h1 h2 => by
  apply List.eq_replicate_iff.mpr
  refine ⟨h1, fun b hb => ?_⟩
  obtain ⟨j, hj, rfl⟩ := List.getElem_of_mem hb
  have := h2 j (by omega)
  rw [← this]; simp [List.getD_eq_getElem?_getD, hj]
/-- the object with its two arrays, of kn places each -/
def own_rc (Z : State) (n0 : Nat) (h : Heap) (o : Addr) (b : Int64) (kn : Nat) (bs cs : List Int64) : Prop := Exa Z h o "com/example/ventil/ventil/RollingCount" ∧ Fld Z h o "com/example/ventil/ventil/RollingCount" "bucketNanos" "J" (.long b) ∧ bs.length = kn ∧ cs.length = kn ∧ ∃ (ca da : Addr) (kc kd : ClassId), n0 ≤ ca ∧ n0 ≤ da ∧ ca ≠ da ∧ Fld Z h o "com/example/ventil/ventil/RollingCount" "counts" "[J" (.ref ca) ∧ Fld Z h o "com/example/ventil/ventil/RollingCount" "bucketInSlot" "[J" (.ref da) ∧ Arv Z h ca kc .long (Int32.ofNat kn) (cs.map Value.long) (.long 0) ∧ Arv Z h da kd .long (Int32.ofNat kn) (bs.map Value.long) (.long 0)
theorem own_ne {Z : State} {h : Heap} {a b : Addr} {k : ClassId} {ty : FieldType} {z : Int32} {vs : List Value} {d : Value} {C : String} {a0 : Array Value} {m : Nat} (E : Exa Z h a C) (wi : (Cond.instantiable C m).before a0 Z = true) (V : Arv Z h b k ty z vs d) : a ≠ b := by
  obtain ⟨c, A, -⟩ := V
  exact ne_arr E wi A


theorem own_bb (w : Int64) : 2 ≤ ((2 : Int64) + (w &&& (72057594037927935 : Int64))).toInt ∧ ((2 : Int64) + (w &&& (72057594037927935 : Int64))).toInt ≤ 72057594037927937 := by
  have h := c_maskL w 72057594037927935 56 (by decide) (by decide)
  have e : ((2 ^ 56 : Nat) : Int) = 72057594037927936 := rfl
  rw [e] at h
  have q := c_ladd (2 : Int64) (w &&& 72057594037927935)
  have r := rng64 ((2 : Int64) + (w &&& 72057594037927935))
  have e2 : (2 : Int64).toInt = 2 := rfl
  rw [e2] at q
  omega
theorem own_kk (w : Int64) : ∃ kn : Nat, 1 ≤ kn ∧ kn ≤ 4 ∧ (1 : Int32) + (w &&& (3 : Int64)).toInt32 = Int32.ofNat kn := by
  have h := c_maskL w 3 2 (by decide) (by decide)
  have e : ((2 ^ 2 : Nat) : Int) = 4 := rfl
  rw [e] at h
  have q := c_l2i (w &&& 3)
  have r := rng32 (w &&& 3).toInt32
  have q2 := c_iadd (1 : Int32) (w &&& 3).toInt32
  have r2 := rng32 ((1 : Int32) + (w &&& 3).toInt32)
  have e1 : (1 : Int32).toInt = 1 := rfl
  rw [e1] at q2
  refine ⟨((1 : Int32) + (w &&& (3 : Int64)).toInt32).toInt.toNat, by omega, by omega, Int32.toInt_inj.mp ?_⟩
  rw [Int32.toInt_ofNat_of_lt (by omega)]
  omega
/-- the greatest bucket number that the law lets in -/
theorem own_lim {b lim : Int64} (hb : 2 ≤ b.toInt) (hb2 : b.toInt ≤ 72057594037927937) (hl : lim = (9223372036854775807 : Int64) / b - 9) : lim.toInt = 9223372036854775807 / b.toInt - 9 ∧ 100 ≤ lim.toInt := by
  have q := (c_ldiv 9223372036854775807 b _ rfl (own_nm1 (by omega))).1 (by decide)
  have e : (9223372036854775807 : Int64).toInt = 9223372036854775807 := rfl
  rw [e] at q
  have q2 := c_lsub ((9223372036854775807 : Int64) / b) 9
  have e9 : (9 : Int64).toInt = 9 := rfl
  rw [q, e9, ← hl] at q2
  have r := rng64 lim
  have d := Int.mul_ediv_add_emod 9223372036854775807 b.toInt
  have m0 := Int.emod_nonneg 9223372036854775807 (b := b.toInt) (by omega)
  have m1 := Int.emod_lt_of_pos 9223372036854775807 (b := b.toInt) (by omega)
  have lo : 120 ≤ 9223372036854775807 / b.toInt := by
    rcases Int.lt_or_le (9223372036854775807 / b.toInt) 120 with z | z
    · have := Int.mul_le_mul_of_nonneg_left (show 9223372036854775807 / b.toInt ≤ 119 by omega) (show (0 : Int) ≤ b.toInt by omega)
      omega
    · exact z
  have hi : 9223372036854775807 / b.toInt ≤ 9223372036854775807 := Int.ediv_le_self _ (by decide)
  omega
theorem own_bn {p lim : Int64} {Q : Int} (hl : lim.toInt = Q - 9) (h1 : 100 ≤ lim.toInt) : -(Q - 10) ≤ (p - p / lim * lim).toInt ∧ (p - p / lim * lim).toInt ≤ Q - 10 := by
  have q := c_lrem p lim _ rfl
  by_cases c : p.toInt < 0
  · have e := q.2 c
    have m0 := Int.emod_nonneg (-p.toInt) (b := lim.toInt) (by omega)
    have m1 := Int.emod_lt_of_pos (-p.toInt) (b := lim.toInt) (by omega)
    omega
  · have e := q.1 (by omega)
    have m0 := Int.emod_nonneg p.toInt (b := lim.toInt) (by omega)
    have m1 := Int.emod_lt_of_pos p.toInt (b := lim.toInt) (by omega)
    omega
theorem own_nz {lim : Int64} (h1 : 100 ≤ lim.toInt) : lim ≠ 0 := fun e => by
  rw [e] at h1
  have e0 : (0 : Int64).toInt = 0 := rfl
  omega
theorem own_nzb {b : Int64} (h1 : 2 ≤ b.toInt) : b ≠ 0 := fun e => by
  rw [e] at h1
  have e0 : (0 : Int64).toInt = 0 := rfl
  omega
theorem own_seven (a : Int32) : 0 ≤ (a &&& (7 : Int32)).toInt ∧ (a &&& (7 : Int32)).toInt ≤ 7 := by
  have h := c_and a 7 (by decide)
  have e : (7 : Int32).toInt = 7 := rfl
  omega
theorem own_jj {j m : Int32} (hj : 0 ≤ j.toInt) (hj7 : j.toInt ≤ 7) (hm : 0 ≤ m.toInt) : 0 ≤ (j - own_min j m).toInt ∧ (j - own_min j m).toInt ≤ j.toInt := by
  have hq : 0 ≤ (own_min j m).toInt ∧ (own_min j m).toInt ≤ j.toInt := by
    unfold own_min
    split
    · rename_i h
      rw [Int32.lt_iff_toInt_lt] at h
      omega
    · omega
  have q := c_isub j (own_min j m)
  have r := rng32 (j - own_min j m)
  omega
theorem own_offr (s : Int32) (x : Int64) {b : Int64} (hb : 2 ≤ b.toInt) : 0 ≤ (own_off s x b).toInt ∧ (own_off s x b).toInt < b.toInt := by
  unfold own_off
  split
  · have e0 : (0 : Int64).toInt = 0 := rfl
    omega
  · split
    · have q := c_lsub b 1
      have r := rng64 (b - 1)
      have rb := rng64 b
      have e1 : (1 : Int64).toInt = 1 := rfl
      rw [e1] at q
      omega
    · have h := c_maskL x 9223372036854775807 63 (by decide) (by decide)
      have e : ((2 ^ 63 : Nat) : Int) = 9223372036854775808 := rfl
      rw [e] at h
      have q := (c_lrem (x &&& 9223372036854775807) b _ rfl).1 (by omega)
      have m0 := Int.emod_nonneg (x &&& (9223372036854775807 : Int64)).toInt (b := b.toInt) (by omega)
      have m1 := Int.emod_lt_of_pos (x &&& (9223372036854775807 : Int64)).toInt (b := b.toInt) (by omega)
      omega
theorem own_maxr {x y b : Int64} (hx : 0 ≤ x.toInt ∧ x.toInt < b.toInt) (hy : 0 ≤ y.toInt ∧ y.toInt < b.toInt) : 0 ≤ (own_max x y).toInt ∧ (own_max x y).toInt < b.toInt := by
  unfold own_max
  split
  · exact hy
  · exact hx
/-- a time falls in the bucket that it was made from -/
theorem own_time {b u r : Int64} (hb : 2 ≤ b.toInt) (h1 : -(9223372036854775807 / b.toInt - 3) ≤ u.toInt) (h2 : u.toInt ≤ 9223372036854775807 / b.toInt - 3) (hr : 0 ≤ r.toInt ∧ r.toInt < b.toInt) : own_fd (u * b + r) b = u := by
  apply Int64.toInt_inj.mp
  rw [own_fdi _ _ (by omega)]
  have d := Int.mul_ediv_add_emod 9223372036854775807 b.toInt
  have m0 := Int.emod_nonneg 9223372036854775807 (b := b.toInt) (by omega)
  generalize hQ : 9223372036854775807 / b.toInt = Q at *
  have b1 := Int.mul_le_mul_of_nonneg_right h2 (show (0 : Int) ≤ b.toInt by omega)
  have b2 := Int.mul_le_mul_of_nonneg_right h1 (show (0 : Int) ≤ b.toInt by omega)
  rw [Int.sub_mul, Int.mul_comm Q] at b1
  rw [Int.neg_mul, Int.sub_mul, Int.mul_comm Q] at b2
  have q := c_lmul u b
  have rg := rng64 (u * b)
  generalize hc : u.toInt * b.toInt = c at *
  generalize b.toInt * Q = e at *
  have e1 : (u * b).toInt = c := by omega
  have q2 := c_ladd (u * b) r
  have rg2 := rng64 (u * b + r)
  rw [e1] at q2
  have e2 : (u * b + r).toInt = r.toInt + u.toInt * b.toInt := by omega
  rw [e2, Int.add_mul_ediv_right _ _ (by omega), Int.ediv_eq_zero_of_lt hr.1 hr.2, Int.zero_add]
theorem own_uj {b bn : Int64} {j : Int32} (hq : -(9223372036854775807 / b.toInt - 10) ≤ bn.toInt ∧ bn.toInt ≤ 9223372036854775807 / b.toInt - 10) (hb : 2 ≤ b.toInt) (h0 : 0 ≤ j.toInt) (h7 : j.toInt ≤ 7) : (bn - j.toInt64).toInt = bn.toInt - j.toInt := by
  have hi : 9223372036854775807 / b.toInt ≤ 9223372036854775807 := Int.ediv_le_self _ (by decide)
  have q := c_lsub bn j.toInt64
  rw [c_i2l] at q
  have r := rng64 (bn - j.toInt64)
  omega
theorem own_OO {b bn : Int64} {kn : Nat} (hq : -(9223372036854775807 / b.toInt - 10) ≤ bn.toInt ∧ bn.toInt ≤ 9223372036854775807 / b.toInt - 10) (hb : 2 ≤ b.toInt) (hn : kn ≤ 4) : (bn - (Int32.ofNat kn).toInt64 + 1).toInt = bn.toInt - kn + 1 ∧ -9223372036854775808 < bn.toInt - kn + 1 := by
  have hi : 9223372036854775807 / b.toInt ≤ 9223372036854775807 := Int.ediv_le_self _ (by decide)
  have q := c_lsub bn (Int32.ofNat kn).toInt64
  rw [own_kl hn] at q
  have r := rng64 (bn - (Int32.ofNat kn).toInt64)
  have q2 := c_ladd (bn - (Int32.ofNat kn).toInt64) 1
  have e1 : (1 : Int64).toInt = 1 := rfl
  rw [e1] at q2
  have r2 := rng64 (bn - (Int32.ofNat kn).toInt64 + 1)
  omega
def own_ind (f j k : Int32) : Int64 := if f = 0 then 0 else if j < k then 1 else 0
theorem own_ind0 {f : Int32} (j k : Int32) (h : f = 0) : own_ind f j k = 0 := if_pos h
theorem own_ind1 {f : Int32} (j k : Int32) (h : ¬ f = 0) : own_ind f j k = if j < k then 1 else 0 := if_neg h
theorem own_oneI {bn : Int64} {j : Int32} {kn : Nat} {O : Int64} (hO : O.toInt = bn.toInt - kn + 1) (hu : (bn - j.toInt64).toInt = bn.toInt - j.toInt) (hn : kn ≤ 4) : own_one O (bn - j.toInt64) = if j < Int32.ofNat kn then 1 else 0 := by
  unfold own_one
  have h1 : lcmpW (bn - j.toInt64) O < (0 : Int32) ↔ ¬ j < Int32.ofNat kn := by
    rw [lw_lt, Int64.lt_iff_toInt_lt, hu, hO, Int32.lt_iff_toInt_lt, Int32.toInt_ofNat_of_lt (by omega)]
    omega
  by_cases c : j < Int32.ofNat kn
  · rw [if_neg (fun z => h1.mp z c), if_pos c]
  · rw [if_pos (h1.mpr c), if_neg c]
/-- the constructor's own checks -/
theorem own_ini {b : Int64} {kn : Nat} (hb : 2 ≤ b.toInt) (hb2 : b.toInt ≤ 72057594037927937) (h1 : 1 ≤ kn) (h4 : kn ≤ 4) :
    ¬ Int32.ofNat kn < 1 ∧ ¬ lcmpW (b * (Int32.ofNat kn).toInt64) (Int32.ofNat kn).toInt64 < (0 : Int32) ∧ lcmpW (b * (Int32.ofNat kn).toInt64 - b * (Int32.ofNat kn).toInt64 / (Int32.ofNat kn).toInt64 * (Int32.ofNat kn).toInt64) (0 : Int64) = (0 : Int32) ∧ b * (Int32.ofNat kn).toInt64 / (Int32.ofNat kn).toInt64 = b ∧ (Int32.ofNat kn).toInt64 ≠ 0 := by
  have hk := own_kl h4
  generalize (Int32.ofNat kn).toInt64 = K at hk ⊢
  have q := c_lmul b K
  have r := rng64 (b * K)
  rw [hk] at q
  have hm : (b * K).toInt = b.toInt * kn := by
    have : b.toInt * (kn : Int) = b.toInt ∨ b.toInt * (kn : Int) = b.toInt * 2 ∨ b.toInt * (kn : Int) = b.toInt * 3 ∨ b.toInt * (kn : Int) = b.toInt * 4 := by
      have : kn = 1 ∨ kn = 2 ∨ kn = 3 ∨ kn = 4 := by omega
      rcases this with rfl | rfl | rfl | rfl <;> simp
    omega
  have hp : (kn : Int) ≤ b.toInt * kn := by
    have := Int.mul_le_mul_of_nonneg_right (show (1 : Int) ≤ b.toInt by omega) (show (0 : Int) ≤ (kn : Int) by omega)
    omega
  have e0 : (0 : Int64).toInt = 0 := rfl
  have e1 : (1 : Int32).toInt = 1 := rfl
  refine ⟨?_, ?_, ?_, ?_, fun e => by rw [e] at hk; omega⟩
  · rw [Int32.lt_iff_toInt_lt, Int32.toInt_ofNat_of_lt (by omega), e1]
    omega
  · rw [lw_lt, Int64.lt_iff_toInt_lt, hm, hk]
    omega
  · rw [lw_eq, ← Int64.toInt_inj, (c_lrem (b * K) K _ hk).1 (by omega), hm, e0, Int.mul_emod_left]
  · apply Int64.toInt_inj.mp
    rw [(c_ldiv (b * K) K _ hk (own_nm1 (by omega))).1 (by omega), hm, Int.mul_ediv_cancel _ (by omega)]


theorem own_priv {s : State} {args : Array Value} {y : MethodName} (z : MethodName) (hz : z.cls = y.cls) (hsel : (Cond.selects z.cls z z).before args s = true) (hpriv : s.PrivateAt y) (hinst : (Cond.instanceMethod y).before args s = true) (hy : y.cls ≠ "java/lang/invoke/MethodHandle" ∧ y.cls ≠ "java/lang/invoke/VarHandle") : (Cond.selects y.cls y y).before args s = true := by
  obtain ⟨c2, r2, m2, -, -, q3, -, kP, hkP, hkPi⟩ := Cond.selects_spec hsel
  exact selects_self_of_private (by rw [← hz]; exact findClass_of_methodNamed q3) hkP hkPi hpriv hinst hy


theorem own_down {G : Prop} {α : Type} (I : Nat → α → Prop) (h0 : ∀ a, I 0 a → G) (hs : ∀ k a, I (k + 1) a → (∀ b, I k b → G) → G) : ∀ k a, I k a → G := by
  intro k
  induction k with
  | zero => exact h0
  | succ k ih => exact fun a h => hs k a h ih

theorem d1_0 : decode jdk_29_method_69_code 0 = .ok (.iload_n 0, 1) := by decide +kernel
theorem d1_1 : decode jdk_29_method_69_code 1 = .ok (.iload_n 1, 1) := by decide +kernel
theorem d1_2 : decode jdk_29_method_69_code 2 = .ok (.if_icmp .gt 7, 3) := by decide +kernel
theorem d1_5 : decode jdk_29_method_69_code 5 = .ok (.iload_n 0, 1) := by decide +kernel
theorem d1_6 : decode jdk_29_method_69_code 6 = .ok (.goto 4, 3) := by decide +kernel
theorem d1_9 : decode jdk_29_method_69_code 9 = .ok (.iload_n 1, 1) := by decide +kernel
theorem d1_10 : decode jdk_29_method_69_code 10 = .ok (.ireturn, 1) := by decide +kernel
theorem ef_min (m : MethodId) (x0 : Int32) (x1 : Int32) : entryFrame m #[(.int x0), (.int x1)] 2 = mkF m 0 #[.val (.int x0), .val (.int x1)] [] := by (first | (simp [entryFrame, mkF, argsToLocals, Value.category]; done) | rfl)
def Q_min (Z : State) (p1 : Int32) (p2 : Int32) (h0 : Heap) (n0 : Nat) (v : Option Value) (h : Heap) (L : List Loc) : Prop := v = some (.int (own_min p1 p2)) ∧ Fr n0 L ∧ h = h0
set_option maxRecDepth 65536 in
set_option maxHeartbeats 40000000 in
theorem rm_min (l : Launch) (Z : State) (a0 : Array Value) (hw : ∀ d ∈ tables_1, d.before a0 Z = true) (ws : List Jvm.Cond) (p1 : Int32) (p2 : Int32) (h0 : Heap) (n0 : Nat) (Z0 : n0 ≤ h0.size)  :
    MetFree l (⟨"java/lang/Math", "min", "(II)I"⟩ : MethodName) (head1 (Jvm.Cond.code (⟨"java/lang/Math", "min", "(II)I"⟩ : MethodName) jdk_29_method_69_code 2 (some .int) :: ws) ({ frames := 0, cells := 0, slots := 0, locals := 0 } : Room)) (fun a U => a = #[(.int p1), (.int p2)] ∧ Z.Warmed39 U.vm ∧ U.heap = h0) (fun _ _ _ _ _ => True) (fun _ U o U' => ∃ v L, o = .returned v ∧ Q_min Z p1 p2 h0 n0 v U'.heap L ∧ FrameEnd U o U' L ({ frames := 0, cells := 0, slots := 0, locals := 0 } : Room).cells ({ frames := 0, cells := 0, slots := 0, locals := 0 } : Room).slots) := by
  refine MetFree.of_bodySF (Jvm.Free.JP.mathPlain rfl (by decide +kernel)) hisR ?_
  intro p e s m args below meth c s₁ Bd hml0 hP hK
  obtain ⟨rfl, hZ, hh⟩ := hP
  have hx := Bd.exec
  have hby := Bd.bytes
  have hml : c.maxLocals = 2 := hml0
  have hown : s.vm.findClass "java/lang/Math" = some m.cls := findClass_of_methodNamed Bd.named
  have hnm := (name_of_methodNamed Bd.named Bd.method).1
  have X0 : Stand p l e ({ frames := 0, cells := 0, slots := 0, locals := 0 } : Room) s m #[(.int p1), (.int p2)] below meth c s₁ [] 0 0 := Stand.of_body Bd
  have e0 : s₁.heap = h0 := by rw [← hh, Bd.state]; rfl
  have N0 := Fr.nil n0
  have c0 : Goes p e below s₁ (entryFrame m #[(.int p1), (.int p2)] 2) s₁ (mkF m 0 #[.val (.int p1), .val (.int p2)] []) := fun t k => castTop (ef_min m p1 p2) k
  have c1 : Goes p e below s₁ (entryFrame m #[(.int p1), (.int p2)] 2) s₁ (mkF m 2 #[.val (.int p1), .val (.int p2)] [(.int p2), (.int p1)]) := by
    intro t kk
    refine c0 t ?_
    show Steps p.tables e below (s₁.setTop (mkF m 0 #[.val (.int p1), .val (.int p2)] [])) t
    refine XS.iloadN X0.here hx rfl (hb hby d1_0) rfl ?_
    show Steps p.tables e below (s₁.setTop (mkF m 1 #[.val (.int p1), .val (.int p2)] [(.int p1)])) t
    refine XS.iloadN X0.here hx rfl (hb hby d1_1) rfl ?_
    exact kk
  by_cases hc2_2 : p2 < p1
  · have c3 : Goes p e below s₁ (entryFrame m #[(.int p1), (.int p2)] 2) s₁ (mkF m 10 #[.val (.int p1), .val (.int p2)] [(.int p2)]) := by
      intro t kk
      refine c1 t ?_
      show Steps p.tables e below (s₁.setTop (mkF m 2 #[.val (.int p1), .val (.int p2)] [(.int p2), (.int p1)])) t
      refine XS.icmpYes X0.here hx rfl (pc0 := 2) (pc' := 9) rfl (hb hby d1_2) rfl (tlt hc2_2).2.2.1 (by decide) (by decide) ?_
      show Steps p.tables e below (s₁.setTop (mkF m 9 #[.val (.int p1), .val (.int p2)] [])) t
      refine XS.iloadN X0.here hx rfl (hb hby d1_9) rfl ?_
      exact kk
    obtain ⟨fs, hr, hrun, hended, hW, hsame⟩ := X0.leave (v := some (.int p2)) (fun h => by rw [Bd.returns] at h; cases h)
    refine ⟨_, _, c3 _ ?_, hrun, hended, _, _, rfl, ?_, ⟨_, rfl⟩, hW, hsame.mono (by decide) (by decide)⟩
    · exact retI X0 hx Bd.returns (hb hby d1_10) hr
    · show Q_min Z p1 p2 h0 n0 _ s₁.heap _
      rw [e0]
      exact ⟨by simp [own_min, hc2_2], N0, rfl⟩
  · have c4 : Goes p e below s₁ (entryFrame m #[(.int p1), (.int p2)] 2) s₁ (mkF m 10 #[.val (.int p1), .val (.int p2)] [(.int p1)]) := by
      intro t kk
      refine c1 t ?_
      show Steps p.tables e below (s₁.setTop (mkF m 2 #[.val (.int p1), .val (.int p2)] [(.int p2), (.int p1)])) t
      refine XS.icmpNo X0.here hx rfl (hb hby d1_2) rfl (flt hc2_2).2.2.1 ?_
      show Steps p.tables e below (s₁.setTop (mkF m 5 #[.val (.int p1), .val (.int p2)] [])) t
      refine XS.iloadN X0.here hx rfl (hb hby d1_5) rfl ?_
      show Steps p.tables e below (s₁.setTop (mkF m 6 #[.val (.int p1), .val (.int p2)] [(.int p1)])) t
      refine XS.goto X0.here hx rfl (pc0 := 6) (pc' := 10) rfl (hb hby d1_6) (by decide) (by decide) ?_
      exact kk
    obtain ⟨fs, hr, hrun, hended, hW, hsame⟩ := X0.leave (v := some (.int p1)) (fun h => by rw [Bd.returns] at h; cases h)
    refine ⟨_, _, c4 _ ?_, hrun, hended, _, _, rfl, ?_, ⟨_, rfl⟩, hW, hsame.mono (by decide) (by decide)⟩
    · exact retI X0 hx Bd.returns (hb hby d1_10) hr
    · show Q_min Z p1 p2 h0 n0 _ s₁.heap _
      rw [e0]
      exact ⟨by simp [own_min, hc2_2], N0, rfl⟩
theorem d3_0 : decode jdk_29_method_66_code 0 = .ok (.lload_n 0, 1) := by decide +kernel
theorem d3_1 : decode jdk_29_method_66_code 1 = .ok (.lload_n 2, 1) := by decide +kernel
theorem d3_2 : decode jdk_29_method_66_code 2 = .ok (.lcmp, 1) := by decide +kernel
theorem d3_3 : decode jdk_29_method_66_code 3 = .ok (.ifCond .lt 7, 3) := by decide +kernel
theorem d3_6 : decode jdk_29_method_66_code 6 = .ok (.lload_n 0, 1) := by decide +kernel
theorem d3_7 : decode jdk_29_method_66_code 7 = .ok (.goto 4, 3) := by decide +kernel
theorem d3_10 : decode jdk_29_method_66_code 10 = .ok (.lload_n 2, 1) := by decide +kernel
theorem d3_11 : decode jdk_29_method_66_code 11 = .ok (.lreturn, 1) := by decide +kernel
theorem ef_max (m : MethodId) (x0 : Int64) (x1 : Int64) : entryFrame m #[(.long x0), (.long x1)] 4 = mkF m 0 #[.val (.long x0), .second, .val (.long x1), .second] [] := by (first | (simp [entryFrame, mkF, argsToLocals, Value.category]; done) | rfl)
def Q_max (Z : State) (q1 : Int64) (q2 : Int64) (h0 : Heap) (n0 : Nat) (v : Option Value) (h : Heap) (L : List Loc) : Prop := v = some (.long (own_max q1 q2)) ∧ Fr n0 L ∧ h = h0
set_option maxRecDepth 65536 in
set_option maxHeartbeats 40000000 in
theorem rm_max (l : Launch) (Z : State) (a0 : Array Value) (hw : ∀ d ∈ tables_1, d.before a0 Z = true) (ws : List Jvm.Cond) (q1 : Int64) (q2 : Int64) (h0 : Heap) (n0 : Nat) (Z0 : n0 ≤ h0.size)  :
    MetFree l (⟨"java/lang/Math", "max", "(JJ)J"⟩ : MethodName) (head1 (Jvm.Cond.code (⟨"java/lang/Math", "max", "(JJ)J"⟩ : MethodName) jdk_29_method_66_code 4 (some .long) :: ws) ({ frames := 0, cells := 0, slots := 0, locals := 0 } : Room)) (fun a U => a = #[(.long q1), (.long q2)] ∧ Z.Warmed39 U.vm ∧ U.heap = h0) (fun _ _ _ _ _ => True) (fun _ U o U' => ∃ v L, o = .returned v ∧ Q_max Z q1 q2 h0 n0 v U'.heap L ∧ FrameEnd U o U' L ({ frames := 0, cells := 0, slots := 0, locals := 0 } : Room).cells ({ frames := 0, cells := 0, slots := 0, locals := 0 } : Room).slots) := by
  refine MetFree.of_bodySF (Jvm.Free.JP.mathPlain rfl (by decide +kernel)) hisR ?_
  intro p e s m args below meth c s₁ Bd hml0 hP hK
  obtain ⟨rfl, hZ, hh⟩ := hP
  have hx := Bd.exec
  have hby := Bd.bytes
  have hml : c.maxLocals = 4 := hml0
  have hown : s.vm.findClass "java/lang/Math" = some m.cls := findClass_of_methodNamed Bd.named
  have hnm := (name_of_methodNamed Bd.named Bd.method).1
  have X0 : Stand p l e ({ frames := 0, cells := 0, slots := 0, locals := 0 } : Room) s m #[(.long q1), (.long q2)] below meth c s₁ [] 0 0 := Stand.of_body Bd
  have e0 : s₁.heap = h0 := by rw [← hh, Bd.state]; rfl
  have N0 := Fr.nil n0
  have c0 : Goes p e below s₁ (entryFrame m #[(.long q1), (.long q2)] 4) s₁ (mkF m 0 #[.val (.long q1), .second, .val (.long q2), .second] []) := fun t k => castTop (ef_max m q1 q2) k
  have c5 : Goes p e below s₁ (entryFrame m #[(.long q1), (.long q2)] 4) s₁ (mkF m 3 #[.val (.long q1), .second, .val (.long q2), .second] [(.int (lcmpW q1 q2))]) := by
    intro t kk
    refine c0 t ?_
    show Steps p.tables e below (s₁.setTop (mkF m 0 #[.val (.long q1), .second, .val (.long q2), .second] [])) t
    refine XS.lloadN X0.here hx rfl (hb hby d3_0) rfl ?_
    show Steps p.tables e below (s₁.setTop (mkF m 1 #[.val (.long q1), .second, .val (.long q2), .second] [(.long q1)])) t
    refine XS.lloadN X0.here hx rfl (hb hby d3_1) rfl ?_
    show Steps p.tables e below (s₁.setTop (mkF m 2 #[.val (.long q1), .second, .val (.long q2), .second] [(.long q2), (.long q1)])) t
    refine XS.lcmp X0.here hx rfl (hb hby d3_2) rfl ?_
    exact kk
  by_cases hc3_6 : (lcmpW q1 q2) < (0 : Int32)
  · have c7 : Goes p e below s₁ (entryFrame m #[(.long q1), (.long q2)] 4) s₁ (mkF m 11 #[.val (.long q1), .second, .val (.long q2), .second] [(.long q2)]) := by
      intro t kk
      refine c5 t ?_
      show Steps p.tables e below (s₁.setTop (mkF m 3 #[.val (.long q1), .second, .val (.long q2), .second] [(.int (lcmpW q1 q2))])) t
      refine XS.ifYes X0.here hx rfl (pc0 := 3) (pc' := 10) rfl (hb hby d3_3) rfl ((if0 _ _).trans (tlt hc3_6).1) (by decide) (by decide) ?_
      show Steps p.tables e below (s₁.setTop (mkF m 10 #[.val (.long q1), .second, .val (.long q2), .second] [])) t
      refine XS.lloadN X0.here hx rfl (hb hby d3_10) rfl ?_
      exact kk
    obtain ⟨fs, hr, hrun, hended, hW, hsame⟩ := X0.leave (v := some (.long q2)) (fun h => by rw [Bd.returns] at h; cases h)
    refine ⟨_, _, c7 _ ?_, hrun, hended, _, _, rfl, ?_, ⟨_, rfl⟩, hW, hsame.mono (by decide) (by decide)⟩
    · exact retOut X0 hx Bd.returns rfl (Or.inr (Or.inl ⟨rfl, rfl, _, rfl⟩)) (hb hby d3_11) hr
    · show Q_max Z q1 q2 h0 n0 _ s₁.heap _
      rw [e0]
      exact ⟨by simp only [own_max, hc3_6, if_true, if_false], N0, rfl⟩
  · have c8 : Goes p e below s₁ (entryFrame m #[(.long q1), (.long q2)] 4) s₁ (mkF m 11 #[.val (.long q1), .second, .val (.long q2), .second] [(.long q1)]) := by
      intro t kk
      refine c5 t ?_
      show Steps p.tables e below (s₁.setTop (mkF m 3 #[.val (.long q1), .second, .val (.long q2), .second] [(.int (lcmpW q1 q2))])) t
      refine XS.ifNo X0.here hx rfl (hb hby d3_3) rfl ((if0 _ _).trans (flt hc3_6).1) ?_
      show Steps p.tables e below (s₁.setTop (mkF m 6 #[.val (.long q1), .second, .val (.long q2), .second] [])) t
      refine XS.lloadN X0.here hx rfl (hb hby d3_6) rfl ?_
      show Steps p.tables e below (s₁.setTop (mkF m 7 #[.val (.long q1), .second, .val (.long q2), .second] [(.long q1)])) t
      refine XS.goto X0.here hx rfl (pc0 := 7) (pc' := 11) rfl (hb hby d3_7) (by decide) (by decide) ?_
      exact kk
    obtain ⟨fs, hr, hrun, hended, hW, hsame⟩ := X0.leave (v := some (.long q1)) (fun h => by rw [Bd.returns] at h; cases h)
    refine ⟨_, _, c8 _ ?_, hrun, hended, _, _, rfl, ?_, ⟨_, rfl⟩, hW, hsame.mono (by decide) (by decide)⟩
    · exact retOut X0 hx Bd.returns rfl (Or.inr (Or.inl ⟨rfl, rfl, _, rfl⟩)) (hb hby d3_11) hr
    · show Q_max Z q1 q2 h0 n0 _ s₁.heap _
      rw [e0]
      exact ⟨by simp only [own_max, hc3_6, if_true, if_false], N0, rfl⟩
theorem d2_0 : decode method_3_code 0 = .ok (.iload_n 0, 1) := by decide +kernel
theorem d2_1 : decode method_3_code 1 = .ok (.ifCond .ne 5, 3) := by decide +kernel
theorem d2_4 : decode method_3_code 4 = .ok (.lconst 0, 1) := by decide +kernel
theorem d2_5 : decode method_3_code 5 = .ok (.lreturn, 1) := by decide +kernel
theorem d2_6 : decode method_3_code 6 = .ok (.iload_n 0, 1) := by decide +kernel
theorem d2_7 : decode method_3_code 7 = .ok (.iconst 1, 1) := by decide +kernel
theorem d2_8 : decode method_3_code 8 = .ok (.if_icmp .ne 7, 3) := by decide +kernel
theorem d2_11 : decode method_3_code 11 = .ok (.lload_n 3, 1) := by decide +kernel
theorem d2_12 : decode method_3_code 12 = .ok (.lconst 1, 1) := by decide +kernel
theorem d2_13 : decode method_3_code 13 = .ok (.lsub, 1) := by decide +kernel
theorem d2_14 : decode method_3_code 14 = .ok (.lreturn, 1) := by decide +kernel
theorem d2_15 : decode method_3_code 15 = .ok (.lload_n 1, 1) := by decide +kernel
theorem d2_16 : decode method_3_code 16 = .ok (.ldc2_w 15, 3) := by decide +kernel
theorem d2_19 : decode method_3_code 19 = .ok (.land, 1) := by decide +kernel
theorem d2_20 : decode method_3_code 20 = .ok (.lload_n 3, 1) := by decide +kernel
theorem d2_21 : decode method_3_code 21 = .ok (.lrem, 1) := by decide +kernel
theorem d2_22 : decode method_3_code 22 = .ok (.lreturn, 1) := by decide +kernel
theorem pn_2 : plainName "com/example/ventil/ventil/RollingCountSumPinLaw" = true := by first | (simp [plainName, overriddenIn]; done) | decide +kernel
theorem ef_off (m : MethodId) (x0 : Int32) (x1 : Int64) (x2 : Int64) : entryFrame m #[(.int x0), (.long x1), (.long x2)] 5 = mkF m 0 #[.val (.int x0), .val (.long x1), .second, .val (.long x2), .second] [] := by (first | (simp [entryFrame, mkF, argsToLocals, Value.category]; done) | rfl)
def Q_off (Z : State) (p1 : Int32) (q1 : Int64) (q2 : Int64) (h0 : Heap) (n0 : Nat) (v : Option Value) (h : Heap) (L : List Loc) : Prop := v = some (.long (own_off p1 q1 q2)) ∧ Fr n0 L ∧ h = h0
set_option maxRecDepth 65536 in
set_option maxHeartbeats 40000000 in
theorem rm_off (l : Launch) (Z : State) (a0 : Array Value) (hw : ∀ d ∈ tables_1, d.before a0 Z = true) (ws : List Jvm.Cond) (p1 : Int32) (q1 : Int64) (q2 : Int64) (h0 : Heap) (n0 : Nat) (Z0 : n0 ≤ h0.size) (hq2 : q2 ≠ 0) :
    MetFree l (⟨"com/example/ventil/ventil/RollingCountSumPinLaw", "off", "(IJJ)J"⟩ : MethodName) (head1 (Jvm.Cond.code (⟨"com/example/ventil/ventil/RollingCountSumPinLaw", "off", "(IJJ)J"⟩ : MethodName) method_3_code 5 (some .long) :: ws) ({ frames := 0, cells := 0, slots := 0, locals := 0 } : Room)) (fun a U => a = #[(.int p1), (.long q1), (.long q2)] ∧ Z.Warmed39 U.vm ∧ U.heap = h0) (fun _ _ _ _ _ => True) (fun _ U o U' => ∃ v L, o = .returned v ∧ Q_off Z p1 q1 q2 h0 n0 v U'.heap L ∧ FrameEnd U o U' L ({ frames := 0, cells := 0, slots := 0, locals := 0 } : Room).cells ({ frames := 0, cells := 0, slots := 0, locals := 0 } : Room).slots) := by
  refine MetFree.of_bodySF (plainFor_of_name pn_2) hisR ?_
  intro p e s m args below meth c s₁ Bd hml0 hP hK
  obtain ⟨rfl, hZ, hh⟩ := hP
  have hx := Bd.exec
  have hby := Bd.bytes
  have hml : c.maxLocals = 5 := hml0
  have hown : s.vm.findClass "com/example/ventil/ventil/RollingCountSumPinLaw" = some m.cls := findClass_of_methodNamed Bd.named
  have hnm := (name_of_methodNamed Bd.named Bd.method).1
  have X0 : Stand p l e ({ frames := 0, cells := 0, slots := 0, locals := 0 } : Room) s m #[(.int p1), (.long q1), (.long q2)] below meth c s₁ [] 0 0 := Stand.of_body Bd
  have e0 : s₁.heap = h0 := by rw [← hh, Bd.state]; rfl
  have N0 := Fr.nil n0
  have c0 : Goes p e below s₁ (entryFrame m #[(.int p1), (.long q1), (.long q2)] 5) s₁ (mkF m 0 #[.val (.int p1), .val (.long q1), .second, .val (.long q2), .second] []) := fun t k => castTop (ef_off m p1 q1 q2) k
  have c9 : Goes p e below s₁ (entryFrame m #[(.int p1), (.long q1), (.long q2)] 5) s₁ (mkF m 1 #[.val (.int p1), .val (.long q1), .second, .val (.long q2), .second] [(.int p1)]) := by
    intro t kk
    refine c0 t ?_
    show Steps p.tables e below (s₁.setTop (mkF m 0 #[.val (.int p1), .val (.long q1), .second, .val (.long q2), .second] [])) t
    refine XS.iloadN X0.here hx rfl (hb hby d2_0) rfl ?_
    exact kk
  by_cases hc1_10 : p1 = (0 : Int32)
  · have c11 : Goes p e below s₁ (entryFrame m #[(.int p1), (.long q1), (.long q2)] 5) s₁ (mkF m 5 #[.val (.int p1), .val (.long q1), .second, .val (.long q2), .second] [(.long (0 : Int64))]) := by
      intro t kk
      refine c9 t ?_
      show Steps p.tables e below (s₁.setTop (mkF m 1 #[.val (.int p1), .val (.long q1), .second, .val (.long q2), .second] [(.int p1)])) t
      refine XS.ifNo X0.here hx rfl (hb hby d2_1) rfl ((if0 _ _).trans (teq hc1_10).2) ?_
      show Steps p.tables e below (s₁.setTop (mkF m 4 #[.val (.int p1), .val (.long q1), .second, .val (.long q2), .second] [])) t
      refine XS.lconst X0.here hx rfl (hb hby d2_4) ?_
      exact kk
    obtain ⟨fs, hr, hrun, hended, hW, hsame⟩ := X0.leave (v := some (.long (0 : Int64))) (fun h => by rw [Bd.returns] at h; cases h)
    refine ⟨_, _, c11 _ ?_, hrun, hended, _, _, rfl, ?_, ⟨_, rfl⟩, hW, hsame.mono (by decide) (by decide)⟩
    · exact retOut X0 hx Bd.returns rfl (Or.inr (Or.inl ⟨rfl, rfl, _, rfl⟩)) (hb hby d2_5) hr
    · show Q_off Z p1 q1 q2 h0 n0 _ s₁.heap _
      rw [e0]
      exact ⟨by simp [own_off, hc1_10], N0, rfl⟩
  · have c12 : Goes p e below s₁ (entryFrame m #[(.int p1), (.long q1), (.long q2)] 5) s₁ (mkF m 8 #[.val (.int p1), .val (.long q1), .second, .val (.long q2), .second] [(.int (1 : Int32)), (.int p1)]) := by
      intro t kk
      refine c9 t ?_
      show Steps p.tables e below (s₁.setTop (mkF m 1 #[.val (.int p1), .val (.long q1), .second, .val (.long q2), .second] [(.int p1)])) t
      refine XS.ifYes X0.here hx rfl (pc0 := 1) (pc' := 6) rfl (hb hby d2_1) rfl ((if0 _ _).trans (feq hc1_10).2) (by decide) (by decide) ?_
      show Steps p.tables e below (s₁.setTop (mkF m 6 #[.val (.int p1), .val (.long q1), .second, .val (.long q2), .second] [])) t
      refine XS.iloadN X0.here hx rfl (hb hby d2_6) rfl ?_
      show Steps p.tables e below (s₁.setTop (mkF m 7 #[.val (.int p1), .val (.long q1), .second, .val (.long q2), .second] [(.int p1)])) t
      refine XS.iconst X0.here hx rfl (hb hby d2_7) ?_
      exact kk
    by_cases hc8_13 : p1 = (1 : Int32)
    · have c14 : Goes p e below s₁ (entryFrame m #[(.int p1), (.long q1), (.long q2)] 5) s₁ (mkF m 14 #[.val (.int p1), .val (.long q1), .second, .val (.long q2), .second] [(.long (q2 - (1 : Int64)))]) := by
        intro t kk
        refine c12 t ?_
        show Steps p.tables e below (s₁.setTop (mkF m 8 #[.val (.int p1), .val (.long q1), .second, .val (.long q2), .second] [(.int (1 : Int32)), (.int p1)])) t
        refine XS.icmpNo X0.here hx rfl (hb hby d2_8) rfl (teq hc8_13).2 ?_
        show Steps p.tables e below (s₁.setTop (mkF m 11 #[.val (.int p1), .val (.long q1), .second, .val (.long q2), .second] [])) t
        refine XS.lloadN X0.here hx rfl (hb hby d2_11) rfl ?_
        show Steps p.tables e below (s₁.setTop (mkF m 12 #[.val (.int p1), .val (.long q1), .second, .val (.long q2), .second] [(.long q2)])) t
        refine XS.lconst X0.here hx rfl (hb hby d2_12) ?_
        show Steps p.tables e below (s₁.setTop (mkF m 13 #[.val (.int p1), .val (.long q1), .second, .val (.long q2), .second] [(.long (1 : Int64)), (.long q2)])) t
        refine XS.lsub X0.here hx rfl (hb hby d2_13) rfl ?_
        exact kk
      obtain ⟨fs, hr, hrun, hended, hW, hsame⟩ := X0.leave (v := some (.long (q2 - (1 : Int64)))) (fun h => by rw [Bd.returns] at h; cases h)
      refine ⟨_, _, c14 _ ?_, hrun, hended, _, _, rfl, ?_, ⟨_, rfl⟩, hW, hsame.mono (by decide) (by decide)⟩
      · exact retOut X0 hx Bd.returns rfl (Or.inr (Or.inl ⟨rfl, rfl, _, rfl⟩)) (hb hby d2_14) hr
      · show Q_off Z p1 q1 q2 h0 n0 _ s₁.heap _
        rw [e0]
        exact ⟨by simp [own_off, hc1_10, hc8_13], N0, rfl⟩
    · have c15 : Goes p e below s₁ (entryFrame m #[(.int p1), (.long q1), (.long q2)] 5) s₁ (mkF m 22 #[.val (.int p1), .val (.long q1), .second, .val (.long q2), .second] [(.long ((q1 &&& (9223372036854775807 : Int64)) - (q1 &&& (9223372036854775807 : Int64)) / q2 * q2))]) := by
        intro t kk
        refine c12 t ?_
        show Steps p.tables e below (s₁.setTop (mkF m 8 #[.val (.int p1), .val (.long q1), .second, .val (.long q2), .second] [(.int (1 : Int32)), (.int p1)])) t
        refine XS.icmpYes X0.here hx rfl (pc0 := 8) (pc' := 15) rfl (hb hby d2_8) rfl (feq hc8_13).2 (by decide) (by decide) ?_
        show Steps p.tables e below (s₁.setTop (mkF m 15 #[.val (.int p1), .val (.long q1), .second, .val (.long q2), .second] [])) t
        refine XS.lloadN X0.here hx rfl (hb hby d2_15) rfl ?_
        show Steps p.tables e below (s₁.setTop (mkF m 16 #[.val (.int p1), .val (.long q1), .second, .val (.long q2), .second] [(.long q1)])) t
        refine X0.ldc2Long hx hown (mvT hZ (hw _ (List.mem_of_getElem? (i := 3) rfl))) (g := (mkF m 16 #[.val (.int p1), .val (.long q1), .second, .val (.long q2), .second] [(.long q1)])) rfl (hb hby d2_16) _ ?_
        show Steps p.tables e below (s₁.setTop (mkF m 19 #[.val (.int p1), .val (.long q1), .second, .val (.long q2), .second] [(.long (9223372036854775807 : Int64)), (.long q1)])) t
        refine XS.land X0.here hx rfl (hb hby d2_19) rfl ?_
        show Steps p.tables e below (s₁.setTop (mkF m 20 #[.val (.int p1), .val (.long q1), .second, .val (.long q2), .second] [(.long (q1 &&& (9223372036854775807 : Int64)))])) t
        refine XS.lloadN X0.here hx rfl (hb hby d2_20) rfl ?_
        show Steps p.tables e below (s₁.setTop (mkF m 21 #[.val (.int p1), .val (.long q1), .second, .val (.long q2), .second] [(.long q2), (.long (q1 &&& (9223372036854775807 : Int64)))])) t
        refine XS.lrem X0.here hx rfl (hb hby d2_21) rfl hq2 ?_
        exact kk
      obtain ⟨fs, hr, hrun, hended, hW, hsame⟩ := X0.leave (v := some (.long ((q1 &&& (9223372036854775807 : Int64)) - (q1 &&& (9223372036854775807 : Int64)) / q2 * q2))) (fun h => by rw [Bd.returns] at h; cases h)
      refine ⟨_, _, c15 _ ?_, hrun, hended, _, _, rfl, ?_, ⟨_, rfl⟩, hW, hsame.mono (by decide) (by decide)⟩
      · exact retOut X0 hx Bd.returns rfl (Or.inr (Or.inl ⟨rfl, rfl, _, rfl⟩)) (hb hby d2_22) hr
      · show Q_off Z p1 q1 q2 h0 n0 _ s₁.heap _
        rw [e0]
        exact ⟨by simp [own_off, hc1_10, hc8_13], N0, rfl⟩
theorem d9_0 : decode jdk_29_method_49_code 0 = .ok (.lload_n 0, 1) := by decide +kernel
theorem d9_1 : decode jdk_29_method_49_code 1 = .ok (.lload_n 2, 1) := by decide +kernel
theorem d9_2 : decode jdk_29_method_49_code 2 = .ok (.ldiv, 1) := by decide +kernel
theorem d9_3 : decode jdk_29_method_49_code 3 = .ok (.lstore 4, 2) := by decide +kernel
theorem d9_5 : decode jdk_29_method_49_code 5 = .ok (.lload_n 0, 1) := by decide +kernel
theorem d9_6 : decode jdk_29_method_49_code 6 = .ok (.lload_n 2, 1) := by decide +kernel
theorem d9_7 : decode jdk_29_method_49_code 7 = .ok (.lxor, 1) := by decide +kernel
theorem d9_8 : decode jdk_29_method_49_code 8 = .ok (.lconst 0, 1) := by decide +kernel
theorem d9_9 : decode jdk_29_method_49_code 9 = .ok (.lcmp, 1) := by decide +kernel
theorem d9_10 : decode jdk_29_method_49_code 10 = .ok (.ifCond .ge 17, 3) := by decide +kernel
theorem d9_13 : decode jdk_29_method_49_code 13 = .ok (.lload 4, 2) := by decide +kernel
theorem d9_15 : decode jdk_29_method_49_code 15 = .ok (.lload_n 2, 1) := by decide +kernel
theorem d9_16 : decode jdk_29_method_49_code 16 = .ok (.lmul, 1) := by decide +kernel
theorem d9_17 : decode jdk_29_method_49_code 17 = .ok (.lload_n 0, 1) := by decide +kernel
theorem d9_18 : decode jdk_29_method_49_code 18 = .ok (.lcmp, 1) := by decide +kernel
theorem d9_19 : decode jdk_29_method_49_code 19 = .ok (.ifCond .eq 8, 3) := by decide +kernel
theorem d9_22 : decode jdk_29_method_49_code 22 = .ok (.lload 4, 2) := by decide +kernel
theorem d9_24 : decode jdk_29_method_49_code 24 = .ok (.lconst 1, 1) := by decide +kernel
theorem d9_25 : decode jdk_29_method_49_code 25 = .ok (.lsub, 1) := by decide +kernel
theorem d9_26 : decode jdk_29_method_49_code 26 = .ok (.lreturn, 1) := by decide +kernel
theorem d9_27 : decode jdk_29_method_49_code 27 = .ok (.lload 4, 2) := by decide +kernel
theorem d9_29 : decode jdk_29_method_49_code 29 = .ok (.lreturn, 1) := by decide +kernel
theorem ef_fd (m : MethodId) (x0 : Int64) (x1 : Int64) : entryFrame m #[(.long x0), (.long x1)] 6 = mkF m 0 #[.val (.long x0), .second, .val (.long x1), .second, .unset, .unset] [] := by (first | (simp [entryFrame, mkF, argsToLocals, Value.category]; done) | rfl)
def Q_fd (Z : State) (q1 : Int64) (q2 : Int64) (h0 : Heap) (n0 : Nat) (v : Option Value) (h : Heap) (L : List Loc) : Prop := v = some (.long (own_fd q1 q2)) ∧ Fr n0 L ∧ h = h0
set_option maxRecDepth 65536 in
set_option maxHeartbeats 40000000 in
theorem rm_fd (l : Launch) (Z : State) (a0 : Array Value) (hw : ∀ d ∈ tables_1, d.before a0 Z = true) (ws : List Jvm.Cond) (q1 : Int64) (q2 : Int64) (h0 : Heap) (n0 : Nat) (Z0 : n0 ≤ h0.size) (hq2 : q2 ≠ 0) :
    MetFree l (⟨"java/lang/Math", "floorDiv", "(JJ)J"⟩ : MethodName) (head1 (Jvm.Cond.code (⟨"java/lang/Math", "floorDiv", "(JJ)J"⟩ : MethodName) jdk_29_method_49_code 6 (some .long) :: ws) ({ frames := 0, cells := 0, slots := 0, locals := 0 } : Room)) (fun a U => a = #[(.long q1), (.long q2)] ∧ Z.Warmed39 U.vm ∧ U.heap = h0) (fun _ _ _ _ _ => True) (fun _ U o U' => ∃ v L, o = .returned v ∧ Q_fd Z q1 q2 h0 n0 v U'.heap L ∧ FrameEnd U o U' L ({ frames := 0, cells := 0, slots := 0, locals := 0 } : Room).cells ({ frames := 0, cells := 0, slots := 0, locals := 0 } : Room).slots) := by
  refine MetFree.of_bodySF (Jvm.Free.JP.mathPlain rfl (by decide +kernel)) hisR ?_
  intro p e s m args below meth c s₁ Bd hml0 hP hK
  obtain ⟨rfl, hZ, hh⟩ := hP
  have hx := Bd.exec
  have hby := Bd.bytes
  have hml : c.maxLocals = 6 := hml0
  have hown : s.vm.findClass "java/lang/Math" = some m.cls := findClass_of_methodNamed Bd.named
  have hnm := (name_of_methodNamed Bd.named Bd.method).1
  have X0 : Stand p l e ({ frames := 0, cells := 0, slots := 0, locals := 0 } : Room) s m #[(.long q1), (.long q2)] below meth c s₁ [] 0 0 := Stand.of_body Bd
  have e0 : s₁.heap = h0 := by rw [← hh, Bd.state]; rfl
  have N0 := Fr.nil n0
  have c0 : Goes p e below s₁ (entryFrame m #[(.long q1), (.long q2)] 6) s₁ (mkF m 0 #[.val (.long q1), .second, .val (.long q2), .second, .unset, .unset] []) := fun t k => castTop (ef_fd m q1 q2) k
  have c16 : Goes p e below s₁ (entryFrame m #[(.long q1), (.long q2)] 6) s₁ (mkF m 10 #[.val (.long q1), .second, .val (.long q2), .second, .val (.long (q1 / q2)), .second] [(.int (lcmpW (q1 ^^^ q2) (0 : Int64)))]) := by
    intro t kk
    refine c0 t ?_
    show Steps p.tables e below (s₁.setTop (mkF m 0 #[.val (.long q1), .second, .val (.long q2), .second, .unset, .unset] [])) t
    refine XS.lloadN X0.here hx rfl (hb hby d9_0) rfl ?_
    show Steps p.tables e below (s₁.setTop (mkF m 1 #[.val (.long q1), .second, .val (.long q2), .second, .unset, .unset] [(.long q1)])) t
    refine XS.lloadN X0.here hx rfl (hb hby d9_1) rfl ?_
    show Steps p.tables e below (s₁.setTop (mkF m 2 #[.val (.long q1), .second, .val (.long q2), .second, .unset, .unset] [(.long q2), (.long q1)])) t
    refine XS.ldiv X0.here hx rfl (hb hby d9_2) rfl hq2 ?_
    show Steps p.tables e below (s₁.setTop (mkF m 3 #[.val (.long q1), .second, .val (.long q2), .second, .unset, .unset] [(.long (q1 / q2))])) t
    refine XS.lstore X0.here hx rfl (hb hby d9_3) rfl (l' := #[.val (.long q1), .second, .val (.long q2), .second, .val (.long (q1 / q2)), .second]) rfl ?_
    show Steps p.tables e below (s₁.setTop (mkF m 5 #[.val (.long q1), .second, .val (.long q2), .second, .val (.long (q1 / q2)), .second] [])) t
    refine XS.lloadN X0.here hx rfl (hb hby d9_5) rfl ?_
    show Steps p.tables e below (s₁.setTop (mkF m 6 #[.val (.long q1), .second, .val (.long q2), .second, .val (.long (q1 / q2)), .second] [(.long q1)])) t
    refine XS.lloadN X0.here hx rfl (hb hby d9_6) rfl ?_
    show Steps p.tables e below (s₁.setTop (mkF m 7 #[.val (.long q1), .second, .val (.long q2), .second, .val (.long (q1 / q2)), .second] [(.long q2), (.long q1)])) t
    refine XS.lxor X0.here hx rfl (hb hby d9_7) rfl ?_
    show Steps p.tables e below (s₁.setTop (mkF m 8 #[.val (.long q1), .second, .val (.long q2), .second, .val (.long (q1 / q2)), .second] [(.long (q1 ^^^ q2))])) t
    refine XS.lconst X0.here hx rfl (hb hby d9_8) ?_
    show Steps p.tables e below (s₁.setTop (mkF m 9 #[.val (.long q1), .second, .val (.long q2), .second, .val (.long (q1 / q2)), .second] [(.long (0 : Int64)), (.long (q1 ^^^ q2))])) t
    refine XS.lcmp X0.here hx rfl (hb hby d9_9) rfl ?_
    exact kk
  by_cases hc10_17 : (lcmpW (q1 ^^^ q2) (0 : Int64)) < (0 : Int32)
  · have c18 : Goes p e below s₁ (entryFrame m #[(.long q1), (.long q2)] 6) s₁ (mkF m 19 #[.val (.long q1), .second, .val (.long q2), .second, .val (.long (q1 / q2)), .second] [(.int (lcmpW ((q1 / q2) * q2) q1))]) := by
      intro t kk
      refine c16 t ?_
      show Steps p.tables e below (s₁.setTop (mkF m 10 #[.val (.long q1), .second, .val (.long q2), .second, .val (.long (q1 / q2)), .second] [(.int (lcmpW (q1 ^^^ q2) (0 : Int64)))])) t
      refine XS.ifNo X0.here hx rfl (hb hby d9_10) rfl ((if0 _ _).trans (tlt hc10_17).2.1) ?_
      show Steps p.tables e below (s₁.setTop (mkF m 13 #[.val (.long q1), .second, .val (.long q2), .second, .val (.long (q1 / q2)), .second] [])) t
      refine XS.lload X0.here hx rfl (hb hby d9_13) rfl ?_
      show Steps p.tables e below (s₁.setTop (mkF m 15 #[.val (.long q1), .second, .val (.long q2), .second, .val (.long (q1 / q2)), .second] [(.long (q1 / q2))])) t
      refine XS.lloadN X0.here hx rfl (hb hby d9_15) rfl ?_
      show Steps p.tables e below (s₁.setTop (mkF m 16 #[.val (.long q1), .second, .val (.long q2), .second, .val (.long (q1 / q2)), .second] [(.long q2), (.long (q1 / q2))])) t
      refine XS.lmul X0.here hx rfl (hb hby d9_16) rfl ?_
      show Steps p.tables e below (s₁.setTop (mkF m 17 #[.val (.long q1), .second, .val (.long q2), .second, .val (.long (q1 / q2)), .second] [(.long ((q1 / q2) * q2))])) t
      refine XS.lloadN X0.here hx rfl (hb hby d9_17) rfl ?_
      show Steps p.tables e below (s₁.setTop (mkF m 18 #[.val (.long q1), .second, .val (.long q2), .second, .val (.long (q1 / q2)), .second] [(.long q1), (.long ((q1 / q2) * q2))])) t
      refine XS.lcmp X0.here hx rfl (hb hby d9_18) rfl ?_
      exact kk
    by_cases hc19_19 : (lcmpW ((q1 / q2) * q2) q1) = (0 : Int32)
    · have c20 : Goes p e below s₁ (entryFrame m #[(.long q1), (.long q2)] 6) s₁ (mkF m 29 #[.val (.long q1), .second, .val (.long q2), .second, .val (.long (q1 / q2)), .second] [(.long (q1 / q2))]) := by
        intro t kk
        refine c18 t ?_
        show Steps p.tables e below (s₁.setTop (mkF m 19 #[.val (.long q1), .second, .val (.long q2), .second, .val (.long (q1 / q2)), .second] [(.int (lcmpW ((q1 / q2) * q2) q1))])) t
        refine XS.ifYes X0.here hx rfl (pc0 := 19) (pc' := 27) rfl (hb hby d9_19) rfl ((if0 _ _).trans (teq hc19_19).1) (by decide) (by decide) ?_
        show Steps p.tables e below (s₁.setTop (mkF m 27 #[.val (.long q1), .second, .val (.long q2), .second, .val (.long (q1 / q2)), .second] [])) t
        refine XS.lload X0.here hx rfl (hb hby d9_27) rfl ?_
        exact kk
      obtain ⟨fs, hr, hrun, hended, hW, hsame⟩ := X0.leave (v := some (.long (q1 / q2))) (fun h => by rw [Bd.returns] at h; cases h)
      refine ⟨_, _, c20 _ ?_, hrun, hended, _, _, rfl, ?_, ⟨_, rfl⟩, hW, hsame.mono (by decide) (by decide)⟩
      · exact retOut X0 hx Bd.returns rfl (Or.inr (Or.inl ⟨rfl, rfl, _, rfl⟩)) (hb hby d9_29) hr
      · show Q_fd Z q1 q2 h0 n0 _ s₁.heap _
        rw [e0]
        exact ⟨by simp only [own_fd, hc10_17, hc19_19, if_true, if_false], N0, rfl⟩
    · have c21 : Goes p e below s₁ (entryFrame m #[(.long q1), (.long q2)] 6) s₁ (mkF m 26 #[.val (.long q1), .second, .val (.long q2), .second, .val (.long (q1 / q2)), .second] [(.long ((q1 / q2) - (1 : Int64)))]) := by
        intro t kk
        refine c18 t ?_
        show Steps p.tables e below (s₁.setTop (mkF m 19 #[.val (.long q1), .second, .val (.long q2), .second, .val (.long (q1 / q2)), .second] [(.int (lcmpW ((q1 / q2) * q2) q1))])) t
        refine XS.ifNo X0.here hx rfl (hb hby d9_19) rfl ((if0 _ _).trans (feq hc19_19).1) ?_
        show Steps p.tables e below (s₁.setTop (mkF m 22 #[.val (.long q1), .second, .val (.long q2), .second, .val (.long (q1 / q2)), .second] [])) t
        refine XS.lload X0.here hx rfl (hb hby d9_22) rfl ?_
        show Steps p.tables e below (s₁.setTop (mkF m 24 #[.val (.long q1), .second, .val (.long q2), .second, .val (.long (q1 / q2)), .second] [(.long (q1 / q2))])) t
        refine XS.lconst X0.here hx rfl (hb hby d9_24) ?_
        show Steps p.tables e below (s₁.setTop (mkF m 25 #[.val (.long q1), .second, .val (.long q2), .second, .val (.long (q1 / q2)), .second] [(.long (1 : Int64)), (.long (q1 / q2))])) t
        refine XS.lsub X0.here hx rfl (hb hby d9_25) rfl ?_
        exact kk
      obtain ⟨fs, hr, hrun, hended, hW, hsame⟩ := X0.leave (v := some (.long ((q1 / q2) - (1 : Int64)))) (fun h => by rw [Bd.returns] at h; cases h)
      refine ⟨_, _, c21 _ ?_, hrun, hended, _, _, rfl, ?_, ⟨_, rfl⟩, hW, hsame.mono (by decide) (by decide)⟩
      · exact retOut X0 hx Bd.returns rfl (Or.inr (Or.inl ⟨rfl, rfl, _, rfl⟩)) (hb hby d9_26) hr
      · show Q_fd Z q1 q2 h0 n0 _ s₁.heap _
        rw [e0]
        exact ⟨by simp only [own_fd, hc10_17, hc19_19, if_true, if_false], N0, rfl⟩
  · have c22 : Goes p e below s₁ (entryFrame m #[(.long q1), (.long q2)] 6) s₁ (mkF m 29 #[.val (.long q1), .second, .val (.long q2), .second, .val (.long (q1 / q2)), .second] [(.long (q1 / q2))]) := by
      intro t kk
      refine c16 t ?_
      show Steps p.tables e below (s₁.setTop (mkF m 10 #[.val (.long q1), .second, .val (.long q2), .second, .val (.long (q1 / q2)), .second] [(.int (lcmpW (q1 ^^^ q2) (0 : Int64)))])) t
      refine XS.ifYes X0.here hx rfl (pc0 := 10) (pc' := 27) rfl (hb hby d9_10) rfl ((if0 _ _).trans (flt hc10_17).2.1) (by decide) (by decide) ?_
      show Steps p.tables e below (s₁.setTop (mkF m 27 #[.val (.long q1), .second, .val (.long q2), .second, .val (.long (q1 / q2)), .second] [])) t
      refine XS.lload X0.here hx rfl (hb hby d9_27) rfl ?_
      exact kk
    obtain ⟨fs, hr, hrun, hended, hW, hsame⟩ := X0.leave (v := some (.long (q1 / q2))) (fun h => by rw [Bd.returns] at h; cases h)
    refine ⟨_, _, c22 _ ?_, hrun, hended, _, _, rfl, ?_, ⟨_, rfl⟩, hW, hsame.mono (by decide) (by decide)⟩
    · exact retOut X0 hx Bd.returns rfl (Or.inr (Or.inl ⟨rfl, rfl, _, rfl⟩)) (hb hby d9_29) hr
    · show Q_fd Z q1 q2 h0 n0 _ s₁.heap _
      rw [e0]
      exact ⟨by simp only [own_fd, hc10_17, if_true, if_false], N0, rfl⟩
theorem d12_0 : decode jdk_29_method_52_code 0 = .ok (.lload_n 0, 1) := by decide +kernel
theorem d12_1 : decode jdk_29_method_52_code 1 = .ok (.lload_n 2, 1) := by decide +kernel
theorem d12_2 : decode jdk_29_method_52_code 2 = .ok (.lrem, 1) := by decide +kernel
theorem d12_3 : decode jdk_29_method_52_code 3 = .ok (.lstore 4, 2) := by decide +kernel
theorem d12_5 : decode jdk_29_method_52_code 5 = .ok (.lload_n 0, 1) := by decide +kernel
theorem d12_6 : decode jdk_29_method_52_code 6 = .ok (.lload_n 2, 1) := by decide +kernel
theorem d12_7 : decode jdk_29_method_52_code 7 = .ok (.lxor, 1) := by decide +kernel
theorem d12_8 : decode jdk_29_method_52_code 8 = .ok (.lconst 0, 1) := by decide +kernel
theorem d12_9 : decode jdk_29_method_52_code 9 = .ok (.lcmp, 1) := by decide +kernel
theorem d12_10 : decode jdk_29_method_52_code 10 = .ok (.ifCond .ge 15, 3) := by decide +kernel
theorem d12_13 : decode jdk_29_method_52_code 13 = .ok (.lload 4, 2) := by decide +kernel
theorem d12_15 : decode jdk_29_method_52_code 15 = .ok (.lconst 0, 1) := by decide +kernel
theorem d12_16 : decode jdk_29_method_52_code 16 = .ok (.lcmp, 1) := by decide +kernel
theorem d12_17 : decode jdk_29_method_52_code 17 = .ok (.ifCond .eq 8, 3) := by decide +kernel
theorem d12_20 : decode jdk_29_method_52_code 20 = .ok (.lload 4, 2) := by decide +kernel
theorem d12_22 : decode jdk_29_method_52_code 22 = .ok (.lload_n 2, 1) := by decide +kernel
theorem d12_23 : decode jdk_29_method_52_code 23 = .ok (.ladd, 1) := by decide +kernel
theorem d12_24 : decode jdk_29_method_52_code 24 = .ok (.lreturn, 1) := by decide +kernel
theorem d12_25 : decode jdk_29_method_52_code 25 = .ok (.lload 4, 2) := by decide +kernel
theorem d12_27 : decode jdk_29_method_52_code 27 = .ok (.lreturn, 1) := by decide +kernel
theorem ef_fm (m : MethodId) (x0 : Int64) (x1 : Int64) : entryFrame m #[(.long x0), (.long x1)] 6 = mkF m 0 #[.val (.long x0), .second, .val (.long x1), .second, .unset, .unset] [] := by (first | (simp [entryFrame, mkF, argsToLocals, Value.category]; done) | rfl)
def Q_fm (Z : State) (q1 : Int64) (q2 : Int64) (h0 : Heap) (n0 : Nat) (v : Option Value) (h : Heap) (L : List Loc) : Prop := v = some (.long (own_fm q1 q2)) ∧ Fr n0 L ∧ h = h0
set_option maxRecDepth 65536 in
set_option maxHeartbeats 40000000 in
theorem rm_fm (l : Launch) (Z : State) (a0 : Array Value) (hw : ∀ d ∈ tables_1, d.before a0 Z = true) (ws : List Jvm.Cond) (q1 : Int64) (q2 : Int64) (h0 : Heap) (n0 : Nat) (Z0 : n0 ≤ h0.size) (hq2 : q2 ≠ 0) :
    MetFree l (⟨"java/lang/Math", "floorMod", "(JJ)J"⟩ : MethodName) (head1 (Jvm.Cond.code (⟨"java/lang/Math", "floorMod", "(JJ)J"⟩ : MethodName) jdk_29_method_52_code 6 (some .long) :: ws) ({ frames := 0, cells := 0, slots := 0, locals := 0 } : Room)) (fun a U => a = #[(.long q1), (.long q2)] ∧ Z.Warmed39 U.vm ∧ U.heap = h0) (fun _ _ _ _ _ => True) (fun _ U o U' => ∃ v L, o = .returned v ∧ Q_fm Z q1 q2 h0 n0 v U'.heap L ∧ FrameEnd U o U' L ({ frames := 0, cells := 0, slots := 0, locals := 0 } : Room).cells ({ frames := 0, cells := 0, slots := 0, locals := 0 } : Room).slots) := by
  refine MetFree.of_bodySF (Jvm.Free.JP.mathPlain rfl (by decide +kernel)) hisR ?_
  intro p e s m args below meth c s₁ Bd hml0 hP hK
  obtain ⟨rfl, hZ, hh⟩ := hP
  have hx := Bd.exec
  have hby := Bd.bytes
  have hml : c.maxLocals = 6 := hml0
  have hown : s.vm.findClass "java/lang/Math" = some m.cls := findClass_of_methodNamed Bd.named
  have hnm := (name_of_methodNamed Bd.named Bd.method).1
  have X0 : Stand p l e ({ frames := 0, cells := 0, slots := 0, locals := 0 } : Room) s m #[(.long q1), (.long q2)] below meth c s₁ [] 0 0 := Stand.of_body Bd
  have e0 : s₁.heap = h0 := by rw [← hh, Bd.state]; rfl
  have N0 := Fr.nil n0
  have c0 : Goes p e below s₁ (entryFrame m #[(.long q1), (.long q2)] 6) s₁ (mkF m 0 #[.val (.long q1), .second, .val (.long q2), .second, .unset, .unset] []) := fun t k => castTop (ef_fm m q1 q2) k
  have c23 : Goes p e below s₁ (entryFrame m #[(.long q1), (.long q2)] 6) s₁ (mkF m 10 #[.val (.long q1), .second, .val (.long q2), .second, .val (.long (q1 - q1 / q2 * q2)), .second] [(.int (lcmpW (q1 ^^^ q2) (0 : Int64)))]) := by
    intro t kk
    refine c0 t ?_
    show Steps p.tables e below (s₁.setTop (mkF m 0 #[.val (.long q1), .second, .val (.long q2), .second, .unset, .unset] [])) t
    refine XS.lloadN X0.here hx rfl (hb hby d12_0) rfl ?_
    show Steps p.tables e below (s₁.setTop (mkF m 1 #[.val (.long q1), .second, .val (.long q2), .second, .unset, .unset] [(.long q1)])) t
    refine XS.lloadN X0.here hx rfl (hb hby d12_1) rfl ?_
    show Steps p.tables e below (s₁.setTop (mkF m 2 #[.val (.long q1), .second, .val (.long q2), .second, .unset, .unset] [(.long q2), (.long q1)])) t
    refine XS.lrem X0.here hx rfl (hb hby d12_2) rfl hq2 ?_
    show Steps p.tables e below (s₁.setTop (mkF m 3 #[.val (.long q1), .second, .val (.long q2), .second, .unset, .unset] [(.long (q1 - q1 / q2 * q2))])) t
    refine XS.lstore X0.here hx rfl (hb hby d12_3) rfl (l' := #[.val (.long q1), .second, .val (.long q2), .second, .val (.long (q1 - q1 / q2 * q2)), .second]) rfl ?_
    show Steps p.tables e below (s₁.setTop (mkF m 5 #[.val (.long q1), .second, .val (.long q2), .second, .val (.long (q1 - q1 / q2 * q2)), .second] [])) t
    refine XS.lloadN X0.here hx rfl (hb hby d12_5) rfl ?_
    show Steps p.tables e below (s₁.setTop (mkF m 6 #[.val (.long q1), .second, .val (.long q2), .second, .val (.long (q1 - q1 / q2 * q2)), .second] [(.long q1)])) t
    refine XS.lloadN X0.here hx rfl (hb hby d12_6) rfl ?_
    show Steps p.tables e below (s₁.setTop (mkF m 7 #[.val (.long q1), .second, .val (.long q2), .second, .val (.long (q1 - q1 / q2 * q2)), .second] [(.long q2), (.long q1)])) t
    refine XS.lxor X0.here hx rfl (hb hby d12_7) rfl ?_
    show Steps p.tables e below (s₁.setTop (mkF m 8 #[.val (.long q1), .second, .val (.long q2), .second, .val (.long (q1 - q1 / q2 * q2)), .second] [(.long (q1 ^^^ q2))])) t
    refine XS.lconst X0.here hx rfl (hb hby d12_8) ?_
    show Steps p.tables e below (s₁.setTop (mkF m 9 #[.val (.long q1), .second, .val (.long q2), .second, .val (.long (q1 - q1 / q2 * q2)), .second] [(.long (0 : Int64)), (.long (q1 ^^^ q2))])) t
    refine XS.lcmp X0.here hx rfl (hb hby d12_9) rfl ?_
    exact kk
  by_cases hc10_24 : (lcmpW (q1 ^^^ q2) (0 : Int64)) < (0 : Int32)
  · have c25 : Goes p e below s₁ (entryFrame m #[(.long q1), (.long q2)] 6) s₁ (mkF m 17 #[.val (.long q1), .second, .val (.long q2), .second, .val (.long (q1 - q1 / q2 * q2)), .second] [(.int (lcmpW (q1 - q1 / q2 * q2) (0 : Int64)))]) := by
      intro t kk
      refine c23 t ?_
      show Steps p.tables e below (s₁.setTop (mkF m 10 #[.val (.long q1), .second, .val (.long q2), .second, .val (.long (q1 - q1 / q2 * q2)), .second] [(.int (lcmpW (q1 ^^^ q2) (0 : Int64)))])) t
      refine XS.ifNo X0.here hx rfl (hb hby d12_10) rfl ((if0 _ _).trans (tlt hc10_24).2.1) ?_
      show Steps p.tables e below (s₁.setTop (mkF m 13 #[.val (.long q1), .second, .val (.long q2), .second, .val (.long (q1 - q1 / q2 * q2)), .second] [])) t
      refine XS.lload X0.here hx rfl (hb hby d12_13) rfl ?_
      show Steps p.tables e below (s₁.setTop (mkF m 15 #[.val (.long q1), .second, .val (.long q2), .second, .val (.long (q1 - q1 / q2 * q2)), .second] [(.long (q1 - q1 / q2 * q2))])) t
      refine XS.lconst X0.here hx rfl (hb hby d12_15) ?_
      show Steps p.tables e below (s₁.setTop (mkF m 16 #[.val (.long q1), .second, .val (.long q2), .second, .val (.long (q1 - q1 / q2 * q2)), .second] [(.long (0 : Int64)), (.long (q1 - q1 / q2 * q2))])) t
      refine XS.lcmp X0.here hx rfl (hb hby d12_16) rfl ?_
      exact kk
    by_cases hc17_26 : (lcmpW (q1 - q1 / q2 * q2) (0 : Int64)) = (0 : Int32)
    · have c27 : Goes p e below s₁ (entryFrame m #[(.long q1), (.long q2)] 6) s₁ (mkF m 27 #[.val (.long q1), .second, .val (.long q2), .second, .val (.long (q1 - q1 / q2 * q2)), .second] [(.long (q1 - q1 / q2 * q2))]) := by
        intro t kk
        refine c25 t ?_
        show Steps p.tables e below (s₁.setTop (mkF m 17 #[.val (.long q1), .second, .val (.long q2), .second, .val (.long (q1 - q1 / q2 * q2)), .second] [(.int (lcmpW (q1 - q1 / q2 * q2) (0 : Int64)))])) t
        refine XS.ifYes X0.here hx rfl (pc0 := 17) (pc' := 25) rfl (hb hby d12_17) rfl ((if0 _ _).trans (teq hc17_26).1) (by decide) (by decide) ?_
        show Steps p.tables e below (s₁.setTop (mkF m 25 #[.val (.long q1), .second, .val (.long q2), .second, .val (.long (q1 - q1 / q2 * q2)), .second] [])) t
        refine XS.lload X0.here hx rfl (hb hby d12_25) rfl ?_
        exact kk
      obtain ⟨fs, hr, hrun, hended, hW, hsame⟩ := X0.leave (v := some (.long (q1 - q1 / q2 * q2))) (fun h => by rw [Bd.returns] at h; cases h)
      refine ⟨_, _, c27 _ ?_, hrun, hended, _, _, rfl, ?_, ⟨_, rfl⟩, hW, hsame.mono (by decide) (by decide)⟩
      · exact retOut X0 hx Bd.returns rfl (Or.inr (Or.inl ⟨rfl, rfl, _, rfl⟩)) (hb hby d12_27) hr
      · show Q_fm Z q1 q2 h0 n0 _ s₁.heap _
        rw [e0]
        exact ⟨by simp only [own_fm, hc10_24, hc17_26, if_true, if_false], N0, rfl⟩
    · have c28 : Goes p e below s₁ (entryFrame m #[(.long q1), (.long q2)] 6) s₁ (mkF m 24 #[.val (.long q1), .second, .val (.long q2), .second, .val (.long (q1 - q1 / q2 * q2)), .second] [(.long ((q1 - q1 / q2 * q2) + q2))]) := by
        intro t kk
        refine c25 t ?_
        show Steps p.tables e below (s₁.setTop (mkF m 17 #[.val (.long q1), .second, .val (.long q2), .second, .val (.long (q1 - q1 / q2 * q2)), .second] [(.int (lcmpW (q1 - q1 / q2 * q2) (0 : Int64)))])) t
        refine XS.ifNo X0.here hx rfl (hb hby d12_17) rfl ((if0 _ _).trans (feq hc17_26).1) ?_
        show Steps p.tables e below (s₁.setTop (mkF m 20 #[.val (.long q1), .second, .val (.long q2), .second, .val (.long (q1 - q1 / q2 * q2)), .second] [])) t
        refine XS.lload X0.here hx rfl (hb hby d12_20) rfl ?_
        show Steps p.tables e below (s₁.setTop (mkF m 22 #[.val (.long q1), .second, .val (.long q2), .second, .val (.long (q1 - q1 / q2 * q2)), .second] [(.long (q1 - q1 / q2 * q2))])) t
        refine XS.lloadN X0.here hx rfl (hb hby d12_22) rfl ?_
        show Steps p.tables e below (s₁.setTop (mkF m 23 #[.val (.long q1), .second, .val (.long q2), .second, .val (.long (q1 - q1 / q2 * q2)), .second] [(.long q2), (.long (q1 - q1 / q2 * q2))])) t
        refine XS.ladd X0.here hx rfl (hb hby d12_23) rfl ?_
        exact kk
      obtain ⟨fs, hr, hrun, hended, hW, hsame⟩ := X0.leave (v := some (.long ((q1 - q1 / q2 * q2) + q2))) (fun h => by rw [Bd.returns] at h; cases h)
      refine ⟨_, _, c28 _ ?_, hrun, hended, _, _, rfl, ?_, ⟨_, rfl⟩, hW, hsame.mono (by decide) (by decide)⟩
      · exact retOut X0 hx Bd.returns rfl (Or.inr (Or.inl ⟨rfl, rfl, _, rfl⟩)) (hb hby d12_24) hr
      · show Q_fm Z q1 q2 h0 n0 _ s₁.heap _
        rw [e0]
        exact ⟨by simp only [own_fm, hc10_24, hc17_26, if_true, if_false], N0, rfl⟩
  · have c29 : Goes p e below s₁ (entryFrame m #[(.long q1), (.long q2)] 6) s₁ (mkF m 27 #[.val (.long q1), .second, .val (.long q2), .second, .val (.long (q1 - q1 / q2 * q2)), .second] [(.long (q1 - q1 / q2 * q2))]) := by
      intro t kk
      refine c23 t ?_
      show Steps p.tables e below (s₁.setTop (mkF m 10 #[.val (.long q1), .second, .val (.long q2), .second, .val (.long (q1 - q1 / q2 * q2)), .second] [(.int (lcmpW (q1 ^^^ q2) (0 : Int64)))])) t
      refine XS.ifYes X0.here hx rfl (pc0 := 10) (pc' := 25) rfl (hb hby d12_10) rfl ((if0 _ _).trans (flt hc10_24).2.1) (by decide) (by decide) ?_
      show Steps p.tables e below (s₁.setTop (mkF m 25 #[.val (.long q1), .second, .val (.long q2), .second, .val (.long (q1 - q1 / q2 * q2)), .second] [])) t
      refine XS.lload X0.here hx rfl (hb hby d12_25) rfl ?_
      exact kk
    obtain ⟨fs, hr, hrun, hended, hW, hsame⟩ := X0.leave (v := some (.long (q1 - q1 / q2 * q2))) (fun h => by rw [Bd.returns] at h; cases h)
    refine ⟨_, _, c29 _ ?_, hrun, hended, _, _, rfl, ?_, ⟨_, rfl⟩, hW, hsame.mono (by decide) (by decide)⟩
    · exact retOut X0 hx Bd.returns rfl (Or.inr (Or.inl ⟨rfl, rfl, _, rfl⟩)) (hb hby d12_27) hr
    · show Q_fm Z q1 q2 h0 n0 _ s₁.heap _
      rw [e0]
      exact ⟨by simp only [own_fm, hc10_24, if_true, if_false], N0, rfl⟩
theorem d8_0 : decode prog_30_method_4_code 0 = .ok (.lload_n 1, 1) := by decide +kernel
theorem d8_1 : decode prog_30_method_4_code 1 = .ok (.aload_n 0, 1) := by decide +kernel
theorem d8_2 : decode prog_30_method_4_code 2 = .ok (.getfield 18, 3) := by decide +kernel
theorem d8_5 : decode prog_30_method_4_code 5 = .ok (.invokestatic 47, 3) := by decide +kernel
theorem d8_8 : decode prog_30_method_4_code 8 = .ok (.lreturn, 1) := by decide +kernel
theorem pn_8 : plainName "com/example/ventil/ventil/RollingCount" = true := by first | (simp [plainName, overriddenIn]; done) | decide +kernel
theorem pd__JJ_J : parseMethodDescriptor "(JJ)J" = some ⟨[.long, .long], some .long⟩ := by decide +kernel
theorem ef_bo (m : MethodId) (x0 : Addr) (x1 : Int64) : entryFrame m #[(.ref x0), (.long x1)] 3 = mkF m 0 #[.val (.ref x0), .val (.long x1), .second] [] := by (first | (simp [entryFrame, mkF, argsToLocals, Value.category]; done) | rfl)
def Q_bo (Z : State) (a1 : Addr) (q1 : Int64) (b : Int64) (h0 : Heap) (n0 : Nat) (v : Option Value) (h : Heap) (L : List Loc) : Prop := v = some (.long (own_fd q1 b)) ∧ Fr n0 L ∧ h = h0
set_option maxRecDepth 65536 in
set_option maxHeartbeats 40000000 in
theorem rm_bo (l : Launch) (Z : State) (a0 : Array Value) (hw : ∀ d ∈ tables_1, d.before a0 Z = true) (ws : List Jvm.Cond) (a1 : Addr) (q1 : Int64) (b : Int64) (h0 : Heap) (n0 : Nat) (Z0 : n0 ≤ h0.size) (Fb : Fld Z h0 a1 "com/example/ventil/ventil/RollingCount" "bucketNanos" "J" (.long b)) (hB : b ≠ 0) :
    MetFree l (⟨"com/example/ventil/ventil/RollingCount", "bucketOf", "(J)J"⟩ : MethodName) (head1 (Jvm.Cond.code (⟨"com/example/ventil/ventil/RollingCount", "bucketOf", "(J)J"⟩ : MethodName) prog_30_method_4_code 3 (some .long) :: ws) ({ frames := 1, cells := 0, slots := 0, locals := 17 } : Room)) (fun a U => a = #[(.ref a1), (.long q1)] ∧ Z.Warmed39 U.vm ∧ U.heap = h0) (fun _ _ _ _ _ => True) (fun _ U o U' => ∃ v L, o = .returned v ∧ Q_bo Z a1 q1 b h0 n0 v U'.heap L ∧ FrameEnd U o U' L ({ frames := 1, cells := 0, slots := 0, locals := 17 } : Room).cells ({ frames := 1, cells := 0, slots := 0, locals := 17 } : Room).slots) := by
  refine MetFree.of_bodySF (plainFor_of_name pn_8) hisR ?_
  intro p e s m args below meth c s₁ Bd hml0 hP hK
  obtain ⟨rfl, hZ, hh⟩ := hP
  have hx := Bd.exec
  have hby := Bd.bytes
  have hml : c.maxLocals = 3 := hml0
  have hown : s.vm.findClass "com/example/ventil/ventil/RollingCount" = some m.cls := findClass_of_methodNamed Bd.named
  have hnm := (name_of_methodNamed Bd.named Bd.method).1
  have X0 : Stand p l e ({ frames := 1, cells := 0, slots := 0, locals := 17 } : Room) s m #[(.ref a1), (.long q1)] below meth c s₁ [] 0 0 := Stand.of_body Bd
  have e0 : s₁.heap = h0 := by rw [← hh, Bd.state]; rfl
  have N0 := Fr.nil n0
  have c0 : Goes p e below s₁ (entryFrame m #[(.ref a1), (.long q1)] 3) s₁ (mkF m 0 #[.val (.ref a1), .val (.long q1), .second] []) := fun t k => castTop (ef_bo m a1 q1) k
  have c30 : Goes p e below s₁ (entryFrame m #[(.ref a1), (.long q1)] 3) s₁ (mkF m 2 #[.val (.ref a1), .val (.long q1), .second] [(.ref a1), (.long q1)]) := by
    intro t kk
    refine c0 t ?_
    show Steps p.tables e below (s₁.setTop (mkF m 0 #[.val (.ref a1), .val (.long q1), .second] [])) t
    refine XS.lloadN X0.here hx rfl (hb hby d8_0) rfl ?_
    show Steps p.tables e below (s₁.setTop (mkF m 1 #[.val (.ref a1), .val (.long q1), .second] [(.long q1)])) t
    refine XS.aloadN X0.here hx rfl (hb hby d8_1) rfl rfl ?_
    exact kk
  obtain ⟨T31, X31, e31, st31⟩ := getF X0 hx hZ hown (host := "") (Or.inl (hw _ (List.mem_of_getElem? (i := 25) rfl))) Via.refl e0 Fb (g := (mkF m 2 #[.val (.ref a1), .val (.long q1), .second] [(.ref a1), (.long q1)])) rfl rfl (hb hby d8_2)
  have c32 : Goes p e below s₁ (entryFrame m #[(.ref a1), (.long q1)] 3) T31 (mkF m 5 #[.val (.ref a1), .val (.long q1), .second] [(.long b), (.long q1)]) := fun t kk => c30 t (st31 t kk)
  obtain ⟨_, _, ⟨T33, L33, k33, n33⟩, -, X33, ⟨Lc33, hQ33, l33, y33, z33⟩, st33⟩ := Jvm.LawKit.callS X31 hx (y := (⟨"java/lang/Math", "floorDiv", "(JJ)J"⟩ : MethodName)) hown (mvT hZ (hw _ (List.mem_of_getElem? (i := 46) rfl))) (mvT hZ (hw _ (List.mem_of_getElem? (i := 47) rfl))) (mvT hZ (hw _ (List.mem_of_getElem? (i := 7) rfl))) (mvT hZ (hw _ (List.mem_of_getElem? (i := 48) rfl))) (by decide) (backOf (W := 0) (rm_fd l Z a0 hw [] q1 b h0 n0 Z0 hB) hZ (hw _ (List.mem_of_getElem? (i := 48) rfl)) (hw _ (List.mem_of_getElem? (i := 7) rfl)) (by decide) (by decide)) (g := (mkF m 5 #[.val (.ref a1), .val (.long q1), .second] [(.long b), (.long q1)])) rfl (by rw [hml]; rfl) (argsL := [(.long q1), (.long b)]) (rest := []) (lenOf pd__JJ_J rfl) rfl (by show 2 * 0 + _ ≤ _; exact Nat.le_of_eq rfl) (hb hby d8_5) (fun _ _ => ⟨rfl, e31, (by decide : 0 + 0 ≤ _), (by decide : 0 + 0 ≤ _)⟩)
  dsimp only [Pt.U, Pt.locs, Pt.cells, Pt.slots] at X33 l33 y33 z33 st33 hQ33
  subst l33 y33 z33
  obtain ⟨rfl, Nq33, eq33⟩ := hQ33
  have N33 := Fr.app N0 Nq33
  have c34 : Goes p e below s₁ (entryFrame m #[(.ref a1), (.long q1)] 3) T33 (mkF m 8 #[.val (.ref a1), .val (.long q1), .second] [(.long (own_fd q1 b))]) := fun t kk => c32 t (st33 t kk)
  obtain ⟨fs, hr, hrun, hended, hW, hsame⟩ := X33.leave (v := some (.long (own_fd q1 b))) (fun h => by rw [Bd.returns] at h; cases h)
  refine ⟨_, _, c34 _ ?_, hrun, hended, _, _, rfl, ?_, ⟨_, rfl⟩, hW, hsame.mono (by decide) (by decide)⟩
  · exact retOut X33 hx Bd.returns rfl (Or.inr (Or.inl ⟨rfl, rfl, _, rfl⟩)) (hb hby d8_8) hr
  · show Q_bo Z a1 q1 b h0 n0 _ T33.heap _
    rw [eq33]
    exact ⟨rfl, N33, rfl⟩
theorem own_nzk {kn : Nat} (hk : 0 < kn) (hn : kn ≤ 4) : (Int32.ofNat kn).toInt64 ≠ 0 := fun e => by
  have h := own_kl hn
  rw [e] at h
  have e0 : (0 : Int64).toInt = 0 := rfl
  omega
theorem d11_0 : decode prog_30_method_5_code 0 = .ok (.lload_n 1, 1) := by decide +kernel
theorem d11_1 : decode prog_30_method_5_code 1 = .ok (.aload_n 0, 1) := by decide +kernel
theorem d11_2 : decode prog_30_method_5_code 2 = .ok (.getfield 24, 3) := by decide +kernel
theorem d11_5 : decode prog_30_method_5_code 5 = .ok (.arraylength, 1) := by decide +kernel
theorem d11_6 : decode prog_30_method_5_code 6 = .ok (.i2l, 1) := by decide +kernel
theorem d11_7 : decode prog_30_method_5_code 7 = .ok (.invokestatic 53, 3) := by decide +kernel
theorem d11_10 : decode prog_30_method_5_code 10 = .ok (.l2i, 1) := by decide +kernel
theorem d11_11 : decode prog_30_method_5_code 11 = .ok (.ireturn, 1) := by decide +kernel
theorem ef_so (m : MethodId) (x0 : Addr) (x1 : Int64) : entryFrame m #[(.ref x0), (.long x1)] 3 = mkF m 0 #[.val (.ref x0), .val (.long x1), .second] [] := by (first | (simp [entryFrame, mkF, argsToLocals, Value.category]; done) | rfl)
def Q_so (Z : State) (a1 : Addr) (q1 : Int64) (ca : Addr) (kc : ClassId) (kn : Nat) (cs : List Int64) (h0 : Heap) (n0 : Nat) (v : Option Value) (h : Heap) (L : List Loc) : Prop := v = some (.int (Int32.ofNat (own_slot q1 kn))) ∧ Fr n0 L ∧ h = h0
set_option maxRecDepth 65536 in
set_option maxHeartbeats 40000000 in
theorem rm_so (l : Launch) (Z : State) (a0 : Array Value) (hw : ∀ d ∈ tables_1, d.before a0 Z = true) (ws : List Jvm.Cond) (a1 : Addr) (q1 : Int64) (ca : Addr) (kc : ClassId) (kn : Nat) (cs : List Int64) (h0 : Heap) (n0 : Nat) (Z0 : n0 ≤ h0.size) (Fc : Fld Z h0 a1 "com/example/ventil/ventil/RollingCount" "counts" "[J" (.ref ca)) (Vc : Arv Z h0 ca kc .long (Int32.ofNat kn) (cs.map Value.long) (.long 0)) (hk : 0 < kn) (hn : kn ≤ 4) :
    MetFree l (⟨"com/example/ventil/ventil/RollingCount", "slotOf", "(J)I"⟩ : MethodName) (head1 (Jvm.Cond.code (⟨"com/example/ventil/ventil/RollingCount", "slotOf", "(J)I"⟩ : MethodName) prog_30_method_5_code 3 (some .int) :: ws) ({ frames := 1, cells := 0, slots := 0, locals := 17 } : Room)) (fun a U => a = #[(.ref a1), (.long q1)] ∧ Z.Warmed39 U.vm ∧ U.heap = h0) (fun _ _ _ _ _ => True) (fun _ U o U' => ∃ v L, o = .returned v ∧ Q_so Z a1 q1 ca kc kn cs h0 n0 v U'.heap L ∧ FrameEnd U o U' L ({ frames := 1, cells := 0, slots := 0, locals := 17 } : Room).cells ({ frames := 1, cells := 0, slots := 0, locals := 17 } : Room).slots) := by
  refine MetFree.of_bodySF (plainFor_of_name pn_8) hisR ?_
  intro p e s m args below meth c s₁ Bd hml0 hP hK
  obtain ⟨rfl, hZ, hh⟩ := hP
  have hx := Bd.exec
  have hby := Bd.bytes
  have hml : c.maxLocals = 3 := hml0
  have hown : s.vm.findClass "com/example/ventil/ventil/RollingCount" = some m.cls := findClass_of_methodNamed Bd.named
  have hnm := (name_of_methodNamed Bd.named Bd.method).1
  have X0 : Stand p l e ({ frames := 1, cells := 0, slots := 0, locals := 17 } : Room) s m #[(.ref a1), (.long q1)] below meth c s₁ [] 0 0 := Stand.of_body Bd
  have e0 : s₁.heap = h0 := by rw [← hh, Bd.state]; rfl
  have N0 := Fr.nil n0
  have c0 : Goes p e below s₁ (entryFrame m #[(.ref a1), (.long q1)] 3) s₁ (mkF m 0 #[.val (.ref a1), .val (.long q1), .second] []) := fun t k => castTop (ef_so m a1 q1) k
  have c35 : Goes p e below s₁ (entryFrame m #[(.ref a1), (.long q1)] 3) s₁ (mkF m 2 #[.val (.ref a1), .val (.long q1), .second] [(.ref a1), (.long q1)]) := by
    intro t kk
    refine c0 t ?_
    show Steps p.tables e below (s₁.setTop (mkF m 0 #[.val (.ref a1), .val (.long q1), .second] [])) t
    refine XS.lloadN X0.here hx rfl (hb hby d11_0) rfl ?_
    show Steps p.tables e below (s₁.setTop (mkF m 1 #[.val (.ref a1), .val (.long q1), .second] [(.long q1)])) t
    refine XS.aloadN X0.here hx rfl (hb hby d11_1) rfl rfl ?_
    exact kk
  obtain ⟨T36, X36, e36, st36⟩ := getF X0 hx hZ hown (host := "") (Or.inl (hw _ (List.mem_of_getElem? (i := 28) rfl))) Via.refl e0 Fc (g := (mkF m 2 #[.val (.ref a1), .val (.long q1), .second] [(.ref a1), (.long q1)])) rfl rfl (hb hby d11_2)
  have c37 : Goes p e below s₁ (entryFrame m #[(.ref a1), (.long q1)] 3) T36 (mkF m 5 #[.val (.ref a1), .val (.long q1), .second] [(.ref ca), (.long q1)]) := fun t kk => c35 t (st36 t kk)
  obtain ⟨cl38, Ar38, q38, Sz38, Nn38, Hh38, Gg38⟩ := id Vc
  have c39 : Goes p e below s₁ (entryFrame m #[(.ref a1), (.long q1)] 3) T36 (mkF m 7 #[.val (.ref a1), .val (.long q1), .second] [(.long ((Int32.ofNat kn).toInt64)), (.long q1)]) := by
    intro t kk
    refine c37 t ?_
    show Steps p.tables e below (T36.setTop (mkF m 5 #[.val (.ref a1), .val (.long q1), .second] [(.ref ca), (.long q1)])) t
    refine X36.arraylength hx (by rw [e36]; exact Ar38.1) (State.isArrayOf_alike hZ.alike Ar38.2.1) (g := (mkF m 5 #[.val (.ref a1), .val (.long q1), .second] [(.ref ca), (.long q1)])) rfl rfl (hb hby d11_5) _ ?_
    rw [len_of Sz38 Nn38]
    show Steps p.tables e below (T36.setTop (mkF m 6 #[.val (.ref a1), .val (.long q1), .second] [(.int (Int32.ofNat kn)), (.long q1)])) t
    refine XS.i2l X36.here hx rfl (hb hby d11_6) rfl ?_
    exact kk
  obtain ⟨_, _, ⟨T40, L40, k40, n40⟩, -, X40, ⟨Lc40, hQ40, l40, y40, z40⟩, st40⟩ := Jvm.LawKit.callS X36 hx (y := (⟨"java/lang/Math", "floorMod", "(JJ)J"⟩ : MethodName)) hown (mvT hZ (hw _ (List.mem_of_getElem? (i := 58) rfl))) (mvT hZ (hw _ (List.mem_of_getElem? (i := 59) rfl))) (mvT hZ (hw _ (List.mem_of_getElem? (i := 7) rfl))) (mvT hZ (hw _ (List.mem_of_getElem? (i := 60) rfl))) (by decide) (backOf (W := 0) (rm_fm l Z a0 hw [] q1 (Int32.ofNat kn).toInt64 h0 n0 Z0 (own_nzk hk hn)) hZ (hw _ (List.mem_of_getElem? (i := 60) rfl)) (hw _ (List.mem_of_getElem? (i := 7) rfl)) (by decide) (by decide)) (g := (mkF m 7 #[.val (.ref a1), .val (.long q1), .second] [(.long ((Int32.ofNat kn).toInt64)), (.long q1)])) rfl (by rw [hml]; rfl) (argsL := [(.long q1), (.long ((Int32.ofNat kn).toInt64))]) (rest := []) (lenOf pd__JJ_J rfl) rfl (by show 2 * 0 + _ ≤ _; exact Nat.le_of_eq rfl) (hb hby d11_7) (fun _ _ => ⟨rfl, e36, (by decide : 0 + 0 ≤ _), (by decide : 0 + 0 ≤ _)⟩)
  dsimp only [Pt.U, Pt.locs, Pt.cells, Pt.slots] at X40 l40 y40 z40 st40 hQ40
  subst l40 y40 z40
  obtain ⟨rfl, Nq40, eq40⟩ := hQ40
  have N40 := Fr.app N0 Nq40
  have c41 : Goes p e below s₁ (entryFrame m #[(.ref a1), (.long q1)] 3) T40 (mkF m 10 #[.val (.ref a1), .val (.long q1), .second] [(.long (own_fm q1 (Int32.ofNat kn).toInt64))]) := fun t kk => c39 t (st40 t kk)
  have c42 : Goes p e below s₁ (entryFrame m #[(.ref a1), (.long q1)] 3) T40 (mkF m 11 #[.val (.ref a1), .val (.long q1), .second] [(.int ((own_fm q1 (Int32.ofNat kn).toInt64).toInt32))]) := by
    intro t kk
    refine c41 t ?_
    show Steps p.tables e below (T40.setTop (mkF m 10 #[.val (.ref a1), .val (.long q1), .second] [(.long (own_fm q1 (Int32.ofNat kn).toInt64))])) t
    refine XS.l2i X40.here hx rfl (hb hby d11_10) rfl ?_
    exact kk
  obtain ⟨fs, hr, hrun, hended, hW, hsame⟩ := X40.leave (v := some (.int ((own_fm q1 (Int32.ofNat kn).toInt64).toInt32))) (fun h => by rw [Bd.returns] at h; cases h)
  refine ⟨_, _, c42 _ ?_, hrun, hended, _, _, rfl, ?_, ⟨_, rfl⟩, hW, hsame.mono (by decide) (by decide)⟩
  · exact retI X40 hx Bd.returns (hb hby d11_11) hr
  · show Q_so Z a1 q1 ca kc kn cs h0 n0 _ T40.heap _
    rw [eq40]
    exact ⟨congrArg (fun z => some (Value.int z)) (own_slotI q1 hk hn), N40, rfl⟩
theorem d6_0 : decode jdk_65_method_101_code 0 = .ok (.iconst 0, 1) := by decide +kernel
theorem d6_1 : decode jdk_65_method_101_code 1 = .ok (.istore_n 3, 1) := by decide +kernel
theorem d6_2 : decode jdk_65_method_101_code 2 = .ok (.aload_n 0, 1) := by decide +kernel
theorem d6_3 : decode jdk_65_method_101_code 3 = .ok (.arraylength, 1) := by decide +kernel
theorem d6_4 : decode jdk_65_method_101_code 4 = .ok (.istore 4, 2) := by decide +kernel
theorem d6_6 : decode jdk_65_method_101_code 6 = .ok (.iload_n 3, 1) := by decide +kernel
theorem d6_7 : decode jdk_65_method_101_code 7 = .ok (.iload 4, 2) := by decide +kernel
theorem d6_9 : decode jdk_65_method_101_code 9 = .ok (.if_icmp .ge 13, 3) := by decide +kernel
theorem d6_12 : decode jdk_65_method_101_code 12 = .ok (.aload_n 0, 1) := by decide +kernel
theorem d6_13 : decode jdk_65_method_101_code 13 = .ok (.iload_n 3, 1) := by decide +kernel
theorem d6_14 : decode jdk_65_method_101_code 14 = .ok (.lload_n 1, 1) := by decide +kernel
theorem d6_15 : decode jdk_65_method_101_code 15 = .ok (.lastore, 1) := by decide +kernel
theorem d6_16 : decode jdk_65_method_101_code 16 = .ok (.iinc 3 1, 3) := by decide +kernel
theorem d6_19 : decode jdk_65_method_101_code 19 = .ok (.goto (-13), 3) := by decide +kernel
theorem d6_22 : decode jdk_65_method_101_code 22 = .ok (.return_, 1) := by decide +kernel
theorem pn_6 : plainName "java/util/Arrays" = true := by first | (simp [plainName, overriddenIn]; done) | decide +kernel
theorem ef_fi (m : MethodId) (x0 : Addr) (x1 : Int64) : entryFrame m #[(.ref x0), (.long x1)] 5 = mkF m 0 #[.val (.ref x0), .val (.long x1), .second, .unset, .unset] [] := by (first | (simp [entryFrame, mkF, argsToLocals, Value.category]; done) | rfl)
def Q_fi (Z : State) (t1 : Addr) (q1 : Int64) (k1 : ClassId) (kn : Nat) (vs0 : List Int64) (h0 : Heap) (n0 : Nat) (v : Option Value) (h : Heap) (L : List Loc) : Prop := v = none ∧ Fr n0 L ∧ Keep h0 h [t1] ∧ Arv Z h t1 k1 .long (Int32.ofNat kn) ((List.replicate kn q1).map Value.long) (.long 0)
set_option maxRecDepth 65536 in
set_option maxHeartbeats 40000000 in
theorem rm_fi (l : Launch) (Z : State) (a0 : Array Value) (hw : ∀ d ∈ tables_1, d.before a0 Z = true) (ws : List Jvm.Cond) (t1 : Addr) (q1 : Int64) (k1 : ClassId) (kn : Nat) (vs0 : List Int64) (h0 : Heap) (n0 : Nat) (Z0 : n0 ≤ h0.size) (V0 : Arv Z h0 t1 k1 .long (Int32.ofNat kn) (vs0.map Value.long) (.long 0)) (hl0 : vs0.length = kn) (hn : kn ≤ 4) (g1 : n0 ≤ t1) :
    MetFree l (⟨"java/util/Arrays", "fill", "([JJ)V"⟩ : MethodName) (head1 (Jvm.Cond.code (⟨"java/util/Arrays", "fill", "([JJ)V"⟩ : MethodName) jdk_65_method_101_code 5 none :: ws) ({ frames := 0, cells := 0, slots := 0, locals := 0 } : Room)) (fun a U => a = #[(.ref t1), (.long q1)] ∧ Z.Warmed39 U.vm ∧ U.heap = h0) (fun _ _ _ _ _ => True) (fun _ U o U' => ∃ v L, o = .returned v ∧ Q_fi Z t1 q1 k1 kn vs0 h0 n0 v U'.heap L ∧ FrameEnd U o U' L ({ frames := 0, cells := 0, slots := 0, locals := 0 } : Room).cells ({ frames := 0, cells := 0, slots := 0, locals := 0 } : Room).slots) := by
  refine MetFree.of_bodySF (plainFor_of_name pn_6) hisR ?_
  intro p e s m args below meth c s₁ Bd hml0 hP hK
  obtain ⟨rfl, hZ, hh⟩ := hP
  have hx := Bd.exec
  have hby := Bd.bytes
  have hml : c.maxLocals = 5 := hml0
  have hown : s.vm.findClass "java/util/Arrays" = some m.cls := findClass_of_methodNamed Bd.named
  have hnm := (name_of_methodNamed Bd.named Bd.method).1
  have X0 : Stand p l e ({ frames := 0, cells := 0, slots := 0, locals := 0 } : Room) s m #[(.ref t1), (.long q1)] below meth c s₁ [] 0 0 := Stand.of_body Bd
  have e0 : s₁.heap = h0 := by rw [← hh, Bd.state]; rfl
  have N0 := Fr.nil n0
  have c0 : Goes p e below s₁ (entryFrame m #[(.ref t1), (.long q1)] 5) s₁ (mkF m 0 #[.val (.ref t1), .val (.long q1), .second, .unset, .unset] []) := fun t k => castTop (ef_fi m t1 q1) k
  obtain ⟨cl43, Ar43, q43, Sz43, Nn43, Hh43, Gg43⟩ := id V0
  have c44 : Goes p e below s₁ (entryFrame m #[(.ref t1), (.long q1)] 5) s₁ (mkF m 6 #[.val (.ref t1), .val (.long q1), .second, .val (.int (0 : Int32)), .val (.int (Int32.ofNat kn))] []) := by
    intro t kk
    refine c0 t ?_
    show Steps p.tables e below (s₁.setTop (mkF m 0 #[.val (.ref t1), .val (.long q1), .second, .unset, .unset] [])) t
    refine XS.iconst X0.here hx rfl (hb hby d6_0) ?_
    show Steps p.tables e below (s₁.setTop (mkF m 1 #[.val (.ref t1), .val (.long q1), .second, .unset, .unset] [(.int (0 : Int32))])) t
    refine XS.istoreN X0.here hx rfl (hb hby d6_1) rfl (l' := #[.val (.ref t1), .val (.long q1), .second, .val (.int (0 : Int32)), .unset]) rfl ?_
    show Steps p.tables e below (s₁.setTop (mkF m 2 #[.val (.ref t1), .val (.long q1), .second, .val (.int (0 : Int32)), .unset] [])) t
    refine XS.aloadN X0.here hx rfl (hb hby d6_2) rfl rfl ?_
    show Steps p.tables e below (s₁.setTop (mkF m 3 #[.val (.ref t1), .val (.long q1), .second, .val (.int (0 : Int32)), .unset] [(.ref t1)])) t
    refine X0.arraylength hx (by rw [e0]; exact Ar43.1) (State.isArrayOf_alike hZ.alike Ar43.2.1) (g := (mkF m 3 #[.val (.ref t1), .val (.long q1), .second, .val (.int (0 : Int32)), .unset] [(.ref t1)])) rfl rfl (hb hby d6_3) _ ?_
    rw [len_of Sz43 Nn43]
    show Steps p.tables e below (s₁.setTop (mkF m 4 #[.val (.ref t1), .val (.long q1), .second, .val (.int (0 : Int32)), .unset] [(.int (Int32.ofNat kn))])) t
    refine XS.istore X0.here hx rfl (hb hby d6_4) rfl (l' := #[.val (.ref t1), .val (.long q1), .second, .val (.int (0 : Int32)), .val (.int (Int32.ofNat kn))]) rfl ?_
    exact kk
  refine own_down (α := State) (fun (k45 : Nat) (T45 : State) => ∃ (i45 : Nat) (Lx45 : List Loc) (hh45 : Heap) (vsx : List Int64), i45 + k45 = kn ∧ Fr n0 Lx45 ∧ Stand p l e ({ frames := 0, cells := 0, slots := 0, locals := 0 } : Room) s m #[(.ref t1), (.long q1)] below meth c T45 Lx45 0 0 ∧ T45.heap = hh45 ∧ (Keep h0 hh45 [t1]) ∧ (Arv Z hh45 t1 k1 .long (Int32.ofNat kn) (vsx.map Value.long) (.long 0)) ∧ (vsx.length = kn) ∧ (∀ j, j < i45 → vsx.getD j 0 = q1) ∧ Goes p e below s₁ (entryFrame m #[(.ref t1), (.long q1)] 5) T45 (mkF m 6 #[.val (.ref t1), .val (.long q1), .second, .val (.int (Int32.ofNat i45)), .val (.int (Int32.ofNat kn))] [])) ?_ ?_ kn s₁ ⟨0, _, h0, vs0, Nat.zero_add _, N0, X0, e0, (Keep.refl h0 [t1]), V0, hl0, (fun j hj => absurd hj (Nat.not_lt_zero j)), c44⟩
  · intro T45 ⟨i45, Lx45, hh45, vsx, hi45, N45, X45, e45, Kx, Vx, hlx, hvx, c45⟩
    have hvr := own_repl (vs := vsx) hlx (fun j hj => hvx j (by omega))
    rw [hvr] at Vx
    have c46 : Goes p e below s₁ (entryFrame m #[(.ref t1), (.long q1)] 5) T45 (mkF m 22 #[.val (.ref t1), .val (.long q1), .second, .val (.int (Int32.ofNat i45)), .val (.int (Int32.ofNat kn))] []) := by
      intro t kk
      refine c45 t ?_
      show Steps p.tables e below (T45.setTop (mkF m 6 #[.val (.ref t1), .val (.long q1), .second, .val (.int (Int32.ofNat i45)), .val (.int (Int32.ofNat kn))] [])) t
      refine XS.iloadN X45.here hx rfl (hb hby d6_6) rfl ?_
      show Steps p.tables e below (T45.setTop (mkF m 7 #[.val (.ref t1), .val (.long q1), .second, .val (.int (Int32.ofNat i45)), .val (.int (Int32.ofNat kn))] [(.int (Int32.ofNat i45))])) t
      refine XS.iload X45.here hx rfl (hb hby d6_7) rfl ?_
      show Steps p.tables e below (T45.setTop (mkF m 9 #[.val (.ref t1), .val (.long q1), .second, .val (.int (Int32.ofNat i45)), .val (.int (Int32.ofNat kn))] [(.int (Int32.ofNat kn)), (.int (Int32.ofNat i45))])) t
      refine XS.icmpYes X45.here hx rfl (pc0 := 9) (pc' := 22) rfl (hb hby d6_9) rfl (flt (own_ge hi45)).2.1 (by decide) (by decide) ?_
      exact kk
    obtain ⟨fs, hr, hrun, hended, hW, hsame⟩ := X45.leave (v := none) (fun _ => rfl)
    refine ⟨_, _, c46 _ ?_, hrun, hended, _, _, rfl, ?_, ⟨_, rfl⟩, hW, hsame.mono (by decide) (by decide)⟩
    · exact X45.returnOut hx Bd.returns (hb hby d6_22) hr
    · show Q_fi Z t1 q1 k1 kn vs0 h0 n0 _ T45.heap _
      rw [e45]
      exact ⟨rfl, N45, Kx, Vx⟩
  · intro k45 T45 ⟨i45, Lx45, hh45, vsx, hi45, N45, X45, e45, Kx, Vx, hlx, hvx, c45⟩ ih45
    have c47 : Goes p e below s₁ (entryFrame m #[(.ref t1), (.long q1)] 5) T45 (mkF m 15 #[.val (.ref t1), .val (.long q1), .second, .val (.int (Int32.ofNat i45)), .val (.int (Int32.ofNat kn))] [(.long q1), (.int (Int32.ofNat i45)), (.ref t1)]) := by
      intro t kk
      refine c45 t ?_
      show Steps p.tables e below (T45.setTop (mkF m 6 #[.val (.ref t1), .val (.long q1), .second, .val (.int (Int32.ofNat i45)), .val (.int (Int32.ofNat kn))] [])) t
      refine XS.iloadN X45.here hx rfl (hb hby d6_6) rfl ?_
      show Steps p.tables e below (T45.setTop (mkF m 7 #[.val (.ref t1), .val (.long q1), .second, .val (.int (Int32.ofNat i45)), .val (.int (Int32.ofNat kn))] [(.int (Int32.ofNat i45))])) t
      refine XS.iload X45.here hx rfl (hb hby d6_7) rfl ?_
      show Steps p.tables e below (T45.setTop (mkF m 9 #[.val (.ref t1), .val (.long q1), .second, .val (.int (Int32.ofNat i45)), .val (.int (Int32.ofNat kn))] [(.int (Int32.ofNat kn)), (.int (Int32.ofNat i45))])) t
      refine XS.icmpNo X45.here hx rfl (hb hby d6_9) rfl (tlt (own_lt hi45 hn)).2.1 ?_
      show Steps p.tables e below (T45.setTop (mkF m 12 #[.val (.ref t1), .val (.long q1), .second, .val (.int (Int32.ofNat i45)), .val (.int (Int32.ofNat kn))] [])) t
      refine XS.aloadN X45.here hx rfl (hb hby d6_12) rfl rfl ?_
      show Steps p.tables e below (T45.setTop (mkF m 13 #[.val (.ref t1), .val (.long q1), .second, .val (.int (Int32.ofNat i45)), .val (.int (Int32.ofNat kn))] [(.ref t1)])) t
      refine XS.iloadN X45.here hx rfl (hb hby d6_13) rfl ?_
      show Steps p.tables e below (T45.setTop (mkF m 14 #[.val (.ref t1), .val (.long q1), .second, .val (.int (Int32.ofNat i45)), .val (.int (Int32.ofNat kn))] [(.int (Int32.ofNat i45)), (.ref t1)])) t
      refine XS.lloadN X45.here hx rfl (hb hby d6_14) rfl ?_
      exact kk
    obtain ⟨cl48, Ar48, q48, Sz48, Nn48, Hh48, Gg48⟩ := id Vx
    have hin48 : ¬ ((Int32.ofNat i45) < 0 ∨ cl48.slots.size ≤ ((Int32.ofNat i45)).toNatClampNeg) := inb_of Sz48 ⟨own_nn (by omega), own_lt hi45 hn⟩
    obtain ⟨T48, h48, X48, e48, W48, st48⟩ := stJ X45 hx hZ e45 Ar48 (j := (Int32.ofNat i45)) hin48 (g := (mkF m 15 #[.val (.ref t1), .val (.long q1), .second, .val (.int (Int32.ofNat i45)), .val (.int (Int32.ofNat kn))] [(.long q1), (.int (Int32.ofNat i45)), (.ref t1)])) rfl rfl (hb hby d6_15)
    have V48 := Arv.set Ar48 q48 Sz48 Nn48 Hh48 Gg48 rfl W48 ((Int32.ofNat i45)).toNatClampNeg rfl (by rw [own_cl (by omega), List.length_map]; omega)
    have N48 := Fr.snoc X48 N45 g1
    have c49 : Goes p e below s₁ (entryFrame m #[(.ref t1), (.long q1)] 5) T48 (mkF m 16 #[.val (.ref t1), .val (.long q1), .second, .val (.int (Int32.ofNat i45)), .val (.int (Int32.ofNat kn))] []) := fun t kk => c47 t (st48 t kk)
    have Vy := own_vset (by omega) V48
    have f50 := (Kx.wr W48 (Or.inl (List.mem_of_getElem? (i := 0) rfl)))
    have c51 : Goes p e below s₁ (entryFrame m #[(.ref t1), (.long q1)] 5) T48 (mkF m 6 #[.val (.ref t1), .val (.long q1), .second, .val (.int ((Int32.ofNat i45) + (1 : Int32))), .val (.int (Int32.ofNat kn))] []) := by
      intro t kk
      refine c49 t ?_
      show Steps p.tables e below (T48.setTop (mkF m 16 #[.val (.ref t1), .val (.long q1), .second, .val (.int (Int32.ofNat i45)), .val (.int (Int32.ofNat kn))] [])) t
      refine XS.iinc X48.here hx rfl (hb hby d6_16) rfl (l' := #[.val (.ref t1), .val (.long q1), .second, .val (.int ((Int32.ofNat i45) + (1 : Int32))), .val (.int (Int32.ofNat kn))]) rfl ?_
      show Steps p.tables e below (T48.setTop (mkF m 19 #[.val (.ref t1), .val (.long q1), .second, .val (.int ((Int32.ofNat i45) + (1 : Int32))), .val (.int (Int32.ofNat kn))] [])) t
      refine XS.goto X48.here hx rfl (pc0 := 19) (pc' := 6) rfl (hb hby d6_19) (by decide) (by decide) ?_
      exact kk
    exact ih45 _ ⟨i45 + 1, _, h48, (vsx.set i45 q1), by omega, N48, X48, e48, f50, Vy, (by rw [List.length_set]; exact hlx), (fun j hj => by rw [own_gets (by omega)]; split <;> first | rfl | exact hvx j (by omega)), (by rw [inc_ofNat]; exact c51)⟩
theorem d4_0 : decode prog_30_method_1_code 0 = .ok (.aload_n 0, 1) := by decide +kernel
theorem d4_1 : decode prog_30_method_1_code 1 = .ok (.invokespecial 3, 3) := by decide +kernel
theorem d4_4 : decode prog_30_method_1_code 4 = .ok (.iload_n 3, 1) := by decide +kernel
theorem d4_5 : decode prog_30_method_1_code 5 = .ok (.iconst 1, 1) := by decide +kernel
theorem d4_6 : decode prog_30_method_1_code 6 = .ok (.if_icmp .lt 19, 3) := by decide +kernel
theorem d4_9 : decode prog_30_method_1_code 9 = .ok (.lload_n 1, 1) := by decide +kernel
theorem d4_10 : decode prog_30_method_1_code 10 = .ok (.iload_n 3, 1) := by decide +kernel
theorem d4_11 : decode prog_30_method_1_code 11 = .ok (.i2l, 1) := by decide +kernel
theorem d4_12 : decode prog_30_method_1_code 12 = .ok (.lcmp, 1) := by decide +kernel
theorem d4_13 : decode prog_30_method_1_code 13 = .ok (.ifCond .lt 12, 3) := by decide +kernel
theorem d4_16 : decode prog_30_method_1_code 16 = .ok (.lload_n 1, 1) := by decide +kernel
theorem d4_17 : decode prog_30_method_1_code 17 = .ok (.iload_n 3, 1) := by decide +kernel
theorem d4_18 : decode prog_30_method_1_code 18 = .ok (.i2l, 1) := by decide +kernel
theorem d4_19 : decode prog_30_method_1_code 19 = .ok (.lrem, 1) := by decide +kernel
theorem d4_20 : decode prog_30_method_1_code 20 = .ok (.lconst 0, 1) := by decide +kernel
theorem d4_21 : decode prog_30_method_1_code 21 = .ok (.lcmp, 1) := by decide +kernel
theorem d4_22 : decode prog_30_method_1_code 22 = .ok (.ifCond .eq 18, 3) := by decide +kernel
theorem d4_40 : decode prog_30_method_1_code 40 = .ok (.aload_n 0, 1) := by decide +kernel
theorem d4_41 : decode prog_30_method_1_code 41 = .ok (.lload_n 1, 1) := by decide +kernel
theorem d4_42 : decode prog_30_method_1_code 42 = .ok (.iload_n 3, 1) := by decide +kernel
theorem d4_43 : decode prog_30_method_1_code 43 = .ok (.i2l, 1) := by decide +kernel
theorem d4_44 : decode prog_30_method_1_code 44 = .ok (.ldiv, 1) := by decide +kernel
theorem d4_45 : decode prog_30_method_1_code 45 = .ok (.putfield 18, 3) := by decide +kernel
theorem d4_48 : decode prog_30_method_1_code 48 = .ok (.aload_n 0, 1) := by decide +kernel
theorem d4_49 : decode prog_30_method_1_code 49 = .ok (.iload_n 3, 1) := by decide +kernel
theorem d4_50 : decode prog_30_method_1_code 50 = .ok (.newarray .long, 2) := by decide +kernel
theorem d4_52 : decode prog_30_method_1_code 52 = .ok (.putfield 24, 3) := by decide +kernel
theorem d4_55 : decode prog_30_method_1_code 55 = .ok (.aload_n 0, 1) := by decide +kernel
theorem d4_56 : decode prog_30_method_1_code 56 = .ok (.iload_n 3, 1) := by decide +kernel
theorem d4_57 : decode prog_30_method_1_code 57 = .ok (.newarray .long, 2) := by decide +kernel
theorem d4_59 : decode prog_30_method_1_code 59 = .ok (.putfield 28, 3) := by decide +kernel
theorem d4_62 : decode prog_30_method_1_code 62 = .ok (.aload_n 0, 1) := by decide +kernel
theorem d4_63 : decode prog_30_method_1_code 63 = .ok (.getfield 28, 3) := by decide +kernel
theorem d4_66 : decode prog_30_method_1_code 66 = .ok (.ldc2_w 31, 3) := by decide +kernel
theorem d4_69 : decode prog_30_method_1_code 69 = .ok (.invokestatic 33, 3) := by decide +kernel
theorem d4_72 : decode prog_30_method_1_code 72 = .ok (.return_, 1) := by decide +kernel
theorem pd___JJ_V : parseMethodDescriptor "([JJ)V" = some ⟨[(.array .long), .long], none⟩ := by decide +kernel
theorem ef_ini (m : MethodId) (x0 : Addr) (x1 : Int64) (x2 : Int32) : entryFrame m #[(.ref x0), (.long x1), (.int x2)] 4 = mkF m 0 #[.val (.ref x0), .val (.long x1), .second, .val (.int x2)] [] := by (first | (simp [entryFrame, mkF, argsToLocals, Value.category]; done) | rfl)
def Q_ini (Z : State) (a1 : Addr) (b : Int64) (kn : Nat) (h0 : Heap) (n0 : Nat) (v : Option Value) (h : Heap) (L : List Loc) : Prop := v = none ∧ Fr n0 L ∧ n0 ≤ h.size ∧ own_rc Z n0 h a1 b kn (List.replicate kn (-9223372036854775808)) (List.replicate kn 0)
set_option maxRecDepth 65536 in
set_option maxHeartbeats 40000000 in
theorem rm_ini (l : Launch) (Z : State) (a0 : Array Value) (hw : ∀ d ∈ tables_1, d.before a0 Z = true) (ws : List Jvm.Cond) (a1 : Addr) (b : Int64) (kn : Nat) (h0 : Heap) (n0 : Nat) (Z0 : n0 ≤ h0.size) (F_bucketNanos : Fld Z h0 a1 "com/example/ventil/ventil/RollingCount" "bucketNanos" "J" (.long (0 : Int64))) (F_counts : Fld Z h0 a1 "com/example/ventil/ventil/RollingCount" "counts" "[J" .null) (F_bucketInSlot : Fld Z h0 a1 "com/example/ventil/ventil/RollingCount" "bucketInSlot" "[J" .null) (E1 : Exa Z h0 a1 "com/example/ventil/ventil/RollingCount") (g1 : n0 ≤ a1) (hB : 2 ≤ b.toInt) (hB2 : b.toInt ≤ 72057594037927937) (hk : 1 ≤ kn) (hn : kn ≤ 4) :
    MetFree l (⟨"com/example/ventil/ventil/RollingCount", "<init>", "(JI)V"⟩ : MethodName) (head1 (Jvm.Cond.code (⟨"com/example/ventil/ventil/RollingCount", "<init>", "(JI)V"⟩ : MethodName) prog_30_method_1_code 4 none :: ws) ({ frames := 1, cells := 2, slots := 8, locals := 16 } : Room)) (fun a U => a = #[(.ref a1), (.long (b * (Int32.ofNat kn).toInt64)), (.int (Int32.ofNat kn))] ∧ Z.Warmed39 U.vm ∧ U.heap = h0) (fun _ _ _ _ _ => True) (fun _ U o U' => ∃ v L, o = .returned v ∧ Q_ini Z a1 b kn h0 n0 v U'.heap L ∧ FrameEnd U o U' L ({ frames := 1, cells := 2, slots := 8, locals := 16 } : Room).cells ({ frames := 1, cells := 2, slots := 8, locals := 16 } : Room).slots) := by
  refine MetFree.of_bodySF (plainFor_of_name pn_8) hisR ?_
  intro p e s m args below meth c s₁ Bd hml0 hP hK
  obtain ⟨rfl, hZ, hh⟩ := hP
  have hx := Bd.exec
  have hby := Bd.bytes
  have hml : c.maxLocals = 4 := hml0
  have hown : s.vm.findClass "com/example/ventil/ventil/RollingCount" = some m.cls := findClass_of_methodNamed Bd.named
  have hnm := (name_of_methodNamed Bd.named Bd.method).1
  have X0 : Stand p l e ({ frames := 1, cells := 2, slots := 8, locals := 16 } : Room) s m #[(.ref a1), (.long (b * (Int32.ofNat kn).toInt64)), (.int (Int32.ofNat kn))] below meth c s₁ [] 0 0 := Stand.of_body Bd
  have e0 : s₁.heap = h0 := by rw [← hh, Bd.state]; rfl
  have N0 := Fr.nil n0
  have c0 : Goes p e below s₁ (entryFrame m #[(.ref a1), (.long (b * (Int32.ofNat kn).toInt64)), (.int (Int32.ofNat kn))] 4) s₁ (mkF m 0 #[.val (.ref a1), .val (.long (b * (Int32.ofNat kn).toInt64)), .second, .val (.int (Int32.ofNat kn))] []) := fun t k => castTop (ef_ini m a1 (b * (Int32.ofNat kn).toInt64) (Int32.ofNat kn)) k
  obtain ⟨hi1, hi2, hi3, hi4, hi5⟩ := own_ini hB hB2 hk hn
  have c52 : Goes p e below s₁ (entryFrame m #[(.ref a1), (.long (b * (Int32.ofNat kn).toInt64)), (.int (Int32.ofNat kn))] 4) s₁ (mkF m 1 #[.val (.ref a1), .val (.long (b * (Int32.ofNat kn).toInt64)), .second, .val (.int (Int32.ofNat kn))] [(.ref a1)]) := by
    intro t kk
    refine c0 t ?_
    show Steps p.tables e below (s₁.setTop (mkF m 0 #[.val (.ref a1), .val (.long (b * (Int32.ofNat kn).toInt64)), .second, .val (.int (Int32.ofNat kn))] [])) t
    refine XS.aloadN X0.here hx rfl (hb hby d4_0) rfl rfl ?_
    exact kk
  obtain ⟨T53, X53, e53, st53⟩ := initO X0 hx hZ hown (hw _ (List.mem_of_getElem? (i := 22) rfl)) (hw _ (List.mem_of_getElem? (i := 23) rfl)) (hw _ (List.mem_of_getElem? (i := 24) rfl)) e0 (g := (mkF m 1 #[.val (.ref a1), .val (.long (b * (Int32.ofNat kn).toInt64)), .second, .val (.int (Int32.ofNat kn))] [(.ref a1)])) rfl (by rw [hml]; rfl) rfl (hb hby d4_1) (by decide) (W := 0) (by show 2 * 0 + _ ≤ _; exact Nat.le_of_eq rfl) (by decide)
  have c54 : Goes p e below s₁ (entryFrame m #[(.ref a1), (.long (b * (Int32.ofNat kn).toInt64)), (.int (Int32.ofNat kn))] 4) T53 (mkF m 4 #[.val (.ref a1), .val (.long (b * (Int32.ofNat kn).toInt64)), .second, .val (.int (Int32.ofNat kn))] []) := fun t kk => c52 t (st53 t kk)
  have c55 : Goes p e below s₁ (entryFrame m #[(.ref a1), (.long (b * (Int32.ofNat kn).toInt64)), (.int (Int32.ofNat kn))] 4) T53 (mkF m 45 #[.val (.ref a1), .val (.long (b * (Int32.ofNat kn).toInt64)), .second, .val (.int (Int32.ofNat kn))] [(.long ((b * (Int32.ofNat kn).toInt64) / ((Int32.ofNat kn).toInt64))), (.ref a1)]) := by
    intro t kk
    refine c54 t ?_
    show Steps p.tables e below (T53.setTop (mkF m 4 #[.val (.ref a1), .val (.long (b * (Int32.ofNat kn).toInt64)), .second, .val (.int (Int32.ofNat kn))] [])) t
    refine XS.iloadN X53.here hx rfl (hb hby d4_4) rfl ?_
    show Steps p.tables e below (T53.setTop (mkF m 5 #[.val (.ref a1), .val (.long (b * (Int32.ofNat kn).toInt64)), .second, .val (.int (Int32.ofNat kn))] [(.int (Int32.ofNat kn))])) t
    refine XS.iconst X53.here hx rfl (hb hby d4_5) ?_
    show Steps p.tables e below (T53.setTop (mkF m 6 #[.val (.ref a1), .val (.long (b * (Int32.ofNat kn).toInt64)), .second, .val (.int (Int32.ofNat kn))] [(.int (1 : Int32)), (.int (Int32.ofNat kn))])) t
    refine XS.icmpNo X53.here hx rfl (hb hby d4_6) rfl (flt hi1).1 ?_
    show Steps p.tables e below (T53.setTop (mkF m 9 #[.val (.ref a1), .val (.long (b * (Int32.ofNat kn).toInt64)), .second, .val (.int (Int32.ofNat kn))] [])) t
    refine XS.lloadN X53.here hx rfl (hb hby d4_9) rfl ?_
    show Steps p.tables e below (T53.setTop (mkF m 10 #[.val (.ref a1), .val (.long (b * (Int32.ofNat kn).toInt64)), .second, .val (.int (Int32.ofNat kn))] [(.long (b * (Int32.ofNat kn).toInt64))])) t
    refine XS.iloadN X53.here hx rfl (hb hby d4_10) rfl ?_
    show Steps p.tables e below (T53.setTop (mkF m 11 #[.val (.ref a1), .val (.long (b * (Int32.ofNat kn).toInt64)), .second, .val (.int (Int32.ofNat kn))] [(.int (Int32.ofNat kn)), (.long (b * (Int32.ofNat kn).toInt64))])) t
    refine XS.i2l X53.here hx rfl (hb hby d4_11) rfl ?_
    show Steps p.tables e below (T53.setTop (mkF m 12 #[.val (.ref a1), .val (.long (b * (Int32.ofNat kn).toInt64)), .second, .val (.int (Int32.ofNat kn))] [(.long ((Int32.ofNat kn).toInt64)), (.long (b * (Int32.ofNat kn).toInt64))])) t
    refine XS.lcmp X53.here hx rfl (hb hby d4_12) rfl ?_
    show Steps p.tables e below (T53.setTop (mkF m 13 #[.val (.ref a1), .val (.long (b * (Int32.ofNat kn).toInt64)), .second, .val (.int (Int32.ofNat kn))] [(.int (lcmpW (b * (Int32.ofNat kn).toInt64) ((Int32.ofNat kn).toInt64)))])) t
    refine XS.ifNo X53.here hx rfl (hb hby d4_13) rfl ((if0 _ _).trans (flt hi2).1) ?_
    show Steps p.tables e below (T53.setTop (mkF m 16 #[.val (.ref a1), .val (.long (b * (Int32.ofNat kn).toInt64)), .second, .val (.int (Int32.ofNat kn))] [])) t
    refine XS.lloadN X53.here hx rfl (hb hby d4_16) rfl ?_
    show Steps p.tables e below (T53.setTop (mkF m 17 #[.val (.ref a1), .val (.long (b * (Int32.ofNat kn).toInt64)), .second, .val (.int (Int32.ofNat kn))] [(.long (b * (Int32.ofNat kn).toInt64))])) t
    refine XS.iloadN X53.here hx rfl (hb hby d4_17) rfl ?_
    show Steps p.tables e below (T53.setTop (mkF m 18 #[.val (.ref a1), .val (.long (b * (Int32.ofNat kn).toInt64)), .second, .val (.int (Int32.ofNat kn))] [(.int (Int32.ofNat kn)), (.long (b * (Int32.ofNat kn).toInt64))])) t
    refine XS.i2l X53.here hx rfl (hb hby d4_18) rfl ?_
    show Steps p.tables e below (T53.setTop (mkF m 19 #[.val (.ref a1), .val (.long (b * (Int32.ofNat kn).toInt64)), .second, .val (.int (Int32.ofNat kn))] [(.long ((Int32.ofNat kn).toInt64)), (.long (b * (Int32.ofNat kn).toInt64))])) t
    refine XS.lrem X53.here hx rfl (hb hby d4_19) rfl hi5 ?_
    show Steps p.tables e below (T53.setTop (mkF m 20 #[.val (.ref a1), .val (.long (b * (Int32.ofNat kn).toInt64)), .second, .val (.int (Int32.ofNat kn))] [(.long ((b * (Int32.ofNat kn).toInt64) - (b * (Int32.ofNat kn).toInt64) / ((Int32.ofNat kn).toInt64) * ((Int32.ofNat kn).toInt64)))])) t
    refine XS.lconst X53.here hx rfl (hb hby d4_20) ?_
    show Steps p.tables e below (T53.setTop (mkF m 21 #[.val (.ref a1), .val (.long (b * (Int32.ofNat kn).toInt64)), .second, .val (.int (Int32.ofNat kn))] [(.long (0 : Int64)), (.long ((b * (Int32.ofNat kn).toInt64) - (b * (Int32.ofNat kn).toInt64) / ((Int32.ofNat kn).toInt64) * ((Int32.ofNat kn).toInt64)))])) t
    refine XS.lcmp X53.here hx rfl (hb hby d4_21) rfl ?_
    show Steps p.tables e below (T53.setTop (mkF m 22 #[.val (.ref a1), .val (.long (b * (Int32.ofNat kn).toInt64)), .second, .val (.int (Int32.ofNat kn))] [(.int (lcmpW ((b * (Int32.ofNat kn).toInt64) - (b * (Int32.ofNat kn).toInt64) / ((Int32.ofNat kn).toInt64) * ((Int32.ofNat kn).toInt64)) (0 : Int64)))])) t
    refine XS.ifYes X53.here hx rfl (pc0 := 22) (pc' := 40) rfl (hb hby d4_22) rfl ((if0 _ _).trans (teq hi3).1) (by decide) (by decide) ?_
    show Steps p.tables e below (T53.setTop (mkF m 40 #[.val (.ref a1), .val (.long (b * (Int32.ofNat kn).toInt64)), .second, .val (.int (Int32.ofNat kn))] [])) t
    refine XS.aloadN X53.here hx rfl (hb hby d4_40) rfl rfl ?_
    show Steps p.tables e below (T53.setTop (mkF m 41 #[.val (.ref a1), .val (.long (b * (Int32.ofNat kn).toInt64)), .second, .val (.int (Int32.ofNat kn))] [(.ref a1)])) t
    refine XS.lloadN X53.here hx rfl (hb hby d4_41) rfl ?_
    show Steps p.tables e below (T53.setTop (mkF m 42 #[.val (.ref a1), .val (.long (b * (Int32.ofNat kn).toInt64)), .second, .val (.int (Int32.ofNat kn))] [(.long (b * (Int32.ofNat kn).toInt64)), (.ref a1)])) t
    refine XS.iloadN X53.here hx rfl (hb hby d4_42) rfl ?_
    show Steps p.tables e below (T53.setTop (mkF m 43 #[.val (.ref a1), .val (.long (b * (Int32.ofNat kn).toInt64)), .second, .val (.int (Int32.ofNat kn))] [(.int (Int32.ofNat kn)), (.long (b * (Int32.ofNat kn).toInt64)), (.ref a1)])) t
    refine XS.i2l X53.here hx rfl (hb hby d4_43) rfl ?_
    show Steps p.tables e below (T53.setTop (mkF m 44 #[.val (.ref a1), .val (.long (b * (Int32.ofNat kn).toInt64)), .second, .val (.int (Int32.ofNat kn))] [(.long ((Int32.ofNat kn).toInt64)), (.long (b * (Int32.ofNat kn).toInt64)), (.ref a1)])) t
    refine XS.ldiv X53.here hx rfl (hb hby d4_44) rfl hi5 ?_
    exact kk
  have cB : Goes p e below s₁ (entryFrame m #[(.ref a1), (.long (b * (Int32.ofNat kn).toInt64)), (.int (Int32.ofNat kn))] 4) T53 (mkF m 45 #[.val (.ref a1), .val (.long (b * (Int32.ofNat kn).toInt64)), .second, .val (.int (Int32.ofNat kn))] [(.long b), (.ref a1)]) := by
    have q := c55
    rw [hi4] at q
    exact q
  obtain ⟨T56, h56, X56, e56, W56, st56⟩ := putF X53 hx hZ hown (host := "") (Or.inl (hw _ (List.mem_of_getElem? (i := 25) rfl))) Via.refl e53 F_bucketNanos E1 (Or.inr ⟨(hw _ (List.mem_of_getElem? (i := 26) rfl)), rfl, hnm⟩) (hw _ (List.mem_of_getElem? (i := 17) rfl)) (ty := .long) (by decide) rfl rfl (g := (mkF m 45 #[.val (.ref a1), .val (.long (b * (Int32.ofNat kn).toInt64)), .second, .val (.int (Int32.ofNat kn))] [(.long b), (.ref a1)])) rfl rfl (hb hby d4_45)
  have N56 := Fr.snoc X56 N0 g1
  have F56 := F_bucketNanos.same W56
  have c57 : Goes p e below s₁ (entryFrame m #[(.ref a1), (.long (b * (Int32.ofNat kn).toInt64)), (.int (Int32.ofNat kn))] 4) T56 (mkF m 48 #[.val (.ref a1), .val (.long (b * (Int32.ofNat kn).toInt64)), .second, .val (.int (Int32.ofNat kn))] []) := fun t kk => cB t (st56 t kk)
  have c58 : Goes p e below s₁ (entryFrame m #[(.ref a1), (.long (b * (Int32.ofNat kn).toInt64)), (.int (Int32.ofNat kn))] 4) T56 (mkF m 50 #[.val (.ref a1), .val (.long (b * (Int32.ofNat kn).toInt64)), .second, .val (.int (Int32.ofNat kn))] [(.int (Int32.ofNat kn)), (.ref a1)]) := by
    intro t kk
    refine c57 t ?_
    show Steps p.tables e below (T56.setTop (mkF m 48 #[.val (.ref a1), .val (.long (b * (Int32.ofNat kn).toInt64)), .second, .val (.int (Int32.ofNat kn))] [])) t
    refine XS.aloadN X56.here hx rfl (hb hby d4_48) rfl rfl ?_
    show Steps p.tables e below (T56.setTop (mkF m 49 #[.val (.ref a1), .val (.long (b * (Int32.ofNat kn).toInt64)), .second, .val (.int (Int32.ofNat kn))] [(.ref a1)])) t
    refine XS.iloadN X56.here hx rfl (hb hby d4_49) rfl ?_
    exact kk
  obtain ⟨T59, h59, k59, X59, e59, E59, A59, st59⟩ := newP X56 hx hZ (hw _ (List.mem_of_getElem? (i := 27) rfl)) e56 (g := (mkF m 50 #[.val (.ref a1), .val (.long (b * (Int32.ofNat kn).toInt64)), .second, .val (.int (Int32.ofNat kn))] [(.int (Int32.ofNat kn)), (.ref a1)])) rfl (hb hby d4_50) rfl (own_nn hn) (cap := 4) (by rw [own_cl hn]; exact hn) (by decide) (by decide) (by decide)
  obtain ⟨b59, g59⟩ : ∃ z, z = h56.size := ⟨_, rfl⟩
  rw [← g59] at A59 st59
  have f60 := (Nat.le_trans Z0 (Keep.of_wr W56).1)
  have gb59 : n0 ≤ b59 := Nat.le_trans f60 (Nat.le_of_eq g59.symm)
  have f61 := (E1.wr W56)
  have nea1_59 : a1 ≠ b59 := Nat.ne_of_lt (Nat.lt_of_lt_of_le f61.lt (Nat.le_of_eq g59.symm))
  have V59 := Arv.new A59 (own_nn hn)
  have c62 : Goes p e below s₁ (entryFrame m #[(.ref a1), (.long (b * (Int32.ofNat kn).toInt64)), (.int (Int32.ofNat kn))] 4) T59 (mkF m 52 #[.val (.ref a1), .val (.long (b * (Int32.ofNat kn).toInt64)), .second, .val (.int (Int32.ofNat kn))] [(.ref b59), (.ref a1)]) := fun t kk => c58 t (st59 t kk)
  have VV59 : Arv Z h59 b59 k59 .long (Int32.ofNat kn) ((List.replicate kn (0 : Int64)).map Value.long) (.long 0) := by rw [List.map_replicate]; exact V59.pad (pad_rep [] (.long 0) kn)
  have f63 := ((F_counts.other W56 (Or.inr (slot_ne (Or.inr (hw _ (List.mem_of_getElem? (i := 29) rfl))) (Or.inr (hw _ (List.mem_of_getElem? (i := 26) rfl))) (by decide) (t := (.array .long)) (t' := .long) (by decide) (by decide)))).ext E59)
  have f64 := (f61.ext E59)
  obtain ⟨T65, h65, X65, e65, W65, st65⟩ := putF X59 hx hZ hown (host := "") (Or.inl (hw _ (List.mem_of_getElem? (i := 28) rfl))) Via.refl e59 f63 f64 (Or.inr ⟨(hw _ (List.mem_of_getElem? (i := 29) rfl)), rfl, hnm⟩) (hw _ (List.mem_of_getElem? (i := 17) rfl)) (ty := (.array .long)) (by decide) rfl rfl (g := (mkF m 52 #[.val (.ref a1), .val (.long (b * (Int32.ofNat kn).toInt64)), .second, .val (.int (Int32.ofNat kn))] [(.ref b59), (.ref a1)])) rfl rfl (hb hby d4_52)
  have N65 := Fr.snoc X65 N56 g1
  have F65 := f63.same W65
  have c66 : Goes p e below s₁ (entryFrame m #[(.ref a1), (.long (b * (Int32.ofNat kn).toInt64)), (.int (Int32.ofNat kn))] 4) T65 (mkF m 55 #[.val (.ref a1), .val (.long (b * (Int32.ofNat kn).toInt64)), .second, .val (.int (Int32.ofNat kn))] []) := fun t kk => c62 t (st65 t kk)
  have c67 : Goes p e below s₁ (entryFrame m #[(.ref a1), (.long (b * (Int32.ofNat kn).toInt64)), (.int (Int32.ofNat kn))] 4) T65 (mkF m 57 #[.val (.ref a1), .val (.long (b * (Int32.ofNat kn).toInt64)), .second, .val (.int (Int32.ofNat kn))] [(.int (Int32.ofNat kn)), (.ref a1)]) := by
    intro t kk
    refine c66 t ?_
    show Steps p.tables e below (T65.setTop (mkF m 55 #[.val (.ref a1), .val (.long (b * (Int32.ofNat kn).toInt64)), .second, .val (.int (Int32.ofNat kn))] [])) t
    refine XS.aloadN X65.here hx rfl (hb hby d4_55) rfl rfl ?_
    show Steps p.tables e below (T65.setTop (mkF m 56 #[.val (.ref a1), .val (.long (b * (Int32.ofNat kn).toInt64)), .second, .val (.int (Int32.ofNat kn))] [(.ref a1)])) t
    refine XS.iloadN X65.here hx rfl (hb hby d4_56) rfl ?_
    exact kk
  obtain ⟨T68, h68, k68, X68, e68, E68, A68, st68⟩ := newP X65 hx hZ (hw _ (List.mem_of_getElem? (i := 27) rfl)) e65 (g := (mkF m 57 #[.val (.ref a1), .val (.long (b * (Int32.ofNat kn).toInt64)), .second, .val (.int (Int32.ofNat kn))] [(.int (Int32.ofNat kn)), (.ref a1)])) rfl (hb hby d4_57) rfl (own_nn hn) (cap := 4) (by rw [own_cl hn]; exact hn) (by decide) (by decide) (by decide)
  obtain ⟨b68, g68⟩ : ∃ z, z = h65.size := ⟨_, rfl⟩
  rw [← g68] at A68 st68
  have f69 := (Nat.le_trans (Nat.le_trans f60 E59.1) (Keep.of_wr W65).1)
  have gb68 : n0 ≤ b68 := Nat.le_trans f69 (Nat.le_of_eq g68.symm)
  have f70 := (f64.wr W65)
  have nea1_68 : a1 ≠ b68 := Nat.ne_of_lt (Nat.lt_of_lt_of_le f70.lt (Nat.le_of_eq g68.symm))
  have f71 := (VV59.other W65 (Ne.symm nea1_59))
  have neb59_68 : b59 ≠ b68 := Nat.ne_of_lt (Nat.lt_of_lt_of_le f71.lt (Nat.le_of_eq g68.symm))
  have V68 := Arv.new A68 (own_nn hn)
  have c72 : Goes p e below s₁ (entryFrame m #[(.ref a1), (.long (b * (Int32.ofNat kn).toInt64)), (.int (Int32.ofNat kn))] 4) T68 (mkF m 59 #[.val (.ref a1), .val (.long (b * (Int32.ofNat kn).toInt64)), .second, .val (.int (Int32.ofNat kn))] [(.ref b68), (.ref a1)]) := fun t kk => c67 t (st68 t kk)
  have VV68 : Arv Z h68 b68 k68 .long (Int32.ofNat kn) ((List.replicate kn (0 : Int64)).map Value.long) (.long 0) := by rw [List.map_replicate]; exact V68.pad (pad_rep [] (.long 0) kn)
  have f73 := ((((F_bucketInSlot.other W56 (Or.inr (slot_ne (Or.inr (hw _ (List.mem_of_getElem? (i := 31) rfl))) (Or.inr (hw _ (List.mem_of_getElem? (i := 26) rfl))) (by decide) (t := (.array .long)) (t' := .long) (by decide) (by decide)))).ext E59).other W65 (Or.inr (slot_ne (Or.inr (hw _ (List.mem_of_getElem? (i := 31) rfl))) (Or.inr (hw _ (List.mem_of_getElem? (i := 29) rfl))) (by decide) (t := (.array .long)) (t' := (.array .long)) (by decide) (by decide)))).ext E68)
  have f74 := (f70.ext E68)
  obtain ⟨T75, h75, X75, e75, W75, st75⟩ := putF X68 hx hZ hown (host := "") (Or.inl (hw _ (List.mem_of_getElem? (i := 30) rfl))) Via.refl e68 f73 f74 (Or.inr ⟨(hw _ (List.mem_of_getElem? (i := 31) rfl)), rfl, hnm⟩) (hw _ (List.mem_of_getElem? (i := 17) rfl)) (ty := (.array .long)) (by decide) rfl rfl (g := (mkF m 59 #[.val (.ref a1), .val (.long (b * (Int32.ofNat kn).toInt64)), .second, .val (.int (Int32.ofNat kn))] [(.ref b68), (.ref a1)])) rfl rfl (hb hby d4_59)
  have N75 := Fr.snoc X75 N65 g1
  have F75 := f73.same W75
  have c76 : Goes p e below s₁ (entryFrame m #[(.ref a1), (.long (b * (Int32.ofNat kn).toInt64)), (.int (Int32.ofNat kn))] 4) T75 (mkF m 62 #[.val (.ref a1), .val (.long (b * (Int32.ofNat kn).toInt64)), .second, .val (.int (Int32.ofNat kn))] []) := fun t kk => c72 t (st75 t kk)
  have c77 : Goes p e below s₁ (entryFrame m #[(.ref a1), (.long (b * (Int32.ofNat kn).toInt64)), (.int (Int32.ofNat kn))] 4) T75 (mkF m 63 #[.val (.ref a1), .val (.long (b * (Int32.ofNat kn).toInt64)), .second, .val (.int (Int32.ofNat kn))] [(.ref a1)]) := by
    intro t kk
    refine c76 t ?_
    show Steps p.tables e below (T75.setTop (mkF m 62 #[.val (.ref a1), .val (.long (b * (Int32.ofNat kn).toInt64)), .second, .val (.int (Int32.ofNat kn))] [])) t
    refine XS.aloadN X75.here hx rfl (hb hby d4_62) rfl rfl ?_
    exact kk
  obtain ⟨T78, X78, e78, st78⟩ := getF X75 hx hZ hown (host := "") (Or.inl (hw _ (List.mem_of_getElem? (i := 30) rfl))) Via.refl e75 F75 (g := (mkF m 63 #[.val (.ref a1), .val (.long (b * (Int32.ofNat kn).toInt64)), .second, .val (.int (Int32.ofNat kn))] [(.ref a1)])) rfl rfl (hb hby d4_63)
  have c79 : Goes p e below s₁ (entryFrame m #[(.ref a1), (.long (b * (Int32.ofNat kn).toInt64)), (.int (Int32.ofNat kn))] 4) T78 (mkF m 66 #[.val (.ref a1), .val (.long (b * (Int32.ofNat kn).toInt64)), .second, .val (.int (Int32.ofNat kn))] [(.ref b68)]) := fun t kk => c77 t (st78 t kk)
  have f80 := (Nat.le_trans (Nat.le_trans f69 E68.1) (Keep.of_wr W75).1)
  have f81 := (VV68.other W75 (Ne.symm nea1_68))
  have c82 : Goes p e below s₁ (entryFrame m #[(.ref a1), (.long (b * (Int32.ofNat kn).toInt64)), (.int (Int32.ofNat kn))] 4) T78 (mkF m 69 #[.val (.ref a1), .val (.long (b * (Int32.ofNat kn).toInt64)), .second, .val (.int (Int32.ofNat kn))] [(.long (-9223372036854775808 : Int64)), (.ref b68)]) := by
    intro t kk
    refine c79 t ?_
    show Steps p.tables e below (T78.setTop (mkF m 66 #[.val (.ref a1), .val (.long (b * (Int32.ofNat kn).toInt64)), .second, .val (.int (Int32.ofNat kn))] [(.ref b68)])) t
    refine X78.ldc2Long hx hown (mvT hZ (hw _ (List.mem_of_getElem? (i := 32) rfl))) (g := (mkF m 66 #[.val (.ref a1), .val (.long (b * (Int32.ofNat kn).toInt64)), .second, .val (.int (Int32.ofNat kn))] [(.ref b68)])) rfl (hb hby d4_66) _ ?_
    exact kk
  obtain ⟨_, _, ⟨T83, L83, k83, n83⟩, -, X83, ⟨Lc83, hQ83, l83, y83, z83⟩, st83⟩ := Jvm.LawKit.callS X78 hx (y := (⟨"java/util/Arrays", "fill", "([JJ)V"⟩ : MethodName)) hown (mvT hZ (hw _ (List.mem_of_getElem? (i := 33) rfl))) (mvT hZ (hw _ (List.mem_of_getElem? (i := 34) rfl))) (mvT hZ (hw _ (List.mem_of_getElem? (i := 35) rfl))) (mvT hZ (hw _ (List.mem_of_getElem? (i := 36) rfl))) (by decide) (backOf (W := 0) (rm_fi l Z a0 hw [] b68 (-9223372036854775808) k68 kn _ h75 n0 f80 f81 (by simp) hn gb68) hZ (hw _ (List.mem_of_getElem? (i := 36) rfl)) (hw _ (List.mem_of_getElem? (i := 35) rfl)) (by decide) (by decide)) (g := (mkF m 69 #[.val (.ref a1), .val (.long (b * (Int32.ofNat kn).toInt64)), .second, .val (.int (Int32.ofNat kn))] [(.long (-9223372036854775808 : Int64)), (.ref b68)])) rfl (by rw [hml]; rfl) (argsL := [(.ref b68), (.long (-9223372036854775808 : Int64))]) (rest := []) (lenOf pd___JJ_V rfl) rfl (by show 2 * 0 + _ ≤ _; exact Nat.le_of_eq rfl) (hb hby d4_69) (fun _ _ => ⟨rfl, e78, (by decide : 2 + 0 ≤ _), (by decide : 8 + 0 ≤ _)⟩)
  dsimp only [Pt.U, Pt.locs, Pt.cells, Pt.slots] at X83 l83 y83 z83 st83 hQ83
  subst l83 y83 z83
  obtain ⟨rfl, Nq83, Kq83, Vq83⟩ := hQ83
  have N83 := Fr.app N75 Nq83
  have c84 : Goes p e below s₁ (entryFrame m #[(.ref a1), (.long (b * (Int32.ofNat kn).toInt64)), (.int (Int32.ofNat kn))] 4) T83 (mkF m 72 #[.val (.ref a1), .val (.long (b * (Int32.ofNat kn).toInt64)), .second, .val (.int (Int32.ofNat kn))] []) := fun t kk => c82 t (st83 t kk)
  have f85 := (Nat.le_trans f80 Kq83.1)
  have f86 := ((f74.wr W75).keep Kq83)
  have f87 := (((((F56.ext E59).other W65 (Or.inr (slot_ne (Or.inr (hw _ (List.mem_of_getElem? (i := 26) rfl))) (Or.inr (hw _ (List.mem_of_getElem? (i := 29) rfl))) (by decide) (t := .long) (t' := (.array .long)) (by decide) (by decide)))).ext E68).other W75 (Or.inr (slot_ne (Or.inr (hw _ (List.mem_of_getElem? (i := 26) rfl))) (Or.inr (hw _ (List.mem_of_getElem? (i := 31) rfl))) (by decide) (t := .long) (t' := (.array .long)) (by decide) (by decide)))).keep Kq83 (ninS nea1_68 nin0))
  have f88 := (((F65.ext E68).other W75 (Or.inr (slot_ne (Or.inr (hw _ (List.mem_of_getElem? (i := 29) rfl))) (Or.inr (hw _ (List.mem_of_getElem? (i := 31) rfl))) (by decide) (t := (.array .long)) (t' := (.array .long)) (by decide) (by decide)))).keep Kq83 (ninS nea1_68 nin0))
  have f89 := (F75.keep Kq83 (ninS nea1_68 nin0))
  have f90 := (((f71.ext E68).other W75 (Ne.symm nea1_59)).keep Kq83 (ninS neb59_68 nin0))
  obtain ⟨fs, hr, hrun, hended, hW, hsame⟩ := X83.leave (v := none) (fun _ => rfl)
  refine ⟨_, _, c84 _ ?_, hrun, hended, _, _, rfl, ?_, ⟨_, rfl⟩, hW, hsame.mono (by decide) (by decide)⟩
  · exact X83.returnOut hx Bd.returns (hb hby d4_72) hr
  · show Q_ini Z a1 b kn h0 n0 _ T83.heap _
    exact ⟨rfl, N83, f85, f86, f87, by simp, by simp, b59, b68, _, _, gb59, gb68, neb59_68, f88, f89, f90, Vq83⟩
theorem d7_0 : decode prog_30_method_3_code 0 = .ok (.aload_n 0, 1) := by decide +kernel
theorem d7_1 : decode prog_30_method_3_code 1 = .ok (.lload_n 1, 1) := by decide +kernel
theorem d7_2 : decode prog_30_method_3_code 2 = .ok (.invokevirtual 39, 3) := by decide +kernel
theorem d7_5 : decode prog_30_method_3_code 5 = .ok (.aload_n 0, 1) := by decide +kernel
theorem d7_6 : decode prog_30_method_3_code 6 = .ok (.getfield 24, 3) := by decide +kernel
theorem d7_9 : decode prog_30_method_3_code 9 = .ok (.arraylength, 1) := by decide +kernel
theorem d7_10 : decode prog_30_method_3_code 10 = .ok (.i2l, 1) := by decide +kernel
theorem d7_11 : decode prog_30_method_3_code 11 = .ok (.lsub, 1) := by decide +kernel
theorem d7_12 : decode prog_30_method_3_code 12 = .ok (.lconst 1, 1) := by decide +kernel
theorem d7_13 : decode prog_30_method_3_code 13 = .ok (.ladd, 1) := by decide +kernel
theorem d7_14 : decode prog_30_method_3_code 14 = .ok (.lstore_n 3, 1) := by decide +kernel
theorem d7_15 : decode prog_30_method_3_code 15 = .ok (.lconst 0, 1) := by decide +kernel
theorem d7_16 : decode prog_30_method_3_code 16 = .ok (.lstore 5, 2) := by decide +kernel
theorem d7_18 : decode prog_30_method_3_code 18 = .ok (.iconst 0, 1) := by decide +kernel
theorem d7_19 : decode prog_30_method_3_code 19 = .ok (.istore 7, 2) := by decide +kernel
theorem d7_21 : decode prog_30_method_3_code 21 = .ok (.iload 7, 2) := by decide +kernel
theorem d7_23 : decode prog_30_method_3_code 23 = .ok (.aload_n 0, 1) := by decide +kernel
theorem d7_24 : decode prog_30_method_3_code 24 = .ok (.getfield 24, 3) := by decide +kernel
theorem d7_27 : decode prog_30_method_3_code 27 = .ok (.arraylength, 1) := by decide +kernel
theorem d7_28 : decode prog_30_method_3_code 28 = .ok (.if_icmp .ge 33, 3) := by decide +kernel
theorem d7_31 : decode prog_30_method_3_code 31 = .ok (.aload_n 0, 1) := by decide +kernel
theorem d7_32 : decode prog_30_method_3_code 32 = .ok (.getfield 28, 3) := by decide +kernel
theorem d7_35 : decode prog_30_method_3_code 35 = .ok (.iload 7, 2) := by decide +kernel
theorem d7_37 : decode prog_30_method_3_code 37 = .ok (.laload, 1) := by decide +kernel
theorem d7_38 : decode prog_30_method_3_code 38 = .ok (.lload_n 3, 1) := by decide +kernel
theorem d7_39 : decode prog_30_method_3_code 39 = .ok (.lcmp, 1) := by decide +kernel
theorem d7_40 : decode prog_30_method_3_code 40 = .ok (.ifCond .lt 15, 3) := by decide +kernel
theorem d7_43 : decode prog_30_method_3_code 43 = .ok (.lload 5, 2) := by decide +kernel
theorem d7_45 : decode prog_30_method_3_code 45 = .ok (.aload_n 0, 1) := by decide +kernel
theorem d7_46 : decode prog_30_method_3_code 46 = .ok (.getfield 24, 3) := by decide +kernel
theorem d7_49 : decode prog_30_method_3_code 49 = .ok (.iload 7, 2) := by decide +kernel
theorem d7_51 : decode prog_30_method_3_code 51 = .ok (.laload, 1) := by decide +kernel
theorem d7_52 : decode prog_30_method_3_code 52 = .ok (.ladd, 1) := by decide +kernel
theorem d7_53 : decode prog_30_method_3_code 53 = .ok (.lstore 5, 2) := by decide +kernel
theorem d7_55 : decode prog_30_method_3_code 55 = .ok (.iinc 7 1, 3) := by decide +kernel
theorem d7_58 : decode prog_30_method_3_code 58 = .ok (.goto (-37), 3) := by decide +kernel
theorem d7_61 : decode prog_30_method_3_code 61 = .ok (.lload 5, 2) := by decide +kernel
theorem d7_63 : decode prog_30_method_3_code 63 = .ok (.lreturn, 1) := by decide +kernel
theorem pd__J_J : parseMethodDescriptor "(J)J" = some ⟨[.long], some .long⟩ := by decide +kernel
theorem ef_sum (m : MethodId) (x0 : Addr) (x1 : Int64) : entryFrame m #[(.ref x0), (.long x1)] 8 = mkF m 0 #[.val (.ref x0), .val (.long x1), .second, .unset, .unset, .unset, .unset, .unset] [] := by (first | (simp [entryFrame, mkF, argsToLocals, Value.category]; done) | rfl)
def Q_sum (Z : State) (a1 : Addr) (q1 : Int64) (b : Int64) (kn : Nat) (bs : List Int64) (cs : List Int64) (h0 : Heap) (n0 : Nat) (v : Option Value) (h : Heap) (L : List Loc) : Prop := v = some (.long (own_phi (own_fd q1 b - (Int32.ofNat kn).toInt64 + 1) bs cs 0)) ∧ Fr n0 L ∧ h = h0
set_option maxRecDepth 65536 in
set_option maxHeartbeats 40000000 in
theorem rm_sum (l : Launch) (Z : State) (a0 : Array Value) (hw : ∀ d ∈ tables_1, d.before a0 Z = true) (ws : List Jvm.Cond) (a1 : Addr) (q1 : Int64) (b : Int64) (kn : Nat) (bs : List Int64) (cs : List Int64) (h0 : Heap) (n0 : Nat) (Z0 : n0 ≤ h0.size) (hrc : own_rc Z n0 h0 a1 b kn bs cs) (hB : b ≠ 0) (hk : 0 < kn) (hn : kn ≤ 4) :
    MetFree l (⟨"com/example/ventil/ventil/RollingCount", "sum", "(J)J"⟩ : MethodName) (head1 (Jvm.Cond.code (⟨"com/example/ventil/ventil/RollingCount", "sum", "(J)J"⟩ : MethodName) prog_30_method_3_code 8 (some .long) :: ws) ({ frames := 2, cells := 0, slots := 0, locals := 31 } : Room)) (fun a U => a = #[(.ref a1), (.long q1)] ∧ Z.Warmed39 U.vm ∧ U.heap = h0) (fun _ _ _ _ _ => True) (fun _ U o U' => ∃ v L, o = .returned v ∧ Q_sum Z a1 q1 b kn bs cs h0 n0 v U'.heap L ∧ FrameEnd U o U' L ({ frames := 2, cells := 0, slots := 0, locals := 31 } : Room).cells ({ frames := 2, cells := 0, slots := 0, locals := 31 } : Room).slots) := by
  refine MetFree.of_bodySF (plainFor_of_name pn_8) hisR ?_
  intro p e s m args below meth c s₁ Bd hml0 hP hK
  obtain ⟨rfl, hZ, hh⟩ := hP
  have hx := Bd.exec
  have hby := Bd.bytes
  have hml : c.maxLocals = 8 := hml0
  have hown : s.vm.findClass "com/example/ventil/ventil/RollingCount" = some m.cls := findClass_of_methodNamed Bd.named
  have hnm := (name_of_methodNamed Bd.named Bd.method).1
  have X0 : Stand p l e ({ frames := 2, cells := 0, slots := 0, locals := 31 } : Room) s m #[(.ref a1), (.long q1)] below meth c s₁ [] 0 0 := Stand.of_body Bd
  have e0 : s₁.heap = h0 := by rw [← hh, Bd.state]; rfl
  have N0 := Fr.nil n0
  have c0 : Goes p e below s₁ (entryFrame m #[(.ref a1), (.long q1)] 8) s₁ (mkF m 0 #[.val (.ref a1), .val (.long q1), .second, .unset, .unset, .unset, .unset, .unset] []) := fun t k => castTop (ef_sum m a1 q1) k
  obtain ⟨E1, Fb, hlb, hlc, ca, da, kc, kd, gca, gda, hcd, Fc, Fd, Vc, Vd⟩ := hrc
  have n1c : a1 ≠ ca := own_ne E1 (hw _ (List.mem_of_getElem? (i := 17) rfl)) Vc
  have n1d : a1 ≠ da := own_ne E1 (hw _ (List.mem_of_getElem? (i := 17) rfl)) Vd
  have c91 : Goes p e below s₁ (entryFrame m #[(.ref a1), (.long q1)] 8) s₁ (mkF m 2 #[.val (.ref a1), .val (.long q1), .second, .unset, .unset, .unset, .unset, .unset] [(.long q1), (.ref a1)]) := by
    intro t kk
    refine c0 t ?_
    show Steps p.tables e below (s₁.setTop (mkF m 0 #[.val (.ref a1), .val (.long q1), .second, .unset, .unset, .unset, .unset, .unset] [])) t
    refine XS.aloadN X0.here hx rfl (hb hby d7_0) rfl rfl ?_
    show Steps p.tables e below (s₁.setTop (mkF m 1 #[.val (.ref a1), .val (.long q1), .second, .unset, .unset, .unset, .unset, .unset] [(.ref a1)])) t
    refine XS.lloadN X0.here hx rfl (hb hby d7_1) rfl ?_
    exact kk
  obtain ⟨cq92, qp92, qv92⟩ := Exa.cell E1
  obtain ⟨_, _, ⟨T92, L92, k92, n92⟩, -, X92, ⟨Lc92, hQ92, l92, y92, z92⟩, st92⟩ := X0.privateBack hx (y := (⟨"com/example/ventil/ventil/RollingCount", "bucketOf", "(J)J"⟩ : MethodName)) hown (mvT hZ (hw _ (List.mem_of_getElem? (i := 42) rfl))) (mvT hZ (hw _ (List.mem_of_getElem? (i := 43) rfl))) (own_priv (⟨"com/example/ventil/ventil/RollingCount", "sum", "(J)J"⟩ : MethodName) rfl (mvT hZ (hw _ (List.mem_of_getElem? (i := 40) rfl))) (Cond.privateMethod_at (mvP hZ (hw _ (List.mem_of_getElem? (i := 44) rfl)) (args := #[]))) (mvT hZ (hw _ (List.mem_of_getElem? (i := 43) rfl))) (by decide)) (Cond.privateMethod_at (mvP hZ (hw _ (List.mem_of_getElem? (i := 44) rfl)) (args := #[]))) (mvT hZ (hw _ (List.mem_of_getElem? (i := 45) rfl))) (by decide) (backOf (W := 0) (rm_bo l Z a0 hw [] a1 q1 b h0 n0 Z0 Fb hB) hZ (hw _ (List.mem_of_getElem? (i := 45) rfl)) (hw _ (List.mem_of_getElem? (i := 18) rfl)) (by decide) (by decide)) (g := (mkF m 2 #[.val (.ref a1), .val (.long q1), .second, .unset, .unset, .unset, .unset, .unset] [(.long q1), (.ref a1)])) rfl (by rw [hml]; rfl) (Steps.refl _) (a := a1) (by rw [e0]; exact qp92) qv92 (argsL := [(.long q1)]) (rest := []) (lenOf pd__J_J rfl) rfl (by show 2 * 0 + _ ≤ _; exact Nat.le_of_eq rfl) (hb hby d7_2) (fun _ _ => ⟨rfl, e0, (by decide : 0 + 0 ≤ _), (by decide : 0 + 0 ≤ _)⟩)
  dsimp only [Pt.U, Pt.locs, Pt.cells, Pt.slots] at X92 l92 y92 z92 st92 hQ92
  subst l92 y92 z92
  obtain ⟨rfl, Nq92, eq92⟩ := hQ92
  have N92 := Fr.app N0 Nq92
  have c93 : Goes p e below s₁ (entryFrame m #[(.ref a1), (.long q1)] 8) T92 (mkF m 5 #[.val (.ref a1), .val (.long q1), .second, .unset, .unset, .unset, .unset, .unset] [(.long (own_fd q1 b))]) := fun t kk => c91 t (st92.trans kk)
  have c94 : Goes p e below s₁ (entryFrame m #[(.ref a1), (.long q1)] 8) T92 (mkF m 6 #[.val (.ref a1), .val (.long q1), .second, .unset, .unset, .unset, .unset, .unset] [(.ref a1), (.long (own_fd q1 b))]) := by
    intro t kk
    refine c93 t ?_
    show Steps p.tables e below (T92.setTop (mkF m 5 #[.val (.ref a1), .val (.long q1), .second, .unset, .unset, .unset, .unset, .unset] [(.long (own_fd q1 b))])) t
    refine XS.aloadN X92.here hx rfl (hb hby d7_5) rfl rfl ?_
    exact kk
  obtain ⟨T95, X95, e95, st95⟩ := getF X92 hx hZ hown (host := "") (Or.inl (hw _ (List.mem_of_getElem? (i := 28) rfl))) Via.refl eq92 Fc (g := (mkF m 6 #[.val (.ref a1), .val (.long q1), .second, .unset, .unset, .unset, .unset, .unset] [(.ref a1), (.long (own_fd q1 b))])) rfl rfl (hb hby d7_6)
  have c96 : Goes p e below s₁ (entryFrame m #[(.ref a1), (.long q1)] 8) T95 (mkF m 9 #[.val (.ref a1), .val (.long q1), .second, .unset, .unset, .unset, .unset, .unset] [(.ref ca), (.long (own_fd q1 b))]) := fun t kk => c94 t (st95 t kk)
  obtain ⟨cl97, Ar97, q97, Sz97, Nn97, Hh97, Gg97⟩ := id Vc
  have c98 : Goes p e below s₁ (entryFrame m #[(.ref a1), (.long q1)] 8) T95 (mkF m 15 #[.val (.ref a1), .val (.long q1), .second, .val (.long (((own_fd q1 b) - ((Int32.ofNat kn).toInt64)) + (1 : Int64))), .second, .unset, .unset, .unset] []) := by
    intro t kk
    refine c96 t ?_
    show Steps p.tables e below (T95.setTop (mkF m 9 #[.val (.ref a1), .val (.long q1), .second, .unset, .unset, .unset, .unset, .unset] [(.ref ca), (.long (own_fd q1 b))])) t
    refine X95.arraylength hx (by rw [e95]; exact Ar97.1) (State.isArrayOf_alike hZ.alike Ar97.2.1) (g := (mkF m 9 #[.val (.ref a1), .val (.long q1), .second, .unset, .unset, .unset, .unset, .unset] [(.ref ca), (.long (own_fd q1 b))])) rfl rfl (hb hby d7_9) _ ?_
    rw [len_of Sz97 Nn97]
    show Steps p.tables e below (T95.setTop (mkF m 10 #[.val (.ref a1), .val (.long q1), .second, .unset, .unset, .unset, .unset, .unset] [(.int (Int32.ofNat kn)), (.long (own_fd q1 b))])) t
    refine XS.i2l X95.here hx rfl (hb hby d7_10) rfl ?_
    show Steps p.tables e below (T95.setTop (mkF m 11 #[.val (.ref a1), .val (.long q1), .second, .unset, .unset, .unset, .unset, .unset] [(.long ((Int32.ofNat kn).toInt64)), (.long (own_fd q1 b))])) t
    refine XS.lsub X95.here hx rfl (hb hby d7_11) rfl ?_
    show Steps p.tables e below (T95.setTop (mkF m 12 #[.val (.ref a1), .val (.long q1), .second, .unset, .unset, .unset, .unset, .unset] [(.long ((own_fd q1 b) - ((Int32.ofNat kn).toInt64)))])) t
    refine XS.lconst X95.here hx rfl (hb hby d7_12) ?_
    show Steps p.tables e below (T95.setTop (mkF m 13 #[.val (.ref a1), .val (.long q1), .second, .unset, .unset, .unset, .unset, .unset] [(.long (1 : Int64)), (.long ((own_fd q1 b) - ((Int32.ofNat kn).toInt64)))])) t
    refine XS.ladd X95.here hx rfl (hb hby d7_13) rfl ?_
    show Steps p.tables e below (T95.setTop (mkF m 14 #[.val (.ref a1), .val (.long q1), .second, .unset, .unset, .unset, .unset, .unset] [(.long (((own_fd q1 b) - ((Int32.ofNat kn).toInt64)) + (1 : Int64)))])) t
    refine XS.lstoreN X95.here hx rfl (hb hby d7_14) rfl (l' := #[.val (.ref a1), .val (.long q1), .second, .val (.long (((own_fd q1 b) - ((Int32.ofNat kn).toInt64)) + (1 : Int64))), .second, .unset, .unset, .unset]) rfl ?_
    exact kk
  obtain ⟨Ox, h_Ox⟩ : ∃ z : Int64, z = (((own_fd q1 b) - ((Int32.ofNat kn).toInt64)) + (1 : Int64)) := ⟨_, rfl⟩
  have c99 : Goes p e below s₁ (entryFrame m #[(.ref a1), (.long q1)] 8) T95 (mkF m 15 #[.val (.ref a1), .val (.long q1), .second, .val (.long Ox), .second, .unset, .unset, .unset] []) := by rw [h_Ox]; exact c98
  have c100 : Goes p e below s₁ (entryFrame m #[(.ref a1), (.long q1)] 8) T95 (mkF m 21 #[.val (.ref a1), .val (.long q1), .second, .val (.long Ox), .second, .val (.long (0 : Int64)), .second, .val (.int (0 : Int32))] []) := by
    intro t kk
    refine c99 t ?_
    show Steps p.tables e below (T95.setTop (mkF m 15 #[.val (.ref a1), .val (.long q1), .second, .val (.long Ox), .second, .unset, .unset, .unset] [])) t
    refine XS.lconst X95.here hx rfl (hb hby d7_15) ?_
    show Steps p.tables e below (T95.setTop (mkF m 16 #[.val (.ref a1), .val (.long q1), .second, .val (.long Ox), .second, .unset, .unset, .unset] [(.long (0 : Int64))])) t
    refine XS.lstore X95.here hx rfl (hb hby d7_16) rfl (l' := #[.val (.ref a1), .val (.long q1), .second, .val (.long Ox), .second, .val (.long (0 : Int64)), .second, .unset]) rfl ?_
    show Steps p.tables e below (T95.setTop (mkF m 18 #[.val (.ref a1), .val (.long q1), .second, .val (.long Ox), .second, .val (.long (0 : Int64)), .second, .unset] [])) t
    refine XS.iconst X95.here hx rfl (hb hby d7_18) ?_
    show Steps p.tables e below (T95.setTop (mkF m 19 #[.val (.ref a1), .val (.long q1), .second, .val (.long Ox), .second, .val (.long (0 : Int64)), .second, .unset] [(.int (0 : Int32))])) t
    refine XS.istore X95.here hx rfl (hb hby d7_19) rfl (l' := #[.val (.ref a1), .val (.long q1), .second, .val (.long Ox), .second, .val (.long (0 : Int64)), .second, .val (.int (0 : Int32))]) rfl ?_
    exact kk
  refine own_down (α := State) (fun (k101 : Nat) (T101 : State) => ∃ (i101 : Nat) (Lx101 : List Loc) (acx : Int64), i101 + k101 = kn ∧ Fr n0 Lx101 ∧ Stand p l e ({ frames := 2, cells := 0, slots := 0, locals := 31 } : Room) s m #[(.ref a1), (.long q1)] below meth c T101 Lx101 0 0 ∧ T101.heap = h0 ∧ (own_phi Ox (bs.drop i101) (cs.drop i101) acx = own_phi Ox bs cs 0) ∧ Goes p e below s₁ (entryFrame m #[(.ref a1), (.long q1)] 8) T101 (mkF m 21 #[.val (.ref a1), .val (.long q1), .second, .val (.long Ox), .second, .val (.long acx), .second, .val (.int (Int32.ofNat i101))] [])) ?_ ?_ kn T95 ⟨0, _, (0 : Int64), Nat.zero_add _, N92, X95, e95, rfl, c100⟩
  · intro T101 ⟨i101, Lx101, acx, hi101, N101, X101, e101, hpx, c101⟩
    have c102 : Goes p e below s₁ (entryFrame m #[(.ref a1), (.long q1)] 8) T101 (mkF m 24 #[.val (.ref a1), .val (.long q1), .second, .val (.long Ox), .second, .val (.long acx), .second, .val (.int (Int32.ofNat i101))] [(.ref a1), (.int (Int32.ofNat i101))]) := by
      intro t kk
      refine c101 t ?_
      show Steps p.tables e below (T101.setTop (mkF m 21 #[.val (.ref a1), .val (.long q1), .second, .val (.long Ox), .second, .val (.long acx), .second, .val (.int (Int32.ofNat i101))] [])) t
      refine XS.iload X101.here hx rfl (hb hby d7_21) rfl ?_
      show Steps p.tables e below (T101.setTop (mkF m 23 #[.val (.ref a1), .val (.long q1), .second, .val (.long Ox), .second, .val (.long acx), .second, .val (.int (Int32.ofNat i101))] [(.int (Int32.ofNat i101))])) t
      refine XS.aloadN X101.here hx rfl (hb hby d7_23) rfl rfl ?_
      exact kk
    obtain ⟨T103, X103, e103, st103⟩ := getF X101 hx hZ hown (host := "") (Or.inl (hw _ (List.mem_of_getElem? (i := 28) rfl))) Via.refl e101 Fc (g := (mkF m 24 #[.val (.ref a1), .val (.long q1), .second, .val (.long Ox), .second, .val (.long acx), .second, .val (.int (Int32.ofNat i101))] [(.ref a1), (.int (Int32.ofNat i101))])) rfl rfl (hb hby d7_24)
    have c104 : Goes p e below s₁ (entryFrame m #[(.ref a1), (.long q1)] 8) T103 (mkF m 27 #[.val (.ref a1), .val (.long q1), .second, .val (.long Ox), .second, .val (.long acx), .second, .val (.int (Int32.ofNat i101))] [(.ref ca), (.int (Int32.ofNat i101))]) := fun t kk => c102 t (st103 t kk)
    obtain ⟨cl105, Ar105, q105, Sz105, Nn105, Hh105, Gg105⟩ := id Vc
    have hfin : acx = own_phi Ox bs cs 0 := by rw [← hpx, List.drop_eq_nil_of_le (by omega), List.drop_eq_nil_of_le (by omega)]; rfl
    have c106 : Goes p e below s₁ (entryFrame m #[(.ref a1), (.long q1)] 8) T103 (mkF m 63 #[.val (.ref a1), .val (.long q1), .second, .val (.long Ox), .second, .val (.long acx), .second, .val (.int (Int32.ofNat i101))] [(.long acx)]) := by
      intro t kk
      refine c104 t ?_
      show Steps p.tables e below (T103.setTop (mkF m 27 #[.val (.ref a1), .val (.long q1), .second, .val (.long Ox), .second, .val (.long acx), .second, .val (.int (Int32.ofNat i101))] [(.ref ca), (.int (Int32.ofNat i101))])) t
      refine X103.arraylength hx (by rw [e103]; exact Ar105.1) (State.isArrayOf_alike hZ.alike Ar105.2.1) (g := (mkF m 27 #[.val (.ref a1), .val (.long q1), .second, .val (.long Ox), .second, .val (.long acx), .second, .val (.int (Int32.ofNat i101))] [(.ref ca), (.int (Int32.ofNat i101))])) rfl rfl (hb hby d7_27) _ ?_
      rw [len_of Sz105 Nn105]
      show Steps p.tables e below (T103.setTop (mkF m 28 #[.val (.ref a1), .val (.long q1), .second, .val (.long Ox), .second, .val (.long acx), .second, .val (.int (Int32.ofNat i101))] [(.int (Int32.ofNat kn)), (.int (Int32.ofNat i101))])) t
      refine XS.icmpYes X103.here hx rfl (pc0 := 28) (pc' := 61) rfl (hb hby d7_28) rfl (flt (own_ge hi101)).2.1 (by decide) (by decide) ?_
      show Steps p.tables e below (T103.setTop (mkF m 61 #[.val (.ref a1), .val (.long q1), .second, .val (.long Ox), .second, .val (.long acx), .second, .val (.int (Int32.ofNat i101))] [])) t
      refine XS.lload X103.here hx rfl (hb hby d7_61) rfl ?_
      exact kk
    obtain ⟨fs, hr, hrun, hended, hW, hsame⟩ := X103.leave (v := some (.long acx)) (fun h => by rw [Bd.returns] at h; cases h)
    refine ⟨_, _, c106 _ ?_, hrun, hended, _, _, rfl, ?_, ⟨_, rfl⟩, hW, hsame.mono (by decide) (by decide)⟩
    · exact retOut X103 hx Bd.returns rfl (Or.inr (Or.inl ⟨rfl, rfl, _, rfl⟩)) (hb hby d7_63) hr
    · show Q_sum Z a1 q1 b kn bs cs h0 n0 _ T103.heap _
      rw [e103]
      exact ⟨by rw [hfin, h_Ox], N101, rfl⟩
  · intro k101 T101 ⟨i101, Lx101, acx, hi101, N101, X101, e101, hpx, c101⟩ ih101
    have c107 : Goes p e below s₁ (entryFrame m #[(.ref a1), (.long q1)] 8) T101 (mkF m 24 #[.val (.ref a1), .val (.long q1), .second, .val (.long Ox), .second, .val (.long acx), .second, .val (.int (Int32.ofNat i101))] [(.ref a1), (.int (Int32.ofNat i101))]) := by
      intro t kk
      refine c101 t ?_
      show Steps p.tables e below (T101.setTop (mkF m 21 #[.val (.ref a1), .val (.long q1), .second, .val (.long Ox), .second, .val (.long acx), .second, .val (.int (Int32.ofNat i101))] [])) t
      refine XS.iload X101.here hx rfl (hb hby d7_21) rfl ?_
      show Steps p.tables e below (T101.setTop (mkF m 23 #[.val (.ref a1), .val (.long q1), .second, .val (.long Ox), .second, .val (.long acx), .second, .val (.int (Int32.ofNat i101))] [(.int (Int32.ofNat i101))])) t
      refine XS.aloadN X101.here hx rfl (hb hby d7_23) rfl rfl ?_
      exact kk
    obtain ⟨T108, X108, e108, st108⟩ := getF X101 hx hZ hown (host := "") (Or.inl (hw _ (List.mem_of_getElem? (i := 28) rfl))) Via.refl e101 Fc (g := (mkF m 24 #[.val (.ref a1), .val (.long q1), .second, .val (.long Ox), .second, .val (.long acx), .second, .val (.int (Int32.ofNat i101))] [(.ref a1), (.int (Int32.ofNat i101))])) rfl rfl (hb hby d7_24)
    have c109 : Goes p e below s₁ (entryFrame m #[(.ref a1), (.long q1)] 8) T108 (mkF m 27 #[.val (.ref a1), .val (.long q1), .second, .val (.long Ox), .second, .val (.long acx), .second, .val (.int (Int32.ofNat i101))] [(.ref ca), (.int (Int32.ofNat i101))]) := fun t kk => c107 t (st108 t kk)
    obtain ⟨cl110, Ar110, q110, Sz110, Nn110, Hh110, Gg110⟩ := id Vc
    have hix : i101 < kn := by omega
    have c111 : Goes p e below s₁ (entryFrame m #[(.ref a1), (.long q1)] 8) T108 (mkF m 32 #[.val (.ref a1), .val (.long q1), .second, .val (.long Ox), .second, .val (.long acx), .second, .val (.int (Int32.ofNat i101))] [(.ref a1)]) := by
      intro t kk
      refine c109 t ?_
      show Steps p.tables e below (T108.setTop (mkF m 27 #[.val (.ref a1), .val (.long q1), .second, .val (.long Ox), .second, .val (.long acx), .second, .val (.int (Int32.ofNat i101))] [(.ref ca), (.int (Int32.ofNat i101))])) t
      refine X108.arraylength hx (by rw [e108]; exact Ar110.1) (State.isArrayOf_alike hZ.alike Ar110.2.1) (g := (mkF m 27 #[.val (.ref a1), .val (.long q1), .second, .val (.long Ox), .second, .val (.long acx), .second, .val (.int (Int32.ofNat i101))] [(.ref ca), (.int (Int32.ofNat i101))])) rfl rfl (hb hby d7_27) _ ?_
      rw [len_of Sz110 Nn110]
      show Steps p.tables e below (T108.setTop (mkF m 28 #[.val (.ref a1), .val (.long q1), .second, .val (.long Ox), .second, .val (.long acx), .second, .val (.int (Int32.ofNat i101))] [(.int (Int32.ofNat kn)), (.int (Int32.ofNat i101))])) t
      refine XS.icmpNo X108.here hx rfl (hb hby d7_28) rfl (tlt (own_lt hi101 hn)).2.1 ?_
      show Steps p.tables e below (T108.setTop (mkF m 31 #[.val (.ref a1), .val (.long q1), .second, .val (.long Ox), .second, .val (.long acx), .second, .val (.int (Int32.ofNat i101))] [])) t
      refine XS.aloadN X108.here hx rfl (hb hby d7_31) rfl rfl ?_
      exact kk
    obtain ⟨T112, X112, e112, st112⟩ := getF X108 hx hZ hown (host := "") (Or.inl (hw _ (List.mem_of_getElem? (i := 30) rfl))) Via.refl e108 Fd (g := (mkF m 32 #[.val (.ref a1), .val (.long q1), .second, .val (.long Ox), .second, .val (.long acx), .second, .val (.int (Int32.ofNat i101))] [(.ref a1)])) rfl rfl (hb hby d7_32)
    have c113 : Goes p e below s₁ (entryFrame m #[(.ref a1), (.long q1)] 8) T112 (mkF m 35 #[.val (.ref a1), .val (.long q1), .second, .val (.long Ox), .second, .val (.long acx), .second, .val (.int (Int32.ofNat i101))] [(.ref da)]) := fun t kk => c111 t (st112 t kk)
    obtain ⟨cl114, Ar114, q114, Sz114, Nn114, Hh114, Gg114⟩ := id Vd
    have hin114 : ¬ ((Int32.ofNat i101) < 0 ∨ cl114.slots.size ≤ ((Int32.ofNat i101)).toNatClampNeg) := inb_of Sz114 ⟨own_nn (by omega), own_ltn hix hn⟩
    rw [own_phid Ox acx (i := i101) (by omega) (by omega)] at hpx
    have c115 : Goes p e below s₁ (entryFrame m #[(.ref a1), (.long q1)] 8) T112 (mkF m 40 #[.val (.ref a1), .val (.long q1), .second, .val (.long Ox), .second, .val (.long acx), .second, .val (.int (Int32.ofNat i101))] [(.int (lcmpW ((bs).getD i101 0) Ox))]) := by
      intro t kk
      refine c113 t ?_
      show Steps p.tables e below (T112.setTop (mkF m 35 #[.val (.ref a1), .val (.long q1), .second, .val (.long Ox), .second, .val (.long acx), .second, .val (.int (Int32.ofNat i101))] [(.ref da)])) t
      refine XS.iload X112.here hx rfl (hb hby d7_35) rfl ?_
      show Steps p.tables e below (T112.setTop (mkF m 37 #[.val (.ref a1), .val (.long q1), .second, .val (.long Ox), .second, .val (.long acx), .second, .val (.int (Int32.ofNat i101))] [(.int (Int32.ofNat i101)), (.ref da)])) t
      refine X112.laload hx (j := (Int32.ofNat i101)) (v := (.long ((bs).getD i101 0))) (by rw [e112]; exact Ar114.1) (State.isArrayOf_alike hZ.alike Ar114.2.1) Ar114.2.2 hin114 (Hh114.at hin114 (own_vget (by omega))) (g := (mkF m 37 #[.val (.ref a1), .val (.long q1), .second, .val (.long Ox), .second, .val (.long acx), .second, .val (.int (Int32.ofNat i101))] [(.int (Int32.ofNat i101)), (.ref da)])) rfl rfl (hb hby d7_37) _ ?_
      show Steps p.tables e below (T112.setTop (mkF m 38 #[.val (.ref a1), .val (.long q1), .second, .val (.long Ox), .second, .val (.long acx), .second, .val (.int (Int32.ofNat i101))] [(.long ((bs).getD i101 0))])) t
      refine XS.lloadN X112.here hx rfl (hb hby d7_38) rfl ?_
      show Steps p.tables e below (T112.setTop (mkF m 39 #[.val (.ref a1), .val (.long q1), .second, .val (.long Ox), .second, .val (.long acx), .second, .val (.int (Int32.ofNat i101))] [(.long Ox), (.long ((bs).getD i101 0))])) t
      refine XS.lcmp X112.here hx rfl (hb hby d7_39) rfl ?_
      exact kk
    by_cases h40 : (lcmpW ((bs).getD i101 0) Ox) < (0 : Int32)
    · rw [if_pos h40] at hpx
      have c116 : Goes p e below s₁ (entryFrame m #[(.ref a1), (.long q1)] 8) T112 (mkF m 21 #[.val (.ref a1), .val (.long q1), .second, .val (.long Ox), .second, .val (.long acx), .second, .val (.int ((Int32.ofNat i101) + (1 : Int32)))] []) := by
        intro t kk
        refine c115 t ?_
        show Steps p.tables e below (T112.setTop (mkF m 40 #[.val (.ref a1), .val (.long q1), .second, .val (.long Ox), .second, .val (.long acx), .second, .val (.int (Int32.ofNat i101))] [(.int (lcmpW ((bs).getD i101 0) Ox))])) t
        refine XS.ifYes X112.here hx rfl (pc0 := 40) (pc' := 55) rfl (hb hby d7_40) rfl ((if0 _ _).trans (tlt h40).1) (by decide) (by decide) ?_
        show Steps p.tables e below (T112.setTop (mkF m 55 #[.val (.ref a1), .val (.long q1), .second, .val (.long Ox), .second, .val (.long acx), .second, .val (.int (Int32.ofNat i101))] [])) t
        refine XS.iinc X112.here hx rfl (hb hby d7_55) rfl (l' := #[.val (.ref a1), .val (.long q1), .second, .val (.long Ox), .second, .val (.long acx), .second, .val (.int ((Int32.ofNat i101) + (1 : Int32)))]) rfl ?_
        show Steps p.tables e below (T112.setTop (mkF m 58 #[.val (.ref a1), .val (.long q1), .second, .val (.long Ox), .second, .val (.long acx), .second, .val (.int ((Int32.ofNat i101) + (1 : Int32)))] [])) t
        refine XS.goto X112.here hx rfl (pc0 := 58) (pc' := 21) rfl (hb hby d7_58) (by decide) (by decide) ?_
        exact kk
      exact ih101 _ ⟨i101 + 1, _, _, by omega, N101, X112, e112, hpx, (by rw [inc_ofNat]; exact c116)⟩
    · rw [if_neg h40] at hpx
      have c117 : Goes p e below s₁ (entryFrame m #[(.ref a1), (.long q1)] 8) T112 (mkF m 46 #[.val (.ref a1), .val (.long q1), .second, .val (.long Ox), .second, .val (.long acx), .second, .val (.int (Int32.ofNat i101))] [(.ref a1), (.long acx)]) := by
        intro t kk
        refine c115 t ?_
        show Steps p.tables e below (T112.setTop (mkF m 40 #[.val (.ref a1), .val (.long q1), .second, .val (.long Ox), .second, .val (.long acx), .second, .val (.int (Int32.ofNat i101))] [(.int (lcmpW ((bs).getD i101 0) Ox))])) t
        refine XS.ifNo X112.here hx rfl (hb hby d7_40) rfl ((if0 _ _).trans (flt h40).1) ?_
        show Steps p.tables e below (T112.setTop (mkF m 43 #[.val (.ref a1), .val (.long q1), .second, .val (.long Ox), .second, .val (.long acx), .second, .val (.int (Int32.ofNat i101))] [])) t
        refine XS.lload X112.here hx rfl (hb hby d7_43) rfl ?_
        show Steps p.tables e below (T112.setTop (mkF m 45 #[.val (.ref a1), .val (.long q1), .second, .val (.long Ox), .second, .val (.long acx), .second, .val (.int (Int32.ofNat i101))] [(.long acx)])) t
        refine XS.aloadN X112.here hx rfl (hb hby d7_45) rfl rfl ?_
        exact kk
      obtain ⟨T118, X118, e118, st118⟩ := getF X112 hx hZ hown (host := "") (Or.inl (hw _ (List.mem_of_getElem? (i := 28) rfl))) Via.refl e112 Fc (g := (mkF m 46 #[.val (.ref a1), .val (.long q1), .second, .val (.long Ox), .second, .val (.long acx), .second, .val (.int (Int32.ofNat i101))] [(.ref a1), (.long acx)])) rfl rfl (hb hby d7_46)
      have c119 : Goes p e below s₁ (entryFrame m #[(.ref a1), (.long q1)] 8) T118 (mkF m 49 #[.val (.ref a1), .val (.long q1), .second, .val (.long Ox), .second, .val (.long acx), .second, .val (.int (Int32.ofNat i101))] [(.ref ca), (.long acx)]) := fun t kk => c117 t (st118 t kk)
      obtain ⟨cl120, Ar120, q120, Sz120, Nn120, Hh120, Gg120⟩ := id Vc
      have hin120 : ¬ ((Int32.ofNat i101) < 0 ∨ cl120.slots.size ≤ ((Int32.ofNat i101)).toNatClampNeg) := inb_of Sz120 ⟨own_nn (by omega), own_ltn hix hn⟩
      have c121 : Goes p e below s₁ (entryFrame m #[(.ref a1), (.long q1)] 8) T118 (mkF m 21 #[.val (.ref a1), .val (.long q1), .second, .val (.long Ox), .second, .val (.long (acx + ((cs).getD i101 0))), .second, .val (.int ((Int32.ofNat i101) + (1 : Int32)))] []) := by
        intro t kk
        refine c119 t ?_
        show Steps p.tables e below (T118.setTop (mkF m 49 #[.val (.ref a1), .val (.long q1), .second, .val (.long Ox), .second, .val (.long acx), .second, .val (.int (Int32.ofNat i101))] [(.ref ca), (.long acx)])) t
        refine XS.iload X118.here hx rfl (hb hby d7_49) rfl ?_
        show Steps p.tables e below (T118.setTop (mkF m 51 #[.val (.ref a1), .val (.long q1), .second, .val (.long Ox), .second, .val (.long acx), .second, .val (.int (Int32.ofNat i101))] [(.int (Int32.ofNat i101)), (.ref ca), (.long acx)])) t
        refine X118.laload hx (j := (Int32.ofNat i101)) (v := (.long ((cs).getD i101 0))) (by rw [e118]; exact Ar120.1) (State.isArrayOf_alike hZ.alike Ar120.2.1) Ar120.2.2 hin120 (Hh120.at hin120 (own_vget (by omega))) (g := (mkF m 51 #[.val (.ref a1), .val (.long q1), .second, .val (.long Ox), .second, .val (.long acx), .second, .val (.int (Int32.ofNat i101))] [(.int (Int32.ofNat i101)), (.ref ca), (.long acx)])) rfl rfl (hb hby d7_51) _ ?_
        show Steps p.tables e below (T118.setTop (mkF m 52 #[.val (.ref a1), .val (.long q1), .second, .val (.long Ox), .second, .val (.long acx), .second, .val (.int (Int32.ofNat i101))] [(.long ((cs).getD i101 0)), (.long acx)])) t
        refine XS.ladd X118.here hx rfl (hb hby d7_52) rfl ?_
        show Steps p.tables e below (T118.setTop (mkF m 53 #[.val (.ref a1), .val (.long q1), .second, .val (.long Ox), .second, .val (.long acx), .second, .val (.int (Int32.ofNat i101))] [(.long (acx + ((cs).getD i101 0)))])) t
        refine XS.lstore X118.here hx rfl (hb hby d7_53) rfl (l' := #[.val (.ref a1), .val (.long q1), .second, .val (.long Ox), .second, .val (.long (acx + ((cs).getD i101 0))), .second, .val (.int (Int32.ofNat i101))]) rfl ?_
        show Steps p.tables e below (T118.setTop (mkF m 55 #[.val (.ref a1), .val (.long q1), .second, .val (.long Ox), .second, .val (.long (acx + ((cs).getD i101 0))), .second, .val (.int (Int32.ofNat i101))] [])) t
        refine XS.iinc X118.here hx rfl (hb hby d7_55) rfl (l' := #[.val (.ref a1), .val (.long q1), .second, .val (.long Ox), .second, .val (.long (acx + ((cs).getD i101 0))), .second, .val (.int ((Int32.ofNat i101) + (1 : Int32)))]) rfl ?_
        show Steps p.tables e below (T118.setTop (mkF m 58 #[.val (.ref a1), .val (.long q1), .second, .val (.long Ox), .second, .val (.long (acx + ((cs).getD i101 0))), .second, .val (.int ((Int32.ofNat i101) + (1 : Int32)))] [])) t
        refine XS.goto X118.here hx rfl (pc0 := 58) (pc' := 21) rfl (hb hby d7_58) (by decide) (by decide) ?_
        exact kk
      exact ih101 _ ⟨i101 + 1, _, _, by omega, N101, X118, e118, hpx, (by rw [inc_ofNat]; exact c121)⟩
theorem d10_0 : decode prog_30_method_2_code 0 = .ok (.aload_n 0, 1) := by decide +kernel
theorem d10_1 : decode prog_30_method_2_code 1 = .ok (.lload_n 1, 1) := by decide +kernel
theorem d10_2 : decode prog_30_method_2_code 2 = .ok (.invokevirtual 39, 3) := by decide +kernel
theorem d10_5 : decode prog_30_method_2_code 5 = .ok (.lstore_n 3, 1) := by decide +kernel
theorem d10_6 : decode prog_30_method_2_code 6 = .ok (.aload_n 0, 1) := by decide +kernel
theorem d10_7 : decode prog_30_method_2_code 7 = .ok (.lload_n 3, 1) := by decide +kernel
theorem d10_8 : decode prog_30_method_2_code 8 = .ok (.invokevirtual 43, 3) := by decide +kernel
theorem d10_11 : decode prog_30_method_2_code 11 = .ok (.istore 5, 2) := by decide +kernel
theorem d10_13 : decode prog_30_method_2_code 13 = .ok (.aload_n 0, 1) := by decide +kernel
theorem d10_14 : decode prog_30_method_2_code 14 = .ok (.getfield 28, 3) := by decide +kernel
theorem d10_17 : decode prog_30_method_2_code 17 = .ok (.iload 5, 2) := by decide +kernel
theorem d10_19 : decode prog_30_method_2_code 19 = .ok (.laload, 1) := by decide +kernel
theorem d10_20 : decode prog_30_method_2_code 20 = .ok (.lload_n 3, 1) := by decide +kernel
theorem d10_21 : decode prog_30_method_2_code 21 = .ok (.lcmp, 1) := by decide +kernel
theorem d10_22 : decode prog_30_method_2_code 22 = .ok (.ifCond .eq 19, 3) := by decide +kernel
theorem d10_25 : decode prog_30_method_2_code 25 = .ok (.aload_n 0, 1) := by decide +kernel
theorem d10_26 : decode prog_30_method_2_code 26 = .ok (.getfield 28, 3) := by decide +kernel
theorem d10_29 : decode prog_30_method_2_code 29 = .ok (.iload 5, 2) := by decide +kernel
theorem d10_31 : decode prog_30_method_2_code 31 = .ok (.lload_n 3, 1) := by decide +kernel
theorem d10_32 : decode prog_30_method_2_code 32 = .ok (.lastore, 1) := by decide +kernel
theorem d10_33 : decode prog_30_method_2_code 33 = .ok (.aload_n 0, 1) := by decide +kernel
theorem d10_34 : decode prog_30_method_2_code 34 = .ok (.getfield 24, 3) := by decide +kernel
theorem d10_37 : decode prog_30_method_2_code 37 = .ok (.iload 5, 2) := by decide +kernel
theorem d10_39 : decode prog_30_method_2_code 39 = .ok (.lconst 0, 1) := by decide +kernel
theorem d10_40 : decode prog_30_method_2_code 40 = .ok (.lastore, 1) := by decide +kernel
theorem d10_41 : decode prog_30_method_2_code 41 = .ok (.aload_n 0, 1) := by decide +kernel
theorem d10_42 : decode prog_30_method_2_code 42 = .ok (.getfield 24, 3) := by decide +kernel
theorem d10_45 : decode prog_30_method_2_code 45 = .ok (.iload 5, 2) := by decide +kernel
theorem d10_47 : decode prog_30_method_2_code 47 = .ok (.dup2, 1) := by decide +kernel
theorem d10_48 : decode prog_30_method_2_code 48 = .ok (.laload, 1) := by decide +kernel
theorem d10_49 : decode prog_30_method_2_code 49 = .ok (.lconst 1, 1) := by decide +kernel
theorem d10_50 : decode prog_30_method_2_code 50 = .ok (.ladd, 1) := by decide +kernel
theorem d10_51 : decode prog_30_method_2_code 51 = .ok (.lastore, 1) := by decide +kernel
theorem d10_52 : decode prog_30_method_2_code 52 = .ok (.return_, 1) := by decide +kernel
theorem pd__J_I : parseMethodDescriptor "(J)I" = some ⟨[.long], some .int⟩ := by decide +kernel
theorem ef_add (m : MethodId) (x0 : Addr) (x1 : Int64) : entryFrame m #[(.ref x0), (.long x1)] 6 = mkF m 0 #[.val (.ref x0), .val (.long x1), .second, .unset, .unset, .unset] [] := by (first | (simp [entryFrame, mkF, argsToLocals, Value.category]; done) | rfl)
def Q_add (Z : State) (a1 : Addr) (q1 : Int64) (b : Int64) (kn : Nat) (bs : List Int64) (cs : List Int64) (u : Int64) (h0 : Heap) (n0 : Nat) (v : Option Value) (h : Heap) (L : List Loc) : Prop := v = none ∧ Fr n0 L ∧ n0 ≤ h.size ∧ own_rc Z n0 h a1 b kn (own_b1 bs (own_slot u kn) u) (own_c2 bs cs (own_slot u kn) u)
set_option maxRecDepth 65536 in
set_option maxHeartbeats 40000000 in
theorem rm_add (l : Launch) (Z : State) (a0 : Array Value) (hw : ∀ d ∈ tables_1, d.before a0 Z = true) (ws : List Jvm.Cond) (a1 : Addr) (q1 : Int64) (b : Int64) (kn : Nat) (bs : List Int64) (cs : List Int64) (u : Int64) (h0 : Heap) (n0 : Nat) (Z0 : n0 ≤ h0.size) (hrc : own_rc Z n0 h0 a1 b kn bs cs) (hB : b ≠ 0) (hk : 0 < kn) (hn : kn ≤ 4) (hu : own_fd q1 b = u) :
    MetFree l (⟨"com/example/ventil/ventil/RollingCount", "add", "(J)V"⟩ : MethodName) (head1 (Jvm.Cond.code (⟨"com/example/ventil/ventil/RollingCount", "add", "(J)V"⟩ : MethodName) prog_30_method_2_code 6 none :: ws) ({ frames := 2, cells := 0, slots := 0, locals := 31 } : Room)) (fun a U => a = #[(.ref a1), (.long q1)] ∧ Z.Warmed39 U.vm ∧ U.heap = h0) (fun _ _ _ _ _ => True) (fun _ U o U' => ∃ v L, o = .returned v ∧ Q_add Z a1 q1 b kn bs cs u h0 n0 v U'.heap L ∧ FrameEnd U o U' L ({ frames := 2, cells := 0, slots := 0, locals := 31 } : Room).cells ({ frames := 2, cells := 0, slots := 0, locals := 31 } : Room).slots) := by
  refine MetFree.of_bodySF (plainFor_of_name pn_8) hisR ?_
  intro p e s m args below meth c s₁ Bd hml0 hP hK
  obtain ⟨rfl, hZ, hh⟩ := hP
  have hx := Bd.exec
  have hby := Bd.bytes
  have hml : c.maxLocals = 6 := hml0
  have hown : s.vm.findClass "com/example/ventil/ventil/RollingCount" = some m.cls := findClass_of_methodNamed Bd.named
  have hnm := (name_of_methodNamed Bd.named Bd.method).1
  have X0 : Stand p l e ({ frames := 2, cells := 0, slots := 0, locals := 31 } : Room) s m #[(.ref a1), (.long q1)] below meth c s₁ [] 0 0 := Stand.of_body Bd
  have e0 : s₁.heap = h0 := by rw [← hh, Bd.state]; rfl
  have N0 := Fr.nil n0
  have c0 : Goes p e below s₁ (entryFrame m #[(.ref a1), (.long q1)] 6) s₁ (mkF m 0 #[.val (.ref a1), .val (.long q1), .second, .unset, .unset, .unset] []) := fun t k => castTop (ef_add m a1 q1) k
  obtain ⟨E1, Fb, hlb, hlc, ca, da, kc, kd, gca, gda, hcd, Fc, Fd, Vc, Vd⟩ := hrc
  have n1c : a1 ≠ ca := own_ne E1 (hw _ (List.mem_of_getElem? (i := 17) rfl)) Vc
  have n1d : a1 ≠ da := own_ne E1 (hw _ (List.mem_of_getElem? (i := 17) rfl)) Vd
  have c122 : Goes p e below s₁ (entryFrame m #[(.ref a1), (.long q1)] 6) s₁ (mkF m 2 #[.val (.ref a1), .val (.long q1), .second, .unset, .unset, .unset] [(.long q1), (.ref a1)]) := by
    intro t kk
    refine c0 t ?_
    show Steps p.tables e below (s₁.setTop (mkF m 0 #[.val (.ref a1), .val (.long q1), .second, .unset, .unset, .unset] [])) t
    refine XS.aloadN X0.here hx rfl (hb hby d10_0) rfl rfl ?_
    show Steps p.tables e below (s₁.setTop (mkF m 1 #[.val (.ref a1), .val (.long q1), .second, .unset, .unset, .unset] [(.ref a1)])) t
    refine XS.lloadN X0.here hx rfl (hb hby d10_1) rfl ?_
    exact kk
  obtain ⟨cq123, qp123, qv123⟩ := Exa.cell E1
  obtain ⟨_, _, ⟨T123, L123, k123, n123⟩, -, X123, ⟨Lc123, hQ123, l123, y123, z123⟩, st123⟩ := X0.privateBack hx (y := (⟨"com/example/ventil/ventil/RollingCount", "bucketOf", "(J)J"⟩ : MethodName)) hown (mvT hZ (hw _ (List.mem_of_getElem? (i := 42) rfl))) (mvT hZ (hw _ (List.mem_of_getElem? (i := 43) rfl))) (own_priv (⟨"com/example/ventil/ventil/RollingCount", "sum", "(J)J"⟩ : MethodName) rfl (mvT hZ (hw _ (List.mem_of_getElem? (i := 40) rfl))) (Cond.privateMethod_at (mvP hZ (hw _ (List.mem_of_getElem? (i := 44) rfl)) (args := #[]))) (mvT hZ (hw _ (List.mem_of_getElem? (i := 43) rfl))) (by decide)) (Cond.privateMethod_at (mvP hZ (hw _ (List.mem_of_getElem? (i := 44) rfl)) (args := #[]))) (mvT hZ (hw _ (List.mem_of_getElem? (i := 45) rfl))) (by decide) (backOf (W := 0) (rm_bo l Z a0 hw [] a1 q1 b h0 n0 Z0 Fb hB) hZ (hw _ (List.mem_of_getElem? (i := 45) rfl)) (hw _ (List.mem_of_getElem? (i := 18) rfl)) (by decide) (by decide)) (g := (mkF m 2 #[.val (.ref a1), .val (.long q1), .second, .unset, .unset, .unset] [(.long q1), (.ref a1)])) rfl (by rw [hml]; rfl) (Steps.refl _) (a := a1) (by rw [e0]; exact qp123) qv123 (argsL := [(.long q1)]) (rest := []) (lenOf pd__J_J rfl) rfl (by show 2 * 0 + _ ≤ _; exact Nat.le_of_eq rfl) (hb hby d10_2) (fun _ _ => ⟨rfl, e0, (by decide : 0 + 0 ≤ _), (by decide : 0 + 0 ≤ _)⟩)
  dsimp only [Pt.U, Pt.locs, Pt.cells, Pt.slots] at X123 l123 y123 z123 st123 hQ123
  subst l123 y123 z123
  obtain ⟨rfl, Nq123, eq123⟩ := hQ123
  have N123 := Fr.app N0 Nq123
  have c124 : Goes p e below s₁ (entryFrame m #[(.ref a1), (.long q1)] 6) T123 (mkF m 5 #[.val (.ref a1), .val (.long q1), .second, .unset, .unset, .unset] [(.long (own_fd q1 b))]) := fun t kk => c122 t (st123.trans kk)
  rw [hu] at c124
  have c125 : Goes p e below s₁ (entryFrame m #[(.ref a1), (.long q1)] 6) T123 (mkF m 8 #[.val (.ref a1), .val (.long q1), .second, .val (.long u), .second, .unset] [(.long u), (.ref a1)]) := by
    intro t kk
    refine c124 t ?_
    show Steps p.tables e below (T123.setTop (mkF m 5 #[.val (.ref a1), .val (.long q1), .second, .unset, .unset, .unset] [(.long u)])) t
    refine XS.lstoreN X123.here hx rfl (hb hby d10_5) rfl (l' := #[.val (.ref a1), .val (.long q1), .second, .val (.long u), .second, .unset]) rfl ?_
    show Steps p.tables e below (T123.setTop (mkF m 6 #[.val (.ref a1), .val (.long q1), .second, .val (.long u), .second, .unset] [])) t
    refine XS.aloadN X123.here hx rfl (hb hby d10_6) rfl rfl ?_
    show Steps p.tables e below (T123.setTop (mkF m 7 #[.val (.ref a1), .val (.long q1), .second, .val (.long u), .second, .unset] [(.ref a1)])) t
    refine XS.lloadN X123.here hx rfl (hb hby d10_7) rfl ?_
    exact kk
  obtain ⟨cq126, qp126, qv126⟩ := Exa.cell E1
  obtain ⟨_, _, ⟨T126, L126, k126, n126⟩, -, X126, ⟨Lc126, hQ126, l126, y126, z126⟩, st126⟩ := X123.privateBack hx (y := (⟨"com/example/ventil/ventil/RollingCount", "slotOf", "(J)I"⟩ : MethodName)) hown (mvT hZ (hw _ (List.mem_of_getElem? (i := 54) rfl))) (mvT hZ (hw _ (List.mem_of_getElem? (i := 55) rfl))) (own_priv (⟨"com/example/ventil/ventil/RollingCount", "sum", "(J)J"⟩ : MethodName) rfl (mvT hZ (hw _ (List.mem_of_getElem? (i := 40) rfl))) (Cond.privateMethod_at (mvP hZ (hw _ (List.mem_of_getElem? (i := 56) rfl)) (args := #[]))) (mvT hZ (hw _ (List.mem_of_getElem? (i := 55) rfl))) (by decide)) (Cond.privateMethod_at (mvP hZ (hw _ (List.mem_of_getElem? (i := 56) rfl)) (args := #[]))) (mvT hZ (hw _ (List.mem_of_getElem? (i := 57) rfl))) (by decide) (backOf (W := 0) (rm_so l Z a0 hw [] a1 u ca kc kn cs h0 n0 Z0 Fc Vc hk hn) hZ (hw _ (List.mem_of_getElem? (i := 57) rfl)) (hw _ (List.mem_of_getElem? (i := 18) rfl)) (by decide) (by decide)) (g := (mkF m 8 #[.val (.ref a1), .val (.long q1), .second, .val (.long u), .second, .unset] [(.long u), (.ref a1)])) rfl (by rw [hml]; rfl) (Steps.refl _) (a := a1) (by rw [eq123]; exact qp126) qv126 (argsL := [(.long u)]) (rest := []) (lenOf pd__J_I rfl) rfl (by show 2 * 0 + _ ≤ _; exact Nat.le_of_eq rfl) (hb hby d10_8) (fun _ _ => ⟨rfl, eq123, (by decide : 0 + 0 ≤ _), (by decide : 0 + 0 ≤ _)⟩)
  dsimp only [Pt.U, Pt.locs, Pt.cells, Pt.slots] at X126 l126 y126 z126 st126 hQ126
  subst l126 y126 z126
  obtain ⟨rfl, Nq126, eq126⟩ := hQ126
  have N126 := Fr.app N123 Nq126
  have c127 : Goes p e below s₁ (entryFrame m #[(.ref a1), (.long q1)] 6) T126 (mkF m 11 #[.val (.ref a1), .val (.long q1), .second, .val (.long u), .second, .unset] [(.int (Int32.ofNat (own_slot u kn)))]) := fun t kk => c125 t (st126.trans kk)
  have hsl := own_slotlt u hk
  obtain ⟨sl, h_sl⟩ : ∃ z, z = own_slot u kn := ⟨_, rfl⟩
  rw [← h_sl] at hsl
  rw [← h_sl] at c127
  have c128 : Goes p e below s₁ (entryFrame m #[(.ref a1), (.long q1)] 6) T126 (mkF m 14 #[.val (.ref a1), .val (.long q1), .second, .val (.long u), .second, .val (.int (Int32.ofNat sl))] [(.ref a1)]) := by
    intro t kk
    refine c127 t ?_
    show Steps p.tables e below (T126.setTop (mkF m 11 #[.val (.ref a1), .val (.long q1), .second, .val (.long u), .second, .unset] [(.int (Int32.ofNat sl))])) t
    refine XS.istore X126.here hx rfl (hb hby d10_11) rfl (l' := #[.val (.ref a1), .val (.long q1), .second, .val (.long u), .second, .val (.int (Int32.ofNat sl))]) rfl ?_
    show Steps p.tables e below (T126.setTop (mkF m 13 #[.val (.ref a1), .val (.long q1), .second, .val (.long u), .second, .val (.int (Int32.ofNat sl))] [])) t
    refine XS.aloadN X126.here hx rfl (hb hby d10_13) rfl rfl ?_
    exact kk
  obtain ⟨T129, X129, e129, st129⟩ := getF X126 hx hZ hown (host := "") (Or.inl (hw _ (List.mem_of_getElem? (i := 30) rfl))) Via.refl eq126 Fd (g := (mkF m 14 #[.val (.ref a1), .val (.long q1), .second, .val (.long u), .second, .val (.int (Int32.ofNat sl))] [(.ref a1)])) rfl rfl (hb hby d10_14)
  have c130 : Goes p e below s₁ (entryFrame m #[(.ref a1), (.long q1)] 6) T129 (mkF m 17 #[.val (.ref a1), .val (.long q1), .second, .val (.long u), .second, .val (.int (Int32.ofNat sl))] [(.ref da)]) := fun t kk => c128 t (st129 t kk)
  obtain ⟨cl131, Ar131, q131, Sz131, Nn131, Hh131, Gg131⟩ := id Vd
  have hin131 : ¬ ((Int32.ofNat sl) < 0 ∨ cl131.slots.size ≤ ((Int32.ofNat sl)).toNatClampNeg) := inb_of Sz131 ⟨own_nn (by omega), own_ltn hsl hn⟩
  have c132 : Goes p e below s₁ (entryFrame m #[(.ref a1), (.long q1)] 6) T129 (mkF m 22 #[.val (.ref a1), .val (.long q1), .second, .val (.long u), .second, .val (.int (Int32.ofNat sl))] [(.int (lcmpW ((bs).getD sl 0) u))]) := by
    intro t kk
    refine c130 t ?_
    show Steps p.tables e below (T129.setTop (mkF m 17 #[.val (.ref a1), .val (.long q1), .second, .val (.long u), .second, .val (.int (Int32.ofNat sl))] [(.ref da)])) t
    refine XS.iload X129.here hx rfl (hb hby d10_17) rfl ?_
    show Steps p.tables e below (T129.setTop (mkF m 19 #[.val (.ref a1), .val (.long q1), .second, .val (.long u), .second, .val (.int (Int32.ofNat sl))] [(.int (Int32.ofNat sl)), (.ref da)])) t
    refine X129.laload hx (j := (Int32.ofNat sl)) (v := (.long ((bs).getD sl 0))) (by rw [e129]; exact Ar131.1) (State.isArrayOf_alike hZ.alike Ar131.2.1) Ar131.2.2 hin131 (Hh131.at hin131 (own_vget (by omega))) (g := (mkF m 19 #[.val (.ref a1), .val (.long q1), .second, .val (.long u), .second, .val (.int (Int32.ofNat sl))] [(.int (Int32.ofNat sl)), (.ref da)])) rfl rfl (hb hby d10_19) _ ?_
    show Steps p.tables e below (T129.setTop (mkF m 20 #[.val (.ref a1), .val (.long q1), .second, .val (.long u), .second, .val (.int (Int32.ofNat sl))] [(.long ((bs).getD sl 0))])) t
    refine XS.lloadN X129.here hx rfl (hb hby d10_20) rfl ?_
    show Steps p.tables e below (T129.setTop (mkF m 21 #[.val (.ref a1), .val (.long q1), .second, .val (.long u), .second, .val (.int (Int32.ofNat sl))] [(.long u), (.long ((bs).getD sl 0))])) t
    refine XS.lcmp X129.here hx rfl (hb hby d10_21) rfl ?_
    exact kk
  by_cases h22 : (lcmpW ((bs).getD sl 0) u) = (0 : Int32)
  · have hsm : bs.getD sl 0 = u := (lw_eq _ _).mp h22
    have c133 : Goes p e below s₁ (entryFrame m #[(.ref a1), (.long q1)] 6) T129 (mkF m 42 #[.val (.ref a1), .val (.long q1), .second, .val (.long u), .second, .val (.int (Int32.ofNat sl))] [(.ref a1)]) := by
      intro t kk
      refine c132 t ?_
      show Steps p.tables e below (T129.setTop (mkF m 22 #[.val (.ref a1), .val (.long q1), .second, .val (.long u), .second, .val (.int (Int32.ofNat sl))] [(.int (lcmpW ((bs).getD sl 0) u))])) t
      refine XS.ifYes X129.here hx rfl (pc0 := 22) (pc' := 41) rfl (hb hby d10_22) rfl ((if0 _ _).trans (teq h22).1) (by decide) (by decide) ?_
      show Steps p.tables e below (T129.setTop (mkF m 41 #[.val (.ref a1), .val (.long q1), .second, .val (.long u), .second, .val (.int (Int32.ofNat sl))] [])) t
      refine XS.aloadN X129.here hx rfl (hb hby d10_41) rfl rfl ?_
      exact kk
    obtain ⟨T134, X134, e134, st134⟩ := getF X129 hx hZ hown (host := "") (Or.inl (hw _ (List.mem_of_getElem? (i := 28) rfl))) Via.refl e129 Fc (g := (mkF m 42 #[.val (.ref a1), .val (.long q1), .second, .val (.long u), .second, .val (.int (Int32.ofNat sl))] [(.ref a1)])) rfl rfl (hb hby d10_42)
    have c135 : Goes p e below s₁ (entryFrame m #[(.ref a1), (.long q1)] 6) T134 (mkF m 45 #[.val (.ref a1), .val (.long q1), .second, .val (.long u), .second, .val (.int (Int32.ofNat sl))] [(.ref ca)]) := fun t kk => c133 t (st134 t kk)
    obtain ⟨cl136, Ar136, q136, Sz136, Nn136, Hh136, Gg136⟩ := id Vc
    have hin136 : ¬ ((Int32.ofNat sl) < 0 ∨ cl136.slots.size ≤ ((Int32.ofNat sl)).toNatClampNeg) := inb_of Sz136 ⟨own_nn (by omega), own_ltn hsl hn⟩
    have c137 : Goes p e below s₁ (entryFrame m #[(.ref a1), (.long q1)] 6) T134 (mkF m 51 #[.val (.ref a1), .val (.long q1), .second, .val (.long u), .second, .val (.int (Int32.ofNat sl))] [(.long (((cs).getD sl 0) + (1 : Int64))), (.int (Int32.ofNat sl)), (.ref ca)]) := by
      intro t kk
      refine c135 t ?_
      show Steps p.tables e below (T134.setTop (mkF m 45 #[.val (.ref a1), .val (.long q1), .second, .val (.long u), .second, .val (.int (Int32.ofNat sl))] [(.ref ca)])) t
      refine XS.iload X134.here hx rfl (hb hby d10_45) rfl ?_
      show Steps p.tables e below (T134.setTop (mkF m 47 #[.val (.ref a1), .val (.long q1), .second, .val (.long u), .second, .val (.int (Int32.ofNat sl))] [(.int (Int32.ofNat sl)), (.ref ca)])) t
      refine XT.dup2 X134.here hx rfl (hb hby d10_47) rfl rfl rfl ?_
      show Steps p.tables e below (T134.setTop (mkF m 48 #[.val (.ref a1), .val (.long q1), .second, .val (.long u), .second, .val (.int (Int32.ofNat sl))] [(.int (Int32.ofNat sl)), (.ref ca), (.int (Int32.ofNat sl)), (.ref ca)])) t
      refine X134.laload hx (j := (Int32.ofNat sl)) (v := (.long ((cs).getD sl 0))) (by rw [e134]; exact Ar136.1) (State.isArrayOf_alike hZ.alike Ar136.2.1) Ar136.2.2 hin136 (Hh136.at hin136 (own_vget (by omega))) (g := (mkF m 48 #[.val (.ref a1), .val (.long q1), .second, .val (.long u), .second, .val (.int (Int32.ofNat sl))] [(.int (Int32.ofNat sl)), (.ref ca), (.int (Int32.ofNat sl)), (.ref ca)])) rfl rfl (hb hby d10_48) _ ?_
      show Steps p.tables e below (T134.setTop (mkF m 49 #[.val (.ref a1), .val (.long q1), .second, .val (.long u), .second, .val (.int (Int32.ofNat sl))] [(.long ((cs).getD sl 0)), (.int (Int32.ofNat sl)), (.ref ca)])) t
      refine XS.lconst X134.here hx rfl (hb hby d10_49) ?_
      show Steps p.tables e below (T134.setTop (mkF m 50 #[.val (.ref a1), .val (.long q1), .second, .val (.long u), .second, .val (.int (Int32.ofNat sl))] [(.long (1 : Int64)), (.long ((cs).getD sl 0)), (.int (Int32.ofNat sl)), (.ref ca)])) t
      refine XS.ladd X134.here hx rfl (hb hby d10_50) rfl ?_
      exact kk
    obtain ⟨cl138, Ar138, q138, Sz138, Nn138, Hh138, Gg138⟩ := id Vc
    have hin138 : ¬ ((Int32.ofNat sl) < 0 ∨ cl138.slots.size ≤ ((Int32.ofNat sl)).toNatClampNeg) := inb_of Sz138 ⟨own_nn (by omega), own_ltn hsl hn⟩
    obtain ⟨T138, h138, X138, e138, W138, st138⟩ := stJ X134 hx hZ e134 Ar138 (j := (Int32.ofNat sl)) hin138 (g := (mkF m 51 #[.val (.ref a1), .val (.long q1), .second, .val (.long u), .second, .val (.int (Int32.ofNat sl))] [(.long (((cs).getD sl 0) + (1 : Int64))), (.int (Int32.ofNat sl)), (.ref ca)])) rfl rfl (hb hby d10_51)
    have V138 := Arv.set Ar138 q138 Sz138 Nn138 Hh138 Gg138 rfl W138 ((Int32.ofNat sl)).toNatClampNeg rfl (by rw [own_cl (by omega), List.length_map]; omega)
    have N138 := Fr.snoc X138 N126 gca
    have c139 : Goes p e below s₁ (entryFrame m #[(.ref a1), (.long q1)] 6) T138 (mkF m 52 #[.val (.ref a1), .val (.long q1), .second, .val (.long u), .second, .val (.int (Int32.ofNat sl))] []) := fun t kk => c137 t (st138 t kk)
    have Vz := own_vset (vs := cs) (by omega) V138
    have f140 := (Nat.le_trans Z0 (Keep.of_wr W138).1)
    have f141 := (E1.wr W138)
    have f142 := (Fb.other W138 (Or.inl n1c))
    have f143 := (Fc.other W138 (Or.inl n1c))
    have f144 := (Fd.other W138 (Or.inl n1c))
    have f145 := (Vd.other W138 (Ne.symm hcd))
    obtain ⟨fs, hr, hrun, hended, hW, hsame⟩ := X138.leave (v := none) (fun _ => rfl)
    refine ⟨_, _, c139 _ ?_, hrun, hended, _, _, rfl, ?_, ⟨_, rfl⟩, hW, hsame.mono (by decide) (by decide)⟩
    · exact X138.returnOut hx Bd.returns (hb hby d10_52) hr
    · show Q_add Z a1 q1 b kn bs cs u h0 n0 _ T138.heap _
      rw [e138]
      exact ⟨rfl, N138, f140, by rw [← h_sl]; unfold own_b1 own_c2 own_c1; rw [if_pos hsm, if_pos hsm]; exact ⟨f141, f142, by simp [hlb], by simp [hlc], ca, da, kc, kd, gca, gda, hcd, f143, f144, Vz, f145⟩⟩
  · have hsm : ¬ bs.getD sl 0 = u := fun q => h22 ((lw_eq _ _).mpr q)
    have c146 : Goes p e below s₁ (entryFrame m #[(.ref a1), (.long q1)] 6) T129 (mkF m 26 #[.val (.ref a1), .val (.long q1), .second, .val (.long u), .second, .val (.int (Int32.ofNat sl))] [(.ref a1)]) := by
      intro t kk
      refine c132 t ?_
      show Steps p.tables e below (T129.setTop (mkF m 22 #[.val (.ref a1), .val (.long q1), .second, .val (.long u), .second, .val (.int (Int32.ofNat sl))] [(.int (lcmpW ((bs).getD sl 0) u))])) t
      refine XS.ifNo X129.here hx rfl (hb hby d10_22) rfl ((if0 _ _).trans (feq h22).1) ?_
      show Steps p.tables e below (T129.setTop (mkF m 25 #[.val (.ref a1), .val (.long q1), .second, .val (.long u), .second, .val (.int (Int32.ofNat sl))] [])) t
      refine XS.aloadN X129.here hx rfl (hb hby d10_25) rfl rfl ?_
      exact kk
    obtain ⟨T147, X147, e147, st147⟩ := getF X129 hx hZ hown (host := "") (Or.inl (hw _ (List.mem_of_getElem? (i := 30) rfl))) Via.refl e129 Fd (g := (mkF m 26 #[.val (.ref a1), .val (.long q1), .second, .val (.long u), .second, .val (.int (Int32.ofNat sl))] [(.ref a1)])) rfl rfl (hb hby d10_26)
    have c148 : Goes p e below s₁ (entryFrame m #[(.ref a1), (.long q1)] 6) T147 (mkF m 29 #[.val (.ref a1), .val (.long q1), .second, .val (.long u), .second, .val (.int (Int32.ofNat sl))] [(.ref da)]) := fun t kk => c146 t (st147 t kk)
    have c149 : Goes p e below s₁ (entryFrame m #[(.ref a1), (.long q1)] 6) T147 (mkF m 32 #[.val (.ref a1), .val (.long q1), .second, .val (.long u), .second, .val (.int (Int32.ofNat sl))] [(.long u), (.int (Int32.ofNat sl)), (.ref da)]) := by
      intro t kk
      refine c148 t ?_
      show Steps p.tables e below (T147.setTop (mkF m 29 #[.val (.ref a1), .val (.long q1), .second, .val (.long u), .second, .val (.int (Int32.ofNat sl))] [(.ref da)])) t
      refine XS.iload X147.here hx rfl (hb hby d10_29) rfl ?_
      show Steps p.tables e below (T147.setTop (mkF m 31 #[.val (.ref a1), .val (.long q1), .second, .val (.long u), .second, .val (.int (Int32.ofNat sl))] [(.int (Int32.ofNat sl)), (.ref da)])) t
      refine XS.lloadN X147.here hx rfl (hb hby d10_31) rfl ?_
      exact kk
    obtain ⟨cl150, Ar150, q150, Sz150, Nn150, Hh150, Gg150⟩ := id Vd
    have hin150 : ¬ ((Int32.ofNat sl) < 0 ∨ cl150.slots.size ≤ ((Int32.ofNat sl)).toNatClampNeg) := inb_of Sz150 ⟨own_nn (by omega), own_ltn hsl hn⟩
    obtain ⟨T150, h150, X150, e150, W150, st150⟩ := stJ X147 hx hZ e147 Ar150 (j := (Int32.ofNat sl)) hin150 (g := (mkF m 32 #[.val (.ref a1), .val (.long q1), .second, .val (.long u), .second, .val (.int (Int32.ofNat sl))] [(.long u), (.int (Int32.ofNat sl)), (.ref da)])) rfl rfl (hb hby d10_32)
    have V150 := Arv.set Ar150 q150 Sz150 Nn150 Hh150 Gg150 rfl W150 ((Int32.ofNat sl)).toNatClampNeg rfl (by rw [own_cl (by omega), List.length_map]; omega)
    have N150 := Fr.snoc X150 N126 gda
    have c151 : Goes p e below s₁ (entryFrame m #[(.ref a1), (.long q1)] 6) T150 (mkF m 33 #[.val (.ref a1), .val (.long q1), .second, .val (.long u), .second, .val (.int (Int32.ofNat sl))] []) := fun t kk => c149 t (st150 t kk)
    have Vd2 := own_vset (vs := bs) (by omega) V150
    have c152 : Goes p e below s₁ (entryFrame m #[(.ref a1), (.long q1)] 6) T150 (mkF m 34 #[.val (.ref a1), .val (.long q1), .second, .val (.long u), .second, .val (.int (Int32.ofNat sl))] [(.ref a1)]) := by
      intro t kk
      refine c151 t ?_
      show Steps p.tables e below (T150.setTop (mkF m 33 #[.val (.ref a1), .val (.long q1), .second, .val (.long u), .second, .val (.int (Int32.ofNat sl))] [])) t
      refine XS.aloadN X150.here hx rfl (hb hby d10_33) rfl rfl ?_
      exact kk
    have f153 := (Fc.other W150 (Or.inl n1d))
    obtain ⟨T154, X154, e154, st154⟩ := getF X150 hx hZ hown (host := "") (Or.inl (hw _ (List.mem_of_getElem? (i := 28) rfl))) Via.refl e150 f153 (g := (mkF m 34 #[.val (.ref a1), .val (.long q1), .second, .val (.long u), .second, .val (.int (Int32.ofNat sl))] [(.ref a1)])) rfl rfl (hb hby d10_34)
    have c155 : Goes p e below s₁ (entryFrame m #[(.ref a1), (.long q1)] 6) T154 (mkF m 37 #[.val (.ref a1), .val (.long q1), .second, .val (.long u), .second, .val (.int (Int32.ofNat sl))] [(.ref ca)]) := fun t kk => c152 t (st154 t kk)
    have c156 : Goes p e below s₁ (entryFrame m #[(.ref a1), (.long q1)] 6) T154 (mkF m 40 #[.val (.ref a1), .val (.long q1), .second, .val (.long u), .second, .val (.int (Int32.ofNat sl))] [(.long (0 : Int64)), (.int (Int32.ofNat sl)), (.ref ca)]) := by
      intro t kk
      refine c155 t ?_
      show Steps p.tables e below (T154.setTop (mkF m 37 #[.val (.ref a1), .val (.long q1), .second, .val (.long u), .second, .val (.int (Int32.ofNat sl))] [(.ref ca)])) t
      refine XS.iload X154.here hx rfl (hb hby d10_37) rfl ?_
      show Steps p.tables e below (T154.setTop (mkF m 39 #[.val (.ref a1), .val (.long q1), .second, .val (.long u), .second, .val (.int (Int32.ofNat sl))] [(.int (Int32.ofNat sl)), (.ref ca)])) t
      refine XS.lconst X154.here hx rfl (hb hby d10_39) ?_
      exact kk
    have f157 := (Vc.other W150 hcd)
    obtain ⟨cl158, Ar158, q158, Sz158, Nn158, Hh158, Gg158⟩ := id f157
    have hin158 : ¬ ((Int32.ofNat sl) < 0 ∨ cl158.slots.size ≤ ((Int32.ofNat sl)).toNatClampNeg) := inb_of Sz158 ⟨own_nn (by omega), own_ltn hsl hn⟩
    obtain ⟨T158, h158, X158, e158, W158, st158⟩ := stJ X154 hx hZ e154 Ar158 (j := (Int32.ofNat sl)) hin158 (g := (mkF m 40 #[.val (.ref a1), .val (.long q1), .second, .val (.long u), .second, .val (.int (Int32.ofNat sl))] [(.long (0 : Int64)), (.int (Int32.ofNat sl)), (.ref ca)])) rfl rfl (hb hby d10_40)
    have V158 := Arv.set Ar158 q158 Sz158 Nn158 Hh158 Gg158 rfl W158 ((Int32.ofNat sl)).toNatClampNeg rfl (by rw [own_cl (by omega), List.length_map]; omega)
    have N158 := Fr.snoc X158 N150 gca
    have c159 : Goes p e below s₁ (entryFrame m #[(.ref a1), (.long q1)] 6) T158 (mkF m 41 #[.val (.ref a1), .val (.long q1), .second, .val (.long u), .second, .val (.int (Int32.ofNat sl))] []) := fun t kk => c156 t (st158 t kk)
    have Vc2 := own_vset (vs := cs) (by omega) V158
    have c160 : Goes p e below s₁ (entryFrame m #[(.ref a1), (.long q1)] 6) T158 (mkF m 42 #[.val (.ref a1), .val (.long q1), .second, .val (.long u), .second, .val (.int (Int32.ofNat sl))] [(.ref a1)]) := by
      intro t kk
      refine c159 t ?_
      show Steps p.tables e below (T158.setTop (mkF m 41 #[.val (.ref a1), .val (.long q1), .second, .val (.long u), .second, .val (.int (Int32.ofNat sl))] [])) t
      refine XS.aloadN X158.here hx rfl (hb hby d10_41) rfl rfl ?_
      exact kk
    have f161 := (f153.other W158 (Or.inl n1c))
    obtain ⟨T162, X162, e162, st162⟩ := getF X158 hx hZ hown (host := "") (Or.inl (hw _ (List.mem_of_getElem? (i := 28) rfl))) Via.refl e158 f161 (g := (mkF m 42 #[.val (.ref a1), .val (.long q1), .second, .val (.long u), .second, .val (.int (Int32.ofNat sl))] [(.ref a1)])) rfl rfl (hb hby d10_42)
    have c163 : Goes p e below s₁ (entryFrame m #[(.ref a1), (.long q1)] 6) T162 (mkF m 45 #[.val (.ref a1), .val (.long q1), .second, .val (.long u), .second, .val (.int (Int32.ofNat sl))] [(.ref ca)]) := fun t kk => c160 t (st162 t kk)
    obtain ⟨cl164, Ar164, q164, Sz164, Nn164, Hh164, Gg164⟩ := id Vc2
    have hin164 : ¬ ((Int32.ofNat sl) < 0 ∨ cl164.slots.size ≤ ((Int32.ofNat sl)).toNatClampNeg) := inb_of Sz164 ⟨own_nn (by omega), own_ltn hsl hn⟩
    have c165 : Goes p e below s₁ (entryFrame m #[(.ref a1), (.long q1)] 6) T162 (mkF m 51 #[.val (.ref a1), .val (.long q1), .second, .val (.long u), .second, .val (.int (Int32.ofNat sl))] [(.long ((((cs.set sl 0)).getD sl 0) + (1 : Int64))), (.int (Int32.ofNat sl)), (.ref ca)]) := by
      intro t kk
      refine c163 t ?_
      show Steps p.tables e below (T162.setTop (mkF m 45 #[.val (.ref a1), .val (.long q1), .second, .val (.long u), .second, .val (.int (Int32.ofNat sl))] [(.ref ca)])) t
      refine XS.iload X162.here hx rfl (hb hby d10_45) rfl ?_
      show Steps p.tables e below (T162.setTop (mkF m 47 #[.val (.ref a1), .val (.long q1), .second, .val (.long u), .second, .val (.int (Int32.ofNat sl))] [(.int (Int32.ofNat sl)), (.ref ca)])) t
      refine XT.dup2 X162.here hx rfl (hb hby d10_47) rfl rfl rfl ?_
      show Steps p.tables e below (T162.setTop (mkF m 48 #[.val (.ref a1), .val (.long q1), .second, .val (.long u), .second, .val (.int (Int32.ofNat sl))] [(.int (Int32.ofNat sl)), (.ref ca), (.int (Int32.ofNat sl)), (.ref ca)])) t
      refine X162.laload hx (j := (Int32.ofNat sl)) (v := (.long (((cs.set sl 0)).getD sl 0))) (by rw [e162]; exact Ar164.1) (State.isArrayOf_alike hZ.alike Ar164.2.1) Ar164.2.2 hin164 (Hh164.at hin164 (own_vget (by omega))) (g := (mkF m 48 #[.val (.ref a1), .val (.long q1), .second, .val (.long u), .second, .val (.int (Int32.ofNat sl))] [(.int (Int32.ofNat sl)), (.ref ca), (.int (Int32.ofNat sl)), (.ref ca)])) rfl rfl (hb hby d10_48) _ ?_
      show Steps p.tables e below (T162.setTop (mkF m 49 #[.val (.ref a1), .val (.long q1), .second, .val (.long u), .second, .val (.int (Int32.ofNat sl))] [(.long (((cs.set sl 0)).getD sl 0)), (.int (Int32.ofNat sl)), (.ref ca)])) t
      refine XS.lconst X162.here hx rfl (hb hby d10_49) ?_
      show Steps p.tables e below (T162.setTop (mkF m 50 #[.val (.ref a1), .val (.long q1), .second, .val (.long u), .second, .val (.int (Int32.ofNat sl))] [(.long (1 : Int64)), (.long (((cs.set sl 0)).getD sl 0)), (.int (Int32.ofNat sl)), (.ref ca)])) t
      refine XS.ladd X162.here hx rfl (hb hby d10_50) rfl ?_
      exact kk
    obtain ⟨cl166, Ar166, q166, Sz166, Nn166, Hh166, Gg166⟩ := id Vc2
    have hin166 : ¬ ((Int32.ofNat sl) < 0 ∨ cl166.slots.size ≤ ((Int32.ofNat sl)).toNatClampNeg) := inb_of Sz166 ⟨own_nn (by omega), own_ltn hsl hn⟩
    obtain ⟨T166, h166, X166, e166, W166, st166⟩ := stJ X162 hx hZ e162 Ar166 (j := (Int32.ofNat sl)) hin166 (g := (mkF m 51 #[.val (.ref a1), .val (.long q1), .second, .val (.long u), .second, .val (.int (Int32.ofNat sl))] [(.long ((((cs.set sl 0)).getD sl 0) + (1 : Int64))), (.int (Int32.ofNat sl)), (.ref ca)])) rfl rfl (hb hby d10_51)
    have V166 := Arv.set Ar166 q166 Sz166 Nn166 Hh166 Gg166 rfl W166 ((Int32.ofNat sl)).toNatClampNeg rfl (by rw [own_cl (by omega), List.length_map, List.length_set]; omega)
    have N166 := Fr.snoc X166 N158 gca
    have c167 : Goes p e below s₁ (entryFrame m #[(.ref a1), (.long q1)] 6) T166 (mkF m 52 #[.val (.ref a1), .val (.long q1), .second, .val (.long u), .second, .val (.int (Int32.ofNat sl))] []) := fun t kk => c165 t (st166 t kk)
    have Vz := own_vset (vs := (cs.set sl 0)) (by omega) V166
    have f168 := (Nat.le_trans (Nat.le_trans (Nat.le_trans Z0 (Keep.of_wr W150).1) (Keep.of_wr W158).1) (Keep.of_wr W166).1)
    have f169 := (((E1.wr W150).wr W158).wr W166)
    have f170 := (((Fb.other W150 (Or.inl n1d)).other W158 (Or.inl n1c)).other W166 (Or.inl n1c))
    have f171 := (f161.other W166 (Or.inl n1c))
    have f172 := (((Fd.other W150 (Or.inl n1d)).other W158 (Or.inl n1c)).other W166 (Or.inl n1c))
    have f173 := ((Vd2.other W158 (Ne.symm hcd)).other W166 (Ne.symm hcd))
    obtain ⟨fs, hr, hrun, hended, hW, hsame⟩ := X166.leave (v := none) (fun _ => rfl)
    refine ⟨_, _, c167 _ ?_, hrun, hended, _, _, rfl, ?_, ⟨_, rfl⟩, hW, hsame.mono (by decide) (by decide)⟩
    · exact X166.returnOut hx Bd.returns (hb hby d10_52) hr
    · show Q_add Z a1 q1 b kn bs cs u h0 n0 _ T166.heap _
      rw [e166]
      exact ⟨rfl, N166, f168, by rw [← h_sl]; unfold own_b1 own_c2 own_c1; rw [if_neg hsm, if_neg hsm]; exact ⟨f169, f170, by simp [hlb], by simp [hlc], ca, da, kc, kd, gca, gda, hcd, f171, f172, Vz, f173⟩⟩
theorem own_invm {kn : Nat} {l l' : Int} {bs cs : List Int64} (h : own_inv kn l bs cs) (hl : l ≤ l') : own_inv kn l' bs cs := ⟨h.1, h.2.1, fun s hs => (h.2.2 s hs).imp id fun q => ⟨q.1, Int.le_trans q.2 hl⟩⟩
theorem pd__II_I : parseMethodDescriptor "(II)I" = some ⟨[.int, .int], some .int⟩ := by decide +kernel
theorem pd__IJJ_J : parseMethodDescriptor "(IJJ)J" = some ⟨[.int, .long, .long], some .long⟩ := by decide +kernel
theorem pd__JI_V : parseMethodDescriptor "(JI)V" = some ⟨[.long, .int], none⟩ := by decide +kernel
theorem pd__J_V : parseMethodDescriptor "(J)V" = some ⟨[.long], none⟩ := by decide +kernel
theorem ef_law (m : MethodId) (x0 : Int64) (x1 : Int64) (x2 : Int64) (x3 : Int32) (x4 : Int64) (x5 : Int64) : entryFrame m #[(.long x0), (.long x1), (.long x2), (.int x3), (.long x4), (.long x5)] maxLocals = mkF m 0 #[.val (.long x0), .second, .val (.long x1), .second, .val (.long x2), .second, .val (.int x3), .val (.long x4), .second, .val (.long x5), .second, .unset, .unset, .unset, .unset, .unset, .unset, .unset, .unset, .unset, .unset, .unset, .unset, .unset, .unset, .unset, .unset, .unset, .unset, .unset, .unset, .unset, .unset, .unset, .unset, .unset, .unset] [] := by (first | (simp [entryFrame, mkF, argsToLocals, Value.category, maxLocals]; done) | rfl)
def Q_law (Z : State) (q0 : Int64) (q1 : Int64) (q2 : Int64) (p3 : Int32) (q4 : Int64) (q5 : Int64) (h0 : Heap) (n0 : Nat) (v : Option Value) (h : Heap) (L : List Loc) : Prop := v = some (.int 1) ∧ Fr n0 L
set_option maxRecDepth 65536 in
set_option maxHeartbeats 40000000 in
theorem rm_law (l : Launch) (Z : State) (a0 : Array Value) (hw : ∀ d ∈ tables_1, d.before a0 Z = true) (ws : List Jvm.Cond) (q0 : Int64) (q1 : Int64) (q2 : Int64) (p3 : Int32) (q4 : Int64) (q5 : Int64) (h0 : Heap) (n0 : Nat) (Z0 : n0 ≤ h0.size)  :
    MetFree l x (head1 (Jvm.Cond.code x code maxLocals ret :: ws) room_1) (fun a U => a = #[(.long q0), (.long q1), (.long q2), (.int p3), (.long q4), (.long q5)] ∧ Z.Warmed39 U.vm ∧ U.heap = h0) (fun _ _ _ _ _ => True) (fun _ U o U' => ∃ v L, o = .returned v ∧ Q_law Z q0 q1 q2 p3 q4 q5 h0 n0 v U'.heap L ∧ FrameEnd U o U' L 3 11) := by
  refine MetFree.of_bodySF (plainFor_of_name pn_2) hisR ?_
  intro p e s m args below meth c s₁ Bd hml0 hP hK
  obtain ⟨rfl, hZ, hh⟩ := hP
  have hx := Bd.exec
  have hby := Bd.bytes
  have hml : c.maxLocals = 37 := hml0
  have hown : s.vm.findClass "com/example/ventil/ventil/RollingCountSumPinLaw" = some m.cls := findClass_of_methodNamed Bd.named
  have hnm := (name_of_methodNamed Bd.named Bd.method).1
  have X0 : Stand p l e room_1 s m #[(.long q0), (.long q1), (.long q2), (.int p3), (.long q4), (.long q5)] below meth c s₁ [] 0 0 := Stand.of_body Bd
  have e0 : s₁.heap = h0 := by rw [← hh, Bd.state]; rfl
  have N0 := Fr.nil n0
  have c0 : Goes p e below s₁ (entryFrame m #[(.long q0), (.long q1), (.long q2), (.int p3), (.long q4), (.long q5)] maxLocals) s₁ (mkF m 0 #[.val (.long q0), .second, .val (.long q1), .second, .val (.long q2), .second, .val (.int p3), .val (.long q4), .second, .val (.long q5), .second, .unset, .unset, .unset, .unset, .unset, .unset, .unset, .unset, .unset, .unset, .unset, .unset, .unset, .unset, .unset, .unset, .unset, .unset, .unset, .unset, .unset, .unset, .unset, .unset, .unset, .unset] []) := fun t k => castTop (ef_law m q0 q1 q2 p3 q4 q5) k
  have c174 : Goes p e below s₁ (entryFrame m #[(.long q0), (.long q1), (.long q2), (.int p3), (.long q4), (.long q5)] maxLocals) s₁ (mkF m 13 #[.val (.long q0), .second, .val (.long q1), .second, .val (.long q2), .second, .val (.int p3), .val (.long q4), .second, .val (.long q5), .second, .val (.long ((2 : Int64) + (((q0.toUInt64 >>> ((2 : Int32) &&& 0x3f).toInt64.toUInt64).toInt64) &&& (72057594037927935 : Int64)))), .second, .unset, .unset, .unset, .unset, .unset, .unset, .unset, .unset, .unset, .unset, .unset, .unset, .unset, .unset, .unset, .unset, .unset, .unset, .unset, .unset, .unset, .unset, .unset, .unset] []) := by
    intro t kk
    refine c0 t ?_
    show Steps p.tables e below (s₁.setTop (mkF m 0 #[.val (.long q0), .second, .val (.long q1), .second, .val (.long q2), .second, .val (.int p3), .val (.long q4), .second, .val (.long q5), .second, .unset, .unset, .unset, .unset, .unset, .unset, .unset, .unset, .unset, .unset, .unset, .unset, .unset, .unset, .unset, .unset, .unset, .unset, .unset, .unset, .unset, .unset, .unset, .unset, .unset, .unset] [])) t
    refine X0.ldc2Long hx hown (mvT hZ (hw _ (List.mem_of_getElem? (i := 0) rfl))) (g := (mkF m 0 #[.val (.long q0), .second, .val (.long q1), .second, .val (.long q2), .second, .val (.int p3), .val (.long q4), .second, .val (.long q5), .second, .unset, .unset, .unset, .unset, .unset, .unset, .unset, .unset, .unset, .unset, .unset, .unset, .unset, .unset, .unset, .unset, .unset, .unset, .unset, .unset, .unset, .unset, .unset, .unset, .unset, .unset] [])) rfl (hb hby at_0) _ ?_
    show Steps p.tables e below (s₁.setTop (mkF m 3 #[.val (.long q0), .second, .val (.long q1), .second, .val (.long q2), .second, .val (.int p3), .val (.long q4), .second, .val (.long q5), .second, .unset, .unset, .unset, .unset, .unset, .unset, .unset, .unset, .unset, .unset, .unset, .unset, .unset, .unset, .unset, .unset, .unset, .unset, .unset, .unset, .unset, .unset, .unset, .unset, .unset, .unset] [(.long (2 : Int64))])) t
    refine XS.lloadN X0.here hx rfl (hb hby at_3) rfl ?_
    show Steps p.tables e below (s₁.setTop (mkF m 4 #[.val (.long q0), .second, .val (.long q1), .second, .val (.long q2), .second, .val (.int p3), .val (.long q4), .second, .val (.long q5), .second, .unset, .unset, .unset, .unset, .unset, .unset, .unset, .unset, .unset, .unset, .unset, .unset, .unset, .unset, .unset, .unset, .unset, .unset, .unset, .unset, .unset, .unset, .unset, .unset, .unset, .unset] [(.long q0), (.long (2 : Int64))])) t
    refine XS.iconst X0.here hx rfl (hb hby at_4) ?_
    show Steps p.tables e below (s₁.setTop (mkF m 5 #[.val (.long q0), .second, .val (.long q1), .second, .val (.long q2), .second, .val (.int p3), .val (.long q4), .second, .val (.long q5), .second, .unset, .unset, .unset, .unset, .unset, .unset, .unset, .unset, .unset, .unset, .unset, .unset, .unset, .unset, .unset, .unset, .unset, .unset, .unset, .unset, .unset, .unset, .unset, .unset, .unset, .unset] [(.int (2 : Int32)), (.long q0), (.long (2 : Int64))])) t
    refine XS.lushr X0.here hx rfl (hb hby at_5) rfl ?_
    show Steps p.tables e below (s₁.setTop (mkF m 6 #[.val (.long q0), .second, .val (.long q1), .second, .val (.long q2), .second, .val (.int p3), .val (.long q4), .second, .val (.long q5), .second, .unset, .unset, .unset, .unset, .unset, .unset, .unset, .unset, .unset, .unset, .unset, .unset, .unset, .unset, .unset, .unset, .unset, .unset, .unset, .unset, .unset, .unset, .unset, .unset, .unset, .unset] [(.long ((q0.toUInt64 >>> ((2 : Int32) &&& 0x3f).toInt64.toUInt64).toInt64)), (.long (2 : Int64))])) t
    refine X0.ldc2Long hx hown (mvT hZ (hw _ (List.mem_of_getElem? (i := 1) rfl))) (g := (mkF m 6 #[.val (.long q0), .second, .val (.long q1), .second, .val (.long q2), .second, .val (.int p3), .val (.long q4), .second, .val (.long q5), .second, .unset, .unset, .unset, .unset, .unset, .unset, .unset, .unset, .unset, .unset, .unset, .unset, .unset, .unset, .unset, .unset, .unset, .unset, .unset, .unset, .unset, .unset, .unset, .unset, .unset, .unset] [(.long ((q0.toUInt64 >>> ((2 : Int32) &&& 0x3f).toInt64.toUInt64).toInt64)), (.long (2 : Int64))])) rfl (hb hby at_6) _ ?_
    show Steps p.tables e below (s₁.setTop (mkF m 9 #[.val (.long q0), .second, .val (.long q1), .second, .val (.long q2), .second, .val (.int p3), .val (.long q4), .second, .val (.long q5), .second, .unset, .unset, .unset, .unset, .unset, .unset, .unset, .unset, .unset, .unset, .unset, .unset, .unset, .unset, .unset, .unset, .unset, .unset, .unset, .unset, .unset, .unset, .unset, .unset, .unset, .unset] [(.long (72057594037927935 : Int64)), (.long ((q0.toUInt64 >>> ((2 : Int32) &&& 0x3f).toInt64.toUInt64).toInt64)), (.long (2 : Int64))])) t
    refine XS.land X0.here hx rfl (hb hby at_9) rfl ?_
    show Steps p.tables e below (s₁.setTop (mkF m 10 #[.val (.long q0), .second, .val (.long q1), .second, .val (.long q2), .second, .val (.int p3), .val (.long q4), .second, .val (.long q5), .second, .unset, .unset, .unset, .unset, .unset, .unset, .unset, .unset, .unset, .unset, .unset, .unset, .unset, .unset, .unset, .unset, .unset, .unset, .unset, .unset, .unset, .unset, .unset, .unset, .unset, .unset] [(.long (((q0.toUInt64 >>> ((2 : Int32) &&& 0x3f).toInt64.toUInt64).toInt64) &&& (72057594037927935 : Int64))), (.long (2 : Int64))])) t
    refine XS.ladd X0.here hx rfl (hb hby at_10) rfl ?_
    show Steps p.tables e below (s₁.setTop (mkF m 11 #[.val (.long q0), .second, .val (.long q1), .second, .val (.long q2), .second, .val (.int p3), .val (.long q4), .second, .val (.long q5), .second, .unset, .unset, .unset, .unset, .unset, .unset, .unset, .unset, .unset, .unset, .unset, .unset, .unset, .unset, .unset, .unset, .unset, .unset, .unset, .unset, .unset, .unset, .unset, .unset, .unset, .unset] [(.long ((2 : Int64) + (((q0.toUInt64 >>> ((2 : Int32) &&& 0x3f).toInt64.toUInt64).toInt64) &&& (72057594037927935 : Int64))))])) t
    refine XS.lstore X0.here hx rfl (hb hby at_11) rfl (l' := #[.val (.long q0), .second, .val (.long q1), .second, .val (.long q2), .second, .val (.int p3), .val (.long q4), .second, .val (.long q5), .second, .val (.long ((2 : Int64) + (((q0.toUInt64 >>> ((2 : Int32) &&& 0x3f).toInt64.toUInt64).toInt64) &&& (72057594037927935 : Int64)))), .second, .unset, .unset, .unset, .unset, .unset, .unset, .unset, .unset, .unset, .unset, .unset, .unset, .unset, .unset, .unset, .unset, .unset, .unset, .unset, .unset, .unset, .unset, .unset, .unset]) rfl ?_
    exact kk
  obtain ⟨b, h_b⟩ : ∃ z : Int64, z = ((2 : Int64) + (((q0.toUInt64 >>> ((2 : Int32) &&& 0x3f).toInt64.toUInt64).toInt64) &&& (72057594037927935 : Int64))) := ⟨_, rfl⟩
  have c175 : Goes p e below s₁ (entryFrame m #[(.long q0), (.long q1), (.long q2), (.int p3), (.long q4), (.long q5)] maxLocals) s₁ (mkF m 13 #[.val (.long q0), .second, .val (.long q1), .second, .val (.long q2), .second, .val (.int p3), .val (.long q4), .second, .val (.long q5), .second, .val (.long b), .second, .unset, .unset, .unset, .unset, .unset, .unset, .unset, .unset, .unset, .unset, .unset, .unset, .unset, .unset, .unset, .unset, .unset, .unset, .unset, .unset, .unset, .unset, .unset, .unset] []) := by rw [h_b]; exact c174
  have hB := own_bb ((q0.toUInt64 >>> ((2 : Int32) &&& 0x3f).toInt64.toUInt64).toInt64)
  rw [← h_b] at hB
  have hbz : b ≠ 0 := own_nzb hB.1
  have c176 : Goes p e below s₁ (entryFrame m #[(.long q0), (.long q1), (.long q2), (.int p3), (.long q4), (.long q5)] maxLocals) s₁ (mkF m 23 #[.val (.long q0), .second, .val (.long q1), .second, .val (.long q2), .second, .val (.int p3), .val (.long q4), .second, .val (.long q5), .second, .val (.long b), .second, .val (.int ((1 : Int32) + ((q0 &&& (3 : Int64)).toInt32))), .unset, .unset, .unset, .unset, .unset, .unset, .unset, .unset, .unset, .unset, .unset, .unset, .unset, .unset, .unset, .unset, .unset, .unset, .unset, .unset, .unset, .unset, .unset] []) := by
    intro t kk
    refine c175 t ?_
    show Steps p.tables e below (s₁.setTop (mkF m 13 #[.val (.long q0), .second, .val (.long q1), .second, .val (.long q2), .second, .val (.int p3), .val (.long q4), .second, .val (.long q5), .second, .val (.long b), .second, .unset, .unset, .unset, .unset, .unset, .unset, .unset, .unset, .unset, .unset, .unset, .unset, .unset, .unset, .unset, .unset, .unset, .unset, .unset, .unset, .unset, .unset, .unset, .unset] [])) t
    refine XS.iconst X0.here hx rfl (hb hby at_13) ?_
    show Steps p.tables e below (s₁.setTop (mkF m 14 #[.val (.long q0), .second, .val (.long q1), .second, .val (.long q2), .second, .val (.int p3), .val (.long q4), .second, .val (.long q5), .second, .val (.long b), .second, .unset, .unset, .unset, .unset, .unset, .unset, .unset, .unset, .unset, .unset, .unset, .unset, .unset, .unset, .unset, .unset, .unset, .unset, .unset, .unset, .unset, .unset, .unset, .unset] [(.int (1 : Int32))])) t
    refine XS.lloadN X0.here hx rfl (hb hby at_14) rfl ?_
    show Steps p.tables e below (s₁.setTop (mkF m 15 #[.val (.long q0), .second, .val (.long q1), .second, .val (.long q2), .second, .val (.int p3), .val (.long q4), .second, .val (.long q5), .second, .val (.long b), .second, .unset, .unset, .unset, .unset, .unset, .unset, .unset, .unset, .unset, .unset, .unset, .unset, .unset, .unset, .unset, .unset, .unset, .unset, .unset, .unset, .unset, .unset, .unset, .unset] [(.long q0), (.int (1 : Int32))])) t
    refine X0.ldc2Long hx hown (mvT hZ (hw _ (List.mem_of_getElem? (i := 2) rfl))) (g := (mkF m 15 #[.val (.long q0), .second, .val (.long q1), .second, .val (.long q2), .second, .val (.int p3), .val (.long q4), .second, .val (.long q5), .second, .val (.long b), .second, .unset, .unset, .unset, .unset, .unset, .unset, .unset, .unset, .unset, .unset, .unset, .unset, .unset, .unset, .unset, .unset, .unset, .unset, .unset, .unset, .unset, .unset, .unset, .unset] [(.long q0), (.int (1 : Int32))])) rfl (hb hby at_15) _ ?_
    show Steps p.tables e below (s₁.setTop (mkF m 18 #[.val (.long q0), .second, .val (.long q1), .second, .val (.long q2), .second, .val (.int p3), .val (.long q4), .second, .val (.long q5), .second, .val (.long b), .second, .unset, .unset, .unset, .unset, .unset, .unset, .unset, .unset, .unset, .unset, .unset, .unset, .unset, .unset, .unset, .unset, .unset, .unset, .unset, .unset, .unset, .unset, .unset, .unset] [(.long (3 : Int64)), (.long q0), (.int (1 : Int32))])) t
    refine XS.land X0.here hx rfl (hb hby at_18) rfl ?_
    show Steps p.tables e below (s₁.setTop (mkF m 19 #[.val (.long q0), .second, .val (.long q1), .second, .val (.long q2), .second, .val (.int p3), .val (.long q4), .second, .val (.long q5), .second, .val (.long b), .second, .unset, .unset, .unset, .unset, .unset, .unset, .unset, .unset, .unset, .unset, .unset, .unset, .unset, .unset, .unset, .unset, .unset, .unset, .unset, .unset, .unset, .unset, .unset, .unset] [(.long (q0 &&& (3 : Int64))), (.int (1 : Int32))])) t
    refine XS.l2i X0.here hx rfl (hb hby at_19) rfl ?_
    show Steps p.tables e below (s₁.setTop (mkF m 20 #[.val (.long q0), .second, .val (.long q1), .second, .val (.long q2), .second, .val (.int p3), .val (.long q4), .second, .val (.long q5), .second, .val (.long b), .second, .unset, .unset, .unset, .unset, .unset, .unset, .unset, .unset, .unset, .unset, .unset, .unset, .unset, .unset, .unset, .unset, .unset, .unset, .unset, .unset, .unset, .unset, .unset, .unset] [(.int ((q0 &&& (3 : Int64)).toInt32)), (.int (1 : Int32))])) t
    refine XS.iadd X0.here hx rfl (hb hby at_20) rfl ?_
    show Steps p.tables e below (s₁.setTop (mkF m 21 #[.val (.long q0), .second, .val (.long q1), .second, .val (.long q2), .second, .val (.int p3), .val (.long q4), .second, .val (.long q5), .second, .val (.long b), .second, .unset, .unset, .unset, .unset, .unset, .unset, .unset, .unset, .unset, .unset, .unset, .unset, .unset, .unset, .unset, .unset, .unset, .unset, .unset, .unset, .unset, .unset, .unset, .unset] [(.int ((1 : Int32) + ((q0 &&& (3 : Int64)).toInt32)))])) t
    refine XS.istore X0.here hx rfl (hb hby at_21) rfl (l' := #[.val (.long q0), .second, .val (.long q1), .second, .val (.long q2), .second, .val (.int p3), .val (.long q4), .second, .val (.long q5), .second, .val (.long b), .second, .val (.int ((1 : Int32) + ((q0 &&& (3 : Int64)).toInt32))), .unset, .unset, .unset, .unset, .unset, .unset, .unset, .unset, .unset, .unset, .unset, .unset, .unset, .unset, .unset, .unset, .unset, .unset, .unset, .unset, .unset, .unset, .unset]) rfl ?_
    exact kk
  obtain ⟨kx, h_kx⟩ : ∃ z : Int32, z = ((1 : Int32) + ((q0 &&& (3 : Int64)).toInt32)) := ⟨_, rfl⟩
  have c177 : Goes p e below s₁ (entryFrame m #[(.long q0), (.long q1), (.long q2), (.int p3), (.long q4), (.long q5)] maxLocals) s₁ (mkF m 23 #[.val (.long q0), .second, .val (.long q1), .second, .val (.long q2), .second, .val (.int p3), .val (.long q4), .second, .val (.long q5), .second, .val (.long b), .second, .val (.int kx), .unset, .unset, .unset, .unset, .unset, .unset, .unset, .unset, .unset, .unset, .unset, .unset, .unset, .unset, .unset, .unset, .unset, .unset, .unset, .unset, .unset, .unset, .unset] []) := by rw [h_kx]; exact c176
  obtain ⟨kn, hk, hn, hkx⟩ := own_kk q0
  rw [← h_kx] at hkx
  subst hkx
  have c178 : Goes p e below s₁ (entryFrame m #[(.long q0), (.long q1), (.long q2), (.int p3), (.long q4), (.long q5)] maxLocals) s₁ (mkF m 35 #[.val (.long q0), .second, .val (.long q1), .second, .val (.long q2), .second, .val (.int p3), .val (.long q4), .second, .val (.long q5), .second, .val (.long b), .second, .val (.int (Int32.ofNat kn)), .val (.long (((9223372036854775807 : Int64) / b) - (9 : Int64))), .second, .unset, .unset, .unset, .unset, .unset, .unset, .unset, .unset, .unset, .unset, .unset, .unset, .unset, .unset, .unset, .unset, .unset, .unset, .unset, .unset, .unset] []) := by
    intro t kk
    refine c177 t ?_
    show Steps p.tables e below (s₁.setTop (mkF m 23 #[.val (.long q0), .second, .val (.long q1), .second, .val (.long q2), .second, .val (.int p3), .val (.long q4), .second, .val (.long q5), .second, .val (.long b), .second, .val (.int (Int32.ofNat kn)), .unset, .unset, .unset, .unset, .unset, .unset, .unset, .unset, .unset, .unset, .unset, .unset, .unset, .unset, .unset, .unset, .unset, .unset, .unset, .unset, .unset, .unset, .unset] [])) t
    refine X0.ldc2Long hx hown (mvT hZ (hw _ (List.mem_of_getElem? (i := 3) rfl))) (g := (mkF m 23 #[.val (.long q0), .second, .val (.long q1), .second, .val (.long q2), .second, .val (.int p3), .val (.long q4), .second, .val (.long q5), .second, .val (.long b), .second, .val (.int (Int32.ofNat kn)), .unset, .unset, .unset, .unset, .unset, .unset, .unset, .unset, .unset, .unset, .unset, .unset, .unset, .unset, .unset, .unset, .unset, .unset, .unset, .unset, .unset, .unset, .unset] [])) rfl (hb hby at_23) _ ?_
    show Steps p.tables e below (s₁.setTop (mkF m 26 #[.val (.long q0), .second, .val (.long q1), .second, .val (.long q2), .second, .val (.int p3), .val (.long q4), .second, .val (.long q5), .second, .val (.long b), .second, .val (.int (Int32.ofNat kn)), .unset, .unset, .unset, .unset, .unset, .unset, .unset, .unset, .unset, .unset, .unset, .unset, .unset, .unset, .unset, .unset, .unset, .unset, .unset, .unset, .unset, .unset, .unset] [(.long (9223372036854775807 : Int64))])) t
    refine XS.lload X0.here hx rfl (hb hby at_26) rfl ?_
    show Steps p.tables e below (s₁.setTop (mkF m 28 #[.val (.long q0), .second, .val (.long q1), .second, .val (.long q2), .second, .val (.int p3), .val (.long q4), .second, .val (.long q5), .second, .val (.long b), .second, .val (.int (Int32.ofNat kn)), .unset, .unset, .unset, .unset, .unset, .unset, .unset, .unset, .unset, .unset, .unset, .unset, .unset, .unset, .unset, .unset, .unset, .unset, .unset, .unset, .unset, .unset, .unset] [(.long b), (.long (9223372036854775807 : Int64))])) t
    refine XS.ldiv X0.here hx rfl (hb hby at_28) rfl hbz ?_
    show Steps p.tables e below (s₁.setTop (mkF m 29 #[.val (.long q0), .second, .val (.long q1), .second, .val (.long q2), .second, .val (.int p3), .val (.long q4), .second, .val (.long q5), .second, .val (.long b), .second, .val (.int (Int32.ofNat kn)), .unset, .unset, .unset, .unset, .unset, .unset, .unset, .unset, .unset, .unset, .unset, .unset, .unset, .unset, .unset, .unset, .unset, .unset, .unset, .unset, .unset, .unset, .unset] [(.long ((9223372036854775807 : Int64) / b))])) t
    refine X0.ldc2Long hx hown (mvT hZ (hw _ (List.mem_of_getElem? (i := 4) rfl))) (g := (mkF m 29 #[.val (.long q0), .second, .val (.long q1), .second, .val (.long q2), .second, .val (.int p3), .val (.long q4), .second, .val (.long q5), .second, .val (.long b), .second, .val (.int (Int32.ofNat kn)), .unset, .unset, .unset, .unset, .unset, .unset, .unset, .unset, .unset, .unset, .unset, .unset, .unset, .unset, .unset, .unset, .unset, .unset, .unset, .unset, .unset, .unset, .unset] [(.long ((9223372036854775807 : Int64) / b))])) rfl (hb hby at_29) _ ?_
    show Steps p.tables e below (s₁.setTop (mkF m 32 #[.val (.long q0), .second, .val (.long q1), .second, .val (.long q2), .second, .val (.int p3), .val (.long q4), .second, .val (.long q5), .second, .val (.long b), .second, .val (.int (Int32.ofNat kn)), .unset, .unset, .unset, .unset, .unset, .unset, .unset, .unset, .unset, .unset, .unset, .unset, .unset, .unset, .unset, .unset, .unset, .unset, .unset, .unset, .unset, .unset, .unset] [(.long (9 : Int64)), (.long ((9223372036854775807 : Int64) / b))])) t
    refine XS.lsub X0.here hx rfl (hb hby at_32) rfl ?_
    show Steps p.tables e below (s₁.setTop (mkF m 33 #[.val (.long q0), .second, .val (.long q1), .second, .val (.long q2), .second, .val (.int p3), .val (.long q4), .second, .val (.long q5), .second, .val (.long b), .second, .val (.int (Int32.ofNat kn)), .unset, .unset, .unset, .unset, .unset, .unset, .unset, .unset, .unset, .unset, .unset, .unset, .unset, .unset, .unset, .unset, .unset, .unset, .unset, .unset, .unset, .unset, .unset] [(.long (((9223372036854775807 : Int64) / b) - (9 : Int64)))])) t
    refine XS.lstore X0.here hx rfl (hb hby at_33) rfl (l' := #[.val (.long q0), .second, .val (.long q1), .second, .val (.long q2), .second, .val (.int p3), .val (.long q4), .second, .val (.long q5), .second, .val (.long b), .second, .val (.int (Int32.ofNat kn)), .val (.long (((9223372036854775807 : Int64) / b) - (9 : Int64))), .second, .unset, .unset, .unset, .unset, .unset, .unset, .unset, .unset, .unset, .unset, .unset, .unset, .unset, .unset, .unset, .unset, .unset, .unset, .unset, .unset, .unset]) rfl ?_
    exact kk
  obtain ⟨lim, h_lim⟩ : ∃ z : Int64, z = (((9223372036854775807 : Int64) / b) - (9 : Int64)) := ⟨_, rfl⟩
  have c179 : Goes p e below s₁ (entryFrame m #[(.long q0), (.long q1), (.long q2), (.int p3), (.long q4), (.long q5)] maxLocals) s₁ (mkF m 35 #[.val (.long q0), .second, .val (.long q1), .second, .val (.long q2), .second, .val (.int p3), .val (.long q4), .second, .val (.long q5), .second, .val (.long b), .second, .val (.int (Int32.ofNat kn)), .val (.long lim), .second, .unset, .unset, .unset, .unset, .unset, .unset, .unset, .unset, .unset, .unset, .unset, .unset, .unset, .unset, .unset, .unset, .unset, .unset, .unset, .unset, .unset] []) := by rw [h_lim]; exact c178
  have hlim := own_lim hB.1 hB.2 h_lim
  have c180 : Goes p e below s₁ (entryFrame m #[(.long q0), (.long q1), (.long q2), (.int p3), (.long q4), (.long q5)] maxLocals) s₁ (mkF m 41 #[.val (.long q0), .second, .val (.long q1), .second, .val (.long q2), .second, .val (.int p3), .val (.long q4), .second, .val (.long q5), .second, .val (.long b), .second, .val (.int (Int32.ofNat kn)), .val (.long lim), .second, .val (.long (q1 - q1 / lim * lim)), .second, .unset, .unset, .unset, .unset, .unset, .unset, .unset, .unset, .unset, .unset, .unset, .unset, .unset, .unset, .unset, .unset, .unset, .unset, .unset] []) := by
    intro t kk
    refine c179 t ?_
    show Steps p.tables e below (s₁.setTop (mkF m 35 #[.val (.long q0), .second, .val (.long q1), .second, .val (.long q2), .second, .val (.int p3), .val (.long q4), .second, .val (.long q5), .second, .val (.long b), .second, .val (.int (Int32.ofNat kn)), .val (.long lim), .second, .unset, .unset, .unset, .unset, .unset, .unset, .unset, .unset, .unset, .unset, .unset, .unset, .unset, .unset, .unset, .unset, .unset, .unset, .unset, .unset, .unset] [])) t
    refine XS.lloadN X0.here hx rfl (hb hby at_35) rfl ?_
    show Steps p.tables e below (s₁.setTop (mkF m 36 #[.val (.long q0), .second, .val (.long q1), .second, .val (.long q2), .second, .val (.int p3), .val (.long q4), .second, .val (.long q5), .second, .val (.long b), .second, .val (.int (Int32.ofNat kn)), .val (.long lim), .second, .unset, .unset, .unset, .unset, .unset, .unset, .unset, .unset, .unset, .unset, .unset, .unset, .unset, .unset, .unset, .unset, .unset, .unset, .unset, .unset, .unset] [(.long q1)])) t
    refine XS.lload X0.here hx rfl (hb hby at_36) rfl ?_
    show Steps p.tables e below (s₁.setTop (mkF m 38 #[.val (.long q0), .second, .val (.long q1), .second, .val (.long q2), .second, .val (.int p3), .val (.long q4), .second, .val (.long q5), .second, .val (.long b), .second, .val (.int (Int32.ofNat kn)), .val (.long lim), .second, .unset, .unset, .unset, .unset, .unset, .unset, .unset, .unset, .unset, .unset, .unset, .unset, .unset, .unset, .unset, .unset, .unset, .unset, .unset, .unset, .unset] [(.long lim), (.long q1)])) t
    refine XS.lrem X0.here hx rfl (hb hby at_38) rfl (own_nz hlim.2) ?_
    show Steps p.tables e below (s₁.setTop (mkF m 39 #[.val (.long q0), .second, .val (.long q1), .second, .val (.long q2), .second, .val (.int p3), .val (.long q4), .second, .val (.long q5), .second, .val (.long b), .second, .val (.int (Int32.ofNat kn)), .val (.long lim), .second, .unset, .unset, .unset, .unset, .unset, .unset, .unset, .unset, .unset, .unset, .unset, .unset, .unset, .unset, .unset, .unset, .unset, .unset, .unset, .unset, .unset] [(.long (q1 - q1 / lim * lim))])) t
    refine XS.lstore X0.here hx rfl (hb hby at_39) rfl (l' := #[.val (.long q0), .second, .val (.long q1), .second, .val (.long q2), .second, .val (.int p3), .val (.long q4), .second, .val (.long q5), .second, .val (.long b), .second, .val (.int (Int32.ofNat kn)), .val (.long lim), .second, .val (.long (q1 - q1 / lim * lim)), .second, .unset, .unset, .unset, .unset, .unset, .unset, .unset, .unset, .unset, .unset, .unset, .unset, .unset, .unset, .unset, .unset, .unset, .unset, .unset]) rfl ?_
    exact kk
  obtain ⟨bn, h_bn⟩ : ∃ z : Int64, z = (q1 - q1 / lim * lim) := ⟨_, rfl⟩
  have c181 : Goes p e below s₁ (entryFrame m #[(.long q0), (.long q1), (.long q2), (.int p3), (.long q4), (.long q5)] maxLocals) s₁ (mkF m 41 #[.val (.long q0), .second, .val (.long q1), .second, .val (.long q2), .second, .val (.int p3), .val (.long q4), .second, .val (.long q5), .second, .val (.long b), .second, .val (.int (Int32.ofNat kn)), .val (.long lim), .second, .val (.long bn), .second, .unset, .unset, .unset, .unset, .unset, .unset, .unset, .unset, .unset, .unset, .unset, .unset, .unset, .unset, .unset, .unset, .unset, .unset, .unset] []) := by rw [h_bn]; exact c180
  have hbn := own_bn (p := q1) hlim.1 hlim.2
  rw [← h_bn] at hbn
  have c182 : Goes p e below s₁ (entryFrame m #[(.long q0), (.long q1), (.long q2), (.int p3), (.long q4), (.long q5)] maxLocals) s₁ (mkF m 48 #[.val (.long q0), .second, .val (.long q1), .second, .val (.long q2), .second, .val (.int p3), .val (.long q4), .second, .val (.long q5), .second, .val (.long b), .second, .val (.int (Int32.ofNat kn)), .val (.long lim), .second, .val (.long bn), .second, .val (.int (p3 &&& (7 : Int32))), .unset, .unset, .unset, .unset, .unset, .unset, .unset, .unset, .unset, .unset, .unset, .unset, .unset, .unset, .unset, .unset, .unset, .unset] []) := by
    intro t kk
    refine c181 t ?_
    show Steps p.tables e below (s₁.setTop (mkF m 41 #[.val (.long q0), .second, .val (.long q1), .second, .val (.long q2), .second, .val (.int p3), .val (.long q4), .second, .val (.long q5), .second, .val (.long b), .second, .val (.int (Int32.ofNat kn)), .val (.long lim), .second, .val (.long bn), .second, .unset, .unset, .unset, .unset, .unset, .unset, .unset, .unset, .unset, .unset, .unset, .unset, .unset, .unset, .unset, .unset, .unset, .unset, .unset] [])) t
    refine XS.iload X0.here hx rfl (hb hby at_41) rfl ?_
    show Steps p.tables e below (s₁.setTop (mkF m 43 #[.val (.long q0), .second, .val (.long q1), .second, .val (.long q2), .second, .val (.int p3), .val (.long q4), .second, .val (.long q5), .second, .val (.long b), .second, .val (.int (Int32.ofNat kn)), .val (.long lim), .second, .val (.long bn), .second, .unset, .unset, .unset, .unset, .unset, .unset, .unset, .unset, .unset, .unset, .unset, .unset, .unset, .unset, .unset, .unset, .unset, .unset, .unset] [(.int p3)])) t
    refine XS.bipush X0.here hx rfl (hb hby at_43) ?_
    show Steps p.tables e below (s₁.setTop (mkF m 45 #[.val (.long q0), .second, .val (.long q1), .second, .val (.long q2), .second, .val (.int p3), .val (.long q4), .second, .val (.long q5), .second, .val (.long b), .second, .val (.int (Int32.ofNat kn)), .val (.long lim), .second, .val (.long bn), .second, .unset, .unset, .unset, .unset, .unset, .unset, .unset, .unset, .unset, .unset, .unset, .unset, .unset, .unset, .unset, .unset, .unset, .unset, .unset] [(.int (7 : Int32)), (.int p3)])) t
    refine XS.iand X0.here hx rfl (hb hby at_45) rfl ?_
    show Steps p.tables e below (s₁.setTop (mkF m 46 #[.val (.long q0), .second, .val (.long q1), .second, .val (.long q2), .second, .val (.int p3), .val (.long q4), .second, .val (.long q5), .second, .val (.long b), .second, .val (.int (Int32.ofNat kn)), .val (.long lim), .second, .val (.long bn), .second, .unset, .unset, .unset, .unset, .unset, .unset, .unset, .unset, .unset, .unset, .unset, .unset, .unset, .unset, .unset, .unset, .unset, .unset, .unset] [(.int (p3 &&& (7 : Int32)))])) t
    refine XS.istore X0.here hx rfl (hb hby at_46) rfl (l' := #[.val (.long q0), .second, .val (.long q1), .second, .val (.long q2), .second, .val (.int p3), .val (.long q4), .second, .val (.long q5), .second, .val (.long b), .second, .val (.int (Int32.ofNat kn)), .val (.long lim), .second, .val (.long bn), .second, .val (.int (p3 &&& (7 : Int32))), .unset, .unset, .unset, .unset, .unset, .unset, .unset, .unset, .unset, .unset, .unset, .unset, .unset, .unset, .unset, .unset, .unset, .unset]) rfl ?_
    exact kk
  obtain ⟨j1, h_j1⟩ : ∃ z : Int32, z = (p3 &&& (7 : Int32)) := ⟨_, rfl⟩
  have c183 : Goes p e below s₁ (entryFrame m #[(.long q0), (.long q1), (.long q2), (.int p3), (.long q4), (.long q5)] maxLocals) s₁ (mkF m 48 #[.val (.long q0), .second, .val (.long q1), .second, .val (.long q2), .second, .val (.int p3), .val (.long q4), .second, .val (.long q5), .second, .val (.long b), .second, .val (.int (Int32.ofNat kn)), .val (.long lim), .second, .val (.long bn), .second, .val (.int j1), .unset, .unset, .unset, .unset, .unset, .unset, .unset, .unset, .unset, .unset, .unset, .unset, .unset, .unset, .unset, .unset, .unset, .unset] []) := by rw [h_j1]; exact c182
  have hj1 := own_seven p3
  rw [← h_j1] at hj1
  have c184 : Goes p e below s₁ (entryFrame m #[(.long q0), (.long q1), (.long q2), (.int p3), (.long q4), (.long q5)] maxLocals) s₁ (mkF m 59 #[.val (.long q0), .second, .val (.long q1), .second, .val (.long q2), .second, .val (.int p3), .val (.long q4), .second, .val (.long q5), .second, .val (.long b), .second, .val (.int (Int32.ofNat kn)), .val (.long lim), .second, .val (.long bn), .second, .val (.int j1), .unset, .unset, .unset, .unset, .unset, .unset, .unset, .unset, .unset, .unset, .unset, .unset, .unset, .unset, .unset, .unset, .unset, .unset] [(.int (((p3.toUInt32 >>> ((3 : Int32) &&& 31).toUInt32).toInt32) &&& (7 : Int32))), (.int j1), (.int j1)]) := by
    intro t kk
    refine c183 t ?_
    show Steps p.tables e below (s₁.setTop (mkF m 48 #[.val (.long q0), .second, .val (.long q1), .second, .val (.long q2), .second, .val (.int p3), .val (.long q4), .second, .val (.long q5), .second, .val (.long b), .second, .val (.int (Int32.ofNat kn)), .val (.long lim), .second, .val (.long bn), .second, .val (.int j1), .unset, .unset, .unset, .unset, .unset, .unset, .unset, .unset, .unset, .unset, .unset, .unset, .unset, .unset, .unset, .unset, .unset, .unset] [])) t
    refine XS.iload X0.here hx rfl (hb hby at_48) rfl ?_
    show Steps p.tables e below (s₁.setTop (mkF m 50 #[.val (.long q0), .second, .val (.long q1), .second, .val (.long q2), .second, .val (.int p3), .val (.long q4), .second, .val (.long q5), .second, .val (.long b), .second, .val (.int (Int32.ofNat kn)), .val (.long lim), .second, .val (.long bn), .second, .val (.int j1), .unset, .unset, .unset, .unset, .unset, .unset, .unset, .unset, .unset, .unset, .unset, .unset, .unset, .unset, .unset, .unset, .unset, .unset] [(.int j1)])) t
    refine XS.iload X0.here hx rfl (hb hby at_50) rfl ?_
    show Steps p.tables e below (s₁.setTop (mkF m 52 #[.val (.long q0), .second, .val (.long q1), .second, .val (.long q2), .second, .val (.int p3), .val (.long q4), .second, .val (.long q5), .second, .val (.long b), .second, .val (.int (Int32.ofNat kn)), .val (.long lim), .second, .val (.long bn), .second, .val (.int j1), .unset, .unset, .unset, .unset, .unset, .unset, .unset, .unset, .unset, .unset, .unset, .unset, .unset, .unset, .unset, .unset, .unset, .unset] [(.int j1), (.int j1)])) t
    refine XS.iload X0.here hx rfl (hb hby at_52) rfl ?_
    show Steps p.tables e below (s₁.setTop (mkF m 54 #[.val (.long q0), .second, .val (.long q1), .second, .val (.long q2), .second, .val (.int p3), .val (.long q4), .second, .val (.long q5), .second, .val (.long b), .second, .val (.int (Int32.ofNat kn)), .val (.long lim), .second, .val (.long bn), .second, .val (.int j1), .unset, .unset, .unset, .unset, .unset, .unset, .unset, .unset, .unset, .unset, .unset, .unset, .unset, .unset, .unset, .unset, .unset, .unset] [(.int p3), (.int j1), (.int j1)])) t
    refine XS.iconst X0.here hx rfl (hb hby at_54) ?_
    show Steps p.tables e below (s₁.setTop (mkF m 55 #[.val (.long q0), .second, .val (.long q1), .second, .val (.long q2), .second, .val (.int p3), .val (.long q4), .second, .val (.long q5), .second, .val (.long b), .second, .val (.int (Int32.ofNat kn)), .val (.long lim), .second, .val (.long bn), .second, .val (.int j1), .unset, .unset, .unset, .unset, .unset, .unset, .unset, .unset, .unset, .unset, .unset, .unset, .unset, .unset, .unset, .unset, .unset, .unset] [(.int (3 : Int32)), (.int p3), (.int j1), (.int j1)])) t
    refine XS.iushr X0.here hx rfl (hb hby at_55) rfl ?_
    show Steps p.tables e below (s₁.setTop (mkF m 56 #[.val (.long q0), .second, .val (.long q1), .second, .val (.long q2), .second, .val (.int p3), .val (.long q4), .second, .val (.long q5), .second, .val (.long b), .second, .val (.int (Int32.ofNat kn)), .val (.long lim), .second, .val (.long bn), .second, .val (.int j1), .unset, .unset, .unset, .unset, .unset, .unset, .unset, .unset, .unset, .unset, .unset, .unset, .unset, .unset, .unset, .unset, .unset, .unset] [(.int ((p3.toUInt32 >>> ((3 : Int32) &&& 31).toUInt32).toInt32)), (.int j1), (.int j1)])) t
    refine XS.bipush X0.here hx rfl (hb hby at_56) ?_
    show Steps p.tables e below (s₁.setTop (mkF m 58 #[.val (.long q0), .second, .val (.long q1), .second, .val (.long q2), .second, .val (.int p3), .val (.long q4), .second, .val (.long q5), .second, .val (.long b), .second, .val (.int (Int32.ofNat kn)), .val (.long lim), .second, .val (.long bn), .second, .val (.int j1), .unset, .unset, .unset, .unset, .unset, .unset, .unset, .unset, .unset, .unset, .unset, .unset, .unset, .unset, .unset, .unset, .unset, .unset] [(.int (7 : Int32)), (.int ((p3.toUInt32 >>> ((3 : Int32) &&& 31).toUInt32).toInt32)), (.int j1), (.int j1)])) t
    refine XS.iand X0.here hx rfl (hb hby at_58) rfl ?_
    exact kk
  obtain ⟨_, _, ⟨T185, L185, k185, n185⟩, -, X185, ⟨Lc185, hQ185, l185, y185, z185⟩, st185⟩ := Jvm.LawKit.callS X0 hx (y := (⟨"java/lang/Math", "min", "(II)I"⟩ : MethodName)) hown (mvT hZ (hw _ (List.mem_of_getElem? (i := 5) rfl))) (mvT hZ (hw _ (List.mem_of_getElem? (i := 6) rfl))) (mvT hZ (hw _ (List.mem_of_getElem? (i := 7) rfl))) (mvT hZ (hw _ (List.mem_of_getElem? (i := 8) rfl))) (by decide) (backOf (W := 1) (rm_min l Z a0 hw [] j1 (((p3.toUInt32 >>> ((3 : Int32) &&& 31).toUInt32).toInt32) &&& (7 : Int32)) h0 n0 Z0) hZ (hw _ (List.mem_of_getElem? (i := 8) rfl)) (hw _ (List.mem_of_getElem? (i := 7) rfl)) (by decide) (by decide)) (g := (mkF m 59 #[.val (.long q0), .second, .val (.long q1), .second, .val (.long q2), .second, .val (.int p3), .val (.long q4), .second, .val (.long q5), .second, .val (.long b), .second, .val (.int (Int32.ofNat kn)), .val (.long lim), .second, .val (.long bn), .second, .val (.int j1), .unset, .unset, .unset, .unset, .unset, .unset, .unset, .unset, .unset, .unset, .unset, .unset, .unset, .unset, .unset, .unset, .unset, .unset] [(.int (((p3.toUInt32 >>> ((3 : Int32) &&& 31).toUInt32).toInt32) &&& (7 : Int32))), (.int j1), (.int j1)])) rfl (by rw [hml]; rfl) (argsL := [(.int j1), (.int (((p3.toUInt32 >>> ((3 : Int32) &&& 31).toUInt32).toInt32) &&& (7 : Int32)))]) (rest := [(.int j1)]) (lenOf pd__II_I rfl) rfl (by show 2 * 0 + _ ≤ _; exact Nat.le_of_eq rfl) (hb hby at_59) (fun _ _ => ⟨rfl, e0, (by decide : 0 + 0 ≤ _), (by decide : 0 + 0 ≤ _)⟩)
  dsimp only [Pt.U, Pt.locs, Pt.cells, Pt.slots] at X185 l185 y185 z185 st185 hQ185
  subst l185 y185 z185
  obtain ⟨rfl, Nq185, eq185⟩ := hQ185
  have N185 := Fr.app N0 Nq185
  have c186 : Goes p e below s₁ (entryFrame m #[(.long q0), (.long q1), (.long q2), (.int p3), (.long q4), (.long q5)] maxLocals) T185 (mkF m 62 #[.val (.long q0), .second, .val (.long q1), .second, .val (.long q2), .second, .val (.int p3), .val (.long q4), .second, .val (.long q5), .second, .val (.long b), .second, .val (.int (Int32.ofNat kn)), .val (.long lim), .second, .val (.long bn), .second, .val (.int j1), .unset, .unset, .unset, .unset, .unset, .unset, .unset, .unset, .unset, .unset, .unset, .unset, .unset, .unset, .unset, .unset, .unset, .unset] [(.int (own_min j1 (((p3.toUInt32 >>> ((3 : Int32) &&& 31).toUInt32).toInt32) &&& (7 : Int32)))), (.int j1)]) := fun t kk => c184 t (st185 t kk)
  have c187 : Goes p e below s₁ (entryFrame m #[(.long q0), (.long q1), (.long q2), (.int p3), (.long q4), (.long q5)] maxLocals) T185 (mkF m 65 #[.val (.long q0), .second, .val (.long q1), .second, .val (.long q2), .second, .val (.int p3), .val (.long q4), .second, .val (.long q5), .second, .val (.long b), .second, .val (.int (Int32.ofNat kn)), .val (.long lim), .second, .val (.long bn), .second, .val (.int j1), .val (.int (j1 - (own_min j1 (((p3.toUInt32 >>> ((3 : Int32) &&& 31).toUInt32).toInt32) &&& (7 : Int32))))), .unset, .unset, .unset, .unset, .unset, .unset, .unset, .unset, .unset, .unset, .unset, .unset, .unset, .unset, .unset, .unset, .unset] []) := by
    intro t kk
    refine c186 t ?_
    show Steps p.tables e below (T185.setTop (mkF m 62 #[.val (.long q0), .second, .val (.long q1), .second, .val (.long q2), .second, .val (.int p3), .val (.long q4), .second, .val (.long q5), .second, .val (.long b), .second, .val (.int (Int32.ofNat kn)), .val (.long lim), .second, .val (.long bn), .second, .val (.int j1), .unset, .unset, .unset, .unset, .unset, .unset, .unset, .unset, .unset, .unset, .unset, .unset, .unset, .unset, .unset, .unset, .unset, .unset] [(.int (own_min j1 (((p3.toUInt32 >>> ((3 : Int32) &&& 31).toUInt32).toInt32) &&& (7 : Int32)))), (.int j1)])) t
    refine XS.isub X185.here hx rfl (hb hby at_62) rfl ?_
    show Steps p.tables e below (T185.setTop (mkF m 63 #[.val (.long q0), .second, .val (.long q1), .second, .val (.long q2), .second, .val (.int p3), .val (.long q4), .second, .val (.long q5), .second, .val (.long b), .second, .val (.int (Int32.ofNat kn)), .val (.long lim), .second, .val (.long bn), .second, .val (.int j1), .unset, .unset, .unset, .unset, .unset, .unset, .unset, .unset, .unset, .unset, .unset, .unset, .unset, .unset, .unset, .unset, .unset, .unset] [(.int (j1 - (own_min j1 (((p3.toUInt32 >>> ((3 : Int32) &&& 31).toUInt32).toInt32) &&& (7 : Int32)))))])) t
    refine XS.istore X185.here hx rfl (hb hby at_63) rfl (l' := #[.val (.long q0), .second, .val (.long q1), .second, .val (.long q2), .second, .val (.int p3), .val (.long q4), .second, .val (.long q5), .second, .val (.long b), .second, .val (.int (Int32.ofNat kn)), .val (.long lim), .second, .val (.long bn), .second, .val (.int j1), .val (.int (j1 - (own_min j1 (((p3.toUInt32 >>> ((3 : Int32) &&& 31).toUInt32).toInt32) &&& (7 : Int32))))), .unset, .unset, .unset, .unset, .unset, .unset, .unset, .unset, .unset, .unset, .unset, .unset, .unset, .unset, .unset, .unset, .unset]) rfl ?_
    exact kk
  obtain ⟨j2, h_j2⟩ : ∃ z : Int32, z = (j1 - (own_min j1 (((p3.toUInt32 >>> ((3 : Int32) &&& 31).toUInt32).toInt32) &&& (7 : Int32)))) := ⟨_, rfl⟩
  have c188 : Goes p e below s₁ (entryFrame m #[(.long q0), (.long q1), (.long q2), (.int p3), (.long q4), (.long q5)] maxLocals) T185 (mkF m 65 #[.val (.long q0), .second, .val (.long q1), .second, .val (.long q2), .second, .val (.int p3), .val (.long q4), .second, .val (.long q5), .second, .val (.long b), .second, .val (.int (Int32.ofNat kn)), .val (.long lim), .second, .val (.long bn), .second, .val (.int j1), .val (.int j2), .unset, .unset, .unset, .unset, .unset, .unset, .unset, .unset, .unset, .unset, .unset, .unset, .unset, .unset, .unset, .unset, .unset] []) := by rw [h_j2]; exact c187
  have hj2 : 0 ≤ j2.toInt ∧ j2.toInt ≤ j1.toInt := by rw [h_j2]; exact own_jj hj1.1 hj1.2 (own_seven _).1
  have c189 : Goes p e below s₁ (entryFrame m #[(.long q0), (.long q1), (.long q2), (.int p3), (.long q4), (.long q5)] maxLocals) T185 (mkF m 77 #[.val (.long q0), .second, .val (.long q1), .second, .val (.long q2), .second, .val (.int p3), .val (.long q4), .second, .val (.long q5), .second, .val (.long b), .second, .val (.int (Int32.ofNat kn)), .val (.long lim), .second, .val (.long bn), .second, .val (.int j1), .val (.int j2), .unset, .unset, .unset, .unset, .unset, .unset, .unset, .unset, .unset, .unset, .unset, .unset, .unset, .unset, .unset, .unset, .unset] [(.int (((p3.toUInt32 >>> ((6 : Int32) &&& 31).toUInt32).toInt32) &&& (7 : Int32))), (.int j2), (.int j2)]) := by
    intro t kk
    refine c188 t ?_
    show Steps p.tables e below (T185.setTop (mkF m 65 #[.val (.long q0), .second, .val (.long q1), .second, .val (.long q2), .second, .val (.int p3), .val (.long q4), .second, .val (.long q5), .second, .val (.long b), .second, .val (.int (Int32.ofNat kn)), .val (.long lim), .second, .val (.long bn), .second, .val (.int j1), .val (.int j2), .unset, .unset, .unset, .unset, .unset, .unset, .unset, .unset, .unset, .unset, .unset, .unset, .unset, .unset, .unset, .unset, .unset] [])) t
    refine XS.iload X185.here hx rfl (hb hby at_65) rfl ?_
    show Steps p.tables e below (T185.setTop (mkF m 67 #[.val (.long q0), .second, .val (.long q1), .second, .val (.long q2), .second, .val (.int p3), .val (.long q4), .second, .val (.long q5), .second, .val (.long b), .second, .val (.int (Int32.ofNat kn)), .val (.long lim), .second, .val (.long bn), .second, .val (.int j1), .val (.int j2), .unset, .unset, .unset, .unset, .unset, .unset, .unset, .unset, .unset, .unset, .unset, .unset, .unset, .unset, .unset, .unset, .unset] [(.int j2)])) t
    refine XS.iload X185.here hx rfl (hb hby at_67) rfl ?_
    show Steps p.tables e below (T185.setTop (mkF m 69 #[.val (.long q0), .second, .val (.long q1), .second, .val (.long q2), .second, .val (.int p3), .val (.long q4), .second, .val (.long q5), .second, .val (.long b), .second, .val (.int (Int32.ofNat kn)), .val (.long lim), .second, .val (.long bn), .second, .val (.int j1), .val (.int j2), .unset, .unset, .unset, .unset, .unset, .unset, .unset, .unset, .unset, .unset, .unset, .unset, .unset, .unset, .unset, .unset, .unset] [(.int j2), (.int j2)])) t
    refine XS.iload X185.here hx rfl (hb hby at_69) rfl ?_
    show Steps p.tables e below (T185.setTop (mkF m 71 #[.val (.long q0), .second, .val (.long q1), .second, .val (.long q2), .second, .val (.int p3), .val (.long q4), .second, .val (.long q5), .second, .val (.long b), .second, .val (.int (Int32.ofNat kn)), .val (.long lim), .second, .val (.long bn), .second, .val (.int j1), .val (.int j2), .unset, .unset, .unset, .unset, .unset, .unset, .unset, .unset, .unset, .unset, .unset, .unset, .unset, .unset, .unset, .unset, .unset] [(.int p3), (.int j2), (.int j2)])) t
    refine XS.bipush X185.here hx rfl (hb hby at_71) ?_
    show Steps p.tables e below (T185.setTop (mkF m 73 #[.val (.long q0), .second, .val (.long q1), .second, .val (.long q2), .second, .val (.int p3), .val (.long q4), .second, .val (.long q5), .second, .val (.long b), .second, .val (.int (Int32.ofNat kn)), .val (.long lim), .second, .val (.long bn), .second, .val (.int j1), .val (.int j2), .unset, .unset, .unset, .unset, .unset, .unset, .unset, .unset, .unset, .unset, .unset, .unset, .unset, .unset, .unset, .unset, .unset] [(.int (6 : Int32)), (.int p3), (.int j2), (.int j2)])) t
    refine XS.iushr X185.here hx rfl (hb hby at_73) rfl ?_
    show Steps p.tables e below (T185.setTop (mkF m 74 #[.val (.long q0), .second, .val (.long q1), .second, .val (.long q2), .second, .val (.int p3), .val (.long q4), .second, .val (.long q5), .second, .val (.long b), .second, .val (.int (Int32.ofNat kn)), .val (.long lim), .second, .val (.long bn), .second, .val (.int j1), .val (.int j2), .unset, .unset, .unset, .unset, .unset, .unset, .unset, .unset, .unset, .unset, .unset, .unset, .unset, .unset, .unset, .unset, .unset] [(.int ((p3.toUInt32 >>> ((6 : Int32) &&& 31).toUInt32).toInt32)), (.int j2), (.int j2)])) t
    refine XS.bipush X185.here hx rfl (hb hby at_74) ?_
    show Steps p.tables e below (T185.setTop (mkF m 76 #[.val (.long q0), .second, .val (.long q1), .second, .val (.long q2), .second, .val (.int p3), .val (.long q4), .second, .val (.long q5), .second, .val (.long b), .second, .val (.int (Int32.ofNat kn)), .val (.long lim), .second, .val (.long bn), .second, .val (.int j1), .val (.int j2), .unset, .unset, .unset, .unset, .unset, .unset, .unset, .unset, .unset, .unset, .unset, .unset, .unset, .unset, .unset, .unset, .unset] [(.int (7 : Int32)), (.int ((p3.toUInt32 >>> ((6 : Int32) &&& 31).toUInt32).toInt32)), (.int j2), (.int j2)])) t
    refine XS.iand X185.here hx rfl (hb hby at_76) rfl ?_
    exact kk
  obtain ⟨_, _, ⟨T190, L190, k190, n190⟩, -, X190, ⟨Lc190, hQ190, l190, y190, z190⟩, st190⟩ := Jvm.LawKit.callS X185 hx (y := (⟨"java/lang/Math", "min", "(II)I"⟩ : MethodName)) hown (mvT hZ (hw _ (List.mem_of_getElem? (i := 5) rfl))) (mvT hZ (hw _ (List.mem_of_getElem? (i := 6) rfl))) (mvT hZ (hw _ (List.mem_of_getElem? (i := 7) rfl))) (mvT hZ (hw _ (List.mem_of_getElem? (i := 8) rfl))) (by decide) (backOf (W := 1) (rm_min l Z a0 hw [] j2 (((p3.toUInt32 >>> ((6 : Int32) &&& 31).toUInt32).toInt32) &&& (7 : Int32)) h0 n0 Z0) hZ (hw _ (List.mem_of_getElem? (i := 8) rfl)) (hw _ (List.mem_of_getElem? (i := 7) rfl)) (by decide) (by decide)) (g := (mkF m 77 #[.val (.long q0), .second, .val (.long q1), .second, .val (.long q2), .second, .val (.int p3), .val (.long q4), .second, .val (.long q5), .second, .val (.long b), .second, .val (.int (Int32.ofNat kn)), .val (.long lim), .second, .val (.long bn), .second, .val (.int j1), .val (.int j2), .unset, .unset, .unset, .unset, .unset, .unset, .unset, .unset, .unset, .unset, .unset, .unset, .unset, .unset, .unset, .unset, .unset] [(.int (((p3.toUInt32 >>> ((6 : Int32) &&& 31).toUInt32).toInt32) &&& (7 : Int32))), (.int j2), (.int j2)])) rfl (by rw [hml]; rfl) (argsL := [(.int j2), (.int (((p3.toUInt32 >>> ((6 : Int32) &&& 31).toUInt32).toInt32) &&& (7 : Int32)))]) (rest := [(.int j2)]) (lenOf pd__II_I rfl) rfl (by show 2 * 0 + _ ≤ _; exact Nat.le_of_eq rfl) (hb hby at_77) (fun _ _ => ⟨rfl, eq185, (by decide : 0 + 0 ≤ _), (by decide : 0 + 0 ≤ _)⟩)
  dsimp only [Pt.U, Pt.locs, Pt.cells, Pt.slots] at X190 l190 y190 z190 st190 hQ190
  subst l190 y190 z190
  obtain ⟨rfl, Nq190, eq190⟩ := hQ190
  have N190 := Fr.app N185 Nq190
  have c191 : Goes p e below s₁ (entryFrame m #[(.long q0), (.long q1), (.long q2), (.int p3), (.long q4), (.long q5)] maxLocals) T190 (mkF m 80 #[.val (.long q0), .second, .val (.long q1), .second, .val (.long q2), .second, .val (.int p3), .val (.long q4), .second, .val (.long q5), .second, .val (.long b), .second, .val (.int (Int32.ofNat kn)), .val (.long lim), .second, .val (.long bn), .second, .val (.int j1), .val (.int j2), .unset, .unset, .unset, .unset, .unset, .unset, .unset, .unset, .unset, .unset, .unset, .unset, .unset, .unset, .unset, .unset, .unset] [(.int (own_min j2 (((p3.toUInt32 >>> ((6 : Int32) &&& 31).toUInt32).toInt32) &&& (7 : Int32)))), (.int j2)]) := fun t kk => c189 t (st190 t kk)
  have c192 : Goes p e below s₁ (entryFrame m #[(.long q0), (.long q1), (.long q2), (.int p3), (.long q4), (.long q5)] maxLocals) T190 (mkF m 83 #[.val (.long q0), .second, .val (.long q1), .second, .val (.long q2), .second, .val (.int p3), .val (.long q4), .second, .val (.long q5), .second, .val (.long b), .second, .val (.int (Int32.ofNat kn)), .val (.long lim), .second, .val (.long bn), .second, .val (.int j1), .val (.int j2), .val (.int (j2 - (own_min j2 (((p3.toUInt32 >>> ((6 : Int32) &&& 31).toUInt32).toInt32) &&& (7 : Int32))))), .unset, .unset, .unset, .unset, .unset, .unset, .unset, .unset, .unset, .unset, .unset, .unset, .unset, .unset, .unset, .unset] []) := by
    intro t kk
    refine c191 t ?_
    show Steps p.tables e below (T190.setTop (mkF m 80 #[.val (.long q0), .second, .val (.long q1), .second, .val (.long q2), .second, .val (.int p3), .val (.long q4), .second, .val (.long q5), .second, .val (.long b), .second, .val (.int (Int32.ofNat kn)), .val (.long lim), .second, .val (.long bn), .second, .val (.int j1), .val (.int j2), .unset, .unset, .unset, .unset, .unset, .unset, .unset, .unset, .unset, .unset, .unset, .unset, .unset, .unset, .unset, .unset, .unset] [(.int (own_min j2 (((p3.toUInt32 >>> ((6 : Int32) &&& 31).toUInt32).toInt32) &&& (7 : Int32)))), (.int j2)])) t
    refine XS.isub X190.here hx rfl (hb hby at_80) rfl ?_
    show Steps p.tables e below (T190.setTop (mkF m 81 #[.val (.long q0), .second, .val (.long q1), .second, .val (.long q2), .second, .val (.int p3), .val (.long q4), .second, .val (.long q5), .second, .val (.long b), .second, .val (.int (Int32.ofNat kn)), .val (.long lim), .second, .val (.long bn), .second, .val (.int j1), .val (.int j2), .unset, .unset, .unset, .unset, .unset, .unset, .unset, .unset, .unset, .unset, .unset, .unset, .unset, .unset, .unset, .unset, .unset] [(.int (j2 - (own_min j2 (((p3.toUInt32 >>> ((6 : Int32) &&& 31).toUInt32).toInt32) &&& (7 : Int32)))))])) t
    refine XS.istore X190.here hx rfl (hb hby at_81) rfl (l' := #[.val (.long q0), .second, .val (.long q1), .second, .val (.long q2), .second, .val (.int p3), .val (.long q4), .second, .val (.long q5), .second, .val (.long b), .second, .val (.int (Int32.ofNat kn)), .val (.long lim), .second, .val (.long bn), .second, .val (.int j1), .val (.int j2), .val (.int (j2 - (own_min j2 (((p3.toUInt32 >>> ((6 : Int32) &&& 31).toUInt32).toInt32) &&& (7 : Int32))))), .unset, .unset, .unset, .unset, .unset, .unset, .unset, .unset, .unset, .unset, .unset, .unset, .unset, .unset, .unset, .unset]) rfl ?_
    exact kk
  obtain ⟨j3, h_j3⟩ : ∃ z : Int32, z = (j2 - (own_min j2 (((p3.toUInt32 >>> ((6 : Int32) &&& 31).toUInt32).toInt32) &&& (7 : Int32)))) := ⟨_, rfl⟩
  have c193 : Goes p e below s₁ (entryFrame m #[(.long q0), (.long q1), (.long q2), (.int p3), (.long q4), (.long q5)] maxLocals) T190 (mkF m 83 #[.val (.long q0), .second, .val (.long q1), .second, .val (.long q2), .second, .val (.int p3), .val (.long q4), .second, .val (.long q5), .second, .val (.long b), .second, .val (.int (Int32.ofNat kn)), .val (.long lim), .second, .val (.long bn), .second, .val (.int j1), .val (.int j2), .val (.int j3), .unset, .unset, .unset, .unset, .unset, .unset, .unset, .unset, .unset, .unset, .unset, .unset, .unset, .unset, .unset, .unset] []) := by rw [h_j3]; exact c192
  have hj3 : 0 ≤ j3.toInt ∧ j3.toInt ≤ j2.toInt := by rw [h_j3]; exact own_jj hj2.1 (by omega) (own_seven _).1
  have c194 : Goes p e below s₁ (entryFrame m #[(.long q0), (.long q1), (.long q2), (.int p3), (.long q4), (.long q5)] maxLocals) T190 (mkF m 90 #[.val (.long q0), .second, .val (.long q1), .second, .val (.long q2), .second, .val (.int p3), .val (.long q4), .second, .val (.long q5), .second, .val (.long b), .second, .val (.int (Int32.ofNat kn)), .val (.long lim), .second, .val (.long bn), .second, .val (.int j1), .val (.int j2), .val (.int j3), .unset, .unset, .unset, .unset, .unset, .unset, .unset, .unset, .unset, .unset, .unset, .unset, .unset, .unset, .unset, .unset] [(.int (((p3.toUInt32 >>> ((9 : Int32) &&& 31).toUInt32).toInt32) &&& (1 : Int32)))]) := by
    intro t kk
    refine c193 t ?_
    show Steps p.tables e below (T190.setTop (mkF m 83 #[.val (.long q0), .second, .val (.long q1), .second, .val (.long q2), .second, .val (.int p3), .val (.long q4), .second, .val (.long q5), .second, .val (.long b), .second, .val (.int (Int32.ofNat kn)), .val (.long lim), .second, .val (.long bn), .second, .val (.int j1), .val (.int j2), .val (.int j3), .unset, .unset, .unset, .unset, .unset, .unset, .unset, .unset, .unset, .unset, .unset, .unset, .unset, .unset, .unset, .unset] [])) t
    refine XS.iload X190.here hx rfl (hb hby at_83) rfl ?_
    show Steps p.tables e below (T190.setTop (mkF m 85 #[.val (.long q0), .second, .val (.long q1), .second, .val (.long q2), .second, .val (.int p3), .val (.long q4), .second, .val (.long q5), .second, .val (.long b), .second, .val (.int (Int32.ofNat kn)), .val (.long lim), .second, .val (.long bn), .second, .val (.int j1), .val (.int j2), .val (.int j3), .unset, .unset, .unset, .unset, .unset, .unset, .unset, .unset, .unset, .unset, .unset, .unset, .unset, .unset, .unset, .unset] [(.int p3)])) t
    refine XS.bipush X190.here hx rfl (hb hby at_85) ?_
    show Steps p.tables e below (T190.setTop (mkF m 87 #[.val (.long q0), .second, .val (.long q1), .second, .val (.long q2), .second, .val (.int p3), .val (.long q4), .second, .val (.long q5), .second, .val (.long b), .second, .val (.int (Int32.ofNat kn)), .val (.long lim), .second, .val (.long bn), .second, .val (.int j1), .val (.int j2), .val (.int j3), .unset, .unset, .unset, .unset, .unset, .unset, .unset, .unset, .unset, .unset, .unset, .unset, .unset, .unset, .unset, .unset] [(.int (9 : Int32)), (.int p3)])) t
    refine XS.iushr X190.here hx rfl (hb hby at_87) rfl ?_
    show Steps p.tables e below (T190.setTop (mkF m 88 #[.val (.long q0), .second, .val (.long q1), .second, .val (.long q2), .second, .val (.int p3), .val (.long q4), .second, .val (.long q5), .second, .val (.long b), .second, .val (.int (Int32.ofNat kn)), .val (.long lim), .second, .val (.long bn), .second, .val (.int j1), .val (.int j2), .val (.int j3), .unset, .unset, .unset, .unset, .unset, .unset, .unset, .unset, .unset, .unset, .unset, .unset, .unset, .unset, .unset, .unset] [(.int ((p3.toUInt32 >>> ((9 : Int32) &&& 31).toUInt32).toInt32))])) t
    refine XS.iconst X190.here hx rfl (hb hby at_88) ?_
    show Steps p.tables e below (T190.setTop (mkF m 89 #[.val (.long q0), .second, .val (.long q1), .second, .val (.long q2), .second, .val (.int p3), .val (.long q4), .second, .val (.long q5), .second, .val (.long b), .second, .val (.int (Int32.ofNat kn)), .val (.long lim), .second, .val (.long bn), .second, .val (.int j1), .val (.int j2), .val (.int j3), .unset, .unset, .unset, .unset, .unset, .unset, .unset, .unset, .unset, .unset, .unset, .unset, .unset, .unset, .unset, .unset] [(.int (1 : Int32)), (.int ((p3.toUInt32 >>> ((9 : Int32) &&& 31).toUInt32).toInt32))])) t
    refine XS.iand X190.here hx rfl (hb hby at_89) rfl ?_
    exact kk
  obtain ⟨f1, hm195, c195⟩ : ∃ f1 : Int32, (True) ∧ Goes p e below s₁ (entryFrame m #[(.long q0), (.long q1), (.long q2), (.int p3), (.long q4), (.long q5)] maxLocals) T190 (mkF m 98 #[.val (.long q0), .second, .val (.long q1), .second, .val (.long q2), .second, .val (.int p3), .val (.long q4), .second, .val (.long q5), .second, .val (.long b), .second, .val (.int (Int32.ofNat kn)), .val (.long lim), .second, .val (.long bn), .second, .val (.int j1), .val (.int j2), .val (.int j3), .unset, .unset, .unset, .unset, .unset, .unset, .unset, .unset, .unset, .unset, .unset, .unset, .unset, .unset, .unset, .unset] [(.int f1)]) := by
    by_cases hc90_196 : (((p3.toUInt32 >>> ((9 : Int32) &&& 31).toUInt32).toInt32) &&& (1 : Int32)) = (0 : Int32)
    · have c197 : Goes p e below s₁ (entryFrame m #[(.long q0), (.long q1), (.long q2), (.int p3), (.long q4), (.long q5)] maxLocals) T190 (mkF m 98 #[.val (.long q0), .second, .val (.long q1), .second, .val (.long q2), .second, .val (.int p3), .val (.long q4), .second, .val (.long q5), .second, .val (.long b), .second, .val (.int (Int32.ofNat kn)), .val (.long lim), .second, .val (.long bn), .second, .val (.int j1), .val (.int j2), .val (.int j3), .unset, .unset, .unset, .unset, .unset, .unset, .unset, .unset, .unset, .unset, .unset, .unset, .unset, .unset, .unset, .unset] [(.int (0 : Int32))]) := by
        intro t kk
        refine c194 t ?_
        show Steps p.tables e below (T190.setTop (mkF m 90 #[.val (.long q0), .second, .val (.long q1), .second, .val (.long q2), .second, .val (.int p3), .val (.long q4), .second, .val (.long q5), .second, .val (.long b), .second, .val (.int (Int32.ofNat kn)), .val (.long lim), .second, .val (.long bn), .second, .val (.int j1), .val (.int j2), .val (.int j3), .unset, .unset, .unset, .unset, .unset, .unset, .unset, .unset, .unset, .unset, .unset, .unset, .unset, .unset, .unset, .unset] [(.int (((p3.toUInt32 >>> ((9 : Int32) &&& 31).toUInt32).toInt32) &&& (1 : Int32)))])) t
        refine XS.ifYes X190.here hx rfl (pc0 := 90) (pc' := 97) rfl (hb hby at_90) rfl ((if0 _ _).trans (teq hc90_196).1) (by decide) (by decide) ?_
        show Steps p.tables e below (T190.setTop (mkF m 97 #[.val (.long q0), .second, .val (.long q1), .second, .val (.long q2), .second, .val (.int p3), .val (.long q4), .second, .val (.long q5), .second, .val (.long b), .second, .val (.int (Int32.ofNat kn)), .val (.long lim), .second, .val (.long bn), .second, .val (.int j1), .val (.int j2), .val (.int j3), .unset, .unset, .unset, .unset, .unset, .unset, .unset, .unset, .unset, .unset, .unset, .unset, .unset, .unset, .unset, .unset] [])) t
        refine XS.iconst X190.here hx rfl (hb hby at_97) ?_
        exact kk
      exact ⟨(0 : Int32), trivial, c197⟩
    · have c198 : Goes p e below s₁ (entryFrame m #[(.long q0), (.long q1), (.long q2), (.int p3), (.long q4), (.long q5)] maxLocals) T190 (mkF m 98 #[.val (.long q0), .second, .val (.long q1), .second, .val (.long q2), .second, .val (.int p3), .val (.long q4), .second, .val (.long q5), .second, .val (.long b), .second, .val (.int (Int32.ofNat kn)), .val (.long lim), .second, .val (.long bn), .second, .val (.int j1), .val (.int j2), .val (.int j3), .unset, .unset, .unset, .unset, .unset, .unset, .unset, .unset, .unset, .unset, .unset, .unset, .unset, .unset, .unset, .unset] [(.int (1 : Int32))]) := by
        intro t kk
        refine c194 t ?_
        show Steps p.tables e below (T190.setTop (mkF m 90 #[.val (.long q0), .second, .val (.long q1), .second, .val (.long q2), .second, .val (.int p3), .val (.long q4), .second, .val (.long q5), .second, .val (.long b), .second, .val (.int (Int32.ofNat kn)), .val (.long lim), .second, .val (.long bn), .second, .val (.int j1), .val (.int j2), .val (.int j3), .unset, .unset, .unset, .unset, .unset, .unset, .unset, .unset, .unset, .unset, .unset, .unset, .unset, .unset, .unset, .unset] [(.int (((p3.toUInt32 >>> ((9 : Int32) &&& 31).toUInt32).toInt32) &&& (1 : Int32)))])) t
        refine XS.ifNo X190.here hx rfl (hb hby at_90) rfl ((if0 _ _).trans (feq hc90_196).1) ?_
        show Steps p.tables e below (T190.setTop (mkF m 93 #[.val (.long q0), .second, .val (.long q1), .second, .val (.long q2), .second, .val (.int p3), .val (.long q4), .second, .val (.long q5), .second, .val (.long b), .second, .val (.int (Int32.ofNat kn)), .val (.long lim), .second, .val (.long bn), .second, .val (.int j1), .val (.int j2), .val (.int j3), .unset, .unset, .unset, .unset, .unset, .unset, .unset, .unset, .unset, .unset, .unset, .unset, .unset, .unset, .unset, .unset] [])) t
        refine XS.iconst X190.here hx rfl (hb hby at_93) ?_
        show Steps p.tables e below (T190.setTop (mkF m 94 #[.val (.long q0), .second, .val (.long q1), .second, .val (.long q2), .second, .val (.int p3), .val (.long q4), .second, .val (.long q5), .second, .val (.long b), .second, .val (.int (Int32.ofNat kn)), .val (.long lim), .second, .val (.long bn), .second, .val (.int j1), .val (.int j2), .val (.int j3), .unset, .unset, .unset, .unset, .unset, .unset, .unset, .unset, .unset, .unset, .unset, .unset, .unset, .unset, .unset, .unset] [(.int (1 : Int32))])) t
        refine XS.goto X190.here hx rfl (pc0 := 94) (pc' := 98) rfl (hb hby at_94) (by decide) (by decide) ?_
        exact kk
      exact ⟨(1 : Int32), trivial, c198⟩
  have c199 : Goes p e below s₁ (entryFrame m #[(.long q0), (.long q1), (.long q2), (.int p3), (.long q4), (.long q5)] maxLocals) T190 (mkF m 107 #[.val (.long q0), .second, .val (.long q1), .second, .val (.long q2), .second, .val (.int p3), .val (.long q4), .second, .val (.long q5), .second, .val (.long b), .second, .val (.int (Int32.ofNat kn)), .val (.long lim), .second, .val (.long bn), .second, .val (.int j1), .val (.int j2), .val (.int j3), .val (.int f1), .unset, .unset, .unset, .unset, .unset, .unset, .unset, .unset, .unset, .unset, .unset, .unset, .unset, .unset, .unset] [(.int (((p3.toUInt32 >>> ((10 : Int32) &&& 31).toUInt32).toInt32) &&& (1 : Int32)))]) := by
    intro t kk
    refine c195 t ?_
    show Steps p.tables e below (T190.setTop (mkF m 98 #[.val (.long q0), .second, .val (.long q1), .second, .val (.long q2), .second, .val (.int p3), .val (.long q4), .second, .val (.long q5), .second, .val (.long b), .second, .val (.int (Int32.ofNat kn)), .val (.long lim), .second, .val (.long bn), .second, .val (.int j1), .val (.int j2), .val (.int j3), .unset, .unset, .unset, .unset, .unset, .unset, .unset, .unset, .unset, .unset, .unset, .unset, .unset, .unset, .unset, .unset] [(.int f1)])) t
    refine XS.istore X190.here hx rfl (hb hby at_98) rfl (l' := #[.val (.long q0), .second, .val (.long q1), .second, .val (.long q2), .second, .val (.int p3), .val (.long q4), .second, .val (.long q5), .second, .val (.long b), .second, .val (.int (Int32.ofNat kn)), .val (.long lim), .second, .val (.long bn), .second, .val (.int j1), .val (.int j2), .val (.int j3), .val (.int f1), .unset, .unset, .unset, .unset, .unset, .unset, .unset, .unset, .unset, .unset, .unset, .unset, .unset, .unset, .unset]) rfl ?_
    show Steps p.tables e below (T190.setTop (mkF m 100 #[.val (.long q0), .second, .val (.long q1), .second, .val (.long q2), .second, .val (.int p3), .val (.long q4), .second, .val (.long q5), .second, .val (.long b), .second, .val (.int (Int32.ofNat kn)), .val (.long lim), .second, .val (.long bn), .second, .val (.int j1), .val (.int j2), .val (.int j3), .val (.int f1), .unset, .unset, .unset, .unset, .unset, .unset, .unset, .unset, .unset, .unset, .unset, .unset, .unset, .unset, .unset] [])) t
    refine XS.iload X190.here hx rfl (hb hby at_100) rfl ?_
    show Steps p.tables e below (T190.setTop (mkF m 102 #[.val (.long q0), .second, .val (.long q1), .second, .val (.long q2), .second, .val (.int p3), .val (.long q4), .second, .val (.long q5), .second, .val (.long b), .second, .val (.int (Int32.ofNat kn)), .val (.long lim), .second, .val (.long bn), .second, .val (.int j1), .val (.int j2), .val (.int j3), .val (.int f1), .unset, .unset, .unset, .unset, .unset, .unset, .unset, .unset, .unset, .unset, .unset, .unset, .unset, .unset, .unset] [(.int p3)])) t
    refine XS.bipush X190.here hx rfl (hb hby at_102) ?_
    show Steps p.tables e below (T190.setTop (mkF m 104 #[.val (.long q0), .second, .val (.long q1), .second, .val (.long q2), .second, .val (.int p3), .val (.long q4), .second, .val (.long q5), .second, .val (.long b), .second, .val (.int (Int32.ofNat kn)), .val (.long lim), .second, .val (.long bn), .second, .val (.int j1), .val (.int j2), .val (.int j3), .val (.int f1), .unset, .unset, .unset, .unset, .unset, .unset, .unset, .unset, .unset, .unset, .unset, .unset, .unset, .unset, .unset] [(.int (10 : Int32)), (.int p3)])) t
    refine XS.iushr X190.here hx rfl (hb hby at_104) rfl ?_
    show Steps p.tables e below (T190.setTop (mkF m 105 #[.val (.long q0), .second, .val (.long q1), .second, .val (.long q2), .second, .val (.int p3), .val (.long q4), .second, .val (.long q5), .second, .val (.long b), .second, .val (.int (Int32.ofNat kn)), .val (.long lim), .second, .val (.long bn), .second, .val (.int j1), .val (.int j2), .val (.int j3), .val (.int f1), .unset, .unset, .unset, .unset, .unset, .unset, .unset, .unset, .unset, .unset, .unset, .unset, .unset, .unset, .unset] [(.int ((p3.toUInt32 >>> ((10 : Int32) &&& 31).toUInt32).toInt32))])) t
    refine XS.iconst X190.here hx rfl (hb hby at_105) ?_
    show Steps p.tables e below (T190.setTop (mkF m 106 #[.val (.long q0), .second, .val (.long q1), .second, .val (.long q2), .second, .val (.int p3), .val (.long q4), .second, .val (.long q5), .second, .val (.long b), .second, .val (.int (Int32.ofNat kn)), .val (.long lim), .second, .val (.long bn), .second, .val (.int j1), .val (.int j2), .val (.int j3), .val (.int f1), .unset, .unset, .unset, .unset, .unset, .unset, .unset, .unset, .unset, .unset, .unset, .unset, .unset, .unset, .unset] [(.int (1 : Int32)), (.int ((p3.toUInt32 >>> ((10 : Int32) &&& 31).toUInt32).toInt32))])) t
    refine XS.iand X190.here hx rfl (hb hby at_106) rfl ?_
    exact kk
  obtain ⟨f2, hm200, c200⟩ : ∃ f2 : Int32, (True) ∧ Goes p e below s₁ (entryFrame m #[(.long q0), (.long q1), (.long q2), (.int p3), (.long q4), (.long q5)] maxLocals) T190 (mkF m 115 #[.val (.long q0), .second, .val (.long q1), .second, .val (.long q2), .second, .val (.int p3), .val (.long q4), .second, .val (.long q5), .second, .val (.long b), .second, .val (.int (Int32.ofNat kn)), .val (.long lim), .second, .val (.long bn), .second, .val (.int j1), .val (.int j2), .val (.int j3), .val (.int f1), .unset, .unset, .unset, .unset, .unset, .unset, .unset, .unset, .unset, .unset, .unset, .unset, .unset, .unset, .unset] [(.int f2)]) := by
    by_cases hc107_201 : (((p3.toUInt32 >>> ((10 : Int32) &&& 31).toUInt32).toInt32) &&& (1 : Int32)) = (0 : Int32)
    · have c202 : Goes p e below s₁ (entryFrame m #[(.long q0), (.long q1), (.long q2), (.int p3), (.long q4), (.long q5)] maxLocals) T190 (mkF m 115 #[.val (.long q0), .second, .val (.long q1), .second, .val (.long q2), .second, .val (.int p3), .val (.long q4), .second, .val (.long q5), .second, .val (.long b), .second, .val (.int (Int32.ofNat kn)), .val (.long lim), .second, .val (.long bn), .second, .val (.int j1), .val (.int j2), .val (.int j3), .val (.int f1), .unset, .unset, .unset, .unset, .unset, .unset, .unset, .unset, .unset, .unset, .unset, .unset, .unset, .unset, .unset] [(.int (0 : Int32))]) := by
        intro t kk
        refine c199 t ?_
        show Steps p.tables e below (T190.setTop (mkF m 107 #[.val (.long q0), .second, .val (.long q1), .second, .val (.long q2), .second, .val (.int p3), .val (.long q4), .second, .val (.long q5), .second, .val (.long b), .second, .val (.int (Int32.ofNat kn)), .val (.long lim), .second, .val (.long bn), .second, .val (.int j1), .val (.int j2), .val (.int j3), .val (.int f1), .unset, .unset, .unset, .unset, .unset, .unset, .unset, .unset, .unset, .unset, .unset, .unset, .unset, .unset, .unset] [(.int (((p3.toUInt32 >>> ((10 : Int32) &&& 31).toUInt32).toInt32) &&& (1 : Int32)))])) t
        refine XS.ifYes X190.here hx rfl (pc0 := 107) (pc' := 114) rfl (hb hby at_107) rfl ((if0 _ _).trans (teq hc107_201).1) (by decide) (by decide) ?_
        show Steps p.tables e below (T190.setTop (mkF m 114 #[.val (.long q0), .second, .val (.long q1), .second, .val (.long q2), .second, .val (.int p3), .val (.long q4), .second, .val (.long q5), .second, .val (.long b), .second, .val (.int (Int32.ofNat kn)), .val (.long lim), .second, .val (.long bn), .second, .val (.int j1), .val (.int j2), .val (.int j3), .val (.int f1), .unset, .unset, .unset, .unset, .unset, .unset, .unset, .unset, .unset, .unset, .unset, .unset, .unset, .unset, .unset] [])) t
        refine XS.iconst X190.here hx rfl (hb hby at_114) ?_
        exact kk
      exact ⟨(0 : Int32), trivial, c202⟩
    · have c203 : Goes p e below s₁ (entryFrame m #[(.long q0), (.long q1), (.long q2), (.int p3), (.long q4), (.long q5)] maxLocals) T190 (mkF m 115 #[.val (.long q0), .second, .val (.long q1), .second, .val (.long q2), .second, .val (.int p3), .val (.long q4), .second, .val (.long q5), .second, .val (.long b), .second, .val (.int (Int32.ofNat kn)), .val (.long lim), .second, .val (.long bn), .second, .val (.int j1), .val (.int j2), .val (.int j3), .val (.int f1), .unset, .unset, .unset, .unset, .unset, .unset, .unset, .unset, .unset, .unset, .unset, .unset, .unset, .unset, .unset] [(.int (1 : Int32))]) := by
        intro t kk
        refine c199 t ?_
        show Steps p.tables e below (T190.setTop (mkF m 107 #[.val (.long q0), .second, .val (.long q1), .second, .val (.long q2), .second, .val (.int p3), .val (.long q4), .second, .val (.long q5), .second, .val (.long b), .second, .val (.int (Int32.ofNat kn)), .val (.long lim), .second, .val (.long bn), .second, .val (.int j1), .val (.int j2), .val (.int j3), .val (.int f1), .unset, .unset, .unset, .unset, .unset, .unset, .unset, .unset, .unset, .unset, .unset, .unset, .unset, .unset, .unset] [(.int (((p3.toUInt32 >>> ((10 : Int32) &&& 31).toUInt32).toInt32) &&& (1 : Int32)))])) t
        refine XS.ifNo X190.here hx rfl (hb hby at_107) rfl ((if0 _ _).trans (feq hc107_201).1) ?_
        show Steps p.tables e below (T190.setTop (mkF m 110 #[.val (.long q0), .second, .val (.long q1), .second, .val (.long q2), .second, .val (.int p3), .val (.long q4), .second, .val (.long q5), .second, .val (.long b), .second, .val (.int (Int32.ofNat kn)), .val (.long lim), .second, .val (.long bn), .second, .val (.int j1), .val (.int j2), .val (.int j3), .val (.int f1), .unset, .unset, .unset, .unset, .unset, .unset, .unset, .unset, .unset, .unset, .unset, .unset, .unset, .unset, .unset] [])) t
        refine XS.iconst X190.here hx rfl (hb hby at_110) ?_
        show Steps p.tables e below (T190.setTop (mkF m 111 #[.val (.long q0), .second, .val (.long q1), .second, .val (.long q2), .second, .val (.int p3), .val (.long q4), .second, .val (.long q5), .second, .val (.long b), .second, .val (.int (Int32.ofNat kn)), .val (.long lim), .second, .val (.long bn), .second, .val (.int j1), .val (.int j2), .val (.int j3), .val (.int f1), .unset, .unset, .unset, .unset, .unset, .unset, .unset, .unset, .unset, .unset, .unset, .unset, .unset, .unset, .unset] [(.int (1 : Int32))])) t
        refine XS.goto X190.here hx rfl (pc0 := 111) (pc' := 115) rfl (hb hby at_111) (by decide) (by decide) ?_
        exact kk
      exact ⟨(1 : Int32), trivial, c203⟩
  have c204 : Goes p e below s₁ (entryFrame m #[(.long q0), (.long q1), (.long q2), (.int p3), (.long q4), (.long q5)] maxLocals) T190 (mkF m 124 #[.val (.long q0), .second, .val (.long q1), .second, .val (.long q2), .second, .val (.int p3), .val (.long q4), .second, .val (.long q5), .second, .val (.long b), .second, .val (.int (Int32.ofNat kn)), .val (.long lim), .second, .val (.long bn), .second, .val (.int j1), .val (.int j2), .val (.int j3), .val (.int f1), .val (.int f2), .unset, .unset, .unset, .unset, .unset, .unset, .unset, .unset, .unset, .unset, .unset, .unset, .unset, .unset] [(.int (((p3.toUInt32 >>> ((11 : Int32) &&& 31).toUInt32).toInt32) &&& (1 : Int32)))]) := by
    intro t kk
    refine c200 t ?_
    show Steps p.tables e below (T190.setTop (mkF m 115 #[.val (.long q0), .second, .val (.long q1), .second, .val (.long q2), .second, .val (.int p3), .val (.long q4), .second, .val (.long q5), .second, .val (.long b), .second, .val (.int (Int32.ofNat kn)), .val (.long lim), .second, .val (.long bn), .second, .val (.int j1), .val (.int j2), .val (.int j3), .val (.int f1), .unset, .unset, .unset, .unset, .unset, .unset, .unset, .unset, .unset, .unset, .unset, .unset, .unset, .unset, .unset] [(.int f2)])) t
    refine XS.istore X190.here hx rfl (hb hby at_115) rfl (l' := #[.val (.long q0), .second, .val (.long q1), .second, .val (.long q2), .second, .val (.int p3), .val (.long q4), .second, .val (.long q5), .second, .val (.long b), .second, .val (.int (Int32.ofNat kn)), .val (.long lim), .second, .val (.long bn), .second, .val (.int j1), .val (.int j2), .val (.int j3), .val (.int f1), .val (.int f2), .unset, .unset, .unset, .unset, .unset, .unset, .unset, .unset, .unset, .unset, .unset, .unset, .unset, .unset]) rfl ?_
    show Steps p.tables e below (T190.setTop (mkF m 117 #[.val (.long q0), .second, .val (.long q1), .second, .val (.long q2), .second, .val (.int p3), .val (.long q4), .second, .val (.long q5), .second, .val (.long b), .second, .val (.int (Int32.ofNat kn)), .val (.long lim), .second, .val (.long bn), .second, .val (.int j1), .val (.int j2), .val (.int j3), .val (.int f1), .val (.int f2), .unset, .unset, .unset, .unset, .unset, .unset, .unset, .unset, .unset, .unset, .unset, .unset, .unset, .unset] [])) t
    refine XS.iload X190.here hx rfl (hb hby at_117) rfl ?_
    show Steps p.tables e below (T190.setTop (mkF m 119 #[.val (.long q0), .second, .val (.long q1), .second, .val (.long q2), .second, .val (.int p3), .val (.long q4), .second, .val (.long q5), .second, .val (.long b), .second, .val (.int (Int32.ofNat kn)), .val (.long lim), .second, .val (.long bn), .second, .val (.int j1), .val (.int j2), .val (.int j3), .val (.int f1), .val (.int f2), .unset, .unset, .unset, .unset, .unset, .unset, .unset, .unset, .unset, .unset, .unset, .unset, .unset, .unset] [(.int p3)])) t
    refine XS.bipush X190.here hx rfl (hb hby at_119) ?_
    show Steps p.tables e below (T190.setTop (mkF m 121 #[.val (.long q0), .second, .val (.long q1), .second, .val (.long q2), .second, .val (.int p3), .val (.long q4), .second, .val (.long q5), .second, .val (.long b), .second, .val (.int (Int32.ofNat kn)), .val (.long lim), .second, .val (.long bn), .second, .val (.int j1), .val (.int j2), .val (.int j3), .val (.int f1), .val (.int f2), .unset, .unset, .unset, .unset, .unset, .unset, .unset, .unset, .unset, .unset, .unset, .unset, .unset, .unset] [(.int (11 : Int32)), (.int p3)])) t
    refine XS.iushr X190.here hx rfl (hb hby at_121) rfl ?_
    show Steps p.tables e below (T190.setTop (mkF m 122 #[.val (.long q0), .second, .val (.long q1), .second, .val (.long q2), .second, .val (.int p3), .val (.long q4), .second, .val (.long q5), .second, .val (.long b), .second, .val (.int (Int32.ofNat kn)), .val (.long lim), .second, .val (.long bn), .second, .val (.int j1), .val (.int j2), .val (.int j3), .val (.int f1), .val (.int f2), .unset, .unset, .unset, .unset, .unset, .unset, .unset, .unset, .unset, .unset, .unset, .unset, .unset, .unset] [(.int ((p3.toUInt32 >>> ((11 : Int32) &&& 31).toUInt32).toInt32))])) t
    refine XS.iconst X190.here hx rfl (hb hby at_122) ?_
    show Steps p.tables e below (T190.setTop (mkF m 123 #[.val (.long q0), .second, .val (.long q1), .second, .val (.long q2), .second, .val (.int p3), .val (.long q4), .second, .val (.long q5), .second, .val (.long b), .second, .val (.int (Int32.ofNat kn)), .val (.long lim), .second, .val (.long bn), .second, .val (.int j1), .val (.int j2), .val (.int j3), .val (.int f1), .val (.int f2), .unset, .unset, .unset, .unset, .unset, .unset, .unset, .unset, .unset, .unset, .unset, .unset, .unset, .unset] [(.int (1 : Int32)), (.int ((p3.toUInt32 >>> ((11 : Int32) &&& 31).toUInt32).toInt32))])) t
    refine XS.iand X190.here hx rfl (hb hby at_123) rfl ?_
    exact kk
  obtain ⟨f3, hm205, c205⟩ : ∃ f3 : Int32, (True) ∧ Goes p e below s₁ (entryFrame m #[(.long q0), (.long q1), (.long q2), (.int p3), (.long q4), (.long q5)] maxLocals) T190 (mkF m 132 #[.val (.long q0), .second, .val (.long q1), .second, .val (.long q2), .second, .val (.int p3), .val (.long q4), .second, .val (.long q5), .second, .val (.long b), .second, .val (.int (Int32.ofNat kn)), .val (.long lim), .second, .val (.long bn), .second, .val (.int j1), .val (.int j2), .val (.int j3), .val (.int f1), .val (.int f2), .unset, .unset, .unset, .unset, .unset, .unset, .unset, .unset, .unset, .unset, .unset, .unset, .unset, .unset] [(.int f3)]) := by
    by_cases hc124_206 : (((p3.toUInt32 >>> ((11 : Int32) &&& 31).toUInt32).toInt32) &&& (1 : Int32)) = (0 : Int32)
    · have c207 : Goes p e below s₁ (entryFrame m #[(.long q0), (.long q1), (.long q2), (.int p3), (.long q4), (.long q5)] maxLocals) T190 (mkF m 132 #[.val (.long q0), .second, .val (.long q1), .second, .val (.long q2), .second, .val (.int p3), .val (.long q4), .second, .val (.long q5), .second, .val (.long b), .second, .val (.int (Int32.ofNat kn)), .val (.long lim), .second, .val (.long bn), .second, .val (.int j1), .val (.int j2), .val (.int j3), .val (.int f1), .val (.int f2), .unset, .unset, .unset, .unset, .unset, .unset, .unset, .unset, .unset, .unset, .unset, .unset, .unset, .unset] [(.int (0 : Int32))]) := by
        intro t kk
        refine c204 t ?_
        show Steps p.tables e below (T190.setTop (mkF m 124 #[.val (.long q0), .second, .val (.long q1), .second, .val (.long q2), .second, .val (.int p3), .val (.long q4), .second, .val (.long q5), .second, .val (.long b), .second, .val (.int (Int32.ofNat kn)), .val (.long lim), .second, .val (.long bn), .second, .val (.int j1), .val (.int j2), .val (.int j3), .val (.int f1), .val (.int f2), .unset, .unset, .unset, .unset, .unset, .unset, .unset, .unset, .unset, .unset, .unset, .unset, .unset, .unset] [(.int (((p3.toUInt32 >>> ((11 : Int32) &&& 31).toUInt32).toInt32) &&& (1 : Int32)))])) t
        refine XS.ifYes X190.here hx rfl (pc0 := 124) (pc' := 131) rfl (hb hby at_124) rfl ((if0 _ _).trans (teq hc124_206).1) (by decide) (by decide) ?_
        show Steps p.tables e below (T190.setTop (mkF m 131 #[.val (.long q0), .second, .val (.long q1), .second, .val (.long q2), .second, .val (.int p3), .val (.long q4), .second, .val (.long q5), .second, .val (.long b), .second, .val (.int (Int32.ofNat kn)), .val (.long lim), .second, .val (.long bn), .second, .val (.int j1), .val (.int j2), .val (.int j3), .val (.int f1), .val (.int f2), .unset, .unset, .unset, .unset, .unset, .unset, .unset, .unset, .unset, .unset, .unset, .unset, .unset, .unset] [])) t
        refine XS.iconst X190.here hx rfl (hb hby at_131) ?_
        exact kk
      exact ⟨(0 : Int32), trivial, c207⟩
    · have c208 : Goes p e below s₁ (entryFrame m #[(.long q0), (.long q1), (.long q2), (.int p3), (.long q4), (.long q5)] maxLocals) T190 (mkF m 132 #[.val (.long q0), .second, .val (.long q1), .second, .val (.long q2), .second, .val (.int p3), .val (.long q4), .second, .val (.long q5), .second, .val (.long b), .second, .val (.int (Int32.ofNat kn)), .val (.long lim), .second, .val (.long bn), .second, .val (.int j1), .val (.int j2), .val (.int j3), .val (.int f1), .val (.int f2), .unset, .unset, .unset, .unset, .unset, .unset, .unset, .unset, .unset, .unset, .unset, .unset, .unset, .unset] [(.int (1 : Int32))]) := by
        intro t kk
        refine c204 t ?_
        show Steps p.tables e below (T190.setTop (mkF m 124 #[.val (.long q0), .second, .val (.long q1), .second, .val (.long q2), .second, .val (.int p3), .val (.long q4), .second, .val (.long q5), .second, .val (.long b), .second, .val (.int (Int32.ofNat kn)), .val (.long lim), .second, .val (.long bn), .second, .val (.int j1), .val (.int j2), .val (.int j3), .val (.int f1), .val (.int f2), .unset, .unset, .unset, .unset, .unset, .unset, .unset, .unset, .unset, .unset, .unset, .unset, .unset, .unset] [(.int (((p3.toUInt32 >>> ((11 : Int32) &&& 31).toUInt32).toInt32) &&& (1 : Int32)))])) t
        refine XS.ifNo X190.here hx rfl (hb hby at_124) rfl ((if0 _ _).trans (feq hc124_206).1) ?_
        show Steps p.tables e below (T190.setTop (mkF m 127 #[.val (.long q0), .second, .val (.long q1), .second, .val (.long q2), .second, .val (.int p3), .val (.long q4), .second, .val (.long q5), .second, .val (.long b), .second, .val (.int (Int32.ofNat kn)), .val (.long lim), .second, .val (.long bn), .second, .val (.int j1), .val (.int j2), .val (.int j3), .val (.int f1), .val (.int f2), .unset, .unset, .unset, .unset, .unset, .unset, .unset, .unset, .unset, .unset, .unset, .unset, .unset, .unset] [])) t
        refine XS.iconst X190.here hx rfl (hb hby at_127) ?_
        show Steps p.tables e below (T190.setTop (mkF m 128 #[.val (.long q0), .second, .val (.long q1), .second, .val (.long q2), .second, .val (.int p3), .val (.long q4), .second, .val (.long q5), .second, .val (.long b), .second, .val (.int (Int32.ofNat kn)), .val (.long lim), .second, .val (.long bn), .second, .val (.int j1), .val (.int j2), .val (.int j3), .val (.int f1), .val (.int f2), .unset, .unset, .unset, .unset, .unset, .unset, .unset, .unset, .unset, .unset, .unset, .unset, .unset, .unset] [(.int (1 : Int32))])) t
        refine XS.goto X190.here hx rfl (pc0 := 128) (pc' := 132) rfl (hb hby at_128) (by decide) (by decide) ?_
        exact kk
      exact ⟨(1 : Int32), trivial, c208⟩
  have c209 : Goes p e below s₁ (entryFrame m #[(.long q0), (.long q1), (.long q2), (.int p3), (.long q4), (.long q5)] maxLocals) T190 (mkF m 145 #[.val (.long q0), .second, .val (.long q1), .second, .val (.long q2), .second, .val (.int p3), .val (.long q4), .second, .val (.long q5), .second, .val (.long b), .second, .val (.int (Int32.ofNat kn)), .val (.long lim), .second, .val (.long bn), .second, .val (.int j1), .val (.int j2), .val (.int j3), .val (.int f1), .val (.int f2), .val (.int f3), .unset, .unset, .unset, .unset, .unset, .unset, .unset, .unset, .unset, .unset, .unset, .unset, .unset] [(.long b), (.long q4), (.int (((p3.toUInt32 >>> ((12 : Int32) &&& 31).toUInt32).toInt32) &&& (3 : Int32)))]) := by
    intro t kk
    refine c205 t ?_
    show Steps p.tables e below (T190.setTop (mkF m 132 #[.val (.long q0), .second, .val (.long q1), .second, .val (.long q2), .second, .val (.int p3), .val (.long q4), .second, .val (.long q5), .second, .val (.long b), .second, .val (.int (Int32.ofNat kn)), .val (.long lim), .second, .val (.long bn), .second, .val (.int j1), .val (.int j2), .val (.int j3), .val (.int f1), .val (.int f2), .unset, .unset, .unset, .unset, .unset, .unset, .unset, .unset, .unset, .unset, .unset, .unset, .unset, .unset] [(.int f3)])) t
    refine XS.istore X190.here hx rfl (hb hby at_132) rfl (l' := #[.val (.long q0), .second, .val (.long q1), .second, .val (.long q2), .second, .val (.int p3), .val (.long q4), .second, .val (.long q5), .second, .val (.long b), .second, .val (.int (Int32.ofNat kn)), .val (.long lim), .second, .val (.long bn), .second, .val (.int j1), .val (.int j2), .val (.int j3), .val (.int f1), .val (.int f2), .val (.int f3), .unset, .unset, .unset, .unset, .unset, .unset, .unset, .unset, .unset, .unset, .unset, .unset, .unset]) rfl ?_
    show Steps p.tables e below (T190.setTop (mkF m 134 #[.val (.long q0), .second, .val (.long q1), .second, .val (.long q2), .second, .val (.int p3), .val (.long q4), .second, .val (.long q5), .second, .val (.long b), .second, .val (.int (Int32.ofNat kn)), .val (.long lim), .second, .val (.long bn), .second, .val (.int j1), .val (.int j2), .val (.int j3), .val (.int f1), .val (.int f2), .val (.int f3), .unset, .unset, .unset, .unset, .unset, .unset, .unset, .unset, .unset, .unset, .unset, .unset, .unset] [])) t
    refine XS.iload X190.here hx rfl (hb hby at_134) rfl ?_
    show Steps p.tables e below (T190.setTop (mkF m 136 #[.val (.long q0), .second, .val (.long q1), .second, .val (.long q2), .second, .val (.int p3), .val (.long q4), .second, .val (.long q5), .second, .val (.long b), .second, .val (.int (Int32.ofNat kn)), .val (.long lim), .second, .val (.long bn), .second, .val (.int j1), .val (.int j2), .val (.int j3), .val (.int f1), .val (.int f2), .val (.int f3), .unset, .unset, .unset, .unset, .unset, .unset, .unset, .unset, .unset, .unset, .unset, .unset, .unset] [(.int p3)])) t
    refine XS.bipush X190.here hx rfl (hb hby at_136) ?_
    show Steps p.tables e below (T190.setTop (mkF m 138 #[.val (.long q0), .second, .val (.long q1), .second, .val (.long q2), .second, .val (.int p3), .val (.long q4), .second, .val (.long q5), .second, .val (.long b), .second, .val (.int (Int32.ofNat kn)), .val (.long lim), .second, .val (.long bn), .second, .val (.int j1), .val (.int j2), .val (.int j3), .val (.int f1), .val (.int f2), .val (.int f3), .unset, .unset, .unset, .unset, .unset, .unset, .unset, .unset, .unset, .unset, .unset, .unset, .unset] [(.int (12 : Int32)), (.int p3)])) t
    refine XS.iushr X190.here hx rfl (hb hby at_138) rfl ?_
    show Steps p.tables e below (T190.setTop (mkF m 139 #[.val (.long q0), .second, .val (.long q1), .second, .val (.long q2), .second, .val (.int p3), .val (.long q4), .second, .val (.long q5), .second, .val (.long b), .second, .val (.int (Int32.ofNat kn)), .val (.long lim), .second, .val (.long bn), .second, .val (.int j1), .val (.int j2), .val (.int j3), .val (.int f1), .val (.int f2), .val (.int f3), .unset, .unset, .unset, .unset, .unset, .unset, .unset, .unset, .unset, .unset, .unset, .unset, .unset] [(.int ((p3.toUInt32 >>> ((12 : Int32) &&& 31).toUInt32).toInt32))])) t
    refine XS.iconst X190.here hx rfl (hb hby at_139) ?_
    show Steps p.tables e below (T190.setTop (mkF m 140 #[.val (.long q0), .second, .val (.long q1), .second, .val (.long q2), .second, .val (.int p3), .val (.long q4), .second, .val (.long q5), .second, .val (.long b), .second, .val (.int (Int32.ofNat kn)), .val (.long lim), .second, .val (.long bn), .second, .val (.int j1), .val (.int j2), .val (.int j3), .val (.int f1), .val (.int f2), .val (.int f3), .unset, .unset, .unset, .unset, .unset, .unset, .unset, .unset, .unset, .unset, .unset, .unset, .unset] [(.int (3 : Int32)), (.int ((p3.toUInt32 >>> ((12 : Int32) &&& 31).toUInt32).toInt32))])) t
    refine XS.iand X190.here hx rfl (hb hby at_140) rfl ?_
    show Steps p.tables e below (T190.setTop (mkF m 141 #[.val (.long q0), .second, .val (.long q1), .second, .val (.long q2), .second, .val (.int p3), .val (.long q4), .second, .val (.long q5), .second, .val (.long b), .second, .val (.int (Int32.ofNat kn)), .val (.long lim), .second, .val (.long bn), .second, .val (.int j1), .val (.int j2), .val (.int j3), .val (.int f1), .val (.int f2), .val (.int f3), .unset, .unset, .unset, .unset, .unset, .unset, .unset, .unset, .unset, .unset, .unset, .unset, .unset] [(.int (((p3.toUInt32 >>> ((12 : Int32) &&& 31).toUInt32).toInt32) &&& (3 : Int32)))])) t
    refine XS.lload X190.here hx rfl (hb hby at_141) rfl ?_
    show Steps p.tables e below (T190.setTop (mkF m 143 #[.val (.long q0), .second, .val (.long q1), .second, .val (.long q2), .second, .val (.int p3), .val (.long q4), .second, .val (.long q5), .second, .val (.long b), .second, .val (.int (Int32.ofNat kn)), .val (.long lim), .second, .val (.long bn), .second, .val (.int j1), .val (.int j2), .val (.int j3), .val (.int f1), .val (.int f2), .val (.int f3), .unset, .unset, .unset, .unset, .unset, .unset, .unset, .unset, .unset, .unset, .unset, .unset, .unset] [(.long q4), (.int (((p3.toUInt32 >>> ((12 : Int32) &&& 31).toUInt32).toInt32) &&& (3 : Int32)))])) t
    refine XS.lload X190.here hx rfl (hb hby at_143) rfl ?_
    exact kk
  obtain ⟨_, _, ⟨T210, L210, k210, n210⟩, -, X210, ⟨Lc210, hQ210, l210, y210, z210⟩, st210⟩ := Jvm.LawKit.callS X190 hx (y := (⟨"com/example/ventil/ventil/RollingCountSumPinLaw", "off", "(IJJ)J"⟩ : MethodName)) hown (mvT hZ (hw _ (List.mem_of_getElem? (i := 9) rfl))) (mvT hZ (hw _ (List.mem_of_getElem? (i := 10) rfl))) (mvT hZ (hw _ (List.mem_of_getElem? (i := 11) rfl))) (mvT hZ (hw _ (List.mem_of_getElem? (i := 12) rfl))) (by decide) (backOf (W := 0) (rm_off l Z a0 hw [] (((p3.toUInt32 >>> ((12 : Int32) &&& 31).toUInt32).toInt32) &&& (3 : Int32)) q4 b h0 n0 Z0 hbz) hZ (hw _ (List.mem_of_getElem? (i := 12) rfl)) (hw _ (List.mem_of_getElem? (i := 11) rfl)) (by decide) (by decide)) (g := (mkF m 145 #[.val (.long q0), .second, .val (.long q1), .second, .val (.long q2), .second, .val (.int p3), .val (.long q4), .second, .val (.long q5), .second, .val (.long b), .second, .val (.int (Int32.ofNat kn)), .val (.long lim), .second, .val (.long bn), .second, .val (.int j1), .val (.int j2), .val (.int j3), .val (.int f1), .val (.int f2), .val (.int f3), .unset, .unset, .unset, .unset, .unset, .unset, .unset, .unset, .unset, .unset, .unset, .unset, .unset] [(.long b), (.long q4), (.int (((p3.toUInt32 >>> ((12 : Int32) &&& 31).toUInt32).toInt32) &&& (3 : Int32)))])) rfl (by rw [hml]; rfl) (argsL := [(.int (((p3.toUInt32 >>> ((12 : Int32) &&& 31).toUInt32).toInt32) &&& (3 : Int32))), (.long q4), (.long b)]) (rest := []) (lenOf pd__IJJ_J rfl) rfl (by show 2 * 0 + _ ≤ _; exact Nat.le_of_eq rfl) (hb hby at_145) (fun _ _ => ⟨rfl, eq190, (by decide : 0 + 0 ≤ _), (by decide : 0 + 0 ≤ _)⟩)
  dsimp only [Pt.U, Pt.locs, Pt.cells, Pt.slots] at X210 l210 y210 z210 st210 hQ210
  subst l210 y210 z210
  obtain ⟨rfl, Nq210, eq210⟩ := hQ210
  have N210 := Fr.app N190 Nq210
  have c211 : Goes p e below s₁ (entryFrame m #[(.long q0), (.long q1), (.long q2), (.int p3), (.long q4), (.long q5)] maxLocals) T210 (mkF m 148 #[.val (.long q0), .second, .val (.long q1), .second, .val (.long q2), .second, .val (.int p3), .val (.long q4), .second, .val (.long q5), .second, .val (.long b), .second, .val (.int (Int32.ofNat kn)), .val (.long lim), .second, .val (.long bn), .second, .val (.int j1), .val (.int j2), .val (.int j3), .val (.int f1), .val (.int f2), .val (.int f3), .unset, .unset, .unset, .unset, .unset, .unset, .unset, .unset, .unset, .unset, .unset, .unset, .unset] [(.long (own_off (((p3.toUInt32 >>> ((12 : Int32) &&& 31).toUInt32).toInt32) &&& (3 : Int32)) q4 b))]) := fun t kk => c209 t (st210 t kk)
  have c212 : Goes p e below s₁ (entryFrame m #[(.long q0), (.long q1), (.long q2), (.int p3), (.long q4), (.long q5)] maxLocals) T210 (mkF m 150 #[.val (.long q0), .second, .val (.long q1), .second, .val (.long q2), .second, .val (.int p3), .val (.long q4), .second, .val (.long q5), .second, .val (.long b), .second, .val (.int (Int32.ofNat kn)), .val (.long lim), .second, .val (.long bn), .second, .val (.int j1), .val (.int j2), .val (.int j3), .val (.int f1), .val (.int f2), .val (.int f3), .val (.long (own_off (((p3.toUInt32 >>> ((12 : Int32) &&& 31).toUInt32).toInt32) &&& (3 : Int32)) q4 b)), .second, .unset, .unset, .unset, .unset, .unset, .unset, .unset, .unset, .unset, .unset, .unset] []) := by
    intro t kk
    refine c211 t ?_
    show Steps p.tables e below (T210.setTop (mkF m 148 #[.val (.long q0), .second, .val (.long q1), .second, .val (.long q2), .second, .val (.int p3), .val (.long q4), .second, .val (.long q5), .second, .val (.long b), .second, .val (.int (Int32.ofNat kn)), .val (.long lim), .second, .val (.long bn), .second, .val (.int j1), .val (.int j2), .val (.int j3), .val (.int f1), .val (.int f2), .val (.int f3), .unset, .unset, .unset, .unset, .unset, .unset, .unset, .unset, .unset, .unset, .unset, .unset, .unset] [(.long (own_off (((p3.toUInt32 >>> ((12 : Int32) &&& 31).toUInt32).toInt32) &&& (3 : Int32)) q4 b))])) t
    refine XS.lstore X210.here hx rfl (hb hby at_148) rfl (l' := #[.val (.long q0), .second, .val (.long q1), .second, .val (.long q2), .second, .val (.int p3), .val (.long q4), .second, .val (.long q5), .second, .val (.long b), .second, .val (.int (Int32.ofNat kn)), .val (.long lim), .second, .val (.long bn), .second, .val (.int j1), .val (.int j2), .val (.int j3), .val (.int f1), .val (.int f2), .val (.int f3), .val (.long (own_off (((p3.toUInt32 >>> ((12 : Int32) &&& 31).toUInt32).toInt32) &&& (3 : Int32)) q4 b)), .second, .unset, .unset, .unset, .unset, .unset, .unset, .unset, .unset, .unset, .unset, .unset]) rfl ?_
    exact kk
  obtain ⟨r1, h_r1⟩ : ∃ z : Int64, z = (own_off (((p3.toUInt32 >>> ((12 : Int32) &&& 31).toUInt32).toInt32) &&& (3 : Int32)) q4 b) := ⟨_, rfl⟩
  have c213 : Goes p e below s₁ (entryFrame m #[(.long q0), (.long q1), (.long q2), (.int p3), (.long q4), (.long q5)] maxLocals) T210 (mkF m 150 #[.val (.long q0), .second, .val (.long q1), .second, .val (.long q2), .second, .val (.int p3), .val (.long q4), .second, .val (.long q5), .second, .val (.long b), .second, .val (.int (Int32.ofNat kn)), .val (.long lim), .second, .val (.long bn), .second, .val (.int j1), .val (.int j2), .val (.int j3), .val (.int f1), .val (.int f2), .val (.int f3), .val (.long r1), .second, .unset, .unset, .unset, .unset, .unset, .unset, .unset, .unset, .unset, .unset, .unset] []) := by rw [h_r1]; exact c212
  have hr1 : 0 ≤ r1.toInt ∧ r1.toInt < b.toInt := by rw [h_r1]; exact own_offr _ _ hB.1
  have c214 : Goes p e below s₁ (entryFrame m #[(.long q0), (.long q1), (.long q2), (.int p3), (.long q4), (.long q5)] maxLocals) T210 (mkF m 161 #[.val (.long q0), .second, .val (.long q1), .second, .val (.long q2), .second, .val (.int p3), .val (.long q4), .second, .val (.long q5), .second, .val (.long b), .second, .val (.int (Int32.ofNat kn)), .val (.long lim), .second, .val (.long bn), .second, .val (.int j1), .val (.int j2), .val (.int j3), .val (.int f1), .val (.int f2), .val (.int f3), .val (.long r1), .second, .unset, .unset, .unset, .unset, .unset, .unset, .unset, .unset, .unset, .unset, .unset] [(.long b), (.long q5), (.int (((p3.toUInt32 >>> ((14 : Int32) &&& 31).toUInt32).toInt32) &&& (3 : Int32)))]) := by
    intro t kk
    refine c213 t ?_
    show Steps p.tables e below (T210.setTop (mkF m 150 #[.val (.long q0), .second, .val (.long q1), .second, .val (.long q2), .second, .val (.int p3), .val (.long q4), .second, .val (.long q5), .second, .val (.long b), .second, .val (.int (Int32.ofNat kn)), .val (.long lim), .second, .val (.long bn), .second, .val (.int j1), .val (.int j2), .val (.int j3), .val (.int f1), .val (.int f2), .val (.int f3), .val (.long r1), .second, .unset, .unset, .unset, .unset, .unset, .unset, .unset, .unset, .unset, .unset, .unset] [])) t
    refine XS.iload X210.here hx rfl (hb hby at_150) rfl ?_
    show Steps p.tables e below (T210.setTop (mkF m 152 #[.val (.long q0), .second, .val (.long q1), .second, .val (.long q2), .second, .val (.int p3), .val (.long q4), .second, .val (.long q5), .second, .val (.long b), .second, .val (.int (Int32.ofNat kn)), .val (.long lim), .second, .val (.long bn), .second, .val (.int j1), .val (.int j2), .val (.int j3), .val (.int f1), .val (.int f2), .val (.int f3), .val (.long r1), .second, .unset, .unset, .unset, .unset, .unset, .unset, .unset, .unset, .unset, .unset, .unset] [(.int p3)])) t
    refine XS.bipush X210.here hx rfl (hb hby at_152) ?_
    show Steps p.tables e below (T210.setTop (mkF m 154 #[.val (.long q0), .second, .val (.long q1), .second, .val (.long q2), .second, .val (.int p3), .val (.long q4), .second, .val (.long q5), .second, .val (.long b), .second, .val (.int (Int32.ofNat kn)), .val (.long lim), .second, .val (.long bn), .second, .val (.int j1), .val (.int j2), .val (.int j3), .val (.int f1), .val (.int f2), .val (.int f3), .val (.long r1), .second, .unset, .unset, .unset, .unset, .unset, .unset, .unset, .unset, .unset, .unset, .unset] [(.int (14 : Int32)), (.int p3)])) t
    refine XS.iushr X210.here hx rfl (hb hby at_154) rfl ?_
    show Steps p.tables e below (T210.setTop (mkF m 155 #[.val (.long q0), .second, .val (.long q1), .second, .val (.long q2), .second, .val (.int p3), .val (.long q4), .second, .val (.long q5), .second, .val (.long b), .second, .val (.int (Int32.ofNat kn)), .val (.long lim), .second, .val (.long bn), .second, .val (.int j1), .val (.int j2), .val (.int j3), .val (.int f1), .val (.int f2), .val (.int f3), .val (.long r1), .second, .unset, .unset, .unset, .unset, .unset, .unset, .unset, .unset, .unset, .unset, .unset] [(.int ((p3.toUInt32 >>> ((14 : Int32) &&& 31).toUInt32).toInt32))])) t
    refine XS.iconst X210.here hx rfl (hb hby at_155) ?_
    show Steps p.tables e below (T210.setTop (mkF m 156 #[.val (.long q0), .second, .val (.long q1), .second, .val (.long q2), .second, .val (.int p3), .val (.long q4), .second, .val (.long q5), .second, .val (.long b), .second, .val (.int (Int32.ofNat kn)), .val (.long lim), .second, .val (.long bn), .second, .val (.int j1), .val (.int j2), .val (.int j3), .val (.int f1), .val (.int f2), .val (.int f3), .val (.long r1), .second, .unset, .unset, .unset, .unset, .unset, .unset, .unset, .unset, .unset, .unset, .unset] [(.int (3 : Int32)), (.int ((p3.toUInt32 >>> ((14 : Int32) &&& 31).toUInt32).toInt32))])) t
    refine XS.iand X210.here hx rfl (hb hby at_156) rfl ?_
    show Steps p.tables e below (T210.setTop (mkF m 157 #[.val (.long q0), .second, .val (.long q1), .second, .val (.long q2), .second, .val (.int p3), .val (.long q4), .second, .val (.long q5), .second, .val (.long b), .second, .val (.int (Int32.ofNat kn)), .val (.long lim), .second, .val (.long bn), .second, .val (.int j1), .val (.int j2), .val (.int j3), .val (.int f1), .val (.int f2), .val (.int f3), .val (.long r1), .second, .unset, .unset, .unset, .unset, .unset, .unset, .unset, .unset, .unset, .unset, .unset] [(.int (((p3.toUInt32 >>> ((14 : Int32) &&& 31).toUInt32).toInt32) &&& (3 : Int32)))])) t
    refine XS.lload X210.here hx rfl (hb hby at_157) rfl ?_
    show Steps p.tables e below (T210.setTop (mkF m 159 #[.val (.long q0), .second, .val (.long q1), .second, .val (.long q2), .second, .val (.int p3), .val (.long q4), .second, .val (.long q5), .second, .val (.long b), .second, .val (.int (Int32.ofNat kn)), .val (.long lim), .second, .val (.long bn), .second, .val (.int j1), .val (.int j2), .val (.int j3), .val (.int f1), .val (.int f2), .val (.int f3), .val (.long r1), .second, .unset, .unset, .unset, .unset, .unset, .unset, .unset, .unset, .unset, .unset, .unset] [(.long q5), (.int (((p3.toUInt32 >>> ((14 : Int32) &&& 31).toUInt32).toInt32) &&& (3 : Int32)))])) t
    refine XS.lload X210.here hx rfl (hb hby at_159) rfl ?_
    exact kk
  obtain ⟨_, _, ⟨T215, L215, k215, n215⟩, -, X215, ⟨Lc215, hQ215, l215, y215, z215⟩, st215⟩ := Jvm.LawKit.callS X210 hx (y := (⟨"com/example/ventil/ventil/RollingCountSumPinLaw", "off", "(IJJ)J"⟩ : MethodName)) hown (mvT hZ (hw _ (List.mem_of_getElem? (i := 9) rfl))) (mvT hZ (hw _ (List.mem_of_getElem? (i := 10) rfl))) (mvT hZ (hw _ (List.mem_of_getElem? (i := 11) rfl))) (mvT hZ (hw _ (List.mem_of_getElem? (i := 12) rfl))) (by decide) (backOf (W := 0) (rm_off l Z a0 hw [] (((p3.toUInt32 >>> ((14 : Int32) &&& 31).toUInt32).toInt32) &&& (3 : Int32)) q5 b h0 n0 Z0 hbz) hZ (hw _ (List.mem_of_getElem? (i := 12) rfl)) (hw _ (List.mem_of_getElem? (i := 11) rfl)) (by decide) (by decide)) (g := (mkF m 161 #[.val (.long q0), .second, .val (.long q1), .second, .val (.long q2), .second, .val (.int p3), .val (.long q4), .second, .val (.long q5), .second, .val (.long b), .second, .val (.int (Int32.ofNat kn)), .val (.long lim), .second, .val (.long bn), .second, .val (.int j1), .val (.int j2), .val (.int j3), .val (.int f1), .val (.int f2), .val (.int f3), .val (.long r1), .second, .unset, .unset, .unset, .unset, .unset, .unset, .unset, .unset, .unset, .unset, .unset] [(.long b), (.long q5), (.int (((p3.toUInt32 >>> ((14 : Int32) &&& 31).toUInt32).toInt32) &&& (3 : Int32)))])) rfl (by rw [hml]; rfl) (argsL := [(.int (((p3.toUInt32 >>> ((14 : Int32) &&& 31).toUInt32).toInt32) &&& (3 : Int32))), (.long q5), (.long b)]) (rest := []) (lenOf pd__IJJ_J rfl) rfl (by show 2 * 0 + _ ≤ _; exact Nat.le_of_eq rfl) (hb hby at_161) (fun _ _ => ⟨rfl, eq210, (by decide : 0 + 0 ≤ _), (by decide : 0 + 0 ≤ _)⟩)
  dsimp only [Pt.U, Pt.locs, Pt.cells, Pt.slots] at X215 l215 y215 z215 st215 hQ215
  subst l215 y215 z215
  obtain ⟨rfl, Nq215, eq215⟩ := hQ215
  have N215 := Fr.app N210 Nq215
  have c216 : Goes p e below s₁ (entryFrame m #[(.long q0), (.long q1), (.long q2), (.int p3), (.long q4), (.long q5)] maxLocals) T215 (mkF m 164 #[.val (.long q0), .second, .val (.long q1), .second, .val (.long q2), .second, .val (.int p3), .val (.long q4), .second, .val (.long q5), .second, .val (.long b), .second, .val (.int (Int32.ofNat kn)), .val (.long lim), .second, .val (.long bn), .second, .val (.int j1), .val (.int j2), .val (.int j3), .val (.int f1), .val (.int f2), .val (.int f3), .val (.long r1), .second, .unset, .unset, .unset, .unset, .unset, .unset, .unset, .unset, .unset, .unset, .unset] [(.long (own_off (((p3.toUInt32 >>> ((14 : Int32) &&& 31).toUInt32).toInt32) &&& (3 : Int32)) q5 b))]) := fun t kk => c214 t (st215 t kk)
  have c217 : Goes p e below s₁ (entryFrame m #[(.long q0), (.long q1), (.long q2), (.int p3), (.long q4), (.long q5)] maxLocals) T215 (mkF m 170 #[.val (.long q0), .second, .val (.long q1), .second, .val (.long q2), .second, .val (.int p3), .val (.long q4), .second, .val (.long q5), .second, .val (.long b), .second, .val (.int (Int32.ofNat kn)), .val (.long lim), .second, .val (.long bn), .second, .val (.int j1), .val (.int j2), .val (.int j3), .val (.int f1), .val (.int f2), .val (.int f3), .val (.long r1), .second, .val (.long (own_off (((p3.toUInt32 >>> ((14 : Int32) &&& 31).toUInt32).toInt32) &&& (3 : Int32)) q5 b)), .second, .unset, .unset, .unset, .unset, .unset, .unset, .unset, .unset, .unset] [(.int j1), (.int j2)]) := by
    intro t kk
    refine c216 t ?_
    show Steps p.tables e below (T215.setTop (mkF m 164 #[.val (.long q0), .second, .val (.long q1), .second, .val (.long q2), .second, .val (.int p3), .val (.long q4), .second, .val (.long q5), .second, .val (.long b), .second, .val (.int (Int32.ofNat kn)), .val (.long lim), .second, .val (.long bn), .second, .val (.int j1), .val (.int j2), .val (.int j3), .val (.int f1), .val (.int f2), .val (.int f3), .val (.long r1), .second, .unset, .unset, .unset, .unset, .unset, .unset, .unset, .unset, .unset, .unset, .unset] [(.long (own_off (((p3.toUInt32 >>> ((14 : Int32) &&& 31).toUInt32).toInt32) &&& (3 : Int32)) q5 b))])) t
    refine XS.lstore X215.here hx rfl (hb hby at_164) rfl (l' := #[.val (.long q0), .second, .val (.long q1), .second, .val (.long q2), .second, .val (.int p3), .val (.long q4), .second, .val (.long q5), .second, .val (.long b), .second, .val (.int (Int32.ofNat kn)), .val (.long lim), .second, .val (.long bn), .second, .val (.int j1), .val (.int j2), .val (.int j3), .val (.int f1), .val (.int f2), .val (.int f3), .val (.long r1), .second, .val (.long (own_off (((p3.toUInt32 >>> ((14 : Int32) &&& 31).toUInt32).toInt32) &&& (3 : Int32)) q5 b)), .second, .unset, .unset, .unset, .unset, .unset, .unset, .unset, .unset, .unset]) rfl ?_
    show Steps p.tables e below (T215.setTop (mkF m 166 #[.val (.long q0), .second, .val (.long q1), .second, .val (.long q2), .second, .val (.int p3), .val (.long q4), .second, .val (.long q5), .second, .val (.long b), .second, .val (.int (Int32.ofNat kn)), .val (.long lim), .second, .val (.long bn), .second, .val (.int j1), .val (.int j2), .val (.int j3), .val (.int f1), .val (.int f2), .val (.int f3), .val (.long r1), .second, .val (.long (own_off (((p3.toUInt32 >>> ((14 : Int32) &&& 31).toUInt32).toInt32) &&& (3 : Int32)) q5 b)), .second, .unset, .unset, .unset, .unset, .unset, .unset, .unset, .unset, .unset] [])) t
    refine XS.iload X215.here hx rfl (hb hby at_166) rfl ?_
    show Steps p.tables e below (T215.setTop (mkF m 168 #[.val (.long q0), .second, .val (.long q1), .second, .val (.long q2), .second, .val (.int p3), .val (.long q4), .second, .val (.long q5), .second, .val (.long b), .second, .val (.int (Int32.ofNat kn)), .val (.long lim), .second, .val (.long bn), .second, .val (.int j1), .val (.int j2), .val (.int j3), .val (.int f1), .val (.int f2), .val (.int f3), .val (.long r1), .second, .val (.long (own_off (((p3.toUInt32 >>> ((14 : Int32) &&& 31).toUInt32).toInt32) &&& (3 : Int32)) q5 b)), .second, .unset, .unset, .unset, .unset, .unset, .unset, .unset, .unset, .unset] [(.int j2)])) t
    refine XS.iload X215.here hx rfl (hb hby at_168) rfl ?_
    exact kk
  obtain ⟨r2, T218, Lx218, hm218, N218, X218, e218, c218⟩ : ∃ (r2 : Int64) (T218 : State) (Lx218 : List Loc), (0 ≤ r2.toInt ∧ r2.toInt < b.toInt) ∧ Fr n0 Lx218 ∧ Stand p l e room_1 s m #[(.long q0), (.long q1), (.long q2), (.int p3), (.long q4), (.long q5)] below meth c T218 Lx218 0 0 ∧ T218.heap = h0 ∧ Goes p e below s₁ (entryFrame m #[(.long q0), (.long q1), (.long q2), (.int p3), (.long q4), (.long q5)] maxLocals) T218 (mkF m 182 #[.val (.long q0), .second, .val (.long q1), .second, .val (.long q2), .second, .val (.int p3), .val (.long q4), .second, .val (.long q5), .second, .val (.long b), .second, .val (.int (Int32.ofNat kn)), .val (.long lim), .second, .val (.long bn), .second, .val (.int j1), .val (.int j2), .val (.int j3), .val (.int f1), .val (.int f2), .val (.int f3), .val (.long r1), .second, .val (.long r2), .second, .unset, .unset, .unset, .unset, .unset, .unset, .unset, .unset, .unset] []) := by
    by_cases hc170_219 : j2 = j1
    · have c220 : Goes p e below s₁ (entryFrame m #[(.long q0), (.long q1), (.long q2), (.int p3), (.long q4), (.long q5)] maxLocals) T215 (mkF m 177 #[.val (.long q0), .second, .val (.long q1), .second, .val (.long q2), .second, .val (.int p3), .val (.long q4), .second, .val (.long q5), .second, .val (.long b), .second, .val (.int (Int32.ofNat kn)), .val (.long lim), .second, .val (.long bn), .second, .val (.int j1), .val (.int j2), .val (.int j3), .val (.int f1), .val (.int f2), .val (.int f3), .val (.long r1), .second, .val (.long (own_off (((p3.toUInt32 >>> ((14 : Int32) &&& 31).toUInt32).toInt32) &&& (3 : Int32)) q5 b)), .second, .unset, .unset, .unset, .unset, .unset, .unset, .unset, .unset, .unset] [(.long (own_off (((p3.toUInt32 >>> ((14 : Int32) &&& 31).toUInt32).toInt32) &&& (3 : Int32)) q5 b)), (.long r1)]) := by
        intro t kk
        refine c217 t ?_
        show Steps p.tables e below (T215.setTop (mkF m 170 #[.val (.long q0), .second, .val (.long q1), .second, .val (.long q2), .second, .val (.int p3), .val (.long q4), .second, .val (.long q5), .second, .val (.long b), .second, .val (.int (Int32.ofNat kn)), .val (.long lim), .second, .val (.long bn), .second, .val (.int j1), .val (.int j2), .val (.int j3), .val (.int f1), .val (.int f2), .val (.int f3), .val (.long r1), .second, .val (.long (own_off (((p3.toUInt32 >>> ((14 : Int32) &&& 31).toUInt32).toInt32) &&& (3 : Int32)) q5 b)), .second, .unset, .unset, .unset, .unset, .unset, .unset, .unset, .unset, .unset] [(.int j1), (.int j2)])) t
        refine XS.icmpNo X215.here hx rfl (hb hby at_170) rfl (teq hc170_219).2 ?_
        show Steps p.tables e below (T215.setTop (mkF m 173 #[.val (.long q0), .second, .val (.long q1), .second, .val (.long q2), .second, .val (.int p3), .val (.long q4), .second, .val (.long q5), .second, .val (.long b), .second, .val (.int (Int32.ofNat kn)), .val (.long lim), .second, .val (.long bn), .second, .val (.int j1), .val (.int j2), .val (.int j3), .val (.int f1), .val (.int f2), .val (.int f3), .val (.long r1), .second, .val (.long (own_off (((p3.toUInt32 >>> ((14 : Int32) &&& 31).toUInt32).toInt32) &&& (3 : Int32)) q5 b)), .second, .unset, .unset, .unset, .unset, .unset, .unset, .unset, .unset, .unset] [])) t
        refine XS.lload X215.here hx rfl (hb hby at_173) rfl ?_
        show Steps p.tables e below (T215.setTop (mkF m 175 #[.val (.long q0), .second, .val (.long q1), .second, .val (.long q2), .second, .val (.int p3), .val (.long q4), .second, .val (.long q5), .second, .val (.long b), .second, .val (.int (Int32.ofNat kn)), .val (.long lim), .second, .val (.long bn), .second, .val (.int j1), .val (.int j2), .val (.int j3), .val (.int f1), .val (.int f2), .val (.int f3), .val (.long r1), .second, .val (.long (own_off (((p3.toUInt32 >>> ((14 : Int32) &&& 31).toUInt32).toInt32) &&& (3 : Int32)) q5 b)), .second, .unset, .unset, .unset, .unset, .unset, .unset, .unset, .unset, .unset] [(.long r1)])) t
        refine XS.lload X215.here hx rfl (hb hby at_175) rfl ?_
        exact kk
      obtain ⟨_, _, ⟨T221, L221, k221, n221⟩, -, X221, ⟨Lc221, hQ221, l221, y221, z221⟩, st221⟩ := Jvm.LawKit.callS X215 hx (y := (⟨"java/lang/Math", "max", "(JJ)J"⟩ : MethodName)) hown (mvT hZ (hw _ (List.mem_of_getElem? (i := 13) rfl))) (mvT hZ (hw _ (List.mem_of_getElem? (i := 14) rfl))) (mvT hZ (hw _ (List.mem_of_getElem? (i := 7) rfl))) (mvT hZ (hw _ (List.mem_of_getElem? (i := 15) rfl))) (by decide) (backOf (W := 0) (rm_max l Z a0 hw [] r1 (own_off (((p3.toUInt32 >>> ((14 : Int32) &&& 31).toUInt32).toInt32) &&& (3 : Int32)) q5 b) h0 n0 Z0) hZ (hw _ (List.mem_of_getElem? (i := 15) rfl)) (hw _ (List.mem_of_getElem? (i := 7) rfl)) (by decide) (by decide)) (g := (mkF m 177 #[.val (.long q0), .second, .val (.long q1), .second, .val (.long q2), .second, .val (.int p3), .val (.long q4), .second, .val (.long q5), .second, .val (.long b), .second, .val (.int (Int32.ofNat kn)), .val (.long lim), .second, .val (.long bn), .second, .val (.int j1), .val (.int j2), .val (.int j3), .val (.int f1), .val (.int f2), .val (.int f3), .val (.long r1), .second, .val (.long (own_off (((p3.toUInt32 >>> ((14 : Int32) &&& 31).toUInt32).toInt32) &&& (3 : Int32)) q5 b)), .second, .unset, .unset, .unset, .unset, .unset, .unset, .unset, .unset, .unset] [(.long (own_off (((p3.toUInt32 >>> ((14 : Int32) &&& 31).toUInt32).toInt32) &&& (3 : Int32)) q5 b)), (.long r1)])) rfl (by rw [hml]; rfl) (argsL := [(.long r1), (.long (own_off (((p3.toUInt32 >>> ((14 : Int32) &&& 31).toUInt32).toInt32) &&& (3 : Int32)) q5 b))]) (rest := []) (lenOf pd__JJ_J rfl) rfl (by show 2 * 0 + _ ≤ _; exact Nat.le_of_eq rfl) (hb hby at_177) (fun _ _ => ⟨rfl, eq215, (by decide : 0 + 0 ≤ _), (by decide : 0 + 0 ≤ _)⟩)
      dsimp only [Pt.U, Pt.locs, Pt.cells, Pt.slots] at X221 l221 y221 z221 st221 hQ221
      subst l221 y221 z221
      obtain ⟨rfl, Nq221, eq221⟩ := hQ221
      have N221 := Fr.app N215 Nq221
      have c222 : Goes p e below s₁ (entryFrame m #[(.long q0), (.long q1), (.long q2), (.int p3), (.long q4), (.long q5)] maxLocals) T221 (mkF m 180 #[.val (.long q0), .second, .val (.long q1), .second, .val (.long q2), .second, .val (.int p3), .val (.long q4), .second, .val (.long q5), .second, .val (.long b), .second, .val (.int (Int32.ofNat kn)), .val (.long lim), .second, .val (.long bn), .second, .val (.int j1), .val (.int j2), .val (.int j3), .val (.int f1), .val (.int f2), .val (.int f3), .val (.long r1), .second, .val (.long (own_off (((p3.toUInt32 >>> ((14 : Int32) &&& 31).toUInt32).toInt32) &&& (3 : Int32)) q5 b)), .second, .unset, .unset, .unset, .unset, .unset, .unset, .unset, .unset, .unset] [(.long (own_max r1 (own_off (((p3.toUInt32 >>> ((14 : Int32) &&& 31).toUInt32).toInt32) &&& (3 : Int32)) q5 b)))]) := fun t kk => c220 t (st221 t kk)
      have c223 : Goes p e below s₁ (entryFrame m #[(.long q0), (.long q1), (.long q2), (.int p3), (.long q4), (.long q5)] maxLocals) T221 (mkF m 182 #[.val (.long q0), .second, .val (.long q1), .second, .val (.long q2), .second, .val (.int p3), .val (.long q4), .second, .val (.long q5), .second, .val (.long b), .second, .val (.int (Int32.ofNat kn)), .val (.long lim), .second, .val (.long bn), .second, .val (.int j1), .val (.int j2), .val (.int j3), .val (.int f1), .val (.int f2), .val (.int f3), .val (.long r1), .second, .val (.long (own_max r1 (own_off (((p3.toUInt32 >>> ((14 : Int32) &&& 31).toUInt32).toInt32) &&& (3 : Int32)) q5 b))), .second, .unset, .unset, .unset, .unset, .unset, .unset, .unset, .unset, .unset] []) := by
        intro t kk
        refine c222 t ?_
        show Steps p.tables e below (T221.setTop (mkF m 180 #[.val (.long q0), .second, .val (.long q1), .second, .val (.long q2), .second, .val (.int p3), .val (.long q4), .second, .val (.long q5), .second, .val (.long b), .second, .val (.int (Int32.ofNat kn)), .val (.long lim), .second, .val (.long bn), .second, .val (.int j1), .val (.int j2), .val (.int j3), .val (.int f1), .val (.int f2), .val (.int f3), .val (.long r1), .second, .val (.long (own_off (((p3.toUInt32 >>> ((14 : Int32) &&& 31).toUInt32).toInt32) &&& (3 : Int32)) q5 b)), .second, .unset, .unset, .unset, .unset, .unset, .unset, .unset, .unset, .unset] [(.long (own_max r1 (own_off (((p3.toUInt32 >>> ((14 : Int32) &&& 31).toUInt32).toInt32) &&& (3 : Int32)) q5 b)))])) t
        refine XS.lstore X221.here hx rfl (hb hby at_180) rfl (l' := #[.val (.long q0), .second, .val (.long q1), .second, .val (.long q2), .second, .val (.int p3), .val (.long q4), .second, .val (.long q5), .second, .val (.long b), .second, .val (.int (Int32.ofNat kn)), .val (.long lim), .second, .val (.long bn), .second, .val (.int j1), .val (.int j2), .val (.int j3), .val (.int f1), .val (.int f2), .val (.int f3), .val (.long r1), .second, .val (.long (own_max r1 (own_off (((p3.toUInt32 >>> ((14 : Int32) &&& 31).toUInt32).toInt32) &&& (3 : Int32)) q5 b))), .second, .unset, .unset, .unset, .unset, .unset, .unset, .unset, .unset, .unset]) rfl ?_
        exact kk
      exact ⟨(own_max r1 (own_off (((p3.toUInt32 >>> ((14 : Int32) &&& 31).toUInt32).toInt32) &&& (3 : Int32)) q5 b)), T221, _, (own_maxr hr1 (own_offr _ _ hB.1)), N221, X221, eq221, c223⟩
    · have c224 : Goes p e below s₁ (entryFrame m #[(.long q0), (.long q1), (.long q2), (.int p3), (.long q4), (.long q5)] maxLocals) T215 (mkF m 182 #[.val (.long q0), .second, .val (.long q1), .second, .val (.long q2), .second, .val (.int p3), .val (.long q4), .second, .val (.long q5), .second, .val (.long b), .second, .val (.int (Int32.ofNat kn)), .val (.long lim), .second, .val (.long bn), .second, .val (.int j1), .val (.int j2), .val (.int j3), .val (.int f1), .val (.int f2), .val (.int f3), .val (.long r1), .second, .val (.long (own_off (((p3.toUInt32 >>> ((14 : Int32) &&& 31).toUInt32).toInt32) &&& (3 : Int32)) q5 b)), .second, .unset, .unset, .unset, .unset, .unset, .unset, .unset, .unset, .unset] []) := by
        intro t kk
        refine c217 t ?_
        show Steps p.tables e below (T215.setTop (mkF m 170 #[.val (.long q0), .second, .val (.long q1), .second, .val (.long q2), .second, .val (.int p3), .val (.long q4), .second, .val (.long q5), .second, .val (.long b), .second, .val (.int (Int32.ofNat kn)), .val (.long lim), .second, .val (.long bn), .second, .val (.int j1), .val (.int j2), .val (.int j3), .val (.int f1), .val (.int f2), .val (.int f3), .val (.long r1), .second, .val (.long (own_off (((p3.toUInt32 >>> ((14 : Int32) &&& 31).toUInt32).toInt32) &&& (3 : Int32)) q5 b)), .second, .unset, .unset, .unset, .unset, .unset, .unset, .unset, .unset, .unset] [(.int j1), (.int j2)])) t
        refine XS.icmpYes X215.here hx rfl (pc0 := 170) (pc' := 182) rfl (hb hby at_170) rfl (feq hc170_219).2 (by decide) (by decide) ?_
        exact kk
      exact ⟨(own_off (((p3.toUInt32 >>> ((14 : Int32) &&& 31).toUInt32).toInt32) &&& (3 : Int32)) q5 b), T215, _, (own_offr _ _ hB.1), N215, X215, eq215, c224⟩
  have hr2 := hm218
  have c225 : Goes p e below s₁ (entryFrame m #[(.long q0), (.long q1), (.long q2), (.int p3), (.long q4), (.long q5)] maxLocals) T218 (mkF m 199 #[.val (.long q0), .second, .val (.long q1), .second, .val (.long q2), .second, .val (.int p3), .val (.long q4), .second, .val (.long q5), .second, .val (.long b), .second, .val (.int (Int32.ofNat kn)), .val (.long lim), .second, .val (.long bn), .second, .val (.int j1), .val (.int j2), .val (.int j3), .val (.int f1), .val (.int f2), .val (.int f3), .val (.long r1), .second, .val (.long r2), .second, .unset, .unset, .unset, .unset, .unset, .unset, .unset, .unset, .unset] [(.long b), (.long ((q4 ^^^ q5) ^^^ q2)), (.int (((p3.toUInt32 >>> ((16 : Int32) &&& 31).toUInt32).toInt32) &&& (3 : Int32)))]) := by
    intro t kk
    refine c218 t ?_
    show Steps p.tables e below (T218.setTop (mkF m 182 #[.val (.long q0), .second, .val (.long q1), .second, .val (.long q2), .second, .val (.int p3), .val (.long q4), .second, .val (.long q5), .second, .val (.long b), .second, .val (.int (Int32.ofNat kn)), .val (.long lim), .second, .val (.long bn), .second, .val (.int j1), .val (.int j2), .val (.int j3), .val (.int f1), .val (.int f2), .val (.int f3), .val (.long r1), .second, .val (.long r2), .second, .unset, .unset, .unset, .unset, .unset, .unset, .unset, .unset, .unset] [])) t
    refine XS.iload X218.here hx rfl (hb hby at_182) rfl ?_
    show Steps p.tables e below (T218.setTop (mkF m 184 #[.val (.long q0), .second, .val (.long q1), .second, .val (.long q2), .second, .val (.int p3), .val (.long q4), .second, .val (.long q5), .second, .val (.long b), .second, .val (.int (Int32.ofNat kn)), .val (.long lim), .second, .val (.long bn), .second, .val (.int j1), .val (.int j2), .val (.int j3), .val (.int f1), .val (.int f2), .val (.int f3), .val (.long r1), .second, .val (.long r2), .second, .unset, .unset, .unset, .unset, .unset, .unset, .unset, .unset, .unset] [(.int p3)])) t
    refine XS.bipush X218.here hx rfl (hb hby at_184) ?_
    show Steps p.tables e below (T218.setTop (mkF m 186 #[.val (.long q0), .second, .val (.long q1), .second, .val (.long q2), .second, .val (.int p3), .val (.long q4), .second, .val (.long q5), .second, .val (.long b), .second, .val (.int (Int32.ofNat kn)), .val (.long lim), .second, .val (.long bn), .second, .val (.int j1), .val (.int j2), .val (.int j3), .val (.int f1), .val (.int f2), .val (.int f3), .val (.long r1), .second, .val (.long r2), .second, .unset, .unset, .unset, .unset, .unset, .unset, .unset, .unset, .unset] [(.int (16 : Int32)), (.int p3)])) t
    refine XS.iushr X218.here hx rfl (hb hby at_186) rfl ?_
    show Steps p.tables e below (T218.setTop (mkF m 187 #[.val (.long q0), .second, .val (.long q1), .second, .val (.long q2), .second, .val (.int p3), .val (.long q4), .second, .val (.long q5), .second, .val (.long b), .second, .val (.int (Int32.ofNat kn)), .val (.long lim), .second, .val (.long bn), .second, .val (.int j1), .val (.int j2), .val (.int j3), .val (.int f1), .val (.int f2), .val (.int f3), .val (.long r1), .second, .val (.long r2), .second, .unset, .unset, .unset, .unset, .unset, .unset, .unset, .unset, .unset] [(.int ((p3.toUInt32 >>> ((16 : Int32) &&& 31).toUInt32).toInt32))])) t
    refine XS.iconst X218.here hx rfl (hb hby at_187) ?_
    show Steps p.tables e below (T218.setTop (mkF m 188 #[.val (.long q0), .second, .val (.long q1), .second, .val (.long q2), .second, .val (.int p3), .val (.long q4), .second, .val (.long q5), .second, .val (.long b), .second, .val (.int (Int32.ofNat kn)), .val (.long lim), .second, .val (.long bn), .second, .val (.int j1), .val (.int j2), .val (.int j3), .val (.int f1), .val (.int f2), .val (.int f3), .val (.long r1), .second, .val (.long r2), .second, .unset, .unset, .unset, .unset, .unset, .unset, .unset, .unset, .unset] [(.int (3 : Int32)), (.int ((p3.toUInt32 >>> ((16 : Int32) &&& 31).toUInt32).toInt32))])) t
    refine XS.iand X218.here hx rfl (hb hby at_188) rfl ?_
    show Steps p.tables e below (T218.setTop (mkF m 189 #[.val (.long q0), .second, .val (.long q1), .second, .val (.long q2), .second, .val (.int p3), .val (.long q4), .second, .val (.long q5), .second, .val (.long b), .second, .val (.int (Int32.ofNat kn)), .val (.long lim), .second, .val (.long bn), .second, .val (.int j1), .val (.int j2), .val (.int j3), .val (.int f1), .val (.int f2), .val (.int f3), .val (.long r1), .second, .val (.long r2), .second, .unset, .unset, .unset, .unset, .unset, .unset, .unset, .unset, .unset] [(.int (((p3.toUInt32 >>> ((16 : Int32) &&& 31).toUInt32).toInt32) &&& (3 : Int32)))])) t
    refine XS.lload X218.here hx rfl (hb hby at_189) rfl ?_
    show Steps p.tables e below (T218.setTop (mkF m 191 #[.val (.long q0), .second, .val (.long q1), .second, .val (.long q2), .second, .val (.int p3), .val (.long q4), .second, .val (.long q5), .second, .val (.long b), .second, .val (.int (Int32.ofNat kn)), .val (.long lim), .second, .val (.long bn), .second, .val (.int j1), .val (.int j2), .val (.int j3), .val (.int f1), .val (.int f2), .val (.int f3), .val (.long r1), .second, .val (.long r2), .second, .unset, .unset, .unset, .unset, .unset, .unset, .unset, .unset, .unset] [(.long q4), (.int (((p3.toUInt32 >>> ((16 : Int32) &&& 31).toUInt32).toInt32) &&& (3 : Int32)))])) t
    refine XS.lload X218.here hx rfl (hb hby at_191) rfl ?_
    show Steps p.tables e below (T218.setTop (mkF m 193 #[.val (.long q0), .second, .val (.long q1), .second, .val (.long q2), .second, .val (.int p3), .val (.long q4), .second, .val (.long q5), .second, .val (.long b), .second, .val (.int (Int32.ofNat kn)), .val (.long lim), .second, .val (.long bn), .second, .val (.int j1), .val (.int j2), .val (.int j3), .val (.int f1), .val (.int f2), .val (.int f3), .val (.long r1), .second, .val (.long r2), .second, .unset, .unset, .unset, .unset, .unset, .unset, .unset, .unset, .unset] [(.long q5), (.long q4), (.int (((p3.toUInt32 >>> ((16 : Int32) &&& 31).toUInt32).toInt32) &&& (3 : Int32)))])) t
    refine XS.lxor X218.here hx rfl (hb hby at_193) rfl ?_
    show Steps p.tables e below (T218.setTop (mkF m 194 #[.val (.long q0), .second, .val (.long q1), .second, .val (.long q2), .second, .val (.int p3), .val (.long q4), .second, .val (.long q5), .second, .val (.long b), .second, .val (.int (Int32.ofNat kn)), .val (.long lim), .second, .val (.long bn), .second, .val (.int j1), .val (.int j2), .val (.int j3), .val (.int f1), .val (.int f2), .val (.int f3), .val (.long r1), .second, .val (.long r2), .second, .unset, .unset, .unset, .unset, .unset, .unset, .unset, .unset, .unset] [(.long (q4 ^^^ q5)), (.int (((p3.toUInt32 >>> ((16 : Int32) &&& 31).toUInt32).toInt32) &&& (3 : Int32)))])) t
    refine XS.lload X218.here hx rfl (hb hby at_194) rfl ?_
    show Steps p.tables e below (T218.setTop (mkF m 196 #[.val (.long q0), .second, .val (.long q1), .second, .val (.long q2), .second, .val (.int p3), .val (.long q4), .second, .val (.long q5), .second, .val (.long b), .second, .val (.int (Int32.ofNat kn)), .val (.long lim), .second, .val (.long bn), .second, .val (.int j1), .val (.int j2), .val (.int j3), .val (.int f1), .val (.int f2), .val (.int f3), .val (.long r1), .second, .val (.long r2), .second, .unset, .unset, .unset, .unset, .unset, .unset, .unset, .unset, .unset] [(.long q2), (.long (q4 ^^^ q5)), (.int (((p3.toUInt32 >>> ((16 : Int32) &&& 31).toUInt32).toInt32) &&& (3 : Int32)))])) t
    refine XS.lxor X218.here hx rfl (hb hby at_196) rfl ?_
    show Steps p.tables e below (T218.setTop (mkF m 197 #[.val (.long q0), .second, .val (.long q1), .second, .val (.long q2), .second, .val (.int p3), .val (.long q4), .second, .val (.long q5), .second, .val (.long b), .second, .val (.int (Int32.ofNat kn)), .val (.long lim), .second, .val (.long bn), .second, .val (.int j1), .val (.int j2), .val (.int j3), .val (.int f1), .val (.int f2), .val (.int f3), .val (.long r1), .second, .val (.long r2), .second, .unset, .unset, .unset, .unset, .unset, .unset, .unset, .unset, .unset] [(.long ((q4 ^^^ q5) ^^^ q2)), (.int (((p3.toUInt32 >>> ((16 : Int32) &&& 31).toUInt32).toInt32) &&& (3 : Int32)))])) t
    refine XS.lload X218.here hx rfl (hb hby at_197) rfl ?_
    exact kk
  obtain ⟨_, _, ⟨T226, L226, k226, n226⟩, -, X226, ⟨Lc226, hQ226, l226, y226, z226⟩, st226⟩ := Jvm.LawKit.callS X218 hx (y := (⟨"com/example/ventil/ventil/RollingCountSumPinLaw", "off", "(IJJ)J"⟩ : MethodName)) hown (mvT hZ (hw _ (List.mem_of_getElem? (i := 9) rfl))) (mvT hZ (hw _ (List.mem_of_getElem? (i := 10) rfl))) (mvT hZ (hw _ (List.mem_of_getElem? (i := 11) rfl))) (mvT hZ (hw _ (List.mem_of_getElem? (i := 12) rfl))) (by decide) (backOf (W := 0) (rm_off l Z a0 hw [] (((p3.toUInt32 >>> ((16 : Int32) &&& 31).toUInt32).toInt32) &&& (3 : Int32)) ((q4 ^^^ q5) ^^^ q2) b h0 n0 Z0 hbz) hZ (hw _ (List.mem_of_getElem? (i := 12) rfl)) (hw _ (List.mem_of_getElem? (i := 11) rfl)) (by decide) (by decide)) (g := (mkF m 199 #[.val (.long q0), .second, .val (.long q1), .second, .val (.long q2), .second, .val (.int p3), .val (.long q4), .second, .val (.long q5), .second, .val (.long b), .second, .val (.int (Int32.ofNat kn)), .val (.long lim), .second, .val (.long bn), .second, .val (.int j1), .val (.int j2), .val (.int j3), .val (.int f1), .val (.int f2), .val (.int f3), .val (.long r1), .second, .val (.long r2), .second, .unset, .unset, .unset, .unset, .unset, .unset, .unset, .unset, .unset] [(.long b), (.long ((q4 ^^^ q5) ^^^ q2)), (.int (((p3.toUInt32 >>> ((16 : Int32) &&& 31).toUInt32).toInt32) &&& (3 : Int32)))])) rfl (by rw [hml]; rfl) (argsL := [(.int (((p3.toUInt32 >>> ((16 : Int32) &&& 31).toUInt32).toInt32) &&& (3 : Int32))), (.long ((q4 ^^^ q5) ^^^ q2)), (.long b)]) (rest := []) (lenOf pd__IJJ_J rfl) rfl (by show 2 * 0 + _ ≤ _; exact Nat.le_of_eq rfl) (hb hby at_199) (fun _ _ => ⟨rfl, e218, (by decide : 0 + 0 ≤ _), (by decide : 0 + 0 ≤ _)⟩)
  dsimp only [Pt.U, Pt.locs, Pt.cells, Pt.slots] at X226 l226 y226 z226 st226 hQ226
  subst l226 y226 z226
  obtain ⟨rfl, Nq226, eq226⟩ := hQ226
  have N226 := Fr.app N218 Nq226
  have c227 : Goes p e below s₁ (entryFrame m #[(.long q0), (.long q1), (.long q2), (.int p3), (.long q4), (.long q5)] maxLocals) T226 (mkF m 202 #[.val (.long q0), .second, .val (.long q1), .second, .val (.long q2), .second, .val (.int p3), .val (.long q4), .second, .val (.long q5), .second, .val (.long b), .second, .val (.int (Int32.ofNat kn)), .val (.long lim), .second, .val (.long bn), .second, .val (.int j1), .val (.int j2), .val (.int j3), .val (.int f1), .val (.int f2), .val (.int f3), .val (.long r1), .second, .val (.long r2), .second, .unset, .unset, .unset, .unset, .unset, .unset, .unset, .unset, .unset] [(.long (own_off (((p3.toUInt32 >>> ((16 : Int32) &&& 31).toUInt32).toInt32) &&& (3 : Int32)) ((q4 ^^^ q5) ^^^ q2) b))]) := fun t kk => c225 t (st226 t kk)
  have c228 : Goes p e below s₁ (entryFrame m #[(.long q0), (.long q1), (.long q2), (.int p3), (.long q4), (.long q5)] maxLocals) T226 (mkF m 208 #[.val (.long q0), .second, .val (.long q1), .second, .val (.long q2), .second, .val (.int p3), .val (.long q4), .second, .val (.long q5), .second, .val (.long b), .second, .val (.int (Int32.ofNat kn)), .val (.long lim), .second, .val (.long bn), .second, .val (.int j1), .val (.int j2), .val (.int j3), .val (.int f1), .val (.int f2), .val (.int f3), .val (.long r1), .second, .val (.long r2), .second, .val (.long (own_off (((p3.toUInt32 >>> ((16 : Int32) &&& 31).toUInt32).toInt32) &&& (3 : Int32)) ((q4 ^^^ q5) ^^^ q2) b)), .second, .unset, .unset, .unset, .unset, .unset, .unset, .unset] [(.int j2), (.int j3)]) := by
    intro t kk
    refine c227 t ?_
    show Steps p.tables e below (T226.setTop (mkF m 202 #[.val (.long q0), .second, .val (.long q1), .second, .val (.long q2), .second, .val (.int p3), .val (.long q4), .second, .val (.long q5), .second, .val (.long b), .second, .val (.int (Int32.ofNat kn)), .val (.long lim), .second, .val (.long bn), .second, .val (.int j1), .val (.int j2), .val (.int j3), .val (.int f1), .val (.int f2), .val (.int f3), .val (.long r1), .second, .val (.long r2), .second, .unset, .unset, .unset, .unset, .unset, .unset, .unset, .unset, .unset] [(.long (own_off (((p3.toUInt32 >>> ((16 : Int32) &&& 31).toUInt32).toInt32) &&& (3 : Int32)) ((q4 ^^^ q5) ^^^ q2) b))])) t
    refine XS.lstore X226.here hx rfl (hb hby at_202) rfl (l' := #[.val (.long q0), .second, .val (.long q1), .second, .val (.long q2), .second, .val (.int p3), .val (.long q4), .second, .val (.long q5), .second, .val (.long b), .second, .val (.int (Int32.ofNat kn)), .val (.long lim), .second, .val (.long bn), .second, .val (.int j1), .val (.int j2), .val (.int j3), .val (.int f1), .val (.int f2), .val (.int f3), .val (.long r1), .second, .val (.long r2), .second, .val (.long (own_off (((p3.toUInt32 >>> ((16 : Int32) &&& 31).toUInt32).toInt32) &&& (3 : Int32)) ((q4 ^^^ q5) ^^^ q2) b)), .second, .unset, .unset, .unset, .unset, .unset, .unset, .unset]) rfl ?_
    show Steps p.tables e below (T226.setTop (mkF m 204 #[.val (.long q0), .second, .val (.long q1), .second, .val (.long q2), .second, .val (.int p3), .val (.long q4), .second, .val (.long q5), .second, .val (.long b), .second, .val (.int (Int32.ofNat kn)), .val (.long lim), .second, .val (.long bn), .second, .val (.int j1), .val (.int j2), .val (.int j3), .val (.int f1), .val (.int f2), .val (.int f3), .val (.long r1), .second, .val (.long r2), .second, .val (.long (own_off (((p3.toUInt32 >>> ((16 : Int32) &&& 31).toUInt32).toInt32) &&& (3 : Int32)) ((q4 ^^^ q5) ^^^ q2) b)), .second, .unset, .unset, .unset, .unset, .unset, .unset, .unset] [])) t
    refine XS.iload X226.here hx rfl (hb hby at_204) rfl ?_
    show Steps p.tables e below (T226.setTop (mkF m 206 #[.val (.long q0), .second, .val (.long q1), .second, .val (.long q2), .second, .val (.int p3), .val (.long q4), .second, .val (.long q5), .second, .val (.long b), .second, .val (.int (Int32.ofNat kn)), .val (.long lim), .second, .val (.long bn), .second, .val (.int j1), .val (.int j2), .val (.int j3), .val (.int f1), .val (.int f2), .val (.int f3), .val (.long r1), .second, .val (.long r2), .second, .val (.long (own_off (((p3.toUInt32 >>> ((16 : Int32) &&& 31).toUInt32).toInt32) &&& (3 : Int32)) ((q4 ^^^ q5) ^^^ q2) b)), .second, .unset, .unset, .unset, .unset, .unset, .unset, .unset] [(.int j3)])) t
    refine XS.iload X226.here hx rfl (hb hby at_206) rfl ?_
    exact kk
  obtain ⟨r3, T229, Lx229, hm229, N229, X229, e229, c229⟩ : ∃ (r3 : Int64) (T229 : State) (Lx229 : List Loc), (0 ≤ r3.toInt ∧ r3.toInt < b.toInt) ∧ Fr n0 Lx229 ∧ Stand p l e room_1 s m #[(.long q0), (.long q1), (.long q2), (.int p3), (.long q4), (.long q5)] below meth c T229 Lx229 0 0 ∧ T229.heap = h0 ∧ Goes p e below s₁ (entryFrame m #[(.long q0), (.long q1), (.long q2), (.int p3), (.long q4), (.long q5)] maxLocals) T229 (mkF m 220 #[.val (.long q0), .second, .val (.long q1), .second, .val (.long q2), .second, .val (.int p3), .val (.long q4), .second, .val (.long q5), .second, .val (.long b), .second, .val (.int (Int32.ofNat kn)), .val (.long lim), .second, .val (.long bn), .second, .val (.int j1), .val (.int j2), .val (.int j3), .val (.int f1), .val (.int f2), .val (.int f3), .val (.long r1), .second, .val (.long r2), .second, .val (.long r3), .second, .unset, .unset, .unset, .unset, .unset, .unset, .unset] []) := by
    by_cases hc208_230 : j3 = j2
    · have c231 : Goes p e below s₁ (entryFrame m #[(.long q0), (.long q1), (.long q2), (.int p3), (.long q4), (.long q5)] maxLocals) T226 (mkF m 215 #[.val (.long q0), .second, .val (.long q1), .second, .val (.long q2), .second, .val (.int p3), .val (.long q4), .second, .val (.long q5), .second, .val (.long b), .second, .val (.int (Int32.ofNat kn)), .val (.long lim), .second, .val (.long bn), .second, .val (.int j1), .val (.int j2), .val (.int j3), .val (.int f1), .val (.int f2), .val (.int f3), .val (.long r1), .second, .val (.long r2), .second, .val (.long (own_off (((p3.toUInt32 >>> ((16 : Int32) &&& 31).toUInt32).toInt32) &&& (3 : Int32)) ((q4 ^^^ q5) ^^^ q2) b)), .second, .unset, .unset, .unset, .unset, .unset, .unset, .unset] [(.long (own_off (((p3.toUInt32 >>> ((16 : Int32) &&& 31).toUInt32).toInt32) &&& (3 : Int32)) ((q4 ^^^ q5) ^^^ q2) b)), (.long r2)]) := by
        intro t kk
        refine c228 t ?_
        show Steps p.tables e below (T226.setTop (mkF m 208 #[.val (.long q0), .second, .val (.long q1), .second, .val (.long q2), .second, .val (.int p3), .val (.long q4), .second, .val (.long q5), .second, .val (.long b), .second, .val (.int (Int32.ofNat kn)), .val (.long lim), .second, .val (.long bn), .second, .val (.int j1), .val (.int j2), .val (.int j3), .val (.int f1), .val (.int f2), .val (.int f3), .val (.long r1), .second, .val (.long r2), .second, .val (.long (own_off (((p3.toUInt32 >>> ((16 : Int32) &&& 31).toUInt32).toInt32) &&& (3 : Int32)) ((q4 ^^^ q5) ^^^ q2) b)), .second, .unset, .unset, .unset, .unset, .unset, .unset, .unset] [(.int j2), (.int j3)])) t
        refine XS.icmpNo X226.here hx rfl (hb hby at_208) rfl (teq hc208_230).2 ?_
        show Steps p.tables e below (T226.setTop (mkF m 211 #[.val (.long q0), .second, .val (.long q1), .second, .val (.long q2), .second, .val (.int p3), .val (.long q4), .second, .val (.long q5), .second, .val (.long b), .second, .val (.int (Int32.ofNat kn)), .val (.long lim), .second, .val (.long bn), .second, .val (.int j1), .val (.int j2), .val (.int j3), .val (.int f1), .val (.int f2), .val (.int f3), .val (.long r1), .second, .val (.long r2), .second, .val (.long (own_off (((p3.toUInt32 >>> ((16 : Int32) &&& 31).toUInt32).toInt32) &&& (3 : Int32)) ((q4 ^^^ q5) ^^^ q2) b)), .second, .unset, .unset, .unset, .unset, .unset, .unset, .unset] [])) t
        refine XS.lload X226.here hx rfl (hb hby at_211) rfl ?_
        show Steps p.tables e below (T226.setTop (mkF m 213 #[.val (.long q0), .second, .val (.long q1), .second, .val (.long q2), .second, .val (.int p3), .val (.long q4), .second, .val (.long q5), .second, .val (.long b), .second, .val (.int (Int32.ofNat kn)), .val (.long lim), .second, .val (.long bn), .second, .val (.int j1), .val (.int j2), .val (.int j3), .val (.int f1), .val (.int f2), .val (.int f3), .val (.long r1), .second, .val (.long r2), .second, .val (.long (own_off (((p3.toUInt32 >>> ((16 : Int32) &&& 31).toUInt32).toInt32) &&& (3 : Int32)) ((q4 ^^^ q5) ^^^ q2) b)), .second, .unset, .unset, .unset, .unset, .unset, .unset, .unset] [(.long r2)])) t
        refine XS.lload X226.here hx rfl (hb hby at_213) rfl ?_
        exact kk
      obtain ⟨_, _, ⟨T232, L232, k232, n232⟩, -, X232, ⟨Lc232, hQ232, l232, y232, z232⟩, st232⟩ := Jvm.LawKit.callS X226 hx (y := (⟨"java/lang/Math", "max", "(JJ)J"⟩ : MethodName)) hown (mvT hZ (hw _ (List.mem_of_getElem? (i := 13) rfl))) (mvT hZ (hw _ (List.mem_of_getElem? (i := 14) rfl))) (mvT hZ (hw _ (List.mem_of_getElem? (i := 7) rfl))) (mvT hZ (hw _ (List.mem_of_getElem? (i := 15) rfl))) (by decide) (backOf (W := 0) (rm_max l Z a0 hw [] r2 (own_off (((p3.toUInt32 >>> ((16 : Int32) &&& 31).toUInt32).toInt32) &&& (3 : Int32)) ((q4 ^^^ q5) ^^^ q2) b) h0 n0 Z0) hZ (hw _ (List.mem_of_getElem? (i := 15) rfl)) (hw _ (List.mem_of_getElem? (i := 7) rfl)) (by decide) (by decide)) (g := (mkF m 215 #[.val (.long q0), .second, .val (.long q1), .second, .val (.long q2), .second, .val (.int p3), .val (.long q4), .second, .val (.long q5), .second, .val (.long b), .second, .val (.int (Int32.ofNat kn)), .val (.long lim), .second, .val (.long bn), .second, .val (.int j1), .val (.int j2), .val (.int j3), .val (.int f1), .val (.int f2), .val (.int f3), .val (.long r1), .second, .val (.long r2), .second, .val (.long (own_off (((p3.toUInt32 >>> ((16 : Int32) &&& 31).toUInt32).toInt32) &&& (3 : Int32)) ((q4 ^^^ q5) ^^^ q2) b)), .second, .unset, .unset, .unset, .unset, .unset, .unset, .unset] [(.long (own_off (((p3.toUInt32 >>> ((16 : Int32) &&& 31).toUInt32).toInt32) &&& (3 : Int32)) ((q4 ^^^ q5) ^^^ q2) b)), (.long r2)])) rfl (by rw [hml]; rfl) (argsL := [(.long r2), (.long (own_off (((p3.toUInt32 >>> ((16 : Int32) &&& 31).toUInt32).toInt32) &&& (3 : Int32)) ((q4 ^^^ q5) ^^^ q2) b))]) (rest := []) (lenOf pd__JJ_J rfl) rfl (by show 2 * 0 + _ ≤ _; exact Nat.le_of_eq rfl) (hb hby at_215) (fun _ _ => ⟨rfl, eq226, (by decide : 0 + 0 ≤ _), (by decide : 0 + 0 ≤ _)⟩)
      dsimp only [Pt.U, Pt.locs, Pt.cells, Pt.slots] at X232 l232 y232 z232 st232 hQ232
      subst l232 y232 z232
      obtain ⟨rfl, Nq232, eq232⟩ := hQ232
      have N232 := Fr.app N226 Nq232
      have c233 : Goes p e below s₁ (entryFrame m #[(.long q0), (.long q1), (.long q2), (.int p3), (.long q4), (.long q5)] maxLocals) T232 (mkF m 218 #[.val (.long q0), .second, .val (.long q1), .second, .val (.long q2), .second, .val (.int p3), .val (.long q4), .second, .val (.long q5), .second, .val (.long b), .second, .val (.int (Int32.ofNat kn)), .val (.long lim), .second, .val (.long bn), .second, .val (.int j1), .val (.int j2), .val (.int j3), .val (.int f1), .val (.int f2), .val (.int f3), .val (.long r1), .second, .val (.long r2), .second, .val (.long (own_off (((p3.toUInt32 >>> ((16 : Int32) &&& 31).toUInt32).toInt32) &&& (3 : Int32)) ((q4 ^^^ q5) ^^^ q2) b)), .second, .unset, .unset, .unset, .unset, .unset, .unset, .unset] [(.long (own_max r2 (own_off (((p3.toUInt32 >>> ((16 : Int32) &&& 31).toUInt32).toInt32) &&& (3 : Int32)) ((q4 ^^^ q5) ^^^ q2) b)))]) := fun t kk => c231 t (st232 t kk)
      have c234 : Goes p e below s₁ (entryFrame m #[(.long q0), (.long q1), (.long q2), (.int p3), (.long q4), (.long q5)] maxLocals) T232 (mkF m 220 #[.val (.long q0), .second, .val (.long q1), .second, .val (.long q2), .second, .val (.int p3), .val (.long q4), .second, .val (.long q5), .second, .val (.long b), .second, .val (.int (Int32.ofNat kn)), .val (.long lim), .second, .val (.long bn), .second, .val (.int j1), .val (.int j2), .val (.int j3), .val (.int f1), .val (.int f2), .val (.int f3), .val (.long r1), .second, .val (.long r2), .second, .val (.long (own_max r2 (own_off (((p3.toUInt32 >>> ((16 : Int32) &&& 31).toUInt32).toInt32) &&& (3 : Int32)) ((q4 ^^^ q5) ^^^ q2) b))), .second, .unset, .unset, .unset, .unset, .unset, .unset, .unset] []) := by
        intro t kk
        refine c233 t ?_
        show Steps p.tables e below (T232.setTop (mkF m 218 #[.val (.long q0), .second, .val (.long q1), .second, .val (.long q2), .second, .val (.int p3), .val (.long q4), .second, .val (.long q5), .second, .val (.long b), .second, .val (.int (Int32.ofNat kn)), .val (.long lim), .second, .val (.long bn), .second, .val (.int j1), .val (.int j2), .val (.int j3), .val (.int f1), .val (.int f2), .val (.int f3), .val (.long r1), .second, .val (.long r2), .second, .val (.long (own_off (((p3.toUInt32 >>> ((16 : Int32) &&& 31).toUInt32).toInt32) &&& (3 : Int32)) ((q4 ^^^ q5) ^^^ q2) b)), .second, .unset, .unset, .unset, .unset, .unset, .unset, .unset] [(.long (own_max r2 (own_off (((p3.toUInt32 >>> ((16 : Int32) &&& 31).toUInt32).toInt32) &&& (3 : Int32)) ((q4 ^^^ q5) ^^^ q2) b)))])) t
        refine XS.lstore X232.here hx rfl (hb hby at_218) rfl (l' := #[.val (.long q0), .second, .val (.long q1), .second, .val (.long q2), .second, .val (.int p3), .val (.long q4), .second, .val (.long q5), .second, .val (.long b), .second, .val (.int (Int32.ofNat kn)), .val (.long lim), .second, .val (.long bn), .second, .val (.int j1), .val (.int j2), .val (.int j3), .val (.int f1), .val (.int f2), .val (.int f3), .val (.long r1), .second, .val (.long r2), .second, .val (.long (own_max r2 (own_off (((p3.toUInt32 >>> ((16 : Int32) &&& 31).toUInt32).toInt32) &&& (3 : Int32)) ((q4 ^^^ q5) ^^^ q2) b))), .second, .unset, .unset, .unset, .unset, .unset, .unset, .unset]) rfl ?_
        exact kk
      exact ⟨(own_max r2 (own_off (((p3.toUInt32 >>> ((16 : Int32) &&& 31).toUInt32).toInt32) &&& (3 : Int32)) ((q4 ^^^ q5) ^^^ q2) b)), T232, _, (own_maxr hr2 (own_offr _ _ hB.1)), N232, X232, eq232, c234⟩
    · have c235 : Goes p e below s₁ (entryFrame m #[(.long q0), (.long q1), (.long q2), (.int p3), (.long q4), (.long q5)] maxLocals) T226 (mkF m 220 #[.val (.long q0), .second, .val (.long q1), .second, .val (.long q2), .second, .val (.int p3), .val (.long q4), .second, .val (.long q5), .second, .val (.long b), .second, .val (.int (Int32.ofNat kn)), .val (.long lim), .second, .val (.long bn), .second, .val (.int j1), .val (.int j2), .val (.int j3), .val (.int f1), .val (.int f2), .val (.int f3), .val (.long r1), .second, .val (.long r2), .second, .val (.long (own_off (((p3.toUInt32 >>> ((16 : Int32) &&& 31).toUInt32).toInt32) &&& (3 : Int32)) ((q4 ^^^ q5) ^^^ q2) b)), .second, .unset, .unset, .unset, .unset, .unset, .unset, .unset] []) := by
        intro t kk
        refine c228 t ?_
        show Steps p.tables e below (T226.setTop (mkF m 208 #[.val (.long q0), .second, .val (.long q1), .second, .val (.long q2), .second, .val (.int p3), .val (.long q4), .second, .val (.long q5), .second, .val (.long b), .second, .val (.int (Int32.ofNat kn)), .val (.long lim), .second, .val (.long bn), .second, .val (.int j1), .val (.int j2), .val (.int j3), .val (.int f1), .val (.int f2), .val (.int f3), .val (.long r1), .second, .val (.long r2), .second, .val (.long (own_off (((p3.toUInt32 >>> ((16 : Int32) &&& 31).toUInt32).toInt32) &&& (3 : Int32)) ((q4 ^^^ q5) ^^^ q2) b)), .second, .unset, .unset, .unset, .unset, .unset, .unset, .unset] [(.int j2), (.int j3)])) t
        refine XS.icmpYes X226.here hx rfl (pc0 := 208) (pc' := 220) rfl (hb hby at_208) rfl (feq hc208_230).2 (by decide) (by decide) ?_
        exact kk
      exact ⟨(own_off (((p3.toUInt32 >>> ((16 : Int32) &&& 31).toUInt32).toInt32) &&& (3 : Int32)) ((q4 ^^^ q5) ^^^ q2) b), T226, _, (own_offr _ _ hB.1), N226, X226, eq226, c235⟩
  have hr3 := hm229
  have c236 : Goes p e below s₁ (entryFrame m #[(.long q0), (.long q1), (.long q2), (.int p3), (.long q4), (.long q5)] maxLocals) T229 (mkF m 231 #[.val (.long q0), .second, .val (.long q1), .second, .val (.long q2), .second, .val (.int p3), .val (.long q4), .second, .val (.long q5), .second, .val (.long b), .second, .val (.int (Int32.ofNat kn)), .val (.long lim), .second, .val (.long bn), .second, .val (.int j1), .val (.int j2), .val (.int j3), .val (.int f1), .val (.int f2), .val (.int f3), .val (.long r1), .second, .val (.long r2), .second, .val (.long r3), .second, .unset, .unset, .unset, .unset, .unset, .unset, .unset] [(.long b), (.long q2), (.int (((p3.toUInt32 >>> ((18 : Int32) &&& 31).toUInt32).toInt32) &&& (3 : Int32)))]) := by
    intro t kk
    refine c229 t ?_
    show Steps p.tables e below (T229.setTop (mkF m 220 #[.val (.long q0), .second, .val (.long q1), .second, .val (.long q2), .second, .val (.int p3), .val (.long q4), .second, .val (.long q5), .second, .val (.long b), .second, .val (.int (Int32.ofNat kn)), .val (.long lim), .second, .val (.long bn), .second, .val (.int j1), .val (.int j2), .val (.int j3), .val (.int f1), .val (.int f2), .val (.int f3), .val (.long r1), .second, .val (.long r2), .second, .val (.long r3), .second, .unset, .unset, .unset, .unset, .unset, .unset, .unset] [])) t
    refine XS.iload X229.here hx rfl (hb hby at_220) rfl ?_
    show Steps p.tables e below (T229.setTop (mkF m 222 #[.val (.long q0), .second, .val (.long q1), .second, .val (.long q2), .second, .val (.int p3), .val (.long q4), .second, .val (.long q5), .second, .val (.long b), .second, .val (.int (Int32.ofNat kn)), .val (.long lim), .second, .val (.long bn), .second, .val (.int j1), .val (.int j2), .val (.int j3), .val (.int f1), .val (.int f2), .val (.int f3), .val (.long r1), .second, .val (.long r2), .second, .val (.long r3), .second, .unset, .unset, .unset, .unset, .unset, .unset, .unset] [(.int p3)])) t
    refine XS.bipush X229.here hx rfl (hb hby at_222) ?_
    show Steps p.tables e below (T229.setTop (mkF m 224 #[.val (.long q0), .second, .val (.long q1), .second, .val (.long q2), .second, .val (.int p3), .val (.long q4), .second, .val (.long q5), .second, .val (.long b), .second, .val (.int (Int32.ofNat kn)), .val (.long lim), .second, .val (.long bn), .second, .val (.int j1), .val (.int j2), .val (.int j3), .val (.int f1), .val (.int f2), .val (.int f3), .val (.long r1), .second, .val (.long r2), .second, .val (.long r3), .second, .unset, .unset, .unset, .unset, .unset, .unset, .unset] [(.int (18 : Int32)), (.int p3)])) t
    refine XS.iushr X229.here hx rfl (hb hby at_224) rfl ?_
    show Steps p.tables e below (T229.setTop (mkF m 225 #[.val (.long q0), .second, .val (.long q1), .second, .val (.long q2), .second, .val (.int p3), .val (.long q4), .second, .val (.long q5), .second, .val (.long b), .second, .val (.int (Int32.ofNat kn)), .val (.long lim), .second, .val (.long bn), .second, .val (.int j1), .val (.int j2), .val (.int j3), .val (.int f1), .val (.int f2), .val (.int f3), .val (.long r1), .second, .val (.long r2), .second, .val (.long r3), .second, .unset, .unset, .unset, .unset, .unset, .unset, .unset] [(.int ((p3.toUInt32 >>> ((18 : Int32) &&& 31).toUInt32).toInt32))])) t
    refine XS.iconst X229.here hx rfl (hb hby at_225) ?_
    show Steps p.tables e below (T229.setTop (mkF m 226 #[.val (.long q0), .second, .val (.long q1), .second, .val (.long q2), .second, .val (.int p3), .val (.long q4), .second, .val (.long q5), .second, .val (.long b), .second, .val (.int (Int32.ofNat kn)), .val (.long lim), .second, .val (.long bn), .second, .val (.int j1), .val (.int j2), .val (.int j3), .val (.int f1), .val (.int f2), .val (.int f3), .val (.long r1), .second, .val (.long r2), .second, .val (.long r3), .second, .unset, .unset, .unset, .unset, .unset, .unset, .unset] [(.int (3 : Int32)), (.int ((p3.toUInt32 >>> ((18 : Int32) &&& 31).toUInt32).toInt32))])) t
    refine XS.iand X229.here hx rfl (hb hby at_226) rfl ?_
    show Steps p.tables e below (T229.setTop (mkF m 227 #[.val (.long q0), .second, .val (.long q1), .second, .val (.long q2), .second, .val (.int p3), .val (.long q4), .second, .val (.long q5), .second, .val (.long b), .second, .val (.int (Int32.ofNat kn)), .val (.long lim), .second, .val (.long bn), .second, .val (.int j1), .val (.int j2), .val (.int j3), .val (.int f1), .val (.int f2), .val (.int f3), .val (.long r1), .second, .val (.long r2), .second, .val (.long r3), .second, .unset, .unset, .unset, .unset, .unset, .unset, .unset] [(.int (((p3.toUInt32 >>> ((18 : Int32) &&& 31).toUInt32).toInt32) &&& (3 : Int32)))])) t
    refine XS.lload X229.here hx rfl (hb hby at_227) rfl ?_
    show Steps p.tables e below (T229.setTop (mkF m 229 #[.val (.long q0), .second, .val (.long q1), .second, .val (.long q2), .second, .val (.int p3), .val (.long q4), .second, .val (.long q5), .second, .val (.long b), .second, .val (.int (Int32.ofNat kn)), .val (.long lim), .second, .val (.long bn), .second, .val (.int j1), .val (.int j2), .val (.int j3), .val (.int f1), .val (.int f2), .val (.int f3), .val (.long r1), .second, .val (.long r2), .second, .val (.long r3), .second, .unset, .unset, .unset, .unset, .unset, .unset, .unset] [(.long q2), (.int (((p3.toUInt32 >>> ((18 : Int32) &&& 31).toUInt32).toInt32) &&& (3 : Int32)))])) t
    refine XS.lload X229.here hx rfl (hb hby at_229) rfl ?_
    exact kk
  obtain ⟨_, _, ⟨T237, L237, k237, n237⟩, -, X237, ⟨Lc237, hQ237, l237, y237, z237⟩, st237⟩ := Jvm.LawKit.callS X229 hx (y := (⟨"com/example/ventil/ventil/RollingCountSumPinLaw", "off", "(IJJ)J"⟩ : MethodName)) hown (mvT hZ (hw _ (List.mem_of_getElem? (i := 9) rfl))) (mvT hZ (hw _ (List.mem_of_getElem? (i := 10) rfl))) (mvT hZ (hw _ (List.mem_of_getElem? (i := 11) rfl))) (mvT hZ (hw _ (List.mem_of_getElem? (i := 12) rfl))) (by decide) (backOf (W := 0) (rm_off l Z a0 hw [] (((p3.toUInt32 >>> ((18 : Int32) &&& 31).toUInt32).toInt32) &&& (3 : Int32)) q2 b h0 n0 Z0 hbz) hZ (hw _ (List.mem_of_getElem? (i := 12) rfl)) (hw _ (List.mem_of_getElem? (i := 11) rfl)) (by decide) (by decide)) (g := (mkF m 231 #[.val (.long q0), .second, .val (.long q1), .second, .val (.long q2), .second, .val (.int p3), .val (.long q4), .second, .val (.long q5), .second, .val (.long b), .second, .val (.int (Int32.ofNat kn)), .val (.long lim), .second, .val (.long bn), .second, .val (.int j1), .val (.int j2), .val (.int j3), .val (.int f1), .val (.int f2), .val (.int f3), .val (.long r1), .second, .val (.long r2), .second, .val (.long r3), .second, .unset, .unset, .unset, .unset, .unset, .unset, .unset] [(.long b), (.long q2), (.int (((p3.toUInt32 >>> ((18 : Int32) &&& 31).toUInt32).toInt32) &&& (3 : Int32)))])) rfl (by rw [hml]; rfl) (argsL := [(.int (((p3.toUInt32 >>> ((18 : Int32) &&& 31).toUInt32).toInt32) &&& (3 : Int32))), (.long q2), (.long b)]) (rest := []) (lenOf pd__IJJ_J rfl) rfl (by show 2 * 0 + _ ≤ _; exact Nat.le_of_eq rfl) (hb hby at_231) (fun _ _ => ⟨rfl, e229, (by decide : 0 + 0 ≤ _), (by decide : 0 + 0 ≤ _)⟩)
  dsimp only [Pt.U, Pt.locs, Pt.cells, Pt.slots] at X237 l237 y237 z237 st237 hQ237
  subst l237 y237 z237
  obtain ⟨rfl, Nq237, eq237⟩ := hQ237
  have N237 := Fr.app N229 Nq237
  have c238 : Goes p e below s₁ (entryFrame m #[(.long q0), (.long q1), (.long q2), (.int p3), (.long q4), (.long q5)] maxLocals) T237 (mkF m 234 #[.val (.long q0), .second, .val (.long q1), .second, .val (.long q2), .second, .val (.int p3), .val (.long q4), .second, .val (.long q5), .second, .val (.long b), .second, .val (.int (Int32.ofNat kn)), .val (.long lim), .second, .val (.long bn), .second, .val (.int j1), .val (.int j2), .val (.int j3), .val (.int f1), .val (.int f2), .val (.int f3), .val (.long r1), .second, .val (.long r2), .second, .val (.long r3), .second, .unset, .unset, .unset, .unset, .unset, .unset, .unset] [(.long (own_off (((p3.toUInt32 >>> ((18 : Int32) &&& 31).toUInt32).toInt32) &&& (3 : Int32)) q2 b))]) := fun t kk => c236 t (st237 t kk)
  have c239 : Goes p e below s₁ (entryFrame m #[(.long q0), (.long q1), (.long q2), (.int p3), (.long q4), (.long q5)] maxLocals) T237 (mkF m 238 #[.val (.long q0), .second, .val (.long q1), .second, .val (.long q2), .second, .val (.int p3), .val (.long q4), .second, .val (.long q5), .second, .val (.long b), .second, .val (.int (Int32.ofNat kn)), .val (.long lim), .second, .val (.long bn), .second, .val (.int j1), .val (.int j2), .val (.int j3), .val (.int f1), .val (.int f2), .val (.int f3), .val (.long r1), .second, .val (.long r2), .second, .val (.long r3), .second, .val (.long (own_off (((p3.toUInt32 >>> ((18 : Int32) &&& 31).toUInt32).toInt32) &&& (3 : Int32)) q2 b)), .second, .unset, .unset, .unset, .unset, .unset] [(.int j3)]) := by
    intro t kk
    refine c238 t ?_
    show Steps p.tables e below (T237.setTop (mkF m 234 #[.val (.long q0), .second, .val (.long q1), .second, .val (.long q2), .second, .val (.int p3), .val (.long q4), .second, .val (.long q5), .second, .val (.long b), .second, .val (.int (Int32.ofNat kn)), .val (.long lim), .second, .val (.long bn), .second, .val (.int j1), .val (.int j2), .val (.int j3), .val (.int f1), .val (.int f2), .val (.int f3), .val (.long r1), .second, .val (.long r2), .second, .val (.long r3), .second, .unset, .unset, .unset, .unset, .unset, .unset, .unset] [(.long (own_off (((p3.toUInt32 >>> ((18 : Int32) &&& 31).toUInt32).toInt32) &&& (3 : Int32)) q2 b))])) t
    refine XS.lstore X237.here hx rfl (hb hby at_234) rfl (l' := #[.val (.long q0), .second, .val (.long q1), .second, .val (.long q2), .second, .val (.int p3), .val (.long q4), .second, .val (.long q5), .second, .val (.long b), .second, .val (.int (Int32.ofNat kn)), .val (.long lim), .second, .val (.long bn), .second, .val (.int j1), .val (.int j2), .val (.int j3), .val (.int f1), .val (.int f2), .val (.int f3), .val (.long r1), .second, .val (.long r2), .second, .val (.long r3), .second, .val (.long (own_off (((p3.toUInt32 >>> ((18 : Int32) &&& 31).toUInt32).toInt32) &&& (3 : Int32)) q2 b)), .second, .unset, .unset, .unset, .unset, .unset]) rfl ?_
    show Steps p.tables e below (T237.setTop (mkF m 236 #[.val (.long q0), .second, .val (.long q1), .second, .val (.long q2), .second, .val (.int p3), .val (.long q4), .second, .val (.long q5), .second, .val (.long b), .second, .val (.int (Int32.ofNat kn)), .val (.long lim), .second, .val (.long bn), .second, .val (.int j1), .val (.int j2), .val (.int j3), .val (.int f1), .val (.int f2), .val (.int f3), .val (.long r1), .second, .val (.long r2), .second, .val (.long r3), .second, .val (.long (own_off (((p3.toUInt32 >>> ((18 : Int32) &&& 31).toUInt32).toInt32) &&& (3 : Int32)) q2 b)), .second, .unset, .unset, .unset, .unset, .unset] [])) t
    refine XS.iload X237.here hx rfl (hb hby at_236) rfl ?_
    exact kk
  obtain ⟨rn, T240, Lx240, hm240, N240, X240, e240, c240⟩ : ∃ (rn : Int64) (T240 : State) (Lx240 : List Loc), (0 ≤ rn.toInt ∧ rn.toInt < b.toInt) ∧ Fr n0 Lx240 ∧ Stand p l e room_1 s m #[(.long q0), (.long q1), (.long q2), (.int p3), (.long q4), (.long q5)] below meth c T240 Lx240 0 0 ∧ T240.heap = h0 ∧ Goes p e below s₁ (entryFrame m #[(.long q0), (.long q1), (.long q2), (.int p3), (.long q4), (.long q5)] maxLocals) T240 (mkF m 250 #[.val (.long q0), .second, .val (.long q1), .second, .val (.long q2), .second, .val (.int p3), .val (.long q4), .second, .val (.long q5), .second, .val (.long b), .second, .val (.int (Int32.ofNat kn)), .val (.long lim), .second, .val (.long bn), .second, .val (.int j1), .val (.int j2), .val (.int j3), .val (.int f1), .val (.int f2), .val (.int f3), .val (.long r1), .second, .val (.long r2), .second, .val (.long r3), .second, .val (.long rn), .second, .unset, .unset, .unset, .unset, .unset] []) := by
    by_cases hc238_241 : j3 = (0 : Int32)
    · have c242 : Goes p e below s₁ (entryFrame m #[(.long q0), (.long q1), (.long q2), (.int p3), (.long q4), (.long q5)] maxLocals) T237 (mkF m 245 #[.val (.long q0), .second, .val (.long q1), .second, .val (.long q2), .second, .val (.int p3), .val (.long q4), .second, .val (.long q5), .second, .val (.long b), .second, .val (.int (Int32.ofNat kn)), .val (.long lim), .second, .val (.long bn), .second, .val (.int j1), .val (.int j2), .val (.int j3), .val (.int f1), .val (.int f2), .val (.int f3), .val (.long r1), .second, .val (.long r2), .second, .val (.long r3), .second, .val (.long (own_off (((p3.toUInt32 >>> ((18 : Int32) &&& 31).toUInt32).toInt32) &&& (3 : Int32)) q2 b)), .second, .unset, .unset, .unset, .unset, .unset] [(.long (own_off (((p3.toUInt32 >>> ((18 : Int32) &&& 31).toUInt32).toInt32) &&& (3 : Int32)) q2 b)), (.long r3)]) := by
        intro t kk
        refine c239 t ?_
        show Steps p.tables e below (T237.setTop (mkF m 238 #[.val (.long q0), .second, .val (.long q1), .second, .val (.long q2), .second, .val (.int p3), .val (.long q4), .second, .val (.long q5), .second, .val (.long b), .second, .val (.int (Int32.ofNat kn)), .val (.long lim), .second, .val (.long bn), .second, .val (.int j1), .val (.int j2), .val (.int j3), .val (.int f1), .val (.int f2), .val (.int f3), .val (.long r1), .second, .val (.long r2), .second, .val (.long r3), .second, .val (.long (own_off (((p3.toUInt32 >>> ((18 : Int32) &&& 31).toUInt32).toInt32) &&& (3 : Int32)) q2 b)), .second, .unset, .unset, .unset, .unset, .unset] [(.int j3)])) t
        refine XS.ifNo X237.here hx rfl (hb hby at_238) rfl ((if0 _ _).trans (teq hc238_241).2) ?_
        show Steps p.tables e below (T237.setTop (mkF m 241 #[.val (.long q0), .second, .val (.long q1), .second, .val (.long q2), .second, .val (.int p3), .val (.long q4), .second, .val (.long q5), .second, .val (.long b), .second, .val (.int (Int32.ofNat kn)), .val (.long lim), .second, .val (.long bn), .second, .val (.int j1), .val (.int j2), .val (.int j3), .val (.int f1), .val (.int f2), .val (.int f3), .val (.long r1), .second, .val (.long r2), .second, .val (.long r3), .second, .val (.long (own_off (((p3.toUInt32 >>> ((18 : Int32) &&& 31).toUInt32).toInt32) &&& (3 : Int32)) q2 b)), .second, .unset, .unset, .unset, .unset, .unset] [])) t
        refine XS.lload X237.here hx rfl (hb hby at_241) rfl ?_
        show Steps p.tables e below (T237.setTop (mkF m 243 #[.val (.long q0), .second, .val (.long q1), .second, .val (.long q2), .second, .val (.int p3), .val (.long q4), .second, .val (.long q5), .second, .val (.long b), .second, .val (.int (Int32.ofNat kn)), .val (.long lim), .second, .val (.long bn), .second, .val (.int j1), .val (.int j2), .val (.int j3), .val (.int f1), .val (.int f2), .val (.int f3), .val (.long r1), .second, .val (.long r2), .second, .val (.long r3), .second, .val (.long (own_off (((p3.toUInt32 >>> ((18 : Int32) &&& 31).toUInt32).toInt32) &&& (3 : Int32)) q2 b)), .second, .unset, .unset, .unset, .unset, .unset] [(.long r3)])) t
        refine XS.lload X237.here hx rfl (hb hby at_243) rfl ?_
        exact kk
      obtain ⟨_, _, ⟨T243, L243, k243, n243⟩, -, X243, ⟨Lc243, hQ243, l243, y243, z243⟩, st243⟩ := Jvm.LawKit.callS X237 hx (y := (⟨"java/lang/Math", "max", "(JJ)J"⟩ : MethodName)) hown (mvT hZ (hw _ (List.mem_of_getElem? (i := 13) rfl))) (mvT hZ (hw _ (List.mem_of_getElem? (i := 14) rfl))) (mvT hZ (hw _ (List.mem_of_getElem? (i := 7) rfl))) (mvT hZ (hw _ (List.mem_of_getElem? (i := 15) rfl))) (by decide) (backOf (W := 0) (rm_max l Z a0 hw [] r3 (own_off (((p3.toUInt32 >>> ((18 : Int32) &&& 31).toUInt32).toInt32) &&& (3 : Int32)) q2 b) h0 n0 Z0) hZ (hw _ (List.mem_of_getElem? (i := 15) rfl)) (hw _ (List.mem_of_getElem? (i := 7) rfl)) (by decide) (by decide)) (g := (mkF m 245 #[.val (.long q0), .second, .val (.long q1), .second, .val (.long q2), .second, .val (.int p3), .val (.long q4), .second, .val (.long q5), .second, .val (.long b), .second, .val (.int (Int32.ofNat kn)), .val (.long lim), .second, .val (.long bn), .second, .val (.int j1), .val (.int j2), .val (.int j3), .val (.int f1), .val (.int f2), .val (.int f3), .val (.long r1), .second, .val (.long r2), .second, .val (.long r3), .second, .val (.long (own_off (((p3.toUInt32 >>> ((18 : Int32) &&& 31).toUInt32).toInt32) &&& (3 : Int32)) q2 b)), .second, .unset, .unset, .unset, .unset, .unset] [(.long (own_off (((p3.toUInt32 >>> ((18 : Int32) &&& 31).toUInt32).toInt32) &&& (3 : Int32)) q2 b)), (.long r3)])) rfl (by rw [hml]; rfl) (argsL := [(.long r3), (.long (own_off (((p3.toUInt32 >>> ((18 : Int32) &&& 31).toUInt32).toInt32) &&& (3 : Int32)) q2 b))]) (rest := []) (lenOf pd__JJ_J rfl) rfl (by show 2 * 0 + _ ≤ _; exact Nat.le_of_eq rfl) (hb hby at_245) (fun _ _ => ⟨rfl, eq237, (by decide : 0 + 0 ≤ _), (by decide : 0 + 0 ≤ _)⟩)
      dsimp only [Pt.U, Pt.locs, Pt.cells, Pt.slots] at X243 l243 y243 z243 st243 hQ243
      subst l243 y243 z243
      obtain ⟨rfl, Nq243, eq243⟩ := hQ243
      have N243 := Fr.app N237 Nq243
      have c244 : Goes p e below s₁ (entryFrame m #[(.long q0), (.long q1), (.long q2), (.int p3), (.long q4), (.long q5)] maxLocals) T243 (mkF m 248 #[.val (.long q0), .second, .val (.long q1), .second, .val (.long q2), .second, .val (.int p3), .val (.long q4), .second, .val (.long q5), .second, .val (.long b), .second, .val (.int (Int32.ofNat kn)), .val (.long lim), .second, .val (.long bn), .second, .val (.int j1), .val (.int j2), .val (.int j3), .val (.int f1), .val (.int f2), .val (.int f3), .val (.long r1), .second, .val (.long r2), .second, .val (.long r3), .second, .val (.long (own_off (((p3.toUInt32 >>> ((18 : Int32) &&& 31).toUInt32).toInt32) &&& (3 : Int32)) q2 b)), .second, .unset, .unset, .unset, .unset, .unset] [(.long (own_max r3 (own_off (((p3.toUInt32 >>> ((18 : Int32) &&& 31).toUInt32).toInt32) &&& (3 : Int32)) q2 b)))]) := fun t kk => c242 t (st243 t kk)
      have c245 : Goes p e below s₁ (entryFrame m #[(.long q0), (.long q1), (.long q2), (.int p3), (.long q4), (.long q5)] maxLocals) T243 (mkF m 250 #[.val (.long q0), .second, .val (.long q1), .second, .val (.long q2), .second, .val (.int p3), .val (.long q4), .second, .val (.long q5), .second, .val (.long b), .second, .val (.int (Int32.ofNat kn)), .val (.long lim), .second, .val (.long bn), .second, .val (.int j1), .val (.int j2), .val (.int j3), .val (.int f1), .val (.int f2), .val (.int f3), .val (.long r1), .second, .val (.long r2), .second, .val (.long r3), .second, .val (.long (own_max r3 (own_off (((p3.toUInt32 >>> ((18 : Int32) &&& 31).toUInt32).toInt32) &&& (3 : Int32)) q2 b))), .second, .unset, .unset, .unset, .unset, .unset] []) := by
        intro t kk
        refine c244 t ?_
        show Steps p.tables e below (T243.setTop (mkF m 248 #[.val (.long q0), .second, .val (.long q1), .second, .val (.long q2), .second, .val (.int p3), .val (.long q4), .second, .val (.long q5), .second, .val (.long b), .second, .val (.int (Int32.ofNat kn)), .val (.long lim), .second, .val (.long bn), .second, .val (.int j1), .val (.int j2), .val (.int j3), .val (.int f1), .val (.int f2), .val (.int f3), .val (.long r1), .second, .val (.long r2), .second, .val (.long r3), .second, .val (.long (own_off (((p3.toUInt32 >>> ((18 : Int32) &&& 31).toUInt32).toInt32) &&& (3 : Int32)) q2 b)), .second, .unset, .unset, .unset, .unset, .unset] [(.long (own_max r3 (own_off (((p3.toUInt32 >>> ((18 : Int32) &&& 31).toUInt32).toInt32) &&& (3 : Int32)) q2 b)))])) t
        refine XS.lstore X243.here hx rfl (hb hby at_248) rfl (l' := #[.val (.long q0), .second, .val (.long q1), .second, .val (.long q2), .second, .val (.int p3), .val (.long q4), .second, .val (.long q5), .second, .val (.long b), .second, .val (.int (Int32.ofNat kn)), .val (.long lim), .second, .val (.long bn), .second, .val (.int j1), .val (.int j2), .val (.int j3), .val (.int f1), .val (.int f2), .val (.int f3), .val (.long r1), .second, .val (.long r2), .second, .val (.long r3), .second, .val (.long (own_max r3 (own_off (((p3.toUInt32 >>> ((18 : Int32) &&& 31).toUInt32).toInt32) &&& (3 : Int32)) q2 b))), .second, .unset, .unset, .unset, .unset, .unset]) rfl ?_
        exact kk
      exact ⟨(own_max r3 (own_off (((p3.toUInt32 >>> ((18 : Int32) &&& 31).toUInt32).toInt32) &&& (3 : Int32)) q2 b)), T243, _, (own_maxr hr3 (own_offr _ _ hB.1)), N243, X243, eq243, c245⟩
    · have c246 : Goes p e below s₁ (entryFrame m #[(.long q0), (.long q1), (.long q2), (.int p3), (.long q4), (.long q5)] maxLocals) T237 (mkF m 250 #[.val (.long q0), .second, .val (.long q1), .second, .val (.long q2), .second, .val (.int p3), .val (.long q4), .second, .val (.long q5), .second, .val (.long b), .second, .val (.int (Int32.ofNat kn)), .val (.long lim), .second, .val (.long bn), .second, .val (.int j1), .val (.int j2), .val (.int j3), .val (.int f1), .val (.int f2), .val (.int f3), .val (.long r1), .second, .val (.long r2), .second, .val (.long r3), .second, .val (.long (own_off (((p3.toUInt32 >>> ((18 : Int32) &&& 31).toUInt32).toInt32) &&& (3 : Int32)) q2 b)), .second, .unset, .unset, .unset, .unset, .unset] []) := by
        intro t kk
        refine c239 t ?_
        show Steps p.tables e below (T237.setTop (mkF m 238 #[.val (.long q0), .second, .val (.long q1), .second, .val (.long q2), .second, .val (.int p3), .val (.long q4), .second, .val (.long q5), .second, .val (.long b), .second, .val (.int (Int32.ofNat kn)), .val (.long lim), .second, .val (.long bn), .second, .val (.int j1), .val (.int j2), .val (.int j3), .val (.int f1), .val (.int f2), .val (.int f3), .val (.long r1), .second, .val (.long r2), .second, .val (.long r3), .second, .val (.long (own_off (((p3.toUInt32 >>> ((18 : Int32) &&& 31).toUInt32).toInt32) &&& (3 : Int32)) q2 b)), .second, .unset, .unset, .unset, .unset, .unset] [(.int j3)])) t
        refine XS.ifYes X237.here hx rfl (pc0 := 238) (pc' := 250) rfl (hb hby at_238) rfl ((if0 _ _).trans (feq hc238_241).2) (by decide) (by decide) ?_
        exact kk
      exact ⟨(own_off (((p3.toUInt32 >>> ((18 : Int32) &&& 31).toUInt32).toInt32) &&& (3 : Int32)) q2 b), T237, _, (own_offr _ _ hB.1), N237, X237, eq237, c246⟩
  have hrn := hm240
  obtain ⟨T247, h247, X247, e247, E247, A247, D247, -, st247⟩ := newO X240 hx hZ hown (hw _ (List.mem_of_getElem? (i := 16) rfl)) (hw _ (List.mem_of_getElem? (i := 17) rfl)) (hw _ (List.mem_of_getElem? (i := 18) rfl)) e240 (g := (mkF m 250 #[.val (.long q0), .second, .val (.long q1), .second, .val (.long q2), .second, .val (.int p3), .val (.long q4), .second, .val (.long q5), .second, .val (.long b), .second, .val (.int (Int32.ofNat kn)), .val (.long lim), .second, .val (.long bn), .second, .val (.int j1), .val (.int j2), .val (.int j3), .val (.int f1), .val (.int f2), .val (.int f3), .val (.long r1), .second, .val (.long r2), .second, .val (.long r3), .second, .val (.long rn), .second, .unset, .unset, .unset, .unset, .unset] [])) rfl (hb hby at_250) (by decide) (by decide)
  obtain ⟨b247, g247⟩ : ∃ z, z = h0.size := ⟨_, rfl⟩
  rw [← g247] at A247 D247 st247
  have gb247 : n0 ≤ b247 := Nat.le_trans Z0 (Nat.le_of_eq g247.symm)
  have F_bucketNanos_b247 : Fld Z h247 b247 "com/example/ventil/ventil/RollingCount" "bucketNanos" "J" (.long (0 : Int64)) := D247 (Or.inr (hw _ (List.mem_of_getElem? (i := 26) rfl))) (ty := .long) (by decide)
  have F_counts_b247 : Fld Z h247 b247 "com/example/ventil/ventil/RollingCount" "counts" "[J" .null := D247 (Or.inr (hw _ (List.mem_of_getElem? (i := 29) rfl))) (ty := (.array .long)) (by decide)
  have F_bucketInSlot_b247 : Fld Z h247 b247 "com/example/ventil/ventil/RollingCount" "bucketInSlot" "[J" .null := D247 (Or.inr (hw _ (List.mem_of_getElem? (i := 31) rfl))) (ty := (.array .long)) (by decide)
  have c248 : Goes p e below s₁ (entryFrame m #[(.long q0), (.long q1), (.long q2), (.int p3), (.long q4), (.long q5)] maxLocals) T247 (mkF m 253 #[.val (.long q0), .second, .val (.long q1), .second, .val (.long q2), .second, .val (.int p3), .val (.long q4), .second, .val (.long q5), .second, .val (.long b), .second, .val (.int (Int32.ofNat kn)), .val (.long lim), .second, .val (.long bn), .second, .val (.int j1), .val (.int j2), .val (.int j3), .val (.int f1), .val (.int f2), .val (.int f3), .val (.long r1), .second, .val (.long r2), .second, .val (.long r3), .second, .val (.long rn), .second, .unset, .unset, .unset, .unset, .unset] [(.ref b247)]) := fun t kk => c240 t (st247 t kk)
  have f249 := (Nat.le_trans Z0 E247.1)
  have c250 : Goes p e below s₁ (entryFrame m #[(.long q0), (.long q1), (.long q2), (.int p3), (.long q4), (.long q5)] maxLocals) T247 (mkF m 262 #[.val (.long q0), .second, .val (.long q1), .second, .val (.long q2), .second, .val (.int p3), .val (.long q4), .second, .val (.long q5), .second, .val (.long b), .second, .val (.int (Int32.ofNat kn)), .val (.long lim), .second, .val (.long bn), .second, .val (.int j1), .val (.int j2), .val (.int j3), .val (.int f1), .val (.int f2), .val (.int f3), .val (.long r1), .second, .val (.long r2), .second, .val (.long r3), .second, .val (.long rn), .second, .unset, .unset, .unset, .unset, .unset] [(.int (Int32.ofNat kn)), (.long (b * ((Int32.ofNat kn).toInt64))), (.ref b247), (.ref b247)]) := by
    intro t kk
    refine c248 t ?_
    show Steps p.tables e below (T247.setTop (mkF m 253 #[.val (.long q0), .second, .val (.long q1), .second, .val (.long q2), .second, .val (.int p3), .val (.long q4), .second, .val (.long q5), .second, .val (.long b), .second, .val (.int (Int32.ofNat kn)), .val (.long lim), .second, .val (.long bn), .second, .val (.int j1), .val (.int j2), .val (.int j3), .val (.int f1), .val (.int f2), .val (.int f3), .val (.long r1), .second, .val (.long r2), .second, .val (.long r3), .second, .val (.long rn), .second, .unset, .unset, .unset, .unset, .unset] [(.ref b247)])) t
    refine XS.dup X247.here hx rfl (hb hby at_253) rfl rfl ?_
    show Steps p.tables e below (T247.setTop (mkF m 254 #[.val (.long q0), .second, .val (.long q1), .second, .val (.long q2), .second, .val (.int p3), .val (.long q4), .second, .val (.long q5), .second, .val (.long b), .second, .val (.int (Int32.ofNat kn)), .val (.long lim), .second, .val (.long bn), .second, .val (.int j1), .val (.int j2), .val (.int j3), .val (.int f1), .val (.int f2), .val (.int f3), .val (.long r1), .second, .val (.long r2), .second, .val (.long r3), .second, .val (.long rn), .second, .unset, .unset, .unset, .unset, .unset] [(.ref b247), (.ref b247)])) t
    refine XS.lload X247.here hx rfl (hb hby at_254) rfl ?_
    show Steps p.tables e below (T247.setTop (mkF m 256 #[.val (.long q0), .second, .val (.long q1), .second, .val (.long q2), .second, .val (.int p3), .val (.long q4), .second, .val (.long q5), .second, .val (.long b), .second, .val (.int (Int32.ofNat kn)), .val (.long lim), .second, .val (.long bn), .second, .val (.int j1), .val (.int j2), .val (.int j3), .val (.int f1), .val (.int f2), .val (.int f3), .val (.long r1), .second, .val (.long r2), .second, .val (.long r3), .second, .val (.long rn), .second, .unset, .unset, .unset, .unset, .unset] [(.long b), (.ref b247), (.ref b247)])) t
    refine XS.iload X247.here hx rfl (hb hby at_256) rfl ?_
    show Steps p.tables e below (T247.setTop (mkF m 258 #[.val (.long q0), .second, .val (.long q1), .second, .val (.long q2), .second, .val (.int p3), .val (.long q4), .second, .val (.long q5), .second, .val (.long b), .second, .val (.int (Int32.ofNat kn)), .val (.long lim), .second, .val (.long bn), .second, .val (.int j1), .val (.int j2), .val (.int j3), .val (.int f1), .val (.int f2), .val (.int f3), .val (.long r1), .second, .val (.long r2), .second, .val (.long r3), .second, .val (.long rn), .second, .unset, .unset, .unset, .unset, .unset] [(.int (Int32.ofNat kn)), (.long b), (.ref b247), (.ref b247)])) t
    refine XS.i2l X247.here hx rfl (hb hby at_258) rfl ?_
    show Steps p.tables e below (T247.setTop (mkF m 259 #[.val (.long q0), .second, .val (.long q1), .second, .val (.long q2), .second, .val (.int p3), .val (.long q4), .second, .val (.long q5), .second, .val (.long b), .second, .val (.int (Int32.ofNat kn)), .val (.long lim), .second, .val (.long bn), .second, .val (.int j1), .val (.int j2), .val (.int j3), .val (.int f1), .val (.int f2), .val (.int f3), .val (.long r1), .second, .val (.long r2), .second, .val (.long r3), .second, .val (.long rn), .second, .unset, .unset, .unset, .unset, .unset] [(.long ((Int32.ofNat kn).toInt64)), (.long b), (.ref b247), (.ref b247)])) t
    refine XS.lmul X247.here hx rfl (hb hby at_259) rfl ?_
    show Steps p.tables e below (T247.setTop (mkF m 260 #[.val (.long q0), .second, .val (.long q1), .second, .val (.long q2), .second, .val (.int p3), .val (.long q4), .second, .val (.long q5), .second, .val (.long b), .second, .val (.int (Int32.ofNat kn)), .val (.long lim), .second, .val (.long bn), .second, .val (.int j1), .val (.int j2), .val (.int j3), .val (.int f1), .val (.int f2), .val (.int f3), .val (.long r1), .second, .val (.long r2), .second, .val (.long r3), .second, .val (.long rn), .second, .unset, .unset, .unset, .unset, .unset] [(.long (b * ((Int32.ofNat kn).toInt64))), (.ref b247), (.ref b247)])) t
    refine XS.iload X247.here hx rfl (hb hby at_260) rfl ?_
    exact kk
  obtain ⟨_, _, ⟨T251, L251, k251, n251⟩, -, X251, ⟨Lc251, hQ251, l251, y251, z251⟩, st251⟩ := X247.specialBack hx (y := (⟨"com/example/ventil/ventil/RollingCount", "<init>", "(JI)V"⟩ : MethodName)) rfl hown (mvT hZ (hw _ (List.mem_of_getElem? (i := 19) rfl))) (mvT hZ (hw _ (List.mem_of_getElem? (i := 20) rfl))) (mvT hZ (hw _ (List.mem_of_getElem? (i := 21) rfl))) (by decide) (backOf (W := 1) (rm_ini l Z a0 hw [] b247 b kn h247 n0 f249 F_bucketNanos_b247 F_counts_b247 F_bucketInSlot_b247 A247 gb247 hB.1 hB.2 hk hn) hZ (hw _ (List.mem_of_getElem? (i := 21) rfl)) (hw _ (List.mem_of_getElem? (i := 18) rfl)) (by decide) (by decide)) (g := (mkF m 262 #[.val (.long q0), .second, .val (.long q1), .second, .val (.long q2), .second, .val (.int p3), .val (.long q4), .second, .val (.long q5), .second, .val (.long b), .second, .val (.int (Int32.ofNat kn)), .val (.long lim), .second, .val (.long bn), .second, .val (.int j1), .val (.int j2), .val (.int j3), .val (.int f1), .val (.int f2), .val (.int f3), .val (.long r1), .second, .val (.long r2), .second, .val (.long r3), .second, .val (.long rn), .second, .unset, .unset, .unset, .unset, .unset] [(.int (Int32.ofNat kn)), (.long (b * ((Int32.ofNat kn).toInt64))), (.ref b247), (.ref b247)])) rfl (by rw [hml]; rfl) (Steps.refl _) (a := b247) (argsL := [(.long (b * ((Int32.ofNat kn).toInt64))), (.int (Int32.ofNat kn))]) (rest := [(.ref b247)]) (lenOf pd__JI_V rfl) rfl (by show 2 * 0 + _ ≤ _; exact Nat.le_of_eq rfl) (hb hby at_262) (fun _ _ => ⟨rfl, e247, (by decide : 1 + 2 ≤ _), (by decide : 3 + 8 ≤ _)⟩)
  dsimp only [Pt.U, Pt.locs, Pt.cells, Pt.slots] at X251 l251 y251 z251 st251 hQ251
  subst l251 y251 z251
  obtain ⟨rfl, Nq251, zn251, Rc251⟩ := hQ251
  have N251 := Fr.app N240 Nq251
  have c252 : Goes p e below s₁ (entryFrame m #[(.long q0), (.long q1), (.long q2), (.int p3), (.long q4), (.long q5)] maxLocals) T251 (mkF m 265 #[.val (.long q0), .second, .val (.long q1), .second, .val (.long q2), .second, .val (.int p3), .val (.long q4), .second, .val (.long q5), .second, .val (.long b), .second, .val (.int (Int32.ofNat kn)), .val (.long lim), .second, .val (.long bn), .second, .val (.int j1), .val (.int j2), .val (.int j3), .val (.int f1), .val (.int f2), .val (.int f3), .val (.long r1), .second, .val (.long r2), .second, .val (.long r3), .second, .val (.long rn), .second, .unset, .unset, .unset, .unset, .unset] [(.ref b247)]) := fun t kk => c250 t (st251.trans kk)
  obtain ⟨Ox, h_Ox⟩ : ∃ z, z = bn - (Int32.ofNat kn).toInt64 + 1 := ⟨_, rfl⟩
  have hO := own_OO hbn hB.1 hn
  rw [← h_Ox] at hO
  have hu1 := own_uj hbn hB.1 hj1.1 (by omega)
  have hu2 := own_uj hbn hB.1 hj2.1 (by omega)
  have hu3 := own_uj hbn hB.1 hj3.1 (by omega)
  have ht1 : own_fd ((bn - j1.toInt64) * b + r1) b = bn - j1.toInt64 := own_time hB.1 (by omega) (by omega) hr1
  have ht2 : own_fd ((bn - j2.toInt64) * b + r2) b = bn - j2.toInt64 := own_time hB.1 (by omega) (by omega) hr2
  have ht3 : own_fd ((bn - j3.toInt64) * b + r3) b = bn - j3.toInt64 := own_time hB.1 (by omega) (by omega) hr3
  have htn : own_fd (bn * b + rn) b = bn := own_time hB.1 (by omega) (by omega) hrn
  have hI0 : own_inv kn (bn.toInt - 7) (List.replicate kn (-9223372036854775808)) (List.replicate kn 0) ∧ own_phi Ox (List.replicate kn (-9223372036854775808)) (List.replicate kn 0) 0 = 0 := ⟨own_invs rfl _ _, own_start rfl (by omega) _⟩
  have c253 : Goes p e below s₁ (entryFrame m #[(.long q0), (.long q1), (.long q2), (.int p3), (.long q4), (.long q5)] maxLocals) T251 (mkF m 269 #[.val (.long q0), .second, .val (.long q1), .second, .val (.long q2), .second, .val (.int p3), .val (.long q4), .second, .val (.long q5), .second, .val (.long b), .second, .val (.int (Int32.ofNat kn)), .val (.long lim), .second, .val (.long bn), .second, .val (.int j1), .val (.int j2), .val (.int j3), .val (.int f1), .val (.int f2), .val (.int f3), .val (.long r1), .second, .val (.long r2), .second, .val (.long r3), .second, .val (.long rn), .second, .val (.ref b247), .unset, .unset, .unset, .unset] [(.int f1)]) := by
    intro t kk
    refine c252 t ?_
    show Steps p.tables e below (T251.setTop (mkF m 265 #[.val (.long q0), .second, .val (.long q1), .second, .val (.long q2), .second, .val (.int p3), .val (.long q4), .second, .val (.long q5), .second, .val (.long b), .second, .val (.int (Int32.ofNat kn)), .val (.long lim), .second, .val (.long bn), .second, .val (.int j1), .val (.int j2), .val (.int j3), .val (.int f1), .val (.int f2), .val (.int f3), .val (.long r1), .second, .val (.long r2), .second, .val (.long r3), .second, .val (.long rn), .second, .unset, .unset, .unset, .unset, .unset] [(.ref b247)])) t
    refine XS.astore X251.here hx rfl (hb hby at_265) rfl rfl (l' := #[.val (.long q0), .second, .val (.long q1), .second, .val (.long q2), .second, .val (.int p3), .val (.long q4), .second, .val (.long q5), .second, .val (.long b), .second, .val (.int (Int32.ofNat kn)), .val (.long lim), .second, .val (.long bn), .second, .val (.int j1), .val (.int j2), .val (.int j3), .val (.int f1), .val (.int f2), .val (.int f3), .val (.long r1), .second, .val (.long r2), .second, .val (.long r3), .second, .val (.long rn), .second, .val (.ref b247), .unset, .unset, .unset, .unset]) rfl ?_
    show Steps p.tables e below (T251.setTop (mkF m 267 #[.val (.long q0), .second, .val (.long q1), .second, .val (.long q2), .second, .val (.int p3), .val (.long q4), .second, .val (.long q5), .second, .val (.long b), .second, .val (.int (Int32.ofNat kn)), .val (.long lim), .second, .val (.long bn), .second, .val (.int j1), .val (.int j2), .val (.int j3), .val (.int f1), .val (.int f2), .val (.int f3), .val (.long r1), .second, .val (.long r2), .second, .val (.long r3), .second, .val (.long rn), .second, .val (.ref b247), .unset, .unset, .unset, .unset] [])) t
    refine XS.iload X251.here hx rfl (hb hby at_267) rfl ?_
    exact kk
  obtain ⟨bs1, cs1, hh254, T254, Lx254, hm254, zn254, N254, X254, e254, c254⟩ : ∃ (bs1 : List Int64) (cs1 : List Int64) (hh254 : Heap) (T254 : State) (Lx254 : List Loc), (own_rc Z n0 hh254 b247 b kn bs1 cs1 ∧ own_inv kn (bn.toInt - j1.toInt) bs1 cs1 ∧ own_phi Ox bs1 cs1 0 = (0 + own_ind f1 j1 (Int32.ofNat kn))) ∧ n0 ≤ hh254.size ∧ Fr n0 Lx254 ∧ Stand p l e room_1 s m #[(.long q0), (.long q1), (.long q2), (.int p3), (.long q4), (.long q5)] below meth c T254 Lx254 3 11 ∧ T254.heap = hh254 ∧ Goes p e below s₁ (entryFrame m #[(.long q0), (.long q1), (.long q2), (.int p3), (.long q4), (.long q5)] maxLocals) T254 (mkF m 289 #[.val (.long q0), .second, .val (.long q1), .second, .val (.long q2), .second, .val (.int p3), .val (.long q4), .second, .val (.long q5), .second, .val (.long b), .second, .val (.int (Int32.ofNat kn)), .val (.long lim), .second, .val (.long bn), .second, .val (.int j1), .val (.int j2), .val (.int j3), .val (.int f1), .val (.int f2), .val (.int f3), .val (.long r1), .second, .val (.long r2), .second, .val (.long r3), .second, .val (.long rn), .second, .val (.ref b247), .unset, .unset, .unset, .unset] []) := by
    by_cases hf1 : f1 = (0 : Int32)
    · have c255 : Goes p e below s₁ (entryFrame m #[(.long q0), (.long q1), (.long q2), (.int p3), (.long q4), (.long q5)] maxLocals) T251 (mkF m 289 #[.val (.long q0), .second, .val (.long q1), .second, .val (.long q2), .second, .val (.int p3), .val (.long q4), .second, .val (.long q5), .second, .val (.long b), .second, .val (.int (Int32.ofNat kn)), .val (.long lim), .second, .val (.long bn), .second, .val (.int j1), .val (.int j2), .val (.int j3), .val (.int f1), .val (.int f2), .val (.int f3), .val (.long r1), .second, .val (.long r2), .second, .val (.long r3), .second, .val (.long rn), .second, .val (.ref b247), .unset, .unset, .unset, .unset] []) := by
        intro t kk
        refine c253 t ?_
        show Steps p.tables e below (T251.setTop (mkF m 269 #[.val (.long q0), .second, .val (.long q1), .second, .val (.long q2), .second, .val (.int p3), .val (.long q4), .second, .val (.long q5), .second, .val (.long b), .second, .val (.int (Int32.ofNat kn)), .val (.long lim), .second, .val (.long bn), .second, .val (.int j1), .val (.int j2), .val (.int j3), .val (.int f1), .val (.int f2), .val (.int f3), .val (.long r1), .second, .val (.long r2), .second, .val (.long r3), .second, .val (.long rn), .second, .val (.ref b247), .unset, .unset, .unset, .unset] [(.int f1)])) t
        refine XS.ifYes X251.here hx rfl (pc0 := 269) (pc' := 289) rfl (hb hby at_269) rfl ((if0 _ _).trans (teq hf1).1) (by decide) (by decide) ?_
        exact kk
      exact ⟨(List.replicate kn (-9223372036854775808)), (List.replicate kn 0), T251.heap, T251, _, ⟨Rc251, own_invm hI0.1 (by omega), by rw [hI0.2, own_ind0 _ _ hf1, Int64.add_zero]⟩, zn251, N251, X251, rfl, c255⟩
    · have c256 : Goes p e below s₁ (entryFrame m #[(.long q0), (.long q1), (.long q2), (.int p3), (.long q4), (.long q5)] maxLocals) T251 (mkF m 286 #[.val (.long q0), .second, .val (.long q1), .second, .val (.long q2), .second, .val (.int p3), .val (.long q4), .second, .val (.long q5), .second, .val (.long b), .second, .val (.int (Int32.ofNat kn)), .val (.long lim), .second, .val (.long bn), .second, .val (.int j1), .val (.int j2), .val (.int j3), .val (.int f1), .val (.int f2), .val (.int f3), .val (.long r1), .second, .val (.long r2), .second, .val (.long r3), .second, .val (.long rn), .second, .val (.ref b247), .unset, .unset, .unset, .unset] [(.long (((bn - (j1.toInt64)) * b) + r1)), (.ref b247)]) := by
        intro t kk
        refine c253 t ?_
        show Steps p.tables e below (T251.setTop (mkF m 269 #[.val (.long q0), .second, .val (.long q1), .second, .val (.long q2), .second, .val (.int p3), .val (.long q4), .second, .val (.long q5), .second, .val (.long b), .second, .val (.int (Int32.ofNat kn)), .val (.long lim), .second, .val (.long bn), .second, .val (.int j1), .val (.int j2), .val (.int j3), .val (.int f1), .val (.int f2), .val (.int f3), .val (.long r1), .second, .val (.long r2), .second, .val (.long r3), .second, .val (.long rn), .second, .val (.ref b247), .unset, .unset, .unset, .unset] [(.int f1)])) t
        refine XS.ifNo X251.here hx rfl (hb hby at_269) rfl ((if0 _ _).trans (feq hf1).1) ?_
        show Steps p.tables e below (T251.setTop (mkF m 272 #[.val (.long q0), .second, .val (.long q1), .second, .val (.long q2), .second, .val (.int p3), .val (.long q4), .second, .val (.long q5), .second, .val (.long b), .second, .val (.int (Int32.ofNat kn)), .val (.long lim), .second, .val (.long bn), .second, .val (.int j1), .val (.int j2), .val (.int j3), .val (.int f1), .val (.int f2), .val (.int f3), .val (.long r1), .second, .val (.long r2), .second, .val (.long r3), .second, .val (.long rn), .second, .val (.ref b247), .unset, .unset, .unset, .unset] [])) t
        refine XS.aload X251.here hx rfl (hb hby at_272) rfl rfl ?_
        show Steps p.tables e below (T251.setTop (mkF m 274 #[.val (.long q0), .second, .val (.long q1), .second, .val (.long q2), .second, .val (.int p3), .val (.long q4), .second, .val (.long q5), .second, .val (.long b), .second, .val (.int (Int32.ofNat kn)), .val (.long lim), .second, .val (.long bn), .second, .val (.int j1), .val (.int j2), .val (.int j3), .val (.int f1), .val (.int f2), .val (.int f3), .val (.long r1), .second, .val (.long r2), .second, .val (.long r3), .second, .val (.long rn), .second, .val (.ref b247), .unset, .unset, .unset, .unset] [(.ref b247)])) t
        refine XS.lload X251.here hx rfl (hb hby at_274) rfl ?_
        show Steps p.tables e below (T251.setTop (mkF m 276 #[.val (.long q0), .second, .val (.long q1), .second, .val (.long q2), .second, .val (.int p3), .val (.long q4), .second, .val (.long q5), .second, .val (.long b), .second, .val (.int (Int32.ofNat kn)), .val (.long lim), .second, .val (.long bn), .second, .val (.int j1), .val (.int j2), .val (.int j3), .val (.int f1), .val (.int f2), .val (.int f3), .val (.long r1), .second, .val (.long r2), .second, .val (.long r3), .second, .val (.long rn), .second, .val (.ref b247), .unset, .unset, .unset, .unset] [(.long bn), (.ref b247)])) t
        refine XS.iload X251.here hx rfl (hb hby at_276) rfl ?_
        show Steps p.tables e below (T251.setTop (mkF m 278 #[.val (.long q0), .second, .val (.long q1), .second, .val (.long q2), .second, .val (.int p3), .val (.long q4), .second, .val (.long q5), .second, .val (.long b), .second, .val (.int (Int32.ofNat kn)), .val (.long lim), .second, .val (.long bn), .second, .val (.int j1), .val (.int j2), .val (.int j3), .val (.int f1), .val (.int f2), .val (.int f3), .val (.long r1), .second, .val (.long r2), .second, .val (.long r3), .second, .val (.long rn), .second, .val (.ref b247), .unset, .unset, .unset, .unset] [(.int j1), (.long bn), (.ref b247)])) t
        refine XS.i2l X251.here hx rfl (hb hby at_278) rfl ?_
        show Steps p.tables e below (T251.setTop (mkF m 279 #[.val (.long q0), .second, .val (.long q1), .second, .val (.long q2), .second, .val (.int p3), .val (.long q4), .second, .val (.long q5), .second, .val (.long b), .second, .val (.int (Int32.ofNat kn)), .val (.long lim), .second, .val (.long bn), .second, .val (.int j1), .val (.int j2), .val (.int j3), .val (.int f1), .val (.int f2), .val (.int f3), .val (.long r1), .second, .val (.long r2), .second, .val (.long r3), .second, .val (.long rn), .second, .val (.ref b247), .unset, .unset, .unset, .unset] [(.long (j1.toInt64)), (.long bn), (.ref b247)])) t
        refine XS.lsub X251.here hx rfl (hb hby at_279) rfl ?_
        show Steps p.tables e below (T251.setTop (mkF m 280 #[.val (.long q0), .second, .val (.long q1), .second, .val (.long q2), .second, .val (.int p3), .val (.long q4), .second, .val (.long q5), .second, .val (.long b), .second, .val (.int (Int32.ofNat kn)), .val (.long lim), .second, .val (.long bn), .second, .val (.int j1), .val (.int j2), .val (.int j3), .val (.int f1), .val (.int f2), .val (.int f3), .val (.long r1), .second, .val (.long r2), .second, .val (.long r3), .second, .val (.long rn), .second, .val (.ref b247), .unset, .unset, .unset, .unset] [(.long (bn - (j1.toInt64))), (.ref b247)])) t
        refine XS.lload X251.here hx rfl (hb hby at_280) rfl ?_
        show Steps p.tables e below (T251.setTop (mkF m 282 #[.val (.long q0), .second, .val (.long q1), .second, .val (.long q2), .second, .val (.int p3), .val (.long q4), .second, .val (.long q5), .second, .val (.long b), .second, .val (.int (Int32.ofNat kn)), .val (.long lim), .second, .val (.long bn), .second, .val (.int j1), .val (.int j2), .val (.int j3), .val (.int f1), .val (.int f2), .val (.int f3), .val (.long r1), .second, .val (.long r2), .second, .val (.long r3), .second, .val (.long rn), .second, .val (.ref b247), .unset, .unset, .unset, .unset] [(.long b), (.long (bn - (j1.toInt64))), (.ref b247)])) t
        refine XS.lmul X251.here hx rfl (hb hby at_282) rfl ?_
        show Steps p.tables e below (T251.setTop (mkF m 283 #[.val (.long q0), .second, .val (.long q1), .second, .val (.long q2), .second, .val (.int p3), .val (.long q4), .second, .val (.long q5), .second, .val (.long b), .second, .val (.int (Int32.ofNat kn)), .val (.long lim), .second, .val (.long bn), .second, .val (.int j1), .val (.int j2), .val (.int j3), .val (.int f1), .val (.int f2), .val (.int f3), .val (.long r1), .second, .val (.long r2), .second, .val (.long r3), .second, .val (.long rn), .second, .val (.ref b247), .unset, .unset, .unset, .unset] [(.long ((bn - (j1.toInt64)) * b)), (.ref b247)])) t
        refine XS.lload X251.here hx rfl (hb hby at_283) rfl ?_
        show Steps p.tables e below (T251.setTop (mkF m 285 #[.val (.long q0), .second, .val (.long q1), .second, .val (.long q2), .second, .val (.int p3), .val (.long q4), .second, .val (.long q5), .second, .val (.long b), .second, .val (.int (Int32.ofNat kn)), .val (.long lim), .second, .val (.long bn), .second, .val (.int j1), .val (.int j2), .val (.int j3), .val (.int f1), .val (.int f2), .val (.int f3), .val (.long r1), .second, .val (.long r2), .second, .val (.long r3), .second, .val (.long rn), .second, .val (.ref b247), .unset, .unset, .unset, .unset] [(.long r1), (.long ((bn - (j1.toInt64)) * b)), (.ref b247)])) t
        refine XS.ladd X251.here hx rfl (hb hby at_285) rfl ?_
        exact kk
      obtain ⟨cq257, kq257, q257a, q257b, q257c⟩ := isOf hZ rfl Rc251.1
      obtain ⟨_, _, ⟨T257, L257, k257, n257⟩, -, X257, ⟨Lc257, hQ257, l257, y257, z257⟩, st257⟩ := X251.virtualBack hx (y := (⟨"com/example/ventil/ventil/RollingCount", "add", "(J)V"⟩ : MethodName)) (z := (⟨"com/example/ventil/ventil/RollingCount", "add", "(J)V"⟩ : MethodName)) hown (mvT hZ (hw _ (List.mem_of_getElem? (i := 49) rfl))) (mvT hZ (hw _ (List.mem_of_getElem? (i := 50) rfl))) (notFace_of_selects (args := #[]) (mvT hZ (hw _ (List.mem_of_getElem? (i := 52) rfl)))) (mvT hZ (hw _ (List.mem_of_getElem? (i := 52) rfl))) (mvT hZ (hw _ (List.mem_of_getElem? (i := 51) rfl))) (by decide) (backOf (W := 0) (rm_add l Z a0 hw [] b247 (((bn - (j1.toInt64)) * b) + r1) b kn (List.replicate kn (-9223372036854775808)) (List.replicate kn 0) (bn - j1.toInt64) T251.heap n0 zn251 Rc251 hbz hk hn ht1) hZ (hw _ (List.mem_of_getElem? (i := 53) rfl)) (hw _ (List.mem_of_getElem? (i := 18) rfl)) (by decide) (by decide)) q257a q257c (g := (mkF m 286 #[.val (.long q0), .second, .val (.long q1), .second, .val (.long q2), .second, .val (.int p3), .val (.long q4), .second, .val (.long q5), .second, .val (.long b), .second, .val (.int (Int32.ofNat kn)), .val (.long lim), .second, .val (.long bn), .second, .val (.int j1), .val (.int j2), .val (.int j3), .val (.int f1), .val (.int f2), .val (.int f3), .val (.long r1), .second, .val (.long r2), .second, .val (.long r3), .second, .val (.long rn), .second, .val (.ref b247), .unset, .unset, .unset, .unset] [(.long (((bn - (j1.toInt64)) * b) + r1)), (.ref b247)])) rfl (by rw [hml]; rfl) (Steps.refl _) (argsL := [(.long (((bn - (j1.toInt64)) * b) + r1))]) (rest := []) (lenOf pd__J_V rfl) rfl (by show 2 * 0 + _ ≤ _; exact Nat.le_of_eq rfl) (hb hby at_286) (fun _ _ => ⟨rfl, rfl, (by decide : 3 + 0 ≤ _), (by decide : 11 + 0 ≤ _)⟩)
      dsimp only [Pt.U, Pt.locs, Pt.cells, Pt.slots] at X257 l257 y257 z257 st257 hQ257
      subst l257 y257 z257
      obtain ⟨rfl, Nq257, zn257, Rc257⟩ := hQ257
      have N257 := Fr.app N251 Nq257
      have c258 : Goes p e below s₁ (entryFrame m #[(.long q0), (.long q1), (.long q2), (.int p3), (.long q4), (.long q5)] maxLocals) T257 (mkF m 289 #[.val (.long q0), .second, .val (.long q1), .second, .val (.long q2), .second, .val (.int p3), .val (.long q4), .second, .val (.long q5), .second, .val (.long b), .second, .val (.int (Int32.ofNat kn)), .val (.long lim), .second, .val (.long bn), .second, .val (.int j1), .val (.int j2), .val (.int j3), .val (.int f1), .val (.int f2), .val (.int f3), .val (.long r1), .second, .val (.long r2), .second, .val (.long r3), .second, .val (.long rn), .second, .val (.ref b247), .unset, .unset, .unset, .unset] []) := fun t kk => c256 t (st257.trans kk)
      exact ⟨_, _, T257.heap, T257, _, ⟨Rc257, by have q := own_step (O := Ox) (b := (bn - j1.toInt64)) hk hI0.1 (by omega) (by omega) (by omega); exact ⟨by have q1 := q.1; rw [hu1] at q1; exact q1, by rw [q.2, hI0.2, own_oneI hO.1 hu1 hn, own_ind1 _ _ hf1]⟩⟩, zn257, N257, X257, rfl, c258⟩
  have hI1 := hm254.2
  have c259 : Goes p e below s₁ (entryFrame m #[(.long q0), (.long q1), (.long q2), (.int p3), (.long q4), (.long q5)] maxLocals) T254 (mkF m 291 #[.val (.long q0), .second, .val (.long q1), .second, .val (.long q2), .second, .val (.int p3), .val (.long q4), .second, .val (.long q5), .second, .val (.long b), .second, .val (.int (Int32.ofNat kn)), .val (.long lim), .second, .val (.long bn), .second, .val (.int j1), .val (.int j2), .val (.int j3), .val (.int f1), .val (.int f2), .val (.int f3), .val (.long r1), .second, .val (.long r2), .second, .val (.long r3), .second, .val (.long rn), .second, .val (.ref b247), .unset, .unset, .unset, .unset] [(.int f2)]) := by
    intro t kk
    refine c254 t ?_
    show Steps p.tables e below (T254.setTop (mkF m 289 #[.val (.long q0), .second, .val (.long q1), .second, .val (.long q2), .second, .val (.int p3), .val (.long q4), .second, .val (.long q5), .second, .val (.long b), .second, .val (.int (Int32.ofNat kn)), .val (.long lim), .second, .val (.long bn), .second, .val (.int j1), .val (.int j2), .val (.int j3), .val (.int f1), .val (.int f2), .val (.int f3), .val (.long r1), .second, .val (.long r2), .second, .val (.long r3), .second, .val (.long rn), .second, .val (.ref b247), .unset, .unset, .unset, .unset] [])) t
    refine XS.iload X254.here hx rfl (hb hby at_289) rfl ?_
    exact kk
  obtain ⟨bs2, cs2, hh260, T260, Lx260, hm260, zn260, N260, X260, e260, c260⟩ : ∃ (bs2 : List Int64) (cs2 : List Int64) (hh260 : Heap) (T260 : State) (Lx260 : List Loc), (own_rc Z n0 hh260 b247 b kn bs2 cs2 ∧ own_inv kn (bn.toInt - j2.toInt) bs2 cs2 ∧ own_phi Ox bs2 cs2 0 = ((0 + own_ind f1 j1 (Int32.ofNat kn)) + own_ind f2 j2 (Int32.ofNat kn))) ∧ n0 ≤ hh260.size ∧ Fr n0 Lx260 ∧ Stand p l e room_1 s m #[(.long q0), (.long q1), (.long q2), (.int p3), (.long q4), (.long q5)] below meth c T260 Lx260 3 11 ∧ T260.heap = hh260 ∧ Goes p e below s₁ (entryFrame m #[(.long q0), (.long q1), (.long q2), (.int p3), (.long q4), (.long q5)] maxLocals) T260 (mkF m 311 #[.val (.long q0), .second, .val (.long q1), .second, .val (.long q2), .second, .val (.int p3), .val (.long q4), .second, .val (.long q5), .second, .val (.long b), .second, .val (.int (Int32.ofNat kn)), .val (.long lim), .second, .val (.long bn), .second, .val (.int j1), .val (.int j2), .val (.int j3), .val (.int f1), .val (.int f2), .val (.int f3), .val (.long r1), .second, .val (.long r2), .second, .val (.long r3), .second, .val (.long rn), .second, .val (.ref b247), .unset, .unset, .unset, .unset] []) := by
    by_cases hf2 : f2 = (0 : Int32)
    · have c261 : Goes p e below s₁ (entryFrame m #[(.long q0), (.long q1), (.long q2), (.int p3), (.long q4), (.long q5)] maxLocals) T254 (mkF m 311 #[.val (.long q0), .second, .val (.long q1), .second, .val (.long q2), .second, .val (.int p3), .val (.long q4), .second, .val (.long q5), .second, .val (.long b), .second, .val (.int (Int32.ofNat kn)), .val (.long lim), .second, .val (.long bn), .second, .val (.int j1), .val (.int j2), .val (.int j3), .val (.int f1), .val (.int f2), .val (.int f3), .val (.long r1), .second, .val (.long r2), .second, .val (.long r3), .second, .val (.long rn), .second, .val (.ref b247), .unset, .unset, .unset, .unset] []) := by
        intro t kk
        refine c259 t ?_
        show Steps p.tables e below (T254.setTop (mkF m 291 #[.val (.long q0), .second, .val (.long q1), .second, .val (.long q2), .second, .val (.int p3), .val (.long q4), .second, .val (.long q5), .second, .val (.long b), .second, .val (.int (Int32.ofNat kn)), .val (.long lim), .second, .val (.long bn), .second, .val (.int j1), .val (.int j2), .val (.int j3), .val (.int f1), .val (.int f2), .val (.int f3), .val (.long r1), .second, .val (.long r2), .second, .val (.long r3), .second, .val (.long rn), .second, .val (.ref b247), .unset, .unset, .unset, .unset] [(.int f2)])) t
        refine XS.ifYes X254.here hx rfl (pc0 := 291) (pc' := 311) rfl (hb hby at_291) rfl ((if0 _ _).trans (teq hf2).1) (by decide) (by decide) ?_
        exact kk
      exact ⟨bs1, cs1, hh254, T254, _, ⟨hm254.1, own_invm hI1.1 (by omega), by rw [hI1.2, own_ind0 _ _ hf2, Int64.add_zero]⟩, zn254, N254, X254, e254, c261⟩
    · have c262 : Goes p e below s₁ (entryFrame m #[(.long q0), (.long q1), (.long q2), (.int p3), (.long q4), (.long q5)] maxLocals) T254 (mkF m 308 #[.val (.long q0), .second, .val (.long q1), .second, .val (.long q2), .second, .val (.int p3), .val (.long q4), .second, .val (.long q5), .second, .val (.long b), .second, .val (.int (Int32.ofNat kn)), .val (.long lim), .second, .val (.long bn), .second, .val (.int j1), .val (.int j2), .val (.int j3), .val (.int f1), .val (.int f2), .val (.int f3), .val (.long r1), .second, .val (.long r2), .second, .val (.long r3), .second, .val (.long rn), .second, .val (.ref b247), .unset, .unset, .unset, .unset] [(.long (((bn - (j2.toInt64)) * b) + r2)), (.ref b247)]) := by
        intro t kk
        refine c259 t ?_
        show Steps p.tables e below (T254.setTop (mkF m 291 #[.val (.long q0), .second, .val (.long q1), .second, .val (.long q2), .second, .val (.int p3), .val (.long q4), .second, .val (.long q5), .second, .val (.long b), .second, .val (.int (Int32.ofNat kn)), .val (.long lim), .second, .val (.long bn), .second, .val (.int j1), .val (.int j2), .val (.int j3), .val (.int f1), .val (.int f2), .val (.int f3), .val (.long r1), .second, .val (.long r2), .second, .val (.long r3), .second, .val (.long rn), .second, .val (.ref b247), .unset, .unset, .unset, .unset] [(.int f2)])) t
        refine XS.ifNo X254.here hx rfl (hb hby at_291) rfl ((if0 _ _).trans (feq hf2).1) ?_
        show Steps p.tables e below (T254.setTop (mkF m 294 #[.val (.long q0), .second, .val (.long q1), .second, .val (.long q2), .second, .val (.int p3), .val (.long q4), .second, .val (.long q5), .second, .val (.long b), .second, .val (.int (Int32.ofNat kn)), .val (.long lim), .second, .val (.long bn), .second, .val (.int j1), .val (.int j2), .val (.int j3), .val (.int f1), .val (.int f2), .val (.int f3), .val (.long r1), .second, .val (.long r2), .second, .val (.long r3), .second, .val (.long rn), .second, .val (.ref b247), .unset, .unset, .unset, .unset] [])) t
        refine XS.aload X254.here hx rfl (hb hby at_294) rfl rfl ?_
        show Steps p.tables e below (T254.setTop (mkF m 296 #[.val (.long q0), .second, .val (.long q1), .second, .val (.long q2), .second, .val (.int p3), .val (.long q4), .second, .val (.long q5), .second, .val (.long b), .second, .val (.int (Int32.ofNat kn)), .val (.long lim), .second, .val (.long bn), .second, .val (.int j1), .val (.int j2), .val (.int j3), .val (.int f1), .val (.int f2), .val (.int f3), .val (.long r1), .second, .val (.long r2), .second, .val (.long r3), .second, .val (.long rn), .second, .val (.ref b247), .unset, .unset, .unset, .unset] [(.ref b247)])) t
        refine XS.lload X254.here hx rfl (hb hby at_296) rfl ?_
        show Steps p.tables e below (T254.setTop (mkF m 298 #[.val (.long q0), .second, .val (.long q1), .second, .val (.long q2), .second, .val (.int p3), .val (.long q4), .second, .val (.long q5), .second, .val (.long b), .second, .val (.int (Int32.ofNat kn)), .val (.long lim), .second, .val (.long bn), .second, .val (.int j1), .val (.int j2), .val (.int j3), .val (.int f1), .val (.int f2), .val (.int f3), .val (.long r1), .second, .val (.long r2), .second, .val (.long r3), .second, .val (.long rn), .second, .val (.ref b247), .unset, .unset, .unset, .unset] [(.long bn), (.ref b247)])) t
        refine XS.iload X254.here hx rfl (hb hby at_298) rfl ?_
        show Steps p.tables e below (T254.setTop (mkF m 300 #[.val (.long q0), .second, .val (.long q1), .second, .val (.long q2), .second, .val (.int p3), .val (.long q4), .second, .val (.long q5), .second, .val (.long b), .second, .val (.int (Int32.ofNat kn)), .val (.long lim), .second, .val (.long bn), .second, .val (.int j1), .val (.int j2), .val (.int j3), .val (.int f1), .val (.int f2), .val (.int f3), .val (.long r1), .second, .val (.long r2), .second, .val (.long r3), .second, .val (.long rn), .second, .val (.ref b247), .unset, .unset, .unset, .unset] [(.int j2), (.long bn), (.ref b247)])) t
        refine XS.i2l X254.here hx rfl (hb hby at_300) rfl ?_
        show Steps p.tables e below (T254.setTop (mkF m 301 #[.val (.long q0), .second, .val (.long q1), .second, .val (.long q2), .second, .val (.int p3), .val (.long q4), .second, .val (.long q5), .second, .val (.long b), .second, .val (.int (Int32.ofNat kn)), .val (.long lim), .second, .val (.long bn), .second, .val (.int j1), .val (.int j2), .val (.int j3), .val (.int f1), .val (.int f2), .val (.int f3), .val (.long r1), .second, .val (.long r2), .second, .val (.long r3), .second, .val (.long rn), .second, .val (.ref b247), .unset, .unset, .unset, .unset] [(.long (j2.toInt64)), (.long bn), (.ref b247)])) t
        refine XS.lsub X254.here hx rfl (hb hby at_301) rfl ?_
        show Steps p.tables e below (T254.setTop (mkF m 302 #[.val (.long q0), .second, .val (.long q1), .second, .val (.long q2), .second, .val (.int p3), .val (.long q4), .second, .val (.long q5), .second, .val (.long b), .second, .val (.int (Int32.ofNat kn)), .val (.long lim), .second, .val (.long bn), .second, .val (.int j1), .val (.int j2), .val (.int j3), .val (.int f1), .val (.int f2), .val (.int f3), .val (.long r1), .second, .val (.long r2), .second, .val (.long r3), .second, .val (.long rn), .second, .val (.ref b247), .unset, .unset, .unset, .unset] [(.long (bn - (j2.toInt64))), (.ref b247)])) t
        refine XS.lload X254.here hx rfl (hb hby at_302) rfl ?_
        show Steps p.tables e below (T254.setTop (mkF m 304 #[.val (.long q0), .second, .val (.long q1), .second, .val (.long q2), .second, .val (.int p3), .val (.long q4), .second, .val (.long q5), .second, .val (.long b), .second, .val (.int (Int32.ofNat kn)), .val (.long lim), .second, .val (.long bn), .second, .val (.int j1), .val (.int j2), .val (.int j3), .val (.int f1), .val (.int f2), .val (.int f3), .val (.long r1), .second, .val (.long r2), .second, .val (.long r3), .second, .val (.long rn), .second, .val (.ref b247), .unset, .unset, .unset, .unset] [(.long b), (.long (bn - (j2.toInt64))), (.ref b247)])) t
        refine XS.lmul X254.here hx rfl (hb hby at_304) rfl ?_
        show Steps p.tables e below (T254.setTop (mkF m 305 #[.val (.long q0), .second, .val (.long q1), .second, .val (.long q2), .second, .val (.int p3), .val (.long q4), .second, .val (.long q5), .second, .val (.long b), .second, .val (.int (Int32.ofNat kn)), .val (.long lim), .second, .val (.long bn), .second, .val (.int j1), .val (.int j2), .val (.int j3), .val (.int f1), .val (.int f2), .val (.int f3), .val (.long r1), .second, .val (.long r2), .second, .val (.long r3), .second, .val (.long rn), .second, .val (.ref b247), .unset, .unset, .unset, .unset] [(.long ((bn - (j2.toInt64)) * b)), (.ref b247)])) t
        refine XS.lload X254.here hx rfl (hb hby at_305) rfl ?_
        show Steps p.tables e below (T254.setTop (mkF m 307 #[.val (.long q0), .second, .val (.long q1), .second, .val (.long q2), .second, .val (.int p3), .val (.long q4), .second, .val (.long q5), .second, .val (.long b), .second, .val (.int (Int32.ofNat kn)), .val (.long lim), .second, .val (.long bn), .second, .val (.int j1), .val (.int j2), .val (.int j3), .val (.int f1), .val (.int f2), .val (.int f3), .val (.long r1), .second, .val (.long r2), .second, .val (.long r3), .second, .val (.long rn), .second, .val (.ref b247), .unset, .unset, .unset, .unset] [(.long r2), (.long ((bn - (j2.toInt64)) * b)), (.ref b247)])) t
        refine XS.ladd X254.here hx rfl (hb hby at_307) rfl ?_
        exact kk
      obtain ⟨cq263, kq263, q263a, q263b, q263c⟩ := isOf hZ e254 hm254.1.1
      obtain ⟨_, _, ⟨T263, L263, k263, n263⟩, -, X263, ⟨Lc263, hQ263, l263, y263, z263⟩, st263⟩ := X254.virtualBack hx (y := (⟨"com/example/ventil/ventil/RollingCount", "add", "(J)V"⟩ : MethodName)) (z := (⟨"com/example/ventil/ventil/RollingCount", "add", "(J)V"⟩ : MethodName)) hown (mvT hZ (hw _ (List.mem_of_getElem? (i := 49) rfl))) (mvT hZ (hw _ (List.mem_of_getElem? (i := 50) rfl))) (notFace_of_selects (args := #[]) (mvT hZ (hw _ (List.mem_of_getElem? (i := 52) rfl)))) (mvT hZ (hw _ (List.mem_of_getElem? (i := 52) rfl))) (mvT hZ (hw _ (List.mem_of_getElem? (i := 51) rfl))) (by decide) (backOf (W := 0) (rm_add l Z a0 hw [] b247 (((bn - (j2.toInt64)) * b) + r2) b kn bs1 cs1 (bn - j2.toInt64) hh254 n0 zn254 hm254.1 hbz hk hn ht2) hZ (hw _ (List.mem_of_getElem? (i := 53) rfl)) (hw _ (List.mem_of_getElem? (i := 18) rfl)) (by decide) (by decide)) q263a q263c (g := (mkF m 308 #[.val (.long q0), .second, .val (.long q1), .second, .val (.long q2), .second, .val (.int p3), .val (.long q4), .second, .val (.long q5), .second, .val (.long b), .second, .val (.int (Int32.ofNat kn)), .val (.long lim), .second, .val (.long bn), .second, .val (.int j1), .val (.int j2), .val (.int j3), .val (.int f1), .val (.int f2), .val (.int f3), .val (.long r1), .second, .val (.long r2), .second, .val (.long r3), .second, .val (.long rn), .second, .val (.ref b247), .unset, .unset, .unset, .unset] [(.long (((bn - (j2.toInt64)) * b) + r2)), (.ref b247)])) rfl (by rw [hml]; rfl) (Steps.refl _) (argsL := [(.long (((bn - (j2.toInt64)) * b) + r2))]) (rest := []) (lenOf pd__J_V rfl) rfl (by show 2 * 0 + _ ≤ _; exact Nat.le_of_eq rfl) (hb hby at_308) (fun _ _ => ⟨rfl, e254, (by decide : 3 + 0 ≤ _), (by decide : 11 + 0 ≤ _)⟩)
      dsimp only [Pt.U, Pt.locs, Pt.cells, Pt.slots] at X263 l263 y263 z263 st263 hQ263
      subst l263 y263 z263
      obtain ⟨rfl, Nq263, zn263, Rc263⟩ := hQ263
      have N263 := Fr.app N254 Nq263
      have c264 : Goes p e below s₁ (entryFrame m #[(.long q0), (.long q1), (.long q2), (.int p3), (.long q4), (.long q5)] maxLocals) T263 (mkF m 311 #[.val (.long q0), .second, .val (.long q1), .second, .val (.long q2), .second, .val (.int p3), .val (.long q4), .second, .val (.long q5), .second, .val (.long b), .second, .val (.int (Int32.ofNat kn)), .val (.long lim), .second, .val (.long bn), .second, .val (.int j1), .val (.int j2), .val (.int j3), .val (.int f1), .val (.int f2), .val (.int f3), .val (.long r1), .second, .val (.long r2), .second, .val (.long r3), .second, .val (.long rn), .second, .val (.ref b247), .unset, .unset, .unset, .unset] []) := fun t kk => c262 t (st263.trans kk)
      exact ⟨_, _, T263.heap, T263, _, ⟨Rc263, by have q := own_step (O := Ox) (b := (bn - j2.toInt64)) hk hI1.1 (by omega) (by omega) (by omega); exact ⟨by have q1 := q.1; rw [hu2] at q1; exact q1, by rw [q.2, hI1.2, own_oneI hO.1 hu2 hn, own_ind1 _ _ hf2]⟩⟩, zn263, N263, X263, rfl, c264⟩
  have hI2 := hm260.2
  have c265 : Goes p e below s₁ (entryFrame m #[(.long q0), (.long q1), (.long q2), (.int p3), (.long q4), (.long q5)] maxLocals) T260 (mkF m 313 #[.val (.long q0), .second, .val (.long q1), .second, .val (.long q2), .second, .val (.int p3), .val (.long q4), .second, .val (.long q5), .second, .val (.long b), .second, .val (.int (Int32.ofNat kn)), .val (.long lim), .second, .val (.long bn), .second, .val (.int j1), .val (.int j2), .val (.int j3), .val (.int f1), .val (.int f2), .val (.int f3), .val (.long r1), .second, .val (.long r2), .second, .val (.long r3), .second, .val (.long rn), .second, .val (.ref b247), .unset, .unset, .unset, .unset] [(.int f3)]) := by
    intro t kk
    refine c260 t ?_
    show Steps p.tables e below (T260.setTop (mkF m 311 #[.val (.long q0), .second, .val (.long q1), .second, .val (.long q2), .second, .val (.int p3), .val (.long q4), .second, .val (.long q5), .second, .val (.long b), .second, .val (.int (Int32.ofNat kn)), .val (.long lim), .second, .val (.long bn), .second, .val (.int j1), .val (.int j2), .val (.int j3), .val (.int f1), .val (.int f2), .val (.int f3), .val (.long r1), .second, .val (.long r2), .second, .val (.long r3), .second, .val (.long rn), .second, .val (.ref b247), .unset, .unset, .unset, .unset] [])) t
    refine XS.iload X260.here hx rfl (hb hby at_311) rfl ?_
    exact kk
  obtain ⟨bs3, cs3, hh266, T266, Lx266, hm266, zn266, N266, X266, e266, c266⟩ : ∃ (bs3 : List Int64) (cs3 : List Int64) (hh266 : Heap) (T266 : State) (Lx266 : List Loc), (own_rc Z n0 hh266 b247 b kn bs3 cs3 ∧ own_inv kn (bn.toInt - j3.toInt) bs3 cs3 ∧ own_phi Ox bs3 cs3 0 = (((0 + own_ind f1 j1 (Int32.ofNat kn)) + own_ind f2 j2 (Int32.ofNat kn)) + own_ind f3 j3 (Int32.ofNat kn))) ∧ n0 ≤ hh266.size ∧ Fr n0 Lx266 ∧ Stand p l e room_1 s m #[(.long q0), (.long q1), (.long q2), (.int p3), (.long q4), (.long q5)] below meth c T266 Lx266 3 11 ∧ T266.heap = hh266 ∧ Goes p e below s₁ (entryFrame m #[(.long q0), (.long q1), (.long q2), (.int p3), (.long q4), (.long q5)] maxLocals) T266 (mkF m 333 #[.val (.long q0), .second, .val (.long q1), .second, .val (.long q2), .second, .val (.int p3), .val (.long q4), .second, .val (.long q5), .second, .val (.long b), .second, .val (.int (Int32.ofNat kn)), .val (.long lim), .second, .val (.long bn), .second, .val (.int j1), .val (.int j2), .val (.int j3), .val (.int f1), .val (.int f2), .val (.int f3), .val (.long r1), .second, .val (.long r2), .second, .val (.long r3), .second, .val (.long rn), .second, .val (.ref b247), .unset, .unset, .unset, .unset] []) := by
    by_cases hf3 : f3 = (0 : Int32)
    · have c267 : Goes p e below s₁ (entryFrame m #[(.long q0), (.long q1), (.long q2), (.int p3), (.long q4), (.long q5)] maxLocals) T260 (mkF m 333 #[.val (.long q0), .second, .val (.long q1), .second, .val (.long q2), .second, .val (.int p3), .val (.long q4), .second, .val (.long q5), .second, .val (.long b), .second, .val (.int (Int32.ofNat kn)), .val (.long lim), .second, .val (.long bn), .second, .val (.int j1), .val (.int j2), .val (.int j3), .val (.int f1), .val (.int f2), .val (.int f3), .val (.long r1), .second, .val (.long r2), .second, .val (.long r3), .second, .val (.long rn), .second, .val (.ref b247), .unset, .unset, .unset, .unset] []) := by
        intro t kk
        refine c265 t ?_
        show Steps p.tables e below (T260.setTop (mkF m 313 #[.val (.long q0), .second, .val (.long q1), .second, .val (.long q2), .second, .val (.int p3), .val (.long q4), .second, .val (.long q5), .second, .val (.long b), .second, .val (.int (Int32.ofNat kn)), .val (.long lim), .second, .val (.long bn), .second, .val (.int j1), .val (.int j2), .val (.int j3), .val (.int f1), .val (.int f2), .val (.int f3), .val (.long r1), .second, .val (.long r2), .second, .val (.long r3), .second, .val (.long rn), .second, .val (.ref b247), .unset, .unset, .unset, .unset] [(.int f3)])) t
        refine XS.ifYes X260.here hx rfl (pc0 := 313) (pc' := 333) rfl (hb hby at_313) rfl ((if0 _ _).trans (teq hf3).1) (by decide) (by decide) ?_
        exact kk
      exact ⟨bs2, cs2, hh260, T260, _, ⟨hm260.1, own_invm hI2.1 (by omega), by rw [hI2.2, own_ind0 _ _ hf3, Int64.add_zero]⟩, zn260, N260, X260, e260, c267⟩
    · have c268 : Goes p e below s₁ (entryFrame m #[(.long q0), (.long q1), (.long q2), (.int p3), (.long q4), (.long q5)] maxLocals) T260 (mkF m 330 #[.val (.long q0), .second, .val (.long q1), .second, .val (.long q2), .second, .val (.int p3), .val (.long q4), .second, .val (.long q5), .second, .val (.long b), .second, .val (.int (Int32.ofNat kn)), .val (.long lim), .second, .val (.long bn), .second, .val (.int j1), .val (.int j2), .val (.int j3), .val (.int f1), .val (.int f2), .val (.int f3), .val (.long r1), .second, .val (.long r2), .second, .val (.long r3), .second, .val (.long rn), .second, .val (.ref b247), .unset, .unset, .unset, .unset] [(.long (((bn - (j3.toInt64)) * b) + r3)), (.ref b247)]) := by
        intro t kk
        refine c265 t ?_
        show Steps p.tables e below (T260.setTop (mkF m 313 #[.val (.long q0), .second, .val (.long q1), .second, .val (.long q2), .second, .val (.int p3), .val (.long q4), .second, .val (.long q5), .second, .val (.long b), .second, .val (.int (Int32.ofNat kn)), .val (.long lim), .second, .val (.long bn), .second, .val (.int j1), .val (.int j2), .val (.int j3), .val (.int f1), .val (.int f2), .val (.int f3), .val (.long r1), .second, .val (.long r2), .second, .val (.long r3), .second, .val (.long rn), .second, .val (.ref b247), .unset, .unset, .unset, .unset] [(.int f3)])) t
        refine XS.ifNo X260.here hx rfl (hb hby at_313) rfl ((if0 _ _).trans (feq hf3).1) ?_
        show Steps p.tables e below (T260.setTop (mkF m 316 #[.val (.long q0), .second, .val (.long q1), .second, .val (.long q2), .second, .val (.int p3), .val (.long q4), .second, .val (.long q5), .second, .val (.long b), .second, .val (.int (Int32.ofNat kn)), .val (.long lim), .second, .val (.long bn), .second, .val (.int j1), .val (.int j2), .val (.int j3), .val (.int f1), .val (.int f2), .val (.int f3), .val (.long r1), .second, .val (.long r2), .second, .val (.long r3), .second, .val (.long rn), .second, .val (.ref b247), .unset, .unset, .unset, .unset] [])) t
        refine XS.aload X260.here hx rfl (hb hby at_316) rfl rfl ?_
        show Steps p.tables e below (T260.setTop (mkF m 318 #[.val (.long q0), .second, .val (.long q1), .second, .val (.long q2), .second, .val (.int p3), .val (.long q4), .second, .val (.long q5), .second, .val (.long b), .second, .val (.int (Int32.ofNat kn)), .val (.long lim), .second, .val (.long bn), .second, .val (.int j1), .val (.int j2), .val (.int j3), .val (.int f1), .val (.int f2), .val (.int f3), .val (.long r1), .second, .val (.long r2), .second, .val (.long r3), .second, .val (.long rn), .second, .val (.ref b247), .unset, .unset, .unset, .unset] [(.ref b247)])) t
        refine XS.lload X260.here hx rfl (hb hby at_318) rfl ?_
        show Steps p.tables e below (T260.setTop (mkF m 320 #[.val (.long q0), .second, .val (.long q1), .second, .val (.long q2), .second, .val (.int p3), .val (.long q4), .second, .val (.long q5), .second, .val (.long b), .second, .val (.int (Int32.ofNat kn)), .val (.long lim), .second, .val (.long bn), .second, .val (.int j1), .val (.int j2), .val (.int j3), .val (.int f1), .val (.int f2), .val (.int f3), .val (.long r1), .second, .val (.long r2), .second, .val (.long r3), .second, .val (.long rn), .second, .val (.ref b247), .unset, .unset, .unset, .unset] [(.long bn), (.ref b247)])) t
        refine XS.iload X260.here hx rfl (hb hby at_320) rfl ?_
        show Steps p.tables e below (T260.setTop (mkF m 322 #[.val (.long q0), .second, .val (.long q1), .second, .val (.long q2), .second, .val (.int p3), .val (.long q4), .second, .val (.long q5), .second, .val (.long b), .second, .val (.int (Int32.ofNat kn)), .val (.long lim), .second, .val (.long bn), .second, .val (.int j1), .val (.int j2), .val (.int j3), .val (.int f1), .val (.int f2), .val (.int f3), .val (.long r1), .second, .val (.long r2), .second, .val (.long r3), .second, .val (.long rn), .second, .val (.ref b247), .unset, .unset, .unset, .unset] [(.int j3), (.long bn), (.ref b247)])) t
        refine XS.i2l X260.here hx rfl (hb hby at_322) rfl ?_
        show Steps p.tables e below (T260.setTop (mkF m 323 #[.val (.long q0), .second, .val (.long q1), .second, .val (.long q2), .second, .val (.int p3), .val (.long q4), .second, .val (.long q5), .second, .val (.long b), .second, .val (.int (Int32.ofNat kn)), .val (.long lim), .second, .val (.long bn), .second, .val (.int j1), .val (.int j2), .val (.int j3), .val (.int f1), .val (.int f2), .val (.int f3), .val (.long r1), .second, .val (.long r2), .second, .val (.long r3), .second, .val (.long rn), .second, .val (.ref b247), .unset, .unset, .unset, .unset] [(.long (j3.toInt64)), (.long bn), (.ref b247)])) t
        refine XS.lsub X260.here hx rfl (hb hby at_323) rfl ?_
        show Steps p.tables e below (T260.setTop (mkF m 324 #[.val (.long q0), .second, .val (.long q1), .second, .val (.long q2), .second, .val (.int p3), .val (.long q4), .second, .val (.long q5), .second, .val (.long b), .second, .val (.int (Int32.ofNat kn)), .val (.long lim), .second, .val (.long bn), .second, .val (.int j1), .val (.int j2), .val (.int j3), .val (.int f1), .val (.int f2), .val (.int f3), .val (.long r1), .second, .val (.long r2), .second, .val (.long r3), .second, .val (.long rn), .second, .val (.ref b247), .unset, .unset, .unset, .unset] [(.long (bn - (j3.toInt64))), (.ref b247)])) t
        refine XS.lload X260.here hx rfl (hb hby at_324) rfl ?_
        show Steps p.tables e below (T260.setTop (mkF m 326 #[.val (.long q0), .second, .val (.long q1), .second, .val (.long q2), .second, .val (.int p3), .val (.long q4), .second, .val (.long q5), .second, .val (.long b), .second, .val (.int (Int32.ofNat kn)), .val (.long lim), .second, .val (.long bn), .second, .val (.int j1), .val (.int j2), .val (.int j3), .val (.int f1), .val (.int f2), .val (.int f3), .val (.long r1), .second, .val (.long r2), .second, .val (.long r3), .second, .val (.long rn), .second, .val (.ref b247), .unset, .unset, .unset, .unset] [(.long b), (.long (bn - (j3.toInt64))), (.ref b247)])) t
        refine XS.lmul X260.here hx rfl (hb hby at_326) rfl ?_
        show Steps p.tables e below (T260.setTop (mkF m 327 #[.val (.long q0), .second, .val (.long q1), .second, .val (.long q2), .second, .val (.int p3), .val (.long q4), .second, .val (.long q5), .second, .val (.long b), .second, .val (.int (Int32.ofNat kn)), .val (.long lim), .second, .val (.long bn), .second, .val (.int j1), .val (.int j2), .val (.int j3), .val (.int f1), .val (.int f2), .val (.int f3), .val (.long r1), .second, .val (.long r2), .second, .val (.long r3), .second, .val (.long rn), .second, .val (.ref b247), .unset, .unset, .unset, .unset] [(.long ((bn - (j3.toInt64)) * b)), (.ref b247)])) t
        refine XS.lload X260.here hx rfl (hb hby at_327) rfl ?_
        show Steps p.tables e below (T260.setTop (mkF m 329 #[.val (.long q0), .second, .val (.long q1), .second, .val (.long q2), .second, .val (.int p3), .val (.long q4), .second, .val (.long q5), .second, .val (.long b), .second, .val (.int (Int32.ofNat kn)), .val (.long lim), .second, .val (.long bn), .second, .val (.int j1), .val (.int j2), .val (.int j3), .val (.int f1), .val (.int f2), .val (.int f3), .val (.long r1), .second, .val (.long r2), .second, .val (.long r3), .second, .val (.long rn), .second, .val (.ref b247), .unset, .unset, .unset, .unset] [(.long r3), (.long ((bn - (j3.toInt64)) * b)), (.ref b247)])) t
        refine XS.ladd X260.here hx rfl (hb hby at_329) rfl ?_
        exact kk
      obtain ⟨cq269, kq269, q269a, q269b, q269c⟩ := isOf hZ e260 hm260.1.1
      obtain ⟨_, _, ⟨T269, L269, k269, n269⟩, -, X269, ⟨Lc269, hQ269, l269, y269, z269⟩, st269⟩ := X260.virtualBack hx (y := (⟨"com/example/ventil/ventil/RollingCount", "add", "(J)V"⟩ : MethodName)) (z := (⟨"com/example/ventil/ventil/RollingCount", "add", "(J)V"⟩ : MethodName)) hown (mvT hZ (hw _ (List.mem_of_getElem? (i := 49) rfl))) (mvT hZ (hw _ (List.mem_of_getElem? (i := 50) rfl))) (notFace_of_selects (args := #[]) (mvT hZ (hw _ (List.mem_of_getElem? (i := 52) rfl)))) (mvT hZ (hw _ (List.mem_of_getElem? (i := 52) rfl))) (mvT hZ (hw _ (List.mem_of_getElem? (i := 51) rfl))) (by decide) (backOf (W := 0) (rm_add l Z a0 hw [] b247 (((bn - (j3.toInt64)) * b) + r3) b kn bs2 cs2 (bn - j3.toInt64) hh260 n0 zn260 hm260.1 hbz hk hn ht3) hZ (hw _ (List.mem_of_getElem? (i := 53) rfl)) (hw _ (List.mem_of_getElem? (i := 18) rfl)) (by decide) (by decide)) q269a q269c (g := (mkF m 330 #[.val (.long q0), .second, .val (.long q1), .second, .val (.long q2), .second, .val (.int p3), .val (.long q4), .second, .val (.long q5), .second, .val (.long b), .second, .val (.int (Int32.ofNat kn)), .val (.long lim), .second, .val (.long bn), .second, .val (.int j1), .val (.int j2), .val (.int j3), .val (.int f1), .val (.int f2), .val (.int f3), .val (.long r1), .second, .val (.long r2), .second, .val (.long r3), .second, .val (.long rn), .second, .val (.ref b247), .unset, .unset, .unset, .unset] [(.long (((bn - (j3.toInt64)) * b) + r3)), (.ref b247)])) rfl (by rw [hml]; rfl) (Steps.refl _) (argsL := [(.long (((bn - (j3.toInt64)) * b) + r3))]) (rest := []) (lenOf pd__J_V rfl) rfl (by show 2 * 0 + _ ≤ _; exact Nat.le_of_eq rfl) (hb hby at_330) (fun _ _ => ⟨rfl, e260, (by decide : 3 + 0 ≤ _), (by decide : 11 + 0 ≤ _)⟩)
      dsimp only [Pt.U, Pt.locs, Pt.cells, Pt.slots] at X269 l269 y269 z269 st269 hQ269
      subst l269 y269 z269
      obtain ⟨rfl, Nq269, zn269, Rc269⟩ := hQ269
      have N269 := Fr.app N260 Nq269
      have c270 : Goes p e below s₁ (entryFrame m #[(.long q0), (.long q1), (.long q2), (.int p3), (.long q4), (.long q5)] maxLocals) T269 (mkF m 333 #[.val (.long q0), .second, .val (.long q1), .second, .val (.long q2), .second, .val (.int p3), .val (.long q4), .second, .val (.long q5), .second, .val (.long b), .second, .val (.int (Int32.ofNat kn)), .val (.long lim), .second, .val (.long bn), .second, .val (.int j1), .val (.int j2), .val (.int j3), .val (.int f1), .val (.int f2), .val (.int f3), .val (.long r1), .second, .val (.long r2), .second, .val (.long r3), .second, .val (.long rn), .second, .val (.ref b247), .unset, .unset, .unset, .unset] []) := fun t kk => c268 t (st269.trans kk)
      exact ⟨_, _, T269.heap, T269, _, ⟨Rc269, by have q := own_step (O := Ox) (b := (bn - j3.toInt64)) hk hI2.1 (by omega) (by omega) (by omega); exact ⟨by have q1 := q.1; rw [hu3] at q1; exact q1, by rw [q.2, hI2.2, own_oneI hO.1 hu3 hn, own_ind1 _ _ hf3]⟩⟩, zn269, N269, X269, rfl, c270⟩
  have hI3 := hm266.2
  have c271 : Goes p e below s₁ (entryFrame m #[(.long q0), (.long q1), (.long q2), (.int p3), (.long q4), (.long q5)] maxLocals) T266 (mkF m 343 #[.val (.long q0), .second, .val (.long q1), .second, .val (.long q2), .second, .val (.int p3), .val (.long q4), .second, .val (.long q5), .second, .val (.long b), .second, .val (.int (Int32.ofNat kn)), .val (.long lim), .second, .val (.long bn), .second, .val (.int j1), .val (.int j2), .val (.int j3), .val (.int f1), .val (.int f2), .val (.int f3), .val (.long r1), .second, .val (.long r2), .second, .val (.long r3), .second, .val (.long rn), .second, .val (.ref b247), .unset, .unset, .unset, .unset] [(.long ((bn * b) + rn)), (.ref b247)]) := by
    intro t kk
    refine c266 t ?_
    show Steps p.tables e below (T266.setTop (mkF m 333 #[.val (.long q0), .second, .val (.long q1), .second, .val (.long q2), .second, .val (.int p3), .val (.long q4), .second, .val (.long q5), .second, .val (.long b), .second, .val (.int (Int32.ofNat kn)), .val (.long lim), .second, .val (.long bn), .second, .val (.int j1), .val (.int j2), .val (.int j3), .val (.int f1), .val (.int f2), .val (.int f3), .val (.long r1), .second, .val (.long r2), .second, .val (.long r3), .second, .val (.long rn), .second, .val (.ref b247), .unset, .unset, .unset, .unset] [])) t
    refine XS.aload X266.here hx rfl (hb hby at_333) rfl rfl ?_
    show Steps p.tables e below (T266.setTop (mkF m 335 #[.val (.long q0), .second, .val (.long q1), .second, .val (.long q2), .second, .val (.int p3), .val (.long q4), .second, .val (.long q5), .second, .val (.long b), .second, .val (.int (Int32.ofNat kn)), .val (.long lim), .second, .val (.long bn), .second, .val (.int j1), .val (.int j2), .val (.int j3), .val (.int f1), .val (.int f2), .val (.int f3), .val (.long r1), .second, .val (.long r2), .second, .val (.long r3), .second, .val (.long rn), .second, .val (.ref b247), .unset, .unset, .unset, .unset] [(.ref b247)])) t
    refine XS.lload X266.here hx rfl (hb hby at_335) rfl ?_
    show Steps p.tables e below (T266.setTop (mkF m 337 #[.val (.long q0), .second, .val (.long q1), .second, .val (.long q2), .second, .val (.int p3), .val (.long q4), .second, .val (.long q5), .second, .val (.long b), .second, .val (.int (Int32.ofNat kn)), .val (.long lim), .second, .val (.long bn), .second, .val (.int j1), .val (.int j2), .val (.int j3), .val (.int f1), .val (.int f2), .val (.int f3), .val (.long r1), .second, .val (.long r2), .second, .val (.long r3), .second, .val (.long rn), .second, .val (.ref b247), .unset, .unset, .unset, .unset] [(.long bn), (.ref b247)])) t
    refine XS.lload X266.here hx rfl (hb hby at_337) rfl ?_
    show Steps p.tables e below (T266.setTop (mkF m 339 #[.val (.long q0), .second, .val (.long q1), .second, .val (.long q2), .second, .val (.int p3), .val (.long q4), .second, .val (.long q5), .second, .val (.long b), .second, .val (.int (Int32.ofNat kn)), .val (.long lim), .second, .val (.long bn), .second, .val (.int j1), .val (.int j2), .val (.int j3), .val (.int f1), .val (.int f2), .val (.int f3), .val (.long r1), .second, .val (.long r2), .second, .val (.long r3), .second, .val (.long rn), .second, .val (.ref b247), .unset, .unset, .unset, .unset] [(.long b), (.long bn), (.ref b247)])) t
    refine XS.lmul X266.here hx rfl (hb hby at_339) rfl ?_
    show Steps p.tables e below (T266.setTop (mkF m 340 #[.val (.long q0), .second, .val (.long q1), .second, .val (.long q2), .second, .val (.int p3), .val (.long q4), .second, .val (.long q5), .second, .val (.long b), .second, .val (.int (Int32.ofNat kn)), .val (.long lim), .second, .val (.long bn), .second, .val (.int j1), .val (.int j2), .val (.int j3), .val (.int f1), .val (.int f2), .val (.int f3), .val (.long r1), .second, .val (.long r2), .second, .val (.long r3), .second, .val (.long rn), .second, .val (.ref b247), .unset, .unset, .unset, .unset] [(.long (bn * b)), (.ref b247)])) t
    refine XS.lload X266.here hx rfl (hb hby at_340) rfl ?_
    show Steps p.tables e below (T266.setTop (mkF m 342 #[.val (.long q0), .second, .val (.long q1), .second, .val (.long q2), .second, .val (.int p3), .val (.long q4), .second, .val (.long q5), .second, .val (.long b), .second, .val (.int (Int32.ofNat kn)), .val (.long lim), .second, .val (.long bn), .second, .val (.int j1), .val (.int j2), .val (.int j3), .val (.int f1), .val (.int f2), .val (.int f3), .val (.long r1), .second, .val (.long r2), .second, .val (.long r3), .second, .val (.long rn), .second, .val (.ref b247), .unset, .unset, .unset, .unset] [(.long rn), (.long (bn * b)), (.ref b247)])) t
    refine XS.ladd X266.here hx rfl (hb hby at_342) rfl ?_
    exact kk
  obtain ⟨cq272, kq272, q272a, q272b, q272c⟩ := isOf hZ e266 hm266.1.1
  obtain ⟨_, _, ⟨T272, L272, k272, n272⟩, -, X272, ⟨Lc272, hQ272, l272, y272, z272⟩, st272⟩ := X266.virtualBack hx (y := (⟨"com/example/ventil/ventil/RollingCount", "sum", "(J)J"⟩ : MethodName)) (z := (⟨"com/example/ventil/ventil/RollingCount", "sum", "(J)J"⟩ : MethodName)) hown (mvT hZ (hw _ (List.mem_of_getElem? (i := 37) rfl))) (mvT hZ (hw _ (List.mem_of_getElem? (i := 38) rfl))) (notFace_of_selects (args := #[]) (mvT hZ (hw _ (List.mem_of_getElem? (i := 40) rfl)))) (mvT hZ (hw _ (List.mem_of_getElem? (i := 40) rfl))) (mvT hZ (hw _ (List.mem_of_getElem? (i := 39) rfl))) (by decide) (backOf (W := 0) (rm_sum l Z a0 hw [] b247 ((bn * b) + rn) b kn bs3 cs3 hh266 n0 zn266 hm266.1 hbz hk hn) hZ (hw _ (List.mem_of_getElem? (i := 41) rfl)) (hw _ (List.mem_of_getElem? (i := 18) rfl)) (by decide) (by decide)) q272a q272c (g := (mkF m 343 #[.val (.long q0), .second, .val (.long q1), .second, .val (.long q2), .second, .val (.int p3), .val (.long q4), .second, .val (.long q5), .second, .val (.long b), .second, .val (.int (Int32.ofNat kn)), .val (.long lim), .second, .val (.long bn), .second, .val (.int j1), .val (.int j2), .val (.int j3), .val (.int f1), .val (.int f2), .val (.int f3), .val (.long r1), .second, .val (.long r2), .second, .val (.long r3), .second, .val (.long rn), .second, .val (.ref b247), .unset, .unset, .unset, .unset] [(.long ((bn * b) + rn)), (.ref b247)])) rfl (by rw [hml]; rfl) (Steps.refl _) (argsL := [(.long ((bn * b) + rn))]) (rest := []) (lenOf pd__J_J rfl) rfl (by show 2 * 0 + _ ≤ _; exact Nat.le_of_eq rfl) (hb hby at_343) (fun _ _ => ⟨rfl, e266, (by decide : 3 + 0 ≤ _), (by decide : 11 + 0 ≤ _)⟩)
  dsimp only [Pt.U, Pt.locs, Pt.cells, Pt.slots] at X272 l272 y272 z272 st272 hQ272
  subst l272 y272 z272
  obtain ⟨rfl, Nq272, eq272⟩ := hQ272
  have N272 := Fr.app N266 Nq272
  have c273 : Goes p e below s₁ (entryFrame m #[(.long q0), (.long q1), (.long q2), (.int p3), (.long q4), (.long q5)] maxLocals) T272 (mkF m 346 #[.val (.long q0), .second, .val (.long q1), .second, .val (.long q2), .second, .val (.int p3), .val (.long q4), .second, .val (.long q5), .second, .val (.long b), .second, .val (.int (Int32.ofNat kn)), .val (.long lim), .second, .val (.long bn), .second, .val (.int j1), .val (.int j2), .val (.int j3), .val (.int f1), .val (.int f2), .val (.int f3), .val (.long r1), .second, .val (.long r2), .second, .val (.long r3), .second, .val (.long rn), .second, .val (.ref b247), .unset, .unset, .unset, .unset] [(.long (own_phi (own_fd ((bn * b) + rn) b - (Int32.ofNat kn).toInt64 + 1) bs3 cs3 0))]) := fun t kk => c271 t (st272.trans kk)
  have c274 : Goes p e below s₁ (entryFrame m #[(.long q0), (.long q1), (.long q2), (.int p3), (.long q4), (.long q5)] maxLocals) T272 (mkF m 353 #[.val (.long q0), .second, .val (.long q1), .second, .val (.long q2), .second, .val (.int p3), .val (.long q4), .second, .val (.long q5), .second, .val (.long b), .second, .val (.int (Int32.ofNat kn)), .val (.long lim), .second, .val (.long bn), .second, .val (.int j1), .val (.int j2), .val (.int j3), .val (.int f1), .val (.int f2), .val (.int f3), .val (.long r1), .second, .val (.long r2), .second, .val (.long r3), .second, .val (.long rn), .second, .val (.ref b247), .val (.long (own_phi (own_fd ((bn * b) + rn) b - (Int32.ofNat kn).toInt64 + 1) bs3 cs3 0)), .second, .val (.long (0 : Int64)), .second] [(.int f1)]) := by
    intro t kk
    refine c273 t ?_
    show Steps p.tables e below (T272.setTop (mkF m 346 #[.val (.long q0), .second, .val (.long q1), .second, .val (.long q2), .second, .val (.int p3), .val (.long q4), .second, .val (.long q5), .second, .val (.long b), .second, .val (.int (Int32.ofNat kn)), .val (.long lim), .second, .val (.long bn), .second, .val (.int j1), .val (.int j2), .val (.int j3), .val (.int f1), .val (.int f2), .val (.int f3), .val (.long r1), .second, .val (.long r2), .second, .val (.long r3), .second, .val (.long rn), .second, .val (.ref b247), .unset, .unset, .unset, .unset] [(.long (own_phi (own_fd ((bn * b) + rn) b - (Int32.ofNat kn).toInt64 + 1) bs3 cs3 0))])) t
    refine XS.lstore X272.here hx rfl (hb hby at_346) rfl (l' := #[.val (.long q0), .second, .val (.long q1), .second, .val (.long q2), .second, .val (.int p3), .val (.long q4), .second, .val (.long q5), .second, .val (.long b), .second, .val (.int (Int32.ofNat kn)), .val (.long lim), .second, .val (.long bn), .second, .val (.int j1), .val (.int j2), .val (.int j3), .val (.int f1), .val (.int f2), .val (.int f3), .val (.long r1), .second, .val (.long r2), .second, .val (.long r3), .second, .val (.long rn), .second, .val (.ref b247), .val (.long (own_phi (own_fd ((bn * b) + rn) b - (Int32.ofNat kn).toInt64 + 1) bs3 cs3 0)), .second, .unset, .unset]) rfl ?_
    show Steps p.tables e below (T272.setTop (mkF m 348 #[.val (.long q0), .second, .val (.long q1), .second, .val (.long q2), .second, .val (.int p3), .val (.long q4), .second, .val (.long q5), .second, .val (.long b), .second, .val (.int (Int32.ofNat kn)), .val (.long lim), .second, .val (.long bn), .second, .val (.int j1), .val (.int j2), .val (.int j3), .val (.int f1), .val (.int f2), .val (.int f3), .val (.long r1), .second, .val (.long r2), .second, .val (.long r3), .second, .val (.long rn), .second, .val (.ref b247), .val (.long (own_phi (own_fd ((bn * b) + rn) b - (Int32.ofNat kn).toInt64 + 1) bs3 cs3 0)), .second, .unset, .unset] [])) t
    refine XS.lconst X272.here hx rfl (hb hby at_348) ?_
    show Steps p.tables e below (T272.setTop (mkF m 349 #[.val (.long q0), .second, .val (.long q1), .second, .val (.long q2), .second, .val (.int p3), .val (.long q4), .second, .val (.long q5), .second, .val (.long b), .second, .val (.int (Int32.ofNat kn)), .val (.long lim), .second, .val (.long bn), .second, .val (.int j1), .val (.int j2), .val (.int j3), .val (.int f1), .val (.int f2), .val (.int f3), .val (.long r1), .second, .val (.long r2), .second, .val (.long r3), .second, .val (.long rn), .second, .val (.ref b247), .val (.long (own_phi (own_fd ((bn * b) + rn) b - (Int32.ofNat kn).toInt64 + 1) bs3 cs3 0)), .second, .unset, .unset] [(.long (0 : Int64))])) t
    refine XS.lstore X272.here hx rfl (hb hby at_349) rfl (l' := #[.val (.long q0), .second, .val (.long q1), .second, .val (.long q2), .second, .val (.int p3), .val (.long q4), .second, .val (.long q5), .second, .val (.long b), .second, .val (.int (Int32.ofNat kn)), .val (.long lim), .second, .val (.long bn), .second, .val (.int j1), .val (.int j2), .val (.int j3), .val (.int f1), .val (.int f2), .val (.int f3), .val (.long r1), .second, .val (.long r2), .second, .val (.long r3), .second, .val (.long rn), .second, .val (.ref b247), .val (.long (own_phi (own_fd ((bn * b) + rn) b - (Int32.ofNat kn).toInt64 + 1) bs3 cs3 0)), .second, .val (.long (0 : Int64)), .second]) rfl ?_
    show Steps p.tables e below (T272.setTop (mkF m 351 #[.val (.long q0), .second, .val (.long q1), .second, .val (.long q2), .second, .val (.int p3), .val (.long q4), .second, .val (.long q5), .second, .val (.long b), .second, .val (.int (Int32.ofNat kn)), .val (.long lim), .second, .val (.long bn), .second, .val (.int j1), .val (.int j2), .val (.int j3), .val (.int f1), .val (.int f2), .val (.int f3), .val (.long r1), .second, .val (.long r2), .second, .val (.long r3), .second, .val (.long rn), .second, .val (.ref b247), .val (.long (own_phi (own_fd ((bn * b) + rn) b - (Int32.ofNat kn).toInt64 + 1) bs3 cs3 0)), .second, .val (.long (0 : Int64)), .second] [])) t
    refine XS.iload X272.here hx rfl (hb hby at_351) rfl ?_
    exact kk
  obtain ⟨wt1, hm275, c275⟩ : ∃ wt1 : Int64, (wt1 = (0 : Int64) + own_ind f1 j1 (Int32.ofNat kn)) ∧ Goes p e below s₁ (entryFrame m #[(.long q0), (.long q1), (.long q2), (.int p3), (.long q4), (.long q5)] maxLocals) T272 (mkF m 369 #[.val (.long q0), .second, .val (.long q1), .second, .val (.long q2), .second, .val (.int p3), .val (.long q4), .second, .val (.long q5), .second, .val (.long b), .second, .val (.int (Int32.ofNat kn)), .val (.long lim), .second, .val (.long bn), .second, .val (.int j1), .val (.int j2), .val (.int j3), .val (.int f1), .val (.int f2), .val (.int f3), .val (.long r1), .second, .val (.long r2), .second, .val (.long r3), .second, .val (.long rn), .second, .val (.ref b247), .val (.long (own_phi (own_fd ((bn * b) + rn) b - (Int32.ofNat kn).toInt64 + 1) bs3 cs3 0)), .second, .val (.long wt1), .second] []) := by
    by_cases hw1a : f1 = (0 : Int32)
    · have c276 : Goes p e below s₁ (entryFrame m #[(.long q0), (.long q1), (.long q2), (.int p3), (.long q4), (.long q5)] maxLocals) T272 (mkF m 369 #[.val (.long q0), .second, .val (.long q1), .second, .val (.long q2), .second, .val (.int p3), .val (.long q4), .second, .val (.long q5), .second, .val (.long b), .second, .val (.int (Int32.ofNat kn)), .val (.long lim), .second, .val (.long bn), .second, .val (.int j1), .val (.int j2), .val (.int j3), .val (.int f1), .val (.int f2), .val (.int f3), .val (.long r1), .second, .val (.long r2), .second, .val (.long r3), .second, .val (.long rn), .second, .val (.ref b247), .val (.long (own_phi (own_fd ((bn * b) + rn) b - (Int32.ofNat kn).toInt64 + 1) bs3 cs3 0)), .second, .val (.long (0 : Int64)), .second] []) := by
        intro t kk
        refine c274 t ?_
        show Steps p.tables e below (T272.setTop (mkF m 353 #[.val (.long q0), .second, .val (.long q1), .second, .val (.long q2), .second, .val (.int p3), .val (.long q4), .second, .val (.long q5), .second, .val (.long b), .second, .val (.int (Int32.ofNat kn)), .val (.long lim), .second, .val (.long bn), .second, .val (.int j1), .val (.int j2), .val (.int j3), .val (.int f1), .val (.int f2), .val (.int f3), .val (.long r1), .second, .val (.long r2), .second, .val (.long r3), .second, .val (.long rn), .second, .val (.ref b247), .val (.long (own_phi (own_fd ((bn * b) + rn) b - (Int32.ofNat kn).toInt64 + 1) bs3 cs3 0)), .second, .val (.long (0 : Int64)), .second] [(.int f1)])) t
        refine XS.ifYes X272.here hx rfl (pc0 := 353) (pc' := 369) rfl (hb hby at_353) rfl ((if0 _ _).trans (teq hw1a).1) (by decide) (by decide) ?_
        exact kk
      exact ⟨(0 : Int64), (by simp only [own_ind, hw1a, if_true, if_false, Int64.add_zero]), c276⟩
    · have c277 : Goes p e below s₁ (entryFrame m #[(.long q0), (.long q1), (.long q2), (.int p3), (.long q4), (.long q5)] maxLocals) T272 (mkF m 360 #[.val (.long q0), .second, .val (.long q1), .second, .val (.long q2), .second, .val (.int p3), .val (.long q4), .second, .val (.long q5), .second, .val (.long b), .second, .val (.int (Int32.ofNat kn)), .val (.long lim), .second, .val (.long bn), .second, .val (.int j1), .val (.int j2), .val (.int j3), .val (.int f1), .val (.int f2), .val (.int f3), .val (.long r1), .second, .val (.long r2), .second, .val (.long r3), .second, .val (.long rn), .second, .val (.ref b247), .val (.long (own_phi (own_fd ((bn * b) + rn) b - (Int32.ofNat kn).toInt64 + 1) bs3 cs3 0)), .second, .val (.long (0 : Int64)), .second] [(.int (Int32.ofNat kn)), (.int j1)]) := by
        intro t kk
        refine c274 t ?_
        show Steps p.tables e below (T272.setTop (mkF m 353 #[.val (.long q0), .second, .val (.long q1), .second, .val (.long q2), .second, .val (.int p3), .val (.long q4), .second, .val (.long q5), .second, .val (.long b), .second, .val (.int (Int32.ofNat kn)), .val (.long lim), .second, .val (.long bn), .second, .val (.int j1), .val (.int j2), .val (.int j3), .val (.int f1), .val (.int f2), .val (.int f3), .val (.long r1), .second, .val (.long r2), .second, .val (.long r3), .second, .val (.long rn), .second, .val (.ref b247), .val (.long (own_phi (own_fd ((bn * b) + rn) b - (Int32.ofNat kn).toInt64 + 1) bs3 cs3 0)), .second, .val (.long (0 : Int64)), .second] [(.int f1)])) t
        refine XS.ifNo X272.here hx rfl (hb hby at_353) rfl ((if0 _ _).trans (feq hw1a).1) ?_
        show Steps p.tables e below (T272.setTop (mkF m 356 #[.val (.long q0), .second, .val (.long q1), .second, .val (.long q2), .second, .val (.int p3), .val (.long q4), .second, .val (.long q5), .second, .val (.long b), .second, .val (.int (Int32.ofNat kn)), .val (.long lim), .second, .val (.long bn), .second, .val (.int j1), .val (.int j2), .val (.int j3), .val (.int f1), .val (.int f2), .val (.int f3), .val (.long r1), .second, .val (.long r2), .second, .val (.long r3), .second, .val (.long rn), .second, .val (.ref b247), .val (.long (own_phi (own_fd ((bn * b) + rn) b - (Int32.ofNat kn).toInt64 + 1) bs3 cs3 0)), .second, .val (.long (0 : Int64)), .second] [])) t
        refine XS.iload X272.here hx rfl (hb hby at_356) rfl ?_
        show Steps p.tables e below (T272.setTop (mkF m 358 #[.val (.long q0), .second, .val (.long q1), .second, .val (.long q2), .second, .val (.int p3), .val (.long q4), .second, .val (.long q5), .second, .val (.long b), .second, .val (.int (Int32.ofNat kn)), .val (.long lim), .second, .val (.long bn), .second, .val (.int j1), .val (.int j2), .val (.int j3), .val (.int f1), .val (.int f2), .val (.int f3), .val (.long r1), .second, .val (.long r2), .second, .val (.long r3), .second, .val (.long rn), .second, .val (.ref b247), .val (.long (own_phi (own_fd ((bn * b) + rn) b - (Int32.ofNat kn).toInt64 + 1) bs3 cs3 0)), .second, .val (.long (0 : Int64)), .second] [(.int j1)])) t
        refine XS.iload X272.here hx rfl (hb hby at_358) rfl ?_
        exact kk
      by_cases hw1b : j1 < (Int32.ofNat kn)
      · have c278 : Goes p e below s₁ (entryFrame m #[(.long q0), (.long q1), (.long q2), (.int p3), (.long q4), (.long q5)] maxLocals) T272 (mkF m 369 #[.val (.long q0), .second, .val (.long q1), .second, .val (.long q2), .second, .val (.int p3), .val (.long q4), .second, .val (.long q5), .second, .val (.long b), .second, .val (.int (Int32.ofNat kn)), .val (.long lim), .second, .val (.long bn), .second, .val (.int j1), .val (.int j2), .val (.int j3), .val (.int f1), .val (.int f2), .val (.int f3), .val (.long r1), .second, .val (.long r2), .second, .val (.long r3), .second, .val (.long rn), .second, .val (.ref b247), .val (.long (own_phi (own_fd ((bn * b) + rn) b - (Int32.ofNat kn).toInt64 + 1) bs3 cs3 0)), .second, .val (.long ((0 : Int64) + (1 : Int64))), .second] []) := by
          intro t kk
          refine c277 t ?_
          show Steps p.tables e below (T272.setTop (mkF m 360 #[.val (.long q0), .second, .val (.long q1), .second, .val (.long q2), .second, .val (.int p3), .val (.long q4), .second, .val (.long q5), .second, .val (.long b), .second, .val (.int (Int32.ofNat kn)), .val (.long lim), .second, .val (.long bn), .second, .val (.int j1), .val (.int j2), .val (.int j3), .val (.int f1), .val (.int f2), .val (.int f3), .val (.long r1), .second, .val (.long r2), .second, .val (.long r3), .second, .val (.long rn), .second, .val (.ref b247), .val (.long (own_phi (own_fd ((bn * b) + rn) b - (Int32.ofNat kn).toInt64 + 1) bs3 cs3 0)), .second, .val (.long (0 : Int64)), .second] [(.int (Int32.ofNat kn)), (.int j1)])) t
          refine XS.icmpNo X272.here hx rfl (hb hby at_360) rfl (tlt hw1b).2.1 ?_
          show Steps p.tables e below (T272.setTop (mkF m 363 #[.val (.long q0), .second, .val (.long q1), .second, .val (.long q2), .second, .val (.int p3), .val (.long q4), .second, .val (.long q5), .second, .val (.long b), .second, .val (.int (Int32.ofNat kn)), .val (.long lim), .second, .val (.long bn), .second, .val (.int j1), .val (.int j2), .val (.int j3), .val (.int f1), .val (.int f2), .val (.int f3), .val (.long r1), .second, .val (.long r2), .second, .val (.long r3), .second, .val (.long rn), .second, .val (.ref b247), .val (.long (own_phi (own_fd ((bn * b) + rn) b - (Int32.ofNat kn).toInt64 + 1) bs3 cs3 0)), .second, .val (.long (0 : Int64)), .second] [])) t
          refine XS.lload X272.here hx rfl (hb hby at_363) rfl ?_
          show Steps p.tables e below (T272.setTop (mkF m 365 #[.val (.long q0), .second, .val (.long q1), .second, .val (.long q2), .second, .val (.int p3), .val (.long q4), .second, .val (.long q5), .second, .val (.long b), .second, .val (.int (Int32.ofNat kn)), .val (.long lim), .second, .val (.long bn), .second, .val (.int j1), .val (.int j2), .val (.int j3), .val (.int f1), .val (.int f2), .val (.int f3), .val (.long r1), .second, .val (.long r2), .second, .val (.long r3), .second, .val (.long rn), .second, .val (.ref b247), .val (.long (own_phi (own_fd ((bn * b) + rn) b - (Int32.ofNat kn).toInt64 + 1) bs3 cs3 0)), .second, .val (.long (0 : Int64)), .second] [(.long (0 : Int64))])) t
          refine XS.lconst X272.here hx rfl (hb hby at_365) ?_
          show Steps p.tables e below (T272.setTop (mkF m 366 #[.val (.long q0), .second, .val (.long q1), .second, .val (.long q2), .second, .val (.int p3), .val (.long q4), .second, .val (.long q5), .second, .val (.long b), .second, .val (.int (Int32.ofNat kn)), .val (.long lim), .second, .val (.long bn), .second, .val (.int j1), .val (.int j2), .val (.int j3), .val (.int f1), .val (.int f2), .val (.int f3), .val (.long r1), .second, .val (.long r2), .second, .val (.long r3), .second, .val (.long rn), .second, .val (.ref b247), .val (.long (own_phi (own_fd ((bn * b) + rn) b - (Int32.ofNat kn).toInt64 + 1) bs3 cs3 0)), .second, .val (.long (0 : Int64)), .second] [(.long (1 : Int64)), (.long (0 : Int64))])) t
          refine XS.ladd X272.here hx rfl (hb hby at_366) rfl ?_
          show Steps p.tables e below (T272.setTop (mkF m 367 #[.val (.long q0), .second, .val (.long q1), .second, .val (.long q2), .second, .val (.int p3), .val (.long q4), .second, .val (.long q5), .second, .val (.long b), .second, .val (.int (Int32.ofNat kn)), .val (.long lim), .second, .val (.long bn), .second, .val (.int j1), .val (.int j2), .val (.int j3), .val (.int f1), .val (.int f2), .val (.int f3), .val (.long r1), .second, .val (.long r2), .second, .val (.long r3), .second, .val (.long rn), .second, .val (.ref b247), .val (.long (own_phi (own_fd ((bn * b) + rn) b - (Int32.ofNat kn).toInt64 + 1) bs3 cs3 0)), .second, .val (.long (0 : Int64)), .second] [(.long ((0 : Int64) + (1 : Int64)))])) t
          refine XS.lstore X272.here hx rfl (hb hby at_367) rfl (l' := #[.val (.long q0), .second, .val (.long q1), .second, .val (.long q2), .second, .val (.int p3), .val (.long q4), .second, .val (.long q5), .second, .val (.long b), .second, .val (.int (Int32.ofNat kn)), .val (.long lim), .second, .val (.long bn), .second, .val (.int j1), .val (.int j2), .val (.int j3), .val (.int f1), .val (.int f2), .val (.int f3), .val (.long r1), .second, .val (.long r2), .second, .val (.long r3), .second, .val (.long rn), .second, .val (.ref b247), .val (.long (own_phi (own_fd ((bn * b) + rn) b - (Int32.ofNat kn).toInt64 + 1) bs3 cs3 0)), .second, .val (.long ((0 : Int64) + (1 : Int64))), .second]) rfl ?_
          exact kk
        exact ⟨((0 : Int64) + (1 : Int64)), (by simp only [own_ind, hw1a, hw1b, if_true, if_false, Int64.add_zero]), c278⟩
      · have c279 : Goes p e below s₁ (entryFrame m #[(.long q0), (.long q1), (.long q2), (.int p3), (.long q4), (.long q5)] maxLocals) T272 (mkF m 369 #[.val (.long q0), .second, .val (.long q1), .second, .val (.long q2), .second, .val (.int p3), .val (.long q4), .second, .val (.long q5), .second, .val (.long b), .second, .val (.int (Int32.ofNat kn)), .val (.long lim), .second, .val (.long bn), .second, .val (.int j1), .val (.int j2), .val (.int j3), .val (.int f1), .val (.int f2), .val (.int f3), .val (.long r1), .second, .val (.long r2), .second, .val (.long r3), .second, .val (.long rn), .second, .val (.ref b247), .val (.long (own_phi (own_fd ((bn * b) + rn) b - (Int32.ofNat kn).toInt64 + 1) bs3 cs3 0)), .second, .val (.long (0 : Int64)), .second] []) := by
          intro t kk
          refine c277 t ?_
          show Steps p.tables e below (T272.setTop (mkF m 360 #[.val (.long q0), .second, .val (.long q1), .second, .val (.long q2), .second, .val (.int p3), .val (.long q4), .second, .val (.long q5), .second, .val (.long b), .second, .val (.int (Int32.ofNat kn)), .val (.long lim), .second, .val (.long bn), .second, .val (.int j1), .val (.int j2), .val (.int j3), .val (.int f1), .val (.int f2), .val (.int f3), .val (.long r1), .second, .val (.long r2), .second, .val (.long r3), .second, .val (.long rn), .second, .val (.ref b247), .val (.long (own_phi (own_fd ((bn * b) + rn) b - (Int32.ofNat kn).toInt64 + 1) bs3 cs3 0)), .second, .val (.long (0 : Int64)), .second] [(.int (Int32.ofNat kn)), (.int j1)])) t
          refine XS.icmpYes X272.here hx rfl (pc0 := 360) (pc' := 369) rfl (hb hby at_360) rfl (flt hw1b).2.1 (by decide) (by decide) ?_
          exact kk
        exact ⟨(0 : Int64), (by simp only [own_ind, hw1a, hw1b, if_true, if_false, Int64.add_zero]), c279⟩
  have hw1 := hm275
  have c280 : Goes p e below s₁ (entryFrame m #[(.long q0), (.long q1), (.long q2), (.int p3), (.long q4), (.long q5)] maxLocals) T272 (mkF m 371 #[.val (.long q0), .second, .val (.long q1), .second, .val (.long q2), .second, .val (.int p3), .val (.long q4), .second, .val (.long q5), .second, .val (.long b), .second, .val (.int (Int32.ofNat kn)), .val (.long lim), .second, .val (.long bn), .second, .val (.int j1), .val (.int j2), .val (.int j3), .val (.int f1), .val (.int f2), .val (.int f3), .val (.long r1), .second, .val (.long r2), .second, .val (.long r3), .second, .val (.long rn), .second, .val (.ref b247), .val (.long (own_phi (own_fd ((bn * b) + rn) b - (Int32.ofNat kn).toInt64 + 1) bs3 cs3 0)), .second, .val (.long wt1), .second] [(.int f2)]) := by
    intro t kk
    refine c275 t ?_
    show Steps p.tables e below (T272.setTop (mkF m 369 #[.val (.long q0), .second, .val (.long q1), .second, .val (.long q2), .second, .val (.int p3), .val (.long q4), .second, .val (.long q5), .second, .val (.long b), .second, .val (.int (Int32.ofNat kn)), .val (.long lim), .second, .val (.long bn), .second, .val (.int j1), .val (.int j2), .val (.int j3), .val (.int f1), .val (.int f2), .val (.int f3), .val (.long r1), .second, .val (.long r2), .second, .val (.long r3), .second, .val (.long rn), .second, .val (.ref b247), .val (.long (own_phi (own_fd ((bn * b) + rn) b - (Int32.ofNat kn).toInt64 + 1) bs3 cs3 0)), .second, .val (.long wt1), .second] [])) t
    refine XS.iload X272.here hx rfl (hb hby at_369) rfl ?_
    exact kk
  obtain ⟨wt2, hm281, c281⟩ : ∃ wt2 : Int64, (wt2 = wt1 + own_ind f2 j2 (Int32.ofNat kn)) ∧ Goes p e below s₁ (entryFrame m #[(.long q0), (.long q1), (.long q2), (.int p3), (.long q4), (.long q5)] maxLocals) T272 (mkF m 387 #[.val (.long q0), .second, .val (.long q1), .second, .val (.long q2), .second, .val (.int p3), .val (.long q4), .second, .val (.long q5), .second, .val (.long b), .second, .val (.int (Int32.ofNat kn)), .val (.long lim), .second, .val (.long bn), .second, .val (.int j1), .val (.int j2), .val (.int j3), .val (.int f1), .val (.int f2), .val (.int f3), .val (.long r1), .second, .val (.long r2), .second, .val (.long r3), .second, .val (.long rn), .second, .val (.ref b247), .val (.long (own_phi (own_fd ((bn * b) + rn) b - (Int32.ofNat kn).toInt64 + 1) bs3 cs3 0)), .second, .val (.long wt2), .second] []) := by
    by_cases hw2a : f2 = (0 : Int32)
    · have c282 : Goes p e below s₁ (entryFrame m #[(.long q0), (.long q1), (.long q2), (.int p3), (.long q4), (.long q5)] maxLocals) T272 (mkF m 387 #[.val (.long q0), .second, .val (.long q1), .second, .val (.long q2), .second, .val (.int p3), .val (.long q4), .second, .val (.long q5), .second, .val (.long b), .second, .val (.int (Int32.ofNat kn)), .val (.long lim), .second, .val (.long bn), .second, .val (.int j1), .val (.int j2), .val (.int j3), .val (.int f1), .val (.int f2), .val (.int f3), .val (.long r1), .second, .val (.long r2), .second, .val (.long r3), .second, .val (.long rn), .second, .val (.ref b247), .val (.long (own_phi (own_fd ((bn * b) + rn) b - (Int32.ofNat kn).toInt64 + 1) bs3 cs3 0)), .second, .val (.long wt1), .second] []) := by
        intro t kk
        refine c280 t ?_
        show Steps p.tables e below (T272.setTop (mkF m 371 #[.val (.long q0), .second, .val (.long q1), .second, .val (.long q2), .second, .val (.int p3), .val (.long q4), .second, .val (.long q5), .second, .val (.long b), .second, .val (.int (Int32.ofNat kn)), .val (.long lim), .second, .val (.long bn), .second, .val (.int j1), .val (.int j2), .val (.int j3), .val (.int f1), .val (.int f2), .val (.int f3), .val (.long r1), .second, .val (.long r2), .second, .val (.long r3), .second, .val (.long rn), .second, .val (.ref b247), .val (.long (own_phi (own_fd ((bn * b) + rn) b - (Int32.ofNat kn).toInt64 + 1) bs3 cs3 0)), .second, .val (.long wt1), .second] [(.int f2)])) t
        refine XS.ifYes X272.here hx rfl (pc0 := 371) (pc' := 387) rfl (hb hby at_371) rfl ((if0 _ _).trans (teq hw2a).1) (by decide) (by decide) ?_
        exact kk
      exact ⟨wt1, (by simp only [own_ind, hw2a, if_true, if_false, Int64.add_zero]), c282⟩
    · have c283 : Goes p e below s₁ (entryFrame m #[(.long q0), (.long q1), (.long q2), (.int p3), (.long q4), (.long q5)] maxLocals) T272 (mkF m 378 #[.val (.long q0), .second, .val (.long q1), .second, .val (.long q2), .second, .val (.int p3), .val (.long q4), .second, .val (.long q5), .second, .val (.long b), .second, .val (.int (Int32.ofNat kn)), .val (.long lim), .second, .val (.long bn), .second, .val (.int j1), .val (.int j2), .val (.int j3), .val (.int f1), .val (.int f2), .val (.int f3), .val (.long r1), .second, .val (.long r2), .second, .val (.long r3), .second, .val (.long rn), .second, .val (.ref b247), .val (.long (own_phi (own_fd ((bn * b) + rn) b - (Int32.ofNat kn).toInt64 + 1) bs3 cs3 0)), .second, .val (.long wt1), .second] [(.int (Int32.ofNat kn)), (.int j2)]) := by
        intro t kk
        refine c280 t ?_
        show Steps p.tables e below (T272.setTop (mkF m 371 #[.val (.long q0), .second, .val (.long q1), .second, .val (.long q2), .second, .val (.int p3), .val (.long q4), .second, .val (.long q5), .second, .val (.long b), .second, .val (.int (Int32.ofNat kn)), .val (.long lim), .second, .val (.long bn), .second, .val (.int j1), .val (.int j2), .val (.int j3), .val (.int f1), .val (.int f2), .val (.int f3), .val (.long r1), .second, .val (.long r2), .second, .val (.long r3), .second, .val (.long rn), .second, .val (.ref b247), .val (.long (own_phi (own_fd ((bn * b) + rn) b - (Int32.ofNat kn).toInt64 + 1) bs3 cs3 0)), .second, .val (.long wt1), .second] [(.int f2)])) t
        refine XS.ifNo X272.here hx rfl (hb hby at_371) rfl ((if0 _ _).trans (feq hw2a).1) ?_
        show Steps p.tables e below (T272.setTop (mkF m 374 #[.val (.long q0), .second, .val (.long q1), .second, .val (.long q2), .second, .val (.int p3), .val (.long q4), .second, .val (.long q5), .second, .val (.long b), .second, .val (.int (Int32.ofNat kn)), .val (.long lim), .second, .val (.long bn), .second, .val (.int j1), .val (.int j2), .val (.int j3), .val (.int f1), .val (.int f2), .val (.int f3), .val (.long r1), .second, .val (.long r2), .second, .val (.long r3), .second, .val (.long rn), .second, .val (.ref b247), .val (.long (own_phi (own_fd ((bn * b) + rn) b - (Int32.ofNat kn).toInt64 + 1) bs3 cs3 0)), .second, .val (.long wt1), .second] [])) t
        refine XS.iload X272.here hx rfl (hb hby at_374) rfl ?_
        show Steps p.tables e below (T272.setTop (mkF m 376 #[.val (.long q0), .second, .val (.long q1), .second, .val (.long q2), .second, .val (.int p3), .val (.long q4), .second, .val (.long q5), .second, .val (.long b), .second, .val (.int (Int32.ofNat kn)), .val (.long lim), .second, .val (.long bn), .second, .val (.int j1), .val (.int j2), .val (.int j3), .val (.int f1), .val (.int f2), .val (.int f3), .val (.long r1), .second, .val (.long r2), .second, .val (.long r3), .second, .val (.long rn), .second, .val (.ref b247), .val (.long (own_phi (own_fd ((bn * b) + rn) b - (Int32.ofNat kn).toInt64 + 1) bs3 cs3 0)), .second, .val (.long wt1), .second] [(.int j2)])) t
        refine XS.iload X272.here hx rfl (hb hby at_376) rfl ?_
        exact kk
      by_cases hw2b : j2 < (Int32.ofNat kn)
      · have c284 : Goes p e below s₁ (entryFrame m #[(.long q0), (.long q1), (.long q2), (.int p3), (.long q4), (.long q5)] maxLocals) T272 (mkF m 387 #[.val (.long q0), .second, .val (.long q1), .second, .val (.long q2), .second, .val (.int p3), .val (.long q4), .second, .val (.long q5), .second, .val (.long b), .second, .val (.int (Int32.ofNat kn)), .val (.long lim), .second, .val (.long bn), .second, .val (.int j1), .val (.int j2), .val (.int j3), .val (.int f1), .val (.int f2), .val (.int f3), .val (.long r1), .second, .val (.long r2), .second, .val (.long r3), .second, .val (.long rn), .second, .val (.ref b247), .val (.long (own_phi (own_fd ((bn * b) + rn) b - (Int32.ofNat kn).toInt64 + 1) bs3 cs3 0)), .second, .val (.long (wt1 + (1 : Int64))), .second] []) := by
          intro t kk
          refine c283 t ?_
          show Steps p.tables e below (T272.setTop (mkF m 378 #[.val (.long q0), .second, .val (.long q1), .second, .val (.long q2), .second, .val (.int p3), .val (.long q4), .second, .val (.long q5), .second, .val (.long b), .second, .val (.int (Int32.ofNat kn)), .val (.long lim), .second, .val (.long bn), .second, .val (.int j1), .val (.int j2), .val (.int j3), .val (.int f1), .val (.int f2), .val (.int f3), .val (.long r1), .second, .val (.long r2), .second, .val (.long r3), .second, .val (.long rn), .second, .val (.ref b247), .val (.long (own_phi (own_fd ((bn * b) + rn) b - (Int32.ofNat kn).toInt64 + 1) bs3 cs3 0)), .second, .val (.long wt1), .second] [(.int (Int32.ofNat kn)), (.int j2)])) t
          refine XS.icmpNo X272.here hx rfl (hb hby at_378) rfl (tlt hw2b).2.1 ?_
          show Steps p.tables e below (T272.setTop (mkF m 381 #[.val (.long q0), .second, .val (.long q1), .second, .val (.long q2), .second, .val (.int p3), .val (.long q4), .second, .val (.long q5), .second, .val (.long b), .second, .val (.int (Int32.ofNat kn)), .val (.long lim), .second, .val (.long bn), .second, .val (.int j1), .val (.int j2), .val (.int j3), .val (.int f1), .val (.int f2), .val (.int f3), .val (.long r1), .second, .val (.long r2), .second, .val (.long r3), .second, .val (.long rn), .second, .val (.ref b247), .val (.long (own_phi (own_fd ((bn * b) + rn) b - (Int32.ofNat kn).toInt64 + 1) bs3 cs3 0)), .second, .val (.long wt1), .second] [])) t
          refine XS.lload X272.here hx rfl (hb hby at_381) rfl ?_
          show Steps p.tables e below (T272.setTop (mkF m 383 #[.val (.long q0), .second, .val (.long q1), .second, .val (.long q2), .second, .val (.int p3), .val (.long q4), .second, .val (.long q5), .second, .val (.long b), .second, .val (.int (Int32.ofNat kn)), .val (.long lim), .second, .val (.long bn), .second, .val (.int j1), .val (.int j2), .val (.int j3), .val (.int f1), .val (.int f2), .val (.int f3), .val (.long r1), .second, .val (.long r2), .second, .val (.long r3), .second, .val (.long rn), .second, .val (.ref b247), .val (.long (own_phi (own_fd ((bn * b) + rn) b - (Int32.ofNat kn).toInt64 + 1) bs3 cs3 0)), .second, .val (.long wt1), .second] [(.long wt1)])) t
          refine XS.lconst X272.here hx rfl (hb hby at_383) ?_
          show Steps p.tables e below (T272.setTop (mkF m 384 #[.val (.long q0), .second, .val (.long q1), .second, .val (.long q2), .second, .val (.int p3), .val (.long q4), .second, .val (.long q5), .second, .val (.long b), .second, .val (.int (Int32.ofNat kn)), .val (.long lim), .second, .val (.long bn), .second, .val (.int j1), .val (.int j2), .val (.int j3), .val (.int f1), .val (.int f2), .val (.int f3), .val (.long r1), .second, .val (.long r2), .second, .val (.long r3), .second, .val (.long rn), .second, .val (.ref b247), .val (.long (own_phi (own_fd ((bn * b) + rn) b - (Int32.ofNat kn).toInt64 + 1) bs3 cs3 0)), .second, .val (.long wt1), .second] [(.long (1 : Int64)), (.long wt1)])) t
          refine XS.ladd X272.here hx rfl (hb hby at_384) rfl ?_
          show Steps p.tables e below (T272.setTop (mkF m 385 #[.val (.long q0), .second, .val (.long q1), .second, .val (.long q2), .second, .val (.int p3), .val (.long q4), .second, .val (.long q5), .second, .val (.long b), .second, .val (.int (Int32.ofNat kn)), .val (.long lim), .second, .val (.long bn), .second, .val (.int j1), .val (.int j2), .val (.int j3), .val (.int f1), .val (.int f2), .val (.int f3), .val (.long r1), .second, .val (.long r2), .second, .val (.long r3), .second, .val (.long rn), .second, .val (.ref b247), .val (.long (own_phi (own_fd ((bn * b) + rn) b - (Int32.ofNat kn).toInt64 + 1) bs3 cs3 0)), .second, .val (.long wt1), .second] [(.long (wt1 + (1 : Int64)))])) t
          refine XS.lstore X272.here hx rfl (hb hby at_385) rfl (l' := #[.val (.long q0), .second, .val (.long q1), .second, .val (.long q2), .second, .val (.int p3), .val (.long q4), .second, .val (.long q5), .second, .val (.long b), .second, .val (.int (Int32.ofNat kn)), .val (.long lim), .second, .val (.long bn), .second, .val (.int j1), .val (.int j2), .val (.int j3), .val (.int f1), .val (.int f2), .val (.int f3), .val (.long r1), .second, .val (.long r2), .second, .val (.long r3), .second, .val (.long rn), .second, .val (.ref b247), .val (.long (own_phi (own_fd ((bn * b) + rn) b - (Int32.ofNat kn).toInt64 + 1) bs3 cs3 0)), .second, .val (.long (wt1 + (1 : Int64))), .second]) rfl ?_
          exact kk
        exact ⟨(wt1 + (1 : Int64)), (by simp only [own_ind, hw2a, hw2b, if_true, if_false, Int64.add_zero]), c284⟩
      · have c285 : Goes p e below s₁ (entryFrame m #[(.long q0), (.long q1), (.long q2), (.int p3), (.long q4), (.long q5)] maxLocals) T272 (mkF m 387 #[.val (.long q0), .second, .val (.long q1), .second, .val (.long q2), .second, .val (.int p3), .val (.long q4), .second, .val (.long q5), .second, .val (.long b), .second, .val (.int (Int32.ofNat kn)), .val (.long lim), .second, .val (.long bn), .second, .val (.int j1), .val (.int j2), .val (.int j3), .val (.int f1), .val (.int f2), .val (.int f3), .val (.long r1), .second, .val (.long r2), .second, .val (.long r3), .second, .val (.long rn), .second, .val (.ref b247), .val (.long (own_phi (own_fd ((bn * b) + rn) b - (Int32.ofNat kn).toInt64 + 1) bs3 cs3 0)), .second, .val (.long wt1), .second] []) := by
          intro t kk
          refine c283 t ?_
          show Steps p.tables e below (T272.setTop (mkF m 378 #[.val (.long q0), .second, .val (.long q1), .second, .val (.long q2), .second, .val (.int p3), .val (.long q4), .second, .val (.long q5), .second, .val (.long b), .second, .val (.int (Int32.ofNat kn)), .val (.long lim), .second, .val (.long bn), .second, .val (.int j1), .val (.int j2), .val (.int j3), .val (.int f1), .val (.int f2), .val (.int f3), .val (.long r1), .second, .val (.long r2), .second, .val (.long r3), .second, .val (.long rn), .second, .val (.ref b247), .val (.long (own_phi (own_fd ((bn * b) + rn) b - (Int32.ofNat kn).toInt64 + 1) bs3 cs3 0)), .second, .val (.long wt1), .second] [(.int (Int32.ofNat kn)), (.int j2)])) t
          refine XS.icmpYes X272.here hx rfl (pc0 := 378) (pc' := 387) rfl (hb hby at_378) rfl (flt hw2b).2.1 (by decide) (by decide) ?_
          exact kk
        exact ⟨wt1, (by simp only [own_ind, hw2a, hw2b, if_true, if_false, Int64.add_zero]), c285⟩
  have hw2 := hm281
  have c286 : Goes p e below s₁ (entryFrame m #[(.long q0), (.long q1), (.long q2), (.int p3), (.long q4), (.long q5)] maxLocals) T272 (mkF m 389 #[.val (.long q0), .second, .val (.long q1), .second, .val (.long q2), .second, .val (.int p3), .val (.long q4), .second, .val (.long q5), .second, .val (.long b), .second, .val (.int (Int32.ofNat kn)), .val (.long lim), .second, .val (.long bn), .second, .val (.int j1), .val (.int j2), .val (.int j3), .val (.int f1), .val (.int f2), .val (.int f3), .val (.long r1), .second, .val (.long r2), .second, .val (.long r3), .second, .val (.long rn), .second, .val (.ref b247), .val (.long (own_phi (own_fd ((bn * b) + rn) b - (Int32.ofNat kn).toInt64 + 1) bs3 cs3 0)), .second, .val (.long wt2), .second] [(.int f3)]) := by
    intro t kk
    refine c281 t ?_
    show Steps p.tables e below (T272.setTop (mkF m 387 #[.val (.long q0), .second, .val (.long q1), .second, .val (.long q2), .second, .val (.int p3), .val (.long q4), .second, .val (.long q5), .second, .val (.long b), .second, .val (.int (Int32.ofNat kn)), .val (.long lim), .second, .val (.long bn), .second, .val (.int j1), .val (.int j2), .val (.int j3), .val (.int f1), .val (.int f2), .val (.int f3), .val (.long r1), .second, .val (.long r2), .second, .val (.long r3), .second, .val (.long rn), .second, .val (.ref b247), .val (.long (own_phi (own_fd ((bn * b) + rn) b - (Int32.ofNat kn).toInt64 + 1) bs3 cs3 0)), .second, .val (.long wt2), .second] [])) t
    refine XS.iload X272.here hx rfl (hb hby at_387) rfl ?_
    exact kk
  obtain ⟨wt3, hm287, c287⟩ : ∃ wt3 : Int64, (wt3 = wt2 + own_ind f3 j3 (Int32.ofNat kn)) ∧ Goes p e below s₁ (entryFrame m #[(.long q0), (.long q1), (.long q2), (.int p3), (.long q4), (.long q5)] maxLocals) T272 (mkF m 405 #[.val (.long q0), .second, .val (.long q1), .second, .val (.long q2), .second, .val (.int p3), .val (.long q4), .second, .val (.long q5), .second, .val (.long b), .second, .val (.int (Int32.ofNat kn)), .val (.long lim), .second, .val (.long bn), .second, .val (.int j1), .val (.int j2), .val (.int j3), .val (.int f1), .val (.int f2), .val (.int f3), .val (.long r1), .second, .val (.long r2), .second, .val (.long r3), .second, .val (.long rn), .second, .val (.ref b247), .val (.long (own_phi (own_fd ((bn * b) + rn) b - (Int32.ofNat kn).toInt64 + 1) bs3 cs3 0)), .second, .val (.long wt3), .second] []) := by
    by_cases hw3a : f3 = (0 : Int32)
    · have c288 : Goes p e below s₁ (entryFrame m #[(.long q0), (.long q1), (.long q2), (.int p3), (.long q4), (.long q5)] maxLocals) T272 (mkF m 405 #[.val (.long q0), .second, .val (.long q1), .second, .val (.long q2), .second, .val (.int p3), .val (.long q4), .second, .val (.long q5), .second, .val (.long b), .second, .val (.int (Int32.ofNat kn)), .val (.long lim), .second, .val (.long bn), .second, .val (.int j1), .val (.int j2), .val (.int j3), .val (.int f1), .val (.int f2), .val (.int f3), .val (.long r1), .second, .val (.long r2), .second, .val (.long r3), .second, .val (.long rn), .second, .val (.ref b247), .val (.long (own_phi (own_fd ((bn * b) + rn) b - (Int32.ofNat kn).toInt64 + 1) bs3 cs3 0)), .second, .val (.long wt2), .second] []) := by
        intro t kk
        refine c286 t ?_
        show Steps p.tables e below (T272.setTop (mkF m 389 #[.val (.long q0), .second, .val (.long q1), .second, .val (.long q2), .second, .val (.int p3), .val (.long q4), .second, .val (.long q5), .second, .val (.long b), .second, .val (.int (Int32.ofNat kn)), .val (.long lim), .second, .val (.long bn), .second, .val (.int j1), .val (.int j2), .val (.int j3), .val (.int f1), .val (.int f2), .val (.int f3), .val (.long r1), .second, .val (.long r2), .second, .val (.long r3), .second, .val (.long rn), .second, .val (.ref b247), .val (.long (own_phi (own_fd ((bn * b) + rn) b - (Int32.ofNat kn).toInt64 + 1) bs3 cs3 0)), .second, .val (.long wt2), .second] [(.int f3)])) t
        refine XS.ifYes X272.here hx rfl (pc0 := 389) (pc' := 405) rfl (hb hby at_389) rfl ((if0 _ _).trans (teq hw3a).1) (by decide) (by decide) ?_
        exact kk
      exact ⟨wt2, (by simp only [own_ind, hw3a, if_true, if_false, Int64.add_zero]), c288⟩
    · have c289 : Goes p e below s₁ (entryFrame m #[(.long q0), (.long q1), (.long q2), (.int p3), (.long q4), (.long q5)] maxLocals) T272 (mkF m 396 #[.val (.long q0), .second, .val (.long q1), .second, .val (.long q2), .second, .val (.int p3), .val (.long q4), .second, .val (.long q5), .second, .val (.long b), .second, .val (.int (Int32.ofNat kn)), .val (.long lim), .second, .val (.long bn), .second, .val (.int j1), .val (.int j2), .val (.int j3), .val (.int f1), .val (.int f2), .val (.int f3), .val (.long r1), .second, .val (.long r2), .second, .val (.long r3), .second, .val (.long rn), .second, .val (.ref b247), .val (.long (own_phi (own_fd ((bn * b) + rn) b - (Int32.ofNat kn).toInt64 + 1) bs3 cs3 0)), .second, .val (.long wt2), .second] [(.int (Int32.ofNat kn)), (.int j3)]) := by
        intro t kk
        refine c286 t ?_
        show Steps p.tables e below (T272.setTop (mkF m 389 #[.val (.long q0), .second, .val (.long q1), .second, .val (.long q2), .second, .val (.int p3), .val (.long q4), .second, .val (.long q5), .second, .val (.long b), .second, .val (.int (Int32.ofNat kn)), .val (.long lim), .second, .val (.long bn), .second, .val (.int j1), .val (.int j2), .val (.int j3), .val (.int f1), .val (.int f2), .val (.int f3), .val (.long r1), .second, .val (.long r2), .second, .val (.long r3), .second, .val (.long rn), .second, .val (.ref b247), .val (.long (own_phi (own_fd ((bn * b) + rn) b - (Int32.ofNat kn).toInt64 + 1) bs3 cs3 0)), .second, .val (.long wt2), .second] [(.int f3)])) t
        refine XS.ifNo X272.here hx rfl (hb hby at_389) rfl ((if0 _ _).trans (feq hw3a).1) ?_
        show Steps p.tables e below (T272.setTop (mkF m 392 #[.val (.long q0), .second, .val (.long q1), .second, .val (.long q2), .second, .val (.int p3), .val (.long q4), .second, .val (.long q5), .second, .val (.long b), .second, .val (.int (Int32.ofNat kn)), .val (.long lim), .second, .val (.long bn), .second, .val (.int j1), .val (.int j2), .val (.int j3), .val (.int f1), .val (.int f2), .val (.int f3), .val (.long r1), .second, .val (.long r2), .second, .val (.long r3), .second, .val (.long rn), .second, .val (.ref b247), .val (.long (own_phi (own_fd ((bn * b) + rn) b - (Int32.ofNat kn).toInt64 + 1) bs3 cs3 0)), .second, .val (.long wt2), .second] [])) t
        refine XS.iload X272.here hx rfl (hb hby at_392) rfl ?_
        show Steps p.tables e below (T272.setTop (mkF m 394 #[.val (.long q0), .second, .val (.long q1), .second, .val (.long q2), .second, .val (.int p3), .val (.long q4), .second, .val (.long q5), .second, .val (.long b), .second, .val (.int (Int32.ofNat kn)), .val (.long lim), .second, .val (.long bn), .second, .val (.int j1), .val (.int j2), .val (.int j3), .val (.int f1), .val (.int f2), .val (.int f3), .val (.long r1), .second, .val (.long r2), .second, .val (.long r3), .second, .val (.long rn), .second, .val (.ref b247), .val (.long (own_phi (own_fd ((bn * b) + rn) b - (Int32.ofNat kn).toInt64 + 1) bs3 cs3 0)), .second, .val (.long wt2), .second] [(.int j3)])) t
        refine XS.iload X272.here hx rfl (hb hby at_394) rfl ?_
        exact kk
      by_cases hw3b : j3 < (Int32.ofNat kn)
      · have c290 : Goes p e below s₁ (entryFrame m #[(.long q0), (.long q1), (.long q2), (.int p3), (.long q4), (.long q5)] maxLocals) T272 (mkF m 405 #[.val (.long q0), .second, .val (.long q1), .second, .val (.long q2), .second, .val (.int p3), .val (.long q4), .second, .val (.long q5), .second, .val (.long b), .second, .val (.int (Int32.ofNat kn)), .val (.long lim), .second, .val (.long bn), .second, .val (.int j1), .val (.int j2), .val (.int j3), .val (.int f1), .val (.int f2), .val (.int f3), .val (.long r1), .second, .val (.long r2), .second, .val (.long r3), .second, .val (.long rn), .second, .val (.ref b247), .val (.long (own_phi (own_fd ((bn * b) + rn) b - (Int32.ofNat kn).toInt64 + 1) bs3 cs3 0)), .second, .val (.long (wt2 + (1 : Int64))), .second] []) := by
          intro t kk
          refine c289 t ?_
          show Steps p.tables e below (T272.setTop (mkF m 396 #[.val (.long q0), .second, .val (.long q1), .second, .val (.long q2), .second, .val (.int p3), .val (.long q4), .second, .val (.long q5), .second, .val (.long b), .second, .val (.int (Int32.ofNat kn)), .val (.long lim), .second, .val (.long bn), .second, .val (.int j1), .val (.int j2), .val (.int j3), .val (.int f1), .val (.int f2), .val (.int f3), .val (.long r1), .second, .val (.long r2), .second, .val (.long r3), .second, .val (.long rn), .second, .val (.ref b247), .val (.long (own_phi (own_fd ((bn * b) + rn) b - (Int32.ofNat kn).toInt64 + 1) bs3 cs3 0)), .second, .val (.long wt2), .second] [(.int (Int32.ofNat kn)), (.int j3)])) t
          refine XS.icmpNo X272.here hx rfl (hb hby at_396) rfl (tlt hw3b).2.1 ?_
          show Steps p.tables e below (T272.setTop (mkF m 399 #[.val (.long q0), .second, .val (.long q1), .second, .val (.long q2), .second, .val (.int p3), .val (.long q4), .second, .val (.long q5), .second, .val (.long b), .second, .val (.int (Int32.ofNat kn)), .val (.long lim), .second, .val (.long bn), .second, .val (.int j1), .val (.int j2), .val (.int j3), .val (.int f1), .val (.int f2), .val (.int f3), .val (.long r1), .second, .val (.long r2), .second, .val (.long r3), .second, .val (.long rn), .second, .val (.ref b247), .val (.long (own_phi (own_fd ((bn * b) + rn) b - (Int32.ofNat kn).toInt64 + 1) bs3 cs3 0)), .second, .val (.long wt2), .second] [])) t
          refine XS.lload X272.here hx rfl (hb hby at_399) rfl ?_
          show Steps p.tables e below (T272.setTop (mkF m 401 #[.val (.long q0), .second, .val (.long q1), .second, .val (.long q2), .second, .val (.int p3), .val (.long q4), .second, .val (.long q5), .second, .val (.long b), .second, .val (.int (Int32.ofNat kn)), .val (.long lim), .second, .val (.long bn), .second, .val (.int j1), .val (.int j2), .val (.int j3), .val (.int f1), .val (.int f2), .val (.int f3), .val (.long r1), .second, .val (.long r2), .second, .val (.long r3), .second, .val (.long rn), .second, .val (.ref b247), .val (.long (own_phi (own_fd ((bn * b) + rn) b - (Int32.ofNat kn).toInt64 + 1) bs3 cs3 0)), .second, .val (.long wt2), .second] [(.long wt2)])) t
          refine XS.lconst X272.here hx rfl (hb hby at_401) ?_
          show Steps p.tables e below (T272.setTop (mkF m 402 #[.val (.long q0), .second, .val (.long q1), .second, .val (.long q2), .second, .val (.int p3), .val (.long q4), .second, .val (.long q5), .second, .val (.long b), .second, .val (.int (Int32.ofNat kn)), .val (.long lim), .second, .val (.long bn), .second, .val (.int j1), .val (.int j2), .val (.int j3), .val (.int f1), .val (.int f2), .val (.int f3), .val (.long r1), .second, .val (.long r2), .second, .val (.long r3), .second, .val (.long rn), .second, .val (.ref b247), .val (.long (own_phi (own_fd ((bn * b) + rn) b - (Int32.ofNat kn).toInt64 + 1) bs3 cs3 0)), .second, .val (.long wt2), .second] [(.long (1 : Int64)), (.long wt2)])) t
          refine XS.ladd X272.here hx rfl (hb hby at_402) rfl ?_
          show Steps p.tables e below (T272.setTop (mkF m 403 #[.val (.long q0), .second, .val (.long q1), .second, .val (.long q2), .second, .val (.int p3), .val (.long q4), .second, .val (.long q5), .second, .val (.long b), .second, .val (.int (Int32.ofNat kn)), .val (.long lim), .second, .val (.long bn), .second, .val (.int j1), .val (.int j2), .val (.int j3), .val (.int f1), .val (.int f2), .val (.int f3), .val (.long r1), .second, .val (.long r2), .second, .val (.long r3), .second, .val (.long rn), .second, .val (.ref b247), .val (.long (own_phi (own_fd ((bn * b) + rn) b - (Int32.ofNat kn).toInt64 + 1) bs3 cs3 0)), .second, .val (.long wt2), .second] [(.long (wt2 + (1 : Int64)))])) t
          refine XS.lstore X272.here hx rfl (hb hby at_403) rfl (l' := #[.val (.long q0), .second, .val (.long q1), .second, .val (.long q2), .second, .val (.int p3), .val (.long q4), .second, .val (.long q5), .second, .val (.long b), .second, .val (.int (Int32.ofNat kn)), .val (.long lim), .second, .val (.long bn), .second, .val (.int j1), .val (.int j2), .val (.int j3), .val (.int f1), .val (.int f2), .val (.int f3), .val (.long r1), .second, .val (.long r2), .second, .val (.long r3), .second, .val (.long rn), .second, .val (.ref b247), .val (.long (own_phi (own_fd ((bn * b) + rn) b - (Int32.ofNat kn).toInt64 + 1) bs3 cs3 0)), .second, .val (.long (wt2 + (1 : Int64))), .second]) rfl ?_
          exact kk
        exact ⟨(wt2 + (1 : Int64)), (by simp only [own_ind, hw3a, hw3b, if_true, if_false, Int64.add_zero]), c290⟩
      · have c291 : Goes p e below s₁ (entryFrame m #[(.long q0), (.long q1), (.long q2), (.int p3), (.long q4), (.long q5)] maxLocals) T272 (mkF m 405 #[.val (.long q0), .second, .val (.long q1), .second, .val (.long q2), .second, .val (.int p3), .val (.long q4), .second, .val (.long q5), .second, .val (.long b), .second, .val (.int (Int32.ofNat kn)), .val (.long lim), .second, .val (.long bn), .second, .val (.int j1), .val (.int j2), .val (.int j3), .val (.int f1), .val (.int f2), .val (.int f3), .val (.long r1), .second, .val (.long r2), .second, .val (.long r3), .second, .val (.long rn), .second, .val (.ref b247), .val (.long (own_phi (own_fd ((bn * b) + rn) b - (Int32.ofNat kn).toInt64 + 1) bs3 cs3 0)), .second, .val (.long wt2), .second] []) := by
          intro t kk
          refine c289 t ?_
          show Steps p.tables e below (T272.setTop (mkF m 396 #[.val (.long q0), .second, .val (.long q1), .second, .val (.long q2), .second, .val (.int p3), .val (.long q4), .second, .val (.long q5), .second, .val (.long b), .second, .val (.int (Int32.ofNat kn)), .val (.long lim), .second, .val (.long bn), .second, .val (.int j1), .val (.int j2), .val (.int j3), .val (.int f1), .val (.int f2), .val (.int f3), .val (.long r1), .second, .val (.long r2), .second, .val (.long r3), .second, .val (.long rn), .second, .val (.ref b247), .val (.long (own_phi (own_fd ((bn * b) + rn) b - (Int32.ofNat kn).toInt64 + 1) bs3 cs3 0)), .second, .val (.long wt2), .second] [(.int (Int32.ofNat kn)), (.int j3)])) t
          refine XS.icmpYes X272.here hx rfl (pc0 := 396) (pc' := 405) rfl (hb hby at_396) rfl (flt hw3b).2.1 (by decide) (by decide) ?_
          exact kk
        exact ⟨wt2, (by simp only [own_ind, hw3a, hw3b, if_true, if_false, Int64.add_zero]), c291⟩
  have hw3 := hm287
  have c292 : Goes p e below s₁ (entryFrame m #[(.long q0), (.long q1), (.long q2), (.int p3), (.long q4), (.long q5)] maxLocals) T272 (mkF m 418 #[.val (.long q0), .second, .val (.long q1), .second, .val (.long q2), .second, .val (.int p3), .val (.long q4), .second, .val (.long q5), .second, .val (.long b), .second, .val (.int (Int32.ofNat kn)), .val (.long lim), .second, .val (.long bn), .second, .val (.int j1), .val (.int j2), .val (.int j3), .val (.int f1), .val (.int f2), .val (.int f3), .val (.long r1), .second, .val (.long r2), .second, .val (.long r3), .second, .val (.long rn), .second, .val (.ref b247), .val (.long (own_phi (own_fd ((bn * b) + rn) b - (Int32.ofNat kn).toInt64 + 1) bs3 cs3 0)), .second, .val (.long wt3), .second] [(.int (1 : Int32))]) := by
    intro t kk
    refine c287 t ?_
    show Steps p.tables e below (T272.setTop (mkF m 405 #[.val (.long q0), .second, .val (.long q1), .second, .val (.long q2), .second, .val (.int p3), .val (.long q4), .second, .val (.long q5), .second, .val (.long b), .second, .val (.int (Int32.ofNat kn)), .val (.long lim), .second, .val (.long bn), .second, .val (.int j1), .val (.int j2), .val (.int j3), .val (.int f1), .val (.int f2), .val (.int f3), .val (.long r1), .second, .val (.long r2), .second, .val (.long r3), .second, .val (.long rn), .second, .val (.ref b247), .val (.long (own_phi (own_fd ((bn * b) + rn) b - (Int32.ofNat kn).toInt64 + 1) bs3 cs3 0)), .second, .val (.long wt3), .second] [])) t
    refine XS.lload X272.here hx rfl (hb hby at_405) rfl ?_
    show Steps p.tables e below (T272.setTop (mkF m 407 #[.val (.long q0), .second, .val (.long q1), .second, .val (.long q2), .second, .val (.int p3), .val (.long q4), .second, .val (.long q5), .second, .val (.long b), .second, .val (.int (Int32.ofNat kn)), .val (.long lim), .second, .val (.long bn), .second, .val (.int j1), .val (.int j2), .val (.int j3), .val (.int f1), .val (.int f2), .val (.int f3), .val (.long r1), .second, .val (.long r2), .second, .val (.long r3), .second, .val (.long rn), .second, .val (.ref b247), .val (.long (own_phi (own_fd ((bn * b) + rn) b - (Int32.ofNat kn).toInt64 + 1) bs3 cs3 0)), .second, .val (.long wt3), .second] [(.long (own_phi (own_fd ((bn * b) + rn) b - (Int32.ofNat kn).toInt64 + 1) bs3 cs3 0))])) t
    refine XS.lload X272.here hx rfl (hb hby at_407) rfl ?_
    show Steps p.tables e below (T272.setTop (mkF m 409 #[.val (.long q0), .second, .val (.long q1), .second, .val (.long q2), .second, .val (.int p3), .val (.long q4), .second, .val (.long q5), .second, .val (.long b), .second, .val (.int (Int32.ofNat kn)), .val (.long lim), .second, .val (.long bn), .second, .val (.int j1), .val (.int j2), .val (.int j3), .val (.int f1), .val (.int f2), .val (.int f3), .val (.long r1), .second, .val (.long r2), .second, .val (.long r3), .second, .val (.long rn), .second, .val (.ref b247), .val (.long (own_phi (own_fd ((bn * b) + rn) b - (Int32.ofNat kn).toInt64 + 1) bs3 cs3 0)), .second, .val (.long wt3), .second] [(.long wt3), (.long (own_phi (own_fd ((bn * b) + rn) b - (Int32.ofNat kn).toInt64 + 1) bs3 cs3 0))])) t
    refine XS.lcmp X272.here hx rfl (hb hby at_409) rfl ?_
    show Steps p.tables e below (T272.setTop (mkF m 410 #[.val (.long q0), .second, .val (.long q1), .second, .val (.long q2), .second, .val (.int p3), .val (.long q4), .second, .val (.long q5), .second, .val (.long b), .second, .val (.int (Int32.ofNat kn)), .val (.long lim), .second, .val (.long bn), .second, .val (.int j1), .val (.int j2), .val (.int j3), .val (.int f1), .val (.int f2), .val (.int f3), .val (.long r1), .second, .val (.long r2), .second, .val (.long r3), .second, .val (.long rn), .second, .val (.ref b247), .val (.long (own_phi (own_fd ((bn * b) + rn) b - (Int32.ofNat kn).toInt64 + 1) bs3 cs3 0)), .second, .val (.long wt3), .second] [(.int (lcmpW (own_phi (own_fd ((bn * b) + rn) b - (Int32.ofNat kn).toInt64 + 1) bs3 cs3 0) wt3))])) t
    refine XS.ifNo X272.here hx rfl (hb hby at_410) rfl ((if0 _ _).trans (teq ((lw_eq _ _).mpr (by rw [htn, ← h_Ox, hI3.2, hw3, hw2, hw1]))).2) ?_
    show Steps p.tables e below (T272.setTop (mkF m 413 #[.val (.long q0), .second, .val (.long q1), .second, .val (.long q2), .second, .val (.int p3), .val (.long q4), .second, .val (.long q5), .second, .val (.long b), .second, .val (.int (Int32.ofNat kn)), .val (.long lim), .second, .val (.long bn), .second, .val (.int j1), .val (.int j2), .val (.int j3), .val (.int f1), .val (.int f2), .val (.int f3), .val (.long r1), .second, .val (.long r2), .second, .val (.long r3), .second, .val (.long rn), .second, .val (.ref b247), .val (.long (own_phi (own_fd ((bn * b) + rn) b - (Int32.ofNat kn).toInt64 + 1) bs3 cs3 0)), .second, .val (.long wt3), .second] [])) t
    refine XS.iconst X272.here hx rfl (hb hby at_413) ?_
    show Steps p.tables e below (T272.setTop (mkF m 414 #[.val (.long q0), .second, .val (.long q1), .second, .val (.long q2), .second, .val (.int p3), .val (.long q4), .second, .val (.long q5), .second, .val (.long b), .second, .val (.int (Int32.ofNat kn)), .val (.long lim), .second, .val (.long bn), .second, .val (.int j1), .val (.int j2), .val (.int j3), .val (.int f1), .val (.int f2), .val (.int f3), .val (.long r1), .second, .val (.long r2), .second, .val (.long r3), .second, .val (.long rn), .second, .val (.ref b247), .val (.long (own_phi (own_fd ((bn * b) + rn) b - (Int32.ofNat kn).toInt64 + 1) bs3 cs3 0)), .second, .val (.long wt3), .second] [(.int (1 : Int32))])) t
    refine XS.goto X272.here hx rfl (pc0 := 414) (pc' := 418) rfl (hb hby at_414) (by decide) (by decide) ?_
    exact kk
  obtain ⟨fs, hr, hrun, hended, hW, hsame⟩ := X272.leave (v := some (.int (1 : Int32))) (fun h => by rw [Bd.returns] at h; cases h)
  refine ⟨_, _, c292 _ ?_, hrun, hended, _, _, rfl, ?_, ⟨_, rfl⟩, hW, hsame.mono (by decide) (by decide)⟩
  · exact retN X272 hx (t := .boolean) Bd.returns (by simp) (hb hby at_418) hr
  · show Q_law Z q0 q1 q2 p3 q4 q5 h0 n0 _ T272.heap _
    rw [eq272]
    exact ⟨rfl, N272⟩
set_option maxRecDepth 65536 in
set_option maxHeartbeats 40000000 in
theorem comes_1 {Post : Tables → Env → Array Value → State → Outcome → State → Prop} (hpost : ∀ tb e args s v u, (limb_1_1.after args s (.returned v) u = true ∧ limb_1_2.after args s (.returned v) u = true ∧ True) → FrameEnd s (.returned v) u (Jvm.fieldLocs frame_1_writes args s ++ Jvm.arrayLocs frame_1_arrays args s ++ Jvm.staticLocs frame_1_statics s) 16 128 → Post tb e args s (.returned v) u) :
    ArmFor flags0 classFile x code maxLocals ret World_1 tables_1 room_1 Calls_1 rest_1 Pre_1 Post := by
  intro l hfl _ _ p e ha hc hk s m args below hf hA hF happ hP
  obtain ⟨hcalls, hrest, hpre⟩ := hP
  obtain ⟨-, -, -, hnamed, -, -, -, hat⟩ := (Spec.applies_iff hf).mp happ
  obtain ⟨hg, hn⟩ := and_e (Cond.before_iff.mp (show (Jvm.Cond.and given_1 narrow_1).before args s = true from hpre))
  obtain ⟨gg1, gg2⟩ := and_e hg
  obtain ⟨gg3, gg4⟩ := and_e gg2
  obtain ⟨gg5, gg6⟩ := and_e gg4
  obtain ⟨gg7, gg8⟩ := and_e gg6
  obtain ⟨gg9, gg10⟩ := and_e gg8
  obtain ⟨gg11, gg12⟩ := and_e gg10
  obtain ⟨w0, w1, w2, w3, w4, w5, rfl⟩ : ∃ w0 w1 w2 w3 w4 w5 : Value, args = #[w0, w1, w2, w3, w4, w5] := by
    have hs : args.size = 6 := by simpa [Cond.value, given_1] using gg1
    obtain ⟨L⟩ := args
    match L, hs with
    | [w0, w1, w2, w3, w4, w5], _ => exact ⟨w0, w1, w2, w3, w4, w5, rfl⟩
  have hw := fun d (hd : d ∈ tables_1) => atoms_spec (ws := Jvm.Cond.code x code maxLocals ret :: tables_1) hat d (List.mem_cons_of_mem _ hd)
  have hfit : Fit s := fun {y c} hc i hi => by
    obtain ⟨ha, rfl⟩ := Array.getElem?_eq_some_iff.mp hc
    have q := List.all_eq_true.mp ((Array.all_eq_true_iff_forall_mem.mp hF) _ (Array.getElem_mem ha)) i (List.mem_range.mpr hi)
    simpa [Array.getElem?_eq_getElem hi] using q
  obtain ⟨i0, ei0⟩ := isL_v gg3
  obtain rfl : w0 = (.long i0) := Option.some.inj ei0
  obtain ⟨i1, ei1⟩ := isL_v gg5
  obtain rfl : w1 = (.long i1) := Option.some.inj ei1
  obtain ⟨i2, ei2⟩ := isL_v gg7
  obtain rfl : w2 = (.long i2) := Option.some.inj ei2
  obtain ⟨i3, ei3⟩ := is_v gg9
  obtain rfl : w3 = (.int i3) := Option.some.inj ei3
  obtain ⟨i4, ei4⟩ := isL_v gg11
  obtain rfl : w4 = (.long i4) := Option.some.inj ei4
  obtain ⟨i5, ei5⟩ := isL_v gg12
  obtain rfl : w5 = (.long i5) := Option.some.inj ei5
  obtain ⟨n, o, h1, h2, h3, _, L, rfl, ⟨rfl, N⟩, hq⟩ := rm_law l s _ hw tables_1 i0 i1 i2 i3 i4 i5 s.heap s.heap.size (Nat.le_refl _)  p e ha hc hk s m _ below hf ((Spec.applies_iff_loose hf).mp happ).1 ⟨rfl, State.Warmed39.refl s, rfl⟩ trivial
  refine ⟨n, _, h1, h2, h3, hpost _ _ _ _ _ _ ⟨Cond.after_iff.mpr rfl, Cond.after_iff.mpr (eq_i res_at (Term.int_eval (1)) rfl), trivial⟩ ⟨hq.1, hq.2.1, (hq.2.2.sift fun y hy => Or.inr (N y hy)).mono (by decide) (by decide)⟩⟩
theorem main_1_1 : Claimed_1_1 := comes_1 fun _ _ _ _ _ _ h hF => ⟨h.1, hF⟩
theorem main_1_2 : Claimed_1_2 := comes_1 fun _ _ _ _ _ _ h hF => ⟨h.2.1, hF⟩
end Jvm.Pilot.@@N@@
namespace Jvm.Pilot.@@N@@
open Jvm Jvm.ClassFile Sem Op Lib Jvm.Free Jvm.Stand Jvm.Pilot.@@N@@.Jvm.D
/-! MADE BY PROGRAM (witnessworld.py) out of the Statement's table words and the real class files: 13 classes; the members and pool entries that the words name. The judged class is class 1, her method 1. -/
namespace start1
open Jvm.ClassFile
def u (s : String) : CpInfo := .utf8 (stringToUtf16 s)
/-- a pool by its gaps: so many unusable entries, then the entry; so many at the end -/
def gap : Nat → List CpInfo → List CpInfo
  | 0, r => r
  | n + 1, r => .unusable :: gap n r
def poolList (es : List (Nat × CpInfo)) (last : Nat) : List CpInfo := es.foldr (fun e r => gap e.1 (e.2 :: r)) (gap last [])
def pool (es : List (Nat × CpInfo)) (last : Nat) : Array CpInfo := ⟨poolList es last⟩
def fileOf (pool : Array CpInfo) (this : Nat) (attrs : Array Attribute := #[]) (ms : Array MethodInfo := #[]) (fl : Nat := 33) (sup : Nat := 0) (ifs : Array Nat := #[]) (fds : Array FieldInfo := #[]) : ClassFile where
  minorVersion := 0
  majorVersion := 65
  constantPool := pool
  accessFlags := fl
  thisClass := this
  superClass := sup
  interfaces := ifs
  fields := fds
  methods := ms
  attributes := attrs
def plain (name : String) (sup : Option ClassId) : Class where
  name := name
  kind := .ordinary
  loader := none
  accessFlags := 33
  super := sup
  interfaces := #[]
  cf := none
  fields := #[]
  methods := #[]
  instanceTypes := #[]
  staticTypes := #[]
  resolved := #[]
  callSites := []
  init := .initialized
  statics := none
  mirror := none

def pool0 : Array CpInfo := pool [(5, u "<init>"), (0, u "()V"), (1, .class_ 10), (1, u "java/lang/Object")] 113

def k0c0 : Code := { maxStack := 0, maxLocals := 1, code := object_method_1_code, exceptionTable := #[], attributes := #[] }
def k0m0 : Method := { name := "<init>", desc := "()V", sig := { parameters := [], returnType := none }, accessFlags := 1, code := some k0c0 }
/-- java/lang/Object -/
def k0 : Class := { plain "java/lang/Object" none with
  accessFlags := 33
  interfaces := #[]
  cf := some (fileOf pool0 8 #[] #[{ accessFlags := 1, nameIndex := 5, descriptorIndex := 6, attributes := #[] }] 33 0 #[] #[])
  fields := #[]
  methods := #[k0m0]
  instanceTypes := #[]
  staticTypes := #[]
  resolved := Array.replicate 124 none
  statics := none }

def pool1 : Array CpInfo := pool [(2, .class_ 4), (1, u "java/lang/Object"), (0, u "<init>"), (0, u "()V"), (0, .long 2), (1, .long 72057594037927935), (1, .long 3), (3, .long 9223372036854775807), (1, .long 9), (1, .methodref 20 21), (0, .class_ 22), (0, .nameAndType 23 24), (0, u "java/lang/Math"), (0, u "min"), (0, u "(II)I"), (0, .methodref 26 27), (0, .class_ 28), (0, .nameAndType 29 30), (0, u "com/example/ventil/ventil/RollingCountSumPinLaw"), (0, u "off"), (0, u "(IJJ)J"), (0, .methodref 20 32), (0, .nameAndType 33 34), (0, u "max"), (0, u "(JJ)J"), (0, .class_ 36), (0, u "com/example/ventil/ventil/RollingCount"), (0, .methodref 35 38), (0, .nameAndType 5 39), (0, u "(JI)V"), (0, .methodref 35 41), (0, .nameAndType 42 43), (0, u "add"), (0, u "(J)V"), (0, .methodref 35 45), (0, .nameAndType 46 47), (0, u "sum"), (0, u "(J)J"), (2, u "law"), (0, u "(JJJIJJ)Z")] 3

def k1m0 : Method := { name := "<init>", desc := "()V", sig := { parameters := [], returnType := none }, accessFlags := 1, code := none }
def k1c1 : Code := { maxStack := 6, maxLocals := 37, code := code, exceptionTable := #[], attributes := #[] }
def k1m1 : Method := { name := "law", desc := "(JJJIJJ)Z", sig := { parameters := [.long, .long, .long, .int, .long, .long], returnType := some .boolean }, accessFlags := 9, code := some k1c1 }
def k1c2 : Code := { maxStack := 4, maxLocals := 5, code := method_3_code, exceptionTable := #[], attributes := #[] }
def k1m2 : Method := { name := "off", desc := "(IJJ)J", sig := { parameters := [.int, .long, .long], returnType := some .long }, accessFlags := 10, code := some k1c2 }
/-- com/example/ventil/ventil/RollingCountSumPinLaw -/
def k1 : Class := { plain "com/example/ventil/ventil/RollingCountSumPinLaw" (some 0) with
  accessFlags := 49
  interfaces := #[]
  cf := some (fileOf pool1 26 #[] #[{ accessFlags := 1, nameIndex := 5, descriptorIndex := 6, attributes := #[] }, { accessFlags := 9, nameIndex := 50, descriptorIndex := 51, attributes := #[] }, { accessFlags := 10, nameIndex := 29, descriptorIndex := 30, attributes := #[] }] 49 2 #[] #[])
  fields := #[]
  methods := #[k1m0, k1m1, k1m2]
  instanceTypes := #[]
  staticTypes := #[]
  resolved := Array.replicate 55 none
  statics := none }

def pool2 : Array CpInfo := pool [(1, .class_ 2), (0, u "java/lang/Math"), (1, .class_ 6), (1, u "java/lang/Object"), (0, u "<init>"), (0, u "()V"), (89, .class_ 100), (1, u "java/lang/Math$RandomNumberGeneratorHolder"), (20, u "(JJ)J"), (23, u "floorDiv"), (2, u "floorMod"), (23, u "negativeZeroFloatBits"), (0, u "J"), (2, u "negativeZeroDoubleBits"), (21, u "max"), (2, u "min"), (43, u "$assertionsDisabled"), (0, u "Z"), (88, u "(II)I"), (2, u "twoToTheDoubleScaleDown"), (0, u "D"), (4, u "twoToTheDoubleScaleUp"), (9, u "E"), (3, u "PI"), (2, u "TAU"), (2, u "DEGREES_TO_RADIANS"), (0, u "RADIANS_TO_DEGREES")] 94

def k2m0 : Method := { name := "<init>", desc := "()V", sig := { parameters := [], returnType := none }, accessFlags := 2, code := none }
def k2c1 : Code := { maxStack := 4, maxLocals := 6, code := jdk_29_method_49_code, exceptionTable := #[], attributes := #[] }
def k2m1 : Method := { name := "floorDiv", desc := "(JJ)J", sig := { parameters := [.long, .long], returnType := some .long }, accessFlags := 9, code := some k2c1 }
def k2c2 : Code := { maxStack := 4, maxLocals := 6, code := jdk_29_method_52_code, exceptionTable := #[], attributes := #[] }
def k2m2 : Method := { name := "floorMod", desc := "(JJ)J", sig := { parameters := [.long, .long], returnType := some .long }, accessFlags := 9, code := some k2c2 }
def k2c3 : Code := { maxStack := 4, maxLocals := 4, code := jdk_29_method_66_code, exceptionTable := #[], attributes := #[] }
def k2m3 : Method := { name := "max", desc := "(JJ)J", sig := { parameters := [.long, .long], returnType := some .long }, accessFlags := 9, code := some k2c3 }
def k2c4 : Code := { maxStack := 2, maxLocals := 2, code := jdk_29_method_69_code, exceptionTable := #[], attributes := #[] }
def k2m4 : Method := { name := "min", desc := "(II)I", sig := { parameters := [.int, .int], returnType := some .int }, accessFlags := 9, code := some k2c4 }
/-- java/lang/Math -/
def k2 : Class := { plain "java/lang/Math" (some 0) with
  accessFlags := 49
  interfaces := #[]
  cf := some (fileOf pool2 1 #[.nestMembers #[98]] #[{ accessFlags := 2, nameIndex := 7, descriptorIndex := 8, attributes := #[] }, { accessFlags := 9, nameIndex := 145, descriptorIndex := 121, attributes := #[] }, { accessFlags := 9, nameIndex := 148, descriptorIndex := 121, attributes := #[] }, { accessFlags := 9, nameIndex := 198, descriptorIndex := 121, attributes := #[] }, { accessFlags := 9, nameIndex := 201, descriptorIndex := 335, attributes := #[] }] 49 4 #[] #[{ accessFlags := 25, nameIndex := 354, descriptorIndex := 339, attributes := #[] }, { accessFlags := 25, nameIndex := 358, descriptorIndex := 339, attributes := #[] }, { accessFlags := 25, nameIndex := 361, descriptorIndex := 339, attributes := #[] }, { accessFlags := 26, nameIndex := 364, descriptorIndex := 339, attributes := #[] }, { accessFlags := 26, nameIndex := 365, descriptorIndex := 339, attributes := #[] }, { accessFlags := 26, nameIndex := 172, descriptorIndex := 173, attributes := #[] }, { accessFlags := 26, nameIndex := 176, descriptorIndex := 173, attributes := #[] }, { accessFlags := 8, nameIndex := 344, descriptorIndex := 339, attributes := #[] }, { accessFlags := 8, nameIndex := 338, descriptorIndex := 339, attributes := #[] }, { accessFlags := 4120, nameIndex := 245, descriptorIndex := 246, attributes := #[] }])
  fields := #[{ name := "E", type := .double, accessFlags := 25, slot := 0, constantValue := 0 }, { name := "PI", type := .double, accessFlags := 25, slot := 1, constantValue := 0 }, { name := "TAU", type := .double, accessFlags := 25, slot := 2, constantValue := 0 }, { name := "DEGREES_TO_RADIANS", type := .double, accessFlags := 26, slot := 3, constantValue := 0 }, { name := "RADIANS_TO_DEGREES", type := .double, accessFlags := 26, slot := 4, constantValue := 0 }, { name := "negativeZeroFloatBits", type := .long, accessFlags := 26, slot := 5, constantValue := 0 }, { name := "negativeZeroDoubleBits", type := .long, accessFlags := 26, slot := 6, constantValue := 0 }, { name := "twoToTheDoubleScaleUp", type := .double, accessFlags := 8, slot := 7, constantValue := 0 }, { name := "twoToTheDoubleScaleDown", type := .double, accessFlags := 8, slot := 8, constantValue := 0 }, { name := "$assertionsDisabled", type := .boolean, accessFlags := 4120, slot := 9, constantValue := 0 }]
  methods := #[k2m0, k2m1, k2m2, k2m3, k2m4]
  instanceTypes := #[]
  staticTypes := #[.double, .double, .double, .double, .double, .long, .long, .double, .double, .boolean]
  resolved := Array.replicate 460 none
  statics := none }

def pool3 : Array CpInfo := pool [(3, .methodref 4 5), (0, .class_ 6), (0, .nameAndType 7 8), (0, u "java/lang/Object"), (0, u "<init>"), (0, u "()V"), (9, .fieldref 19 20), (0, .class_ 21), (0, .nameAndType 22 23), (0, u "com/example/ventil/ventil/RollingCount"), (0, u "bucketNanos"), (0, u "J"), (0, .fieldref 19 25), (0, .nameAndType 26 27), (0, u "counts"), (0, u "[J"), (0, .fieldref 19 29), (0, .nameAndType 30 27), (0, u "bucketInSlot"), (0, .long 9223372036854775808), (1, .methodref 34 35), (0, .class_ 36), (0, .nameAndType 37 38), (0, u "java/util/Arrays"), (0, u "fill"), (0, u "([JJ)V"), (0, .methodref 19 40), (0, .nameAndType 41 42), (0, u "bucketOf"), (0, u "(J)J"), (0, .methodref 19 44), (0, .nameAndType 45 46), (0, u "slotOf"), (0, u "(J)I"), (0, .methodref 48 49), (0, .class_ 50), (0, .nameAndType 51 52), (0, u "java/lang/Math"), (0, u "floorDiv"), (0, u "(JJ)J"), (0, .methodref 48 54), (0, .nameAndType 55 52), (0, u "floorMod"), (0, u "NONE"), (1, u "(JI)V"), (3, u "add"), (0, u "(J)V"), (0, u "sum")] 17

def k3c0 : Code := { maxStack := 5, maxLocals := 4, code := prog_30_method_1_code, exceptionTable := #[], attributes := #[] }
def k3m0 : Method := { name := "<init>", desc := "(JI)V", sig := { parameters := [.long, .int], returnType := none }, accessFlags := 0, code := some k3c0 }
def k3c1 : Code := { maxStack := 6, maxLocals := 6, code := prog_30_method_2_code, exceptionTable := #[], attributes := #[] }
def k3m1 : Method := { name := "add", desc := "(J)V", sig := { parameters := [.long], returnType := none }, accessFlags := 0, code := some k3c1 }
def k3c2 : Code := { maxStack := 4, maxLocals := 8, code := prog_30_method_3_code, exceptionTable := #[], attributes := #[] }
def k3m2 : Method := { name := "sum", desc := "(J)J", sig := { parameters := [.long], returnType := some .long }, accessFlags := 0, code := some k3c2 }
def k3c3 : Code := { maxStack := 4, maxLocals := 3, code := prog_30_method_4_code, exceptionTable := #[], attributes := #[] }
def k3m3 : Method := { name := "bucketOf", desc := "(J)J", sig := { parameters := [.long], returnType := some .long }, accessFlags := 2, code := some k3c3 }
def k3c4 : Code := { maxStack := 4, maxLocals := 3, code := prog_30_method_5_code, exceptionTable := #[], attributes := #[] }
def k3m4 : Method := { name := "slotOf", desc := "(J)I", sig := { parameters := [.long], returnType := some .int }, accessFlags := 2, code := some k3c4 }
/-- com/example/ventil/ventil/RollingCount -/
def k3 : Class := { plain "com/example/ventil/ventil/RollingCount" (some 0) with
  accessFlags := 48
  interfaces := #[]
  cf := some (fileOf pool3 19 #[] #[{ accessFlags := 0, nameIndex := 7, descriptorIndex := 58, attributes := #[] }, { accessFlags := 0, nameIndex := 62, descriptorIndex := 63, attributes := #[] }, { accessFlags := 0, nameIndex := 64, descriptorIndex := 42, attributes := #[] }, { accessFlags := 2, nameIndex := 41, descriptorIndex := 42, attributes := #[] }, { accessFlags := 2, nameIndex := 45, descriptorIndex := 46, attributes := #[] }] 48 4 #[] #[{ accessFlags := 26, nameIndex := 56, descriptorIndex := 23, attributes := #[] }, { accessFlags := 18, nameIndex := 22, descriptorIndex := 23, attributes := #[] }, { accessFlags := 18, nameIndex := 26, descriptorIndex := 27, attributes := #[] }, { accessFlags := 18, nameIndex := 30, descriptorIndex := 27, attributes := #[] }])
  fields := #[{ name := "NONE", type := .long, accessFlags := 26, slot := 0, constantValue := 0 }, { name := "bucketNanos", type := .long, accessFlags := 18, slot := 0, constantValue := 0 }, { name := "counts", type := (.array .long), accessFlags := 18, slot := 1, constantValue := 0 }, { name := "bucketInSlot", type := (.array .long), accessFlags := 18, slot := 2, constantValue := 0 }]
  methods := #[k3m0, k3m1, k3m2, k3m3, k3m4]
  instanceTypes := #[.long, (.array .long), (.array .long)]
  staticTypes := #[.long]
  resolved := Array.replicate 82 none
  statics := none }

def pool4 : Array CpInfo := pool [(2, .class_ 4), (1, u "java/lang/Object"), (0, u "<init>"), (0, u "()V"), (7, .class_ 16), (1, u "java/util/Arrays"), (57, .class_ 76), (1, u "java/util/Arrays$NaturalOrder"), (36, .class_ 115), (1, u "java/util/Arrays$LegacyMergeSort"), (1, u "Z"), (257, .class_ 376), (0, u "java/util/Arrays$ArrayList"), (68, u "$assertionsDisabled"), (269, u "MIN_ARRAY_SORT_GRAN"), (0, u "I"), (2, u "INSERTIONSORT_THRESHOLD"), (120, u "fill"), (0, u "([JJ)V"), (133, .class_ 976), (0, u "java/util/Arrays$ArrayItr")] 52

def k4m0 : Method := { name := "<init>", desc := "()V", sig := { parameters := [], returnType := none }, accessFlags := 2, code := none }
def k4c1 : Code := { maxStack := 4, maxLocals := 5, code := jdk_65_method_101_code, exceptionTable := #[], attributes := #[] }
def k4m1 : Method := { name := "fill", desc := "([JJ)V", sig := { parameters := [(.array .long), .long], returnType := none }, accessFlags := 9, code := some k4c1 }
/-- java/util/Arrays -/
def k4 : Class := { plain "java/util/Arrays" (some 0) with
  accessFlags := 49
  interfaces := #[]
  cf := some (fileOf pool4 14 #[.nestMembers #[975, 375, 113, 74]] #[{ accessFlags := 2, nameIndex := 5, descriptorIndex := 6, attributes := #[] }, { accessFlags := 9, nameIndex := 840, descriptorIndex := 841, attributes := #[] }] 49 2 #[] #[{ accessFlags := 26, nameIndex := 715, descriptorIndex := 716, attributes := #[] }, { accessFlags := 26, nameIndex := 719, descriptorIndex := 716, attributes := #[] }, { accessFlags := 4120, nameIndex := 445, descriptorIndex := 117, attributes := #[] }])
  fields := #[{ name := "MIN_ARRAY_SORT_GRAN", type := .int, accessFlags := 26, slot := 0, constantValue := 0 }, { name := "INSERTIONSORT_THRESHOLD", type := .int, accessFlags := 26, slot := 1, constantValue := 0 }, { name := "$assertionsDisabled", type := .boolean, accessFlags := 4120, slot := 2, constantValue := 0 }]
  methods := #[k4m0, k4m1]
  instanceTypes := #[]
  staticTypes := #[.int, .int, .boolean]
  resolved := Array.replicate 1029 none
  statics := none }

def pool5 : Array CpInfo := pool [(1, u "java/lang/Cloneable"), (0, .class_ 1), (0, u "java/lang/Object"), (0, .class_ 3)] 3

/-- java/lang/Cloneable -/
def k5 : Class := { plain "java/lang/Cloneable" (some 0) with
  accessFlags := 1537
  interfaces := #[]
  cf := some (fileOf pool5 2 #[] #[] 1537 4 #[] #[])
  fields := #[]
  methods := #[]
  instanceTypes := #[]
  staticTypes := #[]
  resolved := Array.replicate 8 none
  statics := none }

def pool6 : Array CpInfo := pool [(1, u "java/io/Serializable"), (0, .class_ 1), (0, u "java/lang/Object"), (0, .class_ 3)] 3

/-- java/io/Serializable -/
def k6 : Class := { plain "java/io/Serializable" (some 0) with
  accessFlags := 1537
  interfaces := #[]
  cf := some (fileOf pool6 2 #[] #[] 1537 4 #[] #[])
  fields := #[]
  methods := #[]
  instanceTypes := #[]
  staticTypes := #[]
  resolved := Array.replicate 8 none
  statics := none }

/-- the primitive byte -/
def k7 : Class := { plain "byte" none with kind := .primitive 'B', accessFlags := 0x411 }
/-- [B -/
def k8 : Class := { plain "[B" (some 0) with kind := .array 7 .byte, interfaces := #[5, 6], accessFlags := 1041 }

/-- the primitive int -/
def k9 : Class := { plain "int" none with kind := .primitive 'I', accessFlags := 0x411 }
/-- [I -/
def k10 : Class := { plain "[I" (some 0) with kind := .array 9 .int, interfaces := #[5, 6], accessFlags := 1041 }

/-- the primitive long -/
def k11 : Class := { plain "long" none with kind := .primitive 'J', accessFlags := 0x411 }
/-- [J -/
def k12 : Class := { plain "[J" (some 0) with kind := .array 11 .long, interfaces := #[5, 6], accessFlags := 1041 }

def heap : Heap := #[]
def classes : Array Class := #[k0, k1, k2, k3, k4, k5, k6, k7, k8, k9, k10, k11, k12]
def interned : List (Array UInt16 × Addr) := []
def slotsUsed : Nat := 0
def theMethod : MethodId := ⟨1, 1⟩
def args0 : Array Value := #[.long 9, .long 4, .long 3, .int 2, .long 1, .long 7]
def aboutOver (below : List Frame) : State where
  vm := { classes := classes, interned := interned.toArray }
  heap := heap
  slotsUsed := slotsUsed
  threads := #[{ frames := .invoking theMethod args0 :: below }]
def below0 : List Frame := [.native { method := ⟨0, 0⟩, args := #[] }]
def about1 : State := aboutOver below0
def p0 : Program := .bare "" "" ""
def e0 : Env := launch0.env 0 0 0
theorem w_frames : about1.frames = Frame.invoking theMethod args0 :: below0 := rfl
set_option maxRecDepth 65536 in
theorem w_args : argsFit about1.vm theMethod args0 = true := by decide +kernel
set_option maxRecDepth 65536 in
theorem w_heap : heapFits about1 = true := by decide +kernel
set_option maxRecDepth 65536 in
theorem w_runnable : about1.curStatus? = some .runnable := by decide +kernel
set_option maxRecDepth 65536 in
theorem w_alone : about1.alone = true := by decide +kernel
set_option maxRecDepth 65536 in
theorem w_named : about1.methodNamed? x = some theMethod := by decide +kernel
set_option maxRecDepth 65536 in
theorem w_hears : about1.hears theMethod below0 = true := by decide +kernel
set_option maxRecDepth 65536 in
theorem w_ripe : about1.ripe theMethod args0 below0 = true := by decide +kernel
theorem w_running : about1.status = .running := rfl
set_option maxRecDepth 65536 in
theorem w_room : about1.hasRoom e0.platform room_1 = true :=
  launch0.hasRoom_least _ room_1 (by decide +kernel) (by decide +kernel) (by decide +kernel) (by decide +kernel) (by decide +kernel) (by decide +kernel)
theorem allAtoms_all (ts : List Jvm.Cond) (a : Array Jvm.Value) (st : Jvm.State) : (allAtoms ts).before a st = ts.all (fun c => c.before a st) := by
  induction ts with
  | nil => rfl
  | cons c t ih =>
    show (Jvm.Cond.and c (allAtoms t)).before a st = _
    rw [Jvm.Cond.before_and, ih, List.all_cons]
def words1 : List Jvm.Cond := Jvm.Cond.code x code maxLocals ret :: tables_1
/-- a 'code' word, met by the world's own term for the bytes: nothing is compared byte by byte -/
theorem code_word {y : MethodName} {bytes : ByteArray} {mx : Nat} {rt : Option FieldType} {a : Array Value} {s : State} {m : MethodId} {meth : Method} {c : Code} (h1 : s.methodNamed? y = some m) (h2 : s.vm.method? m = some meth) (h3 : meth.code = some c) (h4 : c.code = bytes)
    (h5 : (c.maxLocals == mx && c.exceptionTable.isEmpty && decide (c.maxStack ≤ mostOperands) && decide (meth.sig.returnType = rt) && !meth.locks && decide (parseMethodDescriptor y.desc = some meth.sig)) = true) : (Jvm.Cond.code y bytes mx rt).before a s = true := by
  simp only [Bool.and_eq_true, beq_iff_eq, Bool.not_eq_true', decide_eq_true_eq] at h5
  obtain ⟨⟨⟨⟨⟨g1, g2⟩, g3⟩, g4⟩, g5⟩, g6⟩ := h5
  simp [Cond.before, Cond.holds, Cond.value, h1, h2, h3, h4, g1, g2, g3, g4, g5, g6]
def isCode : Jvm.Cond → Bool
  | .code _ _ _ _ => true
  | _ => false
theorem all_split {L : List Jvm.Cond} {P : Jvm.Cond → Bool} (h1 : L.all (fun c => isCode c || P c) = true) (h2 : ∀ c ∈ L.filter isCode, P c = true) : L.all P = true := by
  refine List.all_eq_true.mpr fun c hc => ?_
  have h := List.all_eq_true.mp h1 c hc
  rcases Bool.eq_false_or_eq_true (isCode c) with hi | hi
  · exact h2 c (List.mem_filter.mpr ⟨hc, hi⟩)
  · simpa [hi] using h
set_option maxRecDepth 65536 in
theorem w_c0 : (Jvm.Cond.code x code maxLocals ret).before args0 about1 = true := code_word (m := ⟨1, 1⟩) (meth := k1m1) (c := k1c1) (by decide +kernel) rfl rfl rfl (by decide +kernel)
set_option maxRecDepth 65536 in
theorem w_c1 : (Jvm.Cond.code ({ cls := "java/lang/Math", name := "min", desc := "(II)I" } : Jvm.MethodName) jdk_29_method_69_code (2 : Nat) (Option.some Jvm.ClassFile.FieldType.int)).before args0 about1 = true := code_word (m := ⟨2, 4⟩) (meth := k2m4) (c := k2c4) (by decide +kernel) rfl rfl rfl (by decide +kernel)
set_option maxRecDepth 65536 in
theorem w_c2 : (Jvm.Cond.code ({ cls := "com/example/ventil/ventil/RollingCountSumPinLaw", name := "off", desc := "(IJJ)J" } : Jvm.MethodName) method_3_code (5 : Nat) (Option.some Jvm.ClassFile.FieldType.long)).before args0 about1 = true := code_word (m := ⟨1, 2⟩) (meth := k1m2) (c := k1c2) (by decide +kernel) rfl rfl rfl (by decide +kernel)
set_option maxRecDepth 65536 in
theorem w_c3 : (Jvm.Cond.code ({ cls := "java/lang/Math", name := "max", desc := "(JJ)J" } : Jvm.MethodName) jdk_29_method_66_code (4 : Nat) (Option.some Jvm.ClassFile.FieldType.long)).before args0 about1 = true := code_word (m := ⟨2, 3⟩) (meth := k2m3) (c := k2c3) (by decide +kernel) rfl rfl rfl (by decide +kernel)
set_option maxRecDepth 65536 in
theorem w_c4 : (Jvm.Cond.code ({ cls := "com/example/ventil/ventil/RollingCount", name := "<init>", desc := "(JI)V" } : Jvm.MethodName) prog_30_method_1_code (4 : Nat) (Option.none : Option Jvm.ClassFile.FieldType)).before args0 about1 = true := code_word (m := ⟨3, 0⟩) (meth := k3m0) (c := k3c0) (by decide +kernel) rfl rfl rfl (by decide +kernel)
set_option maxRecDepth 65536 in
theorem w_c5 : (Jvm.Cond.code ({ cls := "java/lang/Object", name := "<init>", desc := "()V" } : Jvm.MethodName) object_method_1_code (1 : Nat) (Option.none : Option Jvm.ClassFile.FieldType)).before args0 about1 = true := code_word (m := ⟨0, 0⟩) (meth := k0m0) (c := k0c0) (by decide +kernel) rfl rfl rfl (by decide +kernel)
set_option maxRecDepth 65536 in
theorem w_c6 : (Jvm.Cond.code ({ cls := "java/util/Arrays", name := "fill", desc := "([JJ)V" } : Jvm.MethodName) jdk_65_method_101_code (5 : Nat) (Option.none : Option Jvm.ClassFile.FieldType)).before args0 about1 = true := code_word (m := ⟨4, 1⟩) (meth := k4m1) (c := k4c1) (by decide +kernel) rfl rfl rfl (by decide +kernel)
set_option maxRecDepth 65536 in
theorem w_c7 : (Jvm.Cond.code ({ cls := "com/example/ventil/ventil/RollingCount", name := "sum", desc := "(J)J" } : Jvm.MethodName) prog_30_method_3_code (8 : Nat) (Option.some Jvm.ClassFile.FieldType.long)).before args0 about1 = true := code_word (m := ⟨3, 2⟩) (meth := k3m2) (c := k3c2) (by decide +kernel) rfl rfl rfl (by decide +kernel)
set_option maxRecDepth 65536 in
theorem w_c8 : (Jvm.Cond.code ({ cls := "com/example/ventil/ventil/RollingCount", name := "bucketOf", desc := "(J)J" } : Jvm.MethodName) prog_30_method_4_code (3 : Nat) (Option.some Jvm.ClassFile.FieldType.long)).before args0 about1 = true := code_word (m := ⟨3, 3⟩) (meth := k3m3) (c := k3c3) (by decide +kernel) rfl rfl rfl (by decide +kernel)
set_option maxRecDepth 65536 in
theorem w_c9 : (Jvm.Cond.code ({ cls := "java/lang/Math", name := "floorDiv", desc := "(JJ)J" } : Jvm.MethodName) jdk_29_method_49_code (6 : Nat) (Option.some Jvm.ClassFile.FieldType.long)).before args0 about1 = true := code_word (m := ⟨2, 1⟩) (meth := k2m1) (c := k2c1) (by decide +kernel) rfl rfl rfl (by decide +kernel)
set_option maxRecDepth 65536 in
theorem w_c10 : (Jvm.Cond.code ({ cls := "com/example/ventil/ventil/RollingCount", name := "add", desc := "(J)V" } : Jvm.MethodName) prog_30_method_2_code (6 : Nat) (Option.none : Option Jvm.ClassFile.FieldType)).before args0 about1 = true := code_word (m := ⟨3, 1⟩) (meth := k3m1) (c := k3c1) (by decide +kernel) rfl rfl rfl (by decide +kernel)
set_option maxRecDepth 65536 in
theorem w_c11 : (Jvm.Cond.code ({ cls := "com/example/ventil/ventil/RollingCount", name := "slotOf", desc := "(J)I" } : Jvm.MethodName) prog_30_method_5_code (3 : Nat) (Option.some Jvm.ClassFile.FieldType.int)).before args0 about1 = true := code_word (m := ⟨3, 4⟩) (meth := k3m4) (c := k3c4) (by decide +kernel) rfl rfl rfl (by decide +kernel)
set_option maxRecDepth 65536 in
theorem w_c12 : (Jvm.Cond.code ({ cls := "java/lang/Math", name := "floorMod", desc := "(JJ)J" } : Jvm.MethodName) jdk_29_method_52_code (6 : Nat) (Option.some Jvm.ClassFile.FieldType.long)).before args0 about1 = true := code_word (m := ⟨2, 2⟩) (meth := k2m2) (c := k2c2) (by decide +kernel) rfl rfl rfl (by decide +kernel)
def codes1 : List Jvm.Cond := [Jvm.Cond.code x code maxLocals ret, Jvm.Cond.code ({ cls := "java/lang/Math", name := "min", desc := "(II)I" } : Jvm.MethodName) jdk_29_method_69_code (2 : Nat) (Option.some Jvm.ClassFile.FieldType.int), Jvm.Cond.code ({ cls := "com/example/ventil/ventil/RollingCountSumPinLaw", name := "off", desc := "(IJJ)J" } : Jvm.MethodName) method_3_code (5 : Nat) (Option.some Jvm.ClassFile.FieldType.long), Jvm.Cond.code ({ cls := "java/lang/Math", name := "max", desc := "(JJ)J" } : Jvm.MethodName) jdk_29_method_66_code (4 : Nat) (Option.some Jvm.ClassFile.FieldType.long), Jvm.Cond.code ({ cls := "com/example/ventil/ventil/RollingCount", name := "<init>", desc := "(JI)V" } : Jvm.MethodName) prog_30_method_1_code (4 : Nat) (Option.none : Option Jvm.ClassFile.FieldType), Jvm.Cond.code ({ cls := "java/lang/Object", name := "<init>", desc := "()V" } : Jvm.MethodName) object_method_1_code (1 : Nat) (Option.none : Option Jvm.ClassFile.FieldType), Jvm.Cond.code ({ cls := "java/util/Arrays", name := "fill", desc := "([JJ)V" } : Jvm.MethodName) jdk_65_method_101_code (5 : Nat) (Option.none : Option Jvm.ClassFile.FieldType), Jvm.Cond.code ({ cls := "com/example/ventil/ventil/RollingCount", name := "sum", desc := "(J)J" } : Jvm.MethodName) prog_30_method_3_code (8 : Nat) (Option.some Jvm.ClassFile.FieldType.long), Jvm.Cond.code ({ cls := "com/example/ventil/ventil/RollingCount", name := "bucketOf", desc := "(J)J" } : Jvm.MethodName) prog_30_method_4_code (3 : Nat) (Option.some Jvm.ClassFile.FieldType.long), Jvm.Cond.code ({ cls := "java/lang/Math", name := "floorDiv", desc := "(JJ)J" } : Jvm.MethodName) jdk_29_method_49_code (6 : Nat) (Option.some Jvm.ClassFile.FieldType.long), Jvm.Cond.code ({ cls := "com/example/ventil/ventil/RollingCount", name := "add", desc := "(J)V" } : Jvm.MethodName) prog_30_method_2_code (6 : Nat) (Option.none : Option Jvm.ClassFile.FieldType), Jvm.Cond.code ({ cls := "com/example/ventil/ventil/RollingCount", name := "slotOf", desc := "(J)I" } : Jvm.MethodName) prog_30_method_5_code (3 : Nat) (Option.some Jvm.ClassFile.FieldType.int), Jvm.Cond.code ({ cls := "java/lang/Math", name := "floorMod", desc := "(JJ)J" } : Jvm.MethodName) jdk_29_method_52_code (6 : Nat) (Option.some Jvm.ClassFile.FieldType.long)]
set_option maxRecDepth 65536 in
theorem codes_eq : words1.filter isCode = codes1 := rfl
theorem w_codes : ∀ c ∈ words1.filter isCode, c.before args0 about1 = true := by
  rw [codes_eq]
  intro c hc
  simp only [codes1, List.mem_cons, List.not_mem_nil, or_false] at hc
  rcases hc with rfl | rfl | rfl | rfl | rfl | rfl | rfl | rfl | rfl | rfl | rfl | rfl | rfl
  · exact w_c0
  · exact w_c1
  · exact w_c2
  · exact w_c3
  · exact w_c4
  · exact w_c5
  · exact w_c6
  · exact w_c7
  · exact w_c8
  · exact w_c9
  · exact w_c10
  · exact w_c11
  · exact w_c12
set_option maxRecDepth 65536 in
theorem w_t1 : (words1.take 24).all (fun c => isCode c || c.before args0 about1) = true := by decide +kernel
set_option maxRecDepth 65536 in
theorem w_t2 : ((words1.drop 24).take 24).all (fun c => isCode c || c.before args0 about1) = true := by decide +kernel
set_option maxRecDepth 65536 in
theorem w_t3 : ((words1.drop 24).drop 24).all (fun c => isCode c || c.before args0 about1) = true := by decide +kernel
theorem w_tables : (allAtoms (Jvm.Cond.code x code maxLocals ret :: tables_1)).before args0 about1 = true := by
  rw [allAtoms_all]
  show words1.all (fun c => c.before args0 about1) = true
  refine all_split ?_ w_codes
  rw [← List.take_append_drop 24 words1, List.all_append, w_t1, ← List.take_append_drop 24 (words1.drop 24), List.all_append, w_t2, w_t3]
  rfl
set_option maxRecDepth 65536 in
theorem w_case : (Jvm.Cond.and given_1 narrow_1).before args0 about1 = true := by decide +kernel
theorem w_applies : (headSpec (Jvm.Cond.code x code maxLocals ret :: tables_1) room_1).applies x e0.platform about1 = true :=
  (Spec.applies_iff w_frames).mpr ⟨w_running, w_runnable, w_alone, w_named, w_hears, w_ripe, w_room, w_tables⟩
theorem atStart : AtStart classFile x code maxLocals ret World_1 tables_1 room_1 Calls_1 rest_1 Pre_1 launch0 p0 e0 about1 theMethod args0 below0 :=
  ⟨lists_1, trivial, launch0.admits_env _ _ _, launch0.least_env, fairChoices_fair.cas, fairChoices_fair.clock, w_frames, w_args, w_heap, w_applies, trivial, trivial, w_case⟩
end start1
theorem witness_1 : WitnessClaimed_1 := ⟨start1.p0, start1.e0, start1.about1, start1.theMethod, start1.args0, start1.below0, start1.atStart⟩
end Jvm.Pilot.@@N@@
