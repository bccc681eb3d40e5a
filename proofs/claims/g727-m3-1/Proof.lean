import JvmDerived
import JvmDerived.Pilot.@@N@@Statement
import JvmDerived.Pilot.@@N@@Code
set_option linter.unusedVariables false
set_option linter.unusedSimpArgs false
namespace Jvm.RoadKit
open Sem ClassFile Op Lib Jvm.Stand Jvm.Free Jvm.LawKit
section New
variable {p : Program} {l : Launch} {e : Env} {R : Room} {s : State} {m : MethodId} {args : Array Value} {below : List Frame} {meth : Method} {c : Code} {T : State} {locs : List Loc} {cells slots : Nat}
theorem retI (X : Stand p l e R s m args below meth c T locs cells slots) (hx : p.tables.exec = Jvm.exec) {pc : Nat} {Ls : Array Slot} {z : Int32} {rest : List Value} (hret : meth.sig.returnType = some .int) (hd : decode c.code pc = .ok (.ireturn, 1)) {fs : List Frame}
    (hl : ∀ (f : JFrame) (acts : List Action), f.method = m → f.locked = none → f.entered = [] → (doReturn e (T.setTop f) acts (some (.int z))).1 = T.setFrames fs) : Steps p.tables e below (T.setTop (mkF m pc Ls (.int z :: rest))) (T.setFrames fs) := by
  have hm' : T.vm.method? m = some meth := X.method'
  have hn : narrow .int (.int z) = .int z := rfl
  show Steps p.tables e below (T.setTop { method := m, pc := pc, locals := Ls, stack := _ :: rest, locked := none }) _
  jvm_step X.here [X.here.top, hx, hd, hm', hret, hn]
  first | (intro acts; rw [hl _ acts rfl rfl rfl]) | rw [hl _ _ rfl rfl rfl]
  exact Steps.refl _
end New
end Jvm.RoadKit

namespace Jvm.Pilot.@@N@@
open Jvm Jvm.ClassFile Sem Op Lib Jvm.Free Jvm.Stand Jvm.LawKit Jvm.RoadKit Bundle Jvm.Pilot.@@N@@.Jvm.D


def own_mask (p : Int32) : Int32 := if p = 0 then 0 else (-1 : Int32) <<< (((32 : Int32) - p) &&& 31)
def own_con (A1 L1 A2 L2 : Int32) : Int32 := if L2 < L1 then 0 else if (A2 &&& own_mask L1) = A1 then 1 else 0
theorem own_m1 : ∀ n : Fin 33, (own_mask (Int32.ofNat n.val)).toBitVec = BitVec.allOnes 32 <<< (32 - n.val) := by decide +kernel
theorem own_m2 : ∀ n : Fin 33, (own_mask (Int32.ofNat n.val) ^^^ (-1 : Int32)).toBitVec.toNat = 2 ^ (32 - n.val) - 1 := by decide +kernel
theorem own_m3 : ∀ n : Fin 33, ((1 : Int64) <<< (((32 : Int32) - Int32.ofNat n.val) &&& 0x3f).toInt64).toInt = ((2 ^ (32 - n.val) : Nat) : Int) := by decide +kernel
theorem own_len (a : Int32) : ∃ n : Nat, n ≤ 32 ∧ (a &&& (2147483647 : Int32)) % (33 : Int32) = Int32.ofNat n := by
  have h1 := c_and a 2147483647 (by decide)
  have h2 := (c_iremV (a &&& (2147483647 : Int32)) 33).1 h1.1 (by decide)
  have e : (33 : Int32).toInt = 33 := rfl
  rw [e] at h2
  generalize (a &&& (2147483647 : Int32)) % (33 : Int32) = i at h2
  refine ⟨i.toInt.toNat, by omega, Int32.toInt_inj.mp ?_⟩
  rw [Int32.toInt_ofNat_of_lt (by omega)]
  omega
theorem own_low (a : Int32) : 0 ≤ (a.toInt64 &&& (4294967295 : Int64)).toInt ∧ (a.toInt64 &&& (4294967295 : Int64)).toInt < 4294967296 := by
  have h := c_maskL a.toInt64 4294967295 32 (by decide) (by decide)
  rw [h]
  have e : ((2 ^ 32 : Nat) : Int) = 4294967296 := rfl
  rw [e]
  omega
/-- what is true of a prefix's four numbers: n its length, q its number among those of that length -/
def own_pre (addr len : Int32) (lo span : Int64) (n P q : Nat) : Prop := n ≤ 32 ∧ P = 2 ^ (32 - n) ∧ len = Int32.ofNat n ∧ span.toInt = (P : Int) ∧ lo.toInt = ((q * P : Nat) : Int) ∧ q * P < 4294967296 ∧ addr = lo.toInt32
theorem own_P {n P : Nat} (h : P = 2 ^ (32 - n)) : 0 < P ∧ P ≤ 4294967296 := by
  subst h
  exact ⟨Nat.pos_of_ne_zero (by simp), Nat.pow_le_pow_right (n := 2) (j := 32) (by decide) (by omega)⟩
theorem own_mk {x span : Int64} {len : Int32} {n : Nat} (hn : n ≤ 32) (hl : len = Int32.ofNat n) (hs : span = (1 : Int64) <<< (((32 : Int32) - len) &&& 0x3f).toInt64) (h0 : 0 ≤ x.toInt) (h1 : x.toInt < 4294967296) : ∃ P q, own_pre ((x / span * span).toInt32) len (x / span * span) span n P q := by
  have e := own_m3 ⟨n, by omega⟩
  obtain ⟨P, hP⟩ : ∃ P, P = 2 ^ (32 - n) := ⟨_, rfl⟩
  have hs' : span.toInt = (P : Int) := by rw [hs, hl, hP]; exact e
  obtain ⟨hp, hle⟩ := own_P hP
  have hm1 : span ≠ -1 := fun q => by rw [q] at hs'; have : (-1 : Int64).toInt = -1 := rfl; omega
  have hd := (c_ldiv x span _ hs' hm1).1 h0
  obtain ⟨X, hX⟩ : ∃ X : Nat, x.toInt = X := ⟨x.toInt.toNat, by omega⟩
  rw [hX] at hd
  have hd' : (x / span).toInt = ((X / P : Nat) : Int) := by rw [hd]; simp
  have hmul := c_lmul (x / span) span
  rw [hd', hs', ← Int.natCast_mul] at hmul
  have hb : X / P * P ≤ X := Nat.div_mul_le_self X P
  have hr := rng64 (x / span * span)
  refine ⟨P, X / P, hn, hP, hl, hs', ?_, by omega, rfl⟩
  generalize X / P * P = c at hmul hb
  omega
theorem own_nz {addr len : Int32} {lo span : Int64} {n P q : Nat} (h : own_pre addr len lo span n P q) : span ≠ 0 := fun e => by
  obtain ⟨hn, hP, -, hs, -⟩ := h
  have := (own_P hP).1
  rw [e] at hs
  have e0 : (0 : Int64).toInt = 0 := rfl
  omega
/-- the flagged base stays below 2 ^ 32 -/
theorem own_base {addr len : Int32} {lo span y : Int64} {n P q : Nat} (h : own_pre addr len lo span n P q) (h0 : 0 ≤ y.toInt) : 0 ≤ (lo + (y - y / span * span)).toInt ∧ (lo + (y - y / span * span)).toInt < 4294967296 := by
  obtain ⟨hn, hP, -, hs, hlo, hlt, -⟩ := h
  obtain ⟨hp, hle⟩ := own_P hP
  have hr := (c_lrem y span _ hs).1 h0
  have m1 := Int.emod_nonneg y.toInt (b := (P : Int)) (by omega)
  have m2 := Int.emod_lt_of_pos y.toInt (b := (P : Int)) (by omega)
  rw [← hr] at m1 m2
  have ha := c_ladd lo (y - y / span * span)
  have hrg := rng64 (lo + (y - y / span * span))
  have hS : (q + 1) * P ≤ 4294967296 := by
    have e : 4294967296 = 2 ^ n * P := by rw [hP, ← Nat.pow_add]; have : n + (32 - n) = 32 := by omega
                                          rw [this]
    rw [e] at hlt ⊢
    exact Nat.mul_le_mul_right P (Nat.lt_of_mul_lt_mul_right hlt)
  rw [Nat.add_mul, Nat.one_mul] at hS
  generalize (y - y / span * span) = z at *
  generalize q * P = c at *
  omega
theorem own_nat {x : Int32} {c : Nat} (h : c < 4294967296) (hx : (x.toInt - (c : Int)) % 4294967296 = 0) : x.toBitVec.toNat = c := by
  have e : x.toInt = x.toBitVec.toInt := rfl
  rw [e, BitVec.toInt_eq_toNat_cond] at hx
  have := x.toBitVec.isLt
  split at hx <;> omega
theorem own_addr {addr len : Int32} {lo span : Int64} {n P q : Nat} (h : own_pre addr len lo span n P q) : addr.toBitVec.toNat = q * P := by
  obtain ⟨hn, hP, -, hs, hlo, hlt, rfl⟩ := h
  have := c_l2i lo
  rw [hlo] at this
  exact own_nat hlt this
theorem own_and (x m : Int32) (k : Nat) (hm : m.toBitVec = BitVec.allOnes 32 <<< k) : (x &&& m).toBitVec.toNat = x.toBitVec.toNat / 2 ^ k * 2 ^ k := by
  have e : (x &&& m).toBitVec = (x.toBitVec >>> k) <<< k := by
    rw [Int32.toBitVec_and, hm]
    ext i hi
    simp only [BitVec.getElem_and, BitVec.getElem_shiftLeft, BitVec.getElem_allOnes, BitVec.getLsbD_ushiftRight, BitVec.getElem_ushiftRight]
    by_cases q : i < k
    · simp [q]
    · have : k + (i - k) = i := by omega
      simp [q, this, BitVec.getLsbD_eq_getElem hi]
  rw [e, BitVec.toNat_shiftLeft, BitVec.toNat_ushiftRight, Nat.shiftLeft_eq, Nat.shiftRight_eq_div_pow]
  exact Nat.mod_eq_of_lt (Nat.lt_of_le_of_lt (Nat.div_mul_le_self _ _) x.toBitVec.isLt)
/-- the constructor's check is met -/
theorem own_ok {addr len : Int32} {lo span : Int64} {n P q : Nat} (h : own_pre addr len lo span n P q) : (addr &&& (own_mask len ^^^ (-1 : Int32))) = 0 := by
  have ha := own_addr h
  obtain ⟨hn, hP, rfl, -⟩ := h
  have hm := own_m2 ⟨n, by omega⟩
  dsimp only at hm
  apply Int32.toBitVec_inj.mp
  apply BitVec.eq_of_toNat_eq
  rw [Int32.toBitVec_and, BitVec.toNat_and, hm, ha, Nat.and_two_pow_sub_one_eq_mod, ← hP, Nat.mul_mod_left]
  rfl
theorem own_rng {addr len : Int32} {lo span : Int64} {n P q : Nat} (h : own_pre addr len lo span n P q) : ¬ len < (0 : Int32) ∧ ¬ (32 : Int32) < len := by
  obtain ⟨hn, hP, rfl, -⟩ := h
  rw [Int32.lt_iff_toInt_lt, Int32.lt_iff_toInt_lt, Int32.toInt_ofNat_of_lt (by omega)]
  have e : (32 : Int32).toInt = 32 := rfl
  have e0 : (0 : Int32).toInt = 0 := rfl
  omega
theorem own_dv {x P q : Nat} (hP : 0 < P) : x / P * P = q * P ↔ q * P ≤ x ∧ x < q * P + P := by
  have h := Nat.div_add_mod x P
  have t := Nat.mod_lt x hP
  rw [Nat.mul_comm] at h
  constructor
  · intro e; omega
  · rintro ⟨h1, h2⟩
    have e : x / P = q := by
      rcases Nat.lt_trichotomy (x / P) q with g | g | g
      · have := Nat.mul_le_mul_right P g
        rw [Nat.succ_mul] at this
        omega
      · exact g
      · have := Nat.mul_le_mul_right P g
        rw [Nat.succ_mul] at this
        omega
    rw [e]
theorem own_main {A1 L1 A2 L2 : Int32} {lo span olo ospan : Int64} {n P q n' P' q' : Nat} (h1 : own_pre A1 L1 lo span n P q) (h2 : own_pre A2 L2 olo ospan n' P' q') :
    own_con A1 L1 A2 L2 = if (0 : Int32) < lcmpW lo olo then 0 else if (0 : Int32) < lcmpW (olo + ospan - 1) (lo + span - 1) then 0 else 1 := by
  have a1 := own_addr h1
  have a2 := own_addr h2
  obtain ⟨hn, hP, hL, hs, hlo, hlt, -⟩ := h1
  obtain ⟨hn', hP', hL', hs', hlo', hlt', -⟩ := h2
  obtain ⟨hp, hle⟩ := own_P hP
  obtain ⟨hp', hle'⟩ := own_P hP'
  have hm := own_and A2 (own_mask L1) (32 - n) (by rw [hL]; exact own_m1 ⟨n, by omega⟩)
  rw [← hP, a2] at hm
  have hc : (A2 &&& own_mask L1) = A1 ↔ q' * P' / P * P = q * P := by
    rw [← Int32.toBitVec_inj, ← BitVec.toNat_inj, hm, a1]
  have hl : L2 < L1 ↔ n' < n := by
    rw [hL, hL', Int32.lt_iff_toInt_lt, Int32.toInt_ofNat_of_lt (by omega), Int32.toInt_ofNat_of_lt (by omega)]
    omega
  have hlow : (0 : Int32) < lcmpW lo olo ↔ q' * P' < q * P := by
    rw [lw_gt, Int64.lt_iff_toInt_lt, hlo, hlo']
    omega
  have hh : (lo + span - 1).toInt = ((q * P + P : Nat) : Int) - 1 := by
    have x1 := c_ladd lo span
    have x2 := c_lsub (lo + span) 1
    have x3 := rng64 (lo + span)
    have x4 := rng64 (lo + span - 1)
    have e : (1 : Int64).toInt = 1 := rfl
    rw [hlo, hs] at x1
    rw [e] at x2
    generalize q * P = c at *
    omega
  have hh' : (olo + ospan - 1).toInt = ((q' * P' + P' : Nat) : Int) - 1 := by
    have x1 := c_ladd olo ospan
    have x2 := c_lsub (olo + ospan) 1
    have x3 := rng64 (olo + ospan)
    have x4 := rng64 (olo + ospan - 1)
    have e : (1 : Int64).toInt = 1 := rfl
    rw [hlo', hs'] at x1
    rw [e] at x2
    generalize q' * P' = c at *
    omega
  have hhi : (0 : Int32) < lcmpW (olo + ospan - 1) (lo + span - 1) ↔ q * P + P < q' * P' + P' := by
    rw [lw_gt, Int64.lt_iff_toInt_lt, hh, hh']
    omega
  unfold own_con
  simp only [hl, hc, hlow, hhi, own_dv hp]
  by_cases c : n' < n
  · have hPP : P < P' := by
      rw [hP, hP']
      exact Nat.pow_lt_pow_right (by decide) (by omega)
    rw [if_pos c]
    by_cases d : q' * P' < q * P
    · rw [if_pos d]
    · rw [if_neg d, if_pos (by omega)]
  · rw [if_neg c]
    have e : P = P' * 2 ^ (n' - n) := by
      rw [hP, hP', ← Nat.pow_add]
      congr 1
      omega
    have key : q' * P' < q * P + P → q' * P' + P' ≤ q * P + P := fun g => by
      have e2 : q * P + P = (q * 2 ^ (n' - n) + 2 ^ (n' - n)) * P' := by
        rw [e, Nat.add_mul, Nat.mul_assoc, Nat.mul_comm P']
      rw [e2] at g ⊢
      have := Nat.mul_le_mul_right P' (Nat.lt_of_mul_lt_mul_right g)
      rw [Nat.succ_mul] at this
      exact this
    by_cases d : q' * P' < q * P
    · rw [if_pos d, if_neg (by omega)]
    · rw [if_neg d]
      by_cases f : q' * P' < q * P + P
      · rw [if_pos ⟨by omega, f⟩, if_neg (by have := key f; omega)]
      · rw [if_neg (by omega), if_pos (by omega)]

theorem d2_0 : decode jdk_30_method_1_code 0 = .ok (.aload_n 0, 1) := by decide +kernel
theorem d2_1 : decode jdk_30_method_1_code 1 = .ok (.invokespecial 1, 3) := by decide +kernel
theorem d2_4 : decode jdk_30_method_1_code 4 = .ok (.return_, 1) := by decide +kernel
theorem pn_2 : plainName "java/lang/Record" = true := by first | (simp [plainName, overriddenIn]; done) | decide +kernel
theorem ef_rec (m : MethodId) (x0 : Addr) : entryFrame m #[(.ref x0)] 1 = mkF m 0 #[.val (.ref x0)] [] := by (first | (simp [entryFrame, mkF, argsToLocals, Value.category]; done) | rfl)
def Q_rec (Z : State) (a1 : Addr) (h0 : Heap) (n0 : Nat) (v : Option Value) (h : Heap) (L : List Loc) : Prop := v = none ∧ Fr n0 L ∧ h = h0
set_option maxRecDepth 65536 in
set_option maxHeartbeats 40000000 in
theorem rm_rec (l : Launch) (Z : State) (a0 : Array Value) (hw : ∀ d ∈ tables_1, d.before a0 Z = true) (ws : List Jvm.Cond) (a1 : Addr) (h0 : Heap) (n0 : Nat) (Z0 : n0 ≤ h0.size)  :
    MetFree l (⟨"java/lang/Record", "<init>", "()V"⟩ : MethodName) (head1 (Jvm.Cond.code (⟨"java/lang/Record", "<init>", "()V"⟩ : MethodName) jdk_30_method_1_code 1 none :: ws) ({ frames := 1, cells := 0, slots := 0, locals := 12 } : Room)) (fun a U => a = #[(.ref a1)] ∧ Z.Warmed39 U.vm ∧ U.heap = h0) (fun _ _ _ _ _ => True) (fun _ U o U' => ∃ v L, o = .returned v ∧ Q_rec Z a1 h0 n0 v U'.heap L ∧ FrameEnd U o U' L ({ frames := 1, cells := 0, slots := 0, locals := 12 } : Room).cells ({ frames := 1, cells := 0, slots := 0, locals := 12 } : Room).slots) := by
  refine MetFree.of_bodySF (plainFor_of_name pn_2) hisR ?_
  intro p e s m args below meth c s₁ Bd hml0 hP hK
  obtain ⟨rfl, hZ, hh⟩ := hP
  have hx := Bd.exec
  have hby := Bd.bytes
  have hml : c.maxLocals = 1 := hml0
  have hown : s.vm.findClass "java/lang/Record" = some m.cls := findClass_of_methodNamed Bd.named
  have hnm := (name_of_methodNamed Bd.named Bd.method).1
  have X0 : Stand p l e ({ frames := 1, cells := 0, slots := 0, locals := 12 } : Room) s m #[(.ref a1)] below meth c s₁ [] 0 0 := Stand.of_body Bd
  have e0 : s₁.heap = h0 := by rw [← hh, Bd.state]; rfl
  have N0 := Fr.nil n0
  have c0 : Goes p e below s₁ (entryFrame m #[(.ref a1)] 1) s₁ (mkF m 0 #[.val (.ref a1)] []) := fun t k => castTop (ef_rec m a1) k
  have c1 : Goes p e below s₁ (entryFrame m #[(.ref a1)] 1) s₁ (mkF m 1 #[.val (.ref a1)] [(.ref a1)]) := by
    intro t kk
    refine c0 t ?_
    show Steps p.tables e below (s₁.setTop (mkF m 0 #[.val (.ref a1)] [])) t
    refine XS.aloadN X0.here hx rfl (hb hby d2_0) rfl rfl ?_
    exact kk
  obtain ⟨T2, X2, e2, st2⟩ := initO X0 hx hZ hown (hw _ (List.mem_of_getElem? (i := 13) rfl)) (hw _ (List.mem_of_getElem? (i := 14) rfl)) (hw _ (List.mem_of_getElem? (i := 15) rfl)) e0 (g := (mkF m 1 #[.val (.ref a1)] [(.ref a1)])) rfl (by rw [hml]; rfl) rfl (hb hby d2_1) (by decide) (W := 0) (by show 2 * 0 + _ ≤ _; exact Nat.le_of_eq rfl) (by decide)
  have c3 : Goes p e below s₁ (entryFrame m #[(.ref a1)] 1) T2 (mkF m 4 #[.val (.ref a1)] []) := fun t kk => c1 t (st2 t kk)
  obtain ⟨fs, hr, hrun, hended, hW, hsame⟩ := X2.leave (v := none) (fun _ => rfl)
  refine ⟨_, _, c3 _ ?_, hrun, hended, _, _, rfl, ?_, ⟨_, rfl⟩, hW, hsame.mono (by decide) (by decide)⟩
  · exact X2.returnOut hx Bd.returns (hb hby d2_4) hr
  · show Q_rec Z a1 h0 n0 _ T2.heap _
    rw [e2]
    exact ⟨rfl, N0, rfl⟩
theorem d4_0 : decode prog_11_method_9_code 0 = .ok (.iload_n 0, 1) := by decide +kernel
theorem d4_1 : decode prog_11_method_9_code 1 = .ok (.ifCond .lt 9, 3) := by decide +kernel
theorem d4_4 : decode prog_11_method_9_code 4 = .ok (.iload_n 0, 1) := by decide +kernel
theorem d4_5 : decode prog_11_method_9_code 5 = .ok (.bipush 32, 2) := by decide +kernel
theorem d4_7 : decode prog_11_method_9_code 7 = .ok (.if_icmp .le 17, 3) := by decide +kernel
theorem d4_24 : decode prog_11_method_9_code 24 = .ok (.return_, 1) := by decide +kernel
theorem pn_4 : plainName "com/example/indizio/indizio/core/Ipv4Prefix" = true := by first | (simp [plainName, overriddenIn]; done) | decide +kernel
theorem ef_chk (m : MethodId) (x0 : Int32) : entryFrame m #[(.int x0)] 1 = mkF m 0 #[.val (.int x0)] [] := by (first | (simp [entryFrame, mkF, argsToLocals, Value.category]; done) | rfl)
def Q_chk (Z : State) (p1 : Int32) (h0 : Heap) (n0 : Nat) (v : Option Value) (h : Heap) (L : List Loc) : Prop := v = none ∧ Fr n0 L ∧ h = h0
set_option maxRecDepth 65536 in
set_option maxHeartbeats 40000000 in
theorem rm_chk (l : Launch) (Z : State) (a0 : Array Value) (hw : ∀ d ∈ tables_1, d.before a0 Z = true) (ws : List Jvm.Cond) (p1 : Int32) (h0 : Heap) (n0 : Nat) (Z0 : n0 ≤ h0.size) (hr : ¬ p1 < (0 : Int32) ∧ ¬ (32 : Int32) < p1) :
    MetFree l (⟨"com/example/indizio/indizio/core/Ipv4Prefix", "checkLength", "(I)V"⟩ : MethodName) (head1 (Jvm.Cond.code (⟨"com/example/indizio/indizio/core/Ipv4Prefix", "checkLength", "(I)V"⟩ : MethodName) prog_11_method_9_code 1 none :: ws) ({ frames := 0, cells := 0, slots := 0, locals := 0 } : Room)) (fun a U => a = #[(.int p1)] ∧ Z.Warmed39 U.vm ∧ U.heap = h0) (fun _ _ _ _ _ => True) (fun _ U o U' => ∃ v L, o = .returned v ∧ Q_chk Z p1 h0 n0 v U'.heap L ∧ FrameEnd U o U' L ({ frames := 0, cells := 0, slots := 0, locals := 0 } : Room).cells ({ frames := 0, cells := 0, slots := 0, locals := 0 } : Room).slots) := by
  refine MetFree.of_bodySF (plainFor_of_name pn_4) hisR ?_
  intro p e s m args below meth c s₁ Bd hml0 hP hK
  obtain ⟨rfl, hZ, hh⟩ := hP
  have hx := Bd.exec
  have hby := Bd.bytes
  have hml : c.maxLocals = 1 := hml0
  have hown : s.vm.findClass "com/example/indizio/indizio/core/Ipv4Prefix" = some m.cls := findClass_of_methodNamed Bd.named
  have hnm := (name_of_methodNamed Bd.named Bd.method).1
  have X0 : Stand p l e ({ frames := 0, cells := 0, slots := 0, locals := 0 } : Room) s m #[(.int p1)] below meth c s₁ [] 0 0 := Stand.of_body Bd
  have e0 : s₁.heap = h0 := by rw [← hh, Bd.state]; rfl
  have N0 := Fr.nil n0
  have c0 : Goes p e below s₁ (entryFrame m #[(.int p1)] 1) s₁ (mkF m 0 #[.val (.int p1)] []) := fun t k => castTop (ef_chk m p1) k
  have c4 : Goes p e below s₁ (entryFrame m #[(.int p1)] 1) s₁ (mkF m 24 #[.val (.int p1)] []) := by
    intro t kk
    refine c0 t ?_
    show Steps p.tables e below (s₁.setTop (mkF m 0 #[.val (.int p1)] [])) t
    refine XS.iloadN X0.here hx rfl (hb hby d4_0) rfl ?_
    show Steps p.tables e below (s₁.setTop (mkF m 1 #[.val (.int p1)] [(.int p1)])) t
    refine XS.ifNo X0.here hx rfl (hb hby d4_1) rfl ((if0 _ _).trans (flt hr.1).1) ?_
    show Steps p.tables e below (s₁.setTop (mkF m 4 #[.val (.int p1)] [])) t
    refine XS.iloadN X0.here hx rfl (hb hby d4_4) rfl ?_
    show Steps p.tables e below (s₁.setTop (mkF m 5 #[.val (.int p1)] [(.int p1)])) t
    refine XS.bipush X0.here hx rfl (hb hby d4_5) ?_
    show Steps p.tables e below (s₁.setTop (mkF m 7 #[.val (.int p1)] [(.int (32 : Int32)), (.int p1)])) t
    refine XS.icmpYes X0.here hx rfl (pc0 := 7) (pc' := 24) rfl (hb hby d4_7) rfl (flt hr.2).2.2.2 (by decide) (by decide) ?_
    exact kk
  obtain ⟨fs, hr, hrun, hended, hW, hsame⟩ := X0.leave (v := none) (fun _ => rfl)
  refine ⟨_, _, c4 _ ?_, hrun, hended, _, _, rfl, ?_, ⟨_, rfl⟩, hW, hsame.mono (by decide) (by decide)⟩
  · exact X0.returnOut hx Bd.returns (hb hby d4_24) hr
  · show Q_chk Z p1 h0 n0 _ s₁.heap _
    rw [e0]
    exact ⟨rfl, N0, rfl⟩
theorem d5_0 : decode prog_11_method_10_code 0 = .ok (.iload_n 0, 1) := by decide +kernel
theorem d5_1 : decode prog_11_method_10_code 1 = .ok (.ifCond .ne 7, 3) := by decide +kernel
theorem d5_4 : decode prog_11_method_10_code 4 = .ok (.iconst 0, 1) := by decide +kernel
theorem d5_5 : decode prog_11_method_10_code 5 = .ok (.goto 9, 3) := by decide +kernel
theorem d5_8 : decode prog_11_method_10_code 8 = .ok (.iconst (-1), 1) := by decide +kernel
theorem d5_9 : decode prog_11_method_10_code 9 = .ok (.bipush 32, 2) := by decide +kernel
theorem d5_11 : decode prog_11_method_10_code 11 = .ok (.iload_n 0, 1) := by decide +kernel
theorem d5_12 : decode prog_11_method_10_code 12 = .ok (.isub, 1) := by decide +kernel
theorem d5_13 : decode prog_11_method_10_code 13 = .ok (.ishl, 1) := by decide +kernel
theorem d5_14 : decode prog_11_method_10_code 14 = .ok (.ireturn, 1) := by decide +kernel
theorem ef_mask (m : MethodId) (x0 : Int32) : entryFrame m #[(.int x0)] 1 = mkF m 0 #[.val (.int x0)] [] := by (first | (simp [entryFrame, mkF, argsToLocals, Value.category]; done) | rfl)
def Q_mask (Z : State) (p1 : Int32) (h0 : Heap) (n0 : Nat) (v : Option Value) (h : Heap) (L : List Loc) : Prop := v = some (.int (own_mask p1)) ∧ Fr n0 L ∧ h = h0
set_option maxRecDepth 65536 in
set_option maxHeartbeats 40000000 in
theorem rm_mask (l : Launch) (Z : State) (a0 : Array Value) (hw : ∀ d ∈ tables_1, d.before a0 Z = true) (ws : List Jvm.Cond) (p1 : Int32) (h0 : Heap) (n0 : Nat) (Z0 : n0 ≤ h0.size)  :
    MetFree l (⟨"com/example/indizio/indizio/core/Ipv4Prefix", "mask", "(I)I"⟩ : MethodName) (head1 (Jvm.Cond.code (⟨"com/example/indizio/indizio/core/Ipv4Prefix", "mask", "(I)I"⟩ : MethodName) prog_11_method_10_code 1 (some .int) :: ws) ({ frames := 0, cells := 0, slots := 0, locals := 0 } : Room)) (fun a U => a = #[(.int p1)] ∧ Z.Warmed39 U.vm ∧ U.heap = h0) (fun _ _ _ _ _ => True) (fun _ U o U' => ∃ v L, o = .returned v ∧ Q_mask Z p1 h0 n0 v U'.heap L ∧ FrameEnd U o U' L ({ frames := 0, cells := 0, slots := 0, locals := 0 } : Room).cells ({ frames := 0, cells := 0, slots := 0, locals := 0 } : Room).slots) := by
  refine MetFree.of_bodySF (plainFor_of_name pn_4) hisR ?_
  intro p e s m args below meth c s₁ Bd hml0 hP hK
  obtain ⟨rfl, hZ, hh⟩ := hP
  have hx := Bd.exec
  have hby := Bd.bytes
  have hml : c.maxLocals = 1 := hml0
  have hown : s.vm.findClass "com/example/indizio/indizio/core/Ipv4Prefix" = some m.cls := findClass_of_methodNamed Bd.named
  have hnm := (name_of_methodNamed Bd.named Bd.method).1
  have X0 : Stand p l e ({ frames := 0, cells := 0, slots := 0, locals := 0 } : Room) s m #[(.int p1)] below meth c s₁ [] 0 0 := Stand.of_body Bd
  have e0 : s₁.heap = h0 := by rw [← hh, Bd.state]; rfl
  have N0 := Fr.nil n0
  have c0 : Goes p e below s₁ (entryFrame m #[(.int p1)] 1) s₁ (mkF m 0 #[.val (.int p1)] []) := fun t k => castTop (ef_mask m p1) k
  have c5 : Goes p e below s₁ (entryFrame m #[(.int p1)] 1) s₁ (mkF m 1 #[.val (.int p1)] [(.int p1)]) := by
    intro t kk
    refine c0 t ?_
    show Steps p.tables e below (s₁.setTop (mkF m 0 #[.val (.int p1)] [])) t
    refine XS.iloadN X0.here hx rfl (hb hby d5_0) rfl ?_
    exact kk
  by_cases hc1_6 : p1 = (0 : Int32)
  · have c7 : Goes p e below s₁ (entryFrame m #[(.int p1)] 1) s₁ (mkF m 14 #[.val (.int p1)] [(.int (0 : Int32))]) := by
      intro t kk
      refine c5 t ?_
      show Steps p.tables e below (s₁.setTop (mkF m 1 #[.val (.int p1)] [(.int p1)])) t
      refine XS.ifNo X0.here hx rfl (hb hby d5_1) rfl ((if0 _ _).trans (teq hc1_6).2) ?_
      show Steps p.tables e below (s₁.setTop (mkF m 4 #[.val (.int p1)] [])) t
      refine XS.iconst X0.here hx rfl (hb hby d5_4) ?_
      show Steps p.tables e below (s₁.setTop (mkF m 5 #[.val (.int p1)] [(.int (0 : Int32))])) t
      refine XS.goto X0.here hx rfl (pc0 := 5) (pc' := 14) rfl (hb hby d5_5) (by decide) (by decide) ?_
      exact kk
    obtain ⟨fs, hr, hrun, hended, hW, hsame⟩ := X0.leave (v := some (.int (0 : Int32))) (fun h => by rw [Bd.returns] at h; cases h)
    refine ⟨_, _, c7 _ ?_, hrun, hended, _, _, rfl, ?_, ⟨_, rfl⟩, hW, hsame.mono (by decide) (by decide)⟩
    · exact retI X0 hx Bd.returns (hb hby d5_14) hr
    · show Q_mask Z p1 h0 n0 _ s₁.heap _
      rw [e0]
      exact ⟨by simp [own_mask, hc1_6], N0, rfl⟩
  · have c8 : Goes p e below s₁ (entryFrame m #[(.int p1)] 1) s₁ (mkF m 14 #[.val (.int p1)] [(.int ((-1 : Int32) <<< (((32 : Int32) - p1) &&& 31)))]) := by
      intro t kk
      refine c5 t ?_
      show Steps p.tables e below (s₁.setTop (mkF m 1 #[.val (.int p1)] [(.int p1)])) t
      refine XS.ifYes X0.here hx rfl (pc0 := 1) (pc' := 8) rfl (hb hby d5_1) rfl ((if0 _ _).trans (feq hc1_6).2) (by decide) (by decide) ?_
      show Steps p.tables e below (s₁.setTop (mkF m 8 #[.val (.int p1)] [])) t
      refine XS.iconst X0.here hx rfl (hb hby d5_8) ?_
      show Steps p.tables e below (s₁.setTop (mkF m 9 #[.val (.int p1)] [(.int (-1 : Int32))])) t
      refine XS.bipush X0.here hx rfl (hb hby d5_9) ?_
      show Steps p.tables e below (s₁.setTop (mkF m 11 #[.val (.int p1)] [(.int (32 : Int32)), (.int (-1 : Int32))])) t
      refine XS.iloadN X0.here hx rfl (hb hby d5_11) rfl ?_
      show Steps p.tables e below (s₁.setTop (mkF m 12 #[.val (.int p1)] [(.int p1), (.int (32 : Int32)), (.int (-1 : Int32))])) t
      refine XS.isub X0.here hx rfl (hb hby d5_12) rfl ?_
      show Steps p.tables e below (s₁.setTop (mkF m 13 #[.val (.int p1)] [(.int ((32 : Int32) - p1)), (.int (-1 : Int32))])) t
      refine XS.ishl X0.here hx rfl (hb hby d5_13) rfl ?_
      exact kk
    obtain ⟨fs, hr, hrun, hended, hW, hsame⟩ := X0.leave (v := some (.int ((-1 : Int32) <<< (((32 : Int32) - p1) &&& 31)))) (fun h => by rw [Bd.returns] at h; cases h)
    refine ⟨_, _, c8 _ ?_, hrun, hended, _, _, rfl, ?_, ⟨_, rfl⟩, hW, hsame.mono (by decide) (by decide)⟩
    · exact retI X0 hx Bd.returns (hb hby d5_14) hr
    · show Q_mask Z p1 h0 n0 _ s₁.heap _
      rw [e0]
      exact ⟨by simp [own_mask, hc1_6], N0, rfl⟩
theorem d1_0 : decode prog_11_method_1_code 0 = .ok (.aload_n 0, 1) := by decide +kernel
theorem d1_1 : decode prog_11_method_1_code 1 = .ok (.invokespecial 1, 3) := by decide +kernel
theorem d1_4 : decode prog_11_method_1_code 4 = .ok (.iload_n 2, 1) := by decide +kernel
theorem d1_5 : decode prog_11_method_1_code 5 = .ok (.invokestatic 7, 3) := by decide +kernel
theorem d1_8 : decode prog_11_method_1_code 8 = .ok (.iload_n 1, 1) := by decide +kernel
theorem d1_9 : decode prog_11_method_1_code 9 = .ok (.iload_n 2, 1) := by decide +kernel
theorem d1_10 : decode prog_11_method_1_code 10 = .ok (.invokestatic 13, 3) := by decide +kernel
theorem d1_13 : decode prog_11_method_1_code 13 = .ok (.iconst (-1), 1) := by decide +kernel
theorem d1_14 : decode prog_11_method_1_code 14 = .ok (.ixor, 1) := by decide +kernel
theorem d1_15 : decode prog_11_method_1_code 15 = .ok (.iand, 1) := by decide +kernel
theorem d1_16 : decode prog_11_method_1_code 16 = .ok (.ifCond .eq 28, 3) := by decide +kernel
theorem d1_44 : decode prog_11_method_1_code 44 = .ok (.aload_n 0, 1) := by decide +kernel
theorem d1_45 : decode prog_11_method_1_code 45 = .ok (.iload_n 1, 1) := by decide +kernel
theorem d1_46 : decode prog_11_method_1_code 46 = .ok (.putfield 36, 3) := by decide +kernel
theorem d1_49 : decode prog_11_method_1_code 49 = .ok (.aload_n 0, 1) := by decide +kernel
theorem d1_50 : decode prog_11_method_1_code 50 = .ok (.iload_n 2, 1) := by decide +kernel
theorem d1_51 : decode prog_11_method_1_code 51 = .ok (.putfield 40, 3) := by decide +kernel
theorem d1_54 : decode prog_11_method_1_code 54 = .ok (.return_, 1) := by decide +kernel
theorem pd___V : parseMethodDescriptor "()V" = some ⟨[], none⟩ := by decide +kernel
theorem pd__I_V : parseMethodDescriptor "(I)V" = some ⟨[.int], none⟩ := by decide +kernel
theorem pd__I_I : parseMethodDescriptor "(I)I" = some ⟨[.int], some .int⟩ := by decide +kernel
theorem ef_init (m : MethodId) (x0 : Addr) (x1 : Int32) (x2 : Int32) : entryFrame m #[(.ref x0), (.int x1), (.int x2)] 3 = mkF m 0 #[.val (.ref x0), .val (.int x1), .val (.int x2)] [] := by (first | (simp [entryFrame, mkF, argsToLocals, Value.category]; done) | rfl)
def Q_init (Z : State) (a1 : Addr) (p1 : Int32) (p2 : Int32) (h0 : Heap) (n0 : Nat) (v : Option Value) (h : Heap) (L : List Loc) : Prop := v = none ∧ Fr n0 L ∧ Keep h0 h [a1] ∧ Exa Z h a1 "com/example/indizio/indizio/core/Ipv4Prefix" ∧ Fld Z h a1 "com/example/indizio/indizio/core/Ipv4Prefix" "address" "I" (.int p1) ∧ Fld Z h a1 "com/example/indizio/indizio/core/Ipv4Prefix" "length" "I" (.int p2)
set_option maxRecDepth 65536 in
set_option maxHeartbeats 40000000 in
theorem rm_init (l : Launch) (Z : State) (a0 : Array Value) (hw : ∀ d ∈ tables_1, d.before a0 Z = true) (ws : List Jvm.Cond) (a1 : Addr) (p1 : Int32) (p2 : Int32) (h0 : Heap) (n0 : Nat) (Z0 : n0 ≤ h0.size) (F_address : Fld Z h0 a1 "com/example/indizio/indizio/core/Ipv4Prefix" "address" "I" (.int (0 : Int32))) (F_length : Fld Z h0 a1 "com/example/indizio/indizio/core/Ipv4Prefix" "length" "I" (.int (0 : Int32))) (E1 : Exa Z h0 a1 "com/example/indizio/indizio/core/Ipv4Prefix") (g1 : n0 ≤ a1) (hr : ¬ p2 < (0 : Int32) ∧ ¬ (32 : Int32) < p2) (hz : (p1 &&& (own_mask p2 ^^^ (-1 : Int32))) = 0) :
    MetFree l (⟨"com/example/indizio/indizio/core/Ipv4Prefix", "<init>", "(II)V"⟩ : MethodName) (head1 (Jvm.Cond.code (⟨"com/example/indizio/indizio/core/Ipv4Prefix", "<init>", "(II)V"⟩ : MethodName) prog_11_method_1_code 3 none :: ws) ({ frames := 2, cells := 0, slots := 0, locals := 24 } : Room)) (fun a U => a = #[(.ref a1), (.int p1), (.int p2)] ∧ Z.Warmed39 U.vm ∧ U.heap = h0) (fun _ _ _ _ _ => True) (fun _ U o U' => ∃ v L, o = .returned v ∧ Q_init Z a1 p1 p2 h0 n0 v U'.heap L ∧ FrameEnd U o U' L ({ frames := 2, cells := 0, slots := 0, locals := 24 } : Room).cells ({ frames := 2, cells := 0, slots := 0, locals := 24 } : Room).slots) := by
  refine MetFree.of_bodySF (plainFor_of_name pn_4) hisR ?_
  intro p e s m args below meth c s₁ Bd hml0 hP hK
  obtain ⟨rfl, hZ, hh⟩ := hP
  have hx := Bd.exec
  have hby := Bd.bytes
  have hml : c.maxLocals = 3 := hml0
  have hown : s.vm.findClass "com/example/indizio/indizio/core/Ipv4Prefix" = some m.cls := findClass_of_methodNamed Bd.named
  have hnm := (name_of_methodNamed Bd.named Bd.method).1
  have X0 : Stand p l e ({ frames := 2, cells := 0, slots := 0, locals := 24 } : Room) s m #[(.ref a1), (.int p1), (.int p2)] below meth c s₁ [] 0 0 := Stand.of_body Bd
  have e0 : s₁.heap = h0 := by rw [← hh, Bd.state]; rfl
  have N0 := Fr.nil n0
  have c0 : Goes p e below s₁ (entryFrame m #[(.ref a1), (.int p1), (.int p2)] 3) s₁ (mkF m 0 #[.val (.ref a1), .val (.int p1), .val (.int p2)] []) := fun t k => castTop (ef_init m a1 p1 p2) k
  have c9 : Goes p e below s₁ (entryFrame m #[(.ref a1), (.int p1), (.int p2)] 3) s₁ (mkF m 1 #[.val (.ref a1), .val (.int p1), .val (.int p2)] [(.ref a1)]) := by
    intro t kk
    refine c0 t ?_
    show Steps p.tables e below (s₁.setTop (mkF m 0 #[.val (.ref a1), .val (.int p1), .val (.int p2)] [])) t
    refine XS.aloadN X0.here hx rfl (hb hby d1_0) rfl rfl ?_
    exact kk
  obtain ⟨_, _, ⟨T10, L10, k10, n10⟩, -, X10, ⟨Lc10, hQ10, l10, y10, z10⟩, st10⟩ := X0.specialBack hx (y := (⟨"java/lang/Record", "<init>", "()V"⟩ : MethodName)) rfl hown (mvT hZ (hw _ (List.mem_of_getElem? (i := 8) rfl))) (mvT hZ (hw _ (List.mem_of_getElem? (i := 9) rfl))) (mvT hZ (hw _ (List.mem_of_getElem? (i := 12) rfl))) (by decide) (backOf (W := 0) (rm_rec l Z a0 hw [] a1 h0 n0 Z0) hZ (hw _ (List.mem_of_getElem? (i := 12) rfl)) (hw _ (List.mem_of_getElem? (i := 11) rfl)) (by decide) (by decide)) (g := (mkF m 1 #[.val (.ref a1), .val (.int p1), .val (.int p2)] [(.ref a1)])) rfl (by rw [hml]; rfl) (Steps.refl _) (a := a1) (argsL := []) (rest := []) (lenOf pd___V rfl) rfl (by show 2 * 0 + _ ≤ _; exact Nat.le_of_eq rfl) (hb hby d1_1) (fun _ _ => ⟨rfl, e0, (by decide : 0 + 0 ≤ _), (by decide : 0 + 0 ≤ _)⟩)
  dsimp only [Pt.U, Pt.locs, Pt.cells, Pt.slots] at X10 l10 y10 z10 st10 hQ10
  subst l10 y10 z10
  obtain ⟨rfl, Nq10, eq10⟩ := hQ10
  have N10 := Fr.app N0 Nq10
  have c11 : Goes p e below s₁ (entryFrame m #[(.ref a1), (.int p1), (.int p2)] 3) T10 (mkF m 4 #[.val (.ref a1), .val (.int p1), .val (.int p2)] []) := fun t kk => c9 t (st10.trans kk)
  have c12 : Goes p e below s₁ (entryFrame m #[(.ref a1), (.int p1), (.int p2)] 3) T10 (mkF m 5 #[.val (.ref a1), .val (.int p1), .val (.int p2)] [(.int p2)]) := by
    intro t kk
    refine c11 t ?_
    show Steps p.tables e below (T10.setTop (mkF m 4 #[.val (.ref a1), .val (.int p1), .val (.int p2)] [])) t
    refine XS.iloadN X10.here hx rfl (hb hby d1_4) rfl ?_
    exact kk
  obtain ⟨_, _, ⟨T13, L13, k13, n13⟩, -, X13, ⟨Lc13, hQ13, l13, y13, z13⟩, st13⟩ := Jvm.LawKit.callS X10 hx (y := (⟨"com/example/indizio/indizio/core/Ipv4Prefix", "checkLength", "(I)V"⟩ : MethodName)) hown (mvT hZ (hw _ (List.mem_of_getElem? (i := 16) rfl))) (mvT hZ (hw _ (List.mem_of_getElem? (i := 17) rfl))) (mvT hZ (hw _ (List.mem_of_getElem? (i := 4) rfl))) (mvT hZ (hw _ (List.mem_of_getElem? (i := 18) rfl))) (by decide) (backOf (W := 0) (rm_chk l Z a0 hw [] p2 h0 n0 Z0 hr) hZ (hw _ (List.mem_of_getElem? (i := 18) rfl)) (hw _ (List.mem_of_getElem? (i := 4) rfl)) (by decide) (by decide)) (g := (mkF m 5 #[.val (.ref a1), .val (.int p1), .val (.int p2)] [(.int p2)])) rfl (by rw [hml]; rfl) (argsL := [(.int p2)]) (rest := []) (lenOf pd__I_V rfl) rfl (by show 2 * 0 + _ ≤ _; exact Nat.le_of_eq rfl) (hb hby d1_5) (fun _ _ => ⟨rfl, eq10, (by decide : 0 + 0 ≤ _), (by decide : 0 + 0 ≤ _)⟩)
  dsimp only [Pt.U, Pt.locs, Pt.cells, Pt.slots] at X13 l13 y13 z13 st13 hQ13
  subst l13 y13 z13
  obtain ⟨rfl, Nq13, eq13⟩ := hQ13
  have N13 := Fr.app N10 Nq13
  have c14 : Goes p e below s₁ (entryFrame m #[(.ref a1), (.int p1), (.int p2)] 3) T13 (mkF m 8 #[.val (.ref a1), .val (.int p1), .val (.int p2)] []) := fun t kk => c12 t (st13 t kk)
  have c15 : Goes p e below s₁ (entryFrame m #[(.ref a1), (.int p1), (.int p2)] 3) T13 (mkF m 10 #[.val (.ref a1), .val (.int p1), .val (.int p2)] [(.int p2), (.int p1)]) := by
    intro t kk
    refine c14 t ?_
    show Steps p.tables e below (T13.setTop (mkF m 8 #[.val (.ref a1), .val (.int p1), .val (.int p2)] [])) t
    refine XS.iloadN X13.here hx rfl (hb hby d1_8) rfl ?_
    show Steps p.tables e below (T13.setTop (mkF m 9 #[.val (.ref a1), .val (.int p1), .val (.int p2)] [(.int p1)])) t
    refine XS.iloadN X13.here hx rfl (hb hby d1_9) rfl ?_
    exact kk
  obtain ⟨_, _, ⟨T16, L16, k16, n16⟩, -, X16, ⟨Lc16, hQ16, l16, y16, z16⟩, st16⟩ := Jvm.LawKit.callS X13 hx (y := (⟨"com/example/indizio/indizio/core/Ipv4Prefix", "mask", "(I)I"⟩ : MethodName)) hown (mvT hZ (hw _ (List.mem_of_getElem? (i := 19) rfl))) (mvT hZ (hw _ (List.mem_of_getElem? (i := 20) rfl))) (mvT hZ (hw _ (List.mem_of_getElem? (i := 4) rfl))) (mvT hZ (hw _ (List.mem_of_getElem? (i := 21) rfl))) (by decide) (backOf (W := 1) (rm_mask l Z a0 hw [] p2 h0 n0 Z0) hZ (hw _ (List.mem_of_getElem? (i := 21) rfl)) (hw _ (List.mem_of_getElem? (i := 4) rfl)) (by decide) (by decide)) (g := (mkF m 10 #[.val (.ref a1), .val (.int p1), .val (.int p2)] [(.int p2), (.int p1)])) rfl (by rw [hml]; rfl) (argsL := [(.int p2)]) (rest := [(.int p1)]) (lenOf pd__I_I rfl) rfl (by show 2 * 0 + _ ≤ _; exact Nat.le_of_eq rfl) (hb hby d1_10) (fun _ _ => ⟨rfl, eq13, (by decide : 0 + 0 ≤ _), (by decide : 0 + 0 ≤ _)⟩)
  dsimp only [Pt.U, Pt.locs, Pt.cells, Pt.slots] at X16 l16 y16 z16 st16 hQ16
  subst l16 y16 z16
  obtain ⟨rfl, Nq16, eq16⟩ := hQ16
  have N16 := Fr.app N13 Nq16
  have c17 : Goes p e below s₁ (entryFrame m #[(.ref a1), (.int p1), (.int p2)] 3) T16 (mkF m 13 #[.val (.ref a1), .val (.int p1), .val (.int p2)] [(.int (own_mask p2)), (.int p1)]) := fun t kk => c15 t (st16 t kk)
  have c18 : Goes p e below s₁ (entryFrame m #[(.ref a1), (.int p1), (.int p2)] 3) T16 (mkF m 46 #[.val (.ref a1), .val (.int p1), .val (.int p2)] [(.int p1), (.ref a1)]) := by
    intro t kk
    refine c17 t ?_
    show Steps p.tables e below (T16.setTop (mkF m 13 #[.val (.ref a1), .val (.int p1), .val (.int p2)] [(.int (own_mask p2)), (.int p1)])) t
    refine XS.iconst X16.here hx rfl (hb hby d1_13) ?_
    show Steps p.tables e below (T16.setTop (mkF m 14 #[.val (.ref a1), .val (.int p1), .val (.int p2)] [(.int (-1 : Int32)), (.int (own_mask p2)), (.int p1)])) t
    refine XS.ixor X16.here hx rfl (hb hby d1_14) rfl ?_
    show Steps p.tables e below (T16.setTop (mkF m 15 #[.val (.ref a1), .val (.int p1), .val (.int p2)] [(.int ((own_mask p2) ^^^ (-1 : Int32))), (.int p1)])) t
    refine XS.iand X16.here hx rfl (hb hby d1_15) rfl ?_
    show Steps p.tables e below (T16.setTop (mkF m 16 #[.val (.ref a1), .val (.int p1), .val (.int p2)] [(.int (p1 &&& ((own_mask p2) ^^^ (-1 : Int32))))])) t
    refine XS.ifYes X16.here hx rfl (pc0 := 16) (pc' := 44) rfl (hb hby d1_16) rfl ((if0 _ _).trans (teq hz).1) (by decide) (by decide) ?_
    show Steps p.tables e below (T16.setTop (mkF m 44 #[.val (.ref a1), .val (.int p1), .val (.int p2)] [])) t
    refine XS.aloadN X16.here hx rfl (hb hby d1_44) rfl rfl ?_
    show Steps p.tables e below (T16.setTop (mkF m 45 #[.val (.ref a1), .val (.int p1), .val (.int p2)] [(.ref a1)])) t
    refine XS.iloadN X16.here hx rfl (hb hby d1_45) rfl ?_
    exact kk
  obtain ⟨T19, h19, X19, e19, W19, st19⟩ := putF X16 hx hZ hown (host := "") (Or.inl (hw _ (List.mem_of_getElem? (i := 22) rfl))) Via.refl eq16 F_address E1 (Or.inr ⟨(hw _ (List.mem_of_getElem? (i := 23) rfl)), rfl, hnm⟩) (hw _ (List.mem_of_getElem? (i := 3) rfl)) (ty := .int) (by decide) rfl rfl (g := (mkF m 46 #[.val (.ref a1), .val (.int p1), .val (.int p2)] [(.int p1), (.ref a1)])) rfl rfl (hb hby d1_46)
  have N19 := Fr.snoc X19 N16 g1
  have F19 := F_address.same W19
  have c20 : Goes p e below s₁ (entryFrame m #[(.ref a1), (.int p1), (.int p2)] 3) T19 (mkF m 49 #[.val (.ref a1), .val (.int p1), .val (.int p2)] []) := fun t kk => c18 t (st19 t kk)
  have c21 : Goes p e below s₁ (entryFrame m #[(.ref a1), (.int p1), (.int p2)] 3) T19 (mkF m 51 #[.val (.ref a1), .val (.int p1), .val (.int p2)] [(.int p2), (.ref a1)]) := by
    intro t kk
    refine c20 t ?_
    show Steps p.tables e below (T19.setTop (mkF m 49 #[.val (.ref a1), .val (.int p1), .val (.int p2)] [])) t
    refine XS.aloadN X19.here hx rfl (hb hby d1_49) rfl rfl ?_
    show Steps p.tables e below (T19.setTop (mkF m 50 #[.val (.ref a1), .val (.int p1), .val (.int p2)] [(.ref a1)])) t
    refine XS.iloadN X19.here hx rfl (hb hby d1_50) rfl ?_
    exact kk
  have f22 := (F_length.other W19 (Or.inr (slot_ne (Or.inr (hw _ (List.mem_of_getElem? (i := 25) rfl))) (Or.inr (hw _ (List.mem_of_getElem? (i := 23) rfl))) (by decide) (t := .int) (t' := .int) (by decide) (by decide))))
  have f23 := (E1.wr W19)
  obtain ⟨T24, h24, X24, e24, W24, st24⟩ := putF X19 hx hZ hown (host := "") (Or.inl (hw _ (List.mem_of_getElem? (i := 24) rfl))) Via.refl e19 f22 f23 (Or.inr ⟨(hw _ (List.mem_of_getElem? (i := 25) rfl)), rfl, hnm⟩) (hw _ (List.mem_of_getElem? (i := 3) rfl)) (ty := .int) (by decide) rfl rfl (g := (mkF m 51 #[.val (.ref a1), .val (.int p1), .val (.int p2)] [(.int p2), (.ref a1)])) rfl rfl (hb hby d1_51)
  have N24 := Fr.snoc X24 N19 g1
  have F24 := f22.same W24
  have c25 : Goes p e below s₁ (entryFrame m #[(.ref a1), (.int p1), (.int p2)] 3) T24 (mkF m 54 #[.val (.ref a1), .val (.int p1), .val (.int p2)] []) := fun t kk => c21 t (st24 t kk)
  have f26 := (((Keep.refl h0 [a1]).wr W19 (Or.inl (List.mem_of_getElem? (i := 0) rfl))).wr W24 (Or.inl (List.mem_of_getElem? (i := 0) rfl)))
  have f27 := (f23.wr W24)
  have f28 := (F19.other W24 (Or.inr (slot_ne (Or.inr (hw _ (List.mem_of_getElem? (i := 23) rfl))) (Or.inr (hw _ (List.mem_of_getElem? (i := 25) rfl))) (by decide) (t := .int) (t' := .int) (by decide) (by decide))))
  obtain ⟨fs, hr, hrun, hended, hW, hsame⟩ := X24.leave (v := none) (fun _ => rfl)
  refine ⟨_, _, c25 _ ?_, hrun, hended, _, _, rfl, ?_, ⟨_, rfl⟩, hW, hsame.mono (by decide) (by decide)⟩
  · exact X24.returnOut hx Bd.returns (hb hby d1_54) hr
  · show Q_init Z a1 p1 p2 h0 n0 _ T24.heap _
    rw [e24]
    exact ⟨rfl, N24, f26, f27, f28, F24⟩
theorem d6_0 : decode prog_11_method_4_code 0 = .ok (.aload_n 1, 1) := by decide +kernel
theorem d6_1 : decode prog_11_method_4_code 1 = .ok (.getfield 40, 3) := by decide +kernel
theorem d6_4 : decode prog_11_method_4_code 4 = .ok (.aload_n 0, 1) := by decide +kernel
theorem d6_5 : decode prog_11_method_4_code 5 = .ok (.getfield 40, 3) := by decide +kernel
theorem d6_8 : decode prog_11_method_4_code 8 = .ok (.if_icmp .lt 26, 3) := by decide +kernel
theorem d6_11 : decode prog_11_method_4_code 11 = .ok (.aload_n 1, 1) := by decide +kernel
theorem d6_12 : decode prog_11_method_4_code 12 = .ok (.getfield 36, 3) := by decide +kernel
theorem d6_15 : decode prog_11_method_4_code 15 = .ok (.aload_n 0, 1) := by decide +kernel
theorem d6_16 : decode prog_11_method_4_code 16 = .ok (.getfield 40, 3) := by decide +kernel
theorem d6_19 : decode prog_11_method_4_code 19 = .ok (.invokestatic 13, 3) := by decide +kernel
theorem d6_22 : decode prog_11_method_4_code 22 = .ok (.iand, 1) := by decide +kernel
theorem d6_23 : decode prog_11_method_4_code 23 = .ok (.aload_n 0, 1) := by decide +kernel
theorem d6_24 : decode prog_11_method_4_code 24 = .ok (.getfield 36, 3) := by decide +kernel
theorem d6_27 : decode prog_11_method_4_code 27 = .ok (.if_icmp .ne 7, 3) := by decide +kernel
theorem d6_30 : decode prog_11_method_4_code 30 = .ok (.iconst 1, 1) := by decide +kernel
theorem d6_31 : decode prog_11_method_4_code 31 = .ok (.goto 4, 3) := by decide +kernel
theorem d6_34 : decode prog_11_method_4_code 34 = .ok (.iconst 0, 1) := by decide +kernel
theorem d6_35 : decode prog_11_method_4_code 35 = .ok (.ireturn, 1) := by decide +kernel
theorem ef_con (m : MethodId) (x0 : Addr) (x1 : Addr) : entryFrame m #[(.ref x0), (.ref x1)] 2 = mkF m 0 #[.val (.ref x0), .val (.ref x1)] [] := by (first | (simp [entryFrame, mkF, argsToLocals, Value.category]; done) | rfl)
def Q_con (Z : State) (a1 : Addr) (a2 : Addr) (A1 : Int32) (L1 : Int32) (A2 : Int32) (L2 : Int32) (h0 : Heap) (n0 : Nat) (v : Option Value) (h : Heap) (L : List Loc) : Prop := v = some (.int (own_con A1 L1 A2 L2)) ∧ Fr n0 L ∧ h = h0
set_option maxRecDepth 65536 in
set_option maxHeartbeats 40000000 in
theorem rm_con (l : Launch) (Z : State) (a0 : Array Value) (hw : ∀ d ∈ tables_1, d.before a0 Z = true) (ws : List Jvm.Cond) (a1 : Addr) (a2 : Addr) (A1 : Int32) (L1 : Int32) (A2 : Int32) (L2 : Int32) (h0 : Heap) (n0 : Nat) (Z0 : n0 ≤ h0.size) (FA1 : Fld Z h0 a1 "com/example/indizio/indizio/core/Ipv4Prefix" "address" "I" (.int A1)) (FL1 : Fld Z h0 a1 "com/example/indizio/indizio/core/Ipv4Prefix" "length" "I" (.int L1)) (FA2 : Fld Z h0 a2 "com/example/indizio/indizio/core/Ipv4Prefix" "address" "I" (.int A2)) (FL2 : Fld Z h0 a2 "com/example/indizio/indizio/core/Ipv4Prefix" "length" "I" (.int L2)) :
    MetFree l (⟨"com/example/indizio/indizio/core/Ipv4Prefix", "contains", "(Lcom/example/indizio/indizio/core/Ipv4Prefix;)Z"⟩ : MethodName) (head1 (Jvm.Cond.code (⟨"com/example/indizio/indizio/core/Ipv4Prefix", "contains", "(Lcom/example/indizio/indizio/core/Ipv4Prefix;)Z"⟩ : MethodName) prog_11_method_4_code 2 (some .boolean) :: ws) ({ frames := 1, cells := 0, slots := 0, locals := 13 } : Room)) (fun a U => a = #[(.ref a1), (.ref a2)] ∧ Z.Warmed39 U.vm ∧ U.heap = h0) (fun _ _ _ _ _ => True) (fun _ U o U' => ∃ v L, o = .returned v ∧ Q_con Z a1 a2 A1 L1 A2 L2 h0 n0 v U'.heap L ∧ FrameEnd U o U' L ({ frames := 1, cells := 0, slots := 0, locals := 13 } : Room).cells ({ frames := 1, cells := 0, slots := 0, locals := 13 } : Room).slots) := by
  refine MetFree.of_bodySF (plainFor_of_name pn_4) hisR ?_
  intro p e s m args below meth c s₁ Bd hml0 hP hK
  obtain ⟨rfl, hZ, hh⟩ := hP
  have hx := Bd.exec
  have hby := Bd.bytes
  have hml : c.maxLocals = 2 := hml0
  have hown : s.vm.findClass "com/example/indizio/indizio/core/Ipv4Prefix" = some m.cls := findClass_of_methodNamed Bd.named
  have hnm := (name_of_methodNamed Bd.named Bd.method).1
  have X0 : Stand p l e ({ frames := 1, cells := 0, slots := 0, locals := 13 } : Room) s m #[(.ref a1), (.ref a2)] below meth c s₁ [] 0 0 := Stand.of_body Bd
  have e0 : s₁.heap = h0 := by rw [← hh, Bd.state]; rfl
  have N0 := Fr.nil n0
  have c0 : Goes p e below s₁ (entryFrame m #[(.ref a1), (.ref a2)] 2) s₁ (mkF m 0 #[.val (.ref a1), .val (.ref a2)] []) := fun t k => castTop (ef_con m a1 a2) k
  have c29 : Goes p e below s₁ (entryFrame m #[(.ref a1), (.ref a2)] 2) s₁ (mkF m 1 #[.val (.ref a1), .val (.ref a2)] [(.ref a2)]) := by
    intro t kk
    refine c0 t ?_
    show Steps p.tables e below (s₁.setTop (mkF m 0 #[.val (.ref a1), .val (.ref a2)] [])) t
    refine XS.aloadN X0.here hx rfl (hb hby d6_0) rfl rfl ?_
    exact kk
  obtain ⟨T30, X30, e30, st30⟩ := getF X0 hx hZ hown (host := "") (Or.inl (hw _ (List.mem_of_getElem? (i := 24) rfl))) Via.refl e0 FL2 (g := (mkF m 1 #[.val (.ref a1), .val (.ref a2)] [(.ref a2)])) rfl rfl (hb hby d6_1)
  have c31 : Goes p e below s₁ (entryFrame m #[(.ref a1), (.ref a2)] 2) T30 (mkF m 4 #[.val (.ref a1), .val (.ref a2)] [(.int L2)]) := fun t kk => c29 t (st30 t kk)
  have c32 : Goes p e below s₁ (entryFrame m #[(.ref a1), (.ref a2)] 2) T30 (mkF m 5 #[.val (.ref a1), .val (.ref a2)] [(.ref a1), (.int L2)]) := by
    intro t kk
    refine c31 t ?_
    show Steps p.tables e below (T30.setTop (mkF m 4 #[.val (.ref a1), .val (.ref a2)] [(.int L2)])) t
    refine XS.aloadN X30.here hx rfl (hb hby d6_4) rfl rfl ?_
    exact kk
  obtain ⟨T33, X33, e33, st33⟩ := getF X30 hx hZ hown (host := "") (Or.inl (hw _ (List.mem_of_getElem? (i := 24) rfl))) Via.refl e30 FL1 (g := (mkF m 5 #[.val (.ref a1), .val (.ref a2)] [(.ref a1), (.int L2)])) rfl rfl (hb hby d6_5)
  have c34 : Goes p e below s₁ (entryFrame m #[(.ref a1), (.ref a2)] 2) T33 (mkF m 8 #[.val (.ref a1), .val (.ref a2)] [(.int L1), (.int L2)]) := fun t kk => c32 t (st33 t kk)
  by_cases hc8_35 : L2 < L1
  · have c36 : Goes p e below s₁ (entryFrame m #[(.ref a1), (.ref a2)] 2) T33 (mkF m 35 #[.val (.ref a1), .val (.ref a2)] [(.int (0 : Int32))]) := by
      intro t kk
      refine c34 t ?_
      show Steps p.tables e below (T33.setTop (mkF m 8 #[.val (.ref a1), .val (.ref a2)] [(.int L1), (.int L2)])) t
      refine XS.icmpYes X33.here hx rfl (pc0 := 8) (pc' := 34) rfl (hb hby d6_8) rfl (tlt hc8_35).1 (by decide) (by decide) ?_
      show Steps p.tables e below (T33.setTop (mkF m 34 #[.val (.ref a1), .val (.ref a2)] [])) t
      refine XS.iconst X33.here hx rfl (hb hby d6_34) ?_
      exact kk
    obtain ⟨fs, hr, hrun, hended, hW, hsame⟩ := X33.leave (v := some (.int (0 : Int32))) (fun h => by rw [Bd.returns] at h; cases h)
    refine ⟨_, _, c36 _ ?_, hrun, hended, _, _, rfl, ?_, ⟨_, rfl⟩, hW, hsame.mono (by decide) (by decide)⟩
    · exact retN X33 hx (t := .boolean) Bd.returns (by simp) (hb hby d6_35) hr
    · show Q_con Z a1 a2 A1 L1 A2 L2 h0 n0 _ T33.heap _
      rw [e33]
      exact ⟨by simp [own_con, hc8_35], N0, rfl⟩
  · have c37 : Goes p e below s₁ (entryFrame m #[(.ref a1), (.ref a2)] 2) T33 (mkF m 12 #[.val (.ref a1), .val (.ref a2)] [(.ref a2)]) := by
      intro t kk
      refine c34 t ?_
      show Steps p.tables e below (T33.setTop (mkF m 8 #[.val (.ref a1), .val (.ref a2)] [(.int L1), (.int L2)])) t
      refine XS.icmpNo X33.here hx rfl (hb hby d6_8) rfl (flt hc8_35).1 ?_
      show Steps p.tables e below (T33.setTop (mkF m 11 #[.val (.ref a1), .val (.ref a2)] [])) t
      refine XS.aloadN X33.here hx rfl (hb hby d6_11) rfl rfl ?_
      exact kk
    obtain ⟨T38, X38, e38, st38⟩ := getF X33 hx hZ hown (host := "") (Or.inl (hw _ (List.mem_of_getElem? (i := 22) rfl))) Via.refl e33 FA2 (g := (mkF m 12 #[.val (.ref a1), .val (.ref a2)] [(.ref a2)])) rfl rfl (hb hby d6_12)
    have c39 : Goes p e below s₁ (entryFrame m #[(.ref a1), (.ref a2)] 2) T38 (mkF m 15 #[.val (.ref a1), .val (.ref a2)] [(.int A2)]) := fun t kk => c37 t (st38 t kk)
    have c40 : Goes p e below s₁ (entryFrame m #[(.ref a1), (.ref a2)] 2) T38 (mkF m 16 #[.val (.ref a1), .val (.ref a2)] [(.ref a1), (.int A2)]) := by
      intro t kk
      refine c39 t ?_
      show Steps p.tables e below (T38.setTop (mkF m 15 #[.val (.ref a1), .val (.ref a2)] [(.int A2)])) t
      refine XS.aloadN X38.here hx rfl (hb hby d6_15) rfl rfl ?_
      exact kk
    obtain ⟨T41, X41, e41, st41⟩ := getF X38 hx hZ hown (host := "") (Or.inl (hw _ (List.mem_of_getElem? (i := 24) rfl))) Via.refl e38 FL1 (g := (mkF m 16 #[.val (.ref a1), .val (.ref a2)] [(.ref a1), (.int A2)])) rfl rfl (hb hby d6_16)
    have c42 : Goes p e below s₁ (entryFrame m #[(.ref a1), (.ref a2)] 2) T41 (mkF m 19 #[.val (.ref a1), .val (.ref a2)] [(.int L1), (.int A2)]) := fun t kk => c40 t (st41 t kk)
    obtain ⟨_, _, ⟨T43, L43, k43, n43⟩, -, X43, ⟨Lc43, hQ43, l43, y43, z43⟩, st43⟩ := Jvm.LawKit.callS X41 hx (y := (⟨"com/example/indizio/indizio/core/Ipv4Prefix", "mask", "(I)I"⟩ : MethodName)) hown (mvT hZ (hw _ (List.mem_of_getElem? (i := 19) rfl))) (mvT hZ (hw _ (List.mem_of_getElem? (i := 20) rfl))) (mvT hZ (hw _ (List.mem_of_getElem? (i := 4) rfl))) (mvT hZ (hw _ (List.mem_of_getElem? (i := 21) rfl))) (by decide) (backOf (W := 1) (rm_mask l Z a0 hw [] L1 h0 n0 Z0) hZ (hw _ (List.mem_of_getElem? (i := 21) rfl)) (hw _ (List.mem_of_getElem? (i := 4) rfl)) (by decide) (by decide)) (g := (mkF m 19 #[.val (.ref a1), .val (.ref a2)] [(.int L1), (.int A2)])) rfl (by rw [hml]; rfl) (argsL := [(.int L1)]) (rest := [(.int A2)]) (lenOf pd__I_I rfl) rfl (by show 2 * 0 + _ ≤ _; exact Nat.le_of_eq rfl) (hb hby d6_19) (fun _ _ => ⟨rfl, e41, (by decide : 0 + 0 ≤ _), (by decide : 0 + 0 ≤ _)⟩)
    dsimp only [Pt.U, Pt.locs, Pt.cells, Pt.slots] at X43 l43 y43 z43 st43 hQ43
    subst l43 y43 z43
    obtain ⟨rfl, Nq43, eq43⟩ := hQ43
    have N43 := Fr.app N0 Nq43
    have c44 : Goes p e below s₁ (entryFrame m #[(.ref a1), (.ref a2)] 2) T43 (mkF m 22 #[.val (.ref a1), .val (.ref a2)] [(.int (own_mask L1)), (.int A2)]) := fun t kk => c42 t (st43 t kk)
    have c45 : Goes p e below s₁ (entryFrame m #[(.ref a1), (.ref a2)] 2) T43 (mkF m 24 #[.val (.ref a1), .val (.ref a2)] [(.ref a1), (.int (A2 &&& (own_mask L1)))]) := by
      intro t kk
      refine c44 t ?_
      show Steps p.tables e below (T43.setTop (mkF m 22 #[.val (.ref a1), .val (.ref a2)] [(.int (own_mask L1)), (.int A2)])) t
      refine XS.iand X43.here hx rfl (hb hby d6_22) rfl ?_
      show Steps p.tables e below (T43.setTop (mkF m 23 #[.val (.ref a1), .val (.ref a2)] [(.int (A2 &&& (own_mask L1)))])) t
      refine XS.aloadN X43.here hx rfl (hb hby d6_23) rfl rfl ?_
      exact kk
    obtain ⟨T46, X46, e46, st46⟩ := getF X43 hx hZ hown (host := "") (Or.inl (hw _ (List.mem_of_getElem? (i := 22) rfl))) Via.refl eq43 FA1 (g := (mkF m 24 #[.val (.ref a1), .val (.ref a2)] [(.ref a1), (.int (A2 &&& (own_mask L1)))])) rfl rfl (hb hby d6_24)
    have c47 : Goes p e below s₁ (entryFrame m #[(.ref a1), (.ref a2)] 2) T46 (mkF m 27 #[.val (.ref a1), .val (.ref a2)] [(.int A1), (.int (A2 &&& (own_mask L1)))]) := fun t kk => c45 t (st46 t kk)
    by_cases hc27_48 : (A2 &&& (own_mask L1)) = A1
    · have c49 : Goes p e below s₁ (entryFrame m #[(.ref a1), (.ref a2)] 2) T46 (mkF m 35 #[.val (.ref a1), .val (.ref a2)] [(.int (1 : Int32))]) := by
        intro t kk
        refine c47 t ?_
        show Steps p.tables e below (T46.setTop (mkF m 27 #[.val (.ref a1), .val (.ref a2)] [(.int A1), (.int (A2 &&& (own_mask L1)))])) t
        refine XS.icmpNo X46.here hx rfl (hb hby d6_27) rfl (teq hc27_48).2 ?_
        show Steps p.tables e below (T46.setTop (mkF m 30 #[.val (.ref a1), .val (.ref a2)] [])) t
        refine XS.iconst X46.here hx rfl (hb hby d6_30) ?_
        show Steps p.tables e below (T46.setTop (mkF m 31 #[.val (.ref a1), .val (.ref a2)] [(.int (1 : Int32))])) t
        refine XS.goto X46.here hx rfl (pc0 := 31) (pc' := 35) rfl (hb hby d6_31) (by decide) (by decide) ?_
        exact kk
      obtain ⟨fs, hr, hrun, hended, hW, hsame⟩ := X46.leave (v := some (.int (1 : Int32))) (fun h => by rw [Bd.returns] at h; cases h)
      refine ⟨_, _, c49 _ ?_, hrun, hended, _, _, rfl, ?_, ⟨_, rfl⟩, hW, hsame.mono (by decide) (by decide)⟩
      · exact retN X46 hx (t := .boolean) Bd.returns (by simp) (hb hby d6_35) hr
      · show Q_con Z a1 a2 A1 L1 A2 L2 h0 n0 _ T46.heap _
        rw [e46]
        exact ⟨by simp [own_con, hc8_35, hc27_48], N43, rfl⟩
    · have c50 : Goes p e below s₁ (entryFrame m #[(.ref a1), (.ref a2)] 2) T46 (mkF m 35 #[.val (.ref a1), .val (.ref a2)] [(.int (0 : Int32))]) := by
        intro t kk
        refine c47 t ?_
        show Steps p.tables e below (T46.setTop (mkF m 27 #[.val (.ref a1), .val (.ref a2)] [(.int A1), (.int (A2 &&& (own_mask L1)))])) t
        refine XS.icmpYes X46.here hx rfl (pc0 := 27) (pc' := 34) rfl (hb hby d6_27) rfl (feq hc27_48).2 (by decide) (by decide) ?_
        show Steps p.tables e below (T46.setTop (mkF m 34 #[.val (.ref a1), .val (.ref a2)] [])) t
        refine XS.iconst X46.here hx rfl (hb hby d6_34) ?_
        exact kk
      obtain ⟨fs, hr, hrun, hended, hW, hsame⟩ := X46.leave (v := some (.int (0 : Int32))) (fun h => by rw [Bd.returns] at h; cases h)
      refine ⟨_, _, c50 _ ?_, hrun, hended, _, _, rfl, ?_, ⟨_, rfl⟩, hW, hsame.mono (by decide) (by decide)⟩
      · exact retN X46 hx (t := .boolean) Bd.returns (by simp) (hb hby d6_35) hr
      · show Q_con Z a1 a2 A1 L1 A2 L2 h0 n0 _ T46.heap _
        rw [e46]
        exact ⟨by simp [own_con, hc8_35, hc27_48], N43, rfl⟩
theorem pn_0 : plainName "com/example/indizio/indizio/core/Ipv4PrefixContainsPinLaw" = true := by first | (simp [plainName, overriddenIn]; done) | decide +kernel
theorem pd__II_V : parseMethodDescriptor "(II)V" = some ⟨[.int, .int], none⟩ := by decide +kernel
theorem pd__Lcom_example_indizio_indizio_core_Ipv4Prefix__Z : parseMethodDescriptor "(Lcom/example/indizio/indizio/core/Ipv4Prefix;)Z" = some ⟨[(.object "com/example/indizio/indizio/core/Ipv4Prefix")], some .boolean⟩ := by decide +kernel
theorem ef_law (m : MethodId) (x0 : Int32) (x1 : Int32) (x2 : Int32) (x3 : Int32) (x4 : Int32) : entryFrame m #[(.int x0), (.int x1), (.int x2), (.int x3), (.int x4)] maxLocals = mkF m 0 #[.val (.int x0), .val (.int x1), .val (.int x2), .val (.int x3), .val (.int x4), .unset, .unset, .unset, .unset, .unset, .unset, .unset, .unset, .unset, .unset, .unset, .unset, .unset, .unset, .unset, .unset, .unset, .unset, .unset, .unset, .unset, .unset, .unset, .unset, .unset] [] := by (first | (simp [entryFrame, mkF, argsToLocals, Value.category, maxLocals]; done) | rfl)
def Q_law (Z : State) (p0 : Int32) (p1 : Int32) (p2 : Int32) (p3 : Int32) (p4 : Int32) (h0 : Heap) (n0 : Nat) (v : Option Value) (h : Heap) (L : List Loc) : Prop := v = some (.int 1) ∧ Fr n0 L
set_option maxRecDepth 65536 in
set_option maxHeartbeats 40000000 in
theorem rm_law (l : Launch) (Z : State) (a0 : Array Value) (hw : ∀ d ∈ tables_1, d.before a0 Z = true) (ws : List Jvm.Cond) (p0 : Int32) (p1 : Int32) (p2 : Int32) (p3 : Int32) (p4 : Int32) (h0 : Heap) (n0 : Nat) (Z0 : n0 ≤ h0.size)  :
    MetFree l x (head1 (Jvm.Cond.code x code maxLocals ret :: ws) room_1) (fun a U => a = #[(.int p0), (.int p1), (.int p2), (.int p3), (.int p4)] ∧ Z.Warmed39 U.vm ∧ U.heap = h0) (fun _ _ _ _ _ => True) (fun _ U o U' => ∃ v L, o = .returned v ∧ Q_law Z p0 p1 p2 p3 p4 h0 n0 v U'.heap L ∧ FrameEnd U o U' L 2 4) := by
  refine MetFree.of_bodySF (plainFor_of_name pn_0) hisR ?_
  intro p e s m args below meth c s₁ Bd hml0 hP hK
  obtain ⟨rfl, hZ, hh⟩ := hP
  have hx := Bd.exec
  have hby := Bd.bytes
  have hml : c.maxLocals = 30 := hml0
  have hown : s.vm.findClass "com/example/indizio/indizio/core/Ipv4PrefixContainsPinLaw" = some m.cls := findClass_of_methodNamed Bd.named
  have hnm := (name_of_methodNamed Bd.named Bd.method).1
  have X0 : Stand p l e room_1 s m #[(.int p0), (.int p1), (.int p2), (.int p3), (.int p4)] below meth c s₁ [] 0 0 := Stand.of_body Bd
  have e0 : s₁.heap = h0 := by rw [← hh, Bd.state]; rfl
  have N0 := Fr.nil n0
  have c0 : Goes p e below s₁ (entryFrame m #[(.int p0), (.int p1), (.int p2), (.int p3), (.int p4)] maxLocals) s₁ (mkF m 0 #[.val (.int p0), .val (.int p1), .val (.int p2), .val (.int p3), .val (.int p4), .unset, .unset, .unset, .unset, .unset, .unset, .unset, .unset, .unset, .unset, .unset, .unset, .unset, .unset, .unset, .unset, .unset, .unset, .unset, .unset, .unset, .unset, .unset, .unset, .unset] []) := fun t k => castTop (ef_law m p0 p1 p2 p3 p4) k
  have c51 : Goes p e below s₁ (entryFrame m #[(.int p0), (.int p1), (.int p2), (.int p3), (.int p4)] maxLocals) s₁ (mkF m 9 #[.val (.int p0), .val (.int p1), .val (.int p2), .val (.int p3), .val (.int p4), .val (.int ((p1 &&& (2147483647 : Int32)) % (33 : Int32))), .unset, .unset, .unset, .unset, .unset, .unset, .unset, .unset, .unset, .unset, .unset, .unset, .unset, .unset, .unset, .unset, .unset, .unset, .unset, .unset, .unset, .unset, .unset, .unset] []) := by
    intro t kk
    refine c0 t ?_
    show Steps p.tables e below (s₁.setTop (mkF m 0 #[.val (.int p0), .val (.int p1), .val (.int p2), .val (.int p3), .val (.int p4), .unset, .unset, .unset, .unset, .unset, .unset, .unset, .unset, .unset, .unset, .unset, .unset, .unset, .unset, .unset, .unset, .unset, .unset, .unset, .unset, .unset, .unset, .unset, .unset, .unset] [])) t
    refine XS.iloadN X0.here hx rfl (hb hby at_0) rfl ?_
    show Steps p.tables e below (s₁.setTop (mkF m 1 #[.val (.int p0), .val (.int p1), .val (.int p2), .val (.int p3), .val (.int p4), .unset, .unset, .unset, .unset, .unset, .unset, .unset, .unset, .unset, .unset, .unset, .unset, .unset, .unset, .unset, .unset, .unset, .unset, .unset, .unset, .unset, .unset, .unset, .unset, .unset] [(.int p1)])) t
    refine X0.ldcInt hx hown (mvT hZ (hw _ (List.mem_of_getElem? (i := 0) rfl))) (g := (mkF m 1 #[.val (.int p0), .val (.int p1), .val (.int p2), .val (.int p3), .val (.int p4), .unset, .unset, .unset, .unset, .unset, .unset, .unset, .unset, .unset, .unset, .unset, .unset, .unset, .unset, .unset, .unset, .unset, .unset, .unset, .unset, .unset, .unset, .unset, .unset, .unset] [(.int p1)])) rfl (hb hby at_1) _ ?_
    show Steps p.tables e below (s₁.setTop (mkF m 3 #[.val (.int p0), .val (.int p1), .val (.int p2), .val (.int p3), .val (.int p4), .unset, .unset, .unset, .unset, .unset, .unset, .unset, .unset, .unset, .unset, .unset, .unset, .unset, .unset, .unset, .unset, .unset, .unset, .unset, .unset, .unset, .unset, .unset, .unset, .unset] [(.int (2147483647 : Int32)), (.int p1)])) t
    refine XS.iand X0.here hx rfl (hb hby at_3) rfl ?_
    show Steps p.tables e below (s₁.setTop (mkF m 4 #[.val (.int p0), .val (.int p1), .val (.int p2), .val (.int p3), .val (.int p4), .unset, .unset, .unset, .unset, .unset, .unset, .unset, .unset, .unset, .unset, .unset, .unset, .unset, .unset, .unset, .unset, .unset, .unset, .unset, .unset, .unset, .unset, .unset, .unset, .unset] [(.int (p1 &&& (2147483647 : Int32)))])) t
    refine XS.bipush X0.here hx rfl (hb hby at_4) ?_
    show Steps p.tables e below (s₁.setTop (mkF m 6 #[.val (.int p0), .val (.int p1), .val (.int p2), .val (.int p3), .val (.int p4), .unset, .unset, .unset, .unset, .unset, .unset, .unset, .unset, .unset, .unset, .unset, .unset, .unset, .unset, .unset, .unset, .unset, .unset, .unset, .unset, .unset, .unset, .unset, .unset, .unset] [(.int (33 : Int32)), (.int (p1 &&& (2147483647 : Int32)))])) t
    refine iremM X0 hx rfl (hb hby at_6) rfl (by decide) ?_
    show Steps p.tables e below (s₁.setTop (mkF m 7 #[.val (.int p0), .val (.int p1), .val (.int p2), .val (.int p3), .val (.int p4), .unset, .unset, .unset, .unset, .unset, .unset, .unset, .unset, .unset, .unset, .unset, .unset, .unset, .unset, .unset, .unset, .unset, .unset, .unset, .unset, .unset, .unset, .unset, .unset, .unset] [(.int ((p1 &&& (2147483647 : Int32)) % (33 : Int32)))])) t
    refine XS.istore X0.here hx rfl (hb hby at_7) rfl (l' := #[.val (.int p0), .val (.int p1), .val (.int p2), .val (.int p3), .val (.int p4), .val (.int ((p1 &&& (2147483647 : Int32)) % (33 : Int32))), .unset, .unset, .unset, .unset, .unset, .unset, .unset, .unset, .unset, .unset, .unset, .unset, .unset, .unset, .unset, .unset, .unset, .unset, .unset, .unset, .unset, .unset, .unset, .unset]) rfl ?_
    exact kk
  obtain ⟨len, h_len⟩ : ∃ z : Int32, z = ((p1 &&& (2147483647 : Int32)) % (33 : Int32)) := ⟨_, rfl⟩
  have c52 : Goes p e below s₁ (entryFrame m #[(.int p0), (.int p1), (.int p2), (.int p3), (.int p4)] maxLocals) s₁ (mkF m 9 #[.val (.int p0), .val (.int p1), .val (.int p2), .val (.int p3), .val (.int p4), .val (.int len), .unset, .unset, .unset, .unset, .unset, .unset, .unset, .unset, .unset, .unset, .unset, .unset, .unset, .unset, .unset, .unset, .unset, .unset, .unset, .unset, .unset, .unset, .unset, .unset] []) := by rw [h_len]; exact c51
  have c53 : Goes p e below s₁ (entryFrame m #[(.int p0), (.int p1), (.int p2), (.int p3), (.int p4)] maxLocals) s₁ (mkF m 18 #[.val (.int p0), .val (.int p1), .val (.int p2), .val (.int p3), .val (.int p4), .val (.int len), .val (.int ((p3 &&& (2147483647 : Int32)) % (33 : Int32))), .unset, .unset, .unset, .unset, .unset, .unset, .unset, .unset, .unset, .unset, .unset, .unset, .unset, .unset, .unset, .unset, .unset, .unset, .unset, .unset, .unset, .unset, .unset] []) := by
    intro t kk
    refine c52 t ?_
    show Steps p.tables e below (s₁.setTop (mkF m 9 #[.val (.int p0), .val (.int p1), .val (.int p2), .val (.int p3), .val (.int p4), .val (.int len), .unset, .unset, .unset, .unset, .unset, .unset, .unset, .unset, .unset, .unset, .unset, .unset, .unset, .unset, .unset, .unset, .unset, .unset, .unset, .unset, .unset, .unset, .unset, .unset] [])) t
    refine XS.iloadN X0.here hx rfl (hb hby at_9) rfl ?_
    show Steps p.tables e below (s₁.setTop (mkF m 10 #[.val (.int p0), .val (.int p1), .val (.int p2), .val (.int p3), .val (.int p4), .val (.int len), .unset, .unset, .unset, .unset, .unset, .unset, .unset, .unset, .unset, .unset, .unset, .unset, .unset, .unset, .unset, .unset, .unset, .unset, .unset, .unset, .unset, .unset, .unset, .unset] [(.int p3)])) t
    refine X0.ldcInt hx hown (mvT hZ (hw _ (List.mem_of_getElem? (i := 0) rfl))) (g := (mkF m 10 #[.val (.int p0), .val (.int p1), .val (.int p2), .val (.int p3), .val (.int p4), .val (.int len), .unset, .unset, .unset, .unset, .unset, .unset, .unset, .unset, .unset, .unset, .unset, .unset, .unset, .unset, .unset, .unset, .unset, .unset, .unset, .unset, .unset, .unset, .unset, .unset] [(.int p3)])) rfl (hb hby at_10) _ ?_
    show Steps p.tables e below (s₁.setTop (mkF m 12 #[.val (.int p0), .val (.int p1), .val (.int p2), .val (.int p3), .val (.int p4), .val (.int len), .unset, .unset, .unset, .unset, .unset, .unset, .unset, .unset, .unset, .unset, .unset, .unset, .unset, .unset, .unset, .unset, .unset, .unset, .unset, .unset, .unset, .unset, .unset, .unset] [(.int (2147483647 : Int32)), (.int p3)])) t
    refine XS.iand X0.here hx rfl (hb hby at_12) rfl ?_
    show Steps p.tables e below (s₁.setTop (mkF m 13 #[.val (.int p0), .val (.int p1), .val (.int p2), .val (.int p3), .val (.int p4), .val (.int len), .unset, .unset, .unset, .unset, .unset, .unset, .unset, .unset, .unset, .unset, .unset, .unset, .unset, .unset, .unset, .unset, .unset, .unset, .unset, .unset, .unset, .unset, .unset, .unset] [(.int (p3 &&& (2147483647 : Int32)))])) t
    refine XS.bipush X0.here hx rfl (hb hby at_13) ?_
    show Steps p.tables e below (s₁.setTop (mkF m 15 #[.val (.int p0), .val (.int p1), .val (.int p2), .val (.int p3), .val (.int p4), .val (.int len), .unset, .unset, .unset, .unset, .unset, .unset, .unset, .unset, .unset, .unset, .unset, .unset, .unset, .unset, .unset, .unset, .unset, .unset, .unset, .unset, .unset, .unset, .unset, .unset] [(.int (33 : Int32)), (.int (p3 &&& (2147483647 : Int32)))])) t
    refine iremM X0 hx rfl (hb hby at_15) rfl (by decide) ?_
    show Steps p.tables e below (s₁.setTop (mkF m 16 #[.val (.int p0), .val (.int p1), .val (.int p2), .val (.int p3), .val (.int p4), .val (.int len), .unset, .unset, .unset, .unset, .unset, .unset, .unset, .unset, .unset, .unset, .unset, .unset, .unset, .unset, .unset, .unset, .unset, .unset, .unset, .unset, .unset, .unset, .unset, .unset] [(.int ((p3 &&& (2147483647 : Int32)) % (33 : Int32)))])) t
    refine XS.istore X0.here hx rfl (hb hby at_16) rfl (l' := #[.val (.int p0), .val (.int p1), .val (.int p2), .val (.int p3), .val (.int p4), .val (.int len), .val (.int ((p3 &&& (2147483647 : Int32)) % (33 : Int32))), .unset, .unset, .unset, .unset, .unset, .unset, .unset, .unset, .unset, .unset, .unset, .unset, .unset, .unset, .unset, .unset, .unset, .unset, .unset, .unset, .unset, .unset, .unset]) rfl ?_
    exact kk
  obtain ⟨olen, h_olen⟩ : ∃ z : Int32, z = ((p3 &&& (2147483647 : Int32)) % (33 : Int32)) := ⟨_, rfl⟩
  have c54 : Goes p e below s₁ (entryFrame m #[(.int p0), (.int p1), (.int p2), (.int p3), (.int p4)] maxLocals) s₁ (mkF m 18 #[.val (.int p0), .val (.int p1), .val (.int p2), .val (.int p3), .val (.int p4), .val (.int len), .val (.int olen), .unset, .unset, .unset, .unset, .unset, .unset, .unset, .unset, .unset, .unset, .unset, .unset, .unset, .unset, .unset, .unset, .unset, .unset, .unset, .unset, .unset, .unset, .unset] []) := by rw [h_olen]; exact c53
  have c55 : Goes p e below s₁ (entryFrame m #[(.int p0), (.int p1), (.int p2), (.int p3), (.int p4)] maxLocals) s₁ (mkF m 27 #[.val (.int p0), .val (.int p1), .val (.int p2), .val (.int p3), .val (.int p4), .val (.int len), .val (.int olen), .val (.long ((1 : Int64) <<< (((32 : Int32) - len) &&& 0x3f).toInt64)), .second, .unset, .unset, .unset, .unset, .unset, .unset, .unset, .unset, .unset, .unset, .unset, .unset, .unset, .unset, .unset, .unset, .unset, .unset, .unset, .unset, .unset] []) := by
    intro t kk
    refine c54 t ?_
    show Steps p.tables e below (s₁.setTop (mkF m 18 #[.val (.int p0), .val (.int p1), .val (.int p2), .val (.int p3), .val (.int p4), .val (.int len), .val (.int olen), .unset, .unset, .unset, .unset, .unset, .unset, .unset, .unset, .unset, .unset, .unset, .unset, .unset, .unset, .unset, .unset, .unset, .unset, .unset, .unset, .unset, .unset, .unset] [])) t
    refine XS.lconst X0.here hx rfl (hb hby at_18) ?_
    show Steps p.tables e below (s₁.setTop (mkF m 19 #[.val (.int p0), .val (.int p1), .val (.int p2), .val (.int p3), .val (.int p4), .val (.int len), .val (.int olen), .unset, .unset, .unset, .unset, .unset, .unset, .unset, .unset, .unset, .unset, .unset, .unset, .unset, .unset, .unset, .unset, .unset, .unset, .unset, .unset, .unset, .unset, .unset] [(.long (1 : Int64))])) t
    refine XS.bipush X0.here hx rfl (hb hby at_19) ?_
    show Steps p.tables e below (s₁.setTop (mkF m 21 #[.val (.int p0), .val (.int p1), .val (.int p2), .val (.int p3), .val (.int p4), .val (.int len), .val (.int olen), .unset, .unset, .unset, .unset, .unset, .unset, .unset, .unset, .unset, .unset, .unset, .unset, .unset, .unset, .unset, .unset, .unset, .unset, .unset, .unset, .unset, .unset, .unset] [(.int (32 : Int32)), (.long (1 : Int64))])) t
    refine XS.iload X0.here hx rfl (hb hby at_21) rfl ?_
    show Steps p.tables e below (s₁.setTop (mkF m 23 #[.val (.int p0), .val (.int p1), .val (.int p2), .val (.int p3), .val (.int p4), .val (.int len), .val (.int olen), .unset, .unset, .unset, .unset, .unset, .unset, .unset, .unset, .unset, .unset, .unset, .unset, .unset, .unset, .unset, .unset, .unset, .unset, .unset, .unset, .unset, .unset, .unset] [(.int len), (.int (32 : Int32)), (.long (1 : Int64))])) t
    refine XS.isub X0.here hx rfl (hb hby at_23) rfl ?_
    show Steps p.tables e below (s₁.setTop (mkF m 24 #[.val (.int p0), .val (.int p1), .val (.int p2), .val (.int p3), .val (.int p4), .val (.int len), .val (.int olen), .unset, .unset, .unset, .unset, .unset, .unset, .unset, .unset, .unset, .unset, .unset, .unset, .unset, .unset, .unset, .unset, .unset, .unset, .unset, .unset, .unset, .unset, .unset] [(.int ((32 : Int32) - len)), (.long (1 : Int64))])) t
    refine XS.lshl X0.here hx rfl (hb hby at_24) rfl ?_
    show Steps p.tables e below (s₁.setTop (mkF m 25 #[.val (.int p0), .val (.int p1), .val (.int p2), .val (.int p3), .val (.int p4), .val (.int len), .val (.int olen), .unset, .unset, .unset, .unset, .unset, .unset, .unset, .unset, .unset, .unset, .unset, .unset, .unset, .unset, .unset, .unset, .unset, .unset, .unset, .unset, .unset, .unset, .unset] [(.long ((1 : Int64) <<< (((32 : Int32) - len) &&& 0x3f).toInt64))])) t
    refine XS.lstore X0.here hx rfl (hb hby at_25) rfl (l' := #[.val (.int p0), .val (.int p1), .val (.int p2), .val (.int p3), .val (.int p4), .val (.int len), .val (.int olen), .val (.long ((1 : Int64) <<< (((32 : Int32) - len) &&& 0x3f).toInt64)), .second, .unset, .unset, .unset, .unset, .unset, .unset, .unset, .unset, .unset, .unset, .unset, .unset, .unset, .unset, .unset, .unset, .unset, .unset, .unset, .unset, .unset]) rfl ?_
    exact kk
  obtain ⟨span, h_span⟩ : ∃ z : Int64, z = ((1 : Int64) <<< (((32 : Int32) - len) &&& 0x3f).toInt64) := ⟨_, rfl⟩
  have c56 : Goes p e below s₁ (entryFrame m #[(.int p0), (.int p1), (.int p2), (.int p3), (.int p4)] maxLocals) s₁ (mkF m 27 #[.val (.int p0), .val (.int p1), .val (.int p2), .val (.int p3), .val (.int p4), .val (.int len), .val (.int olen), .val (.long span), .second, .unset, .unset, .unset, .unset, .unset, .unset, .unset, .unset, .unset, .unset, .unset, .unset, .unset, .unset, .unset, .unset, .unset, .unset, .unset, .unset, .unset] []) := by rw [h_span]; exact c55
  have c57 : Goes p e below s₁ (entryFrame m #[(.int p0), (.int p1), (.int p2), (.int p3), (.int p4)] maxLocals) s₁ (mkF m 36 #[.val (.int p0), .val (.int p1), .val (.int p2), .val (.int p3), .val (.int p4), .val (.int len), .val (.int olen), .val (.long span), .second, .val (.long ((1 : Int64) <<< (((32 : Int32) - olen) &&& 0x3f).toInt64)), .second, .unset, .unset, .unset, .unset, .unset, .unset, .unset, .unset, .unset, .unset, .unset, .unset, .unset, .unset, .unset, .unset, .unset, .unset, .unset] []) := by
    intro t kk
    refine c56 t ?_
    show Steps p.tables e below (s₁.setTop (mkF m 27 #[.val (.int p0), .val (.int p1), .val (.int p2), .val (.int p3), .val (.int p4), .val (.int len), .val (.int olen), .val (.long span), .second, .unset, .unset, .unset, .unset, .unset, .unset, .unset, .unset, .unset, .unset, .unset, .unset, .unset, .unset, .unset, .unset, .unset, .unset, .unset, .unset, .unset] [])) t
    refine XS.lconst X0.here hx rfl (hb hby at_27) ?_
    show Steps p.tables e below (s₁.setTop (mkF m 28 #[.val (.int p0), .val (.int p1), .val (.int p2), .val (.int p3), .val (.int p4), .val (.int len), .val (.int olen), .val (.long span), .second, .unset, .unset, .unset, .unset, .unset, .unset, .unset, .unset, .unset, .unset, .unset, .unset, .unset, .unset, .unset, .unset, .unset, .unset, .unset, .unset, .unset] [(.long (1 : Int64))])) t
    refine XS.bipush X0.here hx rfl (hb hby at_28) ?_
    show Steps p.tables e below (s₁.setTop (mkF m 30 #[.val (.int p0), .val (.int p1), .val (.int p2), .val (.int p3), .val (.int p4), .val (.int len), .val (.int olen), .val (.long span), .second, .unset, .unset, .unset, .unset, .unset, .unset, .unset, .unset, .unset, .unset, .unset, .unset, .unset, .unset, .unset, .unset, .unset, .unset, .unset, .unset, .unset] [(.int (32 : Int32)), (.long (1 : Int64))])) t
    refine XS.iload X0.here hx rfl (hb hby at_30) rfl ?_
    show Steps p.tables e below (s₁.setTop (mkF m 32 #[.val (.int p0), .val (.int p1), .val (.int p2), .val (.int p3), .val (.int p4), .val (.int len), .val (.int olen), .val (.long span), .second, .unset, .unset, .unset, .unset, .unset, .unset, .unset, .unset, .unset, .unset, .unset, .unset, .unset, .unset, .unset, .unset, .unset, .unset, .unset, .unset, .unset] [(.int olen), (.int (32 : Int32)), (.long (1 : Int64))])) t
    refine XS.isub X0.here hx rfl (hb hby at_32) rfl ?_
    show Steps p.tables e below (s₁.setTop (mkF m 33 #[.val (.int p0), .val (.int p1), .val (.int p2), .val (.int p3), .val (.int p4), .val (.int len), .val (.int olen), .val (.long span), .second, .unset, .unset, .unset, .unset, .unset, .unset, .unset, .unset, .unset, .unset, .unset, .unset, .unset, .unset, .unset, .unset, .unset, .unset, .unset, .unset, .unset] [(.int ((32 : Int32) - olen)), (.long (1 : Int64))])) t
    refine XS.lshl X0.here hx rfl (hb hby at_33) rfl ?_
    show Steps p.tables e below (s₁.setTop (mkF m 34 #[.val (.int p0), .val (.int p1), .val (.int p2), .val (.int p3), .val (.int p4), .val (.int len), .val (.int olen), .val (.long span), .second, .unset, .unset, .unset, .unset, .unset, .unset, .unset, .unset, .unset, .unset, .unset, .unset, .unset, .unset, .unset, .unset, .unset, .unset, .unset, .unset, .unset] [(.long ((1 : Int64) <<< (((32 : Int32) - olen) &&& 0x3f).toInt64))])) t
    refine XS.lstore X0.here hx rfl (hb hby at_34) rfl (l' := #[.val (.int p0), .val (.int p1), .val (.int p2), .val (.int p3), .val (.int p4), .val (.int len), .val (.int olen), .val (.long span), .second, .val (.long ((1 : Int64) <<< (((32 : Int32) - olen) &&& 0x3f).toInt64)), .second, .unset, .unset, .unset, .unset, .unset, .unset, .unset, .unset, .unset, .unset, .unset, .unset, .unset, .unset, .unset, .unset, .unset, .unset, .unset]) rfl ?_
    exact kk
  obtain ⟨ospan, h_ospan⟩ : ∃ z : Int64, z = ((1 : Int64) <<< (((32 : Int32) - olen) &&& 0x3f).toInt64) := ⟨_, rfl⟩
  have c58 : Goes p e below s₁ (entryFrame m #[(.int p0), (.int p1), (.int p2), (.int p3), (.int p4)] maxLocals) s₁ (mkF m 36 #[.val (.int p0), .val (.int p1), .val (.int p2), .val (.int p3), .val (.int p4), .val (.int len), .val (.int olen), .val (.long span), .second, .val (.long ospan), .second, .unset, .unset, .unset, .unset, .unset, .unset, .unset, .unset, .unset, .unset, .unset, .unset, .unset, .unset, .unset, .unset, .unset, .unset, .unset] []) := by rw [h_ospan]; exact c57
  have c59 : Goes p e below s₁ (entryFrame m #[(.int p0), (.int p1), (.int p2), (.int p3), (.int p4)] maxLocals) s₁ (mkF m 44 #[.val (.int p0), .val (.int p1), .val (.int p2), .val (.int p3), .val (.int p4), .val (.int len), .val (.int olen), .val (.long span), .second, .val (.long ospan), .second, .val (.long ((p0.toInt64) &&& (4294967295 : Int64))), .second, .unset, .unset, .unset, .unset, .unset, .unset, .unset, .unset, .unset, .unset, .unset, .unset, .unset, .unset, .unset, .unset, .unset] []) := by
    intro t kk
    refine c58 t ?_
    show Steps p.tables e below (s₁.setTop (mkF m 36 #[.val (.int p0), .val (.int p1), .val (.int p2), .val (.int p3), .val (.int p4), .val (.int len), .val (.int olen), .val (.long span), .second, .val (.long ospan), .second, .unset, .unset, .unset, .unset, .unset, .unset, .unset, .unset, .unset, .unset, .unset, .unset, .unset, .unset, .unset, .unset, .unset, .unset, .unset] [])) t
    refine XS.iloadN X0.here hx rfl (hb hby at_36) rfl ?_
    show Steps p.tables e below (s₁.setTop (mkF m 37 #[.val (.int p0), .val (.int p1), .val (.int p2), .val (.int p3), .val (.int p4), .val (.int len), .val (.int olen), .val (.long span), .second, .val (.long ospan), .second, .unset, .unset, .unset, .unset, .unset, .unset, .unset, .unset, .unset, .unset, .unset, .unset, .unset, .unset, .unset, .unset, .unset, .unset, .unset] [(.int p0)])) t
    refine XS.i2l X0.here hx rfl (hb hby at_37) rfl ?_
    show Steps p.tables e below (s₁.setTop (mkF m 38 #[.val (.int p0), .val (.int p1), .val (.int p2), .val (.int p3), .val (.int p4), .val (.int len), .val (.int olen), .val (.long span), .second, .val (.long ospan), .second, .unset, .unset, .unset, .unset, .unset, .unset, .unset, .unset, .unset, .unset, .unset, .unset, .unset, .unset, .unset, .unset, .unset, .unset, .unset] [(.long (p0.toInt64))])) t
    refine X0.ldc2Long hx hown (mvT hZ (hw _ (List.mem_of_getElem? (i := 1) rfl))) (g := (mkF m 38 #[.val (.int p0), .val (.int p1), .val (.int p2), .val (.int p3), .val (.int p4), .val (.int len), .val (.int olen), .val (.long span), .second, .val (.long ospan), .second, .unset, .unset, .unset, .unset, .unset, .unset, .unset, .unset, .unset, .unset, .unset, .unset, .unset, .unset, .unset, .unset, .unset, .unset, .unset] [(.long (p0.toInt64))])) rfl (hb hby at_38) _ ?_
    show Steps p.tables e below (s₁.setTop (mkF m 41 #[.val (.int p0), .val (.int p1), .val (.int p2), .val (.int p3), .val (.int p4), .val (.int len), .val (.int olen), .val (.long span), .second, .val (.long ospan), .second, .unset, .unset, .unset, .unset, .unset, .unset, .unset, .unset, .unset, .unset, .unset, .unset, .unset, .unset, .unset, .unset, .unset, .unset, .unset] [(.long (4294967295 : Int64)), (.long (p0.toInt64))])) t
    refine XS.land X0.here hx rfl (hb hby at_41) rfl ?_
    show Steps p.tables e below (s₁.setTop (mkF m 42 #[.val (.int p0), .val (.int p1), .val (.int p2), .val (.int p3), .val (.int p4), .val (.int len), .val (.int olen), .val (.long span), .second, .val (.long ospan), .second, .unset, .unset, .unset, .unset, .unset, .unset, .unset, .unset, .unset, .unset, .unset, .unset, .unset, .unset, .unset, .unset, .unset, .unset, .unset] [(.long ((p0.toInt64) &&& (4294967295 : Int64)))])) t
    refine XS.lstore X0.here hx rfl (hb hby at_42) rfl (l' := #[.val (.int p0), .val (.int p1), .val (.int p2), .val (.int p3), .val (.int p4), .val (.int len), .val (.int olen), .val (.long span), .second, .val (.long ospan), .second, .val (.long ((p0.toInt64) &&& (4294967295 : Int64))), .second, .unset, .unset, .unset, .unset, .unset, .unset, .unset, .unset, .unset, .unset, .unset, .unset, .unset, .unset, .unset, .unset, .unset]) rfl ?_
    exact kk
  obtain ⟨alow, h_alow⟩ : ∃ z : Int64, z = ((p0.toInt64) &&& (4294967295 : Int64)) := ⟨_, rfl⟩
  have c60 : Goes p e below s₁ (entryFrame m #[(.int p0), (.int p1), (.int p2), (.int p3), (.int p4)] maxLocals) s₁ (mkF m 44 #[.val (.int p0), .val (.int p1), .val (.int p2), .val (.int p3), .val (.int p4), .val (.int len), .val (.int olen), .val (.long span), .second, .val (.long ospan), .second, .val (.long alow), .second, .unset, .unset, .unset, .unset, .unset, .unset, .unset, .unset, .unset, .unset, .unset, .unset, .unset, .unset, .unset, .unset, .unset] []) := by rw [h_alow]; exact c59
  obtain ⟨n1, hn1, hl1⟩ := own_len p1
  rw [← h_len] at hl1
  obtain ⟨n2, hn2, hl2⟩ := own_len p3
  rw [← h_olen] at hl2
  have hal := own_low p0
  rw [← h_alow] at hal
  obtain ⟨P1, q1, hp1⟩ := own_mk (x := alow) hn1 hl1 h_span hal.1 hal.2
  have hnz : span ≠ 0 := own_nz hp1
  have c61 : Goes p e below s₁ (entryFrame m #[(.int p0), (.int p1), (.int p2), (.int p3), (.int p4)] maxLocals) s₁ (mkF m 54 #[.val (.int p0), .val (.int p1), .val (.int p2), .val (.int p3), .val (.int p4), .val (.int len), .val (.int olen), .val (.long span), .second, .val (.long ospan), .second, .val (.long alow), .second, .val (.long ((alow / span) * span)), .second, .unset, .unset, .unset, .unset, .unset, .unset, .unset, .unset, .unset, .unset, .unset, .unset, .unset, .unset, .unset] []) := by
    intro t kk
    refine c60 t ?_
    show Steps p.tables e below (s₁.setTop (mkF m 44 #[.val (.int p0), .val (.int p1), .val (.int p2), .val (.int p3), .val (.int p4), .val (.int len), .val (.int olen), .val (.long span), .second, .val (.long ospan), .second, .val (.long alow), .second, .unset, .unset, .unset, .unset, .unset, .unset, .unset, .unset, .unset, .unset, .unset, .unset, .unset, .unset, .unset, .unset, .unset] [])) t
    refine XS.lload X0.here hx rfl (hb hby at_44) rfl ?_
    show Steps p.tables e below (s₁.setTop (mkF m 46 #[.val (.int p0), .val (.int p1), .val (.int p2), .val (.int p3), .val (.int p4), .val (.int len), .val (.int olen), .val (.long span), .second, .val (.long ospan), .second, .val (.long alow), .second, .unset, .unset, .unset, .unset, .unset, .unset, .unset, .unset, .unset, .unset, .unset, .unset, .unset, .unset, .unset, .unset, .unset] [(.long alow)])) t
    refine XS.lload X0.here hx rfl (hb hby at_46) rfl ?_
    show Steps p.tables e below (s₁.setTop (mkF m 48 #[.val (.int p0), .val (.int p1), .val (.int p2), .val (.int p3), .val (.int p4), .val (.int len), .val (.int olen), .val (.long span), .second, .val (.long ospan), .second, .val (.long alow), .second, .unset, .unset, .unset, .unset, .unset, .unset, .unset, .unset, .unset, .unset, .unset, .unset, .unset, .unset, .unset, .unset, .unset] [(.long span), (.long alow)])) t
    refine XS.ldiv X0.here hx rfl (hb hby at_48) rfl hnz ?_
    show Steps p.tables e below (s₁.setTop (mkF m 49 #[.val (.int p0), .val (.int p1), .val (.int p2), .val (.int p3), .val (.int p4), .val (.int len), .val (.int olen), .val (.long span), .second, .val (.long ospan), .second, .val (.long alow), .second, .unset, .unset, .unset, .unset, .unset, .unset, .unset, .unset, .unset, .unset, .unset, .unset, .unset, .unset, .unset, .unset, .unset] [(.long (alow / span))])) t
    refine XS.lload X0.here hx rfl (hb hby at_49) rfl ?_
    show Steps p.tables e below (s₁.setTop (mkF m 51 #[.val (.int p0), .val (.int p1), .val (.int p2), .val (.int p3), .val (.int p4), .val (.int len), .val (.int olen), .val (.long span), .second, .val (.long ospan), .second, .val (.long alow), .second, .unset, .unset, .unset, .unset, .unset, .unset, .unset, .unset, .unset, .unset, .unset, .unset, .unset, .unset, .unset, .unset, .unset] [(.long span), (.long (alow / span))])) t
    refine XS.lmul X0.here hx rfl (hb hby at_51) rfl ?_
    show Steps p.tables e below (s₁.setTop (mkF m 52 #[.val (.int p0), .val (.int p1), .val (.int p2), .val (.int p3), .val (.int p4), .val (.int len), .val (.int olen), .val (.long span), .second, .val (.long ospan), .second, .val (.long alow), .second, .unset, .unset, .unset, .unset, .unset, .unset, .unset, .unset, .unset, .unset, .unset, .unset, .unset, .unset, .unset, .unset, .unset] [(.long ((alow / span) * span))])) t
    refine XS.lstore X0.here hx rfl (hb hby at_52) rfl (l' := #[.val (.int p0), .val (.int p1), .val (.int p2), .val (.int p3), .val (.int p4), .val (.int len), .val (.int olen), .val (.long span), .second, .val (.long ospan), .second, .val (.long alow), .second, .val (.long ((alow / span) * span)), .second, .unset, .unset, .unset, .unset, .unset, .unset, .unset, .unset, .unset, .unset, .unset, .unset, .unset, .unset, .unset]) rfl ?_
    exact kk
  obtain ⟨lo, h_lo⟩ : ∃ z : Int64, z = ((alow / span) * span) := ⟨_, rfl⟩
  have c62 : Goes p e below s₁ (entryFrame m #[(.int p0), (.int p1), (.int p2), (.int p3), (.int p4)] maxLocals) s₁ (mkF m 54 #[.val (.int p0), .val (.int p1), .val (.int p2), .val (.int p3), .val (.int p4), .val (.int len), .val (.int olen), .val (.long span), .second, .val (.long ospan), .second, .val (.long alow), .second, .val (.long lo), .second, .unset, .unset, .unset, .unset, .unset, .unset, .unset, .unset, .unset, .unset, .unset, .unset, .unset, .unset, .unset] []) := by rw [h_lo]; exact c61
  rw [← h_lo] at hp1
  have c63 : Goes p e below s₁ (entryFrame m #[(.int p0), (.int p1), (.int p2), (.int p3), (.int p4)] maxLocals) s₁ (mkF m 59 #[.val (.int p0), .val (.int p1), .val (.int p2), .val (.int p3), .val (.int p4), .val (.int len), .val (.int olen), .val (.long span), .second, .val (.long ospan), .second, .val (.long alow), .second, .val (.long lo), .second, .val (.int (lo.toInt32)), .unset, .unset, .unset, .unset, .unset, .unset, .unset, .unset, .unset, .unset, .unset, .unset, .unset, .unset] []) := by
    intro t kk
    refine c62 t ?_
    show Steps p.tables e below (s₁.setTop (mkF m 54 #[.val (.int p0), .val (.int p1), .val (.int p2), .val (.int p3), .val (.int p4), .val (.int len), .val (.int olen), .val (.long span), .second, .val (.long ospan), .second, .val (.long alow), .second, .val (.long lo), .second, .unset, .unset, .unset, .unset, .unset, .unset, .unset, .unset, .unset, .unset, .unset, .unset, .unset, .unset, .unset] [])) t
    refine XS.lload X0.here hx rfl (hb hby at_54) rfl ?_
    show Steps p.tables e below (s₁.setTop (mkF m 56 #[.val (.int p0), .val (.int p1), .val (.int p2), .val (.int p3), .val (.int p4), .val (.int len), .val (.int olen), .val (.long span), .second, .val (.long ospan), .second, .val (.long alow), .second, .val (.long lo), .second, .unset, .unset, .unset, .unset, .unset, .unset, .unset, .unset, .unset, .unset, .unset, .unset, .unset, .unset, .unset] [(.long lo)])) t
    refine XS.l2i X0.here hx rfl (hb hby at_56) rfl ?_
    show Steps p.tables e below (s₁.setTop (mkF m 57 #[.val (.int p0), .val (.int p1), .val (.int p2), .val (.int p3), .val (.int p4), .val (.int len), .val (.int olen), .val (.long span), .second, .val (.long ospan), .second, .val (.long alow), .second, .val (.long lo), .second, .unset, .unset, .unset, .unset, .unset, .unset, .unset, .unset, .unset, .unset, .unset, .unset, .unset, .unset, .unset] [(.int (lo.toInt32))])) t
    refine XS.istore X0.here hx rfl (hb hby at_57) rfl (l' := #[.val (.int p0), .val (.int p1), .val (.int p2), .val (.int p3), .val (.int p4), .val (.int len), .val (.int olen), .val (.long span), .second, .val (.long ospan), .second, .val (.long alow), .second, .val (.long lo), .second, .val (.int (lo.toInt32)), .unset, .unset, .unset, .unset, .unset, .unset, .unset, .unset, .unset, .unset, .unset, .unset, .unset, .unset]) rfl ?_
    exact kk
  obtain ⟨adr, h_adr⟩ : ∃ z : Int32, z = (lo.toInt32) := ⟨_, rfl⟩
  have c64 : Goes p e below s₁ (entryFrame m #[(.int p0), (.int p1), (.int p2), (.int p3), (.int p4)] maxLocals) s₁ (mkF m 59 #[.val (.int p0), .val (.int p1), .val (.int p2), .val (.int p3), .val (.int p4), .val (.int len), .val (.int olen), .val (.long span), .second, .val (.long ospan), .second, .val (.long alow), .second, .val (.long lo), .second, .val (.int adr), .unset, .unset, .unset, .unset, .unset, .unset, .unset, .unset, .unset, .unset, .unset, .unset, .unset, .unset] []) := by rw [h_adr]; exact c63
  rw [← h_adr] at hp1
  have c65 : Goes p e below s₁ (entryFrame m #[(.int p0), (.int p1), (.int p2), (.int p3), (.int p4)] maxLocals) s₁ (mkF m 67 #[.val (.int p0), .val (.int p1), .val (.int p2), .val (.int p3), .val (.int p4), .val (.int len), .val (.int olen), .val (.long span), .second, .val (.long ospan), .second, .val (.long alow), .second, .val (.long lo), .second, .val (.int adr), .val (.long ((p2.toInt64) &&& (4294967295 : Int64))), .second, .unset, .unset, .unset, .unset, .unset, .unset, .unset, .unset, .unset, .unset, .unset, .unset] []) := by
    intro t kk
    refine c64 t ?_
    show Steps p.tables e below (s₁.setTop (mkF m 59 #[.val (.int p0), .val (.int p1), .val (.int p2), .val (.int p3), .val (.int p4), .val (.int len), .val (.int olen), .val (.long span), .second, .val (.long ospan), .second, .val (.long alow), .second, .val (.long lo), .second, .val (.int adr), .unset, .unset, .unset, .unset, .unset, .unset, .unset, .unset, .unset, .unset, .unset, .unset, .unset, .unset] [])) t
    refine XS.iloadN X0.here hx rfl (hb hby at_59) rfl ?_
    show Steps p.tables e below (s₁.setTop (mkF m 60 #[.val (.int p0), .val (.int p1), .val (.int p2), .val (.int p3), .val (.int p4), .val (.int len), .val (.int olen), .val (.long span), .second, .val (.long ospan), .second, .val (.long alow), .second, .val (.long lo), .second, .val (.int adr), .unset, .unset, .unset, .unset, .unset, .unset, .unset, .unset, .unset, .unset, .unset, .unset, .unset, .unset] [(.int p2)])) t
    refine XS.i2l X0.here hx rfl (hb hby at_60) rfl ?_
    show Steps p.tables e below (s₁.setTop (mkF m 61 #[.val (.int p0), .val (.int p1), .val (.int p2), .val (.int p3), .val (.int p4), .val (.int len), .val (.int olen), .val (.long span), .second, .val (.long ospan), .second, .val (.long alow), .second, .val (.long lo), .second, .val (.int adr), .unset, .unset, .unset, .unset, .unset, .unset, .unset, .unset, .unset, .unset, .unset, .unset, .unset, .unset] [(.long (p2.toInt64))])) t
    refine X0.ldc2Long hx hown (mvT hZ (hw _ (List.mem_of_getElem? (i := 1) rfl))) (g := (mkF m 61 #[.val (.int p0), .val (.int p1), .val (.int p2), .val (.int p3), .val (.int p4), .val (.int len), .val (.int olen), .val (.long span), .second, .val (.long ospan), .second, .val (.long alow), .second, .val (.long lo), .second, .val (.int adr), .unset, .unset, .unset, .unset, .unset, .unset, .unset, .unset, .unset, .unset, .unset, .unset, .unset, .unset] [(.long (p2.toInt64))])) rfl (hb hby at_61) _ ?_
    show Steps p.tables e below (s₁.setTop (mkF m 64 #[.val (.int p0), .val (.int p1), .val (.int p2), .val (.int p3), .val (.int p4), .val (.int len), .val (.int olen), .val (.long span), .second, .val (.long ospan), .second, .val (.long alow), .second, .val (.long lo), .second, .val (.int adr), .unset, .unset, .unset, .unset, .unset, .unset, .unset, .unset, .unset, .unset, .unset, .unset, .unset, .unset] [(.long (4294967295 : Int64)), (.long (p2.toInt64))])) t
    refine XS.land X0.here hx rfl (hb hby at_64) rfl ?_
    show Steps p.tables e below (s₁.setTop (mkF m 65 #[.val (.int p0), .val (.int p1), .val (.int p2), .val (.int p3), .val (.int p4), .val (.int len), .val (.int olen), .val (.long span), .second, .val (.long ospan), .second, .val (.long alow), .second, .val (.long lo), .second, .val (.int adr), .unset, .unset, .unset, .unset, .unset, .unset, .unset, .unset, .unset, .unset, .unset, .unset, .unset, .unset] [(.long ((p2.toInt64) &&& (4294967295 : Int64)))])) t
    refine XS.lstore X0.here hx rfl (hb hby at_65) rfl (l' := #[.val (.int p0), .val (.int p1), .val (.int p2), .val (.int p3), .val (.int p4), .val (.int len), .val (.int olen), .val (.long span), .second, .val (.long ospan), .second, .val (.long alow), .second, .val (.long lo), .second, .val (.int adr), .val (.long ((p2.toInt64) &&& (4294967295 : Int64))), .second, .unset, .unset, .unset, .unset, .unset, .unset, .unset, .unset, .unset, .unset, .unset, .unset]) rfl ?_
    exact kk
  obtain ⟨blow, h_blow⟩ : ∃ z : Int64, z = ((p2.toInt64) &&& (4294967295 : Int64)) := ⟨_, rfl⟩
  have c66 : Goes p e below s₁ (entryFrame m #[(.int p0), (.int p1), (.int p2), (.int p3), (.int p4)] maxLocals) s₁ (mkF m 67 #[.val (.int p0), .val (.int p1), .val (.int p2), .val (.int p3), .val (.int p4), .val (.int len), .val (.int olen), .val (.long span), .second, .val (.long ospan), .second, .val (.long alow), .second, .val (.long lo), .second, .val (.int adr), .val (.long blow), .second, .unset, .unset, .unset, .unset, .unset, .unset, .unset, .unset, .unset, .unset, .unset, .unset] []) := by rw [h_blow]; exact c65
  have hbl := own_low p2
  rw [← h_blow] at hbl
  have c67 : Goes p e below s₁ (entryFrame m #[(.int p0), (.int p1), (.int p2), (.int p3), (.int p4)] maxLocals) s₁ (mkF m 71 #[.val (.int p0), .val (.int p1), .val (.int p2), .val (.int p3), .val (.int p4), .val (.int len), .val (.int olen), .val (.long span), .second, .val (.long ospan), .second, .val (.long alow), .second, .val (.long lo), .second, .val (.int adr), .val (.long blow), .second, .unset, .unset, .unset, .unset, .unset, .unset, .unset, .unset, .unset, .unset, .unset, .unset] [(.int (p4 &&& (1 : Int32)))]) := by
    intro t kk
    refine c66 t ?_
    show Steps p.tables e below (s₁.setTop (mkF m 67 #[.val (.int p0), .val (.int p1), .val (.int p2), .val (.int p3), .val (.int p4), .val (.int len), .val (.int olen), .val (.long span), .second, .val (.long ospan), .second, .val (.long alow), .second, .val (.long lo), .second, .val (.int adr), .val (.long blow), .second, .unset, .unset, .unset, .unset, .unset, .unset, .unset, .unset, .unset, .unset, .unset, .unset] [])) t
    refine XS.iload X0.here hx rfl (hb hby at_67) rfl ?_
    show Steps p.tables e below (s₁.setTop (mkF m 69 #[.val (.int p0), .val (.int p1), .val (.int p2), .val (.int p3), .val (.int p4), .val (.int len), .val (.int olen), .val (.long span), .second, .val (.long ospan), .second, .val (.long alow), .second, .val (.long lo), .second, .val (.int adr), .val (.long blow), .second, .unset, .unset, .unset, .unset, .unset, .unset, .unset, .unset, .unset, .unset, .unset, .unset] [(.int p4)])) t
    refine XS.iconst X0.here hx rfl (hb hby at_69) ?_
    show Steps p.tables e below (s₁.setTop (mkF m 70 #[.val (.int p0), .val (.int p1), .val (.int p2), .val (.int p3), .val (.int p4), .val (.int len), .val (.int olen), .val (.long span), .second, .val (.long ospan), .second, .val (.long alow), .second, .val (.long lo), .second, .val (.int adr), .val (.long blow), .second, .unset, .unset, .unset, .unset, .unset, .unset, .unset, .unset, .unset, .unset, .unset, .unset] [(.int (1 : Int32)), (.int p4)])) t
    refine XS.iand X0.here hx rfl (hb hby at_70) rfl ?_
    exact kk
  obtain ⟨bas, hm68, c68⟩ : ∃ bas : Int64, (0 ≤ bas.toInt ∧ bas.toInt < 4294967296) ∧ Goes p e below s₁ (entryFrame m #[(.int p0), (.int p1), (.int p2), (.int p3), (.int p4)] maxLocals) s₁ (mkF m 87 #[.val (.int p0), .val (.int p1), .val (.int p2), .val (.int p3), .val (.int p4), .val (.int len), .val (.int olen), .val (.long span), .second, .val (.long ospan), .second, .val (.long alow), .second, .val (.long lo), .second, .val (.int adr), .val (.long blow), .second, .unset, .unset, .unset, .unset, .unset, .unset, .unset, .unset, .unset, .unset, .unset, .unset] [(.long bas)]) := by
    by_cases hc71_69 : (p4 &&& (1 : Int32)) = (0 : Int32)
    · have c70 : Goes p e below s₁ (entryFrame m #[(.int p0), (.int p1), (.int p2), (.int p3), (.int p4)] maxLocals) s₁ (mkF m 87 #[.val (.int p0), .val (.int p1), .val (.int p2), .val (.int p3), .val (.int p4), .val (.int len), .val (.int olen), .val (.long span), .second, .val (.long ospan), .second, .val (.long alow), .second, .val (.long lo), .second, .val (.int adr), .val (.long blow), .second, .unset, .unset, .unset, .unset, .unset, .unset, .unset, .unset, .unset, .unset, .unset, .unset] [(.long blow)]) := by
        intro t kk
        refine c67 t ?_
        show Steps p.tables e below (s₁.setTop (mkF m 71 #[.val (.int p0), .val (.int p1), .val (.int p2), .val (.int p3), .val (.int p4), .val (.int len), .val (.int olen), .val (.long span), .second, .val (.long ospan), .second, .val (.long alow), .second, .val (.long lo), .second, .val (.int adr), .val (.long blow), .second, .unset, .unset, .unset, .unset, .unset, .unset, .unset, .unset, .unset, .unset, .unset, .unset] [(.int (p4 &&& (1 : Int32)))])) t
        refine XS.ifYes X0.here hx rfl (pc0 := 71) (pc' := 85) rfl (hb hby at_71) rfl ((if0 _ _).trans (teq hc71_69).1) (by decide) (by decide) ?_
        show Steps p.tables e below (s₁.setTop (mkF m 85 #[.val (.int p0), .val (.int p1), .val (.int p2), .val (.int p3), .val (.int p4), .val (.int len), .val (.int olen), .val (.long span), .second, .val (.long ospan), .second, .val (.long alow), .second, .val (.long lo), .second, .val (.int adr), .val (.long blow), .second, .unset, .unset, .unset, .unset, .unset, .unset, .unset, .unset, .unset, .unset, .unset, .unset] [])) t
        refine XS.lload X0.here hx rfl (hb hby at_85) rfl ?_
        exact kk
      exact ⟨blow, hbl, c70⟩
    · have c71 : Goes p e below s₁ (entryFrame m #[(.int p0), (.int p1), (.int p2), (.int p3), (.int p4)] maxLocals) s₁ (mkF m 87 #[.val (.int p0), .val (.int p1), .val (.int p2), .val (.int p3), .val (.int p4), .val (.int len), .val (.int olen), .val (.long span), .second, .val (.long ospan), .second, .val (.long alow), .second, .val (.long lo), .second, .val (.int adr), .val (.long blow), .second, .unset, .unset, .unset, .unset, .unset, .unset, .unset, .unset, .unset, .unset, .unset, .unset] [(.long (lo + (blow - blow / span * span)))]) := by
        intro t kk
        refine c67 t ?_
        show Steps p.tables e below (s₁.setTop (mkF m 71 #[.val (.int p0), .val (.int p1), .val (.int p2), .val (.int p3), .val (.int p4), .val (.int len), .val (.int olen), .val (.long span), .second, .val (.long ospan), .second, .val (.long alow), .second, .val (.long lo), .second, .val (.int adr), .val (.long blow), .second, .unset, .unset, .unset, .unset, .unset, .unset, .unset, .unset, .unset, .unset, .unset, .unset] [(.int (p4 &&& (1 : Int32)))])) t
        refine XS.ifNo X0.here hx rfl (hb hby at_71) rfl ((if0 _ _).trans (feq hc71_69).1) ?_
        show Steps p.tables e below (s₁.setTop (mkF m 74 #[.val (.int p0), .val (.int p1), .val (.int p2), .val (.int p3), .val (.int p4), .val (.int len), .val (.int olen), .val (.long span), .second, .val (.long ospan), .second, .val (.long alow), .second, .val (.long lo), .second, .val (.int adr), .val (.long blow), .second, .unset, .unset, .unset, .unset, .unset, .unset, .unset, .unset, .unset, .unset, .unset, .unset] [])) t
        refine XS.lload X0.here hx rfl (hb hby at_74) rfl ?_
        show Steps p.tables e below (s₁.setTop (mkF m 76 #[.val (.int p0), .val (.int p1), .val (.int p2), .val (.int p3), .val (.int p4), .val (.int len), .val (.int olen), .val (.long span), .second, .val (.long ospan), .second, .val (.long alow), .second, .val (.long lo), .second, .val (.int adr), .val (.long blow), .second, .unset, .unset, .unset, .unset, .unset, .unset, .unset, .unset, .unset, .unset, .unset, .unset] [(.long lo)])) t
        refine XS.lload X0.here hx rfl (hb hby at_76) rfl ?_
        show Steps p.tables e below (s₁.setTop (mkF m 78 #[.val (.int p0), .val (.int p1), .val (.int p2), .val (.int p3), .val (.int p4), .val (.int len), .val (.int olen), .val (.long span), .second, .val (.long ospan), .second, .val (.long alow), .second, .val (.long lo), .second, .val (.int adr), .val (.long blow), .second, .unset, .unset, .unset, .unset, .unset, .unset, .unset, .unset, .unset, .unset, .unset, .unset] [(.long blow), (.long lo)])) t
        refine XS.lload X0.here hx rfl (hb hby at_78) rfl ?_
        show Steps p.tables e below (s₁.setTop (mkF m 80 #[.val (.int p0), .val (.int p1), .val (.int p2), .val (.int p3), .val (.int p4), .val (.int len), .val (.int olen), .val (.long span), .second, .val (.long ospan), .second, .val (.long alow), .second, .val (.long lo), .second, .val (.int adr), .val (.long blow), .second, .unset, .unset, .unset, .unset, .unset, .unset, .unset, .unset, .unset, .unset, .unset, .unset] [(.long span), (.long blow), (.long lo)])) t
        refine XS.lrem X0.here hx rfl (hb hby at_80) rfl hnz ?_
        show Steps p.tables e below (s₁.setTop (mkF m 81 #[.val (.int p0), .val (.int p1), .val (.int p2), .val (.int p3), .val (.int p4), .val (.int len), .val (.int olen), .val (.long span), .second, .val (.long ospan), .second, .val (.long alow), .second, .val (.long lo), .second, .val (.int adr), .val (.long blow), .second, .unset, .unset, .unset, .unset, .unset, .unset, .unset, .unset, .unset, .unset, .unset, .unset] [(.long (blow - blow / span * span)), (.long lo)])) t
        refine XS.ladd X0.here hx rfl (hb hby at_81) rfl ?_
        show Steps p.tables e below (s₁.setTop (mkF m 82 #[.val (.int p0), .val (.int p1), .val (.int p2), .val (.int p3), .val (.int p4), .val (.int len), .val (.int olen), .val (.long span), .second, .val (.long ospan), .second, .val (.long alow), .second, .val (.long lo), .second, .val (.int adr), .val (.long blow), .second, .unset, .unset, .unset, .unset, .unset, .unset, .unset, .unset, .unset, .unset, .unset, .unset] [(.long (lo + (blow - blow / span * span)))])) t
        refine XS.goto X0.here hx rfl (pc0 := 82) (pc' := 87) rfl (hb hby at_82) (by decide) (by decide) ?_
        exact kk
      exact ⟨(lo + (blow - blow / span * span)), (own_base hp1 hbl.1), c71⟩
  obtain ⟨P2, q2, hp2⟩ := own_mk (x := bas) hn2 hl2 h_ospan hm68.1 hm68.2
  have hnz2 : ospan ≠ 0 := own_nz hp2
  have c72 : Goes p e below s₁ (entryFrame m #[(.int p0), (.int p1), (.int p2), (.int p3), (.int p4)] maxLocals) s₁ (mkF m 99 #[.val (.int p0), .val (.int p1), .val (.int p2), .val (.int p3), .val (.int p4), .val (.int len), .val (.int olen), .val (.long span), .second, .val (.long ospan), .second, .val (.long alow), .second, .val (.long lo), .second, .val (.int adr), .val (.long blow), .second, .val (.long bas), .second, .val (.long ((bas / ospan) * ospan)), .second, .unset, .unset, .unset, .unset, .unset, .unset, .unset, .unset] []) := by
    intro t kk
    refine c68 t ?_
    show Steps p.tables e below (s₁.setTop (mkF m 87 #[.val (.int p0), .val (.int p1), .val (.int p2), .val (.int p3), .val (.int p4), .val (.int len), .val (.int olen), .val (.long span), .second, .val (.long ospan), .second, .val (.long alow), .second, .val (.long lo), .second, .val (.int adr), .val (.long blow), .second, .unset, .unset, .unset, .unset, .unset, .unset, .unset, .unset, .unset, .unset, .unset, .unset] [(.long bas)])) t
    refine XS.lstore X0.here hx rfl (hb hby at_87) rfl (l' := #[.val (.int p0), .val (.int p1), .val (.int p2), .val (.int p3), .val (.int p4), .val (.int len), .val (.int olen), .val (.long span), .second, .val (.long ospan), .second, .val (.long alow), .second, .val (.long lo), .second, .val (.int adr), .val (.long blow), .second, .val (.long bas), .second, .unset, .unset, .unset, .unset, .unset, .unset, .unset, .unset, .unset, .unset]) rfl ?_
    show Steps p.tables e below (s₁.setTop (mkF m 89 #[.val (.int p0), .val (.int p1), .val (.int p2), .val (.int p3), .val (.int p4), .val (.int len), .val (.int olen), .val (.long span), .second, .val (.long ospan), .second, .val (.long alow), .second, .val (.long lo), .second, .val (.int adr), .val (.long blow), .second, .val (.long bas), .second, .unset, .unset, .unset, .unset, .unset, .unset, .unset, .unset, .unset, .unset] [])) t
    refine XS.lload X0.here hx rfl (hb hby at_89) rfl ?_
    show Steps p.tables e below (s₁.setTop (mkF m 91 #[.val (.int p0), .val (.int p1), .val (.int p2), .val (.int p3), .val (.int p4), .val (.int len), .val (.int olen), .val (.long span), .second, .val (.long ospan), .second, .val (.long alow), .second, .val (.long lo), .second, .val (.int adr), .val (.long blow), .second, .val (.long bas), .second, .unset, .unset, .unset, .unset, .unset, .unset, .unset, .unset, .unset, .unset] [(.long bas)])) t
    refine XS.lload X0.here hx rfl (hb hby at_91) rfl ?_
    show Steps p.tables e below (s₁.setTop (mkF m 93 #[.val (.int p0), .val (.int p1), .val (.int p2), .val (.int p3), .val (.int p4), .val (.int len), .val (.int olen), .val (.long span), .second, .val (.long ospan), .second, .val (.long alow), .second, .val (.long lo), .second, .val (.int adr), .val (.long blow), .second, .val (.long bas), .second, .unset, .unset, .unset, .unset, .unset, .unset, .unset, .unset, .unset, .unset] [(.long ospan), (.long bas)])) t
    refine XS.ldiv X0.here hx rfl (hb hby at_93) rfl hnz2 ?_
    show Steps p.tables e below (s₁.setTop (mkF m 94 #[.val (.int p0), .val (.int p1), .val (.int p2), .val (.int p3), .val (.int p4), .val (.int len), .val (.int olen), .val (.long span), .second, .val (.long ospan), .second, .val (.long alow), .second, .val (.long lo), .second, .val (.int adr), .val (.long blow), .second, .val (.long bas), .second, .unset, .unset, .unset, .unset, .unset, .unset, .unset, .unset, .unset, .unset] [(.long (bas / ospan))])) t
    refine XS.lload X0.here hx rfl (hb hby at_94) rfl ?_
    show Steps p.tables e below (s₁.setTop (mkF m 96 #[.val (.int p0), .val (.int p1), .val (.int p2), .val (.int p3), .val (.int p4), .val (.int len), .val (.int olen), .val (.long span), .second, .val (.long ospan), .second, .val (.long alow), .second, .val (.long lo), .second, .val (.int adr), .val (.long blow), .second, .val (.long bas), .second, .unset, .unset, .unset, .unset, .unset, .unset, .unset, .unset, .unset, .unset] [(.long ospan), (.long (bas / ospan))])) t
    refine XS.lmul X0.here hx rfl (hb hby at_96) rfl ?_
    show Steps p.tables e below (s₁.setTop (mkF m 97 #[.val (.int p0), .val (.int p1), .val (.int p2), .val (.int p3), .val (.int p4), .val (.int len), .val (.int olen), .val (.long span), .second, .val (.long ospan), .second, .val (.long alow), .second, .val (.long lo), .second, .val (.int adr), .val (.long blow), .second, .val (.long bas), .second, .unset, .unset, .unset, .unset, .unset, .unset, .unset, .unset, .unset, .unset] [(.long ((bas / ospan) * ospan))])) t
    refine XS.lstore X0.here hx rfl (hb hby at_97) rfl (l' := #[.val (.int p0), .val (.int p1), .val (.int p2), .val (.int p3), .val (.int p4), .val (.int len), .val (.int olen), .val (.long span), .second, .val (.long ospan), .second, .val (.long alow), .second, .val (.long lo), .second, .val (.int adr), .val (.long blow), .second, .val (.long bas), .second, .val (.long ((bas / ospan) * ospan)), .second, .unset, .unset, .unset, .unset, .unset, .unset, .unset, .unset]) rfl ?_
    exact kk
  obtain ⟨olo, h_olo⟩ : ∃ z : Int64, z = ((bas / ospan) * ospan) := ⟨_, rfl⟩
  have c73 : Goes p e below s₁ (entryFrame m #[(.int p0), (.int p1), (.int p2), (.int p3), (.int p4)] maxLocals) s₁ (mkF m 99 #[.val (.int p0), .val (.int p1), .val (.int p2), .val (.int p3), .val (.int p4), .val (.int len), .val (.int olen), .val (.long span), .second, .val (.long ospan), .second, .val (.long alow), .second, .val (.long lo), .second, .val (.int adr), .val (.long blow), .second, .val (.long bas), .second, .val (.long olo), .second, .unset, .unset, .unset, .unset, .unset, .unset, .unset, .unset] []) := by rw [h_olo]; exact c72
  rw [← h_olo] at hp2
  have c74 : Goes p e below s₁ (entryFrame m #[(.int p0), (.int p1), (.int p2), (.int p3), (.int p4)] maxLocals) s₁ (mkF m 104 #[.val (.int p0), .val (.int p1), .val (.int p2), .val (.int p3), .val (.int p4), .val (.int len), .val (.int olen), .val (.long span), .second, .val (.long ospan), .second, .val (.long alow), .second, .val (.long lo), .second, .val (.int adr), .val (.long blow), .second, .val (.long bas), .second, .val (.long olo), .second, .val (.int (olo.toInt32)), .unset, .unset, .unset, .unset, .unset, .unset, .unset] []) := by
    intro t kk
    refine c73 t ?_
    show Steps p.tables e below (s₁.setTop (mkF m 99 #[.val (.int p0), .val (.int p1), .val (.int p2), .val (.int p3), .val (.int p4), .val (.int len), .val (.int olen), .val (.long span), .second, .val (.long ospan), .second, .val (.long alow), .second, .val (.long lo), .second, .val (.int adr), .val (.long blow), .second, .val (.long bas), .second, .val (.long olo), .second, .unset, .unset, .unset, .unset, .unset, .unset, .unset, .unset] [])) t
    refine XS.lload X0.here hx rfl (hb hby at_99) rfl ?_
    show Steps p.tables e below (s₁.setTop (mkF m 101 #[.val (.int p0), .val (.int p1), .val (.int p2), .val (.int p3), .val (.int p4), .val (.int len), .val (.int olen), .val (.long span), .second, .val (.long ospan), .second, .val (.long alow), .second, .val (.long lo), .second, .val (.int adr), .val (.long blow), .second, .val (.long bas), .second, .val (.long olo), .second, .unset, .unset, .unset, .unset, .unset, .unset, .unset, .unset] [(.long olo)])) t
    refine XS.l2i X0.here hx rfl (hb hby at_101) rfl ?_
    show Steps p.tables e below (s₁.setTop (mkF m 102 #[.val (.int p0), .val (.int p1), .val (.int p2), .val (.int p3), .val (.int p4), .val (.int len), .val (.int olen), .val (.long span), .second, .val (.long ospan), .second, .val (.long alow), .second, .val (.long lo), .second, .val (.int adr), .val (.long blow), .second, .val (.long bas), .second, .val (.long olo), .second, .unset, .unset, .unset, .unset, .unset, .unset, .unset, .unset] [(.int (olo.toInt32))])) t
    refine XS.istore X0.here hx rfl (hb hby at_102) rfl (l' := #[.val (.int p0), .val (.int p1), .val (.int p2), .val (.int p3), .val (.int p4), .val (.int len), .val (.int olen), .val (.long span), .second, .val (.long ospan), .second, .val (.long alow), .second, .val (.long lo), .second, .val (.int adr), .val (.long blow), .second, .val (.long bas), .second, .val (.long olo), .second, .val (.int (olo.toInt32)), .unset, .unset, .unset, .unset, .unset, .unset, .unset]) rfl ?_
    exact kk
  obtain ⟨oadr, h_oadr⟩ : ∃ z : Int32, z = (olo.toInt32) := ⟨_, rfl⟩
  have c75 : Goes p e below s₁ (entryFrame m #[(.int p0), (.int p1), (.int p2), (.int p3), (.int p4)] maxLocals) s₁ (mkF m 104 #[.val (.int p0), .val (.int p1), .val (.int p2), .val (.int p3), .val (.int p4), .val (.int len), .val (.int olen), .val (.long span), .second, .val (.long ospan), .second, .val (.long alow), .second, .val (.long lo), .second, .val (.int adr), .val (.long blow), .second, .val (.long bas), .second, .val (.long olo), .second, .val (.int oadr), .unset, .unset, .unset, .unset, .unset, .unset, .unset] []) := by rw [h_oadr]; exact c74
  rw [← h_oadr] at hp2
  obtain ⟨T76, h76, X76, e76, E76, A76, D76, -, st76⟩ := newO X0 hx hZ hown (hw _ (List.mem_of_getElem? (i := 2) rfl)) (hw _ (List.mem_of_getElem? (i := 3) rfl)) (hw _ (List.mem_of_getElem? (i := 4) rfl)) e0 (g := (mkF m 104 #[.val (.int p0), .val (.int p1), .val (.int p2), .val (.int p3), .val (.int p4), .val (.int len), .val (.int olen), .val (.long span), .second, .val (.long ospan), .second, .val (.long alow), .second, .val (.long lo), .second, .val (.int adr), .val (.long blow), .second, .val (.long bas), .second, .val (.long olo), .second, .val (.int oadr), .unset, .unset, .unset, .unset, .unset, .unset, .unset] [])) rfl (hb hby at_104) (by decide) (by decide)
  obtain ⟨b76, g76⟩ : ∃ z, z = h0.size := ⟨_, rfl⟩
  rw [← g76] at A76 D76 st76
  have gb76 : n0 ≤ b76 := Nat.le_trans Z0 (Nat.le_of_eq g76.symm)
  have F_address_b76 : Fld Z h76 b76 "com/example/indizio/indizio/core/Ipv4Prefix" "address" "I" (.int (0 : Int32)) := D76 (Or.inr (hw _ (List.mem_of_getElem? (i := 23) rfl))) (ty := .int) (by decide)
  have F_length_b76 : Fld Z h76 b76 "com/example/indizio/indizio/core/Ipv4Prefix" "length" "I" (.int (0 : Int32)) := D76 (Or.inr (hw _ (List.mem_of_getElem? (i := 25) rfl))) (ty := .int) (by decide)
  have c77 : Goes p e below s₁ (entryFrame m #[(.int p0), (.int p1), (.int p2), (.int p3), (.int p4)] maxLocals) T76 (mkF m 107 #[.val (.int p0), .val (.int p1), .val (.int p2), .val (.int p3), .val (.int p4), .val (.int len), .val (.int olen), .val (.long span), .second, .val (.long ospan), .second, .val (.long alow), .second, .val (.long lo), .second, .val (.int adr), .val (.long blow), .second, .val (.long bas), .second, .val (.long olo), .second, .val (.int oadr), .unset, .unset, .unset, .unset, .unset, .unset, .unset] [(.ref b76)]) := fun t kk => c75 t (st76 t kk)
  have f78 := (Nat.le_trans Z0 E76.1)
  have c79 : Goes p e below s₁ (entryFrame m #[(.int p0), (.int p1), (.int p2), (.int p3), (.int p4)] maxLocals) T76 (mkF m 112 #[.val (.int p0), .val (.int p1), .val (.int p2), .val (.int p3), .val (.int p4), .val (.int len), .val (.int olen), .val (.long span), .second, .val (.long ospan), .second, .val (.long alow), .second, .val (.long lo), .second, .val (.int adr), .val (.long blow), .second, .val (.long bas), .second, .val (.long olo), .second, .val (.int oadr), .unset, .unset, .unset, .unset, .unset, .unset, .unset] [(.int len), (.int adr), (.ref b76), (.ref b76)]) := by
    intro t kk
    refine c77 t ?_
    show Steps p.tables e below (T76.setTop (mkF m 107 #[.val (.int p0), .val (.int p1), .val (.int p2), .val (.int p3), .val (.int p4), .val (.int len), .val (.int olen), .val (.long span), .second, .val (.long ospan), .second, .val (.long alow), .second, .val (.long lo), .second, .val (.int adr), .val (.long blow), .second, .val (.long bas), .second, .val (.long olo), .second, .val (.int oadr), .unset, .unset, .unset, .unset, .unset, .unset, .unset] [(.ref b76)])) t
    refine XS.dup X76.here hx rfl (hb hby at_107) rfl rfl ?_
    show Steps p.tables e below (T76.setTop (mkF m 108 #[.val (.int p0), .val (.int p1), .val (.int p2), .val (.int p3), .val (.int p4), .val (.int len), .val (.int olen), .val (.long span), .second, .val (.long ospan), .second, .val (.long alow), .second, .val (.long lo), .second, .val (.int adr), .val (.long blow), .second, .val (.long bas), .second, .val (.long olo), .second, .val (.int oadr), .unset, .unset, .unset, .unset, .unset, .unset, .unset] [(.ref b76), (.ref b76)])) t
    refine XS.iload X76.here hx rfl (hb hby at_108) rfl ?_
    show Steps p.tables e below (T76.setTop (mkF m 110 #[.val (.int p0), .val (.int p1), .val (.int p2), .val (.int p3), .val (.int p4), .val (.int len), .val (.int olen), .val (.long span), .second, .val (.long ospan), .second, .val (.long alow), .second, .val (.long lo), .second, .val (.int adr), .val (.long blow), .second, .val (.long bas), .second, .val (.long olo), .second, .val (.int oadr), .unset, .unset, .unset, .unset, .unset, .unset, .unset] [(.int adr), (.ref b76), (.ref b76)])) t
    refine XS.iload X76.here hx rfl (hb hby at_110) rfl ?_
    exact kk
  obtain ⟨_, _, ⟨T80, L80, k80, n80⟩, -, X80, ⟨Lc80, hQ80, l80, y80, z80⟩, st80⟩ := X76.specialBack hx (y := (⟨"com/example/indizio/indizio/core/Ipv4Prefix", "<init>", "(II)V"⟩ : MethodName)) rfl hown (mvT hZ (hw _ (List.mem_of_getElem? (i := 5) rfl))) (mvT hZ (hw _ (List.mem_of_getElem? (i := 6) rfl))) (mvT hZ (hw _ (List.mem_of_getElem? (i := 7) rfl))) (by decide) (backOf (W := 1) (rm_init l Z a0 hw [] b76 adr len h76 n0 f78 F_address_b76 F_length_b76 A76 gb76 (own_rng hp1) (own_ok hp1)) hZ (hw _ (List.mem_of_getElem? (i := 7) rfl)) (hw _ (List.mem_of_getElem? (i := 4) rfl)) (by decide) (by decide)) (g := (mkF m 112 #[.val (.int p0), .val (.int p1), .val (.int p2), .val (.int p3), .val (.int p4), .val (.int len), .val (.int olen), .val (.long span), .second, .val (.long ospan), .second, .val (.long alow), .second, .val (.long lo), .second, .val (.int adr), .val (.long blow), .second, .val (.long bas), .second, .val (.long olo), .second, .val (.int oadr), .unset, .unset, .unset, .unset, .unset, .unset, .unset] [(.int len), (.int adr), (.ref b76), (.ref b76)])) rfl (by rw [hml]; rfl) (Steps.refl _) (a := b76) (argsL := [(.int adr), (.int len)]) (rest := [(.ref b76)]) (lenOf pd__II_V rfl) rfl (by show 2 * 0 + _ ≤ _; exact Nat.le_of_eq rfl) (hb hby at_112) (fun _ _ => ⟨rfl, e76, (by decide : 1 + 0 ≤ _), (by decide : 2 + 0 ≤ _)⟩)
  dsimp only [Pt.U, Pt.locs, Pt.cells, Pt.slots] at X80 l80 y80 z80 st80 hQ80
  subst l80 y80 z80
  obtain ⟨rfl, Nq80, Kq80, Eq80, Fq80_1, Fq80_2⟩ := hQ80
  have N80 := Fr.app N0 Nq80
  have c81 : Goes p e below s₁ (entryFrame m #[(.int p0), (.int p1), (.int p2), (.int p3), (.int p4)] maxLocals) T80 (mkF m 115 #[.val (.int p0), .val (.int p1), .val (.int p2), .val (.int p3), .val (.int p4), .val (.int len), .val (.int olen), .val (.long span), .second, .val (.long ospan), .second, .val (.long alow), .second, .val (.long lo), .second, .val (.int adr), .val (.long blow), .second, .val (.long bas), .second, .val (.long olo), .second, .val (.int oadr), .unset, .unset, .unset, .unset, .unset, .unset, .unset] [(.ref b76)]) := fun t kk => c79 t (st80.trans kk)
  have c82 : Goes p e below s₁ (entryFrame m #[(.int p0), (.int p1), (.int p2), (.int p3), (.int p4)] maxLocals) T80 (mkF m 117 #[.val (.int p0), .val (.int p1), .val (.int p2), .val (.int p3), .val (.int p4), .val (.int len), .val (.int olen), .val (.long span), .second, .val (.long ospan), .second, .val (.long alow), .second, .val (.long lo), .second, .val (.int adr), .val (.long blow), .second, .val (.long bas), .second, .val (.long olo), .second, .val (.int oadr), .val (.ref b76), .unset, .unset, .unset, .unset, .unset, .unset] []) := by
    intro t kk
    refine c81 t ?_
    show Steps p.tables e below (T80.setTop (mkF m 115 #[.val (.int p0), .val (.int p1), .val (.int p2), .val (.int p3), .val (.int p4), .val (.int len), .val (.int olen), .val (.long span), .second, .val (.long ospan), .second, .val (.long alow), .second, .val (.long lo), .second, .val (.int adr), .val (.long blow), .second, .val (.long bas), .second, .val (.long olo), .second, .val (.int oadr), .unset, .unset, .unset, .unset, .unset, .unset, .unset] [(.ref b76)])) t
    refine XS.astore X80.here hx rfl (hb hby at_115) rfl rfl (l' := #[.val (.int p0), .val (.int p1), .val (.int p2), .val (.int p3), .val (.int p4), .val (.int len), .val (.int olen), .val (.long span), .second, .val (.long ospan), .second, .val (.long alow), .second, .val (.long lo), .second, .val (.int adr), .val (.long blow), .second, .val (.long bas), .second, .val (.long olo), .second, .val (.int oadr), .val (.ref b76), .unset, .unset, .unset, .unset, .unset, .unset]) rfl ?_
    exact kk
  obtain ⟨T83, h83, X83, e83, E83, A83, D83, -, st83⟩ := newO X80 hx hZ hown (hw _ (List.mem_of_getElem? (i := 2) rfl)) (hw _ (List.mem_of_getElem? (i := 3) rfl)) (hw _ (List.mem_of_getElem? (i := 4) rfl)) rfl (g := (mkF m 117 #[.val (.int p0), .val (.int p1), .val (.int p2), .val (.int p3), .val (.int p4), .val (.int len), .val (.int olen), .val (.long span), .second, .val (.long ospan), .second, .val (.long alow), .second, .val (.long lo), .second, .val (.int adr), .val (.long blow), .second, .val (.long bas), .second, .val (.long olo), .second, .val (.int oadr), .val (.ref b76), .unset, .unset, .unset, .unset, .unset, .unset] [])) rfl (hb hby at_117) (by decide) (by decide)
  obtain ⟨b83, g83⟩ : ∃ z, z = T80.heap.size := ⟨_, rfl⟩
  rw [← g83] at A83 D83 st83
  have f84 := (Nat.le_trans f78 Kq80.1)
  have gb83 : n0 ≤ b83 := Nat.le_trans f84 (Nat.le_of_eq g83.symm)
  have neb76_83 : b76 ≠ b83 := Nat.ne_of_lt (Nat.lt_of_lt_of_le Eq80.lt (Nat.le_of_eq g83.symm))
  have F_address_b83 : Fld Z h83 b83 "com/example/indizio/indizio/core/Ipv4Prefix" "address" "I" (.int (0 : Int32)) := D83 (Or.inr (hw _ (List.mem_of_getElem? (i := 23) rfl))) (ty := .int) (by decide)
  have F_length_b83 : Fld Z h83 b83 "com/example/indizio/indizio/core/Ipv4Prefix" "length" "I" (.int (0 : Int32)) := D83 (Or.inr (hw _ (List.mem_of_getElem? (i := 25) rfl))) (ty := .int) (by decide)
  have c85 : Goes p e below s₁ (entryFrame m #[(.int p0), (.int p1), (.int p2), (.int p3), (.int p4)] maxLocals) T83 (mkF m 120 #[.val (.int p0), .val (.int p1), .val (.int p2), .val (.int p3), .val (.int p4), .val (.int len), .val (.int olen), .val (.long span), .second, .val (.long ospan), .second, .val (.long alow), .second, .val (.long lo), .second, .val (.int adr), .val (.long blow), .second, .val (.long bas), .second, .val (.long olo), .second, .val (.int oadr), .val (.ref b76), .unset, .unset, .unset, .unset, .unset, .unset] [(.ref b83)]) := fun t kk => c82 t (st83 t kk)
  have f86 := (Nat.le_trans f84 E83.1)
  have c87 : Goes p e below s₁ (entryFrame m #[(.int p0), (.int p1), (.int p2), (.int p3), (.int p4)] maxLocals) T83 (mkF m 125 #[.val (.int p0), .val (.int p1), .val (.int p2), .val (.int p3), .val (.int p4), .val (.int len), .val (.int olen), .val (.long span), .second, .val (.long ospan), .second, .val (.long alow), .second, .val (.long lo), .second, .val (.int adr), .val (.long blow), .second, .val (.long bas), .second, .val (.long olo), .second, .val (.int oadr), .val (.ref b76), .unset, .unset, .unset, .unset, .unset, .unset] [(.int olen), (.int oadr), (.ref b83), (.ref b83)]) := by
    intro t kk
    refine c85 t ?_
    show Steps p.tables e below (T83.setTop (mkF m 120 #[.val (.int p0), .val (.int p1), .val (.int p2), .val (.int p3), .val (.int p4), .val (.int len), .val (.int olen), .val (.long span), .second, .val (.long ospan), .second, .val (.long alow), .second, .val (.long lo), .second, .val (.int adr), .val (.long blow), .second, .val (.long bas), .second, .val (.long olo), .second, .val (.int oadr), .val (.ref b76), .unset, .unset, .unset, .unset, .unset, .unset] [(.ref b83)])) t
    refine XS.dup X83.here hx rfl (hb hby at_120) rfl rfl ?_
    show Steps p.tables e below (T83.setTop (mkF m 121 #[.val (.int p0), .val (.int p1), .val (.int p2), .val (.int p3), .val (.int p4), .val (.int len), .val (.int olen), .val (.long span), .second, .val (.long ospan), .second, .val (.long alow), .second, .val (.long lo), .second, .val (.int adr), .val (.long blow), .second, .val (.long bas), .second, .val (.long olo), .second, .val (.int oadr), .val (.ref b76), .unset, .unset, .unset, .unset, .unset, .unset] [(.ref b83), (.ref b83)])) t
    refine XS.iload X83.here hx rfl (hb hby at_121) rfl ?_
    show Steps p.tables e below (T83.setTop (mkF m 123 #[.val (.int p0), .val (.int p1), .val (.int p2), .val (.int p3), .val (.int p4), .val (.int len), .val (.int olen), .val (.long span), .second, .val (.long ospan), .second, .val (.long alow), .second, .val (.long lo), .second, .val (.int adr), .val (.long blow), .second, .val (.long bas), .second, .val (.long olo), .second, .val (.int oadr), .val (.ref b76), .unset, .unset, .unset, .unset, .unset, .unset] [(.int oadr), (.ref b83), (.ref b83)])) t
    refine XS.iload X83.here hx rfl (hb hby at_123) rfl ?_
    exact kk
  obtain ⟨_, _, ⟨T88, L88, k88, n88⟩, -, X88, ⟨Lc88, hQ88, l88, y88, z88⟩, st88⟩ := X83.specialBack hx (y := (⟨"com/example/indizio/indizio/core/Ipv4Prefix", "<init>", "(II)V"⟩ : MethodName)) rfl hown (mvT hZ (hw _ (List.mem_of_getElem? (i := 5) rfl))) (mvT hZ (hw _ (List.mem_of_getElem? (i := 6) rfl))) (mvT hZ (hw _ (List.mem_of_getElem? (i := 7) rfl))) (by decide) (backOf (W := 1) (rm_init l Z a0 hw [] b83 oadr olen h83 n0 f86 F_address_b83 F_length_b83 A83 gb83 (own_rng hp2) (own_ok hp2)) hZ (hw _ (List.mem_of_getElem? (i := 7) rfl)) (hw _ (List.mem_of_getElem? (i := 4) rfl)) (by decide) (by decide)) (g := (mkF m 125 #[.val (.int p0), .val (.int p1), .val (.int p2), .val (.int p3), .val (.int p4), .val (.int len), .val (.int olen), .val (.long span), .second, .val (.long ospan), .second, .val (.long alow), .second, .val (.long lo), .second, .val (.int adr), .val (.long blow), .second, .val (.long bas), .second, .val (.long olo), .second, .val (.int oadr), .val (.ref b76), .unset, .unset, .unset, .unset, .unset, .unset] [(.int olen), (.int oadr), (.ref b83), (.ref b83)])) rfl (by rw [hml]; rfl) (Steps.refl _) (a := b83) (argsL := [(.int oadr), (.int olen)]) (rest := [(.ref b83)]) (lenOf pd__II_V rfl) rfl (by show 2 * 0 + _ ≤ _; exact Nat.le_of_eq rfl) (hb hby at_125) (fun _ _ => ⟨rfl, e83, (by decide : 2 + 0 ≤ _), (by decide : 4 + 0 ≤ _)⟩)
  dsimp only [Pt.U, Pt.locs, Pt.cells, Pt.slots] at X88 l88 y88 z88 st88 hQ88
  subst l88 y88 z88
  obtain ⟨rfl, Nq88, Kq88, Eq88, Fq88_1, Fq88_2⟩ := hQ88
  have N88 := Fr.app N80 Nq88
  have c89 : Goes p e below s₁ (entryFrame m #[(.int p0), (.int p1), (.int p2), (.int p3), (.int p4)] maxLocals) T88 (mkF m 128 #[.val (.int p0), .val (.int p1), .val (.int p2), .val (.int p3), .val (.int p4), .val (.int len), .val (.int olen), .val (.long span), .second, .val (.long ospan), .second, .val (.long alow), .second, .val (.long lo), .second, .val (.int adr), .val (.long blow), .second, .val (.long bas), .second, .val (.long olo), .second, .val (.int oadr), .val (.ref b76), .unset, .unset, .unset, .unset, .unset, .unset] [(.ref b83)]) := fun t kk => c87 t (st88.trans kk)
  have c90 : Goes p e below s₁ (entryFrame m #[(.int p0), (.int p1), (.int p2), (.int p3), (.int p4)] maxLocals) T88 (mkF m 153 #[.val (.int p0), .val (.int p1), .val (.int p2), .val (.int p3), .val (.int p4), .val (.int len), .val (.int olen), .val (.long span), .second, .val (.long ospan), .second, .val (.long alow), .second, .val (.long lo), .second, .val (.int adr), .val (.long blow), .second, .val (.long bas), .second, .val (.long olo), .second, .val (.int oadr), .val (.ref b76), .val (.ref b83), .val (.long ((lo + span) - (1 : Int64))), .second, .val (.long ((olo + ospan) - (1 : Int64))), .second, .unset] [(.int (lcmpW lo olo))]) := by
    intro t kk
    refine c89 t ?_
    show Steps p.tables e below (T88.setTop (mkF m 128 #[.val (.int p0), .val (.int p1), .val (.int p2), .val (.int p3), .val (.int p4), .val (.int len), .val (.int olen), .val (.long span), .second, .val (.long ospan), .second, .val (.long alow), .second, .val (.long lo), .second, .val (.int adr), .val (.long blow), .second, .val (.long bas), .second, .val (.long olo), .second, .val (.int oadr), .val (.ref b76), .unset, .unset, .unset, .unset, .unset, .unset] [(.ref b83)])) t
    refine XS.astore X88.here hx rfl (hb hby at_128) rfl rfl (l' := #[.val (.int p0), .val (.int p1), .val (.int p2), .val (.int p3), .val (.int p4), .val (.int len), .val (.int olen), .val (.long span), .second, .val (.long ospan), .second, .val (.long alow), .second, .val (.long lo), .second, .val (.int adr), .val (.long blow), .second, .val (.long bas), .second, .val (.long olo), .second, .val (.int oadr), .val (.ref b76), .val (.ref b83), .unset, .unset, .unset, .unset, .unset]) rfl ?_
    show Steps p.tables e below (T88.setTop (mkF m 130 #[.val (.int p0), .val (.int p1), .val (.int p2), .val (.int p3), .val (.int p4), .val (.int len), .val (.int olen), .val (.long span), .second, .val (.long ospan), .second, .val (.long alow), .second, .val (.long lo), .second, .val (.int adr), .val (.long blow), .second, .val (.long bas), .second, .val (.long olo), .second, .val (.int oadr), .val (.ref b76), .val (.ref b83), .unset, .unset, .unset, .unset, .unset] [])) t
    refine XS.lload X88.here hx rfl (hb hby at_130) rfl ?_
    show Steps p.tables e below (T88.setTop (mkF m 132 #[.val (.int p0), .val (.int p1), .val (.int p2), .val (.int p3), .val (.int p4), .val (.int len), .val (.int olen), .val (.long span), .second, .val (.long ospan), .second, .val (.long alow), .second, .val (.long lo), .second, .val (.int adr), .val (.long blow), .second, .val (.long bas), .second, .val (.long olo), .second, .val (.int oadr), .val (.ref b76), .val (.ref b83), .unset, .unset, .unset, .unset, .unset] [(.long lo)])) t
    refine XS.lload X88.here hx rfl (hb hby at_132) rfl ?_
    show Steps p.tables e below (T88.setTop (mkF m 134 #[.val (.int p0), .val (.int p1), .val (.int p2), .val (.int p3), .val (.int p4), .val (.int len), .val (.int olen), .val (.long span), .second, .val (.long ospan), .second, .val (.long alow), .second, .val (.long lo), .second, .val (.int adr), .val (.long blow), .second, .val (.long bas), .second, .val (.long olo), .second, .val (.int oadr), .val (.ref b76), .val (.ref b83), .unset, .unset, .unset, .unset, .unset] [(.long span), (.long lo)])) t
    refine XS.ladd X88.here hx rfl (hb hby at_134) rfl ?_
    show Steps p.tables e below (T88.setTop (mkF m 135 #[.val (.int p0), .val (.int p1), .val (.int p2), .val (.int p3), .val (.int p4), .val (.int len), .val (.int olen), .val (.long span), .second, .val (.long ospan), .second, .val (.long alow), .second, .val (.long lo), .second, .val (.int adr), .val (.long blow), .second, .val (.long bas), .second, .val (.long olo), .second, .val (.int oadr), .val (.ref b76), .val (.ref b83), .unset, .unset, .unset, .unset, .unset] [(.long (lo + span))])) t
    refine XS.lconst X88.here hx rfl (hb hby at_135) ?_
    show Steps p.tables e below (T88.setTop (mkF m 136 #[.val (.int p0), .val (.int p1), .val (.int p2), .val (.int p3), .val (.int p4), .val (.int len), .val (.int olen), .val (.long span), .second, .val (.long ospan), .second, .val (.long alow), .second, .val (.long lo), .second, .val (.int adr), .val (.long blow), .second, .val (.long bas), .second, .val (.long olo), .second, .val (.int oadr), .val (.ref b76), .val (.ref b83), .unset, .unset, .unset, .unset, .unset] [(.long (1 : Int64)), (.long (lo + span))])) t
    refine XS.lsub X88.here hx rfl (hb hby at_136) rfl ?_
    show Steps p.tables e below (T88.setTop (mkF m 137 #[.val (.int p0), .val (.int p1), .val (.int p2), .val (.int p3), .val (.int p4), .val (.int len), .val (.int olen), .val (.long span), .second, .val (.long ospan), .second, .val (.long alow), .second, .val (.long lo), .second, .val (.int adr), .val (.long blow), .second, .val (.long bas), .second, .val (.long olo), .second, .val (.int oadr), .val (.ref b76), .val (.ref b83), .unset, .unset, .unset, .unset, .unset] [(.long ((lo + span) - (1 : Int64)))])) t
    refine XS.lstore X88.here hx rfl (hb hby at_137) rfl (l' := #[.val (.int p0), .val (.int p1), .val (.int p2), .val (.int p3), .val (.int p4), .val (.int len), .val (.int olen), .val (.long span), .second, .val (.long ospan), .second, .val (.long alow), .second, .val (.long lo), .second, .val (.int adr), .val (.long blow), .second, .val (.long bas), .second, .val (.long olo), .second, .val (.int oadr), .val (.ref b76), .val (.ref b83), .val (.long ((lo + span) - (1 : Int64))), .second, .unset, .unset, .unset]) rfl ?_
    show Steps p.tables e below (T88.setTop (mkF m 139 #[.val (.int p0), .val (.int p1), .val (.int p2), .val (.int p3), .val (.int p4), .val (.int len), .val (.int olen), .val (.long span), .second, .val (.long ospan), .second, .val (.long alow), .second, .val (.long lo), .second, .val (.int adr), .val (.long blow), .second, .val (.long bas), .second, .val (.long olo), .second, .val (.int oadr), .val (.ref b76), .val (.ref b83), .val (.long ((lo + span) - (1 : Int64))), .second, .unset, .unset, .unset] [])) t
    refine XS.lload X88.here hx rfl (hb hby at_139) rfl ?_
    show Steps p.tables e below (T88.setTop (mkF m 141 #[.val (.int p0), .val (.int p1), .val (.int p2), .val (.int p3), .val (.int p4), .val (.int len), .val (.int olen), .val (.long span), .second, .val (.long ospan), .second, .val (.long alow), .second, .val (.long lo), .second, .val (.int adr), .val (.long blow), .second, .val (.long bas), .second, .val (.long olo), .second, .val (.int oadr), .val (.ref b76), .val (.ref b83), .val (.long ((lo + span) - (1 : Int64))), .second, .unset, .unset, .unset] [(.long olo)])) t
    refine XS.lload X88.here hx rfl (hb hby at_141) rfl ?_
    show Steps p.tables e below (T88.setTop (mkF m 143 #[.val (.int p0), .val (.int p1), .val (.int p2), .val (.int p3), .val (.int p4), .val (.int len), .val (.int olen), .val (.long span), .second, .val (.long ospan), .second, .val (.long alow), .second, .val (.long lo), .second, .val (.int adr), .val (.long blow), .second, .val (.long bas), .second, .val (.long olo), .second, .val (.int oadr), .val (.ref b76), .val (.ref b83), .val (.long ((lo + span) - (1 : Int64))), .second, .unset, .unset, .unset] [(.long ospan), (.long olo)])) t
    refine XS.ladd X88.here hx rfl (hb hby at_143) rfl ?_
    show Steps p.tables e below (T88.setTop (mkF m 144 #[.val (.int p0), .val (.int p1), .val (.int p2), .val (.int p3), .val (.int p4), .val (.int len), .val (.int olen), .val (.long span), .second, .val (.long ospan), .second, .val (.long alow), .second, .val (.long lo), .second, .val (.int adr), .val (.long blow), .second, .val (.long bas), .second, .val (.long olo), .second, .val (.int oadr), .val (.ref b76), .val (.ref b83), .val (.long ((lo + span) - (1 : Int64))), .second, .unset, .unset, .unset] [(.long (olo + ospan))])) t
    refine XS.lconst X88.here hx rfl (hb hby at_144) ?_
    show Steps p.tables e below (T88.setTop (mkF m 145 #[.val (.int p0), .val (.int p1), .val (.int p2), .val (.int p3), .val (.int p4), .val (.int len), .val (.int olen), .val (.long span), .second, .val (.long ospan), .second, .val (.long alow), .second, .val (.long lo), .second, .val (.int adr), .val (.long blow), .second, .val (.long bas), .second, .val (.long olo), .second, .val (.int oadr), .val (.ref b76), .val (.ref b83), .val (.long ((lo + span) - (1 : Int64))), .second, .unset, .unset, .unset] [(.long (1 : Int64)), (.long (olo + ospan))])) t
    refine XS.lsub X88.here hx rfl (hb hby at_145) rfl ?_
    show Steps p.tables e below (T88.setTop (mkF m 146 #[.val (.int p0), .val (.int p1), .val (.int p2), .val (.int p3), .val (.int p4), .val (.int len), .val (.int olen), .val (.long span), .second, .val (.long ospan), .second, .val (.long alow), .second, .val (.long lo), .second, .val (.int adr), .val (.long blow), .second, .val (.long bas), .second, .val (.long olo), .second, .val (.int oadr), .val (.ref b76), .val (.ref b83), .val (.long ((lo + span) - (1 : Int64))), .second, .unset, .unset, .unset] [(.long ((olo + ospan) - (1 : Int64)))])) t
    refine XS.lstore X88.here hx rfl (hb hby at_146) rfl (l' := #[.val (.int p0), .val (.int p1), .val (.int p2), .val (.int p3), .val (.int p4), .val (.int len), .val (.int olen), .val (.long span), .second, .val (.long ospan), .second, .val (.long alow), .second, .val (.long lo), .second, .val (.int adr), .val (.long blow), .second, .val (.long bas), .second, .val (.long olo), .second, .val (.int oadr), .val (.ref b76), .val (.ref b83), .val (.long ((lo + span) - (1 : Int64))), .second, .val (.long ((olo + ospan) - (1 : Int64))), .second, .unset]) rfl ?_
    show Steps p.tables e below (T88.setTop (mkF m 148 #[.val (.int p0), .val (.int p1), .val (.int p2), .val (.int p3), .val (.int p4), .val (.int len), .val (.int olen), .val (.long span), .second, .val (.long ospan), .second, .val (.long alow), .second, .val (.long lo), .second, .val (.int adr), .val (.long blow), .second, .val (.long bas), .second, .val (.long olo), .second, .val (.int oadr), .val (.ref b76), .val (.ref b83), .val (.long ((lo + span) - (1 : Int64))), .second, .val (.long ((olo + ospan) - (1 : Int64))), .second, .unset] [])) t
    refine XS.lload X88.here hx rfl (hb hby at_148) rfl ?_
    show Steps p.tables e below (T88.setTop (mkF m 150 #[.val (.int p0), .val (.int p1), .val (.int p2), .val (.int p3), .val (.int p4), .val (.int len), .val (.int olen), .val (.long span), .second, .val (.long ospan), .second, .val (.long alow), .second, .val (.long lo), .second, .val (.int adr), .val (.long blow), .second, .val (.long bas), .second, .val (.long olo), .second, .val (.int oadr), .val (.ref b76), .val (.ref b83), .val (.long ((lo + span) - (1 : Int64))), .second, .val (.long ((olo + ospan) - (1 : Int64))), .second, .unset] [(.long lo)])) t
    refine XS.lload X88.here hx rfl (hb hby at_150) rfl ?_
    show Steps p.tables e below (T88.setTop (mkF m 152 #[.val (.int p0), .val (.int p1), .val (.int p2), .val (.int p3), .val (.int p4), .val (.int len), .val (.int olen), .val (.long span), .second, .val (.long ospan), .second, .val (.long alow), .second, .val (.long lo), .second, .val (.int adr), .val (.long blow), .second, .val (.long bas), .second, .val (.long olo), .second, .val (.int oadr), .val (.ref b76), .val (.ref b83), .val (.long ((lo + span) - (1 : Int64))), .second, .val (.long ((olo + ospan) - (1 : Int64))), .second, .unset] [(.long olo), (.long lo)])) t
    refine XS.lcmp X88.here hx rfl (hb hby at_152) rfl ?_
    exact kk
  obtain ⟨ex, hm91, c91⟩ : ∃ ex : Int32, (ex = if (0 : Int32) < lcmpW lo olo then 0 else if (0 : Int32) < lcmpW (olo + ospan - 1) (lo + span - 1) then 0 else 1) ∧ Goes p e below s₁ (entryFrame m #[(.int p0), (.int p1), (.int p2), (.int p3), (.int p4)] maxLocals) T88 (mkF m 169 #[.val (.int p0), .val (.int p1), .val (.int p2), .val (.int p3), .val (.int p4), .val (.int len), .val (.int olen), .val (.long span), .second, .val (.long ospan), .second, .val (.long alow), .second, .val (.long lo), .second, .val (.int adr), .val (.long blow), .second, .val (.long bas), .second, .val (.long olo), .second, .val (.int oadr), .val (.ref b76), .val (.ref b83), .val (.long ((lo + span) - (1 : Int64))), .second, .val (.long ((olo + ospan) - (1 : Int64))), .second, .unset] [(.int ex)]) := by
    by_cases h153 : (0 : Int32) < (lcmpW lo olo)
    · have c92 : Goes p e below s₁ (entryFrame m #[(.int p0), (.int p1), (.int p2), (.int p3), (.int p4)] maxLocals) T88 (mkF m 169 #[.val (.int p0), .val (.int p1), .val (.int p2), .val (.int p3), .val (.int p4), .val (.int len), .val (.int olen), .val (.long span), .second, .val (.long ospan), .second, .val (.long alow), .second, .val (.long lo), .second, .val (.int adr), .val (.long blow), .second, .val (.long bas), .second, .val (.long olo), .second, .val (.int oadr), .val (.ref b76), .val (.ref b83), .val (.long ((lo + span) - (1 : Int64))), .second, .val (.long ((olo + ospan) - (1 : Int64))), .second, .unset] [(.int (0 : Int32))]) := by
        intro t kk
        refine c90 t ?_
        show Steps p.tables e below (T88.setTop (mkF m 153 #[.val (.int p0), .val (.int p1), .val (.int p2), .val (.int p3), .val (.int p4), .val (.int len), .val (.int olen), .val (.long span), .second, .val (.long ospan), .second, .val (.long alow), .second, .val (.long lo), .second, .val (.int adr), .val (.long blow), .second, .val (.long bas), .second, .val (.long olo), .second, .val (.int oadr), .val (.ref b76), .val (.ref b83), .val (.long ((lo + span) - (1 : Int64))), .second, .val (.long ((olo + ospan) - (1 : Int64))), .second, .unset] [(.int (lcmpW lo olo))])) t
        refine XS.ifYes X88.here hx rfl (pc0 := 153) (pc' := 168) rfl (hb hby at_153) rfl ((if0 _ _).trans (tlt h153).2.2.1) (by decide) (by decide) ?_
        show Steps p.tables e below (T88.setTop (mkF m 168 #[.val (.int p0), .val (.int p1), .val (.int p2), .val (.int p3), .val (.int p4), .val (.int len), .val (.int olen), .val (.long span), .second, .val (.long ospan), .second, .val (.long alow), .second, .val (.long lo), .second, .val (.int adr), .val (.long blow), .second, .val (.long bas), .second, .val (.long olo), .second, .val (.int oadr), .val (.ref b76), .val (.ref b83), .val (.long ((lo + span) - (1 : Int64))), .second, .val (.long ((olo + ospan) - (1 : Int64))), .second, .unset] [])) t
        refine XS.iconst X88.here hx rfl (hb hby at_168) ?_
        exact kk
      exact ⟨(0 : Int32), (by simp only [h153, if_true, if_false]), c92⟩
    · have c93 : Goes p e below s₁ (entryFrame m #[(.int p0), (.int p1), (.int p2), (.int p3), (.int p4)] maxLocals) T88 (mkF m 161 #[.val (.int p0), .val (.int p1), .val (.int p2), .val (.int p3), .val (.int p4), .val (.int len), .val (.int olen), .val (.long span), .second, .val (.long ospan), .second, .val (.long alow), .second, .val (.long lo), .second, .val (.int adr), .val (.long blow), .second, .val (.long bas), .second, .val (.long olo), .second, .val (.int oadr), .val (.ref b76), .val (.ref b83), .val (.long ((lo + span) - (1 : Int64))), .second, .val (.long ((olo + ospan) - (1 : Int64))), .second, .unset] [(.int (lcmpW ((olo + ospan) - (1 : Int64)) ((lo + span) - (1 : Int64))))]) := by
        intro t kk
        refine c90 t ?_
        show Steps p.tables e below (T88.setTop (mkF m 153 #[.val (.int p0), .val (.int p1), .val (.int p2), .val (.int p3), .val (.int p4), .val (.int len), .val (.int olen), .val (.long span), .second, .val (.long ospan), .second, .val (.long alow), .second, .val (.long lo), .second, .val (.int adr), .val (.long blow), .second, .val (.long bas), .second, .val (.long olo), .second, .val (.int oadr), .val (.ref b76), .val (.ref b83), .val (.long ((lo + span) - (1 : Int64))), .second, .val (.long ((olo + ospan) - (1 : Int64))), .second, .unset] [(.int (lcmpW lo olo))])) t
        refine XS.ifNo X88.here hx rfl (hb hby at_153) rfl ((if0 _ _).trans (flt h153).2.2.1) ?_
        show Steps p.tables e below (T88.setTop (mkF m 156 #[.val (.int p0), .val (.int p1), .val (.int p2), .val (.int p3), .val (.int p4), .val (.int len), .val (.int olen), .val (.long span), .second, .val (.long ospan), .second, .val (.long alow), .second, .val (.long lo), .second, .val (.int adr), .val (.long blow), .second, .val (.long bas), .second, .val (.long olo), .second, .val (.int oadr), .val (.ref b76), .val (.ref b83), .val (.long ((lo + span) - (1 : Int64))), .second, .val (.long ((olo + ospan) - (1 : Int64))), .second, .unset] [])) t
        refine XS.lload X88.here hx rfl (hb hby at_156) rfl ?_
        show Steps p.tables e below (T88.setTop (mkF m 158 #[.val (.int p0), .val (.int p1), .val (.int p2), .val (.int p3), .val (.int p4), .val (.int len), .val (.int olen), .val (.long span), .second, .val (.long ospan), .second, .val (.long alow), .second, .val (.long lo), .second, .val (.int adr), .val (.long blow), .second, .val (.long bas), .second, .val (.long olo), .second, .val (.int oadr), .val (.ref b76), .val (.ref b83), .val (.long ((lo + span) - (1 : Int64))), .second, .val (.long ((olo + ospan) - (1 : Int64))), .second, .unset] [(.long ((olo + ospan) - (1 : Int64)))])) t
        refine XS.lload X88.here hx rfl (hb hby at_158) rfl ?_
        show Steps p.tables e below (T88.setTop (mkF m 160 #[.val (.int p0), .val (.int p1), .val (.int p2), .val (.int p3), .val (.int p4), .val (.int len), .val (.int olen), .val (.long span), .second, .val (.long ospan), .second, .val (.long alow), .second, .val (.long lo), .second, .val (.int adr), .val (.long blow), .second, .val (.long bas), .second, .val (.long olo), .second, .val (.int oadr), .val (.ref b76), .val (.ref b83), .val (.long ((lo + span) - (1 : Int64))), .second, .val (.long ((olo + ospan) - (1 : Int64))), .second, .unset] [(.long ((lo + span) - (1 : Int64))), (.long ((olo + ospan) - (1 : Int64)))])) t
        refine XS.lcmp X88.here hx rfl (hb hby at_160) rfl ?_
        exact kk
      by_cases h161 : (0 : Int32) < (lcmpW ((olo + ospan) - (1 : Int64)) ((lo + span) - (1 : Int64)))
      · have c94 : Goes p e below s₁ (entryFrame m #[(.int p0), (.int p1), (.int p2), (.int p3), (.int p4)] maxLocals) T88 (mkF m 169 #[.val (.int p0), .val (.int p1), .val (.int p2), .val (.int p3), .val (.int p4), .val (.int len), .val (.int olen), .val (.long span), .second, .val (.long ospan), .second, .val (.long alow), .second, .val (.long lo), .second, .val (.int adr), .val (.long blow), .second, .val (.long bas), .second, .val (.long olo), .second, .val (.int oadr), .val (.ref b76), .val (.ref b83), .val (.long ((lo + span) - (1 : Int64))), .second, .val (.long ((olo + ospan) - (1 : Int64))), .second, .unset] [(.int (0 : Int32))]) := by
          intro t kk
          refine c93 t ?_
          show Steps p.tables e below (T88.setTop (mkF m 161 #[.val (.int p0), .val (.int p1), .val (.int p2), .val (.int p3), .val (.int p4), .val (.int len), .val (.int olen), .val (.long span), .second, .val (.long ospan), .second, .val (.long alow), .second, .val (.long lo), .second, .val (.int adr), .val (.long blow), .second, .val (.long bas), .second, .val (.long olo), .second, .val (.int oadr), .val (.ref b76), .val (.ref b83), .val (.long ((lo + span) - (1 : Int64))), .second, .val (.long ((olo + ospan) - (1 : Int64))), .second, .unset] [(.int (lcmpW ((olo + ospan) - (1 : Int64)) ((lo + span) - (1 : Int64))))])) t
          refine XS.ifYes X88.here hx rfl (pc0 := 161) (pc' := 168) rfl (hb hby at_161) rfl ((if0 _ _).trans (tlt h161).2.2.1) (by decide) (by decide) ?_
          show Steps p.tables e below (T88.setTop (mkF m 168 #[.val (.int p0), .val (.int p1), .val (.int p2), .val (.int p3), .val (.int p4), .val (.int len), .val (.int olen), .val (.long span), .second, .val (.long ospan), .second, .val (.long alow), .second, .val (.long lo), .second, .val (.int adr), .val (.long blow), .second, .val (.long bas), .second, .val (.long olo), .second, .val (.int oadr), .val (.ref b76), .val (.ref b83), .val (.long ((lo + span) - (1 : Int64))), .second, .val (.long ((olo + ospan) - (1 : Int64))), .second, .unset] [])) t
          refine XS.iconst X88.here hx rfl (hb hby at_168) ?_
          exact kk
        exact ⟨(0 : Int32), (by simp only [h153, h161, if_true, if_false]), c94⟩
      · have c95 : Goes p e below s₁ (entryFrame m #[(.int p0), (.int p1), (.int p2), (.int p3), (.int p4)] maxLocals) T88 (mkF m 169 #[.val (.int p0), .val (.int p1), .val (.int p2), .val (.int p3), .val (.int p4), .val (.int len), .val (.int olen), .val (.long span), .second, .val (.long ospan), .second, .val (.long alow), .second, .val (.long lo), .second, .val (.int adr), .val (.long blow), .second, .val (.long bas), .second, .val (.long olo), .second, .val (.int oadr), .val (.ref b76), .val (.ref b83), .val (.long ((lo + span) - (1 : Int64))), .second, .val (.long ((olo + ospan) - (1 : Int64))), .second, .unset] [(.int (1 : Int32))]) := by
          intro t kk
          refine c93 t ?_
          show Steps p.tables e below (T88.setTop (mkF m 161 #[.val (.int p0), .val (.int p1), .val (.int p2), .val (.int p3), .val (.int p4), .val (.int len), .val (.int olen), .val (.long span), .second, .val (.long ospan), .second, .val (.long alow), .second, .val (.long lo), .second, .val (.int adr), .val (.long blow), .second, .val (.long bas), .second, .val (.long olo), .second, .val (.int oadr), .val (.ref b76), .val (.ref b83), .val (.long ((lo + span) - (1 : Int64))), .second, .val (.long ((olo + ospan) - (1 : Int64))), .second, .unset] [(.int (lcmpW ((olo + ospan) - (1 : Int64)) ((lo + span) - (1 : Int64))))])) t
          refine XS.ifNo X88.here hx rfl (hb hby at_161) rfl ((if0 _ _).trans (flt h161).2.2.1) ?_
          show Steps p.tables e below (T88.setTop (mkF m 164 #[.val (.int p0), .val (.int p1), .val (.int p2), .val (.int p3), .val (.int p4), .val (.int len), .val (.int olen), .val (.long span), .second, .val (.long ospan), .second, .val (.long alow), .second, .val (.long lo), .second, .val (.int adr), .val (.long blow), .second, .val (.long bas), .second, .val (.long olo), .second, .val (.int oadr), .val (.ref b76), .val (.ref b83), .val (.long ((lo + span) - (1 : Int64))), .second, .val (.long ((olo + ospan) - (1 : Int64))), .second, .unset] [])) t
          refine XS.iconst X88.here hx rfl (hb hby at_164) ?_
          show Steps p.tables e below (T88.setTop (mkF m 165 #[.val (.int p0), .val (.int p1), .val (.int p2), .val (.int p3), .val (.int p4), .val (.int len), .val (.int olen), .val (.long span), .second, .val (.long ospan), .second, .val (.long alow), .second, .val (.long lo), .second, .val (.int adr), .val (.long blow), .second, .val (.long bas), .second, .val (.long olo), .second, .val (.int oadr), .val (.ref b76), .val (.ref b83), .val (.long ((lo + span) - (1 : Int64))), .second, .val (.long ((olo + ospan) - (1 : Int64))), .second, .unset] [(.int (1 : Int32))])) t
          refine XS.goto X88.here hx rfl (pc0 := 165) (pc' := 169) rfl (hb hby at_165) (by decide) (by decide) ?_
          exact kk
        exact ⟨(1 : Int32), (by simp only [h153, h161, if_true, if_false]), c95⟩
  have f96 := (Nat.le_trans f86 Kq88.1)
  have f97 := ((Fq80_1.ext E83).keep Kq88 (ninS neb76_83 nin0))
  have f98 := ((Fq80_2.ext E83).keep Kq88 (ninS neb76_83 nin0))
  have c99 : Goes p e below s₁ (entryFrame m #[(.int p0), (.int p1), (.int p2), (.int p3), (.int p4)] maxLocals) T88 (mkF m 175 #[.val (.int p0), .val (.int p1), .val (.int p2), .val (.int p3), .val (.int p4), .val (.int len), .val (.int olen), .val (.long span), .second, .val (.long ospan), .second, .val (.long alow), .second, .val (.long lo), .second, .val (.int adr), .val (.long blow), .second, .val (.long bas), .second, .val (.long olo), .second, .val (.int oadr), .val (.ref b76), .val (.ref b83), .val (.long ((lo + span) - (1 : Int64))), .second, .val (.long ((olo + ospan) - (1 : Int64))), .second, .val (.int ex)] [(.ref b83), (.ref b76)]) := by
    intro t kk
    refine c91 t ?_
    show Steps p.tables e below (T88.setTop (mkF m 169 #[.val (.int p0), .val (.int p1), .val (.int p2), .val (.int p3), .val (.int p4), .val (.int len), .val (.int olen), .val (.long span), .second, .val (.long ospan), .second, .val (.long alow), .second, .val (.long lo), .second, .val (.int adr), .val (.long blow), .second, .val (.long bas), .second, .val (.long olo), .second, .val (.int oadr), .val (.ref b76), .val (.ref b83), .val (.long ((lo + span) - (1 : Int64))), .second, .val (.long ((olo + ospan) - (1 : Int64))), .second, .unset] [(.int ex)])) t
    refine XS.istore X88.here hx rfl (hb hby at_169) rfl (l' := #[.val (.int p0), .val (.int p1), .val (.int p2), .val (.int p3), .val (.int p4), .val (.int len), .val (.int olen), .val (.long span), .second, .val (.long ospan), .second, .val (.long alow), .second, .val (.long lo), .second, .val (.int adr), .val (.long blow), .second, .val (.long bas), .second, .val (.long olo), .second, .val (.int oadr), .val (.ref b76), .val (.ref b83), .val (.long ((lo + span) - (1 : Int64))), .second, .val (.long ((olo + ospan) - (1 : Int64))), .second, .val (.int ex)]) rfl ?_
    show Steps p.tables e below (T88.setTop (mkF m 171 #[.val (.int p0), .val (.int p1), .val (.int p2), .val (.int p3), .val (.int p4), .val (.int len), .val (.int olen), .val (.long span), .second, .val (.long ospan), .second, .val (.long alow), .second, .val (.long lo), .second, .val (.int adr), .val (.long blow), .second, .val (.long bas), .second, .val (.long olo), .second, .val (.int oadr), .val (.ref b76), .val (.ref b83), .val (.long ((lo + span) - (1 : Int64))), .second, .val (.long ((olo + ospan) - (1 : Int64))), .second, .val (.int ex)] [])) t
    refine XS.aload X88.here hx rfl (hb hby at_171) rfl rfl ?_
    show Steps p.tables e below (T88.setTop (mkF m 173 #[.val (.int p0), .val (.int p1), .val (.int p2), .val (.int p3), .val (.int p4), .val (.int len), .val (.int olen), .val (.long span), .second, .val (.long ospan), .second, .val (.long alow), .second, .val (.long lo), .second, .val (.int adr), .val (.long blow), .second, .val (.long bas), .second, .val (.long olo), .second, .val (.int oadr), .val (.ref b76), .val (.ref b83), .val (.long ((lo + span) - (1 : Int64))), .second, .val (.long ((olo + ospan) - (1 : Int64))), .second, .val (.int ex)] [(.ref b76)])) t
    refine XS.aload X88.here hx rfl (hb hby at_173) rfl rfl ?_
    exact kk
  have f101 := ((Eq80.ext E83).keep Kq88)
  obtain ⟨cq100, kq100, q100a, q100b, q100c⟩ := isOf hZ rfl f101
  obtain ⟨_, _, ⟨T100, L100, k100, n100⟩, -, X100, ⟨Lc100, hQ100, l100, y100, z100⟩, st100⟩ := X88.virtualBack hx (y := (⟨"com/example/indizio/indizio/core/Ipv4Prefix", "contains", "(Lcom/example/indizio/indizio/core/Ipv4Prefix;)Z"⟩ : MethodName)) (z := (⟨"com/example/indizio/indizio/core/Ipv4Prefix", "contains", "(Lcom/example/indizio/indizio/core/Ipv4Prefix;)Z"⟩ : MethodName)) hown (mvT hZ (hw _ (List.mem_of_getElem? (i := 26) rfl))) (mvT hZ (hw _ (List.mem_of_getElem? (i := 27) rfl))) (notFace_of_selects (args := #[]) (mvT hZ (hw _ (List.mem_of_getElem? (i := 29) rfl)))) (mvT hZ (hw _ (List.mem_of_getElem? (i := 29) rfl))) (mvT hZ (hw _ (List.mem_of_getElem? (i := 28) rfl))) (by decide) (backOf (W := 0) (rm_con l Z a0 hw [] b76 b83 adr len oadr olen T88.heap n0 f96 f97 f98 Fq88_1 Fq88_2) hZ (hw _ (List.mem_of_getElem? (i := 30) rfl)) (hw _ (List.mem_of_getElem? (i := 4) rfl)) (by decide) (by decide)) q100a q100c (g := (mkF m 175 #[.val (.int p0), .val (.int p1), .val (.int p2), .val (.int p3), .val (.int p4), .val (.int len), .val (.int olen), .val (.long span), .second, .val (.long ospan), .second, .val (.long alow), .second, .val (.long lo), .second, .val (.int adr), .val (.long blow), .second, .val (.long bas), .second, .val (.long olo), .second, .val (.int oadr), .val (.ref b76), .val (.ref b83), .val (.long ((lo + span) - (1 : Int64))), .second, .val (.long ((olo + ospan) - (1 : Int64))), .second, .val (.int ex)] [(.ref b83), (.ref b76)])) rfl (by rw [hml]; rfl) (Steps.refl _) (argsL := [(.ref b83)]) (rest := []) (lenOf pd__Lcom_example_indizio_indizio_core_Ipv4Prefix__Z rfl) rfl (by show 2 * 0 + _ ≤ _; exact Nat.le_of_eq rfl) (hb hby at_175) (fun _ _ => ⟨rfl, rfl, (by decide : 2 + 0 ≤ _), (by decide : 4 + 0 ≤ _)⟩)
  dsimp only [Pt.U, Pt.locs, Pt.cells, Pt.slots] at X100 l100 y100 z100 st100 hQ100
  subst l100 y100 z100
  obtain ⟨rfl, Nq100, eq100⟩ := hQ100
  have N100 := Fr.app N88 Nq100
  have c102 : Goes p e below s₁ (entryFrame m #[(.int p0), (.int p1), (.int p2), (.int p3), (.int p4)] maxLocals) T100 (mkF m 178 #[.val (.int p0), .val (.int p1), .val (.int p2), .val (.int p3), .val (.int p4), .val (.int len), .val (.int olen), .val (.long span), .second, .val (.long ospan), .second, .val (.long alow), .second, .val (.long lo), .second, .val (.int adr), .val (.long blow), .second, .val (.long bas), .second, .val (.long olo), .second, .val (.int oadr), .val (.ref b76), .val (.ref b83), .val (.long ((lo + span) - (1 : Int64))), .second, .val (.long ((olo + ospan) - (1 : Int64))), .second, .val (.int ex)] [(.int (own_con adr len oadr olen))]) := fun t kk => c99 t (st100.trans kk)
  have c103 : Goes p e below s₁ (entryFrame m #[(.int p0), (.int p1), (.int p2), (.int p3), (.int p4)] maxLocals) T100 (mkF m 188 #[.val (.int p0), .val (.int p1), .val (.int p2), .val (.int p3), .val (.int p4), .val (.int len), .val (.int olen), .val (.long span), .second, .val (.long ospan), .second, .val (.long alow), .second, .val (.long lo), .second, .val (.int adr), .val (.long blow), .second, .val (.long bas), .second, .val (.long olo), .second, .val (.int oadr), .val (.ref b76), .val (.ref b83), .val (.long ((lo + span) - (1 : Int64))), .second, .val (.long ((olo + ospan) - (1 : Int64))), .second, .val (.int ex)] [(.int (1 : Int32))]) := by
    intro t kk
    refine c102 t ?_
    show Steps p.tables e below (T100.setTop (mkF m 178 #[.val (.int p0), .val (.int p1), .val (.int p2), .val (.int p3), .val (.int p4), .val (.int len), .val (.int olen), .val (.long span), .second, .val (.long ospan), .second, .val (.long alow), .second, .val (.long lo), .second, .val (.int adr), .val (.long blow), .second, .val (.long bas), .second, .val (.long olo), .second, .val (.int oadr), .val (.ref b76), .val (.ref b83), .val (.long ((lo + span) - (1 : Int64))), .second, .val (.long ((olo + ospan) - (1 : Int64))), .second, .val (.int ex)] [(.int (own_con adr len oadr olen))])) t
    refine XS.iload X100.here hx rfl (hb hby at_178) rfl ?_
    show Steps p.tables e below (T100.setTop (mkF m 180 #[.val (.int p0), .val (.int p1), .val (.int p2), .val (.int p3), .val (.int p4), .val (.int len), .val (.int olen), .val (.long span), .second, .val (.long ospan), .second, .val (.long alow), .second, .val (.long lo), .second, .val (.int adr), .val (.long blow), .second, .val (.long bas), .second, .val (.long olo), .second, .val (.int oadr), .val (.ref b76), .val (.ref b83), .val (.long ((lo + span) - (1 : Int64))), .second, .val (.long ((olo + ospan) - (1 : Int64))), .second, .val (.int ex)] [(.int ex), (.int (own_con adr len oadr olen))])) t
    refine XS.icmpNo X100.here hx rfl (hb hby at_180) rfl (teq ((own_main hp1 hp2).trans hm91.symm)).2 ?_
    show Steps p.tables e below (T100.setTop (mkF m 183 #[.val (.int p0), .val (.int p1), .val (.int p2), .val (.int p3), .val (.int p4), .val (.int len), .val (.int olen), .val (.long span), .second, .val (.long ospan), .second, .val (.long alow), .second, .val (.long lo), .second, .val (.int adr), .val (.long blow), .second, .val (.long bas), .second, .val (.long olo), .second, .val (.int oadr), .val (.ref b76), .val (.ref b83), .val (.long ((lo + span) - (1 : Int64))), .second, .val (.long ((olo + ospan) - (1 : Int64))), .second, .val (.int ex)] [])) t
    refine XS.iconst X100.here hx rfl (hb hby at_183) ?_
    show Steps p.tables e below (T100.setTop (mkF m 184 #[.val (.int p0), .val (.int p1), .val (.int p2), .val (.int p3), .val (.int p4), .val (.int len), .val (.int olen), .val (.long span), .second, .val (.long ospan), .second, .val (.long alow), .second, .val (.long lo), .second, .val (.int adr), .val (.long blow), .second, .val (.long bas), .second, .val (.long olo), .second, .val (.int oadr), .val (.ref b76), .val (.ref b83), .val (.long ((lo + span) - (1 : Int64))), .second, .val (.long ((olo + ospan) - (1 : Int64))), .second, .val (.int ex)] [(.int (1 : Int32))])) t
    refine XS.goto X100.here hx rfl (pc0 := 184) (pc' := 188) rfl (hb hby at_184) (by decide) (by decide) ?_
    exact kk
  obtain ⟨fs, hr, hrun, hended, hW, hsame⟩ := X100.leave (v := some (.int (1 : Int32))) (fun h => by rw [Bd.returns] at h; cases h)
  refine ⟨_, _, c103 _ ?_, hrun, hended, _, _, rfl, ?_, ⟨_, rfl⟩, hW, hsame.mono (by decide) (by decide)⟩
  · exact retN X100 hx (t := .boolean) Bd.returns (by simp) (hb hby at_188) hr
  · show Q_law Z p0 p1 p2 p3 p4 h0 n0 _ T100.heap _
    rw [eq100]
    exact ⟨rfl, N100⟩
set_option maxRecDepth 65536 in
set_option maxHeartbeats 40000000 in
theorem comes_1 {Post : Tables → Env → Array Value → State → Outcome → State → Prop} (hpost : ∀ tb e args s v u, (limb_1_1.after args s (.returned v) u = true ∧ limb_1_2.after args s (.returned v) u = true ∧ True) → FrameEnd s (.returned v) u (Jvm.fieldLocs frame_1_writes args s ++ Jvm.arrayLocs frame_1_arrays args s ++ Jvm.staticLocs frame_1_statics s) 16 128 → Post tb e args s (.returned v) u) :
    ArmFor flags0 classFile x code maxLocals ret World_1 tables_1 room_1 Calls_1 rest_1 Pre_1 Post := by
  intro l hfl _ _ p e ha hc hk s m args below hf hA hF happ hP
  obtain ⟨hcalls, hrest, hpre⟩ := hP
  obtain ⟨-, -, -, hnamed, -, -, -, hat⟩ := (Spec.applies_iff hf).mp happ
  obtain ⟨hg, hn⟩ := and_e (Cond.before_iff.mp (show (Jvm.Cond.and given_1 narrow_1).before args s = true from hpre))
  obtain ⟨gg1, gg2⟩ := and_e hg
  obtain ⟨gg3, gg4⟩ := and_e gg2
  obtain ⟨gg5, gg6⟩ := and_e gg4
  obtain ⟨gg7, gg8⟩ := and_e gg6
  obtain ⟨gg9, gg10⟩ := and_e gg8
  obtain ⟨w0, w1, w2, w3, w4, rfl⟩ : ∃ w0 w1 w2 w3 w4 : Value, args = #[w0, w1, w2, w3, w4] := by
    have hs : args.size = 5 := by simpa [Cond.value, given_1] using gg1
    obtain ⟨L⟩ := args
    match L, hs with
    | [w0, w1, w2, w3, w4], _ => exact ⟨w0, w1, w2, w3, w4, rfl⟩
  have hw := fun d (hd : d ∈ tables_1) => atoms_spec (ws := Jvm.Cond.code x code maxLocals ret :: tables_1) hat d (List.mem_cons_of_mem _ hd)
  have hfit : Fit s := fun {y c} hc i hi => by
    obtain ⟨ha, rfl⟩ := Array.getElem?_eq_some_iff.mp hc
    have q := List.all_eq_true.mp ((Array.all_eq_true_iff_forall_mem.mp hF) _ (Array.getElem_mem ha)) i (List.mem_range.mpr hi)
    simpa [Array.getElem?_eq_getElem hi] using q
  obtain ⟨i0, ei0⟩ := is_v gg3
  obtain rfl : w0 = (.int i0) := Option.some.inj ei0
  obtain ⟨i1, ei1⟩ := is_v gg5
  obtain rfl : w1 = (.int i1) := Option.some.inj ei1
  obtain ⟨i2, ei2⟩ := is_v gg7
  obtain rfl : w2 = (.int i2) := Option.some.inj ei2
  obtain ⟨i3, ei3⟩ := is_v gg9
  obtain rfl : w3 = (.int i3) := Option.some.inj ei3
  obtain ⟨i4, ei4⟩ := is_v gg10
  obtain rfl : w4 = (.int i4) := Option.some.inj ei4
  obtain ⟨n, o, h1, h2, h3, _, L, rfl, ⟨rfl, N⟩, hq⟩ := rm_law l s _ hw tables_1 i0 i1 i2 i3 i4 s.heap s.heap.size (Nat.le_refl _)  p e ha hc hk s m _ below hf ((Spec.applies_iff_loose hf).mp happ).1 ⟨rfl, State.Warmed39.refl s, rfl⟩ trivial
  refine ⟨n, _, h1, h2, h3, hpost _ _ _ _ _ _ ⟨Cond.after_iff.mpr rfl, Cond.after_iff.mpr (eq_i res_at (Term.int_eval (1)) rfl), trivial⟩ ⟨hq.1, hq.2.1, (hq.2.2.sift fun y hy => Or.inr (N y hy)).mono (by decide) (by decide)⟩⟩
theorem main_1_1 : Claimed_1_1 := comes_1 fun _ _ _ _ _ _ h hF => ⟨h.1, hF⟩
theorem main_1_2 : Claimed_1_2 := comes_1 fun _ _ _ _ _ _ h hF => ⟨h.2.1, hF⟩
end Jvm.Pilot.@@N@@
namespace Jvm.Pilot.@@N@@
open Jvm Jvm.ClassFile Sem Op Lib Jvm.Free Jvm.Stand Jvm.Pilot.@@N@@.Jvm.D
/-! MADE BY PROGRAM (witnessworld.py) out of the Statement's table words and the real class files: 12 classes; the members and pool entries that the words name. The judged class is class 1, her method 1. -/
namespace start1
open Jvm.ClassFile
def u (s : String) : CpInfo := .utf8 (stringToUtf16 s)
/-- a pool by its gaps: so many unusable entries, then the entry; so many at the end -/
def gap : Nat → List CpInfo → List CpInfo
  | 0, r => r
  | n + 1, r => .unusable :: gap n r
def poolList (es : List (Nat × CpInfo)) (last : Nat) : List CpInfo := es.foldr (fun e r => gap e.1 (e.2 :: r)) (gap last [])
def pool (es : List (Nat × CpInfo)) (last : Nat) : Array CpInfo := ⟨poolList es last⟩
def fileOf (pool : Array CpInfo) (this : Nat) (attrs : Array Attribute := #[]) (ms : Array MethodInfo := #[]) (fl : Nat := 33) (sup : Nat := 0) (ifs : Array Nat := #[]) (fds : Array FieldInfo := #[]) : ClassFile where
  minorVersion := 0
  majorVersion := 65
  constantPool := pool
  accessFlags := fl
  thisClass := this
  superClass := sup
  interfaces := ifs
  fields := fds
  methods := ms
  attributes := attrs
def plain (name : String) (sup : Option ClassId) : Class where
  name := name
  kind := .ordinary
  loader := none
  accessFlags := 33
  super := sup
  interfaces := #[]
  cf := none
  fields := #[]
  methods := #[]
  instanceTypes := #[]
  staticTypes := #[]
  resolved := #[]
  callSites := []
  init := .initialized
  statics := none
  mirror := none

def pool0 : Array CpInfo := pool [(5, u "<init>"), (0, u "()V"), (1, .class_ 10), (1, u "java/lang/Object")] 113

def k0c0 : Code := { maxStack := 0, maxLocals := 1, code := object_method_1_code, exceptionTable := #[], attributes := #[] }
def k0m0 : Method := { name := "<init>", desc := "()V", sig := { parameters := [], returnType := none }, accessFlags := 1, code := some k0c0 }
/-- java/lang/Object -/
def k0 : Class := { plain "java/lang/Object" none with
  accessFlags := 33
  interfaces := #[]
  cf := some (fileOf pool0 8 #[] #[{ accessFlags := 1, nameIndex := 5, descriptorIndex := 6, attributes := #[] }] 33 0 #[] #[])
  fields := #[]
  methods := #[k0m0]
  instanceTypes := #[]
  staticTypes := #[]
  resolved := Array.replicate 124 none
  statics := none }

def pool1 : Array CpInfo := pool [(2, .class_ 4), (1, u "java/lang/Object"), (0, u "<init>"), (0, u "()V"), (0, .integer 2147483647), (0, .long 4294967295), (1, .class_ 11), (0, u "com/example/indizio/indizio/core/Ipv4Prefix"), (0, .methodref 10 13), (0, .nameAndType 5 14), (0, u "(II)V"), (0, .methodref 10 16), (0, .nameAndType 17 18), (0, u "contains"), (0, u "(Lcom/example/indizio/indizio/core/Ipv4Prefix;)Z"), (0, .class_ 20), (0, u "com/example/indizio/indizio/core/Ipv4PrefixContainsPinLaw"), (2, u "law"), (0, u "(IIIII)Z")] 3

def k1m0 : Method := { name := "<init>", desc := "()V", sig := { parameters := [], returnType := none }, accessFlags := 2, code := none }
def k1c1 : Code := { maxStack := 6, maxLocals := 30, code := code, exceptionTable := #[], attributes := #[] }
def k1m1 : Method := { name := "law", desc := "(IIIII)Z", sig := { parameters := [.int, .int, .int, .int, .int], returnType := some .boolean }, accessFlags := 9, code := some k1c1 }
/-- com/example/indizio/indizio/core/Ipv4PrefixContainsPinLaw -/
def k1 : Class := { plain "com/example/indizio/indizio/core/Ipv4PrefixContainsPinLaw" (some 0) with
  accessFlags := 49
  interfaces := #[]
  cf := some (fileOf pool1 19 #[] #[{ accessFlags := 2, nameIndex := 5, descriptorIndex := 6, attributes := #[] }, { accessFlags := 9, nameIndex := 23, descriptorIndex := 24, attributes := #[] }] 49 2 #[] #[])
  fields := #[]
  methods := #[k1m0, k1m1]
  instanceTypes := #[]
  staticTypes := #[]
  resolved := Array.replicate 28 none
  statics := none }

def pool2 : Array CpInfo := pool [(1, .methodref 2 3), (0, .class_ 4), (0, .nameAndType 5 6), (0, u "java/lang/Object"), (0, u "<init>"), (0, u "()V"), (0, .class_ 8), (0, u "java/lang/Record")] 13

def k2c0 : Code := { maxStack := 1, maxLocals := 1, code := jdk_30_method_1_code, exceptionTable := #[], attributes := #[] }
def k2m0 : Method := { name := "<init>", desc := "()V", sig := { parameters := [], returnType := none }, accessFlags := 4, code := some k2c0 }
/-- java/lang/Record -/
def k2 : Class := { plain "java/lang/Record" (some 0) with
  accessFlags := 1057
  interfaces := #[]
  cf := some (fileOf pool2 7 #[] #[{ accessFlags := 4, nameIndex := 5, descriptorIndex := 6, attributes := #[] }] 1057 2 #[] #[])
  fields := #[]
  methods := #[k2m0]
  instanceTypes := #[]
  staticTypes := #[]
  resolved := Array.replicate 22 none
  statics := none }

def pool3 : Array CpInfo := pool [(1, .class_ 2), (0, u "java/lang/Comparable"), (0, .class_ 4), (0, u "java/lang/Object")] 7

/-- java/lang/Comparable -/
def k3 : Class := { plain "java/lang/Comparable" (some 0) with
  accessFlags := 1537
  interfaces := #[]
  cf := some (fileOf pool3 1 #[] #[] 1537 3 #[] #[])
  fields := #[]
  methods := #[]
  instanceTypes := #[]
  staticTypes := #[]
  resolved := Array.replicate 12 none
  statics := none }

def pool4 : Array CpInfo := pool [(1, .class_ 2), (0, u "com/example/indizio/indizio/core/Range"), (0, .class_ 4), (0, u "java/lang/Object"), (0, .class_ 6), (0, u "java/lang/Comparable")] 12

/-- com/example/indizio/indizio/core/Range -/
def k4 : Class := { plain "com/example/indizio/indizio/core/Range" (some 0) with
  accessFlags := 1537
  interfaces := #[3]
  cf := some (fileOf pool4 1 #[] #[] 1537 3 #[5] #[])
  fields := #[]
  methods := #[]
  instanceTypes := #[]
  staticTypes := #[]
  resolved := Array.replicate 19 none
  statics := none }

def pool5 : Array CpInfo := pool [(1, .methodref 2 3), (0, .class_ 4), (0, .nameAndType 5 6), (0, u "java/lang/Record"), (0, u "<init>"), (0, u "()V"), (0, .methodref 8 9), (0, .class_ 10), (0, .nameAndType 11 12), (0, u "com/example/indizio/indizio/core/Ipv4Prefix"), (0, u "checkLength"), (0, u "(I)V"), (0, .methodref 8 14), (0, .nameAndType 15 16), (0, u "mask"), (0, u "(I)I"), (19, .fieldref 8 37), (0, .nameAndType 38 39), (0, u "address"), (0, u "I"), (0, .fieldref 8 41), (0, .nameAndType 42 39), (0, u "length"), (17, u "(II)V"), (2, u "contains"), (0, u "(Lcom/example/indizio/indizio/core/Ipv4Prefix;)Z"), (40, u "ALL"), (0, u "Lcom/example/indizio/indizio/core/Ipv4Prefix;"), (0, .class_ 108), (0, u "com/example/indizio/indizio/core/Range"), (0, u "ADDRESS_BITS")] 54

def k5c0 : Code := { maxStack := 5, maxLocals := 3, code := prog_11_method_1_code, exceptionTable := #[], attributes := #[] }
def k5m0 : Method := { name := "<init>", desc := "(II)V", sig := { parameters := [.int, .int], returnType := none }, accessFlags := 1, code := some k5c0 }
def k5c1 : Code := { maxStack := 2, maxLocals := 2, code := prog_11_method_4_code, exceptionTable := #[], attributes := #[] }
def k5m1 : Method := { name := "contains", desc := "(Lcom/example/indizio/indizio/core/Ipv4Prefix;)Z", sig := { parameters := [(.object "com/example/indizio/indizio/core/Ipv4Prefix")], returnType := some .boolean }, accessFlags := 1, code := some k5c1 }
def k5c2 : Code := { maxStack := 3, maxLocals := 1, code := prog_11_method_9_code, exceptionTable := #[], attributes := #[] }
def k5m2 : Method := { name := "checkLength", desc := "(I)V", sig := { parameters := [.int], returnType := none }, accessFlags := 8, code := some k5c2 }
def k5c3 : Code := { maxStack := 3, maxLocals := 1, code := prog_11_method_10_code, exceptionTable := #[], attributes := #[] }
def k5m3 : Method := { name := "mask", desc := "(I)I", sig := { parameters := [.int], returnType := some .int }, accessFlags := 10, code := some k5c3 }
/-- com/example/indizio/indizio/core/Ipv4Prefix -/
def k5 : Class := { plain "com/example/indizio/indizio/core/Ipv4Prefix" (some 2) with
  accessFlags := 49
  interfaces := #[4]
  cf := some (fileOf pool5 8 #[] #[{ accessFlags := 1, nameIndex := 5, descriptorIndex := 60, attributes := #[] }, { accessFlags := 1, nameIndex := 63, descriptorIndex := 64, attributes := #[] }, { accessFlags := 8, nameIndex := 11, descriptorIndex := 12, attributes := #[] }, { accessFlags := 10, nameIndex := 15, descriptorIndex := 16, attributes := #[] }] 49 2 #[107] #[{ accessFlags := 18, nameIndex := 38, descriptorIndex := 39, attributes := #[] }, { accessFlags := 18, nameIndex := 42, descriptorIndex := 39, attributes := #[] }, { accessFlags := 25, nameIndex := 105, descriptorIndex := 106, attributes := #[] }, { accessFlags := 26, nameIndex := 109, descriptorIndex := 39, attributes := #[] }])
  fields := #[{ name := "address", type := .int, accessFlags := 18, slot := 0, constantValue := 0 }, { name := "length", type := .int, accessFlags := 18, slot := 1, constantValue := 0 }, { name := "ALL", type := (.object "com/example/indizio/indizio/core/Ipv4Prefix"), accessFlags := 25, slot := 0, constantValue := 0 }, { name := "ADDRESS_BITS", type := .int, accessFlags := 26, slot := 1, constantValue := 0 }]
  methods := #[k5m0, k5m1, k5m2, k5m3]
  instanceTypes := #[.int, .int]
  staticTypes := #[(.object "com/example/indizio/indizio/core/Ipv4Prefix"), .int]
  resolved := Array.replicate 164 none
  statics := none }

def pool6 : Array CpInfo := pool [(1, u "java/lang/Cloneable"), (0, .class_ 1), (0, u "java/lang/Object"), (0, .class_ 3)] 3

/-- java/lang/Cloneable -/
def k6 : Class := { plain "java/lang/Cloneable" (some 0) with
  accessFlags := 1537
  interfaces := #[]
  cf := some (fileOf pool6 2 #[] #[] 1537 4 #[] #[])
  fields := #[]
  methods := #[]
  instanceTypes := #[]
  staticTypes := #[]
  resolved := Array.replicate 8 none
  statics := none }

def pool7 : Array CpInfo := pool [(1, u "java/io/Serializable"), (0, .class_ 1), (0, u "java/lang/Object"), (0, .class_ 3)] 3

/-- java/io/Serializable -/
def k7 : Class := { plain "java/io/Serializable" (some 0) with
  accessFlags := 1537
  interfaces := #[]
  cf := some (fileOf pool7 2 #[] #[] 1537 4 #[] #[])
  fields := #[]
  methods := #[]
  instanceTypes := #[]
  staticTypes := #[]
  resolved := Array.replicate 8 none
  statics := none }

/-- the primitive byte -/
def k8 : Class := { plain "byte" none with kind := .primitive 'B', accessFlags := 0x411 }
/-- [B -/
def k9 : Class := { plain "[B" (some 0) with kind := .array 8 .byte, interfaces := #[6, 7], accessFlags := 1041 }

/-- the primitive int -/
def k10 : Class := { plain "int" none with kind := .primitive 'I', accessFlags := 0x411 }
/-- [I -/
def k11 : Class := { plain "[I" (some 0) with kind := .array 10 .int, interfaces := #[6, 7], accessFlags := 1041 }

def heap : Heap := #[]
def classes : Array Class := #[k0, k1, k2, k3, k4, k5, k6, k7, k8, k9, k10, k11]
def interned : List (Array UInt16 × Addr) := []
def slotsUsed : Nat := 0
def theMethod : MethodId := ⟨1, 1⟩
def args0 : Array Value := #[.int 167772161, .int 8, .int 167837697, .int 16, .int 1]
def aboutOver (below : List Frame) : State where
  vm := { classes := classes, interned := interned.toArray }
  heap := heap
  slotsUsed := slotsUsed
  threads := #[{ frames := .invoking theMethod args0 :: below }]
def below0 : List Frame := [.native { method := ⟨0, 0⟩, args := #[] }]
def about1 : State := aboutOver below0
def p0 : Program := .bare "" "" ""
def e0 : Env := launch0.env 0 0 0
theorem w_frames : about1.frames = Frame.invoking theMethod args0 :: below0 := rfl
set_option maxRecDepth 65536 in
theorem w_args : argsFit about1.vm theMethod args0 = true := by decide +kernel
set_option maxRecDepth 65536 in
theorem w_heap : heapFits about1 = true := by decide +kernel
set_option maxRecDepth 65536 in
theorem w_runnable : about1.curStatus? = some .runnable := by decide +kernel
set_option maxRecDepth 65536 in
theorem w_alone : about1.alone = true := by decide +kernel
set_option maxRecDepth 65536 in
theorem w_named : about1.methodNamed? x = some theMethod := by decide +kernel
set_option maxRecDepth 65536 in
theorem w_hears : about1.hears theMethod below0 = true := by decide +kernel
set_option maxRecDepth 65536 in
theorem w_ripe : about1.ripe theMethod args0 below0 = true := by decide +kernel
theorem w_running : about1.status = .running := rfl
set_option maxRecDepth 65536 in
theorem w_room : about1.hasRoom e0.platform room_1 = true :=
  launch0.hasRoom_least _ room_1 (by decide +kernel) (by decide +kernel) (by decide +kernel) (by decide +kernel) (by decide +kernel) (by decide +kernel)
theorem allAtoms_all (ts : List Jvm.Cond) (a : Array Jvm.Value) (st : Jvm.State) : (allAtoms ts).before a st = ts.all (fun c => c.before a st) := by
  induction ts with
  | nil => rfl
  | cons c t ih =>
    show (Jvm.Cond.and c (allAtoms t)).before a st = _
    rw [Jvm.Cond.before_and, ih, List.all_cons]
def words1 : List Jvm.Cond := Jvm.Cond.code x code maxLocals ret :: tables_1
/-- a 'code' word, met by the world's own term for the bytes: nothing is compared byte by byte -/
theorem code_word {y : MethodName} {bytes : ByteArray} {mx : Nat} {rt : Option FieldType} {a : Array Value} {s : State} {m : MethodId} {meth : Method} {c : Code} (h1 : s.methodNamed? y = some m) (h2 : s.vm.method? m = some meth) (h3 : meth.code = some c) (h4 : c.code = bytes)
    (h5 : (c.maxLocals == mx && c.exceptionTable.isEmpty && decide (c.maxStack ≤ mostOperands) && decide (meth.sig.returnType = rt) && !meth.locks && decide (parseMethodDescriptor y.desc = some meth.sig)) = true) : (Jvm.Cond.code y bytes mx rt).before a s = true := by
  simp only [Bool.and_eq_true, beq_iff_eq, Bool.not_eq_true', decide_eq_true_eq] at h5
  obtain ⟨⟨⟨⟨⟨g1, g2⟩, g3⟩, g4⟩, g5⟩, g6⟩ := h5
  simp [Cond.before, Cond.holds, Cond.value, h1, h2, h3, h4, g1, g2, g3, g4, g5, g6]
def isCode : Jvm.Cond → Bool
  | .code _ _ _ _ => true
  | _ => false
theorem all_split {L : List Jvm.Cond} {P : Jvm.Cond → Bool} (h1 : L.all (fun c => isCode c || P c) = true) (h2 : ∀ c ∈ L.filter isCode, P c = true) : L.all P = true := by
  refine List.all_eq_true.mpr fun c hc => ?_
  have h := List.all_eq_true.mp h1 c hc
  rcases Bool.eq_false_or_eq_true (isCode c) with hi | hi
  · exact h2 c (List.mem_filter.mpr ⟨hc, hi⟩)
  · simpa [hi] using h
set_option maxRecDepth 65536 in
theorem w_c0 : (Jvm.Cond.code x code maxLocals ret).before args0 about1 = true := code_word (m := ⟨1, 1⟩) (meth := k1m1) (c := k1c1) (by decide +kernel) rfl rfl rfl (by decide +kernel)
set_option maxRecDepth 65536 in
theorem w_c1 : (Jvm.Cond.code ({ cls := "com/example/indizio/indizio/core/Ipv4Prefix", name := "<init>", desc := "(II)V" } : Jvm.MethodName) prog_11_method_1_code (3 : Nat) (Option.none : Option Jvm.ClassFile.FieldType)).before args0 about1 = true := code_word (m := ⟨5, 0⟩) (meth := k5m0) (c := k5c0) (by decide +kernel) rfl rfl rfl (by decide +kernel)
set_option maxRecDepth 65536 in
theorem w_c2 : (Jvm.Cond.code ({ cls := "java/lang/Record", name := "<init>", desc := "()V" } : Jvm.MethodName) jdk_30_method_1_code (1 : Nat) (Option.none : Option Jvm.ClassFile.FieldType)).before args0 about1 = true := code_word (m := ⟨2, 0⟩) (meth := k2m0) (c := k2c0) (by decide +kernel) rfl rfl rfl (by decide +kernel)
set_option maxRecDepth 65536 in
theorem w_c3 : (Jvm.Cond.code ({ cls := "java/lang/Object", name := "<init>", desc := "()V" } : Jvm.MethodName) object_method_1_code (1 : Nat) (Option.none : Option Jvm.ClassFile.FieldType)).before args0 about1 = true := code_word (m := ⟨0, 0⟩) (meth := k0m0) (c := k0c0) (by decide +kernel) rfl rfl rfl (by decide +kernel)
set_option maxRecDepth 65536 in
theorem w_c4 : (Jvm.Cond.code ({ cls := "com/example/indizio/indizio/core/Ipv4Prefix", name := "checkLength", desc := "(I)V" } : Jvm.MethodName) prog_11_method_9_code (1 : Nat) (Option.none : Option Jvm.ClassFile.FieldType)).before args0 about1 = true := code_word (m := ⟨5, 2⟩) (meth := k5m2) (c := k5c2) (by decide +kernel) rfl rfl rfl (by decide +kernel)
set_option maxRecDepth 65536 in
theorem w_c5 : (Jvm.Cond.code ({ cls := "com/example/indizio/indizio/core/Ipv4Prefix", name := "mask", desc := "(I)I" } : Jvm.MethodName) prog_11_method_10_code (1 : Nat) (Option.some Jvm.ClassFile.FieldType.int)).before args0 about1 = true := code_word (m := ⟨5, 3⟩) (meth := k5m3) (c := k5c3) (by decide +kernel) rfl rfl rfl (by decide +kernel)
set_option maxRecDepth 65536 in
theorem w_c6 : (Jvm.Cond.code ({ cls := "com/example/indizio/indizio/core/Ipv4Prefix", name := "contains", desc := "(Lcom/example/indizio/indizio/core/Ipv4Prefix;)Z" } : Jvm.MethodName) prog_11_method_4_code (2 : Nat) (Option.some Jvm.ClassFile.FieldType.boolean)).before args0 about1 = true := code_word (m := ⟨5, 1⟩) (meth := k5m1) (c := k5c1) (by decide +kernel) rfl rfl rfl (by decide +kernel)
def codes1 : List Jvm.Cond := [Jvm.Cond.code x code maxLocals ret, Jvm.Cond.code ({ cls := "com/example/indizio/indizio/core/Ipv4Prefix", name := "<init>", desc := "(II)V" } : Jvm.MethodName) prog_11_method_1_code (3 : Nat) (Option.none : Option Jvm.ClassFile.FieldType), Jvm.Cond.code ({ cls := "java/lang/Record", name := "<init>", desc := "()V" } : Jvm.MethodName) jdk_30_method_1_code (1 : Nat) (Option.none : Option Jvm.ClassFile.FieldType), Jvm.Cond.code ({ cls := "java/lang/Object", name := "<init>", desc := "()V" } : Jvm.MethodName) object_method_1_code (1 : Nat) (Option.none : Option Jvm.ClassFile.FieldType), Jvm.Cond.code ({ cls := "com/example/indizio/indizio/core/Ipv4Prefix", name := "checkLength", desc := "(I)V" } : Jvm.MethodName) prog_11_method_9_code (1 : Nat) (Option.none : Option Jvm.ClassFile.FieldType), Jvm.Cond.code ({ cls := "com/example/indizio/indizio/core/Ipv4Prefix", name := "mask", desc := "(I)I" } : Jvm.MethodName) prog_11_method_10_code (1 : Nat) (Option.some Jvm.ClassFile.FieldType.int), Jvm.Cond.code ({ cls := "com/example/indizio/indizio/core/Ipv4Prefix", name := "contains", desc := "(Lcom/example/indizio/indizio/core/Ipv4Prefix;)Z" } : Jvm.MethodName) prog_11_method_4_code (2 : Nat) (Option.some Jvm.ClassFile.FieldType.boolean)]
set_option maxRecDepth 65536 in
theorem codes_eq : words1.filter isCode = codes1 := rfl
theorem w_codes : ∀ c ∈ words1.filter isCode, c.before args0 about1 = true := by
  rw [codes_eq]
  intro c hc
  simp only [codes1, List.mem_cons, List.not_mem_nil, or_false] at hc
  rcases hc with rfl | rfl | rfl | rfl | rfl | rfl | rfl
  · exact w_c0
  · exact w_c1
  · exact w_c2
  · exact w_c3
  · exact w_c4
  · exact w_c5
  · exact w_c6
set_option maxRecDepth 65536 in
theorem w_t1 : (words1.take 24).all (fun c => isCode c || c.before args0 about1) = true := by decide +kernel
set_option maxRecDepth 65536 in
theorem w_t2 : (words1.drop 24).all (fun c => isCode c || c.before args0 about1) = true := by decide +kernel
theorem w_tables : (allAtoms (Jvm.Cond.code x code maxLocals ret :: tables_1)).before args0 about1 = true := by
  rw [allAtoms_all]
  show words1.all (fun c => c.before args0 about1) = true
  refine all_split ?_ w_codes
  rw [← List.take_append_drop 24 words1, List.all_append, w_t1, w_t2]
  rfl
set_option maxRecDepth 65536 in
theorem w_case : (Jvm.Cond.and given_1 narrow_1).before args0 about1 = true := by decide +kernel
theorem w_applies : (headSpec (Jvm.Cond.code x code maxLocals ret :: tables_1) room_1).applies x e0.platform about1 = true :=
  (Spec.applies_iff w_frames).mpr ⟨w_running, w_runnable, w_alone, w_named, w_hears, w_ripe, w_room, w_tables⟩
theorem atStart : AtStart classFile x code maxLocals ret World_1 tables_1 room_1 Calls_1 rest_1 Pre_1 launch0 p0 e0 about1 theMethod args0 below0 :=
  ⟨lists_1, trivial, launch0.admits_env _ _ _, launch0.least_env, fairChoices_fair.cas, fairChoices_fair.clock, w_frames, w_args, w_heap, w_applies, trivial, trivial, w_case⟩
end start1
theorem witness_1 : WitnessClaimed_1 := ⟨start1.p0, start1.e0, start1.about1, start1.theMethod, start1.args0, start1.below0, start1.atStart⟩
end Jvm.Pilot.@@N@@
