import JvmDerived
import JvmDerived.Pilot.@@N@@Statement
import JvmDerived.Pilot.@@N@@Code
set_option linter.unusedVariables false
set_option linter.unusedSimpArgs false
namespace Jvm.RoadKit
open Sem ClassFile Op Lib Jvm.Stand Jvm.Free Jvm.LawKit
section New
variable {p : Program} {l : Launch} {e : Env} {R : Room} {s : State} {m : MethodId} {args : Array Value} {below : List Frame} {meth : Method} {c : Code} {T : State} {locs : List Loc} {cells slots : Nat}
theorem retI (X : Stand p l e R s m args below meth c T locs cells slots) (hx : p.tables.exec = Jvm.exec) {pc : Nat} {Ls : Array Slot} {z : Int32} {rest : List Value} (hret : meth.sig.returnType = some .int) (hd : decode c.code pc = .ok (.ireturn, 1)) {fs : List Frame}
    (hl : ∀ (f : JFrame) (acts : List Action), f.method = m → f.locked = none → f.entered = [] → (doReturn e (T.setTop f) acts (some (.int z))).1 = T.setFrames fs) : Steps p.tables e below (T.setTop (mkF m pc Ls (.int z :: rest))) (T.setFrames fs) := by
  have hm' : T.vm.method? m = some meth := X.method'
  have hn : narrow .int (.int z) = .int z := rfl
  show Steps p.tables e below (T.setTop { method := m, pc := pc, locals := Ls, stack := _ :: rest, locked := none }) _
  jvm_step X.here [X.here.top, hx, hd, hm', hret, hn]
  first | (intro acts; rw [hl _ acts rfl rfl rfl]) | rw [hl _ _ rfl rfl rfl]
  exact Steps.refl _
end New
end Jvm.RoadKit

namespace Jvm.Pilot.@@N@@
open Jvm Jvm.ClassFile Sem Op Lib Jvm.Free Jvm.Stand Jvm.LawKit Jvm.RoadKit Bundle Jvm.Pilot.@@N@@.Jvm.D


theorem own_int {s : State} {args : Array Value} {t : Term} {k : Int32} (h : (Cond.eq t (.int k)).value args s none s [] = some true) : t.eval args s none [] s = some (.int k) := by
  obtain ⟨x, y, h1, h2, k1, k2⟩ := cmp_v (Or.inl h)
  have e2 : (Term.int k).eval args s none [] s = some (.int k) := Term.int_eval k
  obtain rfl := Option.some.inj (e2.symm.trans h2)
  obtain ⟨z, rfl⟩ := k2
  have hq : (Cond.eq t (.int k)).value args s none s [] = some (decide (z = k)) := by simp [Cond.value, h1, e2]
  rw [h1, gotT hq h]
theorem own_fldI {s : State} {args : Array Value} {t : Term} {a : Addr} {C n d : String} {k : Int32} (ht : t.eval args s none [] s = some (.ref a)) (h : (Cond.eq (.field t C n d) (.int k)).value args s none s [] = some true) : Fld s s.heap a C n d (.int k) :=
  Fld.start ((fld_at ht).symm.trans (own_int h))
theorem own_fldR {s : State} {args : Array Value} {t u : Term} {a b : Addr} {C n d : String} (ht : t.eval args s none [] s = some (.ref a)) (hu : u.eval args s none [] s = some (.ref b)) (h : (Cond.eq (.field t C n d) u).value args s none s [] = some true) : Fld s s.heap a C n d (.ref b) := by
  obtain ⟨x, y, h1, h2, k1, k2⟩ := cmp_v (Or.inl h)
  obtain rfl := Option.some.inj (hu.symm.trans h2)
  have hx : x.isRef = true := k2.2
  have e := gotT (eq_R h1 hu hx rfl) h
  subst e
  exact Fld.start ((fld_at ht).symm.trans h1)


def own_g (i : Int32) : Int32 := if i = 0 then 0 else if i = 1 then 1 else if i = 2 ∨ i = 5 then 2 else 3
def own_src (i : Int32) (w0 w1 w2 w3 w4 w5 : Addr) : Addr := if i = 0 then w0 else if i = 1 then w1 else if i = 2 then w2 else if i = 3 then w3 else if i = 4 then w4 else w5
def own_pr (i : Int32) (r0 r1 r2 r3 : Addr) : Addr := if i = 0 then r0 else if i = 1 then r1 else if i = 2 ∨ i = 5 then r2 else r3
def own_six (i : Int32) : Prop := i = 0 ∨ i = 1 ∨ i = 2 ∨ i = 3 ∨ i = 4 ∨ i = 5
theorem own_range (a : Int32) : own_six ((a &&& (2147483647 : Int32)) % (6 : Int32)) := by
  have h1 := c_and a 2147483647 (by decide)
  have h2 := (c_iremV (a &&& (2147483647 : Int32)) 6).1 h1.1 (by decide)
  have e : (6 : Int32).toInt = 6 := rfl
  rw [e] at h2
  generalize (a &&& (2147483647 : Int32)) % (6 : Int32) = i at h2
  have q : i.toInt = 0 ∨ i.toInt = 1 ∨ i.toInt = 2 ∨ i.toInt = 3 ∨ i.toInt = 4 ∨ i.toInt = 5 := by omega
  rcases q with q | q | q | q | q | q
  · exact Or.inl (Int32.toInt_inj.mp q)
  · exact Or.inr (Or.inl (Int32.toInt_inj.mp q))
  · exact Or.inr (Or.inr (Or.inl (Int32.toInt_inj.mp q)))
  · exact Or.inr (Or.inr (Or.inr (Or.inl (Int32.toInt_inj.mp q))))
  · exact Or.inr (Or.inr (Or.inr (Or.inr (Or.inl (Int32.toInt_inj.mp q)))))
  · exact Or.inr (Or.inr (Or.inr (Or.inr (Or.inr (Int32.toInt_inj.mp q)))))
theorem own_in {i : Int32} (h : own_six i) : ¬ i < 0 ∧ i < (6 : Int32) := by
  rcases h with rfl | rfl | rfl | rfl | rfl | rfl <;> decide
theorem own_get {i : Int32} (h : own_six i) (w0 w1 w2 w3 w4 w5 : Addr) : ([.ref w0, .ref w1, .ref w2, .ref w3, .ref w4, .ref w5] : List Value).getD i.toNatClampNeg .null = .ref (own_src i w0 w1 w2 w3 w4 w5) := by
  rcases h with rfl | rfl | rfl | rfl | rfl | rfl <;> rfl
theorem own_each {P : Addr → Addr → Prop} {w0 w1 w2 w3 w4 w5 r0 r1 r2 r3 : Addr} (h0 : P w0 r0) (h1 : P w1 r1) (h2 : P w2 r2) (h3 : P w3 r3) (h4 : P w4 r3) (h5 : P w5 r2) {i : Int32} (h : own_six i) : P (own_src i w0 w1 w2 w3 w4 w5) (own_pr i r0 r1 r2 r3) := by
  rcases h with rfl | rfl | rfl | rfl | rfl | rfl <;> assumption
theorem own_same {r0 r1 r2 r3 : Addr} (d01 : r0 ≠ r1) (d02 : r0 ≠ r2) (d03 : r0 ≠ r3) (d12 : r1 ≠ r2) (d13 : r1 ≠ r3) (d23 : r2 ≠ r3) (i j : Int32) : (own_pr i r0 r1 r2 r3 = own_pr j r0 r1 r2 r3) ↔ own_g i = own_g j := by
  have e01 := d01.symm
  have e02 := d02.symm
  have e03 := d03.symm
  have e12 := d12.symm
  have e13 := d13.symm
  have e23 := d23.symm
  unfold own_pr own_g
  split
  · split
    · simp
    · split
      · simp [d01]
      · split
        · simp [d02]
        · simp [d03]
  · split
    · split
      · simp [e01]
      · split
        · simp
        · split
          · simp [d12]
          · simp [d13]
    · split
      · split
        · simp [e02]
        · split
          · simp [e12]
          · split
            · simp
            · simp [d23]
      · split
        · simp [e03]
        · split
          · simp [e13]
          · split
            · simp [e23]
            · simp
def own_eq (a b : Addr) : Int32 := if a = b then 1 else 0

theorem d1_0 : decode method_2_code 0 = .ok (.iload_n 0, 1) := by decide +kernel
theorem d1_1 : decode method_2_code 1 = .ok (.ifCond .ne 5, 3) := by decide +kernel
theorem d1_4 : decode method_2_code 4 = .ok (.iconst 0, 1) := by decide +kernel
theorem d1_5 : decode method_2_code 5 = .ok (.ireturn, 1) := by decide +kernel
theorem d1_6 : decode method_2_code 6 = .ok (.iload_n 0, 1) := by decide +kernel
theorem d1_7 : decode method_2_code 7 = .ok (.iconst 1, 1) := by decide +kernel
theorem d1_8 : decode method_2_code 8 = .ok (.if_icmp .ne 5, 3) := by decide +kernel
theorem d1_11 : decode method_2_code 11 = .ok (.iconst 1, 1) := by decide +kernel
theorem d1_12 : decode method_2_code 12 = .ok (.ireturn, 1) := by decide +kernel
theorem d1_13 : decode method_2_code 13 = .ok (.iload_n 0, 1) := by decide +kernel
theorem d1_14 : decode method_2_code 14 = .ok (.iconst 2, 1) := by decide +kernel
theorem d1_15 : decode method_2_code 15 = .ok (.if_icmp .eq 8, 3) := by decide +kernel
theorem d1_18 : decode method_2_code 18 = .ok (.iload_n 0, 1) := by decide +kernel
theorem d1_19 : decode method_2_code 19 = .ok (.iconst 5, 1) := by decide +kernel
theorem d1_20 : decode method_2_code 20 = .ok (.if_icmp .ne 5, 3) := by decide +kernel
theorem d1_23 : decode method_2_code 23 = .ok (.iconst 2, 1) := by decide +kernel
theorem d1_24 : decode method_2_code 24 = .ok (.ireturn, 1) := by decide +kernel
theorem d1_25 : decode method_2_code 25 = .ok (.iconst 3, 1) := by decide +kernel
theorem d1_26 : decode method_2_code 26 = .ok (.ireturn, 1) := by decide +kernel
theorem pn_1 : plainName "com/example/indizio/indizio/core/model/RouteSourceSameProtocolPinLaw" = true := by first | (simp [plainName, overriddenIn]; done) | decide +kernel
theorem ef_gr (m : MethodId) (x0 : Int32) : entryFrame m #[(.int x0)] 1 = mkF m 0 #[.val (.int x0)] [] := by (first | (simp [entryFrame, mkF, argsToLocals, Value.category]; done) | rfl)
def Q_gr (Z : State) (p1 : Int32) (h0 : Heap) (n0 : Nat) (v : Option Value) (h : Heap) (L : List Loc) : Prop := v = some (.int (own_g p1)) ∧ Fr n0 L ∧ h = h0
set_option maxRecDepth 65536 in
set_option maxHeartbeats 40000000 in
theorem rm_gr (l : Launch) (Z : State) (a0 : Array Value) (hw : ∀ d ∈ tables_1, d.before a0 Z = true) (ws : List Jvm.Cond) (p1 : Int32) (h0 : Heap) (n0 : Nat) (Z0 : n0 ≤ h0.size)  :
    MetFree l (⟨"com/example/indizio/indizio/core/model/RouteSourceSameProtocolPinLaw", "group", "(I)I"⟩ : MethodName) (head1 (Jvm.Cond.code (⟨"com/example/indizio/indizio/core/model/RouteSourceSameProtocolPinLaw", "group", "(I)I"⟩ : MethodName) method_2_code 1 (some .int) :: ws) ({ frames := 0, cells := 0, slots := 0, locals := 0 } : Room)) (fun a U => a = #[(.int p1)] ∧ Z.Warmed39 U.vm ∧ U.heap = h0) (fun _ _ _ _ _ => True) (fun _ U o U' => ∃ v L, o = .returned v ∧ Q_gr Z p1 h0 n0 v U'.heap L ∧ FrameEnd U o U' L ({ frames := 0, cells := 0, slots := 0, locals := 0 } : Room).cells ({ frames := 0, cells := 0, slots := 0, locals := 0 } : Room).slots) := by
  refine MetFree.of_bodySF (plainFor_of_name pn_1) hisR ?_
  intro p e s m args below meth c s₁ Bd hml0 hP hK
  obtain ⟨rfl, hZ, hh⟩ := hP
  have hx := Bd.exec
  have hby := Bd.bytes
  have hml : c.maxLocals = 1 := hml0
  have hown : s.vm.findClass "com/example/indizio/indizio/core/model/RouteSourceSameProtocolPinLaw" = some m.cls := findClass_of_methodNamed Bd.named
  have hnm := (name_of_methodNamed Bd.named Bd.method).1
  have X0 : Stand p l e ({ frames := 0, cells := 0, slots := 0, locals := 0 } : Room) s m #[(.int p1)] below meth c s₁ [] 0 0 := Stand.of_body Bd
  have e0 : s₁.heap = h0 := by rw [← hh, Bd.state]; rfl
  have N0 := Fr.nil n0
  have c0 : Goes p e below s₁ (entryFrame m #[(.int p1)] 1) s₁ (mkF m 0 #[.val (.int p1)] []) := fun t k => castTop (ef_gr m p1) k
  have c1 : Goes p e below s₁ (entryFrame m #[(.int p1)] 1) s₁ (mkF m 1 #[.val (.int p1)] [(.int p1)]) := by
    intro t kk
    refine c0 t ?_
    show Steps p.tables e below (s₁.setTop (mkF m 0 #[.val (.int p1)] [])) t
    refine XS.iloadN X0.here hx rfl (hb hby d1_0) rfl ?_
    exact kk
  by_cases hc1_2 : p1 = (0 : Int32)
  · have c3 : Goes p e below s₁ (entryFrame m #[(.int p1)] 1) s₁ (mkF m 5 #[.val (.int p1)] [(.int (0 : Int32))]) := by
      intro t kk
      refine c1 t ?_
      show Steps p.tables e below (s₁.setTop (mkF m 1 #[.val (.int p1)] [(.int p1)])) t
      refine XS.ifNo X0.here hx rfl (hb hby d1_1) rfl ((if0 _ _).trans (teq hc1_2).2) ?_
      show Steps p.tables e below (s₁.setTop (mkF m 4 #[.val (.int p1)] [])) t
      refine XS.iconst X0.here hx rfl (hb hby d1_4) ?_
      exact kk
    obtain ⟨fs, hr, hrun, hended, hW, hsame⟩ := X0.leave (v := some (.int (0 : Int32))) (fun h => by rw [Bd.returns] at h; cases h)
    refine ⟨_, _, c3 _ ?_, hrun, hended, _, _, rfl, ?_, ⟨_, rfl⟩, hW, hsame.mono (by decide) (by decide)⟩
    · exact retI X0 hx Bd.returns (hb hby d1_5) hr
    · show Q_gr Z p1 h0 n0 _ s₁.heap _
      rw [e0]
      exact ⟨by simp [own_g, hc1_2], N0, rfl⟩
  · have c4 : Goes p e below s₁ (entryFrame m #[(.int p1)] 1) s₁ (mkF m 8 #[.val (.int p1)] [(.int (1 : Int32)), (.int p1)]) := by
      intro t kk
      refine c1 t ?_
      show Steps p.tables e below (s₁.setTop (mkF m 1 #[.val (.int p1)] [(.int p1)])) t
      refine XS.ifYes X0.here hx rfl (pc0 := 1) (pc' := 6) rfl (hb hby d1_1) rfl ((if0 _ _).trans (feq hc1_2).2) (by decide) (by decide) ?_
      show Steps p.tables e below (s₁.setTop (mkF m 6 #[.val (.int p1)] [])) t
      refine XS.iloadN X0.here hx rfl (hb hby d1_6) rfl ?_
      show Steps p.tables e below (s₁.setTop (mkF m 7 #[.val (.int p1)] [(.int p1)])) t
      refine XS.iconst X0.here hx rfl (hb hby d1_7) ?_
      exact kk
    by_cases hc8_5 : p1 = (1 : Int32)
    · have c6 : Goes p e below s₁ (entryFrame m #[(.int p1)] 1) s₁ (mkF m 12 #[.val (.int p1)] [(.int (1 : Int32))]) := by
        intro t kk
        refine c4 t ?_
        show Steps p.tables e below (s₁.setTop (mkF m 8 #[.val (.int p1)] [(.int (1 : Int32)), (.int p1)])) t
        refine XS.icmpNo X0.here hx rfl (hb hby d1_8) rfl (teq hc8_5).2 ?_
        show Steps p.tables e below (s₁.setTop (mkF m 11 #[.val (.int p1)] [])) t
        refine XS.iconst X0.here hx rfl (hb hby d1_11) ?_
        exact kk
      obtain ⟨fs, hr, hrun, hended, hW, hsame⟩ := X0.leave (v := some (.int (1 : Int32))) (fun h => by rw [Bd.returns] at h; cases h)
      refine ⟨_, _, c6 _ ?_, hrun, hended, _, _, rfl, ?_, ⟨_, rfl⟩, hW, hsame.mono (by decide) (by decide)⟩
      · exact retI X0 hx Bd.returns (hb hby d1_12) hr
      · show Q_gr Z p1 h0 n0 _ s₁.heap _
        rw [e0]
        exact ⟨by simp [own_g, hc1_2, hc8_5], N0, rfl⟩
    · have c7 : Goes p e below s₁ (entryFrame m #[(.int p1)] 1) s₁ (mkF m 15 #[.val (.int p1)] [(.int (2 : Int32)), (.int p1)]) := by
        intro t kk
        refine c4 t ?_
        show Steps p.tables e below (s₁.setTop (mkF m 8 #[.val (.int p1)] [(.int (1 : Int32)), (.int p1)])) t
        refine XS.icmpYes X0.here hx rfl (pc0 := 8) (pc' := 13) rfl (hb hby d1_8) rfl (feq hc8_5).2 (by decide) (by decide) ?_
        show Steps p.tables e below (s₁.setTop (mkF m 13 #[.val (.int p1)] [])) t
        refine XS.iloadN X0.here hx rfl (hb hby d1_13) rfl ?_
        show Steps p.tables e below (s₁.setTop (mkF m 14 #[.val (.int p1)] [(.int p1)])) t
        refine XS.iconst X0.here hx rfl (hb hby d1_14) ?_
        exact kk
      by_cases hc15_8 : p1 = (2 : Int32)
      · have c9 : Goes p e below s₁ (entryFrame m #[(.int p1)] 1) s₁ (mkF m 24 #[.val (.int p1)] [(.int (2 : Int32))]) := by
          intro t kk
          refine c7 t ?_
          show Steps p.tables e below (s₁.setTop (mkF m 15 #[.val (.int p1)] [(.int (2 : Int32)), (.int p1)])) t
          refine XS.icmpYes X0.here hx rfl (pc0 := 15) (pc' := 23) rfl (hb hby d1_15) rfl (teq hc15_8).1 (by decide) (by decide) ?_
          show Steps p.tables e below (s₁.setTop (mkF m 23 #[.val (.int p1)] [])) t
          refine XS.iconst X0.here hx rfl (hb hby d1_23) ?_
          exact kk
        obtain ⟨fs, hr, hrun, hended, hW, hsame⟩ := X0.leave (v := some (.int (2 : Int32))) (fun h => by rw [Bd.returns] at h; cases h)
        refine ⟨_, _, c9 _ ?_, hrun, hended, _, _, rfl, ?_, ⟨_, rfl⟩, hW, hsame.mono (by decide) (by decide)⟩
        · exact retI X0 hx Bd.returns (hb hby d1_24) hr
        · show Q_gr Z p1 h0 n0 _ s₁.heap _
          rw [e0]
          exact ⟨by simp [own_g, hc1_2, hc8_5, hc15_8], N0, rfl⟩
      · have c10 : Goes p e below s₁ (entryFrame m #[(.int p1)] 1) s₁ (mkF m 20 #[.val (.int p1)] [(.int (5 : Int32)), (.int p1)]) := by
          intro t kk
          refine c7 t ?_
          show Steps p.tables e below (s₁.setTop (mkF m 15 #[.val (.int p1)] [(.int (2 : Int32)), (.int p1)])) t
          refine XS.icmpNo X0.here hx rfl (hb hby d1_15) rfl (feq hc15_8).1 ?_
          show Steps p.tables e below (s₁.setTop (mkF m 18 #[.val (.int p1)] [])) t
          refine XS.iloadN X0.here hx rfl (hb hby d1_18) rfl ?_
          show Steps p.tables e below (s₁.setTop (mkF m 19 #[.val (.int p1)] [(.int p1)])) t
          refine XS.iconst X0.here hx rfl (hb hby d1_19) ?_
          exact kk
        by_cases hc20_11 : p1 = (5 : Int32)
        · have c12 : Goes p e below s₁ (entryFrame m #[(.int p1)] 1) s₁ (mkF m 24 #[.val (.int p1)] [(.int (2 : Int32))]) := by
            intro t kk
            refine c10 t ?_
            show Steps p.tables e below (s₁.setTop (mkF m 20 #[.val (.int p1)] [(.int (5 : Int32)), (.int p1)])) t
            refine XS.icmpNo X0.here hx rfl (hb hby d1_20) rfl (teq hc20_11).2 ?_
            show Steps p.tables e below (s₁.setTop (mkF m 23 #[.val (.int p1)] [])) t
            refine XS.iconst X0.here hx rfl (hb hby d1_23) ?_
            exact kk
          obtain ⟨fs, hr, hrun, hended, hW, hsame⟩ := X0.leave (v := some (.int (2 : Int32))) (fun h => by rw [Bd.returns] at h; cases h)
          refine ⟨_, _, c12 _ ?_, hrun, hended, _, _, rfl, ?_, ⟨_, rfl⟩, hW, hsame.mono (by decide) (by decide)⟩
          · exact retI X0 hx Bd.returns (hb hby d1_24) hr
          · show Q_gr Z p1 h0 n0 _ s₁.heap _
            rw [e0]
            exact ⟨by simp [own_g, hc1_2, hc8_5, hc15_8, hc20_11], N0, rfl⟩
        · have c13 : Goes p e below s₁ (entryFrame m #[(.int p1)] 1) s₁ (mkF m 26 #[.val (.int p1)] [(.int (3 : Int32))]) := by
            intro t kk
            refine c10 t ?_
            show Steps p.tables e below (s₁.setTop (mkF m 20 #[.val (.int p1)] [(.int (5 : Int32)), (.int p1)])) t
            refine XS.icmpYes X0.here hx rfl (pc0 := 20) (pc' := 25) rfl (hb hby d1_20) rfl (feq hc20_11).2 (by decide) (by decide) ?_
            show Steps p.tables e below (s₁.setTop (mkF m 25 #[.val (.int p1)] [])) t
            refine XS.iconst X0.here hx rfl (hb hby d1_25) ?_
            exact kk
          obtain ⟨fs, hr, hrun, hended, hW, hsame⟩ := X0.leave (v := some (.int (3 : Int32))) (fun h => by rw [Bd.returns] at h; cases h)
          refine ⟨_, _, c13 _ ?_, hrun, hended, _, _, rfl, ?_, ⟨_, rfl⟩, hW, hsame.mono (by decide) (by decide)⟩
          · exact retI X0 hx Bd.returns (hb hby d1_26) hr
          · show Q_gr Z p1 h0 n0 _ s₁.heap _
            rw [e0]
            exact ⟨by simp [own_g, hc1_2, hc8_5, hc15_8, hc20_11], N0, rfl⟩
theorem d2_0 : decode prog_60_method_5_code 0 = .ok (.aload_n 0, 1) := by decide +kernel
theorem d2_1 : decode prog_60_method_5_code 1 = .ok (.getfield 45, 3) := by decide +kernel
theorem d2_4 : decode prog_60_method_5_code 4 = .ok (.aload_n 1, 1) := by decide +kernel
theorem d2_5 : decode prog_60_method_5_code 5 = .ok (.getfield 45, 3) := by decide +kernel
theorem d2_8 : decode prog_60_method_5_code 8 = .ok (.if_acmp .ne 7, 3) := by decide +kernel
theorem d2_11 : decode prog_60_method_5_code 11 = .ok (.iconst 1, 1) := by decide +kernel
theorem d2_12 : decode prog_60_method_5_code 12 = .ok (.goto 4, 3) := by decide +kernel
theorem d2_15 : decode prog_60_method_5_code 15 = .ok (.iconst 0, 1) := by decide +kernel
theorem d2_16 : decode prog_60_method_5_code 16 = .ok (.ireturn, 1) := by decide +kernel
theorem pn_2 : plainName "com/example/indizio/indizio/core/model/RouteSource" = true := by first | (simp [plainName, overriddenIn]; done) | decide +kernel
theorem ef_sp (m : MethodId) (x0 : Addr) (x1 : Addr) : entryFrame m #[(.ref x0), (.ref x1)] 2 = mkF m 0 #[.val (.ref x0), .val (.ref x1)] [] := by (first | (simp [entryFrame, mkF, argsToLocals, Value.category]; done) | rfl)
def Q_sp (Z : State) (a1 : Addr) (a2 : Addr) (q1 : Addr) (q2 : Addr) (h0 : Heap) (n0 : Nat) (v : Option Value) (h : Heap) (L : List Loc) : Prop := v = some (.int (own_eq q1 q2)) ∧ Fr n0 L ∧ h = h0
set_option maxRecDepth 65536 in
set_option maxHeartbeats 40000000 in
theorem rm_sp (l : Launch) (Z : State) (a0 : Array Value) (hw : ∀ d ∈ tables_1, d.before a0 Z = true) (ws : List Jvm.Cond) (a1 : Addr) (a2 : Addr) (q1 : Addr) (q2 : Addr) (h0 : Heap) (n0 : Nat) (Z0 : n0 ≤ h0.size) (F1 : Fld Z h0 a1 "com/example/indizio/indizio/core/model/RouteSource" "protocol" "Lcom/example/indizio/indizio/core/RouteProtocol;" (.ref q1)) (F2 : Fld Z h0 a2 "com/example/indizio/indizio/core/model/RouteSource" "protocol" "Lcom/example/indizio/indizio/core/RouteProtocol;" (.ref q2)) :
    MetFree l (⟨"com/example/indizio/indizio/core/model/RouteSource", "sameProtocol", "(Lcom/example/indizio/indizio/core/model/RouteSource;)Z"⟩ : MethodName) (head1 (Jvm.Cond.code (⟨"com/example/indizio/indizio/core/model/RouteSource", "sameProtocol", "(Lcom/example/indizio/indizio/core/model/RouteSource;)Z"⟩ : MethodName) prog_60_method_5_code 2 (some .boolean) :: ws) ({ frames := 0, cells := 0, slots := 0, locals := 0 } : Room)) (fun a U => a = #[(.ref a1), (.ref a2)] ∧ Z.Warmed39 U.vm ∧ U.heap = h0) (fun _ _ _ _ _ => True) (fun _ U o U' => ∃ v L, o = .returned v ∧ Q_sp Z a1 a2 q1 q2 h0 n0 v U'.heap L ∧ FrameEnd U o U' L ({ frames := 0, cells := 0, slots := 0, locals := 0 } : Room).cells ({ frames := 0, cells := 0, slots := 0, locals := 0 } : Room).slots) := by
  refine MetFree.of_bodySF (plainFor_of_name pn_2) hisR ?_
  intro p e s m args below meth c s₁ Bd hml0 hP hK
  obtain ⟨rfl, hZ, hh⟩ := hP
  have hx := Bd.exec
  have hby := Bd.bytes
  have hml : c.maxLocals = 2 := hml0
  have hown : s.vm.findClass "com/example/indizio/indizio/core/model/RouteSource" = some m.cls := findClass_of_methodNamed Bd.named
  have hnm := (name_of_methodNamed Bd.named Bd.method).1
  have X0 : Stand p l e ({ frames := 0, cells := 0, slots := 0, locals := 0 } : Room) s m #[(.ref a1), (.ref a2)] below meth c s₁ [] 0 0 := Stand.of_body Bd
  have e0 : s₁.heap = h0 := by rw [← hh, Bd.state]; rfl
  have N0 := Fr.nil n0
  have c0 : Goes p e below s₁ (entryFrame m #[(.ref a1), (.ref a2)] 2) s₁ (mkF m 0 #[.val (.ref a1), .val (.ref a2)] []) := fun t k => castTop (ef_sp m a1 a2) k
  have c14 : Goes p e below s₁ (entryFrame m #[(.ref a1), (.ref a2)] 2) s₁ (mkF m 1 #[.val (.ref a1), .val (.ref a2)] [(.ref a1)]) := by
    intro t kk
    refine c0 t ?_
    show Steps p.tables e below (s₁.setTop (mkF m 0 #[.val (.ref a1), .val (.ref a2)] [])) t
    refine XS.aloadN X0.here hx rfl (hb hby d2_0) rfl rfl ?_
    exact kk
  obtain ⟨T15, X15, e15, st15⟩ := getF X0 hx hZ hown (host := "") (Or.inl (hw _ (List.mem_of_getElem? (i := 26) rfl))) Via.refl e0 F1 (g := (mkF m 1 #[.val (.ref a1), .val (.ref a2)] [(.ref a1)])) rfl rfl (hb hby d2_1)
  have c16 : Goes p e below s₁ (entryFrame m #[(.ref a1), (.ref a2)] 2) T15 (mkF m 4 #[.val (.ref a1), .val (.ref a2)] [(.ref q1)]) := fun t kk => c14 t (st15 t kk)
  have c17 : Goes p e below s₁ (entryFrame m #[(.ref a1), (.ref a2)] 2) T15 (mkF m 5 #[.val (.ref a1), .val (.ref a2)] [(.ref a2), (.ref q1)]) := by
    intro t kk
    refine c16 t ?_
    show Steps p.tables e below (T15.setTop (mkF m 4 #[.val (.ref a1), .val (.ref a2)] [(.ref q1)])) t
    refine XS.aloadN X15.here hx rfl (hb hby d2_4) rfl rfl ?_
    exact kk
  obtain ⟨T18, X18, e18, st18⟩ := getF X15 hx hZ hown (host := "") (Or.inl (hw _ (List.mem_of_getElem? (i := 26) rfl))) Via.refl e15 F2 (g := (mkF m 5 #[.val (.ref a1), .val (.ref a2)] [(.ref a2), (.ref q1)])) rfl rfl (hb hby d2_5)
  have c19 : Goes p e below s₁ (entryFrame m #[(.ref a1), (.ref a2)] 2) T18 (mkF m 8 #[.val (.ref a1), .val (.ref a2)] [(.ref q2), (.ref q1)]) := fun t kk => c17 t (st18 t kk)
  by_cases ha8_20 : ((.ref q1) : Value) = (.ref q2)
  · have c21 : Goes p e below s₁ (entryFrame m #[(.ref a1), (.ref a2)] 2) T18 (mkF m 16 #[.val (.ref a1), .val (.ref a2)] [(.int (1 : Int32))]) := by
      intro t kk
      refine c19 t ?_
      show Steps p.tables e below (T18.setTop (mkF m 8 #[.val (.ref a1), .val (.ref a2)] [(.ref q2), (.ref q1)])) t
      refine Jvm.RoadKit.acmp (g := (mkF m 8 #[.val (.ref a1), .val (.ref a2)] [(.ref q2), (.ref q1)])) X18 hx rfl rfl rfl (pc0 := 8) (pc' := 11) (same := true) rfl (hb hby d2_8) rfl (decide_eq_true ha8_20) (by decide) (by decide) ?_
      show Steps p.tables e below (T18.setTop (mkF m 11 #[.val (.ref a1), .val (.ref a2)] [])) t
      refine XS.iconst X18.here hx rfl (hb hby d2_11) ?_
      show Steps p.tables e below (T18.setTop (mkF m 12 #[.val (.ref a1), .val (.ref a2)] [(.int (1 : Int32))])) t
      refine XS.goto X18.here hx rfl (pc0 := 12) (pc' := 16) rfl (hb hby d2_12) (by decide) (by decide) ?_
      exact kk
    obtain ⟨fs, hr, hrun, hended, hW, hsame⟩ := X18.leave (v := some (.int (1 : Int32))) (fun h => by rw [Bd.returns] at h; cases h)
    refine ⟨_, _, c21 _ ?_, hrun, hended, _, _, rfl, ?_, ⟨_, rfl⟩, hW, hsame.mono (by decide) (by decide)⟩
    · exact retN X18 hx (t := .boolean) Bd.returns (by simp) (hb hby d2_16) hr
    · show Q_sp Z a1 a2 q1 q2 h0 n0 _ T18.heap _
      rw [e18]
      exact ⟨by simp_all [own_eq], N0, rfl⟩
  · have c22 : Goes p e below s₁ (entryFrame m #[(.ref a1), (.ref a2)] 2) T18 (mkF m 16 #[.val (.ref a1), .val (.ref a2)] [(.int (0 : Int32))]) := by
      intro t kk
      refine c19 t ?_
      show Steps p.tables e below (T18.setTop (mkF m 8 #[.val (.ref a1), .val (.ref a2)] [(.ref q2), (.ref q1)])) t
      refine Jvm.RoadKit.acmp (g := (mkF m 8 #[.val (.ref a1), .val (.ref a2)] [(.ref q2), (.ref q1)])) X18 hx rfl rfl rfl (pc0 := 8) (pc' := 15) (same := false) rfl (hb hby d2_8) rfl (decide_eq_false ha8_20) (by decide) (by decide) ?_
      show Steps p.tables e below (T18.setTop (mkF m 15 #[.val (.ref a1), .val (.ref a2)] [])) t
      refine XS.iconst X18.here hx rfl (hb hby d2_15) ?_
      exact kk
    obtain ⟨fs, hr, hrun, hended, hW, hsame⟩ := X18.leave (v := some (.int (0 : Int32))) (fun h => by rw [Bd.returns] at h; cases h)
    refine ⟨_, _, c22 _ ?_, hrun, hended, _, _, rfl, ?_, ⟨_, rfl⟩, hW, hsame.mono (by decide) (by decide)⟩
    · exact retN X18 hx (t := .boolean) Bd.returns (by simp) (hb hby d2_16) hr
    · show Q_sp Z a1 a2 q1 q2 h0 n0 _ T18.heap _
      rw [e18]
      exact ⟨by simp_all [own_eq], N0, rfl⟩
theorem pd__I_I : parseMethodDescriptor "(I)I" = some ⟨[.int], some .int⟩ := by decide +kernel
theorem pd__Lcom_example_indizio_indizio_core_model_RouteSource__Z : parseMethodDescriptor "(Lcom/example/indizio/indizio/core/model/RouteSource;)Z" = some ⟨[(.object "com/example/indizio/indizio/core/model/RouteSource")], some .boolean⟩ := by decide +kernel
theorem ef_law (m : MethodId) (x0 : Int32) (x1 : Int32) : entryFrame m #[(.int x0), (.int x1)] maxLocals = mkF m 0 #[.val (.int x0), .val (.int x1), .unset, .unset, .unset, .unset] [] := by (first | (simp [entryFrame, mkF, argsToLocals, Value.category, maxLocals]; done) | rfl)
def Q_law (Z : State) (p0 : Int32) (p1 : Int32) (w0 : Addr) (w1 : Addr) (w2 : Addr) (w3 : Addr) (w4 : Addr) (w5 : Addr) (r0 : Addr) (r1 : Addr) (r2 : Addr) (r3 : Addr) (h0 : Heap) (n0 : Nat) (v : Option Value) (h : Heap) (L : List Loc) : Prop := v = some (.int 1) ∧ Fr n0 L
set_option maxRecDepth 65536 in
set_option maxHeartbeats 40000000 in
theorem rm_law (l : Launch) (Z : State) (a0 : Array Value) (hw : ∀ d ∈ tables_1, d.before a0 Z = true) (ws : List Jvm.Cond) (p0 : Int32) (p1 : Int32) (w0 : Addr) (w1 : Addr) (w2 : Addr) (w3 : Addr) (w4 : Addr) (w5 : Addr) (r0 : Addr) (r1 : Addr) (r2 : Addr) (r3 : Addr) (h0 : Heap) (n0 : Nat) (Z0 : n0 ≤ h0.size) (O0 : Old Z n0 h0) (S_w0 : Sta Z Z.heap "com/example/indizio/indizio/core/model/RouteSource" "CONNECTED" "Lcom/example/indizio/indizio/core/model/RouteSource;" (.ref w0)) (S_w1 : Sta Z Z.heap "com/example/indizio/indizio/core/model/RouteSource" "STATIC" "Lcom/example/indizio/indizio/core/model/RouteSource;" (.ref w1)) (S_w2 : Sta Z Z.heap "com/example/indizio/indizio/core/model/RouteSource" "EBGP" "Lcom/example/indizio/indizio/core/model/RouteSource;" (.ref w2)) (S_w3 : Sta Z Z.heap "com/example/indizio/indizio/core/model/RouteSource" "OSPF_INTERNAL" "Lcom/example/indizio/indizio/core/model/RouteSource;" (.ref w3)) (S_w4 : Sta Z Z.heap "com/example/indizio/indizio/core/model/RouteSource" "OSPF_EXTERNAL" "Lcom/example/indizio/indizio/core/model/RouteSource;" (.ref w4)) (S_w5 : Sta Z Z.heap "com/example/indizio/indizio/core/model/RouteSource" "IBGP" "Lcom/example/indizio/indizio/core/model/RouteSource;" (.ref w5)) (E_w0 : Exa Z Z.heap w0 "com/example/indizio/indizio/core/model/RouteSource") (E_w1 : Exa Z Z.heap w1 "com/example/indizio/indizio/core/model/RouteSource") (E_w2 : Exa Z Z.heap w2 "com/example/indizio/indizio/core/model/RouteSource") (E_w3 : Exa Z Z.heap w3 "com/example/indizio/indizio/core/model/RouteSource") (E_w4 : Exa Z Z.heap w4 "com/example/indizio/indizio/core/model/RouteSource") (E_w5 : Exa Z Z.heap w5 "com/example/indizio/indizio/core/model/RouteSource") (F_w0 : Fld Z Z.heap w0 "com/example/indizio/indizio/core/model/RouteSource" "protocol" "Lcom/example/indizio/indizio/core/RouteProtocol;" (.ref r0)) (F_w1 : Fld Z Z.heap w1 "com/example/indizio/indizio/core/model/RouteSource" "protocol" "Lcom/example/indizio/indizio/core/RouteProtocol;" (.ref r1)) (F_w2 : Fld Z Z.heap w2 "com/example/indizio/indizio/core/model/RouteSource" "protocol" "Lcom/example/indizio/indizio/core/RouteProtocol;" (.ref r2)) (F_w3 : Fld Z Z.heap w3 "com/example/indizio/indizio/core/model/RouteSource" "protocol" "Lcom/example/indizio/indizio/core/RouteProtocol;" (.ref r3)) (F_w4 : Fld Z Z.heap w4 "com/example/indizio/indizio/core/model/RouteSource" "protocol" "Lcom/example/indizio/indizio/core/RouteProtocol;" (.ref r3)) (F_w5 : Fld Z Z.heap w5 "com/example/indizio/indizio/core/model/RouteSource" "protocol" "Lcom/example/indizio/indizio/core/RouteProtocol;" (.ref r2)) (d01 : r0 ≠ r1) (d02 : r0 ≠ r2) (d03 : r0 ≠ r3) (d12 : r1 ≠ r2) (d13 : r1 ≠ r3) (d23 : r2 ≠ r3) :
    MetFree l x (head1 (Jvm.Cond.code x code maxLocals ret :: ws) room_1) (fun a U => a = #[(.int p0), (.int p1)] ∧ Z.Warmed39 U.vm ∧ U.heap = h0) (fun _ _ _ _ _ => True) (fun _ U o U' => ∃ v L, o = .returned v ∧ Q_law Z p0 p1 w0 w1 w2 w3 w4 w5 r0 r1 r2 r3 h0 n0 v U'.heap L ∧ FrameEnd U o U' L 1 6) := by
  refine MetFree.of_bodySF (plainFor_of_name pn_1) hisR ?_
  intro p e s m args below meth c s₁ Bd hml0 hP hK
  obtain ⟨rfl, hZ, hh⟩ := hP
  have hx := Bd.exec
  have hby := Bd.bytes
  have hml : c.maxLocals = 6 := hml0
  have hown : s.vm.findClass "com/example/indizio/indizio/core/model/RouteSourceSameProtocolPinLaw" = some m.cls := findClass_of_methodNamed Bd.named
  have hnm := (name_of_methodNamed Bd.named Bd.method).1
  have X0 : Stand p l e room_1 s m #[(.int p0), (.int p1)] below meth c s₁ [] 0 0 := Stand.of_body Bd
  have e0 : s₁.heap = h0 := by rw [← hh, Bd.state]; rfl
  have N0 := Fr.nil n0
  have c0 : Goes p e below s₁ (entryFrame m #[(.int p0), (.int p1)] maxLocals) s₁ (mkF m 0 #[.val (.int p0), .val (.int p1), .unset, .unset, .unset, .unset] []) := fun t k => castTop (ef_law m p0 p1) k
  have c23 : Goes p e below s₁ (entryFrame m #[(.int p0), (.int p1)] maxLocals) s₁ (mkF m 2 #[.val (.int p0), .val (.int p1), .unset, .unset, .unset, .unset] [(.int (6 : Int32))]) := by
    intro t kk
    refine c0 t ?_
    show Steps p.tables e below (s₁.setTop (mkF m 0 #[.val (.int p0), .val (.int p1), .unset, .unset, .unset, .unset] [])) t
    refine XS.bipush X0.here hx rfl (hb hby at_0) ?_
    exact kk
  obtain ⟨T24, h24, k24, X24, e24, E24, A24, O24, st24⟩ := newR X0 hx hZ hown (hw _ (List.mem_of_getElem? (i := 0) rfl)) (hw _ (List.mem_of_getElem? (i := 1) rfl)) e0 (g := (mkF m 2 #[.val (.int p0), .val (.int p1), .unset, .unset, .unset, .unset] [(.int (6 : Int32))])) rfl (hb hby at_2) rfl (by decide) (cap := 6) (by decide) (by decide) (by decide) (by decide)
  obtain ⟨b24, g24⟩ : ∃ z, z = h0.size := ⟨_, rfl⟩
  rw [← g24] at A24 st24
  have gb24 : n0 ≤ b24 := Nat.le_trans Z0 (Nat.le_of_eq g24.symm)
  have V24 : Arv Z h24 b24 k24 (.object "com/example/indizio/indizio/core/model/RouteSource") (6 : Int32) [.null, .null, .null, .null, .null, .null] .null := (Arv.new A24 (by decide)).pad (pad_rep [] .null 6)
  have c25 : Goes p e below s₁ (entryFrame m #[(.int p0), (.int p1)] maxLocals) T24 (mkF m 5 #[.val (.int p0), .val (.int p1), .unset, .unset, .unset, .unset] [(.ref b24)]) := fun t kk => c23 t (st24 t kk)
  have c26 : Goes p e below s₁ (entryFrame m #[(.int p0), (.int p1)] maxLocals) T24 (mkF m 7 #[.val (.int p0), .val (.int p1), .unset, .unset, .unset, .unset] [(.int (0 : Int32)), (.ref b24), (.ref b24)]) := by
    intro t kk
    refine c25 t ?_
    show Steps p.tables e below (T24.setTop (mkF m 5 #[.val (.int p0), .val (.int p1), .unset, .unset, .unset, .unset] [(.ref b24)])) t
    refine XS.dup X24.here hx rfl (hb hby at_5) rfl rfl ?_
    show Steps p.tables e below (T24.setTop (mkF m 6 #[.val (.int p0), .val (.int p1), .unset, .unset, .unset, .unset] [(.ref b24), (.ref b24)])) t
    refine XS.iconst X24.here hx rfl (hb hby at_6) ?_
    exact kk
  have f28 := (O0.ext E24)
  obtain ⟨T27, X27, e27, st27⟩ := getS2 X24 hx hZ hown (host := "") (Or.inl (hw _ (List.mem_of_getElem? (i := 2) rfl))) Via.refl e24 (S_w0.ext f28.2) (g := (mkF m 7 #[.val (.int p0), .val (.int p1), .unset, .unset, .unset, .unset] [(.int (0 : Int32)), (.ref b24), (.ref b24)])) rfl (hb hby at_7)
  have c29 : Goes p e below s₁ (entryFrame m #[(.int p0), (.int p1)] maxLocals) T27 (mkF m 10 #[.val (.int p0), .val (.int p1), .unset, .unset, .unset, .unset] [(.ref w0), (.int (0 : Int32)), (.ref b24), (.ref b24)]) := fun t kk => c26 t (st27 t kk)
  obtain ⟨cl30, Ar30, q30, Sz30, Nn30, Hh30, Gg30⟩ := id V24
  have hin30 : ¬ ((0 : Int32) < 0 ∨ cl30.slots.size ≤ ((0 : Int32)).toNatClampNeg) := inb_of Sz30 ⟨by decide, by decide⟩
  obtain ⟨T30, h30, X30, e30, W30, st30⟩ := stR X27 hx hZ e27 Ar30 (j := (0 : Int32)) hin30 rfl (Sto.ofV Ar30 q30 O24 (Ins.self (E_w0.ext f28.2))) (g := (mkF m 10 #[.val (.int p0), .val (.int p1), .unset, .unset, .unset, .unset] [(.ref w0), (.int (0 : Int32)), (.ref b24), (.ref b24)])) rfl rfl (hb hby at_10)
  have V30 := Arv.set Ar30 q30 Sz30 Nn30 Hh30 Gg30 rfl W30 0 rfl (Nat.le_of_ble_eq_true rfl)
  have N30 := Fr.snoc X30 N0 gb24
  have c31 : Goes p e below s₁ (entryFrame m #[(.int p0), (.int p1)] maxLocals) T30 (mkF m 11 #[.val (.int p0), .val (.int p1), .unset, .unset, .unset, .unset] [(.ref b24)]) := fun t kk => c29 t (st30 t kk)
  have c32 : Goes p e below s₁ (entryFrame m #[(.int p0), (.int p1)] maxLocals) T30 (mkF m 13 #[.val (.int p0), .val (.int p1), .unset, .unset, .unset, .unset] [(.int (1 : Int32)), (.ref b24), (.ref b24)]) := by
    intro t kk
    refine c31 t ?_
    show Steps p.tables e below (T30.setTop (mkF m 11 #[.val (.int p0), .val (.int p1), .unset, .unset, .unset, .unset] [(.ref b24)])) t
    refine XS.dup X30.here hx rfl (hb hby at_11) rfl rfl ?_
    show Steps p.tables e below (T30.setTop (mkF m 12 #[.val (.int p0), .val (.int p1), .unset, .unset, .unset, .unset] [(.ref b24), (.ref b24)])) t
    refine XS.iconst X30.here hx rfl (hb hby at_12) ?_
    exact kk
  have f34 := (f28.wr W30 gb24)
  obtain ⟨T33, X33, e33, st33⟩ := getS2 X30 hx hZ hown (host := "") (Or.inl (hw _ (List.mem_of_getElem? (i := 6) rfl))) Via.refl e30 (S_w1.ext f34.2) (g := (mkF m 13 #[.val (.int p0), .val (.int p1), .unset, .unset, .unset, .unset] [(.int (1 : Int32)), (.ref b24), (.ref b24)])) rfl (hb hby at_13)
  have c35 : Goes p e below s₁ (entryFrame m #[(.int p0), (.int p1)] maxLocals) T33 (mkF m 16 #[.val (.int p0), .val (.int p1), .unset, .unset, .unset, .unset] [(.ref w1), (.int (1 : Int32)), (.ref b24), (.ref b24)]) := fun t kk => c32 t (st33 t kk)
  obtain ⟨cl36, Ar36, q36, Sz36, Nn36, Hh36, Gg36⟩ := id V30
  have hin36 : ¬ ((1 : Int32) < 0 ∨ cl36.slots.size ≤ ((1 : Int32)).toNatClampNeg) := inb_of Sz36 ⟨by decide, by decide⟩
  obtain ⟨T36, h36, X36, e36, W36, st36⟩ := stR X33 hx hZ e33 Ar36 (j := (1 : Int32)) hin36 rfl (Sto.ofV Ar36 q36 O24 (Ins.self (E_w1.ext f34.2))) (g := (mkF m 16 #[.val (.int p0), .val (.int p1), .unset, .unset, .unset, .unset] [(.ref w1), (.int (1 : Int32)), (.ref b24), (.ref b24)])) rfl rfl (hb hby at_16)
  have V36 := Arv.set Ar36 q36 Sz36 Nn36 Hh36 Gg36 rfl W36 1 rfl (Nat.le_of_ble_eq_true rfl)
  have N36 := Fr.snoc X36 N30 gb24
  have c37 : Goes p e below s₁ (entryFrame m #[(.int p0), (.int p1)] maxLocals) T36 (mkF m 17 #[.val (.int p0), .val (.int p1), .unset, .unset, .unset, .unset] [(.ref b24)]) := fun t kk => c35 t (st36 t kk)
  have c38 : Goes p e below s₁ (entryFrame m #[(.int p0), (.int p1)] maxLocals) T36 (mkF m 19 #[.val (.int p0), .val (.int p1), .unset, .unset, .unset, .unset] [(.int (2 : Int32)), (.ref b24), (.ref b24)]) := by
    intro t kk
    refine c37 t ?_
    show Steps p.tables e below (T36.setTop (mkF m 17 #[.val (.int p0), .val (.int p1), .unset, .unset, .unset, .unset] [(.ref b24)])) t
    refine XS.dup X36.here hx rfl (hb hby at_17) rfl rfl ?_
    show Steps p.tables e below (T36.setTop (mkF m 18 #[.val (.int p0), .val (.int p1), .unset, .unset, .unset, .unset] [(.ref b24), (.ref b24)])) t
    refine XS.iconst X36.here hx rfl (hb hby at_18) ?_
    exact kk
  have f40 := (f34.wr W36 gb24)
  obtain ⟨T39, X39, e39, st39⟩ := getS2 X36 hx hZ hown (host := "") (Or.inl (hw _ (List.mem_of_getElem? (i := 8) rfl))) Via.refl e36 (S_w2.ext f40.2) (g := (mkF m 19 #[.val (.int p0), .val (.int p1), .unset, .unset, .unset, .unset] [(.int (2 : Int32)), (.ref b24), (.ref b24)])) rfl (hb hby at_19)
  have c41 : Goes p e below s₁ (entryFrame m #[(.int p0), (.int p1)] maxLocals) T39 (mkF m 22 #[.val (.int p0), .val (.int p1), .unset, .unset, .unset, .unset] [(.ref w2), (.int (2 : Int32)), (.ref b24), (.ref b24)]) := fun t kk => c38 t (st39 t kk)
  obtain ⟨cl42, Ar42, q42, Sz42, Nn42, Hh42, Gg42⟩ := id V36
  have hin42 : ¬ ((2 : Int32) < 0 ∨ cl42.slots.size ≤ ((2 : Int32)).toNatClampNeg) := inb_of Sz42 ⟨by decide, by decide⟩
  obtain ⟨T42, h42, X42, e42, W42, st42⟩ := stR X39 hx hZ e39 Ar42 (j := (2 : Int32)) hin42 rfl (Sto.ofV Ar42 q42 O24 (Ins.self (E_w2.ext f40.2))) (g := (mkF m 22 #[.val (.int p0), .val (.int p1), .unset, .unset, .unset, .unset] [(.ref w2), (.int (2 : Int32)), (.ref b24), (.ref b24)])) rfl rfl (hb hby at_22)
  have V42 := Arv.set Ar42 q42 Sz42 Nn42 Hh42 Gg42 rfl W42 2 rfl (Nat.le_of_ble_eq_true rfl)
  have N42 := Fr.snoc X42 N36 gb24
  have c43 : Goes p e below s₁ (entryFrame m #[(.int p0), (.int p1)] maxLocals) T42 (mkF m 23 #[.val (.int p0), .val (.int p1), .unset, .unset, .unset, .unset] [(.ref b24)]) := fun t kk => c41 t (st42 t kk)
  have c44 : Goes p e below s₁ (entryFrame m #[(.int p0), (.int p1)] maxLocals) T42 (mkF m 25 #[.val (.int p0), .val (.int p1), .unset, .unset, .unset, .unset] [(.int (3 : Int32)), (.ref b24), (.ref b24)]) := by
    intro t kk
    refine c43 t ?_
    show Steps p.tables e below (T42.setTop (mkF m 23 #[.val (.int p0), .val (.int p1), .unset, .unset, .unset, .unset] [(.ref b24)])) t
    refine XS.dup X42.here hx rfl (hb hby at_23) rfl rfl ?_
    show Steps p.tables e below (T42.setTop (mkF m 24 #[.val (.int p0), .val (.int p1), .unset, .unset, .unset, .unset] [(.ref b24), (.ref b24)])) t
    refine XS.iconst X42.here hx rfl (hb hby at_24) ?_
    exact kk
  have f46 := (f40.wr W42 gb24)
  obtain ⟨T45, X45, e45, st45⟩ := getS2 X42 hx hZ hown (host := "") (Or.inl (hw _ (List.mem_of_getElem? (i := 10) rfl))) Via.refl e42 (S_w3.ext f46.2) (g := (mkF m 25 #[.val (.int p0), .val (.int p1), .unset, .unset, .unset, .unset] [(.int (3 : Int32)), (.ref b24), (.ref b24)])) rfl (hb hby at_25)
  have c47 : Goes p e below s₁ (entryFrame m #[(.int p0), (.int p1)] maxLocals) T45 (mkF m 28 #[.val (.int p0), .val (.int p1), .unset, .unset, .unset, .unset] [(.ref w3), (.int (3 : Int32)), (.ref b24), (.ref b24)]) := fun t kk => c44 t (st45 t kk)
  obtain ⟨cl48, Ar48, q48, Sz48, Nn48, Hh48, Gg48⟩ := id V42
  have hin48 : ¬ ((3 : Int32) < 0 ∨ cl48.slots.size ≤ ((3 : Int32)).toNatClampNeg) := inb_of Sz48 ⟨by decide, by decide⟩
  obtain ⟨T48, h48, X48, e48, W48, st48⟩ := stR X45 hx hZ e45 Ar48 (j := (3 : Int32)) hin48 rfl (Sto.ofV Ar48 q48 O24 (Ins.self (E_w3.ext f46.2))) (g := (mkF m 28 #[.val (.int p0), .val (.int p1), .unset, .unset, .unset, .unset] [(.ref w3), (.int (3 : Int32)), (.ref b24), (.ref b24)])) rfl rfl (hb hby at_28)
  have V48 := Arv.set Ar48 q48 Sz48 Nn48 Hh48 Gg48 rfl W48 3 rfl (Nat.le_of_ble_eq_true rfl)
  have N48 := Fr.snoc X48 N42 gb24
  have c49 : Goes p e below s₁ (entryFrame m #[(.int p0), (.int p1)] maxLocals) T48 (mkF m 29 #[.val (.int p0), .val (.int p1), .unset, .unset, .unset, .unset] [(.ref b24)]) := fun t kk => c47 t (st48 t kk)
  have c50 : Goes p e below s₁ (entryFrame m #[(.int p0), (.int p1)] maxLocals) T48 (mkF m 31 #[.val (.int p0), .val (.int p1), .unset, .unset, .unset, .unset] [(.int (4 : Int32)), (.ref b24), (.ref b24)]) := by
    intro t kk
    refine c49 t ?_
    show Steps p.tables e below (T48.setTop (mkF m 29 #[.val (.int p0), .val (.int p1), .unset, .unset, .unset, .unset] [(.ref b24)])) t
    refine XS.dup X48.here hx rfl (hb hby at_29) rfl rfl ?_
    show Steps p.tables e below (T48.setTop (mkF m 30 #[.val (.int p0), .val (.int p1), .unset, .unset, .unset, .unset] [(.ref b24), (.ref b24)])) t
    refine XS.iconst X48.here hx rfl (hb hby at_30) ?_
    exact kk
  have f52 := (f46.wr W48 gb24)
  obtain ⟨T51, X51, e51, st51⟩ := getS2 X48 hx hZ hown (host := "") (Or.inl (hw _ (List.mem_of_getElem? (i := 12) rfl))) Via.refl e48 (S_w4.ext f52.2) (g := (mkF m 31 #[.val (.int p0), .val (.int p1), .unset, .unset, .unset, .unset] [(.int (4 : Int32)), (.ref b24), (.ref b24)])) rfl (hb hby at_31)
  have c53 : Goes p e below s₁ (entryFrame m #[(.int p0), (.int p1)] maxLocals) T51 (mkF m 34 #[.val (.int p0), .val (.int p1), .unset, .unset, .unset, .unset] [(.ref w4), (.int (4 : Int32)), (.ref b24), (.ref b24)]) := fun t kk => c50 t (st51 t kk)
  obtain ⟨cl54, Ar54, q54, Sz54, Nn54, Hh54, Gg54⟩ := id V48
  have hin54 : ¬ ((4 : Int32) < 0 ∨ cl54.slots.size ≤ ((4 : Int32)).toNatClampNeg) := inb_of Sz54 ⟨by decide, by decide⟩
  obtain ⟨T54, h54, X54, e54, W54, st54⟩ := stR X51 hx hZ e51 Ar54 (j := (4 : Int32)) hin54 rfl (Sto.ofV Ar54 q54 O24 (Ins.self (E_w4.ext f52.2))) (g := (mkF m 34 #[.val (.int p0), .val (.int p1), .unset, .unset, .unset, .unset] [(.ref w4), (.int (4 : Int32)), (.ref b24), (.ref b24)])) rfl rfl (hb hby at_34)
  have V54 := Arv.set Ar54 q54 Sz54 Nn54 Hh54 Gg54 rfl W54 4 rfl (Nat.le_of_ble_eq_true rfl)
  have N54 := Fr.snoc X54 N48 gb24
  have c55 : Goes p e below s₁ (entryFrame m #[(.int p0), (.int p1)] maxLocals) T54 (mkF m 35 #[.val (.int p0), .val (.int p1), .unset, .unset, .unset, .unset] [(.ref b24)]) := fun t kk => c53 t (st54 t kk)
  have c56 : Goes p e below s₁ (entryFrame m #[(.int p0), (.int p1)] maxLocals) T54 (mkF m 37 #[.val (.int p0), .val (.int p1), .unset, .unset, .unset, .unset] [(.int (5 : Int32)), (.ref b24), (.ref b24)]) := by
    intro t kk
    refine c55 t ?_
    show Steps p.tables e below (T54.setTop (mkF m 35 #[.val (.int p0), .val (.int p1), .unset, .unset, .unset, .unset] [(.ref b24)])) t
    refine XS.dup X54.here hx rfl (hb hby at_35) rfl rfl ?_
    show Steps p.tables e below (T54.setTop (mkF m 36 #[.val (.int p0), .val (.int p1), .unset, .unset, .unset, .unset] [(.ref b24), (.ref b24)])) t
    refine XS.iconst X54.here hx rfl (hb hby at_36) ?_
    exact kk
  have f58 := (f52.wr W54 gb24)
  obtain ⟨T57, X57, e57, st57⟩ := getS2 X54 hx hZ hown (host := "") (Or.inl (hw _ (List.mem_of_getElem? (i := 14) rfl))) Via.refl e54 (S_w5.ext f58.2) (g := (mkF m 37 #[.val (.int p0), .val (.int p1), .unset, .unset, .unset, .unset] [(.int (5 : Int32)), (.ref b24), (.ref b24)])) rfl (hb hby at_37)
  have c59 : Goes p e below s₁ (entryFrame m #[(.int p0), (.int p1)] maxLocals) T57 (mkF m 40 #[.val (.int p0), .val (.int p1), .unset, .unset, .unset, .unset] [(.ref w5), (.int (5 : Int32)), (.ref b24), (.ref b24)]) := fun t kk => c56 t (st57 t kk)
  obtain ⟨cl60, Ar60, q60, Sz60, Nn60, Hh60, Gg60⟩ := id V54
  have hin60 : ¬ ((5 : Int32) < 0 ∨ cl60.slots.size ≤ ((5 : Int32)).toNatClampNeg) := inb_of Sz60 ⟨by decide, by decide⟩
  obtain ⟨T60, h60, X60, e60, W60, st60⟩ := stR X57 hx hZ e57 Ar60 (j := (5 : Int32)) hin60 rfl (Sto.ofV Ar60 q60 O24 (Ins.self (E_w5.ext f58.2))) (g := (mkF m 40 #[.val (.int p0), .val (.int p1), .unset, .unset, .unset, .unset] [(.ref w5), (.int (5 : Int32)), (.ref b24), (.ref b24)])) rfl rfl (hb hby at_40)
  have V60 := Arv.set Ar60 q60 Sz60 Nn60 Hh60 Gg60 rfl W60 5 rfl (Nat.le_of_ble_eq_true rfl)
  have N60 := Fr.snoc X60 N54 gb24
  have c61 : Goes p e below s₁ (entryFrame m #[(.int p0), (.int p1)] maxLocals) T60 (mkF m 41 #[.val (.int p0), .val (.int p1), .unset, .unset, .unset, .unset] [(.ref b24)]) := fun t kk => c59 t (st60 t kk)
  have f62 := (Nat.le_trans (Nat.le_trans (Nat.le_trans (Nat.le_trans (Nat.le_trans (Nat.le_trans (Nat.le_trans Z0 E24.1) (Keep.of_wr W30).1) (Keep.of_wr W36).1) (Keep.of_wr W42).1) (Keep.of_wr W48).1) (Keep.of_wr W54).1) (Keep.of_wr W60).1)
  have c63 : Goes p e below s₁ (entryFrame m #[(.int p0), (.int p1)] maxLocals) T60 (mkF m 60 #[.val (.int p0), .val (.int p1), .val (.ref b24), .val (.int ((p0 &&& (2147483647 : Int32)) % (6 : Int32))), .val (.int ((p1 &&& (2147483647 : Int32)) % (6 : Int32))), .unset] [(.int ((p0 &&& (2147483647 : Int32)) % (6 : Int32)))]) := by
    intro t kk
    refine c61 t ?_
    show Steps p.tables e below (T60.setTop (mkF m 41 #[.val (.int p0), .val (.int p1), .unset, .unset, .unset, .unset] [(.ref b24)])) t
    refine XS.astoreN X60.here hx rfl (hb hby at_41) rfl rfl (l' := #[.val (.int p0), .val (.int p1), .val (.ref b24), .unset, .unset, .unset]) rfl ?_
    show Steps p.tables e below (T60.setTop (mkF m 42 #[.val (.int p0), .val (.int p1), .val (.ref b24), .unset, .unset, .unset] [])) t
    refine XS.iloadN X60.here hx rfl (hb hby at_42) rfl ?_
    show Steps p.tables e below (T60.setTop (mkF m 43 #[.val (.int p0), .val (.int p1), .val (.ref b24), .unset, .unset, .unset] [(.int p0)])) t
    refine X60.ldcInt hx hown (mvT hZ (hw _ (List.mem_of_getElem? (i := 16) rfl))) (g := (mkF m 43 #[.val (.int p0), .val (.int p1), .val (.ref b24), .unset, .unset, .unset] [(.int p0)])) rfl (hb hby at_43) _ ?_
    show Steps p.tables e below (T60.setTop (mkF m 45 #[.val (.int p0), .val (.int p1), .val (.ref b24), .unset, .unset, .unset] [(.int (2147483647 : Int32)), (.int p0)])) t
    refine XS.iand X60.here hx rfl (hb hby at_45) rfl ?_
    show Steps p.tables e below (T60.setTop (mkF m 46 #[.val (.int p0), .val (.int p1), .val (.ref b24), .unset, .unset, .unset] [(.int (p0 &&& (2147483647 : Int32)))])) t
    refine XS.bipush X60.here hx rfl (hb hby at_46) ?_
    show Steps p.tables e below (T60.setTop (mkF m 48 #[.val (.int p0), .val (.int p1), .val (.ref b24), .unset, .unset, .unset] [(.int (6 : Int32)), (.int (p0 &&& (2147483647 : Int32)))])) t
    refine iremM X60 hx rfl (hb hby at_48) rfl (by decide) ?_
    show Steps p.tables e below (T60.setTop (mkF m 49 #[.val (.int p0), .val (.int p1), .val (.ref b24), .unset, .unset, .unset] [(.int ((p0 &&& (2147483647 : Int32)) % (6 : Int32)))])) t
    refine XS.istoreN X60.here hx rfl (hb hby at_49) rfl (l' := #[.val (.int p0), .val (.int p1), .val (.ref b24), .val (.int ((p0 &&& (2147483647 : Int32)) % (6 : Int32))), .unset, .unset]) rfl ?_
    show Steps p.tables e below (T60.setTop (mkF m 50 #[.val (.int p0), .val (.int p1), .val (.ref b24), .val (.int ((p0 &&& (2147483647 : Int32)) % (6 : Int32))), .unset, .unset] [])) t
    refine XS.iloadN X60.here hx rfl (hb hby at_50) rfl ?_
    show Steps p.tables e below (T60.setTop (mkF m 51 #[.val (.int p0), .val (.int p1), .val (.ref b24), .val (.int ((p0 &&& (2147483647 : Int32)) % (6 : Int32))), .unset, .unset] [(.int p1)])) t
    refine X60.ldcInt hx hown (mvT hZ (hw _ (List.mem_of_getElem? (i := 16) rfl))) (g := (mkF m 51 #[.val (.int p0), .val (.int p1), .val (.ref b24), .val (.int ((p0 &&& (2147483647 : Int32)) % (6 : Int32))), .unset, .unset] [(.int p1)])) rfl (hb hby at_51) _ ?_
    show Steps p.tables e below (T60.setTop (mkF m 53 #[.val (.int p0), .val (.int p1), .val (.ref b24), .val (.int ((p0 &&& (2147483647 : Int32)) % (6 : Int32))), .unset, .unset] [(.int (2147483647 : Int32)), (.int p1)])) t
    refine XS.iand X60.here hx rfl (hb hby at_53) rfl ?_
    show Steps p.tables e below (T60.setTop (mkF m 54 #[.val (.int p0), .val (.int p1), .val (.ref b24), .val (.int ((p0 &&& (2147483647 : Int32)) % (6 : Int32))), .unset, .unset] [(.int (p1 &&& (2147483647 : Int32)))])) t
    refine XS.bipush X60.here hx rfl (hb hby at_54) ?_
    show Steps p.tables e below (T60.setTop (mkF m 56 #[.val (.int p0), .val (.int p1), .val (.ref b24), .val (.int ((p0 &&& (2147483647 : Int32)) % (6 : Int32))), .unset, .unset] [(.int (6 : Int32)), (.int (p1 &&& (2147483647 : Int32)))])) t
    refine iremM X60 hx rfl (hb hby at_56) rfl (by decide) ?_
    show Steps p.tables e below (T60.setTop (mkF m 57 #[.val (.int p0), .val (.int p1), .val (.ref b24), .val (.int ((p0 &&& (2147483647 : Int32)) % (6 : Int32))), .unset, .unset] [(.int ((p1 &&& (2147483647 : Int32)) % (6 : Int32)))])) t
    refine XS.istore X60.here hx rfl (hb hby at_57) rfl (l' := #[.val (.int p0), .val (.int p1), .val (.ref b24), .val (.int ((p0 &&& (2147483647 : Int32)) % (6 : Int32))), .val (.int ((p1 &&& (2147483647 : Int32)) % (6 : Int32))), .unset]) rfl ?_
    show Steps p.tables e below (T60.setTop (mkF m 59 #[.val (.int p0), .val (.int p1), .val (.ref b24), .val (.int ((p0 &&& (2147483647 : Int32)) % (6 : Int32))), .val (.int ((p1 &&& (2147483647 : Int32)) % (6 : Int32))), .unset] [])) t
    refine XS.iloadN X60.here hx rfl (hb hby at_59) rfl ?_
    exact kk
  obtain ⟨_, _, ⟨T64, L64, k64, n64⟩, -, X64, ⟨Lc64, hQ64, l64, y64, z64⟩, st64⟩ := Jvm.LawKit.callS X60 hx (y := (⟨"com/example/indizio/indizio/core/model/RouteSourceSameProtocolPinLaw", "group", "(I)I"⟩ : MethodName)) hown (mvT hZ (hw _ (List.mem_of_getElem? (i := 17) rfl))) (mvT hZ (hw _ (List.mem_of_getElem? (i := 18) rfl))) (mvT hZ (hw _ (List.mem_of_getElem? (i := 19) rfl))) (mvT hZ (hw _ (List.mem_of_getElem? (i := 20) rfl))) (by decide) (backOf (W := 0) (rm_gr l Z a0 hw [] ((p0 &&& (2147483647 : Int32)) % (6 : Int32)) h60 n0 f62) hZ (hw _ (List.mem_of_getElem? (i := 20) rfl)) (hw _ (List.mem_of_getElem? (i := 19) rfl)) (by decide) (by decide)) (g := (mkF m 60 #[.val (.int p0), .val (.int p1), .val (.ref b24), .val (.int ((p0 &&& (2147483647 : Int32)) % (6 : Int32))), .val (.int ((p1 &&& (2147483647 : Int32)) % (6 : Int32))), .unset] [(.int ((p0 &&& (2147483647 : Int32)) % (6 : Int32)))])) rfl (by rw [hml]; rfl) (argsL := [(.int ((p0 &&& (2147483647 : Int32)) % (6 : Int32)))]) (rest := []) (lenOf pd__I_I rfl) rfl (by show 2 * 0 + _ ≤ _; exact Nat.le_of_eq rfl) (hb hby at_60) (fun _ _ => ⟨rfl, e60, (by decide : 1 + 0 ≤ _), (by decide : 6 + 0 ≤ _)⟩)
  dsimp only [Pt.U, Pt.locs, Pt.cells, Pt.slots] at X64 l64 y64 z64 st64 hQ64
  subst l64 y64 z64
  obtain ⟨rfl, Nq64, eq64⟩ := hQ64
  have N64 := Fr.app N60 Nq64
  have c65 : Goes p e below s₁ (entryFrame m #[(.int p0), (.int p1)] maxLocals) T64 (mkF m 63 #[.val (.int p0), .val (.int p1), .val (.ref b24), .val (.int ((p0 &&& (2147483647 : Int32)) % (6 : Int32))), .val (.int ((p1 &&& (2147483647 : Int32)) % (6 : Int32))), .unset] [(.int (own_g ((p0 &&& (2147483647 : Int32)) % (6 : Int32))))]) := fun t kk => c63 t (st64 t kk)
  have c66 : Goes p e below s₁ (entryFrame m #[(.int p0), (.int p1)] maxLocals) T64 (mkF m 65 #[.val (.int p0), .val (.int p1), .val (.ref b24), .val (.int ((p0 &&& (2147483647 : Int32)) % (6 : Int32))), .val (.int ((p1 &&& (2147483647 : Int32)) % (6 : Int32))), .unset] [(.int ((p1 &&& (2147483647 : Int32)) % (6 : Int32))), (.int (own_g ((p0 &&& (2147483647 : Int32)) % (6 : Int32))))]) := by
    intro t kk
    refine c65 t ?_
    show Steps p.tables e below (T64.setTop (mkF m 63 #[.val (.int p0), .val (.int p1), .val (.ref b24), .val (.int ((p0 &&& (2147483647 : Int32)) % (6 : Int32))), .val (.int ((p1 &&& (2147483647 : Int32)) % (6 : Int32))), .unset] [(.int (own_g ((p0 &&& (2147483647 : Int32)) % (6 : Int32))))])) t
    refine XS.iload X64.here hx rfl (hb hby at_63) rfl ?_
    exact kk
  obtain ⟨_, _, ⟨T67, L67, k67, n67⟩, -, X67, ⟨Lc67, hQ67, l67, y67, z67⟩, st67⟩ := Jvm.LawKit.callS X64 hx (y := (⟨"com/example/indizio/indizio/core/model/RouteSourceSameProtocolPinLaw", "group", "(I)I"⟩ : MethodName)) hown (mvT hZ (hw _ (List.mem_of_getElem? (i := 17) rfl))) (mvT hZ (hw _ (List.mem_of_getElem? (i := 18) rfl))) (mvT hZ (hw _ (List.mem_of_getElem? (i := 19) rfl))) (mvT hZ (hw _ (List.mem_of_getElem? (i := 20) rfl))) (by decide) (backOf (W := 1) (rm_gr l Z a0 hw [] ((p1 &&& (2147483647 : Int32)) % (6 : Int32)) h60 n0 f62) hZ (hw _ (List.mem_of_getElem? (i := 20) rfl)) (hw _ (List.mem_of_getElem? (i := 19) rfl)) (by decide) (by decide)) (g := (mkF m 65 #[.val (.int p0), .val (.int p1), .val (.ref b24), .val (.int ((p0 &&& (2147483647 : Int32)) % (6 : Int32))), .val (.int ((p1 &&& (2147483647 : Int32)) % (6 : Int32))), .unset] [(.int ((p1 &&& (2147483647 : Int32)) % (6 : Int32))), (.int (own_g ((p0 &&& (2147483647 : Int32)) % (6 : Int32))))])) rfl (by rw [hml]; rfl) (argsL := [(.int ((p1 &&& (2147483647 : Int32)) % (6 : Int32)))]) (rest := [(.int (own_g ((p0 &&& (2147483647 : Int32)) % (6 : Int32))))]) (lenOf pd__I_I rfl) rfl (by show 2 * 0 + _ ≤ _; exact Nat.le_of_eq rfl) (hb hby at_65) (fun _ _ => ⟨rfl, eq64, (by decide : 1 + 0 ≤ _), (by decide : 6 + 0 ≤ _)⟩)
  dsimp only [Pt.U, Pt.locs, Pt.cells, Pt.slots] at X67 l67 y67 z67 st67 hQ67
  subst l67 y67 z67
  obtain ⟨rfl, Nq67, eq67⟩ := hQ67
  have N67 := Fr.app N64 Nq67
  have c68 : Goes p e below s₁ (entryFrame m #[(.int p0), (.int p1)] maxLocals) T67 (mkF m 68 #[.val (.int p0), .val (.int p1), .val (.ref b24), .val (.int ((p0 &&& (2147483647 : Int32)) % (6 : Int32))), .val (.int ((p1 &&& (2147483647 : Int32)) % (6 : Int32))), .unset] [(.int (own_g ((p1 &&& (2147483647 : Int32)) % (6 : Int32)))), (.int (own_g ((p0 &&& (2147483647 : Int32)) % (6 : Int32))))]) := fun t kk => c66 t (st67 t kk)
  obtain ⟨ex, hm69, c69⟩ : ∃ ex : Int32, (ex = if own_g ((p0 &&& (2147483647 : Int32)) % (6 : Int32)) = own_g ((p1 &&& (2147483647 : Int32)) % (6 : Int32)) then 1 else 0) ∧ Goes p e below s₁ (entryFrame m #[(.int p0), (.int p1)] maxLocals) T67 (mkF m 76 #[.val (.int p0), .val (.int p1), .val (.ref b24), .val (.int ((p0 &&& (2147483647 : Int32)) % (6 : Int32))), .val (.int ((p1 &&& (2147483647 : Int32)) % (6 : Int32))), .unset] [(.int ex)]) := by
    by_cases h68 : (own_g ((p0 &&& (2147483647 : Int32)) % (6 : Int32))) = (own_g ((p1 &&& (2147483647 : Int32)) % (6 : Int32)))
    · have c70 : Goes p e below s₁ (entryFrame m #[(.int p0), (.int p1)] maxLocals) T67 (mkF m 76 #[.val (.int p0), .val (.int p1), .val (.ref b24), .val (.int ((p0 &&& (2147483647 : Int32)) % (6 : Int32))), .val (.int ((p1 &&& (2147483647 : Int32)) % (6 : Int32))), .unset] [(.int (1 : Int32))]) := by
        intro t kk
        refine c68 t ?_
        show Steps p.tables e below (T67.setTop (mkF m 68 #[.val (.int p0), .val (.int p1), .val (.ref b24), .val (.int ((p0 &&& (2147483647 : Int32)) % (6 : Int32))), .val (.int ((p1 &&& (2147483647 : Int32)) % (6 : Int32))), .unset] [(.int (own_g ((p1 &&& (2147483647 : Int32)) % (6 : Int32)))), (.int (own_g ((p0 &&& (2147483647 : Int32)) % (6 : Int32))))])) t
        refine XS.icmpNo X67.here hx rfl (hb hby at_68) rfl (teq h68).2 ?_
        show Steps p.tables e below (T67.setTop (mkF m 71 #[.val (.int p0), .val (.int p1), .val (.ref b24), .val (.int ((p0 &&& (2147483647 : Int32)) % (6 : Int32))), .val (.int ((p1 &&& (2147483647 : Int32)) % (6 : Int32))), .unset] [])) t
        refine XS.iconst X67.here hx rfl (hb hby at_71) ?_
        show Steps p.tables e below (T67.setTop (mkF m 72 #[.val (.int p0), .val (.int p1), .val (.ref b24), .val (.int ((p0 &&& (2147483647 : Int32)) % (6 : Int32))), .val (.int ((p1 &&& (2147483647 : Int32)) % (6 : Int32))), .unset] [(.int (1 : Int32))])) t
        refine XS.goto X67.here hx rfl (pc0 := 72) (pc' := 76) rfl (hb hby at_72) (by decide) (by decide) ?_
        exact kk
      exact ⟨(1 : Int32), (by simp [h68]), c70⟩
    · have c71 : Goes p e below s₁ (entryFrame m #[(.int p0), (.int p1)] maxLocals) T67 (mkF m 76 #[.val (.int p0), .val (.int p1), .val (.ref b24), .val (.int ((p0 &&& (2147483647 : Int32)) % (6 : Int32))), .val (.int ((p1 &&& (2147483647 : Int32)) % (6 : Int32))), .unset] [(.int (0 : Int32))]) := by
        intro t kk
        refine c68 t ?_
        show Steps p.tables e below (T67.setTop (mkF m 68 #[.val (.int p0), .val (.int p1), .val (.ref b24), .val (.int ((p0 &&& (2147483647 : Int32)) % (6 : Int32))), .val (.int ((p1 &&& (2147483647 : Int32)) % (6 : Int32))), .unset] [(.int (own_g ((p1 &&& (2147483647 : Int32)) % (6 : Int32)))), (.int (own_g ((p0 &&& (2147483647 : Int32)) % (6 : Int32))))])) t
        refine XS.icmpYes X67.here hx rfl (pc0 := 68) (pc' := 75) rfl (hb hby at_68) rfl (feq h68).2 (by decide) (by decide) ?_
        show Steps p.tables e below (T67.setTop (mkF m 75 #[.val (.int p0), .val (.int p1), .val (.ref b24), .val (.int ((p0 &&& (2147483647 : Int32)) % (6 : Int32))), .val (.int ((p1 &&& (2147483647 : Int32)) % (6 : Int32))), .unset] [])) t
        refine XS.iconst X67.here hx rfl (hb hby at_75) ?_
        exact kk
      exact ⟨(0 : Int32), (by simp [h68]), c71⟩
  obtain ⟨cl72, Ar72, q72, Sz72, Nn72, Hh72, Gg72⟩ := id V60
  have hin72 : ¬ (((p0 &&& (2147483647 : Int32)) % (6 : Int32)) < 0 ∨ cl72.slots.size ≤ (((p0 &&& (2147483647 : Int32)) % (6 : Int32))).toNatClampNeg) := inb_of Sz72 (own_in (own_range p0))
  obtain ⟨cl73, Ar73, q73, Sz73, Nn73, Hh73, Gg73⟩ := id V60
  have hin73 : ¬ (((p1 &&& (2147483647 : Int32)) % (6 : Int32)) < 0 ∨ cl73.slots.size ≤ (((p1 &&& (2147483647 : Int32)) % (6 : Int32))).toNatClampNeg) := inb_of Sz73 (own_in (own_range p1))
  have f74 := (f58.wr W60 gb24)
  have c75 : Goes p e below s₁ (entryFrame m #[(.int p0), (.int p1)] maxLocals) T67 (mkF m 85 #[.val (.int p0), .val (.int p1), .val (.ref b24), .val (.int ((p0 &&& (2147483647 : Int32)) % (6 : Int32))), .val (.int ((p1 &&& (2147483647 : Int32)) % (6 : Int32))), .val (.int ex)] [(.ref (own_src ((p1 &&& (2147483647 : Int32)) % (6 : Int32)) w0 w1 w2 w3 w4 w5)), (.ref (own_src ((p0 &&& (2147483647 : Int32)) % (6 : Int32)) w0 w1 w2 w3 w4 w5))]) := by
    intro t kk
    refine c69 t ?_
    show Steps p.tables e below (T67.setTop (mkF m 76 #[.val (.int p0), .val (.int p1), .val (.ref b24), .val (.int ((p0 &&& (2147483647 : Int32)) % (6 : Int32))), .val (.int ((p1 &&& (2147483647 : Int32)) % (6 : Int32))), .unset] [(.int ex)])) t
    refine XS.istore X67.here hx rfl (hb hby at_76) rfl (l' := #[.val (.int p0), .val (.int p1), .val (.ref b24), .val (.int ((p0 &&& (2147483647 : Int32)) % (6 : Int32))), .val (.int ((p1 &&& (2147483647 : Int32)) % (6 : Int32))), .val (.int ex)]) rfl ?_
    show Steps p.tables e below (T67.setTop (mkF m 78 #[.val (.int p0), .val (.int p1), .val (.ref b24), .val (.int ((p0 &&& (2147483647 : Int32)) % (6 : Int32))), .val (.int ((p1 &&& (2147483647 : Int32)) % (6 : Int32))), .val (.int ex)] [])) t
    refine XS.aloadN X67.here hx rfl (hb hby at_78) rfl rfl ?_
    show Steps p.tables e below (T67.setTop (mkF m 79 #[.val (.int p0), .val (.int p1), .val (.ref b24), .val (.int ((p0 &&& (2147483647 : Int32)) % (6 : Int32))), .val (.int ((p1 &&& (2147483647 : Int32)) % (6 : Int32))), .val (.int ex)] [(.ref b24)])) t
    refine XS.iloadN X67.here hx rfl (hb hby at_79) rfl ?_
    show Steps p.tables e below (T67.setTop (mkF m 80 #[.val (.int p0), .val (.int p1), .val (.ref b24), .val (.int ((p0 &&& (2147483647 : Int32)) % (6 : Int32))), .val (.int ((p1 &&& (2147483647 : Int32)) % (6 : Int32))), .val (.int ex)] [(.int ((p0 &&& (2147483647 : Int32)) % (6 : Int32))), (.ref b24)])) t
    refine X67.aaload hx (j := ((p0 &&& (2147483647 : Int32)) % (6 : Int32))) (v := (.ref (own_src ((p0 &&& (2147483647 : Int32)) % (6 : Int32)) w0 w1 w2 w3 w4 w5))) (by rw [eq67]; exact Ar72.1) (State.isArrayOf_alike hZ.alike Ar72.2.1) rfl Ar72.2.2 hin72 (Hh72.at hin72 (own_get (own_range p0) w0 w1 w2 w3 w4 w5)) (g := (mkF m 80 #[.val (.int p0), .val (.int p1), .val (.ref b24), .val (.int ((p0 &&& (2147483647 : Int32)) % (6 : Int32))), .val (.int ((p1 &&& (2147483647 : Int32)) % (6 : Int32))), .val (.int ex)] [(.int ((p0 &&& (2147483647 : Int32)) % (6 : Int32))), (.ref b24)])) rfl rfl (hb hby at_80) _ ?_
    show Steps p.tables e below (T67.setTop (mkF m 81 #[.val (.int p0), .val (.int p1), .val (.ref b24), .val (.int ((p0 &&& (2147483647 : Int32)) % (6 : Int32))), .val (.int ((p1 &&& (2147483647 : Int32)) % (6 : Int32))), .val (.int ex)] [(.ref (own_src ((p0 &&& (2147483647 : Int32)) % (6 : Int32)) w0 w1 w2 w3 w4 w5))])) t
    refine XS.aloadN X67.here hx rfl (hb hby at_81) rfl rfl ?_
    show Steps p.tables e below (T67.setTop (mkF m 82 #[.val (.int p0), .val (.int p1), .val (.ref b24), .val (.int ((p0 &&& (2147483647 : Int32)) % (6 : Int32))), .val (.int ((p1 &&& (2147483647 : Int32)) % (6 : Int32))), .val (.int ex)] [(.ref b24), (.ref (own_src ((p0 &&& (2147483647 : Int32)) % (6 : Int32)) w0 w1 w2 w3 w4 w5))])) t
    refine XS.iload X67.here hx rfl (hb hby at_82) rfl ?_
    show Steps p.tables e below (T67.setTop (mkF m 84 #[.val (.int p0), .val (.int p1), .val (.ref b24), .val (.int ((p0 &&& (2147483647 : Int32)) % (6 : Int32))), .val (.int ((p1 &&& (2147483647 : Int32)) % (6 : Int32))), .val (.int ex)] [(.int ((p1 &&& (2147483647 : Int32)) % (6 : Int32))), (.ref b24), (.ref (own_src ((p0 &&& (2147483647 : Int32)) % (6 : Int32)) w0 w1 w2 w3 w4 w5))])) t
    refine X67.aaload hx (j := ((p1 &&& (2147483647 : Int32)) % (6 : Int32))) (v := (.ref (own_src ((p1 &&& (2147483647 : Int32)) % (6 : Int32)) w0 w1 w2 w3 w4 w5))) (by rw [eq67]; exact Ar73.1) (State.isArrayOf_alike hZ.alike Ar73.2.1) rfl Ar73.2.2 hin73 (Hh73.at hin73 (own_get (own_range p1) w0 w1 w2 w3 w4 w5)) (g := (mkF m 84 #[.val (.int p0), .val (.int p1), .val (.ref b24), .val (.int ((p0 &&& (2147483647 : Int32)) % (6 : Int32))), .val (.int ((p1 &&& (2147483647 : Int32)) % (6 : Int32))), .val (.int ex)] [(.int ((p1 &&& (2147483647 : Int32)) % (6 : Int32))), (.ref b24), (.ref (own_src ((p0 &&& (2147483647 : Int32)) % (6 : Int32)) w0 w1 w2 w3 w4 w5))])) rfl rfl (hb hby at_84) _ ?_
    exact kk
  obtain ⟨cq76, kq76, q76a, q76b, q76c⟩ := isOf hZ eq67 (own_each (P := fun x y => Exa Z h60 x "com/example/indizio/indizio/core/model/RouteSource") (r0 := 0) (r1 := 0) (r2 := 0) (r3 := 0) (E_w0.ext f74.2) (E_w1.ext f74.2) (E_w2.ext f74.2) (E_w3.ext f74.2) (E_w4.ext f74.2) (E_w5.ext f74.2) (own_range p0))
  obtain ⟨_, _, ⟨T76, L76, k76, n76⟩, -, X76, ⟨Lc76, hQ76, l76, y76, z76⟩, st76⟩ := X67.virtualBack hx (y := (⟨"com/example/indizio/indizio/core/model/RouteSource", "sameProtocol", "(Lcom/example/indizio/indizio/core/model/RouteSource;)Z"⟩ : MethodName)) (z := (⟨"com/example/indizio/indizio/core/model/RouteSource", "sameProtocol", "(Lcom/example/indizio/indizio/core/model/RouteSource;)Z"⟩ : MethodName)) hown (mvT hZ (hw _ (List.mem_of_getElem? (i := 21) rfl))) (mvT hZ (hw _ (List.mem_of_getElem? (i := 22) rfl))) (notFace_of_selects (args := #[]) (mvT hZ (hw _ (List.mem_of_getElem? (i := 24) rfl)))) (mvT hZ (hw _ (List.mem_of_getElem? (i := 24) rfl))) (mvT hZ (hw _ (List.mem_of_getElem? (i := 23) rfl))) (by decide) (backOf (W := 0) (rm_sp l Z a0 hw [] (own_src ((p0 &&& (2147483647 : Int32)) % (6 : Int32)) w0 w1 w2 w3 w4 w5) (own_src ((p1 &&& (2147483647 : Int32)) % (6 : Int32)) w0 w1 w2 w3 w4 w5) (own_pr ((p0 &&& (2147483647 : Int32)) % (6 : Int32)) r0 r1 r2 r3) (own_pr ((p1 &&& (2147483647 : Int32)) % (6 : Int32)) r0 r1 r2 r3) h60 n0 f62 (own_each (P := fun x y => Fld Z h60 x "com/example/indizio/indizio/core/model/RouteSource" "protocol" "Lcom/example/indizio/indizio/core/RouteProtocol;" (.ref y)) (F_w0.ext f74.2) (F_w1.ext f74.2) (F_w2.ext f74.2) (F_w3.ext f74.2) (F_w4.ext f74.2) (F_w5.ext f74.2) (own_range p0)) (own_each (P := fun x y => Fld Z h60 x "com/example/indizio/indizio/core/model/RouteSource" "protocol" "Lcom/example/indizio/indizio/core/RouteProtocol;" (.ref y)) (F_w0.ext f74.2) (F_w1.ext f74.2) (F_w2.ext f74.2) (F_w3.ext f74.2) (F_w4.ext f74.2) (F_w5.ext f74.2) (own_range p1))) hZ (hw _ (List.mem_of_getElem? (i := 25) rfl)) (hw _ (List.mem_of_getElem? (i := 3) rfl)) (by decide) (by decide)) q76a q76c (g := (mkF m 85 #[.val (.int p0), .val (.int p1), .val (.ref b24), .val (.int ((p0 &&& (2147483647 : Int32)) % (6 : Int32))), .val (.int ((p1 &&& (2147483647 : Int32)) % (6 : Int32))), .val (.int ex)] [(.ref (own_src ((p1 &&& (2147483647 : Int32)) % (6 : Int32)) w0 w1 w2 w3 w4 w5)), (.ref (own_src ((p0 &&& (2147483647 : Int32)) % (6 : Int32)) w0 w1 w2 w3 w4 w5))])) rfl (by rw [hml]; rfl) (Steps.refl _) (argsL := [(.ref (own_src ((p1 &&& (2147483647 : Int32)) % (6 : Int32)) w0 w1 w2 w3 w4 w5))]) (rest := []) (lenOf pd__Lcom_example_indizio_indizio_core_model_RouteSource__Z rfl) rfl (by show 2 * 0 + _ ≤ _; exact Nat.le_of_eq rfl) (hb hby at_85) (fun _ _ => ⟨rfl, eq67, (by decide : 1 + 0 ≤ _), (by decide : 6 + 0 ≤ _)⟩)
  dsimp only [Pt.U, Pt.locs, Pt.cells, Pt.slots] at X76 l76 y76 z76 st76 hQ76
  subst l76 y76 z76
  obtain ⟨rfl, Nq76, eq76⟩ := hQ76
  have N76 := Fr.app N67 Nq76
  have c77 : Goes p e below s₁ (entryFrame m #[(.int p0), (.int p1)] maxLocals) T76 (mkF m 88 #[.val (.int p0), .val (.int p1), .val (.ref b24), .val (.int ((p0 &&& (2147483647 : Int32)) % (6 : Int32))), .val (.int ((p1 &&& (2147483647 : Int32)) % (6 : Int32))), .val (.int ex)] [(.int (own_eq (own_pr ((p0 &&& (2147483647 : Int32)) % (6 : Int32)) r0 r1 r2 r3) (own_pr ((p1 &&& (2147483647 : Int32)) % (6 : Int32)) r0 r1 r2 r3)))]) := fun t kk => c75 t (st76.trans kk)
  have c78 : Goes p e below s₁ (entryFrame m #[(.int p0), (.int p1)] maxLocals) T76 (mkF m 98 #[.val (.int p0), .val (.int p1), .val (.ref b24), .val (.int ((p0 &&& (2147483647 : Int32)) % (6 : Int32))), .val (.int ((p1 &&& (2147483647 : Int32)) % (6 : Int32))), .val (.int ex)] [(.int (1 : Int32))]) := by
    intro t kk
    refine c77 t ?_
    show Steps p.tables e below (T76.setTop (mkF m 88 #[.val (.int p0), .val (.int p1), .val (.ref b24), .val (.int ((p0 &&& (2147483647 : Int32)) % (6 : Int32))), .val (.int ((p1 &&& (2147483647 : Int32)) % (6 : Int32))), .val (.int ex)] [(.int (own_eq (own_pr ((p0 &&& (2147483647 : Int32)) % (6 : Int32)) r0 r1 r2 r3) (own_pr ((p1 &&& (2147483647 : Int32)) % (6 : Int32)) r0 r1 r2 r3)))])) t
    refine XS.iload X76.here hx rfl (hb hby at_88) rfl ?_
    show Steps p.tables e below (T76.setTop (mkF m 90 #[.val (.int p0), .val (.int p1), .val (.ref b24), .val (.int ((p0 &&& (2147483647 : Int32)) % (6 : Int32))), .val (.int ((p1 &&& (2147483647 : Int32)) % (6 : Int32))), .val (.int ex)] [(.int ex), (.int (own_eq (own_pr ((p0 &&& (2147483647 : Int32)) % (6 : Int32)) r0 r1 r2 r3) (own_pr ((p1 &&& (2147483647 : Int32)) % (6 : Int32)) r0 r1 r2 r3)))])) t
    refine XS.icmpNo X76.here hx rfl (hb hby at_90) rfl (teq (by rw [hm69]; simp only [own_eq, own_same d01 d02 d03 d12 d13 d23])).2 ?_
    show Steps p.tables e below (T76.setTop (mkF m 93 #[.val (.int p0), .val (.int p1), .val (.ref b24), .val (.int ((p0 &&& (2147483647 : Int32)) % (6 : Int32))), .val (.int ((p1 &&& (2147483647 : Int32)) % (6 : Int32))), .val (.int ex)] [])) t
    refine XS.iconst X76.here hx rfl (hb hby at_93) ?_
    show Steps p.tables e below (T76.setTop (mkF m 94 #[.val (.int p0), .val (.int p1), .val (.ref b24), .val (.int ((p0 &&& (2147483647 : Int32)) % (6 : Int32))), .val (.int ((p1 &&& (2147483647 : Int32)) % (6 : Int32))), .val (.int ex)] [(.int (1 : Int32))])) t
    refine XS.goto X76.here hx rfl (pc0 := 94) (pc' := 98) rfl (hb hby at_94) (by decide) (by decide) ?_
    exact kk
  obtain ⟨fs, hr, hrun, hended, hW, hsame⟩ := X76.leave (v := some (.int (1 : Int32))) (fun h => by rw [Bd.returns] at h; cases h)
  refine ⟨_, _, c78 _ ?_, hrun, hended, _, _, rfl, ?_, ⟨_, rfl⟩, hW, hsame.mono (by decide) (by decide)⟩
  · exact retN X76 hx (t := .boolean) Bd.returns (by simp) (hb hby at_98) hr
  · show Q_law Z p0 p1 w0 w1 w2 w3 w4 w5 r0 r1 r2 r3 h0 n0 _ T76.heap _
    rw [eq76]
    exact ⟨rfl, N76⟩
set_option maxRecDepth 65536 in
set_option maxHeartbeats 40000000 in
theorem comes_1 {Post : Tables → Env → Array Value → State → Outcome → State → Prop} (hpost : ∀ tb e args s v u, (limb_1_1.after args s (.returned v) u = true ∧ limb_1_2.after args s (.returned v) u = true ∧ True) → FrameEnd s (.returned v) u (Jvm.fieldLocs frame_1_writes args s ++ Jvm.arrayLocs frame_1_arrays args s ++ Jvm.staticLocs frame_1_statics s) 16 128 → Post tb e args s (.returned v) u) :
    ArmFor flags0 classFile x code maxLocals ret World_1 tables_1 room_1 Calls_1 rest_1 Pre_1 Post := by
  intro l hfl _ _ p e ha hc hk s m args below hf hA hF happ hP
  obtain ⟨hcalls, hrest, hpre⟩ := hP
  obtain ⟨-, -, -, hnamed, -, -, -, hat⟩ := (Spec.applies_iff hf).mp happ
  obtain ⟨hg, hn⟩ := and_e (Cond.before_iff.mp (show (Jvm.Cond.and given_1 narrow_1).before args s = true from hpre))
  obtain ⟨gg1, gg2⟩ := and_e hg
  obtain ⟨gg3, gg4⟩ := and_e gg2
  obtain ⟨w0, w1, rfl⟩ : ∃ w0 w1 : Value, args = #[w0, w1] := by
    have hs : args.size = 2 := by simpa [Cond.value, given_1] using gg1
    obtain ⟨L⟩ := args
    match L, hs with
    | [w0, w1], _ => exact ⟨w0, w1, rfl⟩
  have hw := fun d (hd : d ∈ tables_1) => atoms_spec (ws := Jvm.Cond.code x code maxLocals ret :: tables_1) hat d (List.mem_cons_of_mem _ hd)
  have hfit : Fit s := fun {y c} hc i hi => by
    obtain ⟨ha, rfl⟩ := Array.getElem?_eq_some_iff.mp hc
    have q := List.all_eq_true.mp ((Array.all_eq_true_iff_forall_mem.mp hF) _ (Array.getElem_mem ha)) i (List.mem_range.mpr hi)
    simpa [Array.getElem?_eq_getElem hi] using q
  obtain ⟨i0, ei0⟩ := is_v gg3
  obtain rfl : w0 = (.int i0) := Option.some.inj ei0
  obtain ⟨i1, ei1⟩ := is_v gg4
  obtain rfl : w1 = (.int i1) := Option.some.inj ei1
  obtain ⟨nn1, nn2⟩ := and_e hn
  obtain ⟨nn3, nn4⟩ := and_e nn2
  obtain ⟨nn5, nn6⟩ := and_e nn4
  obtain ⟨nn7, nn8⟩ := and_e nn6
  obtain ⟨nn9, nn10⟩ := and_e nn8
  obtain ⟨nn11, nn12⟩ := and_e nn10
  obtain ⟨nn13, nn14⟩ := and_e nn12
  obtain ⟨nn15, nn16⟩ := and_e nn14
  obtain ⟨nn17, nn18⟩ := and_e nn16
  obtain ⟨nn19, nn20⟩ := and_e nn18
  obtain ⟨nn21, nn22⟩ := and_e nn20
  obtain ⟨nn23, nn24⟩ := and_e nn22
  obtain ⟨nn25, nn26⟩ := and_e nn24
  obtain ⟨nn27, nn28⟩ := and_e nn26
  obtain ⟨nn29, nn30⟩ := and_e nn28
  obtain ⟨nn31, nn32⟩ := and_e nn30
  obtain ⟨nn33, nn34⟩ := and_e nn32
  obtain ⟨nn35, nn36⟩ := and_e nn34
  obtain ⟨nn37, nn38⟩ := and_e nn36
  obtain ⟨w0, v_w0⟩ := exa_v nn1
  have E_w0 := Exa.start v_w0 nn1
  have S_w0 := Sta.start v_w0 (Or.inr ⟨hw _ (List.mem_of_getElem? (i := 3) rfl), hw _ (List.mem_of_getElem? (i := 4) rfl)⟩)
  obtain ⟨w1, v_w1⟩ := exa_v nn3
  have E_w1 := Exa.start v_w1 nn3
  have S_w1 := Sta.start v_w1 (Or.inr ⟨hw _ (List.mem_of_getElem? (i := 3) rfl), hw _ (List.mem_of_getElem? (i := 7) rfl)⟩)
  obtain ⟨w2, v_w2⟩ := exa_v nn5
  have E_w2 := Exa.start v_w2 nn5
  have S_w2 := Sta.start v_w2 (Or.inr ⟨hw _ (List.mem_of_getElem? (i := 3) rfl), hw _ (List.mem_of_getElem? (i := 9) rfl)⟩)
  obtain ⟨w3, v_w3⟩ := exa_v nn7
  have E_w3 := Exa.start v_w3 nn7
  have S_w3 := Sta.start v_w3 (Or.inr ⟨hw _ (List.mem_of_getElem? (i := 3) rfl), hw _ (List.mem_of_getElem? (i := 11) rfl)⟩)
  obtain ⟨w4, v_w4⟩ := exa_v nn9
  have E_w4 := Exa.start v_w4 nn9
  have S_w4 := Sta.start v_w4 (Or.inr ⟨hw _ (List.mem_of_getElem? (i := 3) rfl), hw _ (List.mem_of_getElem? (i := 13) rfl)⟩)
  obtain ⟨w5, v_w5⟩ := exa_v nn11
  have E_w5 := Exa.start v_w5 nn11
  have S_w5 := Sta.start v_w5 (Or.inr ⟨hw _ (List.mem_of_getElem? (i := 3) rfl), hw _ (List.mem_of_getElem? (i := 15) rfl)⟩)
  obtain ⟨r0, v_r0⟩ := exa_v nn13
  have D_r0 := own_fldI v_r0 nn21
  obtain ⟨r1, v_r1⟩ := exa_v nn29
  have D_r1 := own_fldI v_r1 nn35
  obtain ⟨r2, v_r2⟩ := exa_v nn25
  have D_r2 := own_fldI v_r2 nn33
  obtain ⟨r3, v_r3⟩ := exa_v nn17
  have D_r3 := own_fldI v_r3 nn23
  have F_w0 := own_fldR v_w0 v_r0 nn15
  have F_w1 := own_fldR v_w1 v_r1 nn31
  have F_w2 := own_fldR v_w2 v_r2 nn27
  have F_w3 := own_fldR v_w3 v_r3 nn19
  have F_w4 := own_fldR v_w4 v_r3 nn38
  have F_w5 := own_fldR v_w5 v_r2 nn37
  obtain ⟨n, o, h1, h2, h3, _, L, rfl, ⟨rfl, N⟩, hq⟩ := rm_law l s _ hw tables_1 i0 i1 w0 w1 w2 w3 w4 w5 r0 r1 r2 r3 s.heap s.heap.size (Nat.le_refl _) (Old.start s) S_w0 S_w1 S_w2 S_w3 S_w4 S_w5 E_w0 E_w1 E_w2 E_w3 E_w4 E_w5 F_w0 F_w1 F_w2 F_w3 F_w4 F_w5 (D_r0.ne D_r1 (by decide)) (D_r0.ne D_r2 (by decide)) (D_r0.ne D_r3 (by decide)) (D_r1.ne D_r2 (by decide)) (D_r1.ne D_r3 (by decide)) (D_r2.ne D_r3 (by decide)) p e ha hc hk s m _ below hf ((Spec.applies_iff_loose hf).mp happ).1 ⟨rfl, State.Warmed39.refl s, rfl⟩ trivial
  refine ⟨n, _, h1, h2, h3, hpost _ _ _ _ _ _ ⟨Cond.after_iff.mpr rfl, Cond.after_iff.mpr (eq_i res_at (Term.int_eval (1)) rfl), trivial⟩ ⟨hq.1, hq.2.1, (hq.2.2.sift fun y hy => Or.inr (N y hy)).mono (by decide) (by decide)⟩⟩
theorem main_1_1 : Claimed_1_1 := comes_1 fun _ _ _ _ _ _ h hF => ⟨h.1, hF⟩
theorem main_1_2 : Claimed_1_2 := comes_1 fun _ _ _ _ _ _ h hF => ⟨h.2.1, hF⟩
end Jvm.Pilot.@@N@@
namespace Jvm.Pilot.@@N@@
open Jvm Jvm.ClassFile Sem Op Lib Jvm.Free Jvm.Stand Jvm.Pilot.@@N@@.Jvm.D
/-! MADE BY PROGRAM (witnessworld.py) out of the Statement's table words and the real class files: 14 classes; the members and pool entries that the words name. The judged class is class 1, her method 2. -/
namespace start1
open Jvm.ClassFile
def u (s : String) : CpInfo := .utf8 (stringToUtf16 s)
/-- a pool by its gaps: so many unusable entries, then the entry; so many at the end -/
def gap : Nat → List CpInfo → List CpInfo
  | 0, r => r
  | n + 1, r => .unusable :: gap n r
def poolList (es : List (Nat × CpInfo)) (last : Nat) : List CpInfo := es.foldr (fun e r => gap e.1 (e.2 :: r)) (gap last [])
def pool (es : List (Nat × CpInfo)) (last : Nat) : Array CpInfo := ⟨poolList es last⟩
def fileOf (pool : Array CpInfo) (this : Nat) (attrs : Array Attribute := #[]) (ms : Array MethodInfo := #[]) (fl : Nat := 33) (sup : Nat := 0) (ifs : Array Nat := #[]) (fds : Array FieldInfo := #[]) : ClassFile where
  minorVersion := 0
  majorVersion := 65
  constantPool := pool
  accessFlags := fl
  thisClass := this
  superClass := sup
  interfaces := ifs
  fields := fds
  methods := ms
  attributes := attrs
def plain (name : String) (sup : Option ClassId) : Class where
  name := name
  kind := .ordinary
  loader := none
  accessFlags := 33
  super := sup
  interfaces := #[]
  cf := none
  fields := #[]
  methods := #[]
  instanceTypes := #[]
  staticTypes := #[]
  resolved := #[]
  callSites := []
  init := .initialized
  statics := none
  mirror := none

def pool0 : Array CpInfo := pool [(5, u "<init>"), (0, u "()V"), (1, .class_ 10), (1, u "java/lang/Object")] 113

def k0m0 : Method := { name := "<init>", desc := "()V", sig := { parameters := [], returnType := none }, accessFlags := 1, code := none }
/-- java/lang/Object -/
def k0 : Class := { plain "java/lang/Object" none with
  accessFlags := 33
  interfaces := #[]
  cf := some (fileOf pool0 8 #[] #[{ accessFlags := 1, nameIndex := 5, descriptorIndex := 6, attributes := #[] }] 33 0 #[] #[])
  fields := #[]
  methods := #[k0m0]
  instanceTypes := #[]
  staticTypes := #[]
  resolved := Array.replicate 124 none
  statics := none }

def pool1 : Array CpInfo := pool [(2, .class_ 4), (1, u "java/lang/Object"), (0, u "<init>"), (0, u "()V"), (0, .class_ 8), (0, u "com/example/indizio/indizio/core/model/RouteSource"), (0, .fieldref 7 10), (0, .nameAndType 11 12), (0, u "CONNECTED"), (0, u "Lcom/example/indizio/indizio/core/model/RouteSource;"), (0, .fieldref 7 14), (0, .nameAndType 15 12), (0, u "STATIC"), (0, .fieldref 7 17), (0, .nameAndType 18 12), (0, u "EBGP"), (0, .fieldref 7 20), (0, .nameAndType 21 12), (0, u "OSPF_INTERNAL"), (0, .fieldref 7 23), (0, .nameAndType 24 12), (0, u "OSPF_EXTERNAL"), (0, .fieldref 7 26), (0, .nameAndType 27 12), (0, u "IBGP"), (0, .integer 2147483647), (0, .methodref 30 31), (0, .class_ 32), (0, .nameAndType 33 34), (0, u "com/example/indizio/indizio/core/model/RouteSourceSameProtocolPinLaw"), (0, u "group"), (0, u "(I)I"), (0, .methodref 7 36), (0, .nameAndType 37 38), (0, u "sameProtocol"), (0, u "(Lcom/example/indizio/indizio/core/model/RouteSource;)Z"), (3, u "law"), (0, u "(II)Z")] 4

def k1m0 : Method := { name := "<init>", desc := "()V", sig := { parameters := [], returnType := none }, accessFlags := 2, code := none }
def k1c1 : Code := { maxStack := 2, maxLocals := 1, code := method_2_code, exceptionTable := #[], attributes := #[] }
def k1m1 : Method := { name := "group", desc := "(I)I", sig := { parameters := [.int], returnType := some .int }, accessFlags := 10, code := some k1c1 }
def k1c2 : Code := { maxStack := 4, maxLocals := 6, code := code, exceptionTable := #[], attributes := #[] }
def k1m2 : Method := { name := "law", desc := "(II)Z", sig := { parameters := [.int, .int], returnType := some .boolean }, accessFlags := 9, code := some k1c2 }
/-- com/example/indizio/indizio/core/model/RouteSourceSameProtocolPinLaw -/
def k1 : Class := { plain "com/example/indizio/indizio/core/model/RouteSourceSameProtocolPinLaw" (some 0) with
  accessFlags := 49
  interfaces := #[]
  cf := some (fileOf pool1 30 #[] #[{ accessFlags := 2, nameIndex := 5, descriptorIndex := 6, attributes := #[] }, { accessFlags := 10, nameIndex := 33, descriptorIndex := 34, attributes := #[] }, { accessFlags := 9, nameIndex := 42, descriptorIndex := 43, attributes := #[] }] 49 2 #[] #[])
  fields := #[]
  methods := #[k1m0, k1m1, k1m2]
  instanceTypes := #[]
  staticTypes := #[]
  resolved := Array.replicate 48 none
  statics := none }

def pool2 : Array CpInfo := pool [(1, .class_ 2), (0, u "java/lang/constant/Constable"), (0, .class_ 4), (0, u "java/lang/Object")] 6

/-- java/lang/constant/Constable -/
def k2 : Class := { plain "java/lang/constant/Constable" (some 0) with
  accessFlags := 1537
  interfaces := #[]
  cf := some (fileOf pool2 1 #[] #[] 1537 3 #[] #[])
  fields := #[]
  methods := #[]
  instanceTypes := #[]
  staticTypes := #[]
  resolved := Array.replicate 11 none
  statics := none }

def pool3 : Array CpInfo := pool [(1, .class_ 2), (0, u "java/lang/Comparable"), (0, .class_ 4), (0, u "java/lang/Object")] 7

/-- java/lang/Comparable -/
def k3 : Class := { plain "java/lang/Comparable" (some 0) with
  accessFlags := 1537
  interfaces := #[]
  cf := some (fileOf pool3 1 #[] #[] 1537 3 #[] #[])
  fields := #[]
  methods := #[]
  instanceTypes := #[]
  staticTypes := #[]
  resolved := Array.replicate 12 none
  statics := none }

def pool4 : Array CpInfo := pool [(1, .class_ 2), (0, u "java/io/Serializable"), (0, .class_ 4), (0, u "java/lang/Object")] 2

/-- java/io/Serializable -/
def k4 : Class := { plain "java/io/Serializable" (some 0) with
  accessFlags := 1537
  interfaces := #[]
  cf := some (fileOf pool4 1 #[] #[] 1537 3 #[] #[])
  fields := #[]
  methods := #[]
  instanceTypes := #[]
  staticTypes := #[]
  resolved := Array.replicate 7 none
  statics := none }

def pool5 : Array CpInfo := pool [(2, .class_ 4), (1, u "java/lang/Enum"), (0, u "name"), (0, u "Ljava/lang/String;"), (2, u "ordinal"), (0, u "I"), (1, .class_ 14), (1, u "java/lang/Object"), (4, u "hash"), (86, .class_ 108), (1, u "java/lang/Enum$EnumDesc"), (2, .class_ 112), (0, u "java/lang/constant/Constable"), (0, .class_ 114), (0, u "java/lang/Comparable"), (0, .class_ 116), (0, u "java/io/Serializable")] 87

/-- java/lang/Enum -/
def k5 : Class := { plain "java/lang/Enum" (some 0) with
  accessFlags := 1057
  interfaces := #[2, 3, 4]
  cf := some (fileOf pool5 2 #[.nestMembers #[106]] #[] 1057 12 #[111, 113, 115] #[{ accessFlags := 18, nameIndex := 5, descriptorIndex := 6, attributes := #[] }, { accessFlags := 18, nameIndex := 9, descriptorIndex := 10, attributes := #[] }, { accessFlags := 2, nameIndex := 19, descriptorIndex := 10, attributes := #[] }])
  fields := #[{ name := "name", type := (.object "java/lang/String"), accessFlags := 18, slot := 0, constantValue := 0 }, { name := "ordinal", type := .int, accessFlags := 18, slot := 1, constantValue := 0 }, { name := "hash", type := .int, accessFlags := 2, slot := 2, constantValue := 0 }]
  methods := #[]
  instanceTypes := #[(.object "java/lang/String"), .int, .int]
  staticTypes := #[]
  resolved := Array.replicate 204 none
  statics := none }

def pool6 : Array CpInfo := pool [(1, .class_ 2), (0, u "com/example/indizio/indizio/core/model/RouteSource"), (2, u "CONNECTED"), (0, u "Lcom/example/indizio/indizio/core/model/RouteSource;"), (2, u "STATIC"), (2, u "EBGP"), (2, u "OSPF_INTERNAL"), (2, u "OSPF_EXTERNAL"), (2, u "IBGP"), (2, u "$VALUES"), (0, u "[Lcom/example/indizio/indizio/core/model/RouteSource;"), (6, .class_ 34), (1, u "java/lang/Enum"), (8, u "word"), (0, u "Ljava/lang/String;"), (0, .fieldref 1 46), (0, .nameAndType 47 48), (0, u "protocol"), (0, u "Lcom/example/indizio/indizio/core/RouteProtocol;"), (45, u "sameProtocol"), (0, u "(Lcom/example/indizio/indizio/core/model/RouteSource;)Z")] 6

def k6c0 : Code := { maxStack := 2, maxLocals := 2, code := prog_60_method_5_code, exceptionTable := #[], attributes := #[] }
def k6m0 : Method := { name := "sameProtocol", desc := "(Lcom/example/indizio/indizio/core/model/RouteSource;)Z", sig := { parameters := [(.object "com/example/indizio/indizio/core/model/RouteSource")], returnType := some .boolean }, accessFlags := 1, code := some k6c0 }
/-- com/example/indizio/indizio/core/model/RouteSource -/
def k6 : Class := { plain "com/example/indizio/indizio/core/model/RouteSource" (some 5) with
  accessFlags := 16433
  interfaces := #[]
  cf := some (fileOf pool6 1 #[] #[{ accessFlags := 1, nameIndex := 94, descriptorIndex := 95, attributes := #[] }] 16433 32 #[] #[{ accessFlags := 16409, nameIndex := 5, descriptorIndex := 6, attributes := #[] }, { accessFlags := 16409, nameIndex := 9, descriptorIndex := 6, attributes := #[] }, { accessFlags := 16409, nameIndex := 12, descriptorIndex := 6, attributes := #[] }, { accessFlags := 16409, nameIndex := 15, descriptorIndex := 6, attributes := #[] }, { accessFlags := 16409, nameIndex := 18, descriptorIndex := 6, attributes := #[] }, { accessFlags := 16409, nameIndex := 21, descriptorIndex := 6, attributes := #[] }, { accessFlags := 18, nameIndex := 43, descriptorIndex := 44, attributes := #[] }, { accessFlags := 18, nameIndex := 47, descriptorIndex := 48, attributes := #[] }, { accessFlags := 4122, nameIndex := 24, descriptorIndex := 25, attributes := #[] }])
  fields := #[{ name := "CONNECTED", type := (.object "com/example/indizio/indizio/core/model/RouteSource"), accessFlags := 16409, slot := 0, constantValue := 0 }, { name := "STATIC", type := (.object "com/example/indizio/indizio/core/model/RouteSource"), accessFlags := 16409, slot := 1, constantValue := 0 }, { name := "EBGP", type := (.object "com/example/indizio/indizio/core/model/RouteSource"), accessFlags := 16409, slot := 2, constantValue := 0 }, { name := "OSPF_INTERNAL", type := (.object "com/example/indizio/indizio/core/model/RouteSource"), accessFlags := 16409, slot := 3, constantValue := 0 }, { name := "OSPF_EXTERNAL", type := (.object "com/example/indizio/indizio/core/model/RouteSource"), accessFlags := 16409, slot := 4, constantValue := 0 }, { name := "IBGP", type := (.object "com/example/indizio/indizio/core/model/RouteSource"), accessFlags := 16409, slot := 5, constantValue := 0 }, { name := "word", type := (.object "java/lang/String"), accessFlags := 18, slot := 3, constantValue := 0 }, { name := "protocol", type := (.object "com/example/indizio/indizio/core/RouteProtocol"), accessFlags := 18, slot := 4, constantValue := 0 }, { name := "$VALUES", type := (.array (.object "com/example/indizio/indizio/core/model/RouteSource")), accessFlags := 4122, slot := 6, constantValue := 0 }]
  methods := #[k6m0]
  instanceTypes := #[(.object "java/lang/String"), .int, .int, (.object "java/lang/String"), (.object "com/example/indizio/indizio/core/RouteProtocol")]
  staticTypes := #[(.object "com/example/indizio/indizio/core/model/RouteSource"), (.object "com/example/indizio/indizio/core/model/RouteSource"), (.object "com/example/indizio/indizio/core/model/RouteSource"), (.object "com/example/indizio/indizio/core/model/RouteSource"), (.object "com/example/indizio/indizio/core/model/RouteSource"), (.object "com/example/indizio/indizio/core/model/RouteSource"), (.array (.object "com/example/indizio/indizio/core/model/RouteSource"))]
  resolved := Array.replicate 102 none
  statics := some 0 }

def pool7 : Array CpInfo := pool [(1, .class_ 2), (0, u "com/example/indizio/indizio/core/RouteProtocol"), (2, u "BGP"), (0, u "Lcom/example/indizio/indizio/core/RouteProtocol;"), (2, u "STATIC"), (2, u "CONNECTED"), (2, u "OSPF"), (2, u "$VALUES"), (0, u "[Lcom/example/indizio/indizio/core/RouteProtocol;"), (6, .class_ 28), (1, u "java/lang/Enum"), (8, u "word"), (0, u "Ljava/lang/String;")] 32

/-- com/example/indizio/indizio/core/RouteProtocol -/
def k7 : Class := { plain "com/example/indizio/indizio/core/RouteProtocol" (some 5) with
  accessFlags := 16433
  interfaces := #[]
  cf := some (fileOf pool7 1 #[] #[] 16433 26 #[] #[{ accessFlags := 16409, nameIndex := 5, descriptorIndex := 6, attributes := #[] }, { accessFlags := 16409, nameIndex := 9, descriptorIndex := 6, attributes := #[] }, { accessFlags := 16409, nameIndex := 12, descriptorIndex := 6, attributes := #[] }, { accessFlags := 16409, nameIndex := 15, descriptorIndex := 6, attributes := #[] }, { accessFlags := 18, nameIndex := 37, descriptorIndex := 38, attributes := #[] }, { accessFlags := 4122, nameIndex := 18, descriptorIndex := 19, attributes := #[] }])
  fields := #[{ name := "BGP", type := (.object "com/example/indizio/indizio/core/RouteProtocol"), accessFlags := 16409, slot := 0, constantValue := 0 }, { name := "STATIC", type := (.object "com/example/indizio/indizio/core/RouteProtocol"), accessFlags := 16409, slot := 1, constantValue := 0 }, { name := "CONNECTED", type := (.object "com/example/indizio/indizio/core/RouteProtocol"), accessFlags := 16409, slot := 2, constantValue := 0 }, { name := "OSPF", type := (.object "com/example/indizio/indizio/core/RouteProtocol"), accessFlags := 16409, slot := 3, constantValue := 0 }, { name := "word", type := (.object "java/lang/String"), accessFlags := 18, slot := 3, constantValue := 0 }, { name := "$VALUES", type := (.array (.object "com/example/indizio/indizio/core/RouteProtocol")), accessFlags := 4122, slot := 4, constantValue := 0 }]
  methods := #[]
  instanceTypes := #[(.object "java/lang/String"), .int, .int, (.object "java/lang/String")]
  staticTypes := #[(.object "com/example/indizio/indizio/core/RouteProtocol"), (.object "com/example/indizio/indizio/core/RouteProtocol"), (.object "com/example/indizio/indizio/core/RouteProtocol"), (.object "com/example/indizio/indizio/core/RouteProtocol"), (.array (.object "com/example/indizio/indizio/core/RouteProtocol"))]
  resolved := Array.replicate 71 none
  statics := some 1 }

def pool8 : Array CpInfo := pool [(1, u "java/lang/Cloneable"), (0, .class_ 1), (0, u "java/lang/Object"), (0, .class_ 3)] 3

/-- java/lang/Cloneable -/
def k8 : Class := { plain "java/lang/Cloneable" (some 0) with
  accessFlags := 1537
  interfaces := #[]
  cf := some (fileOf pool8 2 #[] #[] 1537 4 #[] #[])
  fields := #[]
  methods := #[]
  instanceTypes := #[]
  staticTypes := #[]
  resolved := Array.replicate 8 none
  statics := none }

/-- the primitive byte -/
def k9 : Class := { plain "byte" none with kind := .primitive 'B', accessFlags := 0x411 }
/-- [B -/
def k10 : Class := { plain "[B" (some 0) with kind := .array 9 .byte, interfaces := #[8, 4], accessFlags := 1041 }

/-- the primitive int -/
def k11 : Class := { plain "int" none with kind := .primitive 'I', accessFlags := 0x411 }
/-- [I -/
def k12 : Class := { plain "[I" (some 0) with kind := .array 11 .int, interfaces := #[8, 4], accessFlags := 1041 }

/-- [Lcom/example/indizio/indizio/core/model/RouteSource; -/
def k13 : Class := { plain "[Lcom/example/indizio/indizio/core/model/RouteSource;" (some 0) with kind := .array 6 (.object "com/example/indizio/indizio/core/model/RouteSource"), interfaces := #[8, 4], accessFlags := 1041 }

def heap : Heap := #[{ cls := 6, slots := #[.ref 6, .ref 7, .ref 8, .ref 9, .ref 10, .ref 11, .null], vm := .statics 6 },
  { cls := 7, slots := #[.ref 2, .ref 3, .ref 4, .ref 5, .null], vm := .statics 7 },
  { cls := 7, slots := #[.null, .int 0, .int 0, .null], vm := .none },
  { cls := 7, slots := #[.null, .int 1, .int 0, .null], vm := .none },
  { cls := 7, slots := #[.null, .int 2, .int 0, .null], vm := .none },
  { cls := 7, slots := #[.null, .int 3, .int 0, .null], vm := .none },
  { cls := 6, slots := #[.null, .int 0, .int 0, .null, .ref 4], vm := .none },
  { cls := 6, slots := #[.null, .int 1, .int 0, .null, .ref 3], vm := .none },
  { cls := 6, slots := #[.null, .int 2, .int 0, .null, .ref 2], vm := .none },
  { cls := 6, slots := #[.null, .int 3, .int 0, .null, .ref 5], vm := .none },
  { cls := 6, slots := #[.null, .int 4, .int 0, .null, .ref 5], vm := .none },
  { cls := 6, slots := #[.null, .int 5, .int 0, .null, .ref 2], vm := .none }]
def classes : Array Class := #[k0, k1, k2, k3, k4, k5, k6, k7, k8, k9, k10, k11, k12, k13]
def interned : List (Array UInt16 × Addr) := []
def slotsUsed : Nat := 58
def theMethod : MethodId := ⟨1, 2⟩
def args0 : Array Value := #[.int 9, .int 4]
def aboutOver (below : List Frame) : State where
  vm := { classes := classes, interned := interned.toArray }
  heap := heap
  slotsUsed := slotsUsed
  threads := #[{ frames := .invoking theMethod args0 :: below }]
def below0 : List Frame := [.native { method := ⟨0, 0⟩, args := #[] }]
def about1 : State := aboutOver below0
def p0 : Program := .bare "" "" ""
def e0 : Env := launch0.env 0 0 0
theorem w_frames : about1.frames = Frame.invoking theMethod args0 :: below0 := rfl
set_option maxRecDepth 65536 in
theorem w_args : argsFit about1.vm theMethod args0 = true := by decide +kernel
set_option maxRecDepth 65536 in
theorem w_heap : heapFits about1 = true := by decide +kernel
set_option maxRecDepth 65536 in
theorem w_runnable : about1.curStatus? = some .runnable := by decide +kernel
set_option maxRecDepth 65536 in
theorem w_alone : about1.alone = true := by decide +kernel
set_option maxRecDepth 65536 in
theorem w_named : about1.methodNamed? x = some theMethod := by decide +kernel
set_option maxRecDepth 65536 in
theorem w_hears : about1.hears theMethod below0 = true := by decide +kernel
set_option maxRecDepth 65536 in
theorem w_ripe : about1.ripe theMethod args0 below0 = true := by decide +kernel
theorem w_running : about1.status = .running := rfl
set_option maxRecDepth 65536 in
theorem w_room : about1.hasRoom e0.platform room_1 = true :=
  launch0.hasRoom_least _ room_1 (by decide +kernel) (by decide +kernel) (by decide +kernel) (by decide +kernel) (by decide +kernel) (by decide +kernel)
theorem allAtoms_all (ts : List Jvm.Cond) (a : Array Jvm.Value) (st : Jvm.State) : (allAtoms ts).before a st = ts.all (fun c => c.before a st) := by
  induction ts with
  | nil => rfl
  | cons c t ih =>
    show (Jvm.Cond.and c (allAtoms t)).before a st = _
    rw [Jvm.Cond.before_and, ih, List.all_cons]
def words1 : List Jvm.Cond := Jvm.Cond.code x code maxLocals ret :: tables_1
/-- a 'code' word, met by the world's own term for the bytes: nothing is compared byte by byte -/
theorem code_word {y : MethodName} {bytes : ByteArray} {mx : Nat} {rt : Option FieldType} {a : Array Value} {s : State} {m : MethodId} {meth : Method} {c : Code} (h1 : s.methodNamed? y = some m) (h2 : s.vm.method? m = some meth) (h3 : meth.code = some c) (h4 : c.code = bytes)
    (h5 : (c.maxLocals == mx && c.exceptionTable.isEmpty && decide (c.maxStack ≤ mostOperands) && decide (meth.sig.returnType = rt) && !meth.locks && decide (parseMethodDescriptor y.desc = some meth.sig)) = true) : (Jvm.Cond.code y bytes mx rt).before a s = true := by
  simp only [Bool.and_eq_true, beq_iff_eq, Bool.not_eq_true', decide_eq_true_eq] at h5
  obtain ⟨⟨⟨⟨⟨g1, g2⟩, g3⟩, g4⟩, g5⟩, g6⟩ := h5
  simp [Cond.before, Cond.holds, Cond.value, h1, h2, h3, h4, g1, g2, g3, g4, g5, g6]
def isCode : Jvm.Cond → Bool
  | .code _ _ _ _ => true
  | _ => false
theorem all_split {L : List Jvm.Cond} {P : Jvm.Cond → Bool} (h1 : L.all (fun c => isCode c || P c) = true) (h2 : ∀ c ∈ L.filter isCode, P c = true) : L.all P = true := by
  refine List.all_eq_true.mpr fun c hc => ?_
  have h := List.all_eq_true.mp h1 c hc
  rcases Bool.eq_false_or_eq_true (isCode c) with hi | hi
  · exact h2 c (List.mem_filter.mpr ⟨hc, hi⟩)
  · simpa [hi] using h
set_option maxRecDepth 65536 in
theorem w_c0 : (Jvm.Cond.code x code maxLocals ret).before args0 about1 = true := code_word (m := ⟨1, 2⟩) (meth := k1m2) (c := k1c2) (by decide +kernel) rfl rfl rfl (by decide +kernel)
set_option maxRecDepth 65536 in
theorem w_c1 : (Jvm.Cond.code ({ cls := "com/example/indizio/indizio/core/model/RouteSourceSameProtocolPinLaw", name := "group", desc := "(I)I" } : Jvm.MethodName) method_2_code (1 : Nat) (Option.some Jvm.ClassFile.FieldType.int)).before args0 about1 = true := code_word (m := ⟨1, 1⟩) (meth := k1m1) (c := k1c1) (by decide +kernel) rfl rfl rfl (by decide +kernel)
set_option maxRecDepth 65536 in
theorem w_c2 : (Jvm.Cond.code ({ cls := "com/example/indizio/indizio/core/model/RouteSource", name := "sameProtocol", desc := "(Lcom/example/indizio/indizio/core/model/RouteSource;)Z" } : Jvm.MethodName) prog_60_method_5_code (2 : Nat) (Option.some Jvm.ClassFile.FieldType.boolean)).before args0 about1 = true := code_word (m := ⟨6, 0⟩) (meth := k6m0) (c := k6c0) (by decide +kernel) rfl rfl rfl (by decide +kernel)
def codes1 : List Jvm.Cond := [Jvm.Cond.code x code maxLocals ret, Jvm.Cond.code ({ cls := "com/example/indizio/indizio/core/model/RouteSourceSameProtocolPinLaw", name := "group", desc := "(I)I" } : Jvm.MethodName) method_2_code (1 : Nat) (Option.some Jvm.ClassFile.FieldType.int), Jvm.Cond.code ({ cls := "com/example/indizio/indizio/core/model/RouteSource", name := "sameProtocol", desc := "(Lcom/example/indizio/indizio/core/model/RouteSource;)Z" } : Jvm.MethodName) prog_60_method_5_code (2 : Nat) (Option.some Jvm.ClassFile.FieldType.boolean)]
set_option maxRecDepth 65536 in
theorem codes_eq : words1.filter isCode = codes1 := rfl
theorem w_codes : ∀ c ∈ words1.filter isCode, c.before args0 about1 = true := by
  rw [codes_eq]
  intro c hc
  simp only [codes1, List.mem_cons, List.not_mem_nil, or_false] at hc
  rcases hc with rfl | rfl | rfl
  · exact w_c0
  · exact w_c1
  · exact w_c2
set_option maxRecDepth 65536 in
theorem w_t1 : (words1.take 24).all (fun c => isCode c || c.before args0 about1) = true := by decide +kernel
set_option maxRecDepth 65536 in
theorem w_t2 : (words1.drop 24).all (fun c => isCode c || c.before args0 about1) = true := by decide +kernel
theorem w_tables : (allAtoms (Jvm.Cond.code x code maxLocals ret :: tables_1)).before args0 about1 = true := by
  rw [allAtoms_all]
  show words1.all (fun c => c.before args0 about1) = true
  refine all_split ?_ w_codes
  rw [← List.take_append_drop 24 words1, List.all_append, w_t1, w_t2]
  rfl
set_option maxRecDepth 65536 in
theorem w_case : (Jvm.Cond.and given_1 narrow_1).before args0 about1 = true := by decide +kernel
theorem w_applies : (headSpec (Jvm.Cond.code x code maxLocals ret :: tables_1) room_1).applies x e0.platform about1 = true :=
  (Spec.applies_iff w_frames).mpr ⟨w_running, w_runnable, w_alone, w_named, w_hears, w_ripe, w_room, w_tables⟩
theorem atStart : AtStart classFile x code maxLocals ret World_1 tables_1 room_1 Calls_1 rest_1 Pre_1 launch0 p0 e0 about1 theMethod args0 below0 :=
  ⟨lists_1, trivial, launch0.admits_env _ _ _, launch0.least_env, fairChoices_fair.cas, fairChoices_fair.clock, w_frames, w_args, w_heap, w_applies, trivial, trivial, w_case⟩
end start1
theorem witness_1 : WitnessClaimed_1 := ⟨start1.p0, start1.e0, start1.about1, start1.theMethod, start1.args0, start1.below0, start1.atStart⟩
end Jvm.Pilot.@@N@@
