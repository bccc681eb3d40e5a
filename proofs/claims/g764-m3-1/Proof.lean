import JvmDerived
import JvmDerived.Pilot.@@N@@Statement
import JvmDerived.Pilot.@@N@@Code
set_option linter.unusedVariables false
set_option linter.unusedSimpArgs false
namespace Jvm.RoadKit
open Sem ClassFile Op Lib Jvm.Stand Jvm.Free Jvm.LawKit
section New
variable {p : Program} {l : Launch} {e : Env} {R : Room} {s : State} {m : MethodId} {args : Array Value} {below : List Frame} {meth : Method} {c : Code} {T : State} {locs : List Loc} {cells slots : Nat}
theorem retI (X : Stand p l e R s m args below meth c T locs cells slots) (hx : p.tables.exec = Jvm.exec) {pc : Nat} {Ls : Array Slot} {z : Int32} {rest : List Value} (hret : meth.sig.returnType = some .int) (hd : decode c.code pc = .ok (.ireturn, 1)) {fs : List Frame}
    (hl : ∀ (f : JFrame) (acts : List Action), f.method = m → f.locked = none → f.entered = [] → (doReturn e (T.setTop f) acts (some (.int z))).1 = T.setFrames fs) : Steps p.tables e below (T.setTop (mkF m pc Ls (.int z :: rest))) (T.setFrames fs) := by
  have hm' : T.vm.method? m = some meth := X.method'
  have hn : narrow .int (.int z) = .int z := rfl
  show Steps p.tables e below (T.setTop { method := m, pc := pc, locals := Ls, stack := _ :: rest, locked := none }) _
  jvm_step X.here [X.here.top, hx, hd, hm', hret, hn]
  first | (intro acts; rw [hl _ acts rfl rfl rfl]) | rw [hl _ _ rfl rfl rfl]
  exact Steps.refl _
end New
end Jvm.RoadKit

namespace Jvm.Pilot.@@N@@
open Jvm Jvm.ClassFile Sem Op Lib Jvm.Free Jvm.Stand Jvm.LawKit Jvm.RoadKit Bundle Jvm.Pilot.@@N@@.Jvm.D


theorem own_int {s : State} {args : Array Value} {t : Term} {k : Int32} (h : (Cond.eq t (.int k)).value args s none s [] = some true) : t.eval args s none [] s = some (.int k) := by
  obtain ⟨x, y, h1, h2, k1, k2⟩ := cmp_v (Or.inl h)
  have e2 : (Term.int k).eval args s none [] s = some (.int k) := Term.int_eval k
  obtain rfl := Option.some.inj (e2.symm.trans h2)
  obtain ⟨z, rfl⟩ := k2
  have hq : (Cond.eq t (.int k)).value args s none s [] = some (decide (z = k)) := by simp [Cond.value, h1, e2]
  rw [h1, gotT hq h]
theorem own_fldI {s : State} {args : Array Value} {t : Term} {a : Addr} {C n d : String} {k : Int32} (ht : t.eval args s none [] s = some (.ref a)) (h : (Cond.eq (.field t C n d) (.int k)).value args s none s [] = some true) : Fld s s.heap a C n d (.int k) :=
  Fld.start ((fld_at ht).symm.trans (own_int h))
theorem own_fldR {s : State} {args : Array Value} {t u : Term} {a b : Addr} {C n d : String} (ht : t.eval args s none [] s = some (.ref a)) (hu : u.eval args s none [] s = some (.ref b)) (h : (Cond.eq (.field t C n d) u).value args s none s [] = some true) : Fld s s.heap a C n d (.ref b) := by
  obtain ⟨x, y, h1, h2, k1, k2⟩ := cmp_v (Or.inl h)
  obtain rfl := Option.some.inj (hu.symm.trans h2)
  have hx : x.isRef = true := k2.2
  have e := gotT (eq_R h1 hu hx rfl) h
  subst e
  exact Fld.start ((fld_at ht).symm.trans h1)


def own_pk (k : Int32) (w0 w1 w2 w3 w4 w5 w6 : Addr) : Addr := if k = 0 then w0 else if k = 1 then w1 else if k = 2 then w2 else if k = 3 then w3 else if k = 4 then w4 else if k = 5 then w5 else w6
theorem own_all {P : Addr → Prop} {w0 w1 w2 w3 w4 w5 w6 : Addr} (h0 : P w0) (h1 : P w1) (h2 : P w2) (h3 : P w3) (h4 : P w4) (h5 : P w5) (h6 : P w6) (k : Int32) : P (own_pk k w0 w1 w2 w3 w4 w5 w6) := by
  unfold own_pk
  repeat' split
  all_goals assumption
def own_ex (k : Int32) : Int32 := if k = 1 ∨ k = 2 then 1 else 0
def own_neg (a w1 w2 : Addr) : Int32 := if a = w1 ∨ a = w2 then 1 else 0
theorem own_law {w0 w1 w2 w3 w4 w5 w6 : Addr} (k : Int32) (d01 : w0 ≠ w1) (d02 : w0 ≠ w2) (d31 : w3 ≠ w1) (d32 : w3 ≠ w2) (d41 : w4 ≠ w1) (d42 : w4 ≠ w2) (d51 : w5 ≠ w1) (d52 : w5 ≠ w2) (d61 : w6 ≠ w1) (d62 : w6 ≠ w2) :
    own_neg (own_pk k w0 w1 w2 w3 w4 w5 w6) w1 w2 = own_ex k := by
  unfold own_neg own_pk own_ex
  by_cases h1 : k = 1
  · subst h1; simp
  · by_cases h2 : k = 2
    · subst h2; simp
    · simp only [h1, h2, if_false, or_self, false_or]
      rw [if_neg]
      repeat' split
      all_goals simp_all

theorem d1_0 : decode method_3_code 0 = .ok (.iload_n 0, 1) := by decide +kernel
theorem d1_1 : decode method_3_code 1 = .ok (.ifCond .ne 7, 3) := by decide +kernel
theorem d1_4 : decode method_3_code 4 = .ok (.getstatic 20, 3) := by decide +kernel
theorem d1_7 : decode method_3_code 7 = .ok (.areturn, 1) := by decide +kernel
theorem d1_8 : decode method_3_code 8 = .ok (.iload_n 0, 1) := by decide +kernel
theorem d1_9 : decode method_3_code 9 = .ok (.iconst 1, 1) := by decide +kernel
theorem d1_10 : decode method_3_code 10 = .ok (.if_icmp .ne 7, 3) := by decide +kernel
theorem d1_13 : decode method_3_code 13 = .ok (.getstatic 24, 3) := by decide +kernel
theorem d1_16 : decode method_3_code 16 = .ok (.areturn, 1) := by decide +kernel
theorem d1_17 : decode method_3_code 17 = .ok (.iload_n 0, 1) := by decide +kernel
theorem d1_18 : decode method_3_code 18 = .ok (.iconst 2, 1) := by decide +kernel
theorem d1_19 : decode method_3_code 19 = .ok (.if_icmp .ne 7, 3) := by decide +kernel
theorem d1_22 : decode method_3_code 22 = .ok (.getstatic 27, 3) := by decide +kernel
theorem d1_25 : decode method_3_code 25 = .ok (.areturn, 1) := by decide +kernel
theorem d1_26 : decode method_3_code 26 = .ok (.iload_n 0, 1) := by decide +kernel
theorem d1_27 : decode method_3_code 27 = .ok (.iconst 3, 1) := by decide +kernel
theorem d1_28 : decode method_3_code 28 = .ok (.if_icmp .ne 7, 3) := by decide +kernel
theorem d1_31 : decode method_3_code 31 = .ok (.getstatic 30, 3) := by decide +kernel
theorem d1_34 : decode method_3_code 34 = .ok (.areturn, 1) := by decide +kernel
theorem d1_35 : decode method_3_code 35 = .ok (.iload_n 0, 1) := by decide +kernel
theorem d1_36 : decode method_3_code 36 = .ok (.iconst 4, 1) := by decide +kernel
theorem d1_37 : decode method_3_code 37 = .ok (.if_icmp .ne 7, 3) := by decide +kernel
theorem d1_40 : decode method_3_code 40 = .ok (.getstatic 33, 3) := by decide +kernel
theorem d1_43 : decode method_3_code 43 = .ok (.areturn, 1) := by decide +kernel
theorem d1_44 : decode method_3_code 44 = .ok (.iload_n 0, 1) := by decide +kernel
theorem d1_45 : decode method_3_code 45 = .ok (.iconst 5, 1) := by decide +kernel
theorem d1_46 : decode method_3_code 46 = .ok (.if_icmp .ne 7, 3) := by decide +kernel
theorem d1_49 : decode method_3_code 49 = .ok (.getstatic 36, 3) := by decide +kernel
theorem d1_52 : decode method_3_code 52 = .ok (.areturn, 1) := by decide +kernel
theorem d1_53 : decode method_3_code 53 = .ok (.getstatic 39, 3) := by decide +kernel
theorem d1_56 : decode method_3_code 56 = .ok (.areturn, 1) := by decide +kernel
theorem pn_1 : plainName "com/example/ordered_ledger_store/orderedledgerstore/protocol/StatusIsExplicitNegativePinLaw" = true := by first | (simp [plainName, overriddenIn]; done) | decide +kernel
theorem ef_pick (m : MethodId) (x0 : Int32) : entryFrame m #[(.int x0)] 1 = mkF m 0 #[.val (.int x0)] [] := by (first | (simp [entryFrame, mkF, argsToLocals, Value.category]; done) | rfl)
def Q_pick (Z : State) (p1 : Int32) (w0 : Addr) (w1 : Addr) (w2 : Addr) (w3 : Addr) (w4 : Addr) (w5 : Addr) (w6 : Addr) (h0 : Heap) (n0 : Nat) (v : Option Value) (h : Heap) (L : List Loc) : Prop := v = some (.ref (own_pk p1 w0 w1 w2 w3 w4 w5 w6)) ∧ Fr n0 L ∧ h = h0
set_option maxRecDepth 65536 in
set_option maxHeartbeats 40000000 in
theorem rm_pick (l : Launch) (Z : State) (a0 : Array Value) (hw : ∀ d ∈ tables_1, d.before a0 Z = true) (ws : List Jvm.Cond) (p1 : Int32) (w0 : Addr) (w1 : Addr) (w2 : Addr) (w3 : Addr) (w4 : Addr) (w5 : Addr) (w6 : Addr) (h0 : Heap) (n0 : Nat) (Z0 : n0 ≤ h0.size) (S_w0 : Sta Z h0 "com/example/ordered_ledger_store/orderedledgerstore/protocol/Status" "OK" "Lcom/example/ordered_ledger_store/orderedledgerstore/protocol/Status;" (.ref w0)) (S_w1 : Sta Z h0 "com/example/ordered_ledger_store/orderedledgerstore/protocol/Status" "NO_SUCH_LEDGER" "Lcom/example/ordered_ledger_store/orderedledgerstore/protocol/Status;" (.ref w1)) (S_w2 : Sta Z h0 "com/example/ordered_ledger_store/orderedledgerstore/protocol/Status" "NO_SUCH_ENTRY" "Lcom/example/ordered_ledger_store/orderedledgerstore/protocol/Status;" (.ref w2)) (S_w3 : Sta Z h0 "com/example/ordered_ledger_store/orderedledgerstore/protocol/Status" "FAILED" "Lcom/example/ordered_ledger_store/orderedledgerstore/protocol/Status;" (.ref w3)) (S_w4 : Sta Z h0 "com/example/ordered_ledger_store/orderedledgerstore/protocol/Status" "FENCED" "Lcom/example/ordered_ledger_store/orderedledgerstore/protocol/Status;" (.ref w4)) (S_w5 : Sta Z h0 "com/example/ordered_ledger_store/orderedledgerstore/protocol/Status" "INVALID" "Lcom/example/ordered_ledger_store/orderedledgerstore/protocol/Status;" (.ref w5)) (S_w6 : Sta Z h0 "com/example/ordered_ledger_store/orderedledgerstore/protocol/Status" "UNAUTHORIZED" "Lcom/example/ordered_ledger_store/orderedledgerstore/protocol/Status;" (.ref w6)) :
    MetFree l (⟨"com/example/ordered_ledger_store/orderedledgerstore/protocol/StatusIsExplicitNegativePinLaw", "pick", "(I)Lcom/example/ordered_ledger_store/orderedledgerstore/protocol/Status;"⟩ : MethodName) (head1 (Jvm.Cond.code (⟨"com/example/ordered_ledger_store/orderedledgerstore/protocol/StatusIsExplicitNegativePinLaw", "pick", "(I)Lcom/example/ordered_ledger_store/orderedledgerstore/protocol/Status;"⟩ : MethodName) method_3_code 1 (some (.object "com/example/ordered_ledger_store/orderedledgerstore/protocol/Status")) :: ws) ({ frames := 0, cells := 0, slots := 0, locals := 0 } : Room)) (fun a U => a = #[(.int p1)] ∧ Z.Warmed39 U.vm ∧ U.heap = h0) (fun _ _ _ _ _ => True) (fun _ U o U' => ∃ v L, o = .returned v ∧ Q_pick Z p1 w0 w1 w2 w3 w4 w5 w6 h0 n0 v U'.heap L ∧ FrameEnd U o U' L ({ frames := 0, cells := 0, slots := 0, locals := 0 } : Room).cells ({ frames := 0, cells := 0, slots := 0, locals := 0 } : Room).slots) := by
  refine MetFree.of_bodySF (plainFor_of_name pn_1) hisR ?_
  intro p e s m args below meth c s₁ Bd hml0 hP hK
  obtain ⟨rfl, hZ, hh⟩ := hP
  have hx := Bd.exec
  have hby := Bd.bytes
  have hml : c.maxLocals = 1 := hml0
  have hown : s.vm.findClass "com/example/ordered_ledger_store/orderedledgerstore/protocol/StatusIsExplicitNegativePinLaw" = some m.cls := findClass_of_methodNamed Bd.named
  have hnm := (name_of_methodNamed Bd.named Bd.method).1
  have X0 : Stand p l e ({ frames := 0, cells := 0, slots := 0, locals := 0 } : Room) s m #[(.int p1)] below meth c s₁ [] 0 0 := Stand.of_body Bd
  have e0 : s₁.heap = h0 := by rw [← hh, Bd.state]; rfl
  have N0 := Fr.nil n0
  have c0 : Goes p e below s₁ (entryFrame m #[(.int p1)] 1) s₁ (mkF m 0 #[.val (.int p1)] []) := fun t k => castTop (ef_pick m p1) k
  have c1 : Goes p e below s₁ (entryFrame m #[(.int p1)] 1) s₁ (mkF m 1 #[.val (.int p1)] [(.int p1)]) := by
    intro t kk
    refine c0 t ?_
    show Steps p.tables e below (s₁.setTop (mkF m 0 #[.val (.int p1)] [])) t
    refine XS.iloadN X0.here hx rfl (hb hby d1_0) rfl ?_
    exact kk
  by_cases hc1_2 : p1 = (0 : Int32)
  · have c3 : Goes p e below s₁ (entryFrame m #[(.int p1)] 1) s₁ (mkF m 4 #[.val (.int p1)] []) := by
      intro t kk
      refine c1 t ?_
      show Steps p.tables e below (s₁.setTop (mkF m 1 #[.val (.int p1)] [(.int p1)])) t
      refine XS.ifNo X0.here hx rfl (hb hby d1_1) rfl ((if0 _ _).trans (teq hc1_2).2) ?_
      exact kk
    obtain ⟨T4, X4, e4, st4⟩ := getS2 X0 hx hZ hown (host := "") (Or.inl (hw _ (List.mem_of_getElem? (i := 5) rfl))) Via.refl e0 S_w0 (g := (mkF m 4 #[.val (.int p1)] [])) rfl (hb hby d1_4)
    have c5 : Goes p e below s₁ (entryFrame m #[(.int p1)] 1) T4 (mkF m 7 #[.val (.int p1)] [(.ref w0)]) := fun t kk => c3 t (st4 t kk)
    obtain ⟨fs, hr, hrun, hended, hW, hsame⟩ := X4.leave (v := some (.ref w0)) (fun h => by rw [Bd.returns] at h; cases h)
    refine ⟨_, _, c5 _ ?_, hrun, hended, _, _, rfl, ?_, ⟨_, rfl⟩, hW, hsame.mono (by decide) (by decide)⟩
    · exact retOut X4 hx Bd.returns rfl (Or.inr (Or.inr (Or.inr (Or.inr ⟨rfl, rfl, rfl⟩)))) (hb hby d1_7) hr
    · show Q_pick Z p1 w0 w1 w2 w3 w4 w5 w6 h0 n0 _ T4.heap _
      rw [e4]
      exact ⟨by simp [own_pk, hc1_2], N0, rfl⟩
  · have c6 : Goes p e below s₁ (entryFrame m #[(.int p1)] 1) s₁ (mkF m 10 #[.val (.int p1)] [(.int (1 : Int32)), (.int p1)]) := by
      intro t kk
      refine c1 t ?_
      show Steps p.tables e below (s₁.setTop (mkF m 1 #[.val (.int p1)] [(.int p1)])) t
      refine XS.ifYes X0.here hx rfl (pc0 := 1) (pc' := 8) rfl (hb hby d1_1) rfl ((if0 _ _).trans (feq hc1_2).2) (by decide) (by decide) ?_
      show Steps p.tables e below (s₁.setTop (mkF m 8 #[.val (.int p1)] [])) t
      refine XS.iloadN X0.here hx rfl (hb hby d1_8) rfl ?_
      show Steps p.tables e below (s₁.setTop (mkF m 9 #[.val (.int p1)] [(.int p1)])) t
      refine XS.iconst X0.here hx rfl (hb hby d1_9) ?_
      exact kk
    by_cases hc10_7 : p1 = (1 : Int32)
    · have c8 : Goes p e below s₁ (entryFrame m #[(.int p1)] 1) s₁ (mkF m 13 #[.val (.int p1)] []) := by
        intro t kk
        refine c6 t ?_
        show Steps p.tables e below (s₁.setTop (mkF m 10 #[.val (.int p1)] [(.int (1 : Int32)), (.int p1)])) t
        refine XS.icmpNo X0.here hx rfl (hb hby d1_10) rfl (teq hc10_7).2 ?_
        exact kk
      obtain ⟨T9, X9, e9, st9⟩ := getS2 X0 hx hZ hown (host := "") (Or.inl (hw _ (List.mem_of_getElem? (i := 26) rfl))) Via.refl e0 S_w1 (g := (mkF m 13 #[.val (.int p1)] [])) rfl (hb hby d1_13)
      have c10 : Goes p e below s₁ (entryFrame m #[(.int p1)] 1) T9 (mkF m 16 #[.val (.int p1)] [(.ref w1)]) := fun t kk => c8 t (st9 t kk)
      obtain ⟨fs, hr, hrun, hended, hW, hsame⟩ := X9.leave (v := some (.ref w1)) (fun h => by rw [Bd.returns] at h; cases h)
      refine ⟨_, _, c10 _ ?_, hrun, hended, _, _, rfl, ?_, ⟨_, rfl⟩, hW, hsame.mono (by decide) (by decide)⟩
      · exact retOut X9 hx Bd.returns rfl (Or.inr (Or.inr (Or.inr (Or.inr ⟨rfl, rfl, rfl⟩)))) (hb hby d1_16) hr
      · show Q_pick Z p1 w0 w1 w2 w3 w4 w5 w6 h0 n0 _ T9.heap _
        rw [e9]
        exact ⟨by simp [own_pk, hc1_2, hc10_7], N0, rfl⟩
    · have c11 : Goes p e below s₁ (entryFrame m #[(.int p1)] 1) s₁ (mkF m 19 #[.val (.int p1)] [(.int (2 : Int32)), (.int p1)]) := by
        intro t kk
        refine c6 t ?_
        show Steps p.tables e below (s₁.setTop (mkF m 10 #[.val (.int p1)] [(.int (1 : Int32)), (.int p1)])) t
        refine XS.icmpYes X0.here hx rfl (pc0 := 10) (pc' := 17) rfl (hb hby d1_10) rfl (feq hc10_7).2 (by decide) (by decide) ?_
        show Steps p.tables e below (s₁.setTop (mkF m 17 #[.val (.int p1)] [])) t
        refine XS.iloadN X0.here hx rfl (hb hby d1_17) rfl ?_
        show Steps p.tables e below (s₁.setTop (mkF m 18 #[.val (.int p1)] [(.int p1)])) t
        refine XS.iconst X0.here hx rfl (hb hby d1_18) ?_
        exact kk
      by_cases hc19_12 : p1 = (2 : Int32)
      · have c13 : Goes p e below s₁ (entryFrame m #[(.int p1)] 1) s₁ (mkF m 22 #[.val (.int p1)] []) := by
          intro t kk
          refine c11 t ?_
          show Steps p.tables e below (s₁.setTop (mkF m 19 #[.val (.int p1)] [(.int (2 : Int32)), (.int p1)])) t
          refine XS.icmpNo X0.here hx rfl (hb hby d1_19) rfl (teq hc19_12).2 ?_
          exact kk
        obtain ⟨T14, X14, e14, st14⟩ := getS2 X0 hx hZ hown (host := "") (Or.inl (hw _ (List.mem_of_getElem? (i := 25) rfl))) Via.refl e0 S_w2 (g := (mkF m 22 #[.val (.int p1)] [])) rfl (hb hby d1_22)
        have c15 : Goes p e below s₁ (entryFrame m #[(.int p1)] 1) T14 (mkF m 25 #[.val (.int p1)] [(.ref w2)]) := fun t kk => c13 t (st14 t kk)
        obtain ⟨fs, hr, hrun, hended, hW, hsame⟩ := X14.leave (v := some (.ref w2)) (fun h => by rw [Bd.returns] at h; cases h)
        refine ⟨_, _, c15 _ ?_, hrun, hended, _, _, rfl, ?_, ⟨_, rfl⟩, hW, hsame.mono (by decide) (by decide)⟩
        · exact retOut X14 hx Bd.returns rfl (Or.inr (Or.inr (Or.inr (Or.inr ⟨rfl, rfl, rfl⟩)))) (hb hby d1_25) hr
        · show Q_pick Z p1 w0 w1 w2 w3 w4 w5 w6 h0 n0 _ T14.heap _
          rw [e14]
          exact ⟨by simp [own_pk, hc1_2, hc10_7, hc19_12], N0, rfl⟩
      · have c16 : Goes p e below s₁ (entryFrame m #[(.int p1)] 1) s₁ (mkF m 28 #[.val (.int p1)] [(.int (3 : Int32)), (.int p1)]) := by
          intro t kk
          refine c11 t ?_
          show Steps p.tables e below (s₁.setTop (mkF m 19 #[.val (.int p1)] [(.int (2 : Int32)), (.int p1)])) t
          refine XS.icmpYes X0.here hx rfl (pc0 := 19) (pc' := 26) rfl (hb hby d1_19) rfl (feq hc19_12).2 (by decide) (by decide) ?_
          show Steps p.tables e below (s₁.setTop (mkF m 26 #[.val (.int p1)] [])) t
          refine XS.iloadN X0.here hx rfl (hb hby d1_26) rfl ?_
          show Steps p.tables e below (s₁.setTop (mkF m 27 #[.val (.int p1)] [(.int p1)])) t
          refine XS.iconst X0.here hx rfl (hb hby d1_27) ?_
          exact kk
        by_cases hc28_17 : p1 = (3 : Int32)
        · have c18 : Goes p e below s₁ (entryFrame m #[(.int p1)] 1) s₁ (mkF m 31 #[.val (.int p1)] []) := by
            intro t kk
            refine c16 t ?_
            show Steps p.tables e below (s₁.setTop (mkF m 28 #[.val (.int p1)] [(.int (3 : Int32)), (.int p1)])) t
            refine XS.icmpNo X0.here hx rfl (hb hby d1_28) rfl (teq hc28_17).2 ?_
            exact kk
          obtain ⟨T19, X19, e19, st19⟩ := getS2 X0 hx hZ hown (host := "") (Or.inl (hw _ (List.mem_of_getElem? (i := 17) rfl))) Via.refl e0 S_w3 (g := (mkF m 31 #[.val (.int p1)] [])) rfl (hb hby d1_31)
          have c20 : Goes p e below s₁ (entryFrame m #[(.int p1)] 1) T19 (mkF m 34 #[.val (.int p1)] [(.ref w3)]) := fun t kk => c18 t (st19 t kk)
          obtain ⟨fs, hr, hrun, hended, hW, hsame⟩ := X19.leave (v := some (.ref w3)) (fun h => by rw [Bd.returns] at h; cases h)
          refine ⟨_, _, c20 _ ?_, hrun, hended, _, _, rfl, ?_, ⟨_, rfl⟩, hW, hsame.mono (by decide) (by decide)⟩
          · exact retOut X19 hx Bd.returns rfl (Or.inr (Or.inr (Or.inr (Or.inr ⟨rfl, rfl, rfl⟩)))) (hb hby d1_34) hr
          · show Q_pick Z p1 w0 w1 w2 w3 w4 w5 w6 h0 n0 _ T19.heap _
            rw [e19]
            exact ⟨by simp [own_pk, hc1_2, hc10_7, hc19_12, hc28_17], N0, rfl⟩
        · have c21 : Goes p e below s₁ (entryFrame m #[(.int p1)] 1) s₁ (mkF m 37 #[.val (.int p1)] [(.int (4 : Int32)), (.int p1)]) := by
            intro t kk
            refine c16 t ?_
            show Steps p.tables e below (s₁.setTop (mkF m 28 #[.val (.int p1)] [(.int (3 : Int32)), (.int p1)])) t
            refine XS.icmpYes X0.here hx rfl (pc0 := 28) (pc' := 35) rfl (hb hby d1_28) rfl (feq hc28_17).2 (by decide) (by decide) ?_
            show Steps p.tables e below (s₁.setTop (mkF m 35 #[.val (.int p1)] [])) t
            refine XS.iloadN X0.here hx rfl (hb hby d1_35) rfl ?_
            show Steps p.tables e below (s₁.setTop (mkF m 36 #[.val (.int p1)] [(.int p1)])) t
            refine XS.iconst X0.here hx rfl (hb hby d1_36) ?_
            exact kk
          by_cases hc37_22 : p1 = (4 : Int32)
          · have c23 : Goes p e below s₁ (entryFrame m #[(.int p1)] 1) s₁ (mkF m 40 #[.val (.int p1)] []) := by
              intro t kk
              refine c21 t ?_
              show Steps p.tables e below (s₁.setTop (mkF m 37 #[.val (.int p1)] [(.int (4 : Int32)), (.int p1)])) t
              refine XS.icmpNo X0.here hx rfl (hb hby d1_37) rfl (teq hc37_22).2 ?_
              exact kk
            obtain ⟨T24, X24, e24, st24⟩ := getS2 X0 hx hZ hown (host := "") (Or.inl (hw _ (List.mem_of_getElem? (i := 23) rfl))) Via.refl e0 S_w4 (g := (mkF m 40 #[.val (.int p1)] [])) rfl (hb hby d1_40)
            have c25 : Goes p e below s₁ (entryFrame m #[(.int p1)] 1) T24 (mkF m 43 #[.val (.int p1)] [(.ref w4)]) := fun t kk => c23 t (st24 t kk)
            obtain ⟨fs, hr, hrun, hended, hW, hsame⟩ := X24.leave (v := some (.ref w4)) (fun h => by rw [Bd.returns] at h; cases h)
            refine ⟨_, _, c25 _ ?_, hrun, hended, _, _, rfl, ?_, ⟨_, rfl⟩, hW, hsame.mono (by decide) (by decide)⟩
            · exact retOut X24 hx Bd.returns rfl (Or.inr (Or.inr (Or.inr (Or.inr ⟨rfl, rfl, rfl⟩)))) (hb hby d1_43) hr
            · show Q_pick Z p1 w0 w1 w2 w3 w4 w5 w6 h0 n0 _ T24.heap _
              rw [e24]
              exact ⟨by simp [own_pk, hc1_2, hc10_7, hc19_12, hc28_17, hc37_22], N0, rfl⟩
          · have c26 : Goes p e below s₁ (entryFrame m #[(.int p1)] 1) s₁ (mkF m 46 #[.val (.int p1)] [(.int (5 : Int32)), (.int p1)]) := by
              intro t kk
              refine c21 t ?_
              show Steps p.tables e below (s₁.setTop (mkF m 37 #[.val (.int p1)] [(.int (4 : Int32)), (.int p1)])) t
              refine XS.icmpYes X0.here hx rfl (pc0 := 37) (pc' := 44) rfl (hb hby d1_37) rfl (feq hc37_22).2 (by decide) (by decide) ?_
              show Steps p.tables e below (s₁.setTop (mkF m 44 #[.val (.int p1)] [])) t
              refine XS.iloadN X0.here hx rfl (hb hby d1_44) rfl ?_
              show Steps p.tables e below (s₁.setTop (mkF m 45 #[.val (.int p1)] [(.int p1)])) t
              refine XS.iconst X0.here hx rfl (hb hby d1_45) ?_
              exact kk
            by_cases hc46_27 : p1 = (5 : Int32)
            · have c28 : Goes p e below s₁ (entryFrame m #[(.int p1)] 1) s₁ (mkF m 49 #[.val (.int p1)] []) := by
                intro t kk
                refine c26 t ?_
                show Steps p.tables e below (s₁.setTop (mkF m 46 #[.val (.int p1)] [(.int (5 : Int32)), (.int p1)])) t
                refine XS.icmpNo X0.here hx rfl (hb hby d1_46) rfl (teq hc46_27).2 ?_
                exact kk
              obtain ⟨T29, X29, e29, st29⟩ := getS2 X0 hx hZ hown (host := "") (Or.inl (hw _ (List.mem_of_getElem? (i := 19) rfl))) Via.refl e0 S_w5 (g := (mkF m 49 #[.val (.int p1)] [])) rfl (hb hby d1_49)
              have c30 : Goes p e below s₁ (entryFrame m #[(.int p1)] 1) T29 (mkF m 52 #[.val (.int p1)] [(.ref w5)]) := fun t kk => c28 t (st29 t kk)
              obtain ⟨fs, hr, hrun, hended, hW, hsame⟩ := X29.leave (v := some (.ref w5)) (fun h => by rw [Bd.returns] at h; cases h)
              refine ⟨_, _, c30 _ ?_, hrun, hended, _, _, rfl, ?_, ⟨_, rfl⟩, hW, hsame.mono (by decide) (by decide)⟩
              · exact retOut X29 hx Bd.returns rfl (Or.inr (Or.inr (Or.inr (Or.inr ⟨rfl, rfl, rfl⟩)))) (hb hby d1_52) hr
              · show Q_pick Z p1 w0 w1 w2 w3 w4 w5 w6 h0 n0 _ T29.heap _
                rw [e29]
                exact ⟨by simp [own_pk, hc1_2, hc10_7, hc19_12, hc28_17, hc37_22, hc46_27], N0, rfl⟩
            · have c31 : Goes p e below s₁ (entryFrame m #[(.int p1)] 1) s₁ (mkF m 53 #[.val (.int p1)] []) := by
                intro t kk
                refine c26 t ?_
                show Steps p.tables e below (s₁.setTop (mkF m 46 #[.val (.int p1)] [(.int (5 : Int32)), (.int p1)])) t
                refine XS.icmpYes X0.here hx rfl (pc0 := 46) (pc' := 53) rfl (hb hby d1_46) rfl (feq hc46_27).2 (by decide) (by decide) ?_
                exact kk
              obtain ⟨T32, X32, e32, st32⟩ := getS2 X0 hx hZ hown (host := "") (Or.inl (hw _ (List.mem_of_getElem? (i := 21) rfl))) Via.refl e0 S_w6 (g := (mkF m 53 #[.val (.int p1)] [])) rfl (hb hby d1_53)
              have c33 : Goes p e below s₁ (entryFrame m #[(.int p1)] 1) T32 (mkF m 56 #[.val (.int p1)] [(.ref w6)]) := fun t kk => c31 t (st32 t kk)
              obtain ⟨fs, hr, hrun, hended, hW, hsame⟩ := X32.leave (v := some (.ref w6)) (fun h => by rw [Bd.returns] at h; cases h)
              refine ⟨_, _, c33 _ ?_, hrun, hended, _, _, rfl, ?_, ⟨_, rfl⟩, hW, hsame.mono (by decide) (by decide)⟩
              · exact retOut X32 hx Bd.returns rfl (Or.inr (Or.inr (Or.inr (Or.inr ⟨rfl, rfl, rfl⟩)))) (hb hby d1_56) hr
              · show Q_pick Z p1 w0 w1 w2 w3 w4 w5 w6 h0 n0 _ T32.heap _
                rw [e32]
                exact ⟨by simp [own_pk, hc1_2, hc10_7, hc19_12, hc28_17, hc37_22, hc46_27], N0, rfl⟩
theorem d2_0 : decode prog_41_method_4_code 0 = .ok (.aload_n 0, 1) := by decide +kernel
theorem d2_1 : decode prog_41_method_4_code 1 = .ok (.getstatic 7, 3) := by decide +kernel
theorem d2_4 : decode prog_41_method_4_code 4 = .ok (.if_acmp .eq 10, 3) := by decide +kernel
theorem d2_7 : decode prog_41_method_4_code 7 = .ok (.aload_n 0, 1) := by decide +kernel
theorem d2_8 : decode prog_41_method_4_code 8 = .ok (.getstatic 10, 3) := by decide +kernel
theorem d2_11 : decode prog_41_method_4_code 11 = .ok (.if_acmp .ne 7, 3) := by decide +kernel
theorem d2_14 : decode prog_41_method_4_code 14 = .ok (.iconst 1, 1) := by decide +kernel
theorem d2_15 : decode prog_41_method_4_code 15 = .ok (.goto 4, 3) := by decide +kernel
theorem d2_18 : decode prog_41_method_4_code 18 = .ok (.iconst 0, 1) := by decide +kernel
theorem d2_19 : decode prog_41_method_4_code 19 = .ok (.ireturn, 1) := by decide +kernel
theorem pn_2 : plainName "com/example/ordered_ledger_store/orderedledgerstore/protocol/Status" = true := by first | (simp [plainName, overriddenIn]; done) | decide +kernel
theorem ef_neg (m : MethodId) (x0 : Addr) : entryFrame m #[(.ref x0)] 1 = mkF m 0 #[.val (.ref x0)] [] := by (first | (simp [entryFrame, mkF, argsToLocals, Value.category]; done) | rfl)
def Q_neg (Z : State) (a1 : Addr) (w1 : Addr) (w2 : Addr) (h0 : Heap) (n0 : Nat) (v : Option Value) (h : Heap) (L : List Loc) : Prop := v = some (.int (own_neg a1 w1 w2)) ∧ Fr n0 L ∧ h = h0
set_option maxRecDepth 65536 in
set_option maxHeartbeats 40000000 in
theorem rm_neg (l : Launch) (Z : State) (a0 : Array Value) (hw : ∀ d ∈ tables_1, d.before a0 Z = true) (ws : List Jvm.Cond) (a1 : Addr) (w1 : Addr) (w2 : Addr) (h0 : Heap) (n0 : Nat) (Z0 : n0 ≤ h0.size) (S_w1 : Sta Z h0 "com/example/ordered_ledger_store/orderedledgerstore/protocol/Status" "NO_SUCH_LEDGER" "Lcom/example/ordered_ledger_store/orderedledgerstore/protocol/Status;" (.ref w1)) (S_w2 : Sta Z h0 "com/example/ordered_ledger_store/orderedledgerstore/protocol/Status" "NO_SUCH_ENTRY" "Lcom/example/ordered_ledger_store/orderedledgerstore/protocol/Status;" (.ref w2)) :
    MetFree l (⟨"com/example/ordered_ledger_store/orderedledgerstore/protocol/Status", "isExplicitNegative", "()Z"⟩ : MethodName) (head1 (Jvm.Cond.code (⟨"com/example/ordered_ledger_store/orderedledgerstore/protocol/Status", "isExplicitNegative", "()Z"⟩ : MethodName) prog_41_method_4_code 1 (some .boolean) :: ws) ({ frames := 0, cells := 0, slots := 0, locals := 0 } : Room)) (fun a U => a = #[(.ref a1)] ∧ Z.Warmed39 U.vm ∧ U.heap = h0) (fun _ _ _ _ _ => True) (fun _ U o U' => ∃ v L, o = .returned v ∧ Q_neg Z a1 w1 w2 h0 n0 v U'.heap L ∧ FrameEnd U o U' L ({ frames := 0, cells := 0, slots := 0, locals := 0 } : Room).cells ({ frames := 0, cells := 0, slots := 0, locals := 0 } : Room).slots) := by
  refine MetFree.of_bodySF (plainFor_of_name pn_2) hisR ?_
  intro p e s m args below meth c s₁ Bd hml0 hP hK
  obtain ⟨rfl, hZ, hh⟩ := hP
  have hx := Bd.exec
  have hby := Bd.bytes
  have hml : c.maxLocals = 1 := hml0
  have hown : s.vm.findClass "com/example/ordered_ledger_store/orderedledgerstore/protocol/Status" = some m.cls := findClass_of_methodNamed Bd.named
  have hnm := (name_of_methodNamed Bd.named Bd.method).1
  have X0 : Stand p l e ({ frames := 0, cells := 0, slots := 0, locals := 0 } : Room) s m #[(.ref a1)] below meth c s₁ [] 0 0 := Stand.of_body Bd
  have e0 : s₁.heap = h0 := by rw [← hh, Bd.state]; rfl
  have N0 := Fr.nil n0
  have c0 : Goes p e below s₁ (entryFrame m #[(.ref a1)] 1) s₁ (mkF m 0 #[.val (.ref a1)] []) := fun t k => castTop (ef_neg m a1) k
  have c34 : Goes p e below s₁ (entryFrame m #[(.ref a1)] 1) s₁ (mkF m 1 #[.val (.ref a1)] [(.ref a1)]) := by
    intro t kk
    refine c0 t ?_
    show Steps p.tables e below (s₁.setTop (mkF m 0 #[.val (.ref a1)] [])) t
    refine XS.aloadN X0.here hx rfl (hb hby d2_0) rfl rfl ?_
    exact kk
  obtain ⟨T35, X35, e35, st35⟩ := getS2 X0 hx hZ hown (host := "") (Or.inl (hw _ (List.mem_of_getElem? (i := 13) rfl))) Via.refl e0 S_w1 (g := (mkF m 1 #[.val (.ref a1)] [(.ref a1)])) rfl (hb hby d2_1)
  have c36 : Goes p e below s₁ (entryFrame m #[(.ref a1)] 1) T35 (mkF m 4 #[.val (.ref a1)] [(.ref w1), (.ref a1)]) := fun t kk => c34 t (st35 t kk)
  by_cases ha4_37 : ((.ref a1) : Value) = (.ref w1)
  · have c38 : Goes p e below s₁ (entryFrame m #[(.ref a1)] 1) T35 (mkF m 19 #[.val (.ref a1)] [(.int (1 : Int32))]) := by
      intro t kk
      refine c36 t ?_
      show Steps p.tables e below (T35.setTop (mkF m 4 #[.val (.ref a1)] [(.ref w1), (.ref a1)])) t
      refine Jvm.RoadKit.acmp (g := (mkF m 4 #[.val (.ref a1)] [(.ref w1), (.ref a1)])) X35 hx rfl rfl rfl (pc0 := 4) (pc' := 14) (same := true) rfl (hb hby d2_4) rfl (decide_eq_true ha4_37) (by decide) (by decide) ?_
      show Steps p.tables e below (T35.setTop (mkF m 14 #[.val (.ref a1)] [])) t
      refine XS.iconst X35.here hx rfl (hb hby d2_14) ?_
      show Steps p.tables e below (T35.setTop (mkF m 15 #[.val (.ref a1)] [(.int (1 : Int32))])) t
      refine XS.goto X35.here hx rfl (pc0 := 15) (pc' := 19) rfl (hb hby d2_15) (by decide) (by decide) ?_
      exact kk
    obtain ⟨fs, hr, hrun, hended, hW, hsame⟩ := X35.leave (v := some (.int (1 : Int32))) (fun h => by rw [Bd.returns] at h; cases h)
    refine ⟨_, _, c38 _ ?_, hrun, hended, _, _, rfl, ?_, ⟨_, rfl⟩, hW, hsame.mono (by decide) (by decide)⟩
    · exact retN X35 hx (t := .boolean) Bd.returns (by simp) (hb hby d2_19) hr
    · show Q_neg Z a1 w1 w2 h0 n0 _ T35.heap _
      rw [e35]
      exact ⟨by simp_all [own_neg], N0, rfl⟩
  · have c39 : Goes p e below s₁ (entryFrame m #[(.ref a1)] 1) T35 (mkF m 8 #[.val (.ref a1)] [(.ref a1)]) := by
      intro t kk
      refine c36 t ?_
      show Steps p.tables e below (T35.setTop (mkF m 4 #[.val (.ref a1)] [(.ref w1), (.ref a1)])) t
      refine Jvm.RoadKit.acmp (g := (mkF m 4 #[.val (.ref a1)] [(.ref w1), (.ref a1)])) X35 hx rfl rfl rfl (pc0 := 4) (pc' := 7) (same := false) rfl (hb hby d2_4) rfl (decide_eq_false ha4_37) (by decide) (by decide) ?_
      show Steps p.tables e below (T35.setTop (mkF m 7 #[.val (.ref a1)] [])) t
      refine XS.aloadN X35.here hx rfl (hb hby d2_7) rfl rfl ?_
      exact kk
    obtain ⟨T40, X40, e40, st40⟩ := getS2 X35 hx hZ hown (host := "") (Or.inl (hw _ (List.mem_of_getElem? (i := 15) rfl))) Via.refl e35 S_w2 (g := (mkF m 8 #[.val (.ref a1)] [(.ref a1)])) rfl (hb hby d2_8)
    have c41 : Goes p e below s₁ (entryFrame m #[(.ref a1)] 1) T40 (mkF m 11 #[.val (.ref a1)] [(.ref w2), (.ref a1)]) := fun t kk => c39 t (st40 t kk)
    by_cases ha11_42 : ((.ref a1) : Value) = (.ref w2)
    · have c43 : Goes p e below s₁ (entryFrame m #[(.ref a1)] 1) T40 (mkF m 19 #[.val (.ref a1)] [(.int (1 : Int32))]) := by
        intro t kk
        refine c41 t ?_
        show Steps p.tables e below (T40.setTop (mkF m 11 #[.val (.ref a1)] [(.ref w2), (.ref a1)])) t
        refine Jvm.RoadKit.acmp (g := (mkF m 11 #[.val (.ref a1)] [(.ref w2), (.ref a1)])) X40 hx rfl rfl rfl (pc0 := 11) (pc' := 14) (same := true) rfl (hb hby d2_11) rfl (decide_eq_true ha11_42) (by decide) (by decide) ?_
        show Steps p.tables e below (T40.setTop (mkF m 14 #[.val (.ref a1)] [])) t
        refine XS.iconst X40.here hx rfl (hb hby d2_14) ?_
        show Steps p.tables e below (T40.setTop (mkF m 15 #[.val (.ref a1)] [(.int (1 : Int32))])) t
        refine XS.goto X40.here hx rfl (pc0 := 15) (pc' := 19) rfl (hb hby d2_15) (by decide) (by decide) ?_
        exact kk
      obtain ⟨fs, hr, hrun, hended, hW, hsame⟩ := X40.leave (v := some (.int (1 : Int32))) (fun h => by rw [Bd.returns] at h; cases h)
      refine ⟨_, _, c43 _ ?_, hrun, hended, _, _, rfl, ?_, ⟨_, rfl⟩, hW, hsame.mono (by decide) (by decide)⟩
      · exact retN X40 hx (t := .boolean) Bd.returns (by simp) (hb hby d2_19) hr
      · show Q_neg Z a1 w1 w2 h0 n0 _ T40.heap _
        rw [e40]
        exact ⟨by simp_all [own_neg], N0, rfl⟩
    · have c44 : Goes p e below s₁ (entryFrame m #[(.ref a1)] 1) T40 (mkF m 19 #[.val (.ref a1)] [(.int (0 : Int32))]) := by
        intro t kk
        refine c41 t ?_
        show Steps p.tables e below (T40.setTop (mkF m 11 #[.val (.ref a1)] [(.ref w2), (.ref a1)])) t
        refine Jvm.RoadKit.acmp (g := (mkF m 11 #[.val (.ref a1)] [(.ref w2), (.ref a1)])) X40 hx rfl rfl rfl (pc0 := 11) (pc' := 18) (same := false) rfl (hb hby d2_11) rfl (decide_eq_false ha11_42) (by decide) (by decide) ?_
        show Steps p.tables e below (T40.setTop (mkF m 18 #[.val (.ref a1)] [])) t
        refine XS.iconst X40.here hx rfl (hb hby d2_18) ?_
        exact kk
      obtain ⟨fs, hr, hrun, hended, hW, hsame⟩ := X40.leave (v := some (.int (0 : Int32))) (fun h => by rw [Bd.returns] at h; cases h)
      refine ⟨_, _, c44 _ ?_, hrun, hended, _, _, rfl, ?_, ⟨_, rfl⟩, hW, hsame.mono (by decide) (by decide)⟩
      · exact retN X40 hx (t := .boolean) Bd.returns (by simp) (hb hby d2_19) hr
      · show Q_neg Z a1 w1 w2 h0 n0 _ T40.heap _
        rw [e40]
        exact ⟨by simp_all [own_neg], N0, rfl⟩
theorem pd__I_Lcom_example_ordered_ledger_store_orderedledgerstore_protocol_Status_ : parseMethodDescriptor "(I)Lcom/example/ordered_ledger_store/orderedledgerstore/protocol/Status;" = some ⟨[.int], some (.object "com/example/ordered_ledger_store/orderedledgerstore/protocol/Status")⟩ := by decide +kernel
theorem pd___Z : parseMethodDescriptor "()Z" = some ⟨[], some .boolean⟩ := by decide +kernel
theorem ef_law (m : MethodId) (x0 : Int32) : entryFrame m #[(.int x0)] maxLocals = mkF m 0 #[.val (.int x0), .unset, .unset, .unset] [] := by (first | (simp [entryFrame, mkF, argsToLocals, Value.category, maxLocals]; done) | rfl)
def Q_law (Z : State) (p0 : Int32) (w0 : Addr) (w1 : Addr) (w2 : Addr) (w3 : Addr) (w4 : Addr) (w5 : Addr) (w6 : Addr) (h0 : Heap) (n0 : Nat) (v : Option Value) (h : Heap) (L : List Loc) : Prop := v = some (.int 1) ∧ Fr n0 L
set_option maxRecDepth 65536 in
set_option maxHeartbeats 40000000 in
theorem rm_law (l : Launch) (Z : State) (a0 : Array Value) (hw : ∀ d ∈ tables_1, d.before a0 Z = true) (ws : List Jvm.Cond) (p0 : Int32) (w0 : Addr) (w1 : Addr) (w2 : Addr) (w3 : Addr) (w4 : Addr) (w5 : Addr) (w6 : Addr) (h0 : Heap) (n0 : Nat) (Z0 : n0 ≤ h0.size) (S_w0 : Sta Z h0 "com/example/ordered_ledger_store/orderedledgerstore/protocol/Status" "OK" "Lcom/example/ordered_ledger_store/orderedledgerstore/protocol/Status;" (.ref w0)) (S_w1 : Sta Z h0 "com/example/ordered_ledger_store/orderedledgerstore/protocol/Status" "NO_SUCH_LEDGER" "Lcom/example/ordered_ledger_store/orderedledgerstore/protocol/Status;" (.ref w1)) (S_w2 : Sta Z h0 "com/example/ordered_ledger_store/orderedledgerstore/protocol/Status" "NO_SUCH_ENTRY" "Lcom/example/ordered_ledger_store/orderedledgerstore/protocol/Status;" (.ref w2)) (S_w3 : Sta Z h0 "com/example/ordered_ledger_store/orderedledgerstore/protocol/Status" "FAILED" "Lcom/example/ordered_ledger_store/orderedledgerstore/protocol/Status;" (.ref w3)) (S_w4 : Sta Z h0 "com/example/ordered_ledger_store/orderedledgerstore/protocol/Status" "FENCED" "Lcom/example/ordered_ledger_store/orderedledgerstore/protocol/Status;" (.ref w4)) (S_w5 : Sta Z h0 "com/example/ordered_ledger_store/orderedledgerstore/protocol/Status" "INVALID" "Lcom/example/ordered_ledger_store/orderedledgerstore/protocol/Status;" (.ref w5)) (S_w6 : Sta Z h0 "com/example/ordered_ledger_store/orderedledgerstore/protocol/Status" "UNAUTHORIZED" "Lcom/example/ordered_ledger_store/orderedledgerstore/protocol/Status;" (.ref w6)) (E_w0 : Exa Z h0 w0 "com/example/ordered_ledger_store/orderedledgerstore/protocol/Status") (E_w1 : Exa Z h0 w1 "com/example/ordered_ledger_store/orderedledgerstore/protocol/Status") (E_w2 : Exa Z h0 w2 "com/example/ordered_ledger_store/orderedledgerstore/protocol/Status") (E_w3 : Exa Z h0 w3 "com/example/ordered_ledger_store/orderedledgerstore/protocol/Status") (E_w4 : Exa Z h0 w4 "com/example/ordered_ledger_store/orderedledgerstore/protocol/Status") (E_w5 : Exa Z h0 w5 "com/example/ordered_ledger_store/orderedledgerstore/protocol/Status") (E_w6 : Exa Z h0 w6 "com/example/ordered_ledger_store/orderedledgerstore/protocol/Status") (d01 : w0 ≠ w1) (d02 : w0 ≠ w2) (d31 : w3 ≠ w1) (d32 : w3 ≠ w2) (d41 : w4 ≠ w1) (d42 : w4 ≠ w2) (d51 : w5 ≠ w1) (d52 : w5 ≠ w2) (d61 : w6 ≠ w1) (d62 : w6 ≠ w2) :
    MetFree l x (head1 (Jvm.Cond.code x code maxLocals ret :: ws) room_1) (fun a U => a = #[(.int p0)] ∧ Z.Warmed39 U.vm ∧ U.heap = h0) (fun _ _ _ _ _ => True) (fun _ U o U' => ∃ v L, o = .returned v ∧ Q_law Z p0 w0 w1 w2 w3 w4 w5 w6 h0 n0 v U'.heap L ∧ FrameEnd U o U' L 0 0) := by
  refine MetFree.of_bodySF (plainFor_of_name pn_1) hisR ?_
  intro p e s m args below meth c s₁ Bd hml0 hP hK
  obtain ⟨rfl, hZ, hh⟩ := hP
  have hx := Bd.exec
  have hby := Bd.bytes
  have hml : c.maxLocals = 4 := hml0
  have hown : s.vm.findClass "com/example/ordered_ledger_store/orderedledgerstore/protocol/StatusIsExplicitNegativePinLaw" = some m.cls := findClass_of_methodNamed Bd.named
  have hnm := (name_of_methodNamed Bd.named Bd.method).1
  have X0 : Stand p l e room_1 s m #[(.int p0)] below meth c s₁ [] 0 0 := Stand.of_body Bd
  have e0 : s₁.heap = h0 := by rw [← hh, Bd.state]; rfl
  have N0 := Fr.nil n0
  have c0 : Goes p e below s₁ (entryFrame m #[(.int p0)] maxLocals) s₁ (mkF m 0 #[.val (.int p0), .unset, .unset, .unset] []) := fun t k => castTop (ef_law m p0) k
  have c45 : Goes p e below s₁ (entryFrame m #[(.int p0)] maxLocals) s₁ (mkF m 9 #[.val (.int p0), .val (.int ((p0 &&& (2147483647 : Int32)) % (7 : Int32))), .unset, .unset] [(.int ((p0 &&& (2147483647 : Int32)) % (7 : Int32)))]) := by
    intro t kk
    refine c0 t ?_
    show Steps p.tables e below (s₁.setTop (mkF m 0 #[.val (.int p0), .unset, .unset, .unset] [])) t
    refine XS.iloadN X0.here hx rfl (hb hby at_0) rfl ?_
    show Steps p.tables e below (s₁.setTop (mkF m 1 #[.val (.int p0), .unset, .unset, .unset] [(.int p0)])) t
    refine X0.ldcInt hx hown (mvT hZ (hw _ (List.mem_of_getElem? (i := 0) rfl))) (g := (mkF m 1 #[.val (.int p0), .unset, .unset, .unset] [(.int p0)])) rfl (hb hby at_1) _ ?_
    show Steps p.tables e below (s₁.setTop (mkF m 3 #[.val (.int p0), .unset, .unset, .unset] [(.int (2147483647 : Int32)), (.int p0)])) t
    refine XS.iand X0.here hx rfl (hb hby at_3) rfl ?_
    show Steps p.tables e below (s₁.setTop (mkF m 4 #[.val (.int p0), .unset, .unset, .unset] [(.int (p0 &&& (2147483647 : Int32)))])) t
    refine XS.bipush X0.here hx rfl (hb hby at_4) ?_
    show Steps p.tables e below (s₁.setTop (mkF m 6 #[.val (.int p0), .unset, .unset, .unset] [(.int (7 : Int32)), (.int (p0 &&& (2147483647 : Int32)))])) t
    refine iremM X0 hx rfl (hb hby at_6) rfl (by decide) ?_
    show Steps p.tables e below (s₁.setTop (mkF m 7 #[.val (.int p0), .unset, .unset, .unset] [(.int ((p0 &&& (2147483647 : Int32)) % (7 : Int32)))])) t
    refine XS.istoreN X0.here hx rfl (hb hby at_7) rfl (l' := #[.val (.int p0), .val (.int ((p0 &&& (2147483647 : Int32)) % (7 : Int32))), .unset, .unset]) rfl ?_
    show Steps p.tables e below (s₁.setTop (mkF m 8 #[.val (.int p0), .val (.int ((p0 &&& (2147483647 : Int32)) % (7 : Int32))), .unset, .unset] [])) t
    refine XS.iloadN X0.here hx rfl (hb hby at_8) rfl ?_
    exact kk
  obtain ⟨_, _, ⟨T46, L46, k46, n46⟩, -, X46, ⟨Lc46, hQ46, l46, y46, z46⟩, st46⟩ := Jvm.LawKit.callS X0 hx (y := (⟨"com/example/ordered_ledger_store/orderedledgerstore/protocol/StatusIsExplicitNegativePinLaw", "pick", "(I)Lcom/example/ordered_ledger_store/orderedledgerstore/protocol/Status;"⟩ : MethodName)) hown (mvT hZ (hw _ (List.mem_of_getElem? (i := 1) rfl))) (mvT hZ (hw _ (List.mem_of_getElem? (i := 2) rfl))) (mvT hZ (hw _ (List.mem_of_getElem? (i := 3) rfl))) (mvT hZ (hw _ (List.mem_of_getElem? (i := 4) rfl))) (by decide) (backOf (W := 0) (rm_pick l Z a0 hw [] ((p0 &&& (2147483647 : Int32)) % (7 : Int32)) w0 w1 w2 w3 w4 w5 w6 h0 n0 Z0 S_w0 S_w1 S_w2 S_w3 S_w4 S_w5 S_w6) hZ (hw _ (List.mem_of_getElem? (i := 4) rfl)) (hw _ (List.mem_of_getElem? (i := 3) rfl)) (by decide) (by decide)) (g := (mkF m 9 #[.val (.int p0), .val (.int ((p0 &&& (2147483647 : Int32)) % (7 : Int32))), .unset, .unset] [(.int ((p0 &&& (2147483647 : Int32)) % (7 : Int32)))])) rfl (by rw [hml]; rfl) (argsL := [(.int ((p0 &&& (2147483647 : Int32)) % (7 : Int32)))]) (rest := []) (lenOf pd__I_Lcom_example_ordered_ledger_store_orderedledgerstore_protocol_Status_ rfl) rfl (by show 2 * 0 + _ ≤ _; exact Nat.le_of_eq rfl) (hb hby at_9) (fun _ _ => ⟨rfl, e0, (by decide : 0 + 0 ≤ _), (by decide : 0 + 0 ≤ _)⟩)
  dsimp only [Pt.U, Pt.locs, Pt.cells, Pt.slots] at X46 l46 y46 z46 st46 hQ46
  subst l46 y46 z46
  obtain ⟨rfl, Nq46, eq46⟩ := hQ46
  have N46 := Fr.app N0 Nq46
  have c47 : Goes p e below s₁ (entryFrame m #[(.int p0)] maxLocals) T46 (mkF m 12 #[.val (.int p0), .val (.int ((p0 &&& (2147483647 : Int32)) % (7 : Int32))), .unset, .unset] [(.ref (own_pk ((p0 &&& (2147483647 : Int32)) % (7 : Int32)) w0 w1 w2 w3 w4 w5 w6))]) := fun t kk => c45 t (st46 t kk)
  have c48 : Goes p e below s₁ (entryFrame m #[(.int p0)] maxLocals) T46 (mkF m 15 #[.val (.int p0), .val (.int ((p0 &&& (2147483647 : Int32)) % (7 : Int32))), .val (.ref (own_pk ((p0 &&& (2147483647 : Int32)) % (7 : Int32)) w0 w1 w2 w3 w4 w5 w6)), .unset] [(.int (1 : Int32)), (.int ((p0 &&& (2147483647 : Int32)) % (7 : Int32)))]) := by
    intro t kk
    refine c47 t ?_
    show Steps p.tables e below (T46.setTop (mkF m 12 #[.val (.int p0), .val (.int ((p0 &&& (2147483647 : Int32)) % (7 : Int32))), .unset, .unset] [(.ref (own_pk ((p0 &&& (2147483647 : Int32)) % (7 : Int32)) w0 w1 w2 w3 w4 w5 w6))])) t
    refine XS.astoreN X46.here hx rfl (hb hby at_12) rfl rfl (l' := #[.val (.int p0), .val (.int ((p0 &&& (2147483647 : Int32)) % (7 : Int32))), .val (.ref (own_pk ((p0 &&& (2147483647 : Int32)) % (7 : Int32)) w0 w1 w2 w3 w4 w5 w6)), .unset]) rfl ?_
    show Steps p.tables e below (T46.setTop (mkF m 13 #[.val (.int p0), .val (.int ((p0 &&& (2147483647 : Int32)) % (7 : Int32))), .val (.ref (own_pk ((p0 &&& (2147483647 : Int32)) % (7 : Int32)) w0 w1 w2 w3 w4 w5 w6)), .unset] [])) t
    refine XS.iloadN X46.here hx rfl (hb hby at_13) rfl ?_
    show Steps p.tables e below (T46.setTop (mkF m 14 #[.val (.int p0), .val (.int ((p0 &&& (2147483647 : Int32)) % (7 : Int32))), .val (.ref (own_pk ((p0 &&& (2147483647 : Int32)) % (7 : Int32)) w0 w1 w2 w3 w4 w5 w6)), .unset] [(.int ((p0 &&& (2147483647 : Int32)) % (7 : Int32)))])) t
    refine XS.iconst X46.here hx rfl (hb hby at_14) ?_
    exact kk
  by_cases h15 : ((p0 &&& (2147483647 : Int32)) % (7 : Int32)) = (1 : Int32)
  · have c49 : Goes p e below s₁ (entryFrame m #[(.int p0)] maxLocals) T46 (mkF m 30 #[.val (.int p0), .val (.int ((p0 &&& (2147483647 : Int32)) % (7 : Int32))), .val (.ref (own_pk ((p0 &&& (2147483647 : Int32)) % (7 : Int32)) w0 w1 w2 w3 w4 w5 w6)), .val (.int (1 : Int32))] [(.ref (own_pk ((p0 &&& (2147483647 : Int32)) % (7 : Int32)) w0 w1 w2 w3 w4 w5 w6))]) := by
      intro t kk
      refine c48 t ?_
      show Steps p.tables e below (T46.setTop (mkF m 15 #[.val (.int p0), .val (.int ((p0 &&& (2147483647 : Int32)) % (7 : Int32))), .val (.ref (own_pk ((p0 &&& (2147483647 : Int32)) % (7 : Int32)) w0 w1 w2 w3 w4 w5 w6)), .unset] [(.int (1 : Int32)), (.int ((p0 &&& (2147483647 : Int32)) % (7 : Int32)))])) t
      refine XS.icmpYes X46.here hx rfl (pc0 := 15) (pc' := 23) rfl (hb hby at_15) rfl (teq h15).1 (by decide) (by decide) ?_
      show Steps p.tables e below (T46.setTop (mkF m 23 #[.val (.int p0), .val (.int ((p0 &&& (2147483647 : Int32)) % (7 : Int32))), .val (.ref (own_pk ((p0 &&& (2147483647 : Int32)) % (7 : Int32)) w0 w1 w2 w3 w4 w5 w6)), .unset] [])) t
      refine XS.iconst X46.here hx rfl (hb hby at_23) ?_
      show Steps p.tables e below (T46.setTop (mkF m 24 #[.val (.int p0), .val (.int ((p0 &&& (2147483647 : Int32)) % (7 : Int32))), .val (.ref (own_pk ((p0 &&& (2147483647 : Int32)) % (7 : Int32)) w0 w1 w2 w3 w4 w5 w6)), .unset] [(.int (1 : Int32))])) t
      refine XS.goto X46.here hx rfl (pc0 := 24) (pc' := 28) rfl (hb hby at_24) (by decide) (by decide) ?_
      show Steps p.tables e below (T46.setTop (mkF m 28 #[.val (.int p0), .val (.int ((p0 &&& (2147483647 : Int32)) % (7 : Int32))), .val (.ref (own_pk ((p0 &&& (2147483647 : Int32)) % (7 : Int32)) w0 w1 w2 w3 w4 w5 w6)), .unset] [(.int (1 : Int32))])) t
      refine XS.istoreN X46.here hx rfl (hb hby at_28) rfl (l' := #[.val (.int p0), .val (.int ((p0 &&& (2147483647 : Int32)) % (7 : Int32))), .val (.ref (own_pk ((p0 &&& (2147483647 : Int32)) % (7 : Int32)) w0 w1 w2 w3 w4 w5 w6)), .val (.int (1 : Int32))]) rfl ?_
      show Steps p.tables e below (T46.setTop (mkF m 29 #[.val (.int p0), .val (.int ((p0 &&& (2147483647 : Int32)) % (7 : Int32))), .val (.ref (own_pk ((p0 &&& (2147483647 : Int32)) % (7 : Int32)) w0 w1 w2 w3 w4 w5 w6)), .val (.int (1 : Int32))] [])) t
      refine XS.aloadN X46.here hx rfl (hb hby at_29) rfl rfl ?_
      exact kk
    obtain ⟨cq50, kq50, q50a, q50b, q50c⟩ := isOf hZ eq46 (own_all (P := fun z => Exa Z h0 z "com/example/ordered_ledger_store/orderedledgerstore/protocol/Status") E_w0 E_w1 E_w2 E_w3 E_w4 E_w5 E_w6 ((p0 &&& (2147483647 : Int32)) % (7 : Int32)))
    obtain ⟨_, _, ⟨T50, L50, k50, n50⟩, -, X50, ⟨Lc50, hQ50, l50, y50, z50⟩, st50⟩ := X46.virtualBack hx (y := (⟨"com/example/ordered_ledger_store/orderedledgerstore/protocol/Status", "isExplicitNegative", "()Z"⟩ : MethodName)) (z := (⟨"com/example/ordered_ledger_store/orderedledgerstore/protocol/Status", "isExplicitNegative", "()Z"⟩ : MethodName)) hown (mvT hZ (hw _ (List.mem_of_getElem? (i := 8) rfl))) (mvT hZ (hw _ (List.mem_of_getElem? (i := 9) rfl))) (notFace_of_selects (args := #[]) (mvT hZ (hw _ (List.mem_of_getElem? (i := 11) rfl)))) (mvT hZ (hw _ (List.mem_of_getElem? (i := 11) rfl))) (mvT hZ (hw _ (List.mem_of_getElem? (i := 10) rfl))) (by decide) (backOf (W := 0) (rm_neg l Z a0 hw [] (own_pk ((p0 &&& (2147483647 : Int32)) % (7 : Int32)) w0 w1 w2 w3 w4 w5 w6) w1 w2 h0 n0 Z0 S_w1 S_w2) hZ (hw _ (List.mem_of_getElem? (i := 12) rfl)) (hw _ (List.mem_of_getElem? (i := 6) rfl)) (by decide) (by decide)) q50a q50c (g := (mkF m 30 #[.val (.int p0), .val (.int ((p0 &&& (2147483647 : Int32)) % (7 : Int32))), .val (.ref (own_pk ((p0 &&& (2147483647 : Int32)) % (7 : Int32)) w0 w1 w2 w3 w4 w5 w6)), .val (.int (1 : Int32))] [(.ref (own_pk ((p0 &&& (2147483647 : Int32)) % (7 : Int32)) w0 w1 w2 w3 w4 w5 w6))])) rfl (by rw [hml]; rfl) (Steps.refl _) (argsL := []) (rest := []) (lenOf pd___Z rfl) rfl (by show 2 * 0 + _ ≤ _; exact Nat.le_of_eq rfl) (hb hby at_30) (fun _ _ => ⟨rfl, eq46, (by decide : 0 + 0 ≤ _), (by decide : 0 + 0 ≤ _)⟩)
    dsimp only [Pt.U, Pt.locs, Pt.cells, Pt.slots] at X50 l50 y50 z50 st50 hQ50
    subst l50 y50 z50
    obtain ⟨rfl, Nq50, eq50⟩ := hQ50
    have N50 := Fr.app N46 Nq50
    have c51 : Goes p e below s₁ (entryFrame m #[(.int p0)] maxLocals) T50 (mkF m 33 #[.val (.int p0), .val (.int ((p0 &&& (2147483647 : Int32)) % (7 : Int32))), .val (.ref (own_pk ((p0 &&& (2147483647 : Int32)) % (7 : Int32)) w0 w1 w2 w3 w4 w5 w6)), .val (.int (1 : Int32))] [(.int (own_neg (own_pk ((p0 &&& (2147483647 : Int32)) % (7 : Int32)) w0 w1 w2 w3 w4 w5 w6) w1 w2))]) := fun t kk => c49 t (st50.trans kk)
    have c52 : Goes p e below s₁ (entryFrame m #[(.int p0)] maxLocals) T50 (mkF m 42 #[.val (.int p0), .val (.int ((p0 &&& (2147483647 : Int32)) % (7 : Int32))), .val (.ref (own_pk ((p0 &&& (2147483647 : Int32)) % (7 : Int32)) w0 w1 w2 w3 w4 w5 w6)), .val (.int (1 : Int32))] [(.int (1 : Int32))]) := by
      intro t kk
      refine c51 t ?_
      show Steps p.tables e below (T50.setTop (mkF m 33 #[.val (.int p0), .val (.int ((p0 &&& (2147483647 : Int32)) % (7 : Int32))), .val (.ref (own_pk ((p0 &&& (2147483647 : Int32)) % (7 : Int32)) w0 w1 w2 w3 w4 w5 w6)), .val (.int (1 : Int32))] [(.int (own_neg (own_pk ((p0 &&& (2147483647 : Int32)) % (7 : Int32)) w0 w1 w2 w3 w4 w5 w6) w1 w2))])) t
      refine XS.iloadN X50.here hx rfl (hb hby at_33) rfl ?_
      show Steps p.tables e below (T50.setTop (mkF m 34 #[.val (.int p0), .val (.int ((p0 &&& (2147483647 : Int32)) % (7 : Int32))), .val (.ref (own_pk ((p0 &&& (2147483647 : Int32)) % (7 : Int32)) w0 w1 w2 w3 w4 w5 w6)), .val (.int (1 : Int32))] [(.int (1 : Int32)), (.int (own_neg (own_pk ((p0 &&& (2147483647 : Int32)) % (7 : Int32)) w0 w1 w2 w3 w4 w5 w6) w1 w2))])) t
      refine XS.icmpNo X50.here hx rfl (hb hby at_34) rfl (teq (by rw [own_law _ d01 d02 d31 d32 d41 d42 d51 d52 d61 d62]; simp [own_ex, h15])).2 ?_
      show Steps p.tables e below (T50.setTop (mkF m 37 #[.val (.int p0), .val (.int ((p0 &&& (2147483647 : Int32)) % (7 : Int32))), .val (.ref (own_pk ((p0 &&& (2147483647 : Int32)) % (7 : Int32)) w0 w1 w2 w3 w4 w5 w6)), .val (.int (1 : Int32))] [])) t
      refine XS.iconst X50.here hx rfl (hb hby at_37) ?_
      show Steps p.tables e below (T50.setTop (mkF m 38 #[.val (.int p0), .val (.int ((p0 &&& (2147483647 : Int32)) % (7 : Int32))), .val (.ref (own_pk ((p0 &&& (2147483647 : Int32)) % (7 : Int32)) w0 w1 w2 w3 w4 w5 w6)), .val (.int (1 : Int32))] [(.int (1 : Int32))])) t
      refine XS.goto X50.here hx rfl (pc0 := 38) (pc' := 42) rfl (hb hby at_38) (by decide) (by decide) ?_
      exact kk
    obtain ⟨fs, hr, hrun, hended, hW, hsame⟩ := X50.leave (v := some (.int (1 : Int32))) (fun h => by rw [Bd.returns] at h; cases h)
    refine ⟨_, _, c52 _ ?_, hrun, hended, _, _, rfl, ?_, ⟨_, rfl⟩, hW, hsame.mono (by decide) (by decide)⟩
    · exact retN X50 hx (t := .boolean) Bd.returns (by simp) (hb hby at_42) hr
    · show Q_law Z p0 w0 w1 w2 w3 w4 w5 w6 h0 n0 _ T50.heap _
      rw [eq50]
      exact ⟨rfl, N50⟩
  · have c53 : Goes p e below s₁ (entryFrame m #[(.int p0)] maxLocals) T46 (mkF m 20 #[.val (.int p0), .val (.int ((p0 &&& (2147483647 : Int32)) % (7 : Int32))), .val (.ref (own_pk ((p0 &&& (2147483647 : Int32)) % (7 : Int32)) w0 w1 w2 w3 w4 w5 w6)), .unset] [(.int (2 : Int32)), (.int ((p0 &&& (2147483647 : Int32)) % (7 : Int32)))]) := by
      intro t kk
      refine c48 t ?_
      show Steps p.tables e below (T46.setTop (mkF m 15 #[.val (.int p0), .val (.int ((p0 &&& (2147483647 : Int32)) % (7 : Int32))), .val (.ref (own_pk ((p0 &&& (2147483647 : Int32)) % (7 : Int32)) w0 w1 w2 w3 w4 w5 w6)), .unset] [(.int (1 : Int32)), (.int ((p0 &&& (2147483647 : Int32)) % (7 : Int32)))])) t
      refine XS.icmpNo X46.here hx rfl (hb hby at_15) rfl (feq h15).1 ?_
      show Steps p.tables e below (T46.setTop (mkF m 18 #[.val (.int p0), .val (.int ((p0 &&& (2147483647 : Int32)) % (7 : Int32))), .val (.ref (own_pk ((p0 &&& (2147483647 : Int32)) % (7 : Int32)) w0 w1 w2 w3 w4 w5 w6)), .unset] [])) t
      refine XS.iloadN X46.here hx rfl (hb hby at_18) rfl ?_
      show Steps p.tables e below (T46.setTop (mkF m 19 #[.val (.int p0), .val (.int ((p0 &&& (2147483647 : Int32)) % (7 : Int32))), .val (.ref (own_pk ((p0 &&& (2147483647 : Int32)) % (7 : Int32)) w0 w1 w2 w3 w4 w5 w6)), .unset] [(.int ((p0 &&& (2147483647 : Int32)) % (7 : Int32)))])) t
      refine XS.iconst X46.here hx rfl (hb hby at_19) ?_
      exact kk
    by_cases h20 : ((p0 &&& (2147483647 : Int32)) % (7 : Int32)) = (2 : Int32)
    · have c54 : Goes p e below s₁ (entryFrame m #[(.int p0)] maxLocals) T46 (mkF m 30 #[.val (.int p0), .val (.int ((p0 &&& (2147483647 : Int32)) % (7 : Int32))), .val (.ref (own_pk ((p0 &&& (2147483647 : Int32)) % (7 : Int32)) w0 w1 w2 w3 w4 w5 w6)), .val (.int (1 : Int32))] [(.ref (own_pk ((p0 &&& (2147483647 : Int32)) % (7 : Int32)) w0 w1 w2 w3 w4 w5 w6))]) := by
        intro t kk
        refine c53 t ?_
        show Steps p.tables e below (T46.setTop (mkF m 20 #[.val (.int p0), .val (.int ((p0 &&& (2147483647 : Int32)) % (7 : Int32))), .val (.ref (own_pk ((p0 &&& (2147483647 : Int32)) % (7 : Int32)) w0 w1 w2 w3 w4 w5 w6)), .unset] [(.int (2 : Int32)), (.int ((p0 &&& (2147483647 : Int32)) % (7 : Int32)))])) t
        refine XS.icmpNo X46.here hx rfl (hb hby at_20) rfl (teq h20).2 ?_
        show Steps p.tables e below (T46.setTop (mkF m 23 #[.val (.int p0), .val (.int ((p0 &&& (2147483647 : Int32)) % (7 : Int32))), .val (.ref (own_pk ((p0 &&& (2147483647 : Int32)) % (7 : Int32)) w0 w1 w2 w3 w4 w5 w6)), .unset] [])) t
        refine XS.iconst X46.here hx rfl (hb hby at_23) ?_
        show Steps p.tables e below (T46.setTop (mkF m 24 #[.val (.int p0), .val (.int ((p0 &&& (2147483647 : Int32)) % (7 : Int32))), .val (.ref (own_pk ((p0 &&& (2147483647 : Int32)) % (7 : Int32)) w0 w1 w2 w3 w4 w5 w6)), .unset] [(.int (1 : Int32))])) t
        refine XS.goto X46.here hx rfl (pc0 := 24) (pc' := 28) rfl (hb hby at_24) (by decide) (by decide) ?_
        show Steps p.tables e below (T46.setTop (mkF m 28 #[.val (.int p0), .val (.int ((p0 &&& (2147483647 : Int32)) % (7 : Int32))), .val (.ref (own_pk ((p0 &&& (2147483647 : Int32)) % (7 : Int32)) w0 w1 w2 w3 w4 w5 w6)), .unset] [(.int (1 : Int32))])) t
        refine XS.istoreN X46.here hx rfl (hb hby at_28) rfl (l' := #[.val (.int p0), .val (.int ((p0 &&& (2147483647 : Int32)) % (7 : Int32))), .val (.ref (own_pk ((p0 &&& (2147483647 : Int32)) % (7 : Int32)) w0 w1 w2 w3 w4 w5 w6)), .val (.int (1 : Int32))]) rfl ?_
        show Steps p.tables e below (T46.setTop (mkF m 29 #[.val (.int p0), .val (.int ((p0 &&& (2147483647 : Int32)) % (7 : Int32))), .val (.ref (own_pk ((p0 &&& (2147483647 : Int32)) % (7 : Int32)) w0 w1 w2 w3 w4 w5 w6)), .val (.int (1 : Int32))] [])) t
        refine XS.aloadN X46.here hx rfl (hb hby at_29) rfl rfl ?_
        exact kk
      obtain ⟨cq55, kq55, q55a, q55b, q55c⟩ := isOf hZ eq46 (own_all (P := fun z => Exa Z h0 z "com/example/ordered_ledger_store/orderedledgerstore/protocol/Status") E_w0 E_w1 E_w2 E_w3 E_w4 E_w5 E_w6 ((p0 &&& (2147483647 : Int32)) % (7 : Int32)))
      obtain ⟨_, _, ⟨T55, L55, k55, n55⟩, -, X55, ⟨Lc55, hQ55, l55, y55, z55⟩, st55⟩ := X46.virtualBack hx (y := (⟨"com/example/ordered_ledger_store/orderedledgerstore/protocol/Status", "isExplicitNegative", "()Z"⟩ : MethodName)) (z := (⟨"com/example/ordered_ledger_store/orderedledgerstore/protocol/Status", "isExplicitNegative", "()Z"⟩ : MethodName)) hown (mvT hZ (hw _ (List.mem_of_getElem? (i := 8) rfl))) (mvT hZ (hw _ (List.mem_of_getElem? (i := 9) rfl))) (notFace_of_selects (args := #[]) (mvT hZ (hw _ (List.mem_of_getElem? (i := 11) rfl)))) (mvT hZ (hw _ (List.mem_of_getElem? (i := 11) rfl))) (mvT hZ (hw _ (List.mem_of_getElem? (i := 10) rfl))) (by decide) (backOf (W := 0) (rm_neg l Z a0 hw [] (own_pk ((p0 &&& (2147483647 : Int32)) % (7 : Int32)) w0 w1 w2 w3 w4 w5 w6) w1 w2 h0 n0 Z0 S_w1 S_w2) hZ (hw _ (List.mem_of_getElem? (i := 12) rfl)) (hw _ (List.mem_of_getElem? (i := 6) rfl)) (by decide) (by decide)) q55a q55c (g := (mkF m 30 #[.val (.int p0), .val (.int ((p0 &&& (2147483647 : Int32)) % (7 : Int32))), .val (.ref (own_pk ((p0 &&& (2147483647 : Int32)) % (7 : Int32)) w0 w1 w2 w3 w4 w5 w6)), .val (.int (1 : Int32))] [(.ref (own_pk ((p0 &&& (2147483647 : Int32)) % (7 : Int32)) w0 w1 w2 w3 w4 w5 w6))])) rfl (by rw [hml]; rfl) (Steps.refl _) (argsL := []) (rest := []) (lenOf pd___Z rfl) rfl (by show 2 * 0 + _ ≤ _; exact Nat.le_of_eq rfl) (hb hby at_30) (fun _ _ => ⟨rfl, eq46, (by decide : 0 + 0 ≤ _), (by decide : 0 + 0 ≤ _)⟩)
      dsimp only [Pt.U, Pt.locs, Pt.cells, Pt.slots] at X55 l55 y55 z55 st55 hQ55
      subst l55 y55 z55
      obtain ⟨rfl, Nq55, eq55⟩ := hQ55
      have N55 := Fr.app N46 Nq55
      have c56 : Goes p e below s₁ (entryFrame m #[(.int p0)] maxLocals) T55 (mkF m 33 #[.val (.int p0), .val (.int ((p0 &&& (2147483647 : Int32)) % (7 : Int32))), .val (.ref (own_pk ((p0 &&& (2147483647 : Int32)) % (7 : Int32)) w0 w1 w2 w3 w4 w5 w6)), .val (.int (1 : Int32))] [(.int (own_neg (own_pk ((p0 &&& (2147483647 : Int32)) % (7 : Int32)) w0 w1 w2 w3 w4 w5 w6) w1 w2))]) := fun t kk => c54 t (st55.trans kk)
      have c57 : Goes p e below s₁ (entryFrame m #[(.int p0)] maxLocals) T55 (mkF m 42 #[.val (.int p0), .val (.int ((p0 &&& (2147483647 : Int32)) % (7 : Int32))), .val (.ref (own_pk ((p0 &&& (2147483647 : Int32)) % (7 : Int32)) w0 w1 w2 w3 w4 w5 w6)), .val (.int (1 : Int32))] [(.int (1 : Int32))]) := by
        intro t kk
        refine c56 t ?_
        show Steps p.tables e below (T55.setTop (mkF m 33 #[.val (.int p0), .val (.int ((p0 &&& (2147483647 : Int32)) % (7 : Int32))), .val (.ref (own_pk ((p0 &&& (2147483647 : Int32)) % (7 : Int32)) w0 w1 w2 w3 w4 w5 w6)), .val (.int (1 : Int32))] [(.int (own_neg (own_pk ((p0 &&& (2147483647 : Int32)) % (7 : Int32)) w0 w1 w2 w3 w4 w5 w6) w1 w2))])) t
        refine XS.iloadN X55.here hx rfl (hb hby at_33) rfl ?_
        show Steps p.tables e below (T55.setTop (mkF m 34 #[.val (.int p0), .val (.int ((p0 &&& (2147483647 : Int32)) % (7 : Int32))), .val (.ref (own_pk ((p0 &&& (2147483647 : Int32)) % (7 : Int32)) w0 w1 w2 w3 w4 w5 w6)), .val (.int (1 : Int32))] [(.int (1 : Int32)), (.int (own_neg (own_pk ((p0 &&& (2147483647 : Int32)) % (7 : Int32)) w0 w1 w2 w3 w4 w5 w6) w1 w2))])) t
        refine XS.icmpNo X55.here hx rfl (hb hby at_34) rfl (teq (by rw [own_law _ d01 d02 d31 d32 d41 d42 d51 d52 d61 d62]; simp [own_ex, h15, h20])).2 ?_
        show Steps p.tables e below (T55.setTop (mkF m 37 #[.val (.int p0), .val (.int ((p0 &&& (2147483647 : Int32)) % (7 : Int32))), .val (.ref (own_pk ((p0 &&& (2147483647 : Int32)) % (7 : Int32)) w0 w1 w2 w3 w4 w5 w6)), .val (.int (1 : Int32))] [])) t
        refine XS.iconst X55.here hx rfl (hb hby at_37) ?_
        show Steps p.tables e below (T55.setTop (mkF m 38 #[.val (.int p0), .val (.int ((p0 &&& (2147483647 : Int32)) % (7 : Int32))), .val (.ref (own_pk ((p0 &&& (2147483647 : Int32)) % (7 : Int32)) w0 w1 w2 w3 w4 w5 w6)), .val (.int (1 : Int32))] [(.int (1 : Int32))])) t
        refine XS.goto X55.here hx rfl (pc0 := 38) (pc' := 42) rfl (hb hby at_38) (by decide) (by decide) ?_
        exact kk
      obtain ⟨fs, hr, hrun, hended, hW, hsame⟩ := X55.leave (v := some (.int (1 : Int32))) (fun h => by rw [Bd.returns] at h; cases h)
      refine ⟨_, _, c57 _ ?_, hrun, hended, _, _, rfl, ?_, ⟨_, rfl⟩, hW, hsame.mono (by decide) (by decide)⟩
      · exact retN X55 hx (t := .boolean) Bd.returns (by simp) (hb hby at_42) hr
      · show Q_law Z p0 w0 w1 w2 w3 w4 w5 w6 h0 n0 _ T55.heap _
        rw [eq55]
        exact ⟨rfl, N55⟩
    · have c58 : Goes p e below s₁ (entryFrame m #[(.int p0)] maxLocals) T46 (mkF m 30 #[.val (.int p0), .val (.int ((p0 &&& (2147483647 : Int32)) % (7 : Int32))), .val (.ref (own_pk ((p0 &&& (2147483647 : Int32)) % (7 : Int32)) w0 w1 w2 w3 w4 w5 w6)), .val (.int (0 : Int32))] [(.ref (own_pk ((p0 &&& (2147483647 : Int32)) % (7 : Int32)) w0 w1 w2 w3 w4 w5 w6))]) := by
        intro t kk
        refine c53 t ?_
        show Steps p.tables e below (T46.setTop (mkF m 20 #[.val (.int p0), .val (.int ((p0 &&& (2147483647 : Int32)) % (7 : Int32))), .val (.ref (own_pk ((p0 &&& (2147483647 : Int32)) % (7 : Int32)) w0 w1 w2 w3 w4 w5 w6)), .unset] [(.int (2 : Int32)), (.int ((p0 &&& (2147483647 : Int32)) % (7 : Int32)))])) t
        refine XS.icmpYes X46.here hx rfl (pc0 := 20) (pc' := 27) rfl (hb hby at_20) rfl (feq h20).2 (by decide) (by decide) ?_
        show Steps p.tables e below (T46.setTop (mkF m 27 #[.val (.int p0), .val (.int ((p0 &&& (2147483647 : Int32)) % (7 : Int32))), .val (.ref (own_pk ((p0 &&& (2147483647 : Int32)) % (7 : Int32)) w0 w1 w2 w3 w4 w5 w6)), .unset] [])) t
        refine XS.iconst X46.here hx rfl (hb hby at_27) ?_
        show Steps p.tables e below (T46.setTop (mkF m 28 #[.val (.int p0), .val (.int ((p0 &&& (2147483647 : Int32)) % (7 : Int32))), .val (.ref (own_pk ((p0 &&& (2147483647 : Int32)) % (7 : Int32)) w0 w1 w2 w3 w4 w5 w6)), .unset] [(.int (0 : Int32))])) t
        refine XS.istoreN X46.here hx rfl (hb hby at_28) rfl (l' := #[.val (.int p0), .val (.int ((p0 &&& (2147483647 : Int32)) % (7 : Int32))), .val (.ref (own_pk ((p0 &&& (2147483647 : Int32)) % (7 : Int32)) w0 w1 w2 w3 w4 w5 w6)), .val (.int (0 : Int32))]) rfl ?_
        show Steps p.tables e below (T46.setTop (mkF m 29 #[.val (.int p0), .val (.int ((p0 &&& (2147483647 : Int32)) % (7 : Int32))), .val (.ref (own_pk ((p0 &&& (2147483647 : Int32)) % (7 : Int32)) w0 w1 w2 w3 w4 w5 w6)), .val (.int (0 : Int32))] [])) t
        refine XS.aloadN X46.here hx rfl (hb hby at_29) rfl rfl ?_
        exact kk
      obtain ⟨cq59, kq59, q59a, q59b, q59c⟩ := isOf hZ eq46 (own_all (P := fun z => Exa Z h0 z "com/example/ordered_ledger_store/orderedledgerstore/protocol/Status") E_w0 E_w1 E_w2 E_w3 E_w4 E_w5 E_w6 ((p0 &&& (2147483647 : Int32)) % (7 : Int32)))
      obtain ⟨_, _, ⟨T59, L59, k59, n59⟩, -, X59, ⟨Lc59, hQ59, l59, y59, z59⟩, st59⟩ := X46.virtualBack hx (y := (⟨"com/example/ordered_ledger_store/orderedledgerstore/protocol/Status", "isExplicitNegative", "()Z"⟩ : MethodName)) (z := (⟨"com/example/ordered_ledger_store/orderedledgerstore/protocol/Status", "isExplicitNegative", "()Z"⟩ : MethodName)) hown (mvT hZ (hw _ (List.mem_of_getElem? (i := 8) rfl))) (mvT hZ (hw _ (List.mem_of_getElem? (i := 9) rfl))) (notFace_of_selects (args := #[]) (mvT hZ (hw _ (List.mem_of_getElem? (i := 11) rfl)))) (mvT hZ (hw _ (List.mem_of_getElem? (i := 11) rfl))) (mvT hZ (hw _ (List.mem_of_getElem? (i := 10) rfl))) (by decide) (backOf (W := 0) (rm_neg l Z a0 hw [] (own_pk ((p0 &&& (2147483647 : Int32)) % (7 : Int32)) w0 w1 w2 w3 w4 w5 w6) w1 w2 h0 n0 Z0 S_w1 S_w2) hZ (hw _ (List.mem_of_getElem? (i := 12) rfl)) (hw _ (List.mem_of_getElem? (i := 6) rfl)) (by decide) (by decide)) q59a q59c (g := (mkF m 30 #[.val (.int p0), .val (.int ((p0 &&& (2147483647 : Int32)) % (7 : Int32))), .val (.ref (own_pk ((p0 &&& (2147483647 : Int32)) % (7 : Int32)) w0 w1 w2 w3 w4 w5 w6)), .val (.int (0 : Int32))] [(.ref (own_pk ((p0 &&& (2147483647 : Int32)) % (7 : Int32)) w0 w1 w2 w3 w4 w5 w6))])) rfl (by rw [hml]; rfl) (Steps.refl _) (argsL := []) (rest := []) (lenOf pd___Z rfl) rfl (by show 2 * 0 + _ ≤ _; exact Nat.le_of_eq rfl) (hb hby at_30) (fun _ _ => ⟨rfl, eq46, (by decide : 0 + 0 ≤ _), (by decide : 0 + 0 ≤ _)⟩)
      dsimp only [Pt.U, Pt.locs, Pt.cells, Pt.slots] at X59 l59 y59 z59 st59 hQ59
      subst l59 y59 z59
      obtain ⟨rfl, Nq59, eq59⟩ := hQ59
      have N59 := Fr.app N46 Nq59
      have c60 : Goes p e below s₁ (entryFrame m #[(.int p0)] maxLocals) T59 (mkF m 33 #[.val (.int p0), .val (.int ((p0 &&& (2147483647 : Int32)) % (7 : Int32))), .val (.ref (own_pk ((p0 &&& (2147483647 : Int32)) % (7 : Int32)) w0 w1 w2 w3 w4 w5 w6)), .val (.int (0 : Int32))] [(.int (own_neg (own_pk ((p0 &&& (2147483647 : Int32)) % (7 : Int32)) w0 w1 w2 w3 w4 w5 w6) w1 w2))]) := fun t kk => c58 t (st59.trans kk)
      have c61 : Goes p e below s₁ (entryFrame m #[(.int p0)] maxLocals) T59 (mkF m 42 #[.val (.int p0), .val (.int ((p0 &&& (2147483647 : Int32)) % (7 : Int32))), .val (.ref (own_pk ((p0 &&& (2147483647 : Int32)) % (7 : Int32)) w0 w1 w2 w3 w4 w5 w6)), .val (.int (0 : Int32))] [(.int (1 : Int32))]) := by
        intro t kk
        refine c60 t ?_
        show Steps p.tables e below (T59.setTop (mkF m 33 #[.val (.int p0), .val (.int ((p0 &&& (2147483647 : Int32)) % (7 : Int32))), .val (.ref (own_pk ((p0 &&& (2147483647 : Int32)) % (7 : Int32)) w0 w1 w2 w3 w4 w5 w6)), .val (.int (0 : Int32))] [(.int (own_neg (own_pk ((p0 &&& (2147483647 : Int32)) % (7 : Int32)) w0 w1 w2 w3 w4 w5 w6) w1 w2))])) t
        refine XS.iloadN X59.here hx rfl (hb hby at_33) rfl ?_
        show Steps p.tables e below (T59.setTop (mkF m 34 #[.val (.int p0), .val (.int ((p0 &&& (2147483647 : Int32)) % (7 : Int32))), .val (.ref (own_pk ((p0 &&& (2147483647 : Int32)) % (7 : Int32)) w0 w1 w2 w3 w4 w5 w6)), .val (.int (0 : Int32))] [(.int (0 : Int32)), (.int (own_neg (own_pk ((p0 &&& (2147483647 : Int32)) % (7 : Int32)) w0 w1 w2 w3 w4 w5 w6) w1 w2))])) t
        refine XS.icmpNo X59.here hx rfl (hb hby at_34) rfl (teq (by rw [own_law _ d01 d02 d31 d32 d41 d42 d51 d52 d61 d62]; simp [own_ex, h15, h20])).2 ?_
        show Steps p.tables e below (T59.setTop (mkF m 37 #[.val (.int p0), .val (.int ((p0 &&& (2147483647 : Int32)) % (7 : Int32))), .val (.ref (own_pk ((p0 &&& (2147483647 : Int32)) % (7 : Int32)) w0 w1 w2 w3 w4 w5 w6)), .val (.int (0 : Int32))] [])) t
        refine XS.iconst X59.here hx rfl (hb hby at_37) ?_
        show Steps p.tables e below (T59.setTop (mkF m 38 #[.val (.int p0), .val (.int ((p0 &&& (2147483647 : Int32)) % (7 : Int32))), .val (.ref (own_pk ((p0 &&& (2147483647 : Int32)) % (7 : Int32)) w0 w1 w2 w3 w4 w5 w6)), .val (.int (0 : Int32))] [(.int (1 : Int32))])) t
        refine XS.goto X59.here hx rfl (pc0 := 38) (pc' := 42) rfl (hb hby at_38) (by decide) (by decide) ?_
        exact kk
      obtain ⟨fs, hr, hrun, hended, hW, hsame⟩ := X59.leave (v := some (.int (1 : Int32))) (fun h => by rw [Bd.returns] at h; cases h)
      refine ⟨_, _, c61 _ ?_, hrun, hended, _, _, rfl, ?_, ⟨_, rfl⟩, hW, hsame.mono (by decide) (by decide)⟩
      · exact retN X59 hx (t := .boolean) Bd.returns (by simp) (hb hby at_42) hr
      · show Q_law Z p0 w0 w1 w2 w3 w4 w5 w6 h0 n0 _ T59.heap _
        rw [eq59]
        exact ⟨rfl, N59⟩
set_option maxRecDepth 65536 in
set_option maxHeartbeats 40000000 in
theorem comes_1 {Post : Tables → Env → Array Value → State → Outcome → State → Prop} (hpost : ∀ tb e args s v u, (limb_1_1.after args s (.returned v) u = true ∧ limb_1_2.after args s (.returned v) u = true ∧ True) → FrameEnd s (.returned v) u (Jvm.fieldLocs frame_1_writes args s ++ Jvm.arrayLocs frame_1_arrays args s ++ Jvm.staticLocs frame_1_statics s) 0 0 → Post tb e args s (.returned v) u) :
    ArmFor flags0 classFile x code maxLocals ret World_1 tables_1 room_1 Calls_1 rest_1 Pre_1 Post := by
  intro l hfl _ _ p e ha hc hk s m args below hf hA hF happ hP
  obtain ⟨hcalls, hrest, hpre⟩ := hP
  obtain ⟨-, -, -, hnamed, -, -, -, hat⟩ := (Spec.applies_iff hf).mp happ
  obtain ⟨hg, hn⟩ := and_e (Cond.before_iff.mp (show (Jvm.Cond.and given_1 narrow_1).before args s = true from hpre))
  obtain ⟨gg1, gg2⟩ := and_e hg
  obtain ⟨w0, rfl⟩ : ∃ w0 : Value, args = #[w0] := by
    have hs : args.size = 1 := by simpa [Cond.value, given_1] using gg1
    obtain ⟨L⟩ := args
    match L, hs with
    | [w0], _ => exact ⟨w0, rfl⟩
  have hw := fun d (hd : d ∈ tables_1) => atoms_spec (ws := Jvm.Cond.code x code maxLocals ret :: tables_1) hat d (List.mem_cons_of_mem _ hd)
  have hfit : Fit s := fun {y c} hc i hi => by
    obtain ⟨ha, rfl⟩ := Array.getElem?_eq_some_iff.mp hc
    have q := List.all_eq_true.mp ((Array.all_eq_true_iff_forall_mem.mp hF) _ (Array.getElem_mem ha)) i (List.mem_range.mpr hi)
    simpa [Array.getElem?_eq_getElem hi] using q
  obtain ⟨i0, ei0⟩ := is_v gg2
  obtain rfl : w0 = (.int i0) := Option.some.inj ei0
  obtain ⟨nn1, nn2⟩ := and_e hn
  obtain ⟨nn3, nn4⟩ := and_e nn2
  obtain ⟨nn5, nn6⟩ := and_e nn4
  obtain ⟨nn7, nn8⟩ := and_e nn6
  obtain ⟨nn9, nn10⟩ := and_e nn8
  obtain ⟨nn11, nn12⟩ := and_e nn10
  obtain ⟨nn13, nn14⟩ := and_e nn12
  obtain ⟨nn15, nn16⟩ := and_e nn14
  obtain ⟨nn17, nn18⟩ := and_e nn16
  obtain ⟨nn19, nn20⟩ := and_e nn18
  obtain ⟨nn21, nn22⟩ := and_e nn20
  obtain ⟨nn23, nn24⟩ := and_e nn22
  obtain ⟨nn25, nn26⟩ := and_e nn24
  obtain ⟨w0, v_w0⟩ := exa_v nn1
  have E_w0 := Exa.start v_w0 nn1
  have S_w0 := Sta.start v_w0 (Or.inr ⟨hw _ (List.mem_of_getElem? (i := 6) rfl), hw _ (List.mem_of_getElem? (i := 7) rfl)⟩)
  have F_w0 := own_fldI v_w0 nn5
  obtain ⟨w1, v_w1⟩ := exa_v nn3
  have E_w1 := Exa.start v_w1 nn3
  have S_w1 := Sta.start v_w1 (Or.inr ⟨hw _ (List.mem_of_getElem? (i := 6) rfl), hw _ (List.mem_of_getElem? (i := 14) rfl)⟩)
  have F_w1 := own_fldI v_w1 nn7
  obtain ⟨w2, v_w2⟩ := exa_v nn9
  have E_w2 := Exa.start v_w2 nn9
  have S_w2 := Sta.start v_w2 (Or.inr ⟨hw _ (List.mem_of_getElem? (i := 6) rfl), hw _ (List.mem_of_getElem? (i := 16) rfl)⟩)
  have F_w2 := own_fldI v_w2 nn11
  obtain ⟨w3, v_w3⟩ := exa_v nn13
  have E_w3 := Exa.start v_w3 nn13
  have S_w3 := Sta.start v_w3 (Or.inr ⟨hw _ (List.mem_of_getElem? (i := 6) rfl), hw _ (List.mem_of_getElem? (i := 18) rfl)⟩)
  have F_w3 := own_fldI v_w3 nn15
  obtain ⟨w4, v_w4⟩ := exa_v nn25
  have E_w4 := Exa.start v_w4 nn25
  have S_w4 := Sta.start v_w4 (Or.inr ⟨hw _ (List.mem_of_getElem? (i := 6) rfl), hw _ (List.mem_of_getElem? (i := 24) rfl)⟩)
  have F_w4 := own_fldI v_w4 nn26
  obtain ⟨w5, v_w5⟩ := exa_v nn17
  have E_w5 := Exa.start v_w5 nn17
  have S_w5 := Sta.start v_w5 (Or.inr ⟨hw _ (List.mem_of_getElem? (i := 6) rfl), hw _ (List.mem_of_getElem? (i := 20) rfl)⟩)
  have F_w5 := own_fldI v_w5 nn19
  obtain ⟨w6, v_w6⟩ := exa_v nn21
  have E_w6 := Exa.start v_w6 nn21
  have S_w6 := Sta.start v_w6 (Or.inr ⟨hw _ (List.mem_of_getElem? (i := 6) rfl), hw _ (List.mem_of_getElem? (i := 22) rfl)⟩)
  have F_w6 := own_fldI v_w6 nn23
  obtain ⟨n, o, h1, h2, h3, _, L, rfl, ⟨rfl, N⟩, hq⟩ := rm_law l s _ hw tables_1 i0 w0 w1 w2 w3 w4 w5 w6 s.heap s.heap.size (Nat.le_refl _) S_w0 S_w1 S_w2 S_w3 S_w4 S_w5 S_w6 E_w0 E_w1 E_w2 E_w3 E_w4 E_w5 E_w6 (F_w0.ne F_w1 (by decide)) (F_w0.ne F_w2 (by decide)) (F_w3.ne F_w1 (by decide)) (F_w3.ne F_w2 (by decide)) (F_w4.ne F_w1 (by decide)) (F_w4.ne F_w2 (by decide)) (F_w5.ne F_w1 (by decide)) (F_w5.ne F_w2 (by decide)) (F_w6.ne F_w1 (by decide)) (F_w6.ne F_w2 (by decide)) p e ha hc hk s m _ below hf ((Spec.applies_iff_loose hf).mp happ).1 ⟨rfl, State.Warmed39.refl s, rfl⟩ trivial
  refine ⟨n, _, h1, h2, h3, hpost _ _ _ _ _ _ ⟨Cond.after_iff.mpr rfl, Cond.after_iff.mpr (eq_i res_at (Term.int_eval (1)) rfl), trivial⟩ ⟨hq.1, hq.2.1, (hq.2.2.sift fun y hy => Or.inr (N y hy)).mono (by decide) (by decide)⟩⟩
theorem main_1_1 : Claimed_1_1 := comes_1 fun _ _ _ _ _ _ h hF => ⟨h.1, hF⟩
theorem main_1_2 : Claimed_1_2 := comes_1 fun _ _ _ _ _ _ h hF => ⟨h.2.1, hF⟩
end Jvm.Pilot.@@N@@
namespace Jvm.Pilot.@@N@@
open Jvm Jvm.ClassFile Sem Op Lib Jvm.Free Jvm.Stand Jvm.Pilot.@@N@@.Jvm.D
/-! MADE BY PROGRAM (witnessworld.py) out of the Statement's table words and the real class files: 12 classes; the members and pool entries that the words name. The judged class is class 1, her method 1. -/
namespace start1
open Jvm.ClassFile
def u (s : String) : CpInfo := .utf8 (stringToUtf16 s)
/-- a pool by its gaps: so many unusable entries, then the entry; so many at the end -/
def gap : Nat → List CpInfo → List CpInfo
  | 0, r => r
  | n + 1, r => .unusable :: gap n r
def poolList (es : List (Nat × CpInfo)) (last : Nat) : List CpInfo := es.foldr (fun e r => gap e.1 (e.2 :: r)) (gap last [])
def pool (es : List (Nat × CpInfo)) (last : Nat) : Array CpInfo := ⟨poolList es last⟩
def fileOf (pool : Array CpInfo) (this : Nat) (attrs : Array Attribute := #[]) (ms : Array MethodInfo := #[]) (fl : Nat := 33) (sup : Nat := 0) (ifs : Array Nat := #[]) (fds : Array FieldInfo := #[]) : ClassFile where
  minorVersion := 0
  majorVersion := 65
  constantPool := pool
  accessFlags := fl
  thisClass := this
  superClass := sup
  interfaces := ifs
  fields := fds
  methods := ms
  attributes := attrs
def plain (name : String) (sup : Option ClassId) : Class where
  name := name
  kind := .ordinary
  loader := none
  accessFlags := 33
  super := sup
  interfaces := #[]
  cf := none
  fields := #[]
  methods := #[]
  instanceTypes := #[]
  staticTypes := #[]
  resolved := #[]
  callSites := []
  init := .initialized
  statics := none
  mirror := none

def pool0 : Array CpInfo := pool [(5, u "<init>"), (0, u "()V"), (1, .class_ 10), (1, u "java/lang/Object")] 113

def k0m0 : Method := { name := "<init>", desc := "()V", sig := { parameters := [], returnType := none }, accessFlags := 1, code := none }
/-- java/lang/Object -/
def k0 : Class := { plain "java/lang/Object" none with
  accessFlags := 33
  interfaces := #[]
  cf := some (fileOf pool0 8 #[] #[{ accessFlags := 1, nameIndex := 5, descriptorIndex := 6, attributes := #[] }] 33 0 #[] #[])
  fields := #[]
  methods := #[k0m0]
  instanceTypes := #[]
  staticTypes := #[]
  resolved := Array.replicate 124 none
  statics := none }

def pool1 : Array CpInfo := pool [(2, .class_ 4), (1, u "java/lang/Object"), (0, u "<init>"), (0, u "()V"), (0, .integer 2147483647), (0, .methodref 9 10), (0, .class_ 11), (0, .nameAndType 12 13), (0, u "com/example/ordered_ledger_store/orderedledgerstore/protocol/StatusIsExplicitNegativePinLaw"), (0, u "pick"), (0, u "(I)Lcom/example/ordered_ledger_store/orderedledgerstore/protocol/Status;"), (0, .methodref 15 16), (0, .class_ 17), (0, .nameAndType 18 19), (0, u "com/example/ordered_ledger_store/orderedledgerstore/protocol/Status"), (0, u "isExplicitNegative"), (0, u "()Z"), (0, .fieldref 15 21), (0, .nameAndType 22 23), (0, u "OK"), (0, u "Lcom/example/ordered_ledger_store/orderedledgerstore/protocol/Status;"), (0, .fieldref 15 25), (0, .nameAndType 26 23), (0, u "NO_SUCH_LEDGER"), (0, .fieldref 15 28), (0, .nameAndType 29 23), (0, u "NO_SUCH_ENTRY"), (0, .fieldref 15 31), (0, .nameAndType 32 23), (0, u "FAILED"), (0, .fieldref 15 34), (0, .nameAndType 35 23), (0, u "FENCED"), (0, .fieldref 15 37), (0, .nameAndType 38 23), (0, u "INVALID"), (0, .fieldref 15 40), (0, .nameAndType 41 23), (0, u "UNAUTHORIZED"), (2, u "law"), (0, u "(I)Z")] 3

def k1m0 : Method := { name := "<init>", desc := "()V", sig := { parameters := [], returnType := none }, accessFlags := 1, code := none }
def k1c1 : Code := { maxStack := 2, maxLocals := 4, code := code, exceptionTable := #[], attributes := #[] }
def k1m1 : Method := { name := "law", desc := "(I)Z", sig := { parameters := [.int], returnType := some .boolean }, accessFlags := 9, code := some k1c1 }
def k1c2 : Code := { maxStack := 2, maxLocals := 1, code := method_3_code, exceptionTable := #[], attributes := #[] }
def k1m2 : Method := { name := "pick", desc := "(I)Lcom/example/ordered_ledger_store/orderedledgerstore/protocol/Status;", sig := { parameters := [.int], returnType := some (.object "com/example/ordered_ledger_store/orderedledgerstore/protocol/Status") }, accessFlags := 10, code := some k1c2 }
/-- com/example/ordered_ledger_store/orderedledgerstore/protocol/StatusIsExplicitNegativePinLaw -/
def k1 : Class := { plain "com/example/ordered_ledger_store/orderedledgerstore/protocol/StatusIsExplicitNegativePinLaw" (some 0) with
  accessFlags := 49
  interfaces := #[]
  cf := some (fileOf pool1 9 #[] #[{ accessFlags := 1, nameIndex := 5, descriptorIndex := 6, attributes := #[] }, { accessFlags := 9, nameIndex := 44, descriptorIndex := 45, attributes := #[] }, { accessFlags := 10, nameIndex := 12, descriptorIndex := 13, attributes := #[] }] 49 2 #[] #[])
  fields := #[]
  methods := #[k1m0, k1m1, k1m2]
  instanceTypes := #[]
  staticTypes := #[]
  resolved := Array.replicate 49 none
  statics := none }

def pool2 : Array CpInfo := pool [(1, .class_ 2), (0, u "java/lang/constant/Constable"), (0, .class_ 4), (0, u "java/lang/Object")] 6

/-- java/lang/constant/Constable -/
def k2 : Class := { plain "java/lang/constant/Constable" (some 0) with
  accessFlags := 1537
  interfaces := #[]
  cf := some (fileOf pool2 1 #[] #[] 1537 3 #[] #[])
  fields := #[]
  methods := #[]
  instanceTypes := #[]
  staticTypes := #[]
  resolved := Array.replicate 11 none
  statics := none }

def pool3 : Array CpInfo := pool [(1, .class_ 2), (0, u "java/lang/Comparable"), (0, .class_ 4), (0, u "java/lang/Object")] 7

/-- java/lang/Comparable -/
def k3 : Class := { plain "java/lang/Comparable" (some 0) with
  accessFlags := 1537
  interfaces := #[]
  cf := some (fileOf pool3 1 #[] #[] 1537 3 #[] #[])
  fields := #[]
  methods := #[]
  instanceTypes := #[]
  staticTypes := #[]
  resolved := Array.replicate 12 none
  statics := none }

def pool4 : Array CpInfo := pool [(1, .class_ 2), (0, u "java/io/Serializable"), (0, .class_ 4), (0, u "java/lang/Object")] 2

/-- java/io/Serializable -/
def k4 : Class := { plain "java/io/Serializable" (some 0) with
  accessFlags := 1537
  interfaces := #[]
  cf := some (fileOf pool4 1 #[] #[] 1537 3 #[] #[])
  fields := #[]
  methods := #[]
  instanceTypes := #[]
  staticTypes := #[]
  resolved := Array.replicate 7 none
  statics := none }

def pool5 : Array CpInfo := pool [(2, .class_ 4), (1, u "java/lang/Enum"), (0, u "name"), (0, u "Ljava/lang/String;"), (2, u "ordinal"), (0, u "I"), (1, .class_ 14), (1, u "java/lang/Object"), (4, u "hash"), (86, .class_ 108), (1, u "java/lang/Enum$EnumDesc"), (2, .class_ 112), (0, u "java/lang/constant/Constable"), (0, .class_ 114), (0, u "java/lang/Comparable"), (0, .class_ 116), (0, u "java/io/Serializable")] 87

/-- java/lang/Enum -/
def k5 : Class := { plain "java/lang/Enum" (some 0) with
  accessFlags := 1057
  interfaces := #[2, 3, 4]
  cf := some (fileOf pool5 2 #[.nestMembers #[106]] #[] 1057 12 #[111, 113, 115] #[{ accessFlags := 18, nameIndex := 5, descriptorIndex := 6, attributes := #[] }, { accessFlags := 18, nameIndex := 9, descriptorIndex := 10, attributes := #[] }, { accessFlags := 2, nameIndex := 19, descriptorIndex := 10, attributes := #[] }])
  fields := #[{ name := "name", type := (.object "java/lang/String"), accessFlags := 18, slot := 0, constantValue := 0 }, { name := "ordinal", type := .int, accessFlags := 18, slot := 1, constantValue := 0 }, { name := "hash", type := .int, accessFlags := 2, slot := 2, constantValue := 0 }]
  methods := #[]
  instanceTypes := #[(.object "java/lang/String"), .int, .int]
  staticTypes := #[]
  resolved := Array.replicate 204 none
  statics := none }

def pool6 : Array CpInfo := pool [(1, .class_ 2), (0, u "com/example/ordered_ledger_store/orderedledgerstore/protocol/Status"), (2, u "OK"), (0, u "Lcom/example/ordered_ledger_store/orderedledgerstore/protocol/Status;"), (0, .fieldref 1 8), (0, .nameAndType 9 6), (0, u "NO_SUCH_LEDGER"), (0, .fieldref 1 11), (0, .nameAndType 12 6), (0, u "NO_SUCH_ENTRY"), (2, u "FAILED"), (2, u "FENCED"), (2, u "INVALID"), (2, u "UNAUTHORIZED"), (2, u "$VALUES"), (0, u "[Lcom/example/ordered_ledger_store/orderedledgerstore/protocol/Status;"), (6, .class_ 37), (1, u "java/lang/Enum"), (8, u "code"), (0, u "B"), (32, u "isExplicitNegative"), (0, u "()Z")] 25

def k6c0 : Code := { maxStack := 2, maxLocals := 1, code := prog_41_method_4_code, exceptionTable := #[], attributes := #[] }
def k6m0 : Method := { name := "isExplicitNegative", desc := "()Z", sig := { parameters := [], returnType := some .boolean }, accessFlags := 1, code := some k6c0 }
/-- com/example/ordered_ledger_store/orderedledgerstore/protocol/Status -/
def k6 : Class := { plain "com/example/ordered_ledger_store/orderedledgerstore/protocol/Status" (some 5) with
  accessFlags := 16433
  interfaces := #[]
  cf := some (fileOf pool6 1 #[] #[{ accessFlags := 1, nameIndex := 80, descriptorIndex := 81, attributes := #[] }] 16433 35 #[] #[{ accessFlags := 16409, nameIndex := 5, descriptorIndex := 6, attributes := #[] }, { accessFlags := 16409, nameIndex := 9, descriptorIndex := 6, attributes := #[] }, { accessFlags := 16409, nameIndex := 12, descriptorIndex := 6, attributes := #[] }, { accessFlags := 16409, nameIndex := 15, descriptorIndex := 6, attributes := #[] }, { accessFlags := 16409, nameIndex := 18, descriptorIndex := 6, attributes := #[] }, { accessFlags := 16409, nameIndex := 21, descriptorIndex := 6, attributes := #[] }, { accessFlags := 16409, nameIndex := 24, descriptorIndex := 6, attributes := #[] }, { accessFlags := 18, nameIndex := 46, descriptorIndex := 47, attributes := #[] }, { accessFlags := 4122, nameIndex := 27, descriptorIndex := 28, attributes := #[] }])
  fields := #[{ name := "OK", type := (.object "com/example/ordered_ledger_store/orderedledgerstore/protocol/Status"), accessFlags := 16409, slot := 0, constantValue := 0 }, { name := "NO_SUCH_LEDGER", type := (.object "com/example/ordered_ledger_store/orderedledgerstore/protocol/Status"), accessFlags := 16409, slot := 1, constantValue := 0 }, { name := "NO_SUCH_ENTRY", type := (.object "com/example/ordered_ledger_store/orderedledgerstore/protocol/Status"), accessFlags := 16409, slot := 2, constantValue := 0 }, { name := "FAILED", type := (.object "com/example/ordered_ledger_store/orderedledgerstore/protocol/Status"), accessFlags := 16409, slot := 3, constantValue := 0 }, { name := "FENCED", type := (.object "com/example/ordered_ledger_store/orderedledgerstore/protocol/Status"), accessFlags := 16409, slot := 4, constantValue := 0 }, { name := "INVALID", type := (.object "com/example/ordered_ledger_store/orderedledgerstore/protocol/Status"), accessFlags := 16409, slot := 5, constantValue := 0 }, { name := "UNAUTHORIZED", type := (.object "com/example/ordered_ledger_store/orderedledgerstore/protocol/Status"), accessFlags := 16409, slot := 6, constantValue := 0 }, { name := "code", type := .byte, accessFlags := 18, slot := 3, constantValue := 0 }, { name := "$VALUES", type := (.array (.object "com/example/ordered_ledger_store/orderedledgerstore/protocol/Status")), accessFlags := 4122, slot := 7, constantValue := 0 }]
  methods := #[k6m0]
  instanceTypes := #[(.object "java/lang/String"), .int, .int, .byte]
  staticTypes := #[(.object "com/example/ordered_ledger_store/orderedledgerstore/protocol/Status"), (.object "com/example/ordered_ledger_store/orderedledgerstore/protocol/Status"), (.object "com/example/ordered_ledger_store/orderedledgerstore/protocol/Status"), (.object "com/example/ordered_ledger_store/orderedledgerstore/protocol/Status"), (.object "com/example/ordered_ledger_store/orderedledgerstore/protocol/Status"), (.object "com/example/ordered_ledger_store/orderedledgerstore/protocol/Status"), (.object "com/example/ordered_ledger_store/orderedledgerstore/protocol/Status"), (.array (.object "com/example/ordered_ledger_store/orderedledgerstore/protocol/Status"))]
  resolved := Array.replicate 107 none
  statics := some 0 }

def pool7 : Array CpInfo := pool [(1, u "java/lang/Cloneable"), (0, .class_ 1), (0, u "java/lang/Object"), (0, .class_ 3)] 3

/-- java/lang/Cloneable -/
def k7 : Class := { plain "java/lang/Cloneable" (some 0) with
  accessFlags := 1537
  interfaces := #[]
  cf := some (fileOf pool7 2 #[] #[] 1537 4 #[] #[])
  fields := #[]
  methods := #[]
  instanceTypes := #[]
  staticTypes := #[]
  resolved := Array.replicate 8 none
  statics := none }

/-- the primitive byte -/
def k8 : Class := { plain "byte" none with kind := .primitive 'B', accessFlags := 0x411 }
/-- [B -/
def k9 : Class := { plain "[B" (some 0) with kind := .array 8 .byte, interfaces := #[7, 4], accessFlags := 1041 }

/-- the primitive int -/
def k10 : Class := { plain "int" none with kind := .primitive 'I', accessFlags := 0x411 }
/-- [I -/
def k11 : Class := { plain "[I" (some 0) with kind := .array 10 .int, interfaces := #[7, 4], accessFlags := 1041 }

def heap : Heap := #[{ cls := 6, slots := #[.ref 1, .ref 2, .ref 3, .ref 4, .ref 5, .ref 6, .ref 7, .null], vm := .statics 6 },
  { cls := 6, slots := #[.null, .int 0, .int 0, .int 0], vm := .none },
  { cls := 6, slots := #[.null, .int 1, .int 0, .int 0], vm := .none },
  { cls := 6, slots := #[.null, .int 2, .int 0, .int 0], vm := .none },
  { cls := 6, slots := #[.null, .int 3, .int 0, .int 0], vm := .none },
  { cls := 6, slots := #[.null, .int 4, .int 0, .int 0], vm := .none },
  { cls := 6, slots := #[.null, .int 5, .int 0, .int 0], vm := .none },
  { cls := 6, slots := #[.null, .int 6, .int 0, .int 0], vm := .none }]
def classes : Array Class := #[k0, k1, k2, k3, k4, k5, k6, k7, k8, k9, k10, k11]
def interned : List (Array UInt16 × Addr) := []
def slotsUsed : Nat := 36
def theMethod : MethodId := ⟨1, 1⟩
def args0 : Array Value := #[.int 9]
def aboutOver (below : List Frame) : State where
  vm := { classes := classes, interned := interned.toArray }
  heap := heap
  slotsUsed := slotsUsed
  threads := #[{ frames := .invoking theMethod args0 :: below }]
def below0 : List Frame := [.native { method := ⟨0, 0⟩, args := #[] }]
def about1 : State := aboutOver below0
def p0 : Program := .bare "" "" ""
def e0 : Env := launch0.env 0 0 0
theorem w_frames : about1.frames = Frame.invoking theMethod args0 :: below0 := rfl
set_option maxRecDepth 65536 in
theorem w_args : argsFit about1.vm theMethod args0 = true := by decide +kernel
set_option maxRecDepth 65536 in
theorem w_heap : heapFits about1 = true := by decide +kernel
set_option maxRecDepth 65536 in
theorem w_runnable : about1.curStatus? = some .runnable := by decide +kernel
set_option maxRecDepth 65536 in
theorem w_alone : about1.alone = true := by decide +kernel
set_option maxRecDepth 65536 in
theorem w_named : about1.methodNamed? x = some theMethod := by decide +kernel
set_option maxRecDepth 65536 in
theorem w_hears : about1.hears theMethod below0 = true := by decide +kernel
set_option maxRecDepth 65536 in
theorem w_ripe : about1.ripe theMethod args0 below0 = true := by decide +kernel
theorem w_running : about1.status = .running := rfl
set_option maxRecDepth 65536 in
theorem w_room : about1.hasRoom e0.platform room_1 = true :=
  launch0.hasRoom_least _ room_1 (by decide +kernel) (by decide +kernel) (by decide +kernel) (by decide +kernel) (by decide +kernel) (by decide +kernel)
theorem allAtoms_all (ts : List Jvm.Cond) (a : Array Jvm.Value) (st : Jvm.State) : (allAtoms ts).before a st = ts.all (fun c => c.before a st) := by
  induction ts with
  | nil => rfl
  | cons c t ih =>
    show (Jvm.Cond.and c (allAtoms t)).before a st = _
    rw [Jvm.Cond.before_and, ih, List.all_cons]
def words1 : List Jvm.Cond := Jvm.Cond.code x code maxLocals ret :: tables_1
/-- a 'code' word, met by the world's own term for the bytes: nothing is compared byte by byte -/
theorem code_word {y : MethodName} {bytes : ByteArray} {mx : Nat} {rt : Option FieldType} {a : Array Value} {s : State} {m : MethodId} {meth : Method} {c : Code} (h1 : s.methodNamed? y = some m) (h2 : s.vm.method? m = some meth) (h3 : meth.code = some c) (h4 : c.code = bytes)
    (h5 : (c.maxLocals == mx && c.exceptionTable.isEmpty && decide (c.maxStack ≤ mostOperands) && decide (meth.sig.returnType = rt) && !meth.locks && decide (parseMethodDescriptor y.desc = some meth.sig)) = true) : (Jvm.Cond.code y bytes mx rt).before a s = true := by
  simp only [Bool.and_eq_true, beq_iff_eq, Bool.not_eq_true', decide_eq_true_eq] at h5
  obtain ⟨⟨⟨⟨⟨g1, g2⟩, g3⟩, g4⟩, g5⟩, g6⟩ := h5
  simp [Cond.before, Cond.holds, Cond.value, h1, h2, h3, h4, g1, g2, g3, g4, g5, g6]
def isCode : Jvm.Cond → Bool
  | .code _ _ _ _ => true
  | _ => false
theorem all_split {L : List Jvm.Cond} {P : Jvm.Cond → Bool} (h1 : L.all (fun c => isCode c || P c) = true) (h2 : ∀ c ∈ L.filter isCode, P c = true) : L.all P = true := by
  refine List.all_eq_true.mpr fun c hc => ?_
  have h := List.all_eq_true.mp h1 c hc
  rcases Bool.eq_false_or_eq_true (isCode c) with hi | hi
  · exact h2 c (List.mem_filter.mpr ⟨hc, hi⟩)
  · simpa [hi] using h
set_option maxRecDepth 65536 in
theorem w_c0 : (Jvm.Cond.code x code maxLocals ret).before args0 about1 = true := code_word (m := ⟨1, 1⟩) (meth := k1m1) (c := k1c1) (by decide +kernel) rfl rfl rfl (by decide +kernel)
set_option maxRecDepth 65536 in
theorem w_c1 : (Jvm.Cond.code ({ cls := "com/example/ordered_ledger_store/orderedledgerstore/protocol/StatusIsExplicitNegativePinLaw", name := "pick", desc := "(I)Lcom/example/ordered_ledger_store/orderedledgerstore/protocol/Status;" } : Jvm.MethodName) method_3_code (1 : Nat) (Option.some (Jvm.ClassFile.FieldType.object "com/example/ordered_ledger_store/orderedledgerstore/protocol/Status"))).before args0 about1 = true := code_word (m := ⟨1, 2⟩) (meth := k1m2) (c := k1c2) (by decide +kernel) rfl rfl rfl (by decide +kernel)
set_option maxRecDepth 65536 in
theorem w_c2 : (Jvm.Cond.code ({ cls := "com/example/ordered_ledger_store/orderedledgerstore/protocol/Status", name := "isExplicitNegative", desc := "()Z" } : Jvm.MethodName) prog_41_method_4_code (1 : Nat) (Option.some Jvm.ClassFile.FieldType.boolean)).before args0 about1 = true := code_word (m := ⟨6, 0⟩) (meth := k6m0) (c := k6c0) (by decide +kernel) rfl rfl rfl (by decide +kernel)
def codes1 : List Jvm.Cond := [Jvm.Cond.code x code maxLocals ret, Jvm.Cond.code ({ cls := "com/example/ordered_ledger_store/orderedledgerstore/protocol/StatusIsExplicitNegativePinLaw", name := "pick", desc := "(I)Lcom/example/ordered_ledger_store/orderedledgerstore/protocol/Status;" } : Jvm.MethodName) method_3_code (1 : Nat) (Option.some (Jvm.ClassFile.FieldType.object "com/example/ordered_ledger_store/orderedledgerstore/protocol/Status")), Jvm.Cond.code ({ cls := "com/example/ordered_ledger_store/orderedledgerstore/protocol/Status", name := "isExplicitNegative", desc := "()Z" } : Jvm.MethodName) prog_41_method_4_code (1 : Nat) (Option.some Jvm.ClassFile.FieldType.boolean)]
set_option maxRecDepth 65536 in
theorem codes_eq : words1.filter isCode = codes1 := rfl
theorem w_codes : ∀ c ∈ words1.filter isCode, c.before args0 about1 = true := by
  rw [codes_eq]
  intro c hc
  simp only [codes1, List.mem_cons, List.not_mem_nil, or_false] at hc
  rcases hc with rfl | rfl | rfl
  · exact w_c0
  · exact w_c1
  · exact w_c2
set_option maxRecDepth 65536 in
theorem w_t1 : (words1.take 24).all (fun c => isCode c || c.before args0 about1) = true := by decide +kernel
set_option maxRecDepth 65536 in
theorem w_t2 : (words1.drop 24).all (fun c => isCode c || c.before args0 about1) = true := by decide +kernel
theorem w_tables : (allAtoms (Jvm.Cond.code x code maxLocals ret :: tables_1)).before args0 about1 = true := by
  rw [allAtoms_all]
  show words1.all (fun c => c.before args0 about1) = true
  refine all_split ?_ w_codes
  rw [← List.take_append_drop 24 words1, List.all_append, w_t1, w_t2]
  rfl
set_option maxRecDepth 65536 in
theorem w_case : (Jvm.Cond.and given_1 narrow_1).before args0 about1 = true := by decide +kernel
theorem w_applies : (headSpec (Jvm.Cond.code x code maxLocals ret :: tables_1) room_1).applies x e0.platform about1 = true :=
  (Spec.applies_iff w_frames).mpr ⟨w_running, w_runnable, w_alone, w_named, w_hears, w_ripe, w_room, w_tables⟩
theorem atStart : AtStart classFile x code maxLocals ret World_1 tables_1 room_1 Calls_1 rest_1 Pre_1 launch0 p0 e0 about1 theMethod args0 below0 :=
  ⟨lists_1, trivial, launch0.admits_env _ _ _, launch0.least_env, fairChoices_fair.cas, fairChoices_fair.clock, w_frames, w_args, w_heap, w_applies, trivial, trivial, w_case⟩
end start1
theorem witness_1 : WitnessClaimed_1 := ⟨start1.p0, start1.e0, start1.about1, start1.theMethod, start1.args0, start1.below0, start1.atStart⟩
end Jvm.Pilot.@@N@@
