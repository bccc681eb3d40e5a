import JvmDerived
import JvmDerived.Pilot.@@N@@Statement
import JvmDerived.Pilot.@@N@@Code
set_option linter.unusedVariables false
set_option linter.unusedSimpArgs false
namespace Jvm.RoadKit
open Sem ClassFile Op Lib Jvm.Stand Jvm.Free Jvm.LawKit
section New
variable {p : Program} {l : Launch} {e : Env} {R : Room} {s : State} {m : MethodId} {args : Array Value} {below : List Frame} {meth : Method} {c : Code} {T : State} {locs : List Loc} {cells slots : Nat}
theorem retI (X : Stand p l e R s m args below meth c T locs cells slots) (hx : p.tables.exec = Jvm.exec) {pc : Nat} {Ls : Array Slot} {z : Int32} {rest : List Value} (hret : meth.sig.returnType = some .int) (hd : decode c.code pc = .ok (.ireturn, 1)) {fs : List Frame}
    (hl : ∀ (f : JFrame) (acts : List Action), f.method = m → f.locked = none → f.entered = [] → (doReturn e (T.setTop f) acts (some (.int z))).1 = T.setFrames fs) : Steps p.tables e below (T.setTop (mkF m pc Ls (.int z :: rest))) (T.setFrames fs) := by
  have hm' : T.vm.method? m = some meth := X.method'
  have hn : narrow .int (.int z) = .int z := rfl
  show Steps p.tables e below (T.setTop { method := m, pc := pc, locals := Ls, stack := _ :: rest, locked := none }) _
  jvm_step X.here [X.here.top, hx, hd, hm', hret, hn]
  first | (intro acts; rw [hl _ acts rfl rfl rfl]) | rw [hl _ _ rfl rfl rfl]
  exact Steps.refl _
end New
end Jvm.RoadKit

namespace Jvm.Pilot.@@N@@
open Jvm Jvm.ClassFile Sem Op Lib Jvm.Free Jvm.Stand Jvm.LawKit Jvm.RoadKit Bundle Jvm.Pilot.@@N@@.Jvm.D


def own_ul (p u : Int32) : Int32 := if p = 0 then 0 else if u = 0 then 0 else 1
theorem own_ul1 {p u : Int32} (hp : p = 0 ∨ p = 1) (hu : u = 0 ∨ u = 1) : own_ul (nar .boolean p) (nar .boolean u) = if p = 0 then 0 else u := by
  rcases hp with rfl | rfl <;> rcases hu with rfl | rfl <;> decide
theorem own_ds {p u d : Int32} (hp : p = 0 ∨ p = 1) (hu : u = 0 ∨ u = 1) (hd : (d = 0 ∨ d = 1) ∧ (d = 0 ∨ p = 0 ∨ u = 0)) (hr : ¬ own_ul (nar .boolean p) (nar .boolean u) = 0) : nar .boolean (nar .boolean d) = 0 := by
  obtain ⟨h1, h2⟩ := hd
  rcases hp with rfl | rfl <;> rcases hu with rfl | rfl <;> first | exact absurd (by decide) hr | (rcases h2 with rfl | h | h <;> first | decide | exact absurd h (by decide))

theorem d2_0 : decode jdk_30_method_1_code 0 = .ok (.aload_n 0, 1) := by decide +kernel
theorem d2_1 : decode jdk_30_method_1_code 1 = .ok (.invokespecial 1, 3) := by decide +kernel
theorem d2_4 : decode jdk_30_method_1_code 4 = .ok (.return_, 1) := by decide +kernel
theorem pn_2 : plainName "java/lang/Record" = true := by first | (simp [plainName, overriddenIn]; done) | decide +kernel
theorem ef_rec (m : MethodId) (x0 : Addr) : entryFrame m #[(.ref x0)] 1 = mkF m 0 #[.val (.ref x0)] [] := by (first | (simp [entryFrame, mkF, argsToLocals, Value.category]; done) | rfl)
def Q_rec (Z : State) (a1 : Addr) (h0 : Heap) (n0 : Nat) (v : Option Value) (h : Heap) (L : List Loc) : Prop := v = none ∧ Fr n0 L ∧ h = h0
set_option maxRecDepth 65536 in
set_option maxHeartbeats 40000000 in
theorem rm_rec (l : Launch) (Z : State) (a0 : Array Value) (hw : ∀ d ∈ tables_1, d.before a0 Z = true) (ws : List Jvm.Cond) (a1 : Addr) (h0 : Heap) (n0 : Nat) (Z0 : n0 ≤ h0.size)  :
    MetFree l (⟨"java/lang/Record", "<init>", "()V"⟩ : MethodName) (head1 (Jvm.Cond.code (⟨"java/lang/Record", "<init>", "()V"⟩ : MethodName) jdk_30_method_1_code 1 none :: ws) ({ frames := 1, cells := 0, slots := 0, locals := 12 } : Room)) (fun a U => a = #[(.ref a1)] ∧ Z.Warmed39 U.vm ∧ U.heap = h0) (fun _ _ _ _ _ => True) (fun _ U o U' => ∃ v L, o = .returned v ∧ Q_rec Z a1 h0 n0 v U'.heap L ∧ FrameEnd U o U' L ({ frames := 1, cells := 0, slots := 0, locals := 12 } : Room).cells ({ frames := 1, cells := 0, slots := 0, locals := 12 } : Room).slots) := by
  refine MetFree.of_bodySF (plainFor_of_name pn_2) hisR ?_
  intro p e s m args below meth c s₁ Bd hml0 hP hK
  obtain ⟨rfl, hZ, hh⟩ := hP
  have hx := Bd.exec
  have hby := Bd.bytes
  have hml : c.maxLocals = 1 := hml0
  have hown : s.vm.findClass "java/lang/Record" = some m.cls := findClass_of_methodNamed Bd.named
  have hnm := (name_of_methodNamed Bd.named Bd.method).1
  have X0 : Stand p l e ({ frames := 1, cells := 0, slots := 0, locals := 12 } : Room) s m #[(.ref a1)] below meth c s₁ [] 0 0 := Stand.of_body Bd
  have e0 : s₁.heap = h0 := by rw [← hh, Bd.state]; rfl
  have N0 := Fr.nil n0
  have c0 : Goes p e below s₁ (entryFrame m #[(.ref a1)] 1) s₁ (mkF m 0 #[.val (.ref a1)] []) := fun t k => castTop (ef_rec m a1) k
  have c1 : Goes p e below s₁ (entryFrame m #[(.ref a1)] 1) s₁ (mkF m 1 #[.val (.ref a1)] [(.ref a1)]) := by
    intro t kk
    refine c0 t ?_
    show Steps p.tables e below (s₁.setTop (mkF m 0 #[.val (.ref a1)] [])) t
    refine XS.aloadN X0.here hx rfl (hb hby d2_0) rfl rfl ?_
    exact kk
  obtain ⟨T2, X2, e2, st2⟩ := initO X0 hx hZ hown (hw _ (List.mem_of_getElem? (i := 11) rfl)) (hw _ (List.mem_of_getElem? (i := 12) rfl)) (hw _ (List.mem_of_getElem? (i := 13) rfl)) e0 (g := (mkF m 1 #[.val (.ref a1)] [(.ref a1)])) rfl (by rw [hml]; rfl) rfl (hb hby d2_1) (by decide) (W := 0) (by show 2 * 0 + _ ≤ _; exact Nat.le_of_eq rfl) (by decide)
  have c3 : Goes p e below s₁ (entryFrame m #[(.ref a1)] 1) T2 (mkF m 4 #[.val (.ref a1)] []) := fun t kk => c1 t (st2 t kk)
  obtain ⟨fs, hr, hrun, hended, hW, hsame⟩ := X2.leave (v := none) (fun _ => rfl)
  refine ⟨_, _, c3 _ ?_, hrun, hended, _, _, rfl, ?_, ⟨_, rfl⟩, hW, hsame.mono (by decide) (by decide)⟩
  · exact X2.returnOut hx Bd.returns (hb hby d2_4) hr
  · show Q_rec Z a1 h0 n0 _ T2.heap _
    rw [e2]
    exact ⟨rfl, N0, rfl⟩
theorem d1_0 : decode prog_98_method_1_code 0 = .ok (.aload_n 0, 1) := by decide +kernel
theorem d1_1 : decode prog_98_method_1_code 1 = .ok (.invokespecial 1, 3) := by decide +kernel
theorem d1_4 : decode prog_98_method_1_code 4 = .ok (.iload 4, 2) := by decide +kernel
theorem d1_6 : decode prog_98_method_1_code 6 = .ok (.ifCond .eq 21, 3) := by decide +kernel
theorem d1_9 : decode prog_98_method_1_code 9 = .ok (.iload_n 3, 1) := by decide +kernel
theorem d1_10 : decode prog_98_method_1_code 10 = .ok (.ifCond .eq 17, 3) := by decide +kernel
theorem d1_13 : decode prog_98_method_1_code 13 = .ok (.iload_n 2, 1) := by decide +kernel
theorem d1_14 : decode prog_98_method_1_code 14 = .ok (.ifCond .eq 13, 3) := by decide +kernel
theorem d1_27 : decode prog_98_method_1_code 27 = .ok (.aload_n 0, 1) := by decide +kernel
theorem d1_28 : decode prog_98_method_1_code 28 = .ok (.iload_n 1, 1) := by decide +kernel
theorem d1_29 : decode prog_98_method_1_code 29 = .ok (.putfield 14, 3) := by decide +kernel
theorem d1_32 : decode prog_98_method_1_code 32 = .ok (.aload_n 0, 1) := by decide +kernel
theorem d1_33 : decode prog_98_method_1_code 33 = .ok (.iload_n 2, 1) := by decide +kernel
theorem d1_34 : decode prog_98_method_1_code 34 = .ok (.putfield 20, 3) := by decide +kernel
theorem d1_37 : decode prog_98_method_1_code 37 = .ok (.aload_n 0, 1) := by decide +kernel
theorem d1_38 : decode prog_98_method_1_code 38 = .ok (.iload_n 3, 1) := by decide +kernel
theorem d1_39 : decode prog_98_method_1_code 39 = .ok (.putfield 23, 3) := by decide +kernel
theorem d1_42 : decode prog_98_method_1_code 42 = .ok (.aload_n 0, 1) := by decide +kernel
theorem d1_43 : decode prog_98_method_1_code 43 = .ok (.iload 4, 2) := by decide +kernel
theorem d1_45 : decode prog_98_method_1_code 45 = .ok (.putfield 26, 3) := by decide +kernel
theorem d1_48 : decode prog_98_method_1_code 48 = .ok (.return_, 1) := by decide +kernel
theorem pn_1 : plainName "com/example/nextkey/nextkey/lock/LockRules$RangeScan" = true := by first | (simp [plainName, overriddenIn]; done) | decide +kernel
theorem pd___V : parseMethodDescriptor "()V" = some ⟨[], none⟩ := by decide +kernel
theorem ef_init (m : MethodId) (x0 : Addr) (x1 : Int32) (x2 : Int32) (x3 : Int32) (x4 : Int32) : entryFrame m #[(.ref x0), (.int x1), (.int x2), (.int x3), (.int x4)] 5 = mkF m 0 #[.val (.ref x0), .val (.int x1), .val (.int x2), .val (.int x3), .val (.int x4)] [] := by (first | (simp [entryFrame, mkF, argsToLocals, Value.category]; done) | rfl)
def Q_init (Z : State) (a1 : Addr) (p1 : Int32) (p2 : Int32) (p3 : Int32) (p4 : Int32) (h0 : Heap) (n0 : Nat) (v : Option Value) (h : Heap) (L : List Loc) : Prop := v = none ∧ Fr n0 L ∧ Keep h0 h [a1] ∧ Exa Z h a1 "com/example/nextkey/nextkey/lock/LockRules$RangeScan" ∧ Fld Z h a1 "com/example/nextkey/nextkey/lock/LockRules$RangeScan" "clustered" "Z" (.int (nar .boolean p1)) ∧ Fld Z h a1 "com/example/nextkey/nextkey/lock/LockRules$RangeScan" "unique" "Z" (.int (nar .boolean p2)) ∧ Fld Z h a1 "com/example/nextkey/nextkey/lock/LockRules$RangeScan" "point" "Z" (.int (nar .boolean p3)) ∧ Fld Z h a1 "com/example/nextkey/nextkey/lock/LockRules$RangeScan" "descending" "Z" (.int (nar .boolean p4))
set_option maxRecDepth 65536 in
set_option maxHeartbeats 40000000 in
theorem rm_init (l : Launch) (Z : State) (a0 : Array Value) (hw : ∀ d ∈ tables_1, d.before a0 Z = true) (ws : List Jvm.Cond) (a1 : Addr) (p1 : Int32) (p2 : Int32) (p3 : Int32) (p4 : Int32) (h0 : Heap) (n0 : Nat) (Z0 : n0 ≤ h0.size) (F_clustered : Fld Z h0 a1 "com/example/nextkey/nextkey/lock/LockRules$RangeScan" "clustered" "Z" (.int (0 : Int32))) (F_unique : Fld Z h0 a1 "com/example/nextkey/nextkey/lock/LockRules$RangeScan" "unique" "Z" (.int (0 : Int32))) (F_point : Fld Z h0 a1 "com/example/nextkey/nextkey/lock/LockRules$RangeScan" "point" "Z" (.int (0 : Int32))) (F_descending : Fld Z h0 a1 "com/example/nextkey/nextkey/lock/LockRules$RangeScan" "descending" "Z" (.int (0 : Int32))) (E1 : Exa Z h0 a1 "com/example/nextkey/nextkey/lock/LockRules$RangeScan") (g1 : n0 ≤ a1) (hne : p4 = 0 ∨ p3 = 0 ∨ p2 = 0) :
    MetFree l (⟨"com/example/nextkey/nextkey/lock/LockRules$RangeScan", "<init>", "(ZZZZ)V"⟩ : MethodName) (head1 (Jvm.Cond.code (⟨"com/example/nextkey/nextkey/lock/LockRules$RangeScan", "<init>", "(ZZZZ)V"⟩ : MethodName) prog_98_method_1_code 5 none :: ws) ({ frames := 2, cells := 0, slots := 0, locals := 24 } : Room)) (fun a U => a = #[(.ref a1), (.int p1), (.int p2), (.int p3), (.int p4)] ∧ Z.Warmed39 U.vm ∧ U.heap = h0) (fun _ _ _ _ _ => True) (fun _ U o U' => ∃ v L, o = .returned v ∧ Q_init Z a1 p1 p2 p3 p4 h0 n0 v U'.heap L ∧ FrameEnd U o U' L ({ frames := 2, cells := 0, slots := 0, locals := 24 } : Room).cells ({ frames := 2, cells := 0, slots := 0, locals := 24 } : Room).slots) := by
  refine MetFree.of_bodySF (plainFor_of_name pn_1) hisR ?_
  intro p e s m args below meth c s₁ Bd hml0 hP hK
  obtain ⟨rfl, hZ, hh⟩ := hP
  have hx := Bd.exec
  have hby := Bd.bytes
  have hml : c.maxLocals = 5 := hml0
  have hown : s.vm.findClass "com/example/nextkey/nextkey/lock/LockRules$RangeScan" = some m.cls := findClass_of_methodNamed Bd.named
  have hnm := (name_of_methodNamed Bd.named Bd.method).1
  have X0 : Stand p l e ({ frames := 2, cells := 0, slots := 0, locals := 24 } : Room) s m #[(.ref a1), (.int p1), (.int p2), (.int p3), (.int p4)] below meth c s₁ [] 0 0 := Stand.of_body Bd
  have e0 : s₁.heap = h0 := by rw [← hh, Bd.state]; rfl
  have N0 := Fr.nil n0
  have c0 : Goes p e below s₁ (entryFrame m #[(.ref a1), (.int p1), (.int p2), (.int p3), (.int p4)] 5) s₁ (mkF m 0 #[.val (.ref a1), .val (.int p1), .val (.int p2), .val (.int p3), .val (.int p4)] []) := fun t k => castTop (ef_init m a1 p1 p2 p3 p4) k
  have c4 : Goes p e below s₁ (entryFrame m #[(.ref a1), (.int p1), (.int p2), (.int p3), (.int p4)] 5) s₁ (mkF m 1 #[.val (.ref a1), .val (.int p1), .val (.int p2), .val (.int p3), .val (.int p4)] [(.ref a1)]) := by
    intro t kk
    refine c0 t ?_
    show Steps p.tables e below (s₁.setTop (mkF m 0 #[.val (.ref a1), .val (.int p1), .val (.int p2), .val (.int p3), .val (.int p4)] [])) t
    refine XS.aloadN X0.here hx rfl (hb hby d1_0) rfl rfl ?_
    exact kk
  obtain ⟨_, _, ⟨T5, L5, k5, n5⟩, -, X5, ⟨Lc5, hQ5, l5, y5, z5⟩, st5⟩ := X0.specialBack hx (y := (⟨"java/lang/Record", "<init>", "()V"⟩ : MethodName)) rfl hown (mvT hZ (hw _ (List.mem_of_getElem? (i := 6) rfl))) (mvT hZ (hw _ (List.mem_of_getElem? (i := 7) rfl))) (mvT hZ (hw _ (List.mem_of_getElem? (i := 10) rfl))) (by decide) (backOf (W := 0) (rm_rec l Z a0 hw [] a1 h0 n0 Z0) hZ (hw _ (List.mem_of_getElem? (i := 10) rfl)) (hw _ (List.mem_of_getElem? (i := 9) rfl)) (by decide) (by decide)) (g := (mkF m 1 #[.val (.ref a1), .val (.int p1), .val (.int p2), .val (.int p3), .val (.int p4)] [(.ref a1)])) rfl (by rw [hml]; rfl) (Steps.refl _) (a := a1) (argsL := []) (rest := []) (lenOf pd___V rfl) rfl (by show 2 * 0 + _ ≤ _; exact Nat.le_of_eq rfl) (hb hby d1_1) (fun _ _ => ⟨rfl, e0, (by decide : 0 + 0 ≤ _), (by decide : 0 + 0 ≤ _)⟩)
  dsimp only [Pt.U, Pt.locs, Pt.cells, Pt.slots] at X5 l5 y5 z5 st5 hQ5
  subst l5 y5 z5
  obtain ⟨rfl, Nq5, eq5⟩ := hQ5
  have N5 := Fr.app N0 Nq5
  have c6 : Goes p e below s₁ (entryFrame m #[(.ref a1), (.int p1), (.int p2), (.int p3), (.int p4)] 5) T5 (mkF m 4 #[.val (.ref a1), .val (.int p1), .val (.int p2), .val (.int p3), .val (.int p4)] []) := fun t kk => c4 t (st5.trans kk)
  have c7 : Goes p e below s₁ (entryFrame m #[(.ref a1), (.int p1), (.int p2), (.int p3), (.int p4)] 5) T5 (mkF m 27 #[.val (.ref a1), .val (.int p1), .val (.int p2), .val (.int p3), .val (.int p4)] []) := by
    have c8 : Goes p e below s₁ (entryFrame m #[(.ref a1), (.int p1), (.int p2), (.int p3), (.int p4)] 5) T5 (mkF m 6 #[.val (.ref a1), .val (.int p1), .val (.int p2), .val (.int p3), .val (.int p4)] [(.int p4)]) := by
      intro t kk
      refine c6 t ?_
      show Steps p.tables e below (T5.setTop (mkF m 4 #[.val (.ref a1), .val (.int p1), .val (.int p2), .val (.int p3), .val (.int p4)] [])) t
      refine XS.iload X5.here hx rfl (hb hby d1_4) rfl ?_
      exact kk
    by_cases h6 : p4 = (0 : Int32)
    · have c9 : Goes p e below s₁ (entryFrame m #[(.ref a1), (.int p1), (.int p2), (.int p3), (.int p4)] 5) T5 (mkF m 27 #[.val (.ref a1), .val (.int p1), .val (.int p2), .val (.int p3), .val (.int p4)] []) := by
        intro t kk
        refine c8 t ?_
        show Steps p.tables e below (T5.setTop (mkF m 6 #[.val (.ref a1), .val (.int p1), .val (.int p2), .val (.int p3), .val (.int p4)] [(.int p4)])) t
        refine XS.ifYes X5.here hx rfl (pc0 := 6) (pc' := 27) rfl (hb hby d1_6) rfl ((if0 _ _).trans (teq h6).1) (by decide) (by decide) ?_
        exact kk
      exact c9
    · have c10 : Goes p e below s₁ (entryFrame m #[(.ref a1), (.int p1), (.int p2), (.int p3), (.int p4)] 5) T5 (mkF m 10 #[.val (.ref a1), .val (.int p1), .val (.int p2), .val (.int p3), .val (.int p4)] [(.int p3)]) := by
        intro t kk
        refine c8 t ?_
        show Steps p.tables e below (T5.setTop (mkF m 6 #[.val (.ref a1), .val (.int p1), .val (.int p2), .val (.int p3), .val (.int p4)] [(.int p4)])) t
        refine XS.ifNo X5.here hx rfl (hb hby d1_6) rfl ((if0 _ _).trans (feq h6).1) ?_
        show Steps p.tables e below (T5.setTop (mkF m 9 #[.val (.ref a1), .val (.int p1), .val (.int p2), .val (.int p3), .val (.int p4)] [])) t
        refine XS.iloadN X5.here hx rfl (hb hby d1_9) rfl ?_
        exact kk
      by_cases h10 : p3 = (0 : Int32)
      · have c11 : Goes p e below s₁ (entryFrame m #[(.ref a1), (.int p1), (.int p2), (.int p3), (.int p4)] 5) T5 (mkF m 27 #[.val (.ref a1), .val (.int p1), .val (.int p2), .val (.int p3), .val (.int p4)] []) := by
          intro t kk
          refine c10 t ?_
          show Steps p.tables e below (T5.setTop (mkF m 10 #[.val (.ref a1), .val (.int p1), .val (.int p2), .val (.int p3), .val (.int p4)] [(.int p3)])) t
          refine XS.ifYes X5.here hx rfl (pc0 := 10) (pc' := 27) rfl (hb hby d1_10) rfl ((if0 _ _).trans (teq h10).1) (by decide) (by decide) ?_
          exact kk
        exact c11
      · have c12 : Goes p e below s₁ (entryFrame m #[(.ref a1), (.int p1), (.int p2), (.int p3), (.int p4)] 5) T5 (mkF m 27 #[.val (.ref a1), .val (.int p1), .val (.int p2), .val (.int p3), .val (.int p4)] []) := by
          intro t kk
          refine c10 t ?_
          show Steps p.tables e below (T5.setTop (mkF m 10 #[.val (.ref a1), .val (.int p1), .val (.int p2), .val (.int p3), .val (.int p4)] [(.int p3)])) t
          refine XS.ifNo X5.here hx rfl (hb hby d1_10) rfl ((if0 _ _).trans (feq h10).1) ?_
          show Steps p.tables e below (T5.setTop (mkF m 13 #[.val (.ref a1), .val (.int p1), .val (.int p2), .val (.int p3), .val (.int p4)] [])) t
          refine XS.iloadN X5.here hx rfl (hb hby d1_13) rfl ?_
          show Steps p.tables e below (T5.setTop (mkF m 14 #[.val (.ref a1), .val (.int p1), .val (.int p2), .val (.int p3), .val (.int p4)] [(.int p2)])) t
          refine XS.ifYes X5.here hx rfl (pc0 := 14) (pc' := 27) rfl (hb hby d1_14) rfl ((if0 _ _).trans (teq ((hne.resolve_left h6).resolve_left h10)).1) (by decide) (by decide) ?_
          exact kk
        exact c12
  have c13 : Goes p e below s₁ (entryFrame m #[(.ref a1), (.int p1), (.int p2), (.int p3), (.int p4)] 5) T5 (mkF m 29 #[.val (.ref a1), .val (.int p1), .val (.int p2), .val (.int p3), .val (.int p4)] [(.int p1), (.ref a1)]) := by
    intro t kk
    refine c7 t ?_
    show Steps p.tables e below (T5.setTop (mkF m 27 #[.val (.ref a1), .val (.int p1), .val (.int p2), .val (.int p3), .val (.int p4)] [])) t
    refine XS.aloadN X5.here hx rfl (hb hby d1_27) rfl rfl ?_
    show Steps p.tables e below (T5.setTop (mkF m 28 #[.val (.ref a1), .val (.int p1), .val (.int p2), .val (.int p3), .val (.int p4)] [(.ref a1)])) t
    refine XS.iloadN X5.here hx rfl (hb hby d1_28) rfl ?_
    exact kk
  obtain ⟨T14, h14, X14, e14, W14, st14⟩ := putFN X5 hx hZ hown (hw _ (List.mem_of_getElem? (i := 14) rfl)) Via.refl eq5 F_clustered E1 (Or.inr ⟨(hw _ (List.mem_of_getElem? (i := 15) rfl)), rfl, hnm⟩) (hw _ (List.mem_of_getElem? (i := 1) rfl)) (ty := .boolean) (v' := (.int (nar .boolean p1))) (by decide) rfl (fits_nar_bool _) (g := (mkF m 29 #[.val (.ref a1), .val (.int p1), .val (.int p2), .val (.int p3), .val (.int p4)] [(.int p1), (.ref a1)])) rfl rfl (hb hby d1_29)
  have N14 := Fr.snoc X14 N5 g1
  have F14 := F_clustered.same W14
  have c15 : Goes p e below s₁ (entryFrame m #[(.ref a1), (.int p1), (.int p2), (.int p3), (.int p4)] 5) T14 (mkF m 32 #[.val (.ref a1), .val (.int p1), .val (.int p2), .val (.int p3), .val (.int p4)] []) := fun t kk => c13 t (st14 t kk)
  have c16 : Goes p e below s₁ (entryFrame m #[(.ref a1), (.int p1), (.int p2), (.int p3), (.int p4)] 5) T14 (mkF m 34 #[.val (.ref a1), .val (.int p1), .val (.int p2), .val (.int p3), .val (.int p4)] [(.int p2), (.ref a1)]) := by
    intro t kk
    refine c15 t ?_
    show Steps p.tables e below (T14.setTop (mkF m 32 #[.val (.ref a1), .val (.int p1), .val (.int p2), .val (.int p3), .val (.int p4)] [])) t
    refine XS.aloadN X14.here hx rfl (hb hby d1_32) rfl rfl ?_
    show Steps p.tables e below (T14.setTop (mkF m 33 #[.val (.ref a1), .val (.int p1), .val (.int p2), .val (.int p3), .val (.int p4)] [(.ref a1)])) t
    refine XS.iloadN X14.here hx rfl (hb hby d1_33) rfl ?_
    exact kk
  have f17 := (F_unique.other W14 (Or.inr (slot_ne (Or.inr (hw _ (List.mem_of_getElem? (i := 17) rfl))) (Or.inr (hw _ (List.mem_of_getElem? (i := 15) rfl))) (by decide) (t := .boolean) (t' := .boolean) (by decide) (by decide))))
  have f18 := (E1.wr W14)
  obtain ⟨T19, h19, X19, e19, W19, st19⟩ := putFN X14 hx hZ hown (hw _ (List.mem_of_getElem? (i := 16) rfl)) Via.refl e14 f17 f18 (Or.inr ⟨(hw _ (List.mem_of_getElem? (i := 17) rfl)), rfl, hnm⟩) (hw _ (List.mem_of_getElem? (i := 1) rfl)) (ty := .boolean) (v' := (.int (nar .boolean p2))) (by decide) rfl (fits_nar_bool _) (g := (mkF m 34 #[.val (.ref a1), .val (.int p1), .val (.int p2), .val (.int p3), .val (.int p4)] [(.int p2), (.ref a1)])) rfl rfl (hb hby d1_34)
  have N19 := Fr.snoc X19 N14 g1
  have F19 := f17.same W19
  have c20 : Goes p e below s₁ (entryFrame m #[(.ref a1), (.int p1), (.int p2), (.int p3), (.int p4)] 5) T19 (mkF m 37 #[.val (.ref a1), .val (.int p1), .val (.int p2), .val (.int p3), .val (.int p4)] []) := fun t kk => c16 t (st19 t kk)
  have c21 : Goes p e below s₁ (entryFrame m #[(.ref a1), (.int p1), (.int p2), (.int p3), (.int p4)] 5) T19 (mkF m 39 #[.val (.ref a1), .val (.int p1), .val (.int p2), .val (.int p3), .val (.int p4)] [(.int p3), (.ref a1)]) := by
    intro t kk
    refine c20 t ?_
    show Steps p.tables e below (T19.setTop (mkF m 37 #[.val (.ref a1), .val (.int p1), .val (.int p2), .val (.int p3), .val (.int p4)] [])) t
    refine XS.aloadN X19.here hx rfl (hb hby d1_37) rfl rfl ?_
    show Steps p.tables e below (T19.setTop (mkF m 38 #[.val (.ref a1), .val (.int p1), .val (.int p2), .val (.int p3), .val (.int p4)] [(.ref a1)])) t
    refine XS.iloadN X19.here hx rfl (hb hby d1_38) rfl ?_
    exact kk
  have f22 := ((F_point.other W14 (Or.inr (slot_ne (Or.inr (hw _ (List.mem_of_getElem? (i := 19) rfl))) (Or.inr (hw _ (List.mem_of_getElem? (i := 15) rfl))) (by decide) (t := .boolean) (t' := .boolean) (by decide) (by decide)))).other W19 (Or.inr (slot_ne (Or.inr (hw _ (List.mem_of_getElem? (i := 19) rfl))) (Or.inr (hw _ (List.mem_of_getElem? (i := 17) rfl))) (by decide) (t := .boolean) (t' := .boolean) (by decide) (by decide))))
  have f23 := (f18.wr W19)
  obtain ⟨T24, h24, X24, e24, W24, st24⟩ := putFN X19 hx hZ hown (hw _ (List.mem_of_getElem? (i := 18) rfl)) Via.refl e19 f22 f23 (Or.inr ⟨(hw _ (List.mem_of_getElem? (i := 19) rfl)), rfl, hnm⟩) (hw _ (List.mem_of_getElem? (i := 1) rfl)) (ty := .boolean) (v' := (.int (nar .boolean p3))) (by decide) rfl (fits_nar_bool _) (g := (mkF m 39 #[.val (.ref a1), .val (.int p1), .val (.int p2), .val (.int p3), .val (.int p4)] [(.int p3), (.ref a1)])) rfl rfl (hb hby d1_39)
  have N24 := Fr.snoc X24 N19 g1
  have F24 := f22.same W24
  have c25 : Goes p e below s₁ (entryFrame m #[(.ref a1), (.int p1), (.int p2), (.int p3), (.int p4)] 5) T24 (mkF m 42 #[.val (.ref a1), .val (.int p1), .val (.int p2), .val (.int p3), .val (.int p4)] []) := fun t kk => c21 t (st24 t kk)
  have c26 : Goes p e below s₁ (entryFrame m #[(.ref a1), (.int p1), (.int p2), (.int p3), (.int p4)] 5) T24 (mkF m 45 #[.val (.ref a1), .val (.int p1), .val (.int p2), .val (.int p3), .val (.int p4)] [(.int p4), (.ref a1)]) := by
    intro t kk
    refine c25 t ?_
    show Steps p.tables e below (T24.setTop (mkF m 42 #[.val (.ref a1), .val (.int p1), .val (.int p2), .val (.int p3), .val (.int p4)] [])) t
    refine XS.aloadN X24.here hx rfl (hb hby d1_42) rfl rfl ?_
    show Steps p.tables e below (T24.setTop (mkF m 43 #[.val (.ref a1), .val (.int p1), .val (.int p2), .val (.int p3), .val (.int p4)] [(.ref a1)])) t
    refine XS.iload X24.here hx rfl (hb hby d1_43) rfl ?_
    exact kk
  have f27 := (((F_descending.other W14 (Or.inr (slot_ne (Or.inr (hw _ (List.mem_of_getElem? (i := 21) rfl))) (Or.inr (hw _ (List.mem_of_getElem? (i := 15) rfl))) (by decide) (t := .boolean) (t' := .boolean) (by decide) (by decide)))).other W19 (Or.inr (slot_ne (Or.inr (hw _ (List.mem_of_getElem? (i := 21) rfl))) (Or.inr (hw _ (List.mem_of_getElem? (i := 17) rfl))) (by decide) (t := .boolean) (t' := .boolean) (by decide) (by decide)))).other W24 (Or.inr (slot_ne (Or.inr (hw _ (List.mem_of_getElem? (i := 21) rfl))) (Or.inr (hw _ (List.mem_of_getElem? (i := 19) rfl))) (by decide) (t := .boolean) (t' := .boolean) (by decide) (by decide))))
  have f28 := (f23.wr W24)
  obtain ⟨T29, h29, X29, e29, W29, st29⟩ := putFN X24 hx hZ hown (hw _ (List.mem_of_getElem? (i := 20) rfl)) Via.refl e24 f27 f28 (Or.inr ⟨(hw _ (List.mem_of_getElem? (i := 21) rfl)), rfl, hnm⟩) (hw _ (List.mem_of_getElem? (i := 1) rfl)) (ty := .boolean) (v' := (.int (nar .boolean p4))) (by decide) rfl (fits_nar_bool _) (g := (mkF m 45 #[.val (.ref a1), .val (.int p1), .val (.int p2), .val (.int p3), .val (.int p4)] [(.int p4), (.ref a1)])) rfl rfl (hb hby d1_45)
  have N29 := Fr.snoc X29 N24 g1
  have F29 := f27.same W29
  have c30 : Goes p e below s₁ (entryFrame m #[(.ref a1), (.int p1), (.int p2), (.int p3), (.int p4)] 5) T29 (mkF m 48 #[.val (.ref a1), .val (.int p1), .val (.int p2), .val (.int p3), .val (.int p4)] []) := fun t kk => c26 t (st29 t kk)
  have f31 := (((((Keep.refl h0 [a1]).wr W14 (Or.inl (List.mem_of_getElem? (i := 0) rfl))).wr W19 (Or.inl (List.mem_of_getElem? (i := 0) rfl))).wr W24 (Or.inl (List.mem_of_getElem? (i := 0) rfl))).wr W29 (Or.inl (List.mem_of_getElem? (i := 0) rfl)))
  have f32 := (f28.wr W29)
  have f33 := (((F14.other W19 (Or.inr (slot_ne (Or.inr (hw _ (List.mem_of_getElem? (i := 15) rfl))) (Or.inr (hw _ (List.mem_of_getElem? (i := 17) rfl))) (by decide) (t := .boolean) (t' := .boolean) (by decide) (by decide)))).other W24 (Or.inr (slot_ne (Or.inr (hw _ (List.mem_of_getElem? (i := 15) rfl))) (Or.inr (hw _ (List.mem_of_getElem? (i := 19) rfl))) (by decide) (t := .boolean) (t' := .boolean) (by decide) (by decide)))).other W29 (Or.inr (slot_ne (Or.inr (hw _ (List.mem_of_getElem? (i := 15) rfl))) (Or.inr (hw _ (List.mem_of_getElem? (i := 21) rfl))) (by decide) (t := .boolean) (t' := .boolean) (by decide) (by decide))))
  have f34 := ((F19.other W24 (Or.inr (slot_ne (Or.inr (hw _ (List.mem_of_getElem? (i := 17) rfl))) (Or.inr (hw _ (List.mem_of_getElem? (i := 19) rfl))) (by decide) (t := .boolean) (t' := .boolean) (by decide) (by decide)))).other W29 (Or.inr (slot_ne (Or.inr (hw _ (List.mem_of_getElem? (i := 17) rfl))) (Or.inr (hw _ (List.mem_of_getElem? (i := 21) rfl))) (by decide) (t := .boolean) (t' := .boolean) (by decide) (by decide))))
  have f35 := (F24.other W29 (Or.inr (slot_ne (Or.inr (hw _ (List.mem_of_getElem? (i := 19) rfl))) (Or.inr (hw _ (List.mem_of_getElem? (i := 21) rfl))) (by decide) (t := .boolean) (t' := .boolean) (by decide) (by decide))))
  obtain ⟨fs, hr, hrun, hended, hW, hsame⟩ := X29.leave (v := none) (fun _ => rfl)
  refine ⟨_, _, c30 _ ?_, hrun, hended, _, _, rfl, ?_, ⟨_, rfl⟩, hW, hsame.mono (by decide) (by decide)⟩
  · exact X29.returnOut hx Bd.returns (hb hby d1_48) hr
  · show Q_init Z a1 p1 p2 p3 p4 h0 n0 _ T29.heap _
    rw [e29]
    exact ⟨rfl, N29, f31, f32, f33, f34, f35, F29⟩
theorem d4_0 : decode prog_98_method_2_code 0 = .ok (.aload_n 0, 1) := by decide +kernel
theorem d4_1 : decode prog_98_method_2_code 1 = .ok (.getfield 23, 3) := by decide +kernel
theorem d4_4 : decode prog_98_method_2_code 4 = .ok (.ifCond .eq 14, 3) := by decide +kernel
theorem d4_7 : decode prog_98_method_2_code 7 = .ok (.aload_n 0, 1) := by decide +kernel
theorem d4_8 : decode prog_98_method_2_code 8 = .ok (.getfield 20, 3) := by decide +kernel
theorem d4_11 : decode prog_98_method_2_code 11 = .ok (.ifCond .eq 7, 3) := by decide +kernel
theorem d4_14 : decode prog_98_method_2_code 14 = .ok (.iconst 1, 1) := by decide +kernel
theorem d4_15 : decode prog_98_method_2_code 15 = .ok (.goto 4, 3) := by decide +kernel
theorem d4_18 : decode prog_98_method_2_code 18 = .ok (.iconst 0, 1) := by decide +kernel
theorem d4_19 : decode prog_98_method_2_code 19 = .ok (.ireturn, 1) := by decide +kernel
theorem ef_ul (m : MethodId) (x0 : Addr) : entryFrame m #[(.ref x0)] 1 = mkF m 0 #[.val (.ref x0)] [] := by (first | (simp [entryFrame, mkF, argsToLocals, Value.category]; done) | rfl)
def Q_ul (Z : State) (a1 : Addr) (pp : Int32) (pu : Int32) (h0 : Heap) (n0 : Nat) (v : Option Value) (h : Heap) (L : List Loc) : Prop := v = some (.int (own_ul pp pu)) ∧ Fr n0 L ∧ h = h0
set_option maxRecDepth 65536 in
set_option maxHeartbeats 40000000 in
theorem rm_ul (l : Launch) (Z : State) (a0 : Array Value) (hw : ∀ d ∈ tables_1, d.before a0 Z = true) (ws : List Jvm.Cond) (a1 : Addr) (pp : Int32) (pu : Int32) (h0 : Heap) (n0 : Nat) (Z0 : n0 ≤ h0.size) (Fp : Fld Z h0 a1 "com/example/nextkey/nextkey/lock/LockRules$RangeScan" "point" "Z" (.int pp)) (Fu : Fld Z h0 a1 "com/example/nextkey/nextkey/lock/LockRules$RangeScan" "unique" "Z" (.int pu)) :
    MetFree l (⟨"com/example/nextkey/nextkey/lock/LockRules$RangeScan", "isUniqueLookup", "()Z"⟩ : MethodName) (head1 (Jvm.Cond.code (⟨"com/example/nextkey/nextkey/lock/LockRules$RangeScan", "isUniqueLookup", "()Z"⟩ : MethodName) prog_98_method_2_code 1 (some .boolean) :: ws) ({ frames := 0, cells := 0, slots := 0, locals := 0 } : Room)) (fun a U => a = #[(.ref a1)] ∧ Z.Warmed39 U.vm ∧ U.heap = h0) (fun _ _ _ _ _ => True) (fun _ U o U' => ∃ v L, o = .returned v ∧ Q_ul Z a1 pp pu h0 n0 v U'.heap L ∧ FrameEnd U o U' L ({ frames := 0, cells := 0, slots := 0, locals := 0 } : Room).cells ({ frames := 0, cells := 0, slots := 0, locals := 0 } : Room).slots) := by
  refine MetFree.of_bodySF (plainFor_of_name pn_1) hisR ?_
  intro p e s m args below meth c s₁ Bd hml0 hP hK
  obtain ⟨rfl, hZ, hh⟩ := hP
  have hx := Bd.exec
  have hby := Bd.bytes
  have hml : c.maxLocals = 1 := hml0
  have hown : s.vm.findClass "com/example/nextkey/nextkey/lock/LockRules$RangeScan" = some m.cls := findClass_of_methodNamed Bd.named
  have hnm := (name_of_methodNamed Bd.named Bd.method).1
  have X0 : Stand p l e ({ frames := 0, cells := 0, slots := 0, locals := 0 } : Room) s m #[(.ref a1)] below meth c s₁ [] 0 0 := Stand.of_body Bd
  have e0 : s₁.heap = h0 := by rw [← hh, Bd.state]; rfl
  have N0 := Fr.nil n0
  have c0 : Goes p e below s₁ (entryFrame m #[(.ref a1)] 1) s₁ (mkF m 0 #[.val (.ref a1)] []) := fun t k => castTop (ef_ul m a1) k
  have c36 : Goes p e below s₁ (entryFrame m #[(.ref a1)] 1) s₁ (mkF m 1 #[.val (.ref a1)] [(.ref a1)]) := by
    intro t kk
    refine c0 t ?_
    show Steps p.tables e below (s₁.setTop (mkF m 0 #[.val (.ref a1)] [])) t
    refine XS.aloadN X0.here hx rfl (hb hby d4_0) rfl rfl ?_
    exact kk
  obtain ⟨T37, X37, e37, st37⟩ := getF X0 hx hZ hown (host := "") (Or.inl (hw _ (List.mem_of_getElem? (i := 18) rfl))) Via.refl e0 Fp (g := (mkF m 1 #[.val (.ref a1)] [(.ref a1)])) rfl rfl (hb hby d4_1)
  have c38 : Goes p e below s₁ (entryFrame m #[(.ref a1)] 1) T37 (mkF m 4 #[.val (.ref a1)] [(.int pp)]) := fun t kk => c36 t (st37 t kk)
  by_cases hc4_39 : pp = (0 : Int32)
  · have c40 : Goes p e below s₁ (entryFrame m #[(.ref a1)] 1) T37 (mkF m 19 #[.val (.ref a1)] [(.int (0 : Int32))]) := by
      intro t kk
      refine c38 t ?_
      show Steps p.tables e below (T37.setTop (mkF m 4 #[.val (.ref a1)] [(.int pp)])) t
      refine XS.ifYes X37.here hx rfl (pc0 := 4) (pc' := 18) rfl (hb hby d4_4) rfl ((if0 _ _).trans (teq hc4_39).1) (by decide) (by decide) ?_
      show Steps p.tables e below (T37.setTop (mkF m 18 #[.val (.ref a1)] [])) t
      refine XS.iconst X37.here hx rfl (hb hby d4_18) ?_
      exact kk
    obtain ⟨fs, hr, hrun, hended, hW, hsame⟩ := X37.leave (v := some (.int (0 : Int32))) (fun h => by rw [Bd.returns] at h; cases h)
    refine ⟨_, _, c40 _ ?_, hrun, hended, _, _, rfl, ?_, ⟨_, rfl⟩, hW, hsame.mono (by decide) (by decide)⟩
    · exact retN X37 hx (t := .boolean) Bd.returns (by simp) (hb hby d4_19) hr
    · show Q_ul Z a1 pp pu h0 n0 _ T37.heap _
      rw [e37]
      exact ⟨by simp [own_ul, hc4_39], N0, rfl⟩
  · have c41 : Goes p e below s₁ (entryFrame m #[(.ref a1)] 1) T37 (mkF m 8 #[.val (.ref a1)] [(.ref a1)]) := by
      intro t kk
      refine c38 t ?_
      show Steps p.tables e below (T37.setTop (mkF m 4 #[.val (.ref a1)] [(.int pp)])) t
      refine XS.ifNo X37.here hx rfl (hb hby d4_4) rfl ((if0 _ _).trans (feq hc4_39).1) ?_
      show Steps p.tables e below (T37.setTop (mkF m 7 #[.val (.ref a1)] [])) t
      refine XS.aloadN X37.here hx rfl (hb hby d4_7) rfl rfl ?_
      exact kk
    obtain ⟨T42, X42, e42, st42⟩ := getF X37 hx hZ hown (host := "") (Or.inl (hw _ (List.mem_of_getElem? (i := 16) rfl))) Via.refl e37 Fu (g := (mkF m 8 #[.val (.ref a1)] [(.ref a1)])) rfl rfl (hb hby d4_8)
    have c43 : Goes p e below s₁ (entryFrame m #[(.ref a1)] 1) T42 (mkF m 11 #[.val (.ref a1)] [(.int pu)]) := fun t kk => c41 t (st42 t kk)
    by_cases hc11_44 : pu = (0 : Int32)
    · have c45 : Goes p e below s₁ (entryFrame m #[(.ref a1)] 1) T42 (mkF m 19 #[.val (.ref a1)] [(.int (0 : Int32))]) := by
        intro t kk
        refine c43 t ?_
        show Steps p.tables e below (T42.setTop (mkF m 11 #[.val (.ref a1)] [(.int pu)])) t
        refine XS.ifYes X42.here hx rfl (pc0 := 11) (pc' := 18) rfl (hb hby d4_11) rfl ((if0 _ _).trans (teq hc11_44).1) (by decide) (by decide) ?_
        show Steps p.tables e below (T42.setTop (mkF m 18 #[.val (.ref a1)] [])) t
        refine XS.iconst X42.here hx rfl (hb hby d4_18) ?_
        exact kk
      obtain ⟨fs, hr, hrun, hended, hW, hsame⟩ := X42.leave (v := some (.int (0 : Int32))) (fun h => by rw [Bd.returns] at h; cases h)
      refine ⟨_, _, c45 _ ?_, hrun, hended, _, _, rfl, ?_, ⟨_, rfl⟩, hW, hsame.mono (by decide) (by decide)⟩
      · exact retN X42 hx (t := .boolean) Bd.returns (by simp) (hb hby d4_19) hr
      · show Q_ul Z a1 pp pu h0 n0 _ T42.heap _
        rw [e42]
        exact ⟨by simp [own_ul, hc4_39, hc11_44], N0, rfl⟩
    · have c46 : Goes p e below s₁ (entryFrame m #[(.ref a1)] 1) T42 (mkF m 19 #[.val (.ref a1)] [(.int (1 : Int32))]) := by
        intro t kk
        refine c43 t ?_
        show Steps p.tables e below (T42.setTop (mkF m 11 #[.val (.ref a1)] [(.int pu)])) t
        refine XS.ifNo X42.here hx rfl (hb hby d4_11) rfl ((if0 _ _).trans (feq hc11_44).1) ?_
        show Steps p.tables e below (T42.setTop (mkF m 14 #[.val (.ref a1)] [])) t
        refine XS.iconst X42.here hx rfl (hb hby d4_14) ?_
        show Steps p.tables e below (T42.setTop (mkF m 15 #[.val (.ref a1)] [(.int (1 : Int32))])) t
        refine XS.goto X42.here hx rfl (pc0 := 15) (pc' := 19) rfl (hb hby d4_15) (by decide) (by decide) ?_
        exact kk
      obtain ⟨fs, hr, hrun, hended, hW, hsame⟩ := X42.leave (v := some (.int (1 : Int32))) (fun h => by rw [Bd.returns] at h; cases h)
      refine ⟨_, _, c46 _ ?_, hrun, hended, _, _, rfl, ?_, ⟨_, rfl⟩, hW, hsame.mono (by decide) (by decide)⟩
      · exact retN X42 hx (t := .boolean) Bd.returns (by simp) (hb hby d4_19) hr
      · show Q_ul Z a1 pp pu h0 n0 _ T42.heap _
        rw [e42]
        exact ⟨by simp [own_ul, hc4_39, hc11_44], N0, rfl⟩
theorem d5_0 : decode prog_98_method_9_code 0 = .ok (.aload_n 0, 1) := by decide +kernel
theorem d5_1 : decode prog_98_method_9_code 1 = .ok (.getfield 26, 3) := by decide +kernel
theorem d5_4 : decode prog_98_method_9_code 4 = .ok (.ireturn, 1) := by decide +kernel
theorem ef_ds (m : MethodId) (x0 : Addr) : entryFrame m #[(.ref x0)] 1 = mkF m 0 #[.val (.ref x0)] [] := by (first | (simp [entryFrame, mkF, argsToLocals, Value.category]; done) | rfl)
def Q_ds (Z : State) (a1 : Addr) (pd : Int32) (h0 : Heap) (n0 : Nat) (v : Option Value) (h : Heap) (L : List Loc) : Prop := v = some (.int (nar .boolean pd)) ∧ Fr n0 L ∧ h = h0
set_option maxRecDepth 65536 in
set_option maxHeartbeats 40000000 in
theorem rm_ds (l : Launch) (Z : State) (a0 : Array Value) (hw : ∀ d ∈ tables_1, d.before a0 Z = true) (ws : List Jvm.Cond) (a1 : Addr) (pd : Int32) (h0 : Heap) (n0 : Nat) (Z0 : n0 ≤ h0.size) (Fd : Fld Z h0 a1 "com/example/nextkey/nextkey/lock/LockRules$RangeScan" "descending" "Z" (.int pd)) :
    MetFree l (⟨"com/example/nextkey/nextkey/lock/LockRules$RangeScan", "descending", "()Z"⟩ : MethodName) (head1 (Jvm.Cond.code (⟨"com/example/nextkey/nextkey/lock/LockRules$RangeScan", "descending", "()Z"⟩ : MethodName) prog_98_method_9_code 1 (some .boolean) :: ws) ({ frames := 0, cells := 0, slots := 0, locals := 0 } : Room)) (fun a U => a = #[(.ref a1)] ∧ Z.Warmed39 U.vm ∧ U.heap = h0) (fun _ _ _ _ _ => True) (fun _ U o U' => ∃ v L, o = .returned v ∧ Q_ds Z a1 pd h0 n0 v U'.heap L ∧ FrameEnd U o U' L ({ frames := 0, cells := 0, slots := 0, locals := 0 } : Room).cells ({ frames := 0, cells := 0, slots := 0, locals := 0 } : Room).slots) := by
  refine MetFree.of_bodySF (plainFor_of_name pn_1) hisR ?_
  intro p e s m args below meth c s₁ Bd hml0 hP hK
  obtain ⟨rfl, hZ, hh⟩ := hP
  have hx := Bd.exec
  have hby := Bd.bytes
  have hml : c.maxLocals = 1 := hml0
  have hown : s.vm.findClass "com/example/nextkey/nextkey/lock/LockRules$RangeScan" = some m.cls := findClass_of_methodNamed Bd.named
  have hnm := (name_of_methodNamed Bd.named Bd.method).1
  have X0 : Stand p l e ({ frames := 0, cells := 0, slots := 0, locals := 0 } : Room) s m #[(.ref a1)] below meth c s₁ [] 0 0 := Stand.of_body Bd
  have e0 : s₁.heap = h0 := by rw [← hh, Bd.state]; rfl
  have N0 := Fr.nil n0
  have c0 : Goes p e below s₁ (entryFrame m #[(.ref a1)] 1) s₁ (mkF m 0 #[.val (.ref a1)] []) := fun t k => castTop (ef_ds m a1) k
  have c47 : Goes p e below s₁ (entryFrame m #[(.ref a1)] 1) s₁ (mkF m 1 #[.val (.ref a1)] [(.ref a1)]) := by
    intro t kk
    refine c0 t ?_
    show Steps p.tables e below (s₁.setTop (mkF m 0 #[.val (.ref a1)] [])) t
    refine XS.aloadN X0.here hx rfl (hb hby d5_0) rfl rfl ?_
    exact kk
  obtain ⟨T48, X48, e48, st48⟩ := getF X0 hx hZ hown (host := "") (Or.inl (hw _ (List.mem_of_getElem? (i := 20) rfl))) Via.refl e0 Fd (g := (mkF m 1 #[.val (.ref a1)] [(.ref a1)])) rfl rfl (hb hby d5_1)
  have c49 : Goes p e below s₁ (entryFrame m #[(.ref a1)] 1) T48 (mkF m 4 #[.val (.ref a1)] [(.int pd)]) := fun t kk => c47 t (st48 t kk)
  obtain ⟨fs, hr, hrun, hended, hW, hsame⟩ := X48.leave (v := some (.int (nar .boolean pd))) (fun h => by rw [Bd.returns] at h; cases h)
  refine ⟨_, _, c49 _ ?_, hrun, hended, _, _, rfl, ?_, ⟨_, rfl⟩, hW, hsame.mono (by decide) (by decide)⟩
  · exact retN X48 hx (t := .boolean) Bd.returns (by simp) (hb hby d5_4) hr
  · show Q_ds Z a1 pd h0 n0 _ T48.heap _
    rw [e48]
    exact ⟨rfl, N0, rfl⟩
theorem pn_0 : plainName "com/example/nextkey/nextkey/lock/RangeScanIsUniqueLookupPinLaw" = true := by first | (simp [plainName, overriddenIn]; done) | decide +kernel
theorem pd__ZZZZ_V : parseMethodDescriptor "(ZZZZ)V" = some ⟨[.boolean, .boolean, .boolean, .boolean], none⟩ := by decide +kernel
theorem pd___Z : parseMethodDescriptor "()Z" = some ⟨[], some .boolean⟩ := by decide +kernel
theorem ef_law (m : MethodId) (x0 : Int32) : entryFrame m #[(.int x0)] maxLocals = mkF m 0 #[.val (.int x0), .unset, .unset, .unset, .unset, .unset, .unset, .unset, .unset] [] := by (first | (simp [entryFrame, mkF, argsToLocals, Value.category, maxLocals]; done) | rfl)
def Q_law (Z : State) (p0 : Int32) (h0 : Heap) (n0 : Nat) (v : Option Value) (h : Heap) (L : List Loc) : Prop := v = some (.int 1) ∧ Fr n0 L
set_option maxRecDepth 65536 in
set_option maxHeartbeats 40000000 in
theorem rm_law (l : Launch) (Z : State) (a0 : Array Value) (hw : ∀ d ∈ tables_1, d.before a0 Z = true) (ws : List Jvm.Cond) (p0 : Int32) (h0 : Heap) (n0 : Nat) (Z0 : n0 ≤ h0.size)  :
    MetFree l x (head1 (Jvm.Cond.code x code maxLocals ret :: ws) room_1) (fun a U => a = #[(.int p0)] ∧ Z.Warmed39 U.vm ∧ U.heap = h0) (fun _ _ _ _ _ => True) (fun _ U o U' => ∃ v L, o = .returned v ∧ Q_law Z p0 h0 n0 v U'.heap L ∧ FrameEnd U o U' L 2 8) := by
  refine MetFree.of_bodySF (plainFor_of_name pn_0) hisR ?_
  intro p e s m args below meth c s₁ Bd hml0 hP hK
  obtain ⟨rfl, hZ, hh⟩ := hP
  have hx := Bd.exec
  have hby := Bd.bytes
  have hml : c.maxLocals = 9 := hml0
  have hown : s.vm.findClass "com/example/nextkey/nextkey/lock/RangeScanIsUniqueLookupPinLaw" = some m.cls := findClass_of_methodNamed Bd.named
  have hnm := (name_of_methodNamed Bd.named Bd.method).1
  have X0 : Stand p l e room_1 s m #[(.int p0)] below meth c s₁ [] 0 0 := Stand.of_body Bd
  have e0 : s₁.heap = h0 := by rw [← hh, Bd.state]; rfl
  have N0 := Fr.nil n0
  have c0 : Goes p e below s₁ (entryFrame m #[(.int p0)] maxLocals) s₁ (mkF m 0 #[.val (.int p0), .unset, .unset, .unset, .unset, .unset, .unset, .unset, .unset] []) := fun t k => castTop (ef_law m p0) k
  obtain ⟨b1, hm50, c50⟩ : ∃ b1 : Int32, (b1 = 0 ∨ b1 = 1) ∧ Goes p e below s₁ (entryFrame m #[(.int p0)] maxLocals) s₁ (mkF m 11 #[.val (.int p0), .unset, .unset, .unset, .unset, .unset, .unset, .unset, .unset] [(.int b1)]) := by
    have c51 : Goes p e below s₁ (entryFrame m #[(.int p0)] maxLocals) s₁ (mkF m 3 #[.val (.int p0), .unset, .unset, .unset, .unset, .unset, .unset, .unset, .unset] [(.int (p0 &&& (1 : Int32)))]) := by
      intro t kk
      refine c0 t ?_
      show Steps p.tables e below (s₁.setTop (mkF m 0 #[.val (.int p0), .unset, .unset, .unset, .unset, .unset, .unset, .unset, .unset] [])) t
      refine XS.iloadN X0.here hx rfl (hb hby at_0) rfl ?_
      show Steps p.tables e below (s₁.setTop (mkF m 1 #[.val (.int p0), .unset, .unset, .unset, .unset, .unset, .unset, .unset, .unset] [(.int p0)])) t
      refine XS.iconst X0.here hx rfl (hb hby at_1) ?_
      show Steps p.tables e below (s₁.setTop (mkF m 2 #[.val (.int p0), .unset, .unset, .unset, .unset, .unset, .unset, .unset, .unset] [(.int (1 : Int32)), (.int p0)])) t
      refine XS.iand X0.here hx rfl (hb hby at_2) rfl ?_
      exact kk
    by_cases hc3_52 : (p0 &&& (1 : Int32)) = (0 : Int32)
    · have c53 : Goes p e below s₁ (entryFrame m #[(.int p0)] maxLocals) s₁ (mkF m 11 #[.val (.int p0), .unset, .unset, .unset, .unset, .unset, .unset, .unset, .unset] [(.int (0 : Int32))]) := by
        intro t kk
        refine c51 t ?_
        show Steps p.tables e below (s₁.setTop (mkF m 3 #[.val (.int p0), .unset, .unset, .unset, .unset, .unset, .unset, .unset, .unset] [(.int (p0 &&& (1 : Int32)))])) t
        refine XS.ifYes X0.here hx rfl (pc0 := 3) (pc' := 10) rfl (hb hby at_3) rfl ((if0 _ _).trans (teq hc3_52).1) (by decide) (by decide) ?_
        show Steps p.tables e below (s₁.setTop (mkF m 10 #[.val (.int p0), .unset, .unset, .unset, .unset, .unset, .unset, .unset, .unset] [])) t
        refine XS.iconst X0.here hx rfl (hb hby at_10) ?_
        exact kk
      exact ⟨(0 : Int32), (Or.inl rfl), c53⟩
    · have c54 : Goes p e below s₁ (entryFrame m #[(.int p0)] maxLocals) s₁ (mkF m 11 #[.val (.int p0), .unset, .unset, .unset, .unset, .unset, .unset, .unset, .unset] [(.int (1 : Int32))]) := by
        intro t kk
        refine c51 t ?_
        show Steps p.tables e below (s₁.setTop (mkF m 3 #[.val (.int p0), .unset, .unset, .unset, .unset, .unset, .unset, .unset, .unset] [(.int (p0 &&& (1 : Int32)))])) t
        refine XS.ifNo X0.here hx rfl (hb hby at_3) rfl ((if0 _ _).trans (feq hc3_52).1) ?_
        show Steps p.tables e below (s₁.setTop (mkF m 6 #[.val (.int p0), .unset, .unset, .unset, .unset, .unset, .unset, .unset, .unset] [])) t
        refine XS.iconst X0.here hx rfl (hb hby at_6) ?_
        show Steps p.tables e below (s₁.setTop (mkF m 7 #[.val (.int p0), .unset, .unset, .unset, .unset, .unset, .unset, .unset, .unset] [(.int (1 : Int32))])) t
        refine XS.goto X0.here hx rfl (pc0 := 7) (pc' := 11) rfl (hb hby at_7) (by decide) (by decide) ?_
        exact kk
      exact ⟨(1 : Int32), (Or.inr rfl), c54⟩
  have c55 : Goes p e below s₁ (entryFrame m #[(.int p0)] maxLocals) s₁ (mkF m 12 #[.val (.int p0), .val (.int b1), .unset, .unset, .unset, .unset, .unset, .unset, .unset] []) := by
    intro t kk
    refine c50 t ?_
    show Steps p.tables e below (s₁.setTop (mkF m 11 #[.val (.int p0), .unset, .unset, .unset, .unset, .unset, .unset, .unset, .unset] [(.int b1)])) t
    refine XS.istoreN X0.here hx rfl (hb hby at_11) rfl (l' := #[.val (.int p0), .val (.int b1), .unset, .unset, .unset, .unset, .unset, .unset, .unset]) rfl ?_
    exact kk
  obtain ⟨b2, hm56, c56⟩ : ∃ b2 : Int32, (b2 = 0 ∨ b2 = 1) ∧ Goes p e below s₁ (entryFrame m #[(.int p0)] maxLocals) s₁ (mkF m 23 #[.val (.int p0), .val (.int b1), .unset, .unset, .unset, .unset, .unset, .unset, .unset] [(.int b2)]) := by
    have c57 : Goes p e below s₁ (entryFrame m #[(.int p0)] maxLocals) s₁ (mkF m 15 #[.val (.int p0), .val (.int b1), .unset, .unset, .unset, .unset, .unset, .unset, .unset] [(.int (p0 &&& (2 : Int32)))]) := by
      intro t kk
      refine c55 t ?_
      show Steps p.tables e below (s₁.setTop (mkF m 12 #[.val (.int p0), .val (.int b1), .unset, .unset, .unset, .unset, .unset, .unset, .unset] [])) t
      refine XS.iloadN X0.here hx rfl (hb hby at_12) rfl ?_
      show Steps p.tables e below (s₁.setTop (mkF m 13 #[.val (.int p0), .val (.int b1), .unset, .unset, .unset, .unset, .unset, .unset, .unset] [(.int p0)])) t
      refine XS.iconst X0.here hx rfl (hb hby at_13) ?_
      show Steps p.tables e below (s₁.setTop (mkF m 14 #[.val (.int p0), .val (.int b1), .unset, .unset, .unset, .unset, .unset, .unset, .unset] [(.int (2 : Int32)), (.int p0)])) t
      refine XS.iand X0.here hx rfl (hb hby at_14) rfl ?_
      exact kk
    by_cases hc15_58 : (p0 &&& (2 : Int32)) = (0 : Int32)
    · have c59 : Goes p e below s₁ (entryFrame m #[(.int p0)] maxLocals) s₁ (mkF m 23 #[.val (.int p0), .val (.int b1), .unset, .unset, .unset, .unset, .unset, .unset, .unset] [(.int (0 : Int32))]) := by
        intro t kk
        refine c57 t ?_
        show Steps p.tables e below (s₁.setTop (mkF m 15 #[.val (.int p0), .val (.int b1), .unset, .unset, .unset, .unset, .unset, .unset, .unset] [(.int (p0 &&& (2 : Int32)))])) t
        refine XS.ifYes X0.here hx rfl (pc0 := 15) (pc' := 22) rfl (hb hby at_15) rfl ((if0 _ _).trans (teq hc15_58).1) (by decide) (by decide) ?_
        show Steps p.tables e below (s₁.setTop (mkF m 22 #[.val (.int p0), .val (.int b1), .unset, .unset, .unset, .unset, .unset, .unset, .unset] [])) t
        refine XS.iconst X0.here hx rfl (hb hby at_22) ?_
        exact kk
      exact ⟨(0 : Int32), (Or.inl rfl), c59⟩
    · have c60 : Goes p e below s₁ (entryFrame m #[(.int p0)] maxLocals) s₁ (mkF m 23 #[.val (.int p0), .val (.int b1), .unset, .unset, .unset, .unset, .unset, .unset, .unset] [(.int (1 : Int32))]) := by
        intro t kk
        refine c57 t ?_
        show Steps p.tables e below (s₁.setTop (mkF m 15 #[.val (.int p0), .val (.int b1), .unset, .unset, .unset, .unset, .unset, .unset, .unset] [(.int (p0 &&& (2 : Int32)))])) t
        refine XS.ifNo X0.here hx rfl (hb hby at_15) rfl ((if0 _ _).trans (feq hc15_58).1) ?_
        show Steps p.tables e below (s₁.setTop (mkF m 18 #[.val (.int p0), .val (.int b1), .unset, .unset, .unset, .unset, .unset, .unset, .unset] [])) t
        refine XS.iconst X0.here hx rfl (hb hby at_18) ?_
        show Steps p.tables e below (s₁.setTop (mkF m 19 #[.val (.int p0), .val (.int b1), .unset, .unset, .unset, .unset, .unset, .unset, .unset] [(.int (1 : Int32))])) t
        refine XS.goto X0.here hx rfl (pc0 := 19) (pc' := 23) rfl (hb hby at_19) (by decide) (by decide) ?_
        exact kk
      exact ⟨(1 : Int32), (Or.inr rfl), c60⟩
  have c61 : Goes p e below s₁ (entryFrame m #[(.int p0)] maxLocals) s₁ (mkF m 24 #[.val (.int p0), .val (.int b1), .val (.int b2), .unset, .unset, .unset, .unset, .unset, .unset] []) := by
    intro t kk
    refine c56 t ?_
    show Steps p.tables e below (s₁.setTop (mkF m 23 #[.val (.int p0), .val (.int b1), .unset, .unset, .unset, .unset, .unset, .unset, .unset] [(.int b2)])) t
    refine XS.istoreN X0.here hx rfl (hb hby at_23) rfl (l' := #[.val (.int p0), .val (.int b1), .val (.int b2), .unset, .unset, .unset, .unset, .unset, .unset]) rfl ?_
    exact kk
  obtain ⟨b3, hm62, c62⟩ : ∃ b3 : Int32, (b3 = 0 ∨ b3 = 1) ∧ Goes p e below s₁ (entryFrame m #[(.int p0)] maxLocals) s₁ (mkF m 35 #[.val (.int p0), .val (.int b1), .val (.int b2), .unset, .unset, .unset, .unset, .unset, .unset] [(.int b3)]) := by
    have c63 : Goes p e below s₁ (entryFrame m #[(.int p0)] maxLocals) s₁ (mkF m 27 #[.val (.int p0), .val (.int b1), .val (.int b2), .unset, .unset, .unset, .unset, .unset, .unset] [(.int (p0 &&& (4 : Int32)))]) := by
      intro t kk
      refine c61 t ?_
      show Steps p.tables e below (s₁.setTop (mkF m 24 #[.val (.int p0), .val (.int b1), .val (.int b2), .unset, .unset, .unset, .unset, .unset, .unset] [])) t
      refine XS.iloadN X0.here hx rfl (hb hby at_24) rfl ?_
      show Steps p.tables e below (s₁.setTop (mkF m 25 #[.val (.int p0), .val (.int b1), .val (.int b2), .unset, .unset, .unset, .unset, .unset, .unset] [(.int p0)])) t
      refine XS.iconst X0.here hx rfl (hb hby at_25) ?_
      show Steps p.tables e below (s₁.setTop (mkF m 26 #[.val (.int p0), .val (.int b1), .val (.int b2), .unset, .unset, .unset, .unset, .unset, .unset] [(.int (4 : Int32)), (.int p0)])) t
      refine XS.iand X0.here hx rfl (hb hby at_26) rfl ?_
      exact kk
    by_cases hc27_64 : (p0 &&& (4 : Int32)) = (0 : Int32)
    · have c65 : Goes p e below s₁ (entryFrame m #[(.int p0)] maxLocals) s₁ (mkF m 35 #[.val (.int p0), .val (.int b1), .val (.int b2), .unset, .unset, .unset, .unset, .unset, .unset] [(.int (0 : Int32))]) := by
        intro t kk
        refine c63 t ?_
        show Steps p.tables e below (s₁.setTop (mkF m 27 #[.val (.int p0), .val (.int b1), .val (.int b2), .unset, .unset, .unset, .unset, .unset, .unset] [(.int (p0 &&& (4 : Int32)))])) t
        refine XS.ifYes X0.here hx rfl (pc0 := 27) (pc' := 34) rfl (hb hby at_27) rfl ((if0 _ _).trans (teq hc27_64).1) (by decide) (by decide) ?_
        show Steps p.tables e below (s₁.setTop (mkF m 34 #[.val (.int p0), .val (.int b1), .val (.int b2), .unset, .unset, .unset, .unset, .unset, .unset] [])) t
        refine XS.iconst X0.here hx rfl (hb hby at_34) ?_
        exact kk
      exact ⟨(0 : Int32), (Or.inl rfl), c65⟩
    · have c66 : Goes p e below s₁ (entryFrame m #[(.int p0)] maxLocals) s₁ (mkF m 35 #[.val (.int p0), .val (.int b1), .val (.int b2), .unset, .unset, .unset, .unset, .unset, .unset] [(.int (1 : Int32))]) := by
        intro t kk
        refine c63 t ?_
        show Steps p.tables e below (s₁.setTop (mkF m 27 #[.val (.int p0), .val (.int b1), .val (.int b2), .unset, .unset, .unset, .unset, .unset, .unset] [(.int (p0 &&& (4 : Int32)))])) t
        refine XS.ifNo X0.here hx rfl (hb hby at_27) rfl ((if0 _ _).trans (feq hc27_64).1) ?_
        show Steps p.tables e below (s₁.setTop (mkF m 30 #[.val (.int p0), .val (.int b1), .val (.int b2), .unset, .unset, .unset, .unset, .unset, .unset] [])) t
        refine XS.iconst X0.here hx rfl (hb hby at_30) ?_
        show Steps p.tables e below (s₁.setTop (mkF m 31 #[.val (.int p0), .val (.int b1), .val (.int b2), .unset, .unset, .unset, .unset, .unset, .unset] [(.int (1 : Int32))])) t
        refine XS.goto X0.here hx rfl (pc0 := 31) (pc' := 35) rfl (hb hby at_31) (by decide) (by decide) ?_
        exact kk
      exact ⟨(1 : Int32), (Or.inr rfl), c66⟩
  have c67 : Goes p e below s₁ (entryFrame m #[(.int p0)] maxLocals) s₁ (mkF m 36 #[.val (.int p0), .val (.int b1), .val (.int b2), .val (.int b3), .unset, .unset, .unset, .unset, .unset] []) := by
    intro t kk
    refine c62 t ?_
    show Steps p.tables e below (s₁.setTop (mkF m 35 #[.val (.int p0), .val (.int b1), .val (.int b2), .unset, .unset, .unset, .unset, .unset, .unset] [(.int b3)])) t
    refine XS.istoreN X0.here hx rfl (hb hby at_35) rfl (l' := #[.val (.int p0), .val (.int b1), .val (.int b2), .val (.int b3), .unset, .unset, .unset, .unset, .unset]) rfl ?_
    exact kk
  obtain ⟨b4, hm68, c68⟩ : ∃ b4 : Int32, (b4 = 0 ∨ b4 = 1) ∧ Goes p e below s₁ (entryFrame m #[(.int p0)] maxLocals) s₁ (mkF m 48 #[.val (.int p0), .val (.int b1), .val (.int b2), .val (.int b3), .unset, .unset, .unset, .unset, .unset] [(.int b4)]) := by
    have c69 : Goes p e below s₁ (entryFrame m #[(.int p0)] maxLocals) s₁ (mkF m 40 #[.val (.int p0), .val (.int b1), .val (.int b2), .val (.int b3), .unset, .unset, .unset, .unset, .unset] [(.int (p0 &&& (8 : Int32)))]) := by
      intro t kk
      refine c67 t ?_
      show Steps p.tables e below (s₁.setTop (mkF m 36 #[.val (.int p0), .val (.int b1), .val (.int b2), .val (.int b3), .unset, .unset, .unset, .unset, .unset] [])) t
      refine XS.iloadN X0.here hx rfl (hb hby at_36) rfl ?_
      show Steps p.tables e below (s₁.setTop (mkF m 37 #[.val (.int p0), .val (.int b1), .val (.int b2), .val (.int b3), .unset, .unset, .unset, .unset, .unset] [(.int p0)])) t
      refine XS.bipush X0.here hx rfl (hb hby at_37) ?_
      show Steps p.tables e below (s₁.setTop (mkF m 39 #[.val (.int p0), .val (.int b1), .val (.int b2), .val (.int b3), .unset, .unset, .unset, .unset, .unset] [(.int (8 : Int32)), (.int p0)])) t
      refine XS.iand X0.here hx rfl (hb hby at_39) rfl ?_
      exact kk
    by_cases hc40_70 : (p0 &&& (8 : Int32)) = (0 : Int32)
    · have c71 : Goes p e below s₁ (entryFrame m #[(.int p0)] maxLocals) s₁ (mkF m 48 #[.val (.int p0), .val (.int b1), .val (.int b2), .val (.int b3), .unset, .unset, .unset, .unset, .unset] [(.int (0 : Int32))]) := by
        intro t kk
        refine c69 t ?_
        show Steps p.tables e below (s₁.setTop (mkF m 40 #[.val (.int p0), .val (.int b1), .val (.int b2), .val (.int b3), .unset, .unset, .unset, .unset, .unset] [(.int (p0 &&& (8 : Int32)))])) t
        refine XS.ifYes X0.here hx rfl (pc0 := 40) (pc' := 47) rfl (hb hby at_40) rfl ((if0 _ _).trans (teq hc40_70).1) (by decide) (by decide) ?_
        show Steps p.tables e below (s₁.setTop (mkF m 47 #[.val (.int p0), .val (.int b1), .val (.int b2), .val (.int b3), .unset, .unset, .unset, .unset, .unset] [])) t
        refine XS.iconst X0.here hx rfl (hb hby at_47) ?_
        exact kk
      exact ⟨(0 : Int32), (Or.inl rfl), c71⟩
    · have c72 : Goes p e below s₁ (entryFrame m #[(.int p0)] maxLocals) s₁ (mkF m 48 #[.val (.int p0), .val (.int b1), .val (.int b2), .val (.int b3), .unset, .unset, .unset, .unset, .unset] [(.int (1 : Int32))]) := by
        intro t kk
        refine c69 t ?_
        show Steps p.tables e below (s₁.setTop (mkF m 40 #[.val (.int p0), .val (.int b1), .val (.int b2), .val (.int b3), .unset, .unset, .unset, .unset, .unset] [(.int (p0 &&& (8 : Int32)))])) t
        refine XS.ifNo X0.here hx rfl (hb hby at_40) rfl ((if0 _ _).trans (feq hc40_70).1) ?_
        show Steps p.tables e below (s₁.setTop (mkF m 43 #[.val (.int p0), .val (.int b1), .val (.int b2), .val (.int b3), .unset, .unset, .unset, .unset, .unset] [])) t
        refine XS.iconst X0.here hx rfl (hb hby at_43) ?_
        show Steps p.tables e below (s₁.setTop (mkF m 44 #[.val (.int p0), .val (.int b1), .val (.int b2), .val (.int b3), .unset, .unset, .unset, .unset, .unset] [(.int (1 : Int32))])) t
        refine XS.goto X0.here hx rfl (pc0 := 44) (pc' := 48) rfl (hb hby at_44) (by decide) (by decide) ?_
        exact kk
      exact ⟨(1 : Int32), (Or.inr rfl), c72⟩
  have c73 : Goes p e below s₁ (entryFrame m #[(.int p0)] maxLocals) s₁ (mkF m 50 #[.val (.int p0), .val (.int b1), .val (.int b2), .val (.int b3), .val (.int b4), .unset, .unset, .unset, .unset] []) := by
    intro t kk
    refine c68 t ?_
    show Steps p.tables e below (s₁.setTop (mkF m 48 #[.val (.int p0), .val (.int b1), .val (.int b2), .val (.int b3), .unset, .unset, .unset, .unset, .unset] [(.int b4)])) t
    refine XS.istore X0.here hx rfl (hb hby at_48) rfl (l' := #[.val (.int p0), .val (.int b1), .val (.int b2), .val (.int b3), .val (.int b4), .unset, .unset, .unset, .unset]) rfl ?_
    exact kk
  obtain ⟨d4, hm74, c74⟩ : ∃ d4 : Int32, ((d4 = 0 ∨ d4 = 1) ∧ (d4 = 0 ∨ b3 = 0 ∨ b2 = 0)) ∧ Goes p e below s₁ (entryFrame m #[(.int p0)] maxLocals) s₁ (mkF m 66 #[.val (.int p0), .val (.int b1), .val (.int b2), .val (.int b3), .val (.int d4), .unset, .unset, .unset, .unset] []) := by
    have c75 : Goes p e below s₁ (entryFrame m #[(.int p0)] maxLocals) s₁ (mkF m 52 #[.val (.int p0), .val (.int b1), .val (.int b2), .val (.int b3), .val (.int b4), .unset, .unset, .unset, .unset] [(.int b4)]) := by
      intro t kk
      refine c73 t ?_
      show Steps p.tables e below (s₁.setTop (mkF m 50 #[.val (.int p0), .val (.int b1), .val (.int b2), .val (.int b3), .val (.int b4), .unset, .unset, .unset, .unset] [])) t
      refine XS.iload X0.here hx rfl (hb hby at_50) rfl ?_
      exact kk
    by_cases h52 : b4 = (0 : Int32)
    · have c76 : Goes p e below s₁ (entryFrame m #[(.int p0)] maxLocals) s₁ (mkF m 66 #[.val (.int p0), .val (.int b1), .val (.int b2), .val (.int b3), .val (.int b4), .unset, .unset, .unset, .unset] []) := by
        intro t kk
        refine c75 t ?_
        show Steps p.tables e below (s₁.setTop (mkF m 52 #[.val (.int p0), .val (.int b1), .val (.int b2), .val (.int b3), .val (.int b4), .unset, .unset, .unset, .unset] [(.int b4)])) t
        refine XS.ifYes X0.here hx rfl (pc0 := 52) (pc' := 66) rfl (hb hby at_52) rfl ((if0 _ _).trans (teq h52).1) (by decide) (by decide) ?_
        exact kk
      exact ⟨b4, ⟨hm68, Or.inl h52⟩, c76⟩
    · have c77 : Goes p e below s₁ (entryFrame m #[(.int p0)] maxLocals) s₁ (mkF m 56 #[.val (.int p0), .val (.int b1), .val (.int b2), .val (.int b3), .val (.int b4), .unset, .unset, .unset, .unset] [(.int b3)]) := by
        intro t kk
        refine c75 t ?_
        show Steps p.tables e below (s₁.setTop (mkF m 52 #[.val (.int p0), .val (.int b1), .val (.int b2), .val (.int b3), .val (.int b4), .unset, .unset, .unset, .unset] [(.int b4)])) t
        refine XS.ifNo X0.here hx rfl (hb hby at_52) rfl ((if0 _ _).trans (feq h52).1) ?_
        show Steps p.tables e below (s₁.setTop (mkF m 55 #[.val (.int p0), .val (.int b1), .val (.int b2), .val (.int b3), .val (.int b4), .unset, .unset, .unset, .unset] [])) t
        refine XS.iloadN X0.here hx rfl (hb hby at_55) rfl ?_
        exact kk
      by_cases h56 : b3 = (0 : Int32)
      · have c78 : Goes p e below s₁ (entryFrame m #[(.int p0)] maxLocals) s₁ (mkF m 66 #[.val (.int p0), .val (.int b1), .val (.int b2), .val (.int b3), .val (.int b4), .unset, .unset, .unset, .unset] []) := by
          intro t kk
          refine c77 t ?_
          show Steps p.tables e below (s₁.setTop (mkF m 56 #[.val (.int p0), .val (.int b1), .val (.int b2), .val (.int b3), .val (.int b4), .unset, .unset, .unset, .unset] [(.int b3)])) t
          refine XS.ifYes X0.here hx rfl (pc0 := 56) (pc' := 66) rfl (hb hby at_56) rfl ((if0 _ _).trans (teq h56).1) (by decide) (by decide) ?_
          exact kk
        exact ⟨b4, ⟨hm68, Or.inr (Or.inl h56)⟩, c78⟩
      · have c79 : Goes p e below s₁ (entryFrame m #[(.int p0)] maxLocals) s₁ (mkF m 60 #[.val (.int p0), .val (.int b1), .val (.int b2), .val (.int b3), .val (.int b4), .unset, .unset, .unset, .unset] [(.int b2)]) := by
          intro t kk
          refine c77 t ?_
          show Steps p.tables e below (s₁.setTop (mkF m 56 #[.val (.int p0), .val (.int b1), .val (.int b2), .val (.int b3), .val (.int b4), .unset, .unset, .unset, .unset] [(.int b3)])) t
          refine XS.ifNo X0.here hx rfl (hb hby at_56) rfl ((if0 _ _).trans (feq h56).1) ?_
          show Steps p.tables e below (s₁.setTop (mkF m 59 #[.val (.int p0), .val (.int b1), .val (.int b2), .val (.int b3), .val (.int b4), .unset, .unset, .unset, .unset] [])) t
          refine XS.iloadN X0.here hx rfl (hb hby at_59) rfl ?_
          exact kk
        by_cases h60 : b2 = (0 : Int32)
        · have c80 : Goes p e below s₁ (entryFrame m #[(.int p0)] maxLocals) s₁ (mkF m 66 #[.val (.int p0), .val (.int b1), .val (.int b2), .val (.int b3), .val (.int b4), .unset, .unset, .unset, .unset] []) := by
            intro t kk
            refine c79 t ?_
            show Steps p.tables e below (s₁.setTop (mkF m 60 #[.val (.int p0), .val (.int b1), .val (.int b2), .val (.int b3), .val (.int b4), .unset, .unset, .unset, .unset] [(.int b2)])) t
            refine XS.ifYes X0.here hx rfl (pc0 := 60) (pc' := 66) rfl (hb hby at_60) rfl ((if0 _ _).trans (teq h60).1) (by decide) (by decide) ?_
            exact kk
          exact ⟨b4, ⟨hm68, Or.inr (Or.inr h60)⟩, c80⟩
        · have c81 : Goes p e below s₁ (entryFrame m #[(.int p0)] maxLocals) s₁ (mkF m 66 #[.val (.int p0), .val (.int b1), .val (.int b2), .val (.int b3), .val (.int (0 : Int32)), .unset, .unset, .unset, .unset] []) := by
            intro t kk
            refine c79 t ?_
            show Steps p.tables e below (s₁.setTop (mkF m 60 #[.val (.int p0), .val (.int b1), .val (.int b2), .val (.int b3), .val (.int b4), .unset, .unset, .unset, .unset] [(.int b2)])) t
            refine XS.ifNo X0.here hx rfl (hb hby at_60) rfl ((if0 _ _).trans (feq h60).1) ?_
            show Steps p.tables e below (s₁.setTop (mkF m 63 #[.val (.int p0), .val (.int b1), .val (.int b2), .val (.int b3), .val (.int b4), .unset, .unset, .unset, .unset] [])) t
            refine XS.iconst X0.here hx rfl (hb hby at_63) ?_
            show Steps p.tables e below (s₁.setTop (mkF m 64 #[.val (.int p0), .val (.int b1), .val (.int b2), .val (.int b3), .val (.int b4), .unset, .unset, .unset, .unset] [(.int (0 : Int32))])) t
            refine XS.istore X0.here hx rfl (hb hby at_64) rfl (l' := #[.val (.int p0), .val (.int b1), .val (.int b2), .val (.int b3), .val (.int (0 : Int32)), .unset, .unset, .unset, .unset]) rfl ?_
            exact kk
          exact ⟨(0 : Int32), ⟨Or.inl rfl, Or.inl rfl⟩, c81⟩
  obtain ⟨T82, h82, X82, e82, E82, A82, D82, -, st82⟩ := newO X0 hx hZ hown (hw _ (List.mem_of_getElem? (i := 0) rfl)) (hw _ (List.mem_of_getElem? (i := 1) rfl)) (hw _ (List.mem_of_getElem? (i := 2) rfl)) e0 (g := (mkF m 66 #[.val (.int p0), .val (.int b1), .val (.int b2), .val (.int b3), .val (.int d4), .unset, .unset, .unset, .unset] [])) rfl (hb hby at_66) (by decide) (by decide)
  obtain ⟨b82, g82⟩ : ∃ z, z = h0.size := ⟨_, rfl⟩
  rw [← g82] at A82 D82 st82
  have gb82 : n0 ≤ b82 := Nat.le_trans Z0 (Nat.le_of_eq g82.symm)
  have F_clustered_b82 : Fld Z h82 b82 "com/example/nextkey/nextkey/lock/LockRules$RangeScan" "clustered" "Z" (.int (0 : Int32)) := D82 (Or.inr (hw _ (List.mem_of_getElem? (i := 15) rfl))) (ty := .boolean) (by decide)
  have F_unique_b82 : Fld Z h82 b82 "com/example/nextkey/nextkey/lock/LockRules$RangeScan" "unique" "Z" (.int (0 : Int32)) := D82 (Or.inr (hw _ (List.mem_of_getElem? (i := 17) rfl))) (ty := .boolean) (by decide)
  have F_point_b82 : Fld Z h82 b82 "com/example/nextkey/nextkey/lock/LockRules$RangeScan" "point" "Z" (.int (0 : Int32)) := D82 (Or.inr (hw _ (List.mem_of_getElem? (i := 19) rfl))) (ty := .boolean) (by decide)
  have F_descending_b82 : Fld Z h82 b82 "com/example/nextkey/nextkey/lock/LockRules$RangeScan" "descending" "Z" (.int (0 : Int32)) := D82 (Or.inr (hw _ (List.mem_of_getElem? (i := 21) rfl))) (ty := .boolean) (by decide)
  have c83 : Goes p e below s₁ (entryFrame m #[(.int p0)] maxLocals) T82 (mkF m 69 #[.val (.int p0), .val (.int b1), .val (.int b2), .val (.int b3), .val (.int d4), .unset, .unset, .unset, .unset] [(.ref b82)]) := fun t kk => c74 t (st82 t kk)
  have f84 := (Nat.le_trans Z0 E82.1)
  have c85 : Goes p e below s₁ (entryFrame m #[(.int p0)] maxLocals) T82 (mkF m 75 #[.val (.int p0), .val (.int b1), .val (.int b2), .val (.int b3), .val (.int d4), .unset, .unset, .unset, .unset] [(.int d4), (.int b3), (.int b2), (.int b1), (.ref b82), (.ref b82)]) := by
    intro t kk
    refine c83 t ?_
    show Steps p.tables e below (T82.setTop (mkF m 69 #[.val (.int p0), .val (.int b1), .val (.int b2), .val (.int b3), .val (.int d4), .unset, .unset, .unset, .unset] [(.ref b82)])) t
    refine XS.dup X82.here hx rfl (hb hby at_69) rfl rfl ?_
    show Steps p.tables e below (T82.setTop (mkF m 70 #[.val (.int p0), .val (.int b1), .val (.int b2), .val (.int b3), .val (.int d4), .unset, .unset, .unset, .unset] [(.ref b82), (.ref b82)])) t
    refine XS.iloadN X82.here hx rfl (hb hby at_70) rfl ?_
    show Steps p.tables e below (T82.setTop (mkF m 71 #[.val (.int p0), .val (.int b1), .val (.int b2), .val (.int b3), .val (.int d4), .unset, .unset, .unset, .unset] [(.int b1), (.ref b82), (.ref b82)])) t
    refine XS.iloadN X82.here hx rfl (hb hby at_71) rfl ?_
    show Steps p.tables e below (T82.setTop (mkF m 72 #[.val (.int p0), .val (.int b1), .val (.int b2), .val (.int b3), .val (.int d4), .unset, .unset, .unset, .unset] [(.int b2), (.int b1), (.ref b82), (.ref b82)])) t
    refine XS.iloadN X82.here hx rfl (hb hby at_72) rfl ?_
    show Steps p.tables e below (T82.setTop (mkF m 73 #[.val (.int p0), .val (.int b1), .val (.int b2), .val (.int b3), .val (.int d4), .unset, .unset, .unset, .unset] [(.int b3), (.int b2), (.int b1), (.ref b82), (.ref b82)])) t
    refine XS.iload X82.here hx rfl (hb hby at_73) rfl ?_
    exact kk
  obtain ⟨_, _, ⟨T86, L86, k86, n86⟩, -, X86, ⟨Lc86, hQ86, l86, y86, z86⟩, st86⟩ := X82.specialBack hx (y := (⟨"com/example/nextkey/nextkey/lock/LockRules$RangeScan", "<init>", "(ZZZZ)V"⟩ : MethodName)) rfl hown (mvT hZ (hw _ (List.mem_of_getElem? (i := 3) rfl))) (mvT hZ (hw _ (List.mem_of_getElem? (i := 4) rfl))) (mvT hZ (hw _ (List.mem_of_getElem? (i := 5) rfl))) (by decide) (backOf (W := 1) (rm_init l Z a0 hw [] b82 b1 b2 b3 d4 h82 n0 f84 F_clustered_b82 F_unique_b82 F_point_b82 F_descending_b82 A82 gb82 hm74.2) hZ (hw _ (List.mem_of_getElem? (i := 5) rfl)) (hw _ (List.mem_of_getElem? (i := 2) rfl)) (by decide) (by decide)) (g := (mkF m 75 #[.val (.int p0), .val (.int b1), .val (.int b2), .val (.int b3), .val (.int d4), .unset, .unset, .unset, .unset] [(.int d4), (.int b3), (.int b2), (.int b1), (.ref b82), (.ref b82)])) rfl (by rw [hml]; rfl) (Steps.refl _) (a := b82) (argsL := [(.int b1), (.int b2), (.int b3), (.int d4)]) (rest := [(.ref b82)]) (lenOf pd__ZZZZ_V rfl) rfl (by show 2 * 0 + _ ≤ _; exact Nat.le_of_eq rfl) (hb hby at_75) (fun _ _ => ⟨rfl, e82, (by decide : 1 + 0 ≤ _), (by decide : 4 + 0 ≤ _)⟩)
  dsimp only [Pt.U, Pt.locs, Pt.cells, Pt.slots] at X86 l86 y86 z86 st86 hQ86
  subst l86 y86 z86
  obtain ⟨rfl, Nq86, Kq86, Eq86, Fq86_1, Fq86_2, Fq86_3, Fq86_4⟩ := hQ86
  have N86 := Fr.app N0 Nq86
  have c87 : Goes p e below s₁ (entryFrame m #[(.int p0)] maxLocals) T86 (mkF m 78 #[.val (.int p0), .val (.int b1), .val (.int b2), .val (.int b3), .val (.int d4), .unset, .unset, .unset, .unset] [(.ref b82)]) := fun t kk => c85 t (st86.trans kk)
  have c88 : Goes p e below s₁ (entryFrame m #[(.int p0)] maxLocals) T86 (mkF m 80 #[.val (.int p0), .val (.int b1), .val (.int b2), .val (.int b3), .val (.int d4), .val (.ref b82), .unset, .unset, .unset] []) := by
    intro t kk
    refine c87 t ?_
    show Steps p.tables e below (T86.setTop (mkF m 78 #[.val (.int p0), .val (.int b1), .val (.int b2), .val (.int b3), .val (.int d4), .unset, .unset, .unset, .unset] [(.ref b82)])) t
    refine XS.astore X86.here hx rfl (hb hby at_78) rfl rfl (l' := #[.val (.int p0), .val (.int b1), .val (.int b2), .val (.int b3), .val (.int d4), .val (.ref b82), .unset, .unset, .unset]) rfl ?_
    exact kk
  obtain ⟨T89, h89, X89, e89, E89, A89, D89, -, st89⟩ := newO X86 hx hZ hown (hw _ (List.mem_of_getElem? (i := 0) rfl)) (hw _ (List.mem_of_getElem? (i := 1) rfl)) (hw _ (List.mem_of_getElem? (i := 2) rfl)) rfl (g := (mkF m 80 #[.val (.int p0), .val (.int b1), .val (.int b2), .val (.int b3), .val (.int d4), .val (.ref b82), .unset, .unset, .unset] [])) rfl (hb hby at_80) (by decide) (by decide)
  obtain ⟨b89, g89⟩ : ∃ z, z = T86.heap.size := ⟨_, rfl⟩
  rw [← g89] at A89 D89 st89
  have f90 := (Nat.le_trans f84 Kq86.1)
  have gb89 : n0 ≤ b89 := Nat.le_trans f90 (Nat.le_of_eq g89.symm)
  have neb82_89 : b82 ≠ b89 := Nat.ne_of_lt (Nat.lt_of_lt_of_le Eq86.lt (Nat.le_of_eq g89.symm))
  have F_clustered_b89 : Fld Z h89 b89 "com/example/nextkey/nextkey/lock/LockRules$RangeScan" "clustered" "Z" (.int (0 : Int32)) := D89 (Or.inr (hw _ (List.mem_of_getElem? (i := 15) rfl))) (ty := .boolean) (by decide)
  have F_unique_b89 : Fld Z h89 b89 "com/example/nextkey/nextkey/lock/LockRules$RangeScan" "unique" "Z" (.int (0 : Int32)) := D89 (Or.inr (hw _ (List.mem_of_getElem? (i := 17) rfl))) (ty := .boolean) (by decide)
  have F_point_b89 : Fld Z h89 b89 "com/example/nextkey/nextkey/lock/LockRules$RangeScan" "point" "Z" (.int (0 : Int32)) := D89 (Or.inr (hw _ (List.mem_of_getElem? (i := 19) rfl))) (ty := .boolean) (by decide)
  have F_descending_b89 : Fld Z h89 b89 "com/example/nextkey/nextkey/lock/LockRules$RangeScan" "descending" "Z" (.int (0 : Int32)) := D89 (Or.inr (hw _ (List.mem_of_getElem? (i := 21) rfl))) (ty := .boolean) (by decide)
  have c91 : Goes p e below s₁ (entryFrame m #[(.int p0)] maxLocals) T89 (mkF m 83 #[.val (.int p0), .val (.int b1), .val (.int b2), .val (.int b3), .val (.int d4), .val (.ref b82), .unset, .unset, .unset] [(.ref b89)]) := fun t kk => c88 t (st89 t kk)
  have c92 : Goes p e below s₁ (entryFrame m #[(.int p0)] maxLocals) T89 (mkF m 84 #[.val (.int p0), .val (.int b1), .val (.int b2), .val (.int b3), .val (.int d4), .val (.ref b82), .unset, .unset, .unset] [(.ref b89), (.ref b89)]) := by
    intro t kk
    refine c91 t ?_
    show Steps p.tables e below (T89.setTop (mkF m 83 #[.val (.int p0), .val (.int b1), .val (.int b2), .val (.int b3), .val (.int d4), .val (.ref b82), .unset, .unset, .unset] [(.ref b89)])) t
    refine XS.dup X89.here hx rfl (hb hby at_83) rfl rfl ?_
    exact kk
  obtain ⟨b5, hm93, c93⟩ : ∃ b5 : Int32, (b5 = 0 ∨ b5 = 1) ∧ Goes p e below s₁ (entryFrame m #[(.int p0)] maxLocals) T89 (mkF m 93 #[.val (.int p0), .val (.int b1), .val (.int b2), .val (.int b3), .val (.int d4), .val (.ref b82), .unset, .unset, .unset] [(.int b5), (.ref b89), (.ref b89)]) := by
    have c94 : Goes p e below s₁ (entryFrame m #[(.int p0)] maxLocals) T89 (mkF m 85 #[.val (.int p0), .val (.int b1), .val (.int b2), .val (.int b3), .val (.int d4), .val (.ref b82), .unset, .unset, .unset] [(.int b1), (.ref b89), (.ref b89)]) := by
      intro t kk
      refine c92 t ?_
      show Steps p.tables e below (T89.setTop (mkF m 84 #[.val (.int p0), .val (.int b1), .val (.int b2), .val (.int b3), .val (.int d4), .val (.ref b82), .unset, .unset, .unset] [(.ref b89), (.ref b89)])) t
      refine XS.iloadN X89.here hx rfl (hb hby at_84) rfl ?_
      exact kk
    by_cases hc85_95 : b1 = (0 : Int32)
    · have c96 : Goes p e below s₁ (entryFrame m #[(.int p0)] maxLocals) T89 (mkF m 93 #[.val (.int p0), .val (.int b1), .val (.int b2), .val (.int b3), .val (.int d4), .val (.ref b82), .unset, .unset, .unset] [(.int (1 : Int32)), (.ref b89), (.ref b89)]) := by
        intro t kk
        refine c94 t ?_
        show Steps p.tables e below (T89.setTop (mkF m 85 #[.val (.int p0), .val (.int b1), .val (.int b2), .val (.int b3), .val (.int d4), .val (.ref b82), .unset, .unset, .unset] [(.int b1), (.ref b89), (.ref b89)])) t
        refine XS.ifNo X89.here hx rfl (hb hby at_85) rfl ((if0 _ _).trans (teq hc85_95).2) ?_
        show Steps p.tables e below (T89.setTop (mkF m 88 #[.val (.int p0), .val (.int b1), .val (.int b2), .val (.int b3), .val (.int d4), .val (.ref b82), .unset, .unset, .unset] [(.ref b89), (.ref b89)])) t
        refine XS.iconst X89.here hx rfl (hb hby at_88) ?_
        show Steps p.tables e below (T89.setTop (mkF m 89 #[.val (.int p0), .val (.int b1), .val (.int b2), .val (.int b3), .val (.int d4), .val (.ref b82), .unset, .unset, .unset] [(.int (1 : Int32)), (.ref b89), (.ref b89)])) t
        refine XS.goto X89.here hx rfl (pc0 := 89) (pc' := 93) rfl (hb hby at_89) (by decide) (by decide) ?_
        exact kk
      exact ⟨(1 : Int32), (Or.inr rfl), c96⟩
    · have c97 : Goes p e below s₁ (entryFrame m #[(.int p0)] maxLocals) T89 (mkF m 93 #[.val (.int p0), .val (.int b1), .val (.int b2), .val (.int b3), .val (.int d4), .val (.ref b82), .unset, .unset, .unset] [(.int (0 : Int32)), (.ref b89), (.ref b89)]) := by
        intro t kk
        refine c94 t ?_
        show Steps p.tables e below (T89.setTop (mkF m 85 #[.val (.int p0), .val (.int b1), .val (.int b2), .val (.int b3), .val (.int d4), .val (.ref b82), .unset, .unset, .unset] [(.int b1), (.ref b89), (.ref b89)])) t
        refine XS.ifYes X89.here hx rfl (pc0 := 85) (pc' := 92) rfl (hb hby at_85) rfl ((if0 _ _).trans (feq hc85_95).2) (by decide) (by decide) ?_
        show Steps p.tables e below (T89.setTop (mkF m 92 #[.val (.int p0), .val (.int b1), .val (.int b2), .val (.int b3), .val (.int d4), .val (.ref b82), .unset, .unset, .unset] [(.ref b89), (.ref b89)])) t
        refine XS.iconst X89.here hx rfl (hb hby at_92) ?_
        exact kk
      exact ⟨(0 : Int32), (Or.inl rfl), c97⟩
  have f98 := (Nat.le_trans f90 E89.1)
  have c99 : Goes p e below s₁ (entryFrame m #[(.int p0)] maxLocals) T89 (mkF m 97 #[.val (.int p0), .val (.int b1), .val (.int b2), .val (.int b3), .val (.int d4), .val (.ref b82), .unset, .unset, .unset] [(.int d4), (.int b3), (.int b2), (.int b5), (.ref b89), (.ref b89)]) := by
    intro t kk
    refine c93 t ?_
    show Steps p.tables e below (T89.setTop (mkF m 93 #[.val (.int p0), .val (.int b1), .val (.int b2), .val (.int b3), .val (.int d4), .val (.ref b82), .unset, .unset, .unset] [(.int b5), (.ref b89), (.ref b89)])) t
    refine XS.iloadN X89.here hx rfl (hb hby at_93) rfl ?_
    show Steps p.tables e below (T89.setTop (mkF m 94 #[.val (.int p0), .val (.int b1), .val (.int b2), .val (.int b3), .val (.int d4), .val (.ref b82), .unset, .unset, .unset] [(.int b2), (.int b5), (.ref b89), (.ref b89)])) t
    refine XS.iloadN X89.here hx rfl (hb hby at_94) rfl ?_
    show Steps p.tables e below (T89.setTop (mkF m 95 #[.val (.int p0), .val (.int b1), .val (.int b2), .val (.int b3), .val (.int d4), .val (.ref b82), .unset, .unset, .unset] [(.int b3), (.int b2), (.int b5), (.ref b89), (.ref b89)])) t
    refine XS.iload X89.here hx rfl (hb hby at_95) rfl ?_
    exact kk
  obtain ⟨_, _, ⟨T100, L100, k100, n100⟩, -, X100, ⟨Lc100, hQ100, l100, y100, z100⟩, st100⟩ := X89.specialBack hx (y := (⟨"com/example/nextkey/nextkey/lock/LockRules$RangeScan", "<init>", "(ZZZZ)V"⟩ : MethodName)) rfl hown (mvT hZ (hw _ (List.mem_of_getElem? (i := 3) rfl))) (mvT hZ (hw _ (List.mem_of_getElem? (i := 4) rfl))) (mvT hZ (hw _ (List.mem_of_getElem? (i := 5) rfl))) (by decide) (backOf (W := 1) (rm_init l Z a0 hw [] b89 b5 b2 b3 d4 h89 n0 f98 F_clustered_b89 F_unique_b89 F_point_b89 F_descending_b89 A89 gb89 hm74.2) hZ (hw _ (List.mem_of_getElem? (i := 5) rfl)) (hw _ (List.mem_of_getElem? (i := 2) rfl)) (by decide) (by decide)) (g := (mkF m 97 #[.val (.int p0), .val (.int b1), .val (.int b2), .val (.int b3), .val (.int d4), .val (.ref b82), .unset, .unset, .unset] [(.int d4), (.int b3), (.int b2), (.int b5), (.ref b89), (.ref b89)])) rfl (by rw [hml]; rfl) (Steps.refl _) (a := b89) (argsL := [(.int b5), (.int b2), (.int b3), (.int d4)]) (rest := [(.ref b89)]) (lenOf pd__ZZZZ_V rfl) rfl (by show 2 * 0 + _ ≤ _; exact Nat.le_of_eq rfl) (hb hby at_97) (fun _ _ => ⟨rfl, e89, (by decide : 2 + 0 ≤ _), (by decide : 8 + 0 ≤ _)⟩)
  dsimp only [Pt.U, Pt.locs, Pt.cells, Pt.slots] at X100 l100 y100 z100 st100 hQ100
  subst l100 y100 z100
  obtain ⟨rfl, Nq100, Kq100, Eq100, Fq100_1, Fq100_2, Fq100_3, Fq100_4⟩ := hQ100
  have N100 := Fr.app N86 Nq100
  have c101 : Goes p e below s₁ (entryFrame m #[(.int p0)] maxLocals) T100 (mkF m 100 #[.val (.int p0), .val (.int b1), .val (.int b2), .val (.int b3), .val (.int d4), .val (.ref b82), .unset, .unset, .unset] [(.ref b89)]) := fun t kk => c99 t (st100.trans kk)
  have f102 := (Nat.le_trans f98 Kq100.1)
  have f103 := ((Fq86_3.ext E89).keep Kq100 (ninS neb82_89 nin0))
  have f104 := ((Fq86_2.ext E89).keep Kq100 (ninS neb82_89 nin0))
  have c105 : Goes p e below s₁ (entryFrame m #[(.int p0)] maxLocals) T100 (mkF m 104 #[.val (.int p0), .val (.int b1), .val (.int b2), .val (.int b3), .val (.int d4), .val (.ref b82), .val (.ref b89), .unset, .unset] [(.ref b82)]) := by
    intro t kk
    refine c101 t ?_
    show Steps p.tables e below (T100.setTop (mkF m 100 #[.val (.int p0), .val (.int b1), .val (.int b2), .val (.int b3), .val (.int d4), .val (.ref b82), .unset, .unset, .unset] [(.ref b89)])) t
    refine XS.astore X100.here hx rfl (hb hby at_100) rfl rfl (l' := #[.val (.int p0), .val (.int b1), .val (.int b2), .val (.int b3), .val (.int d4), .val (.ref b82), .val (.ref b89), .unset, .unset]) rfl ?_
    show Steps p.tables e below (T100.setTop (mkF m 102 #[.val (.int p0), .val (.int b1), .val (.int b2), .val (.int b3), .val (.int d4), .val (.ref b82), .val (.ref b89), .unset, .unset] [])) t
    refine XS.aload X100.here hx rfl (hb hby at_102) rfl rfl ?_
    exact kk
  have f107 := ((Eq86.ext E89).keep Kq100)
  obtain ⟨cq106, kq106, q106a, q106b, q106c⟩ := isOf hZ rfl f107
  obtain ⟨_, _, ⟨T106, L106, k106, n106⟩, -, X106, ⟨Lc106, hQ106, l106, y106, z106⟩, st106⟩ := X100.virtualBack hx (y := (⟨"com/example/nextkey/nextkey/lock/LockRules$RangeScan", "isUniqueLookup", "()Z"⟩ : MethodName)) (z := (⟨"com/example/nextkey/nextkey/lock/LockRules$RangeScan", "isUniqueLookup", "()Z"⟩ : MethodName)) hown (mvT hZ (hw _ (List.mem_of_getElem? (i := 22) rfl))) (mvT hZ (hw _ (List.mem_of_getElem? (i := 23) rfl))) (notFace_of_selects (args := #[]) (mvT hZ (hw _ (List.mem_of_getElem? (i := 25) rfl)))) (mvT hZ (hw _ (List.mem_of_getElem? (i := 25) rfl))) (mvT hZ (hw _ (List.mem_of_getElem? (i := 24) rfl))) (by decide) (backOf (W := 0) (rm_ul l Z a0 hw [] b82 (nar .boolean b3) (nar .boolean b2) T100.heap n0 f102 f103 f104) hZ (hw _ (List.mem_of_getElem? (i := 26) rfl)) (hw _ (List.mem_of_getElem? (i := 2) rfl)) (by decide) (by decide)) q106a q106c (g := (mkF m 104 #[.val (.int p0), .val (.int b1), .val (.int b2), .val (.int b3), .val (.int d4), .val (.ref b82), .val (.ref b89), .unset, .unset] [(.ref b82)])) rfl (by rw [hml]; rfl) (Steps.refl _) (argsL := []) (rest := []) (lenOf pd___Z rfl) rfl (by show 2 * 0 + _ ≤ _; exact Nat.le_of_eq rfl) (hb hby at_104) (fun _ _ => ⟨rfl, rfl, (by decide : 2 + 0 ≤ _), (by decide : 8 + 0 ≤ _)⟩)
  dsimp only [Pt.U, Pt.locs, Pt.cells, Pt.slots] at X106 l106 y106 z106 st106 hQ106
  subst l106 y106 z106
  obtain ⟨rfl, Nq106, eq106⟩ := hQ106
  have N106 := Fr.app N100 Nq106
  have c108 : Goes p e below s₁ (entryFrame m #[(.int p0)] maxLocals) T106 (mkF m 107 #[.val (.int p0), .val (.int b1), .val (.int b2), .val (.int b3), .val (.int d4), .val (.ref b82), .val (.ref b89), .unset, .unset] [(.int (own_ul (nar .boolean b3) (nar .boolean b2)))]) := fun t kk => c105 t (st106.trans kk)
  have c109 : Goes p e below s₁ (entryFrame m #[(.int p0)] maxLocals) T106 (mkF m 109 #[.val (.int p0), .val (.int b1), .val (.int b2), .val (.int b3), .val (.int d4), .val (.ref b82), .val (.ref b89), .val (.int (own_ul (nar .boolean b3) (nar .boolean b2))), .unset] []) := by
    intro t kk
    refine c108 t ?_
    show Steps p.tables e below (T106.setTop (mkF m 107 #[.val (.int p0), .val (.int b1), .val (.int b2), .val (.int b3), .val (.int d4), .val (.ref b82), .val (.ref b89), .unset, .unset] [(.int (own_ul (nar .boolean b3) (nar .boolean b2)))])) t
    refine XS.istore X106.here hx rfl (hb hby at_107) rfl (l' := #[.val (.int p0), .val (.int b1), .val (.int b2), .val (.int b3), .val (.int d4), .val (.ref b82), .val (.ref b89), .val (.int (own_ul (nar .boolean b3) (nar .boolean b2))), .unset]) rfl ?_
    exact kk
  obtain ⟨ex, hm110, c110⟩ : ∃ ex : Int32, (ex = if b3 = 0 then 0 else b2) ∧ Goes p e below s₁ (entryFrame m #[(.int p0)] maxLocals) T106 (mkF m 122 #[.val (.int p0), .val (.int b1), .val (.int b2), .val (.int b3), .val (.int d4), .val (.ref b82), .val (.ref b89), .val (.int (own_ul (nar .boolean b3) (nar .boolean b2))), .val (.int ex)] []) := by
    have c111 : Goes p e below s₁ (entryFrame m #[(.int p0)] maxLocals) T106 (mkF m 110 #[.val (.int p0), .val (.int b1), .val (.int b2), .val (.int b3), .val (.int d4), .val (.ref b82), .val (.ref b89), .val (.int (own_ul (nar .boolean b3) (nar .boolean b2))), .unset] [(.int b3)]) := by
      intro t kk
      refine c109 t ?_
      show Steps p.tables e below (T106.setTop (mkF m 109 #[.val (.int p0), .val (.int b1), .val (.int b2), .val (.int b3), .val (.int d4), .val (.ref b82), .val (.ref b89), .val (.int (own_ul (nar .boolean b3) (nar .boolean b2))), .unset] [])) t
      refine XS.iloadN X106.here hx rfl (hb hby at_109) rfl ?_
      exact kk
    by_cases h110 : b3 = (0 : Int32)
    · have c112 : Goes p e below s₁ (entryFrame m #[(.int p0)] maxLocals) T106 (mkF m 122 #[.val (.int p0), .val (.int b1), .val (.int b2), .val (.int b3), .val (.int d4), .val (.ref b82), .val (.ref b89), .val (.int (own_ul (nar .boolean b3) (nar .boolean b2))), .val (.int (0 : Int32))] []) := by
        intro t kk
        refine c111 t ?_
        show Steps p.tables e below (T106.setTop (mkF m 110 #[.val (.int p0), .val (.int b1), .val (.int b2), .val (.int b3), .val (.int d4), .val (.ref b82), .val (.ref b89), .val (.int (own_ul (nar .boolean b3) (nar .boolean b2))), .unset] [(.int b3)])) t
        refine XS.ifYes X106.here hx rfl (pc0 := 110) (pc' := 119) rfl (hb hby at_110) rfl ((if0 _ _).trans (teq h110).1) (by decide) (by decide) ?_
        show Steps p.tables e below (T106.setTop (mkF m 119 #[.val (.int p0), .val (.int b1), .val (.int b2), .val (.int b3), .val (.int d4), .val (.ref b82), .val (.ref b89), .val (.int (own_ul (nar .boolean b3) (nar .boolean b2))), .unset] [])) t
        refine XS.iconst X106.here hx rfl (hb hby at_119) ?_
        show Steps p.tables e below (T106.setTop (mkF m 120 #[.val (.int p0), .val (.int b1), .val (.int b2), .val (.int b3), .val (.int d4), .val (.ref b82), .val (.ref b89), .val (.int (own_ul (nar .boolean b3) (nar .boolean b2))), .unset] [(.int (0 : Int32))])) t
        refine XS.istore X106.here hx rfl (hb hby at_120) rfl (l' := #[.val (.int p0), .val (.int b1), .val (.int b2), .val (.int b3), .val (.int d4), .val (.ref b82), .val (.ref b89), .val (.int (own_ul (nar .boolean b3) (nar .boolean b2))), .val (.int (0 : Int32))]) rfl ?_
        exact kk
      exact ⟨(0 : Int32), (by simp [h110]), c112⟩
    · have c113 : Goes p e below s₁ (entryFrame m #[(.int p0)] maxLocals) T106 (mkF m 122 #[.val (.int p0), .val (.int b1), .val (.int b2), .val (.int b3), .val (.int d4), .val (.ref b82), .val (.ref b89), .val (.int (own_ul (nar .boolean b3) (nar .boolean b2))), .val (.int b2)] []) := by
        intro t kk
        refine c111 t ?_
        show Steps p.tables e below (T106.setTop (mkF m 110 #[.val (.int p0), .val (.int b1), .val (.int b2), .val (.int b3), .val (.int d4), .val (.ref b82), .val (.ref b89), .val (.int (own_ul (nar .boolean b3) (nar .boolean b2))), .unset] [(.int b3)])) t
        refine XS.ifNo X106.here hx rfl (hb hby at_110) rfl ((if0 _ _).trans (feq h110).1) ?_
        show Steps p.tables e below (T106.setTop (mkF m 113 #[.val (.int p0), .val (.int b1), .val (.int b2), .val (.int b3), .val (.int d4), .val (.ref b82), .val (.ref b89), .val (.int (own_ul (nar .boolean b3) (nar .boolean b2))), .unset] [])) t
        refine XS.iloadN X106.here hx rfl (hb hby at_113) rfl ?_
        show Steps p.tables e below (T106.setTop (mkF m 114 #[.val (.int p0), .val (.int b1), .val (.int b2), .val (.int b3), .val (.int d4), .val (.ref b82), .val (.ref b89), .val (.int (own_ul (nar .boolean b3) (nar .boolean b2))), .unset] [(.int b2)])) t
        refine XS.istore X106.here hx rfl (hb hby at_114) rfl (l' := #[.val (.int p0), .val (.int b1), .val (.int b2), .val (.int b3), .val (.int d4), .val (.ref b82), .val (.ref b89), .val (.int (own_ul (nar .boolean b3) (nar .boolean b2))), .val (.int b2)]) rfl ?_
        show Steps p.tables e below (T106.setTop (mkF m 116 #[.val (.int p0), .val (.int b1), .val (.int b2), .val (.int b3), .val (.int d4), .val (.ref b82), .val (.ref b89), .val (.int (own_ul (nar .boolean b3) (nar .boolean b2))), .val (.int b2)] [])) t
        refine XS.goto X106.here hx rfl (pc0 := 116) (pc' := 122) rfl (hb hby at_116) (by decide) (by decide) ?_
        exact kk
      exact ⟨b2, (by simp [h110]), c113⟩
  have c114 : Goes p e below s₁ (entryFrame m #[(.int p0)] maxLocals) T106 (mkF m 131 #[.val (.int p0), .val (.int b1), .val (.int b2), .val (.int b3), .val (.int d4), .val (.ref b82), .val (.ref b89), .val (.int (own_ul (nar .boolean b3) (nar .boolean b2))), .val (.int ex)] [(.ref b89)]) := by
    intro t kk
    refine c110 t ?_
    show Steps p.tables e below (T106.setTop (mkF m 122 #[.val (.int p0), .val (.int b1), .val (.int b2), .val (.int b3), .val (.int d4), .val (.ref b82), .val (.ref b89), .val (.int (own_ul (nar .boolean b3) (nar .boolean b2))), .val (.int ex)] [])) t
    refine XS.iload X106.here hx rfl (hb hby at_122) rfl ?_
    show Steps p.tables e below (T106.setTop (mkF m 124 #[.val (.int p0), .val (.int b1), .val (.int b2), .val (.int b3), .val (.int d4), .val (.ref b82), .val (.ref b89), .val (.int (own_ul (nar .boolean b3) (nar .boolean b2))), .val (.int ex)] [(.int (own_ul (nar .boolean b3) (nar .boolean b2)))])) t
    refine XS.iload X106.here hx rfl (hb hby at_124) rfl ?_
    show Steps p.tables e below (T106.setTop (mkF m 126 #[.val (.int p0), .val (.int b1), .val (.int b2), .val (.int b3), .val (.int d4), .val (.ref b82), .val (.ref b89), .val (.int (own_ul (nar .boolean b3) (nar .boolean b2))), .val (.int ex)] [(.int ex), (.int (own_ul (nar .boolean b3) (nar .boolean b2)))])) t
    refine XS.icmpNo X106.here hx rfl (hb hby at_126) rfl (teq ((own_ul1 hm62 hm56).trans hm110.symm)).2 ?_
    show Steps p.tables e below (T106.setTop (mkF m 129 #[.val (.int p0), .val (.int b1), .val (.int b2), .val (.int b3), .val (.int d4), .val (.ref b82), .val (.ref b89), .val (.int (own_ul (nar .boolean b3) (nar .boolean b2))), .val (.int ex)] [])) t
    refine XS.aload X106.here hx rfl (hb hby at_129) rfl rfl ?_
    exact kk
  obtain ⟨cq115, kq115, q115a, q115b, q115c⟩ := isOf hZ eq106 Eq100
  obtain ⟨_, _, ⟨T115, L115, k115, n115⟩, -, X115, ⟨Lc115, hQ115, l115, y115, z115⟩, st115⟩ := X106.virtualBack hx (y := (⟨"com/example/nextkey/nextkey/lock/LockRules$RangeScan", "isUniqueLookup", "()Z"⟩ : MethodName)) (z := (⟨"com/example/nextkey/nextkey/lock/LockRules$RangeScan", "isUniqueLookup", "()Z"⟩ : MethodName)) hown (mvT hZ (hw _ (List.mem_of_getElem? (i := 22) rfl))) (mvT hZ (hw _ (List.mem_of_getElem? (i := 23) rfl))) (notFace_of_selects (args := #[]) (mvT hZ (hw _ (List.mem_of_getElem? (i := 25) rfl)))) (mvT hZ (hw _ (List.mem_of_getElem? (i := 25) rfl))) (mvT hZ (hw _ (List.mem_of_getElem? (i := 24) rfl))) (by decide) (backOf (W := 0) (rm_ul l Z a0 hw [] b89 (nar .boolean b3) (nar .boolean b2) T100.heap n0 f102 Fq100_3 Fq100_2) hZ (hw _ (List.mem_of_getElem? (i := 26) rfl)) (hw _ (List.mem_of_getElem? (i := 2) rfl)) (by decide) (by decide)) q115a q115c (g := (mkF m 131 #[.val (.int p0), .val (.int b1), .val (.int b2), .val (.int b3), .val (.int d4), .val (.ref b82), .val (.ref b89), .val (.int (own_ul (nar .boolean b3) (nar .boolean b2))), .val (.int ex)] [(.ref b89)])) rfl (by rw [hml]; rfl) (Steps.refl _) (argsL := []) (rest := []) (lenOf pd___Z rfl) rfl (by show 2 * 0 + _ ≤ _; exact Nat.le_of_eq rfl) (hb hby at_131) (fun _ _ => ⟨rfl, eq106, (by decide : 2 + 0 ≤ _), (by decide : 8 + 0 ≤ _)⟩)
  dsimp only [Pt.U, Pt.locs, Pt.cells, Pt.slots] at X115 l115 y115 z115 st115 hQ115
  subst l115 y115 z115
  obtain ⟨rfl, Nq115, eq115⟩ := hQ115
  have N115 := Fr.app N106 Nq115
  have c116 : Goes p e below s₁ (entryFrame m #[(.int p0)] maxLocals) T115 (mkF m 134 #[.val (.int p0), .val (.int b1), .val (.int b2), .val (.int b3), .val (.int d4), .val (.ref b82), .val (.ref b89), .val (.int (own_ul (nar .boolean b3) (nar .boolean b2))), .val (.int ex)] [(.int (own_ul (nar .boolean b3) (nar .boolean b2)))]) := fun t kk => c114 t (st115.trans kk)
  have c117 : Goes p e below s₁ (entryFrame m #[(.int p0)] maxLocals) T115 (mkF m 141 #[.val (.int p0), .val (.int b1), .val (.int b2), .val (.int b3), .val (.int d4), .val (.ref b82), .val (.ref b89), .val (.int (own_ul (nar .boolean b3) (nar .boolean b2))), .val (.int ex)] [(.int (own_ul (nar .boolean b3) (nar .boolean b2)))]) := by
    intro t kk
    refine c116 t ?_
    show Steps p.tables e below (T115.setTop (mkF m 134 #[.val (.int p0), .val (.int b1), .val (.int b2), .val (.int b3), .val (.int d4), .val (.ref b82), .val (.ref b89), .val (.int (own_ul (nar .boolean b3) (nar .boolean b2))), .val (.int ex)] [(.int (own_ul (nar .boolean b3) (nar .boolean b2)))])) t
    refine XS.iload X115.here hx rfl (hb hby at_134) rfl ?_
    show Steps p.tables e below (T115.setTop (mkF m 136 #[.val (.int p0), .val (.int b1), .val (.int b2), .val (.int b3), .val (.int d4), .val (.ref b82), .val (.ref b89), .val (.int (own_ul (nar .boolean b3) (nar .boolean b2))), .val (.int ex)] [(.int (own_ul (nar .boolean b3) (nar .boolean b2))), (.int (own_ul (nar .boolean b3) (nar .boolean b2)))])) t
    refine XS.icmpNo X115.here hx rfl (hb hby at_136) rfl (teq (rfl : (own_ul (nar .boolean b3) (nar .boolean b2)) = (own_ul (nar .boolean b3) (nar .boolean b2)))).2 ?_
    show Steps p.tables e below (T115.setTop (mkF m 139 #[.val (.int p0), .val (.int b1), .val (.int b2), .val (.int b3), .val (.int d4), .val (.ref b82), .val (.ref b89), .val (.int (own_ul (nar .boolean b3) (nar .boolean b2))), .val (.int ex)] [])) t
    refine XS.iload X115.here hx rfl (hb hby at_139) rfl ?_
    exact kk
  by_cases h141 : (own_ul (nar .boolean b3) (nar .boolean b2)) = (0 : Int32)
  · have c118 : Goes p e below s₁ (entryFrame m #[(.int p0)] maxLocals) T115 (mkF m 157 #[.val (.int p0), .val (.int b1), .val (.int b2), .val (.int b3), .val (.int d4), .val (.ref b82), .val (.ref b89), .val (.int (own_ul (nar .boolean b3) (nar .boolean b2))), .val (.int ex)] [(.int (1 : Int32))]) := by
      intro t kk
      refine c117 t ?_
      show Steps p.tables e below (T115.setTop (mkF m 141 #[.val (.int p0), .val (.int b1), .val (.int b2), .val (.int b3), .val (.int d4), .val (.ref b82), .val (.ref b89), .val (.int (own_ul (nar .boolean b3) (nar .boolean b2))), .val (.int ex)] [(.int (own_ul (nar .boolean b3) (nar .boolean b2)))])) t
      refine XS.ifYes X115.here hx rfl (pc0 := 141) (pc' := 152) rfl (hb hby at_141) rfl ((if0 _ _).trans (teq h141).1) (by decide) (by decide) ?_
      show Steps p.tables e below (T115.setTop (mkF m 152 #[.val (.int p0), .val (.int b1), .val (.int b2), .val (.int b3), .val (.int d4), .val (.ref b82), .val (.ref b89), .val (.int (own_ul (nar .boolean b3) (nar .boolean b2))), .val (.int ex)] [])) t
      refine XS.iconst X115.here hx rfl (hb hby at_152) ?_
      show Steps p.tables e below (T115.setTop (mkF m 153 #[.val (.int p0), .val (.int b1), .val (.int b2), .val (.int b3), .val (.int d4), .val (.ref b82), .val (.ref b89), .val (.int (own_ul (nar .boolean b3) (nar .boolean b2))), .val (.int ex)] [(.int (1 : Int32))])) t
      refine XS.goto X115.here hx rfl (pc0 := 153) (pc' := 157) rfl (hb hby at_153) (by decide) (by decide) ?_
      exact kk
    obtain ⟨fs, hr, hrun, hended, hW, hsame⟩ := X115.leave (v := some (.int (1 : Int32))) (fun h => by rw [Bd.returns] at h; cases h)
    refine ⟨_, _, c118 _ ?_, hrun, hended, _, _, rfl, ?_, ⟨_, rfl⟩, hW, hsame.mono (by decide) (by decide)⟩
    · exact retN X115 hx (t := .boolean) Bd.returns (by simp) (hb hby at_157) hr
    · show Q_law Z p0 h0 n0 _ T115.heap _
      rw [eq115]
      exact ⟨rfl, N115⟩
  · have f119 := ((Fq86_4.ext E89).keep Kq100 (ninS neb82_89 nin0))
    have c120 : Goes p e below s₁ (entryFrame m #[(.int p0)] maxLocals) T115 (mkF m 146 #[.val (.int p0), .val (.int b1), .val (.int b2), .val (.int b3), .val (.int d4), .val (.ref b82), .val (.ref b89), .val (.int (own_ul (nar .boolean b3) (nar .boolean b2))), .val (.int ex)] [(.ref b82)]) := by
      intro t kk
      refine c117 t ?_
      show Steps p.tables e below (T115.setTop (mkF m 141 #[.val (.int p0), .val (.int b1), .val (.int b2), .val (.int b3), .val (.int d4), .val (.ref b82), .val (.ref b89), .val (.int (own_ul (nar .boolean b3) (nar .boolean b2))), .val (.int ex)] [(.int (own_ul (nar .boolean b3) (nar .boolean b2)))])) t
      refine XS.ifNo X115.here hx rfl (hb hby at_141) rfl ((if0 _ _).trans (feq h141).1) ?_
      show Steps p.tables e below (T115.setTop (mkF m 144 #[.val (.int p0), .val (.int b1), .val (.int b2), .val (.int b3), .val (.int d4), .val (.ref b82), .val (.ref b89), .val (.int (own_ul (nar .boolean b3) (nar .boolean b2))), .val (.int ex)] [])) t
      refine XS.aload X115.here hx rfl (hb hby at_144) rfl rfl ?_
      exact kk
    obtain ⟨cq121, kq121, q121a, q121b, q121c⟩ := isOf hZ eq115 f107
    obtain ⟨_, _, ⟨T121, L121, k121, n121⟩, -, X121, ⟨Lc121, hQ121, l121, y121, z121⟩, st121⟩ := X115.virtualBack hx (y := (⟨"com/example/nextkey/nextkey/lock/LockRules$RangeScan", "descending", "()Z"⟩ : MethodName)) (z := (⟨"com/example/nextkey/nextkey/lock/LockRules$RangeScan", "descending", "()Z"⟩ : MethodName)) hown (mvT hZ (hw _ (List.mem_of_getElem? (i := 27) rfl))) (mvT hZ (hw _ (List.mem_of_getElem? (i := 28) rfl))) (notFace_of_selects (args := #[]) (mvT hZ (hw _ (List.mem_of_getElem? (i := 30) rfl)))) (mvT hZ (hw _ (List.mem_of_getElem? (i := 30) rfl))) (mvT hZ (hw _ (List.mem_of_getElem? (i := 29) rfl))) (by decide) (backOf (W := 0) (rm_ds l Z a0 hw [] b82 (nar .boolean d4) T100.heap n0 f102 f119) hZ (hw _ (List.mem_of_getElem? (i := 31) rfl)) (hw _ (List.mem_of_getElem? (i := 2) rfl)) (by decide) (by decide)) q121a q121c (g := (mkF m 146 #[.val (.int p0), .val (.int b1), .val (.int b2), .val (.int b3), .val (.int d4), .val (.ref b82), .val (.ref b89), .val (.int (own_ul (nar .boolean b3) (nar .boolean b2))), .val (.int ex)] [(.ref b82)])) rfl (by rw [hml]; rfl) (Steps.refl _) (argsL := []) (rest := []) (lenOf pd___Z rfl) rfl (by show 2 * 0 + _ ≤ _; exact Nat.le_of_eq rfl) (hb hby at_146) (fun _ _ => ⟨rfl, eq115, (by decide : 2 + 0 ≤ _), (by decide : 8 + 0 ≤ _)⟩)
    dsimp only [Pt.U, Pt.locs, Pt.cells, Pt.slots] at X121 l121 y121 z121 st121 hQ121
    subst l121 y121 z121
    obtain ⟨rfl, Nq121, eq121⟩ := hQ121
    have N121 := Fr.app N115 Nq121
    have c122 : Goes p e below s₁ (entryFrame m #[(.int p0)] maxLocals) T121 (mkF m 149 #[.val (.int p0), .val (.int b1), .val (.int b2), .val (.int b3), .val (.int d4), .val (.ref b82), .val (.ref b89), .val (.int (own_ul (nar .boolean b3) (nar .boolean b2))), .val (.int ex)] [(.int (nar .boolean (nar .boolean d4)))]) := fun t kk => c120 t (st121.trans kk)
    have c123 : Goes p e below s₁ (entryFrame m #[(.int p0)] maxLocals) T121 (mkF m 157 #[.val (.int p0), .val (.int b1), .val (.int b2), .val (.int b3), .val (.int d4), .val (.ref b82), .val (.ref b89), .val (.int (own_ul (nar .boolean b3) (nar .boolean b2))), .val (.int ex)] [(.int (1 : Int32))]) := by
      intro t kk
      refine c122 t ?_
      show Steps p.tables e below (T121.setTop (mkF m 149 #[.val (.int p0), .val (.int b1), .val (.int b2), .val (.int b3), .val (.int d4), .val (.ref b82), .val (.ref b89), .val (.int (own_ul (nar .boolean b3) (nar .boolean b2))), .val (.int ex)] [(.int (nar .boolean (nar .boolean d4)))])) t
      refine XS.ifNo X121.here hx rfl (hb hby at_149) rfl ((if0 _ _).trans (teq (own_ds hm62 hm56 hm74 h141)).2) ?_
      show Steps p.tables e below (T121.setTop (mkF m 152 #[.val (.int p0), .val (.int b1), .val (.int b2), .val (.int b3), .val (.int d4), .val (.ref b82), .val (.ref b89), .val (.int (own_ul (nar .boolean b3) (nar .boolean b2))), .val (.int ex)] [])) t
      refine XS.iconst X121.here hx rfl (hb hby at_152) ?_
      show Steps p.tables e below (T121.setTop (mkF m 153 #[.val (.int p0), .val (.int b1), .val (.int b2), .val (.int b3), .val (.int d4), .val (.ref b82), .val (.ref b89), .val (.int (own_ul (nar .boolean b3) (nar .boolean b2))), .val (.int ex)] [(.int (1 : Int32))])) t
      refine XS.goto X121.here hx rfl (pc0 := 153) (pc' := 157) rfl (hb hby at_153) (by decide) (by decide) ?_
      exact kk
    obtain ⟨fs, hr, hrun, hended, hW, hsame⟩ := X121.leave (v := some (.int (1 : Int32))) (fun h => by rw [Bd.returns] at h; cases h)
    refine ⟨_, _, c123 _ ?_, hrun, hended, _, _, rfl, ?_, ⟨_, rfl⟩, hW, hsame.mono (by decide) (by decide)⟩
    · exact retN X121 hx (t := .boolean) Bd.returns (by simp) (hb hby at_157) hr
    · show Q_law Z p0 h0 n0 _ T121.heap _
      rw [eq121]
      exact ⟨rfl, N121⟩
set_option maxRecDepth 65536 in
set_option maxHeartbeats 40000000 in
theorem comes_1 {Post : Tables → Env → Array Value → State → Outcome → State → Prop} (hpost : ∀ tb e args s v u, (limb_1_1.after args s (.returned v) u = true ∧ limb_1_2.after args s (.returned v) u = true ∧ True) → FrameEnd s (.returned v) u (Jvm.fieldLocs frame_1_writes args s ++ Jvm.arrayLocs frame_1_arrays args s ++ Jvm.staticLocs frame_1_statics s) 16 128 → Post tb e args s (.returned v) u) :
    ArmFor flags0 classFile x code maxLocals ret World_1 tables_1 room_1 Calls_1 rest_1 Pre_1 Post := by
  intro l hfl _ _ p e ha hc hk s m args below hf hA hF happ hP
  obtain ⟨hcalls, hrest, hpre⟩ := hP
  obtain ⟨-, -, -, hnamed, -, -, -, hat⟩ := (Spec.applies_iff hf).mp happ
  obtain ⟨hg, hn⟩ := and_e (Cond.before_iff.mp (show (Jvm.Cond.and given_1 narrow_1).before args s = true from hpre))
  obtain ⟨gg1, gg2⟩ := and_e hg
  obtain ⟨w0, rfl⟩ : ∃ w0 : Value, args = #[w0] := by
    have hs : args.size = 1 := by simpa [Cond.value, given_1] using gg1
    obtain ⟨L⟩ := args
    match L, hs with
    | [w0], _ => exact ⟨w0, rfl⟩
  have hw := fun d (hd : d ∈ tables_1) => atoms_spec (ws := Jvm.Cond.code x code maxLocals ret :: tables_1) hat d (List.mem_cons_of_mem _ hd)
  have hfit : Fit s := fun {y c} hc i hi => by
    obtain ⟨ha, rfl⟩ := Array.getElem?_eq_some_iff.mp hc
    have q := List.all_eq_true.mp ((Array.all_eq_true_iff_forall_mem.mp hF) _ (Array.getElem_mem ha)) i (List.mem_range.mpr hi)
    simpa [Array.getElem?_eq_getElem hi] using q
  obtain ⟨i0, ei0⟩ := is_v gg2
  obtain rfl : w0 = (.int i0) := Option.some.inj ei0
  obtain ⟨n, o, h1, h2, h3, _, L, rfl, ⟨rfl, N⟩, hq⟩ := rm_law l s _ hw tables_1 i0 s.heap s.heap.size (Nat.le_refl _)  p e ha hc hk s m _ below hf ((Spec.applies_iff_loose hf).mp happ).1 ⟨rfl, State.Warmed39.refl s, rfl⟩ trivial
  refine ⟨n, _, h1, h2, h3, hpost _ _ _ _ _ _ ⟨Cond.after_iff.mpr rfl, Cond.after_iff.mpr (eq_i res_at (Term.int_eval (1)) rfl), trivial⟩ ⟨hq.1, hq.2.1, (hq.2.2.sift fun y hy => Or.inr (N y hy)).mono (by decide) (by decide)⟩⟩
theorem main_1_1 : Claimed_1_1 := comes_1 fun _ _ _ _ _ _ h hF => ⟨h.1, hF⟩
theorem main_1_2 : Claimed_1_2 := comes_1 fun _ _ _ _ _ _ h hF => ⟨h.2.1, hF⟩
end Jvm.Pilot.@@N@@
namespace Jvm.Pilot.@@N@@
open Jvm Jvm.ClassFile Sem Op Lib Jvm.Free Jvm.Stand Jvm.Pilot.@@N@@.Jvm.D
/-! MADE BY PROGRAM (witnessworld.py) out of the Statement's table words and the real class files: 8 classes; the members and pool entries that the words name. The judged class is class 1, her method 1. -/
namespace start1
open Jvm.ClassFile
def u (s : String) : CpInfo := .utf8 (stringToUtf16 s)
/-- a pool by its gaps: so many unusable entries, then the entry; so many at the end -/
def gap : Nat → List CpInfo → List CpInfo
  | 0, r => r
  | n + 1, r => .unusable :: gap n r
def poolList (es : List (Nat × CpInfo)) (last : Nat) : List CpInfo := es.foldr (fun e r => gap e.1 (e.2 :: r)) (gap last [])
def pool (es : List (Nat × CpInfo)) (last : Nat) : Array CpInfo := ⟨poolList es last⟩
def fileOf (pool : Array CpInfo) (this : Nat) (attrs : Array Attribute := #[]) (ms : Array MethodInfo := #[]) (fl : Nat := 33) (sup : Nat := 0) (ifs : Array Nat := #[]) (fds : Array FieldInfo := #[]) : ClassFile where
  minorVersion := 0
  majorVersion := 65
  constantPool := pool
  accessFlags := fl
  thisClass := this
  superClass := sup
  interfaces := ifs
  fields := fds
  methods := ms
  attributes := attrs
def plain (name : String) (sup : Option ClassId) : Class where
  name := name
  kind := .ordinary
  loader := none
  accessFlags := 33
  super := sup
  interfaces := #[]
  cf := none
  fields := #[]
  methods := #[]
  instanceTypes := #[]
  staticTypes := #[]
  resolved := #[]
  callSites := []
  init := .initialized
  statics := none
  mirror := none

def pool0 : Array CpInfo := pool [(5, u "<init>"), (0, u "()V"), (1, .class_ 10), (1, u "java/lang/Object")] 113

def k0c0 : Code := { maxStack := 0, maxLocals := 1, code := object_method_1_code, exceptionTable := #[], attributes := #[] }
def k0m0 : Method := { name := "<init>", desc := "()V", sig := { parameters := [], returnType := none }, accessFlags := 1, code := some k0c0 }
/-- java/lang/Object -/
def k0 : Class := { plain "java/lang/Object" none with
  accessFlags := 33
  interfaces := #[]
  cf := some (fileOf pool0 8 #[] #[{ accessFlags := 1, nameIndex := 5, descriptorIndex := 6, attributes := #[] }] 33 0 #[] #[])
  fields := #[]
  methods := #[k0m0]
  instanceTypes := #[]
  staticTypes := #[]
  resolved := Array.replicate 124 none
  statics := none }

def pool1 : Array CpInfo := pool [(2, .class_ 4), (1, u "java/lang/Object"), (0, u "<init>"), (0, u "()V"), (0, .class_ 8), (0, u "com/example/nextkey/nextkey/lock/LockRules$RangeScan"), (0, .methodref 7 10), (0, .nameAndType 5 11), (0, u "(ZZZZ)V"), (0, .methodref 7 13), (0, .nameAndType 14 15), (0, u "isUniqueLookup"), (0, u "()Z"), (0, .methodref 7 17), (0, .nameAndType 18 15), (0, u "descending"), (0, .class_ 20), (0, u "com/example/nextkey/nextkey/lock/RangeScanIsUniqueLookupPinLaw"), (2, u "law"), (0, u "(I)Z")] 7

def k1m0 : Method := { name := "<init>", desc := "()V", sig := { parameters := [], returnType := none }, accessFlags := 2, code := none }
def k1c1 : Code := { maxStack := 6, maxLocals := 9, code := code, exceptionTable := #[], attributes := #[] }
def k1m1 : Method := { name := "law", desc := "(I)Z", sig := { parameters := [.int], returnType := some .boolean }, accessFlags := 9, code := some k1c1 }
/-- com/example/nextkey/nextkey/lock/RangeScanIsUniqueLookupPinLaw -/
def k1 : Class := { plain "com/example/nextkey/nextkey/lock/RangeScanIsUniqueLookupPinLaw" (some 0) with
  accessFlags := 49
  interfaces := #[]
  cf := some (fileOf pool1 19 #[] #[{ accessFlags := 2, nameIndex := 5, descriptorIndex := 6, attributes := #[] }, { accessFlags := 9, nameIndex := 23, descriptorIndex := 24, attributes := #[] }] 49 2 #[] #[])
  fields := #[]
  methods := #[k1m0, k1m1]
  instanceTypes := #[]
  staticTypes := #[]
  resolved := Array.replicate 32 none
  statics := none }

def pool2 : Array CpInfo := pool [(1, .methodref 2 3), (0, .class_ 4), (0, .nameAndType 5 6), (0, u "java/lang/Object"), (0, u "<init>"), (0, u "()V"), (0, .class_ 8), (0, u "java/lang/Record")] 13

def k2c0 : Code := { maxStack := 1, maxLocals := 1, code := jdk_30_method_1_code, exceptionTable := #[], attributes := #[] }
def k2m0 : Method := { name := "<init>", desc := "()V", sig := { parameters := [], returnType := none }, accessFlags := 4, code := some k2c0 }
/-- java/lang/Record -/
def k2 : Class := { plain "java/lang/Record" (some 0) with
  accessFlags := 1057
  interfaces := #[]
  cf := some (fileOf pool2 7 #[] #[{ accessFlags := 4, nameIndex := 5, descriptorIndex := 6, attributes := #[] }] 1057 2 #[] #[])
  fields := #[]
  methods := #[k2m0]
  instanceTypes := #[]
  staticTypes := #[]
  resolved := Array.replicate 22 none
  statics := none }

def pool3 : Array CpInfo := pool [(1, .methodref 2 3), (0, .class_ 4), (0, .nameAndType 5 6), (0, u "java/lang/Record"), (0, u "<init>"), (0, u "()V"), (7, .fieldref 15 16), (0, .class_ 17), (0, .nameAndType 18 19), (0, u "com/example/nextkey/nextkey/lock/LockRules$RangeScan"), (0, u "clustered"), (0, u "Z"), (0, .fieldref 15 21), (0, .nameAndType 22 19), (0, u "unique"), (0, .fieldref 15 24), (0, .nameAndType 25 19), (0, u "point"), (0, .fieldref 15 27), (0, .nameAndType 28 19), (0, u "descending"), (12, u "(ZZZZ)V"), (4, u "isUniqueLookup"), (0, u "()Z"), (6, .class_ 55), (0, u "com/example/nextkey/nextkey/lock/LockRules")] 22

def k3c0 : Code := { maxStack := 3, maxLocals := 5, code := prog_98_method_1_code, exceptionTable := #[], attributes := #[] }
def k3m0 : Method := { name := "<init>", desc := "(ZZZZ)V", sig := { parameters := [.boolean, .boolean, .boolean, .boolean], returnType := none }, accessFlags := 1, code := some k3c0 }
def k3c1 : Code := { maxStack := 1, maxLocals := 1, code := prog_98_method_2_code, exceptionTable := #[], attributes := #[] }
def k3m1 : Method := { name := "isUniqueLookup", desc := "()Z", sig := { parameters := [], returnType := some .boolean }, accessFlags := 0, code := some k3c1 }
def k3c2 : Code := { maxStack := 1, maxLocals := 1, code := prog_98_method_9_code, exceptionTable := #[], attributes := #[] }
def k3m2 : Method := { name := "descending", desc := "()Z", sig := { parameters := [], returnType := some .boolean }, accessFlags := 1, code := some k3c2 }
/-- com/example/nextkey/nextkey/lock/LockRules$RangeScan -/
def k3 : Class := { plain "com/example/nextkey/nextkey/lock/LockRules$RangeScan" (some 2) with
  accessFlags := 49
  interfaces := #[]
  cf := some (fileOf pool3 15 #[.nestHost 54] #[{ accessFlags := 1, nameIndex := 5, descriptorIndex := 41, attributes := #[] }, { accessFlags := 0, nameIndex := 46, descriptorIndex := 47, attributes := #[] }, { accessFlags := 1, nameIndex := 28, descriptorIndex := 47, attributes := #[] }] 49 2 #[] #[{ accessFlags := 18, nameIndex := 18, descriptorIndex := 19, attributes := #[] }, { accessFlags := 18, nameIndex := 22, descriptorIndex := 19, attributes := #[] }, { accessFlags := 18, nameIndex := 25, descriptorIndex := 19, attributes := #[] }, { accessFlags := 18, nameIndex := 28, descriptorIndex := 19, attributes := #[] }])
  fields := #[{ name := "clustered", type := .boolean, accessFlags := 18, slot := 0, constantValue := 0 }, { name := "unique", type := .boolean, accessFlags := 18, slot := 1, constantValue := 0 }, { name := "point", type := .boolean, accessFlags := 18, slot := 2, constantValue := 0 }, { name := "descending", type := .boolean, accessFlags := 18, slot := 3, constantValue := 0 }]
  methods := #[k3m0, k3m1, k3m2]
  instanceTypes := #[.boolean, .boolean, .boolean, .boolean]
  staticTypes := #[]
  resolved := Array.replicate 78 none
  statics := none }

def pool4 : Array CpInfo := pool [(1, u "java/lang/Cloneable"), (0, .class_ 1), (0, u "java/lang/Object"), (0, .class_ 3)] 3

/-- java/lang/Cloneable -/
def k4 : Class := { plain "java/lang/Cloneable" (some 0) with
  accessFlags := 1537
  interfaces := #[]
  cf := some (fileOf pool4 2 #[] #[] 1537 4 #[] #[])
  fields := #[]
  methods := #[]
  instanceTypes := #[]
  staticTypes := #[]
  resolved := Array.replicate 8 none
  statics := none }

def pool5 : Array CpInfo := pool [(1, u "java/io/Serializable"), (0, .class_ 1), (0, u "java/lang/Object"), (0, .class_ 3)] 3

/-- java/io/Serializable -/
def k5 : Class := { plain "java/io/Serializable" (some 0) with
  accessFlags := 1537
  interfaces := #[]
  cf := some (fileOf pool5 2 #[] #[] 1537 4 #[] #[])
  fields := #[]
  methods := #[]
  instanceTypes := #[]
  staticTypes := #[]
  resolved := Array.replicate 8 none
  statics := none }

/-- the primitive byte -/
def k6 : Class := { plain "byte" none with kind := .primitive 'B', accessFlags := 0x411 }
/-- [B -/
def k7 : Class := { plain "[B" (some 0) with kind := .array 6 .byte, interfaces := #[4, 5], accessFlags := 1041 }

def heap : Heap := #[]
def classes : Array Class := #[k0, k1, k2, k3, k4, k5, k6, k7]
def interned : List (Array UInt16 × Addr) := []
def slotsUsed : Nat := 0
def theMethod : MethodId := ⟨1, 1⟩
def args0 : Array Value := #[.int 9]
def aboutOver (below : List Frame) : State where
  vm := { classes := classes, interned := interned.toArray }
  heap := heap
  slotsUsed := slotsUsed
  threads := #[{ frames := .invoking theMethod args0 :: below }]
def below0 : List Frame := [.native { method := ⟨0, 0⟩, args := #[] }]
def about1 : State := aboutOver below0
def p0 : Program := .bare "" "" ""
def e0 : Env := launch0.env 0 0 0
theorem w_frames : about1.frames = Frame.invoking theMethod args0 :: below0 := rfl
set_option maxRecDepth 65536 in
theorem w_args : argsFit about1.vm theMethod args0 = true := by decide +kernel
set_option maxRecDepth 65536 in
theorem w_heap : heapFits about1 = true := by decide +kernel
set_option maxRecDepth 65536 in
theorem w_runnable : about1.curStatus? = some .runnable := by decide +kernel
set_option maxRecDepth 65536 in
theorem w_alone : about1.alone = true := by decide +kernel
set_option maxRecDepth 65536 in
theorem w_named : about1.methodNamed? x = some theMethod := by decide +kernel
set_option maxRecDepth 65536 in
theorem w_hears : about1.hears theMethod below0 = true := by decide +kernel
set_option maxRecDepth 65536 in
theorem w_ripe : about1.ripe theMethod args0 below0 = true := by decide +kernel
theorem w_running : about1.status = .running := rfl
set_option maxRecDepth 65536 in
theorem w_room : about1.hasRoom e0.platform room_1 = true :=
  launch0.hasRoom_least _ room_1 (by decide +kernel) (by decide +kernel) (by decide +kernel) (by decide +kernel) (by decide +kernel) (by decide +kernel)
theorem allAtoms_all (ts : List Jvm.Cond) (a : Array Jvm.Value) (st : Jvm.State) : (allAtoms ts).before a st = ts.all (fun c => c.before a st) := by
  induction ts with
  | nil => rfl
  | cons c t ih =>
    show (Jvm.Cond.and c (allAtoms t)).before a st = _
    rw [Jvm.Cond.before_and, ih, List.all_cons]
def words1 : List Jvm.Cond := Jvm.Cond.code x code maxLocals ret :: tables_1
/-- a 'code' word, met by the world's own term for the bytes: nothing is compared byte by byte -/
theorem code_word {y : MethodName} {bytes : ByteArray} {mx : Nat} {rt : Option FieldType} {a : Array Value} {s : State} {m : MethodId} {meth : Method} {c : Code} (h1 : s.methodNamed? y = some m) (h2 : s.vm.method? m = some meth) (h3 : meth.code = some c) (h4 : c.code = bytes)
    (h5 : (c.maxLocals == mx && c.exceptionTable.isEmpty && decide (c.maxStack ≤ mostOperands) && decide (meth.sig.returnType = rt) && !meth.locks && decide (parseMethodDescriptor y.desc = some meth.sig)) = true) : (Jvm.Cond.code y bytes mx rt).before a s = true := by
  simp only [Bool.and_eq_true, beq_iff_eq, Bool.not_eq_true', decide_eq_true_eq] at h5
  obtain ⟨⟨⟨⟨⟨g1, g2⟩, g3⟩, g4⟩, g5⟩, g6⟩ := h5
  simp [Cond.before, Cond.holds, Cond.value, h1, h2, h3, h4, g1, g2, g3, g4, g5, g6]
def isCode : Jvm.Cond → Bool
  | .code _ _ _ _ => true
  | _ => false
theorem all_split {L : List Jvm.Cond} {P : Jvm.Cond → Bool} (h1 : L.all (fun c => isCode c || P c) = true) (h2 : ∀ c ∈ L.filter isCode, P c = true) : L.all P = true := by
  refine List.all_eq_true.mpr fun c hc => ?_
  have h := List.all_eq_true.mp h1 c hc
  rcases Bool.eq_false_or_eq_true (isCode c) with hi | hi
  · exact h2 c (List.mem_filter.mpr ⟨hc, hi⟩)
  · simpa [hi] using h
set_option maxRecDepth 65536 in
theorem w_c0 : (Jvm.Cond.code x code maxLocals ret).before args0 about1 = true := code_word (m := ⟨1, 1⟩) (meth := k1m1) (c := k1c1) (by decide +kernel) rfl rfl rfl (by decide +kernel)
set_option maxRecDepth 65536 in
theorem w_c1 : (Jvm.Cond.code ({ cls := "com/example/nextkey/nextkey/lock/LockRules$RangeScan", name := "<init>", desc := "(ZZZZ)V" } : Jvm.MethodName) prog_98_method_1_code (5 : Nat) (Option.none : Option Jvm.ClassFile.FieldType)).before args0 about1 = true := code_word (m := ⟨3, 0⟩) (meth := k3m0) (c := k3c0) (by decide +kernel) rfl rfl rfl (by decide +kernel)
set_option maxRecDepth 65536 in
theorem w_c2 : (Jvm.Cond.code ({ cls := "java/lang/Record", name := "<init>", desc := "()V" } : Jvm.MethodName) jdk_30_method_1_code (1 : Nat) (Option.none : Option Jvm.ClassFile.FieldType)).before args0 about1 = true := code_word (m := ⟨2, 0⟩) (meth := k2m0) (c := k2c0) (by decide +kernel) rfl rfl rfl (by decide +kernel)
set_option maxRecDepth 65536 in
theorem w_c3 : (Jvm.Cond.code ({ cls := "java/lang/Object", name := "<init>", desc := "()V" } : Jvm.MethodName) object_method_1_code (1 : Nat) (Option.none : Option Jvm.ClassFile.FieldType)).before args0 about1 = true := code_word (m := ⟨0, 0⟩) (meth := k0m0) (c := k0c0) (by decide +kernel) rfl rfl rfl (by decide +kernel)
set_option maxRecDepth 65536 in
theorem w_c4 : (Jvm.Cond.code ({ cls := "com/example/nextkey/nextkey/lock/LockRules$RangeScan", name := "isUniqueLookup", desc := "()Z" } : Jvm.MethodName) prog_98_method_2_code (1 : Nat) (Option.some Jvm.ClassFile.FieldType.boolean)).before args0 about1 = true := code_word (m := ⟨3, 1⟩) (meth := k3m1) (c := k3c1) (by decide +kernel) rfl rfl rfl (by decide +kernel)
set_option maxRecDepth 65536 in
theorem w_c5 : (Jvm.Cond.code ({ cls := "com/example/nextkey/nextkey/lock/LockRules$RangeScan", name := "descending", desc := "()Z" } : Jvm.MethodName) prog_98_method_9_code (1 : Nat) (Option.some Jvm.ClassFile.FieldType.boolean)).before args0 about1 = true := code_word (m := ⟨3, 2⟩) (meth := k3m2) (c := k3c2) (by decide +kernel) rfl rfl rfl (by decide +kernel)
def codes1 : List Jvm.Cond := [Jvm.Cond.code x code maxLocals ret, Jvm.Cond.code ({ cls := "com/example/nextkey/nextkey/lock/LockRules$RangeScan", name := "<init>", desc := "(ZZZZ)V" } : Jvm.MethodName) prog_98_method_1_code (5 : Nat) (Option.none : Option Jvm.ClassFile.FieldType), Jvm.Cond.code ({ cls := "java/lang/Record", name := "<init>", desc := "()V" } : Jvm.MethodName) jdk_30_method_1_code (1 : Nat) (Option.none : Option Jvm.ClassFile.FieldType), Jvm.Cond.code ({ cls := "java/lang/Object", name := "<init>", desc := "()V" } : Jvm.MethodName) object_method_1_code (1 : Nat) (Option.none : Option Jvm.ClassFile.FieldType), Jvm.Cond.code ({ cls := "com/example/nextkey/nextkey/lock/LockRules$RangeScan", name := "isUniqueLookup", desc := "()Z" } : Jvm.MethodName) prog_98_method_2_code (1 : Nat) (Option.some Jvm.ClassFile.FieldType.boolean), Jvm.Cond.code ({ cls := "com/example/nextkey/nextkey/lock/LockRules$RangeScan", name := "descending", desc := "()Z" } : Jvm.MethodName) prog_98_method_9_code (1 : Nat) (Option.some Jvm.ClassFile.FieldType.boolean)]
set_option maxRecDepth 65536 in
theorem codes_eq : words1.filter isCode = codes1 := rfl
theorem w_codes : ∀ c ∈ words1.filter isCode, c.before args0 about1 = true := by
  rw [codes_eq]
  intro c hc
  simp only [codes1, List.mem_cons, List.not_mem_nil, or_false] at hc
  rcases hc with rfl | rfl | rfl | rfl | rfl | rfl
  · exact w_c0
  · exact w_c1
  · exact w_c2
  · exact w_c3
  · exact w_c4
  · exact w_c5
set_option maxRecDepth 65536 in
theorem w_t1 : (words1.take 24).all (fun c => isCode c || c.before args0 about1) = true := by decide +kernel
set_option maxRecDepth 65536 in
theorem w_t2 : (words1.drop 24).all (fun c => isCode c || c.before args0 about1) = true := by decide +kernel
theorem w_tables : (allAtoms (Jvm.Cond.code x code maxLocals ret :: tables_1)).before args0 about1 = true := by
  rw [allAtoms_all]
  show words1.all (fun c => c.before args0 about1) = true
  refine all_split ?_ w_codes
  rw [← List.take_append_drop 24 words1, List.all_append, w_t1, w_t2]
  rfl
set_option maxRecDepth 65536 in
theorem w_case : (Jvm.Cond.and given_1 narrow_1).before args0 about1 = true := by decide +kernel
theorem w_applies : (headSpec (Jvm.Cond.code x code maxLocals ret :: tables_1) room_1).applies x e0.platform about1 = true :=
  (Spec.applies_iff w_frames).mpr ⟨w_running, w_runnable, w_alone, w_named, w_hears, w_ripe, w_room, w_tables⟩
theorem atStart : AtStart classFile x code maxLocals ret World_1 tables_1 room_1 Calls_1 rest_1 Pre_1 launch0 p0 e0 about1 theMethod args0 below0 :=
  ⟨lists_1, trivial, launch0.admits_env _ _ _, launch0.least_env, fairChoices_fair.cas, fairChoices_fair.clock, w_frames, w_args, w_heap, w_applies, trivial, trivial, w_case⟩
end start1
theorem witness_1 : WitnessClaimed_1 := ⟨start1.p0, start1.e0, start1.about1, start1.theMethod, start1.args0, start1.below0, start1.atStart⟩
end Jvm.Pilot.@@N@@
