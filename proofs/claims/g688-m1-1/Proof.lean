import JvmDerived
import JvmDerived.Pilot.@@N@@Statement
import JvmDerived.Pilot.@@N@@Code
set_option linter.unusedVariables false
set_option linter.unusedSimpArgs false
namespace Jvm.RoadKit
open Sem ClassFile Op Lib Jvm.Stand Jvm.Free Jvm.LawKit
section New
variable {p : Program} {l : Launch} {e : Env} {R : Room} {s : State} {m : MethodId} {args : Array Value} {below : List Frame} {meth : Method} {c : Code} {T : State} {locs : List Loc} {cells slots : Nat}
theorem retI (X : Stand p l e R s m args below meth c T locs cells slots) (hx : p.tables.exec = Jvm.exec) {pc : Nat} {Ls : Array Slot} {z : Int32} {rest : List Value} (hret : meth.sig.returnType = some .int) (hd : decode c.code pc = .ok (.ireturn, 1)) {fs : List Frame}
    (hl : ∀ (f : JFrame) (acts : List Action), f.method = m → f.locked = none → f.entered = [] → (doReturn e (T.setTop f) acts (some (.int z))).1 = T.setFrames fs) : Steps p.tables e below (T.setTop (mkF m pc Ls (.int z :: rest))) (T.setFrames fs) := by
  have hm' : T.vm.method? m = some meth := X.method'
  have hn : narrow .int (.int z) = .int z := rfl
  show Steps p.tables e below (T.setTop { method := m, pc := pc, locals := Ls, stack := _ :: rest, locked := none }) _
  jvm_step X.here [X.here.top, hx, hd, hm', hret, hn]
  first | (intro acts; rw [hl _ acts rfl rfl rfl]) | rw [hl _ _ rfl rfl rfl]
  exact Steps.refl _
end New
end Jvm.RoadKit

namespace Jvm.Pilot.@@N@@
open Jvm Jvm.ClassFile Sem Op Lib Jvm.Free Jvm.Stand Jvm.LawKit Jvm.RoadKit Bundle Jvm.Pilot.@@N@@.Jvm.D


theorem own_int {s : State} {args : Array Value} {t : Term} {k : Int32} (h : (Cond.eq t (.int k)).value args s none s [] = some true) : t.eval args s none [] s = some (.int k) := by
  obtain ⟨x, y, h1, h2, k1, k2⟩ := cmp_v (Or.inl h)
  have e2 : (Term.int k).eval args s none [] s = some (.int k) := Term.int_eval k
  obtain rfl := Option.some.inj (e2.symm.trans h2)
  obtain ⟨z, rfl⟩ := k2
  have hq : (Cond.eq t (.int k)).value args s none s [] = some (decide (z = k)) := by simp [Cond.value, h1, e2]
  rw [h1, gotT hq h]
theorem own_fldI {s : State} {args : Array Value} {t : Term} {a : Addr} {C n d : String} {k : Int32} (ht : t.eval args s none [] s = some (.ref a)) (h : (Cond.eq (.field t C n d) (.int k)).value args s none s [] = some true) : Fld s s.heap a C n d (.int k) :=
  Fld.start ((fld_at ht).symm.trans (own_int h))
theorem own_fldR {s : State} {args : Array Value} {t u : Term} {a b : Addr} {C n d : String} (ht : t.eval args s none [] s = some (.ref a)) (hu : u.eval args s none [] s = some (.ref b)) (h : (Cond.eq (.field t C n d) u).value args s none s [] = some true) : Fld s s.heap a C n d (.ref b) := by
  obtain ⟨x, y, h1, h2, k1, k2⟩ := cmp_v (Or.inl h)
  obtain rfl := Option.some.inj (hu.symm.trans h2)
  have hx : x.isRef = true := k2.2
  have e := gotT (eq_R h1 hu hx rfl) h
  subst e
  exact Fld.start ((fld_at ht).symm.trans h1)

theorem own_wS {a0 : Array Value} {Z : State} (hw : ∀ d ∈ tables_1, d.before a0 Z = true) : ∀ d ∈ Bundle.stringAtoms, d.before a0 Z = true := fun d hd => by
  simp only [Bundle.stringAtoms, List.mem_cons, List.not_mem_nil, or_false] at hd
  rcases hd with rfl | rfl | rfl | rfl | rfl | rfl | rfl
  · exact hw _ (List.mem_of_getElem? (i := 22) rfl)
  · exact hw _ (List.mem_of_getElem? (i := 23) rfl)
  · exact hw _ (List.mem_of_getElem? (i := 24) rfl)
  · exact hw _ (List.mem_of_getElem? (i := 25) rfl)
  · exact hw _ (List.mem_of_getElem? (i := 26) rfl)
  · exact hw _ (List.mem_of_getElem? (i := 27) rfl)
  · exact hw _ (List.mem_of_getElem? (i := 28) rfl)


def own_rt (u : Int32) (rs ru : Addr) : Addr := if u = 0 then rs else ru
theorem own_rt0 {b : Int32} {rs ru : Addr} (h : b = 0) : own_rt (nar .boolean b) rs ru = rs := by subst h; rfl
theorem own_rt1 {b : Int32} {rs ru : Addr} (hb : b = 0 ∨ b = 1) (h : ¬ b = 0) : own_rt (nar .boolean b) rs ru = ru := by
  rcases hb with e | e
  · exact absurd e h
  · subst e; rfl

theorem d2_0 : decode jdk_30_method_1_code 0 = .ok (.aload_n 0, 1) := by decide +kernel
theorem d2_1 : decode jdk_30_method_1_code 1 = .ok (.invokespecial 1, 3) := by decide +kernel
theorem d2_4 : decode jdk_30_method_1_code 4 = .ok (.return_, 1) := by decide +kernel
theorem pn_2 : plainName "java/lang/Record" = true := by first | (simp [plainName, overriddenIn]; done) | decide +kernel
theorem ef_rec (m : MethodId) (x0 : Addr) : entryFrame m #[(.ref x0)] 1 = mkF m 0 #[.val (.ref x0)] [] := by (first | (simp [entryFrame, mkF, argsToLocals, Value.category]; done) | rfl)
def Q_rec (Z : State) (a1 : Addr) (h0 : Heap) (n0 : Nat) (v : Option Value) (h : Heap) (L : List Loc) : Prop := v = none ∧ Fr n0 L ∧ h = h0
set_option maxRecDepth 65536 in
set_option maxHeartbeats 40000000 in
theorem rm_rec (l : Launch) (Z : State) (a0 : Array Value) (hw : ∀ d ∈ tables_1, d.before a0 Z = true) (ws : List Jvm.Cond) (a1 : Addr) (h0 : Heap) (n0 : Nat) (Z0 : n0 ≤ h0.size)  :
    MetFree l (⟨"java/lang/Record", "<init>", "()V"⟩ : MethodName) (head1 (Jvm.Cond.code (⟨"java/lang/Record", "<init>", "()V"⟩ : MethodName) jdk_30_method_1_code 1 none :: ws) ({ frames := 1, cells := 0, slots := 0, locals := 12 } : Room)) (fun a U => a = #[(.ref a1)] ∧ Z.Warmed39 U.vm ∧ U.heap = h0) (fun _ _ _ _ _ => True) (fun _ U o U' => ∃ v L, o = .returned v ∧ Q_rec Z a1 h0 n0 v U'.heap L ∧ FrameEnd U o U' L ({ frames := 1, cells := 0, slots := 0, locals := 12 } : Room).cells ({ frames := 1, cells := 0, slots := 0, locals := 12 } : Room).slots) := by
  refine MetFree.of_bodySF (plainFor_of_name pn_2) hisR ?_
  intro p e s m args below meth c s₁ Bd hml0 hP hK
  obtain ⟨rfl, hZ, hh⟩ := hP
  have hx := Bd.exec
  have hby := Bd.bytes
  have hml : c.maxLocals = 1 := hml0
  have hown : s.vm.findClass "java/lang/Record" = some m.cls := findClass_of_methodNamed Bd.named
  have hnm := (name_of_methodNamed Bd.named Bd.method).1
  have X0 : Stand p l e ({ frames := 1, cells := 0, slots := 0, locals := 12 } : Room) s m #[(.ref a1)] below meth c s₁ [] 0 0 := Stand.of_body Bd
  have e0 : s₁.heap = h0 := by rw [← hh, Bd.state]; rfl
  have N0 := Fr.nil n0
  have c0 : Goes p e below s₁ (entryFrame m #[(.ref a1)] 1) s₁ (mkF m 0 #[.val (.ref a1)] []) := fun t k => castTop (ef_rec m a1) k
  have c1 : Goes p e below s₁ (entryFrame m #[(.ref a1)] 1) s₁ (mkF m 1 #[.val (.ref a1)] [(.ref a1)]) := by
    intro t kk
    refine c0 t ?_
    show Steps p.tables e below (s₁.setTop (mkF m 0 #[.val (.ref a1)] [])) t
    refine XS.aloadN X0.here hx rfl (hb hby d2_0) rfl rfl ?_
    exact kk
  obtain ⟨T2, X2, e2, st2⟩ := initO X0 hx hZ hown (hw _ (List.mem_of_getElem? (i := 18) rfl)) (hw _ (List.mem_of_getElem? (i := 19) rfl)) (hw _ (List.mem_of_getElem? (i := 20) rfl)) e0 (g := (mkF m 1 #[.val (.ref a1)] [(.ref a1)])) rfl (by rw [hml]; rfl) rfl (hb hby d2_1) (by decide) (W := 0) (by show 2 * 0 + _ ≤ _; exact Nat.le_of_eq rfl) (by decide)
  have c3 : Goes p e below s₁ (entryFrame m #[(.ref a1)] 1) T2 (mkF m 4 #[.val (.ref a1)] []) := fun t kk => c1 t (st2 t kk)
  obtain ⟨fs, hr, hrun, hended, hW, hsame⟩ := X2.leave (v := none) (fun _ => rfl)
  refine ⟨_, _, c3 _ ?_, hrun, hended, _, _, rfl, ?_, ⟨_, rfl⟩, hW, hsame.mono (by decide) (by decide)⟩
  · exact X2.returnOut hx Bd.returns (hb hby d2_4) hr
  · show Q_rec Z a1 h0 n0 _ T2.heap _
    rw [e2]
    exact ⟨rfl, N0, rfl⟩
theorem d4_0 : decode jdk_31_method_11_code 0 = .ok (.aload_n 0, 1) := by decide +kernel
theorem d4_1 : decode jdk_31_method_11_code 1 = .ok (.ifnonnull 12, 3) := by decide +kernel
theorem d4_13 : decode jdk_31_method_11_code 13 = .ok (.aload_n 0, 1) := by decide +kernel
theorem d4_14 : decode jdk_31_method_11_code 14 = .ok (.areturn, 1) := by decide +kernel
theorem pn_4 : plainName "java/util/Objects" = true := by first | (simp [plainName, overriddenIn]; done) | decide +kernel
theorem ef_rnn (m : MethodId) (x0 : Addr) (x1 : Addr) : entryFrame m #[(.ref x0), (.ref x1)] 2 = mkF m 0 #[.val (.ref x0), .val (.ref x1)] [] := by (first | (simp [entryFrame, mkF, argsToLocals, Value.category]; done) | rfl)
def Q_rnn (Z : State) (a1 : Addr) (a2 : Addr) (h0 : Heap) (n0 : Nat) (v : Option Value) (h : Heap) (L : List Loc) : Prop := v = some (.ref a1) ∧ Fr n0 L ∧ h = h0
set_option maxRecDepth 65536 in
set_option maxHeartbeats 40000000 in
theorem rm_rnn (l : Launch) (Z : State) (a0 : Array Value) (hw : ∀ d ∈ tables_1, d.before a0 Z = true) (ws : List Jvm.Cond) (a1 : Addr) (a2 : Addr) (h0 : Heap) (n0 : Nat) (Z0 : n0 ≤ h0.size)  :
    MetFree l (⟨"java/util/Objects", "requireNonNull", "(Ljava/lang/Object;Ljava/lang/String;)Ljava/lang/Object;"⟩ : MethodName) (head1 (Jvm.Cond.code (⟨"java/util/Objects", "requireNonNull", "(Ljava/lang/Object;Ljava/lang/String;)Ljava/lang/Object;"⟩ : MethodName) jdk_31_method_11_code 2 (some (.object "java/lang/Object")) :: ws) ({ frames := 0, cells := 0, slots := 0, locals := 0 } : Room)) (fun a U => a = #[(.ref a1), (.ref a2)] ∧ Z.Warmed39 U.vm ∧ U.heap = h0) (fun _ _ _ _ _ => True) (fun _ U o U' => ∃ v L, o = .returned v ∧ Q_rnn Z a1 a2 h0 n0 v U'.heap L ∧ FrameEnd U o U' L ({ frames := 0, cells := 0, slots := 0, locals := 0 } : Room).cells ({ frames := 0, cells := 0, slots := 0, locals := 0 } : Room).slots) := by
  refine MetFree.of_bodySF (plainFor_of_name pn_4) hisR ?_
  intro p e s m args below meth c s₁ Bd hml0 hP hK
  obtain ⟨rfl, hZ, hh⟩ := hP
  have hx := Bd.exec
  have hby := Bd.bytes
  have hml : c.maxLocals = 2 := hml0
  have hown : s.vm.findClass "java/util/Objects" = some m.cls := findClass_of_methodNamed Bd.named
  have hnm := (name_of_methodNamed Bd.named Bd.method).1
  have X0 : Stand p l e ({ frames := 0, cells := 0, slots := 0, locals := 0 } : Room) s m #[(.ref a1), (.ref a2)] below meth c s₁ [] 0 0 := Stand.of_body Bd
  have e0 : s₁.heap = h0 := by rw [← hh, Bd.state]; rfl
  have N0 := Fr.nil n0
  have c0 : Goes p e below s₁ (entryFrame m #[(.ref a1), (.ref a2)] 2) s₁ (mkF m 0 #[.val (.ref a1), .val (.ref a2)] []) := fun t k => castTop (ef_rnn m a1 a2) k
  have c4 : Goes p e below s₁ (entryFrame m #[(.ref a1), (.ref a2)] 2) s₁ (mkF m 14 #[.val (.ref a1), .val (.ref a2)] [(.ref a1)]) := by
    intro t kk
    refine c0 t ?_
    show Steps p.tables e below (s₁.setTop (mkF m 0 #[.val (.ref a1), .val (.ref a2)] [])) t
    refine XS.aloadN X0.here hx rfl (hb hby d4_0) rfl rfl ?_
    show Steps p.tables e below (s₁.setTop (mkF m 1 #[.val (.ref a1), .val (.ref a2)] [(.ref a1)])) t
    refine XS.ifnonnullYes X0.here hx rfl (pc0 := 1) (pc' := 13) rfl (hb hby d4_1) rfl (by decide) (by decide) ?_
    show Steps p.tables e below (s₁.setTop (mkF m 13 #[.val (.ref a1), .val (.ref a2)] [])) t
    refine XS.aloadN X0.here hx rfl (hb hby d4_13) rfl rfl ?_
    exact kk
  obtain ⟨fs, hr, hrun, hended, hW, hsame⟩ := X0.leave (v := some (.ref a1)) (fun h => by rw [Bd.returns] at h; cases h)
  refine ⟨_, _, c4 _ ?_, hrun, hended, _, _, rfl, ?_, ⟨_, rfl⟩, hW, hsame.mono (by decide) (by decide)⟩
  · exact retOut X0 hx Bd.returns rfl (Or.inr (Or.inr (Or.inr (Or.inr ⟨rfl, rfl, rfl⟩)))) (hb hby d4_14) hr
  · show Q_rnn Z a1 a2 h0 n0 _ s₁.heap _
    rw [e0]
    exact ⟨rfl, N0, rfl⟩
theorem d1_0 : decode prog_121_method_1_code 0 = .ok (.aload_n 0, 1) := by decide +kernel
theorem d1_1 : decode prog_121_method_1_code 1 = .ok (.invokespecial 1, 3) := by decide +kernel
theorem d1_4 : decode prog_121_method_1_code 4 = .ok (.aload_n 1, 1) := by decide +kernel
theorem d1_5 : decode prog_121_method_1_code 5 = .ok (.ldc 7, 2) := by decide +kernel
theorem d1_7 : decode prog_121_method_1_code 7 = .ok (.invokestatic 9, 3) := by decide +kernel
theorem d1_10 : decode prog_121_method_1_code 10 = .ok (.pop, 1) := by decide +kernel
theorem d1_11 : decode prog_121_method_1_code 11 = .ok (.aload_n 0, 1) := by decide +kernel
theorem d1_12 : decode prog_121_method_1_code 12 = .ok (.aload_n 1, 1) := by decide +kernel
theorem d1_13 : decode prog_121_method_1_code 13 = .ok (.putfield 15, 3) := by decide +kernel
theorem d1_16 : decode prog_121_method_1_code 16 = .ok (.aload_n 0, 1) := by decide +kernel
theorem d1_17 : decode prog_121_method_1_code 17 = .ok (.iload_n 2, 1) := by decide +kernel
theorem d1_18 : decode prog_121_method_1_code 18 = .ok (.putfield 20, 3) := by decide +kernel
theorem d1_21 : decode prog_121_method_1_code 21 = .ok (.return_, 1) := by decide +kernel
theorem pn_1 : plainName "com/example/nextkey/nextkey/model/ColumnType$Int" = true := by first | (simp [plainName, overriddenIn]; done) | decide +kernel
theorem pd___V : parseMethodDescriptor "()V" = some ⟨[], none⟩ := by decide +kernel
theorem pd__Ljava_lang_Object_Ljava_lang_String__Ljava_lang_Object_ : parseMethodDescriptor "(Ljava/lang/Object;Ljava/lang/String;)Ljava/lang/Object;" = some ⟨[(.object "java/lang/Object"), (.object "java/lang/String")], some (.object "java/lang/Object")⟩ := by decide +kernel
theorem ef_init (m : MethodId) (x0 : Addr) (x1 : Addr) (x2 : Int32) : entryFrame m #[(.ref x0), (.ref x1), (.int x2)] 3 = mkF m 0 #[.val (.ref x0), .val (.ref x1), .val (.int x2)] [] := by (first | (simp [entryFrame, mkF, argsToLocals, Value.category]; done) | rfl)
def Q_init (Z : State) (a1 : Addr) (a2 : Addr) (p2 : Int32) (h0 : Heap) (n0 : Nat) (v : Option Value) (h : Heap) (L : List Loc) : Prop := v = none ∧ Fr n0 L ∧ Keep h0 h [a1] ∧ Exa Z h a1 "com/example/nextkey/nextkey/model/ColumnType$Int" ∧ Fld Z h a1 "com/example/nextkey/nextkey/model/ColumnType$Int" "width" "Lcom/example/nextkey/nextkey/model/ColumnType$Int$Width;" (.ref a2) ∧ Fld Z h a1 "com/example/nextkey/nextkey/model/ColumnType$Int" "unsigned" "Z" (.int (nar .boolean p2))
set_option maxRecDepth 65536 in
set_option maxHeartbeats 40000000 in
theorem rm_init (l : Launch) (Z : State) (a0 : Array Value) (hw : ∀ d ∈ tables_1, d.before a0 Z = true) (ws : List Jvm.Cond) (a1 : Addr) (a2 : Addr) (p2 : Int32) (h0 : Heap) (n0 : Nat) (Z0 : n0 ≤ h0.size) (F_width : Fld Z h0 a1 "com/example/nextkey/nextkey/model/ColumnType$Int" "width" "Lcom/example/nextkey/nextkey/model/ColumnType$Int$Width;" .null) (F_unsigned : Fld Z h0 a1 "com/example/nextkey/nextkey/model/ColumnType$Int" "unsigned" "Z" (.int (0 : Int32))) (E1 : Exa Z h0 a1 "com/example/nextkey/nextkey/model/ColumnType$Int") (g1 : n0 ≤ a1) :
    MetFree l (⟨"com/example/nextkey/nextkey/model/ColumnType$Int", "<init>", "(Lcom/example/nextkey/nextkey/model/ColumnType$Int$Width;Z)V"⟩ : MethodName) (head1 (Jvm.Cond.code (⟨"com/example/nextkey/nextkey/model/ColumnType$Int", "<init>", "(Lcom/example/nextkey/nextkey/model/ColumnType$Int$Width;Z)V"⟩ : MethodName) prog_121_method_1_code 3 none :: ws) ({ frames := 2, cells := 2, slots := 24, locals := 24 } : Room)) (fun a U => a = #[(.ref a1), (.ref a2), (.int p2)] ∧ Z.Warmed39 U.vm ∧ U.heap = h0) (fun _ _ _ _ _ => True) (fun _ U o U' => ∃ v L, o = .returned v ∧ Q_init Z a1 a2 p2 h0 n0 v U'.heap L ∧ ReturnedEndW U o U' L ({ frames := 2, cells := 2, slots := 24, locals := 24 } : Room).cells ({ frames := 2, cells := 2, slots := 24, locals := 24 } : Room).slots) := by
  refine MetFree.of_bodySF (plainFor_of_name pn_1) hisR ?_
  intro p e s m args below meth c s₁ Bd hml0 hP hK
  obtain ⟨rfl, hZ, hh⟩ := hP
  have hx := Bd.exec
  have hby := Bd.bytes
  have hml : c.maxLocals = 3 := hml0
  have hown : s.vm.findClass "com/example/nextkey/nextkey/model/ColumnType$Int" = some m.cls := findClass_of_methodNamed Bd.named
  have hnm := (name_of_methodNamed Bd.named Bd.method).1
  have X0 : Stand p l e ({ frames := 2, cells := 2, slots := 24, locals := 24 } : Room) s m #[(.ref a1), (.ref a2), (.int p2)] below meth c s₁ [] 0 0 := Stand.of_body Bd
  have e0 : s₁.heap = h0 := by rw [← hh, Bd.state]; rfl
  have N0 := Fr.nil n0
  have c0 : Goes p e below s₁ (entryFrame m #[(.ref a1), (.ref a2), (.int p2)] 3) s₁ (mkF m 0 #[.val (.ref a1), .val (.ref a2), .val (.int p2)] []) := fun t k => castTop (ef_init m a1 a2 p2) k
  have XW0 : Stand p l e ({ frames := 2, cells := 2, slots := 24, locals := 24 } : Room) (s.setVm s.vm) m #[(.ref a1), (.ref a2), (.int p2)] below meth c s₁ [] 0 0 := X0
  have SW0 : s.Since s.vm 0 := (State.WarmedH.refl s).since 0
  have c5 : Goes p e below s₁ (entryFrame m #[(.ref a1), (.ref a2), (.int p2)] 3) s₁ (mkF m 1 #[.val (.ref a1), .val (.ref a2), .val (.int p2)] [(.ref a1)]) := by
    intro t kk
    refine c0 t ?_
    show Steps p.tables e below (s₁.setTop (mkF m 0 #[.val (.ref a1), .val (.ref a2), .val (.int p2)] [])) t
    refine XS.aloadN XW0.here hx rfl (hb hby d1_0) rfl rfl ?_
    exact kk
  obtain ⟨_, _, ⟨T6, L6, k6, n6⟩, -, X6, ⟨Lc6, hQ6, l6, y6, z6⟩, st6⟩ := XW0.specialBack hx (y := (⟨"java/lang/Record", "<init>", "()V"⟩ : MethodName)) rfl hown (mvT hZ (hw _ (List.mem_of_getElem? (i := 13) rfl))) (mvT hZ (hw _ (List.mem_of_getElem? (i := 14) rfl))) (mvT hZ (hw _ (List.mem_of_getElem? (i := 17) rfl))) (by decide) (backOf (W := 0) (rm_rec l Z a0 hw [] a1 h0 n0 Z0) hZ (hw _ (List.mem_of_getElem? (i := 17) rfl)) (hw _ (List.mem_of_getElem? (i := 16) rfl)) (by decide) (by decide)) (g := (mkF m 1 #[.val (.ref a1), .val (.ref a2), .val (.int p2)] [(.ref a1)])) rfl (by rw [hml]; rfl) (Steps.refl _) (a := a1) (argsL := []) (rest := []) (lenOf pd___V rfl) rfl (by show 2 * 0 + _ ≤ _; exact Nat.le_of_eq rfl) (hb hby d1_1) (fun _ _ => ⟨rfl, e0, (by decide : 0 + 0 ≤ _), (by decide : 0 + 0 ≤ _)⟩)
  dsimp only [Pt.U, Pt.locs, Pt.cells, Pt.slots] at X6 l6 y6 z6 st6 hQ6
  subst l6 y6 z6
  obtain ⟨rfl, Nq6, eq6⟩ := hQ6
  have N6 := Fr.app N0 Nq6
  have c7 : Goes p e below s₁ (entryFrame m #[(.ref a1), (.ref a2), (.int p2)] 3) T6 (mkF m 4 #[.val (.ref a1), .val (.ref a2), .val (.int p2)] []) := fun t kk => c5 t (st6.trans kk)
  have c8 : Goes p e below s₁ (entryFrame m #[(.ref a1), (.ref a2), (.int p2)] 3) T6 (mkF m 5 #[.val (.ref a1), .val (.ref a2), .val (.int p2)] [(.ref a2)]) := by
    intro t kk
    refine c7 t ?_
    show Steps p.tables e below (T6.setTop (mkF m 4 #[.val (.ref a1), .val (.ref a2), .val (.int p2)] [])) t
    refine XS.aloadN X6.here hx rfl (hb hby d1_4) rfl rfl ?_
    exact kk
  obtain ⟨a9, T9, h9, kk9, X9, e9, E9, S9, hk9, hZ9, ho9, st9⟩ := ldcS X6 hx hZ hown (hw _ (List.mem_of_getElem? (i := 21) rfl)) (own_wS hw) eq6 SW0 (Nat.zero_le _) (g := (mkF m 5 #[.val (.ref a1), .val (.ref a2), .val (.int p2)] [(.ref a2)])) rfl (hb hby d1_5) (n := 20) (by decide) (by decide) (by decide) (by decide)
  have c10 : Goes p e below s₁ (entryFrame m #[(.ref a1), (.ref a2), (.int p2)] 3) T9 (mkF m 7 #[.val (.ref a1), .val (.ref a2), .val (.int p2)] [(.ref a9), (.ref a2)]) := fun t kk => c8 t (st9 t kk)
  have f11 := (Nat.le_trans Z0 E9.1)
  obtain ⟨_, _, ⟨T12, L12, k12, n12⟩, -, X12, ⟨Lc12, hQ12, l12, y12, z12⟩, st12⟩ := Jvm.LawKit.callS X9 hx (y := (⟨"java/util/Objects", "requireNonNull", "(Ljava/lang/Object;Ljava/lang/String;)Ljava/lang/Object;"⟩ : MethodName)) ho9 (mvT hZ9 (hw _ (List.mem_of_getElem? (i := 29) rfl))) (mvT hZ9 (hw _ (List.mem_of_getElem? (i := 30) rfl))) (mvT hZ9 (hw _ (List.mem_of_getElem? (i := 31) rfl))) (mvT hZ9 (hw _ (List.mem_of_getElem? (i := 32) rfl))) (by decide) (backOf (W := 0) (rm_rnn l Z a0 hw [] a2 a9 h9 n0 f11) hZ9 (hw _ (List.mem_of_getElem? (i := 32) rfl)) (hw _ (List.mem_of_getElem? (i := 31) rfl)) (by decide) (by decide)) (g := (mkF m 7 #[.val (.ref a1), .val (.ref a2), .val (.int p2)] [(.ref a9), (.ref a2)])) rfl (by rw [hml]; rfl) (argsL := [(.ref a2), (.ref a9)]) (rest := []) (lenOf pd__Ljava_lang_Object_Ljava_lang_String__Ljava_lang_Object_ rfl) rfl (by show 2 * 0 + _ ≤ _; exact Nat.le_of_eq rfl) (hb hby d1_7) (fun _ _ => ⟨rfl, e9, (by decide : 2 + 0 ≤ _), (by decide : 24 + 0 ≤ _)⟩)
  dsimp only [Pt.U, Pt.locs, Pt.cells, Pt.slots] at X12 l12 y12 z12 st12 hQ12
  subst l12 y12 z12
  obtain ⟨rfl, Nq12, eq12⟩ := hQ12
  have N12 := Fr.app N6 Nq12
  have c13 : Goes p e below s₁ (entryFrame m #[(.ref a1), (.ref a2), (.int p2)] 3) T12 (mkF m 10 #[.val (.ref a1), .val (.ref a2), .val (.int p2)] [(.ref a2)]) := fun t kk => c10 t (st12 t kk)
  have c14 : Goes p e below s₁ (entryFrame m #[(.ref a1), (.ref a2), (.int p2)] 3) T12 (mkF m 13 #[.val (.ref a1), .val (.ref a2), .val (.int p2)] [(.ref a2), (.ref a1)]) := by
    intro t kk
    refine c13 t ?_
    show Steps p.tables e below (T12.setTop (mkF m 10 #[.val (.ref a1), .val (.ref a2), .val (.int p2)] [(.ref a2)])) t
    refine XS.pop X12.here hx rfl (hb hby d1_10) rfl rfl ?_
    show Steps p.tables e below (T12.setTop (mkF m 11 #[.val (.ref a1), .val (.ref a2), .val (.int p2)] [])) t
    refine XS.aloadN X12.here hx rfl (hb hby d1_11) rfl rfl ?_
    show Steps p.tables e below (T12.setTop (mkF m 12 #[.val (.ref a1), .val (.ref a2), .val (.int p2)] [(.ref a1)])) t
    refine XS.aloadN X12.here hx rfl (hb hby d1_12) rfl rfl ?_
    exact kk
  have f15 := (F_width.ext E9)
  have f16 := (E1.ext E9)
  obtain ⟨T17, h17, X17, e17, W17, st17⟩ := putF X12 hx hZ9 ho9 (host := "") (Or.inl (hw _ (List.mem_of_getElem? (i := 33) rfl))) Via.refl eq12 f15 f16 (Or.inr ⟨(hw _ (List.mem_of_getElem? (i := 34) rfl)), rfl, hnm⟩) (hw _ (List.mem_of_getElem? (i := 8) rfl)) (ty := (.object "com/example/nextkey/nextkey/model/ColumnType$Int$Width")) (by decide) rfl rfl (g := (mkF m 13 #[.val (.ref a1), .val (.ref a2), .val (.int p2)] [(.ref a2), (.ref a1)])) rfl rfl (hb hby d1_13)
  have N17 := Fr.snoc X17 N12 g1
  have F17 := f15.same W17
  have c18 : Goes p e below s₁ (entryFrame m #[(.ref a1), (.ref a2), (.int p2)] 3) T17 (mkF m 16 #[.val (.ref a1), .val (.ref a2), .val (.int p2)] []) := fun t kk => c14 t (st17 t kk)
  have c19 : Goes p e below s₁ (entryFrame m #[(.ref a1), (.ref a2), (.int p2)] 3) T17 (mkF m 18 #[.val (.ref a1), .val (.ref a2), .val (.int p2)] [(.int p2), (.ref a1)]) := by
    intro t kk
    refine c18 t ?_
    show Steps p.tables e below (T17.setTop (mkF m 16 #[.val (.ref a1), .val (.ref a2), .val (.int p2)] [])) t
    refine XS.aloadN X17.here hx rfl (hb hby d1_16) rfl rfl ?_
    show Steps p.tables e below (T17.setTop (mkF m 17 #[.val (.ref a1), .val (.ref a2), .val (.int p2)] [(.ref a1)])) t
    refine XS.iloadN X17.here hx rfl (hb hby d1_17) rfl ?_
    exact kk
  have f20 := ((F_unsigned.ext E9).other W17 (Or.inr (slot_ne (Or.inr (hw _ (List.mem_of_getElem? (i := 36) rfl))) (Or.inr (hw _ (List.mem_of_getElem? (i := 34) rfl))) (by decide) (t := .boolean) (t' := (.object "com/example/nextkey/nextkey/model/ColumnType$Int$Width")) (by decide) (by decide))))
  have f21 := (f16.wr W17)
  obtain ⟨T22, h22, X22, e22, W22, st22⟩ := putFN X17 hx hZ9 ho9 (hw _ (List.mem_of_getElem? (i := 35) rfl)) Via.refl e17 f20 f21 (Or.inr ⟨(hw _ (List.mem_of_getElem? (i := 36) rfl)), rfl, hnm⟩) (hw _ (List.mem_of_getElem? (i := 8) rfl)) (ty := .boolean) (v' := (.int (nar .boolean p2))) (by decide) rfl (fits_nar_bool _) (g := (mkF m 18 #[.val (.ref a1), .val (.ref a2), .val (.int p2)] [(.int p2), (.ref a1)])) rfl rfl (hb hby d1_18)
  have N22 := Fr.snoc X22 N17 g1
  have F22 := f20.same W22
  have c23 : Goes p e below s₁ (entryFrame m #[(.ref a1), (.ref a2), (.int p2)] 3) T22 (mkF m 21 #[.val (.ref a1), .val (.ref a2), .val (.int p2)] []) := fun t kk => c19 t (st22 t kk)
  have f24 := ((((Keep.refl h0 [a1]).ext E9).wr W17 (Or.inl (List.mem_of_getElem? (i := 0) rfl))).wr W22 (Or.inl (List.mem_of_getElem? (i := 0) rfl)))
  have f25 := (f21.wr W22)
  have f26 := (F17.other W22 (Or.inr (slot_ne (Or.inr (hw _ (List.mem_of_getElem? (i := 34) rfl))) (Or.inr (hw _ (List.mem_of_getElem? (i := 36) rfl))) (by decide) (t := (.object "com/example/nextkey/nextkey/model/ColumnType$Int$Width")) (t' := .boolean) (by decide) (by decide))))
  have f27 := (Nat.le_trans (Nat.le_trans hk9 (Keep.of_wr W17).1) (Keep.of_wr W22).1)
  obtain ⟨fs, hr, hrun, hended, hRW⟩ := X22.leaveW S9 (by rw [e22]; exact f27) (v := none) (fun _ => rfl)
  refine ⟨_, _, c23 _ ?_, hrun, hended, _, _, rfl, ?_, hRW.1, hRW.2.1, hRW.2.2.1, hRW.2.2.2.mono (by decide) (by decide)⟩
  · exact X22.returnOut hx Bd.returns (hb hby d1_21) hr
  · show Q_init Z a1 a2 p2 h0 n0 _ T22.heap _
    rw [e22]
    exact ⟨rfl, N22, f24, f25, f26, F22⟩
theorem d5_0 : decode prog_121_method_10_code 0 = .ok (.aload_n 0, 1) := by decide +kernel
theorem d5_1 : decode prog_121_method_10_code 1 = .ok (.getfield 20, 3) := by decide +kernel
theorem d5_4 : decode prog_121_method_10_code 4 = .ok (.ifCond .eq 13, 3) := by decide +kernel
theorem d5_7 : decode prog_121_method_10_code 7 = .ok (.aload_n 0, 1) := by decide +kernel
theorem d5_8 : decode prog_121_method_10_code 8 = .ok (.getfield 15, 3) := by decide +kernel
theorem d5_11 : decode prog_121_method_10_code 11 = .ok (.getfield 211, 3) := by decide +kernel
theorem d5_14 : decode prog_121_method_10_code 14 = .ok (.goto 10, 3) := by decide +kernel
theorem d5_17 : decode prog_121_method_10_code 17 = .ok (.aload_n 0, 1) := by decide +kernel
theorem d5_18 : decode prog_121_method_10_code 18 = .ok (.getfield 15, 3) := by decide +kernel
theorem d5_21 : decode prog_121_method_10_code 21 = .ok (.getfield 215, 3) := by decide +kernel
theorem d5_24 : decode prog_121_method_10_code 24 = .ok (.areturn, 1) := by decide +kernel
theorem ef_rt (m : MethodId) (x0 : Addr) : entryFrame m #[(.ref x0)] 1 = mkF m 0 #[.val (.ref x0)] [] := by (first | (simp [entryFrame, mkF, argsToLocals, Value.category]; done) | rfl)
def Q_rt (Z : State) (a1 : Addr) (a2 : Addr) (u1 : Int32) (rs : Addr) (ru : Addr) (h0 : Heap) (n0 : Nat) (v : Option Value) (h : Heap) (L : List Loc) : Prop := v = some (.ref (own_rt u1 rs ru)) ∧ Fr n0 L ∧ h = h0
set_option maxRecDepth 65536 in
set_option maxHeartbeats 40000000 in
theorem rm_rt (l : Launch) (Z : State) (a0 : Array Value) (hw : ∀ d ∈ tables_1, d.before a0 Z = true) (ws : List Jvm.Cond) (a1 : Addr) (a2 : Addr) (u1 : Int32) (rs : Addr) (ru : Addr) (h0 : Heap) (n0 : Nat) (Z0 : n0 ≤ h0.size) (Fu : Fld Z h0 a1 "com/example/nextkey/nextkey/model/ColumnType$Int" "unsigned" "Z" (.int u1)) (Fw : Fld Z h0 a1 "com/example/nextkey/nextkey/model/ColumnType$Int" "width" "Lcom/example/nextkey/nextkey/model/ColumnType$Int$Width;" (.ref a2)) (Fs : Fld Z h0 a2 "com/example/nextkey/nextkey/model/ColumnType$Int$Width" "signedType" "Lcom/example/nextkey/nextkey/model/ResultType;" (.ref rs)) (Ft : Fld Z h0 a2 "com/example/nextkey/nextkey/model/ColumnType$Int$Width" "unsignedType" "Lcom/example/nextkey/nextkey/model/ResultType;" (.ref ru)) :
    MetFree l (⟨"com/example/nextkey/nextkey/model/ColumnType$Int", "resultType", "()Lcom/example/nextkey/nextkey/model/ResultType;"⟩ : MethodName) (head1 (Jvm.Cond.code (⟨"com/example/nextkey/nextkey/model/ColumnType$Int", "resultType", "()Lcom/example/nextkey/nextkey/model/ResultType;"⟩ : MethodName) prog_121_method_10_code 1 (some (.object "com/example/nextkey/nextkey/model/ResultType")) :: ws) ({ frames := 0, cells := 0, slots := 0, locals := 0 } : Room)) (fun a U => a = #[(.ref a1)] ∧ Z.Warmed39 U.vm ∧ U.heap = h0) (fun _ _ _ _ _ => True) (fun _ U o U' => ∃ v L, o = .returned v ∧ Q_rt Z a1 a2 u1 rs ru h0 n0 v U'.heap L ∧ FrameEnd U o U' L ({ frames := 0, cells := 0, slots := 0, locals := 0 } : Room).cells ({ frames := 0, cells := 0, slots := 0, locals := 0 } : Room).slots) := by
  refine MetFree.of_bodySF (plainFor_of_name pn_1) hisR ?_
  intro p e s m args below meth c s₁ Bd hml0 hP hK
  obtain ⟨rfl, hZ, hh⟩ := hP
  have hx := Bd.exec
  have hby := Bd.bytes
  have hml : c.maxLocals = 1 := hml0
  have hown : s.vm.findClass "com/example/nextkey/nextkey/model/ColumnType$Int" = some m.cls := findClass_of_methodNamed Bd.named
  have hnm := (name_of_methodNamed Bd.named Bd.method).1
  have X0 : Stand p l e ({ frames := 0, cells := 0, slots := 0, locals := 0 } : Room) s m #[(.ref a1)] below meth c s₁ [] 0 0 := Stand.of_body Bd
  have e0 : s₁.heap = h0 := by rw [← hh, Bd.state]; rfl
  have N0 := Fr.nil n0
  have c0 : Goes p e below s₁ (entryFrame m #[(.ref a1)] 1) s₁ (mkF m 0 #[.val (.ref a1)] []) := fun t k => castTop (ef_rt m a1) k
  have c28 : Goes p e below s₁ (entryFrame m #[(.ref a1)] 1) s₁ (mkF m 1 #[.val (.ref a1)] [(.ref a1)]) := by
    intro t kk
    refine c0 t ?_
    show Steps p.tables e below (s₁.setTop (mkF m 0 #[.val (.ref a1)] [])) t
    refine XS.aloadN X0.here hx rfl (hb hby d5_0) rfl rfl ?_
    exact kk
  obtain ⟨T29, X29, e29, st29⟩ := getF X0 hx hZ hown (host := "") (Or.inl (hw _ (List.mem_of_getElem? (i := 35) rfl))) Via.refl e0 Fu (g := (mkF m 1 #[.val (.ref a1)] [(.ref a1)])) rfl rfl (hb hby d5_1)
  have c30 : Goes p e below s₁ (entryFrame m #[(.ref a1)] 1) T29 (mkF m 4 #[.val (.ref a1)] [(.int u1)]) := fun t kk => c28 t (st29 t kk)
  by_cases hc4_31 : u1 = (0 : Int32)
  · have c32 : Goes p e below s₁ (entryFrame m #[(.ref a1)] 1) T29 (mkF m 18 #[.val (.ref a1)] [(.ref a1)]) := by
      intro t kk
      refine c30 t ?_
      show Steps p.tables e below (T29.setTop (mkF m 4 #[.val (.ref a1)] [(.int u1)])) t
      refine XS.ifYes X29.here hx rfl (pc0 := 4) (pc' := 17) rfl (hb hby d5_4) rfl ((if0 _ _).trans (teq hc4_31).1) (by decide) (by decide) ?_
      show Steps p.tables e below (T29.setTop (mkF m 17 #[.val (.ref a1)] [])) t
      refine XS.aloadN X29.here hx rfl (hb hby d5_17) rfl rfl ?_
      exact kk
    obtain ⟨T33, X33, e33, st33⟩ := getF X29 hx hZ hown (host := "") (Or.inl (hw _ (List.mem_of_getElem? (i := 33) rfl))) Via.refl e29 Fw (g := (mkF m 18 #[.val (.ref a1)] [(.ref a1)])) rfl rfl (hb hby d5_18)
    have c34 : Goes p e below s₁ (entryFrame m #[(.ref a1)] 1) T33 (mkF m 21 #[.val (.ref a1)] [(.ref a2)]) := fun t kk => c32 t (st33 t kk)
    obtain ⟨T35, X35, e35, st35⟩ := getF X33 hx hZ hown (Or.inr (hw _ (List.mem_of_getElem? (i := 56) rfl))) Via.refl e33 Fs (g := (mkF m 21 #[.val (.ref a1)] [(.ref a2)])) rfl rfl (hb hby d5_21)
    have c36 : Goes p e below s₁ (entryFrame m #[(.ref a1)] 1) T35 (mkF m 24 #[.val (.ref a1)] [(.ref rs)]) := fun t kk => c34 t (st35 t kk)
    obtain ⟨fs, hr, hrun, hended, hW, hsame⟩ := X35.leave (v := some (.ref rs)) (fun h => by rw [Bd.returns] at h; cases h)
    refine ⟨_, _, c36 _ ?_, hrun, hended, _, _, rfl, ?_, ⟨_, rfl⟩, hW, hsame.mono (by decide) (by decide)⟩
    · exact retOut X35 hx Bd.returns rfl (Or.inr (Or.inr (Or.inr (Or.inr ⟨rfl, rfl, rfl⟩)))) (hb hby d5_24) hr
    · show Q_rt Z a1 a2 u1 rs ru h0 n0 _ T35.heap _
      rw [e35]
      exact ⟨by simp [own_rt, hc4_31], N0, rfl⟩
  · have c37 : Goes p e below s₁ (entryFrame m #[(.ref a1)] 1) T29 (mkF m 8 #[.val (.ref a1)] [(.ref a1)]) := by
      intro t kk
      refine c30 t ?_
      show Steps p.tables e below (T29.setTop (mkF m 4 #[.val (.ref a1)] [(.int u1)])) t
      refine XS.ifNo X29.here hx rfl (hb hby d5_4) rfl ((if0 _ _).trans (feq hc4_31).1) ?_
      show Steps p.tables e below (T29.setTop (mkF m 7 #[.val (.ref a1)] [])) t
      refine XS.aloadN X29.here hx rfl (hb hby d5_7) rfl rfl ?_
      exact kk
    obtain ⟨T38, X38, e38, st38⟩ := getF X29 hx hZ hown (host := "") (Or.inl (hw _ (List.mem_of_getElem? (i := 33) rfl))) Via.refl e29 Fw (g := (mkF m 8 #[.val (.ref a1)] [(.ref a1)])) rfl rfl (hb hby d5_8)
    have c39 : Goes p e below s₁ (entryFrame m #[(.ref a1)] 1) T38 (mkF m 11 #[.val (.ref a1)] [(.ref a2)]) := fun t kk => c37 t (st38 t kk)
    obtain ⟨T40, X40, e40, st40⟩ := getF X38 hx hZ hown (Or.inr (hw _ (List.mem_of_getElem? (i := 42) rfl))) Via.refl e38 Ft (g := (mkF m 11 #[.val (.ref a1)] [(.ref a2)])) rfl rfl (hb hby d5_11)
    have c41 : Goes p e below s₁ (entryFrame m #[(.ref a1)] 1) T40 (mkF m 14 #[.val (.ref a1)] [(.ref ru)]) := fun t kk => c39 t (st40 t kk)
    have c42 : Goes p e below s₁ (entryFrame m #[(.ref a1)] 1) T40 (mkF m 24 #[.val (.ref a1)] [(.ref ru)]) := by
      intro t kk
      refine c41 t ?_
      show Steps p.tables e below (T40.setTop (mkF m 14 #[.val (.ref a1)] [(.ref ru)])) t
      refine XS.goto X40.here hx rfl (pc0 := 14) (pc' := 24) rfl (hb hby d5_14) (by decide) (by decide) ?_
      exact kk
    obtain ⟨fs, hr, hrun, hended, hW, hsame⟩ := X40.leave (v := some (.ref ru)) (fun h => by rw [Bd.returns] at h; cases h)
    refine ⟨_, _, c42 _ ?_, hrun, hended, _, _, rfl, ?_, ⟨_, rfl⟩, hW, hsame.mono (by decide) (by decide)⟩
    · exact retOut X40 hx Bd.returns rfl (Or.inr (Or.inr (Or.inr (Or.inr ⟨rfl, rfl, rfl⟩)))) (hb hby d5_24) hr
    · show Q_rt Z a1 a2 u1 rs ru h0 n0 _ T40.heap _
      rw [e40]
      exact ⟨by simp [own_rt, hc4_31], N0, rfl⟩
theorem pn_0 : plainName "com/example/nextkey/nextkey/model/IntResultTypePinLaw" = true := by first | (simp [plainName, overriddenIn]; done) | decide +kernel
theorem pd__Lcom_example_nextkey_nextkey_model_ColumnType_Int_Width_Z_V : parseMethodDescriptor "(Lcom/example/nextkey/nextkey/model/ColumnType$Int$Width;Z)V" = some ⟨[(.object "com/example/nextkey/nextkey/model/ColumnType$Int$Width"), .boolean], none⟩ := by decide +kernel
theorem pd___Lcom_example_nextkey_nextkey_model_ResultType_ : parseMethodDescriptor "()Lcom/example/nextkey/nextkey/model/ResultType;" = some ⟨[], some (.object "com/example/nextkey/nextkey/model/ResultType")⟩ := by decide +kernel
theorem ef_law (m : MethodId) (x0 : Int32) (x1 : Int32) : entryFrame m #[(.int x0), (.int x1)] maxLocals = mkF m 0 #[.val (.int x0), .val (.int x1), .unset, .unset, .unset, .unset, .unset] [] := by (first | (simp [entryFrame, mkF, argsToLocals, Value.category, maxLocals]; done) | rfl)
def Q_law (Z : State) (p0 : Int32) (p1 : Int32) (w0 : Addr) (w1 : Addr) (w2 : Addr) (w3 : Addr) (w4 : Addr) (u0 : Addr) (u1 : Addr) (u2 : Addr) (u3 : Addr) (u4 : Addr) (s0 : Addr) (s1 : Addr) (s2 : Addr) (s3 : Addr) (s4 : Addr) (h0 : Heap) (n0 : Nat) (v : Option Value) (h : Heap) (L : List Loc) : Prop := v = some (.int 1) ∧ Fr n0 L
set_option maxRecDepth 65536 in
set_option maxHeartbeats 40000000 in
theorem rm_law (l : Launch) (Z : State) (a0 : Array Value) (hw : ∀ d ∈ tables_1, d.before a0 Z = true) (ws : List Jvm.Cond) (p0 : Int32) (p1 : Int32) (w0 : Addr) (w1 : Addr) (w2 : Addr) (w3 : Addr) (w4 : Addr) (u0 : Addr) (u1 : Addr) (u2 : Addr) (u3 : Addr) (u4 : Addr) (s0 : Addr) (s1 : Addr) (s2 : Addr) (s3 : Addr) (s4 : Addr) (h0 : Heap) (n0 : Nat) (Z0 : n0 ≤ h0.size) (O0 : Old Z n0 h0) (S_w0 : Sta Z Z.heap "com/example/nextkey/nextkey/model/ColumnType$Int$Width" "TINYINT" "Lcom/example/nextkey/nextkey/model/ColumnType$Int$Width;" (.ref w0)) (S_w1 : Sta Z Z.heap "com/example/nextkey/nextkey/model/ColumnType$Int$Width" "SMALLINT" "Lcom/example/nextkey/nextkey/model/ColumnType$Int$Width;" (.ref w1)) (S_w2 : Sta Z Z.heap "com/example/nextkey/nextkey/model/ColumnType$Int$Width" "MEDIUMINT" "Lcom/example/nextkey/nextkey/model/ColumnType$Int$Width;" (.ref w2)) (S_w3 : Sta Z Z.heap "com/example/nextkey/nextkey/model/ColumnType$Int$Width" "INT" "Lcom/example/nextkey/nextkey/model/ColumnType$Int$Width;" (.ref w3)) (S_w4 : Sta Z Z.heap "com/example/nextkey/nextkey/model/ColumnType$Int$Width" "BIGINT" "Lcom/example/nextkey/nextkey/model/ColumnType$Int$Width;" (.ref w4)) (S_u0 : Sta Z Z.heap "com/example/nextkey/nextkey/model/ResultType" "TINYINT_UNSIGNED" "Lcom/example/nextkey/nextkey/model/ResultType;" (.ref u0)) (S_u1 : Sta Z Z.heap "com/example/nextkey/nextkey/model/ResultType" "SMALLINT_UNSIGNED" "Lcom/example/nextkey/nextkey/model/ResultType;" (.ref u1)) (S_u2 : Sta Z Z.heap "com/example/nextkey/nextkey/model/ResultType" "MEDIUMINT_UNSIGNED" "Lcom/example/nextkey/nextkey/model/ResultType;" (.ref u2)) (S_u3 : Sta Z Z.heap "com/example/nextkey/nextkey/model/ResultType" "INT_UNSIGNED" "Lcom/example/nextkey/nextkey/model/ResultType;" (.ref u3)) (S_u4 : Sta Z Z.heap "com/example/nextkey/nextkey/model/ResultType" "BIGINT_UNSIGNED" "Lcom/example/nextkey/nextkey/model/ResultType;" (.ref u4)) (S_s0 : Sta Z Z.heap "com/example/nextkey/nextkey/model/ResultType" "TINYINT" "Lcom/example/nextkey/nextkey/model/ResultType;" (.ref s0)) (S_s1 : Sta Z Z.heap "com/example/nextkey/nextkey/model/ResultType" "SMALLINT" "Lcom/example/nextkey/nextkey/model/ResultType;" (.ref s1)) (S_s2 : Sta Z Z.heap "com/example/nextkey/nextkey/model/ResultType" "MEDIUMINT" "Lcom/example/nextkey/nextkey/model/ResultType;" (.ref s2)) (S_s3 : Sta Z Z.heap "com/example/nextkey/nextkey/model/ResultType" "INT" "Lcom/example/nextkey/nextkey/model/ResultType;" (.ref s3)) (S_s4 : Sta Z Z.heap "com/example/nextkey/nextkey/model/ResultType" "BIGINT" "Lcom/example/nextkey/nextkey/model/ResultType;" (.ref s4)) (Fs_0 : Fld Z Z.heap w0 "com/example/nextkey/nextkey/model/ColumnType$Int$Width" "signedType" "Lcom/example/nextkey/nextkey/model/ResultType;" (.ref s0)) (Fs_1 : Fld Z Z.heap w1 "com/example/nextkey/nextkey/model/ColumnType$Int$Width" "signedType" "Lcom/example/nextkey/nextkey/model/ResultType;" (.ref s1)) (Fs_2 : Fld Z Z.heap w2 "com/example/nextkey/nextkey/model/ColumnType$Int$Width" "signedType" "Lcom/example/nextkey/nextkey/model/ResultType;" (.ref s2)) (Fs_3 : Fld Z Z.heap w3 "com/example/nextkey/nextkey/model/ColumnType$Int$Width" "signedType" "Lcom/example/nextkey/nextkey/model/ResultType;" (.ref s3)) (Fs_4 : Fld Z Z.heap w4 "com/example/nextkey/nextkey/model/ColumnType$Int$Width" "signedType" "Lcom/example/nextkey/nextkey/model/ResultType;" (.ref s4)) (Ft_0 : Fld Z Z.heap w0 "com/example/nextkey/nextkey/model/ColumnType$Int$Width" "unsignedType" "Lcom/example/nextkey/nextkey/model/ResultType;" (.ref u0)) (Ft_1 : Fld Z Z.heap w1 "com/example/nextkey/nextkey/model/ColumnType$Int$Width" "unsignedType" "Lcom/example/nextkey/nextkey/model/ResultType;" (.ref u1)) (Ft_2 : Fld Z Z.heap w2 "com/example/nextkey/nextkey/model/ColumnType$Int$Width" "unsignedType" "Lcom/example/nextkey/nextkey/model/ResultType;" (.ref u2)) (Ft_3 : Fld Z Z.heap w3 "com/example/nextkey/nextkey/model/ColumnType$Int$Width" "unsignedType" "Lcom/example/nextkey/nextkey/model/ResultType;" (.ref u3)) (Ft_4 : Fld Z Z.heap w4 "com/example/nextkey/nextkey/model/ColumnType$Int$Width" "unsignedType" "Lcom/example/nextkey/nextkey/model/ResultType;" (.ref u4)) :
    MetFree l x (head1 (Jvm.Cond.code x code maxLocals ret :: ws) room_1) (fun a U => a = #[(.int p0), (.int p1)] ∧ Z.Warmed39 U.vm ∧ U.heap = h0) (fun _ _ _ _ _ => True) (fun _ U o U' => ∃ v L, o = .returned v ∧ Q_law Z p0 p1 w0 w1 w2 w3 w4 u0 u1 u2 u3 u4 s0 s1 s2 s3 s4 h0 n0 v U'.heap L ∧ ReturnedEndW U o U' L 3 26) := by
  refine MetFree.of_bodySF (plainFor_of_name pn_0) hisR ?_
  intro p e s m args below meth c s₁ Bd hml0 hP hK
  obtain ⟨rfl, hZ, hh⟩ := hP
  have hx := Bd.exec
  have hby := Bd.bytes
  have hml : c.maxLocals = 7 := hml0
  have hown : s.vm.findClass "com/example/nextkey/nextkey/model/IntResultTypePinLaw" = some m.cls := findClass_of_methodNamed Bd.named
  have hnm := (name_of_methodNamed Bd.named Bd.method).1
  have X0 : Stand p l e room_1 s m #[(.int p0), (.int p1)] below meth c s₁ [] 0 0 := Stand.of_body Bd
  have e0 : s₁.heap = h0 := by rw [← hh, Bd.state]; rfl
  have N0 := Fr.nil n0
  have c0 : Goes p e below s₁ (entryFrame m #[(.int p0), (.int p1)] maxLocals) s₁ (mkF m 0 #[.val (.int p0), .val (.int p1), .unset, .unset, .unset, .unset, .unset] []) := fun t k => castTop (ef_law m p0 p1) k
  have XW0 : Stand p l e room_1 (s.setVm s.vm) m #[(.int p0), (.int p1)] below meth c s₁ [] 0 0 := X0
  have SW0 : s.Since s.vm 0 := (State.WarmedH.refl s).since 0
  have c43 : Goes p e below s₁ (entryFrame m #[(.int p0), (.int p1)] maxLocals) s₁ (mkF m 10 #[.val (.int p0), .val (.int p1), .val (.int ((p0 &&& (2147483647 : Int32)) % (5 : Int32))), .unset, .unset, .unset, .unset] [(.int (p1 &&& (1 : Int32)))]) := by
    intro t kk
    refine c0 t ?_
    show Steps p.tables e below (s₁.setTop (mkF m 0 #[.val (.int p0), .val (.int p1), .unset, .unset, .unset, .unset, .unset] [])) t
    refine XS.iloadN XW0.here hx rfl (hb hby at_0) rfl ?_
    show Steps p.tables e below (s₁.setTop (mkF m 1 #[.val (.int p0), .val (.int p1), .unset, .unset, .unset, .unset, .unset] [(.int p0)])) t
    refine XW0.ldcInt hx hown (mvT hZ (hw _ (List.mem_of_getElem? (i := 0) rfl))) (g := (mkF m 1 #[.val (.int p0), .val (.int p1), .unset, .unset, .unset, .unset, .unset] [(.int p0)])) rfl (hb hby at_1) _ ?_
    show Steps p.tables e below (s₁.setTop (mkF m 3 #[.val (.int p0), .val (.int p1), .unset, .unset, .unset, .unset, .unset] [(.int (2147483647 : Int32)), (.int p0)])) t
    refine XS.iand XW0.here hx rfl (hb hby at_3) rfl ?_
    show Steps p.tables e below (s₁.setTop (mkF m 4 #[.val (.int p0), .val (.int p1), .unset, .unset, .unset, .unset, .unset] [(.int (p0 &&& (2147483647 : Int32)))])) t
    refine XS.iconst XW0.here hx rfl (hb hby at_4) ?_
    show Steps p.tables e below (s₁.setTop (mkF m 5 #[.val (.int p0), .val (.int p1), .unset, .unset, .unset, .unset, .unset] [(.int (5 : Int32)), (.int (p0 &&& (2147483647 : Int32)))])) t
    refine iremM XW0 hx rfl (hb hby at_5) rfl (by decide) ?_
    show Steps p.tables e below (s₁.setTop (mkF m 6 #[.val (.int p0), .val (.int p1), .unset, .unset, .unset, .unset, .unset] [(.int ((p0 &&& (2147483647 : Int32)) % (5 : Int32)))])) t
    refine XS.istoreN XW0.here hx rfl (hb hby at_6) rfl (l' := #[.val (.int p0), .val (.int p1), .val (.int ((p0 &&& (2147483647 : Int32)) % (5 : Int32))), .unset, .unset, .unset, .unset]) rfl ?_
    show Steps p.tables e below (s₁.setTop (mkF m 7 #[.val (.int p0), .val (.int p1), .val (.int ((p0 &&& (2147483647 : Int32)) % (5 : Int32))), .unset, .unset, .unset, .unset] [])) t
    refine XS.iloadN XW0.here hx rfl (hb hby at_7) rfl ?_
    show Steps p.tables e below (s₁.setTop (mkF m 8 #[.val (.int p0), .val (.int p1), .val (.int ((p0 &&& (2147483647 : Int32)) % (5 : Int32))), .unset, .unset, .unset, .unset] [(.int p1)])) t
    refine XS.iconst XW0.here hx rfl (hb hby at_8) ?_
    show Steps p.tables e below (s₁.setTop (mkF m 9 #[.val (.int p0), .val (.int p1), .val (.int ((p0 &&& (2147483647 : Int32)) % (5 : Int32))), .unset, .unset, .unset, .unset] [(.int (1 : Int32)), (.int p1)])) t
    refine XS.iand XW0.here hx rfl (hb hby at_9) rfl ?_
    exact kk
  obtain ⟨b3, hm44, c44⟩ : ∃ b3 : Int32, (b3 = 0 ∨ b3 = 1) ∧ Goes p e below s₁ (entryFrame m #[(.int p0), (.int p1)] maxLocals) s₁ (mkF m 18 #[.val (.int p0), .val (.int p1), .val (.int ((p0 &&& (2147483647 : Int32)) % (5 : Int32))), .unset, .unset, .unset, .unset] [(.int b3)]) := by
    by_cases hc10_45 : (p1 &&& (1 : Int32)) = (0 : Int32)
    · have c46 : Goes p e below s₁ (entryFrame m #[(.int p0), (.int p1)] maxLocals) s₁ (mkF m 18 #[.val (.int p0), .val (.int p1), .val (.int ((p0 &&& (2147483647 : Int32)) % (5 : Int32))), .unset, .unset, .unset, .unset] [(.int (0 : Int32))]) := by
        intro t kk
        refine c43 t ?_
        show Steps p.tables e below (s₁.setTop (mkF m 10 #[.val (.int p0), .val (.int p1), .val (.int ((p0 &&& (2147483647 : Int32)) % (5 : Int32))), .unset, .unset, .unset, .unset] [(.int (p1 &&& (1 : Int32)))])) t
        refine XS.ifYes XW0.here hx rfl (pc0 := 10) (pc' := 17) rfl (hb hby at_10) rfl ((if0 _ _).trans (teq hc10_45).1) (by decide) (by decide) ?_
        show Steps p.tables e below (s₁.setTop (mkF m 17 #[.val (.int p0), .val (.int p1), .val (.int ((p0 &&& (2147483647 : Int32)) % (5 : Int32))), .unset, .unset, .unset, .unset] [])) t
        refine XS.iconst XW0.here hx rfl (hb hby at_17) ?_
        exact kk
      exact ⟨(0 : Int32), (Or.inl rfl), c46⟩
    · have c47 : Goes p e below s₁ (entryFrame m #[(.int p0), (.int p1)] maxLocals) s₁ (mkF m 18 #[.val (.int p0), .val (.int p1), .val (.int ((p0 &&& (2147483647 : Int32)) % (5 : Int32))), .unset, .unset, .unset, .unset] [(.int (1 : Int32))]) := by
        intro t kk
        refine c43 t ?_
        show Steps p.tables e below (s₁.setTop (mkF m 10 #[.val (.int p0), .val (.int p1), .val (.int ((p0 &&& (2147483647 : Int32)) % (5 : Int32))), .unset, .unset, .unset, .unset] [(.int (p1 &&& (1 : Int32)))])) t
        refine XS.ifNo XW0.here hx rfl (hb hby at_10) rfl ((if0 _ _).trans (feq hc10_45).1) ?_
        show Steps p.tables e below (s₁.setTop (mkF m 13 #[.val (.int p0), .val (.int p1), .val (.int ((p0 &&& (2147483647 : Int32)) % (5 : Int32))), .unset, .unset, .unset, .unset] [])) t
        refine XS.iconst XW0.here hx rfl (hb hby at_13) ?_
        show Steps p.tables e below (s₁.setTop (mkF m 14 #[.val (.int p0), .val (.int p1), .val (.int ((p0 &&& (2147483647 : Int32)) % (5 : Int32))), .unset, .unset, .unset, .unset] [(.int (1 : Int32))])) t
        refine XS.goto XW0.here hx rfl (pc0 := 14) (pc' := 18) rfl (hb hby at_14) (by decide) (by decide) ?_
        exact kk
      exact ⟨(1 : Int32), (Or.inr rfl), c47⟩
  have c48 : Goes p e below s₁ (entryFrame m #[(.int p0), (.int p1)] maxLocals) s₁ (mkF m 20 #[.val (.int p0), .val (.int p1), .val (.int ((p0 &&& (2147483647 : Int32)) % (5 : Int32))), .val (.int b3), .unset, .unset, .unset] [(.int ((p0 &&& (2147483647 : Int32)) % (5 : Int32)))]) := by
    intro t kk
    refine c44 t ?_
    show Steps p.tables e below (s₁.setTop (mkF m 18 #[.val (.int p0), .val (.int p1), .val (.int ((p0 &&& (2147483647 : Int32)) % (5 : Int32))), .unset, .unset, .unset, .unset] [(.int b3)])) t
    refine XS.istoreN XW0.here hx rfl (hb hby at_18) rfl (l' := #[.val (.int p0), .val (.int p1), .val (.int ((p0 &&& (2147483647 : Int32)) % (5 : Int32))), .val (.int b3), .unset, .unset, .unset]) rfl ?_
    show Steps p.tables e below (s₁.setTop (mkF m 19 #[.val (.int p0), .val (.int p1), .val (.int ((p0 &&& (2147483647 : Int32)) % (5 : Int32))), .val (.int b3), .unset, .unset, .unset] [])) t
    refine XS.iloadN XW0.here hx rfl (hb hby at_19) rfl ?_
    exact kk
  by_cases hc20_49 : ((p0 &&& (2147483647 : Int32)) % (5 : Int32)) = (0 : Int32)
  · have c50 : Goes p e below s₁ (entryFrame m #[(.int p0), (.int p1)] maxLocals) s₁ (mkF m 23 #[.val (.int p0), .val (.int p1), .val (.int ((p0 &&& (2147483647 : Int32)) % (5 : Int32))), .val (.int b3), .unset, .unset, .unset] []) := by
      intro t kk
      refine c48 t ?_
      show Steps p.tables e below (s₁.setTop (mkF m 20 #[.val (.int p0), .val (.int p1), .val (.int ((p0 &&& (2147483647 : Int32)) % (5 : Int32))), .val (.int b3), .unset, .unset, .unset] [(.int ((p0 &&& (2147483647 : Int32)) % (5 : Int32)))])) t
      refine XS.ifNo XW0.here hx rfl (hb hby at_20) rfl ((if0 _ _).trans (teq hc20_49).2) ?_
      exact kk
    obtain ⟨T51, X51, e51, st51⟩ := getS2 XW0 hx hZ hown (host := "") (Or.inl (hw _ (List.mem_of_getElem? (i := 1) rfl))) Via.refl e0 (S_w0.ext O0.2) (g := (mkF m 23 #[.val (.int p0), .val (.int p1), .val (.int ((p0 &&& (2147483647 : Int32)) % (5 : Int32))), .val (.int b3), .unset, .unset, .unset] [])) rfl (hb hby at_23)
    have c52 : Goes p e below s₁ (entryFrame m #[(.int p0), (.int p1)] maxLocals) T51 (mkF m 26 #[.val (.int p0), .val (.int p1), .val (.int ((p0 &&& (2147483647 : Int32)) % (5 : Int32))), .val (.int b3), .unset, .unset, .unset] [(.ref w0)]) := fun t kk => c50 t (st51 t kk)
    have c53 : Goes p e below s₁ (entryFrame m #[(.int p0), (.int p1)] maxLocals) T51 (mkF m 29 #[.val (.int p0), .val (.int p1), .val (.int ((p0 &&& (2147483647 : Int32)) % (5 : Int32))), .val (.int b3), .val (.ref w0), .unset, .unset] [(.int b3)]) := by
      intro t kk
      refine c52 t ?_
      show Steps p.tables e below (T51.setTop (mkF m 26 #[.val (.int p0), .val (.int p1), .val (.int ((p0 &&& (2147483647 : Int32)) % (5 : Int32))), .val (.int b3), .unset, .unset, .unset] [(.ref w0)])) t
      refine XS.astore X51.here hx rfl (hb hby at_26) rfl rfl (l' := #[.val (.int p0), .val (.int p1), .val (.int ((p0 &&& (2147483647 : Int32)) % (5 : Int32))), .val (.int b3), .val (.ref w0), .unset, .unset]) rfl ?_
      show Steps p.tables e below (T51.setTop (mkF m 28 #[.val (.int p0), .val (.int p1), .val (.int ((p0 &&& (2147483647 : Int32)) % (5 : Int32))), .val (.int b3), .val (.ref w0), .unset, .unset] [])) t
      refine XS.iloadN X51.here hx rfl (hb hby at_28) rfl ?_
      exact kk
    by_cases hc29_54 : b3 = (0 : Int32)
    · have c55 : Goes p e below s₁ (entryFrame m #[(.int p0), (.int p1)] maxLocals) T51 (mkF m 38 #[.val (.int p0), .val (.int p1), .val (.int ((p0 &&& (2147483647 : Int32)) % (5 : Int32))), .val (.int b3), .val (.ref w0), .unset, .unset] []) := by
        intro t kk
        refine c53 t ?_
        show Steps p.tables e below (T51.setTop (mkF m 29 #[.val (.int p0), .val (.int p1), .val (.int ((p0 &&& (2147483647 : Int32)) % (5 : Int32))), .val (.int b3), .val (.ref w0), .unset, .unset] [(.int b3)])) t
        refine XS.ifYes X51.here hx rfl (pc0 := 29) (pc' := 38) rfl (hb hby at_29) rfl ((if0 _ _).trans (teq hc29_54).1) (by decide) (by decide) ?_
        exact kk
      obtain ⟨T56, X56, e56, st56⟩ := getS2 X51 hx hZ hown (host := "") (Or.inl (hw _ (List.mem_of_getElem? (i := 68) rfl))) Via.refl e51 (S_s0.ext O0.2) (g := (mkF m 38 #[.val (.int p0), .val (.int p1), .val (.int ((p0 &&& (2147483647 : Int32)) % (5 : Int32))), .val (.int b3), .val (.ref w0), .unset, .unset] [])) rfl (hb hby at_38)
      have c57 : Goes p e below s₁ (entryFrame m #[(.int p0), (.int p1)] maxLocals) T56 (mkF m 41 #[.val (.int p0), .val (.int p1), .val (.int ((p0 &&& (2147483647 : Int32)) % (5 : Int32))), .val (.int b3), .val (.ref w0), .unset, .unset] [(.ref s0)]) := fun t kk => c55 t (st56 t kk)
      have c58 : Goes p e below s₁ (entryFrame m #[(.int p0), (.int p1)] maxLocals) T56 (mkF m 150 #[.val (.int p0), .val (.int p1), .val (.int ((p0 &&& (2147483647 : Int32)) % (5 : Int32))), .val (.int b3), .val (.ref w0), .val (.ref s0), .unset] []) := by
        intro t kk
        refine c57 t ?_
        show Steps p.tables e below (T56.setTop (mkF m 41 #[.val (.int p0), .val (.int p1), .val (.int ((p0 &&& (2147483647 : Int32)) % (5 : Int32))), .val (.int b3), .val (.ref w0), .unset, .unset] [(.ref s0)])) t
        refine XS.astore X56.here hx rfl (hb hby at_41) rfl rfl (l' := #[.val (.int p0), .val (.int p1), .val (.int ((p0 &&& (2147483647 : Int32)) % (5 : Int32))), .val (.int b3), .val (.ref w0), .val (.ref s0), .unset]) rfl ?_
        show Steps p.tables e below (T56.setTop (mkF m 43 #[.val (.int p0), .val (.int p1), .val (.int ((p0 &&& (2147483647 : Int32)) % (5 : Int32))), .val (.int b3), .val (.ref w0), .val (.ref s0), .unset] [])) t
        refine XS.goto X56.here hx rfl (pc0 := 43) (pc' := 150) rfl (hb hby at_43) (by decide) (by decide) ?_
        exact kk
      obtain ⟨T59, h59, X59, e59, E59, A59, D59, -, st59⟩ := newO X56 hx hZ hown (hw _ (List.mem_of_getElem? (i := 7) rfl)) (hw _ (List.mem_of_getElem? (i := 8) rfl)) (hw _ (List.mem_of_getElem? (i := 9) rfl)) e56 (g := (mkF m 150 #[.val (.int p0), .val (.int p1), .val (.int ((p0 &&& (2147483647 : Int32)) % (5 : Int32))), .val (.int b3), .val (.ref w0), .val (.ref s0), .unset] [])) rfl (hb hby at_150) (by decide) (by decide)
      obtain ⟨b59, g59⟩ : ∃ z, z = h0.size := ⟨_, rfl⟩
      rw [← g59] at A59 D59 st59
      have gb59 : n0 ≤ b59 := Nat.le_trans Z0 (Nat.le_of_eq g59.symm)
      have F_width_b59 : Fld Z h59 b59 "com/example/nextkey/nextkey/model/ColumnType$Int" "width" "Lcom/example/nextkey/nextkey/model/ColumnType$Int$Width;" .null := D59 (Or.inr (hw _ (List.mem_of_getElem? (i := 34) rfl))) (ty := (.object "com/example/nextkey/nextkey/model/ColumnType$Int$Width")) (by decide)
      have F_unsigned_b59 : Fld Z h59 b59 "com/example/nextkey/nextkey/model/ColumnType$Int" "unsigned" "Z" (.int (0 : Int32)) := D59 (Or.inr (hw _ (List.mem_of_getElem? (i := 36) rfl))) (ty := .boolean) (by decide)
      have c60 : Goes p e below s₁ (entryFrame m #[(.int p0), (.int p1)] maxLocals) T59 (mkF m 153 #[.val (.int p0), .val (.int p1), .val (.int ((p0 &&& (2147483647 : Int32)) % (5 : Int32))), .val (.int b3), .val (.ref w0), .val (.ref s0), .unset] [(.ref b59)]) := fun t kk => c58 t (st59 t kk)
      have f61 := (Nat.le_trans Z0 E59.1)
      have c62 : Goes p e below s₁ (entryFrame m #[(.int p0), (.int p1)] maxLocals) T59 (mkF m 157 #[.val (.int p0), .val (.int p1), .val (.int ((p0 &&& (2147483647 : Int32)) % (5 : Int32))), .val (.int b3), .val (.ref w0), .val (.ref s0), .unset] [(.int b3), (.ref w0), (.ref b59), (.ref b59)]) := by
        intro t kk
        refine c60 t ?_
        show Steps p.tables e below (T59.setTop (mkF m 153 #[.val (.int p0), .val (.int p1), .val (.int ((p0 &&& (2147483647 : Int32)) % (5 : Int32))), .val (.int b3), .val (.ref w0), .val (.ref s0), .unset] [(.ref b59)])) t
        refine XS.dup X59.here hx rfl (hb hby at_153) rfl rfl ?_
        show Steps p.tables e below (T59.setTop (mkF m 154 #[.val (.int p0), .val (.int p1), .val (.int ((p0 &&& (2147483647 : Int32)) % (5 : Int32))), .val (.int b3), .val (.ref w0), .val (.ref s0), .unset] [(.ref b59), (.ref b59)])) t
        refine XS.aload X59.here hx rfl (hb hby at_154) rfl rfl ?_
        show Steps p.tables e below (T59.setTop (mkF m 156 #[.val (.int p0), .val (.int p1), .val (.int ((p0 &&& (2147483647 : Int32)) % (5 : Int32))), .val (.int b3), .val (.ref w0), .val (.ref s0), .unset] [(.ref w0), (.ref b59), (.ref b59)])) t
        refine XS.iloadN X59.here hx rfl (hb hby at_156) rfl ?_
        exact kk
      obtain ⟨_, _, ⟨T63, L63, k63, n63⟩, -, XX63, SS63, gr63, ⟨Lc63, hQ63, l63, y63, z63⟩, st63⟩ := X59.specialBackS hx (y := (⟨"com/example/nextkey/nextkey/model/ColumnType$Int", "<init>", "(Lcom/example/nextkey/nextkey/model/ColumnType$Int$Width;Z)V"⟩ : MethodName)) rfl hown (mvT hZ (hw _ (List.mem_of_getElem? (i := 10) rfl))) (mvT hZ (hw _ (List.mem_of_getElem? (i := 11) rfl))) (mvT hZ (hw _ (List.mem_of_getElem? (i := 12) rfl))) (by decide) (backOfS (W := 1) (rm_init l Z a0 hw [] b59 w0 b3 h59 n0 f61 F_width_b59 F_unsigned_b59 A59 gb59) hZ (hw _ (List.mem_of_getElem? (i := 12) rfl)) (hw _ (List.mem_of_getElem? (i := 9) rfl)) (by decide) (by decide)) (g := (mkF m 157 #[.val (.int p0), .val (.int p1), .val (.int ((p0 &&& (2147483647 : Int32)) % (5 : Int32))), .val (.int b3), .val (.ref w0), .val (.ref s0), .unset] [(.int b3), (.ref w0), (.ref b59), (.ref b59)])) rfl (by rw [hml]; rfl) (Steps.refl _) (a := b59) (argsL := [(.ref w0), (.int b3)]) (rest := [(.ref b59)]) (lenOf pd__Lcom_example_nextkey_nextkey_model_ColumnType_Int_Width_Z_V rfl) rfl (by show 2 * 0 + _ ≤ _; exact Nat.le_of_eq rfl) (hb hby at_157) (fun _ _ => ⟨rfl, e59, (by decide : 1 + 2 ≤ _), (by decide : 2 + 24 ≤ _)⟩)
      have f64 := (Nat.le_trans (Nat.zero_le _) E59.1)
      obtain ⟨X63, S63, hZ63, ho63⟩ := rebS SW0 (by rw [e59]; exact f64 : _ ≤ T59.heap.size) XX63 SS63 gr63 hZ hown
      dsimp only [Pt.U, Pt.locs, Pt.cells, Pt.slots] at S63 hZ63 ho63 X63 l63 y63 z63 st63 hQ63
      subst l63 y63 z63
      obtain ⟨rfl, Nq63, Kq63, Eq63, Fq63_1, Fq63_2⟩ := hQ63
      have N63 := Fr.app N0 Nq63
      have c65 : Goes p e below s₁ (entryFrame m #[(.int p0), (.int p1)] maxLocals) T63 (mkF m 160 #[.val (.int p0), .val (.int p1), .val (.int ((p0 &&& (2147483647 : Int32)) % (5 : Int32))), .val (.int b3), .val (.ref w0), .val (.ref s0), .unset] [(.ref b59)]) := fun t kk => c62 t (st63.trans kk)
      have f66 := ((O0.ext E59).keep Kq63 (allS gb59 all0))
      have f67 := (Nat.le_trans f61 Kq63.1)
      have c68 : Goes p e below s₁ (entryFrame m #[(.int p0), (.int p1)] maxLocals) T63 (mkF m 164 #[.val (.int p0), .val (.int p1), .val (.int ((p0 &&& (2147483647 : Int32)) % (5 : Int32))), .val (.int b3), .val (.ref w0), .val (.ref s0), .val (.ref b59)] [(.ref b59)]) := by
        intro t kk
        refine c65 t ?_
        show Steps p.tables e below (T63.setTop (mkF m 160 #[.val (.int p0), .val (.int p1), .val (.int ((p0 &&& (2147483647 : Int32)) % (5 : Int32))), .val (.int b3), .val (.ref w0), .val (.ref s0), .unset] [(.ref b59)])) t
        refine XS.astore X63.here hx rfl (hb hby at_160) rfl rfl (l' := #[.val (.int p0), .val (.int p1), .val (.int ((p0 &&& (2147483647 : Int32)) % (5 : Int32))), .val (.int b3), .val (.ref w0), .val (.ref s0), .val (.ref b59)]) rfl ?_
        show Steps p.tables e below (T63.setTop (mkF m 162 #[.val (.int p0), .val (.int p1), .val (.int ((p0 &&& (2147483647 : Int32)) % (5 : Int32))), .val (.int b3), .val (.ref w0), .val (.ref s0), .val (.ref b59)] [])) t
        refine XS.aload X63.here hx rfl (hb hby at_162) rfl rfl ?_
        exact kk
      obtain ⟨cq69, kq69, q69a, q69b, q69c⟩ := isOf hZ63 rfl Eq63
      obtain ⟨_, _, ⟨T69, L69, k69, n69⟩, -, X69, ⟨Lc69, hQ69, l69, y69, z69⟩, st69⟩ := X63.virtualBack hx (y := (⟨"com/example/nextkey/nextkey/model/ColumnType$Int", "resultType", "()Lcom/example/nextkey/nextkey/model/ResultType;"⟩ : MethodName)) (z := (⟨"com/example/nextkey/nextkey/model/ColumnType$Int", "resultType", "()Lcom/example/nextkey/nextkey/model/ResultType;"⟩ : MethodName)) ho63 (mvT hZ63 (hw _ (List.mem_of_getElem? (i := 37) rfl))) (mvT hZ63 (hw _ (List.mem_of_getElem? (i := 38) rfl))) (notFace_of_selects (args := #[]) (mvT hZ63 (hw _ (List.mem_of_getElem? (i := 40) rfl)))) (mvT hZ63 (hw _ (List.mem_of_getElem? (i := 40) rfl))) (mvT hZ63 (hw _ (List.mem_of_getElem? (i := 39) rfl))) (by decide) (backOf (W := 0) (rm_rt l Z a0 hw [] b59 w0 (nar .boolean b3) s0 u0 T63.heap n0 f67 Fq63_2 Fq63_1 (Fs_0.ext f66.2) (Ft_0.ext f66.2)) hZ63 (hw _ (List.mem_of_getElem? (i := 41) rfl)) (hw _ (List.mem_of_getElem? (i := 9) rfl)) (by decide) (by decide)) q69a q69c (g := (mkF m 164 #[.val (.int p0), .val (.int p1), .val (.int ((p0 &&& (2147483647 : Int32)) % (5 : Int32))), .val (.int b3), .val (.ref w0), .val (.ref s0), .val (.ref b59)] [(.ref b59)])) rfl (by rw [hml]; rfl) (Steps.refl _) (argsL := []) (rest := []) (lenOf pd___Lcom_example_nextkey_nextkey_model_ResultType_ rfl) rfl (by show 2 * 0 + _ ≤ _; exact Nat.le_of_eq rfl) (hb hby at_164) (fun _ _ => ⟨rfl, rfl, (by decide : 3 + 0 ≤ _), (by decide : 26 + 0 ≤ _)⟩)
      dsimp only [Pt.U, Pt.locs, Pt.cells, Pt.slots] at X69 l69 y69 z69 st69 hQ69
      subst l69 y69 z69
      obtain ⟨rfl, Nq69, eq69⟩ := hQ69
      have N69 := Fr.app N63 Nq69
      have c70 : Goes p e below s₁ (entryFrame m #[(.int p0), (.int p1)] maxLocals) T69 (mkF m 167 #[.val (.int p0), .val (.int p1), .val (.int ((p0 &&& (2147483647 : Int32)) % (5 : Int32))), .val (.int b3), .val (.ref w0), .val (.ref s0), .val (.ref b59)] [(.ref (own_rt (nar .boolean b3) s0 u0))]) := fun t kk => c68 t (st69.trans kk)
      have c71 : Goes p e below s₁ (entryFrame m #[(.int p0), (.int p1)] maxLocals) T69 (mkF m 177 #[.val (.int p0), .val (.int p1), .val (.int ((p0 &&& (2147483647 : Int32)) % (5 : Int32))), .val (.int b3), .val (.ref w0), .val (.ref s0), .val (.ref b59)] [(.int (1 : Int32))]) := by
        intro t kk
        refine c70 t ?_
        show Steps p.tables e below (T69.setTop (mkF m 167 #[.val (.int p0), .val (.int p1), .val (.int ((p0 &&& (2147483647 : Int32)) % (5 : Int32))), .val (.int b3), .val (.ref w0), .val (.ref s0), .val (.ref b59)] [(.ref (own_rt (nar .boolean b3) s0 u0))])) t
        refine XS.aload X69.here hx rfl (hb hby at_167) rfl rfl ?_
        show Steps p.tables e below (T69.setTop (mkF m 169 #[.val (.int p0), .val (.int p1), .val (.int ((p0 &&& (2147483647 : Int32)) % (5 : Int32))), .val (.int b3), .val (.ref w0), .val (.ref s0), .val (.ref b59)] [(.ref s0), (.ref (own_rt (nar .boolean b3) s0 u0))])) t
        refine Jvm.RoadKit.acmp (g := (mkF m 169 #[.val (.int p0), .val (.int p1), .val (.int ((p0 &&& (2147483647 : Int32)) % (5 : Int32))), .val (.int b3), .val (.ref w0), .val (.ref s0), .val (.ref b59)] [(.ref s0), (.ref (own_rt (nar .boolean b3) s0 u0))])) X69 hx rfl rfl rfl (pc0 := 169) (pc' := 172) (same := true) rfl (hb hby at_169) rfl (decide_eq_true (congrArg Value.ref (own_rt0 hc29_54))) (by decide) (by decide) ?_
        show Steps p.tables e below (T69.setTop (mkF m 172 #[.val (.int p0), .val (.int p1), .val (.int ((p0 &&& (2147483647 : Int32)) % (5 : Int32))), .val (.int b3), .val (.ref w0), .val (.ref s0), .val (.ref b59)] [])) t
        refine XS.iconst X69.here hx rfl (hb hby at_172) ?_
        show Steps p.tables e below (T69.setTop (mkF m 173 #[.val (.int p0), .val (.int p1), .val (.int ((p0 &&& (2147483647 : Int32)) % (5 : Int32))), .val (.int b3), .val (.ref w0), .val (.ref s0), .val (.ref b59)] [(.int (1 : Int32))])) t
        refine XS.goto X69.here hx rfl (pc0 := 173) (pc' := 177) rfl (hb hby at_173) (by decide) (by decide) ?_
        exact kk
      obtain ⟨fs, hr, hrun, hended, hRW⟩ := X69.leaveW S63 (by rw [eq69]; exact (Nat.le_refl _)) (v := some (.int (1 : Int32))) (fun h => by rw [Bd.returns] at h; cases h)
      refine ⟨_, _, c71 _ ?_, hrun, hended, _, _, rfl, ?_, hRW.1, hRW.2.1, hRW.2.2.1, hRW.2.2.2.mono (by decide) (by decide)⟩
      · exact retN X69 hx (t := .boolean) Bd.returns (by simp) (hb hby at_177) hr
      · show Q_law Z p0 p1 w0 w1 w2 w3 w4 u0 u1 u2 u3 u4 s0 s1 s2 s3 s4 h0 n0 _ T69.heap _
        rw [eq69]
        exact ⟨rfl, N69⟩
    · have c72 : Goes p e below s₁ (entryFrame m #[(.int p0), (.int p1)] maxLocals) T51 (mkF m 32 #[.val (.int p0), .val (.int p1), .val (.int ((p0 &&& (2147483647 : Int32)) % (5 : Int32))), .val (.int b3), .val (.ref w0), .unset, .unset] []) := by
        intro t kk
        refine c53 t ?_
        show Steps p.tables e below (T51.setTop (mkF m 29 #[.val (.int p0), .val (.int p1), .val (.int ((p0 &&& (2147483647 : Int32)) % (5 : Int32))), .val (.int b3), .val (.ref w0), .unset, .unset] [(.int b3)])) t
        refine XS.ifNo X51.here hx rfl (hb hby at_29) rfl ((if0 _ _).trans (feq hc29_54).1) ?_
        exact kk
      obtain ⟨T73, X73, e73, st73⟩ := getS2 X51 hx hZ hown (host := "") (Or.inl (hw _ (List.mem_of_getElem? (i := 4) rfl))) Via.refl e51 (S_u0.ext O0.2) (g := (mkF m 32 #[.val (.int p0), .val (.int p1), .val (.int ((p0 &&& (2147483647 : Int32)) % (5 : Int32))), .val (.int b3), .val (.ref w0), .unset, .unset] [])) rfl (hb hby at_32)
      have c74 : Goes p e below s₁ (entryFrame m #[(.int p0), (.int p1)] maxLocals) T73 (mkF m 35 #[.val (.int p0), .val (.int p1), .val (.int ((p0 &&& (2147483647 : Int32)) % (5 : Int32))), .val (.int b3), .val (.ref w0), .unset, .unset] [(.ref u0)]) := fun t kk => c72 t (st73 t kk)
      have c75 : Goes p e below s₁ (entryFrame m #[(.int p0), (.int p1)] maxLocals) T73 (mkF m 150 #[.val (.int p0), .val (.int p1), .val (.int ((p0 &&& (2147483647 : Int32)) % (5 : Int32))), .val (.int b3), .val (.ref w0), .val (.ref u0), .unset] []) := by
        intro t kk
        refine c74 t ?_
        show Steps p.tables e below (T73.setTop (mkF m 35 #[.val (.int p0), .val (.int p1), .val (.int ((p0 &&& (2147483647 : Int32)) % (5 : Int32))), .val (.int b3), .val (.ref w0), .unset, .unset] [(.ref u0)])) t
        refine XS.goto X73.here hx rfl (pc0 := 35) (pc' := 41) rfl (hb hby at_35) (by decide) (by decide) ?_
        show Steps p.tables e below (T73.setTop (mkF m 41 #[.val (.int p0), .val (.int p1), .val (.int ((p0 &&& (2147483647 : Int32)) % (5 : Int32))), .val (.int b3), .val (.ref w0), .unset, .unset] [(.ref u0)])) t
        refine XS.astore X73.here hx rfl (hb hby at_41) rfl rfl (l' := #[.val (.int p0), .val (.int p1), .val (.int ((p0 &&& (2147483647 : Int32)) % (5 : Int32))), .val (.int b3), .val (.ref w0), .val (.ref u0), .unset]) rfl ?_
        show Steps p.tables e below (T73.setTop (mkF m 43 #[.val (.int p0), .val (.int p1), .val (.int ((p0 &&& (2147483647 : Int32)) % (5 : Int32))), .val (.int b3), .val (.ref w0), .val (.ref u0), .unset] [])) t
        refine XS.goto X73.here hx rfl (pc0 := 43) (pc' := 150) rfl (hb hby at_43) (by decide) (by decide) ?_
        exact kk
      obtain ⟨T76, h76, X76, e76, E76, A76, D76, -, st76⟩ := newO X73 hx hZ hown (hw _ (List.mem_of_getElem? (i := 7) rfl)) (hw _ (List.mem_of_getElem? (i := 8) rfl)) (hw _ (List.mem_of_getElem? (i := 9) rfl)) e73 (g := (mkF m 150 #[.val (.int p0), .val (.int p1), .val (.int ((p0 &&& (2147483647 : Int32)) % (5 : Int32))), .val (.int b3), .val (.ref w0), .val (.ref u0), .unset] [])) rfl (hb hby at_150) (by decide) (by decide)
      obtain ⟨b76, g76⟩ : ∃ z, z = h0.size := ⟨_, rfl⟩
      rw [← g76] at A76 D76 st76
      have gb76 : n0 ≤ b76 := Nat.le_trans Z0 (Nat.le_of_eq g76.symm)
      have F_width_b76 : Fld Z h76 b76 "com/example/nextkey/nextkey/model/ColumnType$Int" "width" "Lcom/example/nextkey/nextkey/model/ColumnType$Int$Width;" .null := D76 (Or.inr (hw _ (List.mem_of_getElem? (i := 34) rfl))) (ty := (.object "com/example/nextkey/nextkey/model/ColumnType$Int$Width")) (by decide)
      have F_unsigned_b76 : Fld Z h76 b76 "com/example/nextkey/nextkey/model/ColumnType$Int" "unsigned" "Z" (.int (0 : Int32)) := D76 (Or.inr (hw _ (List.mem_of_getElem? (i := 36) rfl))) (ty := .boolean) (by decide)
      have c77 : Goes p e below s₁ (entryFrame m #[(.int p0), (.int p1)] maxLocals) T76 (mkF m 153 #[.val (.int p0), .val (.int p1), .val (.int ((p0 &&& (2147483647 : Int32)) % (5 : Int32))), .val (.int b3), .val (.ref w0), .val (.ref u0), .unset] [(.ref b76)]) := fun t kk => c75 t (st76 t kk)
      have f78 := (Nat.le_trans Z0 E76.1)
      have c79 : Goes p e below s₁ (entryFrame m #[(.int p0), (.int p1)] maxLocals) T76 (mkF m 157 #[.val (.int p0), .val (.int p1), .val (.int ((p0 &&& (2147483647 : Int32)) % (5 : Int32))), .val (.int b3), .val (.ref w0), .val (.ref u0), .unset] [(.int b3), (.ref w0), (.ref b76), (.ref b76)]) := by
        intro t kk
        refine c77 t ?_
        show Steps p.tables e below (T76.setTop (mkF m 153 #[.val (.int p0), .val (.int p1), .val (.int ((p0 &&& (2147483647 : Int32)) % (5 : Int32))), .val (.int b3), .val (.ref w0), .val (.ref u0), .unset] [(.ref b76)])) t
        refine XS.dup X76.here hx rfl (hb hby at_153) rfl rfl ?_
        show Steps p.tables e below (T76.setTop (mkF m 154 #[.val (.int p0), .val (.int p1), .val (.int ((p0 &&& (2147483647 : Int32)) % (5 : Int32))), .val (.int b3), .val (.ref w0), .val (.ref u0), .unset] [(.ref b76), (.ref b76)])) t
        refine XS.aload X76.here hx rfl (hb hby at_154) rfl rfl ?_
        show Steps p.tables e below (T76.setTop (mkF m 156 #[.val (.int p0), .val (.int p1), .val (.int ((p0 &&& (2147483647 : Int32)) % (5 : Int32))), .val (.int b3), .val (.ref w0), .val (.ref u0), .unset] [(.ref w0), (.ref b76), (.ref b76)])) t
        refine XS.iloadN X76.here hx rfl (hb hby at_156) rfl ?_
        exact kk
      obtain ⟨_, _, ⟨T80, L80, k80, n80⟩, -, XX80, SS80, gr80, ⟨Lc80, hQ80, l80, y80, z80⟩, st80⟩ := X76.specialBackS hx (y := (⟨"com/example/nextkey/nextkey/model/ColumnType$Int", "<init>", "(Lcom/example/nextkey/nextkey/model/ColumnType$Int$Width;Z)V"⟩ : MethodName)) rfl hown (mvT hZ (hw _ (List.mem_of_getElem? (i := 10) rfl))) (mvT hZ (hw _ (List.mem_of_getElem? (i := 11) rfl))) (mvT hZ (hw _ (List.mem_of_getElem? (i := 12) rfl))) (by decide) (backOfS (W := 1) (rm_init l Z a0 hw [] b76 w0 b3 h76 n0 f78 F_width_b76 F_unsigned_b76 A76 gb76) hZ (hw _ (List.mem_of_getElem? (i := 12) rfl)) (hw _ (List.mem_of_getElem? (i := 9) rfl)) (by decide) (by decide)) (g := (mkF m 157 #[.val (.int p0), .val (.int p1), .val (.int ((p0 &&& (2147483647 : Int32)) % (5 : Int32))), .val (.int b3), .val (.ref w0), .val (.ref u0), .unset] [(.int b3), (.ref w0), (.ref b76), (.ref b76)])) rfl (by rw [hml]; rfl) (Steps.refl _) (a := b76) (argsL := [(.ref w0), (.int b3)]) (rest := [(.ref b76)]) (lenOf pd__Lcom_example_nextkey_nextkey_model_ColumnType_Int_Width_Z_V rfl) rfl (by show 2 * 0 + _ ≤ _; exact Nat.le_of_eq rfl) (hb hby at_157) (fun _ _ => ⟨rfl, e76, (by decide : 1 + 2 ≤ _), (by decide : 2 + 24 ≤ _)⟩)
      have f81 := (Nat.le_trans (Nat.zero_le _) E76.1)
      obtain ⟨X80, S80, hZ80, ho80⟩ := rebS SW0 (by rw [e76]; exact f81 : _ ≤ T76.heap.size) XX80 SS80 gr80 hZ hown
      dsimp only [Pt.U, Pt.locs, Pt.cells, Pt.slots] at S80 hZ80 ho80 X80 l80 y80 z80 st80 hQ80
      subst l80 y80 z80
      obtain ⟨rfl, Nq80, Kq80, Eq80, Fq80_1, Fq80_2⟩ := hQ80
      have N80 := Fr.app N0 Nq80
      have c82 : Goes p e below s₁ (entryFrame m #[(.int p0), (.int p1)] maxLocals) T80 (mkF m 160 #[.val (.int p0), .val (.int p1), .val (.int ((p0 &&& (2147483647 : Int32)) % (5 : Int32))), .val (.int b3), .val (.ref w0), .val (.ref u0), .unset] [(.ref b76)]) := fun t kk => c79 t (st80.trans kk)
      have f83 := ((O0.ext E76).keep Kq80 (allS gb76 all0))
      have f84 := (Nat.le_trans f78 Kq80.1)
      have c85 : Goes p e below s₁ (entryFrame m #[(.int p0), (.int p1)] maxLocals) T80 (mkF m 164 #[.val (.int p0), .val (.int p1), .val (.int ((p0 &&& (2147483647 : Int32)) % (5 : Int32))), .val (.int b3), .val (.ref w0), .val (.ref u0), .val (.ref b76)] [(.ref b76)]) := by
        intro t kk
        refine c82 t ?_
        show Steps p.tables e below (T80.setTop (mkF m 160 #[.val (.int p0), .val (.int p1), .val (.int ((p0 &&& (2147483647 : Int32)) % (5 : Int32))), .val (.int b3), .val (.ref w0), .val (.ref u0), .unset] [(.ref b76)])) t
        refine XS.astore X80.here hx rfl (hb hby at_160) rfl rfl (l' := #[.val (.int p0), .val (.int p1), .val (.int ((p0 &&& (2147483647 : Int32)) % (5 : Int32))), .val (.int b3), .val (.ref w0), .val (.ref u0), .val (.ref b76)]) rfl ?_
        show Steps p.tables e below (T80.setTop (mkF m 162 #[.val (.int p0), .val (.int p1), .val (.int ((p0 &&& (2147483647 : Int32)) % (5 : Int32))), .val (.int b3), .val (.ref w0), .val (.ref u0), .val (.ref b76)] [])) t
        refine XS.aload X80.here hx rfl (hb hby at_162) rfl rfl ?_
        exact kk
      obtain ⟨cq86, kq86, q86a, q86b, q86c⟩ := isOf hZ80 rfl Eq80
      obtain ⟨_, _, ⟨T86, L86, k86, n86⟩, -, X86, ⟨Lc86, hQ86, l86, y86, z86⟩, st86⟩ := X80.virtualBack hx (y := (⟨"com/example/nextkey/nextkey/model/ColumnType$Int", "resultType", "()Lcom/example/nextkey/nextkey/model/ResultType;"⟩ : MethodName)) (z := (⟨"com/example/nextkey/nextkey/model/ColumnType$Int", "resultType", "()Lcom/example/nextkey/nextkey/model/ResultType;"⟩ : MethodName)) ho80 (mvT hZ80 (hw _ (List.mem_of_getElem? (i := 37) rfl))) (mvT hZ80 (hw _ (List.mem_of_getElem? (i := 38) rfl))) (notFace_of_selects (args := #[]) (mvT hZ80 (hw _ (List.mem_of_getElem? (i := 40) rfl)))) (mvT hZ80 (hw _ (List.mem_of_getElem? (i := 40) rfl))) (mvT hZ80 (hw _ (List.mem_of_getElem? (i := 39) rfl))) (by decide) (backOf (W := 0) (rm_rt l Z a0 hw [] b76 w0 (nar .boolean b3) s0 u0 T80.heap n0 f84 Fq80_2 Fq80_1 (Fs_0.ext f83.2) (Ft_0.ext f83.2)) hZ80 (hw _ (List.mem_of_getElem? (i := 41) rfl)) (hw _ (List.mem_of_getElem? (i := 9) rfl)) (by decide) (by decide)) q86a q86c (g := (mkF m 164 #[.val (.int p0), .val (.int p1), .val (.int ((p0 &&& (2147483647 : Int32)) % (5 : Int32))), .val (.int b3), .val (.ref w0), .val (.ref u0), .val (.ref b76)] [(.ref b76)])) rfl (by rw [hml]; rfl) (Steps.refl _) (argsL := []) (rest := []) (lenOf pd___Lcom_example_nextkey_nextkey_model_ResultType_ rfl) rfl (by show 2 * 0 + _ ≤ _; exact Nat.le_of_eq rfl) (hb hby at_164) (fun _ _ => ⟨rfl, rfl, (by decide : 3 + 0 ≤ _), (by decide : 26 + 0 ≤ _)⟩)
      dsimp only [Pt.U, Pt.locs, Pt.cells, Pt.slots] at X86 l86 y86 z86 st86 hQ86
      subst l86 y86 z86
      obtain ⟨rfl, Nq86, eq86⟩ := hQ86
      have N86 := Fr.app N80 Nq86
      have c87 : Goes p e below s₁ (entryFrame m #[(.int p0), (.int p1)] maxLocals) T86 (mkF m 167 #[.val (.int p0), .val (.int p1), .val (.int ((p0 &&& (2147483647 : Int32)) % (5 : Int32))), .val (.int b3), .val (.ref w0), .val (.ref u0), .val (.ref b76)] [(.ref (own_rt (nar .boolean b3) s0 u0))]) := fun t kk => c85 t (st86.trans kk)
      have c88 : Goes p e below s₁ (entryFrame m #[(.int p0), (.int p1)] maxLocals) T86 (mkF m 177 #[.val (.int p0), .val (.int p1), .val (.int ((p0 &&& (2147483647 : Int32)) % (5 : Int32))), .val (.int b3), .val (.ref w0), .val (.ref u0), .val (.ref b76)] [(.int (1 : Int32))]) := by
        intro t kk
        refine c87 t ?_
        show Steps p.tables e below (T86.setTop (mkF m 167 #[.val (.int p0), .val (.int p1), .val (.int ((p0 &&& (2147483647 : Int32)) % (5 : Int32))), .val (.int b3), .val (.ref w0), .val (.ref u0), .val (.ref b76)] [(.ref (own_rt (nar .boolean b3) s0 u0))])) t
        refine XS.aload X86.here hx rfl (hb hby at_167) rfl rfl ?_
        show Steps p.tables e below (T86.setTop (mkF m 169 #[.val (.int p0), .val (.int p1), .val (.int ((p0 &&& (2147483647 : Int32)) % (5 : Int32))), .val (.int b3), .val (.ref w0), .val (.ref u0), .val (.ref b76)] [(.ref u0), (.ref (own_rt (nar .boolean b3) s0 u0))])) t
        refine Jvm.RoadKit.acmp (g := (mkF m 169 #[.val (.int p0), .val (.int p1), .val (.int ((p0 &&& (2147483647 : Int32)) % (5 : Int32))), .val (.int b3), .val (.ref w0), .val (.ref u0), .val (.ref b76)] [(.ref u0), (.ref (own_rt (nar .boolean b3) s0 u0))])) X86 hx rfl rfl rfl (pc0 := 169) (pc' := 172) (same := true) rfl (hb hby at_169) rfl (decide_eq_true (congrArg Value.ref (own_rt1 hm44 hc29_54))) (by decide) (by decide) ?_
        show Steps p.tables e below (T86.setTop (mkF m 172 #[.val (.int p0), .val (.int p1), .val (.int ((p0 &&& (2147483647 : Int32)) % (5 : Int32))), .val (.int b3), .val (.ref w0), .val (.ref u0), .val (.ref b76)] [])) t
        refine XS.iconst X86.here hx rfl (hb hby at_172) ?_
        show Steps p.tables e below (T86.setTop (mkF m 173 #[.val (.int p0), .val (.int p1), .val (.int ((p0 &&& (2147483647 : Int32)) % (5 : Int32))), .val (.int b3), .val (.ref w0), .val (.ref u0), .val (.ref b76)] [(.int (1 : Int32))])) t
        refine XS.goto X86.here hx rfl (pc0 := 173) (pc' := 177) rfl (hb hby at_173) (by decide) (by decide) ?_
        exact kk
      obtain ⟨fs, hr, hrun, hended, hRW⟩ := X86.leaveW S80 (by rw [eq86]; exact (Nat.le_refl _)) (v := some (.int (1 : Int32))) (fun h => by rw [Bd.returns] at h; cases h)
      refine ⟨_, _, c88 _ ?_, hrun, hended, _, _, rfl, ?_, hRW.1, hRW.2.1, hRW.2.2.1, hRW.2.2.2.mono (by decide) (by decide)⟩
      · exact retN X86 hx (t := .boolean) Bd.returns (by simp) (hb hby at_177) hr
      · show Q_law Z p0 p1 w0 w1 w2 w3 w4 u0 u1 u2 u3 u4 s0 s1 s2 s3 s4 h0 n0 _ T86.heap _
        rw [eq86]
        exact ⟨rfl, N86⟩
  · have c89 : Goes p e below s₁ (entryFrame m #[(.int p0), (.int p1)] maxLocals) s₁ (mkF m 48 #[.val (.int p0), .val (.int p1), .val (.int ((p0 &&& (2147483647 : Int32)) % (5 : Int32))), .val (.int b3), .unset, .unset, .unset] [(.int (1 : Int32)), (.int ((p0 &&& (2147483647 : Int32)) % (5 : Int32)))]) := by
      intro t kk
      refine c48 t ?_
      show Steps p.tables e below (s₁.setTop (mkF m 20 #[.val (.int p0), .val (.int p1), .val (.int ((p0 &&& (2147483647 : Int32)) % (5 : Int32))), .val (.int b3), .unset, .unset, .unset] [(.int ((p0 &&& (2147483647 : Int32)) % (5 : Int32)))])) t
      refine XS.ifYes XW0.here hx rfl (pc0 := 20) (pc' := 46) rfl (hb hby at_20) rfl ((if0 _ _).trans (feq hc20_49).2) (by decide) (by decide) ?_
      show Steps p.tables e below (s₁.setTop (mkF m 46 #[.val (.int p0), .val (.int p1), .val (.int ((p0 &&& (2147483647 : Int32)) % (5 : Int32))), .val (.int b3), .unset, .unset, .unset] [])) t
      refine XS.iloadN XW0.here hx rfl (hb hby at_46) rfl ?_
      show Steps p.tables e below (s₁.setTop (mkF m 47 #[.val (.int p0), .val (.int p1), .val (.int ((p0 &&& (2147483647 : Int32)) % (5 : Int32))), .val (.int b3), .unset, .unset, .unset] [(.int ((p0 &&& (2147483647 : Int32)) % (5 : Int32)))])) t
      refine XS.iconst XW0.here hx rfl (hb hby at_47) ?_
      exact kk
    by_cases hc48_90 : ((p0 &&& (2147483647 : Int32)) % (5 : Int32)) = (1 : Int32)
    · have c91 : Goes p e below s₁ (entryFrame m #[(.int p0), (.int p1)] maxLocals) s₁ (mkF m 51 #[.val (.int p0), .val (.int p1), .val (.int ((p0 &&& (2147483647 : Int32)) % (5 : Int32))), .val (.int b3), .unset, .unset, .unset] []) := by
        intro t kk
        refine c89 t ?_
        show Steps p.tables e below (s₁.setTop (mkF m 48 #[.val (.int p0), .val (.int p1), .val (.int ((p0 &&& (2147483647 : Int32)) % (5 : Int32))), .val (.int b3), .unset, .unset, .unset] [(.int (1 : Int32)), (.int ((p0 &&& (2147483647 : Int32)) % (5 : Int32)))])) t
        refine XS.icmpNo XW0.here hx rfl (hb hby at_48) rfl (teq hc48_90).2 ?_
        exact kk
      obtain ⟨T92, X92, e92, st92⟩ := getS2 XW0 hx hZ hown (host := "") (Or.inl (hw _ (List.mem_of_getElem? (i := 52) rfl))) Via.refl e0 (S_w1.ext O0.2) (g := (mkF m 51 #[.val (.int p0), .val (.int p1), .val (.int ((p0 &&& (2147483647 : Int32)) % (5 : Int32))), .val (.int b3), .unset, .unset, .unset] [])) rfl (hb hby at_51)
      have c93 : Goes p e below s₁ (entryFrame m #[(.int p0), (.int p1)] maxLocals) T92 (mkF m 54 #[.val (.int p0), .val (.int p1), .val (.int ((p0 &&& (2147483647 : Int32)) % (5 : Int32))), .val (.int b3), .unset, .unset, .unset] [(.ref w1)]) := fun t kk => c91 t (st92 t kk)
      have c94 : Goes p e below s₁ (entryFrame m #[(.int p0), (.int p1)] maxLocals) T92 (mkF m 57 #[.val (.int p0), .val (.int p1), .val (.int ((p0 &&& (2147483647 : Int32)) % (5 : Int32))), .val (.int b3), .val (.ref w1), .unset, .unset] [(.int b3)]) := by
        intro t kk
        refine c93 t ?_
        show Steps p.tables e below (T92.setTop (mkF m 54 #[.val (.int p0), .val (.int p1), .val (.int ((p0 &&& (2147483647 : Int32)) % (5 : Int32))), .val (.int b3), .unset, .unset, .unset] [(.ref w1)])) t
        refine XS.astore X92.here hx rfl (hb hby at_54) rfl rfl (l' := #[.val (.int p0), .val (.int p1), .val (.int ((p0 &&& (2147483647 : Int32)) % (5 : Int32))), .val (.int b3), .val (.ref w1), .unset, .unset]) rfl ?_
        show Steps p.tables e below (T92.setTop (mkF m 56 #[.val (.int p0), .val (.int p1), .val (.int ((p0 &&& (2147483647 : Int32)) % (5 : Int32))), .val (.int b3), .val (.ref w1), .unset, .unset] [])) t
        refine XS.iloadN X92.here hx rfl (hb hby at_56) rfl ?_
        exact kk
      by_cases hc57_95 : b3 = (0 : Int32)
      · have c96 : Goes p e below s₁ (entryFrame m #[(.int p0), (.int p1)] maxLocals) T92 (mkF m 66 #[.val (.int p0), .val (.int p1), .val (.int ((p0 &&& (2147483647 : Int32)) % (5 : Int32))), .val (.int b3), .val (.ref w1), .unset, .unset] []) := by
          intro t kk
          refine c94 t ?_
          show Steps p.tables e below (T92.setTop (mkF m 57 #[.val (.int p0), .val (.int p1), .val (.int ((p0 &&& (2147483647 : Int32)) % (5 : Int32))), .val (.int b3), .val (.ref w1), .unset, .unset] [(.int b3)])) t
          refine XS.ifYes X92.here hx rfl (pc0 := 57) (pc' := 66) rfl (hb hby at_57) rfl ((if0 _ _).trans (teq hc57_95).1) (by decide) (by decide) ?_
          exact kk
        obtain ⟨T97, X97, e97, st97⟩ := getS2 X92 hx hZ hown (host := "") (Or.inl (hw _ (List.mem_of_getElem? (i := 54) rfl))) Via.refl e92 (S_s1.ext O0.2) (g := (mkF m 66 #[.val (.int p0), .val (.int p1), .val (.int ((p0 &&& (2147483647 : Int32)) % (5 : Int32))), .val (.int b3), .val (.ref w1), .unset, .unset] [])) rfl (hb hby at_66)
        have c98 : Goes p e below s₁ (entryFrame m #[(.int p0), (.int p1)] maxLocals) T97 (mkF m 69 #[.val (.int p0), .val (.int p1), .val (.int ((p0 &&& (2147483647 : Int32)) % (5 : Int32))), .val (.int b3), .val (.ref w1), .unset, .unset] [(.ref s1)]) := fun t kk => c96 t (st97 t kk)
        have c99 : Goes p e below s₁ (entryFrame m #[(.int p0), (.int p1)] maxLocals) T97 (mkF m 150 #[.val (.int p0), .val (.int p1), .val (.int ((p0 &&& (2147483647 : Int32)) % (5 : Int32))), .val (.int b3), .val (.ref w1), .val (.ref s1), .unset] []) := by
          intro t kk
          refine c98 t ?_
          show Steps p.tables e below (T97.setTop (mkF m 69 #[.val (.int p0), .val (.int p1), .val (.int ((p0 &&& (2147483647 : Int32)) % (5 : Int32))), .val (.int b3), .val (.ref w1), .unset, .unset] [(.ref s1)])) t
          refine XS.astore X97.here hx rfl (hb hby at_69) rfl rfl (l' := #[.val (.int p0), .val (.int p1), .val (.int ((p0 &&& (2147483647 : Int32)) % (5 : Int32))), .val (.int b3), .val (.ref w1), .val (.ref s1), .unset]) rfl ?_
          show Steps p.tables e below (T97.setTop (mkF m 71 #[.val (.int p0), .val (.int p1), .val (.int ((p0 &&& (2147483647 : Int32)) % (5 : Int32))), .val (.int b3), .val (.ref w1), .val (.ref s1), .unset] [])) t
          refine XS.goto X97.here hx rfl (pc0 := 71) (pc' := 150) rfl (hb hby at_71) (by decide) (by decide) ?_
          exact kk
        obtain ⟨T100, h100, X100, e100, E100, A100, D100, -, st100⟩ := newO X97 hx hZ hown (hw _ (List.mem_of_getElem? (i := 7) rfl)) (hw _ (List.mem_of_getElem? (i := 8) rfl)) (hw _ (List.mem_of_getElem? (i := 9) rfl)) e97 (g := (mkF m 150 #[.val (.int p0), .val (.int p1), .val (.int ((p0 &&& (2147483647 : Int32)) % (5 : Int32))), .val (.int b3), .val (.ref w1), .val (.ref s1), .unset] [])) rfl (hb hby at_150) (by decide) (by decide)
        obtain ⟨b100, g100⟩ : ∃ z, z = h0.size := ⟨_, rfl⟩
        rw [← g100] at A100 D100 st100
        have gb100 : n0 ≤ b100 := Nat.le_trans Z0 (Nat.le_of_eq g100.symm)
        have F_width_b100 : Fld Z h100 b100 "com/example/nextkey/nextkey/model/ColumnType$Int" "width" "Lcom/example/nextkey/nextkey/model/ColumnType$Int$Width;" .null := D100 (Or.inr (hw _ (List.mem_of_getElem? (i := 34) rfl))) (ty := (.object "com/example/nextkey/nextkey/model/ColumnType$Int$Width")) (by decide)
        have F_unsigned_b100 : Fld Z h100 b100 "com/example/nextkey/nextkey/model/ColumnType$Int" "unsigned" "Z" (.int (0 : Int32)) := D100 (Or.inr (hw _ (List.mem_of_getElem? (i := 36) rfl))) (ty := .boolean) (by decide)
        have c101 : Goes p e below s₁ (entryFrame m #[(.int p0), (.int p1)] maxLocals) T100 (mkF m 153 #[.val (.int p0), .val (.int p1), .val (.int ((p0 &&& (2147483647 : Int32)) % (5 : Int32))), .val (.int b3), .val (.ref w1), .val (.ref s1), .unset] [(.ref b100)]) := fun t kk => c99 t (st100 t kk)
        have f102 := (Nat.le_trans Z0 E100.1)
        have c103 : Goes p e below s₁ (entryFrame m #[(.int p0), (.int p1)] maxLocals) T100 (mkF m 157 #[.val (.int p0), .val (.int p1), .val (.int ((p0 &&& (2147483647 : Int32)) % (5 : Int32))), .val (.int b3), .val (.ref w1), .val (.ref s1), .unset] [(.int b3), (.ref w1), (.ref b100), (.ref b100)]) := by
          intro t kk
          refine c101 t ?_
          show Steps p.tables e below (T100.setTop (mkF m 153 #[.val (.int p0), .val (.int p1), .val (.int ((p0 &&& (2147483647 : Int32)) % (5 : Int32))), .val (.int b3), .val (.ref w1), .val (.ref s1), .unset] [(.ref b100)])) t
          refine XS.dup X100.here hx rfl (hb hby at_153) rfl rfl ?_
          show Steps p.tables e below (T100.setTop (mkF m 154 #[.val (.int p0), .val (.int p1), .val (.int ((p0 &&& (2147483647 : Int32)) % (5 : Int32))), .val (.int b3), .val (.ref w1), .val (.ref s1), .unset] [(.ref b100), (.ref b100)])) t
          refine XS.aload X100.here hx rfl (hb hby at_154) rfl rfl ?_
          show Steps p.tables e below (T100.setTop (mkF m 156 #[.val (.int p0), .val (.int p1), .val (.int ((p0 &&& (2147483647 : Int32)) % (5 : Int32))), .val (.int b3), .val (.ref w1), .val (.ref s1), .unset] [(.ref w1), (.ref b100), (.ref b100)])) t
          refine XS.iloadN X100.here hx rfl (hb hby at_156) rfl ?_
          exact kk
        obtain ⟨_, _, ⟨T104, L104, k104, n104⟩, -, XX104, SS104, gr104, ⟨Lc104, hQ104, l104, y104, z104⟩, st104⟩ := X100.specialBackS hx (y := (⟨"com/example/nextkey/nextkey/model/ColumnType$Int", "<init>", "(Lcom/example/nextkey/nextkey/model/ColumnType$Int$Width;Z)V"⟩ : MethodName)) rfl hown (mvT hZ (hw _ (List.mem_of_getElem? (i := 10) rfl))) (mvT hZ (hw _ (List.mem_of_getElem? (i := 11) rfl))) (mvT hZ (hw _ (List.mem_of_getElem? (i := 12) rfl))) (by decide) (backOfS (W := 1) (rm_init l Z a0 hw [] b100 w1 b3 h100 n0 f102 F_width_b100 F_unsigned_b100 A100 gb100) hZ (hw _ (List.mem_of_getElem? (i := 12) rfl)) (hw _ (List.mem_of_getElem? (i := 9) rfl)) (by decide) (by decide)) (g := (mkF m 157 #[.val (.int p0), .val (.int p1), .val (.int ((p0 &&& (2147483647 : Int32)) % (5 : Int32))), .val (.int b3), .val (.ref w1), .val (.ref s1), .unset] [(.int b3), (.ref w1), (.ref b100), (.ref b100)])) rfl (by rw [hml]; rfl) (Steps.refl _) (a := b100) (argsL := [(.ref w1), (.int b3)]) (rest := [(.ref b100)]) (lenOf pd__Lcom_example_nextkey_nextkey_model_ColumnType_Int_Width_Z_V rfl) rfl (by show 2 * 0 + _ ≤ _; exact Nat.le_of_eq rfl) (hb hby at_157) (fun _ _ => ⟨rfl, e100, (by decide : 1 + 2 ≤ _), (by decide : 2 + 24 ≤ _)⟩)
        have f105 := (Nat.le_trans (Nat.zero_le _) E100.1)
        obtain ⟨X104, S104, hZ104, ho104⟩ := rebS SW0 (by rw [e100]; exact f105 : _ ≤ T100.heap.size) XX104 SS104 gr104 hZ hown
        dsimp only [Pt.U, Pt.locs, Pt.cells, Pt.slots] at S104 hZ104 ho104 X104 l104 y104 z104 st104 hQ104
        subst l104 y104 z104
        obtain ⟨rfl, Nq104, Kq104, Eq104, Fq104_1, Fq104_2⟩ := hQ104
        have N104 := Fr.app N0 Nq104
        have c106 : Goes p e below s₁ (entryFrame m #[(.int p0), (.int p1)] maxLocals) T104 (mkF m 160 #[.val (.int p0), .val (.int p1), .val (.int ((p0 &&& (2147483647 : Int32)) % (5 : Int32))), .val (.int b3), .val (.ref w1), .val (.ref s1), .unset] [(.ref b100)]) := fun t kk => c103 t (st104.trans kk)
        have f107 := ((O0.ext E100).keep Kq104 (allS gb100 all0))
        have f108 := (Nat.le_trans f102 Kq104.1)
        have c109 : Goes p e below s₁ (entryFrame m #[(.int p0), (.int p1)] maxLocals) T104 (mkF m 164 #[.val (.int p0), .val (.int p1), .val (.int ((p0 &&& (2147483647 : Int32)) % (5 : Int32))), .val (.int b3), .val (.ref w1), .val (.ref s1), .val (.ref b100)] [(.ref b100)]) := by
          intro t kk
          refine c106 t ?_
          show Steps p.tables e below (T104.setTop (mkF m 160 #[.val (.int p0), .val (.int p1), .val (.int ((p0 &&& (2147483647 : Int32)) % (5 : Int32))), .val (.int b3), .val (.ref w1), .val (.ref s1), .unset] [(.ref b100)])) t
          refine XS.astore X104.here hx rfl (hb hby at_160) rfl rfl (l' := #[.val (.int p0), .val (.int p1), .val (.int ((p0 &&& (2147483647 : Int32)) % (5 : Int32))), .val (.int b3), .val (.ref w1), .val (.ref s1), .val (.ref b100)]) rfl ?_
          show Steps p.tables e below (T104.setTop (mkF m 162 #[.val (.int p0), .val (.int p1), .val (.int ((p0 &&& (2147483647 : Int32)) % (5 : Int32))), .val (.int b3), .val (.ref w1), .val (.ref s1), .val (.ref b100)] [])) t
          refine XS.aload X104.here hx rfl (hb hby at_162) rfl rfl ?_
          exact kk
        obtain ⟨cq110, kq110, q110a, q110b, q110c⟩ := isOf hZ104 rfl Eq104
        obtain ⟨_, _, ⟨T110, L110, k110, n110⟩, -, X110, ⟨Lc110, hQ110, l110, y110, z110⟩, st110⟩ := X104.virtualBack hx (y := (⟨"com/example/nextkey/nextkey/model/ColumnType$Int", "resultType", "()Lcom/example/nextkey/nextkey/model/ResultType;"⟩ : MethodName)) (z := (⟨"com/example/nextkey/nextkey/model/ColumnType$Int", "resultType", "()Lcom/example/nextkey/nextkey/model/ResultType;"⟩ : MethodName)) ho104 (mvT hZ104 (hw _ (List.mem_of_getElem? (i := 37) rfl))) (mvT hZ104 (hw _ (List.mem_of_getElem? (i := 38) rfl))) (notFace_of_selects (args := #[]) (mvT hZ104 (hw _ (List.mem_of_getElem? (i := 40) rfl)))) (mvT hZ104 (hw _ (List.mem_of_getElem? (i := 40) rfl))) (mvT hZ104 (hw _ (List.mem_of_getElem? (i := 39) rfl))) (by decide) (backOf (W := 0) (rm_rt l Z a0 hw [] b100 w1 (nar .boolean b3) s1 u1 T104.heap n0 f108 Fq104_2 Fq104_1 (Fs_1.ext f107.2) (Ft_1.ext f107.2)) hZ104 (hw _ (List.mem_of_getElem? (i := 41) rfl)) (hw _ (List.mem_of_getElem? (i := 9) rfl)) (by decide) (by decide)) q110a q110c (g := (mkF m 164 #[.val (.int p0), .val (.int p1), .val (.int ((p0 &&& (2147483647 : Int32)) % (5 : Int32))), .val (.int b3), .val (.ref w1), .val (.ref s1), .val (.ref b100)] [(.ref b100)])) rfl (by rw [hml]; rfl) (Steps.refl _) (argsL := []) (rest := []) (lenOf pd___Lcom_example_nextkey_nextkey_model_ResultType_ rfl) rfl (by show 2 * 0 + _ ≤ _; exact Nat.le_of_eq rfl) (hb hby at_164) (fun _ _ => ⟨rfl, rfl, (by decide : 3 + 0 ≤ _), (by decide : 26 + 0 ≤ _)⟩)
        dsimp only [Pt.U, Pt.locs, Pt.cells, Pt.slots] at X110 l110 y110 z110 st110 hQ110
        subst l110 y110 z110
        obtain ⟨rfl, Nq110, eq110⟩ := hQ110
        have N110 := Fr.app N104 Nq110
        have c111 : Goes p e below s₁ (entryFrame m #[(.int p0), (.int p1)] maxLocals) T110 (mkF m 167 #[.val (.int p0), .val (.int p1), .val (.int ((p0 &&& (2147483647 : Int32)) % (5 : Int32))), .val (.int b3), .val (.ref w1), .val (.ref s1), .val (.ref b100)] [(.ref (own_rt (nar .boolean b3) s1 u1))]) := fun t kk => c109 t (st110.trans kk)
        have c112 : Goes p e below s₁ (entryFrame m #[(.int p0), (.int p1)] maxLocals) T110 (mkF m 177 #[.val (.int p0), .val (.int p1), .val (.int ((p0 &&& (2147483647 : Int32)) % (5 : Int32))), .val (.int b3), .val (.ref w1), .val (.ref s1), .val (.ref b100)] [(.int (1 : Int32))]) := by
          intro t kk
          refine c111 t ?_
          show Steps p.tables e below (T110.setTop (mkF m 167 #[.val (.int p0), .val (.int p1), .val (.int ((p0 &&& (2147483647 : Int32)) % (5 : Int32))), .val (.int b3), .val (.ref w1), .val (.ref s1), .val (.ref b100)] [(.ref (own_rt (nar .boolean b3) s1 u1))])) t
          refine XS.aload X110.here hx rfl (hb hby at_167) rfl rfl ?_
          show Steps p.tables e below (T110.setTop (mkF m 169 #[.val (.int p0), .val (.int p1), .val (.int ((p0 &&& (2147483647 : Int32)) % (5 : Int32))), .val (.int b3), .val (.ref w1), .val (.ref s1), .val (.ref b100)] [(.ref s1), (.ref (own_rt (nar .boolean b3) s1 u1))])) t
          refine Jvm.RoadKit.acmp (g := (mkF m 169 #[.val (.int p0), .val (.int p1), .val (.int ((p0 &&& (2147483647 : Int32)) % (5 : Int32))), .val (.int b3), .val (.ref w1), .val (.ref s1), .val (.ref b100)] [(.ref s1), (.ref (own_rt (nar .boolean b3) s1 u1))])) X110 hx rfl rfl rfl (pc0 := 169) (pc' := 172) (same := true) rfl (hb hby at_169) rfl (decide_eq_true (congrArg Value.ref (own_rt0 hc57_95))) (by decide) (by decide) ?_
          show Steps p.tables e below (T110.setTop (mkF m 172 #[.val (.int p0), .val (.int p1), .val (.int ((p0 &&& (2147483647 : Int32)) % (5 : Int32))), .val (.int b3), .val (.ref w1), .val (.ref s1), .val (.ref b100)] [])) t
          refine XS.iconst X110.here hx rfl (hb hby at_172) ?_
          show Steps p.tables e below (T110.setTop (mkF m 173 #[.val (.int p0), .val (.int p1), .val (.int ((p0 &&& (2147483647 : Int32)) % (5 : Int32))), .val (.int b3), .val (.ref w1), .val (.ref s1), .val (.ref b100)] [(.int (1 : Int32))])) t
          refine XS.goto X110.here hx rfl (pc0 := 173) (pc' := 177) rfl (hb hby at_173) (by decide) (by decide) ?_
          exact kk
        obtain ⟨fs, hr, hrun, hended, hRW⟩ := X110.leaveW S104 (by rw [eq110]; exact (Nat.le_refl _)) (v := some (.int (1 : Int32))) (fun h => by rw [Bd.returns] at h; cases h)
        refine ⟨_, _, c112 _ ?_, hrun, hended, _, _, rfl, ?_, hRW.1, hRW.2.1, hRW.2.2.1, hRW.2.2.2.mono (by decide) (by decide)⟩
        · exact retN X110 hx (t := .boolean) Bd.returns (by simp) (hb hby at_177) hr
        · show Q_law Z p0 p1 w0 w1 w2 w3 w4 u0 u1 u2 u3 u4 s0 s1 s2 s3 s4 h0 n0 _ T110.heap _
          rw [eq110]
          exact ⟨rfl, N110⟩
      · have c113 : Goes p e below s₁ (entryFrame m #[(.int p0), (.int p1)] maxLocals) T92 (mkF m 60 #[.val (.int p0), .val (.int p1), .val (.int ((p0 &&& (2147483647 : Int32)) % (5 : Int32))), .val (.int b3), .val (.ref w1), .unset, .unset] []) := by
          intro t kk
          refine c94 t ?_
          show Steps p.tables e below (T92.setTop (mkF m 57 #[.val (.int p0), .val (.int p1), .val (.int ((p0 &&& (2147483647 : Int32)) % (5 : Int32))), .val (.int b3), .val (.ref w1), .unset, .unset] [(.int b3)])) t
          refine XS.ifNo X92.here hx rfl (hb hby at_57) rfl ((if0 _ _).trans (feq hc57_95).1) ?_
          exact kk
        obtain ⟨T114, X114, e114, st114⟩ := getS2 X92 hx hZ hown (host := "") (Or.inl (hw _ (List.mem_of_getElem? (i := 64) rfl))) Via.refl e92 (S_u1.ext O0.2) (g := (mkF m 60 #[.val (.int p0), .val (.int p1), .val (.int ((p0 &&& (2147483647 : Int32)) % (5 : Int32))), .val (.int b3), .val (.ref w1), .unset, .unset] [])) rfl (hb hby at_60)
        have c115 : Goes p e below s₁ (entryFrame m #[(.int p0), (.int p1)] maxLocals) T114 (mkF m 63 #[.val (.int p0), .val (.int p1), .val (.int ((p0 &&& (2147483647 : Int32)) % (5 : Int32))), .val (.int b3), .val (.ref w1), .unset, .unset] [(.ref u1)]) := fun t kk => c113 t (st114 t kk)
        have c116 : Goes p e below s₁ (entryFrame m #[(.int p0), (.int p1)] maxLocals) T114 (mkF m 150 #[.val (.int p0), .val (.int p1), .val (.int ((p0 &&& (2147483647 : Int32)) % (5 : Int32))), .val (.int b3), .val (.ref w1), .val (.ref u1), .unset] []) := by
          intro t kk
          refine c115 t ?_
          show Steps p.tables e below (T114.setTop (mkF m 63 #[.val (.int p0), .val (.int p1), .val (.int ((p0 &&& (2147483647 : Int32)) % (5 : Int32))), .val (.int b3), .val (.ref w1), .unset, .unset] [(.ref u1)])) t
          refine XS.goto X114.here hx rfl (pc0 := 63) (pc' := 69) rfl (hb hby at_63) (by decide) (by decide) ?_
          show Steps p.tables e below (T114.setTop (mkF m 69 #[.val (.int p0), .val (.int p1), .val (.int ((p0 &&& (2147483647 : Int32)) % (5 : Int32))), .val (.int b3), .val (.ref w1), .unset, .unset] [(.ref u1)])) t
          refine XS.astore X114.here hx rfl (hb hby at_69) rfl rfl (l' := #[.val (.int p0), .val (.int p1), .val (.int ((p0 &&& (2147483647 : Int32)) % (5 : Int32))), .val (.int b3), .val (.ref w1), .val (.ref u1), .unset]) rfl ?_
          show Steps p.tables e below (T114.setTop (mkF m 71 #[.val (.int p0), .val (.int p1), .val (.int ((p0 &&& (2147483647 : Int32)) % (5 : Int32))), .val (.int b3), .val (.ref w1), .val (.ref u1), .unset] [])) t
          refine XS.goto X114.here hx rfl (pc0 := 71) (pc' := 150) rfl (hb hby at_71) (by decide) (by decide) ?_
          exact kk
        obtain ⟨T117, h117, X117, e117, E117, A117, D117, -, st117⟩ := newO X114 hx hZ hown (hw _ (List.mem_of_getElem? (i := 7) rfl)) (hw _ (List.mem_of_getElem? (i := 8) rfl)) (hw _ (List.mem_of_getElem? (i := 9) rfl)) e114 (g := (mkF m 150 #[.val (.int p0), .val (.int p1), .val (.int ((p0 &&& (2147483647 : Int32)) % (5 : Int32))), .val (.int b3), .val (.ref w1), .val (.ref u1), .unset] [])) rfl (hb hby at_150) (by decide) (by decide)
        obtain ⟨b117, g117⟩ : ∃ z, z = h0.size := ⟨_, rfl⟩
        rw [← g117] at A117 D117 st117
        have gb117 : n0 ≤ b117 := Nat.le_trans Z0 (Nat.le_of_eq g117.symm)
        have F_width_b117 : Fld Z h117 b117 "com/example/nextkey/nextkey/model/ColumnType$Int" "width" "Lcom/example/nextkey/nextkey/model/ColumnType$Int$Width;" .null := D117 (Or.inr (hw _ (List.mem_of_getElem? (i := 34) rfl))) (ty := (.object "com/example/nextkey/nextkey/model/ColumnType$Int$Width")) (by decide)
        have F_unsigned_b117 : Fld Z h117 b117 "com/example/nextkey/nextkey/model/ColumnType$Int" "unsigned" "Z" (.int (0 : Int32)) := D117 (Or.inr (hw _ (List.mem_of_getElem? (i := 36) rfl))) (ty := .boolean) (by decide)
        have c118 : Goes p e below s₁ (entryFrame m #[(.int p0), (.int p1)] maxLocals) T117 (mkF m 153 #[.val (.int p0), .val (.int p1), .val (.int ((p0 &&& (2147483647 : Int32)) % (5 : Int32))), .val (.int b3), .val (.ref w1), .val (.ref u1), .unset] [(.ref b117)]) := fun t kk => c116 t (st117 t kk)
        have f119 := (Nat.le_trans Z0 E117.1)
        have c120 : Goes p e below s₁ (entryFrame m #[(.int p0), (.int p1)] maxLocals) T117 (mkF m 157 #[.val (.int p0), .val (.int p1), .val (.int ((p0 &&& (2147483647 : Int32)) % (5 : Int32))), .val (.int b3), .val (.ref w1), .val (.ref u1), .unset] [(.int b3), (.ref w1), (.ref b117), (.ref b117)]) := by
          intro t kk
          refine c118 t ?_
          show Steps p.tables e below (T117.setTop (mkF m 153 #[.val (.int p0), .val (.int p1), .val (.int ((p0 &&& (2147483647 : Int32)) % (5 : Int32))), .val (.int b3), .val (.ref w1), .val (.ref u1), .unset] [(.ref b117)])) t
          refine XS.dup X117.here hx rfl (hb hby at_153) rfl rfl ?_
          show Steps p.tables e below (T117.setTop (mkF m 154 #[.val (.int p0), .val (.int p1), .val (.int ((p0 &&& (2147483647 : Int32)) % (5 : Int32))), .val (.int b3), .val (.ref w1), .val (.ref u1), .unset] [(.ref b117), (.ref b117)])) t
          refine XS.aload X117.here hx rfl (hb hby at_154) rfl rfl ?_
          show Steps p.tables e below (T117.setTop (mkF m 156 #[.val (.int p0), .val (.int p1), .val (.int ((p0 &&& (2147483647 : Int32)) % (5 : Int32))), .val (.int b3), .val (.ref w1), .val (.ref u1), .unset] [(.ref w1), (.ref b117), (.ref b117)])) t
          refine XS.iloadN X117.here hx rfl (hb hby at_156) rfl ?_
          exact kk
        obtain ⟨_, _, ⟨T121, L121, k121, n121⟩, -, XX121, SS121, gr121, ⟨Lc121, hQ121, l121, y121, z121⟩, st121⟩ := X117.specialBackS hx (y := (⟨"com/example/nextkey/nextkey/model/ColumnType$Int", "<init>", "(Lcom/example/nextkey/nextkey/model/ColumnType$Int$Width;Z)V"⟩ : MethodName)) rfl hown (mvT hZ (hw _ (List.mem_of_getElem? (i := 10) rfl))) (mvT hZ (hw _ (List.mem_of_getElem? (i := 11) rfl))) (mvT hZ (hw _ (List.mem_of_getElem? (i := 12) rfl))) (by decide) (backOfS (W := 1) (rm_init l Z a0 hw [] b117 w1 b3 h117 n0 f119 F_width_b117 F_unsigned_b117 A117 gb117) hZ (hw _ (List.mem_of_getElem? (i := 12) rfl)) (hw _ (List.mem_of_getElem? (i := 9) rfl)) (by decide) (by decide)) (g := (mkF m 157 #[.val (.int p0), .val (.int p1), .val (.int ((p0 &&& (2147483647 : Int32)) % (5 : Int32))), .val (.int b3), .val (.ref w1), .val (.ref u1), .unset] [(.int b3), (.ref w1), (.ref b117), (.ref b117)])) rfl (by rw [hml]; rfl) (Steps.refl _) (a := b117) (argsL := [(.ref w1), (.int b3)]) (rest := [(.ref b117)]) (lenOf pd__Lcom_example_nextkey_nextkey_model_ColumnType_Int_Width_Z_V rfl) rfl (by show 2 * 0 + _ ≤ _; exact Nat.le_of_eq rfl) (hb hby at_157) (fun _ _ => ⟨rfl, e117, (by decide : 1 + 2 ≤ _), (by decide : 2 + 24 ≤ _)⟩)
        have f122 := (Nat.le_trans (Nat.zero_le _) E117.1)
        obtain ⟨X121, S121, hZ121, ho121⟩ := rebS SW0 (by rw [e117]; exact f122 : _ ≤ T117.heap.size) XX121 SS121 gr121 hZ hown
        dsimp only [Pt.U, Pt.locs, Pt.cells, Pt.slots] at S121 hZ121 ho121 X121 l121 y121 z121 st121 hQ121
        subst l121 y121 z121
        obtain ⟨rfl, Nq121, Kq121, Eq121, Fq121_1, Fq121_2⟩ := hQ121
        have N121 := Fr.app N0 Nq121
        have c123 : Goes p e below s₁ (entryFrame m #[(.int p0), (.int p1)] maxLocals) T121 (mkF m 160 #[.val (.int p0), .val (.int p1), .val (.int ((p0 &&& (2147483647 : Int32)) % (5 : Int32))), .val (.int b3), .val (.ref w1), .val (.ref u1), .unset] [(.ref b117)]) := fun t kk => c120 t (st121.trans kk)
        have f124 := ((O0.ext E117).keep Kq121 (allS gb117 all0))
        have f125 := (Nat.le_trans f119 Kq121.1)
        have c126 : Goes p e below s₁ (entryFrame m #[(.int p0), (.int p1)] maxLocals) T121 (mkF m 164 #[.val (.int p0), .val (.int p1), .val (.int ((p0 &&& (2147483647 : Int32)) % (5 : Int32))), .val (.int b3), .val (.ref w1), .val (.ref u1), .val (.ref b117)] [(.ref b117)]) := by
          intro t kk
          refine c123 t ?_
          show Steps p.tables e below (T121.setTop (mkF m 160 #[.val (.int p0), .val (.int p1), .val (.int ((p0 &&& (2147483647 : Int32)) % (5 : Int32))), .val (.int b3), .val (.ref w1), .val (.ref u1), .unset] [(.ref b117)])) t
          refine XS.astore X121.here hx rfl (hb hby at_160) rfl rfl (l' := #[.val (.int p0), .val (.int p1), .val (.int ((p0 &&& (2147483647 : Int32)) % (5 : Int32))), .val (.int b3), .val (.ref w1), .val (.ref u1), .val (.ref b117)]) rfl ?_
          show Steps p.tables e below (T121.setTop (mkF m 162 #[.val (.int p0), .val (.int p1), .val (.int ((p0 &&& (2147483647 : Int32)) % (5 : Int32))), .val (.int b3), .val (.ref w1), .val (.ref u1), .val (.ref b117)] [])) t
          refine XS.aload X121.here hx rfl (hb hby at_162) rfl rfl ?_
          exact kk
        obtain ⟨cq127, kq127, q127a, q127b, q127c⟩ := isOf hZ121 rfl Eq121
        obtain ⟨_, _, ⟨T127, L127, k127, n127⟩, -, X127, ⟨Lc127, hQ127, l127, y127, z127⟩, st127⟩ := X121.virtualBack hx (y := (⟨"com/example/nextkey/nextkey/model/ColumnType$Int", "resultType", "()Lcom/example/nextkey/nextkey/model/ResultType;"⟩ : MethodName)) (z := (⟨"com/example/nextkey/nextkey/model/ColumnType$Int", "resultType", "()Lcom/example/nextkey/nextkey/model/ResultType;"⟩ : MethodName)) ho121 (mvT hZ121 (hw _ (List.mem_of_getElem? (i := 37) rfl))) (mvT hZ121 (hw _ (List.mem_of_getElem? (i := 38) rfl))) (notFace_of_selects (args := #[]) (mvT hZ121 (hw _ (List.mem_of_getElem? (i := 40) rfl)))) (mvT hZ121 (hw _ (List.mem_of_getElem? (i := 40) rfl))) (mvT hZ121 (hw _ (List.mem_of_getElem? (i := 39) rfl))) (by decide) (backOf (W := 0) (rm_rt l Z a0 hw [] b117 w1 (nar .boolean b3) s1 u1 T121.heap n0 f125 Fq121_2 Fq121_1 (Fs_1.ext f124.2) (Ft_1.ext f124.2)) hZ121 (hw _ (List.mem_of_getElem? (i := 41) rfl)) (hw _ (List.mem_of_getElem? (i := 9) rfl)) (by decide) (by decide)) q127a q127c (g := (mkF m 164 #[.val (.int p0), .val (.int p1), .val (.int ((p0 &&& (2147483647 : Int32)) % (5 : Int32))), .val (.int b3), .val (.ref w1), .val (.ref u1), .val (.ref b117)] [(.ref b117)])) rfl (by rw [hml]; rfl) (Steps.refl _) (argsL := []) (rest := []) (lenOf pd___Lcom_example_nextkey_nextkey_model_ResultType_ rfl) rfl (by show 2 * 0 + _ ≤ _; exact Nat.le_of_eq rfl) (hb hby at_164) (fun _ _ => ⟨rfl, rfl, (by decide : 3 + 0 ≤ _), (by decide : 26 + 0 ≤ _)⟩)
        dsimp only [Pt.U, Pt.locs, Pt.cells, Pt.slots] at X127 l127 y127 z127 st127 hQ127
        subst l127 y127 z127
        obtain ⟨rfl, Nq127, eq127⟩ := hQ127
        have N127 := Fr.app N121 Nq127
        have c128 : Goes p e below s₁ (entryFrame m #[(.int p0), (.int p1)] maxLocals) T127 (mkF m 167 #[.val (.int p0), .val (.int p1), .val (.int ((p0 &&& (2147483647 : Int32)) % (5 : Int32))), .val (.int b3), .val (.ref w1), .val (.ref u1), .val (.ref b117)] [(.ref (own_rt (nar .boolean b3) s1 u1))]) := fun t kk => c126 t (st127.trans kk)
        have c129 : Goes p e below s₁ (entryFrame m #[(.int p0), (.int p1)] maxLocals) T127 (mkF m 177 #[.val (.int p0), .val (.int p1), .val (.int ((p0 &&& (2147483647 : Int32)) % (5 : Int32))), .val (.int b3), .val (.ref w1), .val (.ref u1), .val (.ref b117)] [(.int (1 : Int32))]) := by
          intro t kk
          refine c128 t ?_
          show Steps p.tables e below (T127.setTop (mkF m 167 #[.val (.int p0), .val (.int p1), .val (.int ((p0 &&& (2147483647 : Int32)) % (5 : Int32))), .val (.int b3), .val (.ref w1), .val (.ref u1), .val (.ref b117)] [(.ref (own_rt (nar .boolean b3) s1 u1))])) t
          refine XS.aload X127.here hx rfl (hb hby at_167) rfl rfl ?_
          show Steps p.tables e below (T127.setTop (mkF m 169 #[.val (.int p0), .val (.int p1), .val (.int ((p0 &&& (2147483647 : Int32)) % (5 : Int32))), .val (.int b3), .val (.ref w1), .val (.ref u1), .val (.ref b117)] [(.ref u1), (.ref (own_rt (nar .boolean b3) s1 u1))])) t
          refine Jvm.RoadKit.acmp (g := (mkF m 169 #[.val (.int p0), .val (.int p1), .val (.int ((p0 &&& (2147483647 : Int32)) % (5 : Int32))), .val (.int b3), .val (.ref w1), .val (.ref u1), .val (.ref b117)] [(.ref u1), (.ref (own_rt (nar .boolean b3) s1 u1))])) X127 hx rfl rfl rfl (pc0 := 169) (pc' := 172) (same := true) rfl (hb hby at_169) rfl (decide_eq_true (congrArg Value.ref (own_rt1 hm44 hc57_95))) (by decide) (by decide) ?_
          show Steps p.tables e below (T127.setTop (mkF m 172 #[.val (.int p0), .val (.int p1), .val (.int ((p0 &&& (2147483647 : Int32)) % (5 : Int32))), .val (.int b3), .val (.ref w1), .val (.ref u1), .val (.ref b117)] [])) t
          refine XS.iconst X127.here hx rfl (hb hby at_172) ?_
          show Steps p.tables e below (T127.setTop (mkF m 173 #[.val (.int p0), .val (.int p1), .val (.int ((p0 &&& (2147483647 : Int32)) % (5 : Int32))), .val (.int b3), .val (.ref w1), .val (.ref u1), .val (.ref b117)] [(.int (1 : Int32))])) t
          refine XS.goto X127.here hx rfl (pc0 := 173) (pc' := 177) rfl (hb hby at_173) (by decide) (by decide) ?_
          exact kk
        obtain ⟨fs, hr, hrun, hended, hRW⟩ := X127.leaveW S121 (by rw [eq127]; exact (Nat.le_refl _)) (v := some (.int (1 : Int32))) (fun h => by rw [Bd.returns] at h; cases h)
        refine ⟨_, _, c129 _ ?_, hrun, hended, _, _, rfl, ?_, hRW.1, hRW.2.1, hRW.2.2.1, hRW.2.2.2.mono (by decide) (by decide)⟩
        · exact retN X127 hx (t := .boolean) Bd.returns (by simp) (hb hby at_177) hr
        · show Q_law Z p0 p1 w0 w1 w2 w3 w4 u0 u1 u2 u3 u4 s0 s1 s2 s3 s4 h0 n0 _ T127.heap _
          rw [eq127]
          exact ⟨rfl, N127⟩
    · have c130 : Goes p e below s₁ (entryFrame m #[(.int p0), (.int p1)] maxLocals) s₁ (mkF m 76 #[.val (.int p0), .val (.int p1), .val (.int ((p0 &&& (2147483647 : Int32)) % (5 : Int32))), .val (.int b3), .unset, .unset, .unset] [(.int (2 : Int32)), (.int ((p0 &&& (2147483647 : Int32)) % (5 : Int32)))]) := by
        intro t kk
        refine c89 t ?_
        show Steps p.tables e below (s₁.setTop (mkF m 48 #[.val (.int p0), .val (.int p1), .val (.int ((p0 &&& (2147483647 : Int32)) % (5 : Int32))), .val (.int b3), .unset, .unset, .unset] [(.int (1 : Int32)), (.int ((p0 &&& (2147483647 : Int32)) % (5 : Int32)))])) t
        refine XS.icmpYes XW0.here hx rfl (pc0 := 48) (pc' := 74) rfl (hb hby at_48) rfl (feq hc48_90).2 (by decide) (by decide) ?_
        show Steps p.tables e below (s₁.setTop (mkF m 74 #[.val (.int p0), .val (.int p1), .val (.int ((p0 &&& (2147483647 : Int32)) % (5 : Int32))), .val (.int b3), .unset, .unset, .unset] [])) t
        refine XS.iloadN XW0.here hx rfl (hb hby at_74) rfl ?_
        show Steps p.tables e below (s₁.setTop (mkF m 75 #[.val (.int p0), .val (.int p1), .val (.int ((p0 &&& (2147483647 : Int32)) % (5 : Int32))), .val (.int b3), .unset, .unset, .unset] [(.int ((p0 &&& (2147483647 : Int32)) % (5 : Int32)))])) t
        refine XS.iconst XW0.here hx rfl (hb hby at_75) ?_
        exact kk
      by_cases hc76_131 : ((p0 &&& (2147483647 : Int32)) % (5 : Int32)) = (2 : Int32)
      · have c132 : Goes p e below s₁ (entryFrame m #[(.int p0), (.int p1)] maxLocals) s₁ (mkF m 79 #[.val (.int p0), .val (.int p1), .val (.int ((p0 &&& (2147483647 : Int32)) % (5 : Int32))), .val (.int b3), .unset, .unset, .unset] []) := by
          intro t kk
          refine c130 t ?_
          show Steps p.tables e below (s₁.setTop (mkF m 76 #[.val (.int p0), .val (.int p1), .val (.int ((p0 &&& (2147483647 : Int32)) % (5 : Int32))), .val (.int b3), .unset, .unset, .unset] [(.int (2 : Int32)), (.int ((p0 &&& (2147483647 : Int32)) % (5 : Int32)))])) t
          refine XS.icmpNo XW0.here hx rfl (hb hby at_76) rfl (teq hc76_131).2 ?_
          exact kk
        obtain ⟨T133, X133, e133, st133⟩ := getS2 XW0 hx hZ hown (host := "") (Or.inl (hw _ (List.mem_of_getElem? (i := 58) rfl))) Via.refl e0 (S_w2.ext O0.2) (g := (mkF m 79 #[.val (.int p0), .val (.int p1), .val (.int ((p0 &&& (2147483647 : Int32)) % (5 : Int32))), .val (.int b3), .unset, .unset, .unset] [])) rfl (hb hby at_79)
        have c134 : Goes p e below s₁ (entryFrame m #[(.int p0), (.int p1)] maxLocals) T133 (mkF m 82 #[.val (.int p0), .val (.int p1), .val (.int ((p0 &&& (2147483647 : Int32)) % (5 : Int32))), .val (.int b3), .unset, .unset, .unset] [(.ref w2)]) := fun t kk => c132 t (st133 t kk)
        have c135 : Goes p e below s₁ (entryFrame m #[(.int p0), (.int p1)] maxLocals) T133 (mkF m 85 #[.val (.int p0), .val (.int p1), .val (.int ((p0 &&& (2147483647 : Int32)) % (5 : Int32))), .val (.int b3), .val (.ref w2), .unset, .unset] [(.int b3)]) := by
          intro t kk
          refine c134 t ?_
          show Steps p.tables e below (T133.setTop (mkF m 82 #[.val (.int p0), .val (.int p1), .val (.int ((p0 &&& (2147483647 : Int32)) % (5 : Int32))), .val (.int b3), .unset, .unset, .unset] [(.ref w2)])) t
          refine XS.astore X133.here hx rfl (hb hby at_82) rfl rfl (l' := #[.val (.int p0), .val (.int p1), .val (.int ((p0 &&& (2147483647 : Int32)) % (5 : Int32))), .val (.int b3), .val (.ref w2), .unset, .unset]) rfl ?_
          show Steps p.tables e below (T133.setTop (mkF m 84 #[.val (.int p0), .val (.int p1), .val (.int ((p0 &&& (2147483647 : Int32)) % (5 : Int32))), .val (.int b3), .val (.ref w2), .unset, .unset] [])) t
          refine XS.iloadN X133.here hx rfl (hb hby at_84) rfl ?_
          exact kk
        by_cases hc85_136 : b3 = (0 : Int32)
        · have c137 : Goes p e below s₁ (entryFrame m #[(.int p0), (.int p1)] maxLocals) T133 (mkF m 94 #[.val (.int p0), .val (.int p1), .val (.int ((p0 &&& (2147483647 : Int32)) % (5 : Int32))), .val (.int b3), .val (.ref w2), .unset, .unset] []) := by
            intro t kk
            refine c135 t ?_
            show Steps p.tables e below (T133.setTop (mkF m 85 #[.val (.int p0), .val (.int p1), .val (.int ((p0 &&& (2147483647 : Int32)) % (5 : Int32))), .val (.int b3), .val (.ref w2), .unset, .unset] [(.int b3)])) t
            refine XS.ifYes X133.here hx rfl (pc0 := 85) (pc' := 94) rfl (hb hby at_85) rfl ((if0 _ _).trans (teq hc85_136).1) (by decide) (by decide) ?_
            exact kk
          obtain ⟨T138, X138, e138, st138⟩ := getS2 X133 hx hZ hown (host := "") (Or.inl (hw _ (List.mem_of_getElem? (i := 66) rfl))) Via.refl e133 (S_s2.ext O0.2) (g := (mkF m 94 #[.val (.int p0), .val (.int p1), .val (.int ((p0 &&& (2147483647 : Int32)) % (5 : Int32))), .val (.int b3), .val (.ref w2), .unset, .unset] [])) rfl (hb hby at_94)
          have c139 : Goes p e below s₁ (entryFrame m #[(.int p0), (.int p1)] maxLocals) T138 (mkF m 97 #[.val (.int p0), .val (.int p1), .val (.int ((p0 &&& (2147483647 : Int32)) % (5 : Int32))), .val (.int b3), .val (.ref w2), .unset, .unset] [(.ref s2)]) := fun t kk => c137 t (st138 t kk)
          have c140 : Goes p e below s₁ (entryFrame m #[(.int p0), (.int p1)] maxLocals) T138 (mkF m 150 #[.val (.int p0), .val (.int p1), .val (.int ((p0 &&& (2147483647 : Int32)) % (5 : Int32))), .val (.int b3), .val (.ref w2), .val (.ref s2), .unset] []) := by
            intro t kk
            refine c139 t ?_
            show Steps p.tables e below (T138.setTop (mkF m 97 #[.val (.int p0), .val (.int p1), .val (.int ((p0 &&& (2147483647 : Int32)) % (5 : Int32))), .val (.int b3), .val (.ref w2), .unset, .unset] [(.ref s2)])) t
            refine XS.astore X138.here hx rfl (hb hby at_97) rfl rfl (l' := #[.val (.int p0), .val (.int p1), .val (.int ((p0 &&& (2147483647 : Int32)) % (5 : Int32))), .val (.int b3), .val (.ref w2), .val (.ref s2), .unset]) rfl ?_
            show Steps p.tables e below (T138.setTop (mkF m 99 #[.val (.int p0), .val (.int p1), .val (.int ((p0 &&& (2147483647 : Int32)) % (5 : Int32))), .val (.int b3), .val (.ref w2), .val (.ref s2), .unset] [])) t
            refine XS.goto X138.here hx rfl (pc0 := 99) (pc' := 150) rfl (hb hby at_99) (by decide) (by decide) ?_
            exact kk
          obtain ⟨T141, h141, X141, e141, E141, A141, D141, -, st141⟩ := newO X138 hx hZ hown (hw _ (List.mem_of_getElem? (i := 7) rfl)) (hw _ (List.mem_of_getElem? (i := 8) rfl)) (hw _ (List.mem_of_getElem? (i := 9) rfl)) e138 (g := (mkF m 150 #[.val (.int p0), .val (.int p1), .val (.int ((p0 &&& (2147483647 : Int32)) % (5 : Int32))), .val (.int b3), .val (.ref w2), .val (.ref s2), .unset] [])) rfl (hb hby at_150) (by decide) (by decide)
          obtain ⟨b141, g141⟩ : ∃ z, z = h0.size := ⟨_, rfl⟩
          rw [← g141] at A141 D141 st141
          have gb141 : n0 ≤ b141 := Nat.le_trans Z0 (Nat.le_of_eq g141.symm)
          have F_width_b141 : Fld Z h141 b141 "com/example/nextkey/nextkey/model/ColumnType$Int" "width" "Lcom/example/nextkey/nextkey/model/ColumnType$Int$Width;" .null := D141 (Or.inr (hw _ (List.mem_of_getElem? (i := 34) rfl))) (ty := (.object "com/example/nextkey/nextkey/model/ColumnType$Int$Width")) (by decide)
          have F_unsigned_b141 : Fld Z h141 b141 "com/example/nextkey/nextkey/model/ColumnType$Int" "unsigned" "Z" (.int (0 : Int32)) := D141 (Or.inr (hw _ (List.mem_of_getElem? (i := 36) rfl))) (ty := .boolean) (by decide)
          have c142 : Goes p e below s₁ (entryFrame m #[(.int p0), (.int p1)] maxLocals) T141 (mkF m 153 #[.val (.int p0), .val (.int p1), .val (.int ((p0 &&& (2147483647 : Int32)) % (5 : Int32))), .val (.int b3), .val (.ref w2), .val (.ref s2), .unset] [(.ref b141)]) := fun t kk => c140 t (st141 t kk)
          have f143 := (Nat.le_trans Z0 E141.1)
          have c144 : Goes p e below s₁ (entryFrame m #[(.int p0), (.int p1)] maxLocals) T141 (mkF m 157 #[.val (.int p0), .val (.int p1), .val (.int ((p0 &&& (2147483647 : Int32)) % (5 : Int32))), .val (.int b3), .val (.ref w2), .val (.ref s2), .unset] [(.int b3), (.ref w2), (.ref b141), (.ref b141)]) := by
            intro t kk
            refine c142 t ?_
            show Steps p.tables e below (T141.setTop (mkF m 153 #[.val (.int p0), .val (.int p1), .val (.int ((p0 &&& (2147483647 : Int32)) % (5 : Int32))), .val (.int b3), .val (.ref w2), .val (.ref s2), .unset] [(.ref b141)])) t
            refine XS.dup X141.here hx rfl (hb hby at_153) rfl rfl ?_
            show Steps p.tables e below (T141.setTop (mkF m 154 #[.val (.int p0), .val (.int p1), .val (.int ((p0 &&& (2147483647 : Int32)) % (5 : Int32))), .val (.int b3), .val (.ref w2), .val (.ref s2), .unset] [(.ref b141), (.ref b141)])) t
            refine XS.aload X141.here hx rfl (hb hby at_154) rfl rfl ?_
            show Steps p.tables e below (T141.setTop (mkF m 156 #[.val (.int p0), .val (.int p1), .val (.int ((p0 &&& (2147483647 : Int32)) % (5 : Int32))), .val (.int b3), .val (.ref w2), .val (.ref s2), .unset] [(.ref w2), (.ref b141), (.ref b141)])) t
            refine XS.iloadN X141.here hx rfl (hb hby at_156) rfl ?_
            exact kk
          obtain ⟨_, _, ⟨T145, L145, k145, n145⟩, -, XX145, SS145, gr145, ⟨Lc145, hQ145, l145, y145, z145⟩, st145⟩ := X141.specialBackS hx (y := (⟨"com/example/nextkey/nextkey/model/ColumnType$Int", "<init>", "(Lcom/example/nextkey/nextkey/model/ColumnType$Int$Width;Z)V"⟩ : MethodName)) rfl hown (mvT hZ (hw _ (List.mem_of_getElem? (i := 10) rfl))) (mvT hZ (hw _ (List.mem_of_getElem? (i := 11) rfl))) (mvT hZ (hw _ (List.mem_of_getElem? (i := 12) rfl))) (by decide) (backOfS (W := 1) (rm_init l Z a0 hw [] b141 w2 b3 h141 n0 f143 F_width_b141 F_unsigned_b141 A141 gb141) hZ (hw _ (List.mem_of_getElem? (i := 12) rfl)) (hw _ (List.mem_of_getElem? (i := 9) rfl)) (by decide) (by decide)) (g := (mkF m 157 #[.val (.int p0), .val (.int p1), .val (.int ((p0 &&& (2147483647 : Int32)) % (5 : Int32))), .val (.int b3), .val (.ref w2), .val (.ref s2), .unset] [(.int b3), (.ref w2), (.ref b141), (.ref b141)])) rfl (by rw [hml]; rfl) (Steps.refl _) (a := b141) (argsL := [(.ref w2), (.int b3)]) (rest := [(.ref b141)]) (lenOf pd__Lcom_example_nextkey_nextkey_model_ColumnType_Int_Width_Z_V rfl) rfl (by show 2 * 0 + _ ≤ _; exact Nat.le_of_eq rfl) (hb hby at_157) (fun _ _ => ⟨rfl, e141, (by decide : 1 + 2 ≤ _), (by decide : 2 + 24 ≤ _)⟩)
          have f146 := (Nat.le_trans (Nat.zero_le _) E141.1)
          obtain ⟨X145, S145, hZ145, ho145⟩ := rebS SW0 (by rw [e141]; exact f146 : _ ≤ T141.heap.size) XX145 SS145 gr145 hZ hown
          dsimp only [Pt.U, Pt.locs, Pt.cells, Pt.slots] at S145 hZ145 ho145 X145 l145 y145 z145 st145 hQ145
          subst l145 y145 z145
          obtain ⟨rfl, Nq145, Kq145, Eq145, Fq145_1, Fq145_2⟩ := hQ145
          have N145 := Fr.app N0 Nq145
          have c147 : Goes p e below s₁ (entryFrame m #[(.int p0), (.int p1)] maxLocals) T145 (mkF m 160 #[.val (.int p0), .val (.int p1), .val (.int ((p0 &&& (2147483647 : Int32)) % (5 : Int32))), .val (.int b3), .val (.ref w2), .val (.ref s2), .unset] [(.ref b141)]) := fun t kk => c144 t (st145.trans kk)
          have f148 := ((O0.ext E141).keep Kq145 (allS gb141 all0))
          have f149 := (Nat.le_trans f143 Kq145.1)
          have c150 : Goes p e below s₁ (entryFrame m #[(.int p0), (.int p1)] maxLocals) T145 (mkF m 164 #[.val (.int p0), .val (.int p1), .val (.int ((p0 &&& (2147483647 : Int32)) % (5 : Int32))), .val (.int b3), .val (.ref w2), .val (.ref s2), .val (.ref b141)] [(.ref b141)]) := by
            intro t kk
            refine c147 t ?_
            show Steps p.tables e below (T145.setTop (mkF m 160 #[.val (.int p0), .val (.int p1), .val (.int ((p0 &&& (2147483647 : Int32)) % (5 : Int32))), .val (.int b3), .val (.ref w2), .val (.ref s2), .unset] [(.ref b141)])) t
            refine XS.astore X145.here hx rfl (hb hby at_160) rfl rfl (l' := #[.val (.int p0), .val (.int p1), .val (.int ((p0 &&& (2147483647 : Int32)) % (5 : Int32))), .val (.int b3), .val (.ref w2), .val (.ref s2), .val (.ref b141)]) rfl ?_
            show Steps p.tables e below (T145.setTop (mkF m 162 #[.val (.int p0), .val (.int p1), .val (.int ((p0 &&& (2147483647 : Int32)) % (5 : Int32))), .val (.int b3), .val (.ref w2), .val (.ref s2), .val (.ref b141)] [])) t
            refine XS.aload X145.here hx rfl (hb hby at_162) rfl rfl ?_
            exact kk
          obtain ⟨cq151, kq151, q151a, q151b, q151c⟩ := isOf hZ145 rfl Eq145
          obtain ⟨_, _, ⟨T151, L151, k151, n151⟩, -, X151, ⟨Lc151, hQ151, l151, y151, z151⟩, st151⟩ := X145.virtualBack hx (y := (⟨"com/example/nextkey/nextkey/model/ColumnType$Int", "resultType", "()Lcom/example/nextkey/nextkey/model/ResultType;"⟩ : MethodName)) (z := (⟨"com/example/nextkey/nextkey/model/ColumnType$Int", "resultType", "()Lcom/example/nextkey/nextkey/model/ResultType;"⟩ : MethodName)) ho145 (mvT hZ145 (hw _ (List.mem_of_getElem? (i := 37) rfl))) (mvT hZ145 (hw _ (List.mem_of_getElem? (i := 38) rfl))) (notFace_of_selects (args := #[]) (mvT hZ145 (hw _ (List.mem_of_getElem? (i := 40) rfl)))) (mvT hZ145 (hw _ (List.mem_of_getElem? (i := 40) rfl))) (mvT hZ145 (hw _ (List.mem_of_getElem? (i := 39) rfl))) (by decide) (backOf (W := 0) (rm_rt l Z a0 hw [] b141 w2 (nar .boolean b3) s2 u2 T145.heap n0 f149 Fq145_2 Fq145_1 (Fs_2.ext f148.2) (Ft_2.ext f148.2)) hZ145 (hw _ (List.mem_of_getElem? (i := 41) rfl)) (hw _ (List.mem_of_getElem? (i := 9) rfl)) (by decide) (by decide)) q151a q151c (g := (mkF m 164 #[.val (.int p0), .val (.int p1), .val (.int ((p0 &&& (2147483647 : Int32)) % (5 : Int32))), .val (.int b3), .val (.ref w2), .val (.ref s2), .val (.ref b141)] [(.ref b141)])) rfl (by rw [hml]; rfl) (Steps.refl _) (argsL := []) (rest := []) (lenOf pd___Lcom_example_nextkey_nextkey_model_ResultType_ rfl) rfl (by show 2 * 0 + _ ≤ _; exact Nat.le_of_eq rfl) (hb hby at_164) (fun _ _ => ⟨rfl, rfl, (by decide : 3 + 0 ≤ _), (by decide : 26 + 0 ≤ _)⟩)
          dsimp only [Pt.U, Pt.locs, Pt.cells, Pt.slots] at X151 l151 y151 z151 st151 hQ151
          subst l151 y151 z151
          obtain ⟨rfl, Nq151, eq151⟩ := hQ151
          have N151 := Fr.app N145 Nq151
          have c152 : Goes p e below s₁ (entryFrame m #[(.int p0), (.int p1)] maxLocals) T151 (mkF m 167 #[.val (.int p0), .val (.int p1), .val (.int ((p0 &&& (2147483647 : Int32)) % (5 : Int32))), .val (.int b3), .val (.ref w2), .val (.ref s2), .val (.ref b141)] [(.ref (own_rt (nar .boolean b3) s2 u2))]) := fun t kk => c150 t (st151.trans kk)
          have c153 : Goes p e below s₁ (entryFrame m #[(.int p0), (.int p1)] maxLocals) T151 (mkF m 177 #[.val (.int p0), .val (.int p1), .val (.int ((p0 &&& (2147483647 : Int32)) % (5 : Int32))), .val (.int b3), .val (.ref w2), .val (.ref s2), .val (.ref b141)] [(.int (1 : Int32))]) := by
            intro t kk
            refine c152 t ?_
            show Steps p.tables e below (T151.setTop (mkF m 167 #[.val (.int p0), .val (.int p1), .val (.int ((p0 &&& (2147483647 : Int32)) % (5 : Int32))), .val (.int b3), .val (.ref w2), .val (.ref s2), .val (.ref b141)] [(.ref (own_rt (nar .boolean b3) s2 u2))])) t
            refine XS.aload X151.here hx rfl (hb hby at_167) rfl rfl ?_
            show Steps p.tables e below (T151.setTop (mkF m 169 #[.val (.int p0), .val (.int p1), .val (.int ((p0 &&& (2147483647 : Int32)) % (5 : Int32))), .val (.int b3), .val (.ref w2), .val (.ref s2), .val (.ref b141)] [(.ref s2), (.ref (own_rt (nar .boolean b3) s2 u2))])) t
            refine Jvm.RoadKit.acmp (g := (mkF m 169 #[.val (.int p0), .val (.int p1), .val (.int ((p0 &&& (2147483647 : Int32)) % (5 : Int32))), .val (.int b3), .val (.ref w2), .val (.ref s2), .val (.ref b141)] [(.ref s2), (.ref (own_rt (nar .boolean b3) s2 u2))])) X151 hx rfl rfl rfl (pc0 := 169) (pc' := 172) (same := true) rfl (hb hby at_169) rfl (decide_eq_true (congrArg Value.ref (own_rt0 hc85_136))) (by decide) (by decide) ?_
            show Steps p.tables e below (T151.setTop (mkF m 172 #[.val (.int p0), .val (.int p1), .val (.int ((p0 &&& (2147483647 : Int32)) % (5 : Int32))), .val (.int b3), .val (.ref w2), .val (.ref s2), .val (.ref b141)] [])) t
            refine XS.iconst X151.here hx rfl (hb hby at_172) ?_
            show Steps p.tables e below (T151.setTop (mkF m 173 #[.val (.int p0), .val (.int p1), .val (.int ((p0 &&& (2147483647 : Int32)) % (5 : Int32))), .val (.int b3), .val (.ref w2), .val (.ref s2), .val (.ref b141)] [(.int (1 : Int32))])) t
            refine XS.goto X151.here hx rfl (pc0 := 173) (pc' := 177) rfl (hb hby at_173) (by decide) (by decide) ?_
            exact kk
          obtain ⟨fs, hr, hrun, hended, hRW⟩ := X151.leaveW S145 (by rw [eq151]; exact (Nat.le_refl _)) (v := some (.int (1 : Int32))) (fun h => by rw [Bd.returns] at h; cases h)
          refine ⟨_, _, c153 _ ?_, hrun, hended, _, _, rfl, ?_, hRW.1, hRW.2.1, hRW.2.2.1, hRW.2.2.2.mono (by decide) (by decide)⟩
          · exact retN X151 hx (t := .boolean) Bd.returns (by simp) (hb hby at_177) hr
          · show Q_law Z p0 p1 w0 w1 w2 w3 w4 u0 u1 u2 u3 u4 s0 s1 s2 s3 s4 h0 n0 _ T151.heap _
            rw [eq151]
            exact ⟨rfl, N151⟩
        · have c154 : Goes p e below s₁ (entryFrame m #[(.int p0), (.int p1)] maxLocals) T133 (mkF m 88 #[.val (.int p0), .val (.int p1), .val (.int ((p0 &&& (2147483647 : Int32)) % (5 : Int32))), .val (.int b3), .val (.ref w2), .unset, .unset] []) := by
            intro t kk
            refine c135 t ?_
            show Steps p.tables e below (T133.setTop (mkF m 85 #[.val (.int p0), .val (.int p1), .val (.int ((p0 &&& (2147483647 : Int32)) % (5 : Int32))), .val (.int b3), .val (.ref w2), .unset, .unset] [(.int b3)])) t
            refine XS.ifNo X133.here hx rfl (hb hby at_85) rfl ((if0 _ _).trans (feq hc85_136).1) ?_
            exact kk
          obtain ⟨T155, X155, e155, st155⟩ := getS2 X133 hx hZ hown (host := "") (Or.inl (hw _ (List.mem_of_getElem? (i := 60) rfl))) Via.refl e133 (S_u2.ext O0.2) (g := (mkF m 88 #[.val (.int p0), .val (.int p1), .val (.int ((p0 &&& (2147483647 : Int32)) % (5 : Int32))), .val (.int b3), .val (.ref w2), .unset, .unset] [])) rfl (hb hby at_88)
          have c156 : Goes p e below s₁ (entryFrame m #[(.int p0), (.int p1)] maxLocals) T155 (mkF m 91 #[.val (.int p0), .val (.int p1), .val (.int ((p0 &&& (2147483647 : Int32)) % (5 : Int32))), .val (.int b3), .val (.ref w2), .unset, .unset] [(.ref u2)]) := fun t kk => c154 t (st155 t kk)
          have c157 : Goes p e below s₁ (entryFrame m #[(.int p0), (.int p1)] maxLocals) T155 (mkF m 150 #[.val (.int p0), .val (.int p1), .val (.int ((p0 &&& (2147483647 : Int32)) % (5 : Int32))), .val (.int b3), .val (.ref w2), .val (.ref u2), .unset] []) := by
            intro t kk
            refine c156 t ?_
            show Steps p.tables e below (T155.setTop (mkF m 91 #[.val (.int p0), .val (.int p1), .val (.int ((p0 &&& (2147483647 : Int32)) % (5 : Int32))), .val (.int b3), .val (.ref w2), .unset, .unset] [(.ref u2)])) t
            refine XS.goto X155.here hx rfl (pc0 := 91) (pc' := 97) rfl (hb hby at_91) (by decide) (by decide) ?_
            show Steps p.tables e below (T155.setTop (mkF m 97 #[.val (.int p0), .val (.int p1), .val (.int ((p0 &&& (2147483647 : Int32)) % (5 : Int32))), .val (.int b3), .val (.ref w2), .unset, .unset] [(.ref u2)])) t
            refine XS.astore X155.here hx rfl (hb hby at_97) rfl rfl (l' := #[.val (.int p0), .val (.int p1), .val (.int ((p0 &&& (2147483647 : Int32)) % (5 : Int32))), .val (.int b3), .val (.ref w2), .val (.ref u2), .unset]) rfl ?_
            show Steps p.tables e below (T155.setTop (mkF m 99 #[.val (.int p0), .val (.int p1), .val (.int ((p0 &&& (2147483647 : Int32)) % (5 : Int32))), .val (.int b3), .val (.ref w2), .val (.ref u2), .unset] [])) t
            refine XS.goto X155.here hx rfl (pc0 := 99) (pc' := 150) rfl (hb hby at_99) (by decide) (by decide) ?_
            exact kk
          obtain ⟨T158, h158, X158, e158, E158, A158, D158, -, st158⟩ := newO X155 hx hZ hown (hw _ (List.mem_of_getElem? (i := 7) rfl)) (hw _ (List.mem_of_getElem? (i := 8) rfl)) (hw _ (List.mem_of_getElem? (i := 9) rfl)) e155 (g := (mkF m 150 #[.val (.int p0), .val (.int p1), .val (.int ((p0 &&& (2147483647 : Int32)) % (5 : Int32))), .val (.int b3), .val (.ref w2), .val (.ref u2), .unset] [])) rfl (hb hby at_150) (by decide) (by decide)
          obtain ⟨b158, g158⟩ : ∃ z, z = h0.size := ⟨_, rfl⟩
          rw [← g158] at A158 D158 st158
          have gb158 : n0 ≤ b158 := Nat.le_trans Z0 (Nat.le_of_eq g158.symm)
          have F_width_b158 : Fld Z h158 b158 "com/example/nextkey/nextkey/model/ColumnType$Int" "width" "Lcom/example/nextkey/nextkey/model/ColumnType$Int$Width;" .null := D158 (Or.inr (hw _ (List.mem_of_getElem? (i := 34) rfl))) (ty := (.object "com/example/nextkey/nextkey/model/ColumnType$Int$Width")) (by decide)
          have F_unsigned_b158 : Fld Z h158 b158 "com/example/nextkey/nextkey/model/ColumnType$Int" "unsigned" "Z" (.int (0 : Int32)) := D158 (Or.inr (hw _ (List.mem_of_getElem? (i := 36) rfl))) (ty := .boolean) (by decide)
          have c159 : Goes p e below s₁ (entryFrame m #[(.int p0), (.int p1)] maxLocals) T158 (mkF m 153 #[.val (.int p0), .val (.int p1), .val (.int ((p0 &&& (2147483647 : Int32)) % (5 : Int32))), .val (.int b3), .val (.ref w2), .val (.ref u2), .unset] [(.ref b158)]) := fun t kk => c157 t (st158 t kk)
          have f160 := (Nat.le_trans Z0 E158.1)
          have c161 : Goes p e below s₁ (entryFrame m #[(.int p0), (.int p1)] maxLocals) T158 (mkF m 157 #[.val (.int p0), .val (.int p1), .val (.int ((p0 &&& (2147483647 : Int32)) % (5 : Int32))), .val (.int b3), .val (.ref w2), .val (.ref u2), .unset] [(.int b3), (.ref w2), (.ref b158), (.ref b158)]) := by
            intro t kk
            refine c159 t ?_
            show Steps p.tables e below (T158.setTop (mkF m 153 #[.val (.int p0), .val (.int p1), .val (.int ((p0 &&& (2147483647 : Int32)) % (5 : Int32))), .val (.int b3), .val (.ref w2), .val (.ref u2), .unset] [(.ref b158)])) t
            refine XS.dup X158.here hx rfl (hb hby at_153) rfl rfl ?_
            show Steps p.tables e below (T158.setTop (mkF m 154 #[.val (.int p0), .val (.int p1), .val (.int ((p0 &&& (2147483647 : Int32)) % (5 : Int32))), .val (.int b3), .val (.ref w2), .val (.ref u2), .unset] [(.ref b158), (.ref b158)])) t
            refine XS.aload X158.here hx rfl (hb hby at_154) rfl rfl ?_
            show Steps p.tables e below (T158.setTop (mkF m 156 #[.val (.int p0), .val (.int p1), .val (.int ((p0 &&& (2147483647 : Int32)) % (5 : Int32))), .val (.int b3), .val (.ref w2), .val (.ref u2), .unset] [(.ref w2), (.ref b158), (.ref b158)])) t
            refine XS.iloadN X158.here hx rfl (hb hby at_156) rfl ?_
            exact kk
          obtain ⟨_, _, ⟨T162, L162, k162, n162⟩, -, XX162, SS162, gr162, ⟨Lc162, hQ162, l162, y162, z162⟩, st162⟩ := X158.specialBackS hx (y := (⟨"com/example/nextkey/nextkey/model/ColumnType$Int", "<init>", "(Lcom/example/nextkey/nextkey/model/ColumnType$Int$Width;Z)V"⟩ : MethodName)) rfl hown (mvT hZ (hw _ (List.mem_of_getElem? (i := 10) rfl))) (mvT hZ (hw _ (List.mem_of_getElem? (i := 11) rfl))) (mvT hZ (hw _ (List.mem_of_getElem? (i := 12) rfl))) (by decide) (backOfS (W := 1) (rm_init l Z a0 hw [] b158 w2 b3 h158 n0 f160 F_width_b158 F_unsigned_b158 A158 gb158) hZ (hw _ (List.mem_of_getElem? (i := 12) rfl)) (hw _ (List.mem_of_getElem? (i := 9) rfl)) (by decide) (by decide)) (g := (mkF m 157 #[.val (.int p0), .val (.int p1), .val (.int ((p0 &&& (2147483647 : Int32)) % (5 : Int32))), .val (.int b3), .val (.ref w2), .val (.ref u2), .unset] [(.int b3), (.ref w2), (.ref b158), (.ref b158)])) rfl (by rw [hml]; rfl) (Steps.refl _) (a := b158) (argsL := [(.ref w2), (.int b3)]) (rest := [(.ref b158)]) (lenOf pd__Lcom_example_nextkey_nextkey_model_ColumnType_Int_Width_Z_V rfl) rfl (by show 2 * 0 + _ ≤ _; exact Nat.le_of_eq rfl) (hb hby at_157) (fun _ _ => ⟨rfl, e158, (by decide : 1 + 2 ≤ _), (by decide : 2 + 24 ≤ _)⟩)
          have f163 := (Nat.le_trans (Nat.zero_le _) E158.1)
          obtain ⟨X162, S162, hZ162, ho162⟩ := rebS SW0 (by rw [e158]; exact f163 : _ ≤ T158.heap.size) XX162 SS162 gr162 hZ hown
          dsimp only [Pt.U, Pt.locs, Pt.cells, Pt.slots] at S162 hZ162 ho162 X162 l162 y162 z162 st162 hQ162
          subst l162 y162 z162
          obtain ⟨rfl, Nq162, Kq162, Eq162, Fq162_1, Fq162_2⟩ := hQ162
          have N162 := Fr.app N0 Nq162
          have c164 : Goes p e below s₁ (entryFrame m #[(.int p0), (.int p1)] maxLocals) T162 (mkF m 160 #[.val (.int p0), .val (.int p1), .val (.int ((p0 &&& (2147483647 : Int32)) % (5 : Int32))), .val (.int b3), .val (.ref w2), .val (.ref u2), .unset] [(.ref b158)]) := fun t kk => c161 t (st162.trans kk)
          have f165 := ((O0.ext E158).keep Kq162 (allS gb158 all0))
          have f166 := (Nat.le_trans f160 Kq162.1)
          have c167 : Goes p e below s₁ (entryFrame m #[(.int p0), (.int p1)] maxLocals) T162 (mkF m 164 #[.val (.int p0), .val (.int p1), .val (.int ((p0 &&& (2147483647 : Int32)) % (5 : Int32))), .val (.int b3), .val (.ref w2), .val (.ref u2), .val (.ref b158)] [(.ref b158)]) := by
            intro t kk
            refine c164 t ?_
            show Steps p.tables e below (T162.setTop (mkF m 160 #[.val (.int p0), .val (.int p1), .val (.int ((p0 &&& (2147483647 : Int32)) % (5 : Int32))), .val (.int b3), .val (.ref w2), .val (.ref u2), .unset] [(.ref b158)])) t
            refine XS.astore X162.here hx rfl (hb hby at_160) rfl rfl (l' := #[.val (.int p0), .val (.int p1), .val (.int ((p0 &&& (2147483647 : Int32)) % (5 : Int32))), .val (.int b3), .val (.ref w2), .val (.ref u2), .val (.ref b158)]) rfl ?_
            show Steps p.tables e below (T162.setTop (mkF m 162 #[.val (.int p0), .val (.int p1), .val (.int ((p0 &&& (2147483647 : Int32)) % (5 : Int32))), .val (.int b3), .val (.ref w2), .val (.ref u2), .val (.ref b158)] [])) t
            refine XS.aload X162.here hx rfl (hb hby at_162) rfl rfl ?_
            exact kk
          obtain ⟨cq168, kq168, q168a, q168b, q168c⟩ := isOf hZ162 rfl Eq162
          obtain ⟨_, _, ⟨T168, L168, k168, n168⟩, -, X168, ⟨Lc168, hQ168, l168, y168, z168⟩, st168⟩ := X162.virtualBack hx (y := (⟨"com/example/nextkey/nextkey/model/ColumnType$Int", "resultType", "()Lcom/example/nextkey/nextkey/model/ResultType;"⟩ : MethodName)) (z := (⟨"com/example/nextkey/nextkey/model/ColumnType$Int", "resultType", "()Lcom/example/nextkey/nextkey/model/ResultType;"⟩ : MethodName)) ho162 (mvT hZ162 (hw _ (List.mem_of_getElem? (i := 37) rfl))) (mvT hZ162 (hw _ (List.mem_of_getElem? (i := 38) rfl))) (notFace_of_selects (args := #[]) (mvT hZ162 (hw _ (List.mem_of_getElem? (i := 40) rfl)))) (mvT hZ162 (hw _ (List.mem_of_getElem? (i := 40) rfl))) (mvT hZ162 (hw _ (List.mem_of_getElem? (i := 39) rfl))) (by decide) (backOf (W := 0) (rm_rt l Z a0 hw [] b158 w2 (nar .boolean b3) s2 u2 T162.heap n0 f166 Fq162_2 Fq162_1 (Fs_2.ext f165.2) (Ft_2.ext f165.2)) hZ162 (hw _ (List.mem_of_getElem? (i := 41) rfl)) (hw _ (List.mem_of_getElem? (i := 9) rfl)) (by decide) (by decide)) q168a q168c (g := (mkF m 164 #[.val (.int p0), .val (.int p1), .val (.int ((p0 &&& (2147483647 : Int32)) % (5 : Int32))), .val (.int b3), .val (.ref w2), .val (.ref u2), .val (.ref b158)] [(.ref b158)])) rfl (by rw [hml]; rfl) (Steps.refl _) (argsL := []) (rest := []) (lenOf pd___Lcom_example_nextkey_nextkey_model_ResultType_ rfl) rfl (by show 2 * 0 + _ ≤ _; exact Nat.le_of_eq rfl) (hb hby at_164) (fun _ _ => ⟨rfl, rfl, (by decide : 3 + 0 ≤ _), (by decide : 26 + 0 ≤ _)⟩)
          dsimp only [Pt.U, Pt.locs, Pt.cells, Pt.slots] at X168 l168 y168 z168 st168 hQ168
          subst l168 y168 z168
          obtain ⟨rfl, Nq168, eq168⟩ := hQ168
          have N168 := Fr.app N162 Nq168
          have c169 : Goes p e below s₁ (entryFrame m #[(.int p0), (.int p1)] maxLocals) T168 (mkF m 167 #[.val (.int p0), .val (.int p1), .val (.int ((p0 &&& (2147483647 : Int32)) % (5 : Int32))), .val (.int b3), .val (.ref w2), .val (.ref u2), .val (.ref b158)] [(.ref (own_rt (nar .boolean b3) s2 u2))]) := fun t kk => c167 t (st168.trans kk)
          have c170 : Goes p e below s₁ (entryFrame m #[(.int p0), (.int p1)] maxLocals) T168 (mkF m 177 #[.val (.int p0), .val (.int p1), .val (.int ((p0 &&& (2147483647 : Int32)) % (5 : Int32))), .val (.int b3), .val (.ref w2), .val (.ref u2), .val (.ref b158)] [(.int (1 : Int32))]) := by
            intro t kk
            refine c169 t ?_
            show Steps p.tables e below (T168.setTop (mkF m 167 #[.val (.int p0), .val (.int p1), .val (.int ((p0 &&& (2147483647 : Int32)) % (5 : Int32))), .val (.int b3), .val (.ref w2), .val (.ref u2), .val (.ref b158)] [(.ref (own_rt (nar .boolean b3) s2 u2))])) t
            refine XS.aload X168.here hx rfl (hb hby at_167) rfl rfl ?_
            show Steps p.tables e below (T168.setTop (mkF m 169 #[.val (.int p0), .val (.int p1), .val (.int ((p0 &&& (2147483647 : Int32)) % (5 : Int32))), .val (.int b3), .val (.ref w2), .val (.ref u2), .val (.ref b158)] [(.ref u2), (.ref (own_rt (nar .boolean b3) s2 u2))])) t
            refine Jvm.RoadKit.acmp (g := (mkF m 169 #[.val (.int p0), .val (.int p1), .val (.int ((p0 &&& (2147483647 : Int32)) % (5 : Int32))), .val (.int b3), .val (.ref w2), .val (.ref u2), .val (.ref b158)] [(.ref u2), (.ref (own_rt (nar .boolean b3) s2 u2))])) X168 hx rfl rfl rfl (pc0 := 169) (pc' := 172) (same := true) rfl (hb hby at_169) rfl (decide_eq_true (congrArg Value.ref (own_rt1 hm44 hc85_136))) (by decide) (by decide) ?_
            show Steps p.tables e below (T168.setTop (mkF m 172 #[.val (.int p0), .val (.int p1), .val (.int ((p0 &&& (2147483647 : Int32)) % (5 : Int32))), .val (.int b3), .val (.ref w2), .val (.ref u2), .val (.ref b158)] [])) t
            refine XS.iconst X168.here hx rfl (hb hby at_172) ?_
            show Steps p.tables e below (T168.setTop (mkF m 173 #[.val (.int p0), .val (.int p1), .val (.int ((p0 &&& (2147483647 : Int32)) % (5 : Int32))), .val (.int b3), .val (.ref w2), .val (.ref u2), .val (.ref b158)] [(.int (1 : Int32))])) t
            refine XS.goto X168.here hx rfl (pc0 := 173) (pc' := 177) rfl (hb hby at_173) (by decide) (by decide) ?_
            exact kk
          obtain ⟨fs, hr, hrun, hended, hRW⟩ := X168.leaveW S162 (by rw [eq168]; exact (Nat.le_refl _)) (v := some (.int (1 : Int32))) (fun h => by rw [Bd.returns] at h; cases h)
          refine ⟨_, _, c170 _ ?_, hrun, hended, _, _, rfl, ?_, hRW.1, hRW.2.1, hRW.2.2.1, hRW.2.2.2.mono (by decide) (by decide)⟩
          · exact retN X168 hx (t := .boolean) Bd.returns (by simp) (hb hby at_177) hr
          · show Q_law Z p0 p1 w0 w1 w2 w3 w4 u0 u1 u2 u3 u4 s0 s1 s2 s3 s4 h0 n0 _ T168.heap _
            rw [eq168]
            exact ⟨rfl, N168⟩
      · have c171 : Goes p e below s₁ (entryFrame m #[(.int p0), (.int p1)] maxLocals) s₁ (mkF m 104 #[.val (.int p0), .val (.int p1), .val (.int ((p0 &&& (2147483647 : Int32)) % (5 : Int32))), .val (.int b3), .unset, .unset, .unset] [(.int (3 : Int32)), (.int ((p0 &&& (2147483647 : Int32)) % (5 : Int32)))]) := by
          intro t kk
          refine c130 t ?_
          show Steps p.tables e below (s₁.setTop (mkF m 76 #[.val (.int p0), .val (.int p1), .val (.int ((p0 &&& (2147483647 : Int32)) % (5 : Int32))), .val (.int b3), .unset, .unset, .unset] [(.int (2 : Int32)), (.int ((p0 &&& (2147483647 : Int32)) % (5 : Int32)))])) t
          refine XS.icmpYes XW0.here hx rfl (pc0 := 76) (pc' := 102) rfl (hb hby at_76) rfl (feq hc76_131).2 (by decide) (by decide) ?_
          show Steps p.tables e below (s₁.setTop (mkF m 102 #[.val (.int p0), .val (.int p1), .val (.int ((p0 &&& (2147483647 : Int32)) % (5 : Int32))), .val (.int b3), .unset, .unset, .unset] [])) t
          refine XS.iloadN XW0.here hx rfl (hb hby at_102) rfl ?_
          show Steps p.tables e below (s₁.setTop (mkF m 103 #[.val (.int p0), .val (.int p1), .val (.int ((p0 &&& (2147483647 : Int32)) % (5 : Int32))), .val (.int b3), .unset, .unset, .unset] [(.int ((p0 &&& (2147483647 : Int32)) % (5 : Int32)))])) t
          refine XS.iconst XW0.here hx rfl (hb hby at_103) ?_
          exact kk
        by_cases hc104_172 : ((p0 &&& (2147483647 : Int32)) % (5 : Int32)) = (3 : Int32)
        · have c173 : Goes p e below s₁ (entryFrame m #[(.int p0), (.int p1)] maxLocals) s₁ (mkF m 107 #[.val (.int p0), .val (.int p1), .val (.int ((p0 &&& (2147483647 : Int32)) % (5 : Int32))), .val (.int b3), .unset, .unset, .unset] []) := by
            intro t kk
            refine c171 t ?_
            show Steps p.tables e below (s₁.setTop (mkF m 104 #[.val (.int p0), .val (.int p1), .val (.int ((p0 &&& (2147483647 : Int32)) % (5 : Int32))), .val (.int b3), .unset, .unset, .unset] [(.int (3 : Int32)), (.int ((p0 &&& (2147483647 : Int32)) % (5 : Int32)))])) t
            refine XS.icmpNo XW0.here hx rfl (hb hby at_104) rfl (teq hc104_172).2 ?_
            exact kk
          obtain ⟨T174, X174, e174, st174⟩ := getS2 XW0 hx hZ hown (host := "") (Or.inl (hw _ (List.mem_of_getElem? (i := 48) rfl))) Via.refl e0 (S_w3.ext O0.2) (g := (mkF m 107 #[.val (.int p0), .val (.int p1), .val (.int ((p0 &&& (2147483647 : Int32)) % (5 : Int32))), .val (.int b3), .unset, .unset, .unset] [])) rfl (hb hby at_107)
          have c175 : Goes p e below s₁ (entryFrame m #[(.int p0), (.int p1)] maxLocals) T174 (mkF m 110 #[.val (.int p0), .val (.int p1), .val (.int ((p0 &&& (2147483647 : Int32)) % (5 : Int32))), .val (.int b3), .unset, .unset, .unset] [(.ref w3)]) := fun t kk => c173 t (st174 t kk)
          have c176 : Goes p e below s₁ (entryFrame m #[(.int p0), (.int p1)] maxLocals) T174 (mkF m 113 #[.val (.int p0), .val (.int p1), .val (.int ((p0 &&& (2147483647 : Int32)) % (5 : Int32))), .val (.int b3), .val (.ref w3), .unset, .unset] [(.int b3)]) := by
            intro t kk
            refine c175 t ?_
            show Steps p.tables e below (T174.setTop (mkF m 110 #[.val (.int p0), .val (.int p1), .val (.int ((p0 &&& (2147483647 : Int32)) % (5 : Int32))), .val (.int b3), .unset, .unset, .unset] [(.ref w3)])) t
            refine XS.astore X174.here hx rfl (hb hby at_110) rfl rfl (l' := #[.val (.int p0), .val (.int p1), .val (.int ((p0 &&& (2147483647 : Int32)) % (5 : Int32))), .val (.int b3), .val (.ref w3), .unset, .unset]) rfl ?_
            show Steps p.tables e below (T174.setTop (mkF m 112 #[.val (.int p0), .val (.int p1), .val (.int ((p0 &&& (2147483647 : Int32)) % (5 : Int32))), .val (.int b3), .val (.ref w3), .unset, .unset] [])) t
            refine XS.iloadN X174.here hx rfl (hb hby at_112) rfl ?_
            exact kk
          by_cases hc113_177 : b3 = (0 : Int32)
          · have c178 : Goes p e below s₁ (entryFrame m #[(.int p0), (.int p1)] maxLocals) T174 (mkF m 122 #[.val (.int p0), .val (.int p1), .val (.int ((p0 &&& (2147483647 : Int32)) % (5 : Int32))), .val (.int b3), .val (.ref w3), .unset, .unset] []) := by
              intro t kk
              refine c176 t ?_
              show Steps p.tables e below (T174.setTop (mkF m 113 #[.val (.int p0), .val (.int p1), .val (.int ((p0 &&& (2147483647 : Int32)) % (5 : Int32))), .val (.int b3), .val (.ref w3), .unset, .unset] [(.int b3)])) t
              refine XS.ifYes X174.here hx rfl (pc0 := 113) (pc' := 122) rfl (hb hby at_113) rfl ((if0 _ _).trans (teq hc113_177).1) (by decide) (by decide) ?_
              exact kk
            obtain ⟨T179, X179, e179, st179⟩ := getS2 X174 hx hZ hown (host := "") (Or.inl (hw _ (List.mem_of_getElem? (i := 70) rfl))) Via.refl e174 (S_s3.ext O0.2) (g := (mkF m 122 #[.val (.int p0), .val (.int p1), .val (.int ((p0 &&& (2147483647 : Int32)) % (5 : Int32))), .val (.int b3), .val (.ref w3), .unset, .unset] [])) rfl (hb hby at_122)
            have c180 : Goes p e below s₁ (entryFrame m #[(.int p0), (.int p1)] maxLocals) T179 (mkF m 125 #[.val (.int p0), .val (.int p1), .val (.int ((p0 &&& (2147483647 : Int32)) % (5 : Int32))), .val (.int b3), .val (.ref w3), .unset, .unset] [(.ref s3)]) := fun t kk => c178 t (st179 t kk)
            have c181 : Goes p e below s₁ (entryFrame m #[(.int p0), (.int p1)] maxLocals) T179 (mkF m 150 #[.val (.int p0), .val (.int p1), .val (.int ((p0 &&& (2147483647 : Int32)) % (5 : Int32))), .val (.int b3), .val (.ref w3), .val (.ref s3), .unset] []) := by
              intro t kk
              refine c180 t ?_
              show Steps p.tables e below (T179.setTop (mkF m 125 #[.val (.int p0), .val (.int p1), .val (.int ((p0 &&& (2147483647 : Int32)) % (5 : Int32))), .val (.int b3), .val (.ref w3), .unset, .unset] [(.ref s3)])) t
              refine XS.astore X179.here hx rfl (hb hby at_125) rfl rfl (l' := #[.val (.int p0), .val (.int p1), .val (.int ((p0 &&& (2147483647 : Int32)) % (5 : Int32))), .val (.int b3), .val (.ref w3), .val (.ref s3), .unset]) rfl ?_
              show Steps p.tables e below (T179.setTop (mkF m 127 #[.val (.int p0), .val (.int p1), .val (.int ((p0 &&& (2147483647 : Int32)) % (5 : Int32))), .val (.int b3), .val (.ref w3), .val (.ref s3), .unset] [])) t
              refine XS.goto X179.here hx rfl (pc0 := 127) (pc' := 150) rfl (hb hby at_127) (by decide) (by decide) ?_
              exact kk
            obtain ⟨T182, h182, X182, e182, E182, A182, D182, -, st182⟩ := newO X179 hx hZ hown (hw _ (List.mem_of_getElem? (i := 7) rfl)) (hw _ (List.mem_of_getElem? (i := 8) rfl)) (hw _ (List.mem_of_getElem? (i := 9) rfl)) e179 (g := (mkF m 150 #[.val (.int p0), .val (.int p1), .val (.int ((p0 &&& (2147483647 : Int32)) % (5 : Int32))), .val (.int b3), .val (.ref w3), .val (.ref s3), .unset] [])) rfl (hb hby at_150) (by decide) (by decide)
            obtain ⟨b182, g182⟩ : ∃ z, z = h0.size := ⟨_, rfl⟩
            rw [← g182] at A182 D182 st182
            have gb182 : n0 ≤ b182 := Nat.le_trans Z0 (Nat.le_of_eq g182.symm)
            have F_width_b182 : Fld Z h182 b182 "com/example/nextkey/nextkey/model/ColumnType$Int" "width" "Lcom/example/nextkey/nextkey/model/ColumnType$Int$Width;" .null := D182 (Or.inr (hw _ (List.mem_of_getElem? (i := 34) rfl))) (ty := (.object "com/example/nextkey/nextkey/model/ColumnType$Int$Width")) (by decide)
            have F_unsigned_b182 : Fld Z h182 b182 "com/example/nextkey/nextkey/model/ColumnType$Int" "unsigned" "Z" (.int (0 : Int32)) := D182 (Or.inr (hw _ (List.mem_of_getElem? (i := 36) rfl))) (ty := .boolean) (by decide)
            have c183 : Goes p e below s₁ (entryFrame m #[(.int p0), (.int p1)] maxLocals) T182 (mkF m 153 #[.val (.int p0), .val (.int p1), .val (.int ((p0 &&& (2147483647 : Int32)) % (5 : Int32))), .val (.int b3), .val (.ref w3), .val (.ref s3), .unset] [(.ref b182)]) := fun t kk => c181 t (st182 t kk)
            have f184 := (Nat.le_trans Z0 E182.1)
            have c185 : Goes p e below s₁ (entryFrame m #[(.int p0), (.int p1)] maxLocals) T182 (mkF m 157 #[.val (.int p0), .val (.int p1), .val (.int ((p0 &&& (2147483647 : Int32)) % (5 : Int32))), .val (.int b3), .val (.ref w3), .val (.ref s3), .unset] [(.int b3), (.ref w3), (.ref b182), (.ref b182)]) := by
              intro t kk
              refine c183 t ?_
              show Steps p.tables e below (T182.setTop (mkF m 153 #[.val (.int p0), .val (.int p1), .val (.int ((p0 &&& (2147483647 : Int32)) % (5 : Int32))), .val (.int b3), .val (.ref w3), .val (.ref s3), .unset] [(.ref b182)])) t
              refine XS.dup X182.here hx rfl (hb hby at_153) rfl rfl ?_
              show Steps p.tables e below (T182.setTop (mkF m 154 #[.val (.int p0), .val (.int p1), .val (.int ((p0 &&& (2147483647 : Int32)) % (5 : Int32))), .val (.int b3), .val (.ref w3), .val (.ref s3), .unset] [(.ref b182), (.ref b182)])) t
              refine XS.aload X182.here hx rfl (hb hby at_154) rfl rfl ?_
              show Steps p.tables e below (T182.setTop (mkF m 156 #[.val (.int p0), .val (.int p1), .val (.int ((p0 &&& (2147483647 : Int32)) % (5 : Int32))), .val (.int b3), .val (.ref w3), .val (.ref s3), .unset] [(.ref w3), (.ref b182), (.ref b182)])) t
              refine XS.iloadN X182.here hx rfl (hb hby at_156) rfl ?_
              exact kk
            obtain ⟨_, _, ⟨T186, L186, k186, n186⟩, -, XX186, SS186, gr186, ⟨Lc186, hQ186, l186, y186, z186⟩, st186⟩ := X182.specialBackS hx (y := (⟨"com/example/nextkey/nextkey/model/ColumnType$Int", "<init>", "(Lcom/example/nextkey/nextkey/model/ColumnType$Int$Width;Z)V"⟩ : MethodName)) rfl hown (mvT hZ (hw _ (List.mem_of_getElem? (i := 10) rfl))) (mvT hZ (hw _ (List.mem_of_getElem? (i := 11) rfl))) (mvT hZ (hw _ (List.mem_of_getElem? (i := 12) rfl))) (by decide) (backOfS (W := 1) (rm_init l Z a0 hw [] b182 w3 b3 h182 n0 f184 F_width_b182 F_unsigned_b182 A182 gb182) hZ (hw _ (List.mem_of_getElem? (i := 12) rfl)) (hw _ (List.mem_of_getElem? (i := 9) rfl)) (by decide) (by decide)) (g := (mkF m 157 #[.val (.int p0), .val (.int p1), .val (.int ((p0 &&& (2147483647 : Int32)) % (5 : Int32))), .val (.int b3), .val (.ref w3), .val (.ref s3), .unset] [(.int b3), (.ref w3), (.ref b182), (.ref b182)])) rfl (by rw [hml]; rfl) (Steps.refl _) (a := b182) (argsL := [(.ref w3), (.int b3)]) (rest := [(.ref b182)]) (lenOf pd__Lcom_example_nextkey_nextkey_model_ColumnType_Int_Width_Z_V rfl) rfl (by show 2 * 0 + _ ≤ _; exact Nat.le_of_eq rfl) (hb hby at_157) (fun _ _ => ⟨rfl, e182, (by decide : 1 + 2 ≤ _), (by decide : 2 + 24 ≤ _)⟩)
            have f187 := (Nat.le_trans (Nat.zero_le _) E182.1)
            obtain ⟨X186, S186, hZ186, ho186⟩ := rebS SW0 (by rw [e182]; exact f187 : _ ≤ T182.heap.size) XX186 SS186 gr186 hZ hown
            dsimp only [Pt.U, Pt.locs, Pt.cells, Pt.slots] at S186 hZ186 ho186 X186 l186 y186 z186 st186 hQ186
            subst l186 y186 z186
            obtain ⟨rfl, Nq186, Kq186, Eq186, Fq186_1, Fq186_2⟩ := hQ186
            have N186 := Fr.app N0 Nq186
            have c188 : Goes p e below s₁ (entryFrame m #[(.int p0), (.int p1)] maxLocals) T186 (mkF m 160 #[.val (.int p0), .val (.int p1), .val (.int ((p0 &&& (2147483647 : Int32)) % (5 : Int32))), .val (.int b3), .val (.ref w3), .val (.ref s3), .unset] [(.ref b182)]) := fun t kk => c185 t (st186.trans kk)
            have f189 := ((O0.ext E182).keep Kq186 (allS gb182 all0))
            have f190 := (Nat.le_trans f184 Kq186.1)
            have c191 : Goes p e below s₁ (entryFrame m #[(.int p0), (.int p1)] maxLocals) T186 (mkF m 164 #[.val (.int p0), .val (.int p1), .val (.int ((p0 &&& (2147483647 : Int32)) % (5 : Int32))), .val (.int b3), .val (.ref w3), .val (.ref s3), .val (.ref b182)] [(.ref b182)]) := by
              intro t kk
              refine c188 t ?_
              show Steps p.tables e below (T186.setTop (mkF m 160 #[.val (.int p0), .val (.int p1), .val (.int ((p0 &&& (2147483647 : Int32)) % (5 : Int32))), .val (.int b3), .val (.ref w3), .val (.ref s3), .unset] [(.ref b182)])) t
              refine XS.astore X186.here hx rfl (hb hby at_160) rfl rfl (l' := #[.val (.int p0), .val (.int p1), .val (.int ((p0 &&& (2147483647 : Int32)) % (5 : Int32))), .val (.int b3), .val (.ref w3), .val (.ref s3), .val (.ref b182)]) rfl ?_
              show Steps p.tables e below (T186.setTop (mkF m 162 #[.val (.int p0), .val (.int p1), .val (.int ((p0 &&& (2147483647 : Int32)) % (5 : Int32))), .val (.int b3), .val (.ref w3), .val (.ref s3), .val (.ref b182)] [])) t
              refine XS.aload X186.here hx rfl (hb hby at_162) rfl rfl ?_
              exact kk
            obtain ⟨cq192, kq192, q192a, q192b, q192c⟩ := isOf hZ186 rfl Eq186
            obtain ⟨_, _, ⟨T192, L192, k192, n192⟩, -, X192, ⟨Lc192, hQ192, l192, y192, z192⟩, st192⟩ := X186.virtualBack hx (y := (⟨"com/example/nextkey/nextkey/model/ColumnType$Int", "resultType", "()Lcom/example/nextkey/nextkey/model/ResultType;"⟩ : MethodName)) (z := (⟨"com/example/nextkey/nextkey/model/ColumnType$Int", "resultType", "()Lcom/example/nextkey/nextkey/model/ResultType;"⟩ : MethodName)) ho186 (mvT hZ186 (hw _ (List.mem_of_getElem? (i := 37) rfl))) (mvT hZ186 (hw _ (List.mem_of_getElem? (i := 38) rfl))) (notFace_of_selects (args := #[]) (mvT hZ186 (hw _ (List.mem_of_getElem? (i := 40) rfl)))) (mvT hZ186 (hw _ (List.mem_of_getElem? (i := 40) rfl))) (mvT hZ186 (hw _ (List.mem_of_getElem? (i := 39) rfl))) (by decide) (backOf (W := 0) (rm_rt l Z a0 hw [] b182 w3 (nar .boolean b3) s3 u3 T186.heap n0 f190 Fq186_2 Fq186_1 (Fs_3.ext f189.2) (Ft_3.ext f189.2)) hZ186 (hw _ (List.mem_of_getElem? (i := 41) rfl)) (hw _ (List.mem_of_getElem? (i := 9) rfl)) (by decide) (by decide)) q192a q192c (g := (mkF m 164 #[.val (.int p0), .val (.int p1), .val (.int ((p0 &&& (2147483647 : Int32)) % (5 : Int32))), .val (.int b3), .val (.ref w3), .val (.ref s3), .val (.ref b182)] [(.ref b182)])) rfl (by rw [hml]; rfl) (Steps.refl _) (argsL := []) (rest := []) (lenOf pd___Lcom_example_nextkey_nextkey_model_ResultType_ rfl) rfl (by show 2 * 0 + _ ≤ _; exact Nat.le_of_eq rfl) (hb hby at_164) (fun _ _ => ⟨rfl, rfl, (by decide : 3 + 0 ≤ _), (by decide : 26 + 0 ≤ _)⟩)
            dsimp only [Pt.U, Pt.locs, Pt.cells, Pt.slots] at X192 l192 y192 z192 st192 hQ192
            subst l192 y192 z192
            obtain ⟨rfl, Nq192, eq192⟩ := hQ192
            have N192 := Fr.app N186 Nq192
            have c193 : Goes p e below s₁ (entryFrame m #[(.int p0), (.int p1)] maxLocals) T192 (mkF m 167 #[.val (.int p0), .val (.int p1), .val (.int ((p0 &&& (2147483647 : Int32)) % (5 : Int32))), .val (.int b3), .val (.ref w3), .val (.ref s3), .val (.ref b182)] [(.ref (own_rt (nar .boolean b3) s3 u3))]) := fun t kk => c191 t (st192.trans kk)
            have c194 : Goes p e below s₁ (entryFrame m #[(.int p0), (.int p1)] maxLocals) T192 (mkF m 177 #[.val (.int p0), .val (.int p1), .val (.int ((p0 &&& (2147483647 : Int32)) % (5 : Int32))), .val (.int b3), .val (.ref w3), .val (.ref s3), .val (.ref b182)] [(.int (1 : Int32))]) := by
              intro t kk
              refine c193 t ?_
              show Steps p.tables e below (T192.setTop (mkF m 167 #[.val (.int p0), .val (.int p1), .val (.int ((p0 &&& (2147483647 : Int32)) % (5 : Int32))), .val (.int b3), .val (.ref w3), .val (.ref s3), .val (.ref b182)] [(.ref (own_rt (nar .boolean b3) s3 u3))])) t
              refine XS.aload X192.here hx rfl (hb hby at_167) rfl rfl ?_
              show Steps p.tables e below (T192.setTop (mkF m 169 #[.val (.int p0), .val (.int p1), .val (.int ((p0 &&& (2147483647 : Int32)) % (5 : Int32))), .val (.int b3), .val (.ref w3), .val (.ref s3), .val (.ref b182)] [(.ref s3), (.ref (own_rt (nar .boolean b3) s3 u3))])) t
              refine Jvm.RoadKit.acmp (g := (mkF m 169 #[.val (.int p0), .val (.int p1), .val (.int ((p0 &&& (2147483647 : Int32)) % (5 : Int32))), .val (.int b3), .val (.ref w3), .val (.ref s3), .val (.ref b182)] [(.ref s3), (.ref (own_rt (nar .boolean b3) s3 u3))])) X192 hx rfl rfl rfl (pc0 := 169) (pc' := 172) (same := true) rfl (hb hby at_169) rfl (decide_eq_true (congrArg Value.ref (own_rt0 hc113_177))) (by decide) (by decide) ?_
              show Steps p.tables e below (T192.setTop (mkF m 172 #[.val (.int p0), .val (.int p1), .val (.int ((p0 &&& (2147483647 : Int32)) % (5 : Int32))), .val (.int b3), .val (.ref w3), .val (.ref s3), .val (.ref b182)] [])) t
              refine XS.iconst X192.here hx rfl (hb hby at_172) ?_
              show Steps p.tables e below (T192.setTop (mkF m 173 #[.val (.int p0), .val (.int p1), .val (.int ((p0 &&& (2147483647 : Int32)) % (5 : Int32))), .val (.int b3), .val (.ref w3), .val (.ref s3), .val (.ref b182)] [(.int (1 : Int32))])) t
              refine XS.goto X192.here hx rfl (pc0 := 173) (pc' := 177) rfl (hb hby at_173) (by decide) (by decide) ?_
              exact kk
            obtain ⟨fs, hr, hrun, hended, hRW⟩ := X192.leaveW S186 (by rw [eq192]; exact (Nat.le_refl _)) (v := some (.int (1 : Int32))) (fun h => by rw [Bd.returns] at h; cases h)
            refine ⟨_, _, c194 _ ?_, hrun, hended, _, _, rfl, ?_, hRW.1, hRW.2.1, hRW.2.2.1, hRW.2.2.2.mono (by decide) (by decide)⟩
            · exact retN X192 hx (t := .boolean) Bd.returns (by simp) (hb hby at_177) hr
            · show Q_law Z p0 p1 w0 w1 w2 w3 w4 u0 u1 u2 u3 u4 s0 s1 s2 s3 s4 h0 n0 _ T192.heap _
              rw [eq192]
              exact ⟨rfl, N192⟩
          · have c195 : Goes p e below s₁ (entryFrame m #[(.int p0), (.int p1)] maxLocals) T174 (mkF m 116 #[.val (.int p0), .val (.int p1), .val (.int ((p0 &&& (2147483647 : Int32)) % (5 : Int32))), .val (.int b3), .val (.ref w3), .unset, .unset] []) := by
              intro t kk
              refine c176 t ?_
              show Steps p.tables e below (T174.setTop (mkF m 113 #[.val (.int p0), .val (.int p1), .val (.int ((p0 &&& (2147483647 : Int32)) % (5 : Int32))), .val (.int b3), .val (.ref w3), .unset, .unset] [(.int b3)])) t
              refine XS.ifNo X174.here hx rfl (hb hby at_113) rfl ((if0 _ _).trans (feq hc113_177).1) ?_
              exact kk
            obtain ⟨T196, X196, e196, st196⟩ := getS2 X174 hx hZ hown (host := "") (Or.inl (hw _ (List.mem_of_getElem? (i := 50) rfl))) Via.refl e174 (S_u3.ext O0.2) (g := (mkF m 116 #[.val (.int p0), .val (.int p1), .val (.int ((p0 &&& (2147483647 : Int32)) % (5 : Int32))), .val (.int b3), .val (.ref w3), .unset, .unset] [])) rfl (hb hby at_116)
            have c197 : Goes p e below s₁ (entryFrame m #[(.int p0), (.int p1)] maxLocals) T196 (mkF m 119 #[.val (.int p0), .val (.int p1), .val (.int ((p0 &&& (2147483647 : Int32)) % (5 : Int32))), .val (.int b3), .val (.ref w3), .unset, .unset] [(.ref u3)]) := fun t kk => c195 t (st196 t kk)
            have c198 : Goes p e below s₁ (entryFrame m #[(.int p0), (.int p1)] maxLocals) T196 (mkF m 150 #[.val (.int p0), .val (.int p1), .val (.int ((p0 &&& (2147483647 : Int32)) % (5 : Int32))), .val (.int b3), .val (.ref w3), .val (.ref u3), .unset] []) := by
              intro t kk
              refine c197 t ?_
              show Steps p.tables e below (T196.setTop (mkF m 119 #[.val (.int p0), .val (.int p1), .val (.int ((p0 &&& (2147483647 : Int32)) % (5 : Int32))), .val (.int b3), .val (.ref w3), .unset, .unset] [(.ref u3)])) t
              refine XS.goto X196.here hx rfl (pc0 := 119) (pc' := 125) rfl (hb hby at_119) (by decide) (by decide) ?_
              show Steps p.tables e below (T196.setTop (mkF m 125 #[.val (.int p0), .val (.int p1), .val (.int ((p0 &&& (2147483647 : Int32)) % (5 : Int32))), .val (.int b3), .val (.ref w3), .unset, .unset] [(.ref u3)])) t
              refine XS.astore X196.here hx rfl (hb hby at_125) rfl rfl (l' := #[.val (.int p0), .val (.int p1), .val (.int ((p0 &&& (2147483647 : Int32)) % (5 : Int32))), .val (.int b3), .val (.ref w3), .val (.ref u3), .unset]) rfl ?_
              show Steps p.tables e below (T196.setTop (mkF m 127 #[.val (.int p0), .val (.int p1), .val (.int ((p0 &&& (2147483647 : Int32)) % (5 : Int32))), .val (.int b3), .val (.ref w3), .val (.ref u3), .unset] [])) t
              refine XS.goto X196.here hx rfl (pc0 := 127) (pc' := 150) rfl (hb hby at_127) (by decide) (by decide) ?_
              exact kk
            obtain ⟨T199, h199, X199, e199, E199, A199, D199, -, st199⟩ := newO X196 hx hZ hown (hw _ (List.mem_of_getElem? (i := 7) rfl)) (hw _ (List.mem_of_getElem? (i := 8) rfl)) (hw _ (List.mem_of_getElem? (i := 9) rfl)) e196 (g := (mkF m 150 #[.val (.int p0), .val (.int p1), .val (.int ((p0 &&& (2147483647 : Int32)) % (5 : Int32))), .val (.int b3), .val (.ref w3), .val (.ref u3), .unset] [])) rfl (hb hby at_150) (by decide) (by decide)
            obtain ⟨b199, g199⟩ : ∃ z, z = h0.size := ⟨_, rfl⟩
            rw [← g199] at A199 D199 st199
            have gb199 : n0 ≤ b199 := Nat.le_trans Z0 (Nat.le_of_eq g199.symm)
            have F_width_b199 : Fld Z h199 b199 "com/example/nextkey/nextkey/model/ColumnType$Int" "width" "Lcom/example/nextkey/nextkey/model/ColumnType$Int$Width;" .null := D199 (Or.inr (hw _ (List.mem_of_getElem? (i := 34) rfl))) (ty := (.object "com/example/nextkey/nextkey/model/ColumnType$Int$Width")) (by decide)
            have F_unsigned_b199 : Fld Z h199 b199 "com/example/nextkey/nextkey/model/ColumnType$Int" "unsigned" "Z" (.int (0 : Int32)) := D199 (Or.inr (hw _ (List.mem_of_getElem? (i := 36) rfl))) (ty := .boolean) (by decide)
            have c200 : Goes p e below s₁ (entryFrame m #[(.int p0), (.int p1)] maxLocals) T199 (mkF m 153 #[.val (.int p0), .val (.int p1), .val (.int ((p0 &&& (2147483647 : Int32)) % (5 : Int32))), .val (.int b3), .val (.ref w3), .val (.ref u3), .unset] [(.ref b199)]) := fun t kk => c198 t (st199 t kk)
            have f201 := (Nat.le_trans Z0 E199.1)
            have c202 : Goes p e below s₁ (entryFrame m #[(.int p0), (.int p1)] maxLocals) T199 (mkF m 157 #[.val (.int p0), .val (.int p1), .val (.int ((p0 &&& (2147483647 : Int32)) % (5 : Int32))), .val (.int b3), .val (.ref w3), .val (.ref u3), .unset] [(.int b3), (.ref w3), (.ref b199), (.ref b199)]) := by
              intro t kk
              refine c200 t ?_
              show Steps p.tables e below (T199.setTop (mkF m 153 #[.val (.int p0), .val (.int p1), .val (.int ((p0 &&& (2147483647 : Int32)) % (5 : Int32))), .val (.int b3), .val (.ref w3), .val (.ref u3), .unset] [(.ref b199)])) t
              refine XS.dup X199.here hx rfl (hb hby at_153) rfl rfl ?_
              show Steps p.tables e below (T199.setTop (mkF m 154 #[.val (.int p0), .val (.int p1), .val (.int ((p0 &&& (2147483647 : Int32)) % (5 : Int32))), .val (.int b3), .val (.ref w3), .val (.ref u3), .unset] [(.ref b199), (.ref b199)])) t
              refine XS.aload X199.here hx rfl (hb hby at_154) rfl rfl ?_
              show Steps p.tables e below (T199.setTop (mkF m 156 #[.val (.int p0), .val (.int p1), .val (.int ((p0 &&& (2147483647 : Int32)) % (5 : Int32))), .val (.int b3), .val (.ref w3), .val (.ref u3), .unset] [(.ref w3), (.ref b199), (.ref b199)])) t
              refine XS.iloadN X199.here hx rfl (hb hby at_156) rfl ?_
              exact kk
            obtain ⟨_, _, ⟨T203, L203, k203, n203⟩, -, XX203, SS203, gr203, ⟨Lc203, hQ203, l203, y203, z203⟩, st203⟩ := X199.specialBackS hx (y := (⟨"com/example/nextkey/nextkey/model/ColumnType$Int", "<init>", "(Lcom/example/nextkey/nextkey/model/ColumnType$Int$Width;Z)V"⟩ : MethodName)) rfl hown (mvT hZ (hw _ (List.mem_of_getElem? (i := 10) rfl))) (mvT hZ (hw _ (List.mem_of_getElem? (i := 11) rfl))) (mvT hZ (hw _ (List.mem_of_getElem? (i := 12) rfl))) (by decide) (backOfS (W := 1) (rm_init l Z a0 hw [] b199 w3 b3 h199 n0 f201 F_width_b199 F_unsigned_b199 A199 gb199) hZ (hw _ (List.mem_of_getElem? (i := 12) rfl)) (hw _ (List.mem_of_getElem? (i := 9) rfl)) (by decide) (by decide)) (g := (mkF m 157 #[.val (.int p0), .val (.int p1), .val (.int ((p0 &&& (2147483647 : Int32)) % (5 : Int32))), .val (.int b3), .val (.ref w3), .val (.ref u3), .unset] [(.int b3), (.ref w3), (.ref b199), (.ref b199)])) rfl (by rw [hml]; rfl) (Steps.refl _) (a := b199) (argsL := [(.ref w3), (.int b3)]) (rest := [(.ref b199)]) (lenOf pd__Lcom_example_nextkey_nextkey_model_ColumnType_Int_Width_Z_V rfl) rfl (by show 2 * 0 + _ ≤ _; exact Nat.le_of_eq rfl) (hb hby at_157) (fun _ _ => ⟨rfl, e199, (by decide : 1 + 2 ≤ _), (by decide : 2 + 24 ≤ _)⟩)
            have f204 := (Nat.le_trans (Nat.zero_le _) E199.1)
            obtain ⟨X203, S203, hZ203, ho203⟩ := rebS SW0 (by rw [e199]; exact f204 : _ ≤ T199.heap.size) XX203 SS203 gr203 hZ hown
            dsimp only [Pt.U, Pt.locs, Pt.cells, Pt.slots] at S203 hZ203 ho203 X203 l203 y203 z203 st203 hQ203
            subst l203 y203 z203
            obtain ⟨rfl, Nq203, Kq203, Eq203, Fq203_1, Fq203_2⟩ := hQ203
            have N203 := Fr.app N0 Nq203
            have c205 : Goes p e below s₁ (entryFrame m #[(.int p0), (.int p1)] maxLocals) T203 (mkF m 160 #[.val (.int p0), .val (.int p1), .val (.int ((p0 &&& (2147483647 : Int32)) % (5 : Int32))), .val (.int b3), .val (.ref w3), .val (.ref u3), .unset] [(.ref b199)]) := fun t kk => c202 t (st203.trans kk)
            have f206 := ((O0.ext E199).keep Kq203 (allS gb199 all0))
            have f207 := (Nat.le_trans f201 Kq203.1)
            have c208 : Goes p e below s₁ (entryFrame m #[(.int p0), (.int p1)] maxLocals) T203 (mkF m 164 #[.val (.int p0), .val (.int p1), .val (.int ((p0 &&& (2147483647 : Int32)) % (5 : Int32))), .val (.int b3), .val (.ref w3), .val (.ref u3), .val (.ref b199)] [(.ref b199)]) := by
              intro t kk
              refine c205 t ?_
              show Steps p.tables e below (T203.setTop (mkF m 160 #[.val (.int p0), .val (.int p1), .val (.int ((p0 &&& (2147483647 : Int32)) % (5 : Int32))), .val (.int b3), .val (.ref w3), .val (.ref u3), .unset] [(.ref b199)])) t
              refine XS.astore X203.here hx rfl (hb hby at_160) rfl rfl (l' := #[.val (.int p0), .val (.int p1), .val (.int ((p0 &&& (2147483647 : Int32)) % (5 : Int32))), .val (.int b3), .val (.ref w3), .val (.ref u3), .val (.ref b199)]) rfl ?_
              show Steps p.tables e below (T203.setTop (mkF m 162 #[.val (.int p0), .val (.int p1), .val (.int ((p0 &&& (2147483647 : Int32)) % (5 : Int32))), .val (.int b3), .val (.ref w3), .val (.ref u3), .val (.ref b199)] [])) t
              refine XS.aload X203.here hx rfl (hb hby at_162) rfl rfl ?_
              exact kk
            obtain ⟨cq209, kq209, q209a, q209b, q209c⟩ := isOf hZ203 rfl Eq203
            obtain ⟨_, _, ⟨T209, L209, k209, n209⟩, -, X209, ⟨Lc209, hQ209, l209, y209, z209⟩, st209⟩ := X203.virtualBack hx (y := (⟨"com/example/nextkey/nextkey/model/ColumnType$Int", "resultType", "()Lcom/example/nextkey/nextkey/model/ResultType;"⟩ : MethodName)) (z := (⟨"com/example/nextkey/nextkey/model/ColumnType$Int", "resultType", "()Lcom/example/nextkey/nextkey/model/ResultType;"⟩ : MethodName)) ho203 (mvT hZ203 (hw _ (List.mem_of_getElem? (i := 37) rfl))) (mvT hZ203 (hw _ (List.mem_of_getElem? (i := 38) rfl))) (notFace_of_selects (args := #[]) (mvT hZ203 (hw _ (List.mem_of_getElem? (i := 40) rfl)))) (mvT hZ203 (hw _ (List.mem_of_getElem? (i := 40) rfl))) (mvT hZ203 (hw _ (List.mem_of_getElem? (i := 39) rfl))) (by decide) (backOf (W := 0) (rm_rt l Z a0 hw [] b199 w3 (nar .boolean b3) s3 u3 T203.heap n0 f207 Fq203_2 Fq203_1 (Fs_3.ext f206.2) (Ft_3.ext f206.2)) hZ203 (hw _ (List.mem_of_getElem? (i := 41) rfl)) (hw _ (List.mem_of_getElem? (i := 9) rfl)) (by decide) (by decide)) q209a q209c (g := (mkF m 164 #[.val (.int p0), .val (.int p1), .val (.int ((p0 &&& (2147483647 : Int32)) % (5 : Int32))), .val (.int b3), .val (.ref w3), .val (.ref u3), .val (.ref b199)] [(.ref b199)])) rfl (by rw [hml]; rfl) (Steps.refl _) (argsL := []) (rest := []) (lenOf pd___Lcom_example_nextkey_nextkey_model_ResultType_ rfl) rfl (by show 2 * 0 + _ ≤ _; exact Nat.le_of_eq rfl) (hb hby at_164) (fun _ _ => ⟨rfl, rfl, (by decide : 3 + 0 ≤ _), (by decide : 26 + 0 ≤ _)⟩)
            dsimp only [Pt.U, Pt.locs, Pt.cells, Pt.slots] at X209 l209 y209 z209 st209 hQ209
            subst l209 y209 z209
            obtain ⟨rfl, Nq209, eq209⟩ := hQ209
            have N209 := Fr.app N203 Nq209
            have c210 : Goes p e below s₁ (entryFrame m #[(.int p0), (.int p1)] maxLocals) T209 (mkF m 167 #[.val (.int p0), .val (.int p1), .val (.int ((p0 &&& (2147483647 : Int32)) % (5 : Int32))), .val (.int b3), .val (.ref w3), .val (.ref u3), .val (.ref b199)] [(.ref (own_rt (nar .boolean b3) s3 u3))]) := fun t kk => c208 t (st209.trans kk)
            have c211 : Goes p e below s₁ (entryFrame m #[(.int p0), (.int p1)] maxLocals) T209 (mkF m 177 #[.val (.int p0), .val (.int p1), .val (.int ((p0 &&& (2147483647 : Int32)) % (5 : Int32))), .val (.int b3), .val (.ref w3), .val (.ref u3), .val (.ref b199)] [(.int (1 : Int32))]) := by
              intro t kk
              refine c210 t ?_
              show Steps p.tables e below (T209.setTop (mkF m 167 #[.val (.int p0), .val (.int p1), .val (.int ((p0 &&& (2147483647 : Int32)) % (5 : Int32))), .val (.int b3), .val (.ref w3), .val (.ref u3), .val (.ref b199)] [(.ref (own_rt (nar .boolean b3) s3 u3))])) t
              refine XS.aload X209.here hx rfl (hb hby at_167) rfl rfl ?_
              show Steps p.tables e below (T209.setTop (mkF m 169 #[.val (.int p0), .val (.int p1), .val (.int ((p0 &&& (2147483647 : Int32)) % (5 : Int32))), .val (.int b3), .val (.ref w3), .val (.ref u3), .val (.ref b199)] [(.ref u3), (.ref (own_rt (nar .boolean b3) s3 u3))])) t
              refine Jvm.RoadKit.acmp (g := (mkF m 169 #[.val (.int p0), .val (.int p1), .val (.int ((p0 &&& (2147483647 : Int32)) % (5 : Int32))), .val (.int b3), .val (.ref w3), .val (.ref u3), .val (.ref b199)] [(.ref u3), (.ref (own_rt (nar .boolean b3) s3 u3))])) X209 hx rfl rfl rfl (pc0 := 169) (pc' := 172) (same := true) rfl (hb hby at_169) rfl (decide_eq_true (congrArg Value.ref (own_rt1 hm44 hc113_177))) (by decide) (by decide) ?_
              show Steps p.tables e below (T209.setTop (mkF m 172 #[.val (.int p0), .val (.int p1), .val (.int ((p0 &&& (2147483647 : Int32)) % (5 : Int32))), .val (.int b3), .val (.ref w3), .val (.ref u3), .val (.ref b199)] [])) t
              refine XS.iconst X209.here hx rfl (hb hby at_172) ?_
              show Steps p.tables e below (T209.setTop (mkF m 173 #[.val (.int p0), .val (.int p1), .val (.int ((p0 &&& (2147483647 : Int32)) % (5 : Int32))), .val (.int b3), .val (.ref w3), .val (.ref u3), .val (.ref b199)] [(.int (1 : Int32))])) t
              refine XS.goto X209.here hx rfl (pc0 := 173) (pc' := 177) rfl (hb hby at_173) (by decide) (by decide) ?_
              exact kk
            obtain ⟨fs, hr, hrun, hended, hRW⟩ := X209.leaveW S203 (by rw [eq209]; exact (Nat.le_refl _)) (v := some (.int (1 : Int32))) (fun h => by rw [Bd.returns] at h; cases h)
            refine ⟨_, _, c211 _ ?_, hrun, hended, _, _, rfl, ?_, hRW.1, hRW.2.1, hRW.2.2.1, hRW.2.2.2.mono (by decide) (by decide)⟩
            · exact retN X209 hx (t := .boolean) Bd.returns (by simp) (hb hby at_177) hr
            · show Q_law Z p0 p1 w0 w1 w2 w3 w4 u0 u1 u2 u3 u4 s0 s1 s2 s3 s4 h0 n0 _ T209.heap _
              rw [eq209]
              exact ⟨rfl, N209⟩
        · have c212 : Goes p e below s₁ (entryFrame m #[(.int p0), (.int p1)] maxLocals) s₁ (mkF m 130 #[.val (.int p0), .val (.int p1), .val (.int ((p0 &&& (2147483647 : Int32)) % (5 : Int32))), .val (.int b3), .unset, .unset, .unset] []) := by
            intro t kk
            refine c171 t ?_
            show Steps p.tables e below (s₁.setTop (mkF m 104 #[.val (.int p0), .val (.int p1), .val (.int ((p0 &&& (2147483647 : Int32)) % (5 : Int32))), .val (.int b3), .unset, .unset, .unset] [(.int (3 : Int32)), (.int ((p0 &&& (2147483647 : Int32)) % (5 : Int32)))])) t
            refine XS.icmpYes XW0.here hx rfl (pc0 := 104) (pc' := 130) rfl (hb hby at_104) rfl (feq hc104_172).2 (by decide) (by decide) ?_
            exact kk
          obtain ⟨T213, X213, e213, st213⟩ := getS2 XW0 hx hZ hown (host := "") (Or.inl (hw _ (List.mem_of_getElem? (i := 44) rfl))) Via.refl e0 (S_w4.ext O0.2) (g := (mkF m 130 #[.val (.int p0), .val (.int p1), .val (.int ((p0 &&& (2147483647 : Int32)) % (5 : Int32))), .val (.int b3), .unset, .unset, .unset] [])) rfl (hb hby at_130)
          have c214 : Goes p e below s₁ (entryFrame m #[(.int p0), (.int p1)] maxLocals) T213 (mkF m 133 #[.val (.int p0), .val (.int p1), .val (.int ((p0 &&& (2147483647 : Int32)) % (5 : Int32))), .val (.int b3), .unset, .unset, .unset] [(.ref w4)]) := fun t kk => c212 t (st213 t kk)
          have c215 : Goes p e below s₁ (entryFrame m #[(.int p0), (.int p1)] maxLocals) T213 (mkF m 136 #[.val (.int p0), .val (.int p1), .val (.int ((p0 &&& (2147483647 : Int32)) % (5 : Int32))), .val (.int b3), .val (.ref w4), .unset, .unset] [(.int b3)]) := by
            intro t kk
            refine c214 t ?_
            show Steps p.tables e below (T213.setTop (mkF m 133 #[.val (.int p0), .val (.int p1), .val (.int ((p0 &&& (2147483647 : Int32)) % (5 : Int32))), .val (.int b3), .unset, .unset, .unset] [(.ref w4)])) t
            refine XS.astore X213.here hx rfl (hb hby at_133) rfl rfl (l' := #[.val (.int p0), .val (.int p1), .val (.int ((p0 &&& (2147483647 : Int32)) % (5 : Int32))), .val (.int b3), .val (.ref w4), .unset, .unset]) rfl ?_
            show Steps p.tables e below (T213.setTop (mkF m 135 #[.val (.int p0), .val (.int p1), .val (.int ((p0 &&& (2147483647 : Int32)) % (5 : Int32))), .val (.int b3), .val (.ref w4), .unset, .unset] [])) t
            refine XS.iloadN X213.here hx rfl (hb hby at_135) rfl ?_
            exact kk
          by_cases hc136_216 : b3 = (0 : Int32)
          · have c217 : Goes p e below s₁ (entryFrame m #[(.int p0), (.int p1)] maxLocals) T213 (mkF m 145 #[.val (.int p0), .val (.int p1), .val (.int ((p0 &&& (2147483647 : Int32)) % (5 : Int32))), .val (.int b3), .val (.ref w4), .unset, .unset] []) := by
              intro t kk
              refine c215 t ?_
              show Steps p.tables e below (T213.setTop (mkF m 136 #[.val (.int p0), .val (.int p1), .val (.int ((p0 &&& (2147483647 : Int32)) % (5 : Int32))), .val (.int b3), .val (.ref w4), .unset, .unset] [(.int b3)])) t
              refine XS.ifYes X213.here hx rfl (pc0 := 136) (pc' := 145) rfl (hb hby at_136) rfl ((if0 _ _).trans (teq hc136_216).1) (by decide) (by decide) ?_
              exact kk
            obtain ⟨T218, X218, e218, st218⟩ := getS2 X213 hx hZ hown (host := "") (Or.inl (hw _ (List.mem_of_getElem? (i := 62) rfl))) Via.refl e213 (S_s4.ext O0.2) (g := (mkF m 145 #[.val (.int p0), .val (.int p1), .val (.int ((p0 &&& (2147483647 : Int32)) % (5 : Int32))), .val (.int b3), .val (.ref w4), .unset, .unset] [])) rfl (hb hby at_145)
            have c219 : Goes p e below s₁ (entryFrame m #[(.int p0), (.int p1)] maxLocals) T218 (mkF m 148 #[.val (.int p0), .val (.int p1), .val (.int ((p0 &&& (2147483647 : Int32)) % (5 : Int32))), .val (.int b3), .val (.ref w4), .unset, .unset] [(.ref s4)]) := fun t kk => c217 t (st218 t kk)
            have c220 : Goes p e below s₁ (entryFrame m #[(.int p0), (.int p1)] maxLocals) T218 (mkF m 150 #[.val (.int p0), .val (.int p1), .val (.int ((p0 &&& (2147483647 : Int32)) % (5 : Int32))), .val (.int b3), .val (.ref w4), .val (.ref s4), .unset] []) := by
              intro t kk
              refine c219 t ?_
              show Steps p.tables e below (T218.setTop (mkF m 148 #[.val (.int p0), .val (.int p1), .val (.int ((p0 &&& (2147483647 : Int32)) % (5 : Int32))), .val (.int b3), .val (.ref w4), .unset, .unset] [(.ref s4)])) t
              refine XS.astore X218.here hx rfl (hb hby at_148) rfl rfl (l' := #[.val (.int p0), .val (.int p1), .val (.int ((p0 &&& (2147483647 : Int32)) % (5 : Int32))), .val (.int b3), .val (.ref w4), .val (.ref s4), .unset]) rfl ?_
              exact kk
            obtain ⟨T221, h221, X221, e221, E221, A221, D221, -, st221⟩ := newO X218 hx hZ hown (hw _ (List.mem_of_getElem? (i := 7) rfl)) (hw _ (List.mem_of_getElem? (i := 8) rfl)) (hw _ (List.mem_of_getElem? (i := 9) rfl)) e218 (g := (mkF m 150 #[.val (.int p0), .val (.int p1), .val (.int ((p0 &&& (2147483647 : Int32)) % (5 : Int32))), .val (.int b3), .val (.ref w4), .val (.ref s4), .unset] [])) rfl (hb hby at_150) (by decide) (by decide)
            obtain ⟨b221, g221⟩ : ∃ z, z = h0.size := ⟨_, rfl⟩
            rw [← g221] at A221 D221 st221
            have gb221 : n0 ≤ b221 := Nat.le_trans Z0 (Nat.le_of_eq g221.symm)
            have F_width_b221 : Fld Z h221 b221 "com/example/nextkey/nextkey/model/ColumnType$Int" "width" "Lcom/example/nextkey/nextkey/model/ColumnType$Int$Width;" .null := D221 (Or.inr (hw _ (List.mem_of_getElem? (i := 34) rfl))) (ty := (.object "com/example/nextkey/nextkey/model/ColumnType$Int$Width")) (by decide)
            have F_unsigned_b221 : Fld Z h221 b221 "com/example/nextkey/nextkey/model/ColumnType$Int" "unsigned" "Z" (.int (0 : Int32)) := D221 (Or.inr (hw _ (List.mem_of_getElem? (i := 36) rfl))) (ty := .boolean) (by decide)
            have c222 : Goes p e below s₁ (entryFrame m #[(.int p0), (.int p1)] maxLocals) T221 (mkF m 153 #[.val (.int p0), .val (.int p1), .val (.int ((p0 &&& (2147483647 : Int32)) % (5 : Int32))), .val (.int b3), .val (.ref w4), .val (.ref s4), .unset] [(.ref b221)]) := fun t kk => c220 t (st221 t kk)
            have f223 := (Nat.le_trans Z0 E221.1)
            have c224 : Goes p e below s₁ (entryFrame m #[(.int p0), (.int p1)] maxLocals) T221 (mkF m 157 #[.val (.int p0), .val (.int p1), .val (.int ((p0 &&& (2147483647 : Int32)) % (5 : Int32))), .val (.int b3), .val (.ref w4), .val (.ref s4), .unset] [(.int b3), (.ref w4), (.ref b221), (.ref b221)]) := by
              intro t kk
              refine c222 t ?_
              show Steps p.tables e below (T221.setTop (mkF m 153 #[.val (.int p0), .val (.int p1), .val (.int ((p0 &&& (2147483647 : Int32)) % (5 : Int32))), .val (.int b3), .val (.ref w4), .val (.ref s4), .unset] [(.ref b221)])) t
              refine XS.dup X221.here hx rfl (hb hby at_153) rfl rfl ?_
              show Steps p.tables e below (T221.setTop (mkF m 154 #[.val (.int p0), .val (.int p1), .val (.int ((p0 &&& (2147483647 : Int32)) % (5 : Int32))), .val (.int b3), .val (.ref w4), .val (.ref s4), .unset] [(.ref b221), (.ref b221)])) t
              refine XS.aload X221.here hx rfl (hb hby at_154) rfl rfl ?_
              show Steps p.tables e below (T221.setTop (mkF m 156 #[.val (.int p0), .val (.int p1), .val (.int ((p0 &&& (2147483647 : Int32)) % (5 : Int32))), .val (.int b3), .val (.ref w4), .val (.ref s4), .unset] [(.ref w4), (.ref b221), (.ref b221)])) t
              refine XS.iloadN X221.here hx rfl (hb hby at_156) rfl ?_
              exact kk
            obtain ⟨_, _, ⟨T225, L225, k225, n225⟩, -, XX225, SS225, gr225, ⟨Lc225, hQ225, l225, y225, z225⟩, st225⟩ := X221.specialBackS hx (y := (⟨"com/example/nextkey/nextkey/model/ColumnType$Int", "<init>", "(Lcom/example/nextkey/nextkey/model/ColumnType$Int$Width;Z)V"⟩ : MethodName)) rfl hown (mvT hZ (hw _ (List.mem_of_getElem? (i := 10) rfl))) (mvT hZ (hw _ (List.mem_of_getElem? (i := 11) rfl))) (mvT hZ (hw _ (List.mem_of_getElem? (i := 12) rfl))) (by decide) (backOfS (W := 1) (rm_init l Z a0 hw [] b221 w4 b3 h221 n0 f223 F_width_b221 F_unsigned_b221 A221 gb221) hZ (hw _ (List.mem_of_getElem? (i := 12) rfl)) (hw _ (List.mem_of_getElem? (i := 9) rfl)) (by decide) (by decide)) (g := (mkF m 157 #[.val (.int p0), .val (.int p1), .val (.int ((p0 &&& (2147483647 : Int32)) % (5 : Int32))), .val (.int b3), .val (.ref w4), .val (.ref s4), .unset] [(.int b3), (.ref w4), (.ref b221), (.ref b221)])) rfl (by rw [hml]; rfl) (Steps.refl _) (a := b221) (argsL := [(.ref w4), (.int b3)]) (rest := [(.ref b221)]) (lenOf pd__Lcom_example_nextkey_nextkey_model_ColumnType_Int_Width_Z_V rfl) rfl (by show 2 * 0 + _ ≤ _; exact Nat.le_of_eq rfl) (hb hby at_157) (fun _ _ => ⟨rfl, e221, (by decide : 1 + 2 ≤ _), (by decide : 2 + 24 ≤ _)⟩)
            have f226 := (Nat.le_trans (Nat.zero_le _) E221.1)
            obtain ⟨X225, S225, hZ225, ho225⟩ := rebS SW0 (by rw [e221]; exact f226 : _ ≤ T221.heap.size) XX225 SS225 gr225 hZ hown
            dsimp only [Pt.U, Pt.locs, Pt.cells, Pt.slots] at S225 hZ225 ho225 X225 l225 y225 z225 st225 hQ225
            subst l225 y225 z225
            obtain ⟨rfl, Nq225, Kq225, Eq225, Fq225_1, Fq225_2⟩ := hQ225
            have N225 := Fr.app N0 Nq225
            have c227 : Goes p e below s₁ (entryFrame m #[(.int p0), (.int p1)] maxLocals) T225 (mkF m 160 #[.val (.int p0), .val (.int p1), .val (.int ((p0 &&& (2147483647 : Int32)) % (5 : Int32))), .val (.int b3), .val (.ref w4), .val (.ref s4), .unset] [(.ref b221)]) := fun t kk => c224 t (st225.trans kk)
            have f228 := ((O0.ext E221).keep Kq225 (allS gb221 all0))
            have f229 := (Nat.le_trans f223 Kq225.1)
            have c230 : Goes p e below s₁ (entryFrame m #[(.int p0), (.int p1)] maxLocals) T225 (mkF m 164 #[.val (.int p0), .val (.int p1), .val (.int ((p0 &&& (2147483647 : Int32)) % (5 : Int32))), .val (.int b3), .val (.ref w4), .val (.ref s4), .val (.ref b221)] [(.ref b221)]) := by
              intro t kk
              refine c227 t ?_
              show Steps p.tables e below (T225.setTop (mkF m 160 #[.val (.int p0), .val (.int p1), .val (.int ((p0 &&& (2147483647 : Int32)) % (5 : Int32))), .val (.int b3), .val (.ref w4), .val (.ref s4), .unset] [(.ref b221)])) t
              refine XS.astore X225.here hx rfl (hb hby at_160) rfl rfl (l' := #[.val (.int p0), .val (.int p1), .val (.int ((p0 &&& (2147483647 : Int32)) % (5 : Int32))), .val (.int b3), .val (.ref w4), .val (.ref s4), .val (.ref b221)]) rfl ?_
              show Steps p.tables e below (T225.setTop (mkF m 162 #[.val (.int p0), .val (.int p1), .val (.int ((p0 &&& (2147483647 : Int32)) % (5 : Int32))), .val (.int b3), .val (.ref w4), .val (.ref s4), .val (.ref b221)] [])) t
              refine XS.aload X225.here hx rfl (hb hby at_162) rfl rfl ?_
              exact kk
            obtain ⟨cq231, kq231, q231a, q231b, q231c⟩ := isOf hZ225 rfl Eq225
            obtain ⟨_, _, ⟨T231, L231, k231, n231⟩, -, X231, ⟨Lc231, hQ231, l231, y231, z231⟩, st231⟩ := X225.virtualBack hx (y := (⟨"com/example/nextkey/nextkey/model/ColumnType$Int", "resultType", "()Lcom/example/nextkey/nextkey/model/ResultType;"⟩ : MethodName)) (z := (⟨"com/example/nextkey/nextkey/model/ColumnType$Int", "resultType", "()Lcom/example/nextkey/nextkey/model/ResultType;"⟩ : MethodName)) ho225 (mvT hZ225 (hw _ (List.mem_of_getElem? (i := 37) rfl))) (mvT hZ225 (hw _ (List.mem_of_getElem? (i := 38) rfl))) (notFace_of_selects (args := #[]) (mvT hZ225 (hw _ (List.mem_of_getElem? (i := 40) rfl)))) (mvT hZ225 (hw _ (List.mem_of_getElem? (i := 40) rfl))) (mvT hZ225 (hw _ (List.mem_of_getElem? (i := 39) rfl))) (by decide) (backOf (W := 0) (rm_rt l Z a0 hw [] b221 w4 (nar .boolean b3) s4 u4 T225.heap n0 f229 Fq225_2 Fq225_1 (Fs_4.ext f228.2) (Ft_4.ext f228.2)) hZ225 (hw _ (List.mem_of_getElem? (i := 41) rfl)) (hw _ (List.mem_of_getElem? (i := 9) rfl)) (by decide) (by decide)) q231a q231c (g := (mkF m 164 #[.val (.int p0), .val (.int p1), .val (.int ((p0 &&& (2147483647 : Int32)) % (5 : Int32))), .val (.int b3), .val (.ref w4), .val (.ref s4), .val (.ref b221)] [(.ref b221)])) rfl (by rw [hml]; rfl) (Steps.refl _) (argsL := []) (rest := []) (lenOf pd___Lcom_example_nextkey_nextkey_model_ResultType_ rfl) rfl (by show 2 * 0 + _ ≤ _; exact Nat.le_of_eq rfl) (hb hby at_164) (fun _ _ => ⟨rfl, rfl, (by decide : 3 + 0 ≤ _), (by decide : 26 + 0 ≤ _)⟩)
            dsimp only [Pt.U, Pt.locs, Pt.cells, Pt.slots] at X231 l231 y231 z231 st231 hQ231
            subst l231 y231 z231
            obtain ⟨rfl, Nq231, eq231⟩ := hQ231
            have N231 := Fr.app N225 Nq231
            have c232 : Goes p e below s₁ (entryFrame m #[(.int p0), (.int p1)] maxLocals) T231 (mkF m 167 #[.val (.int p0), .val (.int p1), .val (.int ((p0 &&& (2147483647 : Int32)) % (5 : Int32))), .val (.int b3), .val (.ref w4), .val (.ref s4), .val (.ref b221)] [(.ref (own_rt (nar .boolean b3) s4 u4))]) := fun t kk => c230 t (st231.trans kk)
            have c233 : Goes p e below s₁ (entryFrame m #[(.int p0), (.int p1)] maxLocals) T231 (mkF m 177 #[.val (.int p0), .val (.int p1), .val (.int ((p0 &&& (2147483647 : Int32)) % (5 : Int32))), .val (.int b3), .val (.ref w4), .val (.ref s4), .val (.ref b221)] [(.int (1 : Int32))]) := by
              intro t kk
              refine c232 t ?_
              show Steps p.tables e below (T231.setTop (mkF m 167 #[.val (.int p0), .val (.int p1), .val (.int ((p0 &&& (2147483647 : Int32)) % (5 : Int32))), .val (.int b3), .val (.ref w4), .val (.ref s4), .val (.ref b221)] [(.ref (own_rt (nar .boolean b3) s4 u4))])) t
              refine XS.aload X231.here hx rfl (hb hby at_167) rfl rfl ?_
              show Steps p.tables e below (T231.setTop (mkF m 169 #[.val (.int p0), .val (.int p1), .val (.int ((p0 &&& (2147483647 : Int32)) % (5 : Int32))), .val (.int b3), .val (.ref w4), .val (.ref s4), .val (.ref b221)] [(.ref s4), (.ref (own_rt (nar .boolean b3) s4 u4))])) t
              refine Jvm.RoadKit.acmp (g := (mkF m 169 #[.val (.int p0), .val (.int p1), .val (.int ((p0 &&& (2147483647 : Int32)) % (5 : Int32))), .val (.int b3), .val (.ref w4), .val (.ref s4), .val (.ref b221)] [(.ref s4), (.ref (own_rt (nar .boolean b3) s4 u4))])) X231 hx rfl rfl rfl (pc0 := 169) (pc' := 172) (same := true) rfl (hb hby at_169) rfl (decide_eq_true (congrArg Value.ref (own_rt0 hc136_216))) (by decide) (by decide) ?_
              show Steps p.tables e below (T231.setTop (mkF m 172 #[.val (.int p0), .val (.int p1), .val (.int ((p0 &&& (2147483647 : Int32)) % (5 : Int32))), .val (.int b3), .val (.ref w4), .val (.ref s4), .val (.ref b221)] [])) t
              refine XS.iconst X231.here hx rfl (hb hby at_172) ?_
              show Steps p.tables e below (T231.setTop (mkF m 173 #[.val (.int p0), .val (.int p1), .val (.int ((p0 &&& (2147483647 : Int32)) % (5 : Int32))), .val (.int b3), .val (.ref w4), .val (.ref s4), .val (.ref b221)] [(.int (1 : Int32))])) t
              refine XS.goto X231.here hx rfl (pc0 := 173) (pc' := 177) rfl (hb hby at_173) (by decide) (by decide) ?_
              exact kk
            obtain ⟨fs, hr, hrun, hended, hRW⟩ := X231.leaveW S225 (by rw [eq231]; exact (Nat.le_refl _)) (v := some (.int (1 : Int32))) (fun h => by rw [Bd.returns] at h; cases h)
            refine ⟨_, _, c233 _ ?_, hrun, hended, _, _, rfl, ?_, hRW.1, hRW.2.1, hRW.2.2.1, hRW.2.2.2.mono (by decide) (by decide)⟩
            · exact retN X231 hx (t := .boolean) Bd.returns (by simp) (hb hby at_177) hr
            · show Q_law Z p0 p1 w0 w1 w2 w3 w4 u0 u1 u2 u3 u4 s0 s1 s2 s3 s4 h0 n0 _ T231.heap _
              rw [eq231]
              exact ⟨rfl, N231⟩
          · have c234 : Goes p e below s₁ (entryFrame m #[(.int p0), (.int p1)] maxLocals) T213 (mkF m 139 #[.val (.int p0), .val (.int p1), .val (.int ((p0 &&& (2147483647 : Int32)) % (5 : Int32))), .val (.int b3), .val (.ref w4), .unset, .unset] []) := by
              intro t kk
              refine c215 t ?_
              show Steps p.tables e below (T213.setTop (mkF m 136 #[.val (.int p0), .val (.int p1), .val (.int ((p0 &&& (2147483647 : Int32)) % (5 : Int32))), .val (.int b3), .val (.ref w4), .unset, .unset] [(.int b3)])) t
              refine XS.ifNo X213.here hx rfl (hb hby at_136) rfl ((if0 _ _).trans (feq hc136_216).1) ?_
              exact kk
            obtain ⟨T235, X235, e235, st235⟩ := getS2 X213 hx hZ hown (host := "") (Or.inl (hw _ (List.mem_of_getElem? (i := 46) rfl))) Via.refl e213 (S_u4.ext O0.2) (g := (mkF m 139 #[.val (.int p0), .val (.int p1), .val (.int ((p0 &&& (2147483647 : Int32)) % (5 : Int32))), .val (.int b3), .val (.ref w4), .unset, .unset] [])) rfl (hb hby at_139)
            have c236 : Goes p e below s₁ (entryFrame m #[(.int p0), (.int p1)] maxLocals) T235 (mkF m 142 #[.val (.int p0), .val (.int p1), .val (.int ((p0 &&& (2147483647 : Int32)) % (5 : Int32))), .val (.int b3), .val (.ref w4), .unset, .unset] [(.ref u4)]) := fun t kk => c234 t (st235 t kk)
            have c237 : Goes p e below s₁ (entryFrame m #[(.int p0), (.int p1)] maxLocals) T235 (mkF m 150 #[.val (.int p0), .val (.int p1), .val (.int ((p0 &&& (2147483647 : Int32)) % (5 : Int32))), .val (.int b3), .val (.ref w4), .val (.ref u4), .unset] []) := by
              intro t kk
              refine c236 t ?_
              show Steps p.tables e below (T235.setTop (mkF m 142 #[.val (.int p0), .val (.int p1), .val (.int ((p0 &&& (2147483647 : Int32)) % (5 : Int32))), .val (.int b3), .val (.ref w4), .unset, .unset] [(.ref u4)])) t
              refine XS.goto X235.here hx rfl (pc0 := 142) (pc' := 148) rfl (hb hby at_142) (by decide) (by decide) ?_
              show Steps p.tables e below (T235.setTop (mkF m 148 #[.val (.int p0), .val (.int p1), .val (.int ((p0 &&& (2147483647 : Int32)) % (5 : Int32))), .val (.int b3), .val (.ref w4), .unset, .unset] [(.ref u4)])) t
              refine XS.astore X235.here hx rfl (hb hby at_148) rfl rfl (l' := #[.val (.int p0), .val (.int p1), .val (.int ((p0 &&& (2147483647 : Int32)) % (5 : Int32))), .val (.int b3), .val (.ref w4), .val (.ref u4), .unset]) rfl ?_
              exact kk
            obtain ⟨T238, h238, X238, e238, E238, A238, D238, -, st238⟩ := newO X235 hx hZ hown (hw _ (List.mem_of_getElem? (i := 7) rfl)) (hw _ (List.mem_of_getElem? (i := 8) rfl)) (hw _ (List.mem_of_getElem? (i := 9) rfl)) e235 (g := (mkF m 150 #[.val (.int p0), .val (.int p1), .val (.int ((p0 &&& (2147483647 : Int32)) % (5 : Int32))), .val (.int b3), .val (.ref w4), .val (.ref u4), .unset] [])) rfl (hb hby at_150) (by decide) (by decide)
            obtain ⟨b238, g238⟩ : ∃ z, z = h0.size := ⟨_, rfl⟩
            rw [← g238] at A238 D238 st238
            have gb238 : n0 ≤ b238 := Nat.le_trans Z0 (Nat.le_of_eq g238.symm)
            have F_width_b238 : Fld Z h238 b238 "com/example/nextkey/nextkey/model/ColumnType$Int" "width" "Lcom/example/nextkey/nextkey/model/ColumnType$Int$Width;" .null := D238 (Or.inr (hw _ (List.mem_of_getElem? (i := 34) rfl))) (ty := (.object "com/example/nextkey/nextkey/model/ColumnType$Int$Width")) (by decide)
            have F_unsigned_b238 : Fld Z h238 b238 "com/example/nextkey/nextkey/model/ColumnType$Int" "unsigned" "Z" (.int (0 : Int32)) := D238 (Or.inr (hw _ (List.mem_of_getElem? (i := 36) rfl))) (ty := .boolean) (by decide)
            have c239 : Goes p e below s₁ (entryFrame m #[(.int p0), (.int p1)] maxLocals) T238 (mkF m 153 #[.val (.int p0), .val (.int p1), .val (.int ((p0 &&& (2147483647 : Int32)) % (5 : Int32))), .val (.int b3), .val (.ref w4), .val (.ref u4), .unset] [(.ref b238)]) := fun t kk => c237 t (st238 t kk)
            have f240 := (Nat.le_trans Z0 E238.1)
            have c241 : Goes p e below s₁ (entryFrame m #[(.int p0), (.int p1)] maxLocals) T238 (mkF m 157 #[.val (.int p0), .val (.int p1), .val (.int ((p0 &&& (2147483647 : Int32)) % (5 : Int32))), .val (.int b3), .val (.ref w4), .val (.ref u4), .unset] [(.int b3), (.ref w4), (.ref b238), (.ref b238)]) := by
              intro t kk
              refine c239 t ?_
              show Steps p.tables e below (T238.setTop (mkF m 153 #[.val (.int p0), .val (.int p1), .val (.int ((p0 &&& (2147483647 : Int32)) % (5 : Int32))), .val (.int b3), .val (.ref w4), .val (.ref u4), .unset] [(.ref b238)])) t
              refine XS.dup X238.here hx rfl (hb hby at_153) rfl rfl ?_
              show Steps p.tables e below (T238.setTop (mkF m 154 #[.val (.int p0), .val (.int p1), .val (.int ((p0 &&& (2147483647 : Int32)) % (5 : Int32))), .val (.int b3), .val (.ref w4), .val (.ref u4), .unset] [(.ref b238), (.ref b238)])) t
              refine XS.aload X238.here hx rfl (hb hby at_154) rfl rfl ?_
              show Steps p.tables e below (T238.setTop (mkF m 156 #[.val (.int p0), .val (.int p1), .val (.int ((p0 &&& (2147483647 : Int32)) % (5 : Int32))), .val (.int b3), .val (.ref w4), .val (.ref u4), .unset] [(.ref w4), (.ref b238), (.ref b238)])) t
              refine XS.iloadN X238.here hx rfl (hb hby at_156) rfl ?_
              exact kk
            obtain ⟨_, _, ⟨T242, L242, k242, n242⟩, -, XX242, SS242, gr242, ⟨Lc242, hQ242, l242, y242, z242⟩, st242⟩ := X238.specialBackS hx (y := (⟨"com/example/nextkey/nextkey/model/ColumnType$Int", "<init>", "(Lcom/example/nextkey/nextkey/model/ColumnType$Int$Width;Z)V"⟩ : MethodName)) rfl hown (mvT hZ (hw _ (List.mem_of_getElem? (i := 10) rfl))) (mvT hZ (hw _ (List.mem_of_getElem? (i := 11) rfl))) (mvT hZ (hw _ (List.mem_of_getElem? (i := 12) rfl))) (by decide) (backOfS (W := 1) (rm_init l Z a0 hw [] b238 w4 b3 h238 n0 f240 F_width_b238 F_unsigned_b238 A238 gb238) hZ (hw _ (List.mem_of_getElem? (i := 12) rfl)) (hw _ (List.mem_of_getElem? (i := 9) rfl)) (by decide) (by decide)) (g := (mkF m 157 #[.val (.int p0), .val (.int p1), .val (.int ((p0 &&& (2147483647 : Int32)) % (5 : Int32))), .val (.int b3), .val (.ref w4), .val (.ref u4), .unset] [(.int b3), (.ref w4), (.ref b238), (.ref b238)])) rfl (by rw [hml]; rfl) (Steps.refl _) (a := b238) (argsL := [(.ref w4), (.int b3)]) (rest := [(.ref b238)]) (lenOf pd__Lcom_example_nextkey_nextkey_model_ColumnType_Int_Width_Z_V rfl) rfl (by show 2 * 0 + _ ≤ _; exact Nat.le_of_eq rfl) (hb hby at_157) (fun _ _ => ⟨rfl, e238, (by decide : 1 + 2 ≤ _), (by decide : 2 + 24 ≤ _)⟩)
            have f243 := (Nat.le_trans (Nat.zero_le _) E238.1)
            obtain ⟨X242, S242, hZ242, ho242⟩ := rebS SW0 (by rw [e238]; exact f243 : _ ≤ T238.heap.size) XX242 SS242 gr242 hZ hown
            dsimp only [Pt.U, Pt.locs, Pt.cells, Pt.slots] at S242 hZ242 ho242 X242 l242 y242 z242 st242 hQ242
            subst l242 y242 z242
            obtain ⟨rfl, Nq242, Kq242, Eq242, Fq242_1, Fq242_2⟩ := hQ242
            have N242 := Fr.app N0 Nq242
            have c244 : Goes p e below s₁ (entryFrame m #[(.int p0), (.int p1)] maxLocals) T242 (mkF m 160 #[.val (.int p0), .val (.int p1), .val (.int ((p0 &&& (2147483647 : Int32)) % (5 : Int32))), .val (.int b3), .val (.ref w4), .val (.ref u4), .unset] [(.ref b238)]) := fun t kk => c241 t (st242.trans kk)
            have f245 := ((O0.ext E238).keep Kq242 (allS gb238 all0))
            have f246 := (Nat.le_trans f240 Kq242.1)
            have c247 : Goes p e below s₁ (entryFrame m #[(.int p0), (.int p1)] maxLocals) T242 (mkF m 164 #[.val (.int p0), .val (.int p1), .val (.int ((p0 &&& (2147483647 : Int32)) % (5 : Int32))), .val (.int b3), .val (.ref w4), .val (.ref u4), .val (.ref b238)] [(.ref b238)]) := by
              intro t kk
              refine c244 t ?_
              show Steps p.tables e below (T242.setTop (mkF m 160 #[.val (.int p0), .val (.int p1), .val (.int ((p0 &&& (2147483647 : Int32)) % (5 : Int32))), .val (.int b3), .val (.ref w4), .val (.ref u4), .unset] [(.ref b238)])) t
              refine XS.astore X242.here hx rfl (hb hby at_160) rfl rfl (l' := #[.val (.int p0), .val (.int p1), .val (.int ((p0 &&& (2147483647 : Int32)) % (5 : Int32))), .val (.int b3), .val (.ref w4), .val (.ref u4), .val (.ref b238)]) rfl ?_
              show Steps p.tables e below (T242.setTop (mkF m 162 #[.val (.int p0), .val (.int p1), .val (.int ((p0 &&& (2147483647 : Int32)) % (5 : Int32))), .val (.int b3), .val (.ref w4), .val (.ref u4), .val (.ref b238)] [])) t
              refine XS.aload X242.here hx rfl (hb hby at_162) rfl rfl ?_
              exact kk
            obtain ⟨cq248, kq248, q248a, q248b, q248c⟩ := isOf hZ242 rfl Eq242
            obtain ⟨_, _, ⟨T248, L248, k248, n248⟩, -, X248, ⟨Lc248, hQ248, l248, y248, z248⟩, st248⟩ := X242.virtualBack hx (y := (⟨"com/example/nextkey/nextkey/model/ColumnType$Int", "resultType", "()Lcom/example/nextkey/nextkey/model/ResultType;"⟩ : MethodName)) (z := (⟨"com/example/nextkey/nextkey/model/ColumnType$Int", "resultType", "()Lcom/example/nextkey/nextkey/model/ResultType;"⟩ : MethodName)) ho242 (mvT hZ242 (hw _ (List.mem_of_getElem? (i := 37) rfl))) (mvT hZ242 (hw _ (List.mem_of_getElem? (i := 38) rfl))) (notFace_of_selects (args := #[]) (mvT hZ242 (hw _ (List.mem_of_getElem? (i := 40) rfl)))) (mvT hZ242 (hw _ (List.mem_of_getElem? (i := 40) rfl))) (mvT hZ242 (hw _ (List.mem_of_getElem? (i := 39) rfl))) (by decide) (backOf (W := 0) (rm_rt l Z a0 hw [] b238 w4 (nar .boolean b3) s4 u4 T242.heap n0 f246 Fq242_2 Fq242_1 (Fs_4.ext f245.2) (Ft_4.ext f245.2)) hZ242 (hw _ (List.mem_of_getElem? (i := 41) rfl)) (hw _ (List.mem_of_getElem? (i := 9) rfl)) (by decide) (by decide)) q248a q248c (g := (mkF m 164 #[.val (.int p0), .val (.int p1), .val (.int ((p0 &&& (2147483647 : Int32)) % (5 : Int32))), .val (.int b3), .val (.ref w4), .val (.ref u4), .val (.ref b238)] [(.ref b238)])) rfl (by rw [hml]; rfl) (Steps.refl _) (argsL := []) (rest := []) (lenOf pd___Lcom_example_nextkey_nextkey_model_ResultType_ rfl) rfl (by show 2 * 0 + _ ≤ _; exact Nat.le_of_eq rfl) (hb hby at_164) (fun _ _ => ⟨rfl, rfl, (by decide : 3 + 0 ≤ _), (by decide : 26 + 0 ≤ _)⟩)
            dsimp only [Pt.U, Pt.locs, Pt.cells, Pt.slots] at X248 l248 y248 z248 st248 hQ248
            subst l248 y248 z248
            obtain ⟨rfl, Nq248, eq248⟩ := hQ248
            have N248 := Fr.app N242 Nq248
            have c249 : Goes p e below s₁ (entryFrame m #[(.int p0), (.int p1)] maxLocals) T248 (mkF m 167 #[.val (.int p0), .val (.int p1), .val (.int ((p0 &&& (2147483647 : Int32)) % (5 : Int32))), .val (.int b3), .val (.ref w4), .val (.ref u4), .val (.ref b238)] [(.ref (own_rt (nar .boolean b3) s4 u4))]) := fun t kk => c247 t (st248.trans kk)
            have c250 : Goes p e below s₁ (entryFrame m #[(.int p0), (.int p1)] maxLocals) T248 (mkF m 177 #[.val (.int p0), .val (.int p1), .val (.int ((p0 &&& (2147483647 : Int32)) % (5 : Int32))), .val (.int b3), .val (.ref w4), .val (.ref u4), .val (.ref b238)] [(.int (1 : Int32))]) := by
              intro t kk
              refine c249 t ?_
              show Steps p.tables e below (T248.setTop (mkF m 167 #[.val (.int p0), .val (.int p1), .val (.int ((p0 &&& (2147483647 : Int32)) % (5 : Int32))), .val (.int b3), .val (.ref w4), .val (.ref u4), .val (.ref b238)] [(.ref (own_rt (nar .boolean b3) s4 u4))])) t
              refine XS.aload X248.here hx rfl (hb hby at_167) rfl rfl ?_
              show Steps p.tables e below (T248.setTop (mkF m 169 #[.val (.int p0), .val (.int p1), .val (.int ((p0 &&& (2147483647 : Int32)) % (5 : Int32))), .val (.int b3), .val (.ref w4), .val (.ref u4), .val (.ref b238)] [(.ref u4), (.ref (own_rt (nar .boolean b3) s4 u4))])) t
              refine Jvm.RoadKit.acmp (g := (mkF m 169 #[.val (.int p0), .val (.int p1), .val (.int ((p0 &&& (2147483647 : Int32)) % (5 : Int32))), .val (.int b3), .val (.ref w4), .val (.ref u4), .val (.ref b238)] [(.ref u4), (.ref (own_rt (nar .boolean b3) s4 u4))])) X248 hx rfl rfl rfl (pc0 := 169) (pc' := 172) (same := true) rfl (hb hby at_169) rfl (decide_eq_true (congrArg Value.ref (own_rt1 hm44 hc136_216))) (by decide) (by decide) ?_
              show Steps p.tables e below (T248.setTop (mkF m 172 #[.val (.int p0), .val (.int p1), .val (.int ((p0 &&& (2147483647 : Int32)) % (5 : Int32))), .val (.int b3), .val (.ref w4), .val (.ref u4), .val (.ref b238)] [])) t
              refine XS.iconst X248.here hx rfl (hb hby at_172) ?_
              show Steps p.tables e below (T248.setTop (mkF m 173 #[.val (.int p0), .val (.int p1), .val (.int ((p0 &&& (2147483647 : Int32)) % (5 : Int32))), .val (.int b3), .val (.ref w4), .val (.ref u4), .val (.ref b238)] [(.int (1 : Int32))])) t
              refine XS.goto X248.here hx rfl (pc0 := 173) (pc' := 177) rfl (hb hby at_173) (by decide) (by decide) ?_
              exact kk
            obtain ⟨fs, hr, hrun, hended, hRW⟩ := X248.leaveW S242 (by rw [eq248]; exact (Nat.le_refl _)) (v := some (.int (1 : Int32))) (fun h => by rw [Bd.returns] at h; cases h)
            refine ⟨_, _, c250 _ ?_, hrun, hended, _, _, rfl, ?_, hRW.1, hRW.2.1, hRW.2.2.1, hRW.2.2.2.mono (by decide) (by decide)⟩
            · exact retN X248 hx (t := .boolean) Bd.returns (by simp) (hb hby at_177) hr
            · show Q_law Z p0 p1 w0 w1 w2 w3 w4 u0 u1 u2 u3 u4 s0 s1 s2 s3 s4 h0 n0 _ T248.heap _
              rw [eq248]
              exact ⟨rfl, N248⟩
set_option maxRecDepth 65536 in
set_option maxHeartbeats 40000000 in
theorem comes_1 {Post : Tables → Env → Array Value → State → Outcome → State → Prop} (hpost : ∀ tb e args s v u, (limb_1_1.after args s (.returned v) u = true ∧ limb_1_2.after args s (.returned v) u = true ∧ True) → ReturnedEndW s (.returned v) u (Jvm.fieldLocs frame_1_writes args s ++ Jvm.arrayLocs frame_1_arrays args s ++ Jvm.staticLocs frame_1_statics s) 16 1152 → Post tb e args s (.returned v) u) :
    ArmFor flags0 classFile x code maxLocals ret World_1 tables_1 room_1 Calls_1 rest_1 Pre_1 Post := by
  intro l hfl _ _ p e ha hc hk s m args below hf hA hF happ hP
  obtain ⟨hcalls, hrest, hpre⟩ := hP
  obtain ⟨-, -, -, hnamed, -, -, -, hat⟩ := (Spec.applies_iff hf).mp happ
  obtain ⟨hg, hn⟩ := and_e (Cond.before_iff.mp (show (Jvm.Cond.and given_1 narrow_1).before args s = true from hpre))
  obtain ⟨gg1, gg2⟩ := and_e hg
  obtain ⟨gg3, gg4⟩ := and_e gg2
  obtain ⟨w0, w1, rfl⟩ : ∃ w0 w1 : Value, args = #[w0, w1] := by
    have hs : args.size = 2 := by simpa [Cond.value, given_1] using gg1
    obtain ⟨L⟩ := args
    match L, hs with
    | [w0, w1], _ => exact ⟨w0, w1, rfl⟩
  have hw := fun d (hd : d ∈ tables_1) => atoms_spec (ws := Jvm.Cond.code x code maxLocals ret :: tables_1) hat d (List.mem_cons_of_mem _ hd)
  have hfit : Fit s := fun {y c} hc i hi => by
    obtain ⟨ha, rfl⟩ := Array.getElem?_eq_some_iff.mp hc
    have q := List.all_eq_true.mp ((Array.all_eq_true_iff_forall_mem.mp hF) _ (Array.getElem_mem ha)) i (List.mem_range.mpr hi)
    simpa [Array.getElem?_eq_getElem hi] using q
  obtain ⟨i0, ei0⟩ := is_v gg3
  obtain rfl : w0 = (.int i0) := Option.some.inj ei0
  obtain ⟨i1, ei1⟩ := is_v gg4
  obtain rfl : w1 = (.int i1) := Option.some.inj ei1
  obtain ⟨nn1, nn2⟩ := and_e hn
  obtain ⟨nn3, nn4⟩ := and_e nn2
  obtain ⟨nn5, nn6⟩ := and_e nn4
  obtain ⟨nn7, nn8⟩ := and_e nn6
  obtain ⟨nn9, nn10⟩ := and_e nn8
  obtain ⟨nn11, nn12⟩ := and_e nn10
  obtain ⟨nn13, nn14⟩ := and_e nn12
  obtain ⟨nn15, nn16⟩ := and_e nn14
  obtain ⟨nn17, nn18⟩ := and_e nn16
  obtain ⟨nn19, nn20⟩ := and_e nn18
  obtain ⟨nn21, nn22⟩ := and_e nn20
  obtain ⟨nn23, nn24⟩ := and_e nn22
  obtain ⟨nn25, nn26⟩ := and_e nn24
  obtain ⟨nn27, nn28⟩ := and_e nn26
  obtain ⟨nn29, nn30⟩ := and_e nn28
  obtain ⟨nn31, nn32⟩ := and_e nn30
  obtain ⟨nn33, nn34⟩ := and_e nn32
  obtain ⟨nn35, nn36⟩ := and_e nn34
  obtain ⟨nn37, nn38⟩ := and_e nn36
  obtain ⟨nn39, nn40⟩ := and_e nn38
  obtain ⟨nn41, nn42⟩ := and_e nn40
  obtain ⟨nn43, nn44⟩ := and_e nn42
  obtain ⟨nn45, nn46⟩ := and_e nn44
  obtain ⟨nn47, nn48⟩ := and_e nn46
  obtain ⟨w0, v_w0⟩ := exa_v nn1
  have S_w0 := Sta.start v_w0 (Or.inr ⟨hw _ (List.mem_of_getElem? (i := 2) rfl), hw _ (List.mem_of_getElem? (i := 3) rfl)⟩)
  obtain ⟨w1, v_w1⟩ := exa_v nn19
  have S_w1 := Sta.start v_w1 (Or.inr ⟨hw _ (List.mem_of_getElem? (i := 2) rfl), hw _ (List.mem_of_getElem? (i := 53) rfl)⟩)
  obtain ⟨w2, v_w2⟩ := exa_v nn25
  have S_w2 := Sta.start v_w2 (Or.inr ⟨hw _ (List.mem_of_getElem? (i := 2) rfl), hw _ (List.mem_of_getElem? (i := 59) rfl)⟩)
  obtain ⟨w3, v_w3⟩ := exa_v nn13
  have S_w3 := Sta.start v_w3 (Or.inr ⟨hw _ (List.mem_of_getElem? (i := 2) rfl), hw _ (List.mem_of_getElem? (i := 49) rfl)⟩)
  obtain ⟨w4, v_w4⟩ := exa_v nn7
  have S_w4 := Sta.start v_w4 (Or.inr ⟨hw _ (List.mem_of_getElem? (i := 2) rfl), hw _ (List.mem_of_getElem? (i := 45) rfl)⟩)
  obtain ⟨u0, v_u0⟩ := exa_v nn3
  have S_u0 := Sta.start v_u0 (Or.inr ⟨hw _ (List.mem_of_getElem? (i := 5) rfl), hw _ (List.mem_of_getElem? (i := 6) rfl)⟩)
  obtain ⟨u1, v_u1⟩ := exa_v nn35
  have S_u1 := Sta.start v_u1 (Or.inr ⟨hw _ (List.mem_of_getElem? (i := 5) rfl), hw _ (List.mem_of_getElem? (i := 65) rfl)⟩)
  obtain ⟨u2, v_u2⟩ := exa_v nn27
  have S_u2 := Sta.start v_u2 (Or.inr ⟨hw _ (List.mem_of_getElem? (i := 5) rfl), hw _ (List.mem_of_getElem? (i := 61) rfl)⟩)
  obtain ⟨u3, v_u3⟩ := exa_v nn15
  have S_u3 := Sta.start v_u3 (Or.inr ⟨hw _ (List.mem_of_getElem? (i := 5) rfl), hw _ (List.mem_of_getElem? (i := 51) rfl)⟩)
  obtain ⟨u4, v_u4⟩ := exa_v nn9
  have S_u4 := Sta.start v_u4 (Or.inr ⟨hw _ (List.mem_of_getElem? (i := 5) rfl), hw _ (List.mem_of_getElem? (i := 47) rfl)⟩)
  obtain ⟨s0, v_s0⟩ := exa_v nn43
  have S_s0 := Sta.start v_s0 (Or.inr ⟨hw _ (List.mem_of_getElem? (i := 5) rfl), hw _ (List.mem_of_getElem? (i := 69) rfl)⟩)
  obtain ⟨s1, v_s1⟩ := exa_v nn21
  have S_s1 := Sta.start v_s1 (Or.inr ⟨hw _ (List.mem_of_getElem? (i := 5) rfl), hw _ (List.mem_of_getElem? (i := 55) rfl)⟩)
  obtain ⟨s2, v_s2⟩ := exa_v nn39
  have S_s2 := Sta.start v_s2 (Or.inr ⟨hw _ (List.mem_of_getElem? (i := 5) rfl), hw _ (List.mem_of_getElem? (i := 67) rfl)⟩)
  obtain ⟨s3, v_s3⟩ := exa_v nn47
  have S_s3 := Sta.start v_s3 (Or.inr ⟨hw _ (List.mem_of_getElem? (i := 5) rfl), hw _ (List.mem_of_getElem? (i := 71) rfl)⟩)
  obtain ⟨s4, v_s4⟩ := exa_v nn31
  have S_s4 := Sta.start v_s4 (Or.inr ⟨hw _ (List.mem_of_getElem? (i := 5) rfl), hw _ (List.mem_of_getElem? (i := 63) rfl)⟩)
  have Fs_0 := own_fldR v_w0 v_s0 nn45
  have Ft_0 := own_fldR v_w0 v_u0 nn5
  have Fs_1 := own_fldR v_w1 v_s1 nn23
  have Ft_1 := own_fldR v_w1 v_u1 nn37
  have Fs_2 := own_fldR v_w2 v_s2 nn41
  have Ft_2 := own_fldR v_w2 v_u2 nn29
  have Fs_3 := own_fldR v_w3 v_s3 nn48
  have Ft_3 := own_fldR v_w3 v_u3 nn17
  have Fs_4 := own_fldR v_w4 v_s4 nn33
  have Ft_4 := own_fldR v_w4 v_u4 nn11
  obtain ⟨n, o, h1, h2, h3, _, L, rfl, ⟨rfl, N⟩, hq⟩ := rm_law l s _ hw tables_1 i0 i1 w0 w1 w2 w3 w4 u0 u1 u2 u3 u4 s0 s1 s2 s3 s4 s.heap s.heap.size (Nat.le_refl _) (Old.start s) S_w0 S_w1 S_w2 S_w3 S_w4 S_u0 S_u1 S_u2 S_u3 S_u4 S_s0 S_s1 S_s2 S_s3 S_s4 Fs_0 Fs_1 Fs_2 Fs_3 Fs_4 Ft_0 Ft_1 Ft_2 Ft_3 Ft_4 p e ha hc hk s m _ below hf ((Spec.applies_iff_loose hf).mp happ).1 ⟨rfl, State.Warmed39.refl s, rfl⟩ trivial
  refine ⟨n, _, h1, h2, h3, hpost _ _ _ _ _ _ ⟨Cond.after_iff.mpr rfl, Cond.after_iff.mpr (eq_i res_at (Term.int_eval (1)) rfl), trivial⟩ ⟨hq.1, hq.2.1, hq.2.2.1, (hq.2.2.2.sift fun y hy => Or.inr (N y hy)).mono (by decide) (by decide)⟩⟩
theorem main_1_1 : Claimed_1_1 := comes_1 fun _ _ _ _ _ _ h hF => ⟨h.1, hF⟩
theorem main_1_2 : Claimed_1_2 := comes_1 fun _ _ _ _ _ _ h hF => ⟨h.2.1, hF⟩
end Jvm.Pilot.@@N@@
namespace Jvm.Pilot.@@N@@
open Jvm Jvm.ClassFile Sem Op Lib Jvm.Free Jvm.Stand Jvm.Pilot.@@N@@.Jvm.D
/-! MADE BY PROGRAM (witnessworld.py) out of the Statement's table words and the real class files: 20 classes; the members and pool entries that the words name. The judged class is class 1, her method 1. -/
namespace start1
open Jvm.ClassFile
def u (s : String) : CpInfo := .utf8 (stringToUtf16 s)
/-- a pool by its gaps: so many unusable entries, then the entry; so many at the end -/
def gap : Nat → List CpInfo → List CpInfo
  | 0, r => r
  | n + 1, r => .unusable :: gap n r
def poolList (es : List (Nat × CpInfo)) (last : Nat) : List CpInfo := es.foldr (fun e r => gap e.1 (e.2 :: r)) (gap last [])
def pool (es : List (Nat × CpInfo)) (last : Nat) : Array CpInfo := ⟨poolList es last⟩
def fileOf (pool : Array CpInfo) (this : Nat) (attrs : Array Attribute := #[]) (ms : Array MethodInfo := #[]) (fl : Nat := 33) (sup : Nat := 0) (ifs : Array Nat := #[]) (fds : Array FieldInfo := #[]) : ClassFile where
  minorVersion := 0
  majorVersion := 65
  constantPool := pool
  accessFlags := fl
  thisClass := this
  superClass := sup
  interfaces := ifs
  fields := fds
  methods := ms
  attributes := attrs
def plain (name : String) (sup : Option ClassId) : Class where
  name := name
  kind := .ordinary
  loader := none
  accessFlags := 33
  super := sup
  interfaces := #[]
  cf := none
  fields := #[]
  methods := #[]
  instanceTypes := #[]
  staticTypes := #[]
  resolved := #[]
  callSites := []
  init := .initialized
  statics := none
  mirror := none

def pool0 : Array CpInfo := pool [(5, u "<init>"), (0, u "()V"), (1, .class_ 10), (1, u "java/lang/Object")] 113

def k0c0 : Code := { maxStack := 0, maxLocals := 1, code := object_method_1_code, exceptionTable := #[], attributes := #[] }
def k0m0 : Method := { name := "<init>", desc := "()V", sig := { parameters := [], returnType := none }, accessFlags := 1, code := some k0c0 }
/-- java/lang/Object -/
def k0 : Class := { plain "java/lang/Object" none with
  accessFlags := 33
  interfaces := #[]
  cf := some (fileOf pool0 8 #[] #[{ accessFlags := 1, nameIndex := 5, descriptorIndex := 6, attributes := #[] }] 33 0 #[] #[])
  fields := #[]
  methods := #[k0m0]
  instanceTypes := #[]
  staticTypes := #[]
  resolved := Array.replicate 124 none
  statics := none }

def pool1 : Array CpInfo := pool [(2, .class_ 4), (1, u "java/lang/Object"), (0, u "<init>"), (0, u "()V"), (0, .integer 2147483647), (0, .fieldref 9 10), (0, .class_ 11), (0, .nameAndType 12 13), (0, u "com/example/nextkey/nextkey/model/ColumnType$Int$Width"), (0, u "TINYINT"), (0, u "Lcom/example/nextkey/nextkey/model/ColumnType$Int$Width;"), (0, .fieldref 15 16), (0, .class_ 17), (0, .nameAndType 18 19), (0, u "com/example/nextkey/nextkey/model/ResultType"), (0, u "TINYINT_UNSIGNED"), (0, u "Lcom/example/nextkey/nextkey/model/ResultType;"), (0, .fieldref 15 21), (0, .nameAndType 12 19), (0, .fieldref 9 23), (0, .nameAndType 24 13), (0, u "SMALLINT"), (0, .fieldref 15 26), (0, .nameAndType 27 19), (0, u "SMALLINT_UNSIGNED"), (0, .fieldref 15 29), (0, .nameAndType 24 19), (0, .fieldref 9 31), (0, .nameAndType 32 13), (0, u "MEDIUMINT"), (0, .fieldref 15 34), (0, .nameAndType 35 19), (0, u "MEDIUMINT_UNSIGNED"), (0, .fieldref 15 37), (0, .nameAndType 32 19), (0, .fieldref 9 39), (0, .nameAndType 40 13), (0, u "INT"), (0, .fieldref 15 42), (0, .nameAndType 43 19), (0, u "INT_UNSIGNED"), (0, .fieldref 15 45), (0, .nameAndType 40 19), (0, .fieldref 9 47), (0, .nameAndType 48 13), (0, u "BIGINT"), (0, .fieldref 15 50), (0, .nameAndType 51 19), (0, u "BIGINT_UNSIGNED"), (0, .fieldref 15 53), (0, .nameAndType 48 19), (0, .class_ 55), (0, u "com/example/nextkey/nextkey/model/ColumnType$Int"), (0, .methodref 54 57), (0, .nameAndType 5 58), (0, u "(Lcom/example/nextkey/nextkey/model/ColumnType$Int$Width;Z)V"), (0, .methodref 54 60), (0, .nameAndType 61 62), (0, u "resultType"), (0, u "()Lcom/example/nextkey/nextkey/model/ResultType;"), (0, .class_ 64), (0, u "com/example/nextkey/nextkey/model/IntResultTypePinLaw"), (2, u "law"), (0, u "(II)Z")] 8

def k1m0 : Method := { name := "<init>", desc := "()V", sig := { parameters := [], returnType := none }, accessFlags := 1, code := none }
def k1c1 : Code := { maxStack := 4, maxLocals := 7, code := code, exceptionTable := #[], attributes := #[] }
def k1m1 : Method := { name := "law", desc := "(II)Z", sig := { parameters := [.int, .int], returnType := some .boolean }, accessFlags := 9, code := some k1c1 }
/-- com/example/nextkey/nextkey/model/IntResultTypePinLaw -/
def k1 : Class := { plain "com/example/nextkey/nextkey/model/IntResultTypePinLaw" (some 0) with
  accessFlags := 49
  interfaces := #[]
  cf := some (fileOf pool1 63 #[] #[{ accessFlags := 1, nameIndex := 5, descriptorIndex := 6, attributes := #[] }, { accessFlags := 9, nameIndex := 67, descriptorIndex := 68, attributes := #[] }] 49 2 #[] #[])
  fields := #[]
  methods := #[k1m0, k1m1]
  instanceTypes := #[]
  staticTypes := #[]
  resolved := Array.replicate 77 none
  statics := none }

def pool2 : Array CpInfo := pool [(1, .class_ 2), (0, u "java/lang/constant/Constable"), (0, .class_ 4), (0, u "java/lang/Object")] 6

/-- java/lang/constant/Constable -/
def k2 : Class := { plain "java/lang/constant/Constable" (some 0) with
  accessFlags := 1537
  interfaces := #[]
  cf := some (fileOf pool2 1 #[] #[] 1537 3 #[] #[])
  fields := #[]
  methods := #[]
  instanceTypes := #[]
  staticTypes := #[]
  resolved := Array.replicate 11 none
  statics := none }

def pool3 : Array CpInfo := pool [(1, .class_ 2), (0, u "java/lang/Comparable"), (0, .class_ 4), (0, u "java/lang/Object")] 7

/-- java/lang/Comparable -/
def k3 : Class := { plain "java/lang/Comparable" (some 0) with
  accessFlags := 1537
  interfaces := #[]
  cf := some (fileOf pool3 1 #[] #[] 1537 3 #[] #[])
  fields := #[]
  methods := #[]
  instanceTypes := #[]
  staticTypes := #[]
  resolved := Array.replicate 12 none
  statics := none }

def pool4 : Array CpInfo := pool [(1, .class_ 2), (0, u "java/io/Serializable"), (0, .class_ 4), (0, u "java/lang/Object")] 2

/-- java/io/Serializable -/
def k4 : Class := { plain "java/io/Serializable" (some 0) with
  accessFlags := 1537
  interfaces := #[]
  cf := some (fileOf pool4 1 #[] #[] 1537 3 #[] #[])
  fields := #[]
  methods := #[]
  instanceTypes := #[]
  staticTypes := #[]
  resolved := Array.replicate 7 none
  statics := none }

def pool5 : Array CpInfo := pool [(2, .class_ 4), (1, u "java/lang/Enum"), (0, u "name"), (0, u "Ljava/lang/String;"), (2, u "ordinal"), (0, u "I"), (1, .class_ 14), (1, u "java/lang/Object"), (4, u "hash"), (86, .class_ 108), (1, u "java/lang/Enum$EnumDesc"), (2, .class_ 112), (0, u "java/lang/constant/Constable"), (0, .class_ 114), (0, u "java/lang/Comparable"), (0, .class_ 116), (0, u "java/io/Serializable")] 87

/-- java/lang/Enum -/
def k5 : Class := { plain "java/lang/Enum" (some 0) with
  accessFlags := 1057
  interfaces := #[2, 3, 4]
  cf := some (fileOf pool5 2 #[.nestMembers #[106]] #[] 1057 12 #[111, 113, 115] #[{ accessFlags := 18, nameIndex := 5, descriptorIndex := 6, attributes := #[] }, { accessFlags := 18, nameIndex := 9, descriptorIndex := 10, attributes := #[] }, { accessFlags := 2, nameIndex := 19, descriptorIndex := 10, attributes := #[] }])
  fields := #[{ name := "name", type := (.object "java/lang/String"), accessFlags := 18, slot := 0, constantValue := 0 }, { name := "ordinal", type := .int, accessFlags := 18, slot := 1, constantValue := 0 }, { name := "hash", type := .int, accessFlags := 2, slot := 2, constantValue := 0 }]
  methods := #[]
  instanceTypes := #[(.object "java/lang/String"), .int, .int]
  staticTypes := #[]
  resolved := Array.replicate 204 none
  statics := none }

def pool6 : Array CpInfo := pool [(1, .class_ 2), (0, u "com/example/nextkey/nextkey/model/ColumnType$Int$Width"), (2, u "TINYINT"), (0, u "Lcom/example/nextkey/nextkey/model/ColumnType$Int$Width;"), (2, u "SMALLINT"), (2, u "MEDIUMINT"), (2, u "INT"), (2, u "BIGINT"), (2, u "$VALUES"), (0, u "[Lcom/example/nextkey/nextkey/model/ColumnType$Int$Width;"), (6, .class_ 31), (1, u "java/lang/Enum"), (8, u "bits"), (0, u "I"), (2, u "signedType"), (0, u "Lcom/example/nextkey/nextkey/model/ResultType;"), (2, u "unsignedType"), (52, .class_ 102), (0, u "com/example/nextkey/nextkey/model/ColumnType")] 5

/-- com/example/nextkey/nextkey/model/ColumnType$Int$Width -/
def k6 : Class := { plain "com/example/nextkey/nextkey/model/ColumnType$Int$Width" (some 5) with
  accessFlags := 16433
  interfaces := #[]
  cf := some (fileOf pool6 1 #[.nestHost 101] #[] 16433 29 #[] #[{ accessFlags := 16409, nameIndex := 5, descriptorIndex := 6, attributes := #[] }, { accessFlags := 16409, nameIndex := 9, descriptorIndex := 6, attributes := #[] }, { accessFlags := 16409, nameIndex := 12, descriptorIndex := 6, attributes := #[] }, { accessFlags := 16409, nameIndex := 15, descriptorIndex := 6, attributes := #[] }, { accessFlags := 16409, nameIndex := 18, descriptorIndex := 6, attributes := #[] }, { accessFlags := 18, nameIndex := 40, descriptorIndex := 41, attributes := #[] }, { accessFlags := 18, nameIndex := 44, descriptorIndex := 45, attributes := #[] }, { accessFlags := 18, nameIndex := 48, descriptorIndex := 45, attributes := #[] }, { accessFlags := 4122, nameIndex := 21, descriptorIndex := 22, attributes := #[] }])
  fields := #[{ name := "TINYINT", type := (.object "com/example/nextkey/nextkey/model/ColumnType$Int$Width"), accessFlags := 16409, slot := 0, constantValue := 0 }, { name := "SMALLINT", type := (.object "com/example/nextkey/nextkey/model/ColumnType$Int$Width"), accessFlags := 16409, slot := 1, constantValue := 0 }, { name := "MEDIUMINT", type := (.object "com/example/nextkey/nextkey/model/ColumnType$Int$Width"), accessFlags := 16409, slot := 2, constantValue := 0 }, { name := "INT", type := (.object "com/example/nextkey/nextkey/model/ColumnType$Int$Width"), accessFlags := 16409, slot := 3, constantValue := 0 }, { name := "BIGINT", type := (.object "com/example/nextkey/nextkey/model/ColumnType$Int$Width"), accessFlags := 16409, slot := 4, constantValue := 0 }, { name := "bits", type := .int, accessFlags := 18, slot := 3, constantValue := 0 }, { name := "signedType", type := (.object "com/example/nextkey/nextkey/model/ResultType"), accessFlags := 18, slot := 4, constantValue := 0 }, { name := "unsignedType", type := (.object "com/example/nextkey/nextkey/model/ResultType"), accessFlags := 18, slot := 5, constantValue := 0 }, { name := "$VALUES", type := (.array (.object "com/example/nextkey/nextkey/model/ColumnType$Int$Width")), accessFlags := 4122, slot := 5, constantValue := 0 }]
  methods := #[]
  instanceTypes := #[(.object "java/lang/String"), .int, .int, .int, (.object "com/example/nextkey/nextkey/model/ResultType"), (.object "com/example/nextkey/nextkey/model/ResultType")]
  staticTypes := #[(.object "com/example/nextkey/nextkey/model/ColumnType$Int$Width"), (.object "com/example/nextkey/nextkey/model/ColumnType$Int$Width"), (.object "com/example/nextkey/nextkey/model/ColumnType$Int$Width"), (.object "com/example/nextkey/nextkey/model/ColumnType$Int$Width"), (.object "com/example/nextkey/nextkey/model/ColumnType$Int$Width"), (.array (.object "com/example/nextkey/nextkey/model/ColumnType$Int$Width"))]
  resolved := Array.replicate 108 none
  statics := some 0 }

def pool7 : Array CpInfo := pool [(1, .class_ 2), (0, u "com/example/nextkey/nextkey/model/ResultType"), (2, u "TINYINT"), (0, u "Lcom/example/nextkey/nextkey/model/ResultType;"), (2, u "TINYINT_UNSIGNED"), (2, u "SMALLINT"), (2, u "SMALLINT_UNSIGNED"), (2, u "MEDIUMINT"), (2, u "MEDIUMINT_UNSIGNED"), (2, u "INT"), (2, u "INT_UNSIGNED"), (2, u "BIGINT"), (2, u "BIGINT_UNSIGNED"), (2, u "DECIMAL"), (2, u "DOUBLE"), (2, u "VARCHAR"), (2, u "DATE"), (2, u "DATETIME"), (2, u "TIMESTAMP"), (2, u "NULL"), (2, u "$VALUES"), (0, u "[Lcom/example/nextkey/nextkey/model/ResultType;"), (6, .class_ 67), (1, u "java/lang/Enum"), (8, u "integer"), (0, u "Z")] 62

/-- com/example/nextkey/nextkey/model/ResultType -/
def k7 : Class := { plain "com/example/nextkey/nextkey/model/ResultType" (some 5) with
  accessFlags := 16433
  interfaces := #[]
  cf := some (fileOf pool7 1 #[] #[] 16433 65 #[] #[{ accessFlags := 16409, nameIndex := 5, descriptorIndex := 6, attributes := #[] }, { accessFlags := 16409, nameIndex := 9, descriptorIndex := 6, attributes := #[] }, { accessFlags := 16409, nameIndex := 12, descriptorIndex := 6, attributes := #[] }, { accessFlags := 16409, nameIndex := 15, descriptorIndex := 6, attributes := #[] }, { accessFlags := 16409, nameIndex := 18, descriptorIndex := 6, attributes := #[] }, { accessFlags := 16409, nameIndex := 21, descriptorIndex := 6, attributes := #[] }, { accessFlags := 16409, nameIndex := 24, descriptorIndex := 6, attributes := #[] }, { accessFlags := 16409, nameIndex := 27, descriptorIndex := 6, attributes := #[] }, { accessFlags := 16409, nameIndex := 30, descriptorIndex := 6, attributes := #[] }, { accessFlags := 16409, nameIndex := 33, descriptorIndex := 6, attributes := #[] }, { accessFlags := 16409, nameIndex := 36, descriptorIndex := 6, attributes := #[] }, { accessFlags := 16409, nameIndex := 39, descriptorIndex := 6, attributes := #[] }, { accessFlags := 16409, nameIndex := 42, descriptorIndex := 6, attributes := #[] }, { accessFlags := 16409, nameIndex := 45, descriptorIndex := 6, attributes := #[] }, { accessFlags := 16409, nameIndex := 48, descriptorIndex := 6, attributes := #[] }, { accessFlags := 16409, nameIndex := 51, descriptorIndex := 6, attributes := #[] }, { accessFlags := 16409, nameIndex := 54, descriptorIndex := 6, attributes := #[] }, { accessFlags := 18, nameIndex := 76, descriptorIndex := 77, attributes := #[] }, { accessFlags := 4122, nameIndex := 57, descriptorIndex := 58, attributes := #[] }])
  fields := #[{ name := "TINYINT", type := (.object "com/example/nextkey/nextkey/model/ResultType"), accessFlags := 16409, slot := 0, constantValue := 0 }, { name := "TINYINT_UNSIGNED", type := (.object "com/example/nextkey/nextkey/model/ResultType"), accessFlags := 16409, slot := 1, constantValue := 0 }, { name := "SMALLINT", type := (.object "com/example/nextkey/nextkey/model/ResultType"), accessFlags := 16409, slot := 2, constantValue := 0 }, { name := "SMALLINT_UNSIGNED", type := (.object "com/example/nextkey/nextkey/model/ResultType"), accessFlags := 16409, slot := 3, constantValue := 0 }, { name := "MEDIUMINT", type := (.object "com/example/nextkey/nextkey/model/ResultType"), accessFlags := 16409, slot := 4, constantValue := 0 }, { name := "MEDIUMINT_UNSIGNED", type := (.object "com/example/nextkey/nextkey/model/ResultType"), accessFlags := 16409, slot := 5, constantValue := 0 }, { name := "INT", type := (.object "com/example/nextkey/nextkey/model/ResultType"), accessFlags := 16409, slot := 6, constantValue := 0 }, { name := "INT_UNSIGNED", type := (.object "com/example/nextkey/nextkey/model/ResultType"), accessFlags := 16409, slot := 7, constantValue := 0 }, { name := "BIGINT", type := (.object "com/example/nextkey/nextkey/model/ResultType"), accessFlags := 16409, slot := 8, constantValue := 0 }, { name := "BIGINT_UNSIGNED", type := (.object "com/example/nextkey/nextkey/model/ResultType"), accessFlags := 16409, slot := 9, constantValue := 0 }, { name := "DECIMAL", type := (.object "com/example/nextkey/nextkey/model/ResultType"), accessFlags := 16409, slot := 10, constantValue := 0 }, { name := "DOUBLE", type := (.object "com/example/nextkey/nextkey/model/ResultType"), accessFlags := 16409, slot := 11, constantValue := 0 }, { name := "VARCHAR", type := (.object "com/example/nextkey/nextkey/model/ResultType"), accessFlags := 16409, slot := 12, constantValue := 0 }, { name := "DATE", type := (.object "com/example/nextkey/nextkey/model/ResultType"), accessFlags := 16409, slot := 13, constantValue := 0 }, { name := "DATETIME", type := (.object "com/example/nextkey/nextkey/model/ResultType"), accessFlags := 16409, slot := 14, constantValue := 0 }, { name := "TIMESTAMP", type := (.object "com/example/nextkey/nextkey/model/ResultType"), accessFlags := 16409, slot := 15, constantValue := 0 }, { name := "NULL", type := (.object "com/example/nextkey/nextkey/model/ResultType"), accessFlags := 16409, slot := 16, constantValue := 0 }, { name := "integer", type := .boolean, accessFlags := 18, slot := 3, constantValue := 0 }, { name := "$VALUES", type := (.array (.object "com/example/nextkey/nextkey/model/ResultType")), accessFlags := 4122, slot := 17, constantValue := 0 }]
  methods := #[]
  instanceTypes := #[(.object "java/lang/String"), .int, .int, .boolean]
  staticTypes := #[(.object "com/example/nextkey/nextkey/model/ResultType"), (.object "com/example/nextkey/nextkey/model/ResultType"), (.object "com/example/nextkey/nextkey/model/ResultType"), (.object "com/example/nextkey/nextkey/model/ResultType"), (.object "com/example/nextkey/nextkey/model/ResultType"), (.object "com/example/nextkey/nextkey/model/ResultType"), (.object "com/example/nextkey/nextkey/model/ResultType"), (.object "com/example/nextkey/nextkey/model/ResultType"), (.object "com/example/nextkey/nextkey/model/ResultType"), (.object "com/example/nextkey/nextkey/model/ResultType"), (.object "com/example/nextkey/nextkey/model/ResultType"), (.object "com/example/nextkey/nextkey/model/ResultType"), (.object "com/example/nextkey/nextkey/model/ResultType"), (.object "com/example/nextkey/nextkey/model/ResultType"), (.object "com/example/nextkey/nextkey/model/ResultType"), (.object "com/example/nextkey/nextkey/model/ResultType"), (.object "com/example/nextkey/nextkey/model/ResultType"), (.array (.object "com/example/nextkey/nextkey/model/ResultType"))]
  resolved := Array.replicate 140 none
  statics := some 1 }

def pool8 : Array CpInfo := pool [(1, .methodref 2 3), (0, .class_ 4), (0, .nameAndType 5 6), (0, u "java/lang/Object"), (0, u "<init>"), (0, u "()V"), (0, .class_ 8), (0, u "java/lang/Record")] 13

def k8c0 : Code := { maxStack := 1, maxLocals := 1, code := jdk_30_method_1_code, exceptionTable := #[], attributes := #[] }
def k8m0 : Method := { name := "<init>", desc := "()V", sig := { parameters := [], returnType := none }, accessFlags := 4, code := some k8c0 }
/-- java/lang/Record -/
def k8 : Class := { plain "java/lang/Record" (some 0) with
  accessFlags := 1057
  interfaces := #[]
  cf := some (fileOf pool8 7 #[] #[{ accessFlags := 4, nameIndex := 5, descriptorIndex := 6, attributes := #[] }] 1057 2 #[] #[])
  fields := #[]
  methods := #[k8m0]
  instanceTypes := #[]
  staticTypes := #[]
  resolved := Array.replicate 22 none
  statics := none }

def pool9 : Array CpInfo := pool [(8, .class_ 10), (1, u "com/example/nextkey/nextkey/model/ColumnType$Int$Width"), (0, u "INT"), (33, .class_ 46), (0, u "com/example/nextkey/nextkey/model/ColumnType$Int"), (7, .class_ 55), (0, u "com/example/nextkey/nextkey/model/ColumnType$Varchar"), (3, .class_ 60), (0, u "com/example/nextkey/nextkey/model/ColumnType$Temporal"), (1, .class_ 64), (1, u "com/example/nextkey/nextkey/model/ColumnType$Temporal$Kind"), (14, .class_ 81), (1, u "com/example/nextkey/nextkey/model/ColumnType"), (4, u "Lcom/example/nextkey/nextkey/model/ColumnType;"), (0, .class_ 88), (0, u "java/lang/Object")] 38

/-- com/example/nextkey/nextkey/model/ColumnType -/
def k9 : Class := { plain "com/example/nextkey/nextkey/model/ColumnType" (some 0) with
  accessFlags := 1537
  interfaces := #[]
  cf := some (fileOf pool9 79 #[.nestMembers #[59, 62, 54, 45, 8]] #[] 1537 87 #[] #[{ accessFlags := 25, nameIndex := 11, descriptorIndex := 86, attributes := #[] }])
  fields := #[{ name := "INT", type := (.object "com/example/nextkey/nextkey/model/ColumnType"), accessFlags := 25, slot := 0, constantValue := 0 }]
  methods := #[]
  instanceTypes := #[]
  staticTypes := #[(.object "com/example/nextkey/nextkey/model/ColumnType")]
  resolved := Array.replicate 127 none
  statics := none }

def pool10 : Array CpInfo := pool [(1, .methodref 2 3), (0, .class_ 4), (0, .nameAndType 5 6), (0, u "java/lang/Record"), (0, u "<init>"), (0, u "()V"), (0, .string 8), (0, u "width"), (0, .methodref 10 11), (0, .class_ 12), (0, .nameAndType 13 14), (0, u "java/util/Objects"), (0, u "requireNonNull"), (0, u "(Ljava/lang/Object;Ljava/lang/String;)Ljava/lang/Object;"), (0, .fieldref 16 17), (0, .class_ 18), (0, .nameAndType 8 19), (0, u "com/example/nextkey/nextkey/model/ColumnType$Int"), (0, u "Lcom/example/nextkey/nextkey/model/ColumnType$Int$Width;"), (0, .fieldref 16 21), (0, .nameAndType 22 23), (0, u "unsigned"), (0, u "Z"), (157, .class_ 183), (1, u "com/example/nextkey/nextkey/model/ColumnType$Int$Width"), (1, u "I"), (25, .fieldref 181 212), (0, .nameAndType 213 214), (0, u "unsignedType"), (0, u "Lcom/example/nextkey/nextkey/model/ResultType;"), (0, .fieldref 181 216), (0, .nameAndType 217 214), (0, u "signedType"), (29, .class_ 248), (0, u "com/example/nextkey/nextkey/model/ColumnType"), (0, u "MAX_DISPLAY_WIDTH"), (2, u "(Lcom/example/nextkey/nextkey/model/ColumnType$Int$Width;Z)V"), (10, u "resultType"), (0, u "()Lcom/example/nextkey/nextkey/model/ResultType;")] 51

def k10c0 : Code := { maxStack := 2, maxLocals := 3, code := prog_121_method_1_code, exceptionTable := #[], attributes := #[] }
def k10m0 : Method := { name := "<init>", desc := "(Lcom/example/nextkey/nextkey/model/ColumnType$Int$Width;Z)V", sig := { parameters := [(.object "com/example/nextkey/nextkey/model/ColumnType$Int$Width"), .boolean], returnType := none }, accessFlags := 1, code := some k10c0 }
def k10c1 : Code := { maxStack := 1, maxLocals := 1, code := prog_121_method_10_code, exceptionTable := #[], attributes := #[] }
def k10m1 : Method := { name := "resultType", desc := "()Lcom/example/nextkey/nextkey/model/ResultType;", sig := { parameters := [], returnType := some (.object "com/example/nextkey/nextkey/model/ResultType") }, accessFlags := 1, code := some k10c1 }
/-- com/example/nextkey/nextkey/model/ColumnType$Int -/
def k10 : Class := { plain "com/example/nextkey/nextkey/model/ColumnType$Int" (some 8) with
  accessFlags := 49
  interfaces := #[9]
  cf := some (fileOf pool10 16 #[.nestHost 247] #[{ accessFlags := 1, nameIndex := 5, descriptorIndex := 252, attributes := #[] }, { accessFlags := 1, nameIndex := 263, descriptorIndex := 264, attributes := #[] }] 49 2 #[247] #[{ accessFlags := 18, nameIndex := 8, descriptorIndex := 19, attributes := #[] }, { accessFlags := 18, nameIndex := 22, descriptorIndex := 23, attributes := #[] }, { accessFlags := 25, nameIndex := 249, descriptorIndex := 185, attributes := #[] }])
  fields := #[{ name := "width", type := (.object "com/example/nextkey/nextkey/model/ColumnType$Int$Width"), accessFlags := 18, slot := 0, constantValue := 0 }, { name := "unsigned", type := .boolean, accessFlags := 18, slot := 1, constantValue := 0 }, { name := "MAX_DISPLAY_WIDTH", type := .int, accessFlags := 25, slot := 0, constantValue := 0 }]
  methods := #[k10m0, k10m1]
  instanceTypes := #[(.object "com/example/nextkey/nextkey/model/ColumnType$Int$Width"), .boolean]
  staticTypes := #[.int]
  resolved := Array.replicate 316 none
  statics := none }

def pool11 : Array CpInfo := pool [(2, .class_ 4), (1, u "java/lang/CharSequence"), (42, .class_ 48), (0, u "java/lang/CharSequence$1CodePointIterator"), (10, .class_ 60), (0, u "java/lang/CharSequence$1CharIterator"), (5, .class_ 67), (0, u "java/lang/Object")] 63

/-- java/lang/CharSequence -/
def k11 : Class := { plain "java/lang/CharSequence" (some 0) with
  accessFlags := 1537
  interfaces := #[]
  cf := some (fileOf pool11 2 #[.nestMembers #[47, 59]] #[] 1537 66 #[] #[])
  fields := #[]
  methods := #[]
  instanceTypes := #[]
  staticTypes := #[]
  resolved := Array.replicate 131 none
  statics := none }

def pool12 : Array CpInfo := pool [(1, .class_ 2), (0, u "java/lang/constant/ConstantDesc"), (0, .class_ 4), (0, u "java/lang/Object")] 32

/-- java/lang/constant/ConstantDesc -/
def k12 : Class := { plain "java/lang/constant/ConstantDesc" (some 0) with
  accessFlags := 1537
  interfaces := #[]
  cf := some (fileOf pool12 1 #[] #[] 1537 3 #[] #[])
  fields := #[]
  methods := #[]
  instanceTypes := #[]
  staticTypes := #[]
  resolved := Array.replicate 37 none
  statics := none }

def pool13 : Array CpInfo := pool [(2, .class_ 4), (1, u "java/lang/Object"), (0, u "<init>"), (0, u "()V"), (3, .class_ 12), (1, u "java/lang/String"), (0, u "value"), (0, u "[B"), (2, u "coder"), (0, u "B"), (2, u "hash"), (0, u "I"), (2, u "hashIsZero"), (0, u "Z"), (13, u "COMPACT_STRINGS"), (534, .class_ 576), (0, u "java/lang/CharSequence"), (22, u "CASE_INSENSITIVE_ORDER"), (0, u "Ljava/util/Comparator;"), (500, u "serialPersistentFields"), (0, u "[Ljava/io/ObjectStreamField;"), (0, .class_ 1104), (0, u "java/lang/String$CaseInsensitiveComparator"), (1, .class_ 1107), (0, u "java/io/Serializable"), (0, .class_ 1109), (0, u "java/lang/Comparable"), (0, .class_ 1111), (0, u "java/lang/constant/Constable"), (0, .class_ 1113), (0, u "java/lang/constant/ConstantDesc"), (2, u "serialVersionUID"), (0, u "J"), (3, u "REPL"), (0, u "C"), (2, u "LATIN1"), (1, u "UTF16")] 323

def k13m0 : Method := { name := "<init>", desc := "()V", sig := { parameters := [], returnType := none }, accessFlags := 1, code := none }
/-- java/lang/String -/
def k13 : Class := { plain "java/lang/String" (some 0) with
  accessFlags := 49
  interfaces := #[4, 3, 11, 2, 12]
  cf := some (fileOf pool13 10 #[.nestMembers #[1103]] #[{ accessFlags := 1, nameIndex := 5, descriptorIndex := 6, attributes := #[] }] 49 2 #[1106, 1108, 575, 1110, 1112] #[{ accessFlags := 18, nameIndex := 13, descriptorIndex := 14, attributes := #[] }, { accessFlags := 18, nameIndex := 17, descriptorIndex := 18, attributes := #[] }, { accessFlags := 2, nameIndex := 21, descriptorIndex := 22, attributes := #[] }, { accessFlags := 2, nameIndex := 25, descriptorIndex := 26, attributes := #[] }, { accessFlags := 26, nameIndex := 1116, descriptorIndex := 1117, attributes := #[] }, { accessFlags := 24, nameIndex := 40, descriptorIndex := 26, attributes := #[] }, { accessFlags := 26, nameIndex := 1101, descriptorIndex := 1102, attributes := #[] }, { accessFlags := 26, nameIndex := 1121, descriptorIndex := 1122, attributes := #[] }, { accessFlags := 25, nameIndex := 599, descriptorIndex := 600, attributes := #[] }, { accessFlags := 24, nameIndex := 1125, descriptorIndex := 18, attributes := #[] }, { accessFlags := 24, nameIndex := 1127, descriptorIndex := 18, attributes := #[] }])
  fields := #[{ name := "value", type := (.array .byte), accessFlags := 18, slot := 0, constantValue := 0 }, { name := "coder", type := .byte, accessFlags := 18, slot := 1, constantValue := 0 }, { name := "hash", type := .int, accessFlags := 2, slot := 2, constantValue := 0 }, { name := "hashIsZero", type := .boolean, accessFlags := 2, slot := 3, constantValue := 0 }, { name := "serialVersionUID", type := .long, accessFlags := 26, slot := 0, constantValue := 0 }, { name := "COMPACT_STRINGS", type := .boolean, accessFlags := 24, slot := 1, constantValue := 0 }, { name := "serialPersistentFields", type := (.array (.object "java/io/ObjectStreamField")), accessFlags := 26, slot := 2, constantValue := 0 }, { name := "REPL", type := .char, accessFlags := 26, slot := 3, constantValue := 0 }, { name := "CASE_INSENSITIVE_ORDER", type := (.object "java/util/Comparator"), accessFlags := 25, slot := 4, constantValue := 0 }, { name := "LATIN1", type := .byte, accessFlags := 24, slot := 5, constantValue := 0 }, { name := "UTF16", type := .byte, accessFlags := 24, slot := 6, constantValue := 0 }]
  methods := #[k13m0]
  instanceTypes := #[(.array .byte), .byte, .int, .boolean]
  staticTypes := #[.long, .boolean, (.array (.object "java/io/ObjectStreamField")), .char, (.object "java/util/Comparator"), .byte, .byte]
  resolved := Array.replicate 1451 none
  statics := none }

def pool14 : Array CpInfo := pool [(2, .class_ 4), (1, u "java/lang/Object"), (0, u "<init>"), (0, u "()V"), (35, .class_ 44), (1, u "java/util/Objects"), (0, u "requireNonNull"), (48, u "(Ljava/lang/Object;Ljava/lang/String;)Ljava/lang/Object;")] 89

def k14m0 : Method := { name := "<init>", desc := "()V", sig := { parameters := [], returnType := none }, accessFlags := 2, code := none }
def k14c1 : Code := { maxStack := 3, maxLocals := 2, code := jdk_31_method_11_code, exceptionTable := #[], attributes := #[] }
def k14m1 : Method := { name := "requireNonNull", desc := "(Ljava/lang/Object;Ljava/lang/String;)Ljava/lang/Object;", sig := { parameters := [(.object "java/lang/Object"), (.object "java/lang/String")], returnType := some (.object "java/lang/Object") }, accessFlags := 9, code := some k14c1 }
/-- java/util/Objects -/
def k14 : Class := { plain "java/util/Objects" (some 0) with
  accessFlags := 49
  interfaces := #[]
  cf := some (fileOf pool14 42 #[] #[{ accessFlags := 2, nameIndex := 5, descriptorIndex := 6, attributes := #[] }, { accessFlags := 9, nameIndex := 45, descriptorIndex := 94, attributes := #[] }] 49 2 #[] #[])
  fields := #[]
  methods := #[k14m0, k14m1]
  instanceTypes := #[]
  staticTypes := #[]
  resolved := Array.replicate 184 none
  statics := none }

def pool15 : Array CpInfo := pool [(1, u "java/lang/Cloneable"), (0, .class_ 1), (0, u "java/lang/Object"), (0, .class_ 3)] 3

/-- java/lang/Cloneable -/
def k15 : Class := { plain "java/lang/Cloneable" (some 0) with
  accessFlags := 1537
  interfaces := #[]
  cf := some (fileOf pool15 2 #[] #[] 1537 4 #[] #[])
  fields := #[]
  methods := #[]
  instanceTypes := #[]
  staticTypes := #[]
  resolved := Array.replicate 8 none
  statics := none }

/-- the primitive byte -/
def k16 : Class := { plain "byte" none with kind := .primitive 'B', accessFlags := 0x411 }
/-- [B -/
def k17 : Class := { plain "[B" (some 0) with kind := .array 16 .byte, interfaces := #[15, 4], accessFlags := 1041 }

/-- the primitive int -/
def k18 : Class := { plain "int" none with kind := .primitive 'I', accessFlags := 0x411 }
/-- [I -/
def k19 : Class := { plain "[I" (some 0) with kind := .array 18 .int, interfaces := #[15, 4], accessFlags := 1041 }

def heap : Heap := #[{ cls := 6, slots := #[.ref 12, .ref 13, .ref 14, .ref 15, .ref 16, .null], vm := .statics 6 },
  { cls := 7, slots := #[.ref 2, .ref 3, .ref 4, .ref 5, .ref 6, .ref 7, .ref 8, .ref 9, .ref 10, .ref 11, .null, .null, .null, .null, .null, .null, .null, .null], vm := .statics 7 },
  { cls := 7, slots := #[.null, .int 0, .int 0, .int 0], vm := .none },
  { cls := 7, slots := #[.null, .int 1, .int 0, .int 1], vm := .none },
  { cls := 7, slots := #[.null, .int 2, .int 0, .int 0], vm := .none },
  { cls := 7, slots := #[.null, .int 3, .int 0, .int 1], vm := .none },
  { cls := 7, slots := #[.null, .int 4, .int 0, .int 0], vm := .none },
  { cls := 7, slots := #[.null, .int 5, .int 0, .int 1], vm := .none },
  { cls := 7, slots := #[.null, .int 6, .int 0, .int 0], vm := .none },
  { cls := 7, slots := #[.null, .int 7, .int 0, .int 1], vm := .none },
  { cls := 7, slots := #[.null, .int 8, .int 0, .int 0], vm := .none },
  { cls := 7, slots := #[.null, .int 9, .int 0, .int 1], vm := .none },
  { cls := 6, slots := #[.null, .int 0, .int 0, .int 1, .ref 2, .ref 3], vm := .none },
  { cls := 6, slots := #[.null, .int 1, .int 0, .int 1, .ref 4, .ref 5], vm := .none },
  { cls := 6, slots := #[.null, .int 2, .int 0, .int 1, .ref 6, .ref 7], vm := .none },
  { cls := 6, slots := #[.null, .int 3, .int 0, .int 1, .ref 8, .ref 9], vm := .none },
  { cls := 6, slots := #[.null, .int 4, .int 0, .int 1, .ref 10, .ref 11], vm := .none }]
def classes : Array Class := #[k0, k1, k2, k3, k4, k5, k6, k7, k8, k9, k10, k11, k12, k13, k14, k15, k16, k17, k18, k19]
def interned : List (Array UInt16 × Addr) := []
def slotsUsed : Nat := 94
def theMethod : MethodId := ⟨1, 1⟩
def args0 : Array Value := #[.int 9, .int 4]
def aboutOver (below : List Frame) : State where
  vm := { classes := classes, interned := interned.toArray }
  heap := heap
  slotsUsed := slotsUsed
  threads := #[{ frames := .invoking theMethod args0 :: below }]
def below0 : List Frame := [.native { method := ⟨0, 0⟩, args := #[] }]
def about1 : State := aboutOver below0
def p0 : Program := .bare "" "" ""
def e0 : Env := launch0.env 0 0 0
theorem w_frames : about1.frames = Frame.invoking theMethod args0 :: below0 := rfl
set_option maxRecDepth 65536 in
theorem w_args : argsFit about1.vm theMethod args0 = true := by decide +kernel
set_option maxRecDepth 65536 in
theorem w_heap : heapFits about1 = true := by decide +kernel
set_option maxRecDepth 65536 in
theorem w_runnable : about1.curStatus? = some .runnable := by decide +kernel
set_option maxRecDepth 65536 in
theorem w_alone : about1.alone = true := by decide +kernel
set_option maxRecDepth 65536 in
theorem w_named : about1.methodNamed? x = some theMethod := by decide +kernel
set_option maxRecDepth 65536 in
theorem w_hears : about1.hears theMethod below0 = true := by decide +kernel
set_option maxRecDepth 65536 in
theorem w_ripe : about1.ripe theMethod args0 below0 = true := by decide +kernel
theorem w_running : about1.status = .running := rfl
set_option maxRecDepth 65536 in
theorem w_room : about1.hasRoom e0.platform room_1 = true :=
  launch0.hasRoom_least _ room_1 (by decide +kernel) (by decide +kernel) (by decide +kernel) (by decide +kernel) (by decide +kernel) (by decide +kernel)
theorem allAtoms_all (ts : List Jvm.Cond) (a : Array Jvm.Value) (st : Jvm.State) : (allAtoms ts).before a st = ts.all (fun c => c.before a st) := by
  induction ts with
  | nil => rfl
  | cons c t ih =>
    show (Jvm.Cond.and c (allAtoms t)).before a st = _
    rw [Jvm.Cond.before_and, ih, List.all_cons]
def words1 : List Jvm.Cond := Jvm.Cond.code x code maxLocals ret :: tables_1
/-- a 'code' word, met by the world's own term for the bytes: nothing is compared byte by byte -/
theorem code_word {y : MethodName} {bytes : ByteArray} {mx : Nat} {rt : Option FieldType} {a : Array Value} {s : State} {m : MethodId} {meth : Method} {c : Code} (h1 : s.methodNamed? y = some m) (h2 : s.vm.method? m = some meth) (h3 : meth.code = some c) (h4 : c.code = bytes)
    (h5 : (c.maxLocals == mx && c.exceptionTable.isEmpty && decide (c.maxStack ≤ mostOperands) && decide (meth.sig.returnType = rt) && !meth.locks && decide (parseMethodDescriptor y.desc = some meth.sig)) = true) : (Jvm.Cond.code y bytes mx rt).before a s = true := by
  simp only [Bool.and_eq_true, beq_iff_eq, Bool.not_eq_true', decide_eq_true_eq] at h5
  obtain ⟨⟨⟨⟨⟨g1, g2⟩, g3⟩, g4⟩, g5⟩, g6⟩ := h5
  simp [Cond.before, Cond.holds, Cond.value, h1, h2, h3, h4, g1, g2, g3, g4, g5, g6]
def isCode : Jvm.Cond → Bool
  | .code _ _ _ _ => true
  | _ => false
theorem all_split {L : List Jvm.Cond} {P : Jvm.Cond → Bool} (h1 : L.all (fun c => isCode c || P c) = true) (h2 : ∀ c ∈ L.filter isCode, P c = true) : L.all P = true := by
  refine List.all_eq_true.mpr fun c hc => ?_
  have h := List.all_eq_true.mp h1 c hc
  rcases Bool.eq_false_or_eq_true (isCode c) with hi | hi
  · exact h2 c (List.mem_filter.mpr ⟨hc, hi⟩)
  · simpa [hi] using h
set_option maxRecDepth 65536 in
theorem w_c0 : (Jvm.Cond.code x code maxLocals ret).before args0 about1 = true := code_word (m := ⟨1, 1⟩) (meth := k1m1) (c := k1c1) (by decide +kernel) rfl rfl rfl (by decide +kernel)
set_option maxRecDepth 65536 in
theorem w_c1 : (Jvm.Cond.code ({ cls := "com/example/nextkey/nextkey/model/ColumnType$Int", name := "<init>", desc := "(Lcom/example/nextkey/nextkey/model/ColumnType$Int$Width;Z)V" } : Jvm.MethodName) prog_121_method_1_code (3 : Nat) (Option.none : Option Jvm.ClassFile.FieldType)).before args0 about1 = true := code_word (m := ⟨10, 0⟩) (meth := k10m0) (c := k10c0) (by decide +kernel) rfl rfl rfl (by decide +kernel)
set_option maxRecDepth 65536 in
theorem w_c2 : (Jvm.Cond.code ({ cls := "java/lang/Record", name := "<init>", desc := "()V" } : Jvm.MethodName) jdk_30_method_1_code (1 : Nat) (Option.none : Option Jvm.ClassFile.FieldType)).before args0 about1 = true := code_word (m := ⟨8, 0⟩) (meth := k8m0) (c := k8c0) (by decide +kernel) rfl rfl rfl (by decide +kernel)
set_option maxRecDepth 65536 in
theorem w_c3 : (Jvm.Cond.code ({ cls := "java/lang/Object", name := "<init>", desc := "()V" } : Jvm.MethodName) object_method_1_code (1 : Nat) (Option.none : Option Jvm.ClassFile.FieldType)).before args0 about1 = true := code_word (m := ⟨0, 0⟩) (meth := k0m0) (c := k0c0) (by decide +kernel) rfl rfl rfl (by decide +kernel)
set_option maxRecDepth 65536 in
theorem w_c4 : (Jvm.Cond.code ({ cls := "java/util/Objects", name := "requireNonNull", desc := "(Ljava/lang/Object;Ljava/lang/String;)Ljava/lang/Object;" } : Jvm.MethodName) jdk_31_method_11_code (2 : Nat) (Option.some (Jvm.ClassFile.FieldType.object "java/lang/Object"))).before args0 about1 = true := code_word (m := ⟨14, 1⟩) (meth := k14m1) (c := k14c1) (by decide +kernel) rfl rfl rfl (by decide +kernel)
set_option maxRecDepth 65536 in
theorem w_c5 : (Jvm.Cond.code ({ cls := "com/example/nextkey/nextkey/model/ColumnType$Int", name := "resultType", desc := "()Lcom/example/nextkey/nextkey/model/ResultType;" } : Jvm.MethodName) prog_121_method_10_code (1 : Nat) (Option.some (Jvm.ClassFile.FieldType.object "com/example/nextkey/nextkey/model/ResultType"))).before args0 about1 = true := code_word (m := ⟨10, 1⟩) (meth := k10m1) (c := k10c1) (by decide +kernel) rfl rfl rfl (by decide +kernel)
def codes1 : List Jvm.Cond := [Jvm.Cond.code x code maxLocals ret, Jvm.Cond.code ({ cls := "com/example/nextkey/nextkey/model/ColumnType$Int", name := "<init>", desc := "(Lcom/example/nextkey/nextkey/model/ColumnType$Int$Width;Z)V" } : Jvm.MethodName) prog_121_method_1_code (3 : Nat) (Option.none : Option Jvm.ClassFile.FieldType), Jvm.Cond.code ({ cls := "java/lang/Record", name := "<init>", desc := "()V" } : Jvm.MethodName) jdk_30_method_1_code (1 : Nat) (Option.none : Option Jvm.ClassFile.FieldType), Jvm.Cond.code ({ cls := "java/lang/Object", name := "<init>", desc := "()V" } : Jvm.MethodName) object_method_1_code (1 : Nat) (Option.none : Option Jvm.ClassFile.FieldType), Jvm.Cond.code ({ cls := "java/util/Objects", name := "requireNonNull", desc := "(Ljava/lang/Object;Ljava/lang/String;)Ljava/lang/Object;" } : Jvm.MethodName) jdk_31_method_11_code (2 : Nat) (Option.some (Jvm.ClassFile.FieldType.object "java/lang/Object")), Jvm.Cond.code ({ cls := "com/example/nextkey/nextkey/model/ColumnType$Int", name := "resultType", desc := "()Lcom/example/nextkey/nextkey/model/ResultType;" } : Jvm.MethodName) prog_121_method_10_code (1 : Nat) (Option.some (Jvm.ClassFile.FieldType.object "com/example/nextkey/nextkey/model/ResultType"))]
set_option maxRecDepth 65536 in
theorem codes_eq : words1.filter isCode = codes1 := rfl
theorem w_codes : ∀ c ∈ words1.filter isCode, c.before args0 about1 = true := by
  rw [codes_eq]
  intro c hc
  simp only [codes1, List.mem_cons, List.not_mem_nil, or_false] at hc
  rcases hc with rfl | rfl | rfl | rfl | rfl | rfl
  · exact w_c0
  · exact w_c1
  · exact w_c2
  · exact w_c3
  · exact w_c4
  · exact w_c5
set_option maxRecDepth 65536 in
theorem w_t1 : (words1.take 24).all (fun c => isCode c || c.before args0 about1) = true := by decide +kernel
set_option maxRecDepth 65536 in
theorem w_t2 : ((words1.drop 24).take 24).all (fun c => isCode c || c.before args0 about1) = true := by decide +kernel
set_option maxRecDepth 65536 in
theorem w_t3 : (((words1.drop 24).drop 24).take 24).all (fun c => isCode c || c.before args0 about1) = true := by decide +kernel
set_option maxRecDepth 65536 in
theorem w_t4 : (((words1.drop 24).drop 24).drop 24).all (fun c => isCode c || c.before args0 about1) = true := by decide +kernel
theorem w_tables : (allAtoms (Jvm.Cond.code x code maxLocals ret :: tables_1)).before args0 about1 = true := by
  rw [allAtoms_all]
  show words1.all (fun c => c.before args0 about1) = true
  refine all_split ?_ w_codes
  rw [← List.take_append_drop 24 words1, List.all_append, w_t1, ← List.take_append_drop 24 (words1.drop 24), List.all_append, w_t2, ← List.take_append_drop 24 ((words1.drop 24).drop 24), List.all_append, w_t3, w_t4]
  rfl
set_option maxRecDepth 65536 in
theorem w_case : (Jvm.Cond.and given_1 narrow_1).before args0 about1 = true := by decide +kernel
theorem w_applies : (headSpec (Jvm.Cond.code x code maxLocals ret :: tables_1) room_1).applies x e0.platform about1 = true :=
  (Spec.applies_iff w_frames).mpr ⟨w_running, w_runnable, w_alone, w_named, w_hears, w_ripe, w_room, w_tables⟩
theorem atStart : AtStart classFile x code maxLocals ret World_1 tables_1 room_1 Calls_1 rest_1 Pre_1 launch0 p0 e0 about1 theMethod args0 below0 :=
  ⟨lists_1, trivial, launch0.admits_env _ _ _, launch0.least_env, fairChoices_fair.cas, fairChoices_fair.clock, w_frames, w_args, w_heap, w_applies, trivial, trivial, w_case⟩
end start1
theorem witness_1 : WitnessClaimed_1 := ⟨start1.p0, start1.e0, start1.about1, start1.theMethod, start1.args0, start1.below0, start1.atStart⟩
end Jvm.Pilot.@@N@@
