import JvmDerived
import JvmDerived.Pilot.@@N@@Statement
import JvmDerived.Pilot.@@N@@Code
set_option linter.unusedVariables false
set_option linter.unusedSimpArgs false
namespace Jvm.RoadKit
open Sem ClassFile Op Lib Jvm.Stand Jvm.Free Jvm.LawKit
section New
variable {p : Program} {l : Launch} {e : Env} {R : Room} {s : State} {m : MethodId} {args : Array Value} {below : List Frame} {meth : Method} {c : Code} {T : State} {locs : List Loc} {cells slots : Nat}
theorem retI (X : Stand p l e R s m args below meth c T locs cells slots) (hx : p.tables.exec = Jvm.exec) {pc : Nat} {Ls : Array Slot} {z : Int32} {rest : List Value} (hret : meth.sig.returnType = some .int) (hd : decode c.code pc = .ok (.ireturn, 1)) {fs : List Frame}
    (hl : ∀ (f : JFrame) (acts : List Action), f.method = m → f.locked = none → f.entered = [] → (doReturn e (T.setTop f) acts (some (.int z))).1 = T.setFrames fs) : Steps p.tables e below (T.setTop (mkF m pc Ls (.int z :: rest))) (T.setFrames fs) := by
  have hm' : T.vm.method? m = some meth := X.method'
  have hn : narrow .int (.int z) = .int z := rfl
  show Steps p.tables e below (T.setTop { method := m, pc := pc, locals := Ls, stack := _ :: rest, locked := none }) _
  jvm_step X.here [X.here.top, hx, hd, hm', hret, hn]
  first | (intro acts; rw [hl _ acts rfl rfl rfl]) | rw [hl _ _ rfl rfl rfl]
  exact Steps.refl _
end New
end Jvm.RoadKit

namespace Jvm.Pilot.@@N@@
open Jvm Jvm.ClassFile Sem Op Lib Jvm.Free Jvm.Stand Jvm.LawKit Jvm.RoadKit Bundle Jvm.Pilot.@@N@@.Jvm.D


def own_ws (c : Int32) : Int32 := if c = 32 ∨ c = 9 ∨ c = 10 ∨ c = 13 then 1 else 0
theorem own_c {v : Int32} (h0 : 0 ≤ v.toInt) (h1 : v.toInt < 65536) : v.toUInt32.toUInt16.toUInt32.toInt32 = v := by
  obtain ⟨a, b, c⟩ := c_i2c v
  exact Int32.toInt_inj.mp (by omega)
theorem own_fin (v : Int32) (h0 : 0 ≤ v.toInt) (h1 : ¬ (32 : Int32) < v) : ∃ n : Fin 33, v = Int32.ofNat n.val := by
  rw [Int32.lt_iff_toInt_lt] at h1
  have e : (32 : Int32).toInt = 32 := rfl
  rw [e] at h1
  refine ⟨⟨v.toInt.toNat, by omega⟩, Int32.toInt_inj.mp ?_⟩
  show v.toInt = (Int32.ofNat v.toInt.toNat).toInt
  rw [Int32.toInt_ofNat_of_lt (by omega)]
  omega
theorem own_hi {v : Int32} (h : (32 : Int32) < v) : own_ws v = 0 := by
  unfold own_ws
  rw [if_neg]
  rintro (rfl | rfl | rfl | rfl) <;> exact absurd h (by decide)
theorem own_all : ∀ n : Fin 33, own_ws (Int32.ofNat n.val) = if lcmpW (((1 : Int64) <<< (Int32.ofNat n.val &&& 0x3f).toInt64) &&& (4294977024 : Int64)) (0 : Int64) = (0 : Int32) then 0 else 1 := by decide +kernel
theorem own_lo {v : Int32} (h0 : 0 ≤ v.toInt) (h1 : ¬ (32 : Int32) < v) : own_ws v = if lcmpW (((1 : Int64) <<< (v &&& 0x3f).toInt64) &&& (4294977024 : Int64)) (0 : Int64) = (0 : Int32) then 0 else 1 := by
  obtain ⟨n, rfl⟩ := own_fin v h0 h1
  exact own_all n
theorem own_r63 (x : Int32) : 0 ≤ (x &&& (63 : Int32)).toInt ∧ (x &&& (63 : Int32)).toInt < 65536 := by
  have := c_and x 63 (by decide)
  have e : (63 : Int32).toInt = 63 := rfl
  omega
theorem own_r16 (x : Int32) : 0 ≤ (x &&& (65535 : Int32)).toInt ∧ (x &&& (65535 : Int32)).toInt < 65536 := by
  have := c_and x 65535 (by decide)
  have e : (65535 : Int32).toInt = 65535 := rfl
  omega

theorem d1_0 : decode prog_8_method_12_code 0 = .ok (.iload_n 0, 1) := by decide +kernel
theorem d1_1 : decode prog_8_method_12_code 1 = .ok (.bipush 32, 2) := by decide +kernel
theorem d1_3 : decode prog_8_method_12_code 3 = .ok (.if_icmp .eq 21, 3) := by decide +kernel
theorem d1_6 : decode prog_8_method_12_code 6 = .ok (.iload_n 0, 1) := by decide +kernel
theorem d1_7 : decode prog_8_method_12_code 7 = .ok (.bipush 9, 2) := by decide +kernel
theorem d1_9 : decode prog_8_method_12_code 9 = .ok (.if_icmp .eq 15, 3) := by decide +kernel
theorem d1_12 : decode prog_8_method_12_code 12 = .ok (.iload_n 0, 1) := by decide +kernel
theorem d1_13 : decode prog_8_method_12_code 13 = .ok (.bipush 10, 2) := by decide +kernel
theorem d1_15 : decode prog_8_method_12_code 15 = .ok (.if_icmp .eq 9, 3) := by decide +kernel
theorem d1_18 : decode prog_8_method_12_code 18 = .ok (.iload_n 0, 1) := by decide +kernel
theorem d1_19 : decode prog_8_method_12_code 19 = .ok (.bipush 13, 2) := by decide +kernel
theorem d1_21 : decode prog_8_method_12_code 21 = .ok (.if_icmp .ne 7, 3) := by decide +kernel
theorem d1_24 : decode prog_8_method_12_code 24 = .ok (.iconst 1, 1) := by decide +kernel
theorem d1_25 : decode prog_8_method_12_code 25 = .ok (.goto 4, 3) := by decide +kernel
theorem d1_28 : decode prog_8_method_12_code 28 = .ok (.iconst 0, 1) := by decide +kernel
theorem d1_29 : decode prog_8_method_12_code 29 = .ok (.ireturn, 1) := by decide +kernel
theorem pn_1 : plainName site_47.cls = true := by first | (simp [plainName, overriddenIn]; done) | decide +kernel
theorem ef_ws (m : MethodId) (x0 : Int32) : entryFrame m #[(.int x0)] 1 = mkF m 0 #[.val (.int x0)] [] := by (first | (simp [entryFrame, mkF, argsToLocals, Value.category]; done) | rfl)
def Q_ws (Z : State) (p1 : Int32) (h0 : Heap) (n0 : Nat) (v : Option Value) (h : Heap) (L : List Loc) : Prop := v = some (.int (own_ws p1)) ∧ Fr n0 L ∧ h = h0
set_option maxRecDepth 65536 in
set_option maxHeartbeats 40000000 in
theorem rm_ws (l : Launch) (Z : State) (a0 : Array Value) (hw : ∀ d ∈ tables_1, d.before a0 Z = true) (ws : List Jvm.Cond) (p1 : Int32) (h0 : Heap) (n0 : Nat) (Z0 : n0 ≤ h0.size)  :
    MetFree l site_47 (head1 (Jvm.Cond.code site_47 prog_8_method_12_code 1 (some .boolean) :: ws) ({ frames := 0, cells := 0, slots := 0, locals := 0 } : Room)) (fun a U => a = #[(.int p1)] ∧ Z.Warmed39 U.vm ∧ U.heap = h0) (fun _ _ _ _ _ => True) (fun _ U o U' => ∃ v L, o = .returned v ∧ Q_ws Z p1 h0 n0 v U'.heap L ∧ FrameEnd U o U' L ({ frames := 0, cells := 0, slots := 0, locals := 0 } : Room).cells ({ frames := 0, cells := 0, slots := 0, locals := 0 } : Room).slots) := by
  refine MetFree.of_bodySF (plainFor_of_name pn_1) hisR ?_
  intro p e s m args below meth c s₁ Bd hml0 hP hK
  obtain ⟨rfl, hZ, hh⟩ := hP
  have hx := Bd.exec
  have hby := Bd.bytes
  have hml : c.maxLocals = 1 := hml0
  have hown : s.vm.findClass site_47.cls = some m.cls := findClass_of_methodNamed Bd.named
  have hnm := (name_of_methodNamed Bd.named Bd.method).1
  have X0 : Stand p l e ({ frames := 0, cells := 0, slots := 0, locals := 0 } : Room) s m #[(.int p1)] below meth c s₁ [] 0 0 := Stand.of_body Bd
  have e0 : s₁.heap = h0 := by rw [← hh, Bd.state]; rfl
  have N0 := Fr.nil n0
  have c0 : Goes p e below s₁ (entryFrame m #[(.int p1)] 1) s₁ (mkF m 0 #[.val (.int p1)] []) := fun t k => castTop (ef_ws m p1) k
  have c1 : Goes p e below s₁ (entryFrame m #[(.int p1)] 1) s₁ (mkF m 3 #[.val (.int p1)] [(.int (32 : Int32)), (.int p1)]) := by
    intro t kk
    refine c0 t ?_
    show Steps p.tables e below (s₁.setTop (mkF m 0 #[.val (.int p1)] [])) t
    refine XS.iloadN X0.here hx rfl (hb hby d1_0) rfl ?_
    show Steps p.tables e below (s₁.setTop (mkF m 1 #[.val (.int p1)] [(.int p1)])) t
    refine XS.bipush X0.here hx rfl (hb hby d1_1) ?_
    exact kk
  by_cases h1 : p1 = (32 : Int32)
  · have c2 : Goes p e below s₁ (entryFrame m #[(.int p1)] 1) s₁ (mkF m 29 #[.val (.int p1)] [(.int (1 : Int32))]) := by
      intro t kk
      refine c1 t ?_
      show Steps p.tables e below (s₁.setTop (mkF m 3 #[.val (.int p1)] [(.int (32 : Int32)), (.int p1)])) t
      refine XS.icmpYes X0.here hx rfl (pc0 := 3) (pc' := 24) rfl (hb hby d1_3) rfl (teq h1).1 (by decide) (by decide) ?_
      show Steps p.tables e below (s₁.setTop (mkF m 24 #[.val (.int p1)] [])) t
      refine XS.iconst X0.here hx rfl (hb hby d1_24) ?_
      show Steps p.tables e below (s₁.setTop (mkF m 25 #[.val (.int p1)] [(.int (1 : Int32))])) t
      refine XS.goto X0.here hx rfl (pc0 := 25) (pc' := 29) rfl (hb hby d1_25) (by decide) (by decide) ?_
      exact kk
    obtain ⟨fs, hr, hrun, hended, hW, hsame⟩ := X0.leave (v := some (.int (1 : Int32))) (fun h => by rw [Bd.returns] at h; cases h)
    refine ⟨_, _, c2 _ ?_, hrun, hended, _, _, rfl, ?_, ⟨_, rfl⟩, hW, hsame.mono (by decide) (by decide)⟩
    · exact retN X0 hx (t := .boolean) Bd.returns (by simp) (hb hby d1_29) hr
    · show Q_ws Z p1 h0 n0 _ s₁.heap _
      rw [e0]
      exact ⟨by simp [own_ws, h1], N0, rfl⟩
  · have c3 : Goes p e below s₁ (entryFrame m #[(.int p1)] 1) s₁ (mkF m 9 #[.val (.int p1)] [(.int (9 : Int32)), (.int p1)]) := by
      intro t kk
      refine c1 t ?_
      show Steps p.tables e below (s₁.setTop (mkF m 3 #[.val (.int p1)] [(.int (32 : Int32)), (.int p1)])) t
      refine XS.icmpNo X0.here hx rfl (hb hby d1_3) rfl (feq h1).1 ?_
      show Steps p.tables e below (s₁.setTop (mkF m 6 #[.val (.int p1)] [])) t
      refine XS.iloadN X0.here hx rfl (hb hby d1_6) rfl ?_
      show Steps p.tables e below (s₁.setTop (mkF m 7 #[.val (.int p1)] [(.int p1)])) t
      refine XS.bipush X0.here hx rfl (hb hby d1_7) ?_
      exact kk
    by_cases h2 : p1 = (9 : Int32)
    · have c4 : Goes p e below s₁ (entryFrame m #[(.int p1)] 1) s₁ (mkF m 29 #[.val (.int p1)] [(.int (1 : Int32))]) := by
        intro t kk
        refine c3 t ?_
        show Steps p.tables e below (s₁.setTop (mkF m 9 #[.val (.int p1)] [(.int (9 : Int32)), (.int p1)])) t
        refine XS.icmpYes X0.here hx rfl (pc0 := 9) (pc' := 24) rfl (hb hby d1_9) rfl (teq h2).1 (by decide) (by decide) ?_
        show Steps p.tables e below (s₁.setTop (mkF m 24 #[.val (.int p1)] [])) t
        refine XS.iconst X0.here hx rfl (hb hby d1_24) ?_
        show Steps p.tables e below (s₁.setTop (mkF m 25 #[.val (.int p1)] [(.int (1 : Int32))])) t
        refine XS.goto X0.here hx rfl (pc0 := 25) (pc' := 29) rfl (hb hby d1_25) (by decide) (by decide) ?_
        exact kk
      obtain ⟨fs, hr, hrun, hended, hW, hsame⟩ := X0.leave (v := some (.int (1 : Int32))) (fun h => by rw [Bd.returns] at h; cases h)
      refine ⟨_, _, c4 _ ?_, hrun, hended, _, _, rfl, ?_, ⟨_, rfl⟩, hW, hsame.mono (by decide) (by decide)⟩
      · exact retN X0 hx (t := .boolean) Bd.returns (by simp) (hb hby d1_29) hr
      · show Q_ws Z p1 h0 n0 _ s₁.heap _
        rw [e0]
        exact ⟨by simp [own_ws, h1, h2], N0, rfl⟩
    · have c5 : Goes p e below s₁ (entryFrame m #[(.int p1)] 1) s₁ (mkF m 15 #[.val (.int p1)] [(.int (10 : Int32)), (.int p1)]) := by
        intro t kk
        refine c3 t ?_
        show Steps p.tables e below (s₁.setTop (mkF m 9 #[.val (.int p1)] [(.int (9 : Int32)), (.int p1)])) t
        refine XS.icmpNo X0.here hx rfl (hb hby d1_9) rfl (feq h2).1 ?_
        show Steps p.tables e below (s₁.setTop (mkF m 12 #[.val (.int p1)] [])) t
        refine XS.iloadN X0.here hx rfl (hb hby d1_12) rfl ?_
        show Steps p.tables e below (s₁.setTop (mkF m 13 #[.val (.int p1)] [(.int p1)])) t
        refine XS.bipush X0.here hx rfl (hb hby d1_13) ?_
        exact kk
      by_cases h3 : p1 = (10 : Int32)
      · have c6 : Goes p e below s₁ (entryFrame m #[(.int p1)] 1) s₁ (mkF m 29 #[.val (.int p1)] [(.int (1 : Int32))]) := by
          intro t kk
          refine c5 t ?_
          show Steps p.tables e below (s₁.setTop (mkF m 15 #[.val (.int p1)] [(.int (10 : Int32)), (.int p1)])) t
          refine XS.icmpYes X0.here hx rfl (pc0 := 15) (pc' := 24) rfl (hb hby d1_15) rfl (teq h3).1 (by decide) (by decide) ?_
          show Steps p.tables e below (s₁.setTop (mkF m 24 #[.val (.int p1)] [])) t
          refine XS.iconst X0.here hx rfl (hb hby d1_24) ?_
          show Steps p.tables e below (s₁.setTop (mkF m 25 #[.val (.int p1)] [(.int (1 : Int32))])) t
          refine XS.goto X0.here hx rfl (pc0 := 25) (pc' := 29) rfl (hb hby d1_25) (by decide) (by decide) ?_
          exact kk
        obtain ⟨fs, hr, hrun, hended, hW, hsame⟩ := X0.leave (v := some (.int (1 : Int32))) (fun h => by rw [Bd.returns] at h; cases h)
        refine ⟨_, _, c6 _ ?_, hrun, hended, _, _, rfl, ?_, ⟨_, rfl⟩, hW, hsame.mono (by decide) (by decide)⟩
        · exact retN X0 hx (t := .boolean) Bd.returns (by simp) (hb hby d1_29) hr
        · show Q_ws Z p1 h0 n0 _ s₁.heap _
          rw [e0]
          exact ⟨by simp [own_ws, h1, h2, h3], N0, rfl⟩
      · have c7 : Goes p e below s₁ (entryFrame m #[(.int p1)] 1) s₁ (mkF m 21 #[.val (.int p1)] [(.int (13 : Int32)), (.int p1)]) := by
          intro t kk
          refine c5 t ?_
          show Steps p.tables e below (s₁.setTop (mkF m 15 #[.val (.int p1)] [(.int (10 : Int32)), (.int p1)])) t
          refine XS.icmpNo X0.here hx rfl (hb hby d1_15) rfl (feq h3).1 ?_
          show Steps p.tables e below (s₁.setTop (mkF m 18 #[.val (.int p1)] [])) t
          refine XS.iloadN X0.here hx rfl (hb hby d1_18) rfl ?_
          show Steps p.tables e below (s₁.setTop (mkF m 19 #[.val (.int p1)] [(.int p1)])) t
          refine XS.bipush X0.here hx rfl (hb hby d1_19) ?_
          exact kk
        by_cases h4 : p1 = (13 : Int32)
        · have c8 : Goes p e below s₁ (entryFrame m #[(.int p1)] 1) s₁ (mkF m 29 #[.val (.int p1)] [(.int (1 : Int32))]) := by
            intro t kk
            refine c7 t ?_
            show Steps p.tables e below (s₁.setTop (mkF m 21 #[.val (.int p1)] [(.int (13 : Int32)), (.int p1)])) t
            refine XS.icmpNo X0.here hx rfl (hb hby d1_21) rfl (teq h4).2 ?_
            show Steps p.tables e below (s₁.setTop (mkF m 24 #[.val (.int p1)] [])) t
            refine XS.iconst X0.here hx rfl (hb hby d1_24) ?_
            show Steps p.tables e below (s₁.setTop (mkF m 25 #[.val (.int p1)] [(.int (1 : Int32))])) t
            refine XS.goto X0.here hx rfl (pc0 := 25) (pc' := 29) rfl (hb hby d1_25) (by decide) (by decide) ?_
            exact kk
          obtain ⟨fs, hr, hrun, hended, hW, hsame⟩ := X0.leave (v := some (.int (1 : Int32))) (fun h => by rw [Bd.returns] at h; cases h)
          refine ⟨_, _, c8 _ ?_, hrun, hended, _, _, rfl, ?_, ⟨_, rfl⟩, hW, hsame.mono (by decide) (by decide)⟩
          · exact retN X0 hx (t := .boolean) Bd.returns (by simp) (hb hby d1_29) hr
          · show Q_ws Z p1 h0 n0 _ s₁.heap _
            rw [e0]
            exact ⟨by simp [own_ws, h1, h2, h3, h4], N0, rfl⟩
        · have c9 : Goes p e below s₁ (entryFrame m #[(.int p1)] 1) s₁ (mkF m 29 #[.val (.int p1)] [(.int (0 : Int32))]) := by
            intro t kk
            refine c7 t ?_
            show Steps p.tables e below (s₁.setTop (mkF m 21 #[.val (.int p1)] [(.int (13 : Int32)), (.int p1)])) t
            refine XS.icmpYes X0.here hx rfl (pc0 := 21) (pc' := 28) rfl (hb hby d1_21) rfl (feq h4).2 (by decide) (by decide) ?_
            show Steps p.tables e below (s₁.setTop (mkF m 28 #[.val (.int p1)] [])) t
            refine XS.iconst X0.here hx rfl (hb hby d1_28) ?_
            exact kk
          obtain ⟨fs, hr, hrun, hended, hW, hsame⟩ := X0.leave (v := some (.int (0 : Int32))) (fun h => by rw [Bd.returns] at h; cases h)
          refine ⟨_, _, c9 _ ?_, hrun, hended, _, _, rfl, ?_, ⟨_, rfl⟩, hW, hsame.mono (by decide) (by decide)⟩
          · exact retN X0 hx (t := .boolean) Bd.returns (by simp) (hb hby d1_29) hr
          · show Q_ws Z p1 h0 n0 _ s₁.heap _
            rw [e0]
            exact ⟨by simp [own_ws, h1, h2, h3, h4], N0, rfl⟩
theorem pn_0 : plainName x.cls = true := by first | (simp [plainName, overriddenIn]; done) | decide +kernel
theorem pd__C_Z : parseMethodDescriptor "(C)Z" = some ⟨[.char], some .boolean⟩ := by decide +kernel
theorem ef_law (m : MethodId) (x0 : Int32) (x1 : Int32) : entryFrame m #[(.int x0), (.int x1)] maxLocals = mkF m 0 #[.val (.int x0), .val (.int x1), .unset, .unset, .unset] [] := by (first | (simp [entryFrame, mkF, argsToLocals, Value.category, maxLocals]; done) | rfl)
def Q_law (Z : State) (p0 : Int32) (p1 : Int32) (h0 : Heap) (n0 : Nat) (v : Option Value) (h : Heap) (L : List Loc) : Prop := v = some (.int 1) ∧ Fr n0 L
set_option maxRecDepth 65536 in
set_option maxHeartbeats 40000000 in
theorem rm_law (l : Launch) (Z : State) (a0 : Array Value) (hw : ∀ d ∈ tables_1, d.before a0 Z = true) (ws : List Jvm.Cond) (p0 : Int32) (p1 : Int32) (h0 : Heap) (n0 : Nat) (Z0 : n0 ≤ h0.size)  :
    MetFree l x (head1 (Jvm.Cond.code x code maxLocals ret :: ws) room_1) (fun a U => a = #[(.int p0), (.int p1)] ∧ Z.Warmed39 U.vm ∧ U.heap = h0) (fun _ _ _ _ _ => True) (fun _ U o U' => ∃ v L, o = .returned v ∧ Q_law Z p0 p1 h0 n0 v U'.heap L ∧ FrameEnd U o U' L 0 0) := by
  refine MetFree.of_bodySF (plainFor_of_name pn_0) hisR ?_
  intro p e s m args below meth c s₁ Bd hml0 hP hK
  obtain ⟨rfl, hZ, hh⟩ := hP
  have hx := Bd.exec
  have hby := Bd.bytes
  have hml : c.maxLocals = 5 := hml0
  have hown : s.vm.findClass x.cls = some m.cls := findClass_of_methodNamed Bd.named
  have hnm := (name_of_methodNamed Bd.named Bd.method).1
  have X0 : Stand p l e room_1 s m #[(.int p0), (.int p1)] below meth c s₁ [] 0 0 := Stand.of_body Bd
  have e0 : s₁.heap = h0 := by rw [← hh, Bd.state]; rfl
  have N0 := Fr.nil n0
  have c0 : Goes p e below s₁ (entryFrame m #[(.int p0), (.int p1)] maxLocals) s₁ (mkF m 0 #[.val (.int p0), .val (.int p1), .unset, .unset, .unset] []) := fun t k => castTop (ef_law m p0 p1) k
  have c10 : Goes p e below s₁ (entryFrame m #[(.int p0), (.int p1)] maxLocals) s₁ (mkF m 3 #[.val (.int p0), .val (.int p1), .unset, .unset, .unset] [(.int (p1 &&& (1 : Int32)))]) := by
    intro t kk
    refine c0 t ?_
    show Steps p.tables e below (s₁.setTop (mkF m 0 #[.val (.int p0), .val (.int p1), .unset, .unset, .unset] [])) t
    refine XS.iloadN X0.here hx rfl (hb hby at_0) rfl ?_
    show Steps p.tables e below (s₁.setTop (mkF m 1 #[.val (.int p0), .val (.int p1), .unset, .unset, .unset] [(.int p1)])) t
    refine XS.iconst X0.here hx rfl (hb hby at_1) ?_
    show Steps p.tables e below (s₁.setTop (mkF m 2 #[.val (.int p0), .val (.int p1), .unset, .unset, .unset] [(.int (1 : Int32)), (.int p1)])) t
    refine XS.iand X0.here hx rfl (hb hby at_2) rfl ?_
    exact kk
  by_cases h3 : (p1 &&& (1 : Int32)) = (0 : Int32)
  · have c11 : Goes p e below s₁ (entryFrame m #[(.int p0), (.int p1)] maxLocals) s₁ (mkF m 24 #[.val (.int p0), .val (.int p1), .val (.int (p0 &&& (65535 : Int32))), .val (.int ((p0 &&& (65535 : Int32)).toUInt32.toUInt16.toUInt32.toInt32)), .unset] [(.int (32 : Int32)), (.int (p0 &&& (65535 : Int32)))]) := by
      intro t kk
      refine c10 t ?_
      show Steps p.tables e below (s₁.setTop (mkF m 3 #[.val (.int p0), .val (.int p1), .unset, .unset, .unset] [(.int (p1 &&& (1 : Int32)))])) t
      refine XS.ifYes X0.here hx rfl (pc0 := 3) (pc' := 13) rfl (hb hby at_3) rfl ((if0 _ _).trans (teq h3).1) (by decide) (by decide) ?_
      show Steps p.tables e below (s₁.setTop (mkF m 13 #[.val (.int p0), .val (.int p1), .unset, .unset, .unset] [])) t
      refine XS.iloadN X0.here hx rfl (hb hby at_13) rfl ?_
      show Steps p.tables e below (s₁.setTop (mkF m 14 #[.val (.int p0), .val (.int p1), .unset, .unset, .unset] [(.int p0)])) t
      refine X0.ldcInt hx hown (mvT hZ (hw _ (List.mem_of_getElem? (i := 5) rfl))) (g := (mkF m 14 #[.val (.int p0), .val (.int p1), .unset, .unset, .unset] [(.int p0)])) rfl (hb hby at_14) _ ?_
      show Steps p.tables e below (s₁.setTop (mkF m 16 #[.val (.int p0), .val (.int p1), .unset, .unset, .unset] [(.int (65535 : Int32)), (.int p0)])) t
      refine XS.iand X0.here hx rfl (hb hby at_16) rfl ?_
      show Steps p.tables e below (s₁.setTop (mkF m 17 #[.val (.int p0), .val (.int p1), .unset, .unset, .unset] [(.int (p0 &&& (65535 : Int32)))])) t
      refine XS.istoreN X0.here hx rfl (hb hby at_17) rfl (l' := #[.val (.int p0), .val (.int p1), .val (.int (p0 &&& (65535 : Int32))), .unset, .unset]) rfl ?_
      show Steps p.tables e below (s₁.setTop (mkF m 18 #[.val (.int p0), .val (.int p1), .val (.int (p0 &&& (65535 : Int32))), .unset, .unset] [])) t
      refine XS.iloadN X0.here hx rfl (hb hby at_18) rfl ?_
      show Steps p.tables e below (s₁.setTop (mkF m 19 #[.val (.int p0), .val (.int p1), .val (.int (p0 &&& (65535 : Int32))), .unset, .unset] [(.int (p0 &&& (65535 : Int32)))])) t
      refine XS.i2c X0.here hx rfl (hb hby at_19) rfl ?_
      show Steps p.tables e below (s₁.setTop (mkF m 20 #[.val (.int p0), .val (.int p1), .val (.int (p0 &&& (65535 : Int32))), .unset, .unset] [(.int ((p0 &&& (65535 : Int32)).toUInt32.toUInt16.toUInt32.toInt32))])) t
      refine XS.istoreN X0.here hx rfl (hb hby at_20) rfl (l' := #[.val (.int p0), .val (.int p1), .val (.int (p0 &&& (65535 : Int32))), .val (.int ((p0 &&& (65535 : Int32)).toUInt32.toUInt16.toUInt32.toInt32)), .unset]) rfl ?_
      show Steps p.tables e below (s₁.setTop (mkF m 21 #[.val (.int p0), .val (.int p1), .val (.int (p0 &&& (65535 : Int32))), .val (.int ((p0 &&& (65535 : Int32)).toUInt32.toUInt16.toUInt32.toInt32)), .unset] [])) t
      refine XS.iloadN X0.here hx rfl (hb hby at_21) rfl ?_
      show Steps p.tables e below (s₁.setTop (mkF m 22 #[.val (.int p0), .val (.int p1), .val (.int (p0 &&& (65535 : Int32))), .val (.int ((p0 &&& (65535 : Int32)).toUInt32.toUInt16.toUInt32.toInt32)), .unset] [(.int (p0 &&& (65535 : Int32)))])) t
      refine XS.bipush X0.here hx rfl (hb hby at_22) ?_
      exact kk
    by_cases h24 : (32 : Int32) < (p0 &&& (65535 : Int32))
    · have c12 : Goes p e below s₁ (entryFrame m #[(.int p0), (.int p1)] maxLocals) s₁ (mkF m 47 #[.val (.int p0), .val (.int p1), .val (.int (p0 &&& (65535 : Int32))), .val (.int ((p0 &&& (65535 : Int32)).toUInt32.toUInt16.toUInt32.toInt32)), .val (.int (0 : Int32))] [(.int ((p0 &&& (65535 : Int32)).toUInt32.toUInt16.toUInt32.toInt32))]) := by
        intro t kk
        refine c11 t ?_
        show Steps p.tables e below (s₁.setTop (mkF m 24 #[.val (.int p0), .val (.int p1), .val (.int (p0 &&& (65535 : Int32))), .val (.int ((p0 &&& (65535 : Int32)).toUInt32.toUInt16.toUInt32.toInt32)), .unset] [(.int (32 : Int32)), (.int (p0 &&& (65535 : Int32)))])) t
        refine XS.icmpYes X0.here hx rfl (pc0 := 24) (pc' := 43) rfl (hb hby at_24) rfl (tlt h24).2.2.1 (by decide) (by decide) ?_
        show Steps p.tables e below (s₁.setTop (mkF m 43 #[.val (.int p0), .val (.int p1), .val (.int (p0 &&& (65535 : Int32))), .val (.int ((p0 &&& (65535 : Int32)).toUInt32.toUInt16.toUInt32.toInt32)), .unset] [])) t
        refine XS.iconst X0.here hx rfl (hb hby at_43) ?_
        show Steps p.tables e below (s₁.setTop (mkF m 44 #[.val (.int p0), .val (.int p1), .val (.int (p0 &&& (65535 : Int32))), .val (.int ((p0 &&& (65535 : Int32)).toUInt32.toUInt16.toUInt32.toInt32)), .unset] [(.int (0 : Int32))])) t
        refine XS.istore X0.here hx rfl (hb hby at_44) rfl (l' := #[.val (.int p0), .val (.int p1), .val (.int (p0 &&& (65535 : Int32))), .val (.int ((p0 &&& (65535 : Int32)).toUInt32.toUInt16.toUInt32.toInt32)), .val (.int (0 : Int32))]) rfl ?_
        show Steps p.tables e below (s₁.setTop (mkF m 46 #[.val (.int p0), .val (.int p1), .val (.int (p0 &&& (65535 : Int32))), .val (.int ((p0 &&& (65535 : Int32)).toUInt32.toUInt16.toUInt32.toInt32)), .val (.int (0 : Int32))] [])) t
        refine XS.iloadN X0.here hx rfl (hb hby at_46) rfl ?_
        exact kk
      obtain ⟨_, _, ⟨T13, L13, k13, n13⟩, -, X13, ⟨Lc13, hQ13, l13, y13, z13⟩, st13⟩ := Jvm.LawKit.callS X0 hx (y := site_47) hown (mvT hZ (hw _ (List.mem_of_getElem? (i := 1) rfl))) (mvT hZ (hw _ (List.mem_of_getElem? (i := 2) rfl))) (mvT hZ (hw _ (List.mem_of_getElem? (i := 3) rfl))) (mvT hZ (hw _ (List.mem_of_getElem? (i := 4) rfl))) (by decide) (backOf (W := 0) (rm_ws l Z a0 hw [] ((p0 &&& (65535 : Int32)).toUInt32.toUInt16.toUInt32.toInt32) h0 n0 Z0) hZ (hw _ (List.mem_of_getElem? (i := 4) rfl)) (hw _ (List.mem_of_getElem? (i := 3) rfl)) (by decide) (by decide)) (g := (mkF m 47 #[.val (.int p0), .val (.int p1), .val (.int (p0 &&& (65535 : Int32))), .val (.int ((p0 &&& (65535 : Int32)).toUInt32.toUInt16.toUInt32.toInt32)), .val (.int (0 : Int32))] [(.int ((p0 &&& (65535 : Int32)).toUInt32.toUInt16.toUInt32.toInt32))])) rfl (by rw [hml]; rfl) (argsL := [(.int ((p0 &&& (65535 : Int32)).toUInt32.toUInt16.toUInt32.toInt32))]) (rest := []) (lenOf pd__C_Z rfl) rfl (by show 2 * 0 + _ ≤ _; exact Nat.le_of_eq rfl) (hb hby at_47) (fun _ _ => ⟨rfl, e0, (by decide : 0 + 0 ≤ _), (by decide : 0 + 0 ≤ _)⟩)
      dsimp only [Pt.U, Pt.locs, Pt.cells, Pt.slots] at X13 l13 y13 z13 st13 hQ13
      subst l13 y13 z13
      obtain ⟨rfl, Nq13, eq13⟩ := hQ13
      have N13 := Fr.app N0 Nq13
      have c14 : Goes p e below s₁ (entryFrame m #[(.int p0), (.int p1)] maxLocals) T13 (mkF m 50 #[.val (.int p0), .val (.int p1), .val (.int (p0 &&& (65535 : Int32))), .val (.int ((p0 &&& (65535 : Int32)).toUInt32.toUInt16.toUInt32.toInt32)), .val (.int (0 : Int32))] [(.int (own_ws ((p0 &&& (65535 : Int32)).toUInt32.toUInt16.toUInt32.toInt32)))]) := fun t kk => c12 t (st13 t kk)
      have c15 : Goes p e below s₁ (entryFrame m #[(.int p0), (.int p1)] maxLocals) T13 (mkF m 60 #[.val (.int p0), .val (.int p1), .val (.int (p0 &&& (65535 : Int32))), .val (.int ((p0 &&& (65535 : Int32)).toUInt32.toUInt16.toUInt32.toInt32)), .val (.int (0 : Int32))] [(.int (1 : Int32))]) := by
        intro t kk
        refine c14 t ?_
        show Steps p.tables e below (T13.setTop (mkF m 50 #[.val (.int p0), .val (.int p1), .val (.int (p0 &&& (65535 : Int32))), .val (.int ((p0 &&& (65535 : Int32)).toUInt32.toUInt16.toUInt32.toInt32)), .val (.int (0 : Int32))] [(.int (own_ws ((p0 &&& (65535 : Int32)).toUInt32.toUInt16.toUInt32.toInt32)))])) t
        refine XS.iload X13.here hx rfl (hb hby at_50) rfl ?_
        show Steps p.tables e below (T13.setTop (mkF m 52 #[.val (.int p0), .val (.int p1), .val (.int (p0 &&& (65535 : Int32))), .val (.int ((p0 &&& (65535 : Int32)).toUInt32.toUInt16.toUInt32.toInt32)), .val (.int (0 : Int32))] [(.int (0 : Int32)), (.int (own_ws ((p0 &&& (65535 : Int32)).toUInt32.toUInt16.toUInt32.toInt32)))])) t
        refine XS.icmpNo X13.here hx rfl (hb hby at_52) rfl (teq (by rw [own_c (own_r16 p0).1 (own_r16 p0).2]; first | exact own_hi h24 | (rw [own_lo (own_r16 p0).1 h24]; simp only [h36, if_true, if_false]))).2 ?_
        show Steps p.tables e below (T13.setTop (mkF m 55 #[.val (.int p0), .val (.int p1), .val (.int (p0 &&& (65535 : Int32))), .val (.int ((p0 &&& (65535 : Int32)).toUInt32.toUInt16.toUInt32.toInt32)), .val (.int (0 : Int32))] [])) t
        refine XS.iconst X13.here hx rfl (hb hby at_55) ?_
        show Steps p.tables e below (T13.setTop (mkF m 56 #[.val (.int p0), .val (.int p1), .val (.int (p0 &&& (65535 : Int32))), .val (.int ((p0 &&& (65535 : Int32)).toUInt32.toUInt16.toUInt32.toInt32)), .val (.int (0 : Int32))] [(.int (1 : Int32))])) t
        refine XS.goto X13.here hx rfl (pc0 := 56) (pc' := 60) rfl (hb hby at_56) (by decide) (by decide) ?_
        exact kk
      obtain ⟨fs, hr, hrun, hended, hW, hsame⟩ := X13.leave (v := some (.int (1 : Int32))) (fun h => by rw [Bd.returns] at h; cases h)
      refine ⟨_, _, c15 _ ?_, hrun, hended, _, _, rfl, ?_, ⟨_, rfl⟩, hW, hsame.mono (by decide) (by decide)⟩
      · exact retN X13 hx (t := .boolean) Bd.returns (by simp) (hb hby at_60) hr
      · show Q_law Z p0 p1 h0 n0 _ T13.heap _
        rw [eq13]
        exact ⟨rfl, N13⟩
    · have c16 : Goes p e below s₁ (entryFrame m #[(.int p0), (.int p1)] maxLocals) s₁ (mkF m 36 #[.val (.int p0), .val (.int p1), .val (.int (p0 &&& (65535 : Int32))), .val (.int ((p0 &&& (65535 : Int32)).toUInt32.toUInt16.toUInt32.toInt32)), .unset] [(.int (lcmpW (((1 : Int64) <<< ((p0 &&& (65535 : Int32)) &&& 0x3f).toInt64) &&& (4294977024 : Int64)) (0 : Int64)))]) := by
        intro t kk
        refine c11 t ?_
        show Steps p.tables e below (s₁.setTop (mkF m 24 #[.val (.int p0), .val (.int p1), .val (.int (p0 &&& (65535 : Int32))), .val (.int ((p0 &&& (65535 : Int32)).toUInt32.toUInt16.toUInt32.toInt32)), .unset] [(.int (32 : Int32)), (.int (p0 &&& (65535 : Int32)))])) t
        refine XS.icmpNo X0.here hx rfl (hb hby at_24) rfl (flt h24).2.2.1 ?_
        show Steps p.tables e below (s₁.setTop (mkF m 27 #[.val (.int p0), .val (.int p1), .val (.int (p0 &&& (65535 : Int32))), .val (.int ((p0 &&& (65535 : Int32)).toUInt32.toUInt16.toUInt32.toInt32)), .unset] [])) t
        refine XS.lconst X0.here hx rfl (hb hby at_27) ?_
        show Steps p.tables e below (s₁.setTop (mkF m 28 #[.val (.int p0), .val (.int p1), .val (.int (p0 &&& (65535 : Int32))), .val (.int ((p0 &&& (65535 : Int32)).toUInt32.toUInt16.toUInt32.toInt32)), .unset] [(.long (1 : Int64))])) t
        refine XS.iloadN X0.here hx rfl (hb hby at_28) rfl ?_
        show Steps p.tables e below (s₁.setTop (mkF m 29 #[.val (.int p0), .val (.int p1), .val (.int (p0 &&& (65535 : Int32))), .val (.int ((p0 &&& (65535 : Int32)).toUInt32.toUInt16.toUInt32.toInt32)), .unset] [(.int (p0 &&& (65535 : Int32))), (.long (1 : Int64))])) t
        refine XS.lshl X0.here hx rfl (hb hby at_29) rfl ?_
        show Steps p.tables e below (s₁.setTop (mkF m 30 #[.val (.int p0), .val (.int p1), .val (.int (p0 &&& (65535 : Int32))), .val (.int ((p0 &&& (65535 : Int32)).toUInt32.toUInt16.toUInt32.toInt32)), .unset] [(.long ((1 : Int64) <<< ((p0 &&& (65535 : Int32)) &&& 0x3f).toInt64))])) t
        refine X0.ldc2Long hx hown (mvT hZ (hw _ (List.mem_of_getElem? (i := 0) rfl))) (g := (mkF m 30 #[.val (.int p0), .val (.int p1), .val (.int (p0 &&& (65535 : Int32))), .val (.int ((p0 &&& (65535 : Int32)).toUInt32.toUInt16.toUInt32.toInt32)), .unset] [(.long ((1 : Int64) <<< ((p0 &&& (65535 : Int32)) &&& 0x3f).toInt64))])) rfl (hb hby at_30) _ ?_
        show Steps p.tables e below (s₁.setTop (mkF m 33 #[.val (.int p0), .val (.int p1), .val (.int (p0 &&& (65535 : Int32))), .val (.int ((p0 &&& (65535 : Int32)).toUInt32.toUInt16.toUInt32.toInt32)), .unset] [(.long (4294977024 : Int64)), (.long ((1 : Int64) <<< ((p0 &&& (65535 : Int32)) &&& 0x3f).toInt64))])) t
        refine XS.land X0.here hx rfl (hb hby at_33) rfl ?_
        show Steps p.tables e below (s₁.setTop (mkF m 34 #[.val (.int p0), .val (.int p1), .val (.int (p0 &&& (65535 : Int32))), .val (.int ((p0 &&& (65535 : Int32)).toUInt32.toUInt16.toUInt32.toInt32)), .unset] [(.long (((1 : Int64) <<< ((p0 &&& (65535 : Int32)) &&& 0x3f).toInt64) &&& (4294977024 : Int64)))])) t
        refine XS.lconst X0.here hx rfl (hb hby at_34) ?_
        show Steps p.tables e below (s₁.setTop (mkF m 35 #[.val (.int p0), .val (.int p1), .val (.int (p0 &&& (65535 : Int32))), .val (.int ((p0 &&& (65535 : Int32)).toUInt32.toUInt16.toUInt32.toInt32)), .unset] [(.long (0 : Int64)), (.long (((1 : Int64) <<< ((p0 &&& (65535 : Int32)) &&& 0x3f).toInt64) &&& (4294977024 : Int64)))])) t
        refine XS.lcmp X0.here hx rfl (hb hby at_35) rfl ?_
        exact kk
      by_cases h36 : (lcmpW (((1 : Int64) <<< ((p0 &&& (65535 : Int32)) &&& 0x3f).toInt64) &&& (4294977024 : Int64)) (0 : Int64)) = (0 : Int32)
      · have c17 : Goes p e below s₁ (entryFrame m #[(.int p0), (.int p1)] maxLocals) s₁ (mkF m 47 #[.val (.int p0), .val (.int p1), .val (.int (p0 &&& (65535 : Int32))), .val (.int ((p0 &&& (65535 : Int32)).toUInt32.toUInt16.toUInt32.toInt32)), .val (.int (0 : Int32))] [(.int ((p0 &&& (65535 : Int32)).toUInt32.toUInt16.toUInt32.toInt32))]) := by
          intro t kk
          refine c16 t ?_
          show Steps p.tables e below (s₁.setTop (mkF m 36 #[.val (.int p0), .val (.int p1), .val (.int (p0 &&& (65535 : Int32))), .val (.int ((p0 &&& (65535 : Int32)).toUInt32.toUInt16.toUInt32.toInt32)), .unset] [(.int (lcmpW (((1 : Int64) <<< ((p0 &&& (65535 : Int32)) &&& 0x3f).toInt64) &&& (4294977024 : Int64)) (0 : Int64)))])) t
          refine XS.ifYes X0.here hx rfl (pc0 := 36) (pc' := 43) rfl (hb hby at_36) rfl ((if0 _ _).trans (teq h36).1) (by decide) (by decide) ?_
          show Steps p.tables e below (s₁.setTop (mkF m 43 #[.val (.int p0), .val (.int p1), .val (.int (p0 &&& (65535 : Int32))), .val (.int ((p0 &&& (65535 : Int32)).toUInt32.toUInt16.toUInt32.toInt32)), .unset] [])) t
          refine XS.iconst X0.here hx rfl (hb hby at_43) ?_
          show Steps p.tables e below (s₁.setTop (mkF m 44 #[.val (.int p0), .val (.int p1), .val (.int (p0 &&& (65535 : Int32))), .val (.int ((p0 &&& (65535 : Int32)).toUInt32.toUInt16.toUInt32.toInt32)), .unset] [(.int (0 : Int32))])) t
          refine XS.istore X0.here hx rfl (hb hby at_44) rfl (l' := #[.val (.int p0), .val (.int p1), .val (.int (p0 &&& (65535 : Int32))), .val (.int ((p0 &&& (65535 : Int32)).toUInt32.toUInt16.toUInt32.toInt32)), .val (.int (0 : Int32))]) rfl ?_
          show Steps p.tables e below (s₁.setTop (mkF m 46 #[.val (.int p0), .val (.int p1), .val (.int (p0 &&& (65535 : Int32))), .val (.int ((p0 &&& (65535 : Int32)).toUInt32.toUInt16.toUInt32.toInt32)), .val (.int (0 : Int32))] [])) t
          refine XS.iloadN X0.here hx rfl (hb hby at_46) rfl ?_
          exact kk
        obtain ⟨_, _, ⟨T18, L18, k18, n18⟩, -, X18, ⟨Lc18, hQ18, l18, y18, z18⟩, st18⟩ := Jvm.LawKit.callS X0 hx (y := site_47) hown (mvT hZ (hw _ (List.mem_of_getElem? (i := 1) rfl))) (mvT hZ (hw _ (List.mem_of_getElem? (i := 2) rfl))) (mvT hZ (hw _ (List.mem_of_getElem? (i := 3) rfl))) (mvT hZ (hw _ (List.mem_of_getElem? (i := 4) rfl))) (by decide) (backOf (W := 0) (rm_ws l Z a0 hw [] ((p0 &&& (65535 : Int32)).toUInt32.toUInt16.toUInt32.toInt32) h0 n0 Z0) hZ (hw _ (List.mem_of_getElem? (i := 4) rfl)) (hw _ (List.mem_of_getElem? (i := 3) rfl)) (by decide) (by decide)) (g := (mkF m 47 #[.val (.int p0), .val (.int p1), .val (.int (p0 &&& (65535 : Int32))), .val (.int ((p0 &&& (65535 : Int32)).toUInt32.toUInt16.toUInt32.toInt32)), .val (.int (0 : Int32))] [(.int ((p0 &&& (65535 : Int32)).toUInt32.toUInt16.toUInt32.toInt32))])) rfl (by rw [hml]; rfl) (argsL := [(.int ((p0 &&& (65535 : Int32)).toUInt32.toUInt16.toUInt32.toInt32))]) (rest := []) (lenOf pd__C_Z rfl) rfl (by show 2 * 0 + _ ≤ _; exact Nat.le_of_eq rfl) (hb hby at_47) (fun _ _ => ⟨rfl, e0, (by decide : 0 + 0 ≤ _), (by decide : 0 + 0 ≤ _)⟩)
        dsimp only [Pt.U, Pt.locs, Pt.cells, Pt.slots] at X18 l18 y18 z18 st18 hQ18
        subst l18 y18 z18
        obtain ⟨rfl, Nq18, eq18⟩ := hQ18
        have N18 := Fr.app N0 Nq18
        have c19 : Goes p e below s₁ (entryFrame m #[(.int p0), (.int p1)] maxLocals) T18 (mkF m 50 #[.val (.int p0), .val (.int p1), .val (.int (p0 &&& (65535 : Int32))), .val (.int ((p0 &&& (65535 : Int32)).toUInt32.toUInt16.toUInt32.toInt32)), .val (.int (0 : Int32))] [(.int (own_ws ((p0 &&& (65535 : Int32)).toUInt32.toUInt16.toUInt32.toInt32)))]) := fun t kk => c17 t (st18 t kk)
        have c20 : Goes p e below s₁ (entryFrame m #[(.int p0), (.int p1)] maxLocals) T18 (mkF m 60 #[.val (.int p0), .val (.int p1), .val (.int (p0 &&& (65535 : Int32))), .val (.int ((p0 &&& (65535 : Int32)).toUInt32.toUInt16.toUInt32.toInt32)), .val (.int (0 : Int32))] [(.int (1 : Int32))]) := by
          intro t kk
          refine c19 t ?_
          show Steps p.tables e below (T18.setTop (mkF m 50 #[.val (.int p0), .val (.int p1), .val (.int (p0 &&& (65535 : Int32))), .val (.int ((p0 &&& (65535 : Int32)).toUInt32.toUInt16.toUInt32.toInt32)), .val (.int (0 : Int32))] [(.int (own_ws ((p0 &&& (65535 : Int32)).toUInt32.toUInt16.toUInt32.toInt32)))])) t
          refine XS.iload X18.here hx rfl (hb hby at_50) rfl ?_
          show Steps p.tables e below (T18.setTop (mkF m 52 #[.val (.int p0), .val (.int p1), .val (.int (p0 &&& (65535 : Int32))), .val (.int ((p0 &&& (65535 : Int32)).toUInt32.toUInt16.toUInt32.toInt32)), .val (.int (0 : Int32))] [(.int (0 : Int32)), (.int (own_ws ((p0 &&& (65535 : Int32)).toUInt32.toUInt16.toUInt32.toInt32)))])) t
          refine XS.icmpNo X18.here hx rfl (hb hby at_52) rfl (teq (by rw [own_c (own_r16 p0).1 (own_r16 p0).2]; first | exact own_hi h24 | (rw [own_lo (own_r16 p0).1 h24]; simp only [h36, if_true, if_false]))).2 ?_
          show Steps p.tables e below (T18.setTop (mkF m 55 #[.val (.int p0), .val (.int p1), .val (.int (p0 &&& (65535 : Int32))), .val (.int ((p0 &&& (65535 : Int32)).toUInt32.toUInt16.toUInt32.toInt32)), .val (.int (0 : Int32))] [])) t
          refine XS.iconst X18.here hx rfl (hb hby at_55) ?_
          show Steps p.tables e below (T18.setTop (mkF m 56 #[.val (.int p0), .val (.int p1), .val (.int (p0 &&& (65535 : Int32))), .val (.int ((p0 &&& (65535 : Int32)).toUInt32.toUInt16.toUInt32.toInt32)), .val (.int (0 : Int32))] [(.int (1 : Int32))])) t
          refine XS.goto X18.here hx rfl (pc0 := 56) (pc' := 60) rfl (hb hby at_56) (by decide) (by decide) ?_
          exact kk
        obtain ⟨fs, hr, hrun, hended, hW, hsame⟩ := X18.leave (v := some (.int (1 : Int32))) (fun h => by rw [Bd.returns] at h; cases h)
        refine ⟨_, _, c20 _ ?_, hrun, hended, _, _, rfl, ?_, ⟨_, rfl⟩, hW, hsame.mono (by decide) (by decide)⟩
        · exact retN X18 hx (t := .boolean) Bd.returns (by simp) (hb hby at_60) hr
        · show Q_law Z p0 p1 h0 n0 _ T18.heap _
          rw [eq18]
          exact ⟨rfl, N18⟩
      · have c21 : Goes p e below s₁ (entryFrame m #[(.int p0), (.int p1)] maxLocals) s₁ (mkF m 47 #[.val (.int p0), .val (.int p1), .val (.int (p0 &&& (65535 : Int32))), .val (.int ((p0 &&& (65535 : Int32)).toUInt32.toUInt16.toUInt32.toInt32)), .val (.int (1 : Int32))] [(.int ((p0 &&& (65535 : Int32)).toUInt32.toUInt16.toUInt32.toInt32))]) := by
          intro t kk
          refine c16 t ?_
          show Steps p.tables e below (s₁.setTop (mkF m 36 #[.val (.int p0), .val (.int p1), .val (.int (p0 &&& (65535 : Int32))), .val (.int ((p0 &&& (65535 : Int32)).toUInt32.toUInt16.toUInt32.toInt32)), .unset] [(.int (lcmpW (((1 : Int64) <<< ((p0 &&& (65535 : Int32)) &&& 0x3f).toInt64) &&& (4294977024 : Int64)) (0 : Int64)))])) t
          refine XS.ifNo X0.here hx rfl (hb hby at_36) rfl ((if0 _ _).trans (feq h36).1) ?_
          show Steps p.tables e below (s₁.setTop (mkF m 39 #[.val (.int p0), .val (.int p1), .val (.int (p0 &&& (65535 : Int32))), .val (.int ((p0 &&& (65535 : Int32)).toUInt32.toUInt16.toUInt32.toInt32)), .unset] [])) t
          refine XS.iconst X0.here hx rfl (hb hby at_39) ?_
          show Steps p.tables e below (s₁.setTop (mkF m 40 #[.val (.int p0), .val (.int p1), .val (.int (p0 &&& (65535 : Int32))), .val (.int ((p0 &&& (65535 : Int32)).toUInt32.toUInt16.toUInt32.toInt32)), .unset] [(.int (1 : Int32))])) t
          refine XS.goto X0.here hx rfl (pc0 := 40) (pc' := 44) rfl (hb hby at_40) (by decide) (by decide) ?_
          show Steps p.tables e below (s₁.setTop (mkF m 44 #[.val (.int p0), .val (.int p1), .val (.int (p0 &&& (65535 : Int32))), .val (.int ((p0 &&& (65535 : Int32)).toUInt32.toUInt16.toUInt32.toInt32)), .unset] [(.int (1 : Int32))])) t
          refine XS.istore X0.here hx rfl (hb hby at_44) rfl (l' := #[.val (.int p0), .val (.int p1), .val (.int (p0 &&& (65535 : Int32))), .val (.int ((p0 &&& (65535 : Int32)).toUInt32.toUInt16.toUInt32.toInt32)), .val (.int (1 : Int32))]) rfl ?_
          show Steps p.tables e below (s₁.setTop (mkF m 46 #[.val (.int p0), .val (.int p1), .val (.int (p0 &&& (65535 : Int32))), .val (.int ((p0 &&& (65535 : Int32)).toUInt32.toUInt16.toUInt32.toInt32)), .val (.int (1 : Int32))] [])) t
          refine XS.iloadN X0.here hx rfl (hb hby at_46) rfl ?_
          exact kk
        obtain ⟨_, _, ⟨T22, L22, k22, n22⟩, -, X22, ⟨Lc22, hQ22, l22, y22, z22⟩, st22⟩ := Jvm.LawKit.callS X0 hx (y := site_47) hown (mvT hZ (hw _ (List.mem_of_getElem? (i := 1) rfl))) (mvT hZ (hw _ (List.mem_of_getElem? (i := 2) rfl))) (mvT hZ (hw _ (List.mem_of_getElem? (i := 3) rfl))) (mvT hZ (hw _ (List.mem_of_getElem? (i := 4) rfl))) (by decide) (backOf (W := 0) (rm_ws l Z a0 hw [] ((p0 &&& (65535 : Int32)).toUInt32.toUInt16.toUInt32.toInt32) h0 n0 Z0) hZ (hw _ (List.mem_of_getElem? (i := 4) rfl)) (hw _ (List.mem_of_getElem? (i := 3) rfl)) (by decide) (by decide)) (g := (mkF m 47 #[.val (.int p0), .val (.int p1), .val (.int (p0 &&& (65535 : Int32))), .val (.int ((p0 &&& (65535 : Int32)).toUInt32.toUInt16.toUInt32.toInt32)), .val (.int (1 : Int32))] [(.int ((p0 &&& (65535 : Int32)).toUInt32.toUInt16.toUInt32.toInt32))])) rfl (by rw [hml]; rfl) (argsL := [(.int ((p0 &&& (65535 : Int32)).toUInt32.toUInt16.toUInt32.toInt32))]) (rest := []) (lenOf pd__C_Z rfl) rfl (by show 2 * 0 + _ ≤ _; exact Nat.le_of_eq rfl) (hb hby at_47) (fun _ _ => ⟨rfl, e0, (by decide : 0 + 0 ≤ _), (by decide : 0 + 0 ≤ _)⟩)
        dsimp only [Pt.U, Pt.locs, Pt.cells, Pt.slots] at X22 l22 y22 z22 st22 hQ22
        subst l22 y22 z22
        obtain ⟨rfl, Nq22, eq22⟩ := hQ22
        have N22 := Fr.app N0 Nq22
        have c23 : Goes p e below s₁ (entryFrame m #[(.int p0), (.int p1)] maxLocals) T22 (mkF m 50 #[.val (.int p0), .val (.int p1), .val (.int (p0 &&& (65535 : Int32))), .val (.int ((p0 &&& (65535 : Int32)).toUInt32.toUInt16.toUInt32.toInt32)), .val (.int (1 : Int32))] [(.int (own_ws ((p0 &&& (65535 : Int32)).toUInt32.toUInt16.toUInt32.toInt32)))]) := fun t kk => c21 t (st22 t kk)
        have c24 : Goes p e below s₁ (entryFrame m #[(.int p0), (.int p1)] maxLocals) T22 (mkF m 60 #[.val (.int p0), .val (.int p1), .val (.int (p0 &&& (65535 : Int32))), .val (.int ((p0 &&& (65535 : Int32)).toUInt32.toUInt16.toUInt32.toInt32)), .val (.int (1 : Int32))] [(.int (1 : Int32))]) := by
          intro t kk
          refine c23 t ?_
          show Steps p.tables e below (T22.setTop (mkF m 50 #[.val (.int p0), .val (.int p1), .val (.int (p0 &&& (65535 : Int32))), .val (.int ((p0 &&& (65535 : Int32)).toUInt32.toUInt16.toUInt32.toInt32)), .val (.int (1 : Int32))] [(.int (own_ws ((p0 &&& (65535 : Int32)).toUInt32.toUInt16.toUInt32.toInt32)))])) t
          refine XS.iload X22.here hx rfl (hb hby at_50) rfl ?_
          show Steps p.tables e below (T22.setTop (mkF m 52 #[.val (.int p0), .val (.int p1), .val (.int (p0 &&& (65535 : Int32))), .val (.int ((p0 &&& (65535 : Int32)).toUInt32.toUInt16.toUInt32.toInt32)), .val (.int (1 : Int32))] [(.int (1 : Int32)), (.int (own_ws ((p0 &&& (65535 : Int32)).toUInt32.toUInt16.toUInt32.toInt32)))])) t
          refine XS.icmpNo X22.here hx rfl (hb hby at_52) rfl (teq (by rw [own_c (own_r16 p0).1 (own_r16 p0).2]; first | exact own_hi h24 | (rw [own_lo (own_r16 p0).1 h24]; simp only [h36, if_true, if_false]))).2 ?_
          show Steps p.tables e below (T22.setTop (mkF m 55 #[.val (.int p0), .val (.int p1), .val (.int (p0 &&& (65535 : Int32))), .val (.int ((p0 &&& (65535 : Int32)).toUInt32.toUInt16.toUInt32.toInt32)), .val (.int (1 : Int32))] [])) t
          refine XS.iconst X22.here hx rfl (hb hby at_55) ?_
          show Steps p.tables e below (T22.setTop (mkF m 56 #[.val (.int p0), .val (.int p1), .val (.int (p0 &&& (65535 : Int32))), .val (.int ((p0 &&& (65535 : Int32)).toUInt32.toUInt16.toUInt32.toInt32)), .val (.int (1 : Int32))] [(.int (1 : Int32))])) t
          refine XS.goto X22.here hx rfl (pc0 := 56) (pc' := 60) rfl (hb hby at_56) (by decide) (by decide) ?_
          exact kk
        obtain ⟨fs, hr, hrun, hended, hW, hsame⟩ := X22.leave (v := some (.int (1 : Int32))) (fun h => by rw [Bd.returns] at h; cases h)
        refine ⟨_, _, c24 _ ?_, hrun, hended, _, _, rfl, ?_, ⟨_, rfl⟩, hW, hsame.mono (by decide) (by decide)⟩
        · exact retN X22 hx (t := .boolean) Bd.returns (by simp) (hb hby at_60) hr
        · show Q_law Z p0 p1 h0 n0 _ T22.heap _
          rw [eq22]
          exact ⟨rfl, N22⟩
  · have c25 : Goes p e below s₁ (entryFrame m #[(.int p0), (.int p1)] maxLocals) s₁ (mkF m 24 #[.val (.int p0), .val (.int p1), .val (.int (p0 &&& (63 : Int32))), .val (.int ((p0 &&& (63 : Int32)).toUInt32.toUInt16.toUInt32.toInt32)), .unset] [(.int (32 : Int32)), (.int (p0 &&& (63 : Int32)))]) := by
      intro t kk
      refine c10 t ?_
      show Steps p.tables e below (s₁.setTop (mkF m 3 #[.val (.int p0), .val (.int p1), .unset, .unset, .unset] [(.int (p1 &&& (1 : Int32)))])) t
      refine XS.ifNo X0.here hx rfl (hb hby at_3) rfl ((if0 _ _).trans (feq h3).1) ?_
      show Steps p.tables e below (s₁.setTop (mkF m 6 #[.val (.int p0), .val (.int p1), .unset, .unset, .unset] [])) t
      refine XS.iloadN X0.here hx rfl (hb hby at_6) rfl ?_
      show Steps p.tables e below (s₁.setTop (mkF m 7 #[.val (.int p0), .val (.int p1), .unset, .unset, .unset] [(.int p0)])) t
      refine XS.bipush X0.here hx rfl (hb hby at_7) ?_
      show Steps p.tables e below (s₁.setTop (mkF m 9 #[.val (.int p0), .val (.int p1), .unset, .unset, .unset] [(.int (63 : Int32)), (.int p0)])) t
      refine XS.iand X0.here hx rfl (hb hby at_9) rfl ?_
      show Steps p.tables e below (s₁.setTop (mkF m 10 #[.val (.int p0), .val (.int p1), .unset, .unset, .unset] [(.int (p0 &&& (63 : Int32)))])) t
      refine XS.goto X0.here hx rfl (pc0 := 10) (pc' := 17) rfl (hb hby at_10) (by decide) (by decide) ?_
      show Steps p.tables e below (s₁.setTop (mkF m 17 #[.val (.int p0), .val (.int p1), .unset, .unset, .unset] [(.int (p0 &&& (63 : Int32)))])) t
      refine XS.istoreN X0.here hx rfl (hb hby at_17) rfl (l' := #[.val (.int p0), .val (.int p1), .val (.int (p0 &&& (63 : Int32))), .unset, .unset]) rfl ?_
      show Steps p.tables e below (s₁.setTop (mkF m 18 #[.val (.int p0), .val (.int p1), .val (.int (p0 &&& (63 : Int32))), .unset, .unset] [])) t
      refine XS.iloadN X0.here hx rfl (hb hby at_18) rfl ?_
      show Steps p.tables e below (s₁.setTop (mkF m 19 #[.val (.int p0), .val (.int p1), .val (.int (p0 &&& (63 : Int32))), .unset, .unset] [(.int (p0 &&& (63 : Int32)))])) t
      refine XS.i2c X0.here hx rfl (hb hby at_19) rfl ?_
      show Steps p.tables e below (s₁.setTop (mkF m 20 #[.val (.int p0), .val (.int p1), .val (.int (p0 &&& (63 : Int32))), .unset, .unset] [(.int ((p0 &&& (63 : Int32)).toUInt32.toUInt16.toUInt32.toInt32))])) t
      refine XS.istoreN X0.here hx rfl (hb hby at_20) rfl (l' := #[.val (.int p0), .val (.int p1), .val (.int (p0 &&& (63 : Int32))), .val (.int ((p0 &&& (63 : Int32)).toUInt32.toUInt16.toUInt32.toInt32)), .unset]) rfl ?_
      show Steps p.tables e below (s₁.setTop (mkF m 21 #[.val (.int p0), .val (.int p1), .val (.int (p0 &&& (63 : Int32))), .val (.int ((p0 &&& (63 : Int32)).toUInt32.toUInt16.toUInt32.toInt32)), .unset] [])) t
      refine XS.iloadN X0.here hx rfl (hb hby at_21) rfl ?_
      show Steps p.tables e below (s₁.setTop (mkF m 22 #[.val (.int p0), .val (.int p1), .val (.int (p0 &&& (63 : Int32))), .val (.int ((p0 &&& (63 : Int32)).toUInt32.toUInt16.toUInt32.toInt32)), .unset] [(.int (p0 &&& (63 : Int32)))])) t
      refine XS.bipush X0.here hx rfl (hb hby at_22) ?_
      exact kk
    by_cases h24 : (32 : Int32) < (p0 &&& (63 : Int32))
    · have c26 : Goes p e below s₁ (entryFrame m #[(.int p0), (.int p1)] maxLocals) s₁ (mkF m 47 #[.val (.int p0), .val (.int p1), .val (.int (p0 &&& (63 : Int32))), .val (.int ((p0 &&& (63 : Int32)).toUInt32.toUInt16.toUInt32.toInt32)), .val (.int (0 : Int32))] [(.int ((p0 &&& (63 : Int32)).toUInt32.toUInt16.toUInt32.toInt32))]) := by
        intro t kk
        refine c25 t ?_
        show Steps p.tables e below (s₁.setTop (mkF m 24 #[.val (.int p0), .val (.int p1), .val (.int (p0 &&& (63 : Int32))), .val (.int ((p0 &&& (63 : Int32)).toUInt32.toUInt16.toUInt32.toInt32)), .unset] [(.int (32 : Int32)), (.int (p0 &&& (63 : Int32)))])) t
        refine XS.icmpYes X0.here hx rfl (pc0 := 24) (pc' := 43) rfl (hb hby at_24) rfl (tlt h24).2.2.1 (by decide) (by decide) ?_
        show Steps p.tables e below (s₁.setTop (mkF m 43 #[.val (.int p0), .val (.int p1), .val (.int (p0 &&& (63 : Int32))), .val (.int ((p0 &&& (63 : Int32)).toUInt32.toUInt16.toUInt32.toInt32)), .unset] [])) t
        refine XS.iconst X0.here hx rfl (hb hby at_43) ?_
        show Steps p.tables e below (s₁.setTop (mkF m 44 #[.val (.int p0), .val (.int p1), .val (.int (p0 &&& (63 : Int32))), .val (.int ((p0 &&& (63 : Int32)).toUInt32.toUInt16.toUInt32.toInt32)), .unset] [(.int (0 : Int32))])) t
        refine XS.istore X0.here hx rfl (hb hby at_44) rfl (l' := #[.val (.int p0), .val (.int p1), .val (.int (p0 &&& (63 : Int32))), .val (.int ((p0 &&& (63 : Int32)).toUInt32.toUInt16.toUInt32.toInt32)), .val (.int (0 : Int32))]) rfl ?_
        show Steps p.tables e below (s₁.setTop (mkF m 46 #[.val (.int p0), .val (.int p1), .val (.int (p0 &&& (63 : Int32))), .val (.int ((p0 &&& (63 : Int32)).toUInt32.toUInt16.toUInt32.toInt32)), .val (.int (0 : Int32))] [])) t
        refine XS.iloadN X0.here hx rfl (hb hby at_46) rfl ?_
        exact kk
      obtain ⟨_, _, ⟨T27, L27, k27, n27⟩, -, X27, ⟨Lc27, hQ27, l27, y27, z27⟩, st27⟩ := Jvm.LawKit.callS X0 hx (y := site_47) hown (mvT hZ (hw _ (List.mem_of_getElem? (i := 1) rfl))) (mvT hZ (hw _ (List.mem_of_getElem? (i := 2) rfl))) (mvT hZ (hw _ (List.mem_of_getElem? (i := 3) rfl))) (mvT hZ (hw _ (List.mem_of_getElem? (i := 4) rfl))) (by decide) (backOf (W := 0) (rm_ws l Z a0 hw [] ((p0 &&& (63 : Int32)).toUInt32.toUInt16.toUInt32.toInt32) h0 n0 Z0) hZ (hw _ (List.mem_of_getElem? (i := 4) rfl)) (hw _ (List.mem_of_getElem? (i := 3) rfl)) (by decide) (by decide)) (g := (mkF m 47 #[.val (.int p0), .val (.int p1), .val (.int (p0 &&& (63 : Int32))), .val (.int ((p0 &&& (63 : Int32)).toUInt32.toUInt16.toUInt32.toInt32)), .val (.int (0 : Int32))] [(.int ((p0 &&& (63 : Int32)).toUInt32.toUInt16.toUInt32.toInt32))])) rfl (by rw [hml]; rfl) (argsL := [(.int ((p0 &&& (63 : Int32)).toUInt32.toUInt16.toUInt32.toInt32))]) (rest := []) (lenOf pd__C_Z rfl) rfl (by show 2 * 0 + _ ≤ _; exact Nat.le_of_eq rfl) (hb hby at_47) (fun _ _ => ⟨rfl, e0, (by decide : 0 + 0 ≤ _), (by decide : 0 + 0 ≤ _)⟩)
      dsimp only [Pt.U, Pt.locs, Pt.cells, Pt.slots] at X27 l27 y27 z27 st27 hQ27
      subst l27 y27 z27
      obtain ⟨rfl, Nq27, eq27⟩ := hQ27
      have N27 := Fr.app N0 Nq27
      have c28 : Goes p e below s₁ (entryFrame m #[(.int p0), (.int p1)] maxLocals) T27 (mkF m 50 #[.val (.int p0), .val (.int p1), .val (.int (p0 &&& (63 : Int32))), .val (.int ((p0 &&& (63 : Int32)).toUInt32.toUInt16.toUInt32.toInt32)), .val (.int (0 : Int32))] [(.int (own_ws ((p0 &&& (63 : Int32)).toUInt32.toUInt16.toUInt32.toInt32)))]) := fun t kk => c26 t (st27 t kk)
      have c29 : Goes p e below s₁ (entryFrame m #[(.int p0), (.int p1)] maxLocals) T27 (mkF m 60 #[.val (.int p0), .val (.int p1), .val (.int (p0 &&& (63 : Int32))), .val (.int ((p0 &&& (63 : Int32)).toUInt32.toUInt16.toUInt32.toInt32)), .val (.int (0 : Int32))] [(.int (1 : Int32))]) := by
        intro t kk
        refine c28 t ?_
        show Steps p.tables e below (T27.setTop (mkF m 50 #[.val (.int p0), .val (.int p1), .val (.int (p0 &&& (63 : Int32))), .val (.int ((p0 &&& (63 : Int32)).toUInt32.toUInt16.toUInt32.toInt32)), .val (.int (0 : Int32))] [(.int (own_ws ((p0 &&& (63 : Int32)).toUInt32.toUInt16.toUInt32.toInt32)))])) t
        refine XS.iload X27.here hx rfl (hb hby at_50) rfl ?_
        show Steps p.tables e below (T27.setTop (mkF m 52 #[.val (.int p0), .val (.int p1), .val (.int (p0 &&& (63 : Int32))), .val (.int ((p0 &&& (63 : Int32)).toUInt32.toUInt16.toUInt32.toInt32)), .val (.int (0 : Int32))] [(.int (0 : Int32)), (.int (own_ws ((p0 &&& (63 : Int32)).toUInt32.toUInt16.toUInt32.toInt32)))])) t
        refine XS.icmpNo X27.here hx rfl (hb hby at_52) rfl (teq (by rw [own_c (own_r63 p0).1 (own_r63 p0).2]; first | exact own_hi h24 | (rw [own_lo (own_r63 p0).1 h24]; simp only [h36, if_true, if_false]))).2 ?_
        show Steps p.tables e below (T27.setTop (mkF m 55 #[.val (.int p0), .val (.int p1), .val (.int (p0 &&& (63 : Int32))), .val (.int ((p0 &&& (63 : Int32)).toUInt32.toUInt16.toUInt32.toInt32)), .val (.int (0 : Int32))] [])) t
        refine XS.iconst X27.here hx rfl (hb hby at_55) ?_
        show Steps p.tables e below (T27.setTop (mkF m 56 #[.val (.int p0), .val (.int p1), .val (.int (p0 &&& (63 : Int32))), .val (.int ((p0 &&& (63 : Int32)).toUInt32.toUInt16.toUInt32.toInt32)), .val (.int (0 : Int32))] [(.int (1 : Int32))])) t
        refine XS.goto X27.here hx rfl (pc0 := 56) (pc' := 60) rfl (hb hby at_56) (by decide) (by decide) ?_
        exact kk
      obtain ⟨fs, hr, hrun, hended, hW, hsame⟩ := X27.leave (v := some (.int (1 : Int32))) (fun h => by rw [Bd.returns] at h; cases h)
      refine ⟨_, _, c29 _ ?_, hrun, hended, _, _, rfl, ?_, ⟨_, rfl⟩, hW, hsame.mono (by decide) (by decide)⟩
      · exact retN X27 hx (t := .boolean) Bd.returns (by simp) (hb hby at_60) hr
      · show Q_law Z p0 p1 h0 n0 _ T27.heap _
        rw [eq27]
        exact ⟨rfl, N27⟩
    · have c30 : Goes p e below s₁ (entryFrame m #[(.int p0), (.int p1)] maxLocals) s₁ (mkF m 36 #[.val (.int p0), .val (.int p1), .val (.int (p0 &&& (63 : Int32))), .val (.int ((p0 &&& (63 : Int32)).toUInt32.toUInt16.toUInt32.toInt32)), .unset] [(.int (lcmpW (((1 : Int64) <<< ((p0 &&& (63 : Int32)) &&& 0x3f).toInt64) &&& (4294977024 : Int64)) (0 : Int64)))]) := by
        intro t kk
        refine c25 t ?_
        show Steps p.tables e below (s₁.setTop (mkF m 24 #[.val (.int p0), .val (.int p1), .val (.int (p0 &&& (63 : Int32))), .val (.int ((p0 &&& (63 : Int32)).toUInt32.toUInt16.toUInt32.toInt32)), .unset] [(.int (32 : Int32)), (.int (p0 &&& (63 : Int32)))])) t
        refine XS.icmpNo X0.here hx rfl (hb hby at_24) rfl (flt h24).2.2.1 ?_
        show Steps p.tables e below (s₁.setTop (mkF m 27 #[.val (.int p0), .val (.int p1), .val (.int (p0 &&& (63 : Int32))), .val (.int ((p0 &&& (63 : Int32)).toUInt32.toUInt16.toUInt32.toInt32)), .unset] [])) t
        refine XS.lconst X0.here hx rfl (hb hby at_27) ?_
        show Steps p.tables e below (s₁.setTop (mkF m 28 #[.val (.int p0), .val (.int p1), .val (.int (p0 &&& (63 : Int32))), .val (.int ((p0 &&& (63 : Int32)).toUInt32.toUInt16.toUInt32.toInt32)), .unset] [(.long (1 : Int64))])) t
        refine XS.iloadN X0.here hx rfl (hb hby at_28) rfl ?_
        show Steps p.tables e below (s₁.setTop (mkF m 29 #[.val (.int p0), .val (.int p1), .val (.int (p0 &&& (63 : Int32))), .val (.int ((p0 &&& (63 : Int32)).toUInt32.toUInt16.toUInt32.toInt32)), .unset] [(.int (p0 &&& (63 : Int32))), (.long (1 : Int64))])) t
        refine XS.lshl X0.here hx rfl (hb hby at_29) rfl ?_
        show Steps p.tables e below (s₁.setTop (mkF m 30 #[.val (.int p0), .val (.int p1), .val (.int (p0 &&& (63 : Int32))), .val (.int ((p0 &&& (63 : Int32)).toUInt32.toUInt16.toUInt32.toInt32)), .unset] [(.long ((1 : Int64) <<< ((p0 &&& (63 : Int32)) &&& 0x3f).toInt64))])) t
        refine X0.ldc2Long hx hown (mvT hZ (hw _ (List.mem_of_getElem? (i := 0) rfl))) (g := (mkF m 30 #[.val (.int p0), .val (.int p1), .val (.int (p0 &&& (63 : Int32))), .val (.int ((p0 &&& (63 : Int32)).toUInt32.toUInt16.toUInt32.toInt32)), .unset] [(.long ((1 : Int64) <<< ((p0 &&& (63 : Int32)) &&& 0x3f).toInt64))])) rfl (hb hby at_30) _ ?_
        show Steps p.tables e below (s₁.setTop (mkF m 33 #[.val (.int p0), .val (.int p1), .val (.int (p0 &&& (63 : Int32))), .val (.int ((p0 &&& (63 : Int32)).toUInt32.toUInt16.toUInt32.toInt32)), .unset] [(.long (4294977024 : Int64)), (.long ((1 : Int64) <<< ((p0 &&& (63 : Int32)) &&& 0x3f).toInt64))])) t
        refine XS.land X0.here hx rfl (hb hby at_33) rfl ?_
        show Steps p.tables e below (s₁.setTop (mkF m 34 #[.val (.int p0), .val (.int p1), .val (.int (p0 &&& (63 : Int32))), .val (.int ((p0 &&& (63 : Int32)).toUInt32.toUInt16.toUInt32.toInt32)), .unset] [(.long (((1 : Int64) <<< ((p0 &&& (63 : Int32)) &&& 0x3f).toInt64) &&& (4294977024 : Int64)))])) t
        refine XS.lconst X0.here hx rfl (hb hby at_34) ?_
        show Steps p.tables e below (s₁.setTop (mkF m 35 #[.val (.int p0), .val (.int p1), .val (.int (p0 &&& (63 : Int32))), .val (.int ((p0 &&& (63 : Int32)).toUInt32.toUInt16.toUInt32.toInt32)), .unset] [(.long (0 : Int64)), (.long (((1 : Int64) <<< ((p0 &&& (63 : Int32)) &&& 0x3f).toInt64) &&& (4294977024 : Int64)))])) t
        refine XS.lcmp X0.here hx rfl (hb hby at_35) rfl ?_
        exact kk
      by_cases h36 : (lcmpW (((1 : Int64) <<< ((p0 &&& (63 : Int32)) &&& 0x3f).toInt64) &&& (4294977024 : Int64)) (0 : Int64)) = (0 : Int32)
      · have c31 : Goes p e below s₁ (entryFrame m #[(.int p0), (.int p1)] maxLocals) s₁ (mkF m 47 #[.val (.int p0), .val (.int p1), .val (.int (p0 &&& (63 : Int32))), .val (.int ((p0 &&& (63 : Int32)).toUInt32.toUInt16.toUInt32.toInt32)), .val (.int (0 : Int32))] [(.int ((p0 &&& (63 : Int32)).toUInt32.toUInt16.toUInt32.toInt32))]) := by
          intro t kk
          refine c30 t ?_
          show Steps p.tables e below (s₁.setTop (mkF m 36 #[.val (.int p0), .val (.int p1), .val (.int (p0 &&& (63 : Int32))), .val (.int ((p0 &&& (63 : Int32)).toUInt32.toUInt16.toUInt32.toInt32)), .unset] [(.int (lcmpW (((1 : Int64) <<< ((p0 &&& (63 : Int32)) &&& 0x3f).toInt64) &&& (4294977024 : Int64)) (0 : Int64)))])) t
          refine XS.ifYes X0.here hx rfl (pc0 := 36) (pc' := 43) rfl (hb hby at_36) rfl ((if0 _ _).trans (teq h36).1) (by decide) (by decide) ?_
          show Steps p.tables e below (s₁.setTop (mkF m 43 #[.val (.int p0), .val (.int p1), .val (.int (p0 &&& (63 : Int32))), .val (.int ((p0 &&& (63 : Int32)).toUInt32.toUInt16.toUInt32.toInt32)), .unset] [])) t
          refine XS.iconst X0.here hx rfl (hb hby at_43) ?_
          show Steps p.tables e below (s₁.setTop (mkF m 44 #[.val (.int p0), .val (.int p1), .val (.int (p0 &&& (63 : Int32))), .val (.int ((p0 &&& (63 : Int32)).toUInt32.toUInt16.toUInt32.toInt32)), .unset] [(.int (0 : Int32))])) t
          refine XS.istore X0.here hx rfl (hb hby at_44) rfl (l' := #[.val (.int p0), .val (.int p1), .val (.int (p0 &&& (63 : Int32))), .val (.int ((p0 &&& (63 : Int32)).toUInt32.toUInt16.toUInt32.toInt32)), .val (.int (0 : Int32))]) rfl ?_
          show Steps p.tables e below (s₁.setTop (mkF m 46 #[.val (.int p0), .val (.int p1), .val (.int (p0 &&& (63 : Int32))), .val (.int ((p0 &&& (63 : Int32)).toUInt32.toUInt16.toUInt32.toInt32)), .val (.int (0 : Int32))] [])) t
          refine XS.iloadN X0.here hx rfl (hb hby at_46) rfl ?_
          exact kk
        obtain ⟨_, _, ⟨T32, L32, k32, n32⟩, -, X32, ⟨Lc32, hQ32, l32, y32, z32⟩, st32⟩ := Jvm.LawKit.callS X0 hx (y := site_47) hown (mvT hZ (hw _ (List.mem_of_getElem? (i := 1) rfl))) (mvT hZ (hw _ (List.mem_of_getElem? (i := 2) rfl))) (mvT hZ (hw _ (List.mem_of_getElem? (i := 3) rfl))) (mvT hZ (hw _ (List.mem_of_getElem? (i := 4) rfl))) (by decide) (backOf (W := 0) (rm_ws l Z a0 hw [] ((p0 &&& (63 : Int32)).toUInt32.toUInt16.toUInt32.toInt32) h0 n0 Z0) hZ (hw _ (List.mem_of_getElem? (i := 4) rfl)) (hw _ (List.mem_of_getElem? (i := 3) rfl)) (by decide) (by decide)) (g := (mkF m 47 #[.val (.int p0), .val (.int p1), .val (.int (p0 &&& (63 : Int32))), .val (.int ((p0 &&& (63 : Int32)).toUInt32.toUInt16.toUInt32.toInt32)), .val (.int (0 : Int32))] [(.int ((p0 &&& (63 : Int32)).toUInt32.toUInt16.toUInt32.toInt32))])) rfl (by rw [hml]; rfl) (argsL := [(.int ((p0 &&& (63 : Int32)).toUInt32.toUInt16.toUInt32.toInt32))]) (rest := []) (lenOf pd__C_Z rfl) rfl (by show 2 * 0 + _ ≤ _; exact Nat.le_of_eq rfl) (hb hby at_47) (fun _ _ => ⟨rfl, e0, (by decide : 0 + 0 ≤ _), (by decide : 0 + 0 ≤ _)⟩)
        dsimp only [Pt.U, Pt.locs, Pt.cells, Pt.slots] at X32 l32 y32 z32 st32 hQ32
        subst l32 y32 z32
        obtain ⟨rfl, Nq32, eq32⟩ := hQ32
        have N32 := Fr.app N0 Nq32
        have c33 : Goes p e below s₁ (entryFrame m #[(.int p0), (.int p1)] maxLocals) T32 (mkF m 50 #[.val (.int p0), .val (.int p1), .val (.int (p0 &&& (63 : Int32))), .val (.int ((p0 &&& (63 : Int32)).toUInt32.toUInt16.toUInt32.toInt32)), .val (.int (0 : Int32))] [(.int (own_ws ((p0 &&& (63 : Int32)).toUInt32.toUInt16.toUInt32.toInt32)))]) := fun t kk => c31 t (st32 t kk)
        have c34 : Goes p e below s₁ (entryFrame m #[(.int p0), (.int p1)] maxLocals) T32 (mkF m 60 #[.val (.int p0), .val (.int p1), .val (.int (p0 &&& (63 : Int32))), .val (.int ((p0 &&& (63 : Int32)).toUInt32.toUInt16.toUInt32.toInt32)), .val (.int (0 : Int32))] [(.int (1 : Int32))]) := by
          intro t kk
          refine c33 t ?_
          show Steps p.tables e below (T32.setTop (mkF m 50 #[.val (.int p0), .val (.int p1), .val (.int (p0 &&& (63 : Int32))), .val (.int ((p0 &&& (63 : Int32)).toUInt32.toUInt16.toUInt32.toInt32)), .val (.int (0 : Int32))] [(.int (own_ws ((p0 &&& (63 : Int32)).toUInt32.toUInt16.toUInt32.toInt32)))])) t
          refine XS.iload X32.here hx rfl (hb hby at_50) rfl ?_
          show Steps p.tables e below (T32.setTop (mkF m 52 #[.val (.int p0), .val (.int p1), .val (.int (p0 &&& (63 : Int32))), .val (.int ((p0 &&& (63 : Int32)).toUInt32.toUInt16.toUInt32.toInt32)), .val (.int (0 : Int32))] [(.int (0 : Int32)), (.int (own_ws ((p0 &&& (63 : Int32)).toUInt32.toUInt16.toUInt32.toInt32)))])) t
          refine XS.icmpNo X32.here hx rfl (hb hby at_52) rfl (teq (by rw [own_c (own_r63 p0).1 (own_r63 p0).2]; first | exact own_hi h24 | (rw [own_lo (own_r63 p0).1 h24]; simp only [h36, if_true, if_false]))).2 ?_
          show Steps p.tables e below (T32.setTop (mkF m 55 #[.val (.int p0), .val (.int p1), .val (.int (p0 &&& (63 : Int32))), .val (.int ((p0 &&& (63 : Int32)).toUInt32.toUInt16.toUInt32.toInt32)), .val (.int (0 : Int32))] [])) t
          refine XS.iconst X32.here hx rfl (hb hby at_55) ?_
          show Steps p.tables e below (T32.setTop (mkF m 56 #[.val (.int p0), .val (.int p1), .val (.int (p0 &&& (63 : Int32))), .val (.int ((p0 &&& (63 : Int32)).toUInt32.toUInt16.toUInt32.toInt32)), .val (.int (0 : Int32))] [(.int (1 : Int32))])) t
          refine XS.goto X32.here hx rfl (pc0 := 56) (pc' := 60) rfl (hb hby at_56) (by decide) (by decide) ?_
          exact kk
        obtain ⟨fs, hr, hrun, hended, hW, hsame⟩ := X32.leave (v := some (.int (1 : Int32))) (fun h => by rw [Bd.returns] at h; cases h)
        refine ⟨_, _, c34 _ ?_, hrun, hended, _, _, rfl, ?_, ⟨_, rfl⟩, hW, hsame.mono (by decide) (by decide)⟩
        · exact retN X32 hx (t := .boolean) Bd.returns (by simp) (hb hby at_60) hr
        · show Q_law Z p0 p1 h0 n0 _ T32.heap _
          rw [eq32]
          exact ⟨rfl, N32⟩
      · have c35 : Goes p e below s₁ (entryFrame m #[(.int p0), (.int p1)] maxLocals) s₁ (mkF m 47 #[.val (.int p0), .val (.int p1), .val (.int (p0 &&& (63 : Int32))), .val (.int ((p0 &&& (63 : Int32)).toUInt32.toUInt16.toUInt32.toInt32)), .val (.int (1 : Int32))] [(.int ((p0 &&& (63 : Int32)).toUInt32.toUInt16.toUInt32.toInt32))]) := by
          intro t kk
          refine c30 t ?_
          show Steps p.tables e below (s₁.setTop (mkF m 36 #[.val (.int p0), .val (.int p1), .val (.int (p0 &&& (63 : Int32))), .val (.int ((p0 &&& (63 : Int32)).toUInt32.toUInt16.toUInt32.toInt32)), .unset] [(.int (lcmpW (((1 : Int64) <<< ((p0 &&& (63 : Int32)) &&& 0x3f).toInt64) &&& (4294977024 : Int64)) (0 : Int64)))])) t
          refine XS.ifNo X0.here hx rfl (hb hby at_36) rfl ((if0 _ _).trans (feq h36).1) ?_
          show Steps p.tables e below (s₁.setTop (mkF m 39 #[.val (.int p0), .val (.int p1), .val (.int (p0 &&& (63 : Int32))), .val (.int ((p0 &&& (63 : Int32)).toUInt32.toUInt16.toUInt32.toInt32)), .unset] [])) t
          refine XS.iconst X0.here hx rfl (hb hby at_39) ?_
          show Steps p.tables e below (s₁.setTop (mkF m 40 #[.val (.int p0), .val (.int p1), .val (.int (p0 &&& (63 : Int32))), .val (.int ((p0 &&& (63 : Int32)).toUInt32.toUInt16.toUInt32.toInt32)), .unset] [(.int (1 : Int32))])) t
          refine XS.goto X0.here hx rfl (pc0 := 40) (pc' := 44) rfl (hb hby at_40) (by decide) (by decide) ?_
          show Steps p.tables e below (s₁.setTop (mkF m 44 #[.val (.int p0), .val (.int p1), .val (.int (p0 &&& (63 : Int32))), .val (.int ((p0 &&& (63 : Int32)).toUInt32.toUInt16.toUInt32.toInt32)), .unset] [(.int (1 : Int32))])) t
          refine XS.istore X0.here hx rfl (hb hby at_44) rfl (l' := #[.val (.int p0), .val (.int p1), .val (.int (p0 &&& (63 : Int32))), .val (.int ((p0 &&& (63 : Int32)).toUInt32.toUInt16.toUInt32.toInt32)), .val (.int (1 : Int32))]) rfl ?_
          show Steps p.tables e below (s₁.setTop (mkF m 46 #[.val (.int p0), .val (.int p1), .val (.int (p0 &&& (63 : Int32))), .val (.int ((p0 &&& (63 : Int32)).toUInt32.toUInt16.toUInt32.toInt32)), .val (.int (1 : Int32))] [])) t
          refine XS.iloadN X0.here hx rfl (hb hby at_46) rfl ?_
          exact kk
        obtain ⟨_, _, ⟨T36, L36, k36, n36⟩, -, X36, ⟨Lc36, hQ36, l36, y36, z36⟩, st36⟩ := Jvm.LawKit.callS X0 hx (y := site_47) hown (mvT hZ (hw _ (List.mem_of_getElem? (i := 1) rfl))) (mvT hZ (hw _ (List.mem_of_getElem? (i := 2) rfl))) (mvT hZ (hw _ (List.mem_of_getElem? (i := 3) rfl))) (mvT hZ (hw _ (List.mem_of_getElem? (i := 4) rfl))) (by decide) (backOf (W := 0) (rm_ws l Z a0 hw [] ((p0 &&& (63 : Int32)).toUInt32.toUInt16.toUInt32.toInt32) h0 n0 Z0) hZ (hw _ (List.mem_of_getElem? (i := 4) rfl)) (hw _ (List.mem_of_getElem? (i := 3) rfl)) (by decide) (by decide)) (g := (mkF m 47 #[.val (.int p0), .val (.int p1), .val (.int (p0 &&& (63 : Int32))), .val (.int ((p0 &&& (63 : Int32)).toUInt32.toUInt16.toUInt32.toInt32)), .val (.int (1 : Int32))] [(.int ((p0 &&& (63 : Int32)).toUInt32.toUInt16.toUInt32.toInt32))])) rfl (by rw [hml]; rfl) (argsL := [(.int ((p0 &&& (63 : Int32)).toUInt32.toUInt16.toUInt32.toInt32))]) (rest := []) (lenOf pd__C_Z rfl) rfl (by show 2 * 0 + _ ≤ _; exact Nat.le_of_eq rfl) (hb hby at_47) (fun _ _ => ⟨rfl, e0, (by decide : 0 + 0 ≤ _), (by decide : 0 + 0 ≤ _)⟩)
        dsimp only [Pt.U, Pt.locs, Pt.cells, Pt.slots] at X36 l36 y36 z36 st36 hQ36
        subst l36 y36 z36
        obtain ⟨rfl, Nq36, eq36⟩ := hQ36
        have N36 := Fr.app N0 Nq36
        have c37 : Goes p e below s₁ (entryFrame m #[(.int p0), (.int p1)] maxLocals) T36 (mkF m 50 #[.val (.int p0), .val (.int p1), .val (.int (p0 &&& (63 : Int32))), .val (.int ((p0 &&& (63 : Int32)).toUInt32.toUInt16.toUInt32.toInt32)), .val (.int (1 : Int32))] [(.int (own_ws ((p0 &&& (63 : Int32)).toUInt32.toUInt16.toUInt32.toInt32)))]) := fun t kk => c35 t (st36 t kk)
        have c38 : Goes p e below s₁ (entryFrame m #[(.int p0), (.int p1)] maxLocals) T36 (mkF m 60 #[.val (.int p0), .val (.int p1), .val (.int (p0 &&& (63 : Int32))), .val (.int ((p0 &&& (63 : Int32)).toUInt32.toUInt16.toUInt32.toInt32)), .val (.int (1 : Int32))] [(.int (1 : Int32))]) := by
          intro t kk
          refine c37 t ?_
          show Steps p.tables e below (T36.setTop (mkF m 50 #[.val (.int p0), .val (.int p1), .val (.int (p0 &&& (63 : Int32))), .val (.int ((p0 &&& (63 : Int32)).toUInt32.toUInt16.toUInt32.toInt32)), .val (.int (1 : Int32))] [(.int (own_ws ((p0 &&& (63 : Int32)).toUInt32.toUInt16.toUInt32.toInt32)))])) t
          refine XS.iload X36.here hx rfl (hb hby at_50) rfl ?_
          show Steps p.tables e below (T36.setTop (mkF m 52 #[.val (.int p0), .val (.int p1), .val (.int (p0 &&& (63 : Int32))), .val (.int ((p0 &&& (63 : Int32)).toUInt32.toUInt16.toUInt32.toInt32)), .val (.int (1 : Int32))] [(.int (1 : Int32)), (.int (own_ws ((p0 &&& (63 : Int32)).toUInt32.toUInt16.toUInt32.toInt32)))])) t
          refine XS.icmpNo X36.here hx rfl (hb hby at_52) rfl (teq (by rw [own_c (own_r63 p0).1 (own_r63 p0).2]; first | exact own_hi h24 | (rw [own_lo (own_r63 p0).1 h24]; simp only [h36, if_true, if_false]))).2 ?_
          show Steps p.tables e below (T36.setTop (mkF m 55 #[.val (.int p0), .val (.int p1), .val (.int (p0 &&& (63 : Int32))), .val (.int ((p0 &&& (63 : Int32)).toUInt32.toUInt16.toUInt32.toInt32)), .val (.int (1 : Int32))] [])) t
          refine XS.iconst X36.here hx rfl (hb hby at_55) ?_
          show Steps p.tables e below (T36.setTop (mkF m 56 #[.val (.int p0), .val (.int p1), .val (.int (p0 &&& (63 : Int32))), .val (.int ((p0 &&& (63 : Int32)).toUInt32.toUInt16.toUInt32.toInt32)), .val (.int (1 : Int32))] [(.int (1 : Int32))])) t
          refine XS.goto X36.here hx rfl (pc0 := 56) (pc' := 60) rfl (hb hby at_56) (by decide) (by decide) ?_
          exact kk
        obtain ⟨fs, hr, hrun, hended, hW, hsame⟩ := X36.leave (v := some (.int (1 : Int32))) (fun h => by rw [Bd.returns] at h; cases h)
        refine ⟨_, _, c38 _ ?_, hrun, hended, _, _, rfl, ?_, ⟨_, rfl⟩, hW, hsame.mono (by decide) (by decide)⟩
        · exact retN X36 hx (t := .boolean) Bd.returns (by simp) (hb hby at_60) hr
        · show Q_law Z p0 p1 h0 n0 _ T36.heap _
          rw [eq36]
          exact ⟨rfl, N36⟩
set_option maxRecDepth 65536 in
set_option maxHeartbeats 40000000 in
theorem comes_1 {Post : Tables → Env → Array Value → State → Outcome → State → Prop} (hpost : ∀ tb e args s v u, (limb_1_1.after args s (.returned v) u = true ∧ limb_1_2.after args s (.returned v) u = true ∧ True) → FrameEnd s (.returned v) u (Jvm.fieldLocs frame_1_writes args s ++ Jvm.arrayLocs frame_1_arrays args s ++ Jvm.staticLocs frame_1_statics s) 0 0 → Post tb e args s (.returned v) u) :
    ArmFor flags0 classFile x code maxLocals ret World_1 tables_1 room_1 Calls_1 rest_1 Pre_1 Post := by
  intro l hfl _ _ p e ha hc hk s m args below hf hA hF happ hP
  obtain ⟨hcalls, hrest, hpre⟩ := hP
  obtain ⟨-, -, -, hnamed, -, -, -, hat⟩ := (Spec.applies_iff hf).mp happ
  obtain ⟨hg, hn⟩ := and_e (Cond.before_iff.mp (show (Jvm.Cond.and given_1 narrow_1).before args s = true from hpre))
  obtain ⟨gg1, gg2⟩ := and_e hg
  obtain ⟨gg3, gg4⟩ := and_e gg2
  obtain ⟨w0, w1, rfl⟩ : ∃ w0 w1 : Value, args = #[w0, w1] := by
    have hs : args.size = 2 := by simpa [Cond.value, given_1] using gg1
    obtain ⟨L⟩ := args
    match L, hs with
    | [w0, w1], _ => exact ⟨w0, w1, rfl⟩
  have hw := fun d (hd : d ∈ tables_1) => atoms_spec (ws := Jvm.Cond.code x code maxLocals ret :: tables_1) hat d (List.mem_cons_of_mem _ hd)
  have hfit : Fit s := fun {y c} hc i hi => by
    obtain ⟨ha, rfl⟩ := Array.getElem?_eq_some_iff.mp hc
    have q := List.all_eq_true.mp ((Array.all_eq_true_iff_forall_mem.mp hF) _ (Array.getElem_mem ha)) i (List.mem_range.mpr hi)
    simpa [Array.getElem?_eq_getElem hi] using q
  obtain ⟨i0, ei0⟩ := is_v gg3
  obtain rfl : w0 = (.int i0) := Option.some.inj ei0
  obtain ⟨i1, ei1⟩ := is_v gg4
  obtain rfl : w1 = (.int i1) := Option.some.inj ei1
  obtain ⟨n, o, h1, h2, h3, _, L, rfl, ⟨rfl, N⟩, hq⟩ := rm_law l s _ hw tables_1 i0 i1 s.heap s.heap.size (Nat.le_refl _)  p e ha hc hk s m _ below hf ((Spec.applies_iff_loose hf).mp happ).1 ⟨rfl, State.Warmed39.refl s, rfl⟩ trivial
  refine ⟨n, _, h1, h2, h3, hpost _ _ _ _ _ _ ⟨Cond.after_iff.mpr rfl, Cond.after_iff.mpr (eq_i res_at (Term.int_eval (1)) rfl), trivial⟩ ⟨hq.1, hq.2.1, (hq.2.2.sift fun y hy => Or.inr (N y hy)).mono (by decide) (by decide)⟩⟩
theorem main_1_1 : Claimed_1_1 := comes_1 fun _ _ _ _ _ _ h hF => ⟨h.1, hF⟩
theorem main_1_2 : Claimed_1_2 := comes_1 fun _ _ _ _ _ _ h hF => ⟨h.2.1, hF⟩
end Jvm.Pilot.@@N@@
namespace Jvm.Pilot.@@N@@
open Jvm Jvm.ClassFile Sem Op Lib Jvm.Free Jvm.Stand Jvm.Pilot.@@N@@.Jvm.D
/-! MADE BY PROGRAM (witnessworld.py) out of the Statement's table words and the real class files: 9 classes; the members and pool entries that the words name. The judged class is class 1, her method 1. -/
namespace start1
open Jvm.ClassFile
def u (s : String) : CpInfo := .utf8 (stringToUtf16 s)
/-- a pool by its gaps: so many unusable entries, then the entry; so many at the end -/
def gap : Nat → List CpInfo → List CpInfo
  | 0, r => r
  | n + 1, r => .unusable :: gap n r
def poolList (es : List (Nat × CpInfo)) (last : Nat) : List CpInfo := es.foldr (fun e r => gap e.1 (e.2 :: r)) (gap last [])
def pool (es : List (Nat × CpInfo)) (last : Nat) : Array CpInfo := ⟨poolList es last⟩
def fileOf (pool : Array CpInfo) (this : Nat) (attrs : Array Attribute := #[]) (ms : Array MethodInfo := #[]) (fl : Nat := 33) (sup : Nat := 0) (ifs : Array Nat := #[]) (fds : Array FieldInfo := #[]) : ClassFile where
  minorVersion := 0
  majorVersion := 65
  constantPool := pool
  accessFlags := fl
  thisClass := this
  superClass := sup
  interfaces := ifs
  fields := fds
  methods := ms
  attributes := attrs
def plain (name : String) (sup : Option ClassId) : Class where
  name := name
  kind := .ordinary
  loader := none
  accessFlags := 33
  super := sup
  interfaces := #[]
  cf := none
  fields := #[]
  methods := #[]
  instanceTypes := #[]
  staticTypes := #[]
  resolved := #[]
  callSites := []
  init := .initialized
  statics := none
  mirror := none

def pool0 : Array CpInfo := pool [(5, u "<init>"), (0, u "()V"), (1, .class_ 10), (1, u "java/lang/Object")] 113

def k0m0 : Method := { name := "<init>", desc := "()V", sig := { parameters := [], returnType := none }, accessFlags := 1, code := none }
/-- java/lang/Object -/
def k0 : Class := { plain "java/lang/Object" none with
  accessFlags := 33
  interfaces := #[]
  cf := some (fileOf pool0 8 #[] #[{ accessFlags := 1, nameIndex := 5, descriptorIndex := 6, attributes := #[] }] 33 0 #[] #[])
  fields := #[]
  methods := #[k0m0]
  instanceTypes := #[]
  staticTypes := #[]
  resolved := Array.replicate 124 none
  statics := none }

def pool1 : Array CpInfo := pool [(2, .class_ 4), (1, u "java/lang/Object"), (0, u "<init>"), (0, u "()V"), (0, .integer 65535), (0, .class_ 9), (0, u x.cls), (0, .long 4294977024), (1, .methodref 13 14), (0, .class_ 15), (0, .nameAndType 16 17), (0, u site_47.cls), (0, u "isWhitespace"), (0, u "(C)Z"), (0, u "WHITE_MASK"), (0, u "J"), (3, u "law"), (0, u "(II)Z")] 3

def k1m0 : Method := { name := "<init>", desc := "()V", sig := { parameters := [], returnType := none }, accessFlags := 1, code := none }
def k1c1 : Code := { maxStack := 4, maxLocals := 5, code := code, exceptionTable := #[], attributes := #[] }
def k1m1 : Method := { name := "law", desc := "(II)Z", sig := { parameters := [.int, .int], returnType := some .boolean }, accessFlags := 9, code := some k1c1 }
def k1 : Class := { plain x.cls (some 0) with
  accessFlags := 49
  interfaces := #[]
  cf := some (fileOf pool1 8 #[] #[{ accessFlags := 1, nameIndex := 5, descriptorIndex := 6, attributes := #[] }, { accessFlags := 9, nameIndex := 23, descriptorIndex := 24, attributes := #[] }] 49 2 #[] #[{ accessFlags := 26, nameIndex := 18, descriptorIndex := 19, attributes := #[] }])
  fields := #[{ name := "WHITE_MASK", type := .long, accessFlags := 26, slot := 0, constantValue := 0 }]
  methods := #[k1m0, k1m1]
  instanceTypes := #[]
  staticTypes := #[.long]
  resolved := Array.replicate 28 none
  statics := none }

def pool2 : Array CpInfo := pool [(2, .class_ 4), (1, u "java/lang/Object"), (3, .class_ 10), (1, u site_47.cls), (4, u "text"), (0, u "Ljava/lang/String;"), (2, u "cutShort"), (2, u "notWellFormed"), (62, u "at"), (0, u "I"), (21, u "(C)Z"), (4, u "isWhitespace")] 14

def k2c0 : Code := { maxStack := 2, maxLocals := 1, code := prog_8_method_12_code, exceptionTable := #[], attributes := #[] }
def k2m0 : Method := { name := "isWhitespace", desc := "(C)Z", sig := { parameters := [.char], returnType := some .boolean }, accessFlags := 8, code := some k2c0 }
def k2 : Class := { plain site_47.cls (some 0) with
  accessFlags := 1056
  interfaces := #[]
  cf := some (fileOf pool2 8 #[] #[{ accessFlags := 8, nameIndex := 113, descriptorIndex := 108, attributes := #[] }] 1056 2 #[] #[{ accessFlags := 16, nameIndex := 15, descriptorIndex := 16, attributes := #[] }, { accessFlags := 0, nameIndex := 85, descriptorIndex := 86, attributes := #[] }, { accessFlags := 18, nameIndex := 19, descriptorIndex := 16, attributes := #[] }, { accessFlags := 18, nameIndex := 22, descriptorIndex := 16, attributes := #[] }])
  fields := #[{ name := "text", type := (.object "java/lang/String"), accessFlags := 16, slot := 0, constantValue := 0 }, { name := "at", type := .int, accessFlags := 0, slot := 1, constantValue := 0 }, { name := "cutShort", type := (.object "java/lang/String"), accessFlags := 18, slot := 2, constantValue := 0 }, { name := "notWellFormed", type := (.object "java/lang/String"), accessFlags := 18, slot := 3, constantValue := 0 }]
  methods := #[k2m0]
  instanceTypes := #[(.object "java/lang/String"), .int, (.object "java/lang/String"), (.object "java/lang/String")]
  staticTypes := #[]
  resolved := Array.replicate 128 none
  statics := none }

def pool3 : Array CpInfo := pool [(1, u "java/lang/Cloneable"), (0, .class_ 1), (0, u "java/lang/Object"), (0, .class_ 3)] 3

/-- java/lang/Cloneable -/
def k3 : Class := { plain "java/lang/Cloneable" (some 0) with
  accessFlags := 1537
  interfaces := #[]
  cf := some (fileOf pool3 2 #[] #[] 1537 4 #[] #[])
  fields := #[]
  methods := #[]
  instanceTypes := #[]
  staticTypes := #[]
  resolved := Array.replicate 8 none
  statics := none }

def pool4 : Array CpInfo := pool [(1, u "java/io/Serializable"), (0, .class_ 1), (0, u "java/lang/Object"), (0, .class_ 3)] 3

/-- java/io/Serializable -/
def k4 : Class := { plain "java/io/Serializable" (some 0) with
  accessFlags := 1537
  interfaces := #[]
  cf := some (fileOf pool4 2 #[] #[] 1537 4 #[] #[])
  fields := #[]
  methods := #[]
  instanceTypes := #[]
  staticTypes := #[]
  resolved := Array.replicate 8 none
  statics := none }

/-- the primitive byte -/
def k5 : Class := { plain "byte" none with kind := .primitive 'B', accessFlags := 0x411 }
/-- [B -/
def k6 : Class := { plain "[B" (some 0) with kind := .array 5 .byte, interfaces := #[3, 4], accessFlags := 1041 }

/-- the primitive int -/
def k7 : Class := { plain "int" none with kind := .primitive 'I', accessFlags := 0x411 }
/-- [I -/
def k8 : Class := { plain "[I" (some 0) with kind := .array 7 .int, interfaces := #[3, 4], accessFlags := 1041 }

def heap : Heap := #[]
def classes : Array Class := #[k0, k1, k2, k3, k4, k5, k6, k7, k8]
def interned : List (Array UInt16 × Addr) := []
def slotsUsed : Nat := 0
def theMethod : MethodId := ⟨1, 1⟩
def args0 : Array Value := #[.int 9, .int 1]
def aboutOver (below : List Frame) : State where
  vm := { classes := classes, interned := interned.toArray }
  heap := heap
  slotsUsed := slotsUsed
  threads := #[{ frames := .invoking theMethod args0 :: below }]
def below0 : List Frame := [.native { method := ⟨0, 0⟩, args := #[] }]
def about1 : State := aboutOver below0
def p0 : Program := .bare "" "" ""
def e0 : Env := launch0.env 0 0 0
theorem w_frames : about1.frames = Frame.invoking theMethod args0 :: below0 := rfl
set_option maxRecDepth 65536 in
theorem w_args : argsFit about1.vm theMethod args0 = true := by decide +kernel
set_option maxRecDepth 65536 in
theorem w_heap : heapFits about1 = true := by decide +kernel
set_option maxRecDepth 65536 in
theorem w_runnable : about1.curStatus? = some .runnable := by decide +kernel
set_option maxRecDepth 65536 in
theorem w_alone : about1.alone = true := by decide +kernel
set_option maxRecDepth 65536 in
theorem w_named : about1.methodNamed? x = some theMethod := by decide +kernel
set_option maxRecDepth 65536 in
theorem w_hears : about1.hears theMethod below0 = true := by decide +kernel
set_option maxRecDepth 65536 in
theorem w_ripe : about1.ripe theMethod args0 below0 = true := by decide +kernel
theorem w_running : about1.status = .running := rfl
set_option maxRecDepth 65536 in
theorem w_room : about1.hasRoom e0.platform room_1 = true :=
  launch0.hasRoom_least _ room_1 (by decide +kernel) (by decide +kernel) (by decide +kernel) (by decide +kernel) (by decide +kernel) (by decide +kernel)
theorem allAtoms_all (ts : List Jvm.Cond) (a : Array Jvm.Value) (st : Jvm.State) : (allAtoms ts).before a st = ts.all (fun c => c.before a st) := by
  induction ts with
  | nil => rfl
  | cons c t ih =>
    show (Jvm.Cond.and c (allAtoms t)).before a st = _
    rw [Jvm.Cond.before_and, ih, List.all_cons]
def words1 : List Jvm.Cond := Jvm.Cond.code x code maxLocals ret :: tables_1
/-- a 'code' word, met by the world's own term for the bytes: nothing is compared byte by byte -/
theorem code_word {y : MethodName} {bytes : ByteArray} {mx : Nat} {rt : Option FieldType} {a : Array Value} {s : State} {m : MethodId} {meth : Method} {c : Code} (h1 : s.methodNamed? y = some m) (h2 : s.vm.method? m = some meth) (h3 : meth.code = some c) (h4 : c.code = bytes)
    (h5 : (c.maxLocals == mx && c.exceptionTable.isEmpty && decide (c.maxStack ≤ mostOperands) && decide (meth.sig.returnType = rt) && !meth.locks && decide (parseMethodDescriptor y.desc = some meth.sig)) = true) : (Jvm.Cond.code y bytes mx rt).before a s = true := by
  simp only [Bool.and_eq_true, beq_iff_eq, Bool.not_eq_true', decide_eq_true_eq] at h5
  obtain ⟨⟨⟨⟨⟨g1, g2⟩, g3⟩, g4⟩, g5⟩, g6⟩ := h5
  simp [Cond.before, Cond.holds, Cond.value, h1, h2, h3, h4, g1, g2, g3, g4, g5, g6]
def isCode : Jvm.Cond → Bool
  | .code _ _ _ _ => true
  | _ => false
theorem all_split {L : List Jvm.Cond} {P : Jvm.Cond → Bool} (h1 : L.all (fun c => isCode c || P c) = true) (h2 : ∀ c ∈ L.filter isCode, P c = true) : L.all P = true := by
  refine List.all_eq_true.mpr fun c hc => ?_
  have h := List.all_eq_true.mp h1 c hc
  rcases Bool.eq_false_or_eq_true (isCode c) with hi | hi
  · exact h2 c (List.mem_filter.mpr ⟨hc, hi⟩)
  · simpa [hi] using h
set_option maxRecDepth 65536 in
theorem w_c0 : (Jvm.Cond.code x code maxLocals ret).before args0 about1 = true := code_word (m := ⟨1, 1⟩) (meth := k1m1) (c := k1c1) (by decide +kernel) rfl rfl rfl (by decide +kernel)
set_option maxRecDepth 65536 in
theorem w_c1 : (Jvm.Cond.code ({ cls := site_47.cls, name := "isWhitespace", desc := "(C)Z" } : Jvm.MethodName) prog_8_method_12_code (1 : Nat) (Option.some Jvm.ClassFile.FieldType.boolean)).before args0 about1 = true := code_word (m := ⟨2, 0⟩) (meth := k2m0) (c := k2c0) (by decide +kernel) rfl rfl rfl (by decide +kernel)
def codes1 : List Jvm.Cond := [Jvm.Cond.code x code maxLocals ret, Jvm.Cond.code ({ cls := site_47.cls, name := "isWhitespace", desc := "(C)Z" } : Jvm.MethodName) prog_8_method_12_code (1 : Nat) (Option.some Jvm.ClassFile.FieldType.boolean)]
set_option maxRecDepth 65536 in
theorem codes_eq : words1.filter isCode = codes1 := rfl
theorem w_codes : ∀ c ∈ words1.filter isCode, c.before args0 about1 = true := by
  rw [codes_eq]
  intro c hc
  simp only [codes1, List.mem_cons, List.not_mem_nil, or_false] at hc
  rcases hc with rfl | rfl
  · exact w_c0
  · exact w_c1
set_option maxRecDepth 65536 in
theorem w_t1 : words1.all (fun c => isCode c || c.before args0 about1) = true := by decide +kernel
theorem w_tables : (allAtoms (Jvm.Cond.code x code maxLocals ret :: tables_1)).before args0 about1 = true := by
  rw [allAtoms_all]
  show words1.all (fun c => c.before args0 about1) = true
  refine all_split ?_ w_codes
  rw [w_t1]
set_option maxRecDepth 65536 in
theorem w_case : (Jvm.Cond.and given_1 narrow_1).before args0 about1 = true := by decide +kernel
theorem w_applies : (headSpec (Jvm.Cond.code x code maxLocals ret :: tables_1) room_1).applies x e0.platform about1 = true :=
  (Spec.applies_iff w_frames).mpr ⟨w_running, w_runnable, w_alone, w_named, w_hears, w_ripe, w_room, w_tables⟩
theorem atStart : AtStart classFile x code maxLocals ret World_1 tables_1 room_1 Calls_1 rest_1 Pre_1 launch0 p0 e0 about1 theMethod args0 below0 :=
  ⟨lists_1, trivial, launch0.admits_env _ _ _, launch0.least_env, fairChoices_fair.cas, fairChoices_fair.clock, w_frames, w_args, w_heap, w_applies, trivial, trivial, w_case⟩
end start1
theorem witness_1 : WitnessClaimed_1 := ⟨start1.p0, start1.e0, start1.about1, start1.theMethod, start1.args0, start1.below0, start1.atStart⟩
end Jvm.Pilot.@@N@@
