import JvmDerived
import JvmDerived.Pilot.@@N@@Statement
import JvmDerived.Pilot.@@N@@Code
set_option linter.unusedVariables false
set_option linter.unusedSimpArgs false
namespace Jvm.RoadKit
open Sem ClassFile Op Lib Jvm.Stand Jvm.Free Jvm.LawKit
section New
variable {p : Program} {l : Launch} {e : Env} {R : Room} {s : State} {m : MethodId} {args : Array Value} {below : List Frame} {meth : Method} {c : Code} {T : State} {locs : List Loc} {cells slots : Nat}
theorem retI (X : Stand p l e R s m args below meth c T locs cells slots) (hx : p.tables.exec = Jvm.exec) {pc : Nat} {Ls : Array Slot} {z : Int32} {rest : List Value} (hret : meth.sig.returnType = some .int) (hd : decode c.code pc = .ok (.ireturn, 1)) {fs : List Frame}
    (hl : ∀ (f : JFrame) (acts : List Action), f.method = m → f.locked = none → f.entered = [] → (doReturn e (T.setTop f) acts (some (.int z))).1 = T.setFrames fs) : Steps p.tables e below (T.setTop (mkF m pc Ls (.int z :: rest))) (T.setFrames fs) := by
  have hm' : T.vm.method? m = some meth := X.method'
  have hn : narrow .int (.int z) = .int z := rfl
  show Steps p.tables e below (T.setTop { method := m, pc := pc, locals := Ls, stack := _ :: rest, locked := none }) _
  jvm_step X.here [X.here.top, hx, hd, hm', hret, hn]
  first | (intro acts; rw [hl _ acts rfl rfl rfl]) | rw [hl _ _ rfl rfl rfl]
  exact Steps.refl _
end New
end Jvm.RoadKit

namespace Jvm.Pilot.@@N@@
open Jvm Jvm.ClassFile Sem Op Lib Jvm.Free Jvm.Stand Jvm.LawKit Jvm.RoadKit Bundle Jvm.Pilot.@@N@@.Jvm.D


def own_key (Z : State) (h : Heap) (x : Value) (k : Nat) : Prop := (k = 0 ∧ x = .null) ∨ (k ≠ 0 ∧ ∃ (a : Addr) (kc : ClassId) (z : Int32) (vs : List Value) (d : Value), x = .ref a ∧ Arv Z h a kc .byte z vs d ∧ (k = 2 ↔ (0 : Int32) < z))
theorem own_ykeep {Z : State} {h h' : Heap} {x : Value} {k : Nat} (K : own_key Z h x k) (q : Keep h h' []) : own_key Z h' x k :=
  K.imp id fun ⟨h0, a, kc, z, vs, d, e, A, r⟩ => ⟨h0, a, kc, z, vs, d, e, A.keep q nin0, r⟩
theorem own_yref {Z : State} {h : Heap} {x : Value} {k : Nat} (K : own_key Z h x k) : x.isRef = true := by
  rcases K with ⟨-, rfl⟩ | ⟨-, a, _, _, _, _, rfl, -⟩ <;> rfl
theorem own_cat {x : Value} (h : x.isRef = true) : x.category = 1 := by
  rcases ref_cases h with rfl | ⟨_, rfl⟩ <;> rfl
theorem own_ynull {Z : State} {h : Heap} {x : Value} {k : Nat} (K : own_key Z h x k) (h0 : k = 0) : x = .null := by
  rcases K with ⟨-, e⟩ | ⟨q, -⟩
  · exact e
  · exact absurd h0 q
theorem own_yobj {Z : State} {h : Heap} {x : Value} {k : Nat} (K : own_key Z h x k) (h0 : ¬ k = 0) : ∃ a, x = .ref a := by
  rcases K with ⟨q, -⟩ | ⟨-, a, _, _, _, _, e, -⟩
  · exact absurd q h0
  · exact ⟨a, e⟩
def own_ka (x1 : Value) (k1 : Nat) (x2 : Value) (k2 : Nat) : Value := if k1 = 2 then x1 else if k2 = 0 then x1 else x2
def own_kk (k1 k2 : Nat) : Nat := if k1 = 2 then k1 else if k2 = 0 then k1 else k2
def own_full (k : Nat) : Int32 := if k = 2 then 1 else 0
theorem own_yka {Z : State} {h : Heap} {x1 x2 : Value} {k1 k2 : Nat} (K1 : own_key Z h x1 k1) (K2 : own_key Z h x2 k2) : own_key Z h (own_ka x1 k1 x2 k2) (own_kk k1 k2) := by
  unfold own_ka own_kk
  split
  · exact K1
  · split
    · exact K1
    · exact K2
theorem own_f0 {k : Nat} : own_full k = 0 ↔ ¬ k = 2 := by
  unfold own_full
  split <;> simp_all
theorem own_ka1 {x1 x2 : Value} {k1 k2 : Nat} (h : k1 = 2) : own_ka x1 k1 x2 k2 = x1 := if_pos h
theorem own_kk1 {k1 k2 : Nat} (h : k1 = 2) : own_kk k1 k2 = 2 := (if_pos h).trans h
theorem own_ka2 {x1 x2 : Value} {k1 k2 : Nat} (h : ¬ k1 = 2) (h2 : ¬ k2 = 0) : own_ka x1 k1 x2 k2 = x2 := (if_neg h).trans (if_neg h2)
theorem own_kk2 {k1 k2 : Nat} (h : ¬ k1 = 2) (h2 : ¬ k2 = 0) : own_kk k1 k2 = k2 := (if_neg h).trans (if_neg h2)
theorem own_ka3 {x1 x2 : Value} {k1 k2 : Nat} (h2 : k2 = 0) : own_ka x1 k1 x2 k2 = x1 := by unfold own_ka; split <;> simp [h2]
theorem own_kk3 {k1 k2 : Nat} (h2 : k2 = 0) : own_kk k1 k2 = k1 := by unfold own_kk; split <;> simp [h2]
theorem own_kkn {k1 k2 : Nat} (h : ¬ k1 = 2) (h2 : ¬ k2 = 2) : ¬ own_kk k1 k2 = 2 := by
  unfold own_kk
  repeat' split
  all_goals assumption
theorem own_l1 {a b c d : Value} {ka kb kc kd : Nat} (h : ka = 2) : a = own_ka (own_ka (own_ka a ka b kb) (own_kk ka kb) c kc) (own_kk (own_kk ka kb) kc) d kd := by
  rw [own_ka1 (own_kk1 (own_kk1 h)), own_ka1 (own_kk1 h), own_ka1 h]
theorem own_l2 {a b c d : Value} {ka kb kc kd : Nat} (h : ¬ ka = 2) (h1 : kb = 2) : b = own_ka (own_ka (own_ka a ka b kb) (own_kk ka kb) c kc) (own_kk (own_kk ka kb) kc) d kd := by
  have z : ¬ kb = 0 := by omega
  have q : own_kk ka kb = 2 := (own_kk2 h z).trans h1
  rw [own_ka1 (own_kk1 q), own_ka1 q, own_ka2 h z]
theorem own_l3 {a b c d : Value} {ka kb kc kd : Nat} (h : ¬ ka = 2) (h1 : ¬ kb = 2) (h2 : kc = 2) : c = own_ka (own_ka (own_ka a ka b kb) (own_kk ka kb) c kc) (own_kk (own_kk ka kb) kc) d kd := by
  have z : ¬ kc = 0 := by omega
  have q : own_kk (own_kk ka kb) kc = 2 := (own_kk2 (own_kkn h h1) z).trans h2
  rw [own_ka1 q, own_ka2 (own_kkn h h1) z]
theorem own_l4 {a b c d : Value} {ka kb kc kd : Nat} (h : ¬ ka = 2) (h1 : ¬ kb = 2) (h2 : ¬ kc = 2) (h3 : ¬ kd = 0) : d = own_ka (own_ka (own_ka a ka b kb) (own_kk ka kb) c kc) (own_kk (own_kk ka kb) kc) d kd := by
  rw [own_ka2 (own_kkn (own_kkn h h1) h2) h3]
theorem own_l5 {a b c d : Value} {ka kb kc kd : Nat} (h : ¬ ka = 2) (h1 : ¬ kb = 2) (h2 : ¬ kc = 0) (h3 : kd = 0) : c = own_ka (own_ka (own_ka a ka b kb) (own_kk ka kb) c kc) (own_kk (own_kk ka kb) kc) d kd := by
  rw [own_ka3 h3, own_ka2 (own_kkn h h1) h2]
theorem own_l6 {a b c d : Value} {ka kb kc kd : Nat} (h : ¬ ka = 2) (h1 : ¬ kb = 0) (h2 : kc = 0) (h3 : kd = 0) : b = own_ka (own_ka (own_ka a ka b kb) (own_kk ka kb) c kc) (own_kk (own_kk ka kb) kc) d kd := by
  rw [own_ka3 h3, own_ka3 h2, own_ka2 h h1]
theorem own_l7 {a b c d : Value} {ka kb kc kd : Nat} (h1 : kb = 0) (h2 : kc = 0) (h3 : kd = 0) : a = own_ka (own_ka (own_ka a ka b kb) (own_kk ka kb) c kc) (own_kk (own_kk ka kb) kc) d kd := by
  rw [own_ka3 h3, own_ka3 h2, own_ka3 h1]
theorem own_elem {Z : State} {h : Heap} {a : Addr} {k : ClassId} {z : Int32} {vs : List Value} {d : Value} {cl : Cell} (A : Arr Z h a cl .byte) (S : cl.slots.size = z.toNatClampNeg) (H : Has cl vs d) (G : ∀ i, i < cl.slots.size → fits .byte (vs.getD i d) = true) {j : Int32} (hj : ¬ (j < 0 ∨ cl.slots.size ≤ j.toNatClampNeg)) : ∃ y : Int32, cl.slots[j.toNatClampNeg]? = some (.int y) := by
  have lt : j.toNatClampNeg < cl.slots.size := Nat.lt_of_not_le fun q => hj (Or.inr q)
  obtain ⟨y, e⟩ := fit_I (G _ lt) (by simp)
  exact ⟨y, by rw [H _ lt, e]⟩

theorem d1_0 : decode method_2_code 0 = .ok (.iload_n 0, 1) := by decide +kernel
theorem d1_1 : decode method_2_code 1 = .ok (.iconst 3, 1) := by decide +kernel
theorem d1_2 : decode method_2_code 2 = .ok (.iand, 1) := by decide +kernel
theorem d1_3 : decode method_2_code 3 = .ok (.istore_n 1, 1) := by decide +kernel
theorem d1_4 : decode method_2_code 4 = .ok (.iload_n 1, 1) := by decide +kernel
theorem d1_5 : decode method_2_code 5 = .ok (.ifCond .ne 5, 3) := by decide +kernel
theorem d1_8 : decode method_2_code 8 = .ok (.aconst_null, 1) := by decide +kernel
theorem d1_9 : decode method_2_code 9 = .ok (.areturn, 1) := by decide +kernel
theorem d1_10 : decode method_2_code 10 = .ok (.iload_n 1, 1) := by decide +kernel
theorem d1_11 : decode method_2_code 11 = .ok (.iconst 1, 1) := by decide +kernel
theorem d1_12 : decode method_2_code 12 = .ok (.if_icmp .ne 7, 3) := by decide +kernel
theorem d1_15 : decode method_2_code 15 = .ok (.iconst 0, 1) := by decide +kernel
theorem d1_16 : decode method_2_code 16 = .ok (.newarray .byte, 2) := by decide +kernel
theorem d1_18 : decode method_2_code 18 = .ok (.areturn, 1) := by decide +kernel
theorem d1_19 : decode method_2_code 19 = .ok (.iload_n 1, 1) := by decide +kernel
theorem d1_20 : decode method_2_code 20 = .ok (.iconst 2, 1) := by decide +kernel
theorem d1_21 : decode method_2_code 21 = .ok (.if_icmp .ne 14, 3) := by decide +kernel
theorem d1_24 : decode method_2_code 24 = .ok (.iconst 1, 1) := by decide +kernel
theorem d1_25 : decode method_2_code 25 = .ok (.newarray .byte, 2) := by decide +kernel
theorem d1_27 : decode method_2_code 27 = .ok (.dup, 1) := by decide +kernel
theorem d1_28 : decode method_2_code 28 = .ok (.iconst 0, 1) := by decide +kernel
theorem d1_29 : decode method_2_code 29 = .ok (.iload_n 0, 1) := by decide +kernel
theorem d1_30 : decode method_2_code 30 = .ok (.iconst 2, 1) := by decide +kernel
theorem d1_31 : decode method_2_code 31 = .ok (.iushr, 1) := by decide +kernel
theorem d1_32 : decode method_2_code 32 = .ok (.i2b, 1) := by decide +kernel
theorem d1_33 : decode method_2_code 33 = .ok (.bastore, 1) := by decide +kernel
theorem d1_34 : decode method_2_code 34 = .ok (.areturn, 1) := by decide +kernel
theorem d1_35 : decode method_2_code 35 = .ok (.iconst 2, 1) := by decide +kernel
theorem d1_36 : decode method_2_code 36 = .ok (.newarray .byte, 2) := by decide +kernel
theorem d1_38 : decode method_2_code 38 = .ok (.dup, 1) := by decide +kernel
theorem d1_39 : decode method_2_code 39 = .ok (.iconst 0, 1) := by decide +kernel
theorem d1_40 : decode method_2_code 40 = .ok (.iload_n 0, 1) := by decide +kernel
theorem d1_41 : decode method_2_code 41 = .ok (.iconst 2, 1) := by decide +kernel
theorem d1_42 : decode method_2_code 42 = .ok (.iushr, 1) := by decide +kernel
theorem d1_43 : decode method_2_code 43 = .ok (.i2b, 1) := by decide +kernel
theorem d1_44 : decode method_2_code 44 = .ok (.bastore, 1) := by decide +kernel
theorem d1_45 : decode method_2_code 45 = .ok (.dup, 1) := by decide +kernel
theorem d1_46 : decode method_2_code 46 = .ok (.iconst 1, 1) := by decide +kernel
theorem d1_47 : decode method_2_code 47 = .ok (.iload_n 0, 1) := by decide +kernel
theorem d1_48 : decode method_2_code 48 = .ok (.bipush 10, 2) := by decide +kernel
theorem d1_50 : decode method_2_code 50 = .ok (.iushr, 1) := by decide +kernel
theorem d1_51 : decode method_2_code 51 = .ok (.i2b, 1) := by decide +kernel
theorem d1_52 : decode method_2_code 52 = .ok (.bastore, 1) := by decide +kernel
theorem d1_53 : decode method_2_code 53 = .ok (.areturn, 1) := by decide +kernel
theorem pn_1 : plainName "com/example/ordered_ledger_store/orderedledgerstore/storage/RecordKindKeyAfterPinLaw" = true := by first | (simp [plainName, overriddenIn]; done) | decide +kernel
theorem ef_make (m : MethodId) (x0 : Int32) : entryFrame m #[(.int x0)] 2 = mkF m 0 #[.val (.int x0), .unset] [] := by (first | (simp [entryFrame, mkF, argsToLocals, Value.category]; done) | rfl)
def Q_make (Z : State) (p1 : Int32) (h0 : Heap) (n0 : Nat) (v : Option Value) (h : Heap) (L : List Loc) : Prop := ∃ (x : Value) (k : Nat), v = some x ∧ Fr n0 L ∧ Keep h0 h [] ∧ own_key Z h x k
set_option maxRecDepth 65536 in
set_option maxHeartbeats 40000000 in
theorem rm_make (l : Launch) (Z : State) (a0 : Array Value) (hw : ∀ d ∈ tables_1, d.before a0 Z = true) (ws : List Jvm.Cond) (p1 : Int32) (h0 : Heap) (n0 : Nat) (Z0 : n0 ≤ h0.size)  :
    MetFree l (⟨"com/example/ordered_ledger_store/orderedledgerstore/storage/RecordKindKeyAfterPinLaw", "make", "(I)[B"⟩ : MethodName) (head1 (Jvm.Cond.code (⟨"com/example/ordered_ledger_store/orderedledgerstore/storage/RecordKindKeyAfterPinLaw", "make", "(I)[B"⟩ : MethodName) method_2_code 2 (some (.array .byte)) :: ws) ({ frames := 0, cells := 1, slots := 2, locals := 0 } : Room)) (fun a U => a = #[(.int p1)] ∧ Z.Warmed39 U.vm ∧ U.heap = h0) (fun _ _ _ _ _ => True) (fun _ U o U' => ∃ v L, o = .returned v ∧ Q_make Z p1 h0 n0 v U'.heap L ∧ FrameEnd U o U' L ({ frames := 0, cells := 1, slots := 2, locals := 0 } : Room).cells ({ frames := 0, cells := 1, slots := 2, locals := 0 } : Room).slots) := by
  refine MetFree.of_bodySF (plainFor_of_name pn_1) hisR ?_
  intro p e s m args below meth c s₁ Bd hml0 hP hK
  obtain ⟨rfl, hZ, hh⟩ := hP
  have hx := Bd.exec
  have hby := Bd.bytes
  have hml : c.maxLocals = 2 := hml0
  have hown : s.vm.findClass "com/example/ordered_ledger_store/orderedledgerstore/storage/RecordKindKeyAfterPinLaw" = some m.cls := findClass_of_methodNamed Bd.named
  have hnm := (name_of_methodNamed Bd.named Bd.method).1
  have X0 : Stand p l e ({ frames := 0, cells := 1, slots := 2, locals := 0 } : Room) s m #[(.int p1)] below meth c s₁ [] 0 0 := Stand.of_body Bd
  have e0 : s₁.heap = h0 := by rw [← hh, Bd.state]; rfl
  have N0 := Fr.nil n0
  have c0 : Goes p e below s₁ (entryFrame m #[(.int p1)] 2) s₁ (mkF m 0 #[.val (.int p1), .unset] []) := fun t k => castTop (ef_make m p1) k
  have c1 : Goes p e below s₁ (entryFrame m #[(.int p1)] 2) s₁ (mkF m 5 #[.val (.int p1), .val (.int (p1 &&& (3 : Int32)))] [(.int (p1 &&& (3 : Int32)))]) := by
    intro t kk
    refine c0 t ?_
    show Steps p.tables e below (s₁.setTop (mkF m 0 #[.val (.int p1), .unset] [])) t
    refine XS.iloadN X0.here hx rfl (hb hby d1_0) rfl ?_
    show Steps p.tables e below (s₁.setTop (mkF m 1 #[.val (.int p1), .unset] [(.int p1)])) t
    refine XS.iconst X0.here hx rfl (hb hby d1_1) ?_
    show Steps p.tables e below (s₁.setTop (mkF m 2 #[.val (.int p1), .unset] [(.int (3 : Int32)), (.int p1)])) t
    refine XS.iand X0.here hx rfl (hb hby d1_2) rfl ?_
    show Steps p.tables e below (s₁.setTop (mkF m 3 #[.val (.int p1), .unset] [(.int (p1 &&& (3 : Int32)))])) t
    refine XS.istoreN X0.here hx rfl (hb hby d1_3) rfl (l' := #[.val (.int p1), .val (.int (p1 &&& (3 : Int32)))]) rfl ?_
    show Steps p.tables e below (s₁.setTop (mkF m 4 #[.val (.int p1), .val (.int (p1 &&& (3 : Int32)))] [])) t
    refine XS.iloadN X0.here hx rfl (hb hby d1_4) rfl ?_
    exact kk
  by_cases hc5_2 : (p1 &&& (3 : Int32)) = (0 : Int32)
  · have c3 : Goes p e below s₁ (entryFrame m #[(.int p1)] 2) s₁ (mkF m 9 #[.val (.int p1), .val (.int (p1 &&& (3 : Int32)))] [.null]) := by
      intro t kk
      refine c1 t ?_
      show Steps p.tables e below (s₁.setTop (mkF m 5 #[.val (.int p1), .val (.int (p1 &&& (3 : Int32)))] [(.int (p1 &&& (3 : Int32)))])) t
      refine XS.ifNo X0.here hx rfl (hb hby d1_5) rfl ((if0 _ _).trans (teq hc5_2).2) ?_
      show Steps p.tables e below (s₁.setTop (mkF m 8 #[.val (.int p1), .val (.int (p1 &&& (3 : Int32)))] [])) t
      refine XS.aconstNull X0.here hx rfl (hb hby d1_8) ?_
      exact kk
    obtain ⟨fs, hr, hrun, hended, hW, hsame⟩ := X0.leave (v := some .null) (fun h => by rw [Bd.returns] at h; cases h)
    refine ⟨_, _, c3 _ ?_, hrun, hended, _, _, rfl, ?_, ⟨_, rfl⟩, hW, hsame.mono (by decide) (by decide)⟩
    · exact retOut X0 hx Bd.returns rfl (Or.inr (Or.inr (Or.inr (Or.inr ⟨rfl, rfl, rfl⟩)))) (hb hby d1_9) hr
    · show Q_make Z p1 h0 n0 _ s₁.heap _
      rw [e0]
      exact ⟨.null, 0, rfl, N0, (Keep.refl h0 []), Or.inl ⟨rfl, rfl⟩⟩
  · have c4 : Goes p e below s₁ (entryFrame m #[(.int p1)] 2) s₁ (mkF m 12 #[.val (.int p1), .val (.int (p1 &&& (3 : Int32)))] [(.int (1 : Int32)), (.int (p1 &&& (3 : Int32)))]) := by
      intro t kk
      refine c1 t ?_
      show Steps p.tables e below (s₁.setTop (mkF m 5 #[.val (.int p1), .val (.int (p1 &&& (3 : Int32)))] [(.int (p1 &&& (3 : Int32)))])) t
      refine XS.ifYes X0.here hx rfl (pc0 := 5) (pc' := 10) rfl (hb hby d1_5) rfl ((if0 _ _).trans (feq hc5_2).2) (by decide) (by decide) ?_
      show Steps p.tables e below (s₁.setTop (mkF m 10 #[.val (.int p1), .val (.int (p1 &&& (3 : Int32)))] [])) t
      refine XS.iloadN X0.here hx rfl (hb hby d1_10) rfl ?_
      show Steps p.tables e below (s₁.setTop (mkF m 11 #[.val (.int p1), .val (.int (p1 &&& (3 : Int32)))] [(.int (p1 &&& (3 : Int32)))])) t
      refine XS.iconst X0.here hx rfl (hb hby d1_11) ?_
      exact kk
    by_cases hc12_5 : (p1 &&& (3 : Int32)) = (1 : Int32)
    · have c6 : Goes p e below s₁ (entryFrame m #[(.int p1)] 2) s₁ (mkF m 16 #[.val (.int p1), .val (.int (p1 &&& (3 : Int32)))] [(.int (0 : Int32))]) := by
        intro t kk
        refine c4 t ?_
        show Steps p.tables e below (s₁.setTop (mkF m 12 #[.val (.int p1), .val (.int (p1 &&& (3 : Int32)))] [(.int (1 : Int32)), (.int (p1 &&& (3 : Int32)))])) t
        refine XS.icmpNo X0.here hx rfl (hb hby d1_12) rfl (teq hc12_5).2 ?_
        show Steps p.tables e below (s₁.setTop (mkF m 15 #[.val (.int p1), .val (.int (p1 &&& (3 : Int32)))] [])) t
        refine XS.iconst X0.here hx rfl (hb hby d1_15) ?_
        exact kk
      obtain ⟨T7, h7, k7, X7, e7, E7, A7, st7⟩ := newP X0 hx hZ (hw _ (List.mem_of_getElem? (i := 4) rfl)) e0 (g := (mkF m 16 #[.val (.int p1), .val (.int (p1 &&& (3 : Int32)))] [(.int (0 : Int32))])) rfl (hb hby d1_16) rfl (by decide) (cap := 0) (by decide) (by decide) (by decide) (by decide)
      obtain ⟨b7, g7⟩ : ∃ z, z = h0.size := ⟨_, rfl⟩
      rw [← g7] at A7 st7
      have gb7 : n0 ≤ b7 := Nat.le_trans Z0 (Nat.le_of_eq g7.symm)
      have szb7_7 : h0.size ≤ b7 := Nat.le_trans (Keep.refl h0 []).1 (Nat.le_of_eq g7.symm)
      have V7 : Arv Z h7 b7 k7 .byte (0 : Int32) [] (.int (0 : Int32)) := (Arv.new A7 (by decide)).pad (pad_rep [] (.int (0 : Int32)) 0)
      have c8 : Goes p e below s₁ (entryFrame m #[(.int p1)] 2) T7 (mkF m 18 #[.val (.int p1), .val (.int (p1 &&& (3 : Int32)))] [(.ref b7)]) := fun t kk => c6 t (st7 t kk)
      have f9 := ((Keep.refl h0 []).ext E7)
      obtain ⟨fs, hr, hrun, hended, hW, hsame⟩ := X7.leave (v := some (.ref b7)) (fun h => by rw [Bd.returns] at h; cases h)
      refine ⟨_, _, c8 _ ?_, hrun, hended, _, _, rfl, ?_, ⟨_, rfl⟩, hW, hsame.mono (by decide) (by decide)⟩
      · exact retOut X7 hx Bd.returns rfl (Or.inr (Or.inr (Or.inr (Or.inr ⟨rfl, rfl, rfl⟩)))) (hb hby d1_18) hr
      · show Q_make Z p1 h0 n0 _ T7.heap _
        rw [e7]
        exact ⟨.ref b7, 1, rfl, N0, f9, Or.inr ⟨by decide, b7, _, (0 : Int32), _, _, rfl, V7, by decide⟩⟩
    · have c10 : Goes p e below s₁ (entryFrame m #[(.int p1)] 2) s₁ (mkF m 21 #[.val (.int p1), .val (.int (p1 &&& (3 : Int32)))] [(.int (2 : Int32)), (.int (p1 &&& (3 : Int32)))]) := by
        intro t kk
        refine c4 t ?_
        show Steps p.tables e below (s₁.setTop (mkF m 12 #[.val (.int p1), .val (.int (p1 &&& (3 : Int32)))] [(.int (1 : Int32)), (.int (p1 &&& (3 : Int32)))])) t
        refine XS.icmpYes X0.here hx rfl (pc0 := 12) (pc' := 19) rfl (hb hby d1_12) rfl (feq hc12_5).2 (by decide) (by decide) ?_
        show Steps p.tables e below (s₁.setTop (mkF m 19 #[.val (.int p1), .val (.int (p1 &&& (3 : Int32)))] [])) t
        refine XS.iloadN X0.here hx rfl (hb hby d1_19) rfl ?_
        show Steps p.tables e below (s₁.setTop (mkF m 20 #[.val (.int p1), .val (.int (p1 &&& (3 : Int32)))] [(.int (p1 &&& (3 : Int32)))])) t
        refine XS.iconst X0.here hx rfl (hb hby d1_20) ?_
        exact kk
      by_cases hc21_11 : (p1 &&& (3 : Int32)) = (2 : Int32)
      · have c12 : Goes p e below s₁ (entryFrame m #[(.int p1)] 2) s₁ (mkF m 25 #[.val (.int p1), .val (.int (p1 &&& (3 : Int32)))] [(.int (1 : Int32))]) := by
          intro t kk
          refine c10 t ?_
          show Steps p.tables e below (s₁.setTop (mkF m 21 #[.val (.int p1), .val (.int (p1 &&& (3 : Int32)))] [(.int (2 : Int32)), (.int (p1 &&& (3 : Int32)))])) t
          refine XS.icmpNo X0.here hx rfl (hb hby d1_21) rfl (teq hc21_11).2 ?_
          show Steps p.tables e below (s₁.setTop (mkF m 24 #[.val (.int p1), .val (.int (p1 &&& (3 : Int32)))] [])) t
          refine XS.iconst X0.here hx rfl (hb hby d1_24) ?_
          exact kk
        obtain ⟨T13, h13, k13, X13, e13, E13, A13, st13⟩ := newP X0 hx hZ (hw _ (List.mem_of_getElem? (i := 4) rfl)) e0 (g := (mkF m 25 #[.val (.int p1), .val (.int (p1 &&& (3 : Int32)))] [(.int (1 : Int32))])) rfl (hb hby d1_25) rfl (by decide) (cap := 1) (by decide) (by decide) (by decide) (by decide)
        obtain ⟨b13, g13⟩ : ∃ z, z = h0.size := ⟨_, rfl⟩
        rw [← g13] at A13 st13
        have gb13 : n0 ≤ b13 := Nat.le_trans Z0 (Nat.le_of_eq g13.symm)
        have szb13_13 : h0.size ≤ b13 := Nat.le_trans (Keep.refl h0 []).1 (Nat.le_of_eq g13.symm)
        have V13 : Arv Z h13 b13 k13 .byte (1 : Int32) [(.int (0 : Int32))] (.int (0 : Int32)) := (Arv.new A13 (by decide)).pad (pad_rep [] (.int (0 : Int32)) 1)
        have c14 : Goes p e below s₁ (entryFrame m #[(.int p1)] 2) T13 (mkF m 27 #[.val (.int p1), .val (.int (p1 &&& (3 : Int32)))] [(.ref b13)]) := fun t kk => c12 t (st13 t kk)
        have c15 : Goes p e below s₁ (entryFrame m #[(.int p1)] 2) T13 (mkF m 33 #[.val (.int p1), .val (.int (p1 &&& (3 : Int32)))] [(.int (((p1.toUInt32 >>> ((2 : Int32) &&& 31).toUInt32).toInt32).toInt8.toInt32)), (.int (0 : Int32)), (.ref b13), (.ref b13)]) := by
          intro t kk
          refine c14 t ?_
          show Steps p.tables e below (T13.setTop (mkF m 27 #[.val (.int p1), .val (.int (p1 &&& (3 : Int32)))] [(.ref b13)])) t
          refine XS.dup X13.here hx rfl (hb hby d1_27) rfl rfl ?_
          show Steps p.tables e below (T13.setTop (mkF m 28 #[.val (.int p1), .val (.int (p1 &&& (3 : Int32)))] [(.ref b13), (.ref b13)])) t
          refine XS.iconst X13.here hx rfl (hb hby d1_28) ?_
          show Steps p.tables e below (T13.setTop (mkF m 29 #[.val (.int p1), .val (.int (p1 &&& (3 : Int32)))] [(.int (0 : Int32)), (.ref b13), (.ref b13)])) t
          refine XS.iloadN X13.here hx rfl (hb hby d1_29) rfl ?_
          show Steps p.tables e below (T13.setTop (mkF m 30 #[.val (.int p1), .val (.int (p1 &&& (3 : Int32)))] [(.int p1), (.int (0 : Int32)), (.ref b13), (.ref b13)])) t
          refine XS.iconst X13.here hx rfl (hb hby d1_30) ?_
          show Steps p.tables e below (T13.setTop (mkF m 31 #[.val (.int p1), .val (.int (p1 &&& (3 : Int32)))] [(.int (2 : Int32)), (.int p1), (.int (0 : Int32)), (.ref b13), (.ref b13)])) t
          refine XS.iushr X13.here hx rfl (hb hby d1_31) rfl ?_
          show Steps p.tables e below (T13.setTop (mkF m 32 #[.val (.int p1), .val (.int (p1 &&& (3 : Int32)))] [(.int ((p1.toUInt32 >>> ((2 : Int32) &&& 31).toUInt32).toInt32)), (.int (0 : Int32)), (.ref b13), (.ref b13)])) t
          refine XS.i2b X13.here hx rfl (hb hby d1_32) rfl ?_
          exact kk
        obtain ⟨cl16, Ar16, q16, Sz16, Nn16, Hh16, Gg16⟩ := id V13
        have hin16 : ¬ ((0 : Int32) < 0 ∨ cl16.slots.size ≤ ((0 : Int32)).toNatClampNeg) := inb_of Sz16 ⟨by decide, by decide⟩
        obtain ⟨T16, h16, X16, e16, W16, st16⟩ := stB X13 hx hZ e13 Ar16 (j := (0 : Int32)) hin16 (g := (mkF m 33 #[.val (.int p1), .val (.int (p1 &&& (3 : Int32)))] [(.int (((p1.toUInt32 >>> ((2 : Int32) &&& 31).toUInt32).toInt32).toInt8.toInt32)), (.int (0 : Int32)), (.ref b13), (.ref b13)])) rfl rfl (hb hby d1_33)
        have V16 := Arv.set Ar16 q16 Sz16 Nn16 Hh16 Gg16 (fits_nar_byte _) W16 0 rfl (Nat.le_of_ble_eq_true rfl)
        have N16 := Fr.snoc X16 N0 gb13
        have c17 : Goes p e below s₁ (entryFrame m #[(.int p1)] 2) T16 (mkF m 34 #[.val (.int p1), .val (.int (p1 &&& (3 : Int32)))] [(.ref b13)]) := fun t kk => c15 t (st16 t kk)
        have f18 := (((Keep.refl h0 []).ext E13).wr W16 (Or.inr szb13_13))
        obtain ⟨fs, hr, hrun, hended, hW, hsame⟩ := X16.leave (v := some (.ref b13)) (fun h => by rw [Bd.returns] at h; cases h)
        refine ⟨_, _, c17 _ ?_, hrun, hended, _, _, rfl, ?_, ⟨_, rfl⟩, hW, hsame.mono (by decide) (by decide)⟩
        · exact retOut X16 hx Bd.returns rfl (Or.inr (Or.inr (Or.inr (Or.inr ⟨rfl, rfl, rfl⟩)))) (hb hby d1_34) hr
        · show Q_make Z p1 h0 n0 _ T16.heap _
          rw [e16]
          exact ⟨.ref b13, 2, rfl, N16, f18, Or.inr ⟨by decide, b13, _, (1 : Int32), _, _, rfl, V16, by decide⟩⟩
      · have c19 : Goes p e below s₁ (entryFrame m #[(.int p1)] 2) s₁ (mkF m 36 #[.val (.int p1), .val (.int (p1 &&& (3 : Int32)))] [(.int (2 : Int32))]) := by
          intro t kk
          refine c10 t ?_
          show Steps p.tables e below (s₁.setTop (mkF m 21 #[.val (.int p1), .val (.int (p1 &&& (3 : Int32)))] [(.int (2 : Int32)), (.int (p1 &&& (3 : Int32)))])) t
          refine XS.icmpYes X0.here hx rfl (pc0 := 21) (pc' := 35) rfl (hb hby d1_21) rfl (feq hc21_11).2 (by decide) (by decide) ?_
          show Steps p.tables e below (s₁.setTop (mkF m 35 #[.val (.int p1), .val (.int (p1 &&& (3 : Int32)))] [])) t
          refine XS.iconst X0.here hx rfl (hb hby d1_35) ?_
          exact kk
        obtain ⟨T20, h20, k20, X20, e20, E20, A20, st20⟩ := newP X0 hx hZ (hw _ (List.mem_of_getElem? (i := 4) rfl)) e0 (g := (mkF m 36 #[.val (.int p1), .val (.int (p1 &&& (3 : Int32)))] [(.int (2 : Int32))])) rfl (hb hby d1_36) rfl (by decide) (cap := 2) (by decide) (by decide) (by decide) (by decide)
        obtain ⟨b20, g20⟩ : ∃ z, z = h0.size := ⟨_, rfl⟩
        rw [← g20] at A20 st20
        have gb20 : n0 ≤ b20 := Nat.le_trans Z0 (Nat.le_of_eq g20.symm)
        have szb20_20 : h0.size ≤ b20 := Nat.le_trans (Keep.refl h0 []).1 (Nat.le_of_eq g20.symm)
        have V20 : Arv Z h20 b20 k20 .byte (2 : Int32) [(.int (0 : Int32)), (.int (0 : Int32))] (.int (0 : Int32)) := (Arv.new A20 (by decide)).pad (pad_rep [] (.int (0 : Int32)) 2)
        have c21 : Goes p e below s₁ (entryFrame m #[(.int p1)] 2) T20 (mkF m 38 #[.val (.int p1), .val (.int (p1 &&& (3 : Int32)))] [(.ref b20)]) := fun t kk => c19 t (st20 t kk)
        have c22 : Goes p e below s₁ (entryFrame m #[(.int p1)] 2) T20 (mkF m 44 #[.val (.int p1), .val (.int (p1 &&& (3 : Int32)))] [(.int (((p1.toUInt32 >>> ((2 : Int32) &&& 31).toUInt32).toInt32).toInt8.toInt32)), (.int (0 : Int32)), (.ref b20), (.ref b20)]) := by
          intro t kk
          refine c21 t ?_
          show Steps p.tables e below (T20.setTop (mkF m 38 #[.val (.int p1), .val (.int (p1 &&& (3 : Int32)))] [(.ref b20)])) t
          refine XS.dup X20.here hx rfl (hb hby d1_38) rfl rfl ?_
          show Steps p.tables e below (T20.setTop (mkF m 39 #[.val (.int p1), .val (.int (p1 &&& (3 : Int32)))] [(.ref b20), (.ref b20)])) t
          refine XS.iconst X20.here hx rfl (hb hby d1_39) ?_
          show Steps p.tables e below (T20.setTop (mkF m 40 #[.val (.int p1), .val (.int (p1 &&& (3 : Int32)))] [(.int (0 : Int32)), (.ref b20), (.ref b20)])) t
          refine XS.iloadN X20.here hx rfl (hb hby d1_40) rfl ?_
          show Steps p.tables e below (T20.setTop (mkF m 41 #[.val (.int p1), .val (.int (p1 &&& (3 : Int32)))] [(.int p1), (.int (0 : Int32)), (.ref b20), (.ref b20)])) t
          refine XS.iconst X20.here hx rfl (hb hby d1_41) ?_
          show Steps p.tables e below (T20.setTop (mkF m 42 #[.val (.int p1), .val (.int (p1 &&& (3 : Int32)))] [(.int (2 : Int32)), (.int p1), (.int (0 : Int32)), (.ref b20), (.ref b20)])) t
          refine XS.iushr X20.here hx rfl (hb hby d1_42) rfl ?_
          show Steps p.tables e below (T20.setTop (mkF m 43 #[.val (.int p1), .val (.int (p1 &&& (3 : Int32)))] [(.int ((p1.toUInt32 >>> ((2 : Int32) &&& 31).toUInt32).toInt32)), (.int (0 : Int32)), (.ref b20), (.ref b20)])) t
          refine XS.i2b X20.here hx rfl (hb hby d1_43) rfl ?_
          exact kk
        obtain ⟨cl23, Ar23, q23, Sz23, Nn23, Hh23, Gg23⟩ := id V20
        have hin23 : ¬ ((0 : Int32) < 0 ∨ cl23.slots.size ≤ ((0 : Int32)).toNatClampNeg) := inb_of Sz23 ⟨by decide, by decide⟩
        obtain ⟨T23, h23, X23, e23, W23, st23⟩ := stB X20 hx hZ e20 Ar23 (j := (0 : Int32)) hin23 (g := (mkF m 44 #[.val (.int p1), .val (.int (p1 &&& (3 : Int32)))] [(.int (((p1.toUInt32 >>> ((2 : Int32) &&& 31).toUInt32).toInt32).toInt8.toInt32)), (.int (0 : Int32)), (.ref b20), (.ref b20)])) rfl rfl (hb hby d1_44)
        have V23 := Arv.set Ar23 q23 Sz23 Nn23 Hh23 Gg23 (fits_nar_byte _) W23 0 rfl (Nat.le_of_ble_eq_true rfl)
        have N23 := Fr.snoc X23 N0 gb20
        have c24 : Goes p e below s₁ (entryFrame m #[(.int p1)] 2) T23 (mkF m 45 #[.val (.int p1), .val (.int (p1 &&& (3 : Int32)))] [(.ref b20)]) := fun t kk => c22 t (st23 t kk)
        have c25 : Goes p e below s₁ (entryFrame m #[(.int p1)] 2) T23 (mkF m 52 #[.val (.int p1), .val (.int (p1 &&& (3 : Int32)))] [(.int (((p1.toUInt32 >>> ((10 : Int32) &&& 31).toUInt32).toInt32).toInt8.toInt32)), (.int (1 : Int32)), (.ref b20), (.ref b20)]) := by
          intro t kk
          refine c24 t ?_
          show Steps p.tables e below (T23.setTop (mkF m 45 #[.val (.int p1), .val (.int (p1 &&& (3 : Int32)))] [(.ref b20)])) t
          refine XS.dup X23.here hx rfl (hb hby d1_45) rfl rfl ?_
          show Steps p.tables e below (T23.setTop (mkF m 46 #[.val (.int p1), .val (.int (p1 &&& (3 : Int32)))] [(.ref b20), (.ref b20)])) t
          refine XS.iconst X23.here hx rfl (hb hby d1_46) ?_
          show Steps p.tables e below (T23.setTop (mkF m 47 #[.val (.int p1), .val (.int (p1 &&& (3 : Int32)))] [(.int (1 : Int32)), (.ref b20), (.ref b20)])) t
          refine XS.iloadN X23.here hx rfl (hb hby d1_47) rfl ?_
          show Steps p.tables e below (T23.setTop (mkF m 48 #[.val (.int p1), .val (.int (p1 &&& (3 : Int32)))] [(.int p1), (.int (1 : Int32)), (.ref b20), (.ref b20)])) t
          refine XS.bipush X23.here hx rfl (hb hby d1_48) ?_
          show Steps p.tables e below (T23.setTop (mkF m 50 #[.val (.int p1), .val (.int (p1 &&& (3 : Int32)))] [(.int (10 : Int32)), (.int p1), (.int (1 : Int32)), (.ref b20), (.ref b20)])) t
          refine XS.iushr X23.here hx rfl (hb hby d1_50) rfl ?_
          show Steps p.tables e below (T23.setTop (mkF m 51 #[.val (.int p1), .val (.int (p1 &&& (3 : Int32)))] [(.int ((p1.toUInt32 >>> ((10 : Int32) &&& 31).toUInt32).toInt32)), (.int (1 : Int32)), (.ref b20), (.ref b20)])) t
          refine XS.i2b X23.here hx rfl (hb hby d1_51) rfl ?_
          exact kk
        obtain ⟨cl26, Ar26, q26, Sz26, Nn26, Hh26, Gg26⟩ := id V23
        have hin26 : ¬ ((1 : Int32) < 0 ∨ cl26.slots.size ≤ ((1 : Int32)).toNatClampNeg) := inb_of Sz26 ⟨by decide, by decide⟩
        obtain ⟨T26, h26, X26, e26, W26, st26⟩ := stB X23 hx hZ e23 Ar26 (j := (1 : Int32)) hin26 (g := (mkF m 52 #[.val (.int p1), .val (.int (p1 &&& (3 : Int32)))] [(.int (((p1.toUInt32 >>> ((10 : Int32) &&& 31).toUInt32).toInt32).toInt8.toInt32)), (.int (1 : Int32)), (.ref b20), (.ref b20)])) rfl rfl (hb hby d1_52)
        have V26 := Arv.set Ar26 q26 Sz26 Nn26 Hh26 Gg26 (fits_nar_byte _) W26 1 rfl (Nat.le_of_ble_eq_true rfl)
        have N26 := Fr.snoc X26 N23 gb20
        have c27 : Goes p e below s₁ (entryFrame m #[(.int p1)] 2) T26 (mkF m 53 #[.val (.int p1), .val (.int (p1 &&& (3 : Int32)))] [(.ref b20)]) := fun t kk => c25 t (st26 t kk)
        have f28 := ((((Keep.refl h0 []).ext E20).wr W23 (Or.inr szb20_20)).wr W26 (Or.inr szb20_20))
        obtain ⟨fs, hr, hrun, hended, hW, hsame⟩ := X26.leave (v := some (.ref b20)) (fun h => by rw [Bd.returns] at h; cases h)
        refine ⟨_, _, c27 _ ?_, hrun, hended, _, _, rfl, ?_, ⟨_, rfl⟩, hW, hsame.mono (by decide) (by decide)⟩
        · exact retOut X26 hx Bd.returns rfl (Or.inr (Or.inr (Or.inr (Or.inr ⟨rfl, rfl, rfl⟩)))) (hb hby d1_53) hr
        · show Q_make Z p1 h0 n0 _ T26.heap _
          rw [e26]
          exact ⟨.ref b20, 2, rfl, N26, f28, Or.inr ⟨by decide, b20, _, (2 : Int32), _, _, rfl, V26, by decide⟩⟩
theorem d2_0 : decode prog_64_method_7_code 0 = .ok (.aload_n 0, 1) := by decide +kernel
theorem d2_1 : decode prog_64_method_7_code 1 = .ok (.ifnull 12, 3) := by decide +kernel
theorem d2_13 : decode prog_64_method_7_code 13 = .ok (.iconst 0, 1) := by decide +kernel
theorem d2_14 : decode prog_64_method_7_code 14 = .ok (.istore_n 2, 1) := by decide +kernel
theorem d2_15 : decode prog_64_method_7_code 15 = .ok (.iload_n 2, 1) := by decide +kernel
theorem d2_16 : decode prog_64_method_7_code 16 = .ok (.ifCond .ne 7, 3) := by decide +kernel
theorem d2_19 : decode prog_64_method_7_code 19 = .ok (.aload_n 1, 1) := by decide +kernel
theorem d2_20 : decode prog_64_method_7_code 20 = .ok (.ifnonnull 7, 3) := by decide +kernel
theorem d2_23 : decode prog_64_method_7_code 23 = .ok (.aload_n 0, 1) := by decide +kernel
theorem d2_24 : decode prog_64_method_7_code 24 = .ok (.goto 4, 3) := by decide +kernel
theorem d2_28 : decode prog_64_method_7_code 28 = .ok (.areturn, 1) := by decide +kernel
theorem pn_2 : plainName "com/example/ordered_ledger_store/orderedledgerstore/storage/RecordKind" = true := by first | (simp [plainName, overriddenIn]; done) | decide +kernel
theorem ef_ka_nn (m : MethodId)  : entryFrame m #[.null, .null] 3 = mkF m 0 #[.val .null, .val .null, .unset] [] := by (first | (simp [entryFrame, mkF, argsToLocals, Value.category]; done) | rfl)
def Q_ka_nn (Z : State) (k1 : Nat) (k2 : Nat) (h0 : Heap) (n0 : Nat) (v : Option Value) (h : Heap) (L : List Loc) : Prop := v = some (own_ka .null k1 .null k2) ∧ Fr n0 L ∧ h = h0
set_option maxRecDepth 65536 in
set_option maxHeartbeats 40000000 in
theorem rm_ka_nn (l : Launch) (Z : State) (a0 : Array Value) (hw : ∀ d ∈ tables_1, d.before a0 Z = true) (ws : List Jvm.Cond) (k1 : Nat) (k2 : Nat) (h0 : Heap) (n0 : Nat) (Z0 : n0 ≤ h0.size) (hn1 : k1 = 0) (hn2 : k2 = 0) :
    MetFree l (⟨"com/example/ordered_ledger_store/orderedledgerstore/storage/RecordKind", "keyAfter", "([B[B)[B"⟩ : MethodName) (head1 (Jvm.Cond.code (⟨"com/example/ordered_ledger_store/orderedledgerstore/storage/RecordKind", "keyAfter", "([B[B)[B"⟩ : MethodName) prog_64_method_7_code 3 (some (.array .byte)) :: ws) ({ frames := 0, cells := 0, slots := 0, locals := 0 } : Room)) (fun a U => a = #[.null, .null] ∧ Z.Warmed39 U.vm ∧ U.heap = h0) (fun _ _ _ _ _ => True) (fun _ U o U' => ∃ v L, o = .returned v ∧ Q_ka_nn Z k1 k2 h0 n0 v U'.heap L ∧ FrameEnd U o U' L ({ frames := 0, cells := 0, slots := 0, locals := 0 } : Room).cells ({ frames := 0, cells := 0, slots := 0, locals := 0 } : Room).slots) := by
  refine MetFree.of_bodySF (plainFor_of_name pn_2) hisR ?_
  intro p e s m args below meth c s₁ Bd hml0 hP hK
  obtain ⟨rfl, hZ, hh⟩ := hP
  have hx := Bd.exec
  have hby := Bd.bytes
  have hml : c.maxLocals = 3 := hml0
  have hown : s.vm.findClass "com/example/ordered_ledger_store/orderedledgerstore/storage/RecordKind" = some m.cls := findClass_of_methodNamed Bd.named
  have hnm := (name_of_methodNamed Bd.named Bd.method).1
  have X0 : Stand p l e ({ frames := 0, cells := 0, slots := 0, locals := 0 } : Room) s m #[.null, .null] below meth c s₁ [] 0 0 := Stand.of_body Bd
  have e0 : s₁.heap = h0 := by rw [← hh, Bd.state]; rfl
  have N0 := Fr.nil n0
  have c0 : Goes p e below s₁ (entryFrame m #[.null, .null] 3) s₁ (mkF m 0 #[.val .null, .val .null, .unset] []) := fun t k => castTop (ef_ka_nn m ) k
  have c29 : Goes p e below s₁ (entryFrame m #[.null, .null] 3) s₁ (mkF m 28 #[.val .null, .val .null, .val (.int (0 : Int32))] [.null]) := by
    intro t kk
    refine c0 t ?_
    show Steps p.tables e below (s₁.setTop (mkF m 0 #[.val .null, .val .null, .unset] [])) t
    refine XS.aloadN X0.here hx rfl (hb hby d2_0) rfl rfl ?_
    show Steps p.tables e below (s₁.setTop (mkF m 1 #[.val .null, .val .null, .unset] [.null])) t
    refine XS.ifnullYes X0.here hx rfl (pc0 := 1) (pc' := 13) rfl (hb hby d2_1) rfl (by decide) (by decide) ?_
    show Steps p.tables e below (s₁.setTop (mkF m 13 #[.val .null, .val .null, .unset] [])) t
    refine XS.iconst X0.here hx rfl (hb hby d2_13) ?_
    show Steps p.tables e below (s₁.setTop (mkF m 14 #[.val .null, .val .null, .unset] [(.int (0 : Int32))])) t
    refine XS.istoreN X0.here hx rfl (hb hby d2_14) rfl (l' := #[.val .null, .val .null, .val (.int (0 : Int32))]) rfl ?_
    show Steps p.tables e below (s₁.setTop (mkF m 15 #[.val .null, .val .null, .val (.int (0 : Int32))] [])) t
    refine XS.iloadN X0.here hx rfl (hb hby d2_15) rfl ?_
    show Steps p.tables e below (s₁.setTop (mkF m 16 #[.val .null, .val .null, .val (.int (0 : Int32))] [(.int (0 : Int32))])) t
    refine XS.ifNo X0.here hx rfl (hb hby d2_16) rfl ((if0 _ _).trans (teq (rfl : (0 : Int32) = (0 : Int32))).2) ?_
    show Steps p.tables e below (s₁.setTop (mkF m 19 #[.val .null, .val .null, .val (.int (0 : Int32))] [])) t
    refine XS.aloadN X0.here hx rfl (hb hby d2_19) rfl rfl ?_
    show Steps p.tables e below (s₁.setTop (mkF m 20 #[.val .null, .val .null, .val (.int (0 : Int32))] [.null])) t
    refine XS.ifnonnullNo X0.here hx rfl (hb hby d2_20) rfl ?_
    show Steps p.tables e below (s₁.setTop (mkF m 23 #[.val .null, .val .null, .val (.int (0 : Int32))] [])) t
    refine XS.aloadN X0.here hx rfl (hb hby d2_23) rfl rfl ?_
    show Steps p.tables e below (s₁.setTop (mkF m 24 #[.val .null, .val .null, .val (.int (0 : Int32))] [.null])) t
    refine XS.goto X0.here hx rfl (pc0 := 24) (pc' := 28) rfl (hb hby d2_24) (by decide) (by decide) ?_
    exact kk
  obtain ⟨fs, hr, hrun, hended, hW, hsame⟩ := X0.leave (v := some .null) (fun h => by rw [Bd.returns] at h; cases h)
  refine ⟨_, _, c29 _ ?_, hrun, hended, _, _, rfl, ?_, ⟨_, rfl⟩, hW, hsame.mono (by decide) (by decide)⟩
  · exact retOut X0 hx Bd.returns rfl (Or.inr (Or.inr (Or.inr (Or.inr ⟨rfl, rfl, rfl⟩)))) (hb hby d2_28) hr
  · show Q_ka_nn Z k1 k2 h0 n0 _ s₁.heap _
    rw [e0]
    exact ⟨by simp [own_ka, hn1, hn2], N0, rfl⟩
theorem d2_27 : decode prog_64_method_7_code 27 = .ok (.aload_n 1, 1) := by decide +kernel
theorem ef_ka_nr (m : MethodId) (x1 : Addr) : entryFrame m #[.null, (.ref x1)] 3 = mkF m 0 #[.val .null, .val (.ref x1), .unset] [] := by (first | (simp [entryFrame, mkF, argsToLocals, Value.category]; done) | rfl)
def Q_ka_nr (Z : State) (k1 : Nat) (k2 : Nat) (a2 : Addr) (kc2 : ClassId) (z2 : Int32) (vs2 : List Value) (d2 : Value) (h0 : Heap) (n0 : Nat) (v : Option Value) (h : Heap) (L : List Loc) : Prop := v = some (own_ka .null k1 (.ref a2) k2) ∧ Fr n0 L ∧ h = h0
set_option maxRecDepth 65536 in
set_option maxHeartbeats 40000000 in
theorem rm_ka_nr (l : Launch) (Z : State) (a0 : Array Value) (hw : ∀ d ∈ tables_1, d.before a0 Z = true) (ws : List Jvm.Cond) (k1 : Nat) (k2 : Nat) (a2 : Addr) (kc2 : ClassId) (z2 : Int32) (vs2 : List Value) (d2 : Value) (h0 : Heap) (n0 : Nat) (Z0 : n0 ≤ h0.size) (hn1 : k1 = 0) (V2 : Arv Z h0 a2 kc2 .byte z2 vs2 d2) (hk2 : k2 = 2 ↔ (0 : Int32) < z2) (hn2 : k2 ≠ 0) :
    MetFree l (⟨"com/example/ordered_ledger_store/orderedledgerstore/storage/RecordKind", "keyAfter", "([B[B)[B"⟩ : MethodName) (head1 (Jvm.Cond.code (⟨"com/example/ordered_ledger_store/orderedledgerstore/storage/RecordKind", "keyAfter", "([B[B)[B"⟩ : MethodName) prog_64_method_7_code 3 (some (.array .byte)) :: ws) ({ frames := 0, cells := 0, slots := 0, locals := 0 } : Room)) (fun a U => a = #[.null, (.ref a2)] ∧ Z.Warmed39 U.vm ∧ U.heap = h0) (fun _ _ _ _ _ => True) (fun _ U o U' => ∃ v L, o = .returned v ∧ Q_ka_nr Z k1 k2 a2 kc2 z2 vs2 d2 h0 n0 v U'.heap L ∧ FrameEnd U o U' L ({ frames := 0, cells := 0, slots := 0, locals := 0 } : Room).cells ({ frames := 0, cells := 0, slots := 0, locals := 0 } : Room).slots) := by
  refine MetFree.of_bodySF (plainFor_of_name pn_2) hisR ?_
  intro p e s m args below meth c s₁ Bd hml0 hP hK
  obtain ⟨rfl, hZ, hh⟩ := hP
  have hx := Bd.exec
  have hby := Bd.bytes
  have hml : c.maxLocals = 3 := hml0
  have hown : s.vm.findClass "com/example/ordered_ledger_store/orderedledgerstore/storage/RecordKind" = some m.cls := findClass_of_methodNamed Bd.named
  have hnm := (name_of_methodNamed Bd.named Bd.method).1
  have X0 : Stand p l e ({ frames := 0, cells := 0, slots := 0, locals := 0 } : Room) s m #[.null, (.ref a2)] below meth c s₁ [] 0 0 := Stand.of_body Bd
  have e0 : s₁.heap = h0 := by rw [← hh, Bd.state]; rfl
  have N0 := Fr.nil n0
  have c0 : Goes p e below s₁ (entryFrame m #[.null, (.ref a2)] 3) s₁ (mkF m 0 #[.val .null, .val (.ref a2), .unset] []) := fun t k => castTop (ef_ka_nr m a2) k
  have c30 : Goes p e below s₁ (entryFrame m #[.null, (.ref a2)] 3) s₁ (mkF m 28 #[.val .null, .val (.ref a2), .val (.int (0 : Int32))] [(.ref a2)]) := by
    intro t kk
    refine c0 t ?_
    show Steps p.tables e below (s₁.setTop (mkF m 0 #[.val .null, .val (.ref a2), .unset] [])) t
    refine XS.aloadN X0.here hx rfl (hb hby d2_0) rfl rfl ?_
    show Steps p.tables e below (s₁.setTop (mkF m 1 #[.val .null, .val (.ref a2), .unset] [.null])) t
    refine XS.ifnullYes X0.here hx rfl (pc0 := 1) (pc' := 13) rfl (hb hby d2_1) rfl (by decide) (by decide) ?_
    show Steps p.tables e below (s₁.setTop (mkF m 13 #[.val .null, .val (.ref a2), .unset] [])) t
    refine XS.iconst X0.here hx rfl (hb hby d2_13) ?_
    show Steps p.tables e below (s₁.setTop (mkF m 14 #[.val .null, .val (.ref a2), .unset] [(.int (0 : Int32))])) t
    refine XS.istoreN X0.here hx rfl (hb hby d2_14) rfl (l' := #[.val .null, .val (.ref a2), .val (.int (0 : Int32))]) rfl ?_
    show Steps p.tables e below (s₁.setTop (mkF m 15 #[.val .null, .val (.ref a2), .val (.int (0 : Int32))] [])) t
    refine XS.iloadN X0.here hx rfl (hb hby d2_15) rfl ?_
    show Steps p.tables e below (s₁.setTop (mkF m 16 #[.val .null, .val (.ref a2), .val (.int (0 : Int32))] [(.int (0 : Int32))])) t
    refine XS.ifNo X0.here hx rfl (hb hby d2_16) rfl ((if0 _ _).trans (teq (rfl : (0 : Int32) = (0 : Int32))).2) ?_
    show Steps p.tables e below (s₁.setTop (mkF m 19 #[.val .null, .val (.ref a2), .val (.int (0 : Int32))] [])) t
    refine XS.aloadN X0.here hx rfl (hb hby d2_19) rfl rfl ?_
    show Steps p.tables e below (s₁.setTop (mkF m 20 #[.val .null, .val (.ref a2), .val (.int (0 : Int32))] [(.ref a2)])) t
    refine XS.ifnonnullYes X0.here hx rfl (pc0 := 20) (pc' := 27) rfl (hb hby d2_20) rfl (by decide) (by decide) ?_
    show Steps p.tables e below (s₁.setTop (mkF m 27 #[.val .null, .val (.ref a2), .val (.int (0 : Int32))] [])) t
    refine XS.aloadN X0.here hx rfl (hb hby d2_27) rfl rfl ?_
    exact kk
  obtain ⟨fs, hr, hrun, hended, hW, hsame⟩ := X0.leave (v := some (.ref a2)) (fun h => by rw [Bd.returns] at h; cases h)
  refine ⟨_, _, c30 _ ?_, hrun, hended, _, _, rfl, ?_, ⟨_, rfl⟩, hW, hsame.mono (by decide) (by decide)⟩
  · exact retOut X0 hx Bd.returns rfl (Or.inr (Or.inr (Or.inr (Or.inr ⟨rfl, rfl, rfl⟩)))) (hb hby d2_28) hr
  · show Q_ka_nr Z k1 k2 a2 kc2 z2 vs2 d2 h0 n0 _ s₁.heap _
    rw [e0]
    exact ⟨by simp [own_ka, hn1, hn2], N0, rfl⟩
theorem d2_4 : decode prog_64_method_7_code 4 = .ok (.aload_n 0, 1) := by decide +kernel
theorem d2_5 : decode prog_64_method_7_code 5 = .ok (.arraylength, 1) := by decide +kernel
theorem d2_6 : decode prog_64_method_7_code 6 = .ok (.ifCond .le 7, 3) := by decide +kernel
theorem d2_9 : decode prog_64_method_7_code 9 = .ok (.iconst 1, 1) := by decide +kernel
theorem d2_10 : decode prog_64_method_7_code 10 = .ok (.goto 4, 3) := by decide +kernel
theorem ef_ka_rn (m : MethodId) (x0 : Addr) : entryFrame m #[(.ref x0), .null] 3 = mkF m 0 #[.val (.ref x0), .val .null, .unset] [] := by (first | (simp [entryFrame, mkF, argsToLocals, Value.category]; done) | rfl)
def Q_ka_rn (Z : State) (k1 : Nat) (k2 : Nat) (a1 : Addr) (kc1 : ClassId) (z1 : Int32) (vs1 : List Value) (d1 : Value) (h0 : Heap) (n0 : Nat) (v : Option Value) (h : Heap) (L : List Loc) : Prop := v = some (own_ka (.ref a1) k1 .null k2) ∧ Fr n0 L ∧ h = h0
set_option maxRecDepth 65536 in
set_option maxHeartbeats 40000000 in
theorem rm_ka_rn (l : Launch) (Z : State) (a0 : Array Value) (hw : ∀ d ∈ tables_1, d.before a0 Z = true) (ws : List Jvm.Cond) (k1 : Nat) (k2 : Nat) (a1 : Addr) (kc1 : ClassId) (z1 : Int32) (vs1 : List Value) (d1 : Value) (h0 : Heap) (n0 : Nat) (Z0 : n0 ≤ h0.size) (V1 : Arv Z h0 a1 kc1 .byte z1 vs1 d1) (hk1 : k1 = 2 ↔ (0 : Int32) < z1) (hn1 : k1 ≠ 0) (hn2 : k2 = 0) :
    MetFree l (⟨"com/example/ordered_ledger_store/orderedledgerstore/storage/RecordKind", "keyAfter", "([B[B)[B"⟩ : MethodName) (head1 (Jvm.Cond.code (⟨"com/example/ordered_ledger_store/orderedledgerstore/storage/RecordKind", "keyAfter", "([B[B)[B"⟩ : MethodName) prog_64_method_7_code 3 (some (.array .byte)) :: ws) ({ frames := 0, cells := 0, slots := 0, locals := 0 } : Room)) (fun a U => a = #[(.ref a1), .null] ∧ Z.Warmed39 U.vm ∧ U.heap = h0) (fun _ _ _ _ _ => True) (fun _ U o U' => ∃ v L, o = .returned v ∧ Q_ka_rn Z k1 k2 a1 kc1 z1 vs1 d1 h0 n0 v U'.heap L ∧ FrameEnd U o U' L ({ frames := 0, cells := 0, slots := 0, locals := 0 } : Room).cells ({ frames := 0, cells := 0, slots := 0, locals := 0 } : Room).slots) := by
  refine MetFree.of_bodySF (plainFor_of_name pn_2) hisR ?_
  intro p e s m args below meth c s₁ Bd hml0 hP hK
  obtain ⟨rfl, hZ, hh⟩ := hP
  have hx := Bd.exec
  have hby := Bd.bytes
  have hml : c.maxLocals = 3 := hml0
  have hown : s.vm.findClass "com/example/ordered_ledger_store/orderedledgerstore/storage/RecordKind" = some m.cls := findClass_of_methodNamed Bd.named
  have hnm := (name_of_methodNamed Bd.named Bd.method).1
  have X0 : Stand p l e ({ frames := 0, cells := 0, slots := 0, locals := 0 } : Room) s m #[(.ref a1), .null] below meth c s₁ [] 0 0 := Stand.of_body Bd
  have e0 : s₁.heap = h0 := by rw [← hh, Bd.state]; rfl
  have N0 := Fr.nil n0
  have c0 : Goes p e below s₁ (entryFrame m #[(.ref a1), .null] 3) s₁ (mkF m 0 #[.val (.ref a1), .val .null, .unset] []) := fun t k => castTop (ef_ka_rn m a1) k
  obtain ⟨cl31, Ar31, q31, Sz31, Nn31, Hh31, Gg31⟩ := id V1
  have c32 : Goes p e below s₁ (entryFrame m #[(.ref a1), .null] 3) s₁ (mkF m 6 #[.val (.ref a1), .val .null, .unset] [(.int z1)]) := by
    intro t kk
    refine c0 t ?_
    show Steps p.tables e below (s₁.setTop (mkF m 0 #[.val (.ref a1), .val .null, .unset] [])) t
    refine XS.aloadN X0.here hx rfl (hb hby d2_0) rfl rfl ?_
    show Steps p.tables e below (s₁.setTop (mkF m 1 #[.val (.ref a1), .val .null, .unset] [(.ref a1)])) t
    refine XS.ifnullNo X0.here hx rfl (hb hby d2_1) rfl ?_
    show Steps p.tables e below (s₁.setTop (mkF m 4 #[.val (.ref a1), .val .null, .unset] [])) t
    refine XS.aloadN X0.here hx rfl (hb hby d2_4) rfl rfl ?_
    show Steps p.tables e below (s₁.setTop (mkF m 5 #[.val (.ref a1), .val .null, .unset] [(.ref a1)])) t
    refine X0.arraylength hx (by rw [e0]; exact Ar31.1) (State.isArrayOf_alike hZ.alike Ar31.2.1) (g := (mkF m 5 #[.val (.ref a1), .val .null, .unset] [(.ref a1)])) rfl rfl (hb hby d2_5) _ ?_
    rw [len_of Sz31 Nn31]
    exact kk
  by_cases h6 : (0 : Int32) < z1
  · have c33 : Goes p e below s₁ (entryFrame m #[(.ref a1), .null] 3) s₁ (mkF m 28 #[.val (.ref a1), .val .null, .val (.int (1 : Int32))] [(.ref a1)]) := by
      intro t kk
      refine c32 t ?_
      show Steps p.tables e below (s₁.setTop (mkF m 6 #[.val (.ref a1), .val .null, .unset] [(.int z1)])) t
      refine XS.ifNo X0.here hx rfl (hb hby d2_6) rfl ((if0 _ _).trans (tlt h6).2.2.2) ?_
      show Steps p.tables e below (s₁.setTop (mkF m 9 #[.val (.ref a1), .val .null, .unset] [])) t
      refine XS.iconst X0.here hx rfl (hb hby d2_9) ?_
      show Steps p.tables e below (s₁.setTop (mkF m 10 #[.val (.ref a1), .val .null, .unset] [(.int (1 : Int32))])) t
      refine XS.goto X0.here hx rfl (pc0 := 10) (pc' := 14) rfl (hb hby d2_10) (by decide) (by decide) ?_
      show Steps p.tables e below (s₁.setTop (mkF m 14 #[.val (.ref a1), .val .null, .unset] [(.int (1 : Int32))])) t
      refine XS.istoreN X0.here hx rfl (hb hby d2_14) rfl (l' := #[.val (.ref a1), .val .null, .val (.int (1 : Int32))]) rfl ?_
      show Steps p.tables e below (s₁.setTop (mkF m 15 #[.val (.ref a1), .val .null, .val (.int (1 : Int32))] [])) t
      refine XS.iloadN X0.here hx rfl (hb hby d2_15) rfl ?_
      show Steps p.tables e below (s₁.setTop (mkF m 16 #[.val (.ref a1), .val .null, .val (.int (1 : Int32))] [(.int (1 : Int32))])) t
      refine XS.ifYes X0.here hx rfl (pc0 := 16) (pc' := 23) rfl (hb hby d2_16) rfl ((if0 _ _).trans (feq (by decide : ¬ ((1 : Int32) = (0 : Int32)))).2) (by decide) (by decide) ?_
      show Steps p.tables e below (s₁.setTop (mkF m 23 #[.val (.ref a1), .val .null, .val (.int (1 : Int32))] [])) t
      refine XS.aloadN X0.here hx rfl (hb hby d2_23) rfl rfl ?_
      show Steps p.tables e below (s₁.setTop (mkF m 24 #[.val (.ref a1), .val .null, .val (.int (1 : Int32))] [(.ref a1)])) t
      refine XS.goto X0.here hx rfl (pc0 := 24) (pc' := 28) rfl (hb hby d2_24) (by decide) (by decide) ?_
      exact kk
    obtain ⟨fs, hr, hrun, hended, hW, hsame⟩ := X0.leave (v := some (.ref a1)) (fun h => by rw [Bd.returns] at h; cases h)
    refine ⟨_, _, c33 _ ?_, hrun, hended, _, _, rfl, ?_, ⟨_, rfl⟩, hW, hsame.mono (by decide) (by decide)⟩
    · exact retOut X0 hx Bd.returns rfl (Or.inr (Or.inr (Or.inr (Or.inr ⟨rfl, rfl, rfl⟩)))) (hb hby d2_28) hr
    · show Q_ka_rn Z k1 k2 a1 kc1 z1 vs1 d1 h0 n0 _ s₁.heap _
      rw [e0]
      exact ⟨by simp [own_ka, h6, hn1, hn2, hk1], N0, rfl⟩
  · have c34 : Goes p e below s₁ (entryFrame m #[(.ref a1), .null] 3) s₁ (mkF m 28 #[.val (.ref a1), .val .null, .val (.int (0 : Int32))] [(.ref a1)]) := by
      intro t kk
      refine c32 t ?_
      show Steps p.tables e below (s₁.setTop (mkF m 6 #[.val (.ref a1), .val .null, .unset] [(.int z1)])) t
      refine XS.ifYes X0.here hx rfl (pc0 := 6) (pc' := 13) rfl (hb hby d2_6) rfl ((if0 _ _).trans (flt h6).2.2.2) (by decide) (by decide) ?_
      show Steps p.tables e below (s₁.setTop (mkF m 13 #[.val (.ref a1), .val .null, .unset] [])) t
      refine XS.iconst X0.here hx rfl (hb hby d2_13) ?_
      show Steps p.tables e below (s₁.setTop (mkF m 14 #[.val (.ref a1), .val .null, .unset] [(.int (0 : Int32))])) t
      refine XS.istoreN X0.here hx rfl (hb hby d2_14) rfl (l' := #[.val (.ref a1), .val .null, .val (.int (0 : Int32))]) rfl ?_
      show Steps p.tables e below (s₁.setTop (mkF m 15 #[.val (.ref a1), .val .null, .val (.int (0 : Int32))] [])) t
      refine XS.iloadN X0.here hx rfl (hb hby d2_15) rfl ?_
      show Steps p.tables e below (s₁.setTop (mkF m 16 #[.val (.ref a1), .val .null, .val (.int (0 : Int32))] [(.int (0 : Int32))])) t
      refine XS.ifNo X0.here hx rfl (hb hby d2_16) rfl ((if0 _ _).trans (teq (rfl : (0 : Int32) = (0 : Int32))).2) ?_
      show Steps p.tables e below (s₁.setTop (mkF m 19 #[.val (.ref a1), .val .null, .val (.int (0 : Int32))] [])) t
      refine XS.aloadN X0.here hx rfl (hb hby d2_19) rfl rfl ?_
      show Steps p.tables e below (s₁.setTop (mkF m 20 #[.val (.ref a1), .val .null, .val (.int (0 : Int32))] [.null])) t
      refine XS.ifnonnullNo X0.here hx rfl (hb hby d2_20) rfl ?_
      show Steps p.tables e below (s₁.setTop (mkF m 23 #[.val (.ref a1), .val .null, .val (.int (0 : Int32))] [])) t
      refine XS.aloadN X0.here hx rfl (hb hby d2_23) rfl rfl ?_
      show Steps p.tables e below (s₁.setTop (mkF m 24 #[.val (.ref a1), .val .null, .val (.int (0 : Int32))] [(.ref a1)])) t
      refine XS.goto X0.here hx rfl (pc0 := 24) (pc' := 28) rfl (hb hby d2_24) (by decide) (by decide) ?_
      exact kk
    obtain ⟨fs, hr, hrun, hended, hW, hsame⟩ := X0.leave (v := some (.ref a1)) (fun h => by rw [Bd.returns] at h; cases h)
    refine ⟨_, _, c34 _ ?_, hrun, hended, _, _, rfl, ?_, ⟨_, rfl⟩, hW, hsame.mono (by decide) (by decide)⟩
    · exact retOut X0 hx Bd.returns rfl (Or.inr (Or.inr (Or.inr (Or.inr ⟨rfl, rfl, rfl⟩)))) (hb hby d2_28) hr
    · show Q_ka_rn Z k1 k2 a1 kc1 z1 vs1 d1 h0 n0 _ s₁.heap _
      rw [e0]
      exact ⟨by simp [own_ka, h6, hn1, hn2, hk1], N0, rfl⟩
theorem ef_ka_rr (m : MethodId) (x0 : Addr) (x1 : Addr) : entryFrame m #[(.ref x0), (.ref x1)] 3 = mkF m 0 #[.val (.ref x0), .val (.ref x1), .unset] [] := by (first | (simp [entryFrame, mkF, argsToLocals, Value.category]; done) | rfl)
def Q_ka_rr (Z : State) (k1 : Nat) (k2 : Nat) (a1 : Addr) (kc1 : ClassId) (z1 : Int32) (vs1 : List Value) (d1 : Value) (a2 : Addr) (kc2 : ClassId) (z2 : Int32) (vs2 : List Value) (d2 : Value) (h0 : Heap) (n0 : Nat) (v : Option Value) (h : Heap) (L : List Loc) : Prop := v = some (own_ka (.ref a1) k1 (.ref a2) k2) ∧ Fr n0 L ∧ h = h0
set_option maxRecDepth 65536 in
set_option maxHeartbeats 40000000 in
theorem rm_ka_rr (l : Launch) (Z : State) (a0 : Array Value) (hw : ∀ d ∈ tables_1, d.before a0 Z = true) (ws : List Jvm.Cond) (k1 : Nat) (k2 : Nat) (a1 : Addr) (kc1 : ClassId) (z1 : Int32) (vs1 : List Value) (d1 : Value) (a2 : Addr) (kc2 : ClassId) (z2 : Int32) (vs2 : List Value) (d2 : Value) (h0 : Heap) (n0 : Nat) (Z0 : n0 ≤ h0.size) (V1 : Arv Z h0 a1 kc1 .byte z1 vs1 d1) (hk1 : k1 = 2 ↔ (0 : Int32) < z1) (hn1 : k1 ≠ 0) (V2 : Arv Z h0 a2 kc2 .byte z2 vs2 d2) (hk2 : k2 = 2 ↔ (0 : Int32) < z2) (hn2 : k2 ≠ 0) :
    MetFree l (⟨"com/example/ordered_ledger_store/orderedledgerstore/storage/RecordKind", "keyAfter", "([B[B)[B"⟩ : MethodName) (head1 (Jvm.Cond.code (⟨"com/example/ordered_ledger_store/orderedledgerstore/storage/RecordKind", "keyAfter", "([B[B)[B"⟩ : MethodName) prog_64_method_7_code 3 (some (.array .byte)) :: ws) ({ frames := 0, cells := 0, slots := 0, locals := 0 } : Room)) (fun a U => a = #[(.ref a1), (.ref a2)] ∧ Z.Warmed39 U.vm ∧ U.heap = h0) (fun _ _ _ _ _ => True) (fun _ U o U' => ∃ v L, o = .returned v ∧ Q_ka_rr Z k1 k2 a1 kc1 z1 vs1 d1 a2 kc2 z2 vs2 d2 h0 n0 v U'.heap L ∧ FrameEnd U o U' L ({ frames := 0, cells := 0, slots := 0, locals := 0 } : Room).cells ({ frames := 0, cells := 0, slots := 0, locals := 0 } : Room).slots) := by
  refine MetFree.of_bodySF (plainFor_of_name pn_2) hisR ?_
  intro p e s m args below meth c s₁ Bd hml0 hP hK
  obtain ⟨rfl, hZ, hh⟩ := hP
  have hx := Bd.exec
  have hby := Bd.bytes
  have hml : c.maxLocals = 3 := hml0
  have hown : s.vm.findClass "com/example/ordered_ledger_store/orderedledgerstore/storage/RecordKind" = some m.cls := findClass_of_methodNamed Bd.named
  have hnm := (name_of_methodNamed Bd.named Bd.method).1
  have X0 : Stand p l e ({ frames := 0, cells := 0, slots := 0, locals := 0 } : Room) s m #[(.ref a1), (.ref a2)] below meth c s₁ [] 0 0 := Stand.of_body Bd
  have e0 : s₁.heap = h0 := by rw [← hh, Bd.state]; rfl
  have N0 := Fr.nil n0
  have c0 : Goes p e below s₁ (entryFrame m #[(.ref a1), (.ref a2)] 3) s₁ (mkF m 0 #[.val (.ref a1), .val (.ref a2), .unset] []) := fun t k => castTop (ef_ka_rr m a1 a2) k
  obtain ⟨cl35, Ar35, q35, Sz35, Nn35, Hh35, Gg35⟩ := id V1
  have c36 : Goes p e below s₁ (entryFrame m #[(.ref a1), (.ref a2)] 3) s₁ (mkF m 6 #[.val (.ref a1), .val (.ref a2), .unset] [(.int z1)]) := by
    intro t kk
    refine c0 t ?_
    show Steps p.tables e below (s₁.setTop (mkF m 0 #[.val (.ref a1), .val (.ref a2), .unset] [])) t
    refine XS.aloadN X0.here hx rfl (hb hby d2_0) rfl rfl ?_
    show Steps p.tables e below (s₁.setTop (mkF m 1 #[.val (.ref a1), .val (.ref a2), .unset] [(.ref a1)])) t
    refine XS.ifnullNo X0.here hx rfl (hb hby d2_1) rfl ?_
    show Steps p.tables e below (s₁.setTop (mkF m 4 #[.val (.ref a1), .val (.ref a2), .unset] [])) t
    refine XS.aloadN X0.here hx rfl (hb hby d2_4) rfl rfl ?_
    show Steps p.tables e below (s₁.setTop (mkF m 5 #[.val (.ref a1), .val (.ref a2), .unset] [(.ref a1)])) t
    refine X0.arraylength hx (by rw [e0]; exact Ar35.1) (State.isArrayOf_alike hZ.alike Ar35.2.1) (g := (mkF m 5 #[.val (.ref a1), .val (.ref a2), .unset] [(.ref a1)])) rfl rfl (hb hby d2_5) _ ?_
    rw [len_of Sz35 Nn35]
    exact kk
  by_cases h6 : (0 : Int32) < z1
  · have c37 : Goes p e below s₁ (entryFrame m #[(.ref a1), (.ref a2)] 3) s₁ (mkF m 28 #[.val (.ref a1), .val (.ref a2), .val (.int (1 : Int32))] [(.ref a1)]) := by
      intro t kk
      refine c36 t ?_
      show Steps p.tables e below (s₁.setTop (mkF m 6 #[.val (.ref a1), .val (.ref a2), .unset] [(.int z1)])) t
      refine XS.ifNo X0.here hx rfl (hb hby d2_6) rfl ((if0 _ _).trans (tlt h6).2.2.2) ?_
      show Steps p.tables e below (s₁.setTop (mkF m 9 #[.val (.ref a1), .val (.ref a2), .unset] [])) t
      refine XS.iconst X0.here hx rfl (hb hby d2_9) ?_
      show Steps p.tables e below (s₁.setTop (mkF m 10 #[.val (.ref a1), .val (.ref a2), .unset] [(.int (1 : Int32))])) t
      refine XS.goto X0.here hx rfl (pc0 := 10) (pc' := 14) rfl (hb hby d2_10) (by decide) (by decide) ?_
      show Steps p.tables e below (s₁.setTop (mkF m 14 #[.val (.ref a1), .val (.ref a2), .unset] [(.int (1 : Int32))])) t
      refine XS.istoreN X0.here hx rfl (hb hby d2_14) rfl (l' := #[.val (.ref a1), .val (.ref a2), .val (.int (1 : Int32))]) rfl ?_
      show Steps p.tables e below (s₁.setTop (mkF m 15 #[.val (.ref a1), .val (.ref a2), .val (.int (1 : Int32))] [])) t
      refine XS.iloadN X0.here hx rfl (hb hby d2_15) rfl ?_
      show Steps p.tables e below (s₁.setTop (mkF m 16 #[.val (.ref a1), .val (.ref a2), .val (.int (1 : Int32))] [(.int (1 : Int32))])) t
      refine XS.ifYes X0.here hx rfl (pc0 := 16) (pc' := 23) rfl (hb hby d2_16) rfl ((if0 _ _).trans (feq (by decide : ¬ ((1 : Int32) = (0 : Int32)))).2) (by decide) (by decide) ?_
      show Steps p.tables e below (s₁.setTop (mkF m 23 #[.val (.ref a1), .val (.ref a2), .val (.int (1 : Int32))] [])) t
      refine XS.aloadN X0.here hx rfl (hb hby d2_23) rfl rfl ?_
      show Steps p.tables e below (s₁.setTop (mkF m 24 #[.val (.ref a1), .val (.ref a2), .val (.int (1 : Int32))] [(.ref a1)])) t
      refine XS.goto X0.here hx rfl (pc0 := 24) (pc' := 28) rfl (hb hby d2_24) (by decide) (by decide) ?_
      exact kk
    obtain ⟨fs, hr, hrun, hended, hW, hsame⟩ := X0.leave (v := some (.ref a1)) (fun h => by rw [Bd.returns] at h; cases h)
    refine ⟨_, _, c37 _ ?_, hrun, hended, _, _, rfl, ?_, ⟨_, rfl⟩, hW, hsame.mono (by decide) (by decide)⟩
    · exact retOut X0 hx Bd.returns rfl (Or.inr (Or.inr (Or.inr (Or.inr ⟨rfl, rfl, rfl⟩)))) (hb hby d2_28) hr
    · show Q_ka_rr Z k1 k2 a1 kc1 z1 vs1 d1 a2 kc2 z2 vs2 d2 h0 n0 _ s₁.heap _
      rw [e0]
      exact ⟨by simp [own_ka, h6, hn1, hn2, hk1], N0, rfl⟩
  · have c38 : Goes p e below s₁ (entryFrame m #[(.ref a1), (.ref a2)] 3) s₁ (mkF m 28 #[.val (.ref a1), .val (.ref a2), .val (.int (0 : Int32))] [(.ref a2)]) := by
      intro t kk
      refine c36 t ?_
      show Steps p.tables e below (s₁.setTop (mkF m 6 #[.val (.ref a1), .val (.ref a2), .unset] [(.int z1)])) t
      refine XS.ifYes X0.here hx rfl (pc0 := 6) (pc' := 13) rfl (hb hby d2_6) rfl ((if0 _ _).trans (flt h6).2.2.2) (by decide) (by decide) ?_
      show Steps p.tables e below (s₁.setTop (mkF m 13 #[.val (.ref a1), .val (.ref a2), .unset] [])) t
      refine XS.iconst X0.here hx rfl (hb hby d2_13) ?_
      show Steps p.tables e below (s₁.setTop (mkF m 14 #[.val (.ref a1), .val (.ref a2), .unset] [(.int (0 : Int32))])) t
      refine XS.istoreN X0.here hx rfl (hb hby d2_14) rfl (l' := #[.val (.ref a1), .val (.ref a2), .val (.int (0 : Int32))]) rfl ?_
      show Steps p.tables e below (s₁.setTop (mkF m 15 #[.val (.ref a1), .val (.ref a2), .val (.int (0 : Int32))] [])) t
      refine XS.iloadN X0.here hx rfl (hb hby d2_15) rfl ?_
      show Steps p.tables e below (s₁.setTop (mkF m 16 #[.val (.ref a1), .val (.ref a2), .val (.int (0 : Int32))] [(.int (0 : Int32))])) t
      refine XS.ifNo X0.here hx rfl (hb hby d2_16) rfl ((if0 _ _).trans (teq (rfl : (0 : Int32) = (0 : Int32))).2) ?_
      show Steps p.tables e below (s₁.setTop (mkF m 19 #[.val (.ref a1), .val (.ref a2), .val (.int (0 : Int32))] [])) t
      refine XS.aloadN X0.here hx rfl (hb hby d2_19) rfl rfl ?_
      show Steps p.tables e below (s₁.setTop (mkF m 20 #[.val (.ref a1), .val (.ref a2), .val (.int (0 : Int32))] [(.ref a2)])) t
      refine XS.ifnonnullYes X0.here hx rfl (pc0 := 20) (pc' := 27) rfl (hb hby d2_20) rfl (by decide) (by decide) ?_
      show Steps p.tables e below (s₁.setTop (mkF m 27 #[.val (.ref a1), .val (.ref a2), .val (.int (0 : Int32))] [])) t
      refine XS.aloadN X0.here hx rfl (hb hby d2_27) rfl rfl ?_
      exact kk
    obtain ⟨fs, hr, hrun, hended, hW, hsame⟩ := X0.leave (v := some (.ref a2)) (fun h => by rw [Bd.returns] at h; cases h)
    refine ⟨_, _, c38 _ ?_, hrun, hended, _, _, rfl, ?_, ⟨_, rfl⟩, hW, hsame.mono (by decide) (by decide)⟩
    · exact retOut X0 hx Bd.returns rfl (Or.inr (Or.inr (Or.inr (Or.inr ⟨rfl, rfl, rfl⟩)))) (hb hby d2_28) hr
    · show Q_ka_rr Z k1 k2 a1 kc1 z1 vs1 d1 a2 kc2 z2 vs2 d2 h0 n0 _ s₁.heap _
      rw [e0]
      exact ⟨by simp [own_ka, h6, hn1, hn2, hk1], N0, rfl⟩
def Q_ka (Z : State) (x1 : Value) (k1 : Nat) (x2 : Value) (k2 : Nat) (h0 : Heap) (n0 : Nat) (v : Option Value) (h : Heap) (L : List Loc) : Prop := v = some (own_ka x1 k1 x2 k2) ∧ Fr n0 L ∧ h = h0
theorem rm_ka (l : Launch) (Z : State) (a0 : Array Value) (hw : ∀ d ∈ tables_1, d.before a0 Z = true) (ws : List Jvm.Cond) (x1 : Value) (k1 : Nat) (x2 : Value) (k2 : Nat) (h0 : Heap) (n0 : Nat) (Z0 : n0 ≤ h0.size) (K1 : own_key Z h0 x1 k1) (K2 : own_key Z h0 x2 k2) :
    MetFree l (⟨"com/example/ordered_ledger_store/orderedledgerstore/storage/RecordKind", "keyAfter", "([B[B)[B"⟩ : MethodName) (head1 (Jvm.Cond.code (⟨"com/example/ordered_ledger_store/orderedledgerstore/storage/RecordKind", "keyAfter", "([B[B)[B"⟩ : MethodName) prog_64_method_7_code 3 (some (.array .byte)) :: ws) ({ frames := 0, cells := 0, slots := 0, locals := 0 } : Room)) (fun a U => a = #[x1, x2] ∧ Z.Warmed39 U.vm ∧ U.heap = h0) (fun _ _ _ _ _ => True) (fun _ U o U' => ∃ v L, o = .returned v ∧ Q_ka Z x1 k1 x2 k2 h0 n0 v U'.heap L ∧ FrameEnd U o U' L ({ frames := 0, cells := 0, slots := 0, locals := 0 } : Room).cells ({ frames := 0, cells := 0, slots := 0, locals := 0 } : Room).slots) := by
  rcases K1 with ⟨hn1, rfl⟩ | ⟨hn1, a1, kc1, z1, vs1, d1, rfl, V1, hk1⟩ <;> rcases K2 with ⟨hn2, rfl⟩ | ⟨hn2, a2, kc2, z2, vs2, d2, rfl, V2, hk2⟩
  · exact rm_ka_nn l Z a0 hw ws k1 k2 h0 n0 Z0 hn1 hn2
  · exact rm_ka_nr l Z a0 hw ws k1 k2 a2 kc2 z2 vs2 d2 h0 n0 Z0 hn1 V2 hk2 hn2
  · exact rm_ka_rn l Z a0 hw ws k1 k2 a1 kc1 z1 vs1 d1 h0 n0 Z0 V1 hk1 hn1 hn2
  · exact rm_ka_rr l Z a0 hw ws k1 k2 a1 kc1 z1 vs1 d1 a2 kc2 z2 vs2 d2 h0 n0 Z0 V1 hk1 hn1 V2 hk2 hn2
theorem d3_0 : decode method_3_code 0 = .ok (.aload_n 0, 1) := by decide +kernel
theorem d3_1 : decode method_3_code 1 = .ok (.ifnull 12, 3) := by decide +kernel
theorem d3_13 : decode method_3_code 13 = .ok (.iconst 0, 1) := by decide +kernel
theorem d3_14 : decode method_3_code 14 = .ok (.ireturn, 1) := by decide +kernel
theorem ef_fu_n (m : MethodId)  : entryFrame m #[.null] 1 = mkF m 0 #[.val .null] [] := by (first | (simp [entryFrame, mkF, argsToLocals, Value.category]; done) | rfl)
def Q_fu_n (Z : State) (k1 : Nat) (h0 : Heap) (n0 : Nat) (v : Option Value) (h : Heap) (L : List Loc) : Prop := v = some (.int (own_full k1)) ∧ Fr n0 L ∧ h = h0
set_option maxRecDepth 65536 in
set_option maxHeartbeats 40000000 in
theorem rm_fu_n (l : Launch) (Z : State) (a0 : Array Value) (hw : ∀ d ∈ tables_1, d.before a0 Z = true) (ws : List Jvm.Cond) (k1 : Nat) (h0 : Heap) (n0 : Nat) (Z0 : n0 ≤ h0.size) (hn1 : k1 = 0) :
    MetFree l (⟨"com/example/ordered_ledger_store/orderedledgerstore/storage/RecordKindKeyAfterPinLaw", "full", "([B)Z"⟩ : MethodName) (head1 (Jvm.Cond.code (⟨"com/example/ordered_ledger_store/orderedledgerstore/storage/RecordKindKeyAfterPinLaw", "full", "([B)Z"⟩ : MethodName) method_3_code 1 (some .boolean) :: ws) ({ frames := 0, cells := 0, slots := 0, locals := 0 } : Room)) (fun a U => a = #[.null] ∧ Z.Warmed39 U.vm ∧ U.heap = h0) (fun _ _ _ _ _ => True) (fun _ U o U' => ∃ v L, o = .returned v ∧ Q_fu_n Z k1 h0 n0 v U'.heap L ∧ FrameEnd U o U' L ({ frames := 0, cells := 0, slots := 0, locals := 0 } : Room).cells ({ frames := 0, cells := 0, slots := 0, locals := 0 } : Room).slots) := by
  refine MetFree.of_bodySF (plainFor_of_name pn_1) hisR ?_
  intro p e s m args below meth c s₁ Bd hml0 hP hK
  obtain ⟨rfl, hZ, hh⟩ := hP
  have hx := Bd.exec
  have hby := Bd.bytes
  have hml : c.maxLocals = 1 := hml0
  have hown : s.vm.findClass "com/example/ordered_ledger_store/orderedledgerstore/storage/RecordKindKeyAfterPinLaw" = some m.cls := findClass_of_methodNamed Bd.named
  have hnm := (name_of_methodNamed Bd.named Bd.method).1
  have X0 : Stand p l e ({ frames := 0, cells := 0, slots := 0, locals := 0 } : Room) s m #[.null] below meth c s₁ [] 0 0 := Stand.of_body Bd
  have e0 : s₁.heap = h0 := by rw [← hh, Bd.state]; rfl
  have N0 := Fr.nil n0
  have c0 : Goes p e below s₁ (entryFrame m #[.null] 1) s₁ (mkF m 0 #[.val .null] []) := fun t k => castTop (ef_fu_n m ) k
  have c39 : Goes p e below s₁ (entryFrame m #[.null] 1) s₁ (mkF m 14 #[.val .null] [(.int (0 : Int32))]) := by
    intro t kk
    refine c0 t ?_
    show Steps p.tables e below (s₁.setTop (mkF m 0 #[.val .null] [])) t
    refine XS.aloadN X0.here hx rfl (hb hby d3_0) rfl rfl ?_
    show Steps p.tables e below (s₁.setTop (mkF m 1 #[.val .null] [.null])) t
    refine XS.ifnullYes X0.here hx rfl (pc0 := 1) (pc' := 13) rfl (hb hby d3_1) rfl (by decide) (by decide) ?_
    show Steps p.tables e below (s₁.setTop (mkF m 13 #[.val .null] [])) t
    refine XS.iconst X0.here hx rfl (hb hby d3_13) ?_
    exact kk
  obtain ⟨fs, hr, hrun, hended, hW, hsame⟩ := X0.leave (v := some (.int (0 : Int32))) (fun h => by rw [Bd.returns] at h; cases h)
  refine ⟨_, _, c39 _ ?_, hrun, hended, _, _, rfl, ?_, ⟨_, rfl⟩, hW, hsame.mono (by decide) (by decide)⟩
  · exact retN X0 hx (t := .boolean) Bd.returns (by simp) (hb hby d3_14) hr
  · show Q_fu_n Z k1 h0 n0 _ s₁.heap _
    rw [e0]
    exact ⟨by simp [own_full, hn1], N0, rfl⟩
theorem d3_4 : decode method_3_code 4 = .ok (.aload_n 0, 1) := by decide +kernel
theorem d3_5 : decode method_3_code 5 = .ok (.arraylength, 1) := by decide +kernel
theorem d3_6 : decode method_3_code 6 = .ok (.ifCond .le 7, 3) := by decide +kernel
theorem d3_9 : decode method_3_code 9 = .ok (.iconst 1, 1) := by decide +kernel
theorem d3_10 : decode method_3_code 10 = .ok (.goto 4, 3) := by decide +kernel
theorem ef_fu_r (m : MethodId) (x0 : Addr) : entryFrame m #[(.ref x0)] 1 = mkF m 0 #[.val (.ref x0)] [] := by (first | (simp [entryFrame, mkF, argsToLocals, Value.category]; done) | rfl)
def Q_fu_r (Z : State) (k1 : Nat) (a1 : Addr) (kc1 : ClassId) (z1 : Int32) (vs1 : List Value) (d1 : Value) (h0 : Heap) (n0 : Nat) (v : Option Value) (h : Heap) (L : List Loc) : Prop := v = some (.int (own_full k1)) ∧ Fr n0 L ∧ h = h0
set_option maxRecDepth 65536 in
set_option maxHeartbeats 40000000 in
theorem rm_fu_r (l : Launch) (Z : State) (a0 : Array Value) (hw : ∀ d ∈ tables_1, d.before a0 Z = true) (ws : List Jvm.Cond) (k1 : Nat) (a1 : Addr) (kc1 : ClassId) (z1 : Int32) (vs1 : List Value) (d1 : Value) (h0 : Heap) (n0 : Nat) (Z0 : n0 ≤ h0.size) (V1 : Arv Z h0 a1 kc1 .byte z1 vs1 d1) (hk1 : k1 = 2 ↔ (0 : Int32) < z1) :
    MetFree l (⟨"com/example/ordered_ledger_store/orderedledgerstore/storage/RecordKindKeyAfterPinLaw", "full", "([B)Z"⟩ : MethodName) (head1 (Jvm.Cond.code (⟨"com/example/ordered_ledger_store/orderedledgerstore/storage/RecordKindKeyAfterPinLaw", "full", "([B)Z"⟩ : MethodName) method_3_code 1 (some .boolean) :: ws) ({ frames := 0, cells := 0, slots := 0, locals := 0 } : Room)) (fun a U => a = #[(.ref a1)] ∧ Z.Warmed39 U.vm ∧ U.heap = h0) (fun _ _ _ _ _ => True) (fun _ U o U' => ∃ v L, o = .returned v ∧ Q_fu_r Z k1 a1 kc1 z1 vs1 d1 h0 n0 v U'.heap L ∧ FrameEnd U o U' L ({ frames := 0, cells := 0, slots := 0, locals := 0 } : Room).cells ({ frames := 0, cells := 0, slots := 0, locals := 0 } : Room).slots) := by
  refine MetFree.of_bodySF (plainFor_of_name pn_1) hisR ?_
  intro p e s m args below meth c s₁ Bd hml0 hP hK
  obtain ⟨rfl, hZ, hh⟩ := hP
  have hx := Bd.exec
  have hby := Bd.bytes
  have hml : c.maxLocals = 1 := hml0
  have hown : s.vm.findClass "com/example/ordered_ledger_store/orderedledgerstore/storage/RecordKindKeyAfterPinLaw" = some m.cls := findClass_of_methodNamed Bd.named
  have hnm := (name_of_methodNamed Bd.named Bd.method).1
  have X0 : Stand p l e ({ frames := 0, cells := 0, slots := 0, locals := 0 } : Room) s m #[(.ref a1)] below meth c s₁ [] 0 0 := Stand.of_body Bd
  have e0 : s₁.heap = h0 := by rw [← hh, Bd.state]; rfl
  have N0 := Fr.nil n0
  have c0 : Goes p e below s₁ (entryFrame m #[(.ref a1)] 1) s₁ (mkF m 0 #[.val (.ref a1)] []) := fun t k => castTop (ef_fu_r m a1) k
  obtain ⟨cl40, Ar40, q40, Sz40, Nn40, Hh40, Gg40⟩ := id V1
  have c41 : Goes p e below s₁ (entryFrame m #[(.ref a1)] 1) s₁ (mkF m 6 #[.val (.ref a1)] [(.int z1)]) := by
    intro t kk
    refine c0 t ?_
    show Steps p.tables e below (s₁.setTop (mkF m 0 #[.val (.ref a1)] [])) t
    refine XS.aloadN X0.here hx rfl (hb hby d3_0) rfl rfl ?_
    show Steps p.tables e below (s₁.setTop (mkF m 1 #[.val (.ref a1)] [(.ref a1)])) t
    refine XS.ifnullNo X0.here hx rfl (hb hby d3_1) rfl ?_
    show Steps p.tables e below (s₁.setTop (mkF m 4 #[.val (.ref a1)] [])) t
    refine XS.aloadN X0.here hx rfl (hb hby d3_4) rfl rfl ?_
    show Steps p.tables e below (s₁.setTop (mkF m 5 #[.val (.ref a1)] [(.ref a1)])) t
    refine X0.arraylength hx (by rw [e0]; exact Ar40.1) (State.isArrayOf_alike hZ.alike Ar40.2.1) (g := (mkF m 5 #[.val (.ref a1)] [(.ref a1)])) rfl rfl (hb hby d3_5) _ ?_
    rw [len_of Sz40 Nn40]
    exact kk
  by_cases h6 : (0 : Int32) < z1
  · have c42 : Goes p e below s₁ (entryFrame m #[(.ref a1)] 1) s₁ (mkF m 14 #[.val (.ref a1)] [(.int (1 : Int32))]) := by
      intro t kk
      refine c41 t ?_
      show Steps p.tables e below (s₁.setTop (mkF m 6 #[.val (.ref a1)] [(.int z1)])) t
      refine XS.ifNo X0.here hx rfl (hb hby d3_6) rfl ((if0 _ _).trans (tlt h6).2.2.2) ?_
      show Steps p.tables e below (s₁.setTop (mkF m 9 #[.val (.ref a1)] [])) t
      refine XS.iconst X0.here hx rfl (hb hby d3_9) ?_
      show Steps p.tables e below (s₁.setTop (mkF m 10 #[.val (.ref a1)] [(.int (1 : Int32))])) t
      refine XS.goto X0.here hx rfl (pc0 := 10) (pc' := 14) rfl (hb hby d3_10) (by decide) (by decide) ?_
      exact kk
    obtain ⟨fs, hr, hrun, hended, hW, hsame⟩ := X0.leave (v := some (.int (1 : Int32))) (fun h => by rw [Bd.returns] at h; cases h)
    refine ⟨_, _, c42 _ ?_, hrun, hended, _, _, rfl, ?_, ⟨_, rfl⟩, hW, hsame.mono (by decide) (by decide)⟩
    · exact retN X0 hx (t := .boolean) Bd.returns (by simp) (hb hby d3_14) hr
    · show Q_fu_r Z k1 a1 kc1 z1 vs1 d1 h0 n0 _ s₁.heap _
      rw [e0]
      exact ⟨by simp [own_full, h6, hk1], N0, rfl⟩
  · have c43 : Goes p e below s₁ (entryFrame m #[(.ref a1)] 1) s₁ (mkF m 14 #[.val (.ref a1)] [(.int (0 : Int32))]) := by
      intro t kk
      refine c41 t ?_
      show Steps p.tables e below (s₁.setTop (mkF m 6 #[.val (.ref a1)] [(.int z1)])) t
      refine XS.ifYes X0.here hx rfl (pc0 := 6) (pc' := 13) rfl (hb hby d3_6) rfl ((if0 _ _).trans (flt h6).2.2.2) (by decide) (by decide) ?_
      show Steps p.tables e below (s₁.setTop (mkF m 13 #[.val (.ref a1)] [])) t
      refine XS.iconst X0.here hx rfl (hb hby d3_13) ?_
      exact kk
    obtain ⟨fs, hr, hrun, hended, hW, hsame⟩ := X0.leave (v := some (.int (0 : Int32))) (fun h => by rw [Bd.returns] at h; cases h)
    refine ⟨_, _, c43 _ ?_, hrun, hended, _, _, rfl, ?_, ⟨_, rfl⟩, hW, hsame.mono (by decide) (by decide)⟩
    · exact retN X0 hx (t := .boolean) Bd.returns (by simp) (hb hby d3_14) hr
    · show Q_fu_r Z k1 a1 kc1 z1 vs1 d1 h0 n0 _ s₁.heap _
      rw [e0]
      exact ⟨by simp [own_full, h6, hk1], N0, rfl⟩
def Q_fu (Z : State) (x1 : Value) (k1 : Nat) (h0 : Heap) (n0 : Nat) (v : Option Value) (h : Heap) (L : List Loc) : Prop := v = some (.int (own_full k1)) ∧ Fr n0 L ∧ h = h0
theorem rm_fu (l : Launch) (Z : State) (a0 : Array Value) (hw : ∀ d ∈ tables_1, d.before a0 Z = true) (ws : List Jvm.Cond) (x1 : Value) (k1 : Nat) (h0 : Heap) (n0 : Nat) (Z0 : n0 ≤ h0.size) (K1 : own_key Z h0 x1 k1) :
    MetFree l (⟨"com/example/ordered_ledger_store/orderedledgerstore/storage/RecordKindKeyAfterPinLaw", "full", "([B)Z"⟩ : MethodName) (head1 (Jvm.Cond.code (⟨"com/example/ordered_ledger_store/orderedledgerstore/storage/RecordKindKeyAfterPinLaw", "full", "([B)Z"⟩ : MethodName) method_3_code 1 (some .boolean) :: ws) ({ frames := 0, cells := 0, slots := 0, locals := 0 } : Room)) (fun a U => a = #[x1] ∧ Z.Warmed39 U.vm ∧ U.heap = h0) (fun _ _ _ _ _ => True) (fun _ U o U' => ∃ v L, o = .returned v ∧ Q_fu Z x1 k1 h0 n0 v U'.heap L ∧ FrameEnd U o U' L ({ frames := 0, cells := 0, slots := 0, locals := 0 } : Room).cells ({ frames := 0, cells := 0, slots := 0, locals := 0 } : Room).slots) := by
  rcases K1 with ⟨hn1, rfl⟩ | ⟨hn1, a1, kc1, z1, vs1, d1, rfl, V1, hk1⟩
  · exact rm_fu_n l Z a0 hw ws k1 h0 n0 Z0 hn1
  · exact rm_fu_r l Z a0 hw ws k1 a1 kc1 z1 vs1 d1 h0 n0 Z0 V1 hk1
theorem d4_0 : decode method_4_code 0 = .ok (.aload_n 0, 1) := by decide +kernel
theorem d4_1 : decode method_4_code 1 = .ok (.ifnull 7, 3) := by decide +kernel
theorem d4_8 : decode method_4_code 8 = .ok (.aload_n 0, 1) := by decide +kernel
theorem d4_9 : decode method_4_code 9 = .ok (.aload_n 1, 1) := by decide +kernel
theorem d4_10 : decode method_4_code 10 = .ok (.if_acmp .ne 7, 3) := by decide +kernel
theorem d4_13 : decode method_4_code 13 = .ok (.iconst 1, 1) := by decide +kernel
theorem d4_14 : decode method_4_code 14 = .ok (.goto 4, 3) := by decide +kernel
theorem d4_18 : decode method_4_code 18 = .ok (.ireturn, 1) := by decide +kernel
theorem ef_sk_n (m : MethodId)  : entryFrame m #[.null, .null] 2 = mkF m 0 #[.val .null, .val .null] [] := by (first | (simp [entryFrame, mkF, argsToLocals, Value.category]; done) | rfl)
def Q_sk_n (Z : State)  (h0 : Heap) (n0 : Nat) (v : Option Value) (h : Heap) (L : List Loc) : Prop := v = some (.int 1) ∧ Fr n0 L ∧ h = h0
set_option maxRecDepth 65536 in
set_option maxHeartbeats 40000000 in
theorem rm_sk_n (l : Launch) (Z : State) (a0 : Array Value) (hw : ∀ d ∈ tables_1, d.before a0 Z = true) (ws : List Jvm.Cond)  (h0 : Heap) (n0 : Nat) (Z0 : n0 ≤ h0.size)  :
    MetFree l (⟨"com/example/ordered_ledger_store/orderedledgerstore/storage/RecordKindKeyAfterPinLaw", "sameKey", "([B[B)Z"⟩ : MethodName) (head1 (Jvm.Cond.code (⟨"com/example/ordered_ledger_store/orderedledgerstore/storage/RecordKindKeyAfterPinLaw", "sameKey", "([B[B)Z"⟩ : MethodName) method_4_code 2 (some .boolean) :: ws) ({ frames := 0, cells := 0, slots := 0, locals := 0 } : Room)) (fun a U => a = #[.null, .null] ∧ Z.Warmed39 U.vm ∧ U.heap = h0) (fun _ _ _ _ _ => True) (fun _ U o U' => ∃ v L, o = .returned v ∧ Q_sk_n Z  h0 n0 v U'.heap L ∧ FrameEnd U o U' L ({ frames := 0, cells := 0, slots := 0, locals := 0 } : Room).cells ({ frames := 0, cells := 0, slots := 0, locals := 0 } : Room).slots) := by
  refine MetFree.of_bodySF (plainFor_of_name pn_1) hisR ?_
  intro p e s m args below meth c s₁ Bd hml0 hP hK
  obtain ⟨rfl, hZ, hh⟩ := hP
  have hx := Bd.exec
  have hby := Bd.bytes
  have hml : c.maxLocals = 2 := hml0
  have hown : s.vm.findClass "com/example/ordered_ledger_store/orderedledgerstore/storage/RecordKindKeyAfterPinLaw" = some m.cls := findClass_of_methodNamed Bd.named
  have hnm := (name_of_methodNamed Bd.named Bd.method).1
  have X0 : Stand p l e ({ frames := 0, cells := 0, slots := 0, locals := 0 } : Room) s m #[.null, .null] below meth c s₁ [] 0 0 := Stand.of_body Bd
  have e0 : s₁.heap = h0 := by rw [← hh, Bd.state]; rfl
  have N0 := Fr.nil n0
  have c0 : Goes p e below s₁ (entryFrame m #[.null, .null] 2) s₁ (mkF m 0 #[.val .null, .val .null] []) := fun t k => castTop (ef_sk_n m ) k
  have c44 : Goes p e below s₁ (entryFrame m #[.null, .null] 2) s₁ (mkF m 18 #[.val .null, .val .null] [(.int (1 : Int32))]) := by
    intro t kk
    refine c0 t ?_
    show Steps p.tables e below (s₁.setTop (mkF m 0 #[.val .null, .val .null] [])) t
    refine XS.aloadN X0.here hx rfl (hb hby d4_0) rfl rfl ?_
    show Steps p.tables e below (s₁.setTop (mkF m 1 #[.val .null, .val .null] [.null])) t
    refine XS.ifnullYes X0.here hx rfl (pc0 := 1) (pc' := 8) rfl (hb hby d4_1) rfl (by decide) (by decide) ?_
    show Steps p.tables e below (s₁.setTop (mkF m 8 #[.val .null, .val .null] [])) t
    refine XS.aloadN X0.here hx rfl (hb hby d4_8) rfl rfl ?_
    show Steps p.tables e below (s₁.setTop (mkF m 9 #[.val .null, .val .null] [.null])) t
    refine XS.aloadN X0.here hx rfl (hb hby d4_9) rfl rfl ?_
    show Steps p.tables e below (s₁.setTop (mkF m 10 #[.val .null, .val .null] [.null, .null])) t
    refine Jvm.RoadKit.acmp (g := (mkF m 10 #[.val .null, .val .null] [.null, .null])) X0 hx rfl rfl rfl (pc0 := 10) (pc' := 13) (same := true) rfl (hb hby d4_10) rfl (decide_eq_true rfl) (by decide) (by decide) ?_
    show Steps p.tables e below (s₁.setTop (mkF m 13 #[.val .null, .val .null] [])) t
    refine XS.iconst X0.here hx rfl (hb hby d4_13) ?_
    show Steps p.tables e below (s₁.setTop (mkF m 14 #[.val .null, .val .null] [(.int (1 : Int32))])) t
    refine XS.goto X0.here hx rfl (pc0 := 14) (pc' := 18) rfl (hb hby d4_14) (by decide) (by decide) ?_
    exact kk
  obtain ⟨fs, hr, hrun, hended, hW, hsame⟩ := X0.leave (v := some (.int (1 : Int32))) (fun h => by rw [Bd.returns] at h; cases h)
  refine ⟨_, _, c44 _ ?_, hrun, hended, _, _, rfl, ?_, ⟨_, rfl⟩, hW, hsame.mono (by decide) (by decide)⟩
  · exact retN X0 hx (t := .boolean) Bd.returns (by simp) (hb hby d4_18) hr
  · show Q_sk_n Z  h0 n0 _ s₁.heap _
    rw [e0]
    exact ⟨rfl, N0, rfl⟩
theorem d4_4 : decode method_4_code 4 = .ok (.aload_n 1, 1) := by decide +kernel
theorem d4_5 : decode method_4_code 5 = .ok (.ifnonnull 14, 3) := by decide +kernel
theorem d4_19 : decode method_4_code 19 = .ok (.aload_n 0, 1) := by decide +kernel
theorem d4_20 : decode method_4_code 20 = .ok (.arraylength, 1) := by decide +kernel
theorem d4_21 : decode method_4_code 21 = .ok (.aload_n 1, 1) := by decide +kernel
theorem d4_22 : decode method_4_code 22 = .ok (.arraylength, 1) := by decide +kernel
theorem d4_23 : decode method_4_code 23 = .ok (.if_icmp .eq 5, 3) := by decide +kernel
theorem d4_28 : decode method_4_code 28 = .ok (.aload_n 0, 1) := by decide +kernel
theorem d4_29 : decode method_4_code 29 = .ok (.arraylength, 1) := by decide +kernel
theorem d4_30 : decode method_4_code 30 = .ok (.iconst 1, 1) := by decide +kernel
theorem d4_31 : decode method_4_code 31 = .ok (.if_icmp .lt 14, 3) := by decide +kernel
theorem d4_34 : decode method_4_code 34 = .ok (.aload_n 0, 1) := by decide +kernel
theorem d4_35 : decode method_4_code 35 = .ok (.iconst 0, 1) := by decide +kernel
theorem d4_36 : decode method_4_code 36 = .ok (.baload, 1) := by decide +kernel
theorem d4_37 : decode method_4_code 37 = .ok (.aload_n 1, 1) := by decide +kernel
theorem d4_38 : decode method_4_code 38 = .ok (.iconst 0, 1) := by decide +kernel
theorem d4_39 : decode method_4_code 39 = .ok (.baload, 1) := by decide +kernel
theorem d4_40 : decode method_4_code 40 = .ok (.if_icmp .eq 5, 3) := by decide +kernel
theorem d4_45 : decode method_4_code 45 = .ok (.aload_n 0, 1) := by decide +kernel
theorem d4_46 : decode method_4_code 46 = .ok (.arraylength, 1) := by decide +kernel
theorem d4_47 : decode method_4_code 47 = .ok (.iconst 2, 1) := by decide +kernel
theorem d4_48 : decode method_4_code 48 = .ok (.if_icmp .lt 14, 3) := by decide +kernel
theorem d4_51 : decode method_4_code 51 = .ok (.aload_n 0, 1) := by decide +kernel
theorem d4_52 : decode method_4_code 52 = .ok (.iconst 1, 1) := by decide +kernel
theorem d4_53 : decode method_4_code 53 = .ok (.baload, 1) := by decide +kernel
theorem d4_54 : decode method_4_code 54 = .ok (.aload_n 1, 1) := by decide +kernel
theorem d4_55 : decode method_4_code 55 = .ok (.iconst 1, 1) := by decide +kernel
theorem d4_56 : decode method_4_code 56 = .ok (.baload, 1) := by decide +kernel
theorem d4_57 : decode method_4_code 57 = .ok (.if_icmp .eq 5, 3) := by decide +kernel
theorem d4_62 : decode method_4_code 62 = .ok (.iconst 1, 1) := by decide +kernel
theorem d4_63 : decode method_4_code 63 = .ok (.ireturn, 1) := by decide +kernel
theorem ef_sk_r (m : MethodId) (x0 : Addr) (x1 : Addr) : entryFrame m #[(.ref x0), (.ref x1)] 2 = mkF m 0 #[.val (.ref x0), .val (.ref x1)] [] := by (first | (simp [entryFrame, mkF, argsToLocals, Value.category]; done) | rfl)
def Q_sk_r (Z : State) (a1 : Addr) (kc1 : ClassId) (z1 : Int32) (vs1 : List Value) (d1 : Value) (h0 : Heap) (n0 : Nat) (v : Option Value) (h : Heap) (L : List Loc) : Prop := v = some (.int 1) ∧ Fr n0 L ∧ h = h0
set_option maxRecDepth 65536 in
set_option maxHeartbeats 40000000 in
theorem rm_sk_r (l : Launch) (Z : State) (a0 : Array Value) (hw : ∀ d ∈ tables_1, d.before a0 Z = true) (ws : List Jvm.Cond) (a1 : Addr) (kc1 : ClassId) (z1 : Int32) (vs1 : List Value) (d1 : Value) (h0 : Heap) (n0 : Nat) (Z0 : n0 ≤ h0.size) (V1 : Arv Z h0 a1 kc1 .byte z1 vs1 d1) :
    MetFree l (⟨"com/example/ordered_ledger_store/orderedledgerstore/storage/RecordKindKeyAfterPinLaw", "sameKey", "([B[B)Z"⟩ : MethodName) (head1 (Jvm.Cond.code (⟨"com/example/ordered_ledger_store/orderedledgerstore/storage/RecordKindKeyAfterPinLaw", "sameKey", "([B[B)Z"⟩ : MethodName) method_4_code 2 (some .boolean) :: ws) ({ frames := 0, cells := 0, slots := 0, locals := 0 } : Room)) (fun a U => a = #[(.ref a1), (.ref a1)] ∧ Z.Warmed39 U.vm ∧ U.heap = h0) (fun _ _ _ _ _ => True) (fun _ U o U' => ∃ v L, o = .returned v ∧ Q_sk_r Z a1 kc1 z1 vs1 d1 h0 n0 v U'.heap L ∧ FrameEnd U o U' L ({ frames := 0, cells := 0, slots := 0, locals := 0 } : Room).cells ({ frames := 0, cells := 0, slots := 0, locals := 0 } : Room).slots) := by
  refine MetFree.of_bodySF (plainFor_of_name pn_1) hisR ?_
  intro p e s m args below meth c s₁ Bd hml0 hP hK
  obtain ⟨rfl, hZ, hh⟩ := hP
  have hx := Bd.exec
  have hby := Bd.bytes
  have hml : c.maxLocals = 2 := hml0
  have hown : s.vm.findClass "com/example/ordered_ledger_store/orderedledgerstore/storage/RecordKindKeyAfterPinLaw" = some m.cls := findClass_of_methodNamed Bd.named
  have hnm := (name_of_methodNamed Bd.named Bd.method).1
  have X0 : Stand p l e ({ frames := 0, cells := 0, slots := 0, locals := 0 } : Room) s m #[(.ref a1), (.ref a1)] below meth c s₁ [] 0 0 := Stand.of_body Bd
  have e0 : s₁.heap = h0 := by rw [← hh, Bd.state]; rfl
  have N0 := Fr.nil n0
  have c0 : Goes p e below s₁ (entryFrame m #[(.ref a1), (.ref a1)] 2) s₁ (mkF m 0 #[.val (.ref a1), .val (.ref a1)] []) := fun t k => castTop (ef_sk_r m a1 a1) k
  obtain ⟨cl45, Ar45, q45, Sz45, Nn45, Hh45, Gg45⟩ := id V1
  obtain ⟨cl46, Ar46, q46, Sz46, Nn46, Hh46, Gg46⟩ := id V1
  obtain ⟨cl47, Ar47, q47, Sz47, Nn47, Hh47, Gg47⟩ := id V1
  have c48 : Goes p e below s₁ (entryFrame m #[(.ref a1), (.ref a1)] 2) s₁ (mkF m 31 #[.val (.ref a1), .val (.ref a1)] [(.int (1 : Int32)), (.int z1)]) := by
    intro t kk
    refine c0 t ?_
    show Steps p.tables e below (s₁.setTop (mkF m 0 #[.val (.ref a1), .val (.ref a1)] [])) t
    refine XS.aloadN X0.here hx rfl (hb hby d4_0) rfl rfl ?_
    show Steps p.tables e below (s₁.setTop (mkF m 1 #[.val (.ref a1), .val (.ref a1)] [(.ref a1)])) t
    refine XS.ifnullNo X0.here hx rfl (hb hby d4_1) rfl ?_
    show Steps p.tables e below (s₁.setTop (mkF m 4 #[.val (.ref a1), .val (.ref a1)] [])) t
    refine XS.aloadN X0.here hx rfl (hb hby d4_4) rfl rfl ?_
    show Steps p.tables e below (s₁.setTop (mkF m 5 #[.val (.ref a1), .val (.ref a1)] [(.ref a1)])) t
    refine XS.ifnonnullYes X0.here hx rfl (pc0 := 5) (pc' := 19) rfl (hb hby d4_5) rfl (by decide) (by decide) ?_
    show Steps p.tables e below (s₁.setTop (mkF m 19 #[.val (.ref a1), .val (.ref a1)] [])) t
    refine XS.aloadN X0.here hx rfl (hb hby d4_19) rfl rfl ?_
    show Steps p.tables e below (s₁.setTop (mkF m 20 #[.val (.ref a1), .val (.ref a1)] [(.ref a1)])) t
    refine X0.arraylength hx (by rw [e0]; exact Ar45.1) (State.isArrayOf_alike hZ.alike Ar45.2.1) (g := (mkF m 20 #[.val (.ref a1), .val (.ref a1)] [(.ref a1)])) rfl rfl (hb hby d4_20) _ ?_
    rw [len_of Sz45 Nn45]
    show Steps p.tables e below (s₁.setTop (mkF m 21 #[.val (.ref a1), .val (.ref a1)] [(.int z1)])) t
    refine XS.aloadN X0.here hx rfl (hb hby d4_21) rfl rfl ?_
    show Steps p.tables e below (s₁.setTop (mkF m 22 #[.val (.ref a1), .val (.ref a1)] [(.ref a1), (.int z1)])) t
    refine X0.arraylength hx (by rw [e0]; exact Ar46.1) (State.isArrayOf_alike hZ.alike Ar46.2.1) (g := (mkF m 22 #[.val (.ref a1), .val (.ref a1)] [(.ref a1), (.int z1)])) rfl rfl (hb hby d4_22) _ ?_
    rw [len_of Sz46 Nn46]
    show Steps p.tables e below (s₁.setTop (mkF m 23 #[.val (.ref a1), .val (.ref a1)] [(.int z1), (.int z1)])) t
    refine XS.icmpYes X0.here hx rfl (pc0 := 23) (pc' := 28) rfl (hb hby d4_23) rfl (teq (rfl : z1 = z1)).1 (by decide) (by decide) ?_
    show Steps p.tables e below (s₁.setTop (mkF m 28 #[.val (.ref a1), .val (.ref a1)] [])) t
    refine XS.aloadN X0.here hx rfl (hb hby d4_28) rfl rfl ?_
    show Steps p.tables e below (s₁.setTop (mkF m 29 #[.val (.ref a1), .val (.ref a1)] [(.ref a1)])) t
    refine X0.arraylength hx (by rw [e0]; exact Ar47.1) (State.isArrayOf_alike hZ.alike Ar47.2.1) (g := (mkF m 29 #[.val (.ref a1), .val (.ref a1)] [(.ref a1)])) rfl rfl (hb hby d4_29) _ ?_
    rw [len_of Sz47 Nn47]
    show Steps p.tables e below (s₁.setTop (mkF m 30 #[.val (.ref a1), .val (.ref a1)] [(.int z1)])) t
    refine XS.iconst X0.here hx rfl (hb hby d4_30) ?_
    exact kk
  by_cases h31 : z1 < (1 : Int32)
  · obtain ⟨cl49, Ar49, q49, Sz49, Nn49, Hh49, Gg49⟩ := id V1
    have c50 : Goes p e below s₁ (entryFrame m #[(.ref a1), (.ref a1)] 2) s₁ (mkF m 48 #[.val (.ref a1), .val (.ref a1)] [(.int (2 : Int32)), (.int z1)]) := by
      intro t kk
      refine c48 t ?_
      show Steps p.tables e below (s₁.setTop (mkF m 31 #[.val (.ref a1), .val (.ref a1)] [(.int (1 : Int32)), (.int z1)])) t
      refine XS.icmpYes X0.here hx rfl (pc0 := 31) (pc' := 45) rfl (hb hby d4_31) rfl (tlt h31).1 (by decide) (by decide) ?_
      show Steps p.tables e below (s₁.setTop (mkF m 45 #[.val (.ref a1), .val (.ref a1)] [])) t
      refine XS.aloadN X0.here hx rfl (hb hby d4_45) rfl rfl ?_
      show Steps p.tables e below (s₁.setTop (mkF m 46 #[.val (.ref a1), .val (.ref a1)] [(.ref a1)])) t
      refine X0.arraylength hx (by rw [e0]; exact Ar49.1) (State.isArrayOf_alike hZ.alike Ar49.2.1) (g := (mkF m 46 #[.val (.ref a1), .val (.ref a1)] [(.ref a1)])) rfl rfl (hb hby d4_46) _ ?_
      rw [len_of Sz49 Nn49]
      show Steps p.tables e below (s₁.setTop (mkF m 47 #[.val (.ref a1), .val (.ref a1)] [(.int z1)])) t
      refine XS.iconst X0.here hx rfl (hb hby d4_47) ?_
      exact kk
    by_cases h48 : z1 < (2 : Int32)
    · have c51 : Goes p e below s₁ (entryFrame m #[(.ref a1), (.ref a1)] 2) s₁ (mkF m 63 #[.val (.ref a1), .val (.ref a1)] [(.int (1 : Int32))]) := by
        intro t kk
        refine c50 t ?_
        show Steps p.tables e below (s₁.setTop (mkF m 48 #[.val (.ref a1), .val (.ref a1)] [(.int (2 : Int32)), (.int z1)])) t
        refine XS.icmpYes X0.here hx rfl (pc0 := 48) (pc' := 62) rfl (hb hby d4_48) rfl (tlt h48).1 (by decide) (by decide) ?_
        show Steps p.tables e below (s₁.setTop (mkF m 62 #[.val (.ref a1), .val (.ref a1)] [])) t
        refine XS.iconst X0.here hx rfl (hb hby d4_62) ?_
        exact kk
      obtain ⟨fs, hr, hrun, hended, hW, hsame⟩ := X0.leave (v := some (.int (1 : Int32))) (fun h => by rw [Bd.returns] at h; cases h)
      refine ⟨_, _, c51 _ ?_, hrun, hended, _, _, rfl, ?_, ⟨_, rfl⟩, hW, hsame.mono (by decide) (by decide)⟩
      · exact retN X0 hx (t := .boolean) Bd.returns (by simp) (hb hby d4_63) hr
      · show Q_sk_r Z a1 kc1 z1 vs1 d1 h0 n0 _ s₁.heap _
        rw [e0]
        exact ⟨rfl, N0, rfl⟩
    · obtain ⟨cl52, Ar52, q52, Sz52, Nn52, Hh52, Gg52⟩ := id V1
      have hin52 : ¬ ((1 : Int32) < 0 ∨ cl52.slots.size ≤ ((1 : Int32)).toNatClampNeg) := inb_of Sz52 ⟨by decide, by rw [Int32.lt_iff_toInt_lt] at *; have : ((1 : Int32)).toInt + 1 = (2 : Int32).toInt := rfl; omega⟩
      obtain ⟨y52, at52⟩ := own_elem (k := kc1) Ar52 Sz52 Hh52 Gg52 hin52
      have c53 : Goes p e below s₁ (entryFrame m #[(.ref a1), (.ref a1)] 2) s₁ (mkF m 63 #[.val (.ref a1), .val (.ref a1)] [(.int (1 : Int32))]) := by
        intro t kk
        refine c50 t ?_
        show Steps p.tables e below (s₁.setTop (mkF m 48 #[.val (.ref a1), .val (.ref a1)] [(.int (2 : Int32)), (.int z1)])) t
        refine XS.icmpNo X0.here hx rfl (hb hby d4_48) rfl (flt h48).1 ?_
        show Steps p.tables e below (s₁.setTop (mkF m 51 #[.val (.ref a1), .val (.ref a1)] [])) t
        refine XS.aloadN X0.here hx rfl (hb hby d4_51) rfl rfl ?_
        show Steps p.tables e below (s₁.setTop (mkF m 52 #[.val (.ref a1), .val (.ref a1)] [(.ref a1)])) t
        refine XS.iconst X0.here hx rfl (hb hby d4_52) ?_
        show Steps p.tables e below (s₁.setTop (mkF m 53 #[.val (.ref a1), .val (.ref a1)] [(.int (1 : Int32)), (.ref a1)])) t
        refine X0.baloadBytes hx (j := (1 : Int32)) (v := (.int y52)) (by rw [e0]; exact Ar52.1) (State.isArrayOf_alike hZ.alike Ar52.2.1) Ar52.2.2 hin52 at52 (g := (mkF m 53 #[.val (.ref a1), .val (.ref a1)] [(.int (1 : Int32)), (.ref a1)])) rfl rfl (hb hby d4_53) _ ?_
        show Steps p.tables e below (s₁.setTop (mkF m 54 #[.val (.ref a1), .val (.ref a1)] [(.int y52)])) t
        refine XS.aloadN X0.here hx rfl (hb hby d4_54) rfl rfl ?_
        show Steps p.tables e below (s₁.setTop (mkF m 55 #[.val (.ref a1), .val (.ref a1)] [(.ref a1), (.int y52)])) t
        refine XS.iconst X0.here hx rfl (hb hby d4_55) ?_
        show Steps p.tables e below (s₁.setTop (mkF m 56 #[.val (.ref a1), .val (.ref a1)] [(.int (1 : Int32)), (.ref a1), (.int y52)])) t
        refine X0.baloadBytes hx (j := (1 : Int32)) (v := (.int y52)) (by rw [e0]; exact Ar52.1) (State.isArrayOf_alike hZ.alike Ar52.2.1) Ar52.2.2 hin52 at52 (g := (mkF m 56 #[.val (.ref a1), .val (.ref a1)] [(.int (1 : Int32)), (.ref a1), (.int y52)])) rfl rfl (hb hby d4_56) _ ?_
        show Steps p.tables e below (s₁.setTop (mkF m 57 #[.val (.ref a1), .val (.ref a1)] [(.int y52), (.int y52)])) t
        refine XS.icmpYes X0.here hx rfl (pc0 := 57) (pc' := 62) rfl (hb hby d4_57) rfl (teq (rfl : y52 = y52)).1 (by decide) (by decide) ?_
        show Steps p.tables e below (s₁.setTop (mkF m 62 #[.val (.ref a1), .val (.ref a1)] [])) t
        refine XS.iconst X0.here hx rfl (hb hby d4_62) ?_
        exact kk
      obtain ⟨fs, hr, hrun, hended, hW, hsame⟩ := X0.leave (v := some (.int (1 : Int32))) (fun h => by rw [Bd.returns] at h; cases h)
      refine ⟨_, _, c53 _ ?_, hrun, hended, _, _, rfl, ?_, ⟨_, rfl⟩, hW, hsame.mono (by decide) (by decide)⟩
      · exact retN X0 hx (t := .boolean) Bd.returns (by simp) (hb hby d4_63) hr
      · show Q_sk_r Z a1 kc1 z1 vs1 d1 h0 n0 _ s₁.heap _
        rw [e0]
        exact ⟨rfl, N0, rfl⟩
  · obtain ⟨cl54, Ar54, q54, Sz54, Nn54, Hh54, Gg54⟩ := id V1
    have hin54 : ¬ ((0 : Int32) < 0 ∨ cl54.slots.size ≤ ((0 : Int32)).toNatClampNeg) := inb_of Sz54 ⟨by decide, by rw [Int32.lt_iff_toInt_lt] at *; have : ((0 : Int32)).toInt + 1 = (1 : Int32).toInt := rfl; omega⟩
    obtain ⟨y54, at54⟩ := own_elem (k := kc1) Ar54 Sz54 Hh54 Gg54 hin54
    obtain ⟨cl55, Ar55, q55, Sz55, Nn55, Hh55, Gg55⟩ := id V1
    have c56 : Goes p e below s₁ (entryFrame m #[(.ref a1), (.ref a1)] 2) s₁ (mkF m 48 #[.val (.ref a1), .val (.ref a1)] [(.int (2 : Int32)), (.int z1)]) := by
      intro t kk
      refine c48 t ?_
      show Steps p.tables e below (s₁.setTop (mkF m 31 #[.val (.ref a1), .val (.ref a1)] [(.int (1 : Int32)), (.int z1)])) t
      refine XS.icmpNo X0.here hx rfl (hb hby d4_31) rfl (flt h31).1 ?_
      show Steps p.tables e below (s₁.setTop (mkF m 34 #[.val (.ref a1), .val (.ref a1)] [])) t
      refine XS.aloadN X0.here hx rfl (hb hby d4_34) rfl rfl ?_
      show Steps p.tables e below (s₁.setTop (mkF m 35 #[.val (.ref a1), .val (.ref a1)] [(.ref a1)])) t
      refine XS.iconst X0.here hx rfl (hb hby d4_35) ?_
      show Steps p.tables e below (s₁.setTop (mkF m 36 #[.val (.ref a1), .val (.ref a1)] [(.int (0 : Int32)), (.ref a1)])) t
      refine X0.baloadBytes hx (j := (0 : Int32)) (v := (.int y54)) (by rw [e0]; exact Ar54.1) (State.isArrayOf_alike hZ.alike Ar54.2.1) Ar54.2.2 hin54 at54 (g := (mkF m 36 #[.val (.ref a1), .val (.ref a1)] [(.int (0 : Int32)), (.ref a1)])) rfl rfl (hb hby d4_36) _ ?_
      show Steps p.tables e below (s₁.setTop (mkF m 37 #[.val (.ref a1), .val (.ref a1)] [(.int y54)])) t
      refine XS.aloadN X0.here hx rfl (hb hby d4_37) rfl rfl ?_
      show Steps p.tables e below (s₁.setTop (mkF m 38 #[.val (.ref a1), .val (.ref a1)] [(.ref a1), (.int y54)])) t
      refine XS.iconst X0.here hx rfl (hb hby d4_38) ?_
      show Steps p.tables e below (s₁.setTop (mkF m 39 #[.val (.ref a1), .val (.ref a1)] [(.int (0 : Int32)), (.ref a1), (.int y54)])) t
      refine X0.baloadBytes hx (j := (0 : Int32)) (v := (.int y54)) (by rw [e0]; exact Ar54.1) (State.isArrayOf_alike hZ.alike Ar54.2.1) Ar54.2.2 hin54 at54 (g := (mkF m 39 #[.val (.ref a1), .val (.ref a1)] [(.int (0 : Int32)), (.ref a1), (.int y54)])) rfl rfl (hb hby d4_39) _ ?_
      show Steps p.tables e below (s₁.setTop (mkF m 40 #[.val (.ref a1), .val (.ref a1)] [(.int y54), (.int y54)])) t
      refine XS.icmpYes X0.here hx rfl (pc0 := 40) (pc' := 45) rfl (hb hby d4_40) rfl (teq (rfl : y54 = y54)).1 (by decide) (by decide) ?_
      show Steps p.tables e below (s₁.setTop (mkF m 45 #[.val (.ref a1), .val (.ref a1)] [])) t
      refine XS.aloadN X0.here hx rfl (hb hby d4_45) rfl rfl ?_
      show Steps p.tables e below (s₁.setTop (mkF m 46 #[.val (.ref a1), .val (.ref a1)] [(.ref a1)])) t
      refine X0.arraylength hx (by rw [e0]; exact Ar55.1) (State.isArrayOf_alike hZ.alike Ar55.2.1) (g := (mkF m 46 #[.val (.ref a1), .val (.ref a1)] [(.ref a1)])) rfl rfl (hb hby d4_46) _ ?_
      rw [len_of Sz55 Nn55]
      show Steps p.tables e below (s₁.setTop (mkF m 47 #[.val (.ref a1), .val (.ref a1)] [(.int z1)])) t
      refine XS.iconst X0.here hx rfl (hb hby d4_47) ?_
      exact kk
    by_cases h48 : z1 < (2 : Int32)
    · have c57 : Goes p e below s₁ (entryFrame m #[(.ref a1), (.ref a1)] 2) s₁ (mkF m 63 #[.val (.ref a1), .val (.ref a1)] [(.int (1 : Int32))]) := by
        intro t kk
        refine c56 t ?_
        show Steps p.tables e below (s₁.setTop (mkF m 48 #[.val (.ref a1), .val (.ref a1)] [(.int (2 : Int32)), (.int z1)])) t
        refine XS.icmpYes X0.here hx rfl (pc0 := 48) (pc' := 62) rfl (hb hby d4_48) rfl (tlt h48).1 (by decide) (by decide) ?_
        show Steps p.tables e below (s₁.setTop (mkF m 62 #[.val (.ref a1), .val (.ref a1)] [])) t
        refine XS.iconst X0.here hx rfl (hb hby d4_62) ?_
        exact kk
      obtain ⟨fs, hr, hrun, hended, hW, hsame⟩ := X0.leave (v := some (.int (1 : Int32))) (fun h => by rw [Bd.returns] at h; cases h)
      refine ⟨_, _, c57 _ ?_, hrun, hended, _, _, rfl, ?_, ⟨_, rfl⟩, hW, hsame.mono (by decide) (by decide)⟩
      · exact retN X0 hx (t := .boolean) Bd.returns (by simp) (hb hby d4_63) hr
      · show Q_sk_r Z a1 kc1 z1 vs1 d1 h0 n0 _ s₁.heap _
        rw [e0]
        exact ⟨rfl, N0, rfl⟩
    · obtain ⟨cl58, Ar58, q58, Sz58, Nn58, Hh58, Gg58⟩ := id V1
      have hin58 : ¬ ((1 : Int32) < 0 ∨ cl58.slots.size ≤ ((1 : Int32)).toNatClampNeg) := inb_of Sz58 ⟨by decide, by rw [Int32.lt_iff_toInt_lt] at *; have : ((1 : Int32)).toInt + 1 = (2 : Int32).toInt := rfl; omega⟩
      obtain ⟨y58, at58⟩ := own_elem (k := kc1) Ar58 Sz58 Hh58 Gg58 hin58
      have c59 : Goes p e below s₁ (entryFrame m #[(.ref a1), (.ref a1)] 2) s₁ (mkF m 63 #[.val (.ref a1), .val (.ref a1)] [(.int (1 : Int32))]) := by
        intro t kk
        refine c56 t ?_
        show Steps p.tables e below (s₁.setTop (mkF m 48 #[.val (.ref a1), .val (.ref a1)] [(.int (2 : Int32)), (.int z1)])) t
        refine XS.icmpNo X0.here hx rfl (hb hby d4_48) rfl (flt h48).1 ?_
        show Steps p.tables e below (s₁.setTop (mkF m 51 #[.val (.ref a1), .val (.ref a1)] [])) t
        refine XS.aloadN X0.here hx rfl (hb hby d4_51) rfl rfl ?_
        show Steps p.tables e below (s₁.setTop (mkF m 52 #[.val (.ref a1), .val (.ref a1)] [(.ref a1)])) t
        refine XS.iconst X0.here hx rfl (hb hby d4_52) ?_
        show Steps p.tables e below (s₁.setTop (mkF m 53 #[.val (.ref a1), .val (.ref a1)] [(.int (1 : Int32)), (.ref a1)])) t
        refine X0.baloadBytes hx (j := (1 : Int32)) (v := (.int y58)) (by rw [e0]; exact Ar58.1) (State.isArrayOf_alike hZ.alike Ar58.2.1) Ar58.2.2 hin58 at58 (g := (mkF m 53 #[.val (.ref a1), .val (.ref a1)] [(.int (1 : Int32)), (.ref a1)])) rfl rfl (hb hby d4_53) _ ?_
        show Steps p.tables e below (s₁.setTop (mkF m 54 #[.val (.ref a1), .val (.ref a1)] [(.int y58)])) t
        refine XS.aloadN X0.here hx rfl (hb hby d4_54) rfl rfl ?_
        show Steps p.tables e below (s₁.setTop (mkF m 55 #[.val (.ref a1), .val (.ref a1)] [(.ref a1), (.int y58)])) t
        refine XS.iconst X0.here hx rfl (hb hby d4_55) ?_
        show Steps p.tables e below (s₁.setTop (mkF m 56 #[.val (.ref a1), .val (.ref a1)] [(.int (1 : Int32)), (.ref a1), (.int y58)])) t
        refine X0.baloadBytes hx (j := (1 : Int32)) (v := (.int y58)) (by rw [e0]; exact Ar58.1) (State.isArrayOf_alike hZ.alike Ar58.2.1) Ar58.2.2 hin58 at58 (g := (mkF m 56 #[.val (.ref a1), .val (.ref a1)] [(.int (1 : Int32)), (.ref a1), (.int y58)])) rfl rfl (hb hby d4_56) _ ?_
        show Steps p.tables e below (s₁.setTop (mkF m 57 #[.val (.ref a1), .val (.ref a1)] [(.int y58), (.int y58)])) t
        refine XS.icmpYes X0.here hx rfl (pc0 := 57) (pc' := 62) rfl (hb hby d4_57) rfl (teq (rfl : y58 = y58)).1 (by decide) (by decide) ?_
        show Steps p.tables e below (s₁.setTop (mkF m 62 #[.val (.ref a1), .val (.ref a1)] [])) t
        refine XS.iconst X0.here hx rfl (hb hby d4_62) ?_
        exact kk
      obtain ⟨fs, hr, hrun, hended, hW, hsame⟩ := X0.leave (v := some (.int (1 : Int32))) (fun h => by rw [Bd.returns] at h; cases h)
      refine ⟨_, _, c59 _ ?_, hrun, hended, _, _, rfl, ?_, ⟨_, rfl⟩, hW, hsame.mono (by decide) (by decide)⟩
      · exact retN X0 hx (t := .boolean) Bd.returns (by simp) (hb hby d4_63) hr
      · show Q_sk_r Z a1 kc1 z1 vs1 d1 h0 n0 _ s₁.heap _
        rw [e0]
        exact ⟨rfl, N0, rfl⟩
def Q_sk (Z : State) (x1 x2 : Value) (k1 : Nat) (h0 : Heap) (n0 : Nat) (v : Option Value) (h : Heap) (L : List Loc) : Prop := v = some (.int 1) ∧ Fr n0 L ∧ h = h0
theorem rm_sk (l : Launch) (Z : State) (a0 : Array Value) (hw : ∀ d ∈ tables_1, d.before a0 Z = true) (ws : List Jvm.Cond) (x1 : Value) (x2 : Value) (k1 : Nat) (h0 : Heap) (n0 : Nat) (Z0 : n0 ≤ h0.size) (K1 : own_key Z h0 x1 k1) (hxx : x2 = x1) :
    MetFree l (⟨"com/example/ordered_ledger_store/orderedledgerstore/storage/RecordKindKeyAfterPinLaw", "sameKey", "([B[B)Z"⟩ : MethodName) (head1 (Jvm.Cond.code (⟨"com/example/ordered_ledger_store/orderedledgerstore/storage/RecordKindKeyAfterPinLaw", "sameKey", "([B[B)Z"⟩ : MethodName) method_4_code 2 (some .boolean) :: ws) ({ frames := 0, cells := 0, slots := 0, locals := 0 } : Room)) (fun a U => a = #[x1, x2] ∧ Z.Warmed39 U.vm ∧ U.heap = h0) (fun _ _ _ _ _ => True) (fun _ U o U' => ∃ v L, o = .returned v ∧ Q_sk Z x1 x2 k1 h0 n0 v U'.heap L ∧ FrameEnd U o U' L ({ frames := 0, cells := 0, slots := 0, locals := 0 } : Room).cells ({ frames := 0, cells := 0, slots := 0, locals := 0 } : Room).slots) := by
  subst hxx
  rcases K1 with ⟨hn1, rfl⟩ | ⟨hn1, a1, kc1, z1, vs1, d1, rfl, V1, hk1⟩
  · exact rm_sk_n l Z a0 hw ws h0 n0 Z0
  · exact rm_sk_r l Z a0 hw ws a1 kc1 z1 vs1 d1 h0 n0 Z0 V1
theorem pd__I__B : parseMethodDescriptor "(I)[B" = some ⟨[.int], some (.array .byte)⟩ := by decide +kernel
theorem pd___B_B__B : parseMethodDescriptor "([B[B)[B" = some ⟨[(.array .byte), (.array .byte)], some (.array .byte)⟩ := by decide +kernel
theorem pd___B_Z : parseMethodDescriptor "([B)Z" = some ⟨[(.array .byte)], some .boolean⟩ := by decide +kernel
theorem pd___B_B_Z : parseMethodDescriptor "([B[B)Z" = some ⟨[(.array .byte), (.array .byte)], some .boolean⟩ := by decide +kernel
theorem ef_law (m : MethodId) (x0 : Int32) (x1 : Int32) (x2 : Int32) (x3 : Int32) : entryFrame m #[(.int x0), (.int x1), (.int x2), (.int x3)] maxLocals = mkF m 0 #[.val (.int x0), .val (.int x1), .val (.int x2), .val (.int x3), .unset, .unset, .unset, .unset, .unset, .unset, .unset, .unset] [] := by (first | (simp [entryFrame, mkF, argsToLocals, Value.category, maxLocals]; done) | rfl)
def Q_law (Z : State) (p0 : Int32) (p1 : Int32) (p2 : Int32) (p3 : Int32) (h0 : Heap) (n0 : Nat) (v : Option Value) (h : Heap) (L : List Loc) : Prop := v = some (.int 1) ∧ Fr n0 L
set_option maxRecDepth 65536 in
set_option maxHeartbeats 40000000 in
theorem rm_law (l : Launch) (Z : State) (a0 : Array Value) (hw : ∀ d ∈ tables_1, d.before a0 Z = true) (ws : List Jvm.Cond) (p0 : Int32) (p1 : Int32) (p2 : Int32) (p3 : Int32) (h0 : Heap) (n0 : Nat) (Z0 : n0 ≤ h0.size)  :
    MetFree l x (head1 (Jvm.Cond.code x code maxLocals ret :: ws) room_1) (fun a U => a = #[(.int p0), (.int p1), (.int p2), (.int p3)] ∧ Z.Warmed39 U.vm ∧ U.heap = h0) (fun _ _ _ _ _ => True) (fun _ U o U' => ∃ v L, o = .returned v ∧ Q_law Z p0 p1 p2 p3 h0 n0 v U'.heap L ∧ FrameEnd U o U' L 4 8) := by
  refine MetFree.of_bodySF (plainFor_of_name pn_1) hisR ?_
  intro p e s m args below meth c s₁ Bd hml0 hP hK
  obtain ⟨rfl, hZ, hh⟩ := hP
  have hx := Bd.exec
  have hby := Bd.bytes
  have hml : c.maxLocals = 12 := hml0
  have hown : s.vm.findClass "com/example/ordered_ledger_store/orderedledgerstore/storage/RecordKindKeyAfterPinLaw" = some m.cls := findClass_of_methodNamed Bd.named
  have hnm := (name_of_methodNamed Bd.named Bd.method).1
  have X0 : Stand p l e room_1 s m #[(.int p0), (.int p1), (.int p2), (.int p3)] below meth c s₁ [] 0 0 := Stand.of_body Bd
  have e0 : s₁.heap = h0 := by rw [← hh, Bd.state]; rfl
  have N0 := Fr.nil n0
  have c0 : Goes p e below s₁ (entryFrame m #[(.int p0), (.int p1), (.int p2), (.int p3)] maxLocals) s₁ (mkF m 0 #[.val (.int p0), .val (.int p1), .val (.int p2), .val (.int p3), .unset, .unset, .unset, .unset, .unset, .unset, .unset, .unset] []) := fun t k => castTop (ef_law m p0 p1 p2 p3) k
  have c60 : Goes p e below s₁ (entryFrame m #[(.int p0), (.int p1), (.int p2), (.int p3)] maxLocals) s₁ (mkF m 1 #[.val (.int p0), .val (.int p1), .val (.int p2), .val (.int p3), .unset, .unset, .unset, .unset, .unset, .unset, .unset, .unset] [(.int p0)]) := by
    intro t kk
    refine c0 t ?_
    show Steps p.tables e below (s₁.setTop (mkF m 0 #[.val (.int p0), .val (.int p1), .val (.int p2), .val (.int p3), .unset, .unset, .unset, .unset, .unset, .unset, .unset, .unset] [])) t
    refine XS.iloadN X0.here hx rfl (hb hby at_0) rfl ?_
    exact kk
  obtain ⟨_, _, ⟨T61, L61, k61, n61⟩, -, X61, ⟨Lc61, hQ61, l61, y61, z61⟩, st61⟩ := Jvm.LawKit.callS X0 hx (y := (⟨"com/example/ordered_ledger_store/orderedledgerstore/storage/RecordKindKeyAfterPinLaw", "make", "(I)[B"⟩ : MethodName)) hown (mvT hZ (hw _ (List.mem_of_getElem? (i := 0) rfl))) (mvT hZ (hw _ (List.mem_of_getElem? (i := 1) rfl))) (mvT hZ (hw _ (List.mem_of_getElem? (i := 2) rfl))) (mvT hZ (hw _ (List.mem_of_getElem? (i := 3) rfl))) (by decide) (backOf (W := 0) (rm_make l Z a0 hw [] p0 h0 n0 Z0) hZ (hw _ (List.mem_of_getElem? (i := 3) rfl)) (hw _ (List.mem_of_getElem? (i := 2) rfl)) (by decide) (by decide)) (g := (mkF m 1 #[.val (.int p0), .val (.int p1), .val (.int p2), .val (.int p3), .unset, .unset, .unset, .unset, .unset, .unset, .unset, .unset] [(.int p0)])) rfl (by rw [hml]; rfl) (argsL := [(.int p0)]) (rest := []) (lenOf pd__I__B rfl) rfl (by show 2 * 0 + _ ≤ _; exact Nat.le_of_eq rfl) (hb hby at_1) (fun _ _ => ⟨rfl, e0, (by decide : 0 + 1 ≤ _), (by decide : 0 + 2 ≤ _)⟩)
  dsimp only [Pt.U, Pt.locs, Pt.cells, Pt.slots] at X61 l61 y61 z61 st61 hQ61
  subst l61 y61 z61
  obtain ⟨x61, kd61, rfl, Nq61, Kq61, Ky61⟩ := hQ61
  have N61 := Fr.app N0 Nq61
  have hv62 : (x61).isRef = true := own_yref Ky61
  have hk62 : (x61).category = 1 := own_cat hv62
  have c63 : Goes p e below s₁ (entryFrame m #[(.int p0), (.int p1), (.int p2), (.int p3)] maxLocals) T61 (mkF m 4 #[.val (.int p0), .val (.int p1), .val (.int p2), .val (.int p3), .unset, .unset, .unset, .unset, .unset, .unset, .unset, .unset] [x61]) := fun t kk => c60 t (st61 t kk)
  have f64 := (Nat.le_trans Z0 Kq61.1)
  have c65 : Goes p e below s₁ (entryFrame m #[(.int p0), (.int p1), (.int p2), (.int p3)] maxLocals) T61 (mkF m 7 #[.val (.int p0), .val (.int p1), .val (.int p2), .val (.int p3), .val x61, .unset, .unset, .unset, .unset, .unset, .unset, .unset] [(.int p1)]) := by
    intro t kk
    refine c63 t ?_
    show Steps p.tables e below (T61.setTop (mkF m 4 #[.val (.int p0), .val (.int p1), .val (.int p2), .val (.int p3), .unset, .unset, .unset, .unset, .unset, .unset, .unset, .unset] [x61])) t
    refine XS.astore X61.here hx rfl (hb hby at_4) rfl hv62 (l' := #[.val (.int p0), .val (.int p1), .val (.int p2), .val (.int p3), .val x61, .unset, .unset, .unset, .unset, .unset, .unset, .unset]) (XS.store1 rfl (Or.inl rfl) hk62) ?_
    show Steps p.tables e below (T61.setTop (mkF m 6 #[.val (.int p0), .val (.int p1), .val (.int p2), .val (.int p3), .val x61, .unset, .unset, .unset, .unset, .unset, .unset, .unset] [])) t
    refine XS.iloadN X61.here hx rfl (hb hby at_6) rfl ?_
    exact kk
  obtain ⟨_, _, ⟨T66, L66, k66, n66⟩, -, X66, ⟨Lc66, hQ66, l66, y66, z66⟩, st66⟩ := Jvm.LawKit.callS X61 hx (y := (⟨"com/example/ordered_ledger_store/orderedledgerstore/storage/RecordKindKeyAfterPinLaw", "make", "(I)[B"⟩ : MethodName)) hown (mvT hZ (hw _ (List.mem_of_getElem? (i := 0) rfl))) (mvT hZ (hw _ (List.mem_of_getElem? (i := 1) rfl))) (mvT hZ (hw _ (List.mem_of_getElem? (i := 2) rfl))) (mvT hZ (hw _ (List.mem_of_getElem? (i := 3) rfl))) (by decide) (backOf (W := 0) (rm_make l Z a0 hw [] p1 T61.heap n0 f64) hZ (hw _ (List.mem_of_getElem? (i := 3) rfl)) (hw _ (List.mem_of_getElem? (i := 2) rfl)) (by decide) (by decide)) (g := (mkF m 7 #[.val (.int p0), .val (.int p1), .val (.int p2), .val (.int p3), .val x61, .unset, .unset, .unset, .unset, .unset, .unset, .unset] [(.int p1)])) rfl (by rw [hml]; rfl) (argsL := [(.int p1)]) (rest := []) (lenOf pd__I__B rfl) rfl (by show 2 * 0 + _ ≤ _; exact Nat.le_of_eq rfl) (hb hby at_7) (fun _ _ => ⟨rfl, rfl, (by decide : 1 + 1 ≤ _), (by decide : 2 + 2 ≤ _)⟩)
  dsimp only [Pt.U, Pt.locs, Pt.cells, Pt.slots] at X66 l66 y66 z66 st66 hQ66
  subst l66 y66 z66
  obtain ⟨x66, kd66, rfl, Nq66, Kq66, Ky66⟩ := hQ66
  have N66 := Fr.app N61 Nq66
  have hv67 : (x66).isRef = true := own_yref Ky66
  have hk67 : (x66).category = 1 := own_cat hv67
  have c68 : Goes p e below s₁ (entryFrame m #[(.int p0), (.int p1), (.int p2), (.int p3)] maxLocals) T66 (mkF m 10 #[.val (.int p0), .val (.int p1), .val (.int p2), .val (.int p3), .val x61, .unset, .unset, .unset, .unset, .unset, .unset, .unset] [x66]) := fun t kk => c65 t (st66 t kk)
  have f69 := (Nat.le_trans f64 Kq66.1)
  have c70 : Goes p e below s₁ (entryFrame m #[(.int p0), (.int p1), (.int p2), (.int p3)] maxLocals) T66 (mkF m 13 #[.val (.int p0), .val (.int p1), .val (.int p2), .val (.int p3), .val x61, .val x66, .unset, .unset, .unset, .unset, .unset, .unset] [(.int p2)]) := by
    intro t kk
    refine c68 t ?_
    show Steps p.tables e below (T66.setTop (mkF m 10 #[.val (.int p0), .val (.int p1), .val (.int p2), .val (.int p3), .val x61, .unset, .unset, .unset, .unset, .unset, .unset, .unset] [x66])) t
    refine XS.astore X66.here hx rfl (hb hby at_10) rfl hv67 (l' := #[.val (.int p0), .val (.int p1), .val (.int p2), .val (.int p3), .val x61, .val x66, .unset, .unset, .unset, .unset, .unset, .unset]) (XS.store1 rfl (Or.inl rfl) hk67) ?_
    show Steps p.tables e below (T66.setTop (mkF m 12 #[.val (.int p0), .val (.int p1), .val (.int p2), .val (.int p3), .val x61, .val x66, .unset, .unset, .unset, .unset, .unset, .unset] [])) t
    refine XS.iloadN X66.here hx rfl (hb hby at_12) rfl ?_
    exact kk
  obtain ⟨_, _, ⟨T71, L71, k71, n71⟩, -, X71, ⟨Lc71, hQ71, l71, y71, z71⟩, st71⟩ := Jvm.LawKit.callS X66 hx (y := (⟨"com/example/ordered_ledger_store/orderedledgerstore/storage/RecordKindKeyAfterPinLaw", "make", "(I)[B"⟩ : MethodName)) hown (mvT hZ (hw _ (List.mem_of_getElem? (i := 0) rfl))) (mvT hZ (hw _ (List.mem_of_getElem? (i := 1) rfl))) (mvT hZ (hw _ (List.mem_of_getElem? (i := 2) rfl))) (mvT hZ (hw _ (List.mem_of_getElem? (i := 3) rfl))) (by decide) (backOf (W := 0) (rm_make l Z a0 hw [] p2 T66.heap n0 f69) hZ (hw _ (List.mem_of_getElem? (i := 3) rfl)) (hw _ (List.mem_of_getElem? (i := 2) rfl)) (by decide) (by decide)) (g := (mkF m 13 #[.val (.int p0), .val (.int p1), .val (.int p2), .val (.int p3), .val x61, .val x66, .unset, .unset, .unset, .unset, .unset, .unset] [(.int p2)])) rfl (by rw [hml]; rfl) (argsL := [(.int p2)]) (rest := []) (lenOf pd__I__B rfl) rfl (by show 2 * 0 + _ ≤ _; exact Nat.le_of_eq rfl) (hb hby at_13) (fun _ _ => ⟨rfl, rfl, (by decide : 2 + 1 ≤ _), (by decide : 4 + 2 ≤ _)⟩)
  dsimp only [Pt.U, Pt.locs, Pt.cells, Pt.slots] at X71 l71 y71 z71 st71 hQ71
  subst l71 y71 z71
  obtain ⟨x71, kd71, rfl, Nq71, Kq71, Ky71⟩ := hQ71
  have N71 := Fr.app N66 Nq71
  have hv72 : (x71).isRef = true := own_yref Ky71
  have hk72 : (x71).category = 1 := own_cat hv72
  have c73 : Goes p e below s₁ (entryFrame m #[(.int p0), (.int p1), (.int p2), (.int p3)] maxLocals) T71 (mkF m 16 #[.val (.int p0), .val (.int p1), .val (.int p2), .val (.int p3), .val x61, .val x66, .unset, .unset, .unset, .unset, .unset, .unset] [x71]) := fun t kk => c70 t (st71 t kk)
  have f74 := (Nat.le_trans f69 Kq71.1)
  have c75 : Goes p e below s₁ (entryFrame m #[(.int p0), (.int p1), (.int p2), (.int p3)] maxLocals) T71 (mkF m 19 #[.val (.int p0), .val (.int p1), .val (.int p2), .val (.int p3), .val x61, .val x66, .val x71, .unset, .unset, .unset, .unset, .unset] [(.int p3)]) := by
    intro t kk
    refine c73 t ?_
    show Steps p.tables e below (T71.setTop (mkF m 16 #[.val (.int p0), .val (.int p1), .val (.int p2), .val (.int p3), .val x61, .val x66, .unset, .unset, .unset, .unset, .unset, .unset] [x71])) t
    refine XS.astore X71.here hx rfl (hb hby at_16) rfl hv72 (l' := #[.val (.int p0), .val (.int p1), .val (.int p2), .val (.int p3), .val x61, .val x66, .val x71, .unset, .unset, .unset, .unset, .unset]) (XS.store1 rfl (Or.inl rfl) hk72) ?_
    show Steps p.tables e below (T71.setTop (mkF m 18 #[.val (.int p0), .val (.int p1), .val (.int p2), .val (.int p3), .val x61, .val x66, .val x71, .unset, .unset, .unset, .unset, .unset] [])) t
    refine XS.iloadN X71.here hx rfl (hb hby at_18) rfl ?_
    exact kk
  obtain ⟨_, _, ⟨T76, L76, k76, n76⟩, -, X76, ⟨Lc76, hQ76, l76, y76, z76⟩, st76⟩ := Jvm.LawKit.callS X71 hx (y := (⟨"com/example/ordered_ledger_store/orderedledgerstore/storage/RecordKindKeyAfterPinLaw", "make", "(I)[B"⟩ : MethodName)) hown (mvT hZ (hw _ (List.mem_of_getElem? (i := 0) rfl))) (mvT hZ (hw _ (List.mem_of_getElem? (i := 1) rfl))) (mvT hZ (hw _ (List.mem_of_getElem? (i := 2) rfl))) (mvT hZ (hw _ (List.mem_of_getElem? (i := 3) rfl))) (by decide) (backOf (W := 0) (rm_make l Z a0 hw [] p3 T71.heap n0 f74) hZ (hw _ (List.mem_of_getElem? (i := 3) rfl)) (hw _ (List.mem_of_getElem? (i := 2) rfl)) (by decide) (by decide)) (g := (mkF m 19 #[.val (.int p0), .val (.int p1), .val (.int p2), .val (.int p3), .val x61, .val x66, .val x71, .unset, .unset, .unset, .unset, .unset] [(.int p3)])) rfl (by rw [hml]; rfl) (argsL := [(.int p3)]) (rest := []) (lenOf pd__I__B rfl) rfl (by show 2 * 0 + _ ≤ _; exact Nat.le_of_eq rfl) (hb hby at_19) (fun _ _ => ⟨rfl, rfl, (by decide : 3 + 1 ≤ _), (by decide : 6 + 2 ≤ _)⟩)
  dsimp only [Pt.U, Pt.locs, Pt.cells, Pt.slots] at X76 l76 y76 z76 st76 hQ76
  subst l76 y76 z76
  obtain ⟨x76, kd76, rfl, Nq76, Kq76, Ky76⟩ := hQ76
  have N76 := Fr.app N71 Nq76
  have hv77 : (x76).isRef = true := own_yref Ky76
  have hk77 : (x76).category = 1 := own_cat hv77
  have c78 : Goes p e below s₁ (entryFrame m #[(.int p0), (.int p1), (.int p2), (.int p3)] maxLocals) T76 (mkF m 22 #[.val (.int p0), .val (.int p1), .val (.int p2), .val (.int p3), .val x61, .val x66, .val x71, .unset, .unset, .unset, .unset, .unset] [x76]) := fun t kk => c75 t (st76 t kk)
  have f79 := (own_ykeep (own_ykeep (own_ykeep Ky61 Kq66) Kq71) Kq76)
  have f80 := (own_ykeep (own_ykeep Ky66 Kq71) Kq76)
  have Ky81 := own_yka f79 f80
  have f82 := (Nat.le_trans f74 Kq76.1)
  have c83 : Goes p e below s₁ (entryFrame m #[(.int p0), (.int p1), (.int p2), (.int p3)] maxLocals) T76 (mkF m 28 #[.val (.int p0), .val (.int p1), .val (.int p2), .val (.int p3), .val x61, .val x66, .val x71, .val x76, .unset, .unset, .unset, .unset] [x66, x61]) := by
    intro t kk
    refine c78 t ?_
    show Steps p.tables e below (T76.setTop (mkF m 22 #[.val (.int p0), .val (.int p1), .val (.int p2), .val (.int p3), .val x61, .val x66, .val x71, .unset, .unset, .unset, .unset, .unset] [x76])) t
    refine XS.astore X76.here hx rfl (hb hby at_22) rfl hv77 (l' := #[.val (.int p0), .val (.int p1), .val (.int p2), .val (.int p3), .val x61, .val x66, .val x71, .val x76, .unset, .unset, .unset, .unset]) (XS.store1 rfl (Or.inl rfl) hk77) ?_
    show Steps p.tables e below (T76.setTop (mkF m 24 #[.val (.int p0), .val (.int p1), .val (.int p2), .val (.int p3), .val x61, .val x66, .val x71, .val x76, .unset, .unset, .unset, .unset] [])) t
    refine XS.aload X76.here hx rfl (hb hby at_24) rfl hv62 ?_
    show Steps p.tables e below (T76.setTop (mkF m 26 #[.val (.int p0), .val (.int p1), .val (.int p2), .val (.int p3), .val x61, .val x66, .val x71, .val x76, .unset, .unset, .unset, .unset] [x61])) t
    refine XS.aload X76.here hx rfl (hb hby at_26) rfl hv67 ?_
    exact kk
  obtain ⟨_, _, ⟨T84, L84, k84, n84⟩, -, X84, ⟨Lc84, hQ84, l84, y84, z84⟩, st84⟩ := Jvm.LawKit.callS X76 hx (y := (⟨"com/example/ordered_ledger_store/orderedledgerstore/storage/RecordKind", "keyAfter", "([B[B)[B"⟩ : MethodName)) hown (mvT hZ (hw _ (List.mem_of_getElem? (i := 5) rfl))) (mvT hZ (hw _ (List.mem_of_getElem? (i := 6) rfl))) (mvT hZ (hw _ (List.mem_of_getElem? (i := 7) rfl))) (mvT hZ (hw _ (List.mem_of_getElem? (i := 8) rfl))) (by decide) (backOf (W := 0) (rm_ka l Z a0 hw [] x61 kd61 x66 kd66 T76.heap n0 f82 f79 f80) hZ (hw _ (List.mem_of_getElem? (i := 8) rfl)) (hw _ (List.mem_of_getElem? (i := 7) rfl)) (by decide) (by decide)) (g := (mkF m 28 #[.val (.int p0), .val (.int p1), .val (.int p2), .val (.int p3), .val x61, .val x66, .val x71, .val x76, .unset, .unset, .unset, .unset] [x66, x61])) rfl (by rw [hml]; rfl) (argsL := [x61, x66]) (rest := []) (lenOf pd___B_B__B rfl) rfl (by show 2 * 0 + _ ≤ _; exact Nat.le_of_eq rfl) (hb hby at_28) (fun _ _ => ⟨rfl, rfl, (by decide : 4 + 0 ≤ _), (by decide : 8 + 0 ≤ _)⟩)
  dsimp only [Pt.U, Pt.locs, Pt.cells, Pt.slots] at X84 l84 y84 z84 st84 hQ84
  subst l84 y84 z84
  obtain ⟨rfl, Nq84, eq84⟩ := hQ84
  have N84 := Fr.app N76 Nq84
  have hv85 : ((own_ka x61 kd61 x66 kd66)).isRef = true := own_yref Ky81
  have hk85 : ((own_ka x61 kd61 x66 kd66)).category = 1 := own_cat hv85
  have c86 : Goes p e below s₁ (entryFrame m #[(.int p0), (.int p1), (.int p2), (.int p3)] maxLocals) T84 (mkF m 31 #[.val (.int p0), .val (.int p1), .val (.int p2), .val (.int p3), .val x61, .val x66, .val x71, .val x76, .unset, .unset, .unset, .unset] [(own_ka x61 kd61 x66 kd66)]) := fun t kk => c83 t (st84 t kk)
  have f87 := (own_ykeep Ky71 Kq76)
  have Ky88 := own_yka Ky81 f87
  have c89 : Goes p e below s₁ (entryFrame m #[(.int p0), (.int p1), (.int p2), (.int p3)] maxLocals) T84 (mkF m 37 #[.val (.int p0), .val (.int p1), .val (.int p2), .val (.int p3), .val x61, .val x66, .val x71, .val x76, .val (own_ka x61 kd61 x66 kd66), .unset, .unset, .unset] [x71, (own_ka x61 kd61 x66 kd66)]) := by
    intro t kk
    refine c86 t ?_
    show Steps p.tables e below (T84.setTop (mkF m 31 #[.val (.int p0), .val (.int p1), .val (.int p2), .val (.int p3), .val x61, .val x66, .val x71, .val x76, .unset, .unset, .unset, .unset] [(own_ka x61 kd61 x66 kd66)])) t
    refine XS.astore X84.here hx rfl (hb hby at_31) rfl hv85 (l' := #[.val (.int p0), .val (.int p1), .val (.int p2), .val (.int p3), .val x61, .val x66, .val x71, .val x76, .val (own_ka x61 kd61 x66 kd66), .unset, .unset, .unset]) (XS.store1 rfl (Or.inl rfl) hk85) ?_
    show Steps p.tables e below (T84.setTop (mkF m 33 #[.val (.int p0), .val (.int p1), .val (.int p2), .val (.int p3), .val x61, .val x66, .val x71, .val x76, .val (own_ka x61 kd61 x66 kd66), .unset, .unset, .unset] [])) t
    refine XS.aload X84.here hx rfl (hb hby at_33) rfl hv85 ?_
    show Steps p.tables e below (T84.setTop (mkF m 35 #[.val (.int p0), .val (.int p1), .val (.int p2), .val (.int p3), .val x61, .val x66, .val x71, .val x76, .val (own_ka x61 kd61 x66 kd66), .unset, .unset, .unset] [(own_ka x61 kd61 x66 kd66)])) t
    refine XS.aload X84.here hx rfl (hb hby at_35) rfl hv72 ?_
    exact kk
  obtain ⟨_, _, ⟨T90, L90, k90, n90⟩, -, X90, ⟨Lc90, hQ90, l90, y90, z90⟩, st90⟩ := Jvm.LawKit.callS X84 hx (y := (⟨"com/example/ordered_ledger_store/orderedledgerstore/storage/RecordKind", "keyAfter", "([B[B)[B"⟩ : MethodName)) hown (mvT hZ (hw _ (List.mem_of_getElem? (i := 5) rfl))) (mvT hZ (hw _ (List.mem_of_getElem? (i := 6) rfl))) (mvT hZ (hw _ (List.mem_of_getElem? (i := 7) rfl))) (mvT hZ (hw _ (List.mem_of_getElem? (i := 8) rfl))) (by decide) (backOf (W := 0) (rm_ka l Z a0 hw [] (own_ka x61 kd61 x66 kd66) (own_kk kd61 kd66) x71 kd71 T76.heap n0 f82 Ky81 f87) hZ (hw _ (List.mem_of_getElem? (i := 8) rfl)) (hw _ (List.mem_of_getElem? (i := 7) rfl)) (by decide) (by decide)) (g := (mkF m 37 #[.val (.int p0), .val (.int p1), .val (.int p2), .val (.int p3), .val x61, .val x66, .val x71, .val x76, .val (own_ka x61 kd61 x66 kd66), .unset, .unset, .unset] [x71, (own_ka x61 kd61 x66 kd66)])) rfl (by rw [hml]; rfl) (argsL := [(own_ka x61 kd61 x66 kd66), x71]) (rest := []) (lenOf pd___B_B__B rfl) rfl (by show 2 * 0 + _ ≤ _; exact Nat.le_of_eq rfl) (hb hby at_37) (fun _ _ => ⟨rfl, eq84, (by decide : 4 + 0 ≤ _), (by decide : 8 + 0 ≤ _)⟩)
  dsimp only [Pt.U, Pt.locs, Pt.cells, Pt.slots] at X90 l90 y90 z90 st90 hQ90
  subst l90 y90 z90
  obtain ⟨rfl, Nq90, eq90⟩ := hQ90
  have N90 := Fr.app N84 Nq90
  have hv91 : ((own_ka (own_ka x61 kd61 x66 kd66) (own_kk kd61 kd66) x71 kd71)).isRef = true := own_yref Ky88
  have hk91 : ((own_ka (own_ka x61 kd61 x66 kd66) (own_kk kd61 kd66) x71 kd71)).category = 1 := own_cat hv91
  have c92 : Goes p e below s₁ (entryFrame m #[(.int p0), (.int p1), (.int p2), (.int p3)] maxLocals) T90 (mkF m 40 #[.val (.int p0), .val (.int p1), .val (.int p2), .val (.int p3), .val x61, .val x66, .val x71, .val x76, .val (own_ka x61 kd61 x66 kd66), .unset, .unset, .unset] [(own_ka (own_ka x61 kd61 x66 kd66) (own_kk kd61 kd66) x71 kd71)]) := fun t kk => c89 t (st90 t kk)
  have Ky93 := own_yka Ky88 Ky76
  have c94 : Goes p e below s₁ (entryFrame m #[(.int p0), (.int p1), (.int p2), (.int p3)] maxLocals) T90 (mkF m 46 #[.val (.int p0), .val (.int p1), .val (.int p2), .val (.int p3), .val x61, .val x66, .val x71, .val x76, .val (own_ka x61 kd61 x66 kd66), .val (own_ka (own_ka x61 kd61 x66 kd66) (own_kk kd61 kd66) x71 kd71), .unset, .unset] [x76, (own_ka (own_ka x61 kd61 x66 kd66) (own_kk kd61 kd66) x71 kd71)]) := by
    intro t kk
    refine c92 t ?_
    show Steps p.tables e below (T90.setTop (mkF m 40 #[.val (.int p0), .val (.int p1), .val (.int p2), .val (.int p3), .val x61, .val x66, .val x71, .val x76, .val (own_ka x61 kd61 x66 kd66), .unset, .unset, .unset] [(own_ka (own_ka x61 kd61 x66 kd66) (own_kk kd61 kd66) x71 kd71)])) t
    refine XS.astore X90.here hx rfl (hb hby at_40) rfl hv91 (l' := #[.val (.int p0), .val (.int p1), .val (.int p2), .val (.int p3), .val x61, .val x66, .val x71, .val x76, .val (own_ka x61 kd61 x66 kd66), .val (own_ka (own_ka x61 kd61 x66 kd66) (own_kk kd61 kd66) x71 kd71), .unset, .unset]) (XS.store1 rfl (Or.inl rfl) hk91) ?_
    show Steps p.tables e below (T90.setTop (mkF m 42 #[.val (.int p0), .val (.int p1), .val (.int p2), .val (.int p3), .val x61, .val x66, .val x71, .val x76, .val (own_ka x61 kd61 x66 kd66), .val (own_ka (own_ka x61 kd61 x66 kd66) (own_kk kd61 kd66) x71 kd71), .unset, .unset] [])) t
    refine XS.aload X90.here hx rfl (hb hby at_42) rfl hv91 ?_
    show Steps p.tables e below (T90.setTop (mkF m 44 #[.val (.int p0), .val (.int p1), .val (.int p2), .val (.int p3), .val x61, .val x66, .val x71, .val x76, .val (own_ka x61 kd61 x66 kd66), .val (own_ka (own_ka x61 kd61 x66 kd66) (own_kk kd61 kd66) x71 kd71), .unset, .unset] [(own_ka (own_ka x61 kd61 x66 kd66) (own_kk kd61 kd66) x71 kd71)])) t
    refine XS.aload X90.here hx rfl (hb hby at_44) rfl hv77 ?_
    exact kk
  obtain ⟨_, _, ⟨T95, L95, k95, n95⟩, -, X95, ⟨Lc95, hQ95, l95, y95, z95⟩, st95⟩ := Jvm.LawKit.callS X90 hx (y := (⟨"com/example/ordered_ledger_store/orderedledgerstore/storage/RecordKind", "keyAfter", "([B[B)[B"⟩ : MethodName)) hown (mvT hZ (hw _ (List.mem_of_getElem? (i := 5) rfl))) (mvT hZ (hw _ (List.mem_of_getElem? (i := 6) rfl))) (mvT hZ (hw _ (List.mem_of_getElem? (i := 7) rfl))) (mvT hZ (hw _ (List.mem_of_getElem? (i := 8) rfl))) (by decide) (backOf (W := 0) (rm_ka l Z a0 hw [] (own_ka (own_ka x61 kd61 x66 kd66) (own_kk kd61 kd66) x71 kd71) (own_kk (own_kk kd61 kd66) kd71) x76 kd76 T76.heap n0 f82 Ky88 Ky76) hZ (hw _ (List.mem_of_getElem? (i := 8) rfl)) (hw _ (List.mem_of_getElem? (i := 7) rfl)) (by decide) (by decide)) (g := (mkF m 46 #[.val (.int p0), .val (.int p1), .val (.int p2), .val (.int p3), .val x61, .val x66, .val x71, .val x76, .val (own_ka x61 kd61 x66 kd66), .val (own_ka (own_ka x61 kd61 x66 kd66) (own_kk kd61 kd66) x71 kd71), .unset, .unset] [x76, (own_ka (own_ka x61 kd61 x66 kd66) (own_kk kd61 kd66) x71 kd71)])) rfl (by rw [hml]; rfl) (argsL := [(own_ka (own_ka x61 kd61 x66 kd66) (own_kk kd61 kd66) x71 kd71), x76]) (rest := []) (lenOf pd___B_B__B rfl) rfl (by show 2 * 0 + _ ≤ _; exact Nat.le_of_eq rfl) (hb hby at_46) (fun _ _ => ⟨rfl, eq90, (by decide : 4 + 0 ≤ _), (by decide : 8 + 0 ≤ _)⟩)
  dsimp only [Pt.U, Pt.locs, Pt.cells, Pt.slots] at X95 l95 y95 z95 st95 hQ95
  subst l95 y95 z95
  obtain ⟨rfl, Nq95, eq95⟩ := hQ95
  have N95 := Fr.app N90 Nq95
  have hv96 : ((own_ka (own_ka (own_ka x61 kd61 x66 kd66) (own_kk kd61 kd66) x71 kd71) (own_kk (own_kk kd61 kd66) kd71) x76 kd76)).isRef = true := own_yref Ky93
  have hk96 : ((own_ka (own_ka (own_ka x61 kd61 x66 kd66) (own_kk kd61 kd66) x71 kd71) (own_kk (own_kk kd61 kd66) kd71) x76 kd76)).category = 1 := own_cat hv96
  have c97 : Goes p e below s₁ (entryFrame m #[(.int p0), (.int p1), (.int p2), (.int p3)] maxLocals) T95 (mkF m 49 #[.val (.int p0), .val (.int p1), .val (.int p2), .val (.int p3), .val x61, .val x66, .val x71, .val x76, .val (own_ka x61 kd61 x66 kd66), .val (own_ka (own_ka x61 kd61 x66 kd66) (own_kk kd61 kd66) x71 kd71), .unset, .unset] [(own_ka (own_ka (own_ka x61 kd61 x66 kd66) (own_kk kd61 kd66) x71 kd71) (own_kk (own_kk kd61 kd66) kd71) x76 kd76)]) := fun t kk => c94 t (st95 t kk)
  have c98 : Goes p e below s₁ (entryFrame m #[(.int p0), (.int p1), (.int p2), (.int p3)] maxLocals) T95 (mkF m 53 #[.val (.int p0), .val (.int p1), .val (.int p2), .val (.int p3), .val x61, .val x66, .val x71, .val x76, .val (own_ka x61 kd61 x66 kd66), .val (own_ka (own_ka x61 kd61 x66 kd66) (own_kk kd61 kd66) x71 kd71), .val (own_ka (own_ka (own_ka x61 kd61 x66 kd66) (own_kk kd61 kd66) x71 kd71) (own_kk (own_kk kd61 kd66) kd71) x76 kd76), .unset] [x61]) := by
    intro t kk
    refine c97 t ?_
    show Steps p.tables e below (T95.setTop (mkF m 49 #[.val (.int p0), .val (.int p1), .val (.int p2), .val (.int p3), .val x61, .val x66, .val x71, .val x76, .val (own_ka x61 kd61 x66 kd66), .val (own_ka (own_ka x61 kd61 x66 kd66) (own_kk kd61 kd66) x71 kd71), .unset, .unset] [(own_ka (own_ka (own_ka x61 kd61 x66 kd66) (own_kk kd61 kd66) x71 kd71) (own_kk (own_kk kd61 kd66) kd71) x76 kd76)])) t
    refine XS.astore X95.here hx rfl (hb hby at_49) rfl hv96 (l' := #[.val (.int p0), .val (.int p1), .val (.int p2), .val (.int p3), .val x61, .val x66, .val x71, .val x76, .val (own_ka x61 kd61 x66 kd66), .val (own_ka (own_ka x61 kd61 x66 kd66) (own_kk kd61 kd66) x71 kd71), .val (own_ka (own_ka (own_ka x61 kd61 x66 kd66) (own_kk kd61 kd66) x71 kd71) (own_kk (own_kk kd61 kd66) kd71) x76 kd76), .unset]) (XS.store1 rfl (Or.inl rfl) hk96) ?_
    show Steps p.tables e below (T95.setTop (mkF m 51 #[.val (.int p0), .val (.int p1), .val (.int p2), .val (.int p3), .val x61, .val x66, .val x71, .val x76, .val (own_ka x61 kd61 x66 kd66), .val (own_ka (own_ka x61 kd61 x66 kd66) (own_kk kd61 kd66) x71 kd71), .val (own_ka (own_ka (own_ka x61 kd61 x66 kd66) (own_kk kd61 kd66) x71 kd71) (own_kk (own_kk kd61 kd66) kd71) x76 kd76), .unset] [])) t
    refine XS.aload X95.here hx rfl (hb hby at_51) rfl hv62 ?_
    exact kk
  obtain ⟨_, _, ⟨T99, L99, k99, n99⟩, -, X99, ⟨Lc99, hQ99, l99, y99, z99⟩, st99⟩ := Jvm.LawKit.callS X95 hx (y := (⟨"com/example/ordered_ledger_store/orderedledgerstore/storage/RecordKindKeyAfterPinLaw", "full", "([B)Z"⟩ : MethodName)) hown (mvT hZ (hw _ (List.mem_of_getElem? (i := 9) rfl))) (mvT hZ (hw _ (List.mem_of_getElem? (i := 10) rfl))) (mvT hZ (hw _ (List.mem_of_getElem? (i := 2) rfl))) (mvT hZ (hw _ (List.mem_of_getElem? (i := 11) rfl))) (by decide) (backOf (W := 0) (rm_fu l Z a0 hw [] x61 kd61 T76.heap n0 f82 f79) hZ (hw _ (List.mem_of_getElem? (i := 11) rfl)) (hw _ (List.mem_of_getElem? (i := 2) rfl)) (by decide) (by decide)) (g := (mkF m 53 #[.val (.int p0), .val (.int p1), .val (.int p2), .val (.int p3), .val x61, .val x66, .val x71, .val x76, .val (own_ka x61 kd61 x66 kd66), .val (own_ka (own_ka x61 kd61 x66 kd66) (own_kk kd61 kd66) x71 kd71), .val (own_ka (own_ka (own_ka x61 kd61 x66 kd66) (own_kk kd61 kd66) x71 kd71) (own_kk (own_kk kd61 kd66) kd71) x76 kd76), .unset] [x61])) rfl (by rw [hml]; rfl) (argsL := [x61]) (rest := []) (lenOf pd___B_Z rfl) rfl (by show 2 * 0 + _ ≤ _; exact Nat.le_of_eq rfl) (hb hby at_53) (fun _ _ => ⟨rfl, eq95, (by decide : 4 + 0 ≤ _), (by decide : 8 + 0 ≤ _)⟩)
  dsimp only [Pt.U, Pt.locs, Pt.cells, Pt.slots] at X99 l99 y99 z99 st99 hQ99
  subst l99 y99 z99
  obtain ⟨rfl, Nq99, eq99⟩ := hQ99
  have N99 := Fr.app N95 Nq99
  have c100 : Goes p e below s₁ (entryFrame m #[(.int p0), (.int p1), (.int p2), (.int p3)] maxLocals) T99 (mkF m 56 #[.val (.int p0), .val (.int p1), .val (.int p2), .val (.int p3), .val x61, .val x66, .val x71, .val x76, .val (own_ka x61 kd61 x66 kd66), .val (own_ka (own_ka x61 kd61 x66 kd66) (own_kk kd61 kd66) x71 kd71), .val (own_ka (own_ka (own_ka x61 kd61 x66 kd66) (own_kk kd61 kd66) x71 kd71) (own_kk (own_kk kd61 kd66) kd71) x76 kd76), .unset] [(.int (own_full kd61))]) := fun t kk => c98 t (st99 t kk)
  by_cases hc56_101 : (own_full kd61) = (0 : Int32)
  · have c102 : Goes p e below s₁ (entryFrame m #[(.int p0), (.int p1), (.int p2), (.int p3)] maxLocals) T99 (mkF m 68 #[.val (.int p0), .val (.int p1), .val (.int p2), .val (.int p3), .val x61, .val x66, .val x71, .val x76, .val (own_ka x61 kd61 x66 kd66), .val (own_ka (own_ka x61 kd61 x66 kd66) (own_kk kd61 kd66) x71 kd71), .val (own_ka (own_ka (own_ka x61 kd61 x66 kd66) (own_kk kd61 kd66) x71 kd71) (own_kk (own_kk kd61 kd66) kd71) x76 kd76), .unset] [x66]) := by
      intro t kk
      refine c100 t ?_
      show Steps p.tables e below (T99.setTop (mkF m 56 #[.val (.int p0), .val (.int p1), .val (.int p2), .val (.int p3), .val x61, .val x66, .val x71, .val x76, .val (own_ka x61 kd61 x66 kd66), .val (own_ka (own_ka x61 kd61 x66 kd66) (own_kk kd61 kd66) x71 kd71), .val (own_ka (own_ka (own_ka x61 kd61 x66 kd66) (own_kk kd61 kd66) x71 kd71) (own_kk (own_kk kd61 kd66) kd71) x76 kd76), .unset] [(.int (own_full kd61))])) t
      refine XS.ifYes X99.here hx rfl (pc0 := 56) (pc' := 66) rfl (hb hby at_56) rfl ((if0 _ _).trans (teq hc56_101).1) (by decide) (by decide) ?_
      show Steps p.tables e below (T99.setTop (mkF m 66 #[.val (.int p0), .val (.int p1), .val (.int p2), .val (.int p3), .val x61, .val x66, .val x71, .val x76, .val (own_ka x61 kd61 x66 kd66), .val (own_ka (own_ka x61 kd61 x66 kd66) (own_kk kd61 kd66) x71 kd71), .val (own_ka (own_ka (own_ka x61 kd61 x66 kd66) (own_kk kd61 kd66) x71 kd71) (own_kk (own_kk kd61 kd66) kd71) x76 kd76), .unset] [])) t
      refine XS.aload X99.here hx rfl (hb hby at_66) rfl hv67 ?_
      exact kk
    obtain ⟨_, _, ⟨T103, L103, k103, n103⟩, -, X103, ⟨Lc103, hQ103, l103, y103, z103⟩, st103⟩ := Jvm.LawKit.callS X99 hx (y := (⟨"com/example/ordered_ledger_store/orderedledgerstore/storage/RecordKindKeyAfterPinLaw", "full", "([B)Z"⟩ : MethodName)) hown (mvT hZ (hw _ (List.mem_of_getElem? (i := 9) rfl))) (mvT hZ (hw _ (List.mem_of_getElem? (i := 10) rfl))) (mvT hZ (hw _ (List.mem_of_getElem? (i := 2) rfl))) (mvT hZ (hw _ (List.mem_of_getElem? (i := 11) rfl))) (by decide) (backOf (W := 0) (rm_fu l Z a0 hw [] x66 kd66 T76.heap n0 f82 f80) hZ (hw _ (List.mem_of_getElem? (i := 11) rfl)) (hw _ (List.mem_of_getElem? (i := 2) rfl)) (by decide) (by decide)) (g := (mkF m 68 #[.val (.int p0), .val (.int p1), .val (.int p2), .val (.int p3), .val x61, .val x66, .val x71, .val x76, .val (own_ka x61 kd61 x66 kd66), .val (own_ka (own_ka x61 kd61 x66 kd66) (own_kk kd61 kd66) x71 kd71), .val (own_ka (own_ka (own_ka x61 kd61 x66 kd66) (own_kk kd61 kd66) x71 kd71) (own_kk (own_kk kd61 kd66) kd71) x76 kd76), .unset] [x66])) rfl (by rw [hml]; rfl) (argsL := [x66]) (rest := []) (lenOf pd___B_Z rfl) rfl (by show 2 * 0 + _ ≤ _; exact Nat.le_of_eq rfl) (hb hby at_68) (fun _ _ => ⟨rfl, eq99, (by decide : 4 + 0 ≤ _), (by decide : 8 + 0 ≤ _)⟩)
    dsimp only [Pt.U, Pt.locs, Pt.cells, Pt.slots] at X103 l103 y103 z103 st103 hQ103
    subst l103 y103 z103
    obtain ⟨rfl, Nq103, eq103⟩ := hQ103
    have N103 := Fr.app N99 Nq103
    have c104 : Goes p e below s₁ (entryFrame m #[(.int p0), (.int p1), (.int p2), (.int p3)] maxLocals) T103 (mkF m 71 #[.val (.int p0), .val (.int p1), .val (.int p2), .val (.int p3), .val x61, .val x66, .val x71, .val x76, .val (own_ka x61 kd61 x66 kd66), .val (own_ka (own_ka x61 kd61 x66 kd66) (own_kk kd61 kd66) x71 kd71), .val (own_ka (own_ka (own_ka x61 kd61 x66 kd66) (own_kk kd61 kd66) x71 kd71) (own_kk (own_kk kd61 kd66) kd71) x76 kd76), .unset] [(.int (own_full kd66))]) := fun t kk => c102 t (st103 t kk)
    by_cases hc71_105 : (own_full kd66) = (0 : Int32)
    · have c106 : Goes p e below s₁ (entryFrame m #[(.int p0), (.int p1), (.int p2), (.int p3)] maxLocals) T103 (mkF m 83 #[.val (.int p0), .val (.int p1), .val (.int p2), .val (.int p3), .val x61, .val x66, .val x71, .val x76, .val (own_ka x61 kd61 x66 kd66), .val (own_ka (own_ka x61 kd61 x66 kd66) (own_kk kd61 kd66) x71 kd71), .val (own_ka (own_ka (own_ka x61 kd61 x66 kd66) (own_kk kd61 kd66) x71 kd71) (own_kk (own_kk kd61 kd66) kd71) x76 kd76), .unset] [x71]) := by
        intro t kk
        refine c104 t ?_
        show Steps p.tables e below (T103.setTop (mkF m 71 #[.val (.int p0), .val (.int p1), .val (.int p2), .val (.int p3), .val x61, .val x66, .val x71, .val x76, .val (own_ka x61 kd61 x66 kd66), .val (own_ka (own_ka x61 kd61 x66 kd66) (own_kk kd61 kd66) x71 kd71), .val (own_ka (own_ka (own_ka x61 kd61 x66 kd66) (own_kk kd61 kd66) x71 kd71) (own_kk (own_kk kd61 kd66) kd71) x76 kd76), .unset] [(.int (own_full kd66))])) t
        refine XS.ifYes X103.here hx rfl (pc0 := 71) (pc' := 81) rfl (hb hby at_71) rfl ((if0 _ _).trans (teq hc71_105).1) (by decide) (by decide) ?_
        show Steps p.tables e below (T103.setTop (mkF m 81 #[.val (.int p0), .val (.int p1), .val (.int p2), .val (.int p3), .val x61, .val x66, .val x71, .val x76, .val (own_ka x61 kd61 x66 kd66), .val (own_ka (own_ka x61 kd61 x66 kd66) (own_kk kd61 kd66) x71 kd71), .val (own_ka (own_ka (own_ka x61 kd61 x66 kd66) (own_kk kd61 kd66) x71 kd71) (own_kk (own_kk kd61 kd66) kd71) x76 kd76), .unset] [])) t
        refine XS.aload X103.here hx rfl (hb hby at_81) rfl hv72 ?_
        exact kk
      obtain ⟨_, _, ⟨T107, L107, k107, n107⟩, -, X107, ⟨Lc107, hQ107, l107, y107, z107⟩, st107⟩ := Jvm.LawKit.callS X103 hx (y := (⟨"com/example/ordered_ledger_store/orderedledgerstore/storage/RecordKindKeyAfterPinLaw", "full", "([B)Z"⟩ : MethodName)) hown (mvT hZ (hw _ (List.mem_of_getElem? (i := 9) rfl))) (mvT hZ (hw _ (List.mem_of_getElem? (i := 10) rfl))) (mvT hZ (hw _ (List.mem_of_getElem? (i := 2) rfl))) (mvT hZ (hw _ (List.mem_of_getElem? (i := 11) rfl))) (by decide) (backOf (W := 0) (rm_fu l Z a0 hw [] x71 kd71 T76.heap n0 f82 f87) hZ (hw _ (List.mem_of_getElem? (i := 11) rfl)) (hw _ (List.mem_of_getElem? (i := 2) rfl)) (by decide) (by decide)) (g := (mkF m 83 #[.val (.int p0), .val (.int p1), .val (.int p2), .val (.int p3), .val x61, .val x66, .val x71, .val x76, .val (own_ka x61 kd61 x66 kd66), .val (own_ka (own_ka x61 kd61 x66 kd66) (own_kk kd61 kd66) x71 kd71), .val (own_ka (own_ka (own_ka x61 kd61 x66 kd66) (own_kk kd61 kd66) x71 kd71) (own_kk (own_kk kd61 kd66) kd71) x76 kd76), .unset] [x71])) rfl (by rw [hml]; rfl) (argsL := [x71]) (rest := []) (lenOf pd___B_Z rfl) rfl (by show 2 * 0 + _ ≤ _; exact Nat.le_of_eq rfl) (hb hby at_83) (fun _ _ => ⟨rfl, eq103, (by decide : 4 + 0 ≤ _), (by decide : 8 + 0 ≤ _)⟩)
      dsimp only [Pt.U, Pt.locs, Pt.cells, Pt.slots] at X107 l107 y107 z107 st107 hQ107
      subst l107 y107 z107
      obtain ⟨rfl, Nq107, eq107⟩ := hQ107
      have N107 := Fr.app N103 Nq107
      have c108 : Goes p e below s₁ (entryFrame m #[(.int p0), (.int p1), (.int p2), (.int p3)] maxLocals) T107 (mkF m 86 #[.val (.int p0), .val (.int p1), .val (.int p2), .val (.int p3), .val x61, .val x66, .val x71, .val x76, .val (own_ka x61 kd61 x66 kd66), .val (own_ka (own_ka x61 kd61 x66 kd66) (own_kk kd61 kd66) x71 kd71), .val (own_ka (own_ka (own_ka x61 kd61 x66 kd66) (own_kk kd61 kd66) x71 kd71) (own_kk (own_kk kd61 kd66) kd71) x76 kd76), .unset] [(.int (own_full kd71))]) := fun t kk => c106 t (st107 t kk)
      by_cases hc86_109 : (own_full kd71) = (0 : Int32)
      · have c110 : Goes p e below s₁ (entryFrame m #[(.int p0), (.int p1), (.int p2), (.int p3)] maxLocals) T107 (mkF m 98 #[.val (.int p0), .val (.int p1), .val (.int p2), .val (.int p3), .val x61, .val x66, .val x71, .val x76, .val (own_ka x61 kd61 x66 kd66), .val (own_ka (own_ka x61 kd61 x66 kd66) (own_kk kd61 kd66) x71 kd71), .val (own_ka (own_ka (own_ka x61 kd61 x66 kd66) (own_kk kd61 kd66) x71 kd71) (own_kk (own_kk kd61 kd66) kd71) x76 kd76), .unset] [x76]) := by
          intro t kk
          refine c108 t ?_
          show Steps p.tables e below (T107.setTop (mkF m 86 #[.val (.int p0), .val (.int p1), .val (.int p2), .val (.int p3), .val x61, .val x66, .val x71, .val x76, .val (own_ka x61 kd61 x66 kd66), .val (own_ka (own_ka x61 kd61 x66 kd66) (own_kk kd61 kd66) x71 kd71), .val (own_ka (own_ka (own_ka x61 kd61 x66 kd66) (own_kk kd61 kd66) x71 kd71) (own_kk (own_kk kd61 kd66) kd71) x76 kd76), .unset] [(.int (own_full kd71))])) t
          refine XS.ifYes X107.here hx rfl (pc0 := 86) (pc' := 96) rfl (hb hby at_86) rfl ((if0 _ _).trans (teq hc86_109).1) (by decide) (by decide) ?_
          show Steps p.tables e below (T107.setTop (mkF m 96 #[.val (.int p0), .val (.int p1), .val (.int p2), .val (.int p3), .val x61, .val x66, .val x71, .val x76, .val (own_ka x61 kd61 x66 kd66), .val (own_ka (own_ka x61 kd61 x66 kd66) (own_kk kd61 kd66) x71 kd71), .val (own_ka (own_ka (own_ka x61 kd61 x66 kd66) (own_kk kd61 kd66) x71 kd71) (own_kk (own_kk kd61 kd66) kd71) x76 kd76), .unset] [])) t
          refine XS.aload X107.here hx rfl (hb hby at_96) rfl hv77 ?_
          exact kk
        obtain ⟨_, _, ⟨T111, L111, k111, n111⟩, -, X111, ⟨Lc111, hQ111, l111, y111, z111⟩, st111⟩ := Jvm.LawKit.callS X107 hx (y := (⟨"com/example/ordered_ledger_store/orderedledgerstore/storage/RecordKindKeyAfterPinLaw", "full", "([B)Z"⟩ : MethodName)) hown (mvT hZ (hw _ (List.mem_of_getElem? (i := 9) rfl))) (mvT hZ (hw _ (List.mem_of_getElem? (i := 10) rfl))) (mvT hZ (hw _ (List.mem_of_getElem? (i := 2) rfl))) (mvT hZ (hw _ (List.mem_of_getElem? (i := 11) rfl))) (by decide) (backOf (W := 0) (rm_fu l Z a0 hw [] x76 kd76 T76.heap n0 f82 Ky76) hZ (hw _ (List.mem_of_getElem? (i := 11) rfl)) (hw _ (List.mem_of_getElem? (i := 2) rfl)) (by decide) (by decide)) (g := (mkF m 98 #[.val (.int p0), .val (.int p1), .val (.int p2), .val (.int p3), .val x61, .val x66, .val x71, .val x76, .val (own_ka x61 kd61 x66 kd66), .val (own_ka (own_ka x61 kd61 x66 kd66) (own_kk kd61 kd66) x71 kd71), .val (own_ka (own_ka (own_ka x61 kd61 x66 kd66) (own_kk kd61 kd66) x71 kd71) (own_kk (own_kk kd61 kd66) kd71) x76 kd76), .unset] [x76])) rfl (by rw [hml]; rfl) (argsL := [x76]) (rest := []) (lenOf pd___B_Z rfl) rfl (by show 2 * 0 + _ ≤ _; exact Nat.le_of_eq rfl) (hb hby at_98) (fun _ _ => ⟨rfl, eq107, (by decide : 4 + 0 ≤ _), (by decide : 8 + 0 ≤ _)⟩)
        dsimp only [Pt.U, Pt.locs, Pt.cells, Pt.slots] at X111 l111 y111 z111 st111 hQ111
        subst l111 y111 z111
        obtain ⟨rfl, Nq111, eq111⟩ := hQ111
        have N111 := Fr.app N107 Nq111
        have c112 : Goes p e below s₁ (entryFrame m #[(.int p0), (.int p1), (.int p2), (.int p3)] maxLocals) T111 (mkF m 101 #[.val (.int p0), .val (.int p1), .val (.int p2), .val (.int p3), .val x61, .val x66, .val x71, .val x76, .val (own_ka x61 kd61 x66 kd66), .val (own_ka (own_ka x61 kd61 x66 kd66) (own_kk kd61 kd66) x71 kd71), .val (own_ka (own_ka (own_ka x61 kd61 x66 kd66) (own_kk kd61 kd66) x71 kd71) (own_kk (own_kk kd61 kd66) kd71) x76 kd76), .unset] [(.int (own_full kd76))]) := fun t kk => c110 t (st111 t kk)
        by_cases hc101_113 : (own_full kd76) = (0 : Int32)
        · have c114 : Goes p e below s₁ (entryFrame m #[(.int p0), (.int p1), (.int p2), (.int p3)] maxLocals) T111 (mkF m 113 #[.val (.int p0), .val (.int p1), .val (.int p2), .val (.int p3), .val x61, .val x66, .val x71, .val x76, .val (own_ka x61 kd61 x66 kd66), .val (own_ka (own_ka x61 kd61 x66 kd66) (own_kk kd61 kd66) x71 kd71), .val (own_ka (own_ka (own_ka x61 kd61 x66 kd66) (own_kk kd61 kd66) x71 kd71) (own_kk (own_kk kd61 kd66) kd71) x76 kd76), .unset] [x76]) := by
            intro t kk
            refine c112 t ?_
            show Steps p.tables e below (T111.setTop (mkF m 101 #[.val (.int p0), .val (.int p1), .val (.int p2), .val (.int p3), .val x61, .val x66, .val x71, .val x76, .val (own_ka x61 kd61 x66 kd66), .val (own_ka (own_ka x61 kd61 x66 kd66) (own_kk kd61 kd66) x71 kd71), .val (own_ka (own_ka (own_ka x61 kd61 x66 kd66) (own_kk kd61 kd66) x71 kd71) (own_kk (own_kk kd61 kd66) kd71) x76 kd76), .unset] [(.int (own_full kd76))])) t
            refine XS.ifYes X111.here hx rfl (pc0 := 101) (pc' := 111) rfl (hb hby at_101) rfl ((if0 _ _).trans (teq hc101_113).1) (by decide) (by decide) ?_
            show Steps p.tables e below (T111.setTop (mkF m 111 #[.val (.int p0), .val (.int p1), .val (.int p2), .val (.int p3), .val x61, .val x66, .val x71, .val x76, .val (own_ka x61 kd61 x66 kd66), .val (own_ka (own_ka x61 kd61 x66 kd66) (own_kk kd61 kd66) x71 kd71), .val (own_ka (own_ka (own_ka x61 kd61 x66 kd66) (own_kk kd61 kd66) x71 kd71) (own_kk (own_kk kd61 kd66) kd71) x76 kd76), .unset] [])) t
            refine XS.aload X111.here hx rfl (hb hby at_111) rfl hv77 ?_
            exact kk
          by_cases hz113 : kd76 = 0
          · have c116 : Goes p e below s₁ (entryFrame m #[(.int p0), (.int p1), (.int p2), (.int p3)] maxLocals) T111 (mkF m 125 #[.val (.int p0), .val (.int p1), .val (.int p2), .val (.int p3), .val x61, .val x66, .val x71, .val x76, .val (own_ka x61 kd61 x66 kd66), .val (own_ka (own_ka x61 kd61 x66 kd66) (own_kk kd61 kd66) x71 kd71), .val (own_ka (own_ka (own_ka x61 kd61 x66 kd66) (own_kk kd61 kd66) x71 kd71) (own_kk (own_kk kd61 kd66) kd71) x76 kd76), .unset] [x71]) := by
              intro t kk
              refine c114 t ?_
              show Steps p.tables e below (T111.setTop (mkF m 113 #[.val (.int p0), .val (.int p1), .val (.int p2), .val (.int p3), .val x61, .val x66, .val x71, .val x76, .val (own_ka x61 kd61 x66 kd66), .val (own_ka (own_ka x61 kd61 x66 kd66) (own_kk kd61 kd66) x71 kd71), .val (own_ka (own_ka (own_ka x61 kd61 x66 kd66) (own_kk kd61 kd66) x71 kd71) (own_kk (own_kk kd61 kd66) kd71) x76 kd76), .unset] [x76])) t
              refine XS.ifnullYes X111.here hx rfl (pc0 := 113) (pc' := 123) rfl (hb hby at_113) (congrArg (fun q : Value => q :: []) (own_ynull Ky76 hz113)) (by decide) (by decide) ?_
              show Steps p.tables e below (T111.setTop (mkF m 123 #[.val (.int p0), .val (.int p1), .val (.int p2), .val (.int p3), .val x61, .val x66, .val x71, .val x76, .val (own_ka x61 kd61 x66 kd66), .val (own_ka (own_ka x61 kd61 x66 kd66) (own_kk kd61 kd66) x71 kd71), .val (own_ka (own_ka (own_ka x61 kd61 x66 kd66) (own_kk kd61 kd66) x71 kd71) (own_kk (own_kk kd61 kd66) kd71) x76 kd76), .unset] [])) t
              refine XS.aload X111.here hx rfl (hb hby at_123) rfl hv72 ?_
              exact kk
            by_cases hz125 : kd71 = 0
            · have c118 : Goes p e below s₁ (entryFrame m #[(.int p0), (.int p1), (.int p2), (.int p3)] maxLocals) T111 (mkF m 137 #[.val (.int p0), .val (.int p1), .val (.int p2), .val (.int p3), .val x61, .val x66, .val x71, .val x76, .val (own_ka x61 kd61 x66 kd66), .val (own_ka (own_ka x61 kd61 x66 kd66) (own_kk kd61 kd66) x71 kd71), .val (own_ka (own_ka (own_ka x61 kd61 x66 kd66) (own_kk kd61 kd66) x71 kd71) (own_kk (own_kk kd61 kd66) kd71) x76 kd76), .unset] [x66]) := by
                intro t kk
                refine c116 t ?_
                show Steps p.tables e below (T111.setTop (mkF m 125 #[.val (.int p0), .val (.int p1), .val (.int p2), .val (.int p3), .val x61, .val x66, .val x71, .val x76, .val (own_ka x61 kd61 x66 kd66), .val (own_ka (own_ka x61 kd61 x66 kd66) (own_kk kd61 kd66) x71 kd71), .val (own_ka (own_ka (own_ka x61 kd61 x66 kd66) (own_kk kd61 kd66) x71 kd71) (own_kk (own_kk kd61 kd66) kd71) x76 kd76), .unset] [x71])) t
                refine XS.ifnullYes X111.here hx rfl (pc0 := 125) (pc' := 135) rfl (hb hby at_125) (congrArg (fun q : Value => q :: []) (own_ynull f87 hz125)) (by decide) (by decide) ?_
                show Steps p.tables e below (T111.setTop (mkF m 135 #[.val (.int p0), .val (.int p1), .val (.int p2), .val (.int p3), .val x61, .val x66, .val x71, .val x76, .val (own_ka x61 kd61 x66 kd66), .val (own_ka (own_ka x61 kd61 x66 kd66) (own_kk kd61 kd66) x71 kd71), .val (own_ka (own_ka (own_ka x61 kd61 x66 kd66) (own_kk kd61 kd66) x71 kd71) (own_kk (own_kk kd61 kd66) kd71) x76 kd76), .unset] [])) t
                refine XS.aload X111.here hx rfl (hb hby at_135) rfl hv67 ?_
                exact kk
              by_cases hz137 : kd66 = 0
              · have c121 : Goes p e below s₁ (entryFrame m #[(.int p0), (.int p1), (.int p2), (.int p3)] maxLocals) T111 (mkF m 155 #[.val (.int p0), .val (.int p1), .val (.int p2), .val (.int p3), .val x61, .val x66, .val x71, .val x76, .val (own_ka x61 kd61 x66 kd66), .val (own_ka (own_ka x61 kd61 x66 kd66) (own_kk kd61 kd66) x71 kd71), .val (own_ka (own_ka (own_ka x61 kd61 x66 kd66) (own_kk kd61 kd66) x71 kd71) (own_kk (own_kk kd61 kd66) kd71) x76 kd76), .val x61] [x61, (own_ka (own_ka (own_ka x61 kd61 x66 kd66) (own_kk kd61 kd66) x71 kd71) (own_kk (own_kk kd61 kd66) kd71) x76 kd76)]) := by
                  intro t kk
                  refine c118 t ?_
                  show Steps p.tables e below (T111.setTop (mkF m 137 #[.val (.int p0), .val (.int p1), .val (.int p2), .val (.int p3), .val x61, .val x66, .val x71, .val x76, .val (own_ka x61 kd61 x66 kd66), .val (own_ka (own_ka x61 kd61 x66 kd66) (own_kk kd61 kd66) x71 kd71), .val (own_ka (own_ka (own_ka x61 kd61 x66 kd66) (own_kk kd61 kd66) x71 kd71) (own_kk (own_kk kd61 kd66) kd71) x76 kd76), .unset] [x66])) t
                  refine XS.ifnullYes X111.here hx rfl (pc0 := 137) (pc' := 147) rfl (hb hby at_137) (congrArg (fun q : Value => q :: []) (own_ynull f80 hz137)) (by decide) (by decide) ?_
                  show Steps p.tables e below (T111.setTop (mkF m 147 #[.val (.int p0), .val (.int p1), .val (.int p2), .val (.int p3), .val x61, .val x66, .val x71, .val x76, .val (own_ka x61 kd61 x66 kd66), .val (own_ka (own_ka x61 kd61 x66 kd66) (own_kk kd61 kd66) x71 kd71), .val (own_ka (own_ka (own_ka x61 kd61 x66 kd66) (own_kk kd61 kd66) x71 kd71) (own_kk (own_kk kd61 kd66) kd71) x76 kd76), .unset] [])) t
                  refine XS.aload X111.here hx rfl (hb hby at_147) rfl hv62 ?_
                  show Steps p.tables e below (T111.setTop (mkF m 149 #[.val (.int p0), .val (.int p1), .val (.int p2), .val (.int p3), .val x61, .val x66, .val x71, .val x76, .val (own_ka x61 kd61 x66 kd66), .val (own_ka (own_ka x61 kd61 x66 kd66) (own_kk kd61 kd66) x71 kd71), .val (own_ka (own_ka (own_ka x61 kd61 x66 kd66) (own_kk kd61 kd66) x71 kd71) (own_kk (own_kk kd61 kd66) kd71) x76 kd76), .unset] [x61])) t
                  refine XS.astore X111.here hx rfl (hb hby at_149) rfl hv62 (l' := #[.val (.int p0), .val (.int p1), .val (.int p2), .val (.int p3), .val x61, .val x66, .val x71, .val x76, .val (own_ka x61 kd61 x66 kd66), .val (own_ka (own_ka x61 kd61 x66 kd66) (own_kk kd61 kd66) x71 kd71), .val (own_ka (own_ka (own_ka x61 kd61 x66 kd66) (own_kk kd61 kd66) x71 kd71) (own_kk (own_kk kd61 kd66) kd71) x76 kd76), .val x61]) (XS.store1 rfl (Or.inl rfl) hk62) ?_
                  show Steps p.tables e below (T111.setTop (mkF m 151 #[.val (.int p0), .val (.int p1), .val (.int p2), .val (.int p3), .val x61, .val x66, .val x71, .val x76, .val (own_ka x61 kd61 x66 kd66), .val (own_ka (own_ka x61 kd61 x66 kd66) (own_kk kd61 kd66) x71 kd71), .val (own_ka (own_ka (own_ka x61 kd61 x66 kd66) (own_kk kd61 kd66) x71 kd71) (own_kk (own_kk kd61 kd66) kd71) x76 kd76), .val x61] [])) t
                  refine XS.aload X111.here hx rfl (hb hby at_151) rfl hv96 ?_
                  show Steps p.tables e below (T111.setTop (mkF m 153 #[.val (.int p0), .val (.int p1), .val (.int p2), .val (.int p3), .val x61, .val x66, .val x71, .val x76, .val (own_ka x61 kd61 x66 kd66), .val (own_ka (own_ka x61 kd61 x66 kd66) (own_kk kd61 kd66) x71 kd71), .val (own_ka (own_ka (own_ka x61 kd61 x66 kd66) (own_kk kd61 kd66) x71 kd71) (own_kk (own_kk kd61 kd66) kd71) x76 kd76), .val x61] [(own_ka (own_ka (own_ka x61 kd61 x66 kd66) (own_kk kd61 kd66) x71 kd71) (own_kk (own_kk kd61 kd66) kd71) x76 kd76)])) t
                  refine XS.aload X111.here hx rfl (hb hby at_153) rfl hv62 ?_
                  exact kk
                obtain ⟨_, _, ⟨T122, L122, k122, n122⟩, -, X122, ⟨Lc122, hQ122, l122, y122, z122⟩, st122⟩ := Jvm.LawKit.callS X111 hx (y := (⟨"com/example/ordered_ledger_store/orderedledgerstore/storage/RecordKindKeyAfterPinLaw", "sameKey", "([B[B)Z"⟩ : MethodName)) hown (mvT hZ (hw _ (List.mem_of_getElem? (i := 12) rfl))) (mvT hZ (hw _ (List.mem_of_getElem? (i := 13) rfl))) (mvT hZ (hw _ (List.mem_of_getElem? (i := 2) rfl))) (mvT hZ (hw _ (List.mem_of_getElem? (i := 14) rfl))) (by decide) (backOf (W := 0) (rm_sk l Z a0 hw [] (own_ka (own_ka (own_ka x61 kd61 x66 kd66) (own_kk kd61 kd66) x71 kd71) (own_kk (own_kk kd61 kd66) kd71) x76 kd76) x61 (own_kk (own_kk (own_kk kd61 kd66) kd71) kd76) T76.heap n0 f82 Ky93 (own_l7 hz137 hz125 hz113)) hZ (hw _ (List.mem_of_getElem? (i := 14) rfl)) (hw _ (List.mem_of_getElem? (i := 2) rfl)) (by decide) (by decide)) (g := (mkF m 155 #[.val (.int p0), .val (.int p1), .val (.int p2), .val (.int p3), .val x61, .val x66, .val x71, .val x76, .val (own_ka x61 kd61 x66 kd66), .val (own_ka (own_ka x61 kd61 x66 kd66) (own_kk kd61 kd66) x71 kd71), .val (own_ka (own_ka (own_ka x61 kd61 x66 kd66) (own_kk kd61 kd66) x71 kd71) (own_kk (own_kk kd61 kd66) kd71) x76 kd76), .val x61] [x61, (own_ka (own_ka (own_ka x61 kd61 x66 kd66) (own_kk kd61 kd66) x71 kd71) (own_kk (own_kk kd61 kd66) kd71) x76 kd76)])) rfl (by rw [hml]; rfl) (argsL := [(own_ka (own_ka (own_ka x61 kd61 x66 kd66) (own_kk kd61 kd66) x71 kd71) (own_kk (own_kk kd61 kd66) kd71) x76 kd76), x61]) (rest := []) (lenOf pd___B_B_Z rfl) rfl (by show 2 * 0 + _ ≤ _; exact Nat.le_of_eq rfl) (hb hby at_155) (fun _ _ => ⟨rfl, eq111, (by decide : 4 + 0 ≤ _), (by decide : 8 + 0 ≤ _)⟩)
                dsimp only [Pt.U, Pt.locs, Pt.cells, Pt.slots] at X122 l122 y122 z122 st122 hQ122
                subst l122 y122 z122
                obtain ⟨rfl, Nq122, eq122⟩ := hQ122
                have N122 := Fr.app N111 Nq122
                have c123 : Goes p e below s₁ (entryFrame m #[(.int p0), (.int p1), (.int p2), (.int p3)] maxLocals) T122 (mkF m 158 #[.val (.int p0), .val (.int p1), .val (.int p2), .val (.int p3), .val x61, .val x66, .val x71, .val x76, .val (own_ka x61 kd61 x66 kd66), .val (own_ka (own_ka x61 kd61 x66 kd66) (own_kk kd61 kd66) x71 kd71), .val (own_ka (own_ka (own_ka x61 kd61 x66 kd66) (own_kk kd61 kd66) x71 kd71) (own_kk (own_kk kd61 kd66) kd71) x76 kd76), .val x61] [(.int (1 : Int32))]) := fun t kk => c121 t (st122 t kk)
                obtain ⟨fs, hr, hrun, hended, hW, hsame⟩ := X122.leave (v := some (.int (1 : Int32))) (fun h => by rw [Bd.returns] at h; cases h)
                refine ⟨_, _, c123 _ ?_, hrun, hended, _, _, rfl, ?_, ⟨_, rfl⟩, hW, hsame.mono (by decide) (by decide)⟩
                · exact retN X122 hx (t := .boolean) Bd.returns (by simp) (hb hby at_158) hr
                · show Q_law Z p0 p1 p2 p3 h0 n0 _ T122.heap _
                  rw [eq122]
                  exact ⟨rfl, N122⟩
              · obtain ⟨ao119, ho119⟩ := own_yobj f80 hz137
                have c125 : Goes p e below s₁ (entryFrame m #[(.int p0), (.int p1), (.int p2), (.int p3)] maxLocals) T111 (mkF m 155 #[.val (.int p0), .val (.int p1), .val (.int p2), .val (.int p3), .val x61, .val x66, .val x71, .val x76, .val (own_ka x61 kd61 x66 kd66), .val (own_ka (own_ka x61 kd61 x66 kd66) (own_kk kd61 kd66) x71 kd71), .val (own_ka (own_ka (own_ka x61 kd61 x66 kd66) (own_kk kd61 kd66) x71 kd71) (own_kk (own_kk kd61 kd66) kd71) x76 kd76), .val x66] [x66, (own_ka (own_ka (own_ka x61 kd61 x66 kd66) (own_kk kd61 kd66) x71 kd71) (own_kk (own_kk kd61 kd66) kd71) x76 kd76)]) := by
                  intro t kk
                  refine c118 t ?_
                  show Steps p.tables e below (T111.setTop (mkF m 137 #[.val (.int p0), .val (.int p1), .val (.int p2), .val (.int p3), .val x61, .val x66, .val x71, .val x76, .val (own_ka x61 kd61 x66 kd66), .val (own_ka (own_ka x61 kd61 x66 kd66) (own_kk kd61 kd66) x71 kd71), .val (own_ka (own_ka (own_ka x61 kd61 x66 kd66) (own_kk kd61 kd66) x71 kd71) (own_kk (own_kk kd61 kd66) kd71) x76 kd76), .unset] [x66])) t
                  refine XS.ifnullNo X111.here hx rfl (hb hby at_137) (congrArg (fun q : Value => q :: []) ho119) ?_
                  show Steps p.tables e below (T111.setTop (mkF m 140 #[.val (.int p0), .val (.int p1), .val (.int p2), .val (.int p3), .val x61, .val x66, .val x71, .val x76, .val (own_ka x61 kd61 x66 kd66), .val (own_ka (own_ka x61 kd61 x66 kd66) (own_kk kd61 kd66) x71 kd71), .val (own_ka (own_ka (own_ka x61 kd61 x66 kd66) (own_kk kd61 kd66) x71 kd71) (own_kk (own_kk kd61 kd66) kd71) x76 kd76), .unset] [])) t
                  refine XS.aload X111.here hx rfl (hb hby at_140) rfl hv67 ?_
                  show Steps p.tables e below (T111.setTop (mkF m 142 #[.val (.int p0), .val (.int p1), .val (.int p2), .val (.int p3), .val x61, .val x66, .val x71, .val x76, .val (own_ka x61 kd61 x66 kd66), .val (own_ka (own_ka x61 kd61 x66 kd66) (own_kk kd61 kd66) x71 kd71), .val (own_ka (own_ka (own_ka x61 kd61 x66 kd66) (own_kk kd61 kd66) x71 kd71) (own_kk (own_kk kd61 kd66) kd71) x76 kd76), .unset] [x66])) t
                  refine XS.astore X111.here hx rfl (hb hby at_142) rfl hv67 (l' := #[.val (.int p0), .val (.int p1), .val (.int p2), .val (.int p3), .val x61, .val x66, .val x71, .val x76, .val (own_ka x61 kd61 x66 kd66), .val (own_ka (own_ka x61 kd61 x66 kd66) (own_kk kd61 kd66) x71 kd71), .val (own_ka (own_ka (own_ka x61 kd61 x66 kd66) (own_kk kd61 kd66) x71 kd71) (own_kk (own_kk kd61 kd66) kd71) x76 kd76), .val x66]) (XS.store1 rfl (Or.inl rfl) hk67) ?_
                  show Steps p.tables e below (T111.setTop (mkF m 144 #[.val (.int p0), .val (.int p1), .val (.int p2), .val (.int p3), .val x61, .val x66, .val x71, .val x76, .val (own_ka x61 kd61 x66 kd66), .val (own_ka (own_ka x61 kd61 x66 kd66) (own_kk kd61 kd66) x71 kd71), .val (own_ka (own_ka (own_ka x61 kd61 x66 kd66) (own_kk kd61 kd66) x71 kd71) (own_kk (own_kk kd61 kd66) kd71) x76 kd76), .val x66] [])) t
                  refine XS.goto X111.here hx rfl (pc0 := 144) (pc' := 151) rfl (hb hby at_144) (by decide) (by decide) ?_
                  show Steps p.tables e below (T111.setTop (mkF m 151 #[.val (.int p0), .val (.int p1), .val (.int p2), .val (.int p3), .val x61, .val x66, .val x71, .val x76, .val (own_ka x61 kd61 x66 kd66), .val (own_ka (own_ka x61 kd61 x66 kd66) (own_kk kd61 kd66) x71 kd71), .val (own_ka (own_ka (own_ka x61 kd61 x66 kd66) (own_kk kd61 kd66) x71 kd71) (own_kk (own_kk kd61 kd66) kd71) x76 kd76), .val x66] [])) t
                  refine XS.aload X111.here hx rfl (hb hby at_151) rfl hv96 ?_
                  show Steps p.tables e below (T111.setTop (mkF m 153 #[.val (.int p0), .val (.int p1), .val (.int p2), .val (.int p3), .val x61, .val x66, .val x71, .val x76, .val (own_ka x61 kd61 x66 kd66), .val (own_ka (own_ka x61 kd61 x66 kd66) (own_kk kd61 kd66) x71 kd71), .val (own_ka (own_ka (own_ka x61 kd61 x66 kd66) (own_kk kd61 kd66) x71 kd71) (own_kk (own_kk kd61 kd66) kd71) x76 kd76), .val x66] [(own_ka (own_ka (own_ka x61 kd61 x66 kd66) (own_kk kd61 kd66) x71 kd71) (own_kk (own_kk kd61 kd66) kd71) x76 kd76)])) t
                  refine XS.aload X111.here hx rfl (hb hby at_153) rfl hv67 ?_
                  exact kk
                obtain ⟨_, _, ⟨T126, L126, k126, n126⟩, -, X126, ⟨Lc126, hQ126, l126, y126, z126⟩, st126⟩ := Jvm.LawKit.callS X111 hx (y := (⟨"com/example/ordered_ledger_store/orderedledgerstore/storage/RecordKindKeyAfterPinLaw", "sameKey", "([B[B)Z"⟩ : MethodName)) hown (mvT hZ (hw _ (List.mem_of_getElem? (i := 12) rfl))) (mvT hZ (hw _ (List.mem_of_getElem? (i := 13) rfl))) (mvT hZ (hw _ (List.mem_of_getElem? (i := 2) rfl))) (mvT hZ (hw _ (List.mem_of_getElem? (i := 14) rfl))) (by decide) (backOf (W := 0) (rm_sk l Z a0 hw [] (own_ka (own_ka (own_ka x61 kd61 x66 kd66) (own_kk kd61 kd66) x71 kd71) (own_kk (own_kk kd61 kd66) kd71) x76 kd76) x66 (own_kk (own_kk (own_kk kd61 kd66) kd71) kd76) T76.heap n0 f82 Ky93 (own_l6 (own_f0.mp hc56_101) hz137 hz125 hz113)) hZ (hw _ (List.mem_of_getElem? (i := 14) rfl)) (hw _ (List.mem_of_getElem? (i := 2) rfl)) (by decide) (by decide)) (g := (mkF m 155 #[.val (.int p0), .val (.int p1), .val (.int p2), .val (.int p3), .val x61, .val x66, .val x71, .val x76, .val (own_ka x61 kd61 x66 kd66), .val (own_ka (own_ka x61 kd61 x66 kd66) (own_kk kd61 kd66) x71 kd71), .val (own_ka (own_ka (own_ka x61 kd61 x66 kd66) (own_kk kd61 kd66) x71 kd71) (own_kk (own_kk kd61 kd66) kd71) x76 kd76), .val x66] [x66, (own_ka (own_ka (own_ka x61 kd61 x66 kd66) (own_kk kd61 kd66) x71 kd71) (own_kk (own_kk kd61 kd66) kd71) x76 kd76)])) rfl (by rw [hml]; rfl) (argsL := [(own_ka (own_ka (own_ka x61 kd61 x66 kd66) (own_kk kd61 kd66) x71 kd71) (own_kk (own_kk kd61 kd66) kd71) x76 kd76), x66]) (rest := []) (lenOf pd___B_B_Z rfl) rfl (by show 2 * 0 + _ ≤ _; exact Nat.le_of_eq rfl) (hb hby at_155) (fun _ _ => ⟨rfl, eq111, (by decide : 4 + 0 ≤ _), (by decide : 8 + 0 ≤ _)⟩)
                dsimp only [Pt.U, Pt.locs, Pt.cells, Pt.slots] at X126 l126 y126 z126 st126 hQ126
                subst l126 y126 z126
                obtain ⟨rfl, Nq126, eq126⟩ := hQ126
                have N126 := Fr.app N111 Nq126
                have c127 : Goes p e below s₁ (entryFrame m #[(.int p0), (.int p1), (.int p2), (.int p3)] maxLocals) T126 (mkF m 158 #[.val (.int p0), .val (.int p1), .val (.int p2), .val (.int p3), .val x61, .val x66, .val x71, .val x76, .val (own_ka x61 kd61 x66 kd66), .val (own_ka (own_ka x61 kd61 x66 kd66) (own_kk kd61 kd66) x71 kd71), .val (own_ka (own_ka (own_ka x61 kd61 x66 kd66) (own_kk kd61 kd66) x71 kd71) (own_kk (own_kk kd61 kd66) kd71) x76 kd76), .val x66] [(.int (1 : Int32))]) := fun t kk => c125 t (st126 t kk)
                obtain ⟨fs, hr, hrun, hended, hW, hsame⟩ := X126.leave (v := some (.int (1 : Int32))) (fun h => by rw [Bd.returns] at h; cases h)
                refine ⟨_, _, c127 _ ?_, hrun, hended, _, _, rfl, ?_, ⟨_, rfl⟩, hW, hsame.mono (by decide) (by decide)⟩
                · exact retN X126 hx (t := .boolean) Bd.returns (by simp) (hb hby at_158) hr
                · show Q_law Z p0 p1 p2 p3 h0 n0 _ T126.heap _
                  rw [eq126]
                  exact ⟨rfl, N126⟩
            · obtain ⟨ao117, ho117⟩ := own_yobj f87 hz125
              have c129 : Goes p e below s₁ (entryFrame m #[(.int p0), (.int p1), (.int p2), (.int p3)] maxLocals) T111 (mkF m 155 #[.val (.int p0), .val (.int p1), .val (.int p2), .val (.int p3), .val x61, .val x66, .val x71, .val x76, .val (own_ka x61 kd61 x66 kd66), .val (own_ka (own_ka x61 kd61 x66 kd66) (own_kk kd61 kd66) x71 kd71), .val (own_ka (own_ka (own_ka x61 kd61 x66 kd66) (own_kk kd61 kd66) x71 kd71) (own_kk (own_kk kd61 kd66) kd71) x76 kd76), .val x71] [x71, (own_ka (own_ka (own_ka x61 kd61 x66 kd66) (own_kk kd61 kd66) x71 kd71) (own_kk (own_kk kd61 kd66) kd71) x76 kd76)]) := by
                intro t kk
                refine c116 t ?_
                show Steps p.tables e below (T111.setTop (mkF m 125 #[.val (.int p0), .val (.int p1), .val (.int p2), .val (.int p3), .val x61, .val x66, .val x71, .val x76, .val (own_ka x61 kd61 x66 kd66), .val (own_ka (own_ka x61 kd61 x66 kd66) (own_kk kd61 kd66) x71 kd71), .val (own_ka (own_ka (own_ka x61 kd61 x66 kd66) (own_kk kd61 kd66) x71 kd71) (own_kk (own_kk kd61 kd66) kd71) x76 kd76), .unset] [x71])) t
                refine XS.ifnullNo X111.here hx rfl (hb hby at_125) (congrArg (fun q : Value => q :: []) ho117) ?_
                show Steps p.tables e below (T111.setTop (mkF m 128 #[.val (.int p0), .val (.int p1), .val (.int p2), .val (.int p3), .val x61, .val x66, .val x71, .val x76, .val (own_ka x61 kd61 x66 kd66), .val (own_ka (own_ka x61 kd61 x66 kd66) (own_kk kd61 kd66) x71 kd71), .val (own_ka (own_ka (own_ka x61 kd61 x66 kd66) (own_kk kd61 kd66) x71 kd71) (own_kk (own_kk kd61 kd66) kd71) x76 kd76), .unset] [])) t
                refine XS.aload X111.here hx rfl (hb hby at_128) rfl hv72 ?_
                show Steps p.tables e below (T111.setTop (mkF m 130 #[.val (.int p0), .val (.int p1), .val (.int p2), .val (.int p3), .val x61, .val x66, .val x71, .val x76, .val (own_ka x61 kd61 x66 kd66), .val (own_ka (own_ka x61 kd61 x66 kd66) (own_kk kd61 kd66) x71 kd71), .val (own_ka (own_ka (own_ka x61 kd61 x66 kd66) (own_kk kd61 kd66) x71 kd71) (own_kk (own_kk kd61 kd66) kd71) x76 kd76), .unset] [x71])) t
                refine XS.astore X111.here hx rfl (hb hby at_130) rfl hv72 (l' := #[.val (.int p0), .val (.int p1), .val (.int p2), .val (.int p3), .val x61, .val x66, .val x71, .val x76, .val (own_ka x61 kd61 x66 kd66), .val (own_ka (own_ka x61 kd61 x66 kd66) (own_kk kd61 kd66) x71 kd71), .val (own_ka (own_ka (own_ka x61 kd61 x66 kd66) (own_kk kd61 kd66) x71 kd71) (own_kk (own_kk kd61 kd66) kd71) x76 kd76), .val x71]) (XS.store1 rfl (Or.inl rfl) hk72) ?_
                show Steps p.tables e below (T111.setTop (mkF m 132 #[.val (.int p0), .val (.int p1), .val (.int p2), .val (.int p3), .val x61, .val x66, .val x71, .val x76, .val (own_ka x61 kd61 x66 kd66), .val (own_ka (own_ka x61 kd61 x66 kd66) (own_kk kd61 kd66) x71 kd71), .val (own_ka (own_ka (own_ka x61 kd61 x66 kd66) (own_kk kd61 kd66) x71 kd71) (own_kk (own_kk kd61 kd66) kd71) x76 kd76), .val x71] [])) t
                refine XS.goto X111.here hx rfl (pc0 := 132) (pc' := 151) rfl (hb hby at_132) (by decide) (by decide) ?_
                show Steps p.tables e below (T111.setTop (mkF m 151 #[.val (.int p0), .val (.int p1), .val (.int p2), .val (.int p3), .val x61, .val x66, .val x71, .val x76, .val (own_ka x61 kd61 x66 kd66), .val (own_ka (own_ka x61 kd61 x66 kd66) (own_kk kd61 kd66) x71 kd71), .val (own_ka (own_ka (own_ka x61 kd61 x66 kd66) (own_kk kd61 kd66) x71 kd71) (own_kk (own_kk kd61 kd66) kd71) x76 kd76), .val x71] [])) t
                refine XS.aload X111.here hx rfl (hb hby at_151) rfl hv96 ?_
                show Steps p.tables e below (T111.setTop (mkF m 153 #[.val (.int p0), .val (.int p1), .val (.int p2), .val (.int p3), .val x61, .val x66, .val x71, .val x76, .val (own_ka x61 kd61 x66 kd66), .val (own_ka (own_ka x61 kd61 x66 kd66) (own_kk kd61 kd66) x71 kd71), .val (own_ka (own_ka (own_ka x61 kd61 x66 kd66) (own_kk kd61 kd66) x71 kd71) (own_kk (own_kk kd61 kd66) kd71) x76 kd76), .val x71] [(own_ka (own_ka (own_ka x61 kd61 x66 kd66) (own_kk kd61 kd66) x71 kd71) (own_kk (own_kk kd61 kd66) kd71) x76 kd76)])) t
                refine XS.aload X111.here hx rfl (hb hby at_153) rfl hv72 ?_
                exact kk
              obtain ⟨_, _, ⟨T130, L130, k130, n130⟩, -, X130, ⟨Lc130, hQ130, l130, y130, z130⟩, st130⟩ := Jvm.LawKit.callS X111 hx (y := (⟨"com/example/ordered_ledger_store/orderedledgerstore/storage/RecordKindKeyAfterPinLaw", "sameKey", "([B[B)Z"⟩ : MethodName)) hown (mvT hZ (hw _ (List.mem_of_getElem? (i := 12) rfl))) (mvT hZ (hw _ (List.mem_of_getElem? (i := 13) rfl))) (mvT hZ (hw _ (List.mem_of_getElem? (i := 2) rfl))) (mvT hZ (hw _ (List.mem_of_getElem? (i := 14) rfl))) (by decide) (backOf (W := 0) (rm_sk l Z a0 hw [] (own_ka (own_ka (own_ka x61 kd61 x66 kd66) (own_kk kd61 kd66) x71 kd71) (own_kk (own_kk kd61 kd66) kd71) x76 kd76) x71 (own_kk (own_kk (own_kk kd61 kd66) kd71) kd76) T76.heap n0 f82 Ky93 (own_l5 (own_f0.mp hc56_101) (own_f0.mp hc71_105) hz125 hz113)) hZ (hw _ (List.mem_of_getElem? (i := 14) rfl)) (hw _ (List.mem_of_getElem? (i := 2) rfl)) (by decide) (by decide)) (g := (mkF m 155 #[.val (.int p0), .val (.int p1), .val (.int p2), .val (.int p3), .val x61, .val x66, .val x71, .val x76, .val (own_ka x61 kd61 x66 kd66), .val (own_ka (own_ka x61 kd61 x66 kd66) (own_kk kd61 kd66) x71 kd71), .val (own_ka (own_ka (own_ka x61 kd61 x66 kd66) (own_kk kd61 kd66) x71 kd71) (own_kk (own_kk kd61 kd66) kd71) x76 kd76), .val x71] [x71, (own_ka (own_ka (own_ka x61 kd61 x66 kd66) (own_kk kd61 kd66) x71 kd71) (own_kk (own_kk kd61 kd66) kd71) x76 kd76)])) rfl (by rw [hml]; rfl) (argsL := [(own_ka (own_ka (own_ka x61 kd61 x66 kd66) (own_kk kd61 kd66) x71 kd71) (own_kk (own_kk kd61 kd66) kd71) x76 kd76), x71]) (rest := []) (lenOf pd___B_B_Z rfl) rfl (by show 2 * 0 + _ ≤ _; exact Nat.le_of_eq rfl) (hb hby at_155) (fun _ _ => ⟨rfl, eq111, (by decide : 4 + 0 ≤ _), (by decide : 8 + 0 ≤ _)⟩)
              dsimp only [Pt.U, Pt.locs, Pt.cells, Pt.slots] at X130 l130 y130 z130 st130 hQ130
              subst l130 y130 z130
              obtain ⟨rfl, Nq130, eq130⟩ := hQ130
              have N130 := Fr.app N111 Nq130
              have c131 : Goes p e below s₁ (entryFrame m #[(.int p0), (.int p1), (.int p2), (.int p3)] maxLocals) T130 (mkF m 158 #[.val (.int p0), .val (.int p1), .val (.int p2), .val (.int p3), .val x61, .val x66, .val x71, .val x76, .val (own_ka x61 kd61 x66 kd66), .val (own_ka (own_ka x61 kd61 x66 kd66) (own_kk kd61 kd66) x71 kd71), .val (own_ka (own_ka (own_ka x61 kd61 x66 kd66) (own_kk kd61 kd66) x71 kd71) (own_kk (own_kk kd61 kd66) kd71) x76 kd76), .val x71] [(.int (1 : Int32))]) := fun t kk => c129 t (st130 t kk)
              obtain ⟨fs, hr, hrun, hended, hW, hsame⟩ := X130.leave (v := some (.int (1 : Int32))) (fun h => by rw [Bd.returns] at h; cases h)
              refine ⟨_, _, c131 _ ?_, hrun, hended, _, _, rfl, ?_, ⟨_, rfl⟩, hW, hsame.mono (by decide) (by decide)⟩
              · exact retN X130 hx (t := .boolean) Bd.returns (by simp) (hb hby at_158) hr
              · show Q_law Z p0 p1 p2 p3 h0 n0 _ T130.heap _
                rw [eq130]
                exact ⟨rfl, N130⟩
          · obtain ⟨ao115, ho115⟩ := own_yobj Ky76 hz113
            have c133 : Goes p e below s₁ (entryFrame m #[(.int p0), (.int p1), (.int p2), (.int p3)] maxLocals) T111 (mkF m 155 #[.val (.int p0), .val (.int p1), .val (.int p2), .val (.int p3), .val x61, .val x66, .val x71, .val x76, .val (own_ka x61 kd61 x66 kd66), .val (own_ka (own_ka x61 kd61 x66 kd66) (own_kk kd61 kd66) x71 kd71), .val (own_ka (own_ka (own_ka x61 kd61 x66 kd66) (own_kk kd61 kd66) x71 kd71) (own_kk (own_kk kd61 kd66) kd71) x76 kd76), .val x76] [x76, (own_ka (own_ka (own_ka x61 kd61 x66 kd66) (own_kk kd61 kd66) x71 kd71) (own_kk (own_kk kd61 kd66) kd71) x76 kd76)]) := by
              intro t kk
              refine c114 t ?_
              show Steps p.tables e below (T111.setTop (mkF m 113 #[.val (.int p0), .val (.int p1), .val (.int p2), .val (.int p3), .val x61, .val x66, .val x71, .val x76, .val (own_ka x61 kd61 x66 kd66), .val (own_ka (own_ka x61 kd61 x66 kd66) (own_kk kd61 kd66) x71 kd71), .val (own_ka (own_ka (own_ka x61 kd61 x66 kd66) (own_kk kd61 kd66) x71 kd71) (own_kk (own_kk kd61 kd66) kd71) x76 kd76), .unset] [x76])) t
              refine XS.ifnullNo X111.here hx rfl (hb hby at_113) (congrArg (fun q : Value => q :: []) ho115) ?_
              show Steps p.tables e below (T111.setTop (mkF m 116 #[.val (.int p0), .val (.int p1), .val (.int p2), .val (.int p3), .val x61, .val x66, .val x71, .val x76, .val (own_ka x61 kd61 x66 kd66), .val (own_ka (own_ka x61 kd61 x66 kd66) (own_kk kd61 kd66) x71 kd71), .val (own_ka (own_ka (own_ka x61 kd61 x66 kd66) (own_kk kd61 kd66) x71 kd71) (own_kk (own_kk kd61 kd66) kd71) x76 kd76), .unset] [])) t
              refine XS.aload X111.here hx rfl (hb hby at_116) rfl hv77 ?_
              show Steps p.tables e below (T111.setTop (mkF m 118 #[.val (.int p0), .val (.int p1), .val (.int p2), .val (.int p3), .val x61, .val x66, .val x71, .val x76, .val (own_ka x61 kd61 x66 kd66), .val (own_ka (own_ka x61 kd61 x66 kd66) (own_kk kd61 kd66) x71 kd71), .val (own_ka (own_ka (own_ka x61 kd61 x66 kd66) (own_kk kd61 kd66) x71 kd71) (own_kk (own_kk kd61 kd66) kd71) x76 kd76), .unset] [x76])) t
              refine XS.astore X111.here hx rfl (hb hby at_118) rfl hv77 (l' := #[.val (.int p0), .val (.int p1), .val (.int p2), .val (.int p3), .val x61, .val x66, .val x71, .val x76, .val (own_ka x61 kd61 x66 kd66), .val (own_ka (own_ka x61 kd61 x66 kd66) (own_kk kd61 kd66) x71 kd71), .val (own_ka (own_ka (own_ka x61 kd61 x66 kd66) (own_kk kd61 kd66) x71 kd71) (own_kk (own_kk kd61 kd66) kd71) x76 kd76), .val x76]) (XS.store1 rfl (Or.inl rfl) hk77) ?_
              show Steps p.tables e below (T111.setTop (mkF m 120 #[.val (.int p0), .val (.int p1), .val (.int p2), .val (.int p3), .val x61, .val x66, .val x71, .val x76, .val (own_ka x61 kd61 x66 kd66), .val (own_ka (own_ka x61 kd61 x66 kd66) (own_kk kd61 kd66) x71 kd71), .val (own_ka (own_ka (own_ka x61 kd61 x66 kd66) (own_kk kd61 kd66) x71 kd71) (own_kk (own_kk kd61 kd66) kd71) x76 kd76), .val x76] [])) t
              refine XS.goto X111.here hx rfl (pc0 := 120) (pc' := 151) rfl (hb hby at_120) (by decide) (by decide) ?_
              show Steps p.tables e below (T111.setTop (mkF m 151 #[.val (.int p0), .val (.int p1), .val (.int p2), .val (.int p3), .val x61, .val x66, .val x71, .val x76, .val (own_ka x61 kd61 x66 kd66), .val (own_ka (own_ka x61 kd61 x66 kd66) (own_kk kd61 kd66) x71 kd71), .val (own_ka (own_ka (own_ka x61 kd61 x66 kd66) (own_kk kd61 kd66) x71 kd71) (own_kk (own_kk kd61 kd66) kd71) x76 kd76), .val x76] [])) t
              refine XS.aload X111.here hx rfl (hb hby at_151) rfl hv96 ?_
              show Steps p.tables e below (T111.setTop (mkF m 153 #[.val (.int p0), .val (.int p1), .val (.int p2), .val (.int p3), .val x61, .val x66, .val x71, .val x76, .val (own_ka x61 kd61 x66 kd66), .val (own_ka (own_ka x61 kd61 x66 kd66) (own_kk kd61 kd66) x71 kd71), .val (own_ka (own_ka (own_ka x61 kd61 x66 kd66) (own_kk kd61 kd66) x71 kd71) (own_kk (own_kk kd61 kd66) kd71) x76 kd76), .val x76] [(own_ka (own_ka (own_ka x61 kd61 x66 kd66) (own_kk kd61 kd66) x71 kd71) (own_kk (own_kk kd61 kd66) kd71) x76 kd76)])) t
              refine XS.aload X111.here hx rfl (hb hby at_153) rfl hv77 ?_
              exact kk
            obtain ⟨_, _, ⟨T134, L134, k134, n134⟩, -, X134, ⟨Lc134, hQ134, l134, y134, z134⟩, st134⟩ := Jvm.LawKit.callS X111 hx (y := (⟨"com/example/ordered_ledger_store/orderedledgerstore/storage/RecordKindKeyAfterPinLaw", "sameKey", "([B[B)Z"⟩ : MethodName)) hown (mvT hZ (hw _ (List.mem_of_getElem? (i := 12) rfl))) (mvT hZ (hw _ (List.mem_of_getElem? (i := 13) rfl))) (mvT hZ (hw _ (List.mem_of_getElem? (i := 2) rfl))) (mvT hZ (hw _ (List.mem_of_getElem? (i := 14) rfl))) (by decide) (backOf (W := 0) (rm_sk l Z a0 hw [] (own_ka (own_ka (own_ka x61 kd61 x66 kd66) (own_kk kd61 kd66) x71 kd71) (own_kk (own_kk kd61 kd66) kd71) x76 kd76) x76 (own_kk (own_kk (own_kk kd61 kd66) kd71) kd76) T76.heap n0 f82 Ky93 (own_l4 (own_f0.mp hc56_101) (own_f0.mp hc71_105) (own_f0.mp hc86_109) hz113)) hZ (hw _ (List.mem_of_getElem? (i := 14) rfl)) (hw _ (List.mem_of_getElem? (i := 2) rfl)) (by decide) (by decide)) (g := (mkF m 155 #[.val (.int p0), .val (.int p1), .val (.int p2), .val (.int p3), .val x61, .val x66, .val x71, .val x76, .val (own_ka x61 kd61 x66 kd66), .val (own_ka (own_ka x61 kd61 x66 kd66) (own_kk kd61 kd66) x71 kd71), .val (own_ka (own_ka (own_ka x61 kd61 x66 kd66) (own_kk kd61 kd66) x71 kd71) (own_kk (own_kk kd61 kd66) kd71) x76 kd76), .val x76] [x76, (own_ka (own_ka (own_ka x61 kd61 x66 kd66) (own_kk kd61 kd66) x71 kd71) (own_kk (own_kk kd61 kd66) kd71) x76 kd76)])) rfl (by rw [hml]; rfl) (argsL := [(own_ka (own_ka (own_ka x61 kd61 x66 kd66) (own_kk kd61 kd66) x71 kd71) (own_kk (own_kk kd61 kd66) kd71) x76 kd76), x76]) (rest := []) (lenOf pd___B_B_Z rfl) rfl (by show 2 * 0 + _ ≤ _; exact Nat.le_of_eq rfl) (hb hby at_155) (fun _ _ => ⟨rfl, eq111, (by decide : 4 + 0 ≤ _), (by decide : 8 + 0 ≤ _)⟩)
            dsimp only [Pt.U, Pt.locs, Pt.cells, Pt.slots] at X134 l134 y134 z134 st134 hQ134
            subst l134 y134 z134
            obtain ⟨rfl, Nq134, eq134⟩ := hQ134
            have N134 := Fr.app N111 Nq134
            have c135 : Goes p e below s₁ (entryFrame m #[(.int p0), (.int p1), (.int p2), (.int p3)] maxLocals) T134 (mkF m 158 #[.val (.int p0), .val (.int p1), .val (.int p2), .val (.int p3), .val x61, .val x66, .val x71, .val x76, .val (own_ka x61 kd61 x66 kd66), .val (own_ka (own_ka x61 kd61 x66 kd66) (own_kk kd61 kd66) x71 kd71), .val (own_ka (own_ka (own_ka x61 kd61 x66 kd66) (own_kk kd61 kd66) x71 kd71) (own_kk (own_kk kd61 kd66) kd71) x76 kd76), .val x76] [(.int (1 : Int32))]) := fun t kk => c133 t (st134 t kk)
            obtain ⟨fs, hr, hrun, hended, hW, hsame⟩ := X134.leave (v := some (.int (1 : Int32))) (fun h => by rw [Bd.returns] at h; cases h)
            refine ⟨_, _, c135 _ ?_, hrun, hended, _, _, rfl, ?_, ⟨_, rfl⟩, hW, hsame.mono (by decide) (by decide)⟩
            · exact retN X134 hx (t := .boolean) Bd.returns (by simp) (hb hby at_158) hr
            · show Q_law Z p0 p1 p2 p3 h0 n0 _ T134.heap _
              rw [eq134]
              exact ⟨rfl, N134⟩
        · have c137 : Goes p e below s₁ (entryFrame m #[(.int p0), (.int p1), (.int p2), (.int p3)] maxLocals) T111 (mkF m 155 #[.val (.int p0), .val (.int p1), .val (.int p2), .val (.int p3), .val x61, .val x66, .val x71, .val x76, .val (own_ka x61 kd61 x66 kd66), .val (own_ka (own_ka x61 kd61 x66 kd66) (own_kk kd61 kd66) x71 kd71), .val (own_ka (own_ka (own_ka x61 kd61 x66 kd66) (own_kk kd61 kd66) x71 kd71) (own_kk (own_kk kd61 kd66) kd71) x76 kd76), .val x76] [x76, (own_ka (own_ka (own_ka x61 kd61 x66 kd66) (own_kk kd61 kd66) x71 kd71) (own_kk (own_kk kd61 kd66) kd71) x76 kd76)]) := by
            intro t kk
            refine c112 t ?_
            show Steps p.tables e below (T111.setTop (mkF m 101 #[.val (.int p0), .val (.int p1), .val (.int p2), .val (.int p3), .val x61, .val x66, .val x71, .val x76, .val (own_ka x61 kd61 x66 kd66), .val (own_ka (own_ka x61 kd61 x66 kd66) (own_kk kd61 kd66) x71 kd71), .val (own_ka (own_ka (own_ka x61 kd61 x66 kd66) (own_kk kd61 kd66) x71 kd71) (own_kk (own_kk kd61 kd66) kd71) x76 kd76), .unset] [(.int (own_full kd76))])) t
            refine XS.ifNo X111.here hx rfl (hb hby at_101) rfl ((if0 _ _).trans (feq hc101_113).1) ?_
            show Steps p.tables e below (T111.setTop (mkF m 104 #[.val (.int p0), .val (.int p1), .val (.int p2), .val (.int p3), .val x61, .val x66, .val x71, .val x76, .val (own_ka x61 kd61 x66 kd66), .val (own_ka (own_ka x61 kd61 x66 kd66) (own_kk kd61 kd66) x71 kd71), .val (own_ka (own_ka (own_ka x61 kd61 x66 kd66) (own_kk kd61 kd66) x71 kd71) (own_kk (own_kk kd61 kd66) kd71) x76 kd76), .unset] [])) t
            refine XS.aload X111.here hx rfl (hb hby at_104) rfl hv77 ?_
            show Steps p.tables e below (T111.setTop (mkF m 106 #[.val (.int p0), .val (.int p1), .val (.int p2), .val (.int p3), .val x61, .val x66, .val x71, .val x76, .val (own_ka x61 kd61 x66 kd66), .val (own_ka (own_ka x61 kd61 x66 kd66) (own_kk kd61 kd66) x71 kd71), .val (own_ka (own_ka (own_ka x61 kd61 x66 kd66) (own_kk kd61 kd66) x71 kd71) (own_kk (own_kk kd61 kd66) kd71) x76 kd76), .unset] [x76])) t
            refine XS.astore X111.here hx rfl (hb hby at_106) rfl hv77 (l' := #[.val (.int p0), .val (.int p1), .val (.int p2), .val (.int p3), .val x61, .val x66, .val x71, .val x76, .val (own_ka x61 kd61 x66 kd66), .val (own_ka (own_ka x61 kd61 x66 kd66) (own_kk kd61 kd66) x71 kd71), .val (own_ka (own_ka (own_ka x61 kd61 x66 kd66) (own_kk kd61 kd66) x71 kd71) (own_kk (own_kk kd61 kd66) kd71) x76 kd76), .val x76]) (XS.store1 rfl (Or.inl rfl) hk77) ?_
            show Steps p.tables e below (T111.setTop (mkF m 108 #[.val (.int p0), .val (.int p1), .val (.int p2), .val (.int p3), .val x61, .val x66, .val x71, .val x76, .val (own_ka x61 kd61 x66 kd66), .val (own_ka (own_ka x61 kd61 x66 kd66) (own_kk kd61 kd66) x71 kd71), .val (own_ka (own_ka (own_ka x61 kd61 x66 kd66) (own_kk kd61 kd66) x71 kd71) (own_kk (own_kk kd61 kd66) kd71) x76 kd76), .val x76] [])) t
            refine XS.goto X111.here hx rfl (pc0 := 108) (pc' := 151) rfl (hb hby at_108) (by decide) (by decide) ?_
            show Steps p.tables e below (T111.setTop (mkF m 151 #[.val (.int p0), .val (.int p1), .val (.int p2), .val (.int p3), .val x61, .val x66, .val x71, .val x76, .val (own_ka x61 kd61 x66 kd66), .val (own_ka (own_ka x61 kd61 x66 kd66) (own_kk kd61 kd66) x71 kd71), .val (own_ka (own_ka (own_ka x61 kd61 x66 kd66) (own_kk kd61 kd66) x71 kd71) (own_kk (own_kk kd61 kd66) kd71) x76 kd76), .val x76] [])) t
            refine XS.aload X111.here hx rfl (hb hby at_151) rfl hv96 ?_
            show Steps p.tables e below (T111.setTop (mkF m 153 #[.val (.int p0), .val (.int p1), .val (.int p2), .val (.int p3), .val x61, .val x66, .val x71, .val x76, .val (own_ka x61 kd61 x66 kd66), .val (own_ka (own_ka x61 kd61 x66 kd66) (own_kk kd61 kd66) x71 kd71), .val (own_ka (own_ka (own_ka x61 kd61 x66 kd66) (own_kk kd61 kd66) x71 kd71) (own_kk (own_kk kd61 kd66) kd71) x76 kd76), .val x76] [(own_ka (own_ka (own_ka x61 kd61 x66 kd66) (own_kk kd61 kd66) x71 kd71) (own_kk (own_kk kd61 kd66) kd71) x76 kd76)])) t
            refine XS.aload X111.here hx rfl (hb hby at_153) rfl hv77 ?_
            exact kk
          obtain ⟨_, _, ⟨T138, L138, k138, n138⟩, -, X138, ⟨Lc138, hQ138, l138, y138, z138⟩, st138⟩ := Jvm.LawKit.callS X111 hx (y := (⟨"com/example/ordered_ledger_store/orderedledgerstore/storage/RecordKindKeyAfterPinLaw", "sameKey", "([B[B)Z"⟩ : MethodName)) hown (mvT hZ (hw _ (List.mem_of_getElem? (i := 12) rfl))) (mvT hZ (hw _ (List.mem_of_getElem? (i := 13) rfl))) (mvT hZ (hw _ (List.mem_of_getElem? (i := 2) rfl))) (mvT hZ (hw _ (List.mem_of_getElem? (i := 14) rfl))) (by decide) (backOf (W := 0) (rm_sk l Z a0 hw [] (own_ka (own_ka (own_ka x61 kd61 x66 kd66) (own_kk kd61 kd66) x71 kd71) (own_kk (own_kk kd61 kd66) kd71) x76 kd76) x76 (own_kk (own_kk (own_kk kd61 kd66) kd71) kd76) T76.heap n0 f82 Ky93 (own_l4 (own_f0.mp hc56_101) (own_f0.mp hc71_105) (own_f0.mp hc86_109) (fun q => absurd (q.symm.trans (Decidable.not_not.mp fun q => hc101_113 (own_f0.mpr q))) (by decide)))) hZ (hw _ (List.mem_of_getElem? (i := 14) rfl)) (hw _ (List.mem_of_getElem? (i := 2) rfl)) (by decide) (by decide)) (g := (mkF m 155 #[.val (.int p0), .val (.int p1), .val (.int p2), .val (.int p3), .val x61, .val x66, .val x71, .val x76, .val (own_ka x61 kd61 x66 kd66), .val (own_ka (own_ka x61 kd61 x66 kd66) (own_kk kd61 kd66) x71 kd71), .val (own_ka (own_ka (own_ka x61 kd61 x66 kd66) (own_kk kd61 kd66) x71 kd71) (own_kk (own_kk kd61 kd66) kd71) x76 kd76), .val x76] [x76, (own_ka (own_ka (own_ka x61 kd61 x66 kd66) (own_kk kd61 kd66) x71 kd71) (own_kk (own_kk kd61 kd66) kd71) x76 kd76)])) rfl (by rw [hml]; rfl) (argsL := [(own_ka (own_ka (own_ka x61 kd61 x66 kd66) (own_kk kd61 kd66) x71 kd71) (own_kk (own_kk kd61 kd66) kd71) x76 kd76), x76]) (rest := []) (lenOf pd___B_B_Z rfl) rfl (by show 2 * 0 + _ ≤ _; exact Nat.le_of_eq rfl) (hb hby at_155) (fun _ _ => ⟨rfl, eq111, (by decide : 4 + 0 ≤ _), (by decide : 8 + 0 ≤ _)⟩)
          dsimp only [Pt.U, Pt.locs, Pt.cells, Pt.slots] at X138 l138 y138 z138 st138 hQ138
          subst l138 y138 z138
          obtain ⟨rfl, Nq138, eq138⟩ := hQ138
          have N138 := Fr.app N111 Nq138
          have c139 : Goes p e below s₁ (entryFrame m #[(.int p0), (.int p1), (.int p2), (.int p3)] maxLocals) T138 (mkF m 158 #[.val (.int p0), .val (.int p1), .val (.int p2), .val (.int p3), .val x61, .val x66, .val x71, .val x76, .val (own_ka x61 kd61 x66 kd66), .val (own_ka (own_ka x61 kd61 x66 kd66) (own_kk kd61 kd66) x71 kd71), .val (own_ka (own_ka (own_ka x61 kd61 x66 kd66) (own_kk kd61 kd66) x71 kd71) (own_kk (own_kk kd61 kd66) kd71) x76 kd76), .val x76] [(.int (1 : Int32))]) := fun t kk => c137 t (st138 t kk)
          obtain ⟨fs, hr, hrun, hended, hW, hsame⟩ := X138.leave (v := some (.int (1 : Int32))) (fun h => by rw [Bd.returns] at h; cases h)
          refine ⟨_, _, c139 _ ?_, hrun, hended, _, _, rfl, ?_, ⟨_, rfl⟩, hW, hsame.mono (by decide) (by decide)⟩
          · exact retN X138 hx (t := .boolean) Bd.returns (by simp) (hb hby at_158) hr
          · show Q_law Z p0 p1 p2 p3 h0 n0 _ T138.heap _
            rw [eq138]
            exact ⟨rfl, N138⟩
      · have c141 : Goes p e below s₁ (entryFrame m #[(.int p0), (.int p1), (.int p2), (.int p3)] maxLocals) T107 (mkF m 155 #[.val (.int p0), .val (.int p1), .val (.int p2), .val (.int p3), .val x61, .val x66, .val x71, .val x76, .val (own_ka x61 kd61 x66 kd66), .val (own_ka (own_ka x61 kd61 x66 kd66) (own_kk kd61 kd66) x71 kd71), .val (own_ka (own_ka (own_ka x61 kd61 x66 kd66) (own_kk kd61 kd66) x71 kd71) (own_kk (own_kk kd61 kd66) kd71) x76 kd76), .val x71] [x71, (own_ka (own_ka (own_ka x61 kd61 x66 kd66) (own_kk kd61 kd66) x71 kd71) (own_kk (own_kk kd61 kd66) kd71) x76 kd76)]) := by
          intro t kk
          refine c108 t ?_
          show Steps p.tables e below (T107.setTop (mkF m 86 #[.val (.int p0), .val (.int p1), .val (.int p2), .val (.int p3), .val x61, .val x66, .val x71, .val x76, .val (own_ka x61 kd61 x66 kd66), .val (own_ka (own_ka x61 kd61 x66 kd66) (own_kk kd61 kd66) x71 kd71), .val (own_ka (own_ka (own_ka x61 kd61 x66 kd66) (own_kk kd61 kd66) x71 kd71) (own_kk (own_kk kd61 kd66) kd71) x76 kd76), .unset] [(.int (own_full kd71))])) t
          refine XS.ifNo X107.here hx rfl (hb hby at_86) rfl ((if0 _ _).trans (feq hc86_109).1) ?_
          show Steps p.tables e below (T107.setTop (mkF m 89 #[.val (.int p0), .val (.int p1), .val (.int p2), .val (.int p3), .val x61, .val x66, .val x71, .val x76, .val (own_ka x61 kd61 x66 kd66), .val (own_ka (own_ka x61 kd61 x66 kd66) (own_kk kd61 kd66) x71 kd71), .val (own_ka (own_ka (own_ka x61 kd61 x66 kd66) (own_kk kd61 kd66) x71 kd71) (own_kk (own_kk kd61 kd66) kd71) x76 kd76), .unset] [])) t
          refine XS.aload X107.here hx rfl (hb hby at_89) rfl hv72 ?_
          show Steps p.tables e below (T107.setTop (mkF m 91 #[.val (.int p0), .val (.int p1), .val (.int p2), .val (.int p3), .val x61, .val x66, .val x71, .val x76, .val (own_ka x61 kd61 x66 kd66), .val (own_ka (own_ka x61 kd61 x66 kd66) (own_kk kd61 kd66) x71 kd71), .val (own_ka (own_ka (own_ka x61 kd61 x66 kd66) (own_kk kd61 kd66) x71 kd71) (own_kk (own_kk kd61 kd66) kd71) x76 kd76), .unset] [x71])) t
          refine XS.astore X107.here hx rfl (hb hby at_91) rfl hv72 (l' := #[.val (.int p0), .val (.int p1), .val (.int p2), .val (.int p3), .val x61, .val x66, .val x71, .val x76, .val (own_ka x61 kd61 x66 kd66), .val (own_ka (own_ka x61 kd61 x66 kd66) (own_kk kd61 kd66) x71 kd71), .val (own_ka (own_ka (own_ka x61 kd61 x66 kd66) (own_kk kd61 kd66) x71 kd71) (own_kk (own_kk kd61 kd66) kd71) x76 kd76), .val x71]) (XS.store1 rfl (Or.inl rfl) hk72) ?_
          show Steps p.tables e below (T107.setTop (mkF m 93 #[.val (.int p0), .val (.int p1), .val (.int p2), .val (.int p3), .val x61, .val x66, .val x71, .val x76, .val (own_ka x61 kd61 x66 kd66), .val (own_ka (own_ka x61 kd61 x66 kd66) (own_kk kd61 kd66) x71 kd71), .val (own_ka (own_ka (own_ka x61 kd61 x66 kd66) (own_kk kd61 kd66) x71 kd71) (own_kk (own_kk kd61 kd66) kd71) x76 kd76), .val x71] [])) t
          refine XS.goto X107.here hx rfl (pc0 := 93) (pc' := 151) rfl (hb hby at_93) (by decide) (by decide) ?_
          show Steps p.tables e below (T107.setTop (mkF m 151 #[.val (.int p0), .val (.int p1), .val (.int p2), .val (.int p3), .val x61, .val x66, .val x71, .val x76, .val (own_ka x61 kd61 x66 kd66), .val (own_ka (own_ka x61 kd61 x66 kd66) (own_kk kd61 kd66) x71 kd71), .val (own_ka (own_ka (own_ka x61 kd61 x66 kd66) (own_kk kd61 kd66) x71 kd71) (own_kk (own_kk kd61 kd66) kd71) x76 kd76), .val x71] [])) t
          refine XS.aload X107.here hx rfl (hb hby at_151) rfl hv96 ?_
          show Steps p.tables e below (T107.setTop (mkF m 153 #[.val (.int p0), .val (.int p1), .val (.int p2), .val (.int p3), .val x61, .val x66, .val x71, .val x76, .val (own_ka x61 kd61 x66 kd66), .val (own_ka (own_ka x61 kd61 x66 kd66) (own_kk kd61 kd66) x71 kd71), .val (own_ka (own_ka (own_ka x61 kd61 x66 kd66) (own_kk kd61 kd66) x71 kd71) (own_kk (own_kk kd61 kd66) kd71) x76 kd76), .val x71] [(own_ka (own_ka (own_ka x61 kd61 x66 kd66) (own_kk kd61 kd66) x71 kd71) (own_kk (own_kk kd61 kd66) kd71) x76 kd76)])) t
          refine XS.aload X107.here hx rfl (hb hby at_153) rfl hv72 ?_
          exact kk
        obtain ⟨_, _, ⟨T142, L142, k142, n142⟩, -, X142, ⟨Lc142, hQ142, l142, y142, z142⟩, st142⟩ := Jvm.LawKit.callS X107 hx (y := (⟨"com/example/ordered_ledger_store/orderedledgerstore/storage/RecordKindKeyAfterPinLaw", "sameKey", "([B[B)Z"⟩ : MethodName)) hown (mvT hZ (hw _ (List.mem_of_getElem? (i := 12) rfl))) (mvT hZ (hw _ (List.mem_of_getElem? (i := 13) rfl))) (mvT hZ (hw _ (List.mem_of_getElem? (i := 2) rfl))) (mvT hZ (hw _ (List.mem_of_getElem? (i := 14) rfl))) (by decide) (backOf (W := 0) (rm_sk l Z a0 hw [] (own_ka (own_ka (own_ka x61 kd61 x66 kd66) (own_kk kd61 kd66) x71 kd71) (own_kk (own_kk kd61 kd66) kd71) x76 kd76) x71 (own_kk (own_kk (own_kk kd61 kd66) kd71) kd76) T76.heap n0 f82 Ky93 (own_l3 (own_f0.mp hc56_101) (own_f0.mp hc71_105) (Decidable.not_not.mp fun q => hc86_109 (own_f0.mpr q)))) hZ (hw _ (List.mem_of_getElem? (i := 14) rfl)) (hw _ (List.mem_of_getElem? (i := 2) rfl)) (by decide) (by decide)) (g := (mkF m 155 #[.val (.int p0), .val (.int p1), .val (.int p2), .val (.int p3), .val x61, .val x66, .val x71, .val x76, .val (own_ka x61 kd61 x66 kd66), .val (own_ka (own_ka x61 kd61 x66 kd66) (own_kk kd61 kd66) x71 kd71), .val (own_ka (own_ka (own_ka x61 kd61 x66 kd66) (own_kk kd61 kd66) x71 kd71) (own_kk (own_kk kd61 kd66) kd71) x76 kd76), .val x71] [x71, (own_ka (own_ka (own_ka x61 kd61 x66 kd66) (own_kk kd61 kd66) x71 kd71) (own_kk (own_kk kd61 kd66) kd71) x76 kd76)])) rfl (by rw [hml]; rfl) (argsL := [(own_ka (own_ka (own_ka x61 kd61 x66 kd66) (own_kk kd61 kd66) x71 kd71) (own_kk (own_kk kd61 kd66) kd71) x76 kd76), x71]) (rest := []) (lenOf pd___B_B_Z rfl) rfl (by show 2 * 0 + _ ≤ _; exact Nat.le_of_eq rfl) (hb hby at_155) (fun _ _ => ⟨rfl, eq107, (by decide : 4 + 0 ≤ _), (by decide : 8 + 0 ≤ _)⟩)
        dsimp only [Pt.U, Pt.locs, Pt.cells, Pt.slots] at X142 l142 y142 z142 st142 hQ142
        subst l142 y142 z142
        obtain ⟨rfl, Nq142, eq142⟩ := hQ142
        have N142 := Fr.app N107 Nq142
        have c143 : Goes p e below s₁ (entryFrame m #[(.int p0), (.int p1), (.int p2), (.int p3)] maxLocals) T142 (mkF m 158 #[.val (.int p0), .val (.int p1), .val (.int p2), .val (.int p3), .val x61, .val x66, .val x71, .val x76, .val (own_ka x61 kd61 x66 kd66), .val (own_ka (own_ka x61 kd61 x66 kd66) (own_kk kd61 kd66) x71 kd71), .val (own_ka (own_ka (own_ka x61 kd61 x66 kd66) (own_kk kd61 kd66) x71 kd71) (own_kk (own_kk kd61 kd66) kd71) x76 kd76), .val x71] [(.int (1 : Int32))]) := fun t kk => c141 t (st142 t kk)
        obtain ⟨fs, hr, hrun, hended, hW, hsame⟩ := X142.leave (v := some (.int (1 : Int32))) (fun h => by rw [Bd.returns] at h; cases h)
        refine ⟨_, _, c143 _ ?_, hrun, hended, _, _, rfl, ?_, ⟨_, rfl⟩, hW, hsame.mono (by decide) (by decide)⟩
        · exact retN X142 hx (t := .boolean) Bd.returns (by simp) (hb hby at_158) hr
        · show Q_law Z p0 p1 p2 p3 h0 n0 _ T142.heap _
          rw [eq142]
          exact ⟨rfl, N142⟩
    · have c145 : Goes p e below s₁ (entryFrame m #[(.int p0), (.int p1), (.int p2), (.int p3)] maxLocals) T103 (mkF m 155 #[.val (.int p0), .val (.int p1), .val (.int p2), .val (.int p3), .val x61, .val x66, .val x71, .val x76, .val (own_ka x61 kd61 x66 kd66), .val (own_ka (own_ka x61 kd61 x66 kd66) (own_kk kd61 kd66) x71 kd71), .val (own_ka (own_ka (own_ka x61 kd61 x66 kd66) (own_kk kd61 kd66) x71 kd71) (own_kk (own_kk kd61 kd66) kd71) x76 kd76), .val x66] [x66, (own_ka (own_ka (own_ka x61 kd61 x66 kd66) (own_kk kd61 kd66) x71 kd71) (own_kk (own_kk kd61 kd66) kd71) x76 kd76)]) := by
        intro t kk
        refine c104 t ?_
        show Steps p.tables e below (T103.setTop (mkF m 71 #[.val (.int p0), .val (.int p1), .val (.int p2), .val (.int p3), .val x61, .val x66, .val x71, .val x76, .val (own_ka x61 kd61 x66 kd66), .val (own_ka (own_ka x61 kd61 x66 kd66) (own_kk kd61 kd66) x71 kd71), .val (own_ka (own_ka (own_ka x61 kd61 x66 kd66) (own_kk kd61 kd66) x71 kd71) (own_kk (own_kk kd61 kd66) kd71) x76 kd76), .unset] [(.int (own_full kd66))])) t
        refine XS.ifNo X103.here hx rfl (hb hby at_71) rfl ((if0 _ _).trans (feq hc71_105).1) ?_
        show Steps p.tables e below (T103.setTop (mkF m 74 #[.val (.int p0), .val (.int p1), .val (.int p2), .val (.int p3), .val x61, .val x66, .val x71, .val x76, .val (own_ka x61 kd61 x66 kd66), .val (own_ka (own_ka x61 kd61 x66 kd66) (own_kk kd61 kd66) x71 kd71), .val (own_ka (own_ka (own_ka x61 kd61 x66 kd66) (own_kk kd61 kd66) x71 kd71) (own_kk (own_kk kd61 kd66) kd71) x76 kd76), .unset] [])) t
        refine XS.aload X103.here hx rfl (hb hby at_74) rfl hv67 ?_
        show Steps p.tables e below (T103.setTop (mkF m 76 #[.val (.int p0), .val (.int p1), .val (.int p2), .val (.int p3), .val x61, .val x66, .val x71, .val x76, .val (own_ka x61 kd61 x66 kd66), .val (own_ka (own_ka x61 kd61 x66 kd66) (own_kk kd61 kd66) x71 kd71), .val (own_ka (own_ka (own_ka x61 kd61 x66 kd66) (own_kk kd61 kd66) x71 kd71) (own_kk (own_kk kd61 kd66) kd71) x76 kd76), .unset] [x66])) t
        refine XS.astore X103.here hx rfl (hb hby at_76) rfl hv67 (l' := #[.val (.int p0), .val (.int p1), .val (.int p2), .val (.int p3), .val x61, .val x66, .val x71, .val x76, .val (own_ka x61 kd61 x66 kd66), .val (own_ka (own_ka x61 kd61 x66 kd66) (own_kk kd61 kd66) x71 kd71), .val (own_ka (own_ka (own_ka x61 kd61 x66 kd66) (own_kk kd61 kd66) x71 kd71) (own_kk (own_kk kd61 kd66) kd71) x76 kd76), .val x66]) (XS.store1 rfl (Or.inl rfl) hk67) ?_
        show Steps p.tables e below (T103.setTop (mkF m 78 #[.val (.int p0), .val (.int p1), .val (.int p2), .val (.int p3), .val x61, .val x66, .val x71, .val x76, .val (own_ka x61 kd61 x66 kd66), .val (own_ka (own_ka x61 kd61 x66 kd66) (own_kk kd61 kd66) x71 kd71), .val (own_ka (own_ka (own_ka x61 kd61 x66 kd66) (own_kk kd61 kd66) x71 kd71) (own_kk (own_kk kd61 kd66) kd71) x76 kd76), .val x66] [])) t
        refine XS.goto X103.here hx rfl (pc0 := 78) (pc' := 151) rfl (hb hby at_78) (by decide) (by decide) ?_
        show Steps p.tables e below (T103.setTop (mkF m 151 #[.val (.int p0), .val (.int p1), .val (.int p2), .val (.int p3), .val x61, .val x66, .val x71, .val x76, .val (own_ka x61 kd61 x66 kd66), .val (own_ka (own_ka x61 kd61 x66 kd66) (own_kk kd61 kd66) x71 kd71), .val (own_ka (own_ka (own_ka x61 kd61 x66 kd66) (own_kk kd61 kd66) x71 kd71) (own_kk (own_kk kd61 kd66) kd71) x76 kd76), .val x66] [])) t
        refine XS.aload X103.here hx rfl (hb hby at_151) rfl hv96 ?_
        show Steps p.tables e below (T103.setTop (mkF m 153 #[.val (.int p0), .val (.int p1), .val (.int p2), .val (.int p3), .val x61, .val x66, .val x71, .val x76, .val (own_ka x61 kd61 x66 kd66), .val (own_ka (own_ka x61 kd61 x66 kd66) (own_kk kd61 kd66) x71 kd71), .val (own_ka (own_ka (own_ka x61 kd61 x66 kd66) (own_kk kd61 kd66) x71 kd71) (own_kk (own_kk kd61 kd66) kd71) x76 kd76), .val x66] [(own_ka (own_ka (own_ka x61 kd61 x66 kd66) (own_kk kd61 kd66) x71 kd71) (own_kk (own_kk kd61 kd66) kd71) x76 kd76)])) t
        refine XS.aload X103.here hx rfl (hb hby at_153) rfl hv67 ?_
        exact kk
      obtain ⟨_, _, ⟨T146, L146, k146, n146⟩, -, X146, ⟨Lc146, hQ146, l146, y146, z146⟩, st146⟩ := Jvm.LawKit.callS X103 hx (y := (⟨"com/example/ordered_ledger_store/orderedledgerstore/storage/RecordKindKeyAfterPinLaw", "sameKey", "([B[B)Z"⟩ : MethodName)) hown (mvT hZ (hw _ (List.mem_of_getElem? (i := 12) rfl))) (mvT hZ (hw _ (List.mem_of_getElem? (i := 13) rfl))) (mvT hZ (hw _ (List.mem_of_getElem? (i := 2) rfl))) (mvT hZ (hw _ (List.mem_of_getElem? (i := 14) rfl))) (by decide) (backOf (W := 0) (rm_sk l Z a0 hw [] (own_ka (own_ka (own_ka x61 kd61 x66 kd66) (own_kk kd61 kd66) x71 kd71) (own_kk (own_kk kd61 kd66) kd71) x76 kd76) x66 (own_kk (own_kk (own_kk kd61 kd66) kd71) kd76) T76.heap n0 f82 Ky93 (own_l2 (own_f0.mp hc56_101) (Decidable.not_not.mp fun q => hc71_105 (own_f0.mpr q)))) hZ (hw _ (List.mem_of_getElem? (i := 14) rfl)) (hw _ (List.mem_of_getElem? (i := 2) rfl)) (by decide) (by decide)) (g := (mkF m 155 #[.val (.int p0), .val (.int p1), .val (.int p2), .val (.int p3), .val x61, .val x66, .val x71, .val x76, .val (own_ka x61 kd61 x66 kd66), .val (own_ka (own_ka x61 kd61 x66 kd66) (own_kk kd61 kd66) x71 kd71), .val (own_ka (own_ka (own_ka x61 kd61 x66 kd66) (own_kk kd61 kd66) x71 kd71) (own_kk (own_kk kd61 kd66) kd71) x76 kd76), .val x66] [x66, (own_ka (own_ka (own_ka x61 kd61 x66 kd66) (own_kk kd61 kd66) x71 kd71) (own_kk (own_kk kd61 kd66) kd71) x76 kd76)])) rfl (by rw [hml]; rfl) (argsL := [(own_ka (own_ka (own_ka x61 kd61 x66 kd66) (own_kk kd61 kd66) x71 kd71) (own_kk (own_kk kd61 kd66) kd71) x76 kd76), x66]) (rest := []) (lenOf pd___B_B_Z rfl) rfl (by show 2 * 0 + _ ≤ _; exact Nat.le_of_eq rfl) (hb hby at_155) (fun _ _ => ⟨rfl, eq103, (by decide : 4 + 0 ≤ _), (by decide : 8 + 0 ≤ _)⟩)
      dsimp only [Pt.U, Pt.locs, Pt.cells, Pt.slots] at X146 l146 y146 z146 st146 hQ146
      subst l146 y146 z146
      obtain ⟨rfl, Nq146, eq146⟩ := hQ146
      have N146 := Fr.app N103 Nq146
      have c147 : Goes p e below s₁ (entryFrame m #[(.int p0), (.int p1), (.int p2), (.int p3)] maxLocals) T146 (mkF m 158 #[.val (.int p0), .val (.int p1), .val (.int p2), .val (.int p3), .val x61, .val x66, .val x71, .val x76, .val (own_ka x61 kd61 x66 kd66), .val (own_ka (own_ka x61 kd61 x66 kd66) (own_kk kd61 kd66) x71 kd71), .val (own_ka (own_ka (own_ka x61 kd61 x66 kd66) (own_kk kd61 kd66) x71 kd71) (own_kk (own_kk kd61 kd66) kd71) x76 kd76), .val x66] [(.int (1 : Int32))]) := fun t kk => c145 t (st146 t kk)
      obtain ⟨fs, hr, hrun, hended, hW, hsame⟩ := X146.leave (v := some (.int (1 : Int32))) (fun h => by rw [Bd.returns] at h; cases h)
      refine ⟨_, _, c147 _ ?_, hrun, hended, _, _, rfl, ?_, ⟨_, rfl⟩, hW, hsame.mono (by decide) (by decide)⟩
      · exact retN X146 hx (t := .boolean) Bd.returns (by simp) (hb hby at_158) hr
      · show Q_law Z p0 p1 p2 p3 h0 n0 _ T146.heap _
        rw [eq146]
        exact ⟨rfl, N146⟩
  · have c149 : Goes p e below s₁ (entryFrame m #[(.int p0), (.int p1), (.int p2), (.int p3)] maxLocals) T99 (mkF m 155 #[.val (.int p0), .val (.int p1), .val (.int p2), .val (.int p3), .val x61, .val x66, .val x71, .val x76, .val (own_ka x61 kd61 x66 kd66), .val (own_ka (own_ka x61 kd61 x66 kd66) (own_kk kd61 kd66) x71 kd71), .val (own_ka (own_ka (own_ka x61 kd61 x66 kd66) (own_kk kd61 kd66) x71 kd71) (own_kk (own_kk kd61 kd66) kd71) x76 kd76), .val x61] [x61, (own_ka (own_ka (own_ka x61 kd61 x66 kd66) (own_kk kd61 kd66) x71 kd71) (own_kk (own_kk kd61 kd66) kd71) x76 kd76)]) := by
      intro t kk
      refine c100 t ?_
      show Steps p.tables e below (T99.setTop (mkF m 56 #[.val (.int p0), .val (.int p1), .val (.int p2), .val (.int p3), .val x61, .val x66, .val x71, .val x76, .val (own_ka x61 kd61 x66 kd66), .val (own_ka (own_ka x61 kd61 x66 kd66) (own_kk kd61 kd66) x71 kd71), .val (own_ka (own_ka (own_ka x61 kd61 x66 kd66) (own_kk kd61 kd66) x71 kd71) (own_kk (own_kk kd61 kd66) kd71) x76 kd76), .unset] [(.int (own_full kd61))])) t
      refine XS.ifNo X99.here hx rfl (hb hby at_56) rfl ((if0 _ _).trans (feq hc56_101).1) ?_
      show Steps p.tables e below (T99.setTop (mkF m 59 #[.val (.int p0), .val (.int p1), .val (.int p2), .val (.int p3), .val x61, .val x66, .val x71, .val x76, .val (own_ka x61 kd61 x66 kd66), .val (own_ka (own_ka x61 kd61 x66 kd66) (own_kk kd61 kd66) x71 kd71), .val (own_ka (own_ka (own_ka x61 kd61 x66 kd66) (own_kk kd61 kd66) x71 kd71) (own_kk (own_kk kd61 kd66) kd71) x76 kd76), .unset] [])) t
      refine XS.aload X99.here hx rfl (hb hby at_59) rfl hv62 ?_
      show Steps p.tables e below (T99.setTop (mkF m 61 #[.val (.int p0), .val (.int p1), .val (.int p2), .val (.int p3), .val x61, .val x66, .val x71, .val x76, .val (own_ka x61 kd61 x66 kd66), .val (own_ka (own_ka x61 kd61 x66 kd66) (own_kk kd61 kd66) x71 kd71), .val (own_ka (own_ka (own_ka x61 kd61 x66 kd66) (own_kk kd61 kd66) x71 kd71) (own_kk (own_kk kd61 kd66) kd71) x76 kd76), .unset] [x61])) t
      refine XS.astore X99.here hx rfl (hb hby at_61) rfl hv62 (l' := #[.val (.int p0), .val (.int p1), .val (.int p2), .val (.int p3), .val x61, .val x66, .val x71, .val x76, .val (own_ka x61 kd61 x66 kd66), .val (own_ka (own_ka x61 kd61 x66 kd66) (own_kk kd61 kd66) x71 kd71), .val (own_ka (own_ka (own_ka x61 kd61 x66 kd66) (own_kk kd61 kd66) x71 kd71) (own_kk (own_kk kd61 kd66) kd71) x76 kd76), .val x61]) (XS.store1 rfl (Or.inl rfl) hk62) ?_
      show Steps p.tables e below (T99.setTop (mkF m 63 #[.val (.int p0), .val (.int p1), .val (.int p2), .val (.int p3), .val x61, .val x66, .val x71, .val x76, .val (own_ka x61 kd61 x66 kd66), .val (own_ka (own_ka x61 kd61 x66 kd66) (own_kk kd61 kd66) x71 kd71), .val (own_ka (own_ka (own_ka x61 kd61 x66 kd66) (own_kk kd61 kd66) x71 kd71) (own_kk (own_kk kd61 kd66) kd71) x76 kd76), .val x61] [])) t
      refine XS.goto X99.here hx rfl (pc0 := 63) (pc' := 151) rfl (hb hby at_63) (by decide) (by decide) ?_
      show Steps p.tables e below (T99.setTop (mkF m 151 #[.val (.int p0), .val (.int p1), .val (.int p2), .val (.int p3), .val x61, .val x66, .val x71, .val x76, .val (own_ka x61 kd61 x66 kd66), .val (own_ka (own_ka x61 kd61 x66 kd66) (own_kk kd61 kd66) x71 kd71), .val (own_ka (own_ka (own_ka x61 kd61 x66 kd66) (own_kk kd61 kd66) x71 kd71) (own_kk (own_kk kd61 kd66) kd71) x76 kd76), .val x61] [])) t
      refine XS.aload X99.here hx rfl (hb hby at_151) rfl hv96 ?_
      show Steps p.tables e below (T99.setTop (mkF m 153 #[.val (.int p0), .val (.int p1), .val (.int p2), .val (.int p3), .val x61, .val x66, .val x71, .val x76, .val (own_ka x61 kd61 x66 kd66), .val (own_ka (own_ka x61 kd61 x66 kd66) (own_kk kd61 kd66) x71 kd71), .val (own_ka (own_ka (own_ka x61 kd61 x66 kd66) (own_kk kd61 kd66) x71 kd71) (own_kk (own_kk kd61 kd66) kd71) x76 kd76), .val x61] [(own_ka (own_ka (own_ka x61 kd61 x66 kd66) (own_kk kd61 kd66) x71 kd71) (own_kk (own_kk kd61 kd66) kd71) x76 kd76)])) t
      refine XS.aload X99.here hx rfl (hb hby at_153) rfl hv62 ?_
      exact kk
    obtain ⟨_, _, ⟨T150, L150, k150, n150⟩, -, X150, ⟨Lc150, hQ150, l150, y150, z150⟩, st150⟩ := Jvm.LawKit.callS X99 hx (y := (⟨"com/example/ordered_ledger_store/orderedledgerstore/storage/RecordKindKeyAfterPinLaw", "sameKey", "([B[B)Z"⟩ : MethodName)) hown (mvT hZ (hw _ (List.mem_of_getElem? (i := 12) rfl))) (mvT hZ (hw _ (List.mem_of_getElem? (i := 13) rfl))) (mvT hZ (hw _ (List.mem_of_getElem? (i := 2) rfl))) (mvT hZ (hw _ (List.mem_of_getElem? (i := 14) rfl))) (by decide) (backOf (W := 0) (rm_sk l Z a0 hw [] (own_ka (own_ka (own_ka x61 kd61 x66 kd66) (own_kk kd61 kd66) x71 kd71) (own_kk (own_kk kd61 kd66) kd71) x76 kd76) x61 (own_kk (own_kk (own_kk kd61 kd66) kd71) kd76) T76.heap n0 f82 Ky93 (own_l1 (Decidable.not_not.mp fun q => hc56_101 (own_f0.mpr q)))) hZ (hw _ (List.mem_of_getElem? (i := 14) rfl)) (hw _ (List.mem_of_getElem? (i := 2) rfl)) (by decide) (by decide)) (g := (mkF m 155 #[.val (.int p0), .val (.int p1), .val (.int p2), .val (.int p3), .val x61, .val x66, .val x71, .val x76, .val (own_ka x61 kd61 x66 kd66), .val (own_ka (own_ka x61 kd61 x66 kd66) (own_kk kd61 kd66) x71 kd71), .val (own_ka (own_ka (own_ka x61 kd61 x66 kd66) (own_kk kd61 kd66) x71 kd71) (own_kk (own_kk kd61 kd66) kd71) x76 kd76), .val x61] [x61, (own_ka (own_ka (own_ka x61 kd61 x66 kd66) (own_kk kd61 kd66) x71 kd71) (own_kk (own_kk kd61 kd66) kd71) x76 kd76)])) rfl (by rw [hml]; rfl) (argsL := [(own_ka (own_ka (own_ka x61 kd61 x66 kd66) (own_kk kd61 kd66) x71 kd71) (own_kk (own_kk kd61 kd66) kd71) x76 kd76), x61]) (rest := []) (lenOf pd___B_B_Z rfl) rfl (by show 2 * 0 + _ ≤ _; exact Nat.le_of_eq rfl) (hb hby at_155) (fun _ _ => ⟨rfl, eq99, (by decide : 4 + 0 ≤ _), (by decide : 8 + 0 ≤ _)⟩)
    dsimp only [Pt.U, Pt.locs, Pt.cells, Pt.slots] at X150 l150 y150 z150 st150 hQ150
    subst l150 y150 z150
    obtain ⟨rfl, Nq150, eq150⟩ := hQ150
    have N150 := Fr.app N99 Nq150
    have c151 : Goes p e below s₁ (entryFrame m #[(.int p0), (.int p1), (.int p2), (.int p3)] maxLocals) T150 (mkF m 158 #[.val (.int p0), .val (.int p1), .val (.int p2), .val (.int p3), .val x61, .val x66, .val x71, .val x76, .val (own_ka x61 kd61 x66 kd66), .val (own_ka (own_ka x61 kd61 x66 kd66) (own_kk kd61 kd66) x71 kd71), .val (own_ka (own_ka (own_ka x61 kd61 x66 kd66) (own_kk kd61 kd66) x71 kd71) (own_kk (own_kk kd61 kd66) kd71) x76 kd76), .val x61] [(.int (1 : Int32))]) := fun t kk => c149 t (st150 t kk)
    obtain ⟨fs, hr, hrun, hended, hW, hsame⟩ := X150.leave (v := some (.int (1 : Int32))) (fun h => by rw [Bd.returns] at h; cases h)
    refine ⟨_, _, c151 _ ?_, hrun, hended, _, _, rfl, ?_, ⟨_, rfl⟩, hW, hsame.mono (by decide) (by decide)⟩
    · exact retN X150 hx (t := .boolean) Bd.returns (by simp) (hb hby at_158) hr
    · show Q_law Z p0 p1 p2 p3 h0 n0 _ T150.heap _
      rw [eq150]
      exact ⟨rfl, N150⟩
set_option maxRecDepth 65536 in
set_option maxHeartbeats 40000000 in
theorem comes_1 {Post : Tables → Env → Array Value → State → Outcome → State → Prop} (hpost : ∀ tb e args s v u, (limb_1_1.after args s (.returned v) u = true ∧ limb_1_2.after args s (.returned v) u = true ∧ True) → FrameEnd s (.returned v) u (Jvm.fieldLocs frame_1_writes args s ++ Jvm.arrayLocs frame_1_arrays args s ++ Jvm.staticLocs frame_1_statics s) 16 128 → Post tb e args s (.returned v) u) :
    ArmFor flags0 classFile x code maxLocals ret World_1 tables_1 room_1 Calls_1 rest_1 Pre_1 Post := by
  intro l hfl _ _ p e ha hc hk s m args below hf hA hF happ hP
  obtain ⟨hcalls, hrest, hpre⟩ := hP
  obtain ⟨-, -, -, hnamed, -, -, -, hat⟩ := (Spec.applies_iff hf).mp happ
  obtain ⟨hg, hn⟩ := and_e (Cond.before_iff.mp (show (Jvm.Cond.and given_1 narrow_1).before args s = true from hpre))
  obtain ⟨gg1, gg2⟩ := and_e hg
  obtain ⟨gg3, gg4⟩ := and_e gg2
  obtain ⟨gg5, gg6⟩ := and_e gg4
  obtain ⟨gg7, gg8⟩ := and_e gg6
  obtain ⟨w0, w1, w2, w3, rfl⟩ : ∃ w0 w1 w2 w3 : Value, args = #[w0, w1, w2, w3] := by
    have hs : args.size = 4 := by simpa [Cond.value, given_1] using gg1
    obtain ⟨L⟩ := args
    match L, hs with
    | [w0, w1, w2, w3], _ => exact ⟨w0, w1, w2, w3, rfl⟩
  have hw := fun d (hd : d ∈ tables_1) => atoms_spec (ws := Jvm.Cond.code x code maxLocals ret :: tables_1) hat d (List.mem_cons_of_mem _ hd)
  have hfit : Fit s := fun {y c} hc i hi => by
    obtain ⟨ha, rfl⟩ := Array.getElem?_eq_some_iff.mp hc
    have q := List.all_eq_true.mp ((Array.all_eq_true_iff_forall_mem.mp hF) _ (Array.getElem_mem ha)) i (List.mem_range.mpr hi)
    simpa [Array.getElem?_eq_getElem hi] using q
  obtain ⟨i0, ei0⟩ := is_v gg3
  obtain rfl : w0 = (.int i0) := Option.some.inj ei0
  obtain ⟨i1, ei1⟩ := is_v gg5
  obtain rfl : w1 = (.int i1) := Option.some.inj ei1
  obtain ⟨i2, ei2⟩ := is_v gg7
  obtain rfl : w2 = (.int i2) := Option.some.inj ei2
  obtain ⟨i3, ei3⟩ := is_v gg8
  obtain rfl : w3 = (.int i3) := Option.some.inj ei3
  obtain ⟨n, o, h1, h2, h3, _, L, rfl, ⟨rfl, N⟩, hq⟩ := rm_law l s _ hw tables_1 i0 i1 i2 i3 s.heap s.heap.size (Nat.le_refl _)  p e ha hc hk s m _ below hf ((Spec.applies_iff_loose hf).mp happ).1 ⟨rfl, State.Warmed39.refl s, rfl⟩ trivial
  refine ⟨n, _, h1, h2, h3, hpost _ _ _ _ _ _ ⟨Cond.after_iff.mpr rfl, Cond.after_iff.mpr (eq_i res_at (Term.int_eval (1)) rfl), trivial⟩ ⟨hq.1, hq.2.1, (hq.2.2.sift fun y hy => Or.inr (N y hy)).mono (by decide) (by decide)⟩⟩
theorem main_1_1 : Claimed_1_1 := comes_1 fun _ _ _ _ _ _ h hF => ⟨h.1, hF⟩
theorem main_1_2 : Claimed_1_2 := comes_1 fun _ _ _ _ _ _ h hF => ⟨h.2.1, hF⟩
end Jvm.Pilot.@@N@@
namespace Jvm.Pilot.@@N@@
open Jvm Jvm.ClassFile Sem Op Lib Jvm.Free Jvm.Stand Jvm.Pilot.@@N@@.Jvm.D
/-! MADE BY PROGRAM (witnessworld.py) out of the Statement's table words and the real class files: 12 classes; the members and pool entries that the words name. The judged class is class 1, her method 4. -/
namespace start1
open Jvm.ClassFile
def u (s : String) : CpInfo := .utf8 (stringToUtf16 s)
/-- a pool by its gaps: so many unusable entries, then the entry; so many at the end -/
def gap : Nat → List CpInfo → List CpInfo
  | 0, r => r
  | n + 1, r => .unusable :: gap n r
def poolList (es : List (Nat × CpInfo)) (last : Nat) : List CpInfo := es.foldr (fun e r => gap e.1 (e.2 :: r)) (gap last [])
def pool (es : List (Nat × CpInfo)) (last : Nat) : Array CpInfo := ⟨poolList es last⟩
def fileOf (pool : Array CpInfo) (this : Nat) (attrs : Array Attribute := #[]) (ms : Array MethodInfo := #[]) (fl : Nat := 33) (sup : Nat := 0) (ifs : Array Nat := #[]) (fds : Array FieldInfo := #[]) : ClassFile where
  minorVersion := 0
  majorVersion := 65
  constantPool := pool
  accessFlags := fl
  thisClass := this
  superClass := sup
  interfaces := ifs
  fields := fds
  methods := ms
  attributes := attrs
def plain (name : String) (sup : Option ClassId) : Class where
  name := name
  kind := .ordinary
  loader := none
  accessFlags := 33
  super := sup
  interfaces := #[]
  cf := none
  fields := #[]
  methods := #[]
  instanceTypes := #[]
  staticTypes := #[]
  resolved := #[]
  callSites := []
  init := .initialized
  statics := none
  mirror := none

def pool0 : Array CpInfo := pool [(5, u "<init>"), (0, u "()V"), (1, .class_ 10), (1, u "java/lang/Object")] 113

def k0m0 : Method := { name := "<init>", desc := "()V", sig := { parameters := [], returnType := none }, accessFlags := 1, code := none }
/-- java/lang/Object -/
def k0 : Class := { plain "java/lang/Object" none with
  accessFlags := 33
  interfaces := #[]
  cf := some (fileOf pool0 8 #[] #[{ accessFlags := 1, nameIndex := 5, descriptorIndex := 6, attributes := #[] }] 33 0 #[] #[])
  fields := #[]
  methods := #[k0m0]
  instanceTypes := #[]
  staticTypes := #[]
  resolved := Array.replicate 124 none
  statics := none }

def pool1 : Array CpInfo := pool [(2, .class_ 4), (1, u "java/lang/Object"), (0, u "<init>"), (0, u "()V"), (0, .methodref 8 9), (0, .class_ 10), (0, .nameAndType 11 12), (0, u "com/example/ordered_ledger_store/orderedledgerstore/storage/RecordKindKeyAfterPinLaw"), (0, u "make"), (0, u "(I)[B"), (0, .methodref 14 15), (0, .class_ 16), (0, .nameAndType 17 18), (0, u "com/example/ordered_ledger_store/orderedledgerstore/storage/RecordKind"), (0, u "keyAfter"), (0, u "([B[B)[B"), (0, .methodref 8 20), (0, .nameAndType 21 22), (0, u "full"), (0, u "([B)Z"), (0, .methodref 8 24), (0, .nameAndType 25 26), (0, u "sameKey"), (0, u "([B[B)Z"), (3, u "law"), (0, u "(IIII)Z")] 4

def k1m0 : Method := { name := "<init>", desc := "()V", sig := { parameters := [], returnType := none }, accessFlags := 1, code := none }
def k1c1 : Code := { maxStack := 5, maxLocals := 2, code := method_2_code, exceptionTable := #[], attributes := #[] }
def k1m1 : Method := { name := "make", desc := "(I)[B", sig := { parameters := [.int], returnType := some (.array .byte) }, accessFlags := 10, code := some k1c1 }
def k1c2 : Code := { maxStack := 1, maxLocals := 1, code := method_3_code, exceptionTable := #[], attributes := #[] }
def k1m2 : Method := { name := "full", desc := "([B)Z", sig := { parameters := [(.array .byte)], returnType := some .boolean }, accessFlags := 10, code := some k1c2 }
def k1c3 : Code := { maxStack := 3, maxLocals := 2, code := method_4_code, exceptionTable := #[], attributes := #[] }
def k1m3 : Method := { name := "sameKey", desc := "([B[B)Z", sig := { parameters := [(.array .byte), (.array .byte)], returnType := some .boolean }, accessFlags := 10, code := some k1c3 }
def k1c4 : Code := { maxStack := 2, maxLocals := 12, code := code, exceptionTable := #[], attributes := #[] }
def k1m4 : Method := { name := "law", desc := "(IIII)Z", sig := { parameters := [.int, .int, .int, .int], returnType := some .boolean }, accessFlags := 9, code := some k1c4 }
/-- com/example/ordered_ledger_store/orderedledgerstore/storage/RecordKindKeyAfterPinLaw -/
def k1 : Class := { plain "com/example/ordered_ledger_store/orderedledgerstore/storage/RecordKindKeyAfterPinLaw" (some 0) with
  accessFlags := 49
  interfaces := #[]
  cf := some (fileOf pool1 8 #[] #[{ accessFlags := 1, nameIndex := 5, descriptorIndex := 6, attributes := #[] }, { accessFlags := 10, nameIndex := 11, descriptorIndex := 12, attributes := #[] }, { accessFlags := 10, nameIndex := 21, descriptorIndex := 22, attributes := #[] }, { accessFlags := 10, nameIndex := 25, descriptorIndex := 26, attributes := #[] }, { accessFlags := 9, nameIndex := 30, descriptorIndex := 31, attributes := #[] }] 49 2 #[] #[])
  fields := #[]
  methods := #[k1m0, k1m1, k1m2, k1m3, k1m4]
  instanceTypes := #[]
  staticTypes := #[]
  resolved := Array.replicate 36 none
  statics := none }

def pool2 : Array CpInfo := pool [(1, .class_ 2), (0, u "java/lang/constant/Constable"), (0, .class_ 4), (0, u "java/lang/Object")] 6

/-- java/lang/constant/Constable -/
def k2 : Class := { plain "java/lang/constant/Constable" (some 0) with
  accessFlags := 1537
  interfaces := #[]
  cf := some (fileOf pool2 1 #[] #[] 1537 3 #[] #[])
  fields := #[]
  methods := #[]
  instanceTypes := #[]
  staticTypes := #[]
  resolved := Array.replicate 11 none
  statics := none }

def pool3 : Array CpInfo := pool [(1, .class_ 2), (0, u "java/lang/Comparable"), (0, .class_ 4), (0, u "java/lang/Object")] 7

/-- java/lang/Comparable -/
def k3 : Class := { plain "java/lang/Comparable" (some 0) with
  accessFlags := 1537
  interfaces := #[]
  cf := some (fileOf pool3 1 #[] #[] 1537 3 #[] #[])
  fields := #[]
  methods := #[]
  instanceTypes := #[]
  staticTypes := #[]
  resolved := Array.replicate 12 none
  statics := none }

def pool4 : Array CpInfo := pool [(1, .class_ 2), (0, u "java/io/Serializable"), (0, .class_ 4), (0, u "java/lang/Object")] 2

/-- java/io/Serializable -/
def k4 : Class := { plain "java/io/Serializable" (some 0) with
  accessFlags := 1537
  interfaces := #[]
  cf := some (fileOf pool4 1 #[] #[] 1537 3 #[] #[])
  fields := #[]
  methods := #[]
  instanceTypes := #[]
  staticTypes := #[]
  resolved := Array.replicate 7 none
  statics := none }

def pool5 : Array CpInfo := pool [(2, .class_ 4), (1, u "java/lang/Enum"), (0, u "name"), (0, u "Ljava/lang/String;"), (2, u "ordinal"), (0, u "I"), (1, .class_ 14), (1, u "java/lang/Object"), (4, u "hash"), (86, .class_ 108), (1, u "java/lang/Enum$EnumDesc"), (2, .class_ 112), (0, u "java/lang/constant/Constable"), (0, .class_ 114), (0, u "java/lang/Comparable"), (0, .class_ 116), (0, u "java/io/Serializable")] 87

/-- java/lang/Enum -/
def k5 : Class := { plain "java/lang/Enum" (some 0) with
  accessFlags := 1057
  interfaces := #[2, 3, 4]
  cf := some (fileOf pool5 2 #[.nestMembers #[106]] #[] 1057 12 #[111, 113, 115] #[{ accessFlags := 18, nameIndex := 5, descriptorIndex := 6, attributes := #[] }, { accessFlags := 18, nameIndex := 9, descriptorIndex := 10, attributes := #[] }, { accessFlags := 2, nameIndex := 19, descriptorIndex := 10, attributes := #[] }])
  fields := #[{ name := "name", type := (.object "java/lang/String"), accessFlags := 18, slot := 0, constantValue := 0 }, { name := "ordinal", type := .int, accessFlags := 18, slot := 1, constantValue := 0 }, { name := "hash", type := .int, accessFlags := 2, slot := 2, constantValue := 0 }]
  methods := #[]
  instanceTypes := #[(.object "java/lang/String"), .int, .int]
  staticTypes := #[]
  resolved := Array.replicate 204 none
  statics := none }

def pool6 : Array CpInfo := pool [(1, .class_ 2), (0, u "com/example/ordered_ledger_store/orderedledgerstore/storage/RecordKind"), (2, u "ENTRY"), (0, u "Lcom/example/ordered_ledger_store/orderedledgerstore/storage/RecordKind;"), (2, u "FENCE"), (2, u "KEY"), (2, u "$VALUES"), (0, u "[Lcom/example/ordered_ledger_store/orderedledgerstore/storage/RecordKind;"), (6, .class_ 25), (1, u "java/lang/Enum"), (8, u "tag"), (0, u "B"), (34, u "keyAfter"), (0, u "([B[B)[B")] 7

def k6c0 : Code := { maxStack := 1, maxLocals := 3, code := prog_64_method_7_code, exceptionTable := #[], attributes := #[] }
def k6m0 : Method := { name := "keyAfter", desc := "([B[B)[B", sig := { parameters := [(.array .byte), (.array .byte)], returnType := some (.array .byte) }, accessFlags := 8, code := some k6c0 }
/-- com/example/ordered_ledger_store/orderedledgerstore/storage/RecordKind -/
def k6 : Class := { plain "com/example/ordered_ledger_store/orderedledgerstore/storage/RecordKind" (some 5) with
  accessFlags := 16432
  interfaces := #[]
  cf := some (fileOf pool6 1 #[] #[{ accessFlags := 8, nameIndex := 70, descriptorIndex := 71, attributes := #[] }] 16432 23 #[] #[{ accessFlags := 16409, nameIndex := 5, descriptorIndex := 6, attributes := #[] }, { accessFlags := 16409, nameIndex := 9, descriptorIndex := 6, attributes := #[] }, { accessFlags := 16409, nameIndex := 12, descriptorIndex := 6, attributes := #[] }, { accessFlags := 18, nameIndex := 34, descriptorIndex := 35, attributes := #[] }, { accessFlags := 4122, nameIndex := 15, descriptorIndex := 16, attributes := #[] }])
  fields := #[{ name := "ENTRY", type := (.object "com/example/ordered_ledger_store/orderedledgerstore/storage/RecordKind"), accessFlags := 16409, slot := 0, constantValue := 0 }, { name := "FENCE", type := (.object "com/example/ordered_ledger_store/orderedledgerstore/storage/RecordKind"), accessFlags := 16409, slot := 1, constantValue := 0 }, { name := "KEY", type := (.object "com/example/ordered_ledger_store/orderedledgerstore/storage/RecordKind"), accessFlags := 16409, slot := 2, constantValue := 0 }, { name := "tag", type := .byte, accessFlags := 18, slot := 3, constantValue := 0 }, { name := "$VALUES", type := (.array (.object "com/example/ordered_ledger_store/orderedledgerstore/storage/RecordKind")), accessFlags := 4122, slot := 3, constantValue := 0 }]
  methods := #[k6m0]
  instanceTypes := #[(.object "java/lang/String"), .int, .int, .byte]
  staticTypes := #[(.object "com/example/ordered_ledger_store/orderedledgerstore/storage/RecordKind"), (.object "com/example/ordered_ledger_store/orderedledgerstore/storage/RecordKind"), (.object "com/example/ordered_ledger_store/orderedledgerstore/storage/RecordKind"), (.array (.object "com/example/ordered_ledger_store/orderedledgerstore/storage/RecordKind"))]
  resolved := Array.replicate 79 none
  statics := none }

def pool7 : Array CpInfo := pool [(1, u "java/lang/Cloneable"), (0, .class_ 1), (0, u "java/lang/Object"), (0, .class_ 3)] 3

/-- java/lang/Cloneable -/
def k7 : Class := { plain "java/lang/Cloneable" (some 0) with
  accessFlags := 1537
  interfaces := #[]
  cf := some (fileOf pool7 2 #[] #[] 1537 4 #[] #[])
  fields := #[]
  methods := #[]
  instanceTypes := #[]
  staticTypes := #[]
  resolved := Array.replicate 8 none
  statics := none }

/-- the primitive byte -/
def k8 : Class := { plain "byte" none with kind := .primitive 'B', accessFlags := 0x411 }
/-- [B -/
def k9 : Class := { plain "[B" (some 0) with kind := .array 8 .byte, interfaces := #[7, 4], accessFlags := 1041 }

/-- the primitive int -/
def k10 : Class := { plain "int" none with kind := .primitive 'I', accessFlags := 0x411 }
/-- [I -/
def k11 : Class := { plain "[I" (some 0) with kind := .array 10 .int, interfaces := #[7, 4], accessFlags := 1041 }

def heap : Heap := #[]
def classes : Array Class := #[k0, k1, k2, k3, k4, k5, k6, k7, k8, k9, k10, k11]
def interned : List (Array UInt16 × Addr) := []
def slotsUsed : Nat := 0
def theMethod : MethodId := ⟨1, 4⟩
def args0 : Array Value := #[.int 9, .int 4, .int 2, .int 3]
def aboutOver (below : List Frame) : State where
  vm := { classes := classes, interned := interned.toArray }
  heap := heap
  slotsUsed := slotsUsed
  threads := #[{ frames := .invoking theMethod args0 :: below }]
def below0 : List Frame := [.native { method := ⟨0, 0⟩, args := #[] }]
def about1 : State := aboutOver below0
def p0 : Program := .bare "" "" ""
def e0 : Env := launch0.env 0 0 0
theorem w_frames : about1.frames = Frame.invoking theMethod args0 :: below0 := rfl
set_option maxRecDepth 65536 in
theorem w_args : argsFit about1.vm theMethod args0 = true := by decide +kernel
set_option maxRecDepth 65536 in
theorem w_heap : heapFits about1 = true := by decide +kernel
set_option maxRecDepth 65536 in
theorem w_runnable : about1.curStatus? = some .runnable := by decide +kernel
set_option maxRecDepth 65536 in
theorem w_alone : about1.alone = true := by decide +kernel
set_option maxRecDepth 65536 in
theorem w_named : about1.methodNamed? x = some theMethod := by decide +kernel
set_option maxRecDepth 65536 in
theorem w_hears : about1.hears theMethod below0 = true := by decide +kernel
set_option maxRecDepth 65536 in
theorem w_ripe : about1.ripe theMethod args0 below0 = true := by decide +kernel
theorem w_running : about1.status = .running := rfl
set_option maxRecDepth 65536 in
theorem w_room : about1.hasRoom e0.platform room_1 = true :=
  launch0.hasRoom_least _ room_1 (by decide +kernel) (by decide +kernel) (by decide +kernel) (by decide +kernel) (by decide +kernel) (by decide +kernel)
theorem allAtoms_all (ts : List Jvm.Cond) (a : Array Jvm.Value) (st : Jvm.State) : (allAtoms ts).before a st = ts.all (fun c => c.before a st) := by
  induction ts with
  | nil => rfl
  | cons c t ih =>
    show (Jvm.Cond.and c (allAtoms t)).before a st = _
    rw [Jvm.Cond.before_and, ih, List.all_cons]
def words1 : List Jvm.Cond := Jvm.Cond.code x code maxLocals ret :: tables_1
/-- a 'code' word, met by the world's own term for the bytes: nothing is compared byte by byte -/
theorem code_word {y : MethodName} {bytes : ByteArray} {mx : Nat} {rt : Option FieldType} {a : Array Value} {s : State} {m : MethodId} {meth : Method} {c : Code} (h1 : s.methodNamed? y = some m) (h2 : s.vm.method? m = some meth) (h3 : meth.code = some c) (h4 : c.code = bytes)
    (h5 : (c.maxLocals == mx && c.exceptionTable.isEmpty && decide (c.maxStack ≤ mostOperands) && decide (meth.sig.returnType = rt) && !meth.locks && decide (parseMethodDescriptor y.desc = some meth.sig)) = true) : (Jvm.Cond.code y bytes mx rt).before a s = true := by
  simp only [Bool.and_eq_true, beq_iff_eq, Bool.not_eq_true', decide_eq_true_eq] at h5
  obtain ⟨⟨⟨⟨⟨g1, g2⟩, g3⟩, g4⟩, g5⟩, g6⟩ := h5
  simp [Cond.before, Cond.holds, Cond.value, h1, h2, h3, h4, g1, g2, g3, g4, g5, g6]
def isCode : Jvm.Cond → Bool
  | .code _ _ _ _ => true
  | _ => false
theorem all_split {L : List Jvm.Cond} {P : Jvm.Cond → Bool} (h1 : L.all (fun c => isCode c || P c) = true) (h2 : ∀ c ∈ L.filter isCode, P c = true) : L.all P = true := by
  refine List.all_eq_true.mpr fun c hc => ?_
  have h := List.all_eq_true.mp h1 c hc
  rcases Bool.eq_false_or_eq_true (isCode c) with hi | hi
  · exact h2 c (List.mem_filter.mpr ⟨hc, hi⟩)
  · simpa [hi] using h
set_option maxRecDepth 65536 in
theorem w_c0 : (Jvm.Cond.code x code maxLocals ret).before args0 about1 = true := code_word (m := ⟨1, 4⟩) (meth := k1m4) (c := k1c4) (by decide +kernel) rfl rfl rfl (by decide +kernel)
set_option maxRecDepth 65536 in
theorem w_c1 : (Jvm.Cond.code ({ cls := "com/example/ordered_ledger_store/orderedledgerstore/storage/RecordKindKeyAfterPinLaw", name := "make", desc := "(I)[B" } : Jvm.MethodName) method_2_code (2 : Nat) (Option.some (Jvm.ClassFile.FieldType.array Jvm.ClassFile.FieldType.byte))).before args0 about1 = true := code_word (m := ⟨1, 1⟩) (meth := k1m1) (c := k1c1) (by decide +kernel) rfl rfl rfl (by decide +kernel)
set_option maxRecDepth 65536 in
theorem w_c2 : (Jvm.Cond.code ({ cls := "com/example/ordered_ledger_store/orderedledgerstore/storage/RecordKind", name := "keyAfter", desc := "([B[B)[B" } : Jvm.MethodName) prog_64_method_7_code (3 : Nat) (Option.some (Jvm.ClassFile.FieldType.array Jvm.ClassFile.FieldType.byte))).before args0 about1 = true := code_word (m := ⟨6, 0⟩) (meth := k6m0) (c := k6c0) (by decide +kernel) rfl rfl rfl (by decide +kernel)
set_option maxRecDepth 65536 in
theorem w_c3 : (Jvm.Cond.code ({ cls := "com/example/ordered_ledger_store/orderedledgerstore/storage/RecordKindKeyAfterPinLaw", name := "full", desc := "([B)Z" } : Jvm.MethodName) method_3_code (1 : Nat) (Option.some Jvm.ClassFile.FieldType.boolean)).before args0 about1 = true := code_word (m := ⟨1, 2⟩) (meth := k1m2) (c := k1c2) (by decide +kernel) rfl rfl rfl (by decide +kernel)
set_option maxRecDepth 65536 in
theorem w_c4 : (Jvm.Cond.code ({ cls := "com/example/ordered_ledger_store/orderedledgerstore/storage/RecordKindKeyAfterPinLaw", name := "sameKey", desc := "([B[B)Z" } : Jvm.MethodName) method_4_code (2 : Nat) (Option.some Jvm.ClassFile.FieldType.boolean)).before args0 about1 = true := code_word (m := ⟨1, 3⟩) (meth := k1m3) (c := k1c3) (by decide +kernel) rfl rfl rfl (by decide +kernel)
def codes1 : List Jvm.Cond := [Jvm.Cond.code x code maxLocals ret, Jvm.Cond.code ({ cls := "com/example/ordered_ledger_store/orderedledgerstore/storage/RecordKindKeyAfterPinLaw", name := "make", desc := "(I)[B" } : Jvm.MethodName) method_2_code (2 : Nat) (Option.some (Jvm.ClassFile.FieldType.array Jvm.ClassFile.FieldType.byte)), Jvm.Cond.code ({ cls := "com/example/ordered_ledger_store/orderedledgerstore/storage/RecordKind", name := "keyAfter", desc := "([B[B)[B" } : Jvm.MethodName) prog_64_method_7_code (3 : Nat) (Option.some (Jvm.ClassFile.FieldType.array Jvm.ClassFile.FieldType.byte)), Jvm.Cond.code ({ cls := "com/example/ordered_ledger_store/orderedledgerstore/storage/RecordKindKeyAfterPinLaw", name := "full", desc := "([B)Z" } : Jvm.MethodName) method_3_code (1 : Nat) (Option.some Jvm.ClassFile.FieldType.boolean), Jvm.Cond.code ({ cls := "com/example/ordered_ledger_store/orderedledgerstore/storage/RecordKindKeyAfterPinLaw", name := "sameKey", desc := "([B[B)Z" } : Jvm.MethodName) method_4_code (2 : Nat) (Option.some Jvm.ClassFile.FieldType.boolean)]
set_option maxRecDepth 65536 in
theorem codes_eq : words1.filter isCode = codes1 := rfl
theorem w_codes : ∀ c ∈ words1.filter isCode, c.before args0 about1 = true := by
  rw [codes_eq]
  intro c hc
  simp only [codes1, List.mem_cons, List.not_mem_nil, or_false] at hc
  rcases hc with rfl | rfl | rfl | rfl | rfl
  · exact w_c0
  · exact w_c1
  · exact w_c2
  · exact w_c3
  · exact w_c4
set_option maxRecDepth 65536 in
theorem w_t1 : words1.all (fun c => isCode c || c.before args0 about1) = true := by decide +kernel
theorem w_tables : (allAtoms (Jvm.Cond.code x code maxLocals ret :: tables_1)).before args0 about1 = true := by
  rw [allAtoms_all]
  show words1.all (fun c => c.before args0 about1) = true
  refine all_split ?_ w_codes
  rw [w_t1]
set_option maxRecDepth 65536 in
theorem w_case : (Jvm.Cond.and given_1 narrow_1).before args0 about1 = true := by decide +kernel
theorem w_applies : (headSpec (Jvm.Cond.code x code maxLocals ret :: tables_1) room_1).applies x e0.platform about1 = true :=
  (Spec.applies_iff w_frames).mpr ⟨w_running, w_runnable, w_alone, w_named, w_hears, w_ripe, w_room, w_tables⟩
theorem atStart : AtStart classFile x code maxLocals ret World_1 tables_1 room_1 Calls_1 rest_1 Pre_1 launch0 p0 e0 about1 theMethod args0 below0 :=
  ⟨lists_1, trivial, launch0.admits_env _ _ _, launch0.least_env, fairChoices_fair.cas, fairChoices_fair.clock, w_frames, w_args, w_heap, w_applies, trivial, trivial, w_case⟩
end start1
theorem witness_1 : WitnessClaimed_1 := ⟨start1.p0, start1.e0, start1.about1, start1.theMethod, start1.args0, start1.below0, start1.atStart⟩
end Jvm.Pilot.@@N@@
