import JvmDerived
import JvmDerived.Pilot.@@N@@Statement
import JvmDerived.Pilot.@@N@@Code
set_option linter.unusedVariables false
set_option linter.unusedSimpArgs false
namespace Jvm.RoadKit
open Sem ClassFile Op Lib Jvm.Stand Jvm.Free Jvm.LawKit
section New
variable {p : Program} {l : Launch} {e : Env} {R : Room} {s : State} {m : MethodId} {args : Array Value} {below : List Frame} {meth : Method} {c : Code} {T : State} {locs : List Loc} {cells slots : Nat}
theorem retI (X : Stand p l e R s m args below meth c T locs cells slots) (hx : p.tables.exec = Jvm.exec) {pc : Nat} {Ls : Array Slot} {z : Int32} {rest : List Value} (hret : meth.sig.returnType = some .int) (hd : decode c.code pc = .ok (.ireturn, 1)) {fs : List Frame}
    (hl : ∀ (f : JFrame) (acts : List Action), f.method = m → f.locked = none → f.entered = [] → (doReturn e (T.setTop f) acts (some (.int z))).1 = T.setFrames fs) : Steps p.tables e below (T.setTop (mkF m pc Ls (.int z :: rest))) (T.setFrames fs) := by
  have hm' : T.vm.method? m = some meth := X.method'
  have hn : narrow .int (.int z) = .int z := rfl
  show Steps p.tables e below (T.setTop { method := m, pc := pc, locals := Ls, stack := _ :: rest, locked := none }) _
  jvm_step X.here [X.here.top, hx, hd, hm', hret, hn]
  first | (intro acts; rw [hl _ acts rfl rfl rfl]) | rw [hl _ _ rfl rfl rfl]
  exact Steps.refl _
end New
end Jvm.RoadKit


namespace Jvm.Pilot.@@N@@
def StrChars.lo8 (x : Int32) : Int32 := x.toInt8.toInt32
end Jvm.Pilot.@@N@@

namespace Jvm.Pilot.@@N@@
open Jvm Jvm.ClassFile Sem Op Lib Jvm.Free Jvm.Stand Jvm.LawKit Jvm.RoadKit Bundle Jvm.Pilot.@@N@@.Jvm.D


theorem own_down {G : Prop} {α : Type} (I : Nat → α → Prop) (h0 : ∀ a, I 0 a → G) (hs : ∀ k a, I (k + 1) a → (∀ b, I k b → G) → G) : ∀ k a, I k a → G := by
  intro k
  induction k with
  | zero => exact h0
  | succ k ih => exact fun a h => hs k a h ih


theorem own_int {s : State} {args : Array Value} {t : Term} {k : Int32} (h : (Cond.eq t (.int k)).value args s none s [] = some true) : t.eval args s none [] s = some (.int k) := by
  obtain ⟨x, y, h1, h2, k1, k2⟩ := cmp_v (Or.inl h)
  have e2 : (Term.int k).eval args s none [] s = some (.int k) := Term.int_eval k
  obtain rfl := Option.some.inj (e2.symm.trans h2)
  obtain ⟨z, rfl⟩ := k2
  have hq : (Cond.eq t (.int k)).value args s none s [] = some (decide (z = k)) := by simp [Cond.value, h1, e2]
  rw [h1, gotT hq h]
theorem own_fldI {s : State} {args : Array Value} {t : Term} {a : Addr} {C n d : String} {k : Int32} (ht : t.eval args s none [] s = some (.ref a)) (h : (Cond.eq (.field t C n d) (.int k)).value args s none s [] = some true) : Fld s s.heap a C n d (.int k) :=
  Fld.start ((fld_at ht).symm.trans (own_int h))
theorem own_fldR {s : State} {args : Array Value} {t u : Term} {a b : Addr} {C n d : String} (ht : t.eval args s none [] s = some (.ref a)) (hu : u.eval args s none [] s = some (.ref b)) (h : (Cond.eq (.field t C n d) u).value args s none s [] = some true) : Fld s s.heap a C n d (.ref b) := by
  obtain ⟨x, y, h1, h2, k1, k2⟩ := cmp_v (Or.inl h)
  obtain rfl := Option.some.inj (hu.symm.trans h2)
  have hx : x.isRef = true := k2.2
  have e := gotT (eq_R h1 hu hx rfl) h
  subst e
  exact Fld.start ((fld_at ht).symm.trans h1)

theorem own_wS {a0 : Array Value} {Z : State} (hw : ∀ d ∈ tables_1, d.before a0 Z = true) : ∀ d ∈ Bundle.stringAtoms, d.before a0 Z = true := fun d hd => by
  simp only [Bundle.stringAtoms, List.mem_cons, List.not_mem_nil, or_false] at hd
  rcases hd with rfl | rfl | rfl | rfl | rfl | rfl | rfl
  · exact hw _ (List.mem_of_getElem? (i := 19) rfl)
  · exact hw _ (List.mem_of_getElem? (i := 20) rfl)
  · exact hw _ (List.mem_of_getElem? (i := 21) rfl)
  · exact hw _ (List.mem_of_getElem? (i := 22) rfl)
  · exact hw _ (List.mem_of_getElem? (i := 23) rfl)
  · exact hw _ (List.mem_of_getElem? (i := 24) rfl)
  · exact hw _ (List.mem_of_getElem? (i := 25) rfl)


def own_str (Z : State) (h : Heap) (x : Addr) (cs : List Int32) : Prop := Exa Z h x "java/lang/String" ∧ Fld Z h x "java/lang/String" "coder" "B" (.int 0) ∧ (∀ c ∈ cs, ¬ c < 0 ∧ ¬ (255 : Int32) < c) ∧ ∃ (t : Addr) (kb : ClassId), Fld Z h x "java/lang/String" "value" "[B" (.ref t) ∧ Arv Z h t kb .byte (Int32.ofNat cs.length) ((cs.map StrChars.lo8).map Value.int) (.int 0)
theorem own_sext {Z : State} {h h' : Heap} {x : Addr} {cs : List Int32} (F : own_str Z h x cs) (E : Ext h h') : own_str Z h' x cs := by
  obtain ⟨a, b, c, t, kb, d, e⟩ := F
  exact ⟨a.ext E, b.ext E, c, t, kb, d.ext E, e.ext E⟩
theorem own_skeep {Z : State} {h h' : Heap} {x : Addr} {cs : List Int32} (F : own_str Z h x cs) (K : Keep h h' []) : own_str Z h' x cs := by
  obtain ⟨a, b, c, t, kb, d, e⟩ := F
  exact ⟨a.keep K, b.keep K nin0, c, t, kb, d.keep K nin0, e.keep K nin0⟩
theorem own_up {cs : List Int32} (h : ∀ c ∈ cs, ¬ c < 0 ∧ ¬ (255 : Int32) < c) : ∀ c ∈ cs, ¬ c < 0 ∧ ¬ (65535 : Int32) < c := fun c hc => ⟨(h c hc).1, fun q => (h c hc).2 (by rw [Int32.lt_iff_toInt_lt] at q ⊢; have e1 : (65535 : Int32).toInt = 65535 := rfl; have e2 : (255 : Int32).toInt = 255 := rfl; omega)⟩
theorem own_mem {cs : List Int32} {i : Nat} (h : i < cs.length) : cs.getD i 0 ∈ cs := by
  rw [List.getD_eq_getElem?_getD, List.getElem?_eq_getElem h]
  exact List.getElem_mem h


theorem own_hasl {cl : Cell} : ∀ (cs : List Int32) (i : Nat), (∀ j, j < cs.length → cl.slots[i + j]? = some (.int (StrChars.lo8 (cs.getD j 0)))) → HasL cl i ((cs.map StrChars.lo8).map Value.int)
  | [], _, _ => trivial
  | c :: cs, i, h => ⟨by simpa using h 0 (by simp), own_hasl cs (i + 1) fun j hj => by
      have q := h (j + 1) (by simpa using hj)
      rw [Nat.add_assoc, Nat.add_comm 1 j]
      simpa using q⟩
theorem own_len {s : State} {args : Array Value} {t : Term} {b : Addr} {k : Int32} {cl : Cell} {ty : FieldType} (hb : t.eval args s none [] s = some (.ref b)) (A : Arr s s.heap b cl ty) (h : (Cond.eq (.length t) (.int k)).value args s none s [] = some true) : cl.slots.size < 2 ^ 31 ∧ cl.slots.size.toInt32 = k := by
  have hL := own_int h
  have hA : s.arrayAt? b = some cl := Arr.fin (Vm.Alike.refl _) A
  by_cases q : cl.slots.size < 2 ^ 31
  · refine ⟨q, ?_⟩
    rw [len_f hb hA q] at hL
    exact Value.int.inj (Option.some.inj hL)
  · simp [Term.eval, hb, hA, q] at hL
/-- a String of the case, read at the start -/
theorem own_strstart {s : State} {args : Array Value} {t : Term} {x : Addr} {cs : List Int32} (hf : Fit s) (ht : t.eval args s none [] s = some (.ref x)) (hx : (Cond.exactly t "java/lang/String").value args s none s [] = some true) (hc : (Cond.eq (.field t "java/lang/String" "coder" "B") (.int 0)).value args s none s [] = some true)
    (ha : (Cond.arrayOf (.field t "java/lang/String" "value" "[B") .byte).value args s none s [] = some true) (hl : (Cond.eq (.length (.field t "java/lang/String" "value" "[B")) (.int (Int32.ofNat cs.length))).value args s none s [] = some true) (hr : ∀ c ∈ cs, ¬ c < 0 ∧ ¬ (255 : Int32) < c) (hn : cs.length < 2 ^ 31)
    (he : ∀ i, i < cs.length → (Cond.eq (.elem (.field t "java/lang/String" "value" "[B") (.int (Int32.ofNat i))) (.int (StrChars.lo8 (cs.getD i 0)))).value args s none s [] = some true) : own_str s s.heap x cs := by
  obtain ⟨b, hb⟩ := arr_v ha
  have F := Fld.start ((fld_at ht).symm.trans hb)
  obtain ⟨cl, A⟩ := Arr.start hb ha
  obtain ⟨q1, q2⟩ := own_len hb A hl
  have e1 : (Int32.ofNat cs.length).toNatClampNeg = cs.length := clamp_of rfl hn
  refine ⟨Exa.start ht hx, own_fldI ht hc, hr, b, cl.cls, F, Arv.start hf A q1 q2 ?_ (by rw [e1]; simp) (own_hasl cs 0 fun j hj => ?_)⟩
  · rw [Int32.lt_iff_toInt_lt, Int32.toInt_ofNat_of_lt hn]
    have e0 : (0 : Int32).toInt = 0 := rfl
    omega
  · have q := (elem_in (own_int (he j hj)) hb (Term.int_eval (Int32.ofNat j)) A.1).2
    have e2 : (Int32.ofNat j).toNatClampNeg = j := clamp_of rfl (by omega)
    rw [e2] at q
    rw [Nat.zero_add]
    exact q


theorem own_ge {i n : Nat} (h : i + 0 = n) : ¬ Int32.ofNat i < Int32.ofNat n := by
  have : i = n := by omega
  rw [this]; exact Int32.lt_irrefl
theorem own_lt {i k n : Nat} (h : i + (k + 1) = n) (hn : n ≤ 4000) : Int32.ofNat i < Int32.ofNat n := by
  rw [Int32.lt_iff_toInt_lt, Int32.toInt_ofNat_of_lt (by omega), Int32.toInt_ofNat_of_lt (by omega)]
  omega
theorem own_nn {i : Nat} (hn : i ≤ 4000) : ¬ Int32.ofNat i < 0 := by
  rw [Int32.lt_iff_toInt_lt, Int32.toInt_ofNat_of_lt (by omega)]
  have e0 : (0 : Int32).toInt = 0 := rfl
  omega
theorem own_byte {cl : Cell} {vs : List Value} {d : Value} (H : Has cl vs d) (G : ∀ i, i < cl.slots.size → fits .byte (vs.getD i d) = true) {j : Int32} (hj : ¬ (j < 0 ∨ cl.slots.size ≤ j.toNatClampNeg)) : ∃ y : Int32, vs.getD j.toNatClampNeg d = .int y := by
  have lt : j.toNatClampNeg < cl.slots.size := Nat.lt_of_not_le fun q => hj (Or.inr q)
  exact fit_I (G _ lt) (by simp)


theorem own_nz {s : State} {args : Array Value} {t : Term} {z : Int32} (ht : t.eval args s none [] s = some (.int z)) (h : (Cond.not (Cond.eq t (.int 0))).value args s none s [] = some true) : ¬ z = 0 := by
  have e2 : (Term.int 0).eval args s none [] s = some (.int 0) := Term.int_eval 0
  have hq : (Cond.eq t (.int 0)).value args s none s [] = some (decide (z = 0)) := by simp [Cond.value, ht, e2]
  exact gotF hq (not_v h)


def own_pick (s k : Int32) : Int32 := if k = 0 then s else if k = 1 then 404 else if k = 2 then 499 else if k = 3 then 500 else if k = 4 then 403 else if k = 5 then 405 else if k = 6 then (-2147483648) else 2147483647
def own_fs (s : Int32) (u n b : Addr) : Addr := if s = 404 then n else if s < 500 then b else u
theorem own_each {P : Addr → Addr → Prop} {u n b u' n' b' : Addr} (hu : P u u') (hn : P n n') (hb : P b b') (s : Int32) : P (own_fs s u n b) (own_fs s u' n' b') := by
  unfold own_fs
  split
  · exact hn
  · split
    · exact hb
    · exact hu
theorem own_fsU {s : Int32} (u n b : Addr) (h : ¬ s < 500) : own_fs s u n b = u := by
  unfold own_fs
  rw [if_neg (fun q => h (by rw [q]; decide)), if_neg h]
theorem own_fsN {s : Int32} (u n b : Addr) (h : s = 404) : own_fs s u n b = n := if_pos h
theorem own_fsB {s : Int32} (u n b : Addr) (h : ¬ s = 404) (h2 : s < 500) : own_fs s u n b = b := by
  unfold own_fs
  rw [if_neg h, if_pos h2]

theorem d5_0 : decode jdk_43_method_13_code 0 = .ok (.aload_n 0, 1) := by decide +kernel
theorem d5_1 : decode jdk_43_method_13_code 1 = .ok (.arraylength, 1) := by decide +kernel
theorem d5_2 : decode jdk_43_method_13_code 2 = .ok (.aload_n 1, 1) := by decide +kernel
theorem d5_3 : decode jdk_43_method_13_code 3 = .ok (.arraylength, 1) := by decide +kernel
theorem d5_4 : decode jdk_43_method_13_code 4 = .ok (.if_icmp .ne 30, 3) := by decide +kernel
theorem d5_7 : decode jdk_43_method_13_code 7 = .ok (.iconst 0, 1) := by decide +kernel
theorem d5_8 : decode jdk_43_method_13_code 8 = .ok (.istore_n 2, 1) := by decide +kernel
theorem d5_9 : decode jdk_43_method_13_code 9 = .ok (.iload_n 2, 1) := by decide +kernel
theorem d5_10 : decode jdk_43_method_13_code 10 = .ok (.aload_n 0, 1) := by decide +kernel
theorem d5_11 : decode jdk_43_method_13_code 11 = .ok (.arraylength, 1) := by decide +kernel
theorem d5_12 : decode jdk_43_method_13_code 12 = .ok (.if_icmp .ge 20, 3) := by decide +kernel
theorem d5_15 : decode jdk_43_method_13_code 15 = .ok (.aload_n 0, 1) := by decide +kernel
theorem d5_16 : decode jdk_43_method_13_code 16 = .ok (.iload_n 2, 1) := by decide +kernel
theorem d5_17 : decode jdk_43_method_13_code 17 = .ok (.baload, 1) := by decide +kernel
theorem d5_18 : decode jdk_43_method_13_code 18 = .ok (.aload_n 1, 1) := by decide +kernel
theorem d5_19 : decode jdk_43_method_13_code 19 = .ok (.iload_n 2, 1) := by decide +kernel
theorem d5_20 : decode jdk_43_method_13_code 20 = .ok (.baload, 1) := by decide +kernel
theorem d5_21 : decode jdk_43_method_13_code 21 = .ok (.if_icmp .eq 5, 3) := by decide +kernel
theorem d5_26 : decode jdk_43_method_13_code 26 = .ok (.iinc 2 1, 3) := by decide +kernel
theorem d5_29 : decode jdk_43_method_13_code 29 = .ok (.goto (-20), 3) := by decide +kernel
theorem d5_32 : decode jdk_43_method_13_code 32 = .ok (.iconst 1, 1) := by decide +kernel
theorem d5_33 : decode jdk_43_method_13_code 33 = .ok (.ireturn, 1) := by decide +kernel
theorem pn_5 : plainName "java/lang/StringLatin1" = true := by first | (simp [plainName, overriddenIn]; done) | decide +kernel
theorem ef_l1eq (m : MethodId) (x0 : Addr) (x1 : Addr) : entryFrame m #[(.ref x0), (.ref x1)] 3 = mkF m 0 #[.val (.ref x0), .val (.ref x1), .unset] [] := by (first | (simp [entryFrame, mkF, argsToLocals, Value.category]; done) | rfl)
def Q_l1eq (Z : State) (t1 : Addr) (t2 : Addr) (k1 : ClassId) (k2 : ClassId) (n : Nat) (vs : List Value) (h0 : Heap) (n0 : Nat) (v : Option Value) (h : Heap) (L : List Loc) : Prop := v = some (.int 1) ∧ Fr n0 L ∧ h = h0
set_option maxRecDepth 65536 in
set_option maxHeartbeats 40000000 in
theorem rm_l1eq (l : Launch) (Z : State) (a0 : Array Value) (hw : ∀ d ∈ tables_1, d.before a0 Z = true) (ws : List Jvm.Cond) (t1 : Addr) (t2 : Addr) (k1 : ClassId) (k2 : ClassId) (n : Nat) (vs : List Value) (h0 : Heap) (n0 : Nat) (Z0 : n0 ≤ h0.size) (V1 : Arv Z h0 t1 k1 .byte (Int32.ofNat n) vs (.int 0)) (V2 : Arv Z h0 t2 k2 .byte (Int32.ofNat n) vs (.int 0)) (hn : n ≤ 4000) :
    MetFree l (⟨"java/lang/StringLatin1", "equals", "([B[B)Z"⟩ : MethodName) (head1 (Jvm.Cond.code (⟨"java/lang/StringLatin1", "equals", "([B[B)Z"⟩ : MethodName) jdk_43_method_13_code 3 (some .boolean) :: ws) ({ frames := 0, cells := 0, slots := 0, locals := 0 } : Room)) (fun a U => a = #[(.ref t1), (.ref t2)] ∧ Z.Warmed39 U.vm ∧ U.heap = h0) (fun _ _ _ _ _ => True) (fun _ U o U' => ∃ v L, o = .returned v ∧ Q_l1eq Z t1 t2 k1 k2 n vs h0 n0 v U'.heap L ∧ FrameEnd U o U' L ({ frames := 0, cells := 0, slots := 0, locals := 0 } : Room).cells ({ frames := 0, cells := 0, slots := 0, locals := 0 } : Room).slots) := by
  refine MetFree.of_bodySF (plainFor_of_name pn_5) hisR ?_
  intro p e s m args below meth c s₁ Bd hml0 hP hK
  obtain ⟨rfl, hZ, hh⟩ := hP
  have hx := Bd.exec
  have hby := Bd.bytes
  have hml : c.maxLocals = 3 := hml0
  have hown : s.vm.findClass "java/lang/StringLatin1" = some m.cls := findClass_of_methodNamed Bd.named
  have hnm := (name_of_methodNamed Bd.named Bd.method).1
  have X0 : Stand p l e ({ frames := 0, cells := 0, slots := 0, locals := 0 } : Room) s m #[(.ref t1), (.ref t2)] below meth c s₁ [] 0 0 := Stand.of_body Bd
  have e0 : s₁.heap = h0 := by rw [← hh, Bd.state]; rfl
  have N0 := Fr.nil n0
  have c0 : Goes p e below s₁ (entryFrame m #[(.ref t1), (.ref t2)] 3) s₁ (mkF m 0 #[.val (.ref t1), .val (.ref t2), .unset] []) := fun t k => castTop (ef_l1eq m t1 t2) k
  obtain ⟨cl1, Ar1, q1, Sz1, Nn1, Hh1, Gg1⟩ := id V1
  obtain ⟨cl2, Ar2, q2, Sz2, Nn2, Hh2, Gg2⟩ := id V2
  have c3 : Goes p e below s₁ (entryFrame m #[(.ref t1), (.ref t2)] 3) s₁ (mkF m 9 #[.val (.ref t1), .val (.ref t2), .val (.int (0 : Int32))] []) := by
    intro t kk
    refine c0 t ?_
    show Steps p.tables e below (s₁.setTop (mkF m 0 #[.val (.ref t1), .val (.ref t2), .unset] [])) t
    refine XS.aloadN X0.here hx rfl (hb hby d5_0) rfl rfl ?_
    show Steps p.tables e below (s₁.setTop (mkF m 1 #[.val (.ref t1), .val (.ref t2), .unset] [(.ref t1)])) t
    refine X0.arraylength hx (by rw [e0]; exact Ar1.1) (State.isArrayOf_alike hZ.alike Ar1.2.1) (g := (mkF m 1 #[.val (.ref t1), .val (.ref t2), .unset] [(.ref t1)])) rfl rfl (hb hby d5_1) _ ?_
    rw [len_of Sz1 Nn1]
    show Steps p.tables e below (s₁.setTop (mkF m 2 #[.val (.ref t1), .val (.ref t2), .unset] [(.int (Int32.ofNat n))])) t
    refine XS.aloadN X0.here hx rfl (hb hby d5_2) rfl rfl ?_
    show Steps p.tables e below (s₁.setTop (mkF m 3 #[.val (.ref t1), .val (.ref t2), .unset] [(.ref t2), (.int (Int32.ofNat n))])) t
    refine X0.arraylength hx (by rw [e0]; exact Ar2.1) (State.isArrayOf_alike hZ.alike Ar2.2.1) (g := (mkF m 3 #[.val (.ref t1), .val (.ref t2), .unset] [(.ref t2), (.int (Int32.ofNat n))])) rfl rfl (hb hby d5_3) _ ?_
    rw [len_of Sz2 Nn2]
    show Steps p.tables e below (s₁.setTop (mkF m 4 #[.val (.ref t1), .val (.ref t2), .unset] [(.int (Int32.ofNat n)), (.int (Int32.ofNat n))])) t
    refine XS.icmpNo X0.here hx rfl (hb hby d5_4) rfl (teq (rfl : Int32.ofNat n = Int32.ofNat n)).2 ?_
    show Steps p.tables e below (s₁.setTop (mkF m 7 #[.val (.ref t1), .val (.ref t2), .unset] [])) t
    refine XS.iconst X0.here hx rfl (hb hby d5_7) ?_
    show Steps p.tables e below (s₁.setTop (mkF m 8 #[.val (.ref t1), .val (.ref t2), .unset] [(.int (0 : Int32))])) t
    refine XS.istoreN X0.here hx rfl (hb hby d5_8) rfl (l' := #[.val (.ref t1), .val (.ref t2), .val (.int (0 : Int32))]) rfl ?_
    exact kk
  refine own_down (α := State) (fun (k4 : Nat) (T4 : State) => ∃ (i4 : Nat) (Lx4 : List Loc), i4 + k4 = n ∧ Fr n0 Lx4 ∧ Stand p l e ({ frames := 0, cells := 0, slots := 0, locals := 0 } : Room) s m #[(.ref t1), (.ref t2)] below meth c T4 Lx4 0 0 ∧ T4.heap = h0 ∧ Goes p e below s₁ (entryFrame m #[(.ref t1), (.ref t2)] 3) T4 (mkF m 9 #[.val (.ref t1), .val (.ref t2), .val (.int (Int32.ofNat i4))] [])) ?_ ?_ n s₁ ⟨0, _, Nat.zero_add _, N0, X0, e0, c3⟩
  · intro T4 ⟨i4, Lx4, hi4, N4, X4, e4, c4⟩
    obtain ⟨cl5, Ar5, q5, Sz5, Nn5, Hh5, Gg5⟩ := id V1
    have c6 : Goes p e below s₁ (entryFrame m #[(.ref t1), (.ref t2)] 3) T4 (mkF m 33 #[.val (.ref t1), .val (.ref t2), .val (.int (Int32.ofNat i4))] [(.int (1 : Int32))]) := by
      intro t kk
      refine c4 t ?_
      show Steps p.tables e below (T4.setTop (mkF m 9 #[.val (.ref t1), .val (.ref t2), .val (.int (Int32.ofNat i4))] [])) t
      refine XS.iloadN X4.here hx rfl (hb hby d5_9) rfl ?_
      show Steps p.tables e below (T4.setTop (mkF m 10 #[.val (.ref t1), .val (.ref t2), .val (.int (Int32.ofNat i4))] [(.int (Int32.ofNat i4))])) t
      refine XS.aloadN X4.here hx rfl (hb hby d5_10) rfl rfl ?_
      show Steps p.tables e below (T4.setTop (mkF m 11 #[.val (.ref t1), .val (.ref t2), .val (.int (Int32.ofNat i4))] [(.ref t1), (.int (Int32.ofNat i4))])) t
      refine X4.arraylength hx (by rw [e4]; exact Ar5.1) (State.isArrayOf_alike hZ.alike Ar5.2.1) (g := (mkF m 11 #[.val (.ref t1), .val (.ref t2), .val (.int (Int32.ofNat i4))] [(.ref t1), (.int (Int32.ofNat i4))])) rfl rfl (hb hby d5_11) _ ?_
      rw [len_of Sz5 Nn5]
      show Steps p.tables e below (T4.setTop (mkF m 12 #[.val (.ref t1), .val (.ref t2), .val (.int (Int32.ofNat i4))] [(.int (Int32.ofNat n)), (.int (Int32.ofNat i4))])) t
      refine XS.icmpYes X4.here hx rfl (pc0 := 12) (pc' := 32) rfl (hb hby d5_12) rfl (flt (own_ge hi4)).2.1 (by decide) (by decide) ?_
      show Steps p.tables e below (T4.setTop (mkF m 32 #[.val (.ref t1), .val (.ref t2), .val (.int (Int32.ofNat i4))] [])) t
      refine XS.iconst X4.here hx rfl (hb hby d5_32) ?_
      exact kk
    obtain ⟨fs, hr, hrun, hended, hW, hsame⟩ := X4.leave (v := some (.int (1 : Int32))) (fun h => by rw [Bd.returns] at h; cases h)
    refine ⟨_, _, c6 _ ?_, hrun, hended, _, _, rfl, ?_, ⟨_, rfl⟩, hW, hsame.mono (by decide) (by decide)⟩
    · exact retN X4 hx (t := .boolean) Bd.returns (by simp) (hb hby d5_33) hr
    · show Q_l1eq Z t1 t2 k1 k2 n vs h0 n0 _ T4.heap _
      rw [e4]
      exact ⟨rfl, N4, rfl⟩
  · intro k4 T4 ⟨i4, Lx4, hi4, N4, X4, e4, c4⟩ ih4
    obtain ⟨cl7, Ar7, q7, Sz7, Nn7, Hh7, Gg7⟩ := id V1
    obtain ⟨cl1_8, Ar1_8, q1_8, Sz1_8, Nn1_8, Hh1_8, Gg1_8⟩ := id V1
    have hin1_8 : ¬ ((Int32.ofNat i4) < 0 ∨ cl1_8.slots.size ≤ ((Int32.ofNat i4)).toNatClampNeg) := inb_of Sz1_8 ⟨own_nn (by omega), own_lt hi4 hn⟩
    obtain ⟨cl2_8, Ar2_8, q2_8, Sz2_8, Nn2_8, Hh2_8, Gg2_8⟩ := id V2
    have hin2_8 : ¬ ((Int32.ofNat i4) < 0 ∨ cl2_8.slots.size ≤ ((Int32.ofNat i4)).toNatClampNeg) := inb_of Sz2_8 ⟨own_nn (by omega), own_lt hi4 hn⟩
    obtain ⟨y_8, hy_8⟩ := own_byte Hh1_8 Gg1_8 hin1_8
    have c9 : Goes p e below s₁ (entryFrame m #[(.ref t1), (.ref t2)] 3) T4 (mkF m 9 #[.val (.ref t1), .val (.ref t2), .val (.int ((Int32.ofNat i4) + (1 : Int32)))] []) := by
      intro t kk
      refine c4 t ?_
      show Steps p.tables e below (T4.setTop (mkF m 9 #[.val (.ref t1), .val (.ref t2), .val (.int (Int32.ofNat i4))] [])) t
      refine XS.iloadN X4.here hx rfl (hb hby d5_9) rfl ?_
      show Steps p.tables e below (T4.setTop (mkF m 10 #[.val (.ref t1), .val (.ref t2), .val (.int (Int32.ofNat i4))] [(.int (Int32.ofNat i4))])) t
      refine XS.aloadN X4.here hx rfl (hb hby d5_10) rfl rfl ?_
      show Steps p.tables e below (T4.setTop (mkF m 11 #[.val (.ref t1), .val (.ref t2), .val (.int (Int32.ofNat i4))] [(.ref t1), (.int (Int32.ofNat i4))])) t
      refine X4.arraylength hx (by rw [e4]; exact Ar7.1) (State.isArrayOf_alike hZ.alike Ar7.2.1) (g := (mkF m 11 #[.val (.ref t1), .val (.ref t2), .val (.int (Int32.ofNat i4))] [(.ref t1), (.int (Int32.ofNat i4))])) rfl rfl (hb hby d5_11) _ ?_
      rw [len_of Sz7 Nn7]
      show Steps p.tables e below (T4.setTop (mkF m 12 #[.val (.ref t1), .val (.ref t2), .val (.int (Int32.ofNat i4))] [(.int (Int32.ofNat n)), (.int (Int32.ofNat i4))])) t
      refine XS.icmpNo X4.here hx rfl (hb hby d5_12) rfl (tlt (own_lt hi4 hn)).2.1 ?_
      show Steps p.tables e below (T4.setTop (mkF m 15 #[.val (.ref t1), .val (.ref t2), .val (.int (Int32.ofNat i4))] [])) t
      refine XS.aloadN X4.here hx rfl (hb hby d5_15) rfl rfl ?_
      show Steps p.tables e below (T4.setTop (mkF m 16 #[.val (.ref t1), .val (.ref t2), .val (.int (Int32.ofNat i4))] [(.ref t1)])) t
      refine XS.iloadN X4.here hx rfl (hb hby d5_16) rfl ?_
      show Steps p.tables e below (T4.setTop (mkF m 17 #[.val (.ref t1), .val (.ref t2), .val (.int (Int32.ofNat i4))] [(.int (Int32.ofNat i4)), (.ref t1)])) t
      refine X4.baloadBytes hx (j := (Int32.ofNat i4)) (v := (.int y_8)) (by rw [e4]; exact Ar1_8.1) (State.isArrayOf_alike hZ.alike Ar1_8.2.1) Ar1_8.2.2 hin1_8 (Hh1_8.at hin1_8 hy_8) (g := (mkF m 17 #[.val (.ref t1), .val (.ref t2), .val (.int (Int32.ofNat i4))] [(.int (Int32.ofNat i4)), (.ref t1)])) rfl rfl (hb hby d5_17) _ ?_
      show Steps p.tables e below (T4.setTop (mkF m 18 #[.val (.ref t1), .val (.ref t2), .val (.int (Int32.ofNat i4))] [(.int y_8)])) t
      refine XS.aloadN X4.here hx rfl (hb hby d5_18) rfl rfl ?_
      show Steps p.tables e below (T4.setTop (mkF m 19 #[.val (.ref t1), .val (.ref t2), .val (.int (Int32.ofNat i4))] [(.ref t2), (.int y_8)])) t
      refine XS.iloadN X4.here hx rfl (hb hby d5_19) rfl ?_
      show Steps p.tables e below (T4.setTop (mkF m 20 #[.val (.ref t1), .val (.ref t2), .val (.int (Int32.ofNat i4))] [(.int (Int32.ofNat i4)), (.ref t2), (.int y_8)])) t
      refine X4.baloadBytes hx (j := (Int32.ofNat i4)) (v := (.int y_8)) (by rw [e4]; exact Ar2_8.1) (State.isArrayOf_alike hZ.alike Ar2_8.2.1) Ar2_8.2.2 hin2_8 (Hh2_8.at hin2_8 hy_8) (g := (mkF m 20 #[.val (.ref t1), .val (.ref t2), .val (.int (Int32.ofNat i4))] [(.int (Int32.ofNat i4)), (.ref t2), (.int y_8)])) rfl rfl (hb hby d5_20) _ ?_
      show Steps p.tables e below (T4.setTop (mkF m 21 #[.val (.ref t1), .val (.ref t2), .val (.int (Int32.ofNat i4))] [(.int y_8), (.int y_8)])) t
      refine XS.icmpYes X4.here hx rfl (pc0 := 21) (pc' := 26) rfl (hb hby d5_21) rfl (teq (rfl : y_8 = y_8)).1 (by decide) (by decide) ?_
      show Steps p.tables e below (T4.setTop (mkF m 26 #[.val (.ref t1), .val (.ref t2), .val (.int (Int32.ofNat i4))] [])) t
      refine XS.iinc X4.here hx rfl (hb hby d5_26) rfl (l' := #[.val (.ref t1), .val (.ref t2), .val (.int ((Int32.ofNat i4) + (1 : Int32)))]) rfl ?_
      show Steps p.tables e below (T4.setTop (mkF m 29 #[.val (.ref t1), .val (.ref t2), .val (.int ((Int32.ofNat i4) + (1 : Int32)))] [])) t
      refine XS.goto X4.here hx rfl (pc0 := 29) (pc' := 9) rfl (hb hby d5_29) (by decide) (by decide) ?_
      exact kk
    exact ih4 _ ⟨i4 + 1, _, by omega, N4, X4, e4, (by rw [inc_ofNat]; exact c9)⟩
theorem d4_0 : decode jdk_42_method_66_code 0 = .ok (.aload_n 0, 1) := by decide +kernel
theorem d4_1 : decode jdk_42_method_66_code 1 = .ok (.aload_n 1, 1) := by decide +kernel
theorem d4_2 : decode jdk_42_method_66_code 2 = .ok (.if_acmp .ne 5, 3) := by decide +kernel
theorem d4_5 : decode jdk_42_method_66_code 5 = .ok (.iconst 1, 1) := by decide +kernel
theorem d4_6 : decode jdk_42_method_66_code 6 = .ok (.ireturn, 1) := by decide +kernel
theorem d4_7 : decode jdk_42_method_66_code 7 = .ok (.aload_n 1, 1) := by decide +kernel
theorem d4_8 : decode jdk_42_method_66_code 8 = .ok (.instanceof 10, 3) := by decide +kernel
theorem d4_11 : decode jdk_42_method_66_code 11 = .ok (.ifCond .eq 43, 3) := by decide +kernel
theorem d4_14 : decode jdk_42_method_66_code 14 = .ok (.aload_n 1, 1) := by decide +kernel
theorem d4_15 : decode jdk_42_method_66_code 15 = .ok (.checkcast 10, 3) := by decide +kernel
theorem d4_18 : decode jdk_42_method_66_code 18 = .ok (.astore_n 2, 1) := by decide +kernel
theorem d4_19 : decode jdk_42_method_66_code 19 = .ok (.getstatic 38, 3) := by decide +kernel
theorem d4_22 : decode jdk_42_method_66_code 22 = .ok (.ifCond .eq 14, 3) := by decide +kernel
theorem d4_25 : decode jdk_42_method_66_code 25 = .ok (.aload_n 0, 1) := by decide +kernel
theorem d4_26 : decode jdk_42_method_66_code 26 = .ok (.getfield 15, 3) := by decide +kernel
theorem d4_29 : decode jdk_42_method_66_code 29 = .ok (.aload_n 2, 1) := by decide +kernel
theorem d4_30 : decode jdk_42_method_66_code 30 = .ok (.getfield 15, 3) := by decide +kernel
theorem d4_33 : decode jdk_42_method_66_code 33 = .ok (.if_icmp .ne 21, 3) := by decide +kernel
theorem d4_36 : decode jdk_42_method_66_code 36 = .ok (.aload_n 0, 1) := by decide +kernel
theorem d4_37 : decode jdk_42_method_66_code 37 = .ok (.getfield 9, 3) := by decide +kernel
theorem d4_40 : decode jdk_42_method_66_code 40 = .ok (.aload_n 2, 1) := by decide +kernel
theorem d4_41 : decode jdk_42_method_66_code 41 = .ok (.getfield 9, 3) := by decide +kernel
theorem d4_44 : decode jdk_42_method_66_code 44 = .ok (.invokestatic 541, 3) := by decide +kernel
theorem d4_47 : decode jdk_42_method_66_code 47 = .ok (.ifCond .eq 7, 3) := by decide +kernel
theorem d4_50 : decode jdk_42_method_66_code 50 = .ok (.iconst 1, 1) := by decide +kernel
theorem d4_51 : decode jdk_42_method_66_code 51 = .ok (.goto 4, 3) := by decide +kernel
theorem d4_55 : decode jdk_42_method_66_code 55 = .ok (.ireturn, 1) := by decide +kernel
theorem pn_4 : plainName "java/lang/String" = true := by first | (simp [plainName, overriddenIn]; done) | decide +kernel
theorem pd___B_B_Z : parseMethodDescriptor "([B[B)Z" = some ⟨[(.array .byte), (.array .byte)], some .boolean⟩ := by decide +kernel
theorem ef_eqs (m : MethodId) (x0 : Addr) (x1 : Addr) : entryFrame m #[(.ref x0), (.ref x1)] 3 = mkF m 0 #[.val (.ref x0), .val (.ref x1), .unset] [] := by (first | (simp [entryFrame, mkF, argsToLocals, Value.category]; done) | rfl)
def Q_eqs (Z : State) (a1 : Addr) (a2 : Addr) (cs : List Int32) (z : Int32) (h0 : Heap) (n0 : Nat) (v : Option Value) (h : Heap) (L : List Loc) : Prop := v = some (.int 1) ∧ Fr n0 L ∧ h = h0
set_option maxRecDepth 65536 in
set_option maxHeartbeats 40000000 in
theorem rm_eqs (l : Launch) (Z : State) (a0 : Array Value) (hw : ∀ d ∈ tables_1, d.before a0 Z = true) (ws : List Jvm.Cond) (a1 : Addr) (a2 : Addr) (cs : List Int32) (z : Int32) (h0 : Heap) (n0 : Nat) (Z0 : n0 ≤ h0.size) (s1 : own_str Z h0 a1 cs) (s2 : own_str Z h0 a2 cs) (S2 : Sta Z h0 "java/lang/String" "COMPACT_STRINGS" "Z" (.int z)) (hz : ¬ z = 0) (hl2 : cs.length ≤ 4000) :
    MetFree l (⟨"java/lang/String", "equals", "(Ljava/lang/Object;)Z"⟩ : MethodName) (head1 (Jvm.Cond.code (⟨"java/lang/String", "equals", "(Ljava/lang/Object;)Z"⟩ : MethodName) jdk_42_method_66_code 3 (some .boolean) :: ws) ({ frames := 1, cells := 0, slots := 0, locals := 14 } : Room)) (fun a U => a = #[(.ref a1), (.ref a2)] ∧ Z.Warmed39 U.vm ∧ U.heap = h0) (fun _ _ _ _ _ => True) (fun _ U o U' => ∃ v L, o = .returned v ∧ Q_eqs Z a1 a2 cs z h0 n0 v U'.heap L ∧ FrameEnd U o U' L ({ frames := 1, cells := 0, slots := 0, locals := 14 } : Room).cells ({ frames := 1, cells := 0, slots := 0, locals := 14 } : Room).slots) := by
  refine MetFree.of_bodySF (plainFor_of_name pn_4) hisR ?_
  intro p e s m args below meth c s₁ Bd hml0 hP hK
  obtain ⟨rfl, hZ, hh⟩ := hP
  have hx := Bd.exec
  have hby := Bd.bytes
  have hml : c.maxLocals = 3 := hml0
  have hown : s.vm.findClass "java/lang/String" = some m.cls := findClass_of_methodNamed Bd.named
  have hnm := (name_of_methodNamed Bd.named Bd.method).1
  have X0 : Stand p l e ({ frames := 1, cells := 0, slots := 0, locals := 14 } : Room) s m #[(.ref a1), (.ref a2)] below meth c s₁ [] 0 0 := Stand.of_body Bd
  have e0 : s₁.heap = h0 := by rw [← hh, Bd.state]; rfl
  have N0 := Fr.nil n0
  have c0 : Goes p e below s₁ (entryFrame m #[(.ref a1), (.ref a2)] 3) s₁ (mkF m 0 #[.val (.ref a1), .val (.ref a2), .unset] []) := fun t k => castTop (ef_eqs m a1 a2) k
  obtain ⟨E1, C1, -, t1, k1, V1, K1⟩ := s1
  obtain ⟨E2, C2, -, t2, k2, V2, K2⟩ := s2
  have c10 : Goes p e below s₁ (entryFrame m #[(.ref a1), (.ref a2)] 3) s₁ (mkF m 2 #[.val (.ref a1), .val (.ref a2), .unset] [(.ref a2), (.ref a1)]) := by
    intro t kk
    refine c0 t ?_
    show Steps p.tables e below (s₁.setTop (mkF m 0 #[.val (.ref a1), .val (.ref a2), .unset] [])) t
    refine XS.aloadN X0.here hx rfl (hb hby d4_0) rfl rfl ?_
    show Steps p.tables e below (s₁.setTop (mkF m 1 #[.val (.ref a1), .val (.ref a2), .unset] [(.ref a1)])) t
    refine XS.aloadN X0.here hx rfl (hb hby d4_1) rfl rfl ?_
    exact kk
  by_cases ha2_11 : ((.ref a1) : Value) = (.ref a2)
  · have c12 : Goes p e below s₁ (entryFrame m #[(.ref a1), (.ref a2)] 3) s₁ (mkF m 6 #[.val (.ref a1), .val (.ref a2), .unset] [(.int (1 : Int32))]) := by
      intro t kk
      refine c10 t ?_
      show Steps p.tables e below (s₁.setTop (mkF m 2 #[.val (.ref a1), .val (.ref a2), .unset] [(.ref a2), (.ref a1)])) t
      refine Jvm.RoadKit.acmp (g := (mkF m 2 #[.val (.ref a1), .val (.ref a2), .unset] [(.ref a2), (.ref a1)])) X0 hx rfl rfl rfl (pc0 := 2) (pc' := 5) (same := true) rfl (hb hby d4_2) rfl (decide_eq_true ha2_11) (by decide) (by decide) ?_
      show Steps p.tables e below (s₁.setTop (mkF m 5 #[.val (.ref a1), .val (.ref a2), .unset] [])) t
      refine XS.iconst X0.here hx rfl (hb hby d4_5) ?_
      exact kk
    obtain ⟨fs, hr, hrun, hended, hW, hsame⟩ := X0.leave (v := some (.int (1 : Int32))) (fun h => by rw [Bd.returns] at h; cases h)
    refine ⟨_, _, c12 _ ?_, hrun, hended, _, _, rfl, ?_, ⟨_, rfl⟩, hW, hsame.mono (by decide) (by decide)⟩
    · exact retN X0 hx (t := .boolean) Bd.returns (by simp) (hb hby d4_6) hr
    · show Q_eqs Z a1 a2 cs z h0 n0 _ s₁.heap _
      rw [e0]
      exact ⟨rfl, N0, rfl⟩
  · have c13 : Goes p e below s₁ (entryFrame m #[(.ref a1), (.ref a2)] 3) s₁ (mkF m 8 #[.val (.ref a1), .val (.ref a2), .unset] [(.ref a2)]) := by
      intro t kk
      refine c10 t ?_
      show Steps p.tables e below (s₁.setTop (mkF m 2 #[.val (.ref a1), .val (.ref a2), .unset] [(.ref a2), (.ref a1)])) t
      refine Jvm.RoadKit.acmp (g := (mkF m 2 #[.val (.ref a1), .val (.ref a2), .unset] [(.ref a2), (.ref a1)])) X0 hx rfl rfl rfl (pc0 := 2) (pc' := 7) (same := false) rfl (hb hby d4_2) rfl (decide_eq_false ha2_11) (by decide) (by decide) ?_
      show Steps p.tables e below (s₁.setTop (mkF m 7 #[.val (.ref a1), .val (.ref a2), .unset] [])) t
      refine XS.aloadN X0.here hx rfl (hb hby d4_7) rfl rfl ?_
      exact kk
    obtain ⟨T14, X14, e14, st14⟩ := instY X0 hx hZ hown (hw _ (List.mem_of_getElem? (i := 31) rfl)) e0 (Ins.self E2) (g := (mkF m 8 #[.val (.ref a1), .val (.ref a2), .unset] [(.ref a2)])) rfl rfl (hb hby d4_8)
    have c15 : Goes p e below s₁ (entryFrame m #[(.ref a1), (.ref a2)] 3) T14 (mkF m 11 #[.val (.ref a1), .val (.ref a2), .unset] [(.int (1 : Int32))]) := fun t kk => c13 t (st14 t kk)
    have c16 : Goes p e below s₁ (entryFrame m #[(.ref a1), (.ref a2)] 3) T14 (mkF m 15 #[.val (.ref a1), .val (.ref a2), .unset] [(.ref a2)]) := by
      intro t kk
      refine c15 t ?_
      show Steps p.tables e below (T14.setTop (mkF m 11 #[.val (.ref a1), .val (.ref a2), .unset] [(.int (1 : Int32))])) t
      refine XS.ifNo X14.here hx rfl (hb hby d4_11) rfl ((if0 _ _).trans (feq (by decide : ¬ ((1 : Int32) = (0 : Int32)))).1) ?_
      show Steps p.tables e below (T14.setTop (mkF m 14 #[.val (.ref a1), .val (.ref a2), .unset] [])) t
      refine XS.aloadN X14.here hx rfl (hb hby d4_14) rfl rfl ?_
      exact kk
    obtain ⟨T17, X17, e17, st17⟩ := castY X14 hx hZ hown (hw _ (List.mem_of_getElem? (i := 31) rfl)) e14 (Ins.self E2) (g := (mkF m 15 #[.val (.ref a1), .val (.ref a2), .unset] [(.ref a2)])) rfl rfl (hb hby d4_15)
    have c18 : Goes p e below s₁ (entryFrame m #[(.ref a1), (.ref a2)] 3) T17 (mkF m 18 #[.val (.ref a1), .val (.ref a2), .unset] [(.ref a2)]) := fun t kk => c16 t (st17 t kk)
    have c19 : Goes p e below s₁ (entryFrame m #[(.ref a1), (.ref a2)] 3) T17 (mkF m 19 #[.val (.ref a1), .val (.ref a2), .val (.ref a2)] []) := by
      intro t kk
      refine c18 t ?_
      show Steps p.tables e below (T17.setTop (mkF m 18 #[.val (.ref a1), .val (.ref a2), .unset] [(.ref a2)])) t
      refine XS.astoreN X17.here hx rfl (hb hby d4_18) rfl rfl (l' := #[.val (.ref a1), .val (.ref a2), .val (.ref a2)]) rfl ?_
      exact kk
    obtain ⟨T20, X20, e20, st20⟩ := getS2 X17 hx hZ hown (host := "") (Or.inl (hw _ (List.mem_of_getElem? (i := 33) rfl))) Via.refl e17 S2 (g := (mkF m 19 #[.val (.ref a1), .val (.ref a2), .val (.ref a2)] [])) rfl (hb hby d4_19)
    have c21 : Goes p e below s₁ (entryFrame m #[(.ref a1), (.ref a2)] 3) T20 (mkF m 22 #[.val (.ref a1), .val (.ref a2), .val (.ref a2)] [(.int z)]) := fun t kk => c19 t (st20 t kk)
    have c22 : Goes p e below s₁ (entryFrame m #[(.ref a1), (.ref a2)] 3) T20 (mkF m 26 #[.val (.ref a1), .val (.ref a2), .val (.ref a2)] [(.ref a1)]) := by
      intro t kk
      refine c21 t ?_
      show Steps p.tables e below (T20.setTop (mkF m 22 #[.val (.ref a1), .val (.ref a2), .val (.ref a2)] [(.int z)])) t
      refine XS.ifNo X20.here hx rfl (hb hby d4_22) rfl ((if0 _ _).trans (feq hz).1) ?_
      show Steps p.tables e below (T20.setTop (mkF m 25 #[.val (.ref a1), .val (.ref a2), .val (.ref a2)] [])) t
      refine XS.aloadN X20.here hx rfl (hb hby d4_25) rfl rfl ?_
      exact kk
    obtain ⟨T23, X23, e23, st23⟩ := getF X20 hx hZ hown (host := "") (Or.inl (hw _ (List.mem_of_getElem? (i := 34) rfl))) Via.refl e20 C1 (g := (mkF m 26 #[.val (.ref a1), .val (.ref a2), .val (.ref a2)] [(.ref a1)])) rfl rfl (hb hby d4_26)
    have c24 : Goes p e below s₁ (entryFrame m #[(.ref a1), (.ref a2)] 3) T23 (mkF m 29 #[.val (.ref a1), .val (.ref a2), .val (.ref a2)] [(.int (0 : Int32))]) := fun t kk => c22 t (st23 t kk)
    have c25 : Goes p e below s₁ (entryFrame m #[(.ref a1), (.ref a2)] 3) T23 (mkF m 30 #[.val (.ref a1), .val (.ref a2), .val (.ref a2)] [(.ref a2), (.int (0 : Int32))]) := by
      intro t kk
      refine c24 t ?_
      show Steps p.tables e below (T23.setTop (mkF m 29 #[.val (.ref a1), .val (.ref a2), .val (.ref a2)] [(.int (0 : Int32))])) t
      refine XS.aloadN X23.here hx rfl (hb hby d4_29) rfl rfl ?_
      exact kk
    obtain ⟨T26, X26, e26, st26⟩ := getF X23 hx hZ hown (host := "") (Or.inl (hw _ (List.mem_of_getElem? (i := 34) rfl))) Via.refl e23 C2 (g := (mkF m 30 #[.val (.ref a1), .val (.ref a2), .val (.ref a2)] [(.ref a2), (.int (0 : Int32))])) rfl rfl (hb hby d4_30)
    have c27 : Goes p e below s₁ (entryFrame m #[(.ref a1), (.ref a2)] 3) T26 (mkF m 33 #[.val (.ref a1), .val (.ref a2), .val (.ref a2)] [(.int (0 : Int32)), (.int (0 : Int32))]) := fun t kk => c25 t (st26 t kk)
    have c28 : Goes p e below s₁ (entryFrame m #[(.ref a1), (.ref a2)] 3) T26 (mkF m 37 #[.val (.ref a1), .val (.ref a2), .val (.ref a2)] [(.ref a1)]) := by
      intro t kk
      refine c27 t ?_
      show Steps p.tables e below (T26.setTop (mkF m 33 #[.val (.ref a1), .val (.ref a2), .val (.ref a2)] [(.int (0 : Int32)), (.int (0 : Int32))])) t
      refine XS.icmpNo X26.here hx rfl (hb hby d4_33) rfl (teq (rfl : (0 : Int32) = (0 : Int32))).2 ?_
      show Steps p.tables e below (T26.setTop (mkF m 36 #[.val (.ref a1), .val (.ref a2), .val (.ref a2)] [])) t
      refine XS.aloadN X26.here hx rfl (hb hby d4_36) rfl rfl ?_
      exact kk
    obtain ⟨T29, X29, e29, st29⟩ := getF X26 hx hZ hown (host := "") (Or.inl (hw _ (List.mem_of_getElem? (i := 35) rfl))) Via.refl e26 V1 (g := (mkF m 37 #[.val (.ref a1), .val (.ref a2), .val (.ref a2)] [(.ref a1)])) rfl rfl (hb hby d4_37)
    have c30 : Goes p e below s₁ (entryFrame m #[(.ref a1), (.ref a2)] 3) T29 (mkF m 40 #[.val (.ref a1), .val (.ref a2), .val (.ref a2)] [(.ref t1)]) := fun t kk => c28 t (st29 t kk)
    have c31 : Goes p e below s₁ (entryFrame m #[(.ref a1), (.ref a2)] 3) T29 (mkF m 41 #[.val (.ref a1), .val (.ref a2), .val (.ref a2)] [(.ref a2), (.ref t1)]) := by
      intro t kk
      refine c30 t ?_
      show Steps p.tables e below (T29.setTop (mkF m 40 #[.val (.ref a1), .val (.ref a2), .val (.ref a2)] [(.ref t1)])) t
      refine XS.aloadN X29.here hx rfl (hb hby d4_40) rfl rfl ?_
      exact kk
    obtain ⟨T32, X32, e32, st32⟩ := getF X29 hx hZ hown (host := "") (Or.inl (hw _ (List.mem_of_getElem? (i := 35) rfl))) Via.refl e29 V2 (g := (mkF m 41 #[.val (.ref a1), .val (.ref a2), .val (.ref a2)] [(.ref a2), (.ref t1)])) rfl rfl (hb hby d4_41)
    have c33 : Goes p e below s₁ (entryFrame m #[(.ref a1), (.ref a2)] 3) T32 (mkF m 44 #[.val (.ref a1), .val (.ref a2), .val (.ref a2)] [(.ref t2), (.ref t1)]) := fun t kk => c31 t (st32 t kk)
    obtain ⟨_, _, ⟨T34, L34, k34, n34⟩, -, X34, ⟨Lc34, hQ34, l34, y34, z34⟩, st34⟩ := Jvm.LawKit.callS X32 hx (y := (⟨"java/lang/StringLatin1", "equals", "([B[B)Z"⟩ : MethodName)) hown (mvT hZ (hw _ (List.mem_of_getElem? (i := 36) rfl))) (mvT hZ (hw _ (List.mem_of_getElem? (i := 37) rfl))) (mvT hZ (hw _ (List.mem_of_getElem? (i := 38) rfl))) (mvT hZ (hw _ (List.mem_of_getElem? (i := 39) rfl))) (by decide) (backOf (W := 0) (rm_l1eq l Z a0 hw [] t1 t2 k1 k2 cs.length _ h0 n0 Z0 K1 K2 hl2) hZ (hw _ (List.mem_of_getElem? (i := 39) rfl)) (hw _ (List.mem_of_getElem? (i := 38) rfl)) (by decide) (by decide)) (g := (mkF m 44 #[.val (.ref a1), .val (.ref a2), .val (.ref a2)] [(.ref t2), (.ref t1)])) rfl (by rw [hml]; rfl) (argsL := [(.ref t1), (.ref t2)]) (rest := []) (lenOf pd___B_B_Z rfl) rfl (by show 2 * 0 + _ ≤ _; exact Nat.le_of_eq rfl) (hb hby d4_44) (fun _ _ => ⟨rfl, e32, (by decide : 0 + 0 ≤ _), (by decide : 0 + 0 ≤ _)⟩)
    dsimp only [Pt.U, Pt.locs, Pt.cells, Pt.slots] at X34 l34 y34 z34 st34 hQ34
    subst l34 y34 z34
    obtain ⟨rfl, Nq34, eq34⟩ := hQ34
    have N34 := Fr.app N0 Nq34
    have c35 : Goes p e below s₁ (entryFrame m #[(.ref a1), (.ref a2)] 3) T34 (mkF m 47 #[.val (.ref a1), .val (.ref a2), .val (.ref a2)] [(.int (1 : Int32))]) := fun t kk => c33 t (st34 t kk)
    have c36 : Goes p e below s₁ (entryFrame m #[(.ref a1), (.ref a2)] 3) T34 (mkF m 55 #[.val (.ref a1), .val (.ref a2), .val (.ref a2)] [(.int (1 : Int32))]) := by
      intro t kk
      refine c35 t ?_
      show Steps p.tables e below (T34.setTop (mkF m 47 #[.val (.ref a1), .val (.ref a2), .val (.ref a2)] [(.int (1 : Int32))])) t
      refine XS.ifNo X34.here hx rfl (hb hby d4_47) rfl ((if0 _ _).trans (feq (by decide : ¬ ((1 : Int32) = (0 : Int32)))).1) ?_
      show Steps p.tables e below (T34.setTop (mkF m 50 #[.val (.ref a1), .val (.ref a2), .val (.ref a2)] [])) t
      refine XS.iconst X34.here hx rfl (hb hby d4_50) ?_
      show Steps p.tables e below (T34.setTop (mkF m 51 #[.val (.ref a1), .val (.ref a2), .val (.ref a2)] [(.int (1 : Int32))])) t
      refine XS.goto X34.here hx rfl (pc0 := 51) (pc' := 55) rfl (hb hby d4_51) (by decide) (by decide) ?_
      exact kk
    obtain ⟨fs, hr, hrun, hended, hW, hsame⟩ := X34.leave (v := some (.int (1 : Int32))) (fun h => by rw [Bd.returns] at h; cases h)
    refine ⟨_, _, c36 _ ?_, hrun, hended, _, _, rfl, ?_, ⟨_, rfl⟩, hW, hsame.mono (by decide) (by decide)⟩
    · exact retN X34 hx (t := .boolean) Bd.returns (by simp) (hb hby d4_55) hr
    · show Q_eqs Z a1 a2 cs z h0 n0 _ T34.heap _
      rw [eq34]
      exact ⟨rfl, N34, rfl⟩
theorem d1_0 : decode method_2_code 0 = .ok (.iload_n 1, 1) := by decide +kernel
theorem d1_1 : decode method_2_code 1 = .ok (.ifCond .ne 5, 3) := by decide +kernel
theorem d1_4 : decode method_2_code 4 = .ok (.iload_n 0, 1) := by decide +kernel
theorem d1_5 : decode method_2_code 5 = .ok (.ireturn, 1) := by decide +kernel
theorem d1_6 : decode method_2_code 6 = .ok (.iload_n 1, 1) := by decide +kernel
theorem d1_7 : decode method_2_code 7 = .ok (.iconst 1, 1) := by decide +kernel
theorem d1_8 : decode method_2_code 8 = .ok (.if_icmp .ne 7, 3) := by decide +kernel
theorem d1_11 : decode method_2_code 11 = .ok (.sipush 404, 3) := by decide +kernel
theorem d1_14 : decode method_2_code 14 = .ok (.ireturn, 1) := by decide +kernel
theorem d1_15 : decode method_2_code 15 = .ok (.iload_n 1, 1) := by decide +kernel
theorem d1_16 : decode method_2_code 16 = .ok (.iconst 2, 1) := by decide +kernel
theorem d1_17 : decode method_2_code 17 = .ok (.if_icmp .ne 7, 3) := by decide +kernel
theorem d1_20 : decode method_2_code 20 = .ok (.sipush 499, 3) := by decide +kernel
theorem d1_23 : decode method_2_code 23 = .ok (.ireturn, 1) := by decide +kernel
theorem d1_24 : decode method_2_code 24 = .ok (.iload_n 1, 1) := by decide +kernel
theorem d1_25 : decode method_2_code 25 = .ok (.iconst 3, 1) := by decide +kernel
theorem d1_26 : decode method_2_code 26 = .ok (.if_icmp .ne 7, 3) := by decide +kernel
theorem d1_29 : decode method_2_code 29 = .ok (.sipush 500, 3) := by decide +kernel
theorem d1_32 : decode method_2_code 32 = .ok (.ireturn, 1) := by decide +kernel
theorem d1_33 : decode method_2_code 33 = .ok (.iload_n 1, 1) := by decide +kernel
theorem d1_34 : decode method_2_code 34 = .ok (.iconst 4, 1) := by decide +kernel
theorem d1_35 : decode method_2_code 35 = .ok (.if_icmp .ne 7, 3) := by decide +kernel
theorem d1_38 : decode method_2_code 38 = .ok (.sipush 403, 3) := by decide +kernel
theorem d1_41 : decode method_2_code 41 = .ok (.ireturn, 1) := by decide +kernel
theorem d1_42 : decode method_2_code 42 = .ok (.iload_n 1, 1) := by decide +kernel
theorem d1_43 : decode method_2_code 43 = .ok (.iconst 5, 1) := by decide +kernel
theorem d1_44 : decode method_2_code 44 = .ok (.if_icmp .ne 7, 3) := by decide +kernel
theorem d1_47 : decode method_2_code 47 = .ok (.sipush 405, 3) := by decide +kernel
theorem d1_50 : decode method_2_code 50 = .ok (.ireturn, 1) := by decide +kernel
theorem d1_51 : decode method_2_code 51 = .ok (.iload_n 1, 1) := by decide +kernel
theorem d1_52 : decode method_2_code 52 = .ok (.bipush 6, 2) := by decide +kernel
theorem d1_54 : decode method_2_code 54 = .ok (.if_icmp .ne 6, 3) := by decide +kernel
theorem d1_57 : decode method_2_code 57 = .ok (.ldc 9, 2) := by decide +kernel
theorem d1_59 : decode method_2_code 59 = .ok (.ireturn, 1) := by decide +kernel
theorem d1_60 : decode method_2_code 60 = .ok (.ldc 10, 2) := by decide +kernel
theorem d1_62 : decode method_2_code 62 = .ok (.ireturn, 1) := by decide +kernel
theorem pn_1 : plainName "com/example/sequence_dispenser/sequencedispenser/server/ErrorCodeForStatusPinLaw" = true := by first | (simp [plainName, overriddenIn]; done) | decide +kernel
theorem ef_pick (m : MethodId) (x0 : Int32) (x1 : Int32) : entryFrame m #[(.int x0), (.int x1)] 2 = mkF m 0 #[.val (.int x0), .val (.int x1)] [] := by (first | (simp [entryFrame, mkF, argsToLocals, Value.category]; done) | rfl)
def Q_pick (Z : State) (p1 : Int32) (p2 : Int32) (h0 : Heap) (n0 : Nat) (v : Option Value) (h : Heap) (L : List Loc) : Prop := v = some (.int (own_pick p1 p2)) ∧ Fr n0 L ∧ h = h0
set_option maxRecDepth 65536 in
set_option maxHeartbeats 40000000 in
theorem rm_pick (l : Launch) (Z : State) (a0 : Array Value) (hw : ∀ d ∈ tables_1, d.before a0 Z = true) (ws : List Jvm.Cond) (p1 : Int32) (p2 : Int32) (h0 : Heap) (n0 : Nat) (Z0 : n0 ≤ h0.size)  :
    MetFree l (⟨"com/example/sequence_dispenser/sequencedispenser/server/ErrorCodeForStatusPinLaw", "pick", "(II)I"⟩ : MethodName) (head1 (Jvm.Cond.code (⟨"com/example/sequence_dispenser/sequencedispenser/server/ErrorCodeForStatusPinLaw", "pick", "(II)I"⟩ : MethodName) method_2_code 2 (some .int) :: ws) ({ frames := 0, cells := 0, slots := 0, locals := 0 } : Room)) (fun a U => a = #[(.int p1), (.int p2)] ∧ Z.Warmed39 U.vm ∧ U.heap = h0) (fun _ _ _ _ _ => True) (fun _ U o U' => ∃ v L, o = .returned v ∧ Q_pick Z p1 p2 h0 n0 v U'.heap L ∧ FrameEnd U o U' L ({ frames := 0, cells := 0, slots := 0, locals := 0 } : Room).cells ({ frames := 0, cells := 0, slots := 0, locals := 0 } : Room).slots) := by
  refine MetFree.of_bodySF (plainFor_of_name pn_1) hisR ?_
  intro p e s m args below meth c s₁ Bd hml0 hP hK
  obtain ⟨rfl, hZ, hh⟩ := hP
  have hx := Bd.exec
  have hby := Bd.bytes
  have hml : c.maxLocals = 2 := hml0
  have hown : s.vm.findClass "com/example/sequence_dispenser/sequencedispenser/server/ErrorCodeForStatusPinLaw" = some m.cls := findClass_of_methodNamed Bd.named
  have hnm := (name_of_methodNamed Bd.named Bd.method).1
  have X0 : Stand p l e ({ frames := 0, cells := 0, slots := 0, locals := 0 } : Room) s m #[(.int p1), (.int p2)] below meth c s₁ [] 0 0 := Stand.of_body Bd
  have e0 : s₁.heap = h0 := by rw [← hh, Bd.state]; rfl
  have N0 := Fr.nil n0
  have c0 : Goes p e below s₁ (entryFrame m #[(.int p1), (.int p2)] 2) s₁ (mkF m 0 #[.val (.int p1), .val (.int p2)] []) := fun t k => castTop (ef_pick m p1 p2) k
  have c37 : Goes p e below s₁ (entryFrame m #[(.int p1), (.int p2)] 2) s₁ (mkF m 1 #[.val (.int p1), .val (.int p2)] [(.int p2)]) := by
    intro t kk
    refine c0 t ?_
    show Steps p.tables e below (s₁.setTop (mkF m 0 #[.val (.int p1), .val (.int p2)] [])) t
    refine XS.iloadN X0.here hx rfl (hb hby d1_0) rfl ?_
    exact kk
  by_cases hc1_38 : p2 = (0 : Int32)
  · have c39 : Goes p e below s₁ (entryFrame m #[(.int p1), (.int p2)] 2) s₁ (mkF m 5 #[.val (.int p1), .val (.int p2)] [(.int p1)]) := by
      intro t kk
      refine c37 t ?_
      show Steps p.tables e below (s₁.setTop (mkF m 1 #[.val (.int p1), .val (.int p2)] [(.int p2)])) t
      refine XS.ifNo X0.here hx rfl (hb hby d1_1) rfl ((if0 _ _).trans (teq hc1_38).2) ?_
      show Steps p.tables e below (s₁.setTop (mkF m 4 #[.val (.int p1), .val (.int p2)] [])) t
      refine XS.iloadN X0.here hx rfl (hb hby d1_4) rfl ?_
      exact kk
    obtain ⟨fs, hr, hrun, hended, hW, hsame⟩ := X0.leave (v := some (.int p1)) (fun h => by rw [Bd.returns] at h; cases h)
    refine ⟨_, _, c39 _ ?_, hrun, hended, _, _, rfl, ?_, ⟨_, rfl⟩, hW, hsame.mono (by decide) (by decide)⟩
    · exact retI X0 hx Bd.returns (hb hby d1_5) hr
    · show Q_pick Z p1 p2 h0 n0 _ s₁.heap _
      rw [e0]
      exact ⟨by simp [own_pick, hc1_38], N0, rfl⟩
  · have c40 : Goes p e below s₁ (entryFrame m #[(.int p1), (.int p2)] 2) s₁ (mkF m 8 #[.val (.int p1), .val (.int p2)] [(.int (1 : Int32)), (.int p2)]) := by
      intro t kk
      refine c37 t ?_
      show Steps p.tables e below (s₁.setTop (mkF m 1 #[.val (.int p1), .val (.int p2)] [(.int p2)])) t
      refine XS.ifYes X0.here hx rfl (pc0 := 1) (pc' := 6) rfl (hb hby d1_1) rfl ((if0 _ _).trans (feq hc1_38).2) (by decide) (by decide) ?_
      show Steps p.tables e below (s₁.setTop (mkF m 6 #[.val (.int p1), .val (.int p2)] [])) t
      refine XS.iloadN X0.here hx rfl (hb hby d1_6) rfl ?_
      show Steps p.tables e below (s₁.setTop (mkF m 7 #[.val (.int p1), .val (.int p2)] [(.int p2)])) t
      refine XS.iconst X0.here hx rfl (hb hby d1_7) ?_
      exact kk
    by_cases hc8_41 : p2 = (1 : Int32)
    · have c42 : Goes p e below s₁ (entryFrame m #[(.int p1), (.int p2)] 2) s₁ (mkF m 14 #[.val (.int p1), .val (.int p2)] [(.int (404 : Int32))]) := by
        intro t kk
        refine c40 t ?_
        show Steps p.tables e below (s₁.setTop (mkF m 8 #[.val (.int p1), .val (.int p2)] [(.int (1 : Int32)), (.int p2)])) t
        refine XS.icmpNo X0.here hx rfl (hb hby d1_8) rfl (teq hc8_41).2 ?_
        show Steps p.tables e below (s₁.setTop (mkF m 11 #[.val (.int p1), .val (.int p2)] [])) t
        refine XS.sipush X0.here hx rfl (hb hby d1_11) ?_
        exact kk
      obtain ⟨fs, hr, hrun, hended, hW, hsame⟩ := X0.leave (v := some (.int (404 : Int32))) (fun h => by rw [Bd.returns] at h; cases h)
      refine ⟨_, _, c42 _ ?_, hrun, hended, _, _, rfl, ?_, ⟨_, rfl⟩, hW, hsame.mono (by decide) (by decide)⟩
      · exact retI X0 hx Bd.returns (hb hby d1_14) hr
      · show Q_pick Z p1 p2 h0 n0 _ s₁.heap _
        rw [e0]
        exact ⟨by simp [own_pick, hc1_38, hc8_41], N0, rfl⟩
    · have c43 : Goes p e below s₁ (entryFrame m #[(.int p1), (.int p2)] 2) s₁ (mkF m 17 #[.val (.int p1), .val (.int p2)] [(.int (2 : Int32)), (.int p2)]) := by
        intro t kk
        refine c40 t ?_
        show Steps p.tables e below (s₁.setTop (mkF m 8 #[.val (.int p1), .val (.int p2)] [(.int (1 : Int32)), (.int p2)])) t
        refine XS.icmpYes X0.here hx rfl (pc0 := 8) (pc' := 15) rfl (hb hby d1_8) rfl (feq hc8_41).2 (by decide) (by decide) ?_
        show Steps p.tables e below (s₁.setTop (mkF m 15 #[.val (.int p1), .val (.int p2)] [])) t
        refine XS.iloadN X0.here hx rfl (hb hby d1_15) rfl ?_
        show Steps p.tables e below (s₁.setTop (mkF m 16 #[.val (.int p1), .val (.int p2)] [(.int p2)])) t
        refine XS.iconst X0.here hx rfl (hb hby d1_16) ?_
        exact kk
      by_cases hc17_44 : p2 = (2 : Int32)
      · have c45 : Goes p e below s₁ (entryFrame m #[(.int p1), (.int p2)] 2) s₁ (mkF m 23 #[.val (.int p1), .val (.int p2)] [(.int (499 : Int32))]) := by
          intro t kk
          refine c43 t ?_
          show Steps p.tables e below (s₁.setTop (mkF m 17 #[.val (.int p1), .val (.int p2)] [(.int (2 : Int32)), (.int p2)])) t
          refine XS.icmpNo X0.here hx rfl (hb hby d1_17) rfl (teq hc17_44).2 ?_
          show Steps p.tables e below (s₁.setTop (mkF m 20 #[.val (.int p1), .val (.int p2)] [])) t
          refine XS.sipush X0.here hx rfl (hb hby d1_20) ?_
          exact kk
        obtain ⟨fs, hr, hrun, hended, hW, hsame⟩ := X0.leave (v := some (.int (499 : Int32))) (fun h => by rw [Bd.returns] at h; cases h)
        refine ⟨_, _, c45 _ ?_, hrun, hended, _, _, rfl, ?_, ⟨_, rfl⟩, hW, hsame.mono (by decide) (by decide)⟩
        · exact retI X0 hx Bd.returns (hb hby d1_23) hr
        · show Q_pick Z p1 p2 h0 n0 _ s₁.heap _
          rw [e0]
          exact ⟨by simp [own_pick, hc1_38, hc8_41, hc17_44], N0, rfl⟩
      · have c46 : Goes p e below s₁ (entryFrame m #[(.int p1), (.int p2)] 2) s₁ (mkF m 26 #[.val (.int p1), .val (.int p2)] [(.int (3 : Int32)), (.int p2)]) := by
          intro t kk
          refine c43 t ?_
          show Steps p.tables e below (s₁.setTop (mkF m 17 #[.val (.int p1), .val (.int p2)] [(.int (2 : Int32)), (.int p2)])) t
          refine XS.icmpYes X0.here hx rfl (pc0 := 17) (pc' := 24) rfl (hb hby d1_17) rfl (feq hc17_44).2 (by decide) (by decide) ?_
          show Steps p.tables e below (s₁.setTop (mkF m 24 #[.val (.int p1), .val (.int p2)] [])) t
          refine XS.iloadN X0.here hx rfl (hb hby d1_24) rfl ?_
          show Steps p.tables e below (s₁.setTop (mkF m 25 #[.val (.int p1), .val (.int p2)] [(.int p2)])) t
          refine XS.iconst X0.here hx rfl (hb hby d1_25) ?_
          exact kk
        by_cases hc26_47 : p2 = (3 : Int32)
        · have c48 : Goes p e below s₁ (entryFrame m #[(.int p1), (.int p2)] 2) s₁ (mkF m 32 #[.val (.int p1), .val (.int p2)] [(.int (500 : Int32))]) := by
            intro t kk
            refine c46 t ?_
            show Steps p.tables e below (s₁.setTop (mkF m 26 #[.val (.int p1), .val (.int p2)] [(.int (3 : Int32)), (.int p2)])) t
            refine XS.icmpNo X0.here hx rfl (hb hby d1_26) rfl (teq hc26_47).2 ?_
            show Steps p.tables e below (s₁.setTop (mkF m 29 #[.val (.int p1), .val (.int p2)] [])) t
            refine XS.sipush X0.here hx rfl (hb hby d1_29) ?_
            exact kk
          obtain ⟨fs, hr, hrun, hended, hW, hsame⟩ := X0.leave (v := some (.int (500 : Int32))) (fun h => by rw [Bd.returns] at h; cases h)
          refine ⟨_, _, c48 _ ?_, hrun, hended, _, _, rfl, ?_, ⟨_, rfl⟩, hW, hsame.mono (by decide) (by decide)⟩
          · exact retI X0 hx Bd.returns (hb hby d1_32) hr
          · show Q_pick Z p1 p2 h0 n0 _ s₁.heap _
            rw [e0]
            exact ⟨by simp [own_pick, hc1_38, hc8_41, hc17_44, hc26_47], N0, rfl⟩
        · have c49 : Goes p e below s₁ (entryFrame m #[(.int p1), (.int p2)] 2) s₁ (mkF m 35 #[.val (.int p1), .val (.int p2)] [(.int (4 : Int32)), (.int p2)]) := by
            intro t kk
            refine c46 t ?_
            show Steps p.tables e below (s₁.setTop (mkF m 26 #[.val (.int p1), .val (.int p2)] [(.int (3 : Int32)), (.int p2)])) t
            refine XS.icmpYes X0.here hx rfl (pc0 := 26) (pc' := 33) rfl (hb hby d1_26) rfl (feq hc26_47).2 (by decide) (by decide) ?_
            show Steps p.tables e below (s₁.setTop (mkF m 33 #[.val (.int p1), .val (.int p2)] [])) t
            refine XS.iloadN X0.here hx rfl (hb hby d1_33) rfl ?_
            show Steps p.tables e below (s₁.setTop (mkF m 34 #[.val (.int p1), .val (.int p2)] [(.int p2)])) t
            refine XS.iconst X0.here hx rfl (hb hby d1_34) ?_
            exact kk
          by_cases hc35_50 : p2 = (4 : Int32)
          · have c51 : Goes p e below s₁ (entryFrame m #[(.int p1), (.int p2)] 2) s₁ (mkF m 41 #[.val (.int p1), .val (.int p2)] [(.int (403 : Int32))]) := by
              intro t kk
              refine c49 t ?_
              show Steps p.tables e below (s₁.setTop (mkF m 35 #[.val (.int p1), .val (.int p2)] [(.int (4 : Int32)), (.int p2)])) t
              refine XS.icmpNo X0.here hx rfl (hb hby d1_35) rfl (teq hc35_50).2 ?_
              show Steps p.tables e below (s₁.setTop (mkF m 38 #[.val (.int p1), .val (.int p2)] [])) t
              refine XS.sipush X0.here hx rfl (hb hby d1_38) ?_
              exact kk
            obtain ⟨fs, hr, hrun, hended, hW, hsame⟩ := X0.leave (v := some (.int (403 : Int32))) (fun h => by rw [Bd.returns] at h; cases h)
            refine ⟨_, _, c51 _ ?_, hrun, hended, _, _, rfl, ?_, ⟨_, rfl⟩, hW, hsame.mono (by decide) (by decide)⟩
            · exact retI X0 hx Bd.returns (hb hby d1_41) hr
            · show Q_pick Z p1 p2 h0 n0 _ s₁.heap _
              rw [e0]
              exact ⟨by simp [own_pick, hc1_38, hc8_41, hc17_44, hc26_47, hc35_50], N0, rfl⟩
          · have c52 : Goes p e below s₁ (entryFrame m #[(.int p1), (.int p2)] 2) s₁ (mkF m 44 #[.val (.int p1), .val (.int p2)] [(.int (5 : Int32)), (.int p2)]) := by
              intro t kk
              refine c49 t ?_
              show Steps p.tables e below (s₁.setTop (mkF m 35 #[.val (.int p1), .val (.int p2)] [(.int (4 : Int32)), (.int p2)])) t
              refine XS.icmpYes X0.here hx rfl (pc0 := 35) (pc' := 42) rfl (hb hby d1_35) rfl (feq hc35_50).2 (by decide) (by decide) ?_
              show Steps p.tables e below (s₁.setTop (mkF m 42 #[.val (.int p1), .val (.int p2)] [])) t
              refine XS.iloadN X0.here hx rfl (hb hby d1_42) rfl ?_
              show Steps p.tables e below (s₁.setTop (mkF m 43 #[.val (.int p1), .val (.int p2)] [(.int p2)])) t
              refine XS.iconst X0.here hx rfl (hb hby d1_43) ?_
              exact kk
            by_cases hc44_53 : p2 = (5 : Int32)
            · have c54 : Goes p e below s₁ (entryFrame m #[(.int p1), (.int p2)] 2) s₁ (mkF m 50 #[.val (.int p1), .val (.int p2)] [(.int (405 : Int32))]) := by
                intro t kk
                refine c52 t ?_
                show Steps p.tables e below (s₁.setTop (mkF m 44 #[.val (.int p1), .val (.int p2)] [(.int (5 : Int32)), (.int p2)])) t
                refine XS.icmpNo X0.here hx rfl (hb hby d1_44) rfl (teq hc44_53).2 ?_
                show Steps p.tables e below (s₁.setTop (mkF m 47 #[.val (.int p1), .val (.int p2)] [])) t
                refine XS.sipush X0.here hx rfl (hb hby d1_47) ?_
                exact kk
              obtain ⟨fs, hr, hrun, hended, hW, hsame⟩ := X0.leave (v := some (.int (405 : Int32))) (fun h => by rw [Bd.returns] at h; cases h)
              refine ⟨_, _, c54 _ ?_, hrun, hended, _, _, rfl, ?_, ⟨_, rfl⟩, hW, hsame.mono (by decide) (by decide)⟩
              · exact retI X0 hx Bd.returns (hb hby d1_50) hr
              · show Q_pick Z p1 p2 h0 n0 _ s₁.heap _
                rw [e0]
                exact ⟨by simp [own_pick, hc1_38, hc8_41, hc17_44, hc26_47, hc35_50, hc44_53], N0, rfl⟩
            · have c55 : Goes p e below s₁ (entryFrame m #[(.int p1), (.int p2)] 2) s₁ (mkF m 54 #[.val (.int p1), .val (.int p2)] [(.int (6 : Int32)), (.int p2)]) := by
                intro t kk
                refine c52 t ?_
                show Steps p.tables e below (s₁.setTop (mkF m 44 #[.val (.int p1), .val (.int p2)] [(.int (5 : Int32)), (.int p2)])) t
                refine XS.icmpYes X0.here hx rfl (pc0 := 44) (pc' := 51) rfl (hb hby d1_44) rfl (feq hc44_53).2 (by decide) (by decide) ?_
                show Steps p.tables e below (s₁.setTop (mkF m 51 #[.val (.int p1), .val (.int p2)] [])) t
                refine XS.iloadN X0.here hx rfl (hb hby d1_51) rfl ?_
                show Steps p.tables e below (s₁.setTop (mkF m 52 #[.val (.int p1), .val (.int p2)] [(.int p2)])) t
                refine XS.bipush X0.here hx rfl (hb hby d1_52) ?_
                exact kk
              by_cases hc54_56 : p2 = (6 : Int32)
              · have c57 : Goes p e below s₁ (entryFrame m #[(.int p1), (.int p2)] 2) s₁ (mkF m 59 #[.val (.int p1), .val (.int p2)] [(.int (-2147483648 : Int32))]) := by
                  intro t kk
                  refine c55 t ?_
                  show Steps p.tables e below (s₁.setTop (mkF m 54 #[.val (.int p1), .val (.int p2)] [(.int (6 : Int32)), (.int p2)])) t
                  refine XS.icmpNo X0.here hx rfl (hb hby d1_54) rfl (teq hc54_56).2 ?_
                  show Steps p.tables e below (s₁.setTop (mkF m 57 #[.val (.int p1), .val (.int p2)] [])) t
                  refine X0.ldcInt hx hown (mvT hZ (hw _ (List.mem_of_getElem? (i := 49) rfl))) (g := (mkF m 57 #[.val (.int p1), .val (.int p2)] [])) rfl (hb hby d1_57) _ ?_
                  exact kk
                obtain ⟨fs, hr, hrun, hended, hW, hsame⟩ := X0.leave (v := some (.int (-2147483648 : Int32))) (fun h => by rw [Bd.returns] at h; cases h)
                refine ⟨_, _, c57 _ ?_, hrun, hended, _, _, rfl, ?_, ⟨_, rfl⟩, hW, hsame.mono (by decide) (by decide)⟩
                · exact retI X0 hx Bd.returns (hb hby d1_59) hr
                · show Q_pick Z p1 p2 h0 n0 _ s₁.heap _
                  rw [e0]
                  exact ⟨by simp [own_pick, hc1_38, hc8_41, hc17_44, hc26_47, hc35_50, hc44_53, hc54_56], N0, rfl⟩
              · have c58 : Goes p e below s₁ (entryFrame m #[(.int p1), (.int p2)] 2) s₁ (mkF m 62 #[.val (.int p1), .val (.int p2)] [(.int (2147483647 : Int32))]) := by
                  intro t kk
                  refine c55 t ?_
                  show Steps p.tables e below (s₁.setTop (mkF m 54 #[.val (.int p1), .val (.int p2)] [(.int (6 : Int32)), (.int p2)])) t
                  refine XS.icmpYes X0.here hx rfl (pc0 := 54) (pc' := 60) rfl (hb hby d1_54) rfl (feq hc54_56).2 (by decide) (by decide) ?_
                  show Steps p.tables e below (s₁.setTop (mkF m 60 #[.val (.int p1), .val (.int p2)] [])) t
                  refine X0.ldcInt hx hown (mvT hZ (hw _ (List.mem_of_getElem? (i := 48) rfl))) (g := (mkF m 60 #[.val (.int p1), .val (.int p2)] [])) rfl (hb hby d1_60) _ ?_
                  exact kk
                obtain ⟨fs, hr, hrun, hended, hW, hsame⟩ := X0.leave (v := some (.int (2147483647 : Int32))) (fun h => by rw [Bd.returns] at h; cases h)
                refine ⟨_, _, c58 _ ?_, hrun, hended, _, _, rfl, ?_, ⟨_, rfl⟩, hW, hsame.mono (by decide) (by decide)⟩
                · exact retI X0 hx Bd.returns (hb hby d1_62) hr
                · show Q_pick Z p1 p2 h0 n0 _ s₁.heap _
                  rw [e0]
                  exact ⟨by simp [own_pick, hc1_38, hc8_41, hc17_44, hc26_47, hc35_50, hc44_53, hc54_56], N0, rfl⟩
theorem d2_0 : decode prog_20_method_5_code 0 = .ok (.iload_n 0, 1) := by decide +kernel
theorem d2_1 : decode prog_20_method_5_code 1 = .ok (.sipush 404, 3) := by decide +kernel
theorem d2_4 : decode prog_20_method_5_code 4 = .ok (.if_icmp .ne 10, 3) := by decide +kernel
theorem d2_7 : decode prog_20_method_5_code 7 = .ok (.getstatic 7, 3) := by decide +kernel
theorem d2_10 : decode prog_20_method_5_code 10 = .ok (.astore_n 1, 1) := by decide +kernel
theorem d2_11 : decode prog_20_method_5_code 11 = .ok (.goto 21, 3) := by decide +kernel
theorem d2_14 : decode prog_20_method_5_code 14 = .ok (.iload_n 0, 1) := by decide +kernel
theorem d2_15 : decode prog_20_method_5_code 15 = .ok (.sipush 500, 3) := by decide +kernel
theorem d2_18 : decode prog_20_method_5_code 18 = .ok (.if_icmp .ge 10, 3) := by decide +kernel
theorem d2_21 : decode prog_20_method_5_code 21 = .ok (.getstatic 3, 3) := by decide +kernel
theorem d2_24 : decode prog_20_method_5_code 24 = .ok (.astore_n 1, 1) := by decide +kernel
theorem d2_25 : decode prog_20_method_5_code 25 = .ok (.goto 7, 3) := by decide +kernel
theorem d2_28 : decode prog_20_method_5_code 28 = .ok (.getstatic 16, 3) := by decide +kernel
theorem d2_31 : decode prog_20_method_5_code 31 = .ok (.astore_n 1, 1) := by decide +kernel
theorem d2_32 : decode prog_20_method_5_code 32 = .ok (.aload_n 1, 1) := by decide +kernel
theorem d2_33 : decode prog_20_method_5_code 33 = .ok (.areturn, 1) := by decide +kernel
theorem pn_2 : plainName "com/example/sequence_dispenser/sequencedispenser/server/ErrorCode" = true := by first | (simp [plainName, overriddenIn]; done) | decide +kernel
theorem ef_fs (m : MethodId) (x0 : Int32) : entryFrame m #[(.int x0)] 2 = mkF m 0 #[.val (.int x0), .unset] [] := by (first | (simp [entryFrame, mkF, argsToLocals, Value.category]; done) | rfl)
def Q_fs (Z : State) (p1 : Int32) (u : Addr) (n : Addr) (b : Addr) (h0 : Heap) (n0 : Nat) (v : Option Value) (h : Heap) (L : List Loc) : Prop := v = some (.ref (own_fs p1 u n b)) ∧ Fr n0 L ∧ h = h0
set_option maxRecDepth 65536 in
set_option maxHeartbeats 40000000 in
theorem rm_fs (l : Launch) (Z : State) (a0 : Array Value) (hw : ∀ d ∈ tables_1, d.before a0 Z = true) (ws : List Jvm.Cond) (p1 : Int32) (u : Addr) (n : Addr) (b : Addr) (h0 : Heap) (n0 : Nat) (Z0 : n0 ≤ h0.size) (S_U : Sta Z h0 "com/example/sequence_dispenser/sequencedispenser/server/ErrorCode" "UNAVAILABLE" "Lcom/example/sequence_dispenser/sequencedispenser/server/ErrorCode;" (.ref u)) (S_N : Sta Z h0 "com/example/sequence_dispenser/sequencedispenser/server/ErrorCode" "NOT_FOUND" "Lcom/example/sequence_dispenser/sequencedispenser/server/ErrorCode;" (.ref n)) (S_B : Sta Z h0 "com/example/sequence_dispenser/sequencedispenser/server/ErrorCode" "BAD_REQUEST" "Lcom/example/sequence_dispenser/sequencedispenser/server/ErrorCode;" (.ref b)) :
    MetFree l (⟨"com/example/sequence_dispenser/sequencedispenser/server/ErrorCode", "forStatus", "(I)Lcom/example/sequence_dispenser/sequencedispenser/server/ErrorCode;"⟩ : MethodName) (head1 (Jvm.Cond.code (⟨"com/example/sequence_dispenser/sequencedispenser/server/ErrorCode", "forStatus", "(I)Lcom/example/sequence_dispenser/sequencedispenser/server/ErrorCode;"⟩ : MethodName) prog_20_method_5_code 2 (some (.object "com/example/sequence_dispenser/sequencedispenser/server/ErrorCode")) :: ws) ({ frames := 0, cells := 0, slots := 0, locals := 0 } : Room)) (fun a U => a = #[(.int p1)] ∧ Z.Warmed39 U.vm ∧ U.heap = h0) (fun _ _ _ _ _ => True) (fun _ U o U' => ∃ v L, o = .returned v ∧ Q_fs Z p1 u n b h0 n0 v U'.heap L ∧ FrameEnd U o U' L ({ frames := 0, cells := 0, slots := 0, locals := 0 } : Room).cells ({ frames := 0, cells := 0, slots := 0, locals := 0 } : Room).slots) := by
  refine MetFree.of_bodySF (plainFor_of_name pn_2) hisR ?_
  intro p e s m args below meth c s₁ Bd hml0 hP hK
  obtain ⟨rfl, hZ, hh⟩ := hP
  have hx := Bd.exec
  have hby := Bd.bytes
  have hml : c.maxLocals = 2 := hml0
  have hown : s.vm.findClass "com/example/sequence_dispenser/sequencedispenser/server/ErrorCode" = some m.cls := findClass_of_methodNamed Bd.named
  have hnm := (name_of_methodNamed Bd.named Bd.method).1
  have X0 : Stand p l e ({ frames := 0, cells := 0, slots := 0, locals := 0 } : Room) s m #[(.int p1)] below meth c s₁ [] 0 0 := Stand.of_body Bd
  have e0 : s₁.heap = h0 := by rw [← hh, Bd.state]; rfl
  have N0 := Fr.nil n0
  have c0 : Goes p e below s₁ (entryFrame m #[(.int p1)] 2) s₁ (mkF m 0 #[.val (.int p1), .unset] []) := fun t k => castTop (ef_fs m p1) k
  have c59 : Goes p e below s₁ (entryFrame m #[(.int p1)] 2) s₁ (mkF m 4 #[.val (.int p1), .unset] [(.int (404 : Int32)), (.int p1)]) := by
    intro t kk
    refine c0 t ?_
    show Steps p.tables e below (s₁.setTop (mkF m 0 #[.val (.int p1), .unset] [])) t
    refine XS.iloadN X0.here hx rfl (hb hby d2_0) rfl ?_
    show Steps p.tables e below (s₁.setTop (mkF m 1 #[.val (.int p1), .unset] [(.int p1)])) t
    refine XS.sipush X0.here hx rfl (hb hby d2_1) ?_
    exact kk
  by_cases hc4_60 : p1 = (404 : Int32)
  · have c61 : Goes p e below s₁ (entryFrame m #[(.int p1)] 2) s₁ (mkF m 7 #[.val (.int p1), .unset] []) := by
      intro t kk
      refine c59 t ?_
      show Steps p.tables e below (s₁.setTop (mkF m 4 #[.val (.int p1), .unset] [(.int (404 : Int32)), (.int p1)])) t
      refine XS.icmpNo X0.here hx rfl (hb hby d2_4) rfl (teq hc4_60).2 ?_
      exact kk
    obtain ⟨T62, X62, e62, st62⟩ := getS2 X0 hx hZ hown (host := "") (Or.inl (hw _ (List.mem_of_getElem? (i := 40) rfl))) Via.refl e0 S_N (g := (mkF m 7 #[.val (.int p1), .unset] [])) rfl (hb hby d2_7)
    have c63 : Goes p e below s₁ (entryFrame m #[(.int p1)] 2) T62 (mkF m 10 #[.val (.int p1), .unset] [(.ref n)]) := fun t kk => c61 t (st62 t kk)
    have c64 : Goes p e below s₁ (entryFrame m #[(.int p1)] 2) T62 (mkF m 33 #[.val (.int p1), .val (.ref n)] [(.ref n)]) := by
      intro t kk
      refine c63 t ?_
      show Steps p.tables e below (T62.setTop (mkF m 10 #[.val (.int p1), .unset] [(.ref n)])) t
      refine XS.astoreN X62.here hx rfl (hb hby d2_10) rfl rfl (l' := #[.val (.int p1), .val (.ref n)]) rfl ?_
      show Steps p.tables e below (T62.setTop (mkF m 11 #[.val (.int p1), .val (.ref n)] [])) t
      refine XS.goto X62.here hx rfl (pc0 := 11) (pc' := 32) rfl (hb hby d2_11) (by decide) (by decide) ?_
      show Steps p.tables e below (T62.setTop (mkF m 32 #[.val (.int p1), .val (.ref n)] [])) t
      refine XS.aloadN X62.here hx rfl (hb hby d2_32) rfl rfl ?_
      exact kk
    obtain ⟨fs, hr, hrun, hended, hW, hsame⟩ := X62.leave (v := some (.ref n)) (fun h => by rw [Bd.returns] at h; cases h)
    refine ⟨_, _, c64 _ ?_, hrun, hended, _, _, rfl, ?_, ⟨_, rfl⟩, hW, hsame.mono (by decide) (by decide)⟩
    · exact retOut X62 hx Bd.returns rfl (Or.inr (Or.inr (Or.inr (Or.inr ⟨rfl, rfl, rfl⟩)))) (hb hby d2_33) hr
    · show Q_fs Z p1 u n b h0 n0 _ T62.heap _
      rw [e62]
      exact ⟨by simp [own_fs, hc4_60], N0, rfl⟩
  · have c65 : Goes p e below s₁ (entryFrame m #[(.int p1)] 2) s₁ (mkF m 18 #[.val (.int p1), .unset] [(.int (500 : Int32)), (.int p1)]) := by
      intro t kk
      refine c59 t ?_
      show Steps p.tables e below (s₁.setTop (mkF m 4 #[.val (.int p1), .unset] [(.int (404 : Int32)), (.int p1)])) t
      refine XS.icmpYes X0.here hx rfl (pc0 := 4) (pc' := 14) rfl (hb hby d2_4) rfl (feq hc4_60).2 (by decide) (by decide) ?_
      show Steps p.tables e below (s₁.setTop (mkF m 14 #[.val (.int p1), .unset] [])) t
      refine XS.iloadN X0.here hx rfl (hb hby d2_14) rfl ?_
      show Steps p.tables e below (s₁.setTop (mkF m 15 #[.val (.int p1), .unset] [(.int p1)])) t
      refine XS.sipush X0.here hx rfl (hb hby d2_15) ?_
      exact kk
    by_cases hc18_66 : p1 < (500 : Int32)
    · have c67 : Goes p e below s₁ (entryFrame m #[(.int p1)] 2) s₁ (mkF m 21 #[.val (.int p1), .unset] []) := by
        intro t kk
        refine c65 t ?_
        show Steps p.tables e below (s₁.setTop (mkF m 18 #[.val (.int p1), .unset] [(.int (500 : Int32)), (.int p1)])) t
        refine XS.icmpNo X0.here hx rfl (hb hby d2_18) rfl (tlt hc18_66).2.1 ?_
        exact kk
      obtain ⟨T68, X68, e68, st68⟩ := getS2 X0 hx hZ hown (host := "") (Or.inl (hw _ (List.mem_of_getElem? (i := 44) rfl))) Via.refl e0 S_B (g := (mkF m 21 #[.val (.int p1), .unset] [])) rfl (hb hby d2_21)
      have c69 : Goes p e below s₁ (entryFrame m #[(.int p1)] 2) T68 (mkF m 24 #[.val (.int p1), .unset] [(.ref b)]) := fun t kk => c67 t (st68 t kk)
      have c70 : Goes p e below s₁ (entryFrame m #[(.int p1)] 2) T68 (mkF m 33 #[.val (.int p1), .val (.ref b)] [(.ref b)]) := by
        intro t kk
        refine c69 t ?_
        show Steps p.tables e below (T68.setTop (mkF m 24 #[.val (.int p1), .unset] [(.ref b)])) t
        refine XS.astoreN X68.here hx rfl (hb hby d2_24) rfl rfl (l' := #[.val (.int p1), .val (.ref b)]) rfl ?_
        show Steps p.tables e below (T68.setTop (mkF m 25 #[.val (.int p1), .val (.ref b)] [])) t
        refine XS.goto X68.here hx rfl (pc0 := 25) (pc' := 32) rfl (hb hby d2_25) (by decide) (by decide) ?_
        show Steps p.tables e below (T68.setTop (mkF m 32 #[.val (.int p1), .val (.ref b)] [])) t
        refine XS.aloadN X68.here hx rfl (hb hby d2_32) rfl rfl ?_
        exact kk
      obtain ⟨fs, hr, hrun, hended, hW, hsame⟩ := X68.leave (v := some (.ref b)) (fun h => by rw [Bd.returns] at h; cases h)
      refine ⟨_, _, c70 _ ?_, hrun, hended, _, _, rfl, ?_, ⟨_, rfl⟩, hW, hsame.mono (by decide) (by decide)⟩
      · exact retOut X68 hx Bd.returns rfl (Or.inr (Or.inr (Or.inr (Or.inr ⟨rfl, rfl, rfl⟩)))) (hb hby d2_33) hr
      · show Q_fs Z p1 u n b h0 n0 _ T68.heap _
        rw [e68]
        exact ⟨by simp [own_fs, hc4_60, hc18_66], N0, rfl⟩
    · have c71 : Goes p e below s₁ (entryFrame m #[(.int p1)] 2) s₁ (mkF m 28 #[.val (.int p1), .unset] []) := by
        intro t kk
        refine c65 t ?_
        show Steps p.tables e below (s₁.setTop (mkF m 18 #[.val (.int p1), .unset] [(.int (500 : Int32)), (.int p1)])) t
        refine XS.icmpYes X0.here hx rfl (pc0 := 18) (pc' := 28) rfl (hb hby d2_18) rfl (flt hc18_66).2.1 (by decide) (by decide) ?_
        exact kk
      obtain ⟨T72, X72, e72, st72⟩ := getS2 X0 hx hZ hown (host := "") (Or.inl (hw _ (List.mem_of_getElem? (i := 8) rfl))) Via.refl e0 S_U (g := (mkF m 28 #[.val (.int p1), .unset] [])) rfl (hb hby d2_28)
      have c73 : Goes p e below s₁ (entryFrame m #[(.int p1)] 2) T72 (mkF m 31 #[.val (.int p1), .unset] [(.ref u)]) := fun t kk => c71 t (st72 t kk)
      have c74 : Goes p e below s₁ (entryFrame m #[(.int p1)] 2) T72 (mkF m 33 #[.val (.int p1), .val (.ref u)] [(.ref u)]) := by
        intro t kk
        refine c73 t ?_
        show Steps p.tables e below (T72.setTop (mkF m 31 #[.val (.int p1), .unset] [(.ref u)])) t
        refine XS.astoreN X72.here hx rfl (hb hby d2_31) rfl rfl (l' := #[.val (.int p1), .val (.ref u)]) rfl ?_
        show Steps p.tables e below (T72.setTop (mkF m 32 #[.val (.int p1), .val (.ref u)] [])) t
        refine XS.aloadN X72.here hx rfl (hb hby d2_32) rfl rfl ?_
        exact kk
      obtain ⟨fs, hr, hrun, hended, hW, hsame⟩ := X72.leave (v := some (.ref u)) (fun h => by rw [Bd.returns] at h; cases h)
      refine ⟨_, _, c74 _ ?_, hrun, hended, _, _, rfl, ?_, ⟨_, rfl⟩, hW, hsame.mono (by decide) (by decide)⟩
      · exact retOut X72 hx Bd.returns rfl (Or.inr (Or.inr (Or.inr (Or.inr ⟨rfl, rfl, rfl⟩)))) (hb hby d2_33) hr
      · show Q_fs Z p1 u n b h0 n0 _ T72.heap _
        rw [e72]
        exact ⟨by simp [own_fs, hc4_60, hc18_66], N0, rfl⟩
theorem d3_0 : decode prog_20_method_4_code 0 = .ok (.aload_n 0, 1) := by decide +kernel
theorem d3_1 : decode prog_20_method_4_code 1 = .ok (.getfield 38, 3) := by decide +kernel
theorem d3_4 : decode prog_20_method_4_code 4 = .ok (.areturn, 1) := by decide +kernel
theorem ef_gt (m : MethodId) (x0 : Addr) : entryFrame m #[(.ref x0)] 1 = mkF m 0 #[.val (.ref x0)] [] := by (first | (simp [entryFrame, mkF, argsToLocals, Value.category]; done) | rfl)
def Q_gt (Z : State) (a1 : Addr) (a2 : Addr) (h0 : Heap) (n0 : Nat) (v : Option Value) (h : Heap) (L : List Loc) : Prop := v = some (.ref a2) ∧ Fr n0 L ∧ h = h0
set_option maxRecDepth 65536 in
set_option maxHeartbeats 40000000 in
theorem rm_gt (l : Launch) (Z : State) (a0 : Array Value) (hw : ∀ d ∈ tables_1, d.before a0 Z = true) (ws : List Jvm.Cond) (a1 : Addr) (a2 : Addr) (h0 : Heap) (n0 : Nat) (Z0 : n0 ≤ h0.size) (F1 : Fld Z h0 a1 "com/example/sequence_dispenser/sequencedispenser/server/ErrorCode" "text" "Ljava/lang/String;" (.ref a2)) :
    MetFree l (⟨"com/example/sequence_dispenser/sequencedispenser/server/ErrorCode", "getText", "()Ljava/lang/String;"⟩ : MethodName) (head1 (Jvm.Cond.code (⟨"com/example/sequence_dispenser/sequencedispenser/server/ErrorCode", "getText", "()Ljava/lang/String;"⟩ : MethodName) prog_20_method_4_code 1 (some (.object "java/lang/String")) :: ws) ({ frames := 0, cells := 0, slots := 0, locals := 0 } : Room)) (fun a U => a = #[(.ref a1)] ∧ Z.Warmed39 U.vm ∧ U.heap = h0) (fun _ _ _ _ _ => True) (fun _ U o U' => ∃ v L, o = .returned v ∧ Q_gt Z a1 a2 h0 n0 v U'.heap L ∧ FrameEnd U o U' L ({ frames := 0, cells := 0, slots := 0, locals := 0 } : Room).cells ({ frames := 0, cells := 0, slots := 0, locals := 0 } : Room).slots) := by
  refine MetFree.of_bodySF (plainFor_of_name pn_2) hisR ?_
  intro p e s m args below meth c s₁ Bd hml0 hP hK
  obtain ⟨rfl, hZ, hh⟩ := hP
  have hx := Bd.exec
  have hby := Bd.bytes
  have hml : c.maxLocals = 1 := hml0
  have hown : s.vm.findClass "com/example/sequence_dispenser/sequencedispenser/server/ErrorCode" = some m.cls := findClass_of_methodNamed Bd.named
  have hnm := (name_of_methodNamed Bd.named Bd.method).1
  have X0 : Stand p l e ({ frames := 0, cells := 0, slots := 0, locals := 0 } : Room) s m #[(.ref a1)] below meth c s₁ [] 0 0 := Stand.of_body Bd
  have e0 : s₁.heap = h0 := by rw [← hh, Bd.state]; rfl
  have N0 := Fr.nil n0
  have c0 : Goes p e below s₁ (entryFrame m #[(.ref a1)] 1) s₁ (mkF m 0 #[.val (.ref a1)] []) := fun t k => castTop (ef_gt m a1) k
  have c75 : Goes p e below s₁ (entryFrame m #[(.ref a1)] 1) s₁ (mkF m 1 #[.val (.ref a1)] [(.ref a1)]) := by
    intro t kk
    refine c0 t ?_
    show Steps p.tables e below (s₁.setTop (mkF m 0 #[.val (.ref a1)] [])) t
    refine XS.aloadN X0.here hx rfl (hb hby d3_0) rfl rfl ?_
    exact kk
  obtain ⟨T76, X76, e76, st76⟩ := getF X0 hx hZ hown (host := "") (Or.inl (hw _ (List.mem_of_getElem? (i := 15) rfl))) Via.refl e0 F1 (g := (mkF m 1 #[.val (.ref a1)] [(.ref a1)])) rfl rfl (hb hby d3_1)
  have c77 : Goes p e below s₁ (entryFrame m #[(.ref a1)] 1) T76 (mkF m 4 #[.val (.ref a1)] [(.ref a2)]) := fun t kk => c75 t (st76 t kk)
  obtain ⟨fs, hr, hrun, hended, hW, hsame⟩ := X76.leave (v := some (.ref a2)) (fun h => by rw [Bd.returns] at h; cases h)
  refine ⟨_, _, c77 _ ?_, hrun, hended, _, _, rfl, ?_, ⟨_, rfl⟩, hW, hsame.mono (by decide) (by decide)⟩
  · exact retOut X76 hx Bd.returns rfl (Or.inr (Or.inr (Or.inr (Or.inr ⟨rfl, rfl, rfl⟩)))) (hb hby d3_4) hr
  · show Q_gt Z a1 a2 h0 n0 _ T76.heap _
    rw [e76]
    exact ⟨rfl, N0, rfl⟩
theorem pd__II_I : parseMethodDescriptor "(II)I" = some ⟨[.int, .int], some .int⟩ := by decide +kernel
theorem pd__I_Lcom_example_sequence_dispenser_sequencedispenser_server_ErrorCode_ : parseMethodDescriptor "(I)Lcom/example/sequence_dispenser/sequencedispenser/server/ErrorCode;" = some ⟨[.int], some (.object "com/example/sequence_dispenser/sequencedispenser/server/ErrorCode")⟩ := by decide +kernel
theorem pd___Ljava_lang_String_ : parseMethodDescriptor "()Ljava/lang/String;" = some ⟨[], some (.object "java/lang/String")⟩ := by decide +kernel
theorem pd__Ljava_lang_Object__Z : parseMethodDescriptor "(Ljava/lang/Object;)Z" = some ⟨[(.object "java/lang/Object")], some .boolean⟩ := by decide +kernel
theorem ef_law (m : MethodId) (x0 : Int32) (x1 : Int32) : entryFrame m #[(.int x0), (.int x1)] maxLocals = mkF m 0 #[.val (.int x0), .val (.int x1), .unset, .unset, .unset] [] := by (first | (simp [entryFrame, mkF, argsToLocals, Value.category, maxLocals]; done) | rfl)
def Q_law (Z : State) (p0 : Int32) (p1 : Int32) (z : Int32) (u : Addr) (n : Addr) (b : Addr) (tU : Addr) (tN : Addr) (tB : Addr) (h0 : Heap) (n0 : Nat) (v : Option Value) (h : Heap) (L : List Loc) : Prop := v = some (.int 1) ∧ Fr n0 L
set_option maxRecDepth 65536 in
set_option maxHeartbeats 40000000 in
theorem rm_law (l : Launch) (Z : State) (a0 : Array Value) (hw : ∀ d ∈ tables_1, d.before a0 Z = true) (ws : List Jvm.Cond) (p0 : Int32) (p1 : Int32) (z : Int32) (u : Addr) (n : Addr) (b : Addr) (tU : Addr) (tN : Addr) (tB : Addr) (h0 : Heap) (n0 : Nat) (Z0 : n0 ≤ h0.size) (hEL : EW Z a0 consts_1) (O0 : Old Z n0 h0) (S2 : Sta Z Z.heap "java/lang/String" "COMPACT_STRINGS" "Z" (.int z)) (hz : ¬ z = 0) (S_U : Sta Z Z.heap "com/example/sequence_dispenser/sequencedispenser/server/ErrorCode" "UNAVAILABLE" "Lcom/example/sequence_dispenser/sequencedispenser/server/ErrorCode;" (.ref u)) (S_N : Sta Z Z.heap "com/example/sequence_dispenser/sequencedispenser/server/ErrorCode" "NOT_FOUND" "Lcom/example/sequence_dispenser/sequencedispenser/server/ErrorCode;" (.ref n)) (S_B : Sta Z Z.heap "com/example/sequence_dispenser/sequencedispenser/server/ErrorCode" "BAD_REQUEST" "Lcom/example/sequence_dispenser/sequencedispenser/server/ErrorCode;" (.ref b)) (E_U : Exa Z Z.heap u "com/example/sequence_dispenser/sequencedispenser/server/ErrorCode") (E_N : Exa Z Z.heap n "com/example/sequence_dispenser/sequencedispenser/server/ErrorCode") (E_B : Exa Z Z.heap b "com/example/sequence_dispenser/sequencedispenser/server/ErrorCode") (F_U : Fld Z Z.heap u "com/example/sequence_dispenser/sequencedispenser/server/ErrorCode" "text" "Ljava/lang/String;" (.ref tU)) (F_N : Fld Z Z.heap n "com/example/sequence_dispenser/sequencedispenser/server/ErrorCode" "text" "Ljava/lang/String;" (.ref tN)) (F_B : Fld Z Z.heap b "com/example/sequence_dispenser/sequencedispenser/server/ErrorCode" "text" "Ljava/lang/String;" (.ref tB)) (X_U : own_str Z Z.heap tU ([117, 110, 97, 118, 97, 105, 108, 97, 98, 108, 101] : List Int32)) (X_N : own_str Z Z.heap tN ([110, 111, 116, 95, 102, 111, 117, 110, 100] : List Int32)) (X_B : own_str Z Z.heap tB ([98, 97, 100, 95, 114, 101, 113, 117, 101, 115, 116] : List Int32)) :
    MetFree l x (head1 (Jvm.Cond.code x code maxLocals ret :: ws) room_1) (fun a U => a = #[(.int p0), (.int p1)] ∧ Z.Warmed39 U.vm ∧ U.heap = h0 ∧ CHv Z consts_1 U.vm h0) (fun _ _ _ _ _ => True) (fun _ U o U' => ∃ v L, o = .returned v ∧ Q_law Z p0 p1 z u n b tU tN tB h0 n0 v U'.heap L ∧ ReturnedEndW U o U' L 2 48) := by
  refine MetFree.of_bodySF (plainFor_of_name pn_1) hisR ?_
  intro p e s m args below meth c s₁ Bd hml0 hP hK
  obtain ⟨rfl, hZ, hh, hCH0⟩ := hP
  have hx := Bd.exec
  have hby := Bd.bytes
  have hml : c.maxLocals = 5 := hml0
  have hown : s.vm.findClass "com/example/sequence_dispenser/sequencedispenser/server/ErrorCodeForStatusPinLaw" = some m.cls := findClass_of_methodNamed Bd.named
  have hnm := (name_of_methodNamed Bd.named Bd.method).1
  have X0 : Stand p l e room_1 s m #[(.int p0), (.int p1)] below meth c s₁ [] 0 0 := Stand.of_body Bd
  have e0 : s₁.heap = h0 := by rw [← hh, Bd.state]; rfl
  have N0 := Fr.nil n0
  have c0 : Goes p e below s₁ (entryFrame m #[(.int p0), (.int p1)] maxLocals) s₁ (mkF m 0 #[.val (.int p0), .val (.int p1), .unset, .unset, .unset] []) := fun t k => castTop (ef_law m p0 p1) k
  have XW0 : Stand p l e room_1 (s.setVm s.vm) m #[(.int p0), (.int p1)] below meth c s₁ [] 0 0 := X0
  have SW0 : s.Since s.vm 0 := (State.WarmedH.refl s).since 0
  have c78 : Goes p e below s₁ (entryFrame m #[(.int p0), (.int p1)] maxLocals) s₁ (mkF m 5 #[.val (.int p0), .val (.int p1), .unset, .unset, .unset] [(.int (p1 &&& (7 : Int32))), (.int p0)]) := by
    intro t kk
    refine c0 t ?_
    show Steps p.tables e below (s₁.setTop (mkF m 0 #[.val (.int p0), .val (.int p1), .unset, .unset, .unset] [])) t
    refine XS.iloadN XW0.here hx rfl (hb hby at_0) rfl ?_
    show Steps p.tables e below (s₁.setTop (mkF m 1 #[.val (.int p0), .val (.int p1), .unset, .unset, .unset] [(.int p0)])) t
    refine XS.iloadN XW0.here hx rfl (hb hby at_1) rfl ?_
    show Steps p.tables e below (s₁.setTop (mkF m 2 #[.val (.int p0), .val (.int p1), .unset, .unset, .unset] [(.int p1), (.int p0)])) t
    refine XS.bipush XW0.here hx rfl (hb hby at_2) ?_
    show Steps p.tables e below (s₁.setTop (mkF m 4 #[.val (.int p0), .val (.int p1), .unset, .unset, .unset] [(.int (7 : Int32)), (.int p1), (.int p0)])) t
    refine XS.iand XW0.here hx rfl (hb hby at_4) rfl ?_
    exact kk
  obtain ⟨_, _, ⟨T79, L79, k79, n79⟩, -, X79, ⟨Lc79, hQ79, l79, y79, z79⟩, st79⟩ := Jvm.LawKit.callS XW0 hx (y := (⟨"com/example/sequence_dispenser/sequencedispenser/server/ErrorCodeForStatusPinLaw", "pick", "(II)I"⟩ : MethodName)) hown (mvT hZ (hw _ (List.mem_of_getElem? (i := 0) rfl))) (mvT hZ (hw _ (List.mem_of_getElem? (i := 1) rfl))) (mvT hZ (hw _ (List.mem_of_getElem? (i := 2) rfl))) (mvT hZ (hw _ (List.mem_of_getElem? (i := 3) rfl))) (by decide) (backOf (W := 0) (rm_pick l Z a0 hw [] p0 (p1 &&& (7 : Int32)) h0 n0 Z0) hZ (hw _ (List.mem_of_getElem? (i := 3) rfl)) (hw _ (List.mem_of_getElem? (i := 2) rfl)) (by decide) (by decide)) (g := (mkF m 5 #[.val (.int p0), .val (.int p1), .unset, .unset, .unset] [(.int (p1 &&& (7 : Int32))), (.int p0)])) rfl (by rw [hml]; rfl) (argsL := [(.int p0), (.int (p1 &&& (7 : Int32)))]) (rest := []) (lenOf pd__II_I rfl) rfl (by show 2 * 0 + _ ≤ _; exact Nat.le_of_eq rfl) (hb hby at_5) (fun _ _ => ⟨rfl, e0, (by decide : 0 + 0 ≤ _), (by decide : 0 + 0 ≤ _)⟩)
  dsimp only [Pt.U, Pt.locs, Pt.cells, Pt.slots] at X79 l79 y79 z79 st79 hQ79
  subst l79 y79 z79
  obtain ⟨rfl, Nq79, eq79⟩ := hQ79
  have N79 := Fr.app N0 Nq79
  have c80 : Goes p e below s₁ (entryFrame m #[(.int p0), (.int p1)] maxLocals) T79 (mkF m 8 #[.val (.int p0), .val (.int p1), .unset, .unset, .unset] [(.int (own_pick p0 (p1 &&& (7 : Int32))))]) := fun t kk => c78 t (st79 t kk)
  have c81 : Goes p e below s₁ (entryFrame m #[(.int p0), (.int p1)] maxLocals) T79 (mkF m 9 #[.val (.int p0), .val (.int p1), .val (.int (own_pick p0 (p1 &&& (7 : Int32)))), .unset, .unset] []) := by
    intro t kk
    refine c80 t ?_
    show Steps p.tables e below (T79.setTop (mkF m 8 #[.val (.int p0), .val (.int p1), .unset, .unset, .unset] [(.int (own_pick p0 (p1 &&& (7 : Int32))))])) t
    refine XS.istoreN X79.here hx rfl (hb hby at_8) rfl (l' := #[.val (.int p0), .val (.int p1), .val (.int (own_pick p0 (p1 &&& (7 : Int32)))), .unset, .unset]) rfl ?_
    exact kk
  obtain ⟨st, h_st⟩ : ∃ z : Int32, z = (own_pick p0 (p1 &&& (7 : Int32))) := ⟨_, rfl⟩
  have c82 : Goes p e below s₁ (entryFrame m #[(.int p0), (.int p1)] maxLocals) T79 (mkF m 9 #[.val (.int p0), .val (.int p1), .val (.int st), .unset, .unset] []) := by rw [h_st]; exact c81
  have c83 : Goes p e below s₁ (entryFrame m #[(.int p0), (.int p1)] maxLocals) T79 (mkF m 10 #[.val (.int p0), .val (.int p1), .val (.int st), .unset, .unset] [(.int st)]) := by
    intro t kk
    refine c82 t ?_
    show Steps p.tables e below (T79.setTop (mkF m 9 #[.val (.int p0), .val (.int p1), .val (.int st), .unset, .unset] [])) t
    refine XS.iloadN X79.here hx rfl (hb hby at_9) rfl ?_
    exact kk
  obtain ⟨_, _, ⟨T84, L84, k84, n84⟩, -, X84, ⟨Lc84, hQ84, l84, y84, z84⟩, st84⟩ := Jvm.LawKit.callS X79 hx (y := (⟨"com/example/sequence_dispenser/sequencedispenser/server/ErrorCode", "forStatus", "(I)Lcom/example/sequence_dispenser/sequencedispenser/server/ErrorCode;"⟩ : MethodName)) hown (mvT hZ (hw _ (List.mem_of_getElem? (i := 4) rfl))) (mvT hZ (hw _ (List.mem_of_getElem? (i := 5) rfl))) (mvT hZ (hw _ (List.mem_of_getElem? (i := 6) rfl))) (mvT hZ (hw _ (List.mem_of_getElem? (i := 7) rfl))) (by decide) (backOf (W := 0) (rm_fs l Z a0 hw [] st u n b h0 n0 Z0 (S_U.ext O0.2) (S_N.ext O0.2) (S_B.ext O0.2)) hZ (hw _ (List.mem_of_getElem? (i := 7) rfl)) (hw _ (List.mem_of_getElem? (i := 6) rfl)) (by decide) (by decide)) (g := (mkF m 10 #[.val (.int p0), .val (.int p1), .val (.int st), .unset, .unset] [(.int st)])) rfl (by rw [hml]; rfl) (argsL := [(.int st)]) (rest := []) (lenOf pd__I_Lcom_example_sequence_dispenser_sequencedispenser_server_ErrorCode_ rfl) rfl (by show 2 * 0 + _ ≤ _; exact Nat.le_of_eq rfl) (hb hby at_10) (fun _ _ => ⟨rfl, eq79, (by decide : 0 + 0 ≤ _), (by decide : 0 + 0 ≤ _)⟩)
  dsimp only [Pt.U, Pt.locs, Pt.cells, Pt.slots] at X84 l84 y84 z84 st84 hQ84
  subst l84 y84 z84
  obtain ⟨rfl, Nq84, eq84⟩ := hQ84
  have N84 := Fr.app N79 Nq84
  have c85 : Goes p e below s₁ (entryFrame m #[(.int p0), (.int p1)] maxLocals) T84 (mkF m 13 #[.val (.int p0), .val (.int p1), .val (.int st), .unset, .unset] [(.ref (own_fs st u n b))]) := fun t kk => c83 t (st84 t kk)
  have c86 : Goes p e below s₁ (entryFrame m #[(.int p0), (.int p1)] maxLocals) T84 (mkF m 21 #[.val (.int p0), .val (.int p1), .val (.int st), .val (.ref (own_fs st u n b)), .unset] [(.ref (own_fs st u n b))]) := by
    intro t kk
    refine c85 t ?_
    show Steps p.tables e below (T84.setTop (mkF m 13 #[.val (.int p0), .val (.int p1), .val (.int st), .unset, .unset] [(.ref (own_fs st u n b))])) t
    refine XS.astoreN X84.here hx rfl (hb hby at_13) rfl rfl (l' := #[.val (.int p0), .val (.int p1), .val (.int st), .val (.ref (own_fs st u n b)), .unset]) rfl ?_
    show Steps p.tables e below (T84.setTop (mkF m 14 #[.val (.int p0), .val (.int p1), .val (.int st), .val (.ref (own_fs st u n b)), .unset] [])) t
    refine XS.aloadN X84.here hx rfl (hb hby at_14) rfl rfl ?_
    show Steps p.tables e below (T84.setTop (mkF m 15 #[.val (.int p0), .val (.int p1), .val (.int st), .val (.ref (own_fs st u n b)), .unset] [(.ref (own_fs st u n b))])) t
    refine XS.ifnonnullYes X84.here hx rfl (pc0 := 15) (pc' := 20) rfl (hb hby at_15) rfl (by decide) (by decide) ?_
    show Steps p.tables e below (T84.setTop (mkF m 20 #[.val (.int p0), .val (.int p1), .val (.int st), .val (.ref (own_fs st u n b)), .unset] [])) t
    refine XS.aloadN X84.here hx rfl (hb hby at_20) rfl rfl ?_
    exact kk
  obtain ⟨cq87, kq87, q87a, q87b, q87c⟩ := isOf hZ eq84 (own_each (P := fun x y => Exa Z h0 x "com/example/sequence_dispenser/sequencedispenser/server/ErrorCode") (u' := 0) (n' := 0) (b' := 0) (E_U.ext O0.2) (E_N.ext O0.2) (E_B.ext O0.2) st)
  obtain ⟨_, _, ⟨T87, L87, k87, n87⟩, -, X87, ⟨Lc87, hQ87, l87, y87, z87⟩, st87⟩ := X84.virtualBack hx (y := (⟨"com/example/sequence_dispenser/sequencedispenser/server/ErrorCode", "getText", "()Ljava/lang/String;"⟩ : MethodName)) (z := (⟨"com/example/sequence_dispenser/sequencedispenser/server/ErrorCode", "getText", "()Ljava/lang/String;"⟩ : MethodName)) hown (mvT hZ (hw _ (List.mem_of_getElem? (i := 10) rfl))) (mvT hZ (hw _ (List.mem_of_getElem? (i := 11) rfl))) (notFace_of_selects (args := #[]) (mvT hZ (hw _ (List.mem_of_getElem? (i := 13) rfl)))) (mvT hZ (hw _ (List.mem_of_getElem? (i := 13) rfl))) (mvT hZ (hw _ (List.mem_of_getElem? (i := 12) rfl))) (by decide) (backOf (W := 0) (rm_gt l Z a0 hw [] (own_fs st u n b) (own_fs st tU tN tB) h0 n0 Z0 (own_each (P := fun x y => Fld Z h0 x "com/example/sequence_dispenser/sequencedispenser/server/ErrorCode" "text" "Ljava/lang/String;" (.ref y)) (F_U.ext O0.2) (F_N.ext O0.2) (F_B.ext O0.2) st)) hZ (hw _ (List.mem_of_getElem? (i := 14) rfl)) (hw _ (List.mem_of_getElem? (i := 6) rfl)) (by decide) (by decide)) q87a q87c (g := (mkF m 21 #[.val (.int p0), .val (.int p1), .val (.int st), .val (.ref (own_fs st u n b)), .unset] [(.ref (own_fs st u n b))])) rfl (by rw [hml]; rfl) (Steps.refl _) (argsL := []) (rest := []) (lenOf pd___Ljava_lang_String_ rfl) rfl (by show 2 * 0 + _ ≤ _; exact Nat.le_of_eq rfl) (hb hby at_21) (fun _ _ => ⟨rfl, eq84, (by decide : 0 + 0 ≤ _), (by decide : 0 + 0 ≤ _)⟩)
  dsimp only [Pt.U, Pt.locs, Pt.cells, Pt.slots] at X87 l87 y87 z87 st87 hQ87
  subst l87 y87 z87
  obtain ⟨rfl, Nq87, eq87⟩ := hQ87
  have N87 := Fr.app N84 Nq87
  have c88 : Goes p e below s₁ (entryFrame m #[(.int p0), (.int p1)] maxLocals) T87 (mkF m 24 #[.val (.int p0), .val (.int p1), .val (.int st), .val (.ref (own_fs st u n b)), .unset] [(.ref (own_fs st tU tN tB))]) := fun t kk => c86 t (st87.trans kk)
  have c89 : Goes p e below s₁ (entryFrame m #[(.int p0), (.int p1)] maxLocals) T87 (mkF m 30 #[.val (.int p0), .val (.int p1), .val (.int st), .val (.ref (own_fs st u n b)), .val (.ref (own_fs st tU tN tB))] [(.int (500 : Int32)), (.int st)]) := by
    intro t kk
    refine c88 t ?_
    show Steps p.tables e below (T87.setTop (mkF m 24 #[.val (.int p0), .val (.int p1), .val (.int st), .val (.ref (own_fs st u n b)), .unset] [(.ref (own_fs st tU tN tB))])) t
    refine XS.astore X87.here hx rfl (hb hby at_24) rfl rfl (l' := #[.val (.int p0), .val (.int p1), .val (.int st), .val (.ref (own_fs st u n b)), .val (.ref (own_fs st tU tN tB))]) rfl ?_
    show Steps p.tables e below (T87.setTop (mkF m 26 #[.val (.int p0), .val (.int p1), .val (.int st), .val (.ref (own_fs st u n b)), .val (.ref (own_fs st tU tN tB))] [])) t
    refine XS.iloadN X87.here hx rfl (hb hby at_26) rfl ?_
    show Steps p.tables e below (T87.setTop (mkF m 27 #[.val (.int p0), .val (.int p1), .val (.int st), .val (.ref (own_fs st u n b)), .val (.ref (own_fs st tU tN tB))] [(.int st)])) t
    refine XS.sipush X87.here hx rfl (hb hby at_27) ?_
    exact kk
  by_cases h30 : st < (500 : Int32)
  · have c90 : Goes p e below s₁ (entryFrame m #[(.int p0), (.int p1)] maxLocals) T87 (mkF m 60 #[.val (.int p0), .val (.int p1), .val (.int st), .val (.ref (own_fs st u n b)), .val (.ref (own_fs st tU tN tB))] [(.int (404 : Int32)), (.int st)]) := by
      intro t kk
      refine c89 t ?_
      show Steps p.tables e below (T87.setTop (mkF m 30 #[.val (.int p0), .val (.int p1), .val (.int st), .val (.ref (own_fs st u n b)), .val (.ref (own_fs st tU tN tB))] [(.int (500 : Int32)), (.int st)])) t
      refine XS.icmpYes X87.here hx rfl (pc0 := 30) (pc' := 56) rfl (hb hby at_30) rfl (tlt h30).1 (by decide) (by decide) ?_
      show Steps p.tables e below (T87.setTop (mkF m 56 #[.val (.int p0), .val (.int p1), .val (.int st), .val (.ref (own_fs st u n b)), .val (.ref (own_fs st tU tN tB))] [])) t
      refine XS.iloadN X87.here hx rfl (hb hby at_56) rfl ?_
      show Steps p.tables e below (T87.setTop (mkF m 57 #[.val (.int p0), .val (.int p1), .val (.int st), .val (.ref (own_fs st u n b)), .val (.ref (own_fs st tU tN tB))] [(.int st)])) t
      refine XS.sipush X87.here hx rfl (hb hby at_57) ?_
      exact kk
    by_cases h60 : st = (404 : Int32)
    · have c91 : Goes p e below s₁ (entryFrame m #[(.int p0), (.int p1)] maxLocals) T87 (mkF m 64 #[.val (.int p0), .val (.int p1), .val (.int st), .val (.ref (own_fs st u n b)), .val (.ref (own_fs st tU tN tB))] [(.ref (own_fs st u n b))]) := by
        intro t kk
        refine c90 t ?_
        show Steps p.tables e below (T87.setTop (mkF m 60 #[.val (.int p0), .val (.int p1), .val (.int st), .val (.ref (own_fs st u n b)), .val (.ref (own_fs st tU tN tB))] [(.int (404 : Int32)), (.int st)])) t
        refine XS.icmpNo X87.here hx rfl (hb hby at_60) rfl (teq h60).2 ?_
        show Steps p.tables e below (T87.setTop (mkF m 63 #[.val (.int p0), .val (.int p1), .val (.int st), .val (.ref (own_fs st u n b)), .val (.ref (own_fs st tU tN tB))] [])) t
        refine XS.aloadN X87.here hx rfl (hb hby at_63) rfl rfl ?_
        exact kk
      obtain ⟨T92, X92, e92, st92⟩ := getS2 X87 hx hZ hown (host := "") (Or.inl (hw _ (List.mem_of_getElem? (i := 42) rfl))) Via.refl eq87 (S_N.ext O0.2) (g := (mkF m 64 #[.val (.int p0), .val (.int p1), .val (.int st), .val (.ref (own_fs st u n b)), .val (.ref (own_fs st tU tN tB))] [(.ref (own_fs st u n b))])) rfl (hb hby at_64)
      have c93 : Goes p e below s₁ (entryFrame m #[(.int p0), (.int p1)] maxLocals) T92 (mkF m 67 #[.val (.int p0), .val (.int p1), .val (.int st), .val (.ref (own_fs st u n b)), .val (.ref (own_fs st tU tN tB))] [(.ref n), (.ref (own_fs st u n b))]) := fun t kk => c91 t (st92 t kk)
      have c94 : Goes p e below s₁ (entryFrame m #[(.int p0), (.int p1)] maxLocals) T92 (mkF m 72 #[.val (.int p0), .val (.int p1), .val (.int st), .val (.ref (own_fs st u n b)), .val (.ref (own_fs st tU tN tB))] [(.ref (own_fs st tU tN tB))]) := by
        intro t kk
        refine c93 t ?_
        show Steps p.tables e below (T92.setTop (mkF m 67 #[.val (.int p0), .val (.int p1), .val (.int st), .val (.ref (own_fs st u n b)), .val (.ref (own_fs st tU tN tB))] [(.ref n), (.ref (own_fs st u n b))])) t
        refine Jvm.RoadKit.acmp (g := (mkF m 67 #[.val (.int p0), .val (.int p1), .val (.int st), .val (.ref (own_fs st u n b)), .val (.ref (own_fs st tU tN tB))] [(.ref n), (.ref (own_fs st u n b))])) X92 hx rfl rfl rfl (pc0 := 67) (pc' := 70) (same := true) rfl (hb hby at_67) rfl (decide_eq_true (congrArg Value.ref (own_fsN u n b h60))) (by decide) (by decide) ?_
        show Steps p.tables e below (T92.setTop (mkF m 70 #[.val (.int p0), .val (.int p1), .val (.int st), .val (.ref (own_fs st u n b)), .val (.ref (own_fs st tU tN tB))] [])) t
        refine XS.aload X92.here hx rfl (hb hby at_70) rfl rfl ?_
        exact kk
      obtain ⟨a95, T95, h95, kk95, sb95, sk95, X95, e95, E95, S95, hk95, hZ95, ho95, sE95, sC95, sV95, sA95, -, -, hCr95, -, -, st95⟩ := ldcCH X92 hx hZ hown (hw _ (List.mem_of_getElem? (i := 43) rfl)) (own_wS hw) e92 SW0 (Nat.zero_le _) hEL (List.mem_of_getElem? (i := 1) rfl) hCH0 (vs := ((([110, 111, 116, 95, 102, 111, 117, 110, 100] : List Int32)).map StrChars.lo8).map Value.int) (z := Int32.ofNat (([110, 111, 116, 95, 102, 111, 117, 110, 100] : List Int32)).length) (by decide +kernel) (by decide) (by decide) (g := (mkF m 72 #[.val (.int p0), .val (.int p1), .val (.int st), .val (.ref (own_fs st u n b)), .val (.ref (own_fs st tU tN tB))] [(.ref (own_fs st tU tN tB))])) rfl (hb hby at_72) (n := 36) (by decide) (by decide) (by decide) (by decide)
      have c96 : Goes p e below s₁ (entryFrame m #[(.int p0), (.int p1)] maxLocals) T95 (mkF m 74 #[.val (.int p0), .val (.int p1), .val (.int st), .val (.ref (own_fs st u n b)), .val (.ref (own_fs st tU tN tB))] [(.ref a95), (.ref (own_fs st tU tN tB))]) := fun t kk => c94 t (st95 t kk)
      have Lt95 : own_str Z h95 a95 ([110, 111, 116, 95, 102, 111, 117, 110, 100] : List Int32) := ⟨sE95, sC95, by decide, sb95, sk95, sV95, sA95⟩
      have f97 := (O0.ext E95)
      have es98 : own_str Z h95 (own_fs st tU tN tB) ([110, 111, 116, 95, 102, 111, 117, 110, 100] : List Int32) := by rw [own_fsN tU tN tB h60]; exact own_sext X_N f97.2
      have f99 := (Nat.le_trans Z0 E95.1)
      obtain ⟨cq100, kq100, q100a, q100b, q100c⟩ := isOf hZ95 e95 es98.1
      obtain ⟨_, _, ⟨T100, L100, k100, n100⟩, -, X100, ⟨Lc100, hQ100, l100, y100, z100⟩, st100⟩ := X95.virtualBack hx (y := (⟨"java/lang/String", "equals", "(Ljava/lang/Object;)Z"⟩ : MethodName)) (z := (⟨"java/lang/String", "equals", "(Ljava/lang/Object;)Z"⟩ : MethodName)) ho95 (mvT hZ95 (hw _ (List.mem_of_getElem? (i := 26) rfl))) (mvT hZ95 (hw _ (List.mem_of_getElem? (i := 27) rfl))) (notFace_of_selects (args := #[]) (mvT hZ95 (hw _ (List.mem_of_getElem? (i := 29) rfl)))) (mvT hZ95 (hw _ (List.mem_of_getElem? (i := 29) rfl))) (mvT hZ95 (hw _ (List.mem_of_getElem? (i := 28) rfl))) (by decide) (backOf (W := 0) (rm_eqs l Z a0 hw [] (own_fs st tU tN tB) a95 ([110, 111, 116, 95, 102, 111, 117, 110, 100] : List Int32) z h95 n0 f99 es98 Lt95 (S2.ext f97.2) hz (by decide)) hZ95 (hw _ (List.mem_of_getElem? (i := 30) rfl)) (hw _ (List.mem_of_getElem? (i := 19) rfl)) (by decide) (by decide)) q100a q100c (g := (mkF m 74 #[.val (.int p0), .val (.int p1), .val (.int st), .val (.ref (own_fs st u n b)), .val (.ref (own_fs st tU tN tB))] [(.ref a95), (.ref (own_fs st tU tN tB))])) rfl (by rw [hml]; rfl) (Steps.refl _) (argsL := [(.ref a95)]) (rest := []) (lenOf pd__Ljava_lang_Object__Z rfl) rfl (by show 2 * 0 + _ ≤ _; exact Nat.le_of_eq rfl) (hb hby at_74) (fun _ _ => ⟨rfl, e95, (by decide : 2 + 0 ≤ _), (by decide : 40 + 0 ≤ _)⟩)
      dsimp only [Pt.U, Pt.locs, Pt.cells, Pt.slots] at X100 l100 y100 z100 st100 hQ100
      subst l100 y100 z100
      obtain ⟨rfl, Nq100, eq100⟩ := hQ100
      have N100 := Fr.app N87 Nq100
      have c101 : Goes p e below s₁ (entryFrame m #[(.int p0), (.int p1)] maxLocals) T100 (mkF m 77 #[.val (.int p0), .val (.int p1), .val (.int st), .val (.ref (own_fs st u n b)), .val (.ref (own_fs st tU tN tB))] [(.int (1 : Int32))]) := fun t kk => c96 t (st100.trans kk)
      have c102 : Goes p e below s₁ (entryFrame m #[(.int p0), (.int p1)] maxLocals) T100 (mkF m 85 #[.val (.int p0), .val (.int p1), .val (.int st), .val (.ref (own_fs st u n b)), .val (.ref (own_fs st tU tN tB))] [(.int (1 : Int32))]) := by
        intro t kk
        refine c101 t ?_
        show Steps p.tables e below (T100.setTop (mkF m 77 #[.val (.int p0), .val (.int p1), .val (.int st), .val (.ref (own_fs st u n b)), .val (.ref (own_fs st tU tN tB))] [(.int (1 : Int32))])) t
        refine XS.ifNo X100.here hx rfl (hb hby at_77) rfl ((if0 _ _).trans (feq (by decide : ¬ ((1 : Int32) = (0 : Int32)))).1) ?_
        show Steps p.tables e below (T100.setTop (mkF m 80 #[.val (.int p0), .val (.int p1), .val (.int st), .val (.ref (own_fs st u n b)), .val (.ref (own_fs st tU tN tB))] [])) t
        refine XS.iconst X100.here hx rfl (hb hby at_80) ?_
        show Steps p.tables e below (T100.setTop (mkF m 81 #[.val (.int p0), .val (.int p1), .val (.int st), .val (.ref (own_fs st u n b)), .val (.ref (own_fs st tU tN tB))] [(.int (1 : Int32))])) t
        refine XS.goto X100.here hx rfl (pc0 := 81) (pc' := 85) rfl (hb hby at_81) (by decide) (by decide) ?_
        exact kk
      obtain ⟨fs, hr, hrun, hended, hRW⟩ := X100.leaveW S95 (by rw [eq100]; exact hk95) (v := some (.int (1 : Int32))) (fun h => by rw [Bd.returns] at h; cases h)
      refine ⟨_, _, c102 _ ?_, hrun, hended, _, _, rfl, ?_, hRW.1, hRW.2.1, hRW.2.2.1, hRW.2.2.2.mono (by decide) (by decide)⟩
      · exact retN X100 hx (t := .boolean) Bd.returns (by simp) (hb hby at_85) hr
      · show Q_law Z p0 p1 z u n b tU tN tB h0 n0 _ T100.heap _
        rw [eq100]
        exact ⟨rfl, N100⟩
    · have c103 : Goes p e below s₁ (entryFrame m #[(.int p0), (.int p1)] maxLocals) T87 (mkF m 87 #[.val (.int p0), .val (.int p1), .val (.int st), .val (.ref (own_fs st u n b)), .val (.ref (own_fs st tU tN tB))] [(.ref (own_fs st u n b))]) := by
        intro t kk
        refine c90 t ?_
        show Steps p.tables e below (T87.setTop (mkF m 60 #[.val (.int p0), .val (.int p1), .val (.int st), .val (.ref (own_fs st u n b)), .val (.ref (own_fs st tU tN tB))] [(.int (404 : Int32)), (.int st)])) t
        refine XS.icmpYes X87.here hx rfl (pc0 := 60) (pc' := 86) rfl (hb hby at_60) rfl (feq h60).2 (by decide) (by decide) ?_
        show Steps p.tables e below (T87.setTop (mkF m 86 #[.val (.int p0), .val (.int p1), .val (.int st), .val (.ref (own_fs st u n b)), .val (.ref (own_fs st tU tN tB))] [])) t
        refine XS.aloadN X87.here hx rfl (hb hby at_86) rfl rfl ?_
        exact kk
      obtain ⟨T104, X104, e104, st104⟩ := getS2 X87 hx hZ hown (host := "") (Or.inl (hw _ (List.mem_of_getElem? (i := 46) rfl))) Via.refl eq87 (S_B.ext O0.2) (g := (mkF m 87 #[.val (.int p0), .val (.int p1), .val (.int st), .val (.ref (own_fs st u n b)), .val (.ref (own_fs st tU tN tB))] [(.ref (own_fs st u n b))])) rfl (hb hby at_87)
      have c105 : Goes p e below s₁ (entryFrame m #[(.int p0), (.int p1)] maxLocals) T104 (mkF m 90 #[.val (.int p0), .val (.int p1), .val (.int st), .val (.ref (own_fs st u n b)), .val (.ref (own_fs st tU tN tB))] [(.ref b), (.ref (own_fs st u n b))]) := fun t kk => c103 t (st104 t kk)
      have c106 : Goes p e below s₁ (entryFrame m #[(.int p0), (.int p1)] maxLocals) T104 (mkF m 95 #[.val (.int p0), .val (.int p1), .val (.int st), .val (.ref (own_fs st u n b)), .val (.ref (own_fs st tU tN tB))] [(.ref (own_fs st tU tN tB))]) := by
        intro t kk
        refine c105 t ?_
        show Steps p.tables e below (T104.setTop (mkF m 90 #[.val (.int p0), .val (.int p1), .val (.int st), .val (.ref (own_fs st u n b)), .val (.ref (own_fs st tU tN tB))] [(.ref b), (.ref (own_fs st u n b))])) t
        refine Jvm.RoadKit.acmp (g := (mkF m 90 #[.val (.int p0), .val (.int p1), .val (.int st), .val (.ref (own_fs st u n b)), .val (.ref (own_fs st tU tN tB))] [(.ref b), (.ref (own_fs st u n b))])) X104 hx rfl rfl rfl (pc0 := 90) (pc' := 93) (same := true) rfl (hb hby at_90) rfl (decide_eq_true (congrArg Value.ref (own_fsB u n b h60 h30))) (by decide) (by decide) ?_
        show Steps p.tables e below (T104.setTop (mkF m 93 #[.val (.int p0), .val (.int p1), .val (.int st), .val (.ref (own_fs st u n b)), .val (.ref (own_fs st tU tN tB))] [])) t
        refine XS.aload X104.here hx rfl (hb hby at_93) rfl rfl ?_
        exact kk
      obtain ⟨a107, T107, h107, kk107, sb107, sk107, X107, e107, E107, S107, hk107, hZ107, ho107, sE107, sC107, sV107, sA107, -, -, hCr107, -, -, st107⟩ := ldcCH X104 hx hZ hown (hw _ (List.mem_of_getElem? (i := 47) rfl)) (own_wS hw) e104 SW0 (Nat.zero_le _) hEL (List.mem_of_getElem? (i := 2) rfl) hCH0 (vs := ((([98, 97, 100, 95, 114, 101, 113, 117, 101, 115, 116] : List Int32)).map StrChars.lo8).map Value.int) (z := Int32.ofNat (([98, 97, 100, 95, 114, 101, 113, 117, 101, 115, 116] : List Int32)).length) (by decide +kernel) (by decide) (by decide) (g := (mkF m 95 #[.val (.int p0), .val (.int p1), .val (.int st), .val (.ref (own_fs st u n b)), .val (.ref (own_fs st tU tN tB))] [(.ref (own_fs st tU tN tB))])) rfl (hb hby at_95) (n := 44) (by decide) (by decide) (by decide) (by decide)
      have c108 : Goes p e below s₁ (entryFrame m #[(.int p0), (.int p1)] maxLocals) T107 (mkF m 97 #[.val (.int p0), .val (.int p1), .val (.int st), .val (.ref (own_fs st u n b)), .val (.ref (own_fs st tU tN tB))] [(.ref a107), (.ref (own_fs st tU tN tB))]) := fun t kk => c106 t (st107 t kk)
      have Lt107 : own_str Z h107 a107 ([98, 97, 100, 95, 114, 101, 113, 117, 101, 115, 116] : List Int32) := ⟨sE107, sC107, by decide, sb107, sk107, sV107, sA107⟩
      have f109 := (O0.ext E107)
      have es110 : own_str Z h107 (own_fs st tU tN tB) ([98, 97, 100, 95, 114, 101, 113, 117, 101, 115, 116] : List Int32) := by rw [own_fsB tU tN tB h60 h30]; exact own_sext X_B f109.2
      have f111 := (Nat.le_trans Z0 E107.1)
      obtain ⟨cq112, kq112, q112a, q112b, q112c⟩ := isOf hZ107 e107 es110.1
      obtain ⟨_, _, ⟨T112, L112, k112, n112⟩, -, X112, ⟨Lc112, hQ112, l112, y112, z112⟩, st112⟩ := X107.virtualBack hx (y := (⟨"java/lang/String", "equals", "(Ljava/lang/Object;)Z"⟩ : MethodName)) (z := (⟨"java/lang/String", "equals", "(Ljava/lang/Object;)Z"⟩ : MethodName)) ho107 (mvT hZ107 (hw _ (List.mem_of_getElem? (i := 26) rfl))) (mvT hZ107 (hw _ (List.mem_of_getElem? (i := 27) rfl))) (notFace_of_selects (args := #[]) (mvT hZ107 (hw _ (List.mem_of_getElem? (i := 29) rfl)))) (mvT hZ107 (hw _ (List.mem_of_getElem? (i := 29) rfl))) (mvT hZ107 (hw _ (List.mem_of_getElem? (i := 28) rfl))) (by decide) (backOf (W := 0) (rm_eqs l Z a0 hw [] (own_fs st tU tN tB) a107 ([98, 97, 100, 95, 114, 101, 113, 117, 101, 115, 116] : List Int32) z h107 n0 f111 es110 Lt107 (S2.ext f109.2) hz (by decide)) hZ107 (hw _ (List.mem_of_getElem? (i := 30) rfl)) (hw _ (List.mem_of_getElem? (i := 19) rfl)) (by decide) (by decide)) q112a q112c (g := (mkF m 97 #[.val (.int p0), .val (.int p1), .val (.int st), .val (.ref (own_fs st u n b)), .val (.ref (own_fs st tU tN tB))] [(.ref a107), (.ref (own_fs st tU tN tB))])) rfl (by rw [hml]; rfl) (Steps.refl _) (argsL := [(.ref a107)]) (rest := []) (lenOf pd__Ljava_lang_Object__Z rfl) rfl (by show 2 * 0 + _ ≤ _; exact Nat.le_of_eq rfl) (hb hby at_97) (fun _ _ => ⟨rfl, e107, (by decide : 2 + 0 ≤ _), (by decide : 48 + 0 ≤ _)⟩)
      dsimp only [Pt.U, Pt.locs, Pt.cells, Pt.slots] at X112 l112 y112 z112 st112 hQ112
      subst l112 y112 z112
      obtain ⟨rfl, Nq112, eq112⟩ := hQ112
      have N112 := Fr.app N87 Nq112
      have c113 : Goes p e below s₁ (entryFrame m #[(.int p0), (.int p1)] maxLocals) T112 (mkF m 100 #[.val (.int p0), .val (.int p1), .val (.int st), .val (.ref (own_fs st u n b)), .val (.ref (own_fs st tU tN tB))] [(.int (1 : Int32))]) := fun t kk => c108 t (st112.trans kk)
      have c114 : Goes p e below s₁ (entryFrame m #[(.int p0), (.int p1)] maxLocals) T112 (mkF m 108 #[.val (.int p0), .val (.int p1), .val (.int st), .val (.ref (own_fs st u n b)), .val (.ref (own_fs st tU tN tB))] [(.int (1 : Int32))]) := by
        intro t kk
        refine c113 t ?_
        show Steps p.tables e below (T112.setTop (mkF m 100 #[.val (.int p0), .val (.int p1), .val (.int st), .val (.ref (own_fs st u n b)), .val (.ref (own_fs st tU tN tB))] [(.int (1 : Int32))])) t
        refine XS.ifNo X112.here hx rfl (hb hby at_100) rfl ((if0 _ _).trans (feq (by decide : ¬ ((1 : Int32) = (0 : Int32)))).1) ?_
        show Steps p.tables e below (T112.setTop (mkF m 103 #[.val (.int p0), .val (.int p1), .val (.int st), .val (.ref (own_fs st u n b)), .val (.ref (own_fs st tU tN tB))] [])) t
        refine XS.iconst X112.here hx rfl (hb hby at_103) ?_
        show Steps p.tables e below (T112.setTop (mkF m 104 #[.val (.int p0), .val (.int p1), .val (.int st), .val (.ref (own_fs st u n b)), .val (.ref (own_fs st tU tN tB))] [(.int (1 : Int32))])) t
        refine XS.goto X112.here hx rfl (pc0 := 104) (pc' := 108) rfl (hb hby at_104) (by decide) (by decide) ?_
        exact kk
      obtain ⟨fs, hr, hrun, hended, hRW⟩ := X112.leaveW S107 (by rw [eq112]; exact hk107) (v := some (.int (1 : Int32))) (fun h => by rw [Bd.returns] at h; cases h)
      refine ⟨_, _, c114 _ ?_, hrun, hended, _, _, rfl, ?_, hRW.1, hRW.2.1, hRW.2.2.1, hRW.2.2.2.mono (by decide) (by decide)⟩
      · exact retN X112 hx (t := .boolean) Bd.returns (by simp) (hb hby at_108) hr
      · show Q_law Z p0 p1 z u n b tU tN tB h0 n0 _ T112.heap _
        rw [eq112]
        exact ⟨rfl, N112⟩
  · have c115 : Goes p e below s₁ (entryFrame m #[(.int p0), (.int p1)] maxLocals) T87 (mkF m 34 #[.val (.int p0), .val (.int p1), .val (.int st), .val (.ref (own_fs st u n b)), .val (.ref (own_fs st tU tN tB))] [(.ref (own_fs st u n b))]) := by
      intro t kk
      refine c89 t ?_
      show Steps p.tables e below (T87.setTop (mkF m 30 #[.val (.int p0), .val (.int p1), .val (.int st), .val (.ref (own_fs st u n b)), .val (.ref (own_fs st tU tN tB))] [(.int (500 : Int32)), (.int st)])) t
      refine XS.icmpNo X87.here hx rfl (hb hby at_30) rfl (flt h30).1 ?_
      show Steps p.tables e below (T87.setTop (mkF m 33 #[.val (.int p0), .val (.int p1), .val (.int st), .val (.ref (own_fs st u n b)), .val (.ref (own_fs st tU tN tB))] [])) t
      refine XS.aloadN X87.here hx rfl (hb hby at_33) rfl rfl ?_
      exact kk
    obtain ⟨T116, X116, e116, st116⟩ := getS2 X87 hx hZ hown (host := "") (Or.inl (hw _ (List.mem_of_getElem? (i := 17) rfl))) Via.refl eq87 (S_U.ext O0.2) (g := (mkF m 34 #[.val (.int p0), .val (.int p1), .val (.int st), .val (.ref (own_fs st u n b)), .val (.ref (own_fs st tU tN tB))] [(.ref (own_fs st u n b))])) rfl (hb hby at_34)
    have c117 : Goes p e below s₁ (entryFrame m #[(.int p0), (.int p1)] maxLocals) T116 (mkF m 37 #[.val (.int p0), .val (.int p1), .val (.int st), .val (.ref (own_fs st u n b)), .val (.ref (own_fs st tU tN tB))] [(.ref u), (.ref (own_fs st u n b))]) := fun t kk => c115 t (st116 t kk)
    have c118 : Goes p e below s₁ (entryFrame m #[(.int p0), (.int p1)] maxLocals) T116 (mkF m 42 #[.val (.int p0), .val (.int p1), .val (.int st), .val (.ref (own_fs st u n b)), .val (.ref (own_fs st tU tN tB))] [(.ref (own_fs st tU tN tB))]) := by
      intro t kk
      refine c117 t ?_
      show Steps p.tables e below (T116.setTop (mkF m 37 #[.val (.int p0), .val (.int p1), .val (.int st), .val (.ref (own_fs st u n b)), .val (.ref (own_fs st tU tN tB))] [(.ref u), (.ref (own_fs st u n b))])) t
      refine Jvm.RoadKit.acmp (g := (mkF m 37 #[.val (.int p0), .val (.int p1), .val (.int st), .val (.ref (own_fs st u n b)), .val (.ref (own_fs st tU tN tB))] [(.ref u), (.ref (own_fs st u n b))])) X116 hx rfl rfl rfl (pc0 := 37) (pc' := 40) (same := true) rfl (hb hby at_37) rfl (decide_eq_true (congrArg Value.ref (own_fsU u n b h30))) (by decide) (by decide) ?_
      show Steps p.tables e below (T116.setTop (mkF m 40 #[.val (.int p0), .val (.int p1), .val (.int st), .val (.ref (own_fs st u n b)), .val (.ref (own_fs st tU tN tB))] [])) t
      refine XS.aload X116.here hx rfl (hb hby at_40) rfl rfl ?_
      exact kk
    obtain ⟨a119, T119, h119, kk119, sb119, sk119, X119, e119, E119, S119, hk119, hZ119, ho119, sE119, sC119, sV119, sA119, -, -, hCr119, -, -, st119⟩ := ldcCH X116 hx hZ hown (hw _ (List.mem_of_getElem? (i := 18) rfl)) (own_wS hw) e116 SW0 (Nat.zero_le _) hEL (List.mem_of_getElem? (i := 0) rfl) hCH0 (vs := ((([117, 110, 97, 118, 97, 105, 108, 97, 98, 108, 101] : List Int32)).map StrChars.lo8).map Value.int) (z := Int32.ofNat (([117, 110, 97, 118, 97, 105, 108, 97, 98, 108, 101] : List Int32)).length) (by decide +kernel) (by decide) (by decide) (g := (mkF m 42 #[.val (.int p0), .val (.int p1), .val (.int st), .val (.ref (own_fs st u n b)), .val (.ref (own_fs st tU tN tB))] [(.ref (own_fs st tU tN tB))])) rfl (hb hby at_42) (n := 44) (by decide) (by decide) (by decide) (by decide)
    have c120 : Goes p e below s₁ (entryFrame m #[(.int p0), (.int p1)] maxLocals) T119 (mkF m 44 #[.val (.int p0), .val (.int p1), .val (.int st), .val (.ref (own_fs st u n b)), .val (.ref (own_fs st tU tN tB))] [(.ref a119), (.ref (own_fs st tU tN tB))]) := fun t kk => c118 t (st119 t kk)
    have Lt119 : own_str Z h119 a119 ([117, 110, 97, 118, 97, 105, 108, 97, 98, 108, 101] : List Int32) := ⟨sE119, sC119, by decide, sb119, sk119, sV119, sA119⟩
    have f121 := (O0.ext E119)
    have es122 : own_str Z h119 (own_fs st tU tN tB) ([117, 110, 97, 118, 97, 105, 108, 97, 98, 108, 101] : List Int32) := by rw [own_fsU tU tN tB h30]; exact own_sext X_U f121.2
    have f123 := (Nat.le_trans Z0 E119.1)
    obtain ⟨cq124, kq124, q124a, q124b, q124c⟩ := isOf hZ119 e119 es122.1
    obtain ⟨_, _, ⟨T124, L124, k124, n124⟩, -, X124, ⟨Lc124, hQ124, l124, y124, z124⟩, st124⟩ := X119.virtualBack hx (y := (⟨"java/lang/String", "equals", "(Ljava/lang/Object;)Z"⟩ : MethodName)) (z := (⟨"java/lang/String", "equals", "(Ljava/lang/Object;)Z"⟩ : MethodName)) ho119 (mvT hZ119 (hw _ (List.mem_of_getElem? (i := 26) rfl))) (mvT hZ119 (hw _ (List.mem_of_getElem? (i := 27) rfl))) (notFace_of_selects (args := #[]) (mvT hZ119 (hw _ (List.mem_of_getElem? (i := 29) rfl)))) (mvT hZ119 (hw _ (List.mem_of_getElem? (i := 29) rfl))) (mvT hZ119 (hw _ (List.mem_of_getElem? (i := 28) rfl))) (by decide) (backOf (W := 0) (rm_eqs l Z a0 hw [] (own_fs st tU tN tB) a119 ([117, 110, 97, 118, 97, 105, 108, 97, 98, 108, 101] : List Int32) z h119 n0 f123 es122 Lt119 (S2.ext f121.2) hz (by decide)) hZ119 (hw _ (List.mem_of_getElem? (i := 30) rfl)) (hw _ (List.mem_of_getElem? (i := 19) rfl)) (by decide) (by decide)) q124a q124c (g := (mkF m 44 #[.val (.int p0), .val (.int p1), .val (.int st), .val (.ref (own_fs st u n b)), .val (.ref (own_fs st tU tN tB))] [(.ref a119), (.ref (own_fs st tU tN tB))])) rfl (by rw [hml]; rfl) (Steps.refl _) (argsL := [(.ref a119)]) (rest := []) (lenOf pd__Ljava_lang_Object__Z rfl) rfl (by show 2 * 0 + _ ≤ _; exact Nat.le_of_eq rfl) (hb hby at_44) (fun _ _ => ⟨rfl, e119, (by decide : 2 + 0 ≤ _), (by decide : 48 + 0 ≤ _)⟩)
    dsimp only [Pt.U, Pt.locs, Pt.cells, Pt.slots] at X124 l124 y124 z124 st124 hQ124
    subst l124 y124 z124
    obtain ⟨rfl, Nq124, eq124⟩ := hQ124
    have N124 := Fr.app N87 Nq124
    have c125 : Goes p e below s₁ (entryFrame m #[(.int p0), (.int p1)] maxLocals) T124 (mkF m 47 #[.val (.int p0), .val (.int p1), .val (.int st), .val (.ref (own_fs st u n b)), .val (.ref (own_fs st tU tN tB))] [(.int (1 : Int32))]) := fun t kk => c120 t (st124.trans kk)
    have c126 : Goes p e below s₁ (entryFrame m #[(.int p0), (.int p1)] maxLocals) T124 (mkF m 55 #[.val (.int p0), .val (.int p1), .val (.int st), .val (.ref (own_fs st u n b)), .val (.ref (own_fs st tU tN tB))] [(.int (1 : Int32))]) := by
      intro t kk
      refine c125 t ?_
      show Steps p.tables e below (T124.setTop (mkF m 47 #[.val (.int p0), .val (.int p1), .val (.int st), .val (.ref (own_fs st u n b)), .val (.ref (own_fs st tU tN tB))] [(.int (1 : Int32))])) t
      refine XS.ifNo X124.here hx rfl (hb hby at_47) rfl ((if0 _ _).trans (feq (by decide : ¬ ((1 : Int32) = (0 : Int32)))).1) ?_
      show Steps p.tables e below (T124.setTop (mkF m 50 #[.val (.int p0), .val (.int p1), .val (.int st), .val (.ref (own_fs st u n b)), .val (.ref (own_fs st tU tN tB))] [])) t
      refine XS.iconst X124.here hx rfl (hb hby at_50) ?_
      show Steps p.tables e below (T124.setTop (mkF m 51 #[.val (.int p0), .val (.int p1), .val (.int st), .val (.ref (own_fs st u n b)), .val (.ref (own_fs st tU tN tB))] [(.int (1 : Int32))])) t
      refine XS.goto X124.here hx rfl (pc0 := 51) (pc' := 55) rfl (hb hby at_51) (by decide) (by decide) ?_
      exact kk
    obtain ⟨fs, hr, hrun, hended, hRW⟩ := X124.leaveW S119 (by rw [eq124]; exact hk119) (v := some (.int (1 : Int32))) (fun h => by rw [Bd.returns] at h; cases h)
    refine ⟨_, _, c126 _ ?_, hrun, hended, _, _, rfl, ?_, hRW.1, hRW.2.1, hRW.2.2.1, hRW.2.2.2.mono (by decide) (by decide)⟩
    · exact retN X124 hx (t := .boolean) Bd.returns (by simp) (hb hby at_55) hr
    · show Q_law Z p0 p1 z u n b tU tN tB h0 n0 _ T124.heap _
      rw [eq124]
      exact ⟨rfl, N124⟩
set_option maxRecDepth 65536 in
set_option maxHeartbeats 40000000 in
theorem comes_1 {Post : Tables → Env → Array Value → State → Outcome → State → Prop} (hpost : ∀ tb e args s v u, (limb_1_1.after args s (.returned v) u = true ∧ limb_1_2.after args s (.returned v) u = true ∧ True) → ReturnedEndW s (.returned v) u (Jvm.fieldLocs frame_1_writes args s ++ Jvm.arrayLocs frame_1_arrays args s ++ Jvm.staticLocs frame_1_statics s) 8 3136 → Post tb e args s (.returned v) u) :
    ArmFor flags0 classFile x code maxLocals ret World_1 tables_1 room_1 Calls_1 rest_1 Pre_1 Post := by
  intro l hfl _ _ p e ha hc hk s m args below hf hA hF happ hP
  obtain ⟨hcalls, hrest, hpre⟩ := hP
  obtain ⟨-, -, -, hnamed, -, -, -, hat⟩ := (Spec.applies_iff hf).mp happ
  obtain ⟨hg, hn⟩ := and_e (Cond.before_iff.mp (show (Jvm.Cond.and given_1 narrow_1).before args s = true from hpre))
  obtain ⟨gg1, gg2⟩ := and_e hg
  obtain ⟨gg3, gg4⟩ := and_e gg2
  obtain ⟨w0, w1, rfl⟩ : ∃ w0 w1 : Value, args = #[w0, w1] := by
    have hs : args.size = 2 := by simpa [Cond.value, given_1] using gg1
    obtain ⟨L⟩ := args
    match L, hs with
    | [w0, w1], _ => exact ⟨w0, w1, rfl⟩
  have hw := fun d (hd : d ∈ tables_1) => atoms_spec (ws := Jvm.Cond.code x code maxLocals ret :: tables_1) hat d (List.mem_cons_of_mem _ hd)
  have hfit : Fit s := fun {y c} hc i hi => by
    obtain ⟨ha, rfl⟩ := Array.getElem?_eq_some_iff.mp hc
    have q := List.all_eq_true.mp ((Array.all_eq_true_iff_forall_mem.mp hF) _ (Array.getElem_mem ha)) i (List.mem_range.mpr hi)
    simpa [Array.getElem?_eq_getElem hi] using q
  obtain ⟨hsets, hown0⟩ := atoms_of _ (rest_1_c_eq ▸ (show rest_1_c.before _ s = true from hrest))
  have hr0 := Cond.before_iff.mp hown0
  obtain ⟨i0, ei0⟩ := is_v gg3
  obtain rfl : w0 = (.int i0) := Option.some.inj ei0
  obtain ⟨i1, ei1⟩ := is_v gg4
  obtain rfl : w1 = (.int i1) := Option.some.inj ei1
  obtain ⟨nn1, nn2⟩ := and_e hn
  obtain ⟨nn3, nn4⟩ := and_e nn2
  obtain ⟨nn5, nn6⟩ := and_e nn4
  obtain ⟨nn7, nn8⟩ := and_e nn6
  obtain ⟨nn9, nn10⟩ := and_e nn8
  obtain ⟨nn11, nn12⟩ := and_e nn10
  obtain ⟨nn13, nn14⟩ := and_e nn12
  obtain ⟨nn15, nn16⟩ := and_e nn14
  obtain ⟨nn17, nn18⟩ := and_e nn16
  obtain ⟨nn19, nn20⟩ := and_e nn18
  obtain ⟨nn21, nn22⟩ := and_e nn20
  obtain ⟨nn23, nn24⟩ := and_e nn22
  obtain ⟨nn25, nn26⟩ := and_e nn24
  obtain ⟨nn27, nn28⟩ := and_e nn26
  obtain ⟨nn29, nn30⟩ := and_e nn28
  obtain ⟨nn31, nn32⟩ := and_e nn30
  obtain ⟨nn33, nn34⟩ := and_e nn32
  obtain ⟨nn35, nn36⟩ := and_e nn34
  obtain ⟨nn37, nn38⟩ := and_e nn36
  obtain ⟨nn39, nn40⟩ := and_e nn38
  obtain ⟨nn41, nn42⟩ := and_e nn40
  obtain ⟨nn43, nn44⟩ := and_e nn42
  obtain ⟨nn45, nn46⟩ := and_e nn44
  obtain ⟨nn47, nn48⟩ := and_e nn46
  obtain ⟨nn49, nn50⟩ := and_e nn48
  obtain ⟨nn51, nn52⟩ := and_e nn50
  obtain ⟨nn53, nn54⟩ := and_e nn52
  obtain ⟨nn55, nn56⟩ := and_e nn54
  obtain ⟨nn57, nn58⟩ := and_e nn56
  obtain ⟨nn59, nn60⟩ := and_e nn58
  obtain ⟨nn61, nn62⟩ := and_e nn60
  obtain ⟨nn63, nn64⟩ := and_e nn62
  obtain ⟨nn65, nn66⟩ := and_e nn64
  obtain ⟨nn67, nn68⟩ := and_e nn66
  obtain ⟨nn69, nn70⟩ := and_e nn68
  obtain ⟨nn71, nn72⟩ := and_e nn70
  obtain ⟨nn73, nn74⟩ := and_e nn72
  obtain ⟨nn75, nn76⟩ := and_e nn74
  obtain ⟨nn77, nn78⟩ := and_e nn76
  obtain ⟨nn79, nn80⟩ := and_e nn78
  obtain ⟨nn81, nn82⟩ := and_e nn80
  obtain ⟨nn83, nn84⟩ := and_e nn82
  obtain ⟨nn85, nn86⟩ := and_e nn84
  obtain ⟨nn87, nn88⟩ := and_e nn86
  obtain ⟨nn89, nn90⟩ := and_e nn88
  obtain ⟨z, vz⟩ := is_v (Cond.before_iff.mp (hsets _ (List.mem_of_getElem? (i := 1) rfl)))
  have S2 := Sta.start vz (Or.inl (hsets _ (List.mem_of_getElem? (i := 0) rfl)))
  have hz : ¬ z = 0 := own_nz vz (Cond.before_iff.mp (hsets _ (List.mem_of_getElem? (i := 2) rfl)))
  obtain ⟨u, v_u⟩ := exa_v nn1
  have E_U := Exa.start v_u nn1
  have S_U := Sta.start v_u (Or.inr ⟨hw _ (List.mem_of_getElem? (i := 6) rfl), hw _ (List.mem_of_getElem? (i := 9) rfl)⟩)
  obtain ⟨tU, v_tU⟩ := exa_v nn3
  have F_U := Fld.start ((fld_at v_u).symm.trans v_tU)
  have X_U : own_str s s.heap tU ([117, 110, 97, 118, 97, 105, 108, 97, 98, 108, 101] : List Int32) := own_strstart hfit v_tU nn3 nn5 nn7 nn9 (by decide) (by decide) (fun i hi => match i, hi with | 0, _ => nn31 | 1, _ => nn33 | 2, _ => nn35 | 3, _ => nn37 | 4, _ => nn39 | 5, _ => nn41 | 6, _ => nn43 | 7, _ => nn45 | 8, _ => nn47 | 9, _ => nn49 | 10, _ => nn51 | n + 11, q => absurd q (by simp))
  obtain ⟨n, v_n⟩ := exa_v nn11
  have E_N := Exa.start v_n nn11
  have S_N := Sta.start v_n (Or.inr ⟨hw _ (List.mem_of_getElem? (i := 6) rfl), hw _ (List.mem_of_getElem? (i := 41) rfl)⟩)
  obtain ⟨tN, v_tN⟩ := exa_v nn13
  have F_N := Fld.start ((fld_at v_n).symm.trans v_tN)
  have X_N : own_str s s.heap tN ([110, 111, 116, 95, 102, 111, 117, 110, 100] : List Int32) := own_strstart hfit v_tN nn13 nn15 nn17 nn19 (by decide) (by decide) (fun i hi => match i, hi with | 0, _ => nn53 | 1, _ => nn55 | 2, _ => nn57 | 3, _ => nn59 | 4, _ => nn61 | 5, _ => nn63 | 6, _ => nn65 | 7, _ => nn67 | 8, _ => nn69 | n + 9, q => absurd q (by simp))
  obtain ⟨b, v_b⟩ := exa_v nn21
  have E_B := Exa.start v_b nn21
  have S_B := Sta.start v_b (Or.inr ⟨hw _ (List.mem_of_getElem? (i := 6) rfl), hw _ (List.mem_of_getElem? (i := 45) rfl)⟩)
  obtain ⟨tB, v_tB⟩ := exa_v nn23
  have F_B := Fld.start ((fld_at v_b).symm.trans v_tB)
  have X_B : own_str s s.heap tB ([98, 97, 100, 95, 114, 101, 113, 117, 101, 115, 116] : List Int32) := own_strstart hfit v_tB nn23 nn25 nn27 nn29 (by decide) (by decide) (fun i hi => match i, hi with | 0, _ => nn71 | 1, _ => nn73 | 2, _ => nn75 | 3, _ => nn77 | 4, _ => nn79 | 5, _ => nn81 | 6, _ => nn83 | 7, _ => nn85 | 8, _ => nn87 | 9, _ => nn89 | 10, _ => nn90 | n + 11, q => absurd q (by simp))
  have hEL : EW s _ consts_1 := (EW.cons (hw _ (List.mem_of_getElem? (i := 18) rfl)) (by decide +kernel) (EW.cons (hw _ (List.mem_of_getElem? (i := 43) rfl)) (by decide +kernel) (EW.cons (hw _ (List.mem_of_getElem? (i := 47) rfl)) (by decide +kernel) EW.nil)))
  have hCH : CHv s consts_1 s.vm s.heap := CHv.start hEL hcalls.1 (hsets _ (List.mem_of_getElem? (i := 2) rfl)) (own_wS hw _ (List.mem_of_getElem? (i := 2) rfl)) (own_wS hw _ (List.mem_of_getElem? (i := 1) rfl))
  obtain ⟨n, o, h1, h2, h3, _, L, rfl, ⟨rfl, N⟩, hq⟩ := rm_law l s _ hw tables_1 i0 i1 z u n b tU tN tB s.heap s.heap.size (Nat.le_refl _) hEL (Old.start s) S2 hz S_U S_N S_B E_U E_N E_B F_U F_N F_B X_U X_N X_B p e ha hc hk s m _ below hf ((Spec.applies_iff_loose hf).mp happ).1 ⟨rfl, State.Warmed39.refl s, rfl, hCH⟩ trivial
  refine ⟨n, _, h1, h2, h3, hpost _ _ _ _ _ _ ⟨Cond.after_iff.mpr rfl, Cond.after_iff.mpr (eq_i res_at (Term.int_eval (1)) rfl), trivial⟩ ⟨hq.1, hq.2.1, hq.2.2.1, (hq.2.2.2.sift fun y hy => Or.inr (N y hy)).mono (by decide) (by decide)⟩⟩
theorem main_1_1 : Claimed_1_1 := comes_1 fun _ _ _ _ _ _ h hF => ⟨h.1, hF⟩
theorem main_1_2 : Claimed_1_2 := comes_1 fun _ _ _ _ _ _ h hF => ⟨h.2.1, hF⟩
end Jvm.Pilot.@@N@@
namespace Jvm.Pilot.@@N@@
open Jvm Jvm.ClassFile Sem Op Lib Jvm.Free Jvm.Stand Jvm.Pilot.@@N@@.Jvm.D
/-! MADE BY PROGRAM (witnessworld.py) out of the Statement's table words and the real class files: 18 classes; the members and pool entries that the words name. The judged class is class 1, her method 2. -/
namespace start1
open Jvm.ClassFile
def u (s : String) : CpInfo := .utf8 (stringToUtf16 s)
/-- a pool by its gaps: so many unusable entries, then the entry; so many at the end -/
def gap : Nat → List CpInfo → List CpInfo
  | 0, r => r
  | n + 1, r => .unusable :: gap n r
def poolList (es : List (Nat × CpInfo)) (last : Nat) : List CpInfo := es.foldr (fun e r => gap e.1 (e.2 :: r)) (gap last [])
def pool (es : List (Nat × CpInfo)) (last : Nat) : Array CpInfo := ⟨poolList es last⟩
def fileOf (pool : Array CpInfo) (this : Nat) (attrs : Array Attribute := #[]) (ms : Array MethodInfo := #[]) (fl : Nat := 33) (sup : Nat := 0) (ifs : Array Nat := #[]) (fds : Array FieldInfo := #[]) : ClassFile where
  minorVersion := 0
  majorVersion := 65
  constantPool := pool
  accessFlags := fl
  thisClass := this
  superClass := sup
  interfaces := ifs
  fields := fds
  methods := ms
  attributes := attrs
def plain (name : String) (sup : Option ClassId) : Class where
  name := name
  kind := .ordinary
  loader := none
  accessFlags := 33
  super := sup
  interfaces := #[]
  cf := none
  fields := #[]
  methods := #[]
  instanceTypes := #[]
  staticTypes := #[]
  resolved := #[]
  callSites := []
  init := .initialized
  statics := none
  mirror := none

def pool0 : Array CpInfo := pool [(5, u "<init>"), (0, u "()V"), (1, .class_ 10), (1, u "java/lang/Object")] 113

def k0m0 : Method := { name := "<init>", desc := "()V", sig := { parameters := [], returnType := none }, accessFlags := 1, code := none }
/-- java/lang/Object -/
def k0 : Class := { plain "java/lang/Object" none with
  accessFlags := 33
  interfaces := #[]
  cf := some (fileOf pool0 8 #[] #[{ accessFlags := 1, nameIndex := 5, descriptorIndex := 6, attributes := #[] }] 33 0 #[] #[])
  fields := #[]
  methods := #[k0m0]
  instanceTypes := #[]
  staticTypes := #[]
  resolved := Array.replicate 124 none
  statics := none }

def pool1 : Array CpInfo := pool [(2, .class_ 4), (1, u "java/lang/Object"), (0, u "<init>"), (0, u "()V"), (2, .integer 2147483648), (0, .integer 2147483647), (0, .methodref 12 13), (0, .class_ 14), (0, .nameAndType 15 16), (0, u "com/example/sequence_dispenser/sequencedispenser/server/ErrorCodeForStatusPinLaw"), (0, u "pick"), (0, u "(II)I"), (0, .methodref 18 19), (0, .class_ 20), (0, .nameAndType 21 22), (0, u "com/example/sequence_dispenser/sequencedispenser/server/ErrorCode"), (0, u "forStatus"), (0, u "(I)Lcom/example/sequence_dispenser/sequencedispenser/server/ErrorCode;"), (0, .methodref 18 24), (0, .nameAndType 25 26), (0, u "getText"), (0, u "()Ljava/lang/String;"), (0, .fieldref 18 28), (0, .nameAndType 29 30), (0, u "UNAVAILABLE"), (0, u "Lcom/example/sequence_dispenser/sequencedispenser/server/ErrorCode;"), (0, .string 32), (0, u "unavailable"), (0, .methodref 34 35), (0, .class_ 36), (0, .nameAndType 37 38), (0, u "java/lang/String"), (0, u "equals"), (0, u "(Ljava/lang/Object;)Z"), (0, .fieldref 18 40), (0, .nameAndType 41 30), (0, u "NOT_FOUND"), (0, .string 43), (0, u "not_found"), (0, .fieldref 18 45), (0, .nameAndType 46 30), (0, u "BAD_REQUEST"), (0, .string 48), (0, u "bad_request"), (3, u "law"), (0, u "(II)Z")] 2

def k1m0 : Method := { name := "<init>", desc := "()V", sig := { parameters := [], returnType := none }, accessFlags := 1, code := none }
def k1c1 : Code := { maxStack := 2, maxLocals := 2, code := method_2_code, exceptionTable := #[], attributes := #[] }
def k1m1 : Method := { name := "pick", desc := "(II)I", sig := { parameters := [.int, .int], returnType := some .int }, accessFlags := 10, code := some k1c1 }
def k1c2 : Code := { maxStack := 3, maxLocals := 5, code := code, exceptionTable := #[], attributes := #[] }
def k1m2 : Method := { name := "law", desc := "(II)Z", sig := { parameters := [.int, .int], returnType := some .boolean }, accessFlags := 9, code := some k1c2 }
/-- com/example/sequence_dispenser/sequencedispenser/server/ErrorCodeForStatusPinLaw -/
def k1 : Class := { plain "com/example/sequence_dispenser/sequencedispenser/server/ErrorCodeForStatusPinLaw" (some 0) with
  accessFlags := 49
  interfaces := #[]
  cf := some (fileOf pool1 12 #[] #[{ accessFlags := 1, nameIndex := 5, descriptorIndex := 6, attributes := #[] }, { accessFlags := 10, nameIndex := 15, descriptorIndex := 16, attributes := #[] }, { accessFlags := 9, nameIndex := 52, descriptorIndex := 53, attributes := #[] }] 49 2 #[] #[])
  fields := #[]
  methods := #[k1m0, k1m1, k1m2]
  instanceTypes := #[]
  staticTypes := #[]
  resolved := Array.replicate 56 none
  statics := none }

def pool2 : Array CpInfo := pool [(1, .class_ 2), (0, u "java/lang/constant/Constable"), (0, .class_ 4), (0, u "java/lang/Object")] 6

/-- java/lang/constant/Constable -/
def k2 : Class := { plain "java/lang/constant/Constable" (some 0) with
  accessFlags := 1537
  interfaces := #[]
  cf := some (fileOf pool2 1 #[] #[] 1537 3 #[] #[])
  fields := #[]
  methods := #[]
  instanceTypes := #[]
  staticTypes := #[]
  resolved := Array.replicate 11 none
  statics := none }

def pool3 : Array CpInfo := pool [(1, .class_ 2), (0, u "java/lang/Comparable"), (0, .class_ 4), (0, u "java/lang/Object")] 7

/-- java/lang/Comparable -/
def k3 : Class := { plain "java/lang/Comparable" (some 0) with
  accessFlags := 1537
  interfaces := #[]
  cf := some (fileOf pool3 1 #[] #[] 1537 3 #[] #[])
  fields := #[]
  methods := #[]
  instanceTypes := #[]
  staticTypes := #[]
  resolved := Array.replicate 12 none
  statics := none }

def pool4 : Array CpInfo := pool [(1, .class_ 2), (0, u "java/io/Serializable"), (0, .class_ 4), (0, u "java/lang/Object")] 2

/-- java/io/Serializable -/
def k4 : Class := { plain "java/io/Serializable" (some 0) with
  accessFlags := 1537
  interfaces := #[]
  cf := some (fileOf pool4 1 #[] #[] 1537 3 #[] #[])
  fields := #[]
  methods := #[]
  instanceTypes := #[]
  staticTypes := #[]
  resolved := Array.replicate 7 none
  statics := none }

def pool5 : Array CpInfo := pool [(2, .class_ 4), (1, u "java/lang/Enum"), (0, u "name"), (0, u "Ljava/lang/String;"), (2, u "ordinal"), (0, u "I"), (1, .class_ 14), (1, u "java/lang/Object"), (4, u "hash"), (86, .class_ 108), (1, u "java/lang/Enum$EnumDesc"), (2, .class_ 112), (0, u "java/lang/constant/Constable"), (0, .class_ 114), (0, u "java/lang/Comparable"), (0, .class_ 116), (0, u "java/io/Serializable")] 87

/-- java/lang/Enum -/
def k5 : Class := { plain "java/lang/Enum" (some 0) with
  accessFlags := 1057
  interfaces := #[2, 3, 4]
  cf := some (fileOf pool5 2 #[.nestMembers #[106]] #[] 1057 12 #[111, 113, 115] #[{ accessFlags := 18, nameIndex := 5, descriptorIndex := 6, attributes := #[] }, { accessFlags := 18, nameIndex := 9, descriptorIndex := 10, attributes := #[] }, { accessFlags := 2, nameIndex := 19, descriptorIndex := 10, attributes := #[] }])
  fields := #[{ name := "name", type := (.object "java/lang/String"), accessFlags := 18, slot := 0, constantValue := 0 }, { name := "ordinal", type := .int, accessFlags := 18, slot := 1, constantValue := 0 }, { name := "hash", type := .int, accessFlags := 2, slot := 2, constantValue := 0 }]
  methods := #[]
  instanceTypes := #[(.object "java/lang/String"), .int, .int]
  staticTypes := #[]
  resolved := Array.replicate 204 none
  statics := none }

def pool6 : Array CpInfo := pool [(1, .class_ 2), (0, u "com/example/sequence_dispenser/sequencedispenser/server/ErrorCode"), (0, .fieldref 1 4), (0, .nameAndType 5 6), (0, u "BAD_REQUEST"), (0, u "Lcom/example/sequence_dispenser/sequencedispenser/server/ErrorCode;"), (0, .fieldref 1 8), (0, .nameAndType 9 6), (0, u "NOT_FOUND"), (2, u "CONFLICT"), (2, u "EXHAUSTED"), (0, .fieldref 1 17), (0, .nameAndType 18 6), (0, u "UNAVAILABLE"), (2, u "$VALUES"), (0, u "[Lcom/example/sequence_dispenser/sequencedispenser/server/ErrorCode;"), (6, .class_ 31), (1, u "java/lang/Enum"), (6, .fieldref 1 39), (0, .nameAndType 40 41), (0, u "text"), (0, u "Ljava/lang/String;"), (29, u "getText"), (0, u "()Ljava/lang/String;"), (0, u "forStatus"), (0, u "(I)Lcom/example/sequence_dispenser/sequencedispenser/server/ErrorCode;")] 6

def k6c0 : Code := { maxStack := 1, maxLocals := 1, code := prog_20_method_4_code, exceptionTable := #[], attributes := #[] }
def k6m0 : Method := { name := "getText", desc := "()Ljava/lang/String;", sig := { parameters := [], returnType := some (.object "java/lang/String") }, accessFlags := 0, code := some k6c0 }
def k6c1 : Code := { maxStack := 2, maxLocals := 2, code := prog_20_method_5_code, exceptionTable := #[], attributes := #[] }
def k6m1 : Method := { name := "forStatus", desc := "(I)Lcom/example/sequence_dispenser/sequencedispenser/server/ErrorCode;", sig := { parameters := [.int], returnType := some (.object "com/example/sequence_dispenser/sequencedispenser/server/ErrorCode") }, accessFlags := 8, code := some k6c1 }
/-- com/example/sequence_dispenser/sequencedispenser/server/ErrorCode -/
def k6 : Class := { plain "com/example/sequence_dispenser/sequencedispenser/server/ErrorCode" (some 5) with
  accessFlags := 16432
  interfaces := #[]
  cf := some (fileOf pool6 1 #[] #[{ accessFlags := 0, nameIndex := 71, descriptorIndex := 72, attributes := #[] }, { accessFlags := 8, nameIndex := 73, descriptorIndex := 74, attributes := #[] }] 16432 29 #[] #[{ accessFlags := 16409, nameIndex := 5, descriptorIndex := 6, attributes := #[] }, { accessFlags := 16409, nameIndex := 9, descriptorIndex := 6, attributes := #[] }, { accessFlags := 16409, nameIndex := 12, descriptorIndex := 6, attributes := #[] }, { accessFlags := 16409, nameIndex := 15, descriptorIndex := 6, attributes := #[] }, { accessFlags := 16409, nameIndex := 18, descriptorIndex := 6, attributes := #[] }, { accessFlags := 18, nameIndex := 40, descriptorIndex := 41, attributes := #[] }, { accessFlags := 4122, nameIndex := 21, descriptorIndex := 22, attributes := #[] }])
  fields := #[{ name := "BAD_REQUEST", type := (.object "com/example/sequence_dispenser/sequencedispenser/server/ErrorCode"), accessFlags := 16409, slot := 0, constantValue := 0 }, { name := "NOT_FOUND", type := (.object "com/example/sequence_dispenser/sequencedispenser/server/ErrorCode"), accessFlags := 16409, slot := 1, constantValue := 0 }, { name := "CONFLICT", type := (.object "com/example/sequence_dispenser/sequencedispenser/server/ErrorCode"), accessFlags := 16409, slot := 2, constantValue := 0 }, { name := "EXHAUSTED", type := (.object "com/example/sequence_dispenser/sequencedispenser/server/ErrorCode"), accessFlags := 16409, slot := 3, constantValue := 0 }, { name := "UNAVAILABLE", type := (.object "com/example/sequence_dispenser/sequencedispenser/server/ErrorCode"), accessFlags := 16409, slot := 4, constantValue := 0 }, { name := "text", type := (.object "java/lang/String"), accessFlags := 18, slot := 3, constantValue := 0 }, { name := "$VALUES", type := (.array (.object "com/example/sequence_dispenser/sequencedispenser/server/ErrorCode")), accessFlags := 4122, slot := 5, constantValue := 0 }]
  methods := #[k6m0, k6m1]
  instanceTypes := #[(.object "java/lang/String"), .int, .int, (.object "java/lang/String")]
  staticTypes := #[(.object "com/example/sequence_dispenser/sequencedispenser/server/ErrorCode"), (.object "com/example/sequence_dispenser/sequencedispenser/server/ErrorCode"), (.object "com/example/sequence_dispenser/sequencedispenser/server/ErrorCode"), (.object "com/example/sequence_dispenser/sequencedispenser/server/ErrorCode"), (.object "com/example/sequence_dispenser/sequencedispenser/server/ErrorCode"), (.array (.object "com/example/sequence_dispenser/sequencedispenser/server/ErrorCode"))]
  resolved := Array.replicate 81 none
  statics := some 0 }

def pool7 : Array CpInfo := pool [(2, .class_ 4), (1, u "java/lang/CharSequence"), (42, .class_ 48), (0, u "java/lang/CharSequence$1CodePointIterator"), (10, .class_ 60), (0, u "java/lang/CharSequence$1CharIterator"), (5, .class_ 67), (0, u "java/lang/Object")] 63

/-- java/lang/CharSequence -/
def k7 : Class := { plain "java/lang/CharSequence" (some 0) with
  accessFlags := 1537
  interfaces := #[]
  cf := some (fileOf pool7 2 #[.nestMembers #[47, 59]] #[] 1537 66 #[] #[])
  fields := #[]
  methods := #[]
  instanceTypes := #[]
  staticTypes := #[]
  resolved := Array.replicate 131 none
  statics := none }

def pool8 : Array CpInfo := pool [(1, .class_ 2), (0, u "java/lang/constant/ConstantDesc"), (0, .class_ 4), (0, u "java/lang/Object")] 32

/-- java/lang/constant/ConstantDesc -/
def k8 : Class := { plain "java/lang/constant/ConstantDesc" (some 0) with
  accessFlags := 1537
  interfaces := #[]
  cf := some (fileOf pool8 1 #[] #[] 1537 3 #[] #[])
  fields := #[]
  methods := #[]
  instanceTypes := #[]
  staticTypes := #[]
  resolved := Array.replicate 37 none
  statics := none }

def pool9 : Array CpInfo := pool [(2, .class_ 4), (1, u "java/lang/Object"), (0, u "<init>"), (0, u "()V"), (2, .fieldref 10 11), (0, .class_ 12), (0, .nameAndType 13 14), (0, u "java/lang/String"), (0, u "value"), (0, u "[B"), (0, .fieldref 10 16), (0, .nameAndType 17 18), (0, u "coder"), (0, u "B"), (2, u "hash"), (0, u "I"), (2, u "hashIsZero"), (0, u "Z"), (11, .fieldref 10 39), (0, .nameAndType 40 26), (0, u "COMPACT_STRINGS"), (66, .class_ 109), (1, u "java/lang/StringLatin1"), (431, .methodref 107 542), (0, .nameAndType 543 544), (0, u "equals"), (0, u "([B[B)Z"), (28, u "(Ljava/lang/Object;)Z"), (1, .class_ 576), (0, u "java/lang/CharSequence"), (22, u "CASE_INSENSITIVE_ORDER"), (0, u "Ljava/util/Comparator;"), (500, u "serialPersistentFields"), (0, u "[Ljava/io/ObjectStreamField;"), (0, .class_ 1104), (0, u "java/lang/String$CaseInsensitiveComparator"), (1, .class_ 1107), (0, u "java/io/Serializable"), (0, .class_ 1109), (0, u "java/lang/Comparable"), (0, .class_ 1111), (0, u "java/lang/constant/Constable"), (0, .class_ 1113), (0, u "java/lang/constant/ConstantDesc"), (2, u "serialVersionUID"), (0, u "J"), (3, u "REPL"), (0, u "C"), (2, u "LATIN1"), (1, u "UTF16")] 323

def k9m0 : Method := { name := "<init>", desc := "()V", sig := { parameters := [], returnType := none }, accessFlags := 1, code := none }
def k9c1 : Code := { maxStack := 2, maxLocals := 3, code := jdk_42_method_66_code, exceptionTable := #[], attributes := #[] }
def k9m1 : Method := { name := "equals", desc := "(Ljava/lang/Object;)Z", sig := { parameters := [(.object "java/lang/Object")], returnType := some .boolean }, accessFlags := 1, code := some k9c1 }
/-- java/lang/String -/
def k9 : Class := { plain "java/lang/String" (some 0) with
  accessFlags := 49
  interfaces := #[4, 3, 7, 2, 8]
  cf := some (fileOf pool9 10 #[.nestMembers #[1103]] #[{ accessFlags := 1, nameIndex := 5, descriptorIndex := 6, attributes := #[] }, { accessFlags := 1, nameIndex := 543, descriptorIndex := 573, attributes := #[] }] 49 2 #[1106, 1108, 575, 1110, 1112] #[{ accessFlags := 18, nameIndex := 13, descriptorIndex := 14, attributes := #[] }, { accessFlags := 18, nameIndex := 17, descriptorIndex := 18, attributes := #[] }, { accessFlags := 2, nameIndex := 21, descriptorIndex := 22, attributes := #[] }, { accessFlags := 2, nameIndex := 25, descriptorIndex := 26, attributes := #[] }, { accessFlags := 26, nameIndex := 1116, descriptorIndex := 1117, attributes := #[] }, { accessFlags := 24, nameIndex := 40, descriptorIndex := 26, attributes := #[] }, { accessFlags := 26, nameIndex := 1101, descriptorIndex := 1102, attributes := #[] }, { accessFlags := 26, nameIndex := 1121, descriptorIndex := 1122, attributes := #[] }, { accessFlags := 25, nameIndex := 599, descriptorIndex := 600, attributes := #[] }, { accessFlags := 24, nameIndex := 1125, descriptorIndex := 18, attributes := #[] }, { accessFlags := 24, nameIndex := 1127, descriptorIndex := 18, attributes := #[] }])
  fields := #[{ name := "value", type := (.array .byte), accessFlags := 18, slot := 0, constantValue := 0 }, { name := "coder", type := .byte, accessFlags := 18, slot := 1, constantValue := 0 }, { name := "hash", type := .int, accessFlags := 2, slot := 2, constantValue := 0 }, { name := "hashIsZero", type := .boolean, accessFlags := 2, slot := 3, constantValue := 0 }, { name := "serialVersionUID", type := .long, accessFlags := 26, slot := 0, constantValue := 0 }, { name := "COMPACT_STRINGS", type := .boolean, accessFlags := 24, slot := 1, constantValue := 0 }, { name := "serialPersistentFields", type := (.array (.object "java/io/ObjectStreamField")), accessFlags := 26, slot := 2, constantValue := 0 }, { name := "REPL", type := .char, accessFlags := 26, slot := 3, constantValue := 0 }, { name := "CASE_INSENSITIVE_ORDER", type := (.object "java/util/Comparator"), accessFlags := 25, slot := 4, constantValue := 0 }, { name := "LATIN1", type := .byte, accessFlags := 24, slot := 5, constantValue := 0 }, { name := "UTF16", type := .byte, accessFlags := 24, slot := 6, constantValue := 0 }]
  methods := #[k9m0, k9m1]
  instanceTypes := #[(.array .byte), .byte, .int, .boolean]
  staticTypes := #[.long, .boolean, (.array (.object "java/io/ObjectStreamField")), .char, (.object "java/util/Comparator"), .byte, .byte]
  resolved := Array.replicate 1451 none
  statics := some 1 }

def pool10 : Array CpInfo := pool [(4, .class_ 6), (1, u "java/lang/Object"), (0, u "<init>"), (0, u "()V"), (5, .class_ 16), (1, u "java/lang/StringLatin1"), (104, u "$assertionsDisabled"), (0, u "Z"), (98, .class_ 223), (1, u "java/lang/StringLatin1$LinesSpliterator"), (57, u "equals"), (0, u "([B[B)Z"), (107, .class_ 391), (0, u "java/lang/StringLatin1$CharsSpliterator")] 3

def k10m0 : Method := { name := "<init>", desc := "()V", sig := { parameters := [], returnType := none }, accessFlags := 0, code := none }
def k10c1 : Code := { maxStack := 3, maxLocals := 3, code := jdk_43_method_13_code, exceptionTable := #[], attributes := #[] }
def k10m1 : Method := { name := "equals", desc := "([B[B)Z", sig := { parameters := [(.array .byte), (.array .byte)], returnType := some .boolean }, accessFlags := 9, code := some k10c1 }
/-- java/lang/StringLatin1 -/
def k10 : Class := { plain "java/lang/StringLatin1" (some 0) with
  accessFlags := 48
  interfaces := #[]
  cf := some (fileOf pool10 14 #[.nestMembers #[390, 221]] #[{ accessFlags := 0, nameIndex := 7, descriptorIndex := 8, attributes := #[] }, { accessFlags := 9, nameIndex := 281, descriptorIndex := 282, attributes := #[] }] 48 4 #[] #[{ accessFlags := 4120, nameIndex := 121, descriptorIndex := 122, attributes := #[] }])
  fields := #[{ name := "$assertionsDisabled", type := .boolean, accessFlags := 4120, slot := 0, constantValue := 0 }]
  methods := #[k10m0, k10m1]
  instanceTypes := #[]
  staticTypes := #[.boolean]
  resolved := Array.replicate 395 none
  statics := none }

def pool11 : Array CpInfo := pool [(2, .class_ 4), (1, u "java/lang/Object"), (0, u "<init>"), (0, u "()V"), (17, .class_ 26), (1, u "jdk/internal/util/Preconditions"), (28, .class_ 56), (0, u "jdk/internal/util/Preconditions$4"), (57, .class_ 115), (0, u "jdk/internal/util/Preconditions$1"), (7, u "SIOOBE_FORMATTER"), (0, u "Ljava/util/function/BiFunction;"), (0, .class_ 126), (0, u "jdk/internal/util/Preconditions$2"), (3, u "AIOOBE_FORMATTER"), (0, .class_ 132), (0, u "jdk/internal/util/Preconditions$3"), (3, u "IOOBE_FORMATTER")] 57

def k11m0 : Method := { name := "<init>", desc := "()V", sig := { parameters := [], returnType := none }, accessFlags := 1, code := none }
/-- jdk/internal/util/Preconditions -/
def k11 : Class := { plain "jdk/internal/util/Preconditions" (some 0) with
  accessFlags := 33
  interfaces := #[]
  cf := some (fileOf pool11 24 #[.nestMembers #[55, 131, 125, 114]] #[{ accessFlags := 1, nameIndex := 5, descriptorIndex := 6, attributes := #[] }] 33 2 #[] #[{ accessFlags := 25, nameIndex := 123, descriptorIndex := 124, attributes := #[] }, { accessFlags := 25, nameIndex := 130, descriptorIndex := 124, attributes := #[] }, { accessFlags := 25, nameIndex := 136, descriptorIndex := 124, attributes := #[] }])
  fields := #[{ name := "SIOOBE_FORMATTER", type := (.object "java/util/function/BiFunction"), accessFlags := 25, slot := 0, constantValue := 0 }, { name := "AIOOBE_FORMATTER", type := (.object "java/util/function/BiFunction"), accessFlags := 25, slot := 1, constantValue := 0 }, { name := "IOOBE_FORMATTER", type := (.object "java/util/function/BiFunction"), accessFlags := 25, slot := 2, constantValue := 0 }]
  methods := #[k11m0]
  instanceTypes := #[]
  staticTypes := #[(.object "java/util/function/BiFunction"), (.object "java/util/function/BiFunction"), (.object "java/util/function/BiFunction")]
  resolved := Array.replicate 194 none
  statics := some 2 }

def pool12 : Array CpInfo := pool [(9, u "<init>"), (6, .class_ 18), (1, u "java/lang/Object"), (0, u "()V"), (1, .class_ 23), (1, u "jdk/internal/util/ArraysSupport"), (0, u "LOG2_ARRAY_LONG_INDEX_SCALE"), (0, u "I"), (2, u "U"), (0, u "Ljdk/internal/misc/Unsafe;"), (8, u "BIG_ENDIAN"), (0, u "Z"), (8, u "LOG2_BYTE_BIT_SIZE"), (4, u "LOG2_ARRAY_INT_INDEX_SCALE"), (54, u "JLA"), (0, u "Ljdk/internal/access/JavaLangAccess;"), (11, u "LOG2_ARRAY_BOOLEAN_INDEX_SCALE"), (9, u "LOG2_ARRAY_BYTE_INDEX_SCALE"), (5, u "LOG2_ARRAY_CHAR_INDEX_SCALE"), (5, u "LOG2_ARRAY_SHORT_INDEX_SCALE"), (18, u "LOG2_ARRAY_FLOAT_INDEX_SCALE"), (24, u "LOG2_ARRAY_DOUBLE_INDEX_SCALE"), (89, u "T_BOOLEAN"), (2, u "T_CHAR"), (1, u "T_FLOAT"), (1, u "T_DOUBLE"), (1, u "T_BYTE"), (1, u "T_SHORT"), (1, u "T_INT"), (1, u "T_LONG"), (1, u "SOFT_MAX_ARRAY_LENGTH")] 83

def k12m0 : Method := { name := "<init>", desc := "()V", sig := { parameters := [], returnType := none }, accessFlags := 2, code := none }
/-- jdk/internal/util/ArraysSupport -/
def k12 : Class := { plain "jdk/internal/util/ArraysSupport" (some 0) with
  accessFlags := 33
  interfaces := #[]
  cf := some (fileOf pool12 21 #[] #[{ accessFlags := 2, nameIndex := 9, descriptorIndex := 19, attributes := #[] }] 33 16 #[] #[{ accessFlags := 24, nameIndex := 28, descriptorIndex := 29, attributes := #[] }, { accessFlags := 26, nameIndex := 38, descriptorIndex := 39, attributes := #[] }, { accessFlags := 25, nameIndex := 121, descriptorIndex := 25, attributes := #[] }, { accessFlags := 25, nameIndex := 131, descriptorIndex := 25, attributes := #[] }, { accessFlags := 25, nameIndex := 137, descriptorIndex := 25, attributes := #[] }, { accessFlags := 25, nameIndex := 143, descriptorIndex := 25, attributes := #[] }, { accessFlags := 25, nameIndex := 53, descriptorIndex := 25, attributes := #[] }, { accessFlags := 25, nameIndex := 24, descriptorIndex := 25, attributes := #[] }, { accessFlags := 25, nameIndex := 162, descriptorIndex := 25, attributes := #[] }, { accessFlags := 25, nameIndex := 187, descriptorIndex := 25, attributes := #[] }, { accessFlags := 26, nameIndex := 48, descriptorIndex := 25, attributes := #[] }, { accessFlags := 25, nameIndex := 277, descriptorIndex := 25, attributes := #[] }, { accessFlags := 25, nameIndex := 280, descriptorIndex := 25, attributes := #[] }, { accessFlags := 25, nameIndex := 282, descriptorIndex := 25, attributes := #[] }, { accessFlags := 25, nameIndex := 284, descriptorIndex := 25, attributes := #[] }, { accessFlags := 25, nameIndex := 286, descriptorIndex := 25, attributes := #[] }, { accessFlags := 25, nameIndex := 288, descriptorIndex := 25, attributes := #[] }, { accessFlags := 25, nameIndex := 290, descriptorIndex := 25, attributes := #[] }, { accessFlags := 25, nameIndex := 292, descriptorIndex := 25, attributes := #[] }, { accessFlags := 26, nameIndex := 108, descriptorIndex := 109, attributes := #[] }, { accessFlags := 25, nameIndex := 294, descriptorIndex := 25, attributes := #[] }])
  fields := #[{ name := "U", type := (.object "jdk/internal/misc/Unsafe"), accessFlags := 24, slot := 0, constantValue := 0 }, { name := "BIG_ENDIAN", type := .boolean, accessFlags := 26, slot := 1, constantValue := 0 }, { name := "LOG2_ARRAY_BOOLEAN_INDEX_SCALE", type := .int, accessFlags := 25, slot := 2, constantValue := 0 }, { name := "LOG2_ARRAY_BYTE_INDEX_SCALE", type := .int, accessFlags := 25, slot := 3, constantValue := 0 }, { name := "LOG2_ARRAY_CHAR_INDEX_SCALE", type := .int, accessFlags := 25, slot := 4, constantValue := 0 }, { name := "LOG2_ARRAY_SHORT_INDEX_SCALE", type := .int, accessFlags := 25, slot := 5, constantValue := 0 }, { name := "LOG2_ARRAY_INT_INDEX_SCALE", type := .int, accessFlags := 25, slot := 6, constantValue := 0 }, { name := "LOG2_ARRAY_LONG_INDEX_SCALE", type := .int, accessFlags := 25, slot := 7, constantValue := 0 }, { name := "LOG2_ARRAY_FLOAT_INDEX_SCALE", type := .int, accessFlags := 25, slot := 8, constantValue := 0 }, { name := "LOG2_ARRAY_DOUBLE_INDEX_SCALE", type := .int, accessFlags := 25, slot := 9, constantValue := 0 }, { name := "LOG2_BYTE_BIT_SIZE", type := .int, accessFlags := 26, slot := 10, constantValue := 0 }, { name := "T_BOOLEAN", type := .int, accessFlags := 25, slot := 11, constantValue := 0 }, { name := "T_CHAR", type := .int, accessFlags := 25, slot := 12, constantValue := 0 }, { name := "T_FLOAT", type := .int, accessFlags := 25, slot := 13, constantValue := 0 }, { name := "T_DOUBLE", type := .int, accessFlags := 25, slot := 14, constantValue := 0 }, { name := "T_BYTE", type := .int, accessFlags := 25, slot := 15, constantValue := 0 }, { name := "T_SHORT", type := .int, accessFlags := 25, slot := 16, constantValue := 0 }, { name := "T_INT", type := .int, accessFlags := 25, slot := 17, constantValue := 0 }, { name := "T_LONG", type := .int, accessFlags := 25, slot := 18, constantValue := 0 }, { name := "JLA", type := (.object "jdk/internal/access/JavaLangAccess"), accessFlags := 26, slot := 19, constantValue := 0 }, { name := "SOFT_MAX_ARRAY_LENGTH", type := .int, accessFlags := 25, slot := 20, constantValue := 0 }]
  methods := #[k12m0]
  instanceTypes := #[]
  staticTypes := #[(.object "jdk/internal/misc/Unsafe"), .boolean, .int, .int, .int, .int, .int, .int, .int, .int, .int, .int, .int, .int, .int, .int, .int, .int, .int, (.object "jdk/internal/access/JavaLangAccess"), .int]
  resolved := Array.replicate 378 none
  statics := none }

def pool13 : Array CpInfo := pool [(1, u "java/lang/Cloneable"), (0, .class_ 1), (0, u "java/lang/Object"), (0, .class_ 3)] 3

/-- java/lang/Cloneable -/
def k13 : Class := { plain "java/lang/Cloneable" (some 0) with
  accessFlags := 1537
  interfaces := #[]
  cf := some (fileOf pool13 2 #[] #[] 1537 4 #[] #[])
  fields := #[]
  methods := #[]
  instanceTypes := #[]
  staticTypes := #[]
  resolved := Array.replicate 8 none
  statics := none }

/-- the primitive byte -/
def k14 : Class := { plain "byte" none with kind := .primitive 'B', accessFlags := 0x411 }
/-- [B -/
def k15 : Class := { plain "[B" (some 0) with kind := .array 14 .byte, interfaces := #[13, 4], accessFlags := 1041 }

/-- the primitive int -/
def k16 : Class := { plain "int" none with kind := .primitive 'I', accessFlags := 0x411 }
/-- [I -/
def k17 : Class := { plain "[I" (some 0) with kind := .array 16 .int, interfaces := #[13, 4], accessFlags := 1041 }

def heap : Heap := #[{ cls := 6, slots := #[.ref 11, .ref 8, .null, .null, .ref 5, .null], vm := .statics 6 },
  { cls := 9, slots := #[.long 0, .int 1, .null, .int 0, .null, .int 0, .int 0], vm := .statics 9 },
  { cls := 11, slots := #[.null, .null, .null], vm := .statics 11 },
  { cls := 15, slots := #[.int 117, .int 110, .int 97, .int 118, .int 97, .int 105, .int 108, .int 97, .int 98, .int 108, .int 101], vm := .none },
  { cls := 9, slots := #[.ref 3, .int 0, .int 0, .int 0], vm := .none },
  { cls := 6, slots := #[.null, .int 0, .int 0, .ref 4], vm := .none },
  { cls := 15, slots := #[.int 110, .int 111, .int 116, .int 95, .int 102, .int 111, .int 117, .int 110, .int 100], vm := .none },
  { cls := 9, slots := #[.ref 6, .int 0, .int 0, .int 0], vm := .none },
  { cls := 6, slots := #[.null, .int 1, .int 0, .ref 7], vm := .none },
  { cls := 15, slots := #[.int 98, .int 97, .int 100, .int 95, .int 114, .int 101, .int 113, .int 117, .int 101, .int 115, .int 116], vm := .none },
  { cls := 9, slots := #[.ref 9, .int 0, .int 0, .int 0], vm := .none },
  { cls := 6, slots := #[.null, .int 2, .int 0, .ref 10], vm := .none }]
def classes : Array Class := #[k0, k1, k2, k3, k4, k5, k6, k7, k8, k9, k10, k11, k12, k13, k14, k15, k16, k17]
def interned : List (Array UInt16 × Addr) := []
def slotsUsed : Nat := 71
def theMethod : MethodId := ⟨1, 2⟩
def args0 : Array Value := #[.int 9, .int 4]
def aboutOver (below : List Frame) : State where
  vm := { classes := classes, interned := interned.toArray }
  heap := heap
  slotsUsed := slotsUsed
  threads := #[{ frames := .invoking theMethod args0 :: below }]
def below0 : List Frame := [.native { method := ⟨0, 0⟩, args := #[] }]
def about1 : State := aboutOver below0
def p0 : Program := .bare "" "" ""
def e0 : Env := launch0.env 0 0 0
theorem w_frames : about1.frames = Frame.invoking theMethod args0 :: below0 := rfl
set_option maxRecDepth 65536 in
theorem w_args : argsFit about1.vm theMethod args0 = true := by decide +kernel
set_option maxRecDepth 65536 in
theorem w_heap : heapFits about1 = true := by decide +kernel
set_option maxRecDepth 65536 in
theorem w_runnable : about1.curStatus? = some .runnable := by decide +kernel
set_option maxRecDepth 65536 in
theorem w_alone : about1.alone = true := by decide +kernel
set_option maxRecDepth 65536 in
theorem w_named : about1.methodNamed? x = some theMethod := by decide +kernel
set_option maxRecDepth 65536 in
theorem w_hears : about1.hears theMethod below0 = true := by decide +kernel
set_option maxRecDepth 65536 in
theorem w_ripe : about1.ripe theMethod args0 below0 = true := by decide +kernel
theorem w_running : about1.status = .running := rfl
set_option maxRecDepth 65536 in
theorem w_room : about1.hasRoom e0.platform room_1 = true :=
  launch0.hasRoom_least _ room_1 (by decide +kernel) (by decide +kernel) (by decide +kernel) (by decide +kernel) (by decide +kernel) (by decide +kernel)
theorem allAtoms_all (ts : List Jvm.Cond) (a : Array Jvm.Value) (st : Jvm.State) : (allAtoms ts).before a st = ts.all (fun c => c.before a st) := by
  induction ts with
  | nil => rfl
  | cons c t ih =>
    show (Jvm.Cond.and c (allAtoms t)).before a st = _
    rw [Jvm.Cond.before_and, ih, List.all_cons]
def words1 : List Jvm.Cond := Jvm.Cond.code x code maxLocals ret :: tables_1
/-- a 'code' word, met by the world's own term for the bytes: nothing is compared byte by byte -/
theorem code_word {y : MethodName} {bytes : ByteArray} {mx : Nat} {rt : Option FieldType} {a : Array Value} {s : State} {m : MethodId} {meth : Method} {c : Code} (h1 : s.methodNamed? y = some m) (h2 : s.vm.method? m = some meth) (h3 : meth.code = some c) (h4 : c.code = bytes)
    (h5 : (c.maxLocals == mx && c.exceptionTable.isEmpty && decide (c.maxStack ≤ mostOperands) && decide (meth.sig.returnType = rt) && !meth.locks && decide (parseMethodDescriptor y.desc = some meth.sig)) = true) : (Jvm.Cond.code y bytes mx rt).before a s = true := by
  simp only [Bool.and_eq_true, beq_iff_eq, Bool.not_eq_true', decide_eq_true_eq] at h5
  obtain ⟨⟨⟨⟨⟨g1, g2⟩, g3⟩, g4⟩, g5⟩, g6⟩ := h5
  simp [Cond.before, Cond.holds, Cond.value, h1, h2, h3, h4, g1, g2, g3, g4, g5, g6]
def isCode : Jvm.Cond → Bool
  | .code _ _ _ _ => true
  | _ => false
theorem all_split {L : List Jvm.Cond} {P : Jvm.Cond → Bool} (h1 : L.all (fun c => isCode c || P c) = true) (h2 : ∀ c ∈ L.filter isCode, P c = true) : L.all P = true := by
  refine List.all_eq_true.mpr fun c hc => ?_
  have h := List.all_eq_true.mp h1 c hc
  rcases Bool.eq_false_or_eq_true (isCode c) with hi | hi
  · exact h2 c (List.mem_filter.mpr ⟨hc, hi⟩)
  · simpa [hi] using h
set_option maxRecDepth 65536 in
theorem w_c0 : (Jvm.Cond.code x code maxLocals ret).before args0 about1 = true := code_word (m := ⟨1, 2⟩) (meth := k1m2) (c := k1c2) (by decide +kernel) rfl rfl rfl (by decide +kernel)
set_option maxRecDepth 65536 in
theorem w_c1 : (Jvm.Cond.code ({ cls := "com/example/sequence_dispenser/sequencedispenser/server/ErrorCodeForStatusPinLaw", name := "pick", desc := "(II)I" } : Jvm.MethodName) method_2_code (2 : Nat) (Option.some Jvm.ClassFile.FieldType.int)).before args0 about1 = true := code_word (m := ⟨1, 1⟩) (meth := k1m1) (c := k1c1) (by decide +kernel) rfl rfl rfl (by decide +kernel)
set_option maxRecDepth 65536 in
theorem w_c2 : (Jvm.Cond.code ({ cls := "com/example/sequence_dispenser/sequencedispenser/server/ErrorCode", name := "forStatus", desc := "(I)Lcom/example/sequence_dispenser/sequencedispenser/server/ErrorCode;" } : Jvm.MethodName) prog_20_method_5_code (2 : Nat) (Option.some (Jvm.ClassFile.FieldType.object "com/example/sequence_dispenser/sequencedispenser/server/ErrorCode"))).before args0 about1 = true := code_word (m := ⟨6, 1⟩) (meth := k6m1) (c := k6c1) (by decide +kernel) rfl rfl rfl (by decide +kernel)
set_option maxRecDepth 65536 in
theorem w_c3 : (Jvm.Cond.code ({ cls := "com/example/sequence_dispenser/sequencedispenser/server/ErrorCode", name := "getText", desc := "()Ljava/lang/String;" } : Jvm.MethodName) prog_20_method_4_code (1 : Nat) (Option.some (Jvm.ClassFile.FieldType.object "java/lang/String"))).before args0 about1 = true := code_word (m := ⟨6, 0⟩) (meth := k6m0) (c := k6c0) (by decide +kernel) rfl rfl rfl (by decide +kernel)
set_option maxRecDepth 65536 in
theorem w_c4 : (Jvm.Cond.code ({ cls := "java/lang/String", name := "equals", desc := "(Ljava/lang/Object;)Z" } : Jvm.MethodName) jdk_42_method_66_code (3 : Nat) (Option.some Jvm.ClassFile.FieldType.boolean)).before args0 about1 = true := code_word (m := ⟨9, 1⟩) (meth := k9m1) (c := k9c1) (by decide +kernel) rfl rfl rfl (by decide +kernel)
set_option maxRecDepth 65536 in
theorem w_c5 : (Jvm.Cond.code ({ cls := "java/lang/StringLatin1", name := "equals", desc := "([B[B)Z" } : Jvm.MethodName) jdk_43_method_13_code (3 : Nat) (Option.some Jvm.ClassFile.FieldType.boolean)).before args0 about1 = true := code_word (m := ⟨10, 1⟩) (meth := k10m1) (c := k10c1) (by decide +kernel) rfl rfl rfl (by decide +kernel)
def codes1 : List Jvm.Cond := [Jvm.Cond.code x code maxLocals ret, Jvm.Cond.code ({ cls := "com/example/sequence_dispenser/sequencedispenser/server/ErrorCodeForStatusPinLaw", name := "pick", desc := "(II)I" } : Jvm.MethodName) method_2_code (2 : Nat) (Option.some Jvm.ClassFile.FieldType.int), Jvm.Cond.code ({ cls := "com/example/sequence_dispenser/sequencedispenser/server/ErrorCode", name := "forStatus", desc := "(I)Lcom/example/sequence_dispenser/sequencedispenser/server/ErrorCode;" } : Jvm.MethodName) prog_20_method_5_code (2 : Nat) (Option.some (Jvm.ClassFile.FieldType.object "com/example/sequence_dispenser/sequencedispenser/server/ErrorCode")), Jvm.Cond.code ({ cls := "com/example/sequence_dispenser/sequencedispenser/server/ErrorCode", name := "getText", desc := "()Ljava/lang/String;" } : Jvm.MethodName) prog_20_method_4_code (1 : Nat) (Option.some (Jvm.ClassFile.FieldType.object "java/lang/String")), Jvm.Cond.code ({ cls := "java/lang/String", name := "equals", desc := "(Ljava/lang/Object;)Z" } : Jvm.MethodName) jdk_42_method_66_code (3 : Nat) (Option.some Jvm.ClassFile.FieldType.boolean), Jvm.Cond.code ({ cls := "java/lang/StringLatin1", name := "equals", desc := "([B[B)Z" } : Jvm.MethodName) jdk_43_method_13_code (3 : Nat) (Option.some Jvm.ClassFile.FieldType.boolean)]
set_option maxRecDepth 65536 in
theorem codes_eq : words1.filter isCode = codes1 := rfl
theorem w_codes : ∀ c ∈ words1.filter isCode, c.before args0 about1 = true := by
  rw [codes_eq]
  intro c hc
  simp only [codes1, List.mem_cons, List.not_mem_nil, or_false] at hc
  rcases hc with rfl | rfl | rfl | rfl | rfl | rfl
  · exact w_c0
  · exact w_c1
  · exact w_c2
  · exact w_c3
  · exact w_c4
  · exact w_c5
set_option maxRecDepth 65536 in
theorem w_t1 : (words1.take 24).all (fun c => isCode c || c.before args0 about1) = true := by decide +kernel
set_option maxRecDepth 65536 in
theorem w_t2 : ((words1.drop 24).take 24).all (fun c => isCode c || c.before args0 about1) = true := by decide +kernel
set_option maxRecDepth 65536 in
theorem w_t3 : ((words1.drop 24).drop 24).all (fun c => isCode c || c.before args0 about1) = true := by decide +kernel
theorem w_tables : (allAtoms (Jvm.Cond.code x code maxLocals ret :: tables_1)).before args0 about1 = true := by
  rw [allAtoms_all]
  show words1.all (fun c => c.before args0 about1) = true
  refine all_split ?_ w_codes
  rw [← List.take_append_drop 24 words1, List.all_append, w_t1, ← List.take_append_drop 24 (words1.drop 24), List.all_append, w_t2, w_t3]
  rfl
set_option maxRecDepth 65536 in
theorem w_rest : rest_1_c.before args0 about1 = true := by decide +kernel
set_option maxRecDepth 65536 in
theorem w_case : (Jvm.Cond.and given_1 narrow_1).before args0 about1 = true := by decide +kernel
set_option maxRecDepth 65536 in
theorem w_consts : constsHeld consts_1 about1 := Jvm.Lit.constsHeldB_iff.mp (by decide +kernel)
theorem w_applies : (headSpec (Jvm.Cond.code x code maxLocals ret :: tables_1) room_1).applies x e0.platform about1 = true :=
  (Spec.applies_iff w_frames).mpr ⟨w_running, w_runnable, w_alone, w_named, w_hears, w_ripe, w_room, w_tables⟩
theorem atStart : AtStart classFile x code maxLocals ret World_1 tables_1 room_1 Calls_1 rest_1 Pre_1 launch0 p0 e0 about1 theMethod args0 below0 :=
  ⟨lists_1, trivial, launch0.admits_env _ _ _, launch0.least_env, fairChoices_fair.cas, fairChoices_fair.clock, w_frames, w_args, w_heap, w_applies, ⟨w_consts, trivial⟩, w_rest, w_case⟩
end start1
theorem witness_1 : WitnessClaimed_1 := ⟨start1.p0, start1.e0, start1.about1, start1.theMethod, start1.args0, start1.below0, start1.atStart⟩
end Jvm.Pilot.@@N@@
