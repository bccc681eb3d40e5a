import JvmDerived
import JvmDerived.Pilot.@@N@@Statement
import JvmDerived.Pilot.@@N@@Code
set_option linter.unusedVariables false
set_option linter.unusedSimpArgs false
namespace Jvm.RoadKit
open Sem ClassFile Op Lib Jvm.Stand Jvm.Free Jvm.LawKit
section New
variable {p : Program} {l : Launch} {e : Env} {R : Room} {s : State} {m : MethodId} {args : Array Value} {below : List Frame} {meth : Method} {c : Code} {T : State} {locs : List Loc} {cells slots : Nat}
theorem retI (X : Stand p l e R s m args below meth c T locs cells slots) (hx : p.tables.exec = Jvm.exec) {pc : Nat} {Ls : Array Slot} {z : Int32} {rest : List Value} (hret : meth.sig.returnType = some .int) (hd : decode c.code pc = .ok (.ireturn, 1)) {fs : List Frame}
    (hl : ∀ (f : JFrame) (acts : List Action), f.method = m → f.locked = none → f.entered = [] → (doReturn e (T.setTop f) acts (some (.int z))).1 = T.setFrames fs) : Steps p.tables e below (T.setTop (mkF m pc Ls (.int z :: rest))) (T.setFrames fs) := by
  have hm' : T.vm.method? m = some meth := X.method'
  have hn : narrow .int (.int z) = .int z := rfl
  show Steps p.tables e below (T.setTop { method := m, pc := pc, locals := Ls, stack := _ :: rest, locked := none }) _
  jvm_step X.here [X.here.top, hx, hd, hm', hret, hn]
  first | (intro acts; rw [hl _ acts rfl rfl rfl]) | rw [hl _ _ rfl rfl rfl]
  exact Steps.refl _
end New
end Jvm.RoadKit

/- laws to paste: Road.backV, Road.lenW, Road.chN, Road.empW, Road.codOf (cut by pick.py; bodies as the Statement names them) -/
namespace Jvm.Pilot.@@N@@
namespace StrChars
open Jvm Sem ClassFile Op Lib Jvm.Stand Jvm.Free.XT Jvm.Free.ALB Jvm.Free.JM Jvm.Free
open Jvm.Lib.Cold (StaticIs)
/-- a char array whose places are chars -/
def Ch (a : Addr) (A : Cell) (U : State) : Prop := Arr .char a A U ∧ Typed .char A
theorem Ch.mv {a : Addr} {A : Cell} {U U' : State} (h : Ch a A U) (hal : U.vm.Alike U'.vm) (hh : U'.heap = U.heap) : Ch a A U' := ⟨h.1.mv hal hh, h.2⟩
theorem Ch.keep {a : Addr} {A : Cell} {U U' : State} (h : Ch a A U) (hal : U.vm.Alike U'.vm) (hk : U'.heap[a]? = some A) : Ch a A U' := ⟨h.1.keep hal hk, h.2⟩
/-- what place i of a char[]'s cell holds -/
def cv (A : Cell) (i : Nat) : Int32 := match A.slots[i]? with | some (.int x) => x | _ => 0
theorem Ch.get {a : Addr} {A : Cell} {U : State} (h : Ch a A U) {i : Nat} (hi : i < A.slots.size) : A.slots[i]? = some (.int (cv A i)) := by
  have e := Array.getElem?_eq_getElem hi
  have f := h.2 i _ e
  unfold cv; rw [e]
  generalize A.slots[i] = v at f
  cases v <;> simp [fits] at f ⊢
/-- the byte that i2b leaves of a char -/
def lo8 (x : Int32) : Int32 := x.toInt8.toInt32
theorem fits_lo8 (y : Int32) : fits .byte (.int (lo8 y)) = true := by
  have h1 := y.toInt8.le_toInt
  have h2 := y.toInt8.toInt_lt
  simp only [lo8, fits, Bool.and_eq_true, decide_eq_true_eq, Int32.le_iff_toInt_le, Int8.toInt_toInt32, show (-128 : Int32).toInt = -128 from by decide, show (127 : Int32).toInt = 127 from by decide]
  omega
/-- A' is A but that each place j of lo .. hi - 1 holds f j -/
def Laid (A A' : Cell) (lo hi : Nat) (f : Nat → Value) : Prop := A'.cls = A.cls ∧ A'.vm = A.vm ∧ A'.slots.size = A.slots.size ∧ ∀ i, A'.slots[i]? = if lo ≤ i ∧ i < hi then some (f i) else A.slots[i]?
theorem Laid.zero (A : Cell) (lo : Nat) (f : Nat → Value) : Laid A A lo (lo + 0) f := ⟨rfl, rfl, rfl, fun i => by rw [if_neg (by omega)]⟩
theorem Laid.step {A Ak : Cell} {lo k : Nat} {f : Nat → Value} {v : Value} (h : Laid A Ak lo k f) (hlo : lo ≤ k) (hk : k < Ak.slots.size) (hv : v = f k) : Laid A (Ak.setSlot k v) lo (k + 1) f := by
  refine ⟨h.1, h.2.1, by simpa [Cell.setSlot] using h.2.2.1, fun i => ?_⟩
  by_cases e : k = i
  · subst e; rw [Cell.slots_setSlot_self v hk, if_pos (by omega), hv]
  · rw [Cell.slots_setSlot_ne v e, h.2.2.2 i]
    by_cases q : lo ≤ i ∧ i < k
    · rw [if_pos q, if_pos (by omega)]
    · rw [if_neg q, if_neg (by omega)]
def U16 : String := "java/lang/StringUTF16"
namespace Cmp5
def yN : MethodName := ⟨"java/lang/StringUTF16", "compress", "([CI[BII)I"⟩
abbrev yB : ByteArray := jdk_52_method_21_code
theorem d0 : decode yB 0 = .ok (.iconst 0, 1) := by decide +kernel
theorem d1 : decode yB 1 = .ok (.istore 5, 2) := by decide +kernel
theorem d3 : decode yB 3 = .ok (.iload 5, 2) := by decide +kernel
theorem d5 : decode yB 5 = .ok (.iload 4, 2) := by decide +kernel
theorem d7 : decode yB 7 = .ok (.if_icmp (.ge) 37, 3) := by decide +kernel
theorem d10 : decode yB 10 = .ok (.aload_n 0, 1) := by decide +kernel
theorem d11 : decode yB 11 = .ok (.iload_n 1, 1) := by decide +kernel
theorem d12 : decode yB 12 = .ok (.caload, 1) := by decide +kernel
theorem d13 : decode yB 13 = .ok (.istore 6, 2) := by decide +kernel
theorem d15 : decode yB 15 = .ok (.iload 6, 2) := by decide +kernel
theorem d17 : decode yB 17 = .ok (.sipush 255, 3) := by decide +kernel
theorem d20 : decode yB 20 = .ok (.if_icmp (.le) 6, 3) := by decide +kernel
theorem d26 : decode yB 26 = .ok (.aload_n 2, 1) := by decide +kernel
theorem d27 : decode yB 27 = .ok (.iload_n 3, 1) := by decide +kernel
theorem d28 : decode yB 28 = .ok (.iload 6, 2) := by decide +kernel
theorem d30 : decode yB 30 = .ok (.i2b, 1) := by decide +kernel
theorem d31 : decode yB 31 = .ok (.bastore, 1) := by decide +kernel
theorem d32 : decode yB 32 = .ok (.iinc 1 1, 3) := by decide +kernel
theorem d35 : decode yB 35 = .ok (.iinc 3 1, 3) := by decide +kernel
theorem d38 : decode yB 38 = .ok (.iinc 5 1, 3) := by decide +kernel
theorem d41 : decode yB 41 = .ok (.goto (-38), 3) := by decide +kernel
theorem d44 : decode yB 44 = .ok (.iload 4, 2) := by decide +kernel
theorem d46 : decode yB 46 = .ok (.ireturn, 1) := by decide +kernel
def site : List Cond := []
def tab : Cond := tabOf yN yB 7 (some .int) site
def P (b : Addr) (A : Cell) (d : Addr) (B : Cell) (o q len : Nat) (args : Array Value) (s : State) : Prop := args = #[.ref b, .int (Int32.ofNat o), .ref d, .int (Int32.ofNat q), .int (Int32.ofNat len)] ∧ Ch b A s ∧ Arr .byte d B s ∧ b ≠ d ∧ o + len ≤ A.slots.size ∧ q + len ≤ B.slots.size ∧ ∀ i, i < len → ¬ 255 < cv A (o + i)
def E (b : Addr) (A : Cell) (d : Addr) (B : Cell) (o q len : Nat) (r : Option Value) (s u : State) : Prop := r = some (.int (Int32.ofNat len)) ∧ ∃ B', Put d B' s u ∧ Laid B B' q (q + len) (fun j => Value.int (lo8 (cv A (o + (j - q)))))
/-- no char of the range above 255: len; the places written hold each char's low byte -/
theorem law (l : Launch) (b : Addr) (A : Cell) (d : Addr) (B : Cell) (o q len : Nat) : Law l yN 5 5 0 0 yB 7 (some .int) site (P b A d B o q len) (E b A d B o q len) (copyLocs d q len) 0 0 := by
  refine Law.of_walk (plainFor_of_name (by decide +kernel)) (by decide +kernel) (by decide +kernel) (by decide) (fun _ _ h => by rw [h.1]; rfl) (fun _ U U' hal hh h => ⟨h.1, h.2.1.mv hal hh, h.2.2.1.mv hal hh, h.2.2.2⟩) (fun r U U' V V' h1 hal h2 h => ⟨h.1, h.2.elim fun B' q => ⟨B', q.1.mv h1 h2, q.2⟩⟩) ?_
  intro p e s m args below meth c s₁ X0 hexec hbytes hml hret hlk hnm hown hh0 W hP
  obtain ⟨rfl, hA, hB, hne, l1, l2, hp⟩ := hP
  have c1 : Steps p.tables e below (s₁.setTop (entryFrame m #[.ref b, .int (Int32.ofNat o), .ref d, .int (Int32.ofNat q), .int (Int32.ofNat len)] 7)) (s₁.setTop (mkF m 0 #[.val (.ref b), .val (.int (Int32.ofNat o)), .val (.ref d), .val (.int (Int32.ofNat q)), .val (.int (Int32.ofNat len)), .unset, .unset] [])) := entry rfl
  have hA0 := hA.1.mv X0.warmed.alike hh0
  have hB0 := hB.mv X0.warmed.alike hh0
  have a31 := hA.1.2.2.2
  have c2 : Steps p.tables e below (s₁.setTop (entryFrame m #[.ref b, .int (Int32.ofNat o), .ref d, .int (Int32.ofNat q), .int (Int32.ofNat len)] 7)) (s₁.setTop (mkF m 3 #[.val (.ref b), .val (.int (Int32.ofNat o)), .val (.ref d), .val (.int (Int32.ofNat q)), .val (.int (Int32.ofNat len)), .val (.int 0), .unset] [])) := c1.trans (by
    refine iconstV X0.here hexec rfl 0 (hb hbytes d0) (by decide) ?_
    refine XS.istore X0.here hexec rfl (hb hbytes d1) rfl rfl ?_
    exact Steps.refl _)
  have loop : ∀ (r i : Nat), i + r = len → ∀ (z : Slot), (z = .unset ∨ ∃ w, z = .val w ∧ w.category = 1) → ∀ (Tl : State) (Bk : Cell), Stand p l e { frames := 0, locals := 0, cells := 0, slots := 0 } s m #[.ref b, .int (Int32.ofNat o), .ref d, .int (Int32.ofNat q), .int (Int32.ofNat len)] below meth c Tl ([] ++ copyLocs d q i) 0 0 → Put d Bk s₁ Tl → Laid B Bk q (q + i) (fun j => Value.int (lo8 (cv A (o + (j - q))))) →
      Steps p.tables e below (s₁.setTop (entryFrame m #[.ref b, .int (Int32.ofNat o), .ref d, .int (Int32.ofNat q), .int (Int32.ofNat len)] 7)) (Tl.setTop (mkF m 3 #[.val (.ref b), .val (.int (Int32.ofNat (o + i))), .val (.ref d), .val (.int (Int32.ofNat (q + i))), .val (.int (Int32.ofNat len)), .val (.int (Int32.ofNat i)), z] [])) → ∃ (T' : State) (B' : Cell) (z' : Slot), Stand p l e { frames := 0, locals := 0, cells := 0, slots := 0 } s m #[.ref b, .int (Int32.ofNat o), .ref d, .int (Int32.ofNat q), .int (Int32.ofNat len)] below meth c T' ([] ++ copyLocs d q len) 0 0 ∧ Put d B' s₁ T' ∧ Laid B B' q (q + len) (fun j => Value.int (lo8 (cv A (o + (j - q))))) ∧
      Steps p.tables e below (s₁.setTop (entryFrame m #[.ref b, .int (Int32.ofNat o), .ref d, .int (Int32.ofNat q), .int (Int32.ofNat len)] 7)) (T'.setTop (mkF m 3 #[.val (.ref b), .val (.int (Int32.ofNat (o + len))), .val (.ref d), .val (.int (Int32.ofNat (q + len))), .val (.int (Int32.ofNat len)), .val (.int (Int32.ofNat len)), z'] [])) := by
    intro r
    induction r with
    | zero =>
      intro i hi z hz Tl Bk Xl pl fl cl
      have hil : i = len := by omega
      rw [hil] at Xl fl cl
      exact ⟨Tl, Bk, z, Xl, pl, fl, cl⟩
    | succ r ih =>
      intro i hi z hz Tl Bk Xl pl fl cl
      have all := X0.warmed.alike.symm.trans Xl.warmed.alike
      have hAl := hA0.keep all (pl.other hne hA0.1)
      have hBk := hB0.like all pl.1 fl.1 fl.2.1 fl.2.2.1
      have hlt : q + i < Bk.slots.size := by rw [fl.2.2.1]; omega
      have c3 : Steps p.tables e below (s₁.setTop (entryFrame m #[.ref b, .int (Int32.ofNat o), .ref d, .int (Int32.ofNat q), .int (Int32.ofNat len)] 7)) (Tl.setTop (mkF m 12 #[.val (.ref b), .val (.int (Int32.ofNat (o + i))), .val (.ref d), .val (.int (Int32.ofNat (q + i))), .val (.int (Int32.ofNat len)), .val (.int (Int32.ofNat i)), z] [.int (Int32.ofNat (o + i)), .ref b])) := cl.trans (by
        refine XS.iload Xl.here hexec rfl (hb hbytes d3) rfl ?_
        refine XS.iload Xl.here hexec rfl (hb hbytes d5) rfl ?_
        refine XS.icmpNo Xl.here hexec rfl (hb hbytes d7) rfl (ii_ge_f (lt32 (by omega) (by omega))) ?_
        refine XS.aloadN Xl.here hexec rfl (hb hbytes d10) rfl rfl ?_
        refine XS.iloadN Xl.here hexec rfl (hb hbytes d11) rfl ?_
        exact Steps.refl _)
      have c4 : Steps p.tables e below (s₁.setTop (entryFrame m #[.ref b, .int (Int32.ofNat o), .ref d, .int (Int32.ofNat q), .int (Int32.ofNat len)] 7)) (Tl.setTop (mkF m 13 #[.val (.ref b), .val (.int (Int32.ofNat (o + i))), .val (.ref d), .val (.int (Int32.ofNat (q + i))), .val (.int (Int32.ofNat len)), .val (.int (Int32.ofNat i)), z] [.int (cv A (o + i))])) := c3.trans (by
        refine Xl.aget hexec hAl rfl (hA.get (i := o + i) (by omega)) rfl rfl (hb hbytes d12) ?_
        exact Steps.refl _)
      have c5 : Steps p.tables e below (s₁.setTop (entryFrame m #[.ref b, .int (Int32.ofNat o), .ref d, .int (Int32.ofNat q), .int (Int32.ofNat len)] 7)) (Tl.setTop (mkF m 15 #[.val (.ref b), .val (.int (Int32.ofNat (o + i))), .val (.ref d), .val (.int (Int32.ofNat (q + i))), .val (.int (Int32.ofNat len)), .val (.int (Int32.ofNat i)), .val (.int (cv A (o + i)))] [])) := c4.trans (by
        refine XS.istoreS Xl.here hexec rfl (hb hbytes d13) rfl rfl hz ?_
        exact Steps.refl _)
      have c6 : Steps p.tables e below (s₁.setTop (entryFrame m #[.ref b, .int (Int32.ofNat o), .ref d, .int (Int32.ofNat q), .int (Int32.ofNat len)] 7)) (Tl.setTop (mkF m 31 #[.val (.ref b), .val (.int (Int32.ofNat (o + i))), .val (.ref d), .val (.int (Int32.ofNat (q + i))), .val (.int (Int32.ofNat len)), .val (.int (Int32.ofNat i)), .val (.int (cv A (o + i)))] [.int (lo8 (cv A (o + i))), .int (Int32.ofNat (q + i)), .ref d])) := c5.trans (by
        refine XS.iload Xl.here hexec rfl (hb hbytes d15) rfl ?_
        refine sipushV Xl.here hexec rfl 255 (hb hbytes d17) (by decide) ?_
        refine XS.icmpYes Xl.here hexec rfl (pc0 := 20) rfl (hb hbytes d20) rfl (ii_le_t (hp i (by omega))) (by decide) rfl ?_
        refine XS.aloadN Xl.here hexec rfl (hb hbytes d26) rfl rfl ?_
        refine XS.iloadN Xl.here hexec rfl (hb hbytes d27) rfl ?_
        refine XS.iload Xl.here hexec rfl (hb hbytes d28) rfl ?_
        refine i2b Xl.here hexec rfl (hb hbytes d30) rfl ?_
        exact Steps.refl _)
      obtain ⟨T7, X7, p7, st7⟩ := Xl.aput hexec hBk rfl hlt rfl (fits_lo8 (cv A (o + i))) (g := (mkF m 31 #[.val (.ref b), .val (.int (Int32.ofNat (o + i))), .val (.ref d), .val (.int (Int32.ofNat (q + i))), .val (.int (Int32.ofNat len)), .val (.int (Int32.ofNat i)), .val (.int (cv A (o + i)))] [.int (lo8 (cv A (o + i))), .int (Int32.ofNat (q + i)), .ref d])) rfl (rest := []) rfl (hb hbytes d31)
      have c8 : Steps p.tables e below (s₁.setTop (entryFrame m #[.ref b, .int (Int32.ofNat o), .ref d, .int (Int32.ofNat q), .int (Int32.ofNat len)] 7)) (T7.setTop (mkF m 32 #[.val (.ref b), .val (.int (Int32.ofNat (o + i))), .val (.ref d), .val (.int (Int32.ofNat (q + i))), .val (.int (Int32.ofNat len)), .val (.int (Int32.ofNat i)), .val (.int (cv A (o + i)))] [])) := c6.trans (st7 _ (Steps.refl _))
      have c9 : Steps p.tables e below (s₁.setTop (entryFrame m #[.ref b, .int (Int32.ofNat o), .ref d, .int (Int32.ofNat q), .int (Int32.ofNat len)] 7)) (T7.setTop (mkF m 3 #[.val (.ref b), .val (.int (Int32.ofNat (o + i) + 1)), .val (.ref d), .val (.int (Int32.ofNat (q + i) + 1)), .val (.int (Int32.ofNat len)), .val (.int (Int32.ofNat i + 1)), .val (.int (cv A (o + i)))] [])) := c8.trans (by
        refine iincV X7.here hexec rfl 1 (hb hbytes d32) (by decide) rfl rfl ?_
        refine iincV X7.here hexec rfl 1 (hb hbytes d35) (by decide) rfl rfl ?_
        refine iincV X7.here hexec rfl 1 (hb hbytes d38) (by decide) rfl rfl ?_
        refine XS.goto X7.here hexec rfl (pc0 := 41) rfl (hb hbytes d41) (by decide) rfl ?_
        exact Steps.refl _)
      have c10 : Steps p.tables e below (s₁.setTop (entryFrame m #[.ref b, .int (Int32.ofNat o), .ref d, .int (Int32.ofNat q), .int (Int32.ofNat len)] 7)) (T7.setTop (mkF m 3 #[.val (.ref b), .val (.int (Int32.ofNat (o + (i + 1)))), .val (.ref d), .val (.int (Int32.ofNat (q + (i + 1)))), .val (.int (Int32.ofNat len)), .val (.int (Int32.ofNat (i + 1))), .val (.int (cv A (o + i)))] [])) := by
        have := c9
        rw [succ32, succ32, succ32] at this
        exact this
      exact ih (i + 1) (by omega) _ (Or.inr ⟨_, rfl, rfl⟩) T7 _ (by rw [copyLocs_step, ← List.append_assoc]; exact X7) (pl.trans p7) (fl.step (by omega) hlt (by simp)) c10
  obtain ⟨T9, B9, z9, X9, p9, f9, g9⟩ := loop len 0 (by omega) .unset (Or.inl rfl) s₁ B (by simpa [copyLocs] using X0) ⟨hB0.1, fun _ _ => rfl, rfl⟩ (Laid.zero _ _ _) c2
  have c11 : Steps p.tables e below (s₁.setTop (entryFrame m #[.ref b, .int (Int32.ofNat o), .ref d, .int (Int32.ofNat q), .int (Int32.ofNat len)] 7)) (T9.setTop (mkF m 46 #[.val (.ref b), .val (.int (Int32.ofNat (o + len))), .val (.ref d), .val (.int (Int32.ofNat (q + len))), .val (.int (Int32.ofNat len)), .val (.int (Int32.ofNat len)), z9] [.int (Int32.ofNat len)])) := g9.trans (by
    refine XS.iload X9.here hexec rfl (hb hbytes d3) rfl ?_
    refine XS.iload X9.here hexec rfl (hb hbytes d5) rfl ?_
    refine XS.icmpYes X9.here hexec rfl (pc0 := 7) rfl (hb hbytes d7) rfl (ii_ge_t (nlt32 (by omega) (Nat.le_refl _))) (by decide) rfl ?_
    refine XS.iload X9.here hexec rfl (hb hbytes d44) rfl ?_
    exact Steps.refl _)
  exact ⟨T9, some (.int (Int32.ofNat len)), _, _, _, X9, by simp, rfl, rfl, (fun h => by cases h), ⟨rfl, B9, p9.from hh0, f9⟩, fun fs hl => c11.trans (X9.ireturnOut hexec hret rfl (Or.inl rfl) (hb hbytes d46) hl)⟩
end Cmp5
namespace Cmp3
def yN : MethodName := ⟨"java/lang/StringUTF16", "compress", "([CII)[B"⟩
abbrev yB : ByteArray := jdk_52_method_16_code
theorem d0 : decode yB 0 = .ok (.iload_n 2, 1) := by decide +kernel
theorem d1 : decode yB 1 = .ok (.newarray .byte, 2) := by decide +kernel
theorem d3 : decode yB 3 = .ok (.astore_n 3, 1) := by decide +kernel
theorem d4 : decode yB 4 = .ok (.aload_n 0, 1) := by decide +kernel
theorem d5 : decode yB 5 = .ok (.iload_n 1, 1) := by decide +kernel
theorem d6 : decode yB 6 = .ok (.aload_n 3, 1) := by decide +kernel
theorem d7 : decode yB 7 = .ok (.iconst 0, 1) := by decide +kernel
theorem d8 : decode yB 8 = .ok (.iload_n 2, 1) := by decide +kernel
theorem d9 : decode yB 9 = .ok (.invokestatic 115, 3) := by decide +kernel
theorem d12 : decode yB 12 = .ok (.istore 4, 2) := by decide +kernel
theorem d14 : decode yB 14 = .ok (.iload 4, 2) := by decide +kernel
theorem d16 : decode yB 16 = .ok (.iload_n 2, 1) := by decide +kernel
theorem d17 : decode yB 17 = .ok (.if_icmp (.eq) 40, 3) := by decide +kernel
theorem d57 : decode yB 57 = .ok (.aload_n 3, 1) := by decide +kernel
theorem d58 : decode yB 58 = .ok (.areturn, 1) := by decide +kernel
def site : List Cond := [.arrayClass .byte, Cmp5.tab] ++ staticW U16 115 Cmp5.yN
def tab : Cond := tabOf yN yB 6 (some (.array .byte)) site
def P (b : Addr) (A : Cell) (o len : Nat) (args : Array Value) (s : State) : Prop := args = #[.ref b, .int (Int32.ofNat o), .int (Int32.ofNat len)] ∧ Ch b A s ∧ o + len ≤ A.slots.size ∧ len ≤ 536870912 ∧ ∀ i, i < len → ¬ 255 < cv A (o + i)
def E (b : Addr) (A : Cell) (o len : Nat) (r : Option Value) (s u : State) : Prop := NewArr .byte "[B" len (fun j => .int (lo8 (cv A (o + j)))) r s u ∧ u.heap.size = s.heap.size + 1
/-- no char of the range above 255: a new byte[] of their low bytes -/
theorem law (l : Launch) (b : Addr) (A : Cell) (o len : Nat) : Law l yN 3 3 1 18 yB 6 (some (.array .byte)) site (P b A o len) (E b A o len) [] 1 len := by
  refine Law.of_walk (plainFor_of_name (by decide +kernel)) (by decide +kernel) (by decide +kernel) (by decide) (fun _ _ h => by rw [h.1]; rfl) (fun _ U U' hal hh h => ⟨h.1, h.2.1.mv hal hh, h.2.2⟩) (fun r U U' V V' h1 hal h2 h => ⟨NewArr.mv r U U' V V' h1 hal h2 h.1, by rw [h1, h2]; exact h.2⟩) ?_
  intro p e s m args below meth c s₁ X0 hexec hbytes hml hret hlk hnm hown hh0 W hP
  obtain ⟨rfl, hA, l1, l2, hp⟩ := hP
  have a31 := hA.1.2.2.2
  have c1 : Steps p.tables e below (s₁.setTop (entryFrame m #[.ref b, .int (Int32.ofNat o), .int (Int32.ofNat len)] 6)) (s₁.setTop (mkF m 0 #[.val (.ref b), .val (.int (Int32.ofNat o)), .val (.int (Int32.ofNat len)), .unset, .unset, .unset] [])) := entry rfl
  have c2 : Steps p.tables e below (s₁.setTop (entryFrame m #[.ref b, .int (Int32.ofNat o), .int (Int32.ofNat len)] 6)) (s₁.setTop (mkF m 1 #[.val (.ref b), .val (.int (Int32.ofNat o)), .val (.int (Int32.ofNat len)), .unset, .unset, .unset] [.int (Int32.ofNat len)])) := c1.trans (by
    refine XS.iloadN X0.here hexec rfl (hb hbytes d0) rfl ?_
    exact Steps.refl _)
  obtain ⟨T3, B3, X3, ba3, bs3, bv3, bh3, bf3, st3⟩ := X0.anew hexec (atype := .byte) (wk W (.arrayClass .byte)) rfl (by show len * 1 ≤ _; omega) (by omega) (g := (mkF m 1 #[.val (.ref b), .val (.int (Int32.ofNat o)), .val (.int (Int32.ofNat len)), .unset, .unset, .unset] [.int (Int32.ofNat len)])) rfl (hb hbytes d1) (rest := []) rfl (Nat.le_refl _) (by show 0 + len ≤ len; omega)
  rw [hh0] at ba3 st3
  have kp3 : XT.Kept s T3 := (XT.Kept.of_eq hh0).push bh3
  have hA3 := hA.keep X3.warmed.alike (kp3 _ _ hA.1.1)
  have hne : b ≠ s.heap.size := hA.1.ne
  have c4 : Steps p.tables e below (s₁.setTop (entryFrame m #[.ref b, .int (Int32.ofNat o), .int (Int32.ofNat len)] 6)) (T3.setTop (mkF m 3 #[.val (.ref b), .val (.int (Int32.ofNat o)), .val (.int (Int32.ofNat len)), .unset, .unset, .unset] [.ref s.heap.size])) := c2.trans (st3 _ (Steps.refl _))
  have c5 : Steps p.tables e below (s₁.setTop (entryFrame m #[.ref b, .int (Int32.ofNat o), .int (Int32.ofNat len)] 6)) (T3.setTop (mkF m 9 #[.val (.ref b), .val (.int (Int32.ofNat o)), .val (.int (Int32.ofNat len)), .val (.ref s.heap.size), .unset, .unset] [.int (Int32.ofNat len), .int 0, .ref s.heap.size, .int (Int32.ofNat o), .ref b])) := c4.trans (by
    refine XS.astoreN X3.here hexec rfl (hb hbytes d3) rfl rfl rfl ?_
    refine XS.aloadN X3.here hexec rfl (hb hbytes d4) rfl rfl ?_
    refine XS.iloadN X3.here hexec rfl (hb hbytes d5) rfl ?_
    refine XS.aloadN X3.here hexec rfl (hb hbytes d6) rfl rfl ?_
    refine iconstV X3.here hexec rfl 0 (hb hbytes d7) (by decide) ?_
    refine XS.iloadN X3.here hexec rfl (hb hbytes d8) rfl ?_
    exact Steps.refl _)
  obtain ⟨v6, T6, X6, E6, g6⟩ := X3.callS hexec (Cmp5.law l b A s.heap.size B3 o 0 len) hown (wks W (staticW U16 115 Cmp5.yN)) (wk W Cmp5.tab) (W := 0) (Nat.le_of_ble_eq_true rfl) (Nat.le_of_ble_eq_true rfl) (Nat.le_refl _) (by show 0 + len + 0 ≤ len; omega) (g := (mkF m 9 #[.val (.ref b), .val (.int (Int32.ofNat o)), .val (.int (Int32.ofNat len)), .val (.ref s.heap.size), .unset, .unset] [.int (Int32.ofNat len), .int (Int32.ofNat 0), .ref s.heap.size, .int (Int32.ofNat o), .ref b])) rfl (by rw [hml]; rfl) c5 (argsL := [.ref b, .int (Int32.ofNat o), .ref s.heap.size, .int (Int32.ofNat 0), .int (Int32.ofNat len)]) (rest := []) rfl rfl (by show 2 * 0 + 0 ≤ _; decide) (hb hbytes d9) (⟨rfl, hA3, ba3, hne, l1, by rw [bs3]; simp, hp⟩)
  obtain ⟨rfl, B6, p6, f6⟩ := E6
  have c7 : Steps p.tables e below (s₁.setTop (entryFrame m #[.ref b, .int (Int32.ofNat o), .int (Int32.ofNat len)] 6)) (T6.setTop (mkF m 12 #[.val (.ref b), .val (.int (Int32.ofNat o)), .val (.int (Int32.ofNat len)), .val (.ref s.heap.size), .unset, .unset] [.int (Int32.ofNat len)])) := g6
  have c8 : Steps p.tables e below (s₁.setTop (entryFrame m #[.ref b, .int (Int32.ofNat o), .int (Int32.ofNat len)] 6)) (T6.setTop (mkF m 58 #[.val (.ref b), .val (.int (Int32.ofNat o)), .val (.int (Int32.ofNat len)), .val (.ref s.heap.size), .val (.int (Int32.ofNat len)), .unset] [.ref s.heap.size])) := c7.trans (by
    refine XS.istore X6.here hexec rfl (hb hbytes d12) rfl rfl ?_
    refine XS.iload X6.here hexec rfl (hb hbytes d14) rfl ?_
    refine XS.iloadN X6.here hexec rfl (hb hbytes d16) rfl ?_
    refine XS.icmpYes X6.here hexec rfl (pc0 := 17) rfl (hb hbytes d17) rfl (ii_eq_t rfl) (by decide) rfl ?_
    refine XS.aloadN X6.here hexec rfl (hb hbytes d57) rfl rfl ?_
    exact Steps.refl _)
  have X8 := X6.wide (L' := []) (cells' := 1) (slots' := len) (fun x hx hlt => by
    simp only [List.nil_append, copyLocs, List.mem_map, List.mem_range] at hx
    obtain ⟨i, -, rfl⟩ := hx
    exact absurd hlt (Nat.lt_irrefl _)) (Nat.le_refl _) (by omega)
  exact ⟨T6, some (.ref s.heap.size), _, _, _, X8, rfl, rfl, rfl, (fun h => by cases h), ⟨⟨rfl, B6, ba3.like (X3.warmed.alike.symm.trans X6.warmed.alike) p6.1 f6.1 f6.2.1 f6.2.2.1, f6.2.1.trans bv3, by rw [X6.warmed.alike.findClass, f6.1]; exact bf3, by rw [f6.2.2.1, bs3]; simp, fun j hj => by rw [f6.2.2.2 j, if_pos (by omega)]; rfl, kp3.put p6 (Nat.le_refl _)⟩, by rw [p6.2.2, bh3, hh0]; simp⟩, fun fs hl => c8.trans (X8.areturnOut hexec rfl hret rfl (hb hbytes d58) hl)⟩
end Cmp3
namespace CodL
def yN : MethodName := ⟨"java/lang/StringUTF16", "coderFromArrayLen", "([BI)B"⟩
abbrev yB : ByteArray := jdk_52_method_15_code
theorem d0 : decode yB 0 = .ok (.iload_n 1, 1) := by decide +kernel
theorem d1 : decode yB 1 = .ok (.aload_n 0, 1) := by decide +kernel
theorem d2 : decode yB 2 = .ok (.arraylength, 1) := by decide +kernel
theorem d3 : decode yB 3 = .ok (.isub, 1) := by decide +kernel
theorem d4 : decode yB 4 = .ok (.bipush 31, 2) := by decide +kernel
theorem d6 : decode yB 6 = .ok (.iushr, 1) := by decide +kernel
theorem d7 : decode yB 7 = .ok (.i2b, 1) := by decide +kernel
theorem d8 : decode yB 8 = .ok (.ireturn, 1) := by decide +kernel
def site : List Cond := []
def tab : Cond := tabOf yN yB 2 (some .byte) site
def P (d : Addr) (B : Cell) (args : Array Value) (s : State) : Prop := args = #[.ref d, .int (Int32.ofNat B.slots.size)] ∧ Arr .byte d B s
def E (r : Option Value) (s u : State) : Prop := XT.PureE (some (.int 0)) r s u
/-- an array as long as the number of chars: LATIN1 -/
theorem law (l : Launch) (d : Addr) (B : Cell) : Law l yN 2 2 0 0 yB 2 (some .byte) site (P d B) E [] 0 0 := by
  refine Law.of_walk (plainFor_of_name (by decide +kernel)) (by decide +kernel) (by decide +kernel) (by decide) (fun _ _ h => by rw [h.1]; rfl) (fun _ U U' hal hh h => ⟨h.1, h.2.mv hal hh⟩) (fun r U U' V V' h1 hal h2 h => XT.PureE.mv r U U' V V' h1 hal h2 h) ?_
  intro p e s m args below meth c s₁ X0 hexec hbytes hml hret hlk hnm hown hh0 W hP
  obtain ⟨rfl, hB⟩ := hP
  have hB0 := hB.mv X0.warmed.alike hh0
  have c1 : Steps p.tables e below (s₁.setTop (entryFrame m #[.ref d, .int (Int32.ofNat B.slots.size)] 2)) (s₁.setTop (mkF m 0 #[.val (.ref d), .val (.int (Int32.ofNat B.slots.size))] [])) := entry rfl
  have c2 : Steps p.tables e below (s₁.setTop (entryFrame m #[.ref d, .int (Int32.ofNat B.slots.size)] 2)) (s₁.setTop (mkF m 2 #[.val (.ref d), .val (.int (Int32.ofNat B.slots.size))] [.ref d, .int (Int32.ofNat B.slots.size)])) := c1.trans (by
    refine XS.iloadN X0.here hexec rfl (hb hbytes d0) rfl ?_
    refine XS.aloadN X0.here hexec rfl (hb hbytes d1) rfl rfl ?_
    exact Steps.refl _)
  have c3 : Steps p.tables e below (s₁.setTop (entryFrame m #[.ref d, .int (Int32.ofNat B.slots.size)] 2)) (s₁.setTop (mkF m 8 #[.val (.ref d), .val (.int (Int32.ofNat B.slots.size))] [.int (lo8 (ushr (Int32.ofNat B.slots.size - Int32.ofNat B.slots.size) 31))])) := c2.trans (by
    refine X0.alen hexec hB0 rfl rfl (hb hbytes d2) ?_
    refine XS.isub X0.here hexec rfl (hb hbytes d3) rfl ?_
    refine bipushV X0.here hexec rfl 31 (hb hbytes d4) (by decide) ?_
    refine iushr X0.here hexec rfl (hb hbytes d6) rfl ?_
    refine i2b X0.here hexec rfl (hb hbytes d7) rfl ?_
    exact Steps.refl _)
  have e0 : lo8 (ushr (Int32.ofNat B.slots.size - Int32.ofNat B.slots.size) 31) = 0 := by rw [Int32.sub_self]; decide
  rw [e0] at c3
  exact ⟨s₁, some (.int 0), _, _, _, X0, rfl, rfl, rfl, (fun h => by cases h), ⟨rfl, hh0⟩, fun fs hl => c3.trans (X0.ireturnOut hexec hret rfl (Or.inr (Or.inr (Or.inl rfl))) (hb hbytes d8) hl)⟩
end CodL
/-- the String at a is Latin-1 over a new byte[] (the heap's one new cell): the low bytes of the len chars of A from o on; every cell but a is kept -/
def Got (a : Addr) (D : Cell) (fV fC : Field) (A : Cell) (o len : Nat) (r : Option Value) (s u : State) : Prop := r = none ∧ ∃ D' V : Cell, Blank "java/lang/String" a D' u ∧ Same D D' [fV.slot, fC.slot] ∧ D'.slots[fV.slot]? = some (.ref s.heap.size) ∧ D'.slots[fC.slot]? = some (.int 0) ∧ Arr .byte s.heap.size V u ∧ V.vm = .none ∧ u.vm.findClass "[B" = some V.cls ∧ V.slots.size = len ∧ (∀ j, j < len → V.slots[j]? = some (.int (lo8 (cv A (o + j))))) ∧ (∀ (y : Addr) (c : Cell), y ≠ a → s.heap[y]? = some c → u.heap[y]? = some c) ∧ u.heap.size = s.heap.size + 1
theorem Got.mv {a : Addr} {D A : Cell} {fV fC : Field} {o len : Nat} : ∀ r (U U' V V' : State), U'.heap = U.heap → V.vm.Alike V'.vm → V'.heap = V.heap → Got a D fV fC A o len r U V → Got a D fV fC A o len r U' V' :=
  fun r U U' V V' h1 hal h2 ⟨e0, D', X, a1, a2, a3, a4, a5, a6, a7, a8, a9, a10, a11⟩ => ⟨e0, D', X, a1.mv hal h2, a2, by rw [h1]; exact a3, a4, by rw [h1]; exact a5.mv hal h2, a6, by rw [hal.findClass]; exact a7, a8, a9, by rw [h1, h2]; exact a10, by rw [h1, h2]; exact a11⟩
namespace New4
def yN : MethodName := ⟨"java/lang/String", "<init>", "([CIILjava/lang/Void;)V"⟩
abbrev yB : ByteArray := jdk_42_method_149_code
theorem d0 : decode yB 0 = .ok (.aload_n 0, 1) := by decide +kernel
theorem d1 : decode yB 1 = .ok (.invokespecial 1, 3) := by decide +kernel
theorem d4 : decode yB 4 = .ok (.iload_n 3, 1) := by decide +kernel
theorem d5 : decode yB 5 = .ok (.ifCond (.ne) 22, 3) := by decide +kernel
theorem d27 : decode yB 27 = .ok (.getstatic 38, 3) := by decide +kernel
theorem d30 : decode yB 30 = .ok (.ifCond (.eq) 28, 3) := by decide +kernel
theorem d33 : decode yB 33 = .ok (.aload_n 1, 1) := by decide +kernel
theorem d34 : decode yB 34 = .ok (.iload_n 2, 1) := by decide +kernel
theorem d35 : decode yB 35 = .ok (.iload_n 3, 1) := by decide +kernel
theorem d36 : decode yB 36 = .ok (.invokestatic 177, 3) := by decide +kernel
theorem d39 : decode yB 39 = .ok (.astore 5, 2) := by decide +kernel
theorem d41 : decode yB 41 = .ok (.aload_n 0, 1) := by decide +kernel
theorem d42 : decode yB 42 = .ok (.aload 5, 2) := by decide +kernel
theorem d44 : decode yB 44 = .ok (.iload_n 3, 1) := by decide +kernel
theorem d45 : decode yB 45 = .ok (.invokestatic 47, 3) := by decide +kernel
theorem d48 : decode yB 48 = .ok (.putfield 15, 3) := by decide +kernel
theorem d51 : decode yB 51 = .ok (.aload_n 0, 1) := by decide +kernel
theorem d52 : decode yB 52 = .ok (.aload 5, 2) := by decide +kernel
theorem d54 : decode yB 54 = .ok (.putfield 9, 3) := by decide +kernel
theorem d57 : decode yB 57 = .ok (.return_, 1) := by decide +kernel
def site : List Cond := [.fieldLink "java/lang/String" 38 "java/lang/String" "COMPACT_STRINGS" "Z", Cmp3.tab, CodL.tab, .laysFinal "java/lang/String" "java/lang/String" "value" "[B", .fieldLink "java/lang/String" 9 "java/lang/String" "value" "[B", .laysFinal "java/lang/String" "java/lang/String" "coder" "B", .fieldLink "java/lang/String" 15 "java/lang/String" "coder" "B"] ++ objW "java/lang/String" 1 ++ staticW "java/lang/String" 177 Cmp3.yN ++ staticW "java/lang/String" 47 CodL.yN
def tab : Cond := tabOf yN yB 6 none site
def P (a : Addr) (D : Cell) (fV fC : Field) (b : Addr) (A : Cell) (z : Int32) (o len : Nat) (args : Array Value) (s : State) : Prop := args = #[.ref a, .ref b, .int (Int32.ofNat o), .int (Int32.ofNat len), .null] ∧ Blank "java/lang/String" a D s ∧ Found "java/lang/String" "value" "[B" fV s ∧ Found "java/lang/String" "coder" "B" fC s ∧ Ch b A s ∧ StaticIs s "java/lang/String" "COMPACT_STRINGS" "Z" (.int z) ∧ ¬ z = 0 ∧ 0 < len ∧ o + len ≤ A.slots.size ∧ len ≤ 536870912 ∧ ∀ i, i < len → ¬ 255 < cv A (o + i)
def E (a : Addr) (D : Cell) (fV fC : Field) (A : Cell) (o len : Nat) (r : Option Value) (s u : State) : Prop := Got a D fV fC A o len r s u
/-- len > 0, no char of the range above 255: a Latin-1 String of their low bytes -/
theorem law (l : Launch) (a : Addr) (D : Cell) (fV fC : Field) (b : Addr) (A : Cell) (z : Int32) (o len : Nat) : Law l yN 5 4 2 35 yB 6 none site (P a D fV fC b A z o len) (E a D fV fC A o len) [⟨a, fC.slot⟩, ⟨a, fV.slot⟩] 1 len := by
  refine Law.of_walk (plainFor_of_name (by decide +kernel)) (by decide +kernel) (by decide +kernel) (by decide) (fun _ _ h => by rw [h.1]; rfl) (fun _ U U' hal hh h => ⟨h.1, h.2.1.mv hal hh, h.2.2.1.al hal, h.2.2.2.1.al hal, h.2.2.2.2.1.mv hal hh, h.2.2.2.2.2.1.there hal hh, h.2.2.2.2.2.2⟩) (fun r U U' V V' h1 hal h2 h => Got.mv r U U' V V' h1 hal h2 h) ?_
  intro p e s m args below meth c s₁ X0 hexec hbytes hml hret hlk hnm hown hh0 W hP
  obtain ⟨rfl, hB, f1, f2, hA, s1, hz, l0, l1, l2, hp⟩ := hP
  have a31 := hA.1.2.2.2
  have c1 : Steps p.tables e below (s₁.setTop (entryFrame m #[.ref a, .ref b, .int (Int32.ofNat o), .int (Int32.ofNat len), .null] 6)) (s₁.setTop (mkF m 0 #[.val (.ref a), .val (.ref b), .val (.int (Int32.ofNat o)), .val (.int (Int32.ofNat len)), .val .null, .unset] [])) := entry rfl
  have c2 : Steps p.tables e below (s₁.setTop (entryFrame m #[.ref a, .ref b, .int (Int32.ofNat o), .int (Int32.ofNat len), .null] 6)) (s₁.setTop (mkF m 1 #[.val (.ref a), .val (.ref b), .val (.int (Int32.ofNat o)), .val (.int (Int32.ofNat len)), .val .null, .unset] [.ref a])) := c1.trans (by
    refine XS.aloadN X0.here hexec rfl (hb hbytes d0) rfl rfl ?_
    exact Steps.refl _)
  obtain ⟨T3, X3, q3, st3⟩ := X0.oinit hexec hown (wks W (objW "java/lang/String" 1)) (g := (mkF m 1 #[.val (.ref a), .val (.ref b), .val (.int (Int32.ofNat o)), .val (.int (Int32.ofNat len)), .val .null, .unset] [.ref a])) rfl (by rw [hml]; rfl) (rest := []) rfl (hb hbytes d1) (W := 0) (by show 2 * 0 + 0 ≤ _; decide) (Nat.le_of_ble_eq_true rfl) (Nat.le_of_ble_eq_true rfl)
  have hh3 := q3.trans hh0
  have c4 : Steps p.tables e below (s₁.setTop (entryFrame m #[.ref a, .ref b, .int (Int32.ofNat o), .int (Int32.ofNat len), .null] 6)) (T3.setTop (mkF m 27 #[.val (.ref a), .val (.ref b), .val (.int (Int32.ofNat o)), .val (.int (Int32.ofNat len)), .val .null, .unset] [])) := (c2.trans (st3 _ (Steps.refl _))).trans (by
    refine XS.iloadN X3.here hexec rfl (hb hbytes d4) rfl ?_
    refine XS.ifYes X3.here hexec rfl (pc0 := 5) rfl (hb hbytes d5) rfl (i0_ne_t (nz32 (by omega) l0)) (by decide) rfl ?_
    exact Steps.refl _)
  obtain ⟨T5, X5, q5, st5⟩ := X3.sget hexec hown (wk W (.fieldLink "java/lang/String" 38 "java/lang/String" "COMPACT_STRINGS" "Z")) s1 (fun _ _ h => by rw [hh3]; exact h) (g := (mkF m 27 #[.val (.ref a), .val (.ref b), .val (.int (Int32.ofNat o)), .val (.int (Int32.ofNat len)), .val .null, .unset] [])) rfl (hb hbytes d27)
  have hh5 := q5.trans hh3
  have c6 : Steps p.tables e below (s₁.setTop (entryFrame m #[.ref a, .ref b, .int (Int32.ofNat o), .int (Int32.ofNat len), .null] 6)) (T5.setTop (mkF m 30 #[.val (.ref a), .val (.ref b), .val (.int (Int32.ofNat o)), .val (.int (Int32.ofNat len)), .val .null, .unset] [.int z])) := c4.trans (st5 _ (Steps.refl _))
  have c7 : Steps p.tables e below (s₁.setTop (entryFrame m #[.ref a, .ref b, .int (Int32.ofNat o), .int (Int32.ofNat len), .null] 6)) (T5.setTop (mkF m 36 #[.val (.ref a), .val (.ref b), .val (.int (Int32.ofNat o)), .val (.int (Int32.ofNat len)), .val .null, .unset] [.int (Int32.ofNat len), .int (Int32.ofNat o), .ref b])) := c6.trans (by
    refine XS.ifNo X5.here hexec rfl (hb hbytes d30) rfl (i0_eq_f hz) ?_
    refine XS.aloadN X5.here hexec rfl (hb hbytes d33) rfl rfl ?_
    refine XS.iloadN X5.here hexec rfl (hb hbytes d34) rfl ?_
    refine XS.iloadN X5.here hexec rfl (hb hbytes d35) rfl ?_
    exact Steps.refl _)
  obtain ⟨v8, T8, X8, E8, g8⟩ := X5.callS hexec (Cmp3.law l b A o len) hown (wks W (staticW "java/lang/String" 177 Cmp3.yN)) (wk W Cmp3.tab) (W := 0) (Nat.le_of_ble_eq_true rfl) (Nat.le_of_ble_eq_true rfl) (Nat.le_refl _) (by show 0 + len ≤ len; omega) (g := (mkF m 36 #[.val (.ref a), .val (.ref b), .val (.int (Int32.ofNat o)), .val (.int (Int32.ofNat len)), .val .null, .unset] [.int (Int32.ofNat len), .int (Int32.ofNat o), .ref b])) rfl (by rw [hml]; rfl) c7 (argsL := [.ref b, .int (Int32.ofNat o), .int (Int32.ofNat len)]) (rest := []) rfl rfl (by show 2 * 0 + 0 ≤ _; decide) (hb hbytes d36) (⟨rfl, hA.mv X5.warmed.alike hh5, l1, l2, hp⟩)
  obtain ⟨e8, z8⟩ := E8
  obtain ⟨rfl, N, n1, n2, n3, n4, n5, n6⟩ := NewArr.mv _ T5 s _ _ hh5.symm (Vm.Alike.refl _) rfl e8
  rw [hh5] at z8
  have hB1 := hB.keep X8.warmed.alike (n6 _ _ hB.1)
  have hne : s.heap.size ≠ a := (Nat.ne_of_lt (Array.getElem?_eq_some_iff.mp hB.1).1).symm
  have c9 : Steps p.tables e below (s₁.setTop (entryFrame m #[.ref a, .ref b, .int (Int32.ofNat o), .int (Int32.ofNat len), .null] 6)) (T8.setTop (mkF m 39 #[.val (.ref a), .val (.ref b), .val (.int (Int32.ofNat o)), .val (.int (Int32.ofNat len)), .val .null, .unset] [.ref s.heap.size])) := g8
  have c10 : Steps p.tables e below (s₁.setTop (entryFrame m #[.ref a, .ref b, .int (Int32.ofNat o), .int (Int32.ofNat len), .null] 6)) (T8.setTop (mkF m 45 #[.val (.ref a), .val (.ref b), .val (.int (Int32.ofNat o)), .val (.int (Int32.ofNat len)), .val .null, .val (.ref s.heap.size)] [.int (Int32.ofNat N.slots.size), .ref s.heap.size, .ref a])) := by
    have hc : Steps p.tables e below (s₁.setTop (entryFrame m #[.ref a, .ref b, .int (Int32.ofNat o), .int (Int32.ofNat len), .null] 6)) (T8.setTop (mkF m 45 #[.val (.ref a), .val (.ref b), .val (.int (Int32.ofNat o)), .val (.int (Int32.ofNat len)), .val .null, .val (.ref s.heap.size)] [.int (Int32.ofNat len), .ref s.heap.size, .ref a])) := c9.trans (by
      refine XS.astore X8.here hexec rfl (hb hbytes d39) rfl rfl rfl ?_
      refine XS.aloadN X8.here hexec rfl (hb hbytes d41) rfl rfl ?_
      refine XS.aload X8.here hexec rfl (hb hbytes d42) rfl rfl ?_
      refine XS.iloadN X8.here hexec rfl (hb hbytes d44) rfl ?_
      exact Steps.refl _)
    rw [n4]; exact hc
  obtain ⟨v11, T11, X11, E11, g11⟩ := X8.callS hexec (CodL.law l s.heap.size N) hown (wks W (staticW "java/lang/String" 47 CodL.yN)) (wk W CodL.tab) (W := 1) (Nat.le_of_ble_eq_true rfl) (Nat.le_of_ble_eq_true rfl) (Nat.le_refl _) (by show 0 + len + 0 ≤ len; omega) (g := (mkF m 45 #[.val (.ref a), .val (.ref b), .val (.int (Int32.ofNat o)), .val (.int (Int32.ofNat len)), .val .null, .val (.ref s.heap.size)] [.int (Int32.ofNat N.slots.size), .ref s.heap.size, .ref a])) rfl (by rw [hml]; rfl) c10 (argsL := [.ref s.heap.size, .int (Int32.ofNat N.slots.size)]) (rest := [.ref a]) rfl rfl (by show 2 * 0 + (1 + 0) ≤ _; decide) (hb hbytes d45) (⟨rfl, n1⟩)
  obtain ⟨rfl, q11⟩ := E11
  have hB11 := hB1.mv (X8.warmed.alike.symm.trans X11.warmed.alike) q11
  have c12 : Steps p.tables e below (s₁.setTop (entryFrame m #[.ref a, .ref b, .int (Int32.ofNat o), .int (Int32.ofNat len), .null] 6)) (T11.setTop (mkF m 48 #[.val (.ref a), .val (.ref b), .val (.int (Int32.ofNat o)), .val (.int (Int32.ofNat len)), .val .null, .val (.ref s.heap.size)] [.int 0, .ref a])) := g11
  obtain ⟨T13, X13, p13, bl13, sl13, st13⟩ := X11.finit hexec hown (wk W (.fieldLink "java/lang/String" 15 "java/lang/String" "coder" "B")) (Or.inr ⟨_, (wk W (.laysFinal "java/lang/String" "java/lang/String" "coder" "B"))⟩) (Or.inl ⟨rfl, hnm⟩) f2 (Or.inl rfl) hB11 (t := .byte) (by decide +kernel) rfl (g := (mkF m 48 #[.val (.ref a), .val (.ref b), .val (.int (Int32.ofNat o)), .val (.int (Int32.ofNat len)), .val .null, .val (.ref s.heap.size)] [.int 0, .ref a])) rfl (rest := []) rfl (hb hbytes d48)
  have c14 : Steps p.tables e below (s₁.setTop (entryFrame m #[.ref a, .ref b, .int (Int32.ofNat o), .int (Int32.ofNat len), .null] 6)) (T13.setTop (mkF m 54 #[.val (.ref a), .val (.ref b), .val (.int (Int32.ofNat o)), .val (.int (Int32.ofNat len)), .val .null, .val (.ref s.heap.size)] [.ref s.heap.size, .ref a])) := (c12.trans (st13 _ (Steps.refl _))).trans (by
    refine XS.aloadN X13.here hexec rfl (hb hbytes d51) rfl rfl ?_
    refine XS.aload X13.here hexec rfl (hb hbytes d52) rfl rfl ?_
    exact Steps.refl _)
  obtain ⟨T15, X15, p15, bl15, sl15, st15⟩ := X13.finit hexec hown (wk W (.fieldLink "java/lang/String" 9 "java/lang/String" "value" "[B")) (Or.inr ⟨_, (wk W (.laysFinal "java/lang/String" "java/lang/String" "value" "[B"))⟩) (Or.inl ⟨rfl, hnm⟩) f1 (Or.inl rfl) bl13 (t := (.array .byte)) (by decide +kernel) rfl (g := (mkF m 54 #[.val (.ref a), .val (.ref b), .val (.int (Int32.ofNat o)), .val (.int (Int32.ofNat len)), .val .null, .val (.ref s.heap.size)] [.ref s.heap.size, .ref a])) rfl (rest := []) rfl (hb hbytes d54)
  have c16 : Steps p.tables e below (s₁.setTop (entryFrame m #[.ref a, .ref b, .int (Int32.ofNat o), .int (Int32.ofNat len), .null] 6)) (T15.setTop (mkF m 57 #[.val (.ref a), .val (.ref b), .val (.int (Int32.ofNat o)), .val (.int (Int32.ofNat len)), .val .null, .val (.ref s.heap.size)] [])) := c14.trans (st15 _ (Steps.refl _))
  have ap := apart (Or.inr ⟨_, (wk W (.laysFinal "java/lang/String" "java/lang/String" "value" "[B"))⟩) (Or.inr ⟨_, (wk W (.laysFinal "java/lang/String" "java/lang/String" "coder" "B"))⟩) f1 f2 (t₁ := .array .byte) (t₂ := .byte) (by decide +kernel) (by decide +kernel) (by decide)
  have al := X8.warmed.alike.symm.trans X15.warmed.alike
  have n7 : T11.heap[s.heap.size]? = some N := by rw [q11]; exact n1.1
  exact ⟨T15, none, _, _, _, X15, by simp, rfl, by omega, (fun _ => rfl), ⟨rfl, _, N, bl15, ((Same.refl D _).set _ (by simp)).set _ (by simp), sl15, (Cell.slots_setSlot_ne _ ap).trans sl13, n1.keep al (p15.other hne (p13.other hne n7)), n2, by rw [al.findClass]; exact n3, n4, n5, fun y c h1 h2 => p15.other h1 (p13.other h1 (by rw [q11]; exact n6 y c h2)), by rw [p15.2.2, p13.2.2, q11]; exact z8⟩, fun fs hl => c16.trans (X15.returnOut hexec hret (hb hbytes d57) hl)⟩
end New4
namespace New1
def yN : MethodName := ⟨"java/lang/String", "<init>", "([C)V"⟩
abbrev yB : ByteArray := jdk_42_method_3_code
theorem d0 : decode yB 0 = .ok (.aload_n 0, 1) := by decide +kernel
theorem d1 : decode yB 1 = .ok (.aload_n 1, 1) := by decide +kernel
theorem d2 : decode yB 2 = .ok (.iconst 0, 1) := by decide +kernel
theorem d3 : decode yB 3 = .ok (.aload_n 1, 1) := by decide +kernel
theorem d4 : decode yB 4 = .ok (.arraylength, 1) := by decide +kernel
theorem d5 : decode yB 5 = .ok (.aconst_null, 1) := by decide +kernel
theorem d6 : decode yB 6 = .ok (.invokespecial 27, 3) := by decide +kernel
theorem d9 : decode yB 9 = .ok (.return_, 1) := by decide +kernel
def site : List Cond := [New4.tab] ++ initW "java/lang/String" 27 New4.yN
def tab : Cond := tabOf yN yB 2 none site
def P (a : Addr) (D : Cell) (fV fC : Field) (b : Addr) (A : Cell) (z : Int32) (args : Array Value) (s : State) : Prop := args = #[.ref a, .ref b] ∧ Blank "java/lang/String" a D s ∧ Found "java/lang/String" "value" "[B" fV s ∧ Found "java/lang/String" "coder" "B" fC s ∧ Ch b A s ∧ StaticIs s "java/lang/String" "COMPACT_STRINGS" "Z" (.int z) ∧ ¬ z = 0 ∧ 0 < A.slots.size ∧ A.slots.size ≤ 536870912 ∧ ∀ i, i < A.slots.size → ¬ 255 < cv A i
def E (a : Addr) (D : Cell) (fV fC : Field) (A : Cell) (r : Option Value) (s u : State) : Prop := Got a D fV fC A 0 A.slots.size r s u
/-- new String(chars), not empty, no char above 255: a Latin-1 String of their low bytes -/
theorem law (l : Launch) (a : Addr) (D : Cell) (fV fC : Field) (b : Addr) (A : Cell) (z : Int32) : Law l yN 2 1 3 52 yB 2 none site (P a D fV fC b A z) (E a D fV fC A) [⟨a, fC.slot⟩, ⟨a, fV.slot⟩] 1 A.slots.size := by
  refine Law.of_walk (plainFor_of_name (by decide +kernel)) (by decide +kernel) (by decide +kernel) (by decide) (fun _ _ h => by rw [h.1]; rfl) (fun _ U U' hal hh h => ⟨h.1, h.2.1.mv hal hh, h.2.2.1.al hal, h.2.2.2.1.al hal, h.2.2.2.2.1.mv hal hh, h.2.2.2.2.2.1.there hal hh, h.2.2.2.2.2.2⟩) (fun r U U' V V' h1 hal h2 h => Got.mv r U U' V V' h1 hal h2 h) ?_
  intro p e s m args below meth c s₁ X0 hexec hbytes hml hret hlk hnm hown hh0 W hP
  obtain ⟨rfl, hB, f1, f2, hA, s1, hz, l0, l2, hp⟩ := hP
  have c1 : Steps p.tables e below (s₁.setTop (entryFrame m #[.ref a, .ref b] 2)) (s₁.setTop (mkF m 0 #[.val (.ref a), .val (.ref b)] [])) := entry rfl
  have c2 : Steps p.tables e below (s₁.setTop (entryFrame m #[.ref a, .ref b] 2)) (s₁.setTop (mkF m 6 #[.val (.ref a), .val (.ref b)] [.null, .int (Int32.ofNat A.slots.size), .int 0, .ref b, .ref a])) := c1.trans (by
    refine XS.aloadN X0.here hexec rfl (hb hbytes d0) rfl rfl ?_
    refine XS.aloadN X0.here hexec rfl (hb hbytes d1) rfl rfl ?_
    refine iconstV X0.here hexec rfl 0 (hb hbytes d2) (by decide) ?_
    refine XS.aloadN X0.here hexec rfl (hb hbytes d3) rfl rfl ?_
    refine X0.alen hexec (hA.1.mv X0.warmed.alike hh0) rfl rfl (hb hbytes d4) ?_
    refine XS.aconstNull X0.here hexec rfl (hb hbytes d5) ?_
    exact Steps.refl _)
  obtain ⟨v3, T3, X3, E3, g3⟩ := X0.callN hexec (New4.law l a D fV fC b A z 0 A.slots.size) rfl hown (wks W (initW "java/lang/String" 27 New4.yN)) (W New4.tab (by simp only [site, List.mem_cons, List.mem_append, true_or, or_true])) (W := 0) (Nat.le_of_ble_eq_true rfl) (Nat.le_of_ble_eq_true rfl) (Nat.le_refl _) (by show 0 + A.slots.size ≤ A.slots.size; omega) (g := (mkF m 6 #[.val (.ref a), .val (.ref b)] [.null, .int (Int32.ofNat A.slots.size), .int (Int32.ofNat 0), .ref b, .ref a])) rfl (by rw [hml]; rfl) c2 (argsL := [.ref b, .int (Int32.ofNat 0), .int (Int32.ofNat A.slots.size), .null]) (rest := []) rfl rfl (by show 2 * 0 + 0 ≤ _; decide) (hb hbytes d6) (⟨rfl, hB.mv X0.warmed.alike hh0, f1.al X0.warmed.alike, f2.al X0.warmed.alike, hA.mv X0.warmed.alike hh0, s1.there X0.warmed.alike hh0, hz, l0, by omega, l2, fun i hi => by rw [Nat.zero_add]; exact hp i hi⟩)
  have e0 := Got.mv _ s₁ s _ _ hh0.symm (Vm.Alike.refl _) rfl E3
  obtain rfl := e0.1
  have c4 : Steps p.tables e below (s₁.setTop (entryFrame m #[.ref a, .ref b] 2)) (T3.setTop (mkF m 9 #[.val (.ref a), .val (.ref b)] [])) := g3
  exact ⟨T3, none, _, _, _, X3, by simp, rfl, by omega, (fun _ => rfl), e0, fun fs hl => c4.trans (X3.returnOut hexec hret (hb hbytes d9) hl)⟩
theorem pays {l : Launch} {R : Room} {p : Program} {e : Env} {below : List Frame} {s : State} {sargs : Array Value} {len W : Nat} (a : Addr) (D : Cell) (fV fC : Field) (b : Addr) (A : Cell) (z : Int32) (htab : tab.before sargs s = true) (hfr : 4 ≤ R.frames) (hlo : W + 65 ≤ R.locals) :
    Back l R p e below s sargs yN len W (fun A₁ a₁ => A₁.cells + 1 ≤ R.cells ∧ A₁.slots + A.slots.size ≤ R.slots ∧ P a D fV fC b A z a₁ A₁.U) (fun A₁ _ v₁ B₁ => E a D fV fC A v₁ A₁.U B₁.U ∧ B₁.locs = A₁.locs ++ [⟨a, fC.slot⟩, ⟨a, fV.slot⟩] ∧ B₁.cells = A₁.cells + 1 ∧ B₁.slots = A₁.slots + A.slots.size) :=
  (law l a D fV fC b A z).pays htab hfr (by omega)
end New1
/-- the byte, read back as charAt reads it, is the char -/
theorem lo8_mask {x : Int32} (h0 : ¬ x < 0) (h1 : ¬ 255 < x) : lo8 x &&& 255 = x := by
  have t : ∀ k : Fin 256, lo8 (Int32.ofNat k.val) &&& 255 = Int32.ofNat k.val := by decide +kernel
  rw [Int32.lt_iff_toInt_lt] at h0 h1
  have e0 : (0 : Int32).toInt = 0 := rfl
  have e1 : (255 : Int32).toInt = 255 := rfl
  obtain ⟨k, hk⟩ : ∃ k : Nat, x.toInt = k := ⟨x.toInt.toNat, by omega⟩
  have hx : x = Int32.ofNat k := Int32.toInt_inj.mp (by rw [hk, Int32.toInt_ofNat_small (by omega)])
  rw [hx]
  exact t ⟨k, by omega⟩
end StrChars
namespace StrChars.Road
open Jvm Sem ClassFile Op Lib Jvm.Stand Jvm.Free Jvm.Free.XT
open Jvm.Lib.Cold (StaticIs)
abbrev ST : String := "java/lang/String"
/-- every table word that New1's law asks, flat -/
abbrev words : List Jvm.Cond := [.code New1.yN New1.yB 2 none, .initialized ST, .methodLink ST 27 New4.yN, .instanceMethod New4.yN,
  .code New4.yN New4.yB 6 none, .fieldLink ST 38 ST "COMPACT_STRINGS" "Z", .laysFinal ST ST "value" "[B", .fieldLink ST 9 ST "value" "[B", .laysFinal ST ST "coder" "B", .fieldLink ST 15 ST "coder" "B",
  .methodLink ST 1 Lib.objectInit, .instanceMethod Lib.objectInit, .code Lib.objectInit ⟨#[0xb1]⟩ 1 none, .methodLink ST 177 Cmp3.yN, .static Cmp3.yN, .methodLink ST 47 CodL.yN, .static CodL.yN,
  .code Cmp3.yN Cmp3.yB 6 (some (.array .byte)), .initialized U16, .arrayClass .byte, .methodLink U16 115 Cmp5.yN, .static Cmp5.yN, .code Cmp5.yN Cmp5.yB 7 (some .int), .code CodL.yN CodL.yB 2 (some .byte)]
theorem tab_of {a : Array Value} {s : State} (h : ∀ w ∈ words, w.before a s = true) : New1.tab.before a s = true := by
  have h5 : Cmp5.tab.before a s = true := unparts (wk h (.code Cmp5.yN Cmp5.yB 7 (some .int))) (wks h (.initialized Cmp5.yN.cls :: Cmp5.site))
  have hc : CodL.tab.before a s = true := unparts (wk h (.code CodL.yN CodL.yB 2 (some .byte))) (wks h (.initialized CodL.yN.cls :: CodL.site))
  have q5 : ∀ w ∈ Cmp5.tab :: words, w.before a s = true := fun w hw => (List.mem_cons.mp hw).elim (fun e => e ▸ h5) (h w)
  have h3 : Cmp3.tab.before a s = true := unparts (wk q5 (.code Cmp3.yN Cmp3.yB 6 (some (.array .byte)))) (wks q5 (.initialized Cmp3.yN.cls :: Cmp3.site))
  have q3 : ∀ w ∈ Cmp3.tab :: CodL.tab :: words, w.before a s = true := fun w hw => (List.mem_cons.mp hw).elim (fun e => e ▸ h3) fun hw => (List.mem_cons.mp hw).elim (fun e => e ▸ hc) (h w)
  have h4 : New4.tab.before a s = true := unparts (wk q3 (.code New4.yN New4.yB 6 none)) (wks q3 (.initialized New4.yN.cls :: New4.site))
  have q4 : ∀ w ∈ New4.tab :: words, w.before a s = true := fun w hw => (List.mem_cons.mp hw).elim (fun e => e ▸ h4) (h w)
  exact unparts (wk q4 (.code New1.yN New1.yB 2 none)) (wks q4 (.initialized New1.yN.cls :: New1.site))
/-- the words ride from the start Z to the walk's own state -/
theorem moved {Z s : State} {a0 args : Array Value} (hZ : Z.Warmed39 s.vm) (hw : ∀ d ∈ words, d.before a0 Z = true) : ∀ d ∈ words, d.before args s = true := fun d hd => by
  have q := hw d hd
  have t : ∀ d ∈ words, d = .arrayClass .byte ∨ (d.onTables && d.keepsFace) = true := by decide +kernel
  rcases t d hd with rfl | t
  · exact RoadKit.mvA hZ q
  · exact RoadKit.mv hZ q t
/-- WHAT COMES BACK, over the tables of the start Z: h the heap at the call, h' behind it -/
def Q (Z : State) (x : Addr) (A : Cell) (h : Heap) (v : Option Value) (h' : Heap) (L : List Loc) : Prop := v = none ∧ (∀ y ∈ L, y.base = x) ∧ RoadKit.Keep h h' [x] ∧ h'.size = h.size + 1 ∧ RoadKit.Exa Z h' x ST ∧ RoadKit.Fld Z h' x ST "value" "[B" (.ref h.size) ∧ RoadKit.Fld Z h' x ST "coder" "B" (.int 0) ∧
  (∃ V : Cell, RoadKit.Arr Z h' h.size V .byte ∧ V.vm = .none ∧ Z.vm.findClass "[B" = some V.cls ∧ V.slots.size = A.slots.size ∧ ∀ j, j < A.slots.size → V.slots[j]? = some (.int (lo8 (cv A j)))) ∧
  ∀ (O n d : String) (w : Value), RoadKit.Fld Z h x O n d w → RoadKit.slotOf Z O n d ≠ RoadKit.slotOf Z ST "value" "[B" → RoadKit.slotOf Z O n d ≠ RoadKit.slotOf Z ST "coder" "B" → RoadKit.Fld Z h' x O n d w
/-- **new String(chars) AT A CALL, IN THE ROAD'S FORM**: for specialBack behind newO: x the fresh String, b the char[] with the cell A -/
theorem back {p : Program} {l : Launch} {e : Env} {R : Room} {s : State} {args : Array Value} {below : List Frame} {len W : Nat} {Z : State} {a0 : Array Value} {h : Heap} (hZ : Z.Warmed39 s.vm) (hw : ∀ d ∈ words, d.before a0 Z = true) {kI : Nat} (wi : (Jvm.Cond.instantiable ST kI).before a0 Z = true)
    {x b : Addr} {A : Cell} {z : Int32} {v0 c0 : Value} (E : RoadKit.Exa Z h x ST) (V : RoadKit.Fld Z h x ST "value" "[B" v0) (C : RoadKit.Fld Z h x ST "coder" "B" c0) (K : RoadKit.Arr Z h b A .char) (hty : Typed .char A) (S : RoadKit.Sta Z h ST "COMPACT_STRINGS" "Z" (.int z)) (hz : ¬ z = 0)
    (l0 : 0 < A.slots.size) (l2 : A.slots.size ≤ 536870912) (hp : ∀ i, i < A.slots.size → ¬ 255 < cv A i) (hfr : 4 ≤ R.frames) (hlo : W + 65 ≤ R.locals) :
    Back l R p e below s args New1.yN len W (fun P a => a = #[.ref x, .ref b] ∧ P.U.heap = h ∧ P.cells + 1 ≤ R.cells ∧ P.slots + A.slots.size ≤ R.slots)
      (fun P _ v B => ∃ L, Q Z x A h v B.U.heap L ∧ B.locs = P.locs ++ L ∧ B.cells = P.cells + 1 ∧ B.slots = P.slots + A.slots.size) := by
  intro m meth c P g ig mk a X hg hsize hdg hW hn hp'
  obtain ⟨rfl, rfl, r1, r2⟩ := hp'
  have al : Z.vm.Alike P.U.vm := hZ.alike.trans X.warmed.alike
  obtain ⟨D, cfV, kV, iV, fV, hD, gV, stV, knV, obV, asV, slV⟩ := id V
  obtain ⟨D', cfC, kC, iC, fC, hD', gC, stC, -, -, asC, slC⟩ := id C
  cases hD.symm.trans hD'
  obtain ⟨D2, kD, e1, e2, e3, e4, e5⟩ := id E
  cases hD.symm.trans e1
  obtain ⟨c2, k2, i1, i2, i3, -⟩ := Cond.instantiable_spec wi
  cases e2.symm.trans i1
  cases e3.symm.trans i2
  obtain ⟨kU, u1, u2⟩ := al.2.2 _ _ e3
  have hB : Blank ST x D P.U := ⟨hD, ⟨knV, fun q hq => by rw [hq] at obV; cases obV⟩, by rw [al.findClass]; exact e2, kU, u1, by rw [u2]; exact i3, by rw [u2]; exact e5 i3⟩
  have F1 : Found ST "value" "[B" fV P.U := ⟨SBG.found_only al ⟨cfV, kV, iV, gV⟩, stV⟩
  have F2 : Found ST "coder" "B" fC P.U := ⟨SBG.found_only al ⟨cfC, kC, iC, gC⟩, stC⟩
  have hA : Ch b A P.U := ⟨⟨K.1, State.isArrayOf_alike al K.2.1, K.2.2, by omega⟩, hty⟩
  have hS : StaticIs P.U ST "COMPACT_STRINGS" "Z" (.int z) := by
    obtain ⟨cfS, iS, kS, fS, st, cS, t1, t2, t3, t4, t5, t6, t7⟩ := S
    exact StaticIs.there (s := { Z with heap := P.U.heap }) ⟨cfS, iS, kS, fS, st, cS, t1, t2, t3, t4, t5, (fun q => by rw [q] at t6; cases t6), t7⟩ al rfl
  obtain ⟨v, B, X', ⟨⟨hv, E', V', q1, q2, q3, q4, q5, q6, q7, q8, q9, q10, q11⟩, hl, hc, hs⟩, st⟩ := New1.pays x D fV fC b A z (tab_of (moved hZ hw)) hfr hlo m meth c P g ig mk _ X hg hsize hdg hW hn ⟨r1, r2, rfl, hB, F1, F2, hA, hS, hz, l0, l2, hp⟩
  have al' : Z.vm.Alike B.U.vm := hZ.alike.trans X'.warmed.alike
  have hsz : E'.slots.size = D.slots.size := by
    obtain ⟨-, -, -, kB, w1, w2, w3⟩ := q1
    obtain ⟨kB', y1, y2⟩ := al'.2.2 _ _ e3
    rw [q2.2.1] at w1
    cases w1.symm.trans y1
    rw [w3, e5 i3, y2]
  refine ⟨v, B, X', ⟨_, ⟨hv, ?_, ⟨by omega, fun y cy hy hn' => q10 y cy (by simpa using hn') hy, fun y cy hy => ?_⟩, q11, ⟨E', _, q1.1, by rw [q2.2.1]; exact e2, by rw [q2.2.1]; exact e3, by rw [q2.1]; exact obV, fun _ => by rw [hsz]; exact e5 i3⟩,
    ⟨E', cfV, kV, iV, fV, q1.1, gV, stV, by rw [q2.1]; exact knV, by rw [q2.1]; exact obV, by rw [q2.2.1]; exact asV, q3⟩, ⟨E', cfC, kC, iC, fC, q1.1, gC, stC, by rw [q2.1]; exact knV, by rw [q2.1]; exact obV, by rw [q2.2.1]; exact asC, q4⟩,
    ⟨V', ⟨q5.1, State.isArrayOf_alike al'.symm q5.2.1, q5.2.2.1⟩, q6, by rw [← al'.findClass]; exact q7, q8, fun j hj => by have := q9 j hj; rwa [Nat.zero_add] at this⟩, fun O n d w F n1 n2 => ?_⟩, hl, hc, hs⟩, st⟩
  · intro y hy
    simp only [List.mem_cons, List.not_mem_nil, or_false] at hy
    rcases hy with rfl | rfl <;> rfl
  · by_cases q : y = x
    · subst q
      cases hD.symm.trans hy
      exact ⟨E', q1.1, q2.2.1, q2.1, hsz⟩
    · exact ⟨cy, q10 y cy q hy, rfl, rfl, rfl⟩
  · obtain ⟨D3, cf, k, i, f, g1, g2, g3, g4, g5, g6, g7⟩ := F
    cases hD.symm.trans g1
    simp only [RoadKit.slotOf, g2, gV, gC, Option.map_some, Option.getD_some] at n1 n2
    exact ⟨E', cf, k, i, f, q1.1, g2, g3, by rw [q2.1]; exact g4, by rw [q2.1]; exact g5, by rw [q2.2.1]; exact g6, by rw [q2.2.2 f.slot (by simp [n1, n2])]; exact g7⟩
end StrChars.Road
namespace StrChars.Road
open Jvm Sem ClassFile Op Lib Jvm.Stand Jvm.Free Jvm.Free.XT
/-- WHAT COMES BACK, the byte[] as a list of values -/
def QA (Z : State) (x : Addr) (zn : Int32) (cs : List Int32) (h : Heap) (v : Option Value) (h' : Heap) (L : List Loc) : Prop := v = none ∧ (∀ y ∈ L, y.base = x) ∧ RoadKit.Keep h h' [x] ∧ h'.size = h.size + 1 ∧ RoadKit.Exa Z h' x ST ∧ RoadKit.Fld Z h' x ST "value" "[B" (.ref h.size) ∧ RoadKit.Fld Z h' x ST "coder" "B" (.int 0) ∧
  (∃ kb, Z.vm.findClass "[B" = some kb ∧ RoadKit.Arv Z h' h.size kb .byte zn (cs.map fun c => .int (lo8 c)) (.int 0)) ∧
  ∀ (O n d : String) (w : Value), RoadKit.Fld Z h x O n d w → RoadKit.slotOf Z O n d ≠ RoadKit.slotOf Z ST "value" "[B" → RoadKit.slotOf Z O n d ≠ RoadKit.slotOf Z ST "coder" "B" → RoadKit.Fld Z h' x O n d w
/-- **new String(chars) AT A CALL, THE ARRAYS AS LISTS**: the char[] at b holds cs, not empty, no char above 255 -/
theorem backArv {p : Program} {l : Launch} {e : Env} {R : Room} {s : State} {args : Array Value} {below : List Frame} {len W : Nat} {Z : State} {a0 : Array Value} {h : Heap} (hZ : Z.Warmed39 s.vm) (hw : ∀ d ∈ words, d.before a0 Z = true) {kI : Nat} (wi : (Jvm.Cond.instantiable ST kI).before a0 Z = true)
    {x b : Addr} {k : ClassId} {zn z : Int32} {cs : List Int32} {dv v0 c0 : Value} (E : RoadKit.Exa Z h x ST) (V : RoadKit.Fld Z h x ST "value" "[B" v0) (C : RoadKit.Fld Z h x ST "coder" "B" c0) (K : RoadKit.Arv Z h b k .char zn (cs.map Value.int) dv) (S : RoadKit.Sta Z h ST "COMPACT_STRINGS" "Z" (.int z)) (hz : ¬ z = 0)
    (hlen : zn.toNatClampNeg = cs.length) (h0 : 0 < cs.length) (hbig : cs.length ≤ 536870912) (hall : ∀ c ∈ cs, ¬ 255 < c) (hfr : 4 ≤ R.frames) (hlo : W + 65 ≤ R.locals) :
    Back l R p e below s args New1.yN len W (fun P a => a = #[.ref x, .ref b] ∧ P.U.heap = h ∧ P.cells + 1 ≤ R.cells ∧ P.slots + cs.length ≤ R.slots)
      (fun P _ v B => ∃ L, QA Z x zn cs h v B.U.heap L ∧ B.locs = P.locs ++ L ∧ B.cells = P.cells + 1 ∧ B.slots = P.slots + cs.length) := by
  obtain ⟨A, K1, K2, K3, K4, K5, K6⟩ := K
  have e : A.slots.size = cs.length := K3.trans hlen
  have hat : ∀ (i : Nat) (hi : i < cs.length), A.slots[i]? = some (.int cs[i]) := fun i hi => by rw [K5 i (by omega)]; simp [List.getD_eq_getElem?_getD, hi]
  have hcv : ∀ (i : Nat) (hi : i < cs.length), cv A i = cs[i] := fun i hi => by unfold cv; rw [hat i hi]
  have hty : Typed .char A := fun i v hv => by
    have hi : i < A.slots.size := (Array.getElem?_eq_some_iff.mp hv).1
    have q := K5 i hi
    rw [hv] at q
    rw [Option.some.inj q]
    exact K6 i hi
  refine Back.mono (back hZ hw wi E V C K1 hty S hz (by omega) (by omega) (fun i hi => by rw [hcv i (by omega)]; exact hall _ (List.getElem_mem _)) hfr hlo) (fun P a hp => ⟨hp.1, hp.2.1, hp.2.2.1, by rw [e]; exact hp.2.2.2⟩) (fun P a v B hp hq => ?_)
  obtain ⟨L, ⟨q1, q2, q3, q4, q5, q6, q7, ⟨V', v1, v2, v3, v4, v5⟩, q9⟩, hl, hc, hs⟩ := hq
  refine ⟨L, ⟨q1, q2, q3, q4, q5, q6, q7, ⟨V'.cls, v3, V', v1, rfl, by rw [v4, e, hlen], K4, fun i hi => ?_, fun i hi => ?_⟩, q9⟩, hl, hc, by rw [hs, e]⟩
  · have hi' : i < cs.length := by omega
    rw [v5 i (by omega), hcv i hi']; simp [List.getD_eq_getElem?_getD, hi']
  · have hi' : i < cs.length := by omega
    simp only [List.getD_eq_getElem?_getD, List.getElem?_map, List.getElem?_eq_getElem hi', Option.map_some, Option.getD_some]
    exact fits_lo8 _
end StrChars.Road
namespace StrChars.Road
open Jvm Sem ClassFile Op Lib Jvm.Stand Jvm.Free Jvm.Free.XT
/-- WHAT COMES BACK, in the writer's own shape -/
def QV (Z : State) (x : Addr) (N : Int32) (bs : List Int32) (h : Heap) (n0 : Nat) (v : Option Value) (h' : Heap) (L : List Loc) : Prop := v = none ∧ RoadKit.Fr n0 L ∧ RoadKit.Keep h h' [x] ∧ RoadKit.Exa Z h' x ST ∧ RoadKit.Fld Z h' x ST "coder" "B" (.int 0) ∧
  ∃ (t : Addr) (kb : ClassId), n0 ≤ t ∧ h.size ≤ t ∧ ¬ t = x ∧ RoadKit.Fld Z h' x ST "value" "[B" (.ref t) ∧ RoadKit.Arv Z h' t kb .byte N (bs.map Value.int) (.int 0)
/-- **new String(chars) AT A CALL, FOR THE WRITER**: a char[] of n known ints, each 0 to 255 -/
theorem backV {p : Program} {l : Launch} {e : Env} {R : Room} {s : State} {args : Array Value} {below : List Frame} {len W : Nat} {Z : State} {a0 : Array Value} {h : Heap} (hZ : Z.Warmed39 s.vm) (hw : ∀ d ∈ words, d.before a0 Z = true) {kI : Nat} (wi : (Jvm.Cond.instantiable ST kI).before a0 Z = true)
    {x b : Addr} {kC : ClassId} {cs bs : List Int32} {d v0 c0 : Value} {z N : Int32} {n n0 : Nat} (hx0 : n0 ≤ x) (hh0 : n0 ≤ h.size) (E : RoadKit.Exa Z h x ST) (V : RoadKit.Fld Z h x ST "value" "[B" v0) (C : RoadKit.Fld Z h x ST "coder" "B" c0) (K : RoadKit.Arv Z h b kC .char N (cs.map Value.int) d) (S : RoadKit.Sta Z h ST "COMPACT_STRINGS" "Z" (.int z)) (hz : ¬ z = 0)
    (hn : cs.length = n) (hN : N = Int32.ofNat n) (l0 : 0 < n) (l2 : n ≤ 4000) (hp : ∀ c ∈ cs, ¬ c < 0 ∧ ¬ (255 : Int32) < c) (hb : bs = cs.map (fun c => c.toInt8.toInt32)) (hfr : 4 ≤ R.frames) (hlo : W + 65 ≤ R.locals) :
    Back l R p e below s args (⟨"java/lang/String", "<init>", "([C)V"⟩ : MethodName) len W (fun P a => a = #[.ref x, .ref b] ∧ P.U.heap = h ∧ P.cells + 1 ≤ R.cells ∧ P.slots + n ≤ R.slots)
      (fun P _ v B => ∃ L, QV Z x N bs h n0 v B.U.heap L ∧ B.locs = P.locs ++ L ∧ B.cells = P.cells + 1 ∧ B.slots = P.slots + n) := by
  subst hn hN hb
  refine Back.mono (backArv hZ hw wi E V C K S hz (n32 (by omega)) l0 (by omega) (fun c hc => (hp c hc).2) hfr hlo) (fun P a hp => hp) (fun P a v B hp hq => ?_)
  obtain ⟨L, ⟨q1, q2, q3, q4, q5, q6, q7, ⟨kb, v1, v2⟩, q9⟩, hl, hc, hs⟩ := hq
  exact ⟨L, ⟨q1, fun y hy => by rw [q2 y hy]; exact hx0, q3, q5, q7, h.size, kb, hh0, Nat.le_refl _, Nat.ne_of_gt E.lt, q6, by rw [List.map_map]; exact v2⟩, hl, hc, hs⟩
end StrChars.Road
namespace StrChars
open Jvm Sem ClassFile Op Lib Jvm.Stand Jvm.Free.XT Jvm.Free.ALB Jvm.Free.JM Jvm.Free
open Jvm.Lib.Cold (StaticIs)
def hi8 (x : Int32) : Int32 := lo8 (x >>> ((8 : Int32) &&& 31))
/-- what StringUTF16.getChar makes of two bytes -/
def pairCh (u v : Int32) : Int32 := (((u &&& 255) <<< ((0 : Int32) &&& 31)) ||| ((v &&& 255) <<< ((8 : Int32) &&& 31))).toUInt32.toUInt16.toUInt32.toInt32
theorem shr0 (c : Int32) : c >>> ((0 : Int32) &&& 31) = c := by
  have e : ((0 : Int32) &&& 31) = 0 := by decide
  rw [e]
  apply Int32.toBitVec_inj.mp
  rw [Int32.toBitVec_shiftRight]
  have e1 : ((0 : Int32).toBitVec.smod 32) = 0#32 := by decide
  rw [e1, BitVec.sshiftRight_eq']
  exact BitVec.sshiftRight_zero
theorem lo8_and (x : Int32) : (lo8 x &&& 255).toBitVec.toNat = x.toBitVec.toNat % 256 := by
  have h : (lo8 x).toBitVec = (x.toBitVec.signExtend 8).signExtend 32 := by rw [lo8, Int8.toBitVec_toInt32, Int32.toBitVec_toInt8]
  rw [Int32.toBitVec_and, BitVec.toNat_and, h]
  have e : ((x.toBitVec.signExtend 8).signExtend 32).toNat % 256 = x.toBitVec.toNat % 256 := by
    rw [BitVec.toNat_signExtend]
    have hlt := x.toBitVec.isLt
    simp only [BitVec.toNat_setWidth, BitVec.toNat_signExtend]
    split <;> split <;> omega
  rw [← e]
  exact Nat.and_two_pow_sub_one_eq_mod _ 8
theorem pair_says {c : Int32} (h0 : ¬ c < 0) (h1 : ¬ 65535 < c) : pairCh (lo8 c) (hi8 c) = c := by
  rw [Int32.lt_iff_toInt_lt] at h0 h1
  have e0 : (0 : Int32).toInt = 0 := rfl
  have e1 : (65535 : Int32).toInt = 65535 := rfl
  have hc : c.toInt = c.toBitVec.toNat := by
    have := c.toBitVec.isLt
    have e : c.toInt = c.toBitVec.toInt := rfl
    rw [e] at h0 h1
    rw [e]
    rw [BitVec.toInt_eq_toNat_cond] at h0 h1 ⊢
    split at h0 <;> split <;> omega
  have hn : c.toBitVec.toNat < 65536 := by omega
  have a1 := lo8_and c
  have a2 : (hi8 c &&& 255).toBitVec.toNat = c.toBitVec.toNat / 256 := by
    rw [hi8, lo8_and]
    have e : ((8 : Int32) &&& 31) = 8 := by decide
    rw [e, Int32.toBitVec_shiftRight]
    have e2 : ((8 : Int32).toBitVec.smod 32) = 8#32 := by decide
    rw [e2, BitVec.sshiftRight_eq', BitVec.toNat_sshiftRight_of_msb_false (by rw [BitVec.msb_eq_false_iff_two_mul_lt]; omega)]
    show c.toBitVec.toNat >>> 8 % 256 = _
    rw [Nat.shiftRight_eq_div_pow]
    omega
  unfold pairCh
  apply Int32.toBitVec_inj.mp
  apply BitVec.eq_of_toNat_eq
  have f0 : ((0 : Int32) &&& 31) = 0 := by decide
  have f8 : ((8 : Int32) &&& 31) = 8 := by decide
  rw [f0, f8]
  have g : (((lo8 c &&& 255) <<< (0 : Int32)) ||| ((hi8 c &&& 255) <<< (8 : Int32))).toBitVec.toNat = c.toBitVec.toNat := by
    rw [Int32.toBitVec_or, Int32.toBitVec_shiftLeft, Int32.toBitVec_shiftLeft]
    have s0 : ((0 : Int32).toBitVec.smod 32) = 0#32 := by decide
    have s8 : ((8 : Int32).toBitVec.smod 32) = 8#32 := by decide
    rw [s0, s8, BitVec.toNat_or]
    simp only [BitVec.shiftLeft_eq', BitVec.toNat_shiftLeft, a1, a2]
    show (c.toBitVec.toNat % 256) <<< 0 % 2 ^ 32 ||| (c.toBitVec.toNat / 256) <<< 8 % 2 ^ 32 = _
    rw [Nat.shiftLeft_zero, Nat.mod_eq_of_lt (show c.toBitVec.toNat % 256 < 2 ^ 32 by omega), Nat.mod_eq_of_lt (show (c.toBitVec.toNat / 256) <<< 8 < 2 ^ 32 by rw [Nat.shiftLeft_eq]; omega), Nat.or_comm, ← Nat.shiftLeft_add_eq_or_of_lt (by omega), Nat.shiftLeft_eq]
    omega
  show BitVec.toNat (((((lo8 c &&& 255) <<< (0 : Int32)) ||| ((hi8 c &&& 255) <<< (8 : Int32))).toBitVec.setWidth 16).setWidth 32) = _
  rw [BitVec.toNat_setWidth, BitVec.toNat_setWidth, g]
  omega
end StrChars
namespace StrChars
open Jvm Sem ClassFile Op Lib Jvm.Stand Jvm.Free.XT Jvm.Free.ALB Jvm.Free.JM Jvm.Free
open Jvm.Lib.Cold (StaticIs)
theorem shr1 {n : Nat} (h : 2 * n < 2 ^ 31) : Int32.ofNat (2 * n) >>> ((1 : Int32) &&& 31) = Int32.ofNat n := by
  have e : ((1 : Int32) &&& 31) = 1 := by decide
  rw [e]
  apply Int32.toBitVec_inj.mp
  rw [Int32.toBitVec_shiftRight]
  have e1 : ((1 : Int32).toBitVec.smod 32) = 1#32 := by decide
  have hm : (BitVec.ofNat 32 (2 * n)).toNat = 2 * n := by rw [BitVec.toNat_ofNat, Nat.mod_eq_of_lt (by omega)]
  rw [e1, BitVec.sshiftRight_eq']
  apply BitVec.eq_of_toNat_eq
  show ((BitVec.ofNat 32 (2 * n)).sshiftRight 1).toNat = (BitVec.ofNat 32 n).toNat
  rw [BitVec.toNat_sshiftRight_of_msb_false (by rw [BitVec.msb_eq_false_iff_two_mul_lt, hm]; omega), hm, BitVec.toNat_ofNat, Nat.shiftRight_eq_div_pow]
  omega
/-- charAt's cast of a byte read back -/
def chr8 (u : Int32) : Int32 := (u &&& 255).toUInt32.toUInt16.toUInt32.toInt32
theorem chr8_lo8 {c : Int32} (h0 : ¬ c < 0) (h1 : ¬ 255 < c) : chr8 (lo8 c) = c := by
  have t : ∀ k : Fin 256, (Int32.ofNat k.val).toUInt32.toUInt16.toUInt32.toInt32 = Int32.ofNat k.val := by decide +kernel
  unfold chr8
  rw [lo8_mask h0 h1]
  rw [Int32.lt_iff_toInt_lt] at h0 h1
  have e0 : (0 : Int32).toInt = 0 := rfl
  have e1 : (255 : Int32).toInt = 255 := rfl
  obtain ⟨k, hk⟩ : ∃ k : Nat, c.toInt = k := ⟨c.toInt.toNat, by omega⟩
  have hx : c = Int32.ofNat k := Int32.toInt_inj.mp (by rw [hk, Int32.toInt_ofNat_small (by omega)])
  rw [hx]
  exact t ⟨k, by omega⟩
theorem narrow_ch {c : Int32} (h0 : ¬ c < 0) (h1 : ¬ 65535 < c) : narrow .char (.int c) = .int c := by
  have q : narrow .char (.int (pairCh (lo8 c) (hi8 c))) = .int (pairCh (lo8 c) (hi8 c)) := narrow_c _
  rwa [pair_says h0 h1] at q
/-- the array's cell V codes the n chars f 0 .. f (n - 1) by the coder cd, as the JDK does: coder 1 just where some char is above 255 -/
def Cod (cd : Int32) (n : Nat) (f : Nat → Int32) (V : Cell) : Prop := (cd = 0 ∧ V.slots.size = n ∧ ∀ j, j < n → V.slots[j]? = some (.int (lo8 (f j))) ∧ ¬ 255 < f j) ∨ (cd = 1 ∧ V.slots.size = 2 * n ∧ (∀ j, j < n → V.slots[2 * j]? = some (.int (lo8 (f j))) ∧ V.slots[2 * j + 1]? = some (.int (hi8 (f j)))) ∧ ∃ j, j < n ∧ 255 < f j)
theorem Cod.cd {cd : Int32} {n : Nat} {f : Nat → Int32} {V : Cell} (h : Cod cd n f V) : cd = 0 ∨ cd = 1 := h.imp (fun q => q.1) fun q => q.1
theorem Cod.len {cd : Int32} {n : Nat} {f : Nat → Int32} {V : Cell} (h : Cod cd n f V) (hs : V.slots.size < 2 ^ 31) : Int32.ofNat V.slots.size >>> (cd &&& 31) = Int32.ofNat n := by
  rcases h with ⟨rfl, h, -⟩ | ⟨rfl, h, -⟩
  · rw [shr0, h]
  · rw [h, shr1 (by omega)]
/-- **x is a String of the n chars f 0 .. f (n - 1)**, Latin-1 or UTF-16; its array at t has the cell V -/
def Txt (x t : Addr) (V : Cell) (cd : Int32) (n : Nat) (f : Nat → Int32) (U : State) : Prop := Exact "java/lang/String" x U ∧ Has x "java/lang/String" "value" "[B" (.ref t) U ∧ Has x "java/lang/String" "coder" "B" (.int cd) U ∧ XT.Arr .byte t V U ∧ Cod cd n f V ∧ ∀ j, j < n → ¬ f j < 0 ∧ ¬ 65535 < f j
theorem Txt.mv {x t : Addr} {V : Cell} {cd : Int32} {n : Nat} {f : Nat → Int32} {U U' : State} (h : Txt x t V cd n f U) (hal : U.vm.Alike U'.vm) (hh : U'.heap = U.heap) : Txt x t V cd n f U' := ⟨h.1.mv hal hh, h.2.1.mv hal hh, h.2.2.1.mv hal hh, h.2.2.2.1.mv hal hh, h.2.2.2.2⟩
namespace Cdr
def yN : MethodName := ⟨"java/lang/String", "coder", "()B"⟩
abbrev yB : ByteArray := jdk_42_method_152_code
theorem d0 : decode yB 0 = .ok (.getstatic 38, 3) := by decide +kernel
theorem d3 : decode yB 3 = .ok (.ifCond (.eq) 10, 3) := by decide +kernel
theorem d6 : decode yB 6 = .ok (.aload_n 0, 1) := by decide +kernel
theorem d7 : decode yB 7 = .ok (.getfield 15, 3) := by decide +kernel
theorem d10 : decode yB 10 = .ok (.goto 4, 3) := by decide +kernel
theorem d14 : decode yB 14 = .ok (.ireturn, 1) := by decide +kernel
def site : List Cond := [.fieldLink "java/lang/String" 38 "java/lang/String" "COMPACT_STRINGS" "Z", .fieldLink "java/lang/String" 15 "java/lang/String" "coder" "B"]
def tab : Cond := tabOf yN yB 1 (some .byte) site
def P (x : Addr) (cd z : Int32) (args : Array Value) (s : State) : Prop := args = #[.ref x] ∧ Has x "java/lang/String" "coder" "B" (.int cd) s ∧ (cd = 0 ∨ cd = 1) ∧ StaticIs s "java/lang/String" "COMPACT_STRINGS" "Z" (.int z) ∧ ¬ z = 0
def E (cd : Int32) (r : Option Value) (s u : State) : Prop := XT.PureE (some (.int cd)) r s u
theorem law (l : Launch) (x : Addr) (cd z : Int32) : Law l yN 1 0 0 0 yB 1 (some .byte) site (P x cd z) (E cd) [] 0 0 := by
  refine Law.of_walk (plainFor_of_name (by decide +kernel)) (by decide +kernel) (by decide +kernel) (by decide) (fun _ _ h => by rw [h.1]; rfl) (fun _ U U' hal hh h => ⟨h.1, h.2.1.mv hal hh, h.2.2.1, h.2.2.2.1.there hal hh, h.2.2.2.2⟩) (fun r U U' V V' h1 hal h2 h => XT.PureE.mv r U U' V V' h1 hal h2 h) ?_
  intro p e s m args below meth c s₁ X0 hexec hbytes hml hret hlk hnm hown hh0 W hP
  obtain ⟨rfl, hx, hc, s1, hz⟩ := hP
  have c1 : Steps p.tables e below (s₁.setTop (entryFrame m #[.ref x] 1)) (s₁.setTop (mkF m 0 #[.val (.ref x)] [])) := entry rfl
  obtain ⟨T2, X2, q2, st2⟩ := X0.sget hexec hown (wk W (.fieldLink "java/lang/String" 38 "java/lang/String" "COMPACT_STRINGS" "Z")) s1 (fun _ _ h => by rw [hh0]; exact h) (g := (mkF m 0 #[.val (.ref x)] [])) rfl (hb hbytes d0)
  have hh2 := q2.trans hh0
  have c3 : Steps p.tables e below (s₁.setTop (entryFrame m #[.ref x] 1)) (T2.setTop (mkF m 7 #[.val (.ref x)] [.ref x])) := (c1.trans (st2 _ (Steps.refl _))).trans (by
    refine XS.ifNo X2.here hexec rfl (hb hbytes d3) rfl (i0_eq_f hz) ?_
    refine XS.aloadN X2.here hexec rfl (hb hbytes d6) rfl rfl ?_
    exact Steps.refl _)
  obtain ⟨T4, X4, q4, st4⟩ := X2.hget hexec hown (wk W (.fieldLink "java/lang/String" 15 "java/lang/String" "coder" "B")) (hx.mv X2.warmed.alike hh2) (g := (mkF m 7 #[.val (.ref x)] [.ref x])) rfl (rest := []) rfl (hb hbytes d7)
  have c5 : Steps p.tables e below (s₁.setTop (entryFrame m #[.ref x] 1)) (T4.setTop (mkF m 14 #[.val (.ref x)] [.int cd])) := (c3.trans (st4 _ (Steps.refl _))).trans (by
    refine XS.goto X4.here hexec rfl (pc0 := 10) rfl (hb hbytes d10) (by decide) rfl ?_
    exact Steps.refl _)
  exact ⟨T4, some (.int cd), _, _, _, X4, rfl, rfl, rfl, (fun h => by cases h), ⟨rfl, q4.trans hh2⟩, fun fs hl => c5.trans (X4.ireturnOut hexec hret (by rcases hc with rfl | rfl <;> rfl) (Or.inr (Or.inr (Or.inl rfl))) (hb hbytes d14) hl)⟩
end Cdr
namespace Len
def yN : MethodName := ⟨"java/lang/String", "length", "()I"⟩
abbrev yB : ByteArray := jdk_42_method_54_code
theorem d0 : decode yB 0 = .ok (.aload_n 0, 1) := by decide +kernel
theorem d1 : decode yB 1 = .ok (.getfield 9, 3) := by decide +kernel
theorem d4 : decode yB 4 = .ok (.arraylength, 1) := by decide +kernel
theorem d5 : decode yB 5 = .ok (.aload_n 0, 1) := by decide +kernel
theorem d6 : decode yB 6 = .ok (.invokevirtual 335, 3) := by decide +kernel
theorem d9 : decode yB 9 = .ok (.ishr, 1) := by decide +kernel
theorem d10 : decode yB 10 = .ok (.ireturn, 1) := by decide +kernel
def site : List Cond := [.fieldLink "java/lang/String" 9 "java/lang/String" "value" "[B", Cdr.tab] ++ virtW "java/lang/String" 335 "java/lang/String" Cdr.yN Cdr.yN
def tab : Cond := tabOf yN yB 1 (some .int) site
def P (x t : Addr) (V : Cell) (cd : Int32) (n : Nat) (f : Nat → Int32) (z : Int32) (args : Array Value) (s : State) : Prop := args = #[.ref x] ∧ Txt x t V cd n f s ∧ StaticIs s "java/lang/String" "COMPACT_STRINGS" "Z" (.int z) ∧ ¬ z = 0
def E (n : Nat) (r : Option Value) (s u : State) : Prop := XT.PureE (some (.int (Int32.ofNat n))) r s u
/-- length() of a String of n chars, in either coding -/
theorem law (l : Launch) (x t : Addr) (V : Cell) (cd : Int32) (n : Nat) (f : Nat → Int32) (z : Int32) : Law l yN 1 0 1 13 yB 1 (some .int) site (P x t V cd n f z) (E n) [] 0 0 := by
  refine Law.of_walk (plainFor_of_name (by decide +kernel)) (by decide +kernel) (by decide +kernel) (by decide) (fun _ _ h => by rw [h.1]; rfl) (fun _ U U' hal hh h => ⟨h.1, h.2.1.mv hal hh, h.2.2.1.there hal hh, h.2.2.2⟩) (fun r U U' V V' h1 hal h2 h => XT.PureE.mv r U U' V V' h1 hal h2 h) ?_
  intro p e s m args below meth c s₁ X0 hexec hbytes hml hret hlk hnm hown hh0 W hP
  obtain ⟨rfl, hx, s1, hz⟩ := hP
  have v31 := hx.2.2.2.1.2.2.2
  have c1 : Steps p.tables e below (s₁.setTop (entryFrame m #[.ref x] 1)) (s₁.setTop (mkF m 1 #[.val (.ref x)] [.ref x])) := Steps.trans (entry rfl) (by
    show Steps p.tables e below (s₁.setTop (mkF m 0 #[.val (.ref x)] [])) _
    refine XS.aloadN X0.here hexec rfl (hb hbytes d0) rfl rfl ?_
    exact Steps.refl _)
  obtain ⟨T2, X2, q2, st2⟩ := X0.hget hexec hown (wk W (.fieldLink "java/lang/String" 9 "java/lang/String" "value" "[B")) (hx.mv X0.warmed.alike hh0).2.1 (g := (mkF m 1 #[.val (.ref x)] [.ref x])) rfl (rest := []) rfl (hb hbytes d1)
  have hh2 := q2.trans hh0
  have hx2 := hx.mv X2.warmed.alike hh2
  have c3 : Steps p.tables e below (s₁.setTop (entryFrame m #[.ref x] 1)) (T2.setTop (mkF m 6 #[.val (.ref x)] [.ref x, .int (Int32.ofNat V.slots.size)])) := (c1.trans (st2 _ (Steps.refl _))).trans (by
    refine X2.alen hexec hx2.2.2.2.1 rfl rfl (hb hbytes d4) ?_
    refine XS.aloadN X2.here hexec rfl (hb hbytes d5) rfl rfl ?_
    exact Steps.refl _)
  obtain ⟨v4, T4, X4, E4, g4⟩ := X2.callV hexec (Cdr.law l x cd z) hown (wks W (virtW "java/lang/String" 335 "java/lang/String" Cdr.yN Cdr.yN)) rfl (by decide) (wk W Cdr.tab) (W := 1) (Nat.le_of_ble_eq_true rfl) (Nat.le_of_ble_eq_true rfl) (Nat.le_refl _) (Nat.le_refl _) (hx2.1.fc X2.warmed.alike) hx2.1.is (g := (mkF m 6 #[.val (.ref x)] [.ref x, .int (Int32.ofNat V.slots.size)])) rfl (by rw [hml]; rfl) c3 (argsL := []) (rest := [.int (Int32.ofNat V.slots.size)]) rfl rfl (by show 2 * 0 + (1 + 0) ≤ _; decide) (hb hbytes d6) (⟨rfl, hx2.2.2.1, hx.2.2.2.2.1.cd, s1.there X2.warmed.alike hh2, hz⟩)
  obtain ⟨rfl, q4⟩ := E4
  have c5 : Steps p.tables e below (s₁.setTop (entryFrame m #[.ref x] 1)) (T4.setTop (mkF m 10 #[.val (.ref x)] [.int (Int32.ofNat V.slots.size >>> (cd &&& 31))])) := Steps.trans g4 (by
    refine ishr X4.here hexec rfl (hb hbytes d9) rfl ?_
    exact Steps.refl _)
  rw [hx.2.2.2.2.1.len v31] at c5
  exact ⟨T4, some (.int (Int32.ofNat n)), _, _, _, X4, rfl, rfl, rfl, (fun h => by cases h), ⟨rfl, q4.trans hh2⟩, fun fs hl => c5.trans (X4.ireturnOut hexec hret rfl (Or.inl rfl) (hb hbytes d10) hl)⟩
theorem pays {l : Launch} {R : Room} {p : Program} {e : Env} {below : List Frame} {s : State} {sargs : Array Value} {len W : Nat} (x t : Addr) (V : Cell) (cd : Int32) (n : Nat) (f : Nat → Int32) (z : Int32) (htab : tab.before sargs s = true) (hfr : 2 ≤ R.frames) (hlo : W + 25 ≤ R.locals) :
    Back l R p e below s sargs yN len W (fun A₁ a₁ => A₁.cells + 0 ≤ R.cells ∧ A₁.slots + 0 ≤ R.slots ∧ P x t V cd n f z a₁ A₁.U) (fun A₁ _ v₁ B₁ => E n v₁ A₁.U B₁.U ∧ B₁.locs = A₁.locs ++ [] ∧ B₁.cells = A₁.cells + 0 ∧ B₁.slots = A₁.slots + 0) :=
  (law l x t V cd n f z).pays htab hfr (by omega)
end Len
namespace IsL
def yN : MethodName := ⟨"java/lang/String", "isLatin1", "()Z"⟩
abbrev yB : ByteArray := jdk_42_method_154_code
theorem d0 : decode yB 0 = .ok (.getstatic 38, 3) := by decide +kernel
theorem d3 : decode yB 3 = .ok (.ifCond (.eq) 14, 3) := by decide +kernel
theorem d6 : decode yB 6 = .ok (.aload_n 0, 1) := by decide +kernel
theorem d7 : decode yB 7 = .ok (.getfield 15, 3) := by decide +kernel
theorem d10 : decode yB 10 = .ok (.ifCond (.ne) 7, 3) := by decide +kernel
theorem d13 : decode yB 13 = .ok (.iconst 1, 1) := by decide +kernel
theorem d14 : decode yB 14 = .ok (.goto 4, 3) := by decide +kernel
theorem d17 : decode yB 17 = .ok (.iconst 0, 1) := by decide +kernel
theorem d18 : decode yB 18 = .ok (.ireturn, 1) := by decide +kernel
def site : List Cond := [.fieldLink "java/lang/String" 38 "java/lang/String" "COMPACT_STRINGS" "Z", .fieldLink "java/lang/String" 15 "java/lang/String" "coder" "B"]
def tab : Cond := tabOf yN yB 1 (some .boolean) site
def P (x : Addr) (cd z : Int32) (args : Array Value) (s : State) : Prop := args = #[.ref x] ∧ Has x "java/lang/String" "coder" "B" (.int cd) s ∧ (cd = 0 ∨ cd = 1) ∧ StaticIs s "java/lang/String" "COMPACT_STRINGS" "Z" (.int z) ∧ ¬ z = 0
def E (cd : Int32) (r : Option Value) (s u : State) : Prop := XT.PureE (some (.int (1 - cd))) r s u
theorem law (l : Launch) (x : Addr) (cd z : Int32) : Law l yN 1 0 0 0 yB 1 (some .boolean) site (P x cd z) (E cd) [] 0 0 := by
  refine Law.of_walk (plainFor_of_name (by decide +kernel)) (by decide +kernel) (by decide +kernel) (by decide) (fun _ _ h => by rw [h.1]; rfl) (fun _ U U' hal hh h => ⟨h.1, h.2.1.mv hal hh, h.2.2.1, h.2.2.2.1.there hal hh, h.2.2.2.2⟩) (fun r U U' V V' h1 hal h2 h => XT.PureE.mv r U U' V V' h1 hal h2 h) ?_
  intro p e s m args below meth c s₁ X0 hexec hbytes hml hret hlk hnm hown hh0 W hP
  obtain ⟨rfl, hx, hc, s1, hz⟩ := hP
  have c1 : Steps p.tables e below (s₁.setTop (entryFrame m #[.ref x] 1)) (s₁.setTop (mkF m 0 #[.val (.ref x)] [])) := entry rfl
  obtain ⟨T2, X2, q2, st2⟩ := X0.sget hexec hown (wk W (.fieldLink "java/lang/String" 38 "java/lang/String" "COMPACT_STRINGS" "Z")) s1 (fun _ _ h => by rw [hh0]; exact h) (g := (mkF m 0 #[.val (.ref x)] [])) rfl (hb hbytes d0)
  have hh2 := q2.trans hh0
  have c3 : Steps p.tables e below (s₁.setTop (entryFrame m #[.ref x] 1)) (T2.setTop (mkF m 7 #[.val (.ref x)] [.ref x])) := (c1.trans (st2 _ (Steps.refl _))).trans (by
    refine XS.ifNo X2.here hexec rfl (hb hbytes d3) rfl (i0_eq_f hz) ?_
    refine XS.aloadN X2.here hexec rfl (hb hbytes d6) rfl rfl ?_
    exact Steps.refl _)
  obtain ⟨T4, X4, q4, st4⟩ := X2.hget hexec hown (wk W (.fieldLink "java/lang/String" 15 "java/lang/String" "coder" "B")) (hx.mv X2.warmed.alike hh2) (g := (mkF m 7 #[.val (.ref x)] [.ref x])) rfl (rest := []) rfl (hb hbytes d7)
  have c5 : Steps p.tables e below (s₁.setTop (entryFrame m #[.ref x] 1)) (T4.setTop (mkF m 10 #[.val (.ref x)] [.int cd])) := c3.trans (st4 _ (Steps.refl _))
  have c6 : Steps p.tables e below (s₁.setTop (entryFrame m #[.ref x] 1)) (T4.setTop (mkF m 18 #[.val (.ref x)] [.int (1 - cd)])) := by
    rcases hc with rfl | rfl
    · exact c5.trans (by
        refine XS.ifNo X4.here hexec rfl (hb hbytes d10) rfl (i0_ne_f rfl) ?_
        refine iconstV X4.here hexec rfl 1 (hb hbytes d13) (by decide) ?_
        refine XS.goto X4.here hexec rfl (pc0 := 14) rfl (hb hbytes d14) (by decide) rfl ?_
        exact Steps.refl _)
    · exact c5.trans (by
        refine XS.ifYes X4.here hexec rfl (pc0 := 10) rfl (hb hbytes d10) rfl (i0_ne_t (by decide)) (by decide) rfl ?_
        refine iconstV X4.here hexec rfl 0 (hb hbytes d17) (by decide) ?_
        exact Steps.refl _)
  exact ⟨T4, some (.int (1 - cd)), _, _, _, X4, rfl, rfl, rfl, (fun h => by cases h), ⟨rfl, q4.trans hh2⟩, fun fs hl => c6.trans (X4.ireturnOut hexec hret (by rcases hc with rfl | rfl <;> rfl) (Or.inr (Or.inl rfl)) (hb hbytes d18) hl)⟩
end IsL
namespace LChA
def yN : MethodName := ⟨"java/lang/StringLatin1", "charAt", "([BI)C"⟩
abbrev yB : ByteArray := jdk_43_method_2_code
theorem d0 : decode yB 0 = .ok (.iload_n 1, 1) := by decide +kernel
theorem d1 : decode yB 1 = .ok (.aload_n 0, 1) := by decide +kernel
theorem d2 : decode yB 2 = .ok (.arraylength, 1) := by decide +kernel
theorem d3 : decode yB 3 = .ok (.invokestatic 9, 3) := by decide +kernel
theorem d6 : decode yB 6 = .ok (.aload_n 0, 1) := by decide +kernel
theorem d7 : decode yB 7 = .ok (.iload_n 1, 1) := by decide +kernel
theorem d8 : decode yB 8 = .ok (.baload, 1) := by decide +kernel
theorem d9 : decode yB 9 = .ok (.sipush 255, 3) := by decide +kernel
theorem d12 : decode yB 12 = .ok (.iand, 1) := by decide +kernel
theorem d13 : decode yB 13 = .ok (.i2c, 1) := by decide +kernel
theorem d14 : decode yB 14 = .ok (.ireturn, 1) := by decide +kernel
def site : List Cond := [JO.Str_checkIndex.tab] ++ staticW "java/lang/StringLatin1" 9 JO.Str_checkIndex.yN
def tab : Cond := tabOf yN yB 2 (some .char) site
def P (t : Addr) (V : Cell) (i : Nat) (u : Int32) (fm : Value) (args : Array Value) (s : State) : Prop := args = #[.ref t, .int (Int32.ofNat i)] ∧ XT.Arr .byte t V s ∧ V.slots[i]? = some (.int u) ∧ (StaticIs s "jdk/internal/util/Preconditions" "SIOOBE_FORMATTER" "Ljava/util/function/BiFunction;" fm ∧ fm.isRef = true)
def E (u : Int32) (r : Option Value) (s w : State) : Prop := XT.PureE (some (.int (chr8 u))) r s w
theorem law (l : Launch) (t : Addr) (V : Cell) (i : Nat) (u : Int32) (fm : Value) : Law l yN 2 2 2 27 yB 2 (some .char) site (P t V i u fm) (E u) [] 0 0 := by
  refine Law.of_walk (plainFor_of_name (by decide +kernel)) (by decide +kernel) (by decide +kernel) (by decide) (fun _ _ h => by rw [h.1]; rfl) (fun _ U U' hal hh h => ⟨h.1, h.2.1.mv hal hh, h.2.2.1, h.2.2.2.1.there hal hh, h.2.2.2.2⟩) (fun r U U' V V' h1 hal h2 h => XT.PureE.mv r U U' V V' h1 hal h2 h) ?_
  intro p e s m args below meth c s₁ X0 hexec hbytes hml hret hlk hnm hown hh0 W hP
  obtain ⟨rfl, hV, hu, s1, rf⟩ := hP
  have v31 := hV.2.2.2
  have hi : i < V.slots.size := (Array.getElem?_eq_some_iff.mp hu).1
  have c1 : Steps p.tables e below (s₁.setTop (entryFrame m #[.ref t, .int (Int32.ofNat i)] 2)) (s₁.setTop (mkF m 0 #[.val (.ref t), .val (.int (Int32.ofNat i))] [])) := entry rfl
  have c2 : Steps p.tables e below (s₁.setTop (entryFrame m #[.ref t, .int (Int32.ofNat i)] 2)) (s₁.setTop (mkF m 3 #[.val (.ref t), .val (.int (Int32.ofNat i))] [.int (Int32.ofNat V.slots.size), .int (Int32.ofNat i)])) := c1.trans (by
    refine XS.iloadN X0.here hexec rfl (hb hbytes d0) rfl ?_
    refine XS.aloadN X0.here hexec rfl (hb hbytes d1) rfl rfl ?_
    refine X0.alen hexec (hV.mv X0.warmed.alike hh0) rfl rfl (hb hbytes d2) ?_
    exact Steps.refl _)
  obtain ⟨v3, T3, X3, E3, g3⟩ := X0.callS hexec (JO.Str_checkIndex.law l (Int32.ofNat i) (Int32.ofNat V.slots.size) fm) hown (wks W (staticW "java/lang/StringLatin1" 9 JO.Str_checkIndex.yN)) (wk W JO.Str_checkIndex.tab) (W := 0) (Nat.le_of_ble_eq_true rfl) (Nat.le_of_ble_eq_true rfl) (Nat.le_refl _) (Nat.le_refl _) (g := (mkF m 3 #[.val (.ref t), .val (.int (Int32.ofNat i))] [.int (Int32.ofNat V.slots.size), .int (Int32.ofNat i)])) rfl (by rw [hml]; rfl) c2 (argsL := [.int (Int32.ofNat i), .int (Int32.ofNat V.slots.size)]) (rest := []) rfl rfl (by show 2 * 0 + 0 ≤ _; decide) (hb hbytes d3) (⟨rfl, rf, s1.there X0.warmed.alike hh0, Int32.ofNat_not_neg (by omega), lt32 v31 hi⟩)
  obtain ⟨rfl, q3⟩ := E3
  have hh3 := q3.trans hh0
  have c4 : Steps p.tables e below (s₁.setTop (entryFrame m #[.ref t, .int (Int32.ofNat i)] 2)) (T3.setTop (mkF m 14 #[.val (.ref t), .val (.int (Int32.ofNat i))] [.int (chr8 u)])) := Steps.trans g3 (by
    refine XS.aloadN X3.here hexec rfl (hb hbytes d6) rfl rfl ?_
    refine XS.iloadN X3.here hexec rfl (hb hbytes d7) rfl ?_
    refine X3.aget hexec (hV.mv X3.warmed.alike hh3) rfl hu rfl rfl (hb hbytes d8) ?_
    refine sipushV X3.here hexec rfl 255 (hb hbytes d9) (by decide) ?_
    refine XS.iand X3.here hexec rfl (hb hbytes d12) rfl ?_
    refine i2c X3.here hexec rfl (hb hbytes d13) rfl ?_
    exact Steps.refl _)
  exact ⟨T3, some (.int (chr8 u)), _, _, _, X3, rfl, rfl, rfl, (fun h => by cases h), ⟨rfl, hh3⟩, fun fs hl => c4.trans (X3.ireturnOut hexec hret (narrow_c _) (Or.inr (Or.inr (Or.inr (Or.inl rfl)))) (hb hbytes d14) hl)⟩
end LChA
end StrChars
namespace StrChars.Road
open Jvm Sem ClassFile Op Lib Jvm.Stand Jvm.Free Jvm.Free.XT
open Jvm.Lib.Cold (StaticIs)
theorem consq {a : Array Value} {s : State} {c : Jvm.Cond} {L : List Jvm.Cond} (h0 : c.before a s = true) (h : ∀ w ∈ L, w.before a s = true) : ∀ w ∈ c :: L, w.before a s = true := fun w hw => (List.mem_cons.mp hw).elim (fun e => e ▸ h0) (h w)
/-- the words of String.length(), either coding -/
abbrev wordsLen : List Jvm.Cond := [.code Len.yN Len.yB 1 (some .int), .initialized ST, .fieldLink ST 9 ST "value" "[B", .fieldLink ST 38 ST "COMPACT_STRINGS" "Z", .fieldLink ST 15 ST "coder" "B", .code Cdr.yN Cdr.yB 1 (some .byte), .methodLink ST 335 Cdr.yN, .declares Cdr.yN, .selects ST Cdr.yN Cdr.yN, .instanceMethod Cdr.yN]
theorem tabLen_of {a : Array Value} {s : State} (h : ∀ w ∈ wordsLen, w.before a s = true) : Len.tab.before a s = true := by
  have hc : Cdr.tab.before a s = true := unparts (wk h (.code Cdr.yN Cdr.yB 1 (some .byte))) (wks h (.initialized Cdr.yN.cls :: Cdr.site))
  have q := consq hc h
  exact unparts (wk q (.code Len.yN Len.yB 1 (some .int))) (wks q (.initialized Len.yN.cls :: Len.site))
theorem movedLen {Z s : State} {a0 args : Array Value} (hZ : Z.Warmed39 s.vm) (hw : ∀ d ∈ wordsLen, d.before a0 Z = true) : ∀ d ∈ wordsLen, d.before args s = true := fun d hd => by
  have q := hw d hd
  have t : ∀ d ∈ wordsLen, d = .arrayClass .byte ∨ (d.onTables && d.keepsFace) = true := by decide +kernel
  rcases t d hd with rfl | t
  · exact RoadKit.mvA hZ q
  · exact RoadKit.mv hZ q t
/-- the bytes of the chars cs, low before high -/
def wideBytes : List Int32 → List Value
  | [] => []
  | c :: cs => .int (lo8 c) :: .int (hi8 c) :: wideBytes cs
theorem wide_lo (d : Value) : ∀ (cs : List Int32) (j : Nat), j < cs.length → (wideBytes cs).getD (2 * j) d = .int (lo8 (cs.getD j 0))
  | [], j, h => absurd h (Nat.not_lt_zero j)
  | c :: cs, 0, _ => rfl
  | c :: cs, j + 1, h => by
    have q := wide_lo d cs j (by simpa using h)
    rw [show 2 * (j + 1) = 2 * j + 1 + 1 from by omega]
    simpa [wideBytes] using q
theorem wide_hi (d : Value) : ∀ (cs : List Int32) (j : Nat), j < cs.length → (wideBytes cs).getD (2 * j + 1) d = .int (hi8 (cs.getD j 0))
  | [], j, h => absurd h (Nat.not_lt_zero j)
  | c :: cs, 0, _ => rfl
  | c :: cs, j + 1, h => by
    have q := wide_hi d cs j (by simpa using h)
    rw [show 2 * (j + 1) + 1 = 2 * j + 1 + 1 + 1 from by omega]
    simpa [wideBytes] using q
theorem low_at (d : Value) (cs : List Int32) (j : Nat) (h : j < cs.length) : (cs.map fun c => Value.int (lo8 c)).getD j d = .int (lo8 (cs.getD j 0)) := by
  simp [List.getD_eq_getElem?_getD, h]
/-- an array of N2 bytes vs codes the chars cs by the coder cd -/
def CodA (cs : List Int32) (cd N2 : Int32) (vs : List Value) : Prop := (cd = 0 ∧ N2 = Int32.ofNat cs.length ∧ vs = (cs.map fun c => Value.int (lo8 c)) ∧ ∀ c ∈ cs, ¬ 255 < c) ∨ (cd = 1 ∧ N2 = Int32.ofNat (2 * cs.length) ∧ vs = wideBytes cs ∧ ∃ c ∈ cs, 255 < c)
theorem CodA.cod {cs : List Int32} {cd N2 : Int32} {vs : List Value} {V : Cell} (h : CodA cs cd N2 vs) (hn : 2 * cs.length < 2 ^ 31) (hs : V.slots.size = N2.toNatClampNeg) (hv : RoadKit.Has V vs (.int 0)) : Cod cd cs.length (fun j => cs.getD j 0) V := by
  rcases h with ⟨rfl, rfl, rfl, h⟩ | ⟨rfl, rfl, rfl, c, hc, hw⟩
  · rw [n32 (by omega)] at hs
    exact Or.inl ⟨rfl, hs, fun j hj => ⟨by rw [hv j (by omega), low_at _ _ _ hj], by
      have e : cs.getD j 0 = cs[j] := by simp [List.getD_eq_getElem?_getD, hj]
      show ¬ 255 < cs.getD j 0
      rw [e]; exact h _ (List.getElem_mem _)⟩⟩
  · rw [n32 (by omega)] at hs
    obtain ⟨j, hj, rfl⟩ := List.getElem_of_mem hc
    exact Or.inr ⟨rfl, hs, fun j hj => ⟨by rw [hv _ (by omega), wide_lo _ _ _ hj], by rw [hv _ (by omega), wide_hi _ _ _ hj]⟩, j, hj, by
      have e : cs.getD j 0 = cs[j] := by simp [List.getD_eq_getElem?_getD, hj]
      show 255 < cs.getD j 0
      rw [e]; exact hw⟩
/-- an object of exactly java/lang/String, its two fields found: as the laws ask it -/
theorem strObj {Z U : State} {a0 : Array Value} {kI : Nat} (wi : (Jvm.Cond.instantiable ST kI).before a0 Z = true) (al : Z.vm.Alike U.vm) {x : Addr} {v0 c0 : Value} (E : RoadKit.Exa Z U.heap x ST) (V : RoadKit.Fld Z U.heap x ST "value" "[B" v0) (C : RoadKit.Fld Z U.heap x ST "coder" "B" c0) :
    ∃ (D : Cell) (fV fC : Field), Blank ST x D U ∧ Found ST "value" "[B" fV U ∧ Found ST "coder" "B" fC U ∧ D.slots[fV.slot]? = some v0 ∧ D.slots[fC.slot]? = some c0 ∧ RoadKit.slotOf Z ST "value" "[B" = fV.slot ∧ RoadKit.slotOf Z ST "coder" "B" = fC.slot := by
  obtain ⟨D, cfV, kV, iV, fV, hD, gV, stV, knV, obV, asV, slV⟩ := V
  obtain ⟨D', cfC, kC, iC, fC, hD', gC, stC, -, -, asC, slC⟩ := C
  cases hD.symm.trans hD'
  obtain ⟨D2, kD, e1, e2, e3, e4, e5⟩ := E
  cases hD.symm.trans e1
  obtain ⟨c2, k2, i1, i2, i3, -⟩ := Cond.instantiable_spec wi
  cases e2.symm.trans i1
  cases e3.symm.trans i2
  obtain ⟨kU, u1, u2⟩ := al.2.2 _ _ e3
  exact ⟨D, fV, fC, ⟨hD, ⟨knV, fun q hq => by rw [hq] at obV; cases obV⟩, by rw [al.findClass]; exact e2, kU, u1, by rw [u2]; exact i3, by rw [u2]; exact e5 i3⟩, ⟨SBG.found_only al ⟨cfV, kV, iV, gV⟩, stV⟩, ⟨SBG.found_only al ⟨cfC, kC, iC, gC⟩, stC⟩, slV, slC, by simp [RoadKit.slotOf, gV], by simp [RoadKit.slotOf, gC]⟩
theorem sta_is {Z U : State} (al : Z.vm.Alike U.vm) {C n d : String} {v : Value} (S : RoadKit.Sta Z U.heap C n d v) : StaticIs U C n d v := by
  obtain ⟨cfS, iS, kS, fS, st, cS, t1, t2, t3, t4, t5, t6, t7⟩ := S
  exact StaticIs.there (s := { Z with heap := U.heap }) ⟨cfS, iS, kS, fS, st, cS, t1, t2, t3, t4, t5, (fun q => by rw [q] at t6; cases t6), t7⟩ al rfl
/-- **length() OF SUCH A STRING** -/
theorem lenW {p : Program} {l : Launch} {e : Env} {R : Room} {s : State} {args : Array Value} {below : List Frame} {len W : Nat} {Z : State} {a0 : Array Value} {h : Heap} (hZ : Z.Warmed39 s.vm) (hw : ∀ d ∈ wordsLen, d.before a0 Z = true) {kI : Nat} (wi : (Jvm.Cond.instantiable ST kI).before a0 Z = true)
    {x t : Addr} {kb : ClassId} {cs : List Int32} {cd N2 z : Int32} {vs : List Value} (E : RoadKit.Exa Z h x ST) (V : RoadKit.Fld Z h x ST "value" "[B" (.ref t)) (C : RoadKit.Fld Z h x ST "coder" "B" (.int cd)) (K : RoadKit.Arv Z h t kb .byte N2 vs (.int 0)) (hc : CodA cs cd N2 vs) (hb : ∀ c ∈ cs, ¬ c < 0 ∧ ¬ (65535 : Int32) < c)
    (S : RoadKit.Sta Z h ST "COMPACT_STRINGS" "Z" (.int z)) (hz : ¬ z = 0) (l2 : cs.length ≤ 4000) (hfr : 2 ≤ R.frames) (hlo : W + 25 ≤ R.locals) :
    Back l R p e below s args (⟨"java/lang/String", "length", "()I"⟩ : MethodName) len W (fun P a => a = #[.ref x] ∧ P.U.heap = h ∧ P.cells + 0 ≤ R.cells ∧ P.slots + 0 ≤ R.slots)
      (fun P _ v B => ∃ L, (v = some (.int (Int32.ofNat cs.length)) ∧ L = [] ∧ B.U.heap = h) ∧ B.locs = P.locs ++ L ∧ B.cells = P.cells + 0 ∧ B.slots = P.slots + 0) := by
  obtain ⟨A, K1, K2, K3, K4, K5, K6⟩ := K
  have hcod := hc.cod (by omega) K3 K5
  intro m meth c P g ig mk a X hg hsize hdg hW hn hp'
  obtain ⟨rfl, rfl, r1, r2⟩ := hp'
  have al : Z.vm.Alike P.U.vm := hZ.alike.trans X.warmed.alike
  obtain ⟨D, fV, fC, hB, F1, F2, g1, g2, -, -⟩ := strObj wi al E V C
  have hx : Txt x t A cd cs.length (fun j => cs.getD j 0) P.U := ⟨⟨_, hB.2.2.1, D, hB.1, rfl, by cases q : D.vm <;> first | rfl | exact absurd q (hB.2.1.2 _)⟩, Has.of hB F1 g1, Has.of hB F2 g2, ⟨K1.1, State.isArrayOf_alike al K1.2.1, K1.2.2, by rcases hcod with ⟨-, q, -⟩ | ⟨-, q, -⟩ <;> omega⟩, hcod, fun j hj => by
    have e : cs.getD j 0 = cs[j] := by simp [List.getD_eq_getElem?_getD, hj]
    show ¬ cs.getD j 0 < 0 ∧ ¬ 65535 < cs.getD j 0
    rw [e]; exact hb _ (List.getElem_mem _)⟩
  obtain ⟨v, B, X', ⟨⟨hv, hh⟩, hl, hk, hs⟩, st⟩ := Len.pays x t A cd cs.length (fun j => cs.getD j 0) z (tabLen_of (movedLen hZ hw)) hfr hlo m meth c P g ig mk _ X hg hsize hdg hW hn ⟨r1, r2, rfl, hx, sta_is al S, hz⟩
  exact ⟨v, B, X', ⟨[], ⟨hv, rfl, hh⟩, hl, hk, hs⟩, st⟩
end StrChars.Road
namespace StrChars
open Jvm Sem ClassFile Op Lib Jvm.Stand Jvm.Free.XT Jvm.Free.ALB Jvm.Free.JM Jvm.Free
open Jvm.Lib.Cold (StaticIs)
namespace Emp
def yN : MethodName := ⟨"java/lang/String", "isEmpty", "()Z"⟩
abbrev yB : ByteArray := jdk_42_method_55_code
theorem d0 : decode yB 0 = .ok (.aload_n 0, 1) := by decide +kernel
theorem d1 : decode yB 1 = .ok (.getfield 9, 3) := by decide +kernel
theorem d4 : decode yB 4 = .ok (.arraylength, 1) := by decide +kernel
theorem d5 : decode yB 5 = .ok (.ifCond (.ne) 7, 3) := by decide +kernel
theorem d8 : decode yB 8 = .ok (.iconst 1, 1) := by decide +kernel
theorem d9 : decode yB 9 = .ok (.goto 4, 3) := by decide +kernel
theorem d12 : decode yB 12 = .ok (.iconst 0, 1) := by decide +kernel
theorem d13 : decode yB 13 = .ok (.ireturn, 1) := by decide +kernel
def site : List Cond := [.fieldLink "java/lang/String" 9 "java/lang/String" "value" "[B"]
def tab : Cond := tabOf yN yB 1 (some .boolean) site
def P (x t : Addr) (V : Cell) (cd : Int32) (n : Nat) (f : Nat → Int32) (args : Array Value) (s : State) : Prop := args = #[.ref x] ∧ Txt x t V cd n f s
def E (n : Nat) (r : Option Value) (s u : State) : Prop := XT.PureE (some (.int (if n = 0 then 1 else 0))) r s u
/-- isEmpty() of a String of n chars -/
theorem law (l : Launch) (x t : Addr) (V : Cell) (cd : Int32) (n : Nat) (f : Nat → Int32) : Law l yN 1 0 0 0 yB 1 (some .boolean) site (P x t V cd n f) (E n) [] 0 0 := by
  refine Law.of_walk (plainFor_of_name (by decide +kernel)) (by decide +kernel) (by decide +kernel) (by decide) (fun _ _ h => by rw [h.1]; rfl) (fun _ U U' hal hh h => ⟨h.1, h.2.mv hal hh⟩) (fun r U U' V V' h1 hal h2 h => XT.PureE.mv r U U' V V' h1 hal h2 h) ?_
  intro p e s m args below meth c s₁ X0 hexec hbytes hml hret hlk hnm hown hh0 W hP
  obtain ⟨rfl, hx⟩ := hP
  have v31 := hx.2.2.2.1.2.2.2
  have c1 : Steps p.tables e below (s₁.setTop (entryFrame m #[.ref x] 1)) (s₁.setTop (mkF m 1 #[.val (.ref x)] [.ref x])) := Steps.trans (entry rfl) (by
    show Steps p.tables e below (s₁.setTop (mkF m 0 #[.val (.ref x)] [])) _
    refine XS.aloadN X0.here hexec rfl (hb hbytes d0) rfl rfl ?_
    exact Steps.refl _)
  obtain ⟨T2, X2, q2, st2⟩ := X0.hget hexec hown (wk W (.fieldLink "java/lang/String" 9 "java/lang/String" "value" "[B")) (hx.mv X0.warmed.alike hh0).2.1 (g := (mkF m 1 #[.val (.ref x)] [.ref x])) rfl (rest := []) rfl (hb hbytes d1)
  have hh2 := q2.trans hh0
  have hx2 := hx.mv X2.warmed.alike hh2
  have c3 : Steps p.tables e below (s₁.setTop (entryFrame m #[.ref x] 1)) (T2.setTop (mkF m 5 #[.val (.ref x)] [.int (Int32.ofNat V.slots.size)])) := (c1.trans (st2 _ (Steps.refl _))).trans (by
    refine X2.alen hexec hx2.2.2.2.1 rfl rfl (hb hbytes d4) ?_
    exact Steps.refl _)
  have hz : V.slots.size = 0 ↔ n = 0 := by
    rcases hx.2.2.2.2.1 with ⟨-, q, -⟩ | ⟨-, q, -⟩ <;> omega
  by_cases h0 : n = 0
  · have c4 : Steps p.tables e below (s₁.setTop (entryFrame m #[.ref x] 1)) (T2.setTop (mkF m 13 #[.val (.ref x)] [.int 1])) := c3.trans (by
      refine XS.ifNo X2.here hexec rfl (hb hbytes d5) rfl (i0_ne_f (by rw [hz.mpr h0]; rfl)) ?_
      refine iconstV X2.here hexec rfl 1 (hb hbytes d8) (by decide) ?_
      refine XS.goto X2.here hexec rfl (pc0 := 9) rfl (hb hbytes d9) (by decide) rfl ?_
      exact Steps.refl _)
    exact ⟨T2, some (.int 1), _, _, _, X2, rfl, rfl, rfl, (fun h => by cases h), ⟨by rw [if_pos h0], hh2⟩, fun fs hl => c4.trans (X2.ireturnOut hexec hret rfl (Or.inr (Or.inl rfl)) (hb hbytes d13) hl)⟩
  · have c4 : Steps p.tables e below (s₁.setTop (entryFrame m #[.ref x] 1)) (T2.setTop (mkF m 13 #[.val (.ref x)] [.int 0])) := c3.trans (by
      refine XS.ifYes X2.here hexec rfl (pc0 := 5) rfl (hb hbytes d5) rfl (i0_ne_t (nz32 v31 (by omega))) (by decide) rfl ?_
      refine iconstV X2.here hexec rfl 0 (hb hbytes d12) (by decide) ?_
      exact Steps.refl _)
    exact ⟨T2, some (.int 0), _, _, _, X2, rfl, rfl, rfl, (fun h => by cases h), ⟨by rw [if_neg h0], hh2⟩, fun fs hl => c4.trans (X2.ireturnOut hexec hret rfl (Or.inr (Or.inl rfl)) (hb hbytes d13) hl)⟩
theorem pays {l : Launch} {R : Room} {p : Program} {e : Env} {below : List Frame} {s : State} {sargs : Array Value} {len W : Nat} (x t : Addr) (V : Cell) (cd : Int32) (n : Nat) (f : Nat → Int32) (htab : tab.before sargs s = true) (hfr : 1 ≤ R.frames) (hlo : W + 12 ≤ R.locals) :
    Back l R p e below s sargs yN len W (fun A₁ a₁ => A₁.cells + 0 ≤ R.cells ∧ A₁.slots + 0 ≤ R.slots ∧ P x t V cd n f a₁ A₁.U) (fun A₁ _ v₁ B₁ => E n v₁ A₁.U B₁.U ∧ B₁.locs = A₁.locs ++ [] ∧ B₁.cells = A₁.cells + 0 ∧ B₁.slots = A₁.slots + 0) :=
  (law l x t V cd n f).pays htab hfr (by omega)
end Emp
end StrChars
namespace StrChars.Road
open Jvm Sem ClassFile Op Lib Jvm.Stand Jvm.Free Jvm.Free.XT
open Jvm.Lib.Cold (StaticIs)
/-- the words of String.isEmpty() -/
abbrev wordsEmp : List Jvm.Cond := [.code Emp.yN Emp.yB 1 (some .boolean), .initialized ST, .fieldLink ST 9 ST "value" "[B"]
theorem tabEmp_of {a : Array Value} {s : State} (h : ∀ w ∈ wordsEmp, w.before a s = true) : Emp.tab.before a s = true := unparts (wk h (.code Emp.yN Emp.yB 1 (some .boolean))) (wks h (.initialized Emp.yN.cls :: Emp.site))
theorem movedEmp {Z s : State} {a0 args : Array Value} (hZ : Z.Warmed39 s.vm) (hw : ∀ d ∈ wordsEmp, d.before a0 Z = true) : ∀ d ∈ wordsEmp, d.before args s = true := fun d hd => by
  have t : ∀ d ∈ wordsEmp, (d.onTables && d.keepsFace) = true := by decide +kernel
  exact RoadKit.mv hZ (hw d hd) (t d hd)
/-- the road's facts of a String, as the laws ask it -/
theorem txt_of {Z U : State} {a0 : Array Value} {kI : Nat} (wi : (Jvm.Cond.instantiable ST kI).before a0 Z = true) (al : Z.vm.Alike U.vm) {x t : Addr} {kb : ClassId} {cs : List Int32} {cd N2 : Int32} {vs : List Value} (E : RoadKit.Exa Z U.heap x ST) (V : RoadKit.Fld Z U.heap x ST "value" "[B" (.ref t)) (C : RoadKit.Fld Z U.heap x ST "coder" "B" (.int cd)) (K : RoadKit.Arv Z U.heap t kb .byte N2 vs (.int 0)) (hc : CodA cs cd N2 vs) (hb : ∀ c ∈ cs, ¬ c < 0 ∧ ¬ (65535 : Int32) < c) (l2 : cs.length ≤ 4000) :
    ∃ A, Txt x t A cd cs.length (fun j => cs.getD j 0) U := by
  obtain ⟨A, K1, K2, K3, K4, K5, K6⟩ := K
  have hcod := hc.cod (by omega) K3 K5
  obtain ⟨D, fV, fC, hB, F1, F2, g1, g2, -, -⟩ := strObj wi al E V C
  exact ⟨A, ⟨_, hB.2.2.1, D, hB.1, rfl, by cases q : D.vm <;> first | rfl | exact absurd q (hB.2.1.2 _)⟩, Has.of hB F1 g1, Has.of hB F2 g2, ⟨K1.1, State.isArrayOf_alike al K1.2.1, K1.2.2, by rcases hcod with ⟨-, q, -⟩ | ⟨-, q, -⟩ <;> omega⟩, hcod, fun j hj => by
    have e : cs.getD j 0 = cs[j] := by simp [List.getD_eq_getElem?_getD, hj]
    show ¬ cs.getD j 0 < 0 ∧ ¬ 65535 < cs.getD j 0
    rw [e]; exact hb _ (List.getElem_mem _)⟩
/-- **isEmpty() OF SUCH A STRING** -/
theorem empW {p : Program} {l : Launch} {e : Env} {R : Room} {s : State} {args : Array Value} {below : List Frame} {len W : Nat} {Z : State} {a0 : Array Value} {h : Heap} (hZ : Z.Warmed39 s.vm) (hw : ∀ d ∈ wordsEmp, d.before a0 Z = true) {kI : Nat} (wi : (Jvm.Cond.instantiable ST kI).before a0 Z = true)
    {x t : Addr} {kb : ClassId} {cs : List Int32} {cd N2 : Int32} {vs : List Value} (E : RoadKit.Exa Z h x ST) (V : RoadKit.Fld Z h x ST "value" "[B" (.ref t)) (C : RoadKit.Fld Z h x ST "coder" "B" (.int cd)) (K : RoadKit.Arv Z h t kb .byte N2 vs (.int 0)) (hc : CodA cs cd N2 vs) (hb : ∀ c ∈ cs, ¬ c < 0 ∧ ¬ (65535 : Int32) < c) (l2 : cs.length ≤ 4000) (hfr : 1 ≤ R.frames) (hlo : W + 12 ≤ R.locals) :
    Back l R p e below s args (⟨"java/lang/String", "isEmpty", "()Z"⟩ : MethodName) len W (fun P a => a = #[.ref x] ∧ P.U.heap = h ∧ P.cells + 0 ≤ R.cells ∧ P.slots + 0 ≤ R.slots)
      (fun P _ v B => ∃ L, (v = some (.int (if cs.length = 0 then 1 else 0)) ∧ L = [] ∧ B.U.heap = h) ∧ B.locs = P.locs ++ L ∧ B.cells = P.cells + 0 ∧ B.slots = P.slots + 0) := by
  intro m meth c P g ig mk a X hg hsize hdg hW hn hp'
  obtain ⟨rfl, rfl, r1, r2⟩ := hp'
  have al : Z.vm.Alike P.U.vm := hZ.alike.trans X.warmed.alike
  obtain ⟨A, hx⟩ := txt_of wi al E V C K hc hb l2
  obtain ⟨v, B, X', ⟨⟨hv, hh⟩, hl, hk, hs⟩, st⟩ := Emp.pays x t A cd cs.length (fun j => cs.getD j 0) (tabEmp_of (movedEmp hZ hw)) hfr hlo m meth c P g ig mk _ X hg hsize hdg hW hn ⟨r1, r2, rfl, hx⟩
  exact ⟨v, B, X', ⟨[], ⟨hv, rfl, hh⟩, hl, hk, hs⟩, st⟩
end StrChars.Road
namespace StrChars
open Jvm Sem ClassFile Op Lib Jvm.Stand Jvm.Free.XT Jvm.Free.ALB Jvm.Free.JM Jvm.Free
open Jvm.Lib.Cold (StaticIs)
namespace ChN
def yN : MethodName := ⟨"java/lang/String", "charAt", "(I)C"⟩
abbrev yB : ByteArray := jdk_42_method_56_code
theorem d0 : decode yB 0 = .ok (.aload_n 0, 1) := by decide +kernel
theorem d1 : decode yB 1 = .ok (.invokevirtual 492, 3) := by decide +kernel
theorem d4 : decode yB 4 = .ok (.ifCond (.eq) 12, 3) := by decide +kernel
theorem d7 : decode yB 7 = .ok (.aload_n 0, 1) := by decide +kernel
theorem d8 : decode yB 8 = .ok (.getfield 9, 3) := by decide +kernel
theorem d11 : decode yB 11 = .ok (.iload_n 1, 1) := by decide +kernel
theorem d12 : decode yB 12 = .ok (.invokestatic 495, 3) := by decide +kernel
theorem d15 : decode yB 15 = .ok (.ireturn, 1) := by decide +kernel
def site : List Cond := [.fieldLink "java/lang/String" 9 "java/lang/String" "value" "[B", IsL.tab, LChA.tab] ++ virtW "java/lang/String" 492 "java/lang/String" IsL.yN IsL.yN ++ staticW "java/lang/String" 495 LChA.yN
def tab : Cond := tabOf yN yB 2 (some .char) site
def P (x t : Addr) (V : Cell) (n : Nat) (f : Nat → Int32) (z : Int32) (fm : Value) (i : Nat) (args : Array Value) (s : State) : Prop := args = #[.ref x, .int (Int32.ofNat i)] ∧ Txt x t V 0 n f s ∧ i < n ∧ StaticIs s "java/lang/String" "COMPACT_STRINGS" "Z" (.int z) ∧ ¬ z = 0 ∧ StaticIs s "jdk/internal/util/Preconditions" "SIOOBE_FORMATTER" "Ljava/util/function/BiFunction;" fm ∧ fm.isRef = true
def E (f : Nat → Int32) (i : Nat) (r : Option Value) (s u : State) : Prop := XT.PureE (some (.int (f i))) r s u
/-- charAt(i) of a Latin-1 String of n chars, i < n: f i -/
theorem law (l : Launch) (x t : Addr) (V : Cell) (n : Nat) (f : Nat → Int32) (z : Int32) (fm : Value) (i : Nat) : Law l yN 2 1 3 40 yB 2 (some .char) site (P x t V n f z fm i) (E f i) [] 0 0 := by
  refine Law.of_walk (plainFor_of_name (by decide +kernel)) (by decide +kernel) (by decide +kernel) (by decide) (fun _ _ h => by rw [h.1]; rfl) (fun _ U U' hal hh h => ⟨h.1, h.2.1.mv hal hh, h.2.2.1, h.2.2.2.1.there hal hh, h.2.2.2.2.1, h.2.2.2.2.2.1.there hal hh, h.2.2.2.2.2.2⟩) (fun r U U' V V' h1 hal h2 h => XT.PureE.mv r U U' V V' h1 hal h2 h) ?_
  intro p e s m args below meth c s₁ X0 hexec hbytes hml hret hlk hnm hown hh0 W hP
  obtain ⟨rfl, hx, hi, s1, hz, s3, rf⟩ := hP
  have v31 := hx.2.2.2.1.2.2.2
  have hr := hx.2.2.2.2.2 i hi
  have hx0 := hx.mv X0.warmed.alike hh0
  have c1 : Steps p.tables e below (s₁.setTop (entryFrame m #[.ref x, .int (Int32.ofNat i)] 2)) (s₁.setTop (mkF m 1 #[.val (.ref x), .val (.int (Int32.ofNat i))] [.ref x])) := Steps.trans (entry rfl) (by
    show Steps p.tables e below (s₁.setTop (mkF m 0 #[.val (.ref x), .val (.int (Int32.ofNat i))] [])) _
    refine XS.aloadN X0.here hexec rfl (hb hbytes d0) rfl rfl ?_
    exact Steps.refl _)
  obtain ⟨v2, T2, X2, E2, g2⟩ := X0.callV hexec (IsL.law l x 0 z) hown (wks W (virtW "java/lang/String" 492 "java/lang/String" IsL.yN IsL.yN)) rfl (by decide) (wk W IsL.tab) (W := 0) (Nat.le_of_ble_eq_true rfl) (Nat.le_of_ble_eq_true rfl) (Nat.le_refl _) (Nat.le_refl _) (hx0.1.fc X0.warmed.alike) hx0.1.is (g := (mkF m 1 #[.val (.ref x), .val (.int (Int32.ofNat i))] [.ref x])) rfl (by rw [hml]; rfl) c1 (argsL := []) (rest := []) rfl rfl (by show 2 * 0 + 0 ≤ _; decide) (hb hbytes d1) (⟨rfl, hx0.2.2.1, hx.2.2.2.2.1.cd, s1.there X0.warmed.alike hh0, hz⟩)
  obtain ⟨rfl, q2⟩ := E2
  have hh2 := q2.trans hh0
  have hx2 := hx.mv X2.warmed.alike hh2
  obtain ⟨-, k1, k2⟩ | ⟨k0, -⟩ := hx.2.2.2.2.1
  · have c3 : Steps p.tables e below (s₁.setTop (entryFrame m #[.ref x, .int (Int32.ofNat i)] 2)) (T2.setTop (mkF m 8 #[.val (.ref x), .val (.int (Int32.ofNat i))] [.ref x])) := Steps.trans g2 (by
      refine XS.ifNo X2.here hexec rfl (hb hbytes d4) rfl (i0_eq_f (by decide)) ?_
      refine XS.aloadN X2.here hexec rfl (hb hbytes d7) rfl rfl ?_
      exact Steps.refl _)
    obtain ⟨T4, X4, q4, st4⟩ := X2.hget hexec hown (wk W (.fieldLink "java/lang/String" 9 "java/lang/String" "value" "[B")) hx2.2.1 (g := (mkF m 8 #[.val (.ref x), .val (.int (Int32.ofNat i))] [.ref x])) rfl (rest := []) rfl (hb hbytes d8)
    have hh4 := q4.trans hh2
    have c5 : Steps p.tables e below (s₁.setTop (entryFrame m #[.ref x, .int (Int32.ofNat i)] 2)) (T4.setTop (mkF m 12 #[.val (.ref x), .val (.int (Int32.ofNat i))] [.int (Int32.ofNat i), .ref t])) := (c3.trans (st4 _ (Steps.refl _))).trans (by
      refine XS.iloadN X4.here hexec rfl (hb hbytes d11) rfl ?_
      exact Steps.refl _)
    obtain ⟨v6, T6, X6, E6, g6⟩ := X4.callS hexec (LChA.law l t V i (lo8 (f i)) fm) hown (wks W (staticW "java/lang/String" 495 LChA.yN)) (wk W LChA.tab) (W := 0) (Nat.le_of_ble_eq_true rfl) (Nat.le_of_ble_eq_true rfl) (Nat.le_refl _) (Nat.le_refl _) (g := (mkF m 12 #[.val (.ref x), .val (.int (Int32.ofNat i))] [.int (Int32.ofNat i), .ref t])) rfl (by rw [hml]; rfl) c5 (argsL := [.ref t, .int (Int32.ofNat i)]) (rest := []) rfl rfl (by show 2 * 0 + 0 ≤ _; decide) (hb hbytes d12) (⟨rfl, hx.2.2.2.1.mv X4.warmed.alike hh4, (k2 i hi).1, s3.there X4.warmed.alike hh4, rf⟩)
    obtain ⟨rfl, q6⟩ := E6
    rw [chr8_lo8 hr.1 (k2 i hi).2] at g6
    exact ⟨T6, some (.int (f i)), _, _, _, X6, rfl, rfl, rfl, (fun h => by cases h), ⟨rfl, q6.trans hh4⟩, fun fs hl => Steps.trans g6 (X6.ireturnOut hexec hret (narrow_ch hr.1 hr.2) (Or.inr (Or.inr (Or.inr (Or.inl rfl)))) (hb hbytes d15) hl)⟩
  · exact absurd k0 (by decide)
theorem pays {l : Launch} {R : Room} {p : Program} {e : Env} {below : List Frame} {s : State} {sargs : Array Value} {len W : Nat} (x t : Addr) (V : Cell) (n : Nat) (f : Nat → Int32) (z : Int32) (fm : Value) (i : Nat) (htab : tab.before sargs s = true) (hfr : 4 ≤ R.frames) (hlo : W + 53 ≤ R.locals) :
    Back l R p e below s sargs yN len W (fun A₁ a₁ => A₁.cells + 0 ≤ R.cells ∧ A₁.slots + 0 ≤ R.slots ∧ P x t V n f z fm i a₁ A₁.U) (fun A₁ _ v₁ B₁ => E f i v₁ A₁.U B₁.U ∧ B₁.locs = A₁.locs ++ [] ∧ B₁.cells = A₁.cells + 0 ∧ B₁.slots = A₁.slots + 0) :=
  (law l x t V n f z fm i).pays htab hfr (by omega)
end ChN
end StrChars
namespace StrChars.Road
open Jvm Sem ClassFile Op Lib Jvm.Stand Jvm.Free Jvm.Free.XT
open Jvm.Lib.Cold (StaticIs)
/-- the words of String.charAt(int), the Latin-1 road alone -/
abbrev wordsChN : List Jvm.Cond := [.code ChN.yN ChN.yB 2 (some .char), .initialized ST, .fieldLink ST 9 ST "value" "[B", .fieldLink ST 38 ST "COMPACT_STRINGS" "Z", .fieldLink ST 15 ST "coder" "B", .code IsL.yN IsL.yB 1 (some .boolean), .methodLink ST 492 IsL.yN, .declares IsL.yN, .selects ST IsL.yN IsL.yN, .instanceMethod IsL.yN,
  .methodLink ST 495 LChA.yN, .static LChA.yN, .code LChA.yN LChA.yB 2 (some .char), .initialized "java/lang/StringLatin1", .methodLink "java/lang/StringLatin1" 9 JO.Str_checkIndex.yN, .static JO.Str_checkIndex.yN, .code JO.Str_checkIndex.yN JO.Str_checkIndex.yB 2 none,
  .fieldLink ST 1053 "jdk/internal/util/Preconditions" "SIOOBE_FORMATTER" "Ljava/util/function/BiFunction;", .methodLink ST 1059 JC.PreCheck.yN, .static JC.PreCheck.yN, .code JC.PreCheck.yN JC.PreCheck.yB 3 (some .int), .initialized "jdk/internal/util/Preconditions"]
theorem tabChN_of {a : Array Value} {s : State} (h : ∀ w ∈ wordsChN, w.before a s = true) : ChN.tab.before a s = true := by
  have hp : JC.PreCheck.tab.before a s = true := unparts (wk h (.code JC.PreCheck.yN JC.PreCheck.yB 3 (some .int))) (wks h (.initialized JC.PreCheck.yN.cls :: JC.PreCheck.site))
  have qk := consq hp h
  have hk : JO.Str_checkIndex.tab.before a s = true := unparts (wk qk (.code JO.Str_checkIndex.yN JO.Str_checkIndex.yB 2 none)) (wks qk (.initialized JO.Str_checkIndex.yN.cls :: JO.Str_checkIndex.site))
  have ql := consq hk h
  have hl : LChA.tab.before a s = true := unparts (wk ql (.code LChA.yN LChA.yB 2 (some .char))) (wks ql (.initialized LChA.yN.cls :: LChA.site))
  have hi : IsL.tab.before a s = true := unparts (wk h (.code IsL.yN IsL.yB 1 (some .boolean))) (wks h (.initialized IsL.yN.cls :: IsL.site))
  have q := consq hi (consq hl h)
  exact unparts (wk q (.code ChN.yN ChN.yB 2 (some .char))) (wks q (.initialized ChN.yN.cls :: ChN.site))
theorem movedChN {Z s : State} {a0 args : Array Value} (hZ : Z.Warmed39 s.vm) (hw : ∀ d ∈ wordsChN, d.before a0 Z = true) : ∀ d ∈ wordsChN, d.before args s = true := fun d hd => by
  have t : ∀ d ∈ wordsChN, (d.onTables && d.keepsFace) = true := by decide +kernel
  exact RoadKit.mv hZ (hw d hd) (t d hd)
/-- **charAt(i) OF A LATIN-1 STRING**, i < n: the char -/
theorem chN {p : Program} {l : Launch} {e : Env} {R : Room} {s : State} {args : Array Value} {below : List Frame} {len W : Nat} {Z : State} {a0 : Array Value} {h : Heap} (hZ : Z.Warmed39 s.vm) (hw : ∀ d ∈ wordsChN, d.before a0 Z = true) {kI : Nat} (wi : (Jvm.Cond.instantiable ST kI).before a0 Z = true)
    {x t : Addr} {kb : ClassId} {cs : List Int32} {N2 z : Int32} {vs : List Value} {fm : Value} {i : Nat} {j : Int32} (E : RoadKit.Exa Z h x ST) (V : RoadKit.Fld Z h x ST "value" "[B" (.ref t)) (C : RoadKit.Fld Z h x ST "coder" "B" (.int 0)) (K : RoadKit.Arv Z h t kb .byte N2 vs (.int 0)) (hc : CodA cs 0 N2 vs) (hb : ∀ c ∈ cs, ¬ c < 0 ∧ ¬ (65535 : Int32) < c)
    (S : RoadKit.Sta Z h ST "COMPACT_STRINGS" "Z" (.int z)) (hz : ¬ z = 0) (F : RoadKit.Sta Z h "jdk/internal/util/Preconditions" "SIOOBE_FORMATTER" "Ljava/util/function/BiFunction;" fm) (rf : fm.isRef = true) (l2 : cs.length ≤ 4000) (hi : i < cs.length) (hj : j = Int32.ofNat i) (hfr : 4 ≤ R.frames) (hlo : W + 53 ≤ R.locals) :
    Back l R p e below s args (⟨"java/lang/String", "charAt", "(I)C"⟩ : MethodName) len W (fun P a => a = #[.ref x, .int j] ∧ P.U.heap = h ∧ P.cells + 0 ≤ R.cells ∧ P.slots + 0 ≤ R.slots)
      (fun P _ v B => ∃ L, (v = some (.int (cs.getD i 0)) ∧ L = [] ∧ B.U.heap = h) ∧ B.locs = P.locs ++ L ∧ B.cells = P.cells + 0 ∧ B.slots = P.slots + 0) := by
  subst hj
  intro m meth c P g ig mk a X hg hsize hdg hW hn hp'
  obtain ⟨rfl, rfl, r1, r2⟩ := hp'
  have al : Z.vm.Alike P.U.vm := hZ.alike.trans X.warmed.alike
  obtain ⟨A, hx⟩ := txt_of wi al E V C K hc hb l2
  obtain ⟨v, B, X', ⟨⟨hv, hh⟩, hl, hk, hs⟩, st⟩ := ChN.pays x t A cs.length (fun j => cs.getD j 0) z fm i (tabChN_of (movedChN hZ hw)) hfr hlo m meth c P g ig mk _ X hg hsize hdg hW hn ⟨r1, r2, rfl, hx, hi, sta_is al S, hz, sta_is al F, rf⟩
  exact ⟨v, B, X', ⟨[], ⟨hv, rfl, hh⟩, hl, hk, hs⟩, st⟩
/-- what backV says of its String, as the contracts of this text ask it: cs's low bytes, coder 0 -/
theorem codOf {cs : List Int32} {n : Nat} (hn : cs.length = n) (hb : ∀ c ∈ cs, ¬ 255 < c) : CodA cs 0 (Int32.ofNat n) ((cs.map lo8).map Value.int) := Or.inl ⟨rfl, by rw [hn], by simp [List.map_map, Function.comp_def], hb⟩
end StrChars.Road
end Jvm.Pilot.@@N@@

namespace Jvm.Pilot.@@N@@
open Jvm Jvm.ClassFile Sem Op Lib Jvm.Free Jvm.Stand Jvm.LawKit Jvm.RoadKit Bundle Jvm.Pilot.@@N@@.Jvm.D


theorem own_down {G : Prop} {α : Type} (I : Nat → α → Prop) (h0 : ∀ a, I 0 a → G) (hs : ∀ k a, I (k + 1) a → (∀ b, I k b → G) → G) : ∀ k a, I k a → G := by
  intro k
  induction k with
  | zero => exact h0
  | succ k ih => exact fun a h => hs k a h ih

theorem own_wS {a0 : Array Value} {Z : State} (hw : ∀ d ∈ tables_1, d.before a0 Z = true) : ∀ d ∈ Bundle.stringAtoms, d.before a0 Z = true := fun d hd => by
  simp only [Bundle.stringAtoms, List.mem_cons, List.not_mem_nil, or_false] at hd
  rcases hd with rfl | rfl | rfl | rfl | rfl | rfl | rfl
  · exact hw _ (List.mem_of_getElem? (i := 8) rfl)
  · exact hw _ (List.mem_of_getElem? (i := 7) rfl)
  · exact hw _ (List.mem_of_getElem? (i := 24) rfl)
  · exact hw _ (List.mem_of_getElem? (i := 34) rfl)
  · exact hw _ (List.mem_of_getElem? (i := 32) rfl)
  · exact hw _ (List.mem_of_getElem? (i := 40) rfl)
  · exact hw _ (List.mem_of_getElem? (i := 41) rfl)


def own_str (Z : State) (h : Heap) (x : Addr) (cs : List Int32) : Prop := Exa Z h x "java/lang/String" ∧ Fld Z h x "java/lang/String" "coder" "B" (.int 0) ∧ (∀ c ∈ cs, ¬ c < 0 ∧ ¬ (255 : Int32) < c) ∧ ∃ (t : Addr) (kb : ClassId), Fld Z h x "java/lang/String" "value" "[B" (.ref t) ∧ Arv Z h t kb .byte (Int32.ofNat cs.length) ((cs.map StrChars.lo8).map Value.int) (.int 0)
theorem own_sext {Z : State} {h h' : Heap} {x : Addr} {cs : List Int32} (F : own_str Z h x cs) (E : Ext h h') : own_str Z h' x cs := by
  obtain ⟨a, b, c, t, kb, d, e⟩ := F
  exact ⟨a.ext E, b.ext E, c, t, kb, d.ext E, e.ext E⟩
theorem own_skeep {Z : State} {h h' : Heap} {x : Addr} {cs : List Int32} (F : own_str Z h x cs) (K : Keep h h' []) : own_str Z h' x cs := by
  obtain ⟨a, b, c, t, kb, d, e⟩ := F
  exact ⟨a.keep K, b.keep K nin0, c, t, kb, d.keep K nin0, e.keep K nin0⟩
theorem own_up {cs : List Int32} (h : ∀ c ∈ cs, ¬ c < 0 ∧ ¬ (255 : Int32) < c) : ∀ c ∈ cs, ¬ c < 0 ∧ ¬ (65535 : Int32) < c := fun c hc => ⟨(h c hc).1, fun q => (h c hc).2 (by rw [Int32.lt_iff_toInt_lt] at q ⊢; have e1 : (65535 : Int32).toInt = 65535 := rfl; have e2 : (255 : Int32).toInt = 255 := rfl; omega)⟩
theorem own_mem {cs : List Int32} {i : Nat} (h : i < cs.length) : cs.getD i 0 ∈ cs := by
  rw [List.getD_eq_getElem?_getD, List.getElem?_eq_getElem h]
  exact List.getElem_mem h

theorem own_wmk {a0 : Array Value} {Z : State} (hw : ∀ d ∈ tables_1, d.before a0 Z = true) : ∀ d ∈ StrChars.Road.words, d.before a0 Z = true := fun d hd => hw d ((by decide +kernel : ∀ d ∈ StrChars.Road.words, d ∈ tables_1) d hd)
theorem own_wlen {a0 : Array Value} {Z : State} (hw : ∀ d ∈ tables_1, d.before a0 Z = true) : ∀ d ∈ StrChars.Road.wordsLen, d.before a0 Z = true := fun d hd => hw d ((by decide +kernel : ∀ d ∈ StrChars.Road.wordsLen, d ∈ tables_1) d hd)
theorem own_wchn {a0 : Array Value} {Z : State} (hw : ∀ d ∈ tables_1, d.before a0 Z = true) : ∀ d ∈ StrChars.Road.wordsChN, d.before a0 Z = true := fun d hd => hw d ((by decide +kernel : ∀ d ∈ StrChars.Road.wordsChN, d ∈ tables_1) d hd)
theorem own_wemp {a0 : Array Value} {Z : State} (hw : ∀ d ∈ tables_1, d.before a0 Z = true) : ∀ d ∈ StrChars.Road.wordsEmp, d.before a0 Z = true := fun d hd => hw d ((by decide +kernel : ∀ d ∈ StrChars.Road.wordsEmp, d ∈ tables_1) d hd)

def own_al (c : Int32) : Int32 := if (¬ c < 65 ∧ ¬ 90 < c) ∨ (¬ c < 97 ∧ ¬ 122 < c) ∨ (¬ c < 48 ∧ ¬ 57 < c) ∨ c = 95 ∨ c = 46 ∨ c = 45 then 1 else 0
def own_pk (k : Int32) : Int32 := if k < 26 then nar .char ((65 + k).toUInt32.toUInt16.toUInt32.toInt32) else if k < 52 then nar .char ((97 + (k - 26)).toUInt32.toUInt16.toUInt32.toInt32) else if k < 62 then nar .char ((48 + (k - 52)).toUInt32.toUInt16.toUInt32.toInt32) else if k = 62 then nar .char 95 else if k = 63 then nar .char 46 else nar .char 45
def own_pick (x : Int32) : Int32 := own_pk ((x &&& (2147483647 : Int32)) % (65 : Int32))
theorem own_allk : ∀ k : Fin 65, ¬ own_al (nar .char (own_pk (Int32.ofNat k.val))) = 0 ∧ ¬ nar .char (own_pk (Int32.ofNat k.val)) < 0 ∧ ¬ (255 : Int32) < nar .char (own_pk (Int32.ofNat k.val)) := by decide +kernel
theorem own_ok (x : Int32) : ¬ own_al (nar .char (own_pick x)) = 0 ∧ ¬ nar .char (own_pick x) < 0 ∧ ¬ (255 : Int32) < nar .char (own_pick x) := by
  have h1 := c_and x 2147483647 (by decide)
  have h2 := (c_iremV (x &&& (2147483647 : Int32)) 65).1 h1.1 (by decide)
  have e : (65 : Int32).toInt = 65 := rfl
  rw [e] at h2
  unfold own_pick
  generalize (x &&& (2147483647 : Int32)) % (65 : Int32) = k at h2
  have q : k = Int32.ofNat k.toInt.toNat := Int32.toInt_inj.mp (by rw [Int32.toInt_ofNat_of_lt (by omega)]; omega)
  rw [q]
  exact own_allk ⟨k.toInt.toNat, by omega⟩
theorem own_four (x : Int32) : x &&& 3 = 0 ∨ x &&& 3 = 1 ∨ x &&& 3 = 2 ∨ x &&& 3 = 3 := by
  have h := c_and x 3 (by decide)
  have e : (3 : Int32).toInt = 3 := rfl
  rw [e] at h
  generalize x &&& 3 = k at h
  have q : k.toInt = 0 ∨ k.toInt = 1 ∨ k.toInt = 2 ∨ k.toInt = 3 := by omega
  rcases q with q | q | q | q
  · exact Or.inl (Int32.toInt_inj.mp q)
  · exact Or.inr (Or.inl (Int32.toInt_inj.mp q))
  · exact Or.inr (Or.inr (Or.inl (Int32.toInt_inj.mp q)))
  · exact Or.inr (Or.inr (Or.inr (Int32.toInt_inj.mp q)))
theorem own_n4 {x nn : Int32} (h : nn = (x &&& 3) + 1) (h1 : ¬ nn = 1) (h2 : ¬ nn = 2) (h3 : ¬ nn = 3) : nn = 4 := by
  subst h
  rcases own_four x with e | e | e | e <;> rw [e] at h1 h2 h3 ⊢
  · exact absurd rfl h1
  · exact absurd rfl h2
  · exact absurd rfl h3
  · rfl
theorem own_ge {i n : Nat} (h : i + 0 = n) : ¬ Int32.ofNat i < Int32.ofNat n := by
  have : i = n := by omega
  rw [this]; exact Int32.lt_irrefl
theorem own_lt {i k n : Nat} (h : i + (k + 1) = n) (hn : n ≤ 4000) : Int32.ofNat i < Int32.ofNat n := by
  rw [Int32.lt_iff_toInt_lt, Int32.toInt_ofNat_of_lt (by omega), Int32.toInt_ofNat_of_lt (by omega)]
  omega
theorem own_64 {n : Nat} (hn : n ≤ 4) : ¬ (64 : Int32) < Int32.ofNat n := by
  rw [Int32.lt_iff_toInt_lt, Int32.toInt_ofNat_of_lt (by omega)]
  have e : (64 : Int32).toInt = 64 := rfl
  omega

theorem d9_0 : decode jdk_31_method_11_code 0 = .ok (.aload_n 0, 1) := by decide +kernel
theorem d9_1 : decode jdk_31_method_11_code 1 = .ok (.ifnonnull 12, 3) := by decide +kernel
theorem d9_13 : decode jdk_31_method_11_code 13 = .ok (.aload_n 0, 1) := by decide +kernel
theorem d9_14 : decode jdk_31_method_11_code 14 = .ok (.areturn, 1) := by decide +kernel
theorem pn_9 : plainName "java/util/Objects" = true := by first | (simp [plainName, overriddenIn]; done) | decide +kernel
theorem ef_rnn (m : MethodId) (x0 : Addr) (x1 : Addr) : entryFrame m #[(.ref x0), (.ref x1)] 2 = mkF m 0 #[.val (.ref x0), .val (.ref x1)] [] := by (first | (simp [entryFrame, mkF, argsToLocals, Value.category]; done) | rfl)
def Q_rnn (Z : State) (a1 : Addr) (a2 : Addr) (h0 : Heap) (n0 : Nat) (v : Option Value) (h : Heap) (L : List Loc) : Prop := v = some (.ref a1) ∧ Fr n0 L ∧ h = h0
set_option maxRecDepth 65536 in
set_option maxHeartbeats 40000000 in
theorem rm_rnn (l : Launch) (Z : State) (a0 : Array Value) (hw : ∀ d ∈ tables_1, d.before a0 Z = true) (ws : List Jvm.Cond) (a1 : Addr) (a2 : Addr) (h0 : Heap) (n0 : Nat) (Z0 : n0 ≤ h0.size)  :
    MetFree l (⟨"java/util/Objects", "requireNonNull", "(Ljava/lang/Object;Ljava/lang/String;)Ljava/lang/Object;"⟩ : MethodName) (head1 (Jvm.Cond.code (⟨"java/util/Objects", "requireNonNull", "(Ljava/lang/Object;Ljava/lang/String;)Ljava/lang/Object;"⟩ : MethodName) jdk_31_method_11_code 2 (some (.object "java/lang/Object")) :: ws) ({ frames := 0, cells := 0, slots := 0, locals := 0 } : Room)) (fun a U => a = #[(.ref a1), (.ref a2)] ∧ Z.Warmed39 U.vm ∧ U.heap = h0) (fun _ _ _ _ _ => True) (fun _ U o U' => ∃ v L, o = .returned v ∧ Q_rnn Z a1 a2 h0 n0 v U'.heap L ∧ FrameEnd U o U' L ({ frames := 0, cells := 0, slots := 0, locals := 0 } : Room).cells ({ frames := 0, cells := 0, slots := 0, locals := 0 } : Room).slots) := by
  refine MetFree.of_bodySF (plainFor_of_name pn_9) hisR ?_
  intro p e s m args below meth c s₁ Bd hml0 hP hK
  obtain ⟨rfl, hZ, hh⟩ := hP
  have hx := Bd.exec
  have hby := Bd.bytes
  have hml : c.maxLocals = 2 := hml0
  have hown : s.vm.findClass "java/util/Objects" = some m.cls := findClass_of_methodNamed Bd.named
  have hnm := (name_of_methodNamed Bd.named Bd.method).1
  have X0 : Stand p l e ({ frames := 0, cells := 0, slots := 0, locals := 0 } : Room) s m #[(.ref a1), (.ref a2)] below meth c s₁ [] 0 0 := Stand.of_body Bd
  have e0 : s₁.heap = h0 := by rw [← hh, Bd.state]; rfl
  have N0 := Fr.nil n0
  have c0 : Goes p e below s₁ (entryFrame m #[(.ref a1), (.ref a2)] 2) s₁ (mkF m 0 #[.val (.ref a1), .val (.ref a2)] []) := fun t k => castTop (ef_rnn m a1 a2) k
  have c1 : Goes p e below s₁ (entryFrame m #[(.ref a1), (.ref a2)] 2) s₁ (mkF m 14 #[.val (.ref a1), .val (.ref a2)] [(.ref a1)]) := by
    intro t kk
    refine c0 t ?_
    show Steps p.tables e below (s₁.setTop (mkF m 0 #[.val (.ref a1), .val (.ref a2)] [])) t
    refine XS.aloadN X0.here hx rfl (hb hby d9_0) rfl rfl ?_
    show Steps p.tables e below (s₁.setTop (mkF m 1 #[.val (.ref a1), .val (.ref a2)] [(.ref a1)])) t
    refine XS.ifnonnullYes X0.here hx rfl (pc0 := 1) (pc' := 13) rfl (hb hby d9_1) rfl (by decide) (by decide) ?_
    show Steps p.tables e below (s₁.setTop (mkF m 13 #[.val (.ref a1), .val (.ref a2)] [])) t
    refine XS.aloadN X0.here hx rfl (hb hby d9_13) rfl rfl ?_
    exact kk
  obtain ⟨fs, hr, hrun, hended, hW, hsame⟩ := X0.leave (v := some (.ref a1)) (fun h => by rw [Bd.returns] at h; cases h)
  refine ⟨_, _, c1 _ ?_, hrun, hended, _, _, rfl, ?_, ⟨_, rfl⟩, hW, hsame.mono (by decide) (by decide)⟩
  · exact retOut X0 hx Bd.returns rfl (Or.inr (Or.inr (Or.inr (Or.inr ⟨rfl, rfl, rfl⟩)))) (hb hby d9_14) hr
  · show Q_rnn Z a1 a2 h0 n0 _ s₁.heap _
    rw [e0]
    exact ⟨rfl, N0, rfl⟩
theorem d17_0 : decode prog_14_method_3_code 0 = .ok (.iload_n 0, 1) := by decide +kernel
theorem d17_1 : decode prog_14_method_3_code 1 = .ok (.bipush 65, 2) := by decide +kernel
theorem d17_3 : decode prog_14_method_3_code 3 = .ok (.if_icmp .lt 9, 3) := by decide +kernel
theorem d17_6 : decode prog_14_method_3_code 6 = .ok (.iload_n 0, 1) := by decide +kernel
theorem d17_7 : decode prog_14_method_3_code 7 = .ok (.bipush 90, 2) := by decide +kernel
theorem d17_9 : decode prog_14_method_3_code 9 = .ok (.if_icmp .le 45, 3) := by decide +kernel
theorem d17_12 : decode prog_14_method_3_code 12 = .ok (.iload_n 0, 1) := by decide +kernel
theorem d17_13 : decode prog_14_method_3_code 13 = .ok (.bipush 97, 2) := by decide +kernel
theorem d17_15 : decode prog_14_method_3_code 15 = .ok (.if_icmp .lt 9, 3) := by decide +kernel
theorem d17_18 : decode prog_14_method_3_code 18 = .ok (.iload_n 0, 1) := by decide +kernel
theorem d17_19 : decode prog_14_method_3_code 19 = .ok (.bipush 122, 2) := by decide +kernel
theorem d17_21 : decode prog_14_method_3_code 21 = .ok (.if_icmp .le 33, 3) := by decide +kernel
theorem d17_24 : decode prog_14_method_3_code 24 = .ok (.iload_n 0, 1) := by decide +kernel
theorem d17_25 : decode prog_14_method_3_code 25 = .ok (.bipush 48, 2) := by decide +kernel
theorem d17_27 : decode prog_14_method_3_code 27 = .ok (.if_icmp .lt 9, 3) := by decide +kernel
theorem d17_30 : decode prog_14_method_3_code 30 = .ok (.iload_n 0, 1) := by decide +kernel
theorem d17_31 : decode prog_14_method_3_code 31 = .ok (.bipush 57, 2) := by decide +kernel
theorem d17_33 : decode prog_14_method_3_code 33 = .ok (.if_icmp .le 21, 3) := by decide +kernel
theorem d17_36 : decode prog_14_method_3_code 36 = .ok (.iload_n 0, 1) := by decide +kernel
theorem d17_37 : decode prog_14_method_3_code 37 = .ok (.bipush 95, 2) := by decide +kernel
theorem d17_39 : decode prog_14_method_3_code 39 = .ok (.if_icmp .eq 15, 3) := by decide +kernel
theorem d17_42 : decode prog_14_method_3_code 42 = .ok (.iload_n 0, 1) := by decide +kernel
theorem d17_43 : decode prog_14_method_3_code 43 = .ok (.bipush 46, 2) := by decide +kernel
theorem d17_45 : decode prog_14_method_3_code 45 = .ok (.if_icmp .eq 9, 3) := by decide +kernel
theorem d17_48 : decode prog_14_method_3_code 48 = .ok (.iload_n 0, 1) := by decide +kernel
theorem d17_49 : decode prog_14_method_3_code 49 = .ok (.bipush 45, 2) := by decide +kernel
theorem d17_51 : decode prog_14_method_3_code 51 = .ok (.if_icmp .ne 7, 3) := by decide +kernel
theorem d17_54 : decode prog_14_method_3_code 54 = .ok (.iconst 1, 1) := by decide +kernel
theorem d17_55 : decode prog_14_method_3_code 55 = .ok (.goto 4, 3) := by decide +kernel
theorem d17_58 : decode prog_14_method_3_code 58 = .ok (.iconst 0, 1) := by decide +kernel
theorem d17_59 : decode prog_14_method_3_code 59 = .ok (.ireturn, 1) := by decide +kernel
theorem pn_17 : plainName "com/example/sequence_dispenser/sequencedispenser/core/SequenceName" = true := by first | (simp [plainName, overriddenIn]; done) | decide +kernel
theorem ef_al (m : MethodId) (x0 : Int32) : entryFrame m #[(.int x0)] 1 = mkF m 0 #[.val (.int x0)] [] := by (first | (simp [entryFrame, mkF, argsToLocals, Value.category]; done) | rfl)
def Q_al (Z : State) (p1 : Int32) (h0 : Heap) (n0 : Nat) (v : Option Value) (h : Heap) (L : List Loc) : Prop := v = some (.int (own_al p1)) ∧ Fr n0 L ∧ h = h0
set_option maxRecDepth 65536 in
set_option maxHeartbeats 40000000 in
theorem rm_al (l : Launch) (Z : State) (a0 : Array Value) (hw : ∀ d ∈ tables_1, d.before a0 Z = true) (ws : List Jvm.Cond) (p1 : Int32) (h0 : Heap) (n0 : Nat) (Z0 : n0 ≤ h0.size)  :
    MetFree l (⟨"com/example/sequence_dispenser/sequencedispenser/core/SequenceName", "isAllowed", "(C)Z"⟩ : MethodName) (head1 (Jvm.Cond.code (⟨"com/example/sequence_dispenser/sequencedispenser/core/SequenceName", "isAllowed", "(C)Z"⟩ : MethodName) prog_14_method_3_code 1 (some .boolean) :: ws) ({ frames := 0, cells := 0, slots := 0, locals := 0 } : Room)) (fun a U => a = #[(.int p1)] ∧ Z.Warmed39 U.vm ∧ U.heap = h0) (fun _ _ _ _ _ => True) (fun _ U o U' => ∃ v L, o = .returned v ∧ Q_al Z p1 h0 n0 v U'.heap L ∧ FrameEnd U o U' L ({ frames := 0, cells := 0, slots := 0, locals := 0 } : Room).cells ({ frames := 0, cells := 0, slots := 0, locals := 0 } : Room).slots) := by
  refine MetFree.of_bodySF (plainFor_of_name pn_17) hisR ?_
  intro p e s m args below meth c s₁ Bd hml0 hP hK
  obtain ⟨rfl, hZ, hh⟩ := hP
  have hx := Bd.exec
  have hby := Bd.bytes
  have hml : c.maxLocals = 1 := hml0
  have hown : s.vm.findClass "com/example/sequence_dispenser/sequencedispenser/core/SequenceName" = some m.cls := findClass_of_methodNamed Bd.named
  have hnm := (name_of_methodNamed Bd.named Bd.method).1
  have X0 : Stand p l e ({ frames := 0, cells := 0, slots := 0, locals := 0 } : Room) s m #[(.int p1)] below meth c s₁ [] 0 0 := Stand.of_body Bd
  have e0 : s₁.heap = h0 := by rw [← hh, Bd.state]; rfl
  have N0 := Fr.nil n0
  have c0 : Goes p e below s₁ (entryFrame m #[(.int p1)] 1) s₁ (mkF m 0 #[.val (.int p1)] []) := fun t k => castTop (ef_al m p1) k
  have c2 : Goes p e below s₁ (entryFrame m #[(.int p1)] 1) s₁ (mkF m 3 #[.val (.int p1)] [(.int (65 : Int32)), (.int p1)]) := by
    intro t kk
    refine c0 t ?_
    show Steps p.tables e below (s₁.setTop (mkF m 0 #[.val (.int p1)] [])) t
    refine XS.iloadN X0.here hx rfl (hb hby d17_0) rfl ?_
    show Steps p.tables e below (s₁.setTop (mkF m 1 #[.val (.int p1)] [(.int p1)])) t
    refine XS.bipush X0.here hx rfl (hb hby d17_1) ?_
    exact kk
  by_cases hc3_3 : p1 < (65 : Int32)
  · have c4 : Goes p e below s₁ (entryFrame m #[(.int p1)] 1) s₁ (mkF m 15 #[.val (.int p1)] [(.int (97 : Int32)), (.int p1)]) := by
      intro t kk
      refine c2 t ?_
      show Steps p.tables e below (s₁.setTop (mkF m 3 #[.val (.int p1)] [(.int (65 : Int32)), (.int p1)])) t
      refine XS.icmpYes X0.here hx rfl (pc0 := 3) (pc' := 12) rfl (hb hby d17_3) rfl (tlt hc3_3).1 (by decide) (by decide) ?_
      show Steps p.tables e below (s₁.setTop (mkF m 12 #[.val (.int p1)] [])) t
      refine XS.iloadN X0.here hx rfl (hb hby d17_12) rfl ?_
      show Steps p.tables e below (s₁.setTop (mkF m 13 #[.val (.int p1)] [(.int p1)])) t
      refine XS.bipush X0.here hx rfl (hb hby d17_13) ?_
      exact kk
    by_cases hc15_5 : p1 < (97 : Int32)
    · have c6 : Goes p e below s₁ (entryFrame m #[(.int p1)] 1) s₁ (mkF m 27 #[.val (.int p1)] [(.int (48 : Int32)), (.int p1)]) := by
        intro t kk
        refine c4 t ?_
        show Steps p.tables e below (s₁.setTop (mkF m 15 #[.val (.int p1)] [(.int (97 : Int32)), (.int p1)])) t
        refine XS.icmpYes X0.here hx rfl (pc0 := 15) (pc' := 24) rfl (hb hby d17_15) rfl (tlt hc15_5).1 (by decide) (by decide) ?_
        show Steps p.tables e below (s₁.setTop (mkF m 24 #[.val (.int p1)] [])) t
        refine XS.iloadN X0.here hx rfl (hb hby d17_24) rfl ?_
        show Steps p.tables e below (s₁.setTop (mkF m 25 #[.val (.int p1)] [(.int p1)])) t
        refine XS.bipush X0.here hx rfl (hb hby d17_25) ?_
        exact kk
      by_cases hc27_7 : p1 < (48 : Int32)
      · have c8 : Goes p e below s₁ (entryFrame m #[(.int p1)] 1) s₁ (mkF m 39 #[.val (.int p1)] [(.int (95 : Int32)), (.int p1)]) := by
          intro t kk
          refine c6 t ?_
          show Steps p.tables e below (s₁.setTop (mkF m 27 #[.val (.int p1)] [(.int (48 : Int32)), (.int p1)])) t
          refine XS.icmpYes X0.here hx rfl (pc0 := 27) (pc' := 36) rfl (hb hby d17_27) rfl (tlt hc27_7).1 (by decide) (by decide) ?_
          show Steps p.tables e below (s₁.setTop (mkF m 36 #[.val (.int p1)] [])) t
          refine XS.iloadN X0.here hx rfl (hb hby d17_36) rfl ?_
          show Steps p.tables e below (s₁.setTop (mkF m 37 #[.val (.int p1)] [(.int p1)])) t
          refine XS.bipush X0.here hx rfl (hb hby d17_37) ?_
          exact kk
        by_cases hc39_9 : p1 = (95 : Int32)
        · have c10 : Goes p e below s₁ (entryFrame m #[(.int p1)] 1) s₁ (mkF m 59 #[.val (.int p1)] [(.int (1 : Int32))]) := by
            intro t kk
            refine c8 t ?_
            show Steps p.tables e below (s₁.setTop (mkF m 39 #[.val (.int p1)] [(.int (95 : Int32)), (.int p1)])) t
            refine XS.icmpYes X0.here hx rfl (pc0 := 39) (pc' := 54) rfl (hb hby d17_39) rfl (teq hc39_9).1 (by decide) (by decide) ?_
            show Steps p.tables e below (s₁.setTop (mkF m 54 #[.val (.int p1)] [])) t
            refine XS.iconst X0.here hx rfl (hb hby d17_54) ?_
            show Steps p.tables e below (s₁.setTop (mkF m 55 #[.val (.int p1)] [(.int (1 : Int32))])) t
            refine XS.goto X0.here hx rfl (pc0 := 55) (pc' := 59) rfl (hb hby d17_55) (by decide) (by decide) ?_
            exact kk
          obtain ⟨fs, hr, hrun, hended, hW, hsame⟩ := X0.leave (v := some (.int (1 : Int32))) (fun h => by rw [Bd.returns] at h; cases h)
          refine ⟨_, _, c10 _ ?_, hrun, hended, _, _, rfl, ?_, ⟨_, rfl⟩, hW, hsame.mono (by decide) (by decide)⟩
          · exact retN X0 hx (t := .boolean) Bd.returns (by simp) (hb hby d17_59) hr
          · show Q_al Z p1 h0 n0 _ s₁.heap _
            rw [e0]
            exact ⟨by simp [own_al, hc3_3, hc15_5, hc27_7, hc39_9], N0, rfl⟩
        · have c11 : Goes p e below s₁ (entryFrame m #[(.int p1)] 1) s₁ (mkF m 45 #[.val (.int p1)] [(.int (46 : Int32)), (.int p1)]) := by
            intro t kk
            refine c8 t ?_
            show Steps p.tables e below (s₁.setTop (mkF m 39 #[.val (.int p1)] [(.int (95 : Int32)), (.int p1)])) t
            refine XS.icmpNo X0.here hx rfl (hb hby d17_39) rfl (feq hc39_9).1 ?_
            show Steps p.tables e below (s₁.setTop (mkF m 42 #[.val (.int p1)] [])) t
            refine XS.iloadN X0.here hx rfl (hb hby d17_42) rfl ?_
            show Steps p.tables e below (s₁.setTop (mkF m 43 #[.val (.int p1)] [(.int p1)])) t
            refine XS.bipush X0.here hx rfl (hb hby d17_43) ?_
            exact kk
          by_cases hc45_12 : p1 = (46 : Int32)
          · have c13 : Goes p e below s₁ (entryFrame m #[(.int p1)] 1) s₁ (mkF m 59 #[.val (.int p1)] [(.int (1 : Int32))]) := by
              intro t kk
              refine c11 t ?_
              show Steps p.tables e below (s₁.setTop (mkF m 45 #[.val (.int p1)] [(.int (46 : Int32)), (.int p1)])) t
              refine XS.icmpYes X0.here hx rfl (pc0 := 45) (pc' := 54) rfl (hb hby d17_45) rfl (teq hc45_12).1 (by decide) (by decide) ?_
              show Steps p.tables e below (s₁.setTop (mkF m 54 #[.val (.int p1)] [])) t
              refine XS.iconst X0.here hx rfl (hb hby d17_54) ?_
              show Steps p.tables e below (s₁.setTop (mkF m 55 #[.val (.int p1)] [(.int (1 : Int32))])) t
              refine XS.goto X0.here hx rfl (pc0 := 55) (pc' := 59) rfl (hb hby d17_55) (by decide) (by decide) ?_
              exact kk
            obtain ⟨fs, hr, hrun, hended, hW, hsame⟩ := X0.leave (v := some (.int (1 : Int32))) (fun h => by rw [Bd.returns] at h; cases h)
            refine ⟨_, _, c13 _ ?_, hrun, hended, _, _, rfl, ?_, ⟨_, rfl⟩, hW, hsame.mono (by decide) (by decide)⟩
            · exact retN X0 hx (t := .boolean) Bd.returns (by simp) (hb hby d17_59) hr
            · show Q_al Z p1 h0 n0 _ s₁.heap _
              rw [e0]
              exact ⟨by simp [own_al, hc3_3, hc15_5, hc27_7, hc39_9, hc45_12], N0, rfl⟩
          · have c14 : Goes p e below s₁ (entryFrame m #[(.int p1)] 1) s₁ (mkF m 51 #[.val (.int p1)] [(.int (45 : Int32)), (.int p1)]) := by
              intro t kk
              refine c11 t ?_
              show Steps p.tables e below (s₁.setTop (mkF m 45 #[.val (.int p1)] [(.int (46 : Int32)), (.int p1)])) t
              refine XS.icmpNo X0.here hx rfl (hb hby d17_45) rfl (feq hc45_12).1 ?_
              show Steps p.tables e below (s₁.setTop (mkF m 48 #[.val (.int p1)] [])) t
              refine XS.iloadN X0.here hx rfl (hb hby d17_48) rfl ?_
              show Steps p.tables e below (s₁.setTop (mkF m 49 #[.val (.int p1)] [(.int p1)])) t
              refine XS.bipush X0.here hx rfl (hb hby d17_49) ?_
              exact kk
            by_cases hc51_15 : p1 = (45 : Int32)
            · have c16 : Goes p e below s₁ (entryFrame m #[(.int p1)] 1) s₁ (mkF m 59 #[.val (.int p1)] [(.int (1 : Int32))]) := by
                intro t kk
                refine c14 t ?_
                show Steps p.tables e below (s₁.setTop (mkF m 51 #[.val (.int p1)] [(.int (45 : Int32)), (.int p1)])) t
                refine XS.icmpNo X0.here hx rfl (hb hby d17_51) rfl (teq hc51_15).2 ?_
                show Steps p.tables e below (s₁.setTop (mkF m 54 #[.val (.int p1)] [])) t
                refine XS.iconst X0.here hx rfl (hb hby d17_54) ?_
                show Steps p.tables e below (s₁.setTop (mkF m 55 #[.val (.int p1)] [(.int (1 : Int32))])) t
                refine XS.goto X0.here hx rfl (pc0 := 55) (pc' := 59) rfl (hb hby d17_55) (by decide) (by decide) ?_
                exact kk
              obtain ⟨fs, hr, hrun, hended, hW, hsame⟩ := X0.leave (v := some (.int (1 : Int32))) (fun h => by rw [Bd.returns] at h; cases h)
              refine ⟨_, _, c16 _ ?_, hrun, hended, _, _, rfl, ?_, ⟨_, rfl⟩, hW, hsame.mono (by decide) (by decide)⟩
              · exact retN X0 hx (t := .boolean) Bd.returns (by simp) (hb hby d17_59) hr
              · show Q_al Z p1 h0 n0 _ s₁.heap _
                rw [e0]
                exact ⟨by simp [own_al, hc3_3, hc15_5, hc27_7, hc39_9, hc45_12, hc51_15], N0, rfl⟩
            · have c17 : Goes p e below s₁ (entryFrame m #[(.int p1)] 1) s₁ (mkF m 59 #[.val (.int p1)] [(.int (0 : Int32))]) := by
                intro t kk
                refine c14 t ?_
                show Steps p.tables e below (s₁.setTop (mkF m 51 #[.val (.int p1)] [(.int (45 : Int32)), (.int p1)])) t
                refine XS.icmpYes X0.here hx rfl (pc0 := 51) (pc' := 58) rfl (hb hby d17_51) rfl (feq hc51_15).2 (by decide) (by decide) ?_
                show Steps p.tables e below (s₁.setTop (mkF m 58 #[.val (.int p1)] [])) t
                refine XS.iconst X0.here hx rfl (hb hby d17_58) ?_
                exact kk
              obtain ⟨fs, hr, hrun, hended, hW, hsame⟩ := X0.leave (v := some (.int (0 : Int32))) (fun h => by rw [Bd.returns] at h; cases h)
              refine ⟨_, _, c17 _ ?_, hrun, hended, _, _, rfl, ?_, ⟨_, rfl⟩, hW, hsame.mono (by decide) (by decide)⟩
              · exact retN X0 hx (t := .boolean) Bd.returns (by simp) (hb hby d17_59) hr
              · show Q_al Z p1 h0 n0 _ s₁.heap _
                rw [e0]
                exact ⟨by simp [own_al, hc3_3, hc15_5, hc27_7, hc39_9, hc45_12, hc51_15], N0, rfl⟩
      · have c18 : Goes p e below s₁ (entryFrame m #[(.int p1)] 1) s₁ (mkF m 33 #[.val (.int p1)] [(.int (57 : Int32)), (.int p1)]) := by
          intro t kk
          refine c6 t ?_
          show Steps p.tables e below (s₁.setTop (mkF m 27 #[.val (.int p1)] [(.int (48 : Int32)), (.int p1)])) t
          refine XS.icmpNo X0.here hx rfl (hb hby d17_27) rfl (flt hc27_7).1 ?_
          show Steps p.tables e below (s₁.setTop (mkF m 30 #[.val (.int p1)] [])) t
          refine XS.iloadN X0.here hx rfl (hb hby d17_30) rfl ?_
          show Steps p.tables e below (s₁.setTop (mkF m 31 #[.val (.int p1)] [(.int p1)])) t
          refine XS.bipush X0.here hx rfl (hb hby d17_31) ?_
          exact kk
        by_cases hc33_19 : (57 : Int32) < p1
        · have c20 : Goes p e below s₁ (entryFrame m #[(.int p1)] 1) s₁ (mkF m 39 #[.val (.int p1)] [(.int (95 : Int32)), (.int p1)]) := by
            intro t kk
            refine c18 t ?_
            show Steps p.tables e below (s₁.setTop (mkF m 33 #[.val (.int p1)] [(.int (57 : Int32)), (.int p1)])) t
            refine XS.icmpNo X0.here hx rfl (hb hby d17_33) rfl (tlt hc33_19).2.2.2 ?_
            show Steps p.tables e below (s₁.setTop (mkF m 36 #[.val (.int p1)] [])) t
            refine XS.iloadN X0.here hx rfl (hb hby d17_36) rfl ?_
            show Steps p.tables e below (s₁.setTop (mkF m 37 #[.val (.int p1)] [(.int p1)])) t
            refine XS.bipush X0.here hx rfl (hb hby d17_37) ?_
            exact kk
          by_cases hc39_21 : p1 = (95 : Int32)
          · have c22 : Goes p e below s₁ (entryFrame m #[(.int p1)] 1) s₁ (mkF m 59 #[.val (.int p1)] [(.int (1 : Int32))]) := by
              intro t kk
              refine c20 t ?_
              show Steps p.tables e below (s₁.setTop (mkF m 39 #[.val (.int p1)] [(.int (95 : Int32)), (.int p1)])) t
              refine XS.icmpYes X0.here hx rfl (pc0 := 39) (pc' := 54) rfl (hb hby d17_39) rfl (teq hc39_21).1 (by decide) (by decide) ?_
              show Steps p.tables e below (s₁.setTop (mkF m 54 #[.val (.int p1)] [])) t
              refine XS.iconst X0.here hx rfl (hb hby d17_54) ?_
              show Steps p.tables e below (s₁.setTop (mkF m 55 #[.val (.int p1)] [(.int (1 : Int32))])) t
              refine XS.goto X0.here hx rfl (pc0 := 55) (pc' := 59) rfl (hb hby d17_55) (by decide) (by decide) ?_
              exact kk
            obtain ⟨fs, hr, hrun, hended, hW, hsame⟩ := X0.leave (v := some (.int (1 : Int32))) (fun h => by rw [Bd.returns] at h; cases h)
            refine ⟨_, _, c22 _ ?_, hrun, hended, _, _, rfl, ?_, ⟨_, rfl⟩, hW, hsame.mono (by decide) (by decide)⟩
            · exact retN X0 hx (t := .boolean) Bd.returns (by simp) (hb hby d17_59) hr
            · show Q_al Z p1 h0 n0 _ s₁.heap _
              rw [e0]
              exact ⟨by simp [own_al, hc3_3, hc15_5, hc27_7, hc33_19, hc39_21], N0, rfl⟩
          · have c23 : Goes p e below s₁ (entryFrame m #[(.int p1)] 1) s₁ (mkF m 45 #[.val (.int p1)] [(.int (46 : Int32)), (.int p1)]) := by
              intro t kk
              refine c20 t ?_
              show Steps p.tables e below (s₁.setTop (mkF m 39 #[.val (.int p1)] [(.int (95 : Int32)), (.int p1)])) t
              refine XS.icmpNo X0.here hx rfl (hb hby d17_39) rfl (feq hc39_21).1 ?_
              show Steps p.tables e below (s₁.setTop (mkF m 42 #[.val (.int p1)] [])) t
              refine XS.iloadN X0.here hx rfl (hb hby d17_42) rfl ?_
              show Steps p.tables e below (s₁.setTop (mkF m 43 #[.val (.int p1)] [(.int p1)])) t
              refine XS.bipush X0.here hx rfl (hb hby d17_43) ?_
              exact kk
            by_cases hc45_24 : p1 = (46 : Int32)
            · have c25 : Goes p e below s₁ (entryFrame m #[(.int p1)] 1) s₁ (mkF m 59 #[.val (.int p1)] [(.int (1 : Int32))]) := by
                intro t kk
                refine c23 t ?_
                show Steps p.tables e below (s₁.setTop (mkF m 45 #[.val (.int p1)] [(.int (46 : Int32)), (.int p1)])) t
                refine XS.icmpYes X0.here hx rfl (pc0 := 45) (pc' := 54) rfl (hb hby d17_45) rfl (teq hc45_24).1 (by decide) (by decide) ?_
                show Steps p.tables e below (s₁.setTop (mkF m 54 #[.val (.int p1)] [])) t
                refine XS.iconst X0.here hx rfl (hb hby d17_54) ?_
                show Steps p.tables e below (s₁.setTop (mkF m 55 #[.val (.int p1)] [(.int (1 : Int32))])) t
                refine XS.goto X0.here hx rfl (pc0 := 55) (pc' := 59) rfl (hb hby d17_55) (by decide) (by decide) ?_
                exact kk
              obtain ⟨fs, hr, hrun, hended, hW, hsame⟩ := X0.leave (v := some (.int (1 : Int32))) (fun h => by rw [Bd.returns] at h; cases h)
              refine ⟨_, _, c25 _ ?_, hrun, hended, _, _, rfl, ?_, ⟨_, rfl⟩, hW, hsame.mono (by decide) (by decide)⟩
              · exact retN X0 hx (t := .boolean) Bd.returns (by simp) (hb hby d17_59) hr
              · show Q_al Z p1 h0 n0 _ s₁.heap _
                rw [e0]
                exact ⟨by simp [own_al, hc3_3, hc15_5, hc27_7, hc33_19, hc39_21, hc45_24], N0, rfl⟩
            · have c26 : Goes p e below s₁ (entryFrame m #[(.int p1)] 1) s₁ (mkF m 51 #[.val (.int p1)] [(.int (45 : Int32)), (.int p1)]) := by
                intro t kk
                refine c23 t ?_
                show Steps p.tables e below (s₁.setTop (mkF m 45 #[.val (.int p1)] [(.int (46 : Int32)), (.int p1)])) t
                refine XS.icmpNo X0.here hx rfl (hb hby d17_45) rfl (feq hc45_24).1 ?_
                show Steps p.tables e below (s₁.setTop (mkF m 48 #[.val (.int p1)] [])) t
                refine XS.iloadN X0.here hx rfl (hb hby d17_48) rfl ?_
                show Steps p.tables e below (s₁.setTop (mkF m 49 #[.val (.int p1)] [(.int p1)])) t
                refine XS.bipush X0.here hx rfl (hb hby d17_49) ?_
                exact kk
              by_cases hc51_27 : p1 = (45 : Int32)
              · have c28 : Goes p e below s₁ (entryFrame m #[(.int p1)] 1) s₁ (mkF m 59 #[.val (.int p1)] [(.int (1 : Int32))]) := by
                  intro t kk
                  refine c26 t ?_
                  show Steps p.tables e below (s₁.setTop (mkF m 51 #[.val (.int p1)] [(.int (45 : Int32)), (.int p1)])) t
                  refine XS.icmpNo X0.here hx rfl (hb hby d17_51) rfl (teq hc51_27).2 ?_
                  show Steps p.tables e below (s₁.setTop (mkF m 54 #[.val (.int p1)] [])) t
                  refine XS.iconst X0.here hx rfl (hb hby d17_54) ?_
                  show Steps p.tables e below (s₁.setTop (mkF m 55 #[.val (.int p1)] [(.int (1 : Int32))])) t
                  refine XS.goto X0.here hx rfl (pc0 := 55) (pc' := 59) rfl (hb hby d17_55) (by decide) (by decide) ?_
                  exact kk
                obtain ⟨fs, hr, hrun, hended, hW, hsame⟩ := X0.leave (v := some (.int (1 : Int32))) (fun h => by rw [Bd.returns] at h; cases h)
                refine ⟨_, _, c28 _ ?_, hrun, hended, _, _, rfl, ?_, ⟨_, rfl⟩, hW, hsame.mono (by decide) (by decide)⟩
                · exact retN X0 hx (t := .boolean) Bd.returns (by simp) (hb hby d17_59) hr
                · show Q_al Z p1 h0 n0 _ s₁.heap _
                  rw [e0]
                  exact ⟨by simp [own_al, hc3_3, hc15_5, hc27_7, hc33_19, hc39_21, hc45_24, hc51_27], N0, rfl⟩
              · have c29 : Goes p e below s₁ (entryFrame m #[(.int p1)] 1) s₁ (mkF m 59 #[.val (.int p1)] [(.int (0 : Int32))]) := by
                  intro t kk
                  refine c26 t ?_
                  show Steps p.tables e below (s₁.setTop (mkF m 51 #[.val (.int p1)] [(.int (45 : Int32)), (.int p1)])) t
                  refine XS.icmpYes X0.here hx rfl (pc0 := 51) (pc' := 58) rfl (hb hby d17_51) rfl (feq hc51_27).2 (by decide) (by decide) ?_
                  show Steps p.tables e below (s₁.setTop (mkF m 58 #[.val (.int p1)] [])) t
                  refine XS.iconst X0.here hx rfl (hb hby d17_58) ?_
                  exact kk
                obtain ⟨fs, hr, hrun, hended, hW, hsame⟩ := X0.leave (v := some (.int (0 : Int32))) (fun h => by rw [Bd.returns] at h; cases h)
                refine ⟨_, _, c29 _ ?_, hrun, hended, _, _, rfl, ?_, ⟨_, rfl⟩, hW, hsame.mono (by decide) (by decide)⟩
                · exact retN X0 hx (t := .boolean) Bd.returns (by simp) (hb hby d17_59) hr
                · show Q_al Z p1 h0 n0 _ s₁.heap _
                  rw [e0]
                  exact ⟨by simp [own_al, hc3_3, hc15_5, hc27_7, hc33_19, hc39_21, hc45_24, hc51_27], N0, rfl⟩
        · have c30 : Goes p e below s₁ (entryFrame m #[(.int p1)] 1) s₁ (mkF m 59 #[.val (.int p1)] [(.int (1 : Int32))]) := by
            intro t kk
            refine c18 t ?_
            show Steps p.tables e below (s₁.setTop (mkF m 33 #[.val (.int p1)] [(.int (57 : Int32)), (.int p1)])) t
            refine XS.icmpYes X0.here hx rfl (pc0 := 33) (pc' := 54) rfl (hb hby d17_33) rfl (flt hc33_19).2.2.2 (by decide) (by decide) ?_
            show Steps p.tables e below (s₁.setTop (mkF m 54 #[.val (.int p1)] [])) t
            refine XS.iconst X0.here hx rfl (hb hby d17_54) ?_
            show Steps p.tables e below (s₁.setTop (mkF m 55 #[.val (.int p1)] [(.int (1 : Int32))])) t
            refine XS.goto X0.here hx rfl (pc0 := 55) (pc' := 59) rfl (hb hby d17_55) (by decide) (by decide) ?_
            exact kk
          obtain ⟨fs, hr, hrun, hended, hW, hsame⟩ := X0.leave (v := some (.int (1 : Int32))) (fun h => by rw [Bd.returns] at h; cases h)
          refine ⟨_, _, c30 _ ?_, hrun, hended, _, _, rfl, ?_, ⟨_, rfl⟩, hW, hsame.mono (by decide) (by decide)⟩
          · exact retN X0 hx (t := .boolean) Bd.returns (by simp) (hb hby d17_59) hr
          · show Q_al Z p1 h0 n0 _ s₁.heap _
            rw [e0]
            exact ⟨by simp [own_al, hc3_3, hc15_5, hc27_7, hc33_19], N0, rfl⟩
    · have c31 : Goes p e below s₁ (entryFrame m #[(.int p1)] 1) s₁ (mkF m 21 #[.val (.int p1)] [(.int (122 : Int32)), (.int p1)]) := by
        intro t kk
        refine c4 t ?_
        show Steps p.tables e below (s₁.setTop (mkF m 15 #[.val (.int p1)] [(.int (97 : Int32)), (.int p1)])) t
        refine XS.icmpNo X0.here hx rfl (hb hby d17_15) rfl (flt hc15_5).1 ?_
        show Steps p.tables e below (s₁.setTop (mkF m 18 #[.val (.int p1)] [])) t
        refine XS.iloadN X0.here hx rfl (hb hby d17_18) rfl ?_
        show Steps p.tables e below (s₁.setTop (mkF m 19 #[.val (.int p1)] [(.int p1)])) t
        refine XS.bipush X0.here hx rfl (hb hby d17_19) ?_
        exact kk
      by_cases hc21_32 : (122 : Int32) < p1
      · have c33 : Goes p e below s₁ (entryFrame m #[(.int p1)] 1) s₁ (mkF m 27 #[.val (.int p1)] [(.int (48 : Int32)), (.int p1)]) := by
          intro t kk
          refine c31 t ?_
          show Steps p.tables e below (s₁.setTop (mkF m 21 #[.val (.int p1)] [(.int (122 : Int32)), (.int p1)])) t
          refine XS.icmpNo X0.here hx rfl (hb hby d17_21) rfl (tlt hc21_32).2.2.2 ?_
          show Steps p.tables e below (s₁.setTop (mkF m 24 #[.val (.int p1)] [])) t
          refine XS.iloadN X0.here hx rfl (hb hby d17_24) rfl ?_
          show Steps p.tables e below (s₁.setTop (mkF m 25 #[.val (.int p1)] [(.int p1)])) t
          refine XS.bipush X0.here hx rfl (hb hby d17_25) ?_
          exact kk
        by_cases hc27_34 : p1 < (48 : Int32)
        · have c35 : Goes p e below s₁ (entryFrame m #[(.int p1)] 1) s₁ (mkF m 39 #[.val (.int p1)] [(.int (95 : Int32)), (.int p1)]) := by
            intro t kk
            refine c33 t ?_
            show Steps p.tables e below (s₁.setTop (mkF m 27 #[.val (.int p1)] [(.int (48 : Int32)), (.int p1)])) t
            refine XS.icmpYes X0.here hx rfl (pc0 := 27) (pc' := 36) rfl (hb hby d17_27) rfl (tlt hc27_34).1 (by decide) (by decide) ?_
            show Steps p.tables e below (s₁.setTop (mkF m 36 #[.val (.int p1)] [])) t
            refine XS.iloadN X0.here hx rfl (hb hby d17_36) rfl ?_
            show Steps p.tables e below (s₁.setTop (mkF m 37 #[.val (.int p1)] [(.int p1)])) t
            refine XS.bipush X0.here hx rfl (hb hby d17_37) ?_
            exact kk
          by_cases hc39_36 : p1 = (95 : Int32)
          · have c37 : Goes p e below s₁ (entryFrame m #[(.int p1)] 1) s₁ (mkF m 59 #[.val (.int p1)] [(.int (1 : Int32))]) := by
              intro t kk
              refine c35 t ?_
              show Steps p.tables e below (s₁.setTop (mkF m 39 #[.val (.int p1)] [(.int (95 : Int32)), (.int p1)])) t
              refine XS.icmpYes X0.here hx rfl (pc0 := 39) (pc' := 54) rfl (hb hby d17_39) rfl (teq hc39_36).1 (by decide) (by decide) ?_
              show Steps p.tables e below (s₁.setTop (mkF m 54 #[.val (.int p1)] [])) t
              refine XS.iconst X0.here hx rfl (hb hby d17_54) ?_
              show Steps p.tables e below (s₁.setTop (mkF m 55 #[.val (.int p1)] [(.int (1 : Int32))])) t
              refine XS.goto X0.here hx rfl (pc0 := 55) (pc' := 59) rfl (hb hby d17_55) (by decide) (by decide) ?_
              exact kk
            obtain ⟨fs, hr, hrun, hended, hW, hsame⟩ := X0.leave (v := some (.int (1 : Int32))) (fun h => by rw [Bd.returns] at h; cases h)
            refine ⟨_, _, c37 _ ?_, hrun, hended, _, _, rfl, ?_, ⟨_, rfl⟩, hW, hsame.mono (by decide) (by decide)⟩
            · exact retN X0 hx (t := .boolean) Bd.returns (by simp) (hb hby d17_59) hr
            · show Q_al Z p1 h0 n0 _ s₁.heap _
              rw [e0]
              exact ⟨by simp [own_al, hc3_3, hc15_5, hc21_32, hc27_34, hc39_36], N0, rfl⟩
          · have c38 : Goes p e below s₁ (entryFrame m #[(.int p1)] 1) s₁ (mkF m 45 #[.val (.int p1)] [(.int (46 : Int32)), (.int p1)]) := by
              intro t kk
              refine c35 t ?_
              show Steps p.tables e below (s₁.setTop (mkF m 39 #[.val (.int p1)] [(.int (95 : Int32)), (.int p1)])) t
              refine XS.icmpNo X0.here hx rfl (hb hby d17_39) rfl (feq hc39_36).1 ?_
              show Steps p.tables e below (s₁.setTop (mkF m 42 #[.val (.int p1)] [])) t
              refine XS.iloadN X0.here hx rfl (hb hby d17_42) rfl ?_
              show Steps p.tables e below (s₁.setTop (mkF m 43 #[.val (.int p1)] [(.int p1)])) t
              refine XS.bipush X0.here hx rfl (hb hby d17_43) ?_
              exact kk
            by_cases hc45_39 : p1 = (46 : Int32)
            · have c40 : Goes p e below s₁ (entryFrame m #[(.int p1)] 1) s₁ (mkF m 59 #[.val (.int p1)] [(.int (1 : Int32))]) := by
                intro t kk
                refine c38 t ?_
                show Steps p.tables e below (s₁.setTop (mkF m 45 #[.val (.int p1)] [(.int (46 : Int32)), (.int p1)])) t
                refine XS.icmpYes X0.here hx rfl (pc0 := 45) (pc' := 54) rfl (hb hby d17_45) rfl (teq hc45_39).1 (by decide) (by decide) ?_
                show Steps p.tables e below (s₁.setTop (mkF m 54 #[.val (.int p1)] [])) t
                refine XS.iconst X0.here hx rfl (hb hby d17_54) ?_
                show Steps p.tables e below (s₁.setTop (mkF m 55 #[.val (.int p1)] [(.int (1 : Int32))])) t
                refine XS.goto X0.here hx rfl (pc0 := 55) (pc' := 59) rfl (hb hby d17_55) (by decide) (by decide) ?_
                exact kk
              obtain ⟨fs, hr, hrun, hended, hW, hsame⟩ := X0.leave (v := some (.int (1 : Int32))) (fun h => by rw [Bd.returns] at h; cases h)
              refine ⟨_, _, c40 _ ?_, hrun, hended, _, _, rfl, ?_, ⟨_, rfl⟩, hW, hsame.mono (by decide) (by decide)⟩
              · exact retN X0 hx (t := .boolean) Bd.returns (by simp) (hb hby d17_59) hr
              · show Q_al Z p1 h0 n0 _ s₁.heap _
                rw [e0]
                exact ⟨by simp [own_al, hc3_3, hc15_5, hc21_32, hc27_34, hc39_36, hc45_39], N0, rfl⟩
            · have c41 : Goes p e below s₁ (entryFrame m #[(.int p1)] 1) s₁ (mkF m 51 #[.val (.int p1)] [(.int (45 : Int32)), (.int p1)]) := by
                intro t kk
                refine c38 t ?_
                show Steps p.tables e below (s₁.setTop (mkF m 45 #[.val (.int p1)] [(.int (46 : Int32)), (.int p1)])) t
                refine XS.icmpNo X0.here hx rfl (hb hby d17_45) rfl (feq hc45_39).1 ?_
                show Steps p.tables e below (s₁.setTop (mkF m 48 #[.val (.int p1)] [])) t
                refine XS.iloadN X0.here hx rfl (hb hby d17_48) rfl ?_
                show Steps p.tables e below (s₁.setTop (mkF m 49 #[.val (.int p1)] [(.int p1)])) t
                refine XS.bipush X0.here hx rfl (hb hby d17_49) ?_
                exact kk
              by_cases hc51_42 : p1 = (45 : Int32)
              · have c43 : Goes p e below s₁ (entryFrame m #[(.int p1)] 1) s₁ (mkF m 59 #[.val (.int p1)] [(.int (1 : Int32))]) := by
                  intro t kk
                  refine c41 t ?_
                  show Steps p.tables e below (s₁.setTop (mkF m 51 #[.val (.int p1)] [(.int (45 : Int32)), (.int p1)])) t
                  refine XS.icmpNo X0.here hx rfl (hb hby d17_51) rfl (teq hc51_42).2 ?_
                  show Steps p.tables e below (s₁.setTop (mkF m 54 #[.val (.int p1)] [])) t
                  refine XS.iconst X0.here hx rfl (hb hby d17_54) ?_
                  show Steps p.tables e below (s₁.setTop (mkF m 55 #[.val (.int p1)] [(.int (1 : Int32))])) t
                  refine XS.goto X0.here hx rfl (pc0 := 55) (pc' := 59) rfl (hb hby d17_55) (by decide) (by decide) ?_
                  exact kk
                obtain ⟨fs, hr, hrun, hended, hW, hsame⟩ := X0.leave (v := some (.int (1 : Int32))) (fun h => by rw [Bd.returns] at h; cases h)
                refine ⟨_, _, c43 _ ?_, hrun, hended, _, _, rfl, ?_, ⟨_, rfl⟩, hW, hsame.mono (by decide) (by decide)⟩
                · exact retN X0 hx (t := .boolean) Bd.returns (by simp) (hb hby d17_59) hr
                · show Q_al Z p1 h0 n0 _ s₁.heap _
                  rw [e0]
                  exact ⟨by simp [own_al, hc3_3, hc15_5, hc21_32, hc27_34, hc39_36, hc45_39, hc51_42], N0, rfl⟩
              · have c44 : Goes p e below s₁ (entryFrame m #[(.int p1)] 1) s₁ (mkF m 59 #[.val (.int p1)] [(.int (0 : Int32))]) := by
                  intro t kk
                  refine c41 t ?_
                  show Steps p.tables e below (s₁.setTop (mkF m 51 #[.val (.int p1)] [(.int (45 : Int32)), (.int p1)])) t
                  refine XS.icmpYes X0.here hx rfl (pc0 := 51) (pc' := 58) rfl (hb hby d17_51) rfl (feq hc51_42).2 (by decide) (by decide) ?_
                  show Steps p.tables e below (s₁.setTop (mkF m 58 #[.val (.int p1)] [])) t
                  refine XS.iconst X0.here hx rfl (hb hby d17_58) ?_
                  exact kk
                obtain ⟨fs, hr, hrun, hended, hW, hsame⟩ := X0.leave (v := some (.int (0 : Int32))) (fun h => by rw [Bd.returns] at h; cases h)
                refine ⟨_, _, c44 _ ?_, hrun, hended, _, _, rfl, ?_, ⟨_, rfl⟩, hW, hsame.mono (by decide) (by decide)⟩
                · exact retN X0 hx (t := .boolean) Bd.returns (by simp) (hb hby d17_59) hr
                · show Q_al Z p1 h0 n0 _ s₁.heap _
                  rw [e0]
                  exact ⟨by simp [own_al, hc3_3, hc15_5, hc21_32, hc27_34, hc39_36, hc45_39, hc51_42], N0, rfl⟩
        · have c45 : Goes p e below s₁ (entryFrame m #[(.int p1)] 1) s₁ (mkF m 33 #[.val (.int p1)] [(.int (57 : Int32)), (.int p1)]) := by
            intro t kk
            refine c33 t ?_
            show Steps p.tables e below (s₁.setTop (mkF m 27 #[.val (.int p1)] [(.int (48 : Int32)), (.int p1)])) t
            refine XS.icmpNo X0.here hx rfl (hb hby d17_27) rfl (flt hc27_34).1 ?_
            show Steps p.tables e below (s₁.setTop (mkF m 30 #[.val (.int p1)] [])) t
            refine XS.iloadN X0.here hx rfl (hb hby d17_30) rfl ?_
            show Steps p.tables e below (s₁.setTop (mkF m 31 #[.val (.int p1)] [(.int p1)])) t
            refine XS.bipush X0.here hx rfl (hb hby d17_31) ?_
            exact kk
          by_cases hc33_46 : (57 : Int32) < p1
          · have c47 : Goes p e below s₁ (entryFrame m #[(.int p1)] 1) s₁ (mkF m 39 #[.val (.int p1)] [(.int (95 : Int32)), (.int p1)]) := by
              intro t kk
              refine c45 t ?_
              show Steps p.tables e below (s₁.setTop (mkF m 33 #[.val (.int p1)] [(.int (57 : Int32)), (.int p1)])) t
              refine XS.icmpNo X0.here hx rfl (hb hby d17_33) rfl (tlt hc33_46).2.2.2 ?_
              show Steps p.tables e below (s₁.setTop (mkF m 36 #[.val (.int p1)] [])) t
              refine XS.iloadN X0.here hx rfl (hb hby d17_36) rfl ?_
              show Steps p.tables e below (s₁.setTop (mkF m 37 #[.val (.int p1)] [(.int p1)])) t
              refine XS.bipush X0.here hx rfl (hb hby d17_37) ?_
              exact kk
            by_cases hc39_48 : p1 = (95 : Int32)
            · have c49 : Goes p e below s₁ (entryFrame m #[(.int p1)] 1) s₁ (mkF m 59 #[.val (.int p1)] [(.int (1 : Int32))]) := by
                intro t kk
                refine c47 t ?_
                show Steps p.tables e below (s₁.setTop (mkF m 39 #[.val (.int p1)] [(.int (95 : Int32)), (.int p1)])) t
                refine XS.icmpYes X0.here hx rfl (pc0 := 39) (pc' := 54) rfl (hb hby d17_39) rfl (teq hc39_48).1 (by decide) (by decide) ?_
                show Steps p.tables e below (s₁.setTop (mkF m 54 #[.val (.int p1)] [])) t
                refine XS.iconst X0.here hx rfl (hb hby d17_54) ?_
                show Steps p.tables e below (s₁.setTop (mkF m 55 #[.val (.int p1)] [(.int (1 : Int32))])) t
                refine XS.goto X0.here hx rfl (pc0 := 55) (pc' := 59) rfl (hb hby d17_55) (by decide) (by decide) ?_
                exact kk
              obtain ⟨fs, hr, hrun, hended, hW, hsame⟩ := X0.leave (v := some (.int (1 : Int32))) (fun h => by rw [Bd.returns] at h; cases h)
              refine ⟨_, _, c49 _ ?_, hrun, hended, _, _, rfl, ?_, ⟨_, rfl⟩, hW, hsame.mono (by decide) (by decide)⟩
              · exact retN X0 hx (t := .boolean) Bd.returns (by simp) (hb hby d17_59) hr
              · show Q_al Z p1 h0 n0 _ s₁.heap _
                rw [e0]
                exact ⟨by simp [own_al, hc3_3, hc15_5, hc21_32, hc27_34, hc33_46, hc39_48], N0, rfl⟩
            · have c50 : Goes p e below s₁ (entryFrame m #[(.int p1)] 1) s₁ (mkF m 45 #[.val (.int p1)] [(.int (46 : Int32)), (.int p1)]) := by
                intro t kk
                refine c47 t ?_
                show Steps p.tables e below (s₁.setTop (mkF m 39 #[.val (.int p1)] [(.int (95 : Int32)), (.int p1)])) t
                refine XS.icmpNo X0.here hx rfl (hb hby d17_39) rfl (feq hc39_48).1 ?_
                show Steps p.tables e below (s₁.setTop (mkF m 42 #[.val (.int p1)] [])) t
                refine XS.iloadN X0.here hx rfl (hb hby d17_42) rfl ?_
                show Steps p.tables e below (s₁.setTop (mkF m 43 #[.val (.int p1)] [(.int p1)])) t
                refine XS.bipush X0.here hx rfl (hb hby d17_43) ?_
                exact kk
              by_cases hc45_51 : p1 = (46 : Int32)
              · have c52 : Goes p e below s₁ (entryFrame m #[(.int p1)] 1) s₁ (mkF m 59 #[.val (.int p1)] [(.int (1 : Int32))]) := by
                  intro t kk
                  refine c50 t ?_
                  show Steps p.tables e below (s₁.setTop (mkF m 45 #[.val (.int p1)] [(.int (46 : Int32)), (.int p1)])) t
                  refine XS.icmpYes X0.here hx rfl (pc0 := 45) (pc' := 54) rfl (hb hby d17_45) rfl (teq hc45_51).1 (by decide) (by decide) ?_
                  show Steps p.tables e below (s₁.setTop (mkF m 54 #[.val (.int p1)] [])) t
                  refine XS.iconst X0.here hx rfl (hb hby d17_54) ?_
                  show Steps p.tables e below (s₁.setTop (mkF m 55 #[.val (.int p1)] [(.int (1 : Int32))])) t
                  refine XS.goto X0.here hx rfl (pc0 := 55) (pc' := 59) rfl (hb hby d17_55) (by decide) (by decide) ?_
                  exact kk
                obtain ⟨fs, hr, hrun, hended, hW, hsame⟩ := X0.leave (v := some (.int (1 : Int32))) (fun h => by rw [Bd.returns] at h; cases h)
                refine ⟨_, _, c52 _ ?_, hrun, hended, _, _, rfl, ?_, ⟨_, rfl⟩, hW, hsame.mono (by decide) (by decide)⟩
                · exact retN X0 hx (t := .boolean) Bd.returns (by simp) (hb hby d17_59) hr
                · show Q_al Z p1 h0 n0 _ s₁.heap _
                  rw [e0]
                  exact ⟨by simp [own_al, hc3_3, hc15_5, hc21_32, hc27_34, hc33_46, hc39_48, hc45_51], N0, rfl⟩
              · have c53 : Goes p e below s₁ (entryFrame m #[(.int p1)] 1) s₁ (mkF m 51 #[.val (.int p1)] [(.int (45 : Int32)), (.int p1)]) := by
                  intro t kk
                  refine c50 t ?_
                  show Steps p.tables e below (s₁.setTop (mkF m 45 #[.val (.int p1)] [(.int (46 : Int32)), (.int p1)])) t
                  refine XS.icmpNo X0.here hx rfl (hb hby d17_45) rfl (feq hc45_51).1 ?_
                  show Steps p.tables e below (s₁.setTop (mkF m 48 #[.val (.int p1)] [])) t
                  refine XS.iloadN X0.here hx rfl (hb hby d17_48) rfl ?_
                  show Steps p.tables e below (s₁.setTop (mkF m 49 #[.val (.int p1)] [(.int p1)])) t
                  refine XS.bipush X0.here hx rfl (hb hby d17_49) ?_
                  exact kk
                by_cases hc51_54 : p1 = (45 : Int32)
                · have c55 : Goes p e below s₁ (entryFrame m #[(.int p1)] 1) s₁ (mkF m 59 #[.val (.int p1)] [(.int (1 : Int32))]) := by
                    intro t kk
                    refine c53 t ?_
                    show Steps p.tables e below (s₁.setTop (mkF m 51 #[.val (.int p1)] [(.int (45 : Int32)), (.int p1)])) t
                    refine XS.icmpNo X0.here hx rfl (hb hby d17_51) rfl (teq hc51_54).2 ?_
                    show Steps p.tables e below (s₁.setTop (mkF m 54 #[.val (.int p1)] [])) t
                    refine XS.iconst X0.here hx rfl (hb hby d17_54) ?_
                    show Steps p.tables e below (s₁.setTop (mkF m 55 #[.val (.int p1)] [(.int (1 : Int32))])) t
                    refine XS.goto X0.here hx rfl (pc0 := 55) (pc' := 59) rfl (hb hby d17_55) (by decide) (by decide) ?_
                    exact kk
                  obtain ⟨fs, hr, hrun, hended, hW, hsame⟩ := X0.leave (v := some (.int (1 : Int32))) (fun h => by rw [Bd.returns] at h; cases h)
                  refine ⟨_, _, c55 _ ?_, hrun, hended, _, _, rfl, ?_, ⟨_, rfl⟩, hW, hsame.mono (by decide) (by decide)⟩
                  · exact retN X0 hx (t := .boolean) Bd.returns (by simp) (hb hby d17_59) hr
                  · show Q_al Z p1 h0 n0 _ s₁.heap _
                    rw [e0]
                    exact ⟨by simp [own_al, hc3_3, hc15_5, hc21_32, hc27_34, hc33_46, hc39_48, hc45_51, hc51_54], N0, rfl⟩
                · have c56 : Goes p e below s₁ (entryFrame m #[(.int p1)] 1) s₁ (mkF m 59 #[.val (.int p1)] [(.int (0 : Int32))]) := by
                    intro t kk
                    refine c53 t ?_
                    show Steps p.tables e below (s₁.setTop (mkF m 51 #[.val (.int p1)] [(.int (45 : Int32)), (.int p1)])) t
                    refine XS.icmpYes X0.here hx rfl (pc0 := 51) (pc' := 58) rfl (hb hby d17_51) rfl (feq hc51_54).2 (by decide) (by decide) ?_
                    show Steps p.tables e below (s₁.setTop (mkF m 58 #[.val (.int p1)] [])) t
                    refine XS.iconst X0.here hx rfl (hb hby d17_58) ?_
                    exact kk
                  obtain ⟨fs, hr, hrun, hended, hW, hsame⟩ := X0.leave (v := some (.int (0 : Int32))) (fun h => by rw [Bd.returns] at h; cases h)
                  refine ⟨_, _, c56 _ ?_, hrun, hended, _, _, rfl, ?_, ⟨_, rfl⟩, hW, hsame.mono (by decide) (by decide)⟩
                  · exact retN X0 hx (t := .boolean) Bd.returns (by simp) (hb hby d17_59) hr
                  · show Q_al Z p1 h0 n0 _ s₁.heap _
                    rw [e0]
                    exact ⟨by simp [own_al, hc3_3, hc15_5, hc21_32, hc27_34, hc33_46, hc39_48, hc45_51, hc51_54], N0, rfl⟩
          · have c57 : Goes p e below s₁ (entryFrame m #[(.int p1)] 1) s₁ (mkF m 59 #[.val (.int p1)] [(.int (1 : Int32))]) := by
              intro t kk
              refine c45 t ?_
              show Steps p.tables e below (s₁.setTop (mkF m 33 #[.val (.int p1)] [(.int (57 : Int32)), (.int p1)])) t
              refine XS.icmpYes X0.here hx rfl (pc0 := 33) (pc' := 54) rfl (hb hby d17_33) rfl (flt hc33_46).2.2.2 (by decide) (by decide) ?_
              show Steps p.tables e below (s₁.setTop (mkF m 54 #[.val (.int p1)] [])) t
              refine XS.iconst X0.here hx rfl (hb hby d17_54) ?_
              show Steps p.tables e below (s₁.setTop (mkF m 55 #[.val (.int p1)] [(.int (1 : Int32))])) t
              refine XS.goto X0.here hx rfl (pc0 := 55) (pc' := 59) rfl (hb hby d17_55) (by decide) (by decide) ?_
              exact kk
            obtain ⟨fs, hr, hrun, hended, hW, hsame⟩ := X0.leave (v := some (.int (1 : Int32))) (fun h => by rw [Bd.returns] at h; cases h)
            refine ⟨_, _, c57 _ ?_, hrun, hended, _, _, rfl, ?_, ⟨_, rfl⟩, hW, hsame.mono (by decide) (by decide)⟩
            · exact retN X0 hx (t := .boolean) Bd.returns (by simp) (hb hby d17_59) hr
            · show Q_al Z p1 h0 n0 _ s₁.heap _
              rw [e0]
              exact ⟨by simp [own_al, hc3_3, hc15_5, hc21_32, hc27_34, hc33_46], N0, rfl⟩
      · have c58 : Goes p e below s₁ (entryFrame m #[(.int p1)] 1) s₁ (mkF m 59 #[.val (.int p1)] [(.int (1 : Int32))]) := by
          intro t kk
          refine c31 t ?_
          show Steps p.tables e below (s₁.setTop (mkF m 21 #[.val (.int p1)] [(.int (122 : Int32)), (.int p1)])) t
          refine XS.icmpYes X0.here hx rfl (pc0 := 21) (pc' := 54) rfl (hb hby d17_21) rfl (flt hc21_32).2.2.2 (by decide) (by decide) ?_
          show Steps p.tables e below (s₁.setTop (mkF m 54 #[.val (.int p1)] [])) t
          refine XS.iconst X0.here hx rfl (hb hby d17_54) ?_
          show Steps p.tables e below (s₁.setTop (mkF m 55 #[.val (.int p1)] [(.int (1 : Int32))])) t
          refine XS.goto X0.here hx rfl (pc0 := 55) (pc' := 59) rfl (hb hby d17_55) (by decide) (by decide) ?_
          exact kk
        obtain ⟨fs, hr, hrun, hended, hW, hsame⟩ := X0.leave (v := some (.int (1 : Int32))) (fun h => by rw [Bd.returns] at h; cases h)
        refine ⟨_, _, c58 _ ?_, hrun, hended, _, _, rfl, ?_, ⟨_, rfl⟩, hW, hsame.mono (by decide) (by decide)⟩
        · exact retN X0 hx (t := .boolean) Bd.returns (by simp) (hb hby d17_59) hr
        · show Q_al Z p1 h0 n0 _ s₁.heap _
          rw [e0]
          exact ⟨by simp [own_al, hc3_3, hc15_5, hc21_32], N0, rfl⟩
  · have c59 : Goes p e below s₁ (entryFrame m #[(.int p1)] 1) s₁ (mkF m 9 #[.val (.int p1)] [(.int (90 : Int32)), (.int p1)]) := by
      intro t kk
      refine c2 t ?_
      show Steps p.tables e below (s₁.setTop (mkF m 3 #[.val (.int p1)] [(.int (65 : Int32)), (.int p1)])) t
      refine XS.icmpNo X0.here hx rfl (hb hby d17_3) rfl (flt hc3_3).1 ?_
      show Steps p.tables e below (s₁.setTop (mkF m 6 #[.val (.int p1)] [])) t
      refine XS.iloadN X0.here hx rfl (hb hby d17_6) rfl ?_
      show Steps p.tables e below (s₁.setTop (mkF m 7 #[.val (.int p1)] [(.int p1)])) t
      refine XS.bipush X0.here hx rfl (hb hby d17_7) ?_
      exact kk
    by_cases hc9_60 : (90 : Int32) < p1
    · have c61 : Goes p e below s₁ (entryFrame m #[(.int p1)] 1) s₁ (mkF m 15 #[.val (.int p1)] [(.int (97 : Int32)), (.int p1)]) := by
        intro t kk
        refine c59 t ?_
        show Steps p.tables e below (s₁.setTop (mkF m 9 #[.val (.int p1)] [(.int (90 : Int32)), (.int p1)])) t
        refine XS.icmpNo X0.here hx rfl (hb hby d17_9) rfl (tlt hc9_60).2.2.2 ?_
        show Steps p.tables e below (s₁.setTop (mkF m 12 #[.val (.int p1)] [])) t
        refine XS.iloadN X0.here hx rfl (hb hby d17_12) rfl ?_
        show Steps p.tables e below (s₁.setTop (mkF m 13 #[.val (.int p1)] [(.int p1)])) t
        refine XS.bipush X0.here hx rfl (hb hby d17_13) ?_
        exact kk
      by_cases hc15_62 : p1 < (97 : Int32)
      · have c63 : Goes p e below s₁ (entryFrame m #[(.int p1)] 1) s₁ (mkF m 27 #[.val (.int p1)] [(.int (48 : Int32)), (.int p1)]) := by
          intro t kk
          refine c61 t ?_
          show Steps p.tables e below (s₁.setTop (mkF m 15 #[.val (.int p1)] [(.int (97 : Int32)), (.int p1)])) t
          refine XS.icmpYes X0.here hx rfl (pc0 := 15) (pc' := 24) rfl (hb hby d17_15) rfl (tlt hc15_62).1 (by decide) (by decide) ?_
          show Steps p.tables e below (s₁.setTop (mkF m 24 #[.val (.int p1)] [])) t
          refine XS.iloadN X0.here hx rfl (hb hby d17_24) rfl ?_
          show Steps p.tables e below (s₁.setTop (mkF m 25 #[.val (.int p1)] [(.int p1)])) t
          refine XS.bipush X0.here hx rfl (hb hby d17_25) ?_
          exact kk
        by_cases hc27_64 : p1 < (48 : Int32)
        · have c65 : Goes p e below s₁ (entryFrame m #[(.int p1)] 1) s₁ (mkF m 39 #[.val (.int p1)] [(.int (95 : Int32)), (.int p1)]) := by
            intro t kk
            refine c63 t ?_
            show Steps p.tables e below (s₁.setTop (mkF m 27 #[.val (.int p1)] [(.int (48 : Int32)), (.int p1)])) t
            refine XS.icmpYes X0.here hx rfl (pc0 := 27) (pc' := 36) rfl (hb hby d17_27) rfl (tlt hc27_64).1 (by decide) (by decide) ?_
            show Steps p.tables e below (s₁.setTop (mkF m 36 #[.val (.int p1)] [])) t
            refine XS.iloadN X0.here hx rfl (hb hby d17_36) rfl ?_
            show Steps p.tables e below (s₁.setTop (mkF m 37 #[.val (.int p1)] [(.int p1)])) t
            refine XS.bipush X0.here hx rfl (hb hby d17_37) ?_
            exact kk
          by_cases hc39_66 : p1 = (95 : Int32)
          · have c67 : Goes p e below s₁ (entryFrame m #[(.int p1)] 1) s₁ (mkF m 59 #[.val (.int p1)] [(.int (1 : Int32))]) := by
              intro t kk
              refine c65 t ?_
              show Steps p.tables e below (s₁.setTop (mkF m 39 #[.val (.int p1)] [(.int (95 : Int32)), (.int p1)])) t
              refine XS.icmpYes X0.here hx rfl (pc0 := 39) (pc' := 54) rfl (hb hby d17_39) rfl (teq hc39_66).1 (by decide) (by decide) ?_
              show Steps p.tables e below (s₁.setTop (mkF m 54 #[.val (.int p1)] [])) t
              refine XS.iconst X0.here hx rfl (hb hby d17_54) ?_
              show Steps p.tables e below (s₁.setTop (mkF m 55 #[.val (.int p1)] [(.int (1 : Int32))])) t
              refine XS.goto X0.here hx rfl (pc0 := 55) (pc' := 59) rfl (hb hby d17_55) (by decide) (by decide) ?_
              exact kk
            obtain ⟨fs, hr, hrun, hended, hW, hsame⟩ := X0.leave (v := some (.int (1 : Int32))) (fun h => by rw [Bd.returns] at h; cases h)
            refine ⟨_, _, c67 _ ?_, hrun, hended, _, _, rfl, ?_, ⟨_, rfl⟩, hW, hsame.mono (by decide) (by decide)⟩
            · exact retN X0 hx (t := .boolean) Bd.returns (by simp) (hb hby d17_59) hr
            · show Q_al Z p1 h0 n0 _ s₁.heap _
              rw [e0]
              exact ⟨by simp [own_al, hc3_3, hc9_60, hc15_62, hc27_64, hc39_66], N0, rfl⟩
          · have c68 : Goes p e below s₁ (entryFrame m #[(.int p1)] 1) s₁ (mkF m 45 #[.val (.int p1)] [(.int (46 : Int32)), (.int p1)]) := by
              intro t kk
              refine c65 t ?_
              show Steps p.tables e below (s₁.setTop (mkF m 39 #[.val (.int p1)] [(.int (95 : Int32)), (.int p1)])) t
              refine XS.icmpNo X0.here hx rfl (hb hby d17_39) rfl (feq hc39_66).1 ?_
              show Steps p.tables e below (s₁.setTop (mkF m 42 #[.val (.int p1)] [])) t
              refine XS.iloadN X0.here hx rfl (hb hby d17_42) rfl ?_
              show Steps p.tables e below (s₁.setTop (mkF m 43 #[.val (.int p1)] [(.int p1)])) t
              refine XS.bipush X0.here hx rfl (hb hby d17_43) ?_
              exact kk
            by_cases hc45_69 : p1 = (46 : Int32)
            · have c70 : Goes p e below s₁ (entryFrame m #[(.int p1)] 1) s₁ (mkF m 59 #[.val (.int p1)] [(.int (1 : Int32))]) := by
                intro t kk
                refine c68 t ?_
                show Steps p.tables e below (s₁.setTop (mkF m 45 #[.val (.int p1)] [(.int (46 : Int32)), (.int p1)])) t
                refine XS.icmpYes X0.here hx rfl (pc0 := 45) (pc' := 54) rfl (hb hby d17_45) rfl (teq hc45_69).1 (by decide) (by decide) ?_
                show Steps p.tables e below (s₁.setTop (mkF m 54 #[.val (.int p1)] [])) t
                refine XS.iconst X0.here hx rfl (hb hby d17_54) ?_
                show Steps p.tables e below (s₁.setTop (mkF m 55 #[.val (.int p1)] [(.int (1 : Int32))])) t
                refine XS.goto X0.here hx rfl (pc0 := 55) (pc' := 59) rfl (hb hby d17_55) (by decide) (by decide) ?_
                exact kk
              obtain ⟨fs, hr, hrun, hended, hW, hsame⟩ := X0.leave (v := some (.int (1 : Int32))) (fun h => by rw [Bd.returns] at h; cases h)
              refine ⟨_, _, c70 _ ?_, hrun, hended, _, _, rfl, ?_, ⟨_, rfl⟩, hW, hsame.mono (by decide) (by decide)⟩
              · exact retN X0 hx (t := .boolean) Bd.returns (by simp) (hb hby d17_59) hr
              · show Q_al Z p1 h0 n0 _ s₁.heap _
                rw [e0]
                exact ⟨by simp [own_al, hc3_3, hc9_60, hc15_62, hc27_64, hc39_66, hc45_69], N0, rfl⟩
            · have c71 : Goes p e below s₁ (entryFrame m #[(.int p1)] 1) s₁ (mkF m 51 #[.val (.int p1)] [(.int (45 : Int32)), (.int p1)]) := by
                intro t kk
                refine c68 t ?_
                show Steps p.tables e below (s₁.setTop (mkF m 45 #[.val (.int p1)] [(.int (46 : Int32)), (.int p1)])) t
                refine XS.icmpNo X0.here hx rfl (hb hby d17_45) rfl (feq hc45_69).1 ?_
                show Steps p.tables e below (s₁.setTop (mkF m 48 #[.val (.int p1)] [])) t
                refine XS.iloadN X0.here hx rfl (hb hby d17_48) rfl ?_
                show Steps p.tables e below (s₁.setTop (mkF m 49 #[.val (.int p1)] [(.int p1)])) t
                refine XS.bipush X0.here hx rfl (hb hby d17_49) ?_
                exact kk
              by_cases hc51_72 : p1 = (45 : Int32)
              · have c73 : Goes p e below s₁ (entryFrame m #[(.int p1)] 1) s₁ (mkF m 59 #[.val (.int p1)] [(.int (1 : Int32))]) := by
                  intro t kk
                  refine c71 t ?_
                  show Steps p.tables e below (s₁.setTop (mkF m 51 #[.val (.int p1)] [(.int (45 : Int32)), (.int p1)])) t
                  refine XS.icmpNo X0.here hx rfl (hb hby d17_51) rfl (teq hc51_72).2 ?_
                  show Steps p.tables e below (s₁.setTop (mkF m 54 #[.val (.int p1)] [])) t
                  refine XS.iconst X0.here hx rfl (hb hby d17_54) ?_
                  show Steps p.tables e below (s₁.setTop (mkF m 55 #[.val (.int p1)] [(.int (1 : Int32))])) t
                  refine XS.goto X0.here hx rfl (pc0 := 55) (pc' := 59) rfl (hb hby d17_55) (by decide) (by decide) ?_
                  exact kk
                obtain ⟨fs, hr, hrun, hended, hW, hsame⟩ := X0.leave (v := some (.int (1 : Int32))) (fun h => by rw [Bd.returns] at h; cases h)
                refine ⟨_, _, c73 _ ?_, hrun, hended, _, _, rfl, ?_, ⟨_, rfl⟩, hW, hsame.mono (by decide) (by decide)⟩
                · exact retN X0 hx (t := .boolean) Bd.returns (by simp) (hb hby d17_59) hr
                · show Q_al Z p1 h0 n0 _ s₁.heap _
                  rw [e0]
                  exact ⟨by simp [own_al, hc3_3, hc9_60, hc15_62, hc27_64, hc39_66, hc45_69, hc51_72], N0, rfl⟩
              · have c74 : Goes p e below s₁ (entryFrame m #[(.int p1)] 1) s₁ (mkF m 59 #[.val (.int p1)] [(.int (0 : Int32))]) := by
                  intro t kk
                  refine c71 t ?_
                  show Steps p.tables e below (s₁.setTop (mkF m 51 #[.val (.int p1)] [(.int (45 : Int32)), (.int p1)])) t
                  refine XS.icmpYes X0.here hx rfl (pc0 := 51) (pc' := 58) rfl (hb hby d17_51) rfl (feq hc51_72).2 (by decide) (by decide) ?_
                  show Steps p.tables e below (s₁.setTop (mkF m 58 #[.val (.int p1)] [])) t
                  refine XS.iconst X0.here hx rfl (hb hby d17_58) ?_
                  exact kk
                obtain ⟨fs, hr, hrun, hended, hW, hsame⟩ := X0.leave (v := some (.int (0 : Int32))) (fun h => by rw [Bd.returns] at h; cases h)
                refine ⟨_, _, c74 _ ?_, hrun, hended, _, _, rfl, ?_, ⟨_, rfl⟩, hW, hsame.mono (by decide) (by decide)⟩
                · exact retN X0 hx (t := .boolean) Bd.returns (by simp) (hb hby d17_59) hr
                · show Q_al Z p1 h0 n0 _ s₁.heap _
                  rw [e0]
                  exact ⟨by simp [own_al, hc3_3, hc9_60, hc15_62, hc27_64, hc39_66, hc45_69, hc51_72], N0, rfl⟩
        · have c75 : Goes p e below s₁ (entryFrame m #[(.int p1)] 1) s₁ (mkF m 33 #[.val (.int p1)] [(.int (57 : Int32)), (.int p1)]) := by
            intro t kk
            refine c63 t ?_
            show Steps p.tables e below (s₁.setTop (mkF m 27 #[.val (.int p1)] [(.int (48 : Int32)), (.int p1)])) t
            refine XS.icmpNo X0.here hx rfl (hb hby d17_27) rfl (flt hc27_64).1 ?_
            show Steps p.tables e below (s₁.setTop (mkF m 30 #[.val (.int p1)] [])) t
            refine XS.iloadN X0.here hx rfl (hb hby d17_30) rfl ?_
            show Steps p.tables e below (s₁.setTop (mkF m 31 #[.val (.int p1)] [(.int p1)])) t
            refine XS.bipush X0.here hx rfl (hb hby d17_31) ?_
            exact kk
          by_cases hc33_76 : (57 : Int32) < p1
          · have c77 : Goes p e below s₁ (entryFrame m #[(.int p1)] 1) s₁ (mkF m 39 #[.val (.int p1)] [(.int (95 : Int32)), (.int p1)]) := by
              intro t kk
              refine c75 t ?_
              show Steps p.tables e below (s₁.setTop (mkF m 33 #[.val (.int p1)] [(.int (57 : Int32)), (.int p1)])) t
              refine XS.icmpNo X0.here hx rfl (hb hby d17_33) rfl (tlt hc33_76).2.2.2 ?_
              show Steps p.tables e below (s₁.setTop (mkF m 36 #[.val (.int p1)] [])) t
              refine XS.iloadN X0.here hx rfl (hb hby d17_36) rfl ?_
              show Steps p.tables e below (s₁.setTop (mkF m 37 #[.val (.int p1)] [(.int p1)])) t
              refine XS.bipush X0.here hx rfl (hb hby d17_37) ?_
              exact kk
            by_cases hc39_78 : p1 = (95 : Int32)
            · have c79 : Goes p e below s₁ (entryFrame m #[(.int p1)] 1) s₁ (mkF m 59 #[.val (.int p1)] [(.int (1 : Int32))]) := by
                intro t kk
                refine c77 t ?_
                show Steps p.tables e below (s₁.setTop (mkF m 39 #[.val (.int p1)] [(.int (95 : Int32)), (.int p1)])) t
                refine XS.icmpYes X0.here hx rfl (pc0 := 39) (pc' := 54) rfl (hb hby d17_39) rfl (teq hc39_78).1 (by decide) (by decide) ?_
                show Steps p.tables e below (s₁.setTop (mkF m 54 #[.val (.int p1)] [])) t
                refine XS.iconst X0.here hx rfl (hb hby d17_54) ?_
                show Steps p.tables e below (s₁.setTop (mkF m 55 #[.val (.int p1)] [(.int (1 : Int32))])) t
                refine XS.goto X0.here hx rfl (pc0 := 55) (pc' := 59) rfl (hb hby d17_55) (by decide) (by decide) ?_
                exact kk
              obtain ⟨fs, hr, hrun, hended, hW, hsame⟩ := X0.leave (v := some (.int (1 : Int32))) (fun h => by rw [Bd.returns] at h; cases h)
              refine ⟨_, _, c79 _ ?_, hrun, hended, _, _, rfl, ?_, ⟨_, rfl⟩, hW, hsame.mono (by decide) (by decide)⟩
              · exact retN X0 hx (t := .boolean) Bd.returns (by simp) (hb hby d17_59) hr
              · show Q_al Z p1 h0 n0 _ s₁.heap _
                rw [e0]
                exact ⟨by simp [own_al, hc3_3, hc9_60, hc15_62, hc27_64, hc33_76, hc39_78], N0, rfl⟩
            · have c80 : Goes p e below s₁ (entryFrame m #[(.int p1)] 1) s₁ (mkF m 45 #[.val (.int p1)] [(.int (46 : Int32)), (.int p1)]) := by
                intro t kk
                refine c77 t ?_
                show Steps p.tables e below (s₁.setTop (mkF m 39 #[.val (.int p1)] [(.int (95 : Int32)), (.int p1)])) t
                refine XS.icmpNo X0.here hx rfl (hb hby d17_39) rfl (feq hc39_78).1 ?_
                show Steps p.tables e below (s₁.setTop (mkF m 42 #[.val (.int p1)] [])) t
                refine XS.iloadN X0.here hx rfl (hb hby d17_42) rfl ?_
                show Steps p.tables e below (s₁.setTop (mkF m 43 #[.val (.int p1)] [(.int p1)])) t
                refine XS.bipush X0.here hx rfl (hb hby d17_43) ?_
                exact kk
              by_cases hc45_81 : p1 = (46 : Int32)
              · have c82 : Goes p e below s₁ (entryFrame m #[(.int p1)] 1) s₁ (mkF m 59 #[.val (.int p1)] [(.int (1 : Int32))]) := by
                  intro t kk
                  refine c80 t ?_
                  show Steps p.tables e below (s₁.setTop (mkF m 45 #[.val (.int p1)] [(.int (46 : Int32)), (.int p1)])) t
                  refine XS.icmpYes X0.here hx rfl (pc0 := 45) (pc' := 54) rfl (hb hby d17_45) rfl (teq hc45_81).1 (by decide) (by decide) ?_
                  show Steps p.tables e below (s₁.setTop (mkF m 54 #[.val (.int p1)] [])) t
                  refine XS.iconst X0.here hx rfl (hb hby d17_54) ?_
                  show Steps p.tables e below (s₁.setTop (mkF m 55 #[.val (.int p1)] [(.int (1 : Int32))])) t
                  refine XS.goto X0.here hx rfl (pc0 := 55) (pc' := 59) rfl (hb hby d17_55) (by decide) (by decide) ?_
                  exact kk
                obtain ⟨fs, hr, hrun, hended, hW, hsame⟩ := X0.leave (v := some (.int (1 : Int32))) (fun h => by rw [Bd.returns] at h; cases h)
                refine ⟨_, _, c82 _ ?_, hrun, hended, _, _, rfl, ?_, ⟨_, rfl⟩, hW, hsame.mono (by decide) (by decide)⟩
                · exact retN X0 hx (t := .boolean) Bd.returns (by simp) (hb hby d17_59) hr
                · show Q_al Z p1 h0 n0 _ s₁.heap _
                  rw [e0]
                  exact ⟨by simp [own_al, hc3_3, hc9_60, hc15_62, hc27_64, hc33_76, hc39_78, hc45_81], N0, rfl⟩
              · have c83 : Goes p e below s₁ (entryFrame m #[(.int p1)] 1) s₁ (mkF m 51 #[.val (.int p1)] [(.int (45 : Int32)), (.int p1)]) := by
                  intro t kk
                  refine c80 t ?_
                  show Steps p.tables e below (s₁.setTop (mkF m 45 #[.val (.int p1)] [(.int (46 : Int32)), (.int p1)])) t
                  refine XS.icmpNo X0.here hx rfl (hb hby d17_45) rfl (feq hc45_81).1 ?_
                  show Steps p.tables e below (s₁.setTop (mkF m 48 #[.val (.int p1)] [])) t
                  refine XS.iloadN X0.here hx rfl (hb hby d17_48) rfl ?_
                  show Steps p.tables e below (s₁.setTop (mkF m 49 #[.val (.int p1)] [(.int p1)])) t
                  refine XS.bipush X0.here hx rfl (hb hby d17_49) ?_
                  exact kk
                by_cases hc51_84 : p1 = (45 : Int32)
                · have c85 : Goes p e below s₁ (entryFrame m #[(.int p1)] 1) s₁ (mkF m 59 #[.val (.int p1)] [(.int (1 : Int32))]) := by
                    intro t kk
                    refine c83 t ?_
                    show Steps p.tables e below (s₁.setTop (mkF m 51 #[.val (.int p1)] [(.int (45 : Int32)), (.int p1)])) t
                    refine XS.icmpNo X0.here hx rfl (hb hby d17_51) rfl (teq hc51_84).2 ?_
                    show Steps p.tables e below (s₁.setTop (mkF m 54 #[.val (.int p1)] [])) t
                    refine XS.iconst X0.here hx rfl (hb hby d17_54) ?_
                    show Steps p.tables e below (s₁.setTop (mkF m 55 #[.val (.int p1)] [(.int (1 : Int32))])) t
                    refine XS.goto X0.here hx rfl (pc0 := 55) (pc' := 59) rfl (hb hby d17_55) (by decide) (by decide) ?_
                    exact kk
                  obtain ⟨fs, hr, hrun, hended, hW, hsame⟩ := X0.leave (v := some (.int (1 : Int32))) (fun h => by rw [Bd.returns] at h; cases h)
                  refine ⟨_, _, c85 _ ?_, hrun, hended, _, _, rfl, ?_, ⟨_, rfl⟩, hW, hsame.mono (by decide) (by decide)⟩
                  · exact retN X0 hx (t := .boolean) Bd.returns (by simp) (hb hby d17_59) hr
                  · show Q_al Z p1 h0 n0 _ s₁.heap _
                    rw [e0]
                    exact ⟨by simp [own_al, hc3_3, hc9_60, hc15_62, hc27_64, hc33_76, hc39_78, hc45_81, hc51_84], N0, rfl⟩
                · have c86 : Goes p e below s₁ (entryFrame m #[(.int p1)] 1) s₁ (mkF m 59 #[.val (.int p1)] [(.int (0 : Int32))]) := by
                    intro t kk
                    refine c83 t ?_
                    show Steps p.tables e below (s₁.setTop (mkF m 51 #[.val (.int p1)] [(.int (45 : Int32)), (.int p1)])) t
                    refine XS.icmpYes X0.here hx rfl (pc0 := 51) (pc' := 58) rfl (hb hby d17_51) rfl (feq hc51_84).2 (by decide) (by decide) ?_
                    show Steps p.tables e below (s₁.setTop (mkF m 58 #[.val (.int p1)] [])) t
                    refine XS.iconst X0.here hx rfl (hb hby d17_58) ?_
                    exact kk
                  obtain ⟨fs, hr, hrun, hended, hW, hsame⟩ := X0.leave (v := some (.int (0 : Int32))) (fun h => by rw [Bd.returns] at h; cases h)
                  refine ⟨_, _, c86 _ ?_, hrun, hended, _, _, rfl, ?_, ⟨_, rfl⟩, hW, hsame.mono (by decide) (by decide)⟩
                  · exact retN X0 hx (t := .boolean) Bd.returns (by simp) (hb hby d17_59) hr
                  · show Q_al Z p1 h0 n0 _ s₁.heap _
                    rw [e0]
                    exact ⟨by simp [own_al, hc3_3, hc9_60, hc15_62, hc27_64, hc33_76, hc39_78, hc45_81, hc51_84], N0, rfl⟩
          · have c87 : Goes p e below s₁ (entryFrame m #[(.int p1)] 1) s₁ (mkF m 59 #[.val (.int p1)] [(.int (1 : Int32))]) := by
              intro t kk
              refine c75 t ?_
              show Steps p.tables e below (s₁.setTop (mkF m 33 #[.val (.int p1)] [(.int (57 : Int32)), (.int p1)])) t
              refine XS.icmpYes X0.here hx rfl (pc0 := 33) (pc' := 54) rfl (hb hby d17_33) rfl (flt hc33_76).2.2.2 (by decide) (by decide) ?_
              show Steps p.tables e below (s₁.setTop (mkF m 54 #[.val (.int p1)] [])) t
              refine XS.iconst X0.here hx rfl (hb hby d17_54) ?_
              show Steps p.tables e below (s₁.setTop (mkF m 55 #[.val (.int p1)] [(.int (1 : Int32))])) t
              refine XS.goto X0.here hx rfl (pc0 := 55) (pc' := 59) rfl (hb hby d17_55) (by decide) (by decide) ?_
              exact kk
            obtain ⟨fs, hr, hrun, hended, hW, hsame⟩ := X0.leave (v := some (.int (1 : Int32))) (fun h => by rw [Bd.returns] at h; cases h)
            refine ⟨_, _, c87 _ ?_, hrun, hended, _, _, rfl, ?_, ⟨_, rfl⟩, hW, hsame.mono (by decide) (by decide)⟩
            · exact retN X0 hx (t := .boolean) Bd.returns (by simp) (hb hby d17_59) hr
            · show Q_al Z p1 h0 n0 _ s₁.heap _
              rw [e0]
              exact ⟨by simp [own_al, hc3_3, hc9_60, hc15_62, hc27_64, hc33_76], N0, rfl⟩
      · have c88 : Goes p e below s₁ (entryFrame m #[(.int p1)] 1) s₁ (mkF m 21 #[.val (.int p1)] [(.int (122 : Int32)), (.int p1)]) := by
          intro t kk
          refine c61 t ?_
          show Steps p.tables e below (s₁.setTop (mkF m 15 #[.val (.int p1)] [(.int (97 : Int32)), (.int p1)])) t
          refine XS.icmpNo X0.here hx rfl (hb hby d17_15) rfl (flt hc15_62).1 ?_
          show Steps p.tables e below (s₁.setTop (mkF m 18 #[.val (.int p1)] [])) t
          refine XS.iloadN X0.here hx rfl (hb hby d17_18) rfl ?_
          show Steps p.tables e below (s₁.setTop (mkF m 19 #[.val (.int p1)] [(.int p1)])) t
          refine XS.bipush X0.here hx rfl (hb hby d17_19) ?_
          exact kk
        by_cases hc21_89 : (122 : Int32) < p1
        · have c90 : Goes p e below s₁ (entryFrame m #[(.int p1)] 1) s₁ (mkF m 27 #[.val (.int p1)] [(.int (48 : Int32)), (.int p1)]) := by
            intro t kk
            refine c88 t ?_
            show Steps p.tables e below (s₁.setTop (mkF m 21 #[.val (.int p1)] [(.int (122 : Int32)), (.int p1)])) t
            refine XS.icmpNo X0.here hx rfl (hb hby d17_21) rfl (tlt hc21_89).2.2.2 ?_
            show Steps p.tables e below (s₁.setTop (mkF m 24 #[.val (.int p1)] [])) t
            refine XS.iloadN X0.here hx rfl (hb hby d17_24) rfl ?_
            show Steps p.tables e below (s₁.setTop (mkF m 25 #[.val (.int p1)] [(.int p1)])) t
            refine XS.bipush X0.here hx rfl (hb hby d17_25) ?_
            exact kk
          by_cases hc27_91 : p1 < (48 : Int32)
          · have c92 : Goes p e below s₁ (entryFrame m #[(.int p1)] 1) s₁ (mkF m 39 #[.val (.int p1)] [(.int (95 : Int32)), (.int p1)]) := by
              intro t kk
              refine c90 t ?_
              show Steps p.tables e below (s₁.setTop (mkF m 27 #[.val (.int p1)] [(.int (48 : Int32)), (.int p1)])) t
              refine XS.icmpYes X0.here hx rfl (pc0 := 27) (pc' := 36) rfl (hb hby d17_27) rfl (tlt hc27_91).1 (by decide) (by decide) ?_
              show Steps p.tables e below (s₁.setTop (mkF m 36 #[.val (.int p1)] [])) t
              refine XS.iloadN X0.here hx rfl (hb hby d17_36) rfl ?_
              show Steps p.tables e below (s₁.setTop (mkF m 37 #[.val (.int p1)] [(.int p1)])) t
              refine XS.bipush X0.here hx rfl (hb hby d17_37) ?_
              exact kk
            by_cases hc39_93 : p1 = (95 : Int32)
            · have c94 : Goes p e below s₁ (entryFrame m #[(.int p1)] 1) s₁ (mkF m 59 #[.val (.int p1)] [(.int (1 : Int32))]) := by
                intro t kk
                refine c92 t ?_
                show Steps p.tables e below (s₁.setTop (mkF m 39 #[.val (.int p1)] [(.int (95 : Int32)), (.int p1)])) t
                refine XS.icmpYes X0.here hx rfl (pc0 := 39) (pc' := 54) rfl (hb hby d17_39) rfl (teq hc39_93).1 (by decide) (by decide) ?_
                show Steps p.tables e below (s₁.setTop (mkF m 54 #[.val (.int p1)] [])) t
                refine XS.iconst X0.here hx rfl (hb hby d17_54) ?_
                show Steps p.tables e below (s₁.setTop (mkF m 55 #[.val (.int p1)] [(.int (1 : Int32))])) t
                refine XS.goto X0.here hx rfl (pc0 := 55) (pc' := 59) rfl (hb hby d17_55) (by decide) (by decide) ?_
                exact kk
              obtain ⟨fs, hr, hrun, hended, hW, hsame⟩ := X0.leave (v := some (.int (1 : Int32))) (fun h => by rw [Bd.returns] at h; cases h)
              refine ⟨_, _, c94 _ ?_, hrun, hended, _, _, rfl, ?_, ⟨_, rfl⟩, hW, hsame.mono (by decide) (by decide)⟩
              · exact retN X0 hx (t := .boolean) Bd.returns (by simp) (hb hby d17_59) hr
              · show Q_al Z p1 h0 n0 _ s₁.heap _
                rw [e0]
                exact ⟨by simp [own_al, hc3_3, hc9_60, hc15_62, hc21_89, hc27_91, hc39_93], N0, rfl⟩
            · have c95 : Goes p e below s₁ (entryFrame m #[(.int p1)] 1) s₁ (mkF m 45 #[.val (.int p1)] [(.int (46 : Int32)), (.int p1)]) := by
                intro t kk
                refine c92 t ?_
                show Steps p.tables e below (s₁.setTop (mkF m 39 #[.val (.int p1)] [(.int (95 : Int32)), (.int p1)])) t
                refine XS.icmpNo X0.here hx rfl (hb hby d17_39) rfl (feq hc39_93).1 ?_
                show Steps p.tables e below (s₁.setTop (mkF m 42 #[.val (.int p1)] [])) t
                refine XS.iloadN X0.here hx rfl (hb hby d17_42) rfl ?_
                show Steps p.tables e below (s₁.setTop (mkF m 43 #[.val (.int p1)] [(.int p1)])) t
                refine XS.bipush X0.here hx rfl (hb hby d17_43) ?_
                exact kk
              by_cases hc45_96 : p1 = (46 : Int32)
              · have c97 : Goes p e below s₁ (entryFrame m #[(.int p1)] 1) s₁ (mkF m 59 #[.val (.int p1)] [(.int (1 : Int32))]) := by
                  intro t kk
                  refine c95 t ?_
                  show Steps p.tables e below (s₁.setTop (mkF m 45 #[.val (.int p1)] [(.int (46 : Int32)), (.int p1)])) t
                  refine XS.icmpYes X0.here hx rfl (pc0 := 45) (pc' := 54) rfl (hb hby d17_45) rfl (teq hc45_96).1 (by decide) (by decide) ?_
                  show Steps p.tables e below (s₁.setTop (mkF m 54 #[.val (.int p1)] [])) t
                  refine XS.iconst X0.here hx rfl (hb hby d17_54) ?_
                  show Steps p.tables e below (s₁.setTop (mkF m 55 #[.val (.int p1)] [(.int (1 : Int32))])) t
                  refine XS.goto X0.here hx rfl (pc0 := 55) (pc' := 59) rfl (hb hby d17_55) (by decide) (by decide) ?_
                  exact kk
                obtain ⟨fs, hr, hrun, hended, hW, hsame⟩ := X0.leave (v := some (.int (1 : Int32))) (fun h => by rw [Bd.returns] at h; cases h)
                refine ⟨_, _, c97 _ ?_, hrun, hended, _, _, rfl, ?_, ⟨_, rfl⟩, hW, hsame.mono (by decide) (by decide)⟩
                · exact retN X0 hx (t := .boolean) Bd.returns (by simp) (hb hby d17_59) hr
                · show Q_al Z p1 h0 n0 _ s₁.heap _
                  rw [e0]
                  exact ⟨by simp [own_al, hc3_3, hc9_60, hc15_62, hc21_89, hc27_91, hc39_93, hc45_96], N0, rfl⟩
              · have c98 : Goes p e below s₁ (entryFrame m #[(.int p1)] 1) s₁ (mkF m 51 #[.val (.int p1)] [(.int (45 : Int32)), (.int p1)]) := by
                  intro t kk
                  refine c95 t ?_
                  show Steps p.tables e below (s₁.setTop (mkF m 45 #[.val (.int p1)] [(.int (46 : Int32)), (.int p1)])) t
                  refine XS.icmpNo X0.here hx rfl (hb hby d17_45) rfl (feq hc45_96).1 ?_
                  show Steps p.tables e below (s₁.setTop (mkF m 48 #[.val (.int p1)] [])) t
                  refine XS.iloadN X0.here hx rfl (hb hby d17_48) rfl ?_
                  show Steps p.tables e below (s₁.setTop (mkF m 49 #[.val (.int p1)] [(.int p1)])) t
                  refine XS.bipush X0.here hx rfl (hb hby d17_49) ?_
                  exact kk
                by_cases hc51_99 : p1 = (45 : Int32)
                · have c100 : Goes p e below s₁ (entryFrame m #[(.int p1)] 1) s₁ (mkF m 59 #[.val (.int p1)] [(.int (1 : Int32))]) := by
                    intro t kk
                    refine c98 t ?_
                    show Steps p.tables e below (s₁.setTop (mkF m 51 #[.val (.int p1)] [(.int (45 : Int32)), (.int p1)])) t
                    refine XS.icmpNo X0.here hx rfl (hb hby d17_51) rfl (teq hc51_99).2 ?_
                    show Steps p.tables e below (s₁.setTop (mkF m 54 #[.val (.int p1)] [])) t
                    refine XS.iconst X0.here hx rfl (hb hby d17_54) ?_
                    show Steps p.tables e below (s₁.setTop (mkF m 55 #[.val (.int p1)] [(.int (1 : Int32))])) t
                    refine XS.goto X0.here hx rfl (pc0 := 55) (pc' := 59) rfl (hb hby d17_55) (by decide) (by decide) ?_
                    exact kk
                  obtain ⟨fs, hr, hrun, hended, hW, hsame⟩ := X0.leave (v := some (.int (1 : Int32))) (fun h => by rw [Bd.returns] at h; cases h)
                  refine ⟨_, _, c100 _ ?_, hrun, hended, _, _, rfl, ?_, ⟨_, rfl⟩, hW, hsame.mono (by decide) (by decide)⟩
                  · exact retN X0 hx (t := .boolean) Bd.returns (by simp) (hb hby d17_59) hr
                  · show Q_al Z p1 h0 n0 _ s₁.heap _
                    rw [e0]
                    exact ⟨by simp [own_al, hc3_3, hc9_60, hc15_62, hc21_89, hc27_91, hc39_93, hc45_96, hc51_99], N0, rfl⟩
                · have c101 : Goes p e below s₁ (entryFrame m #[(.int p1)] 1) s₁ (mkF m 59 #[.val (.int p1)] [(.int (0 : Int32))]) := by
                    intro t kk
                    refine c98 t ?_
                    show Steps p.tables e below (s₁.setTop (mkF m 51 #[.val (.int p1)] [(.int (45 : Int32)), (.int p1)])) t
                    refine XS.icmpYes X0.here hx rfl (pc0 := 51) (pc' := 58) rfl (hb hby d17_51) rfl (feq hc51_99).2 (by decide) (by decide) ?_
                    show Steps p.tables e below (s₁.setTop (mkF m 58 #[.val (.int p1)] [])) t
                    refine XS.iconst X0.here hx rfl (hb hby d17_58) ?_
                    exact kk
                  obtain ⟨fs, hr, hrun, hended, hW, hsame⟩ := X0.leave (v := some (.int (0 : Int32))) (fun h => by rw [Bd.returns] at h; cases h)
                  refine ⟨_, _, c101 _ ?_, hrun, hended, _, _, rfl, ?_, ⟨_, rfl⟩, hW, hsame.mono (by decide) (by decide)⟩
                  · exact retN X0 hx (t := .boolean) Bd.returns (by simp) (hb hby d17_59) hr
                  · show Q_al Z p1 h0 n0 _ s₁.heap _
                    rw [e0]
                    exact ⟨by simp [own_al, hc3_3, hc9_60, hc15_62, hc21_89, hc27_91, hc39_93, hc45_96, hc51_99], N0, rfl⟩
          · have c102 : Goes p e below s₁ (entryFrame m #[(.int p1)] 1) s₁ (mkF m 33 #[.val (.int p1)] [(.int (57 : Int32)), (.int p1)]) := by
              intro t kk
              refine c90 t ?_
              show Steps p.tables e below (s₁.setTop (mkF m 27 #[.val (.int p1)] [(.int (48 : Int32)), (.int p1)])) t
              refine XS.icmpNo X0.here hx rfl (hb hby d17_27) rfl (flt hc27_91).1 ?_
              show Steps p.tables e below (s₁.setTop (mkF m 30 #[.val (.int p1)] [])) t
              refine XS.iloadN X0.here hx rfl (hb hby d17_30) rfl ?_
              show Steps p.tables e below (s₁.setTop (mkF m 31 #[.val (.int p1)] [(.int p1)])) t
              refine XS.bipush X0.here hx rfl (hb hby d17_31) ?_
              exact kk
            by_cases hc33_103 : (57 : Int32) < p1
            · have c104 : Goes p e below s₁ (entryFrame m #[(.int p1)] 1) s₁ (mkF m 39 #[.val (.int p1)] [(.int (95 : Int32)), (.int p1)]) := by
                intro t kk
                refine c102 t ?_
                show Steps p.tables e below (s₁.setTop (mkF m 33 #[.val (.int p1)] [(.int (57 : Int32)), (.int p1)])) t
                refine XS.icmpNo X0.here hx rfl (hb hby d17_33) rfl (tlt hc33_103).2.2.2 ?_
                show Steps p.tables e below (s₁.setTop (mkF m 36 #[.val (.int p1)] [])) t
                refine XS.iloadN X0.here hx rfl (hb hby d17_36) rfl ?_
                show Steps p.tables e below (s₁.setTop (mkF m 37 #[.val (.int p1)] [(.int p1)])) t
                refine XS.bipush X0.here hx rfl (hb hby d17_37) ?_
                exact kk
              by_cases hc39_105 : p1 = (95 : Int32)
              · have c106 : Goes p e below s₁ (entryFrame m #[(.int p1)] 1) s₁ (mkF m 59 #[.val (.int p1)] [(.int (1 : Int32))]) := by
                  intro t kk
                  refine c104 t ?_
                  show Steps p.tables e below (s₁.setTop (mkF m 39 #[.val (.int p1)] [(.int (95 : Int32)), (.int p1)])) t
                  refine XS.icmpYes X0.here hx rfl (pc0 := 39) (pc' := 54) rfl (hb hby d17_39) rfl (teq hc39_105).1 (by decide) (by decide) ?_
                  show Steps p.tables e below (s₁.setTop (mkF m 54 #[.val (.int p1)] [])) t
                  refine XS.iconst X0.here hx rfl (hb hby d17_54) ?_
                  show Steps p.tables e below (s₁.setTop (mkF m 55 #[.val (.int p1)] [(.int (1 : Int32))])) t
                  refine XS.goto X0.here hx rfl (pc0 := 55) (pc' := 59) rfl (hb hby d17_55) (by decide) (by decide) ?_
                  exact kk
                obtain ⟨fs, hr, hrun, hended, hW, hsame⟩ := X0.leave (v := some (.int (1 : Int32))) (fun h => by rw [Bd.returns] at h; cases h)
                refine ⟨_, _, c106 _ ?_, hrun, hended, _, _, rfl, ?_, ⟨_, rfl⟩, hW, hsame.mono (by decide) (by decide)⟩
                · exact retN X0 hx (t := .boolean) Bd.returns (by simp) (hb hby d17_59) hr
                · show Q_al Z p1 h0 n0 _ s₁.heap _
                  rw [e0]
                  exact ⟨by simp [own_al, hc3_3, hc9_60, hc15_62, hc21_89, hc27_91, hc33_103, hc39_105], N0, rfl⟩
              · have c107 : Goes p e below s₁ (entryFrame m #[(.int p1)] 1) s₁ (mkF m 45 #[.val (.int p1)] [(.int (46 : Int32)), (.int p1)]) := by
                  intro t kk
                  refine c104 t ?_
                  show Steps p.tables e below (s₁.setTop (mkF m 39 #[.val (.int p1)] [(.int (95 : Int32)), (.int p1)])) t
                  refine XS.icmpNo X0.here hx rfl (hb hby d17_39) rfl (feq hc39_105).1 ?_
                  show Steps p.tables e below (s₁.setTop (mkF m 42 #[.val (.int p1)] [])) t
                  refine XS.iloadN X0.here hx rfl (hb hby d17_42) rfl ?_
                  show Steps p.tables e below (s₁.setTop (mkF m 43 #[.val (.int p1)] [(.int p1)])) t
                  refine XS.bipush X0.here hx rfl (hb hby d17_43) ?_
                  exact kk
                by_cases hc45_108 : p1 = (46 : Int32)
                · have c109 : Goes p e below s₁ (entryFrame m #[(.int p1)] 1) s₁ (mkF m 59 #[.val (.int p1)] [(.int (1 : Int32))]) := by
                    intro t kk
                    refine c107 t ?_
                    show Steps p.tables e below (s₁.setTop (mkF m 45 #[.val (.int p1)] [(.int (46 : Int32)), (.int p1)])) t
                    refine XS.icmpYes X0.here hx rfl (pc0 := 45) (pc' := 54) rfl (hb hby d17_45) rfl (teq hc45_108).1 (by decide) (by decide) ?_
                    show Steps p.tables e below (s₁.setTop (mkF m 54 #[.val (.int p1)] [])) t
                    refine XS.iconst X0.here hx rfl (hb hby d17_54) ?_
                    show Steps p.tables e below (s₁.setTop (mkF m 55 #[.val (.int p1)] [(.int (1 : Int32))])) t
                    refine XS.goto X0.here hx rfl (pc0 := 55) (pc' := 59) rfl (hb hby d17_55) (by decide) (by decide) ?_
                    exact kk
                  obtain ⟨fs, hr, hrun, hended, hW, hsame⟩ := X0.leave (v := some (.int (1 : Int32))) (fun h => by rw [Bd.returns] at h; cases h)
                  refine ⟨_, _, c109 _ ?_, hrun, hended, _, _, rfl, ?_, ⟨_, rfl⟩, hW, hsame.mono (by decide) (by decide)⟩
                  · exact retN X0 hx (t := .boolean) Bd.returns (by simp) (hb hby d17_59) hr
                  · show Q_al Z p1 h0 n0 _ s₁.heap _
                    rw [e0]
                    exact ⟨by simp [own_al, hc3_3, hc9_60, hc15_62, hc21_89, hc27_91, hc33_103, hc39_105, hc45_108], N0, rfl⟩
                · have c110 : Goes p e below s₁ (entryFrame m #[(.int p1)] 1) s₁ (mkF m 51 #[.val (.int p1)] [(.int (45 : Int32)), (.int p1)]) := by
                    intro t kk
                    refine c107 t ?_
                    show Steps p.tables e below (s₁.setTop (mkF m 45 #[.val (.int p1)] [(.int (46 : Int32)), (.int p1)])) t
                    refine XS.icmpNo X0.here hx rfl (hb hby d17_45) rfl (feq hc45_108).1 ?_
                    show Steps p.tables e below (s₁.setTop (mkF m 48 #[.val (.int p1)] [])) t
                    refine XS.iloadN X0.here hx rfl (hb hby d17_48) rfl ?_
                    show Steps p.tables e below (s₁.setTop (mkF m 49 #[.val (.int p1)] [(.int p1)])) t
                    refine XS.bipush X0.here hx rfl (hb hby d17_49) ?_
                    exact kk
                  by_cases hc51_111 : p1 = (45 : Int32)
                  · have c112 : Goes p e below s₁ (entryFrame m #[(.int p1)] 1) s₁ (mkF m 59 #[.val (.int p1)] [(.int (1 : Int32))]) := by
                      intro t kk
                      refine c110 t ?_
                      show Steps p.tables e below (s₁.setTop (mkF m 51 #[.val (.int p1)] [(.int (45 : Int32)), (.int p1)])) t
                      refine XS.icmpNo X0.here hx rfl (hb hby d17_51) rfl (teq hc51_111).2 ?_
                      show Steps p.tables e below (s₁.setTop (mkF m 54 #[.val (.int p1)] [])) t
                      refine XS.iconst X0.here hx rfl (hb hby d17_54) ?_
                      show Steps p.tables e below (s₁.setTop (mkF m 55 #[.val (.int p1)] [(.int (1 : Int32))])) t
                      refine XS.goto X0.here hx rfl (pc0 := 55) (pc' := 59) rfl (hb hby d17_55) (by decide) (by decide) ?_
                      exact kk
                    obtain ⟨fs, hr, hrun, hended, hW, hsame⟩ := X0.leave (v := some (.int (1 : Int32))) (fun h => by rw [Bd.returns] at h; cases h)
                    refine ⟨_, _, c112 _ ?_, hrun, hended, _, _, rfl, ?_, ⟨_, rfl⟩, hW, hsame.mono (by decide) (by decide)⟩
                    · exact retN X0 hx (t := .boolean) Bd.returns (by simp) (hb hby d17_59) hr
                    · show Q_al Z p1 h0 n0 _ s₁.heap _
                      rw [e0]
                      exact ⟨by simp [own_al, hc3_3, hc9_60, hc15_62, hc21_89, hc27_91, hc33_103, hc39_105, hc45_108, hc51_111], N0, rfl⟩
                  · have c113 : Goes p e below s₁ (entryFrame m #[(.int p1)] 1) s₁ (mkF m 59 #[.val (.int p1)] [(.int (0 : Int32))]) := by
                      intro t kk
                      refine c110 t ?_
                      show Steps p.tables e below (s₁.setTop (mkF m 51 #[.val (.int p1)] [(.int (45 : Int32)), (.int p1)])) t
                      refine XS.icmpYes X0.here hx rfl (pc0 := 51) (pc' := 58) rfl (hb hby d17_51) rfl (feq hc51_111).2 (by decide) (by decide) ?_
                      show Steps p.tables e below (s₁.setTop (mkF m 58 #[.val (.int p1)] [])) t
                      refine XS.iconst X0.here hx rfl (hb hby d17_58) ?_
                      exact kk
                    obtain ⟨fs, hr, hrun, hended, hW, hsame⟩ := X0.leave (v := some (.int (0 : Int32))) (fun h => by rw [Bd.returns] at h; cases h)
                    refine ⟨_, _, c113 _ ?_, hrun, hended, _, _, rfl, ?_, ⟨_, rfl⟩, hW, hsame.mono (by decide) (by decide)⟩
                    · exact retN X0 hx (t := .boolean) Bd.returns (by simp) (hb hby d17_59) hr
                    · show Q_al Z p1 h0 n0 _ s₁.heap _
                      rw [e0]
                      exact ⟨by simp [own_al, hc3_3, hc9_60, hc15_62, hc21_89, hc27_91, hc33_103, hc39_105, hc45_108, hc51_111], N0, rfl⟩
            · have c114 : Goes p e below s₁ (entryFrame m #[(.int p1)] 1) s₁ (mkF m 59 #[.val (.int p1)] [(.int (1 : Int32))]) := by
                intro t kk
                refine c102 t ?_
                show Steps p.tables e below (s₁.setTop (mkF m 33 #[.val (.int p1)] [(.int (57 : Int32)), (.int p1)])) t
                refine XS.icmpYes X0.here hx rfl (pc0 := 33) (pc' := 54) rfl (hb hby d17_33) rfl (flt hc33_103).2.2.2 (by decide) (by decide) ?_
                show Steps p.tables e below (s₁.setTop (mkF m 54 #[.val (.int p1)] [])) t
                refine XS.iconst X0.here hx rfl (hb hby d17_54) ?_
                show Steps p.tables e below (s₁.setTop (mkF m 55 #[.val (.int p1)] [(.int (1 : Int32))])) t
                refine XS.goto X0.here hx rfl (pc0 := 55) (pc' := 59) rfl (hb hby d17_55) (by decide) (by decide) ?_
                exact kk
              obtain ⟨fs, hr, hrun, hended, hW, hsame⟩ := X0.leave (v := some (.int (1 : Int32))) (fun h => by rw [Bd.returns] at h; cases h)
              refine ⟨_, _, c114 _ ?_, hrun, hended, _, _, rfl, ?_, ⟨_, rfl⟩, hW, hsame.mono (by decide) (by decide)⟩
              · exact retN X0 hx (t := .boolean) Bd.returns (by simp) (hb hby d17_59) hr
              · show Q_al Z p1 h0 n0 _ s₁.heap _
                rw [e0]
                exact ⟨by simp [own_al, hc3_3, hc9_60, hc15_62, hc21_89, hc27_91, hc33_103], N0, rfl⟩
        · have c115 : Goes p e below s₁ (entryFrame m #[(.int p1)] 1) s₁ (mkF m 59 #[.val (.int p1)] [(.int (1 : Int32))]) := by
            intro t kk
            refine c88 t ?_
            show Steps p.tables e below (s₁.setTop (mkF m 21 #[.val (.int p1)] [(.int (122 : Int32)), (.int p1)])) t
            refine XS.icmpYes X0.here hx rfl (pc0 := 21) (pc' := 54) rfl (hb hby d17_21) rfl (flt hc21_89).2.2.2 (by decide) (by decide) ?_
            show Steps p.tables e below (s₁.setTop (mkF m 54 #[.val (.int p1)] [])) t
            refine XS.iconst X0.here hx rfl (hb hby d17_54) ?_
            show Steps p.tables e below (s₁.setTop (mkF m 55 #[.val (.int p1)] [(.int (1 : Int32))])) t
            refine XS.goto X0.here hx rfl (pc0 := 55) (pc' := 59) rfl (hb hby d17_55) (by decide) (by decide) ?_
            exact kk
          obtain ⟨fs, hr, hrun, hended, hW, hsame⟩ := X0.leave (v := some (.int (1 : Int32))) (fun h => by rw [Bd.returns] at h; cases h)
          refine ⟨_, _, c115 _ ?_, hrun, hended, _, _, rfl, ?_, ⟨_, rfl⟩, hW, hsame.mono (by decide) (by decide)⟩
          · exact retN X0 hx (t := .boolean) Bd.returns (by simp) (hb hby d17_59) hr
          · show Q_al Z p1 h0 n0 _ s₁.heap _
            rw [e0]
            exact ⟨by simp [own_al, hc3_3, hc9_60, hc15_62, hc21_89], N0, rfl⟩
    · have c116 : Goes p e below s₁ (entryFrame m #[(.int p1)] 1) s₁ (mkF m 59 #[.val (.int p1)] [(.int (1 : Int32))]) := by
        intro t kk
        refine c59 t ?_
        show Steps p.tables e below (s₁.setTop (mkF m 9 #[.val (.int p1)] [(.int (90 : Int32)), (.int p1)])) t
        refine XS.icmpYes X0.here hx rfl (pc0 := 9) (pc' := 54) rfl (hb hby d17_9) rfl (flt hc9_60).2.2.2 (by decide) (by decide) ?_
        show Steps p.tables e below (s₁.setTop (mkF m 54 #[.val (.int p1)] [])) t
        refine XS.iconst X0.here hx rfl (hb hby d17_54) ?_
        show Steps p.tables e below (s₁.setTop (mkF m 55 #[.val (.int p1)] [(.int (1 : Int32))])) t
        refine XS.goto X0.here hx rfl (pc0 := 55) (pc' := 59) rfl (hb hby d17_55) (by decide) (by decide) ?_
        exact kk
      obtain ⟨fs, hr, hrun, hended, hW, hsame⟩ := X0.leave (v := some (.int (1 : Int32))) (fun h => by rw [Bd.returns] at h; cases h)
      refine ⟨_, _, c116 _ ?_, hrun, hended, _, _, rfl, ?_, ⟨_, rfl⟩, hW, hsame.mono (by decide) (by decide)⟩
      · exact retN X0 hx (t := .boolean) Bd.returns (by simp) (hb hby d17_59) hr
      · show Q_al Z p1 h0 n0 _ s₁.heap _
        rw [e0]
        exact ⟨by simp [own_al, hc3_3, hc9_60], N0, rfl⟩
theorem d1_0 : decode method_2_code 0 = .ok (.iload_n 0, 1) := by decide +kernel
theorem d1_1 : decode method_2_code 1 = .ok (.ldc 7, 2) := by decide +kernel
theorem d1_3 : decode method_2_code 3 = .ok (.iand, 1) := by decide +kernel
theorem d1_4 : decode method_2_code 4 = .ok (.bipush 65, 2) := by decide +kernel
theorem d1_6 : decode method_2_code 6 = .ok (.irem, 1) := by decide +kernel
theorem d1_7 : decode method_2_code 7 = .ok (.istore_n 1, 1) := by decide +kernel
theorem d1_8 : decode method_2_code 8 = .ok (.iload_n 1, 1) := by decide +kernel
theorem d1_9 : decode method_2_code 9 = .ok (.bipush 26, 2) := by decide +kernel
theorem d1_11 : decode method_2_code 11 = .ok (.if_icmp .ge 9, 3) := by decide +kernel
theorem d1_14 : decode method_2_code 14 = .ok (.bipush 65, 2) := by decide +kernel
theorem d1_16 : decode method_2_code 16 = .ok (.iload_n 1, 1) := by decide +kernel
theorem d1_17 : decode method_2_code 17 = .ok (.iadd, 1) := by decide +kernel
theorem d1_18 : decode method_2_code 18 = .ok (.i2c, 1) := by decide +kernel
theorem d1_19 : decode method_2_code 19 = .ok (.ireturn, 1) := by decide +kernel
theorem d1_20 : decode method_2_code 20 = .ok (.iload_n 1, 1) := by decide +kernel
theorem d1_21 : decode method_2_code 21 = .ok (.bipush 52, 2) := by decide +kernel
theorem d1_23 : decode method_2_code 23 = .ok (.if_icmp .ge 12, 3) := by decide +kernel
theorem d1_26 : decode method_2_code 26 = .ok (.bipush 97, 2) := by decide +kernel
theorem d1_28 : decode method_2_code 28 = .ok (.iload_n 1, 1) := by decide +kernel
theorem d1_29 : decode method_2_code 29 = .ok (.bipush 26, 2) := by decide +kernel
theorem d1_31 : decode method_2_code 31 = .ok (.isub, 1) := by decide +kernel
theorem d1_32 : decode method_2_code 32 = .ok (.iadd, 1) := by decide +kernel
theorem d1_33 : decode method_2_code 33 = .ok (.i2c, 1) := by decide +kernel
theorem d1_34 : decode method_2_code 34 = .ok (.ireturn, 1) := by decide +kernel
theorem d1_35 : decode method_2_code 35 = .ok (.iload_n 1, 1) := by decide +kernel
theorem d1_36 : decode method_2_code 36 = .ok (.bipush 62, 2) := by decide +kernel
theorem d1_38 : decode method_2_code 38 = .ok (.if_icmp .ge 12, 3) := by decide +kernel
theorem d1_41 : decode method_2_code 41 = .ok (.bipush 48, 2) := by decide +kernel
theorem d1_43 : decode method_2_code 43 = .ok (.iload_n 1, 1) := by decide +kernel
theorem d1_44 : decode method_2_code 44 = .ok (.bipush 52, 2) := by decide +kernel
theorem d1_46 : decode method_2_code 46 = .ok (.isub, 1) := by decide +kernel
theorem d1_47 : decode method_2_code 47 = .ok (.iadd, 1) := by decide +kernel
theorem d1_48 : decode method_2_code 48 = .ok (.i2c, 1) := by decide +kernel
theorem d1_49 : decode method_2_code 49 = .ok (.ireturn, 1) := by decide +kernel
theorem d1_50 : decode method_2_code 50 = .ok (.iload_n 1, 1) := by decide +kernel
theorem d1_51 : decode method_2_code 51 = .ok (.bipush 62, 2) := by decide +kernel
theorem d1_53 : decode method_2_code 53 = .ok (.if_icmp .ne 6, 3) := by decide +kernel
theorem d1_56 : decode method_2_code 56 = .ok (.bipush 95, 2) := by decide +kernel
theorem d1_58 : decode method_2_code 58 = .ok (.ireturn, 1) := by decide +kernel
theorem d1_59 : decode method_2_code 59 = .ok (.iload_n 1, 1) := by decide +kernel
theorem d1_60 : decode method_2_code 60 = .ok (.bipush 63, 2) := by decide +kernel
theorem d1_62 : decode method_2_code 62 = .ok (.if_icmp .ne 6, 3) := by decide +kernel
theorem d1_65 : decode method_2_code 65 = .ok (.bipush 46, 2) := by decide +kernel
theorem d1_67 : decode method_2_code 67 = .ok (.ireturn, 1) := by decide +kernel
theorem d1_68 : decode method_2_code 68 = .ok (.bipush 45, 2) := by decide +kernel
theorem d1_70 : decode method_2_code 70 = .ok (.ireturn, 1) := by decide +kernel
theorem pn_1 : plainName "com/example/sequence_dispenser/sequencedispenser/core/SequenceNameOfPinLaw" = true := by first | (simp [plainName, overriddenIn]; done) | decide +kernel
theorem ef_pick (m : MethodId) (x0 : Int32) : entryFrame m #[(.int x0)] 2 = mkF m 0 #[.val (.int x0), .unset] [] := by (first | (simp [entryFrame, mkF, argsToLocals, Value.category]; done) | rfl)
def Q_pick (Z : State) (p1 : Int32) (h0 : Heap) (n0 : Nat) (v : Option Value) (h : Heap) (L : List Loc) : Prop := v = some (.int (own_pick p1)) ∧ Fr n0 L ∧ h = h0
set_option maxRecDepth 65536 in
set_option maxHeartbeats 40000000 in
theorem rm_pick (l : Launch) (Z : State) (a0 : Array Value) (hw : ∀ d ∈ tables_1, d.before a0 Z = true) (ws : List Jvm.Cond) (p1 : Int32) (h0 : Heap) (n0 : Nat) (Z0 : n0 ≤ h0.size)  :
    MetFree l (⟨"com/example/sequence_dispenser/sequencedispenser/core/SequenceNameOfPinLaw", "pick", "(I)C"⟩ : MethodName) (head1 (Jvm.Cond.code (⟨"com/example/sequence_dispenser/sequencedispenser/core/SequenceNameOfPinLaw", "pick", "(I)C"⟩ : MethodName) method_2_code 2 (some .char) :: ws) ({ frames := 0, cells := 0, slots := 0, locals := 0 } : Room)) (fun a U => a = #[(.int p1)] ∧ Z.Warmed39 U.vm ∧ U.heap = h0) (fun _ _ _ _ _ => True) (fun _ U o U' => ∃ v L, o = .returned v ∧ Q_pick Z p1 h0 n0 v U'.heap L ∧ FrameEnd U o U' L ({ frames := 0, cells := 0, slots := 0, locals := 0 } : Room).cells ({ frames := 0, cells := 0, slots := 0, locals := 0 } : Room).slots) := by
  refine MetFree.of_bodySF (plainFor_of_name pn_1) hisR ?_
  intro p e s m args below meth c s₁ Bd hml0 hP hK
  obtain ⟨rfl, hZ, hh⟩ := hP
  have hx := Bd.exec
  have hby := Bd.bytes
  have hml : c.maxLocals = 2 := hml0
  have hown : s.vm.findClass "com/example/sequence_dispenser/sequencedispenser/core/SequenceNameOfPinLaw" = some m.cls := findClass_of_methodNamed Bd.named
  have hnm := (name_of_methodNamed Bd.named Bd.method).1
  have X0 : Stand p l e ({ frames := 0, cells := 0, slots := 0, locals := 0 } : Room) s m #[(.int p1)] below meth c s₁ [] 0 0 := Stand.of_body Bd
  have e0 : s₁.heap = h0 := by rw [← hh, Bd.state]; rfl
  have N0 := Fr.nil n0
  have c0 : Goes p e below s₁ (entryFrame m #[(.int p1)] 2) s₁ (mkF m 0 #[.val (.int p1), .unset] []) := fun t k => castTop (ef_pick m p1) k
  have c117 : Goes p e below s₁ (entryFrame m #[(.int p1)] 2) s₁ (mkF m 11 #[.val (.int p1), .val (.int ((p1 &&& (2147483647 : Int32)) % (65 : Int32)))] [(.int (26 : Int32)), (.int ((p1 &&& (2147483647 : Int32)) % (65 : Int32)))]) := by
    intro t kk
    refine c0 t ?_
    show Steps p.tables e below (s₁.setTop (mkF m 0 #[.val (.int p1), .unset] [])) t
    refine XS.iloadN X0.here hx rfl (hb hby d1_0) rfl ?_
    show Steps p.tables e below (s₁.setTop (mkF m 1 #[.val (.int p1), .unset] [(.int p1)])) t
    refine X0.ldcInt hx hown (mvT hZ (hw _ (List.mem_of_getElem? (i := 4) rfl))) (g := (mkF m 1 #[.val (.int p1), .unset] [(.int p1)])) rfl (hb hby d1_1) _ ?_
    show Steps p.tables e below (s₁.setTop (mkF m 3 #[.val (.int p1), .unset] [(.int (2147483647 : Int32)), (.int p1)])) t
    refine XS.iand X0.here hx rfl (hb hby d1_3) rfl ?_
    show Steps p.tables e below (s₁.setTop (mkF m 4 #[.val (.int p1), .unset] [(.int (p1 &&& (2147483647 : Int32)))])) t
    refine XS.bipush X0.here hx rfl (hb hby d1_4) ?_
    show Steps p.tables e below (s₁.setTop (mkF m 6 #[.val (.int p1), .unset] [(.int (65 : Int32)), (.int (p1 &&& (2147483647 : Int32)))])) t
    refine iremM X0 hx rfl (hb hby d1_6) rfl (by decide) ?_
    show Steps p.tables e below (s₁.setTop (mkF m 7 #[.val (.int p1), .unset] [(.int ((p1 &&& (2147483647 : Int32)) % (65 : Int32)))])) t
    refine XS.istoreN X0.here hx rfl (hb hby d1_7) rfl (l' := #[.val (.int p1), .val (.int ((p1 &&& (2147483647 : Int32)) % (65 : Int32)))]) rfl ?_
    show Steps p.tables e below (s₁.setTop (mkF m 8 #[.val (.int p1), .val (.int ((p1 &&& (2147483647 : Int32)) % (65 : Int32)))] [])) t
    refine XS.iloadN X0.here hx rfl (hb hby d1_8) rfl ?_
    show Steps p.tables e below (s₁.setTop (mkF m 9 #[.val (.int p1), .val (.int ((p1 &&& (2147483647 : Int32)) % (65 : Int32)))] [(.int ((p1 &&& (2147483647 : Int32)) % (65 : Int32)))])) t
    refine XS.bipush X0.here hx rfl (hb hby d1_9) ?_
    exact kk
  by_cases hc11_118 : ((p1 &&& (2147483647 : Int32)) % (65 : Int32)) < (26 : Int32)
  · have c119 : Goes p e below s₁ (entryFrame m #[(.int p1)] 2) s₁ (mkF m 19 #[.val (.int p1), .val (.int ((p1 &&& (2147483647 : Int32)) % (65 : Int32)))] [(.int (((65 : Int32) + ((p1 &&& (2147483647 : Int32)) % (65 : Int32))).toUInt32.toUInt16.toUInt32.toInt32))]) := by
      intro t kk
      refine c117 t ?_
      show Steps p.tables e below (s₁.setTop (mkF m 11 #[.val (.int p1), .val (.int ((p1 &&& (2147483647 : Int32)) % (65 : Int32)))] [(.int (26 : Int32)), (.int ((p1 &&& (2147483647 : Int32)) % (65 : Int32)))])) t
      refine XS.icmpNo X0.here hx rfl (hb hby d1_11) rfl (tlt hc11_118).2.1 ?_
      show Steps p.tables e below (s₁.setTop (mkF m 14 #[.val (.int p1), .val (.int ((p1 &&& (2147483647 : Int32)) % (65 : Int32)))] [])) t
      refine XS.bipush X0.here hx rfl (hb hby d1_14) ?_
      show Steps p.tables e below (s₁.setTop (mkF m 16 #[.val (.int p1), .val (.int ((p1 &&& (2147483647 : Int32)) % (65 : Int32)))] [(.int (65 : Int32))])) t
      refine XS.iloadN X0.here hx rfl (hb hby d1_16) rfl ?_
      show Steps p.tables e below (s₁.setTop (mkF m 17 #[.val (.int p1), .val (.int ((p1 &&& (2147483647 : Int32)) % (65 : Int32)))] [(.int ((p1 &&& (2147483647 : Int32)) % (65 : Int32))), (.int (65 : Int32))])) t
      refine XS.iadd X0.here hx rfl (hb hby d1_17) rfl ?_
      show Steps p.tables e below (s₁.setTop (mkF m 18 #[.val (.int p1), .val (.int ((p1 &&& (2147483647 : Int32)) % (65 : Int32)))] [(.int ((65 : Int32) + ((p1 &&& (2147483647 : Int32)) % (65 : Int32))))])) t
      refine XS.i2c X0.here hx rfl (hb hby d1_18) rfl ?_
      exact kk
    obtain ⟨fs, hr, hrun, hended, hW, hsame⟩ := X0.leave (v := some (.int (nar .char (((65 : Int32) + ((p1 &&& (2147483647 : Int32)) % (65 : Int32))).toUInt32.toUInt16.toUInt32.toInt32)))) (fun h => by rw [Bd.returns] at h; cases h)
    refine ⟨_, _, c119 _ ?_, hrun, hended, _, _, rfl, ?_, ⟨_, rfl⟩, hW, hsame.mono (by decide) (by decide)⟩
    · exact retN X0 hx (t := .char) Bd.returns (by simp) (hb hby d1_19) hr
    · show Q_pick Z p1 h0 n0 _ s₁.heap _
      rw [e0]
      exact ⟨by first | (simp only [own_pick, own_pk, hc11_118, if_true, if_false]; done) | (simp only [own_pick, own_pk, hc11_118, if_true, if_false]; rfl), N0, rfl⟩
  · have c120 : Goes p e below s₁ (entryFrame m #[(.int p1)] 2) s₁ (mkF m 23 #[.val (.int p1), .val (.int ((p1 &&& (2147483647 : Int32)) % (65 : Int32)))] [(.int (52 : Int32)), (.int ((p1 &&& (2147483647 : Int32)) % (65 : Int32)))]) := by
      intro t kk
      refine c117 t ?_
      show Steps p.tables e below (s₁.setTop (mkF m 11 #[.val (.int p1), .val (.int ((p1 &&& (2147483647 : Int32)) % (65 : Int32)))] [(.int (26 : Int32)), (.int ((p1 &&& (2147483647 : Int32)) % (65 : Int32)))])) t
      refine XS.icmpYes X0.here hx rfl (pc0 := 11) (pc' := 20) rfl (hb hby d1_11) rfl (flt hc11_118).2.1 (by decide) (by decide) ?_
      show Steps p.tables e below (s₁.setTop (mkF m 20 #[.val (.int p1), .val (.int ((p1 &&& (2147483647 : Int32)) % (65 : Int32)))] [])) t
      refine XS.iloadN X0.here hx rfl (hb hby d1_20) rfl ?_
      show Steps p.tables e below (s₁.setTop (mkF m 21 #[.val (.int p1), .val (.int ((p1 &&& (2147483647 : Int32)) % (65 : Int32)))] [(.int ((p1 &&& (2147483647 : Int32)) % (65 : Int32)))])) t
      refine XS.bipush X0.here hx rfl (hb hby d1_21) ?_
      exact kk
    by_cases hc23_121 : ((p1 &&& (2147483647 : Int32)) % (65 : Int32)) < (52 : Int32)
    · have c122 : Goes p e below s₁ (entryFrame m #[(.int p1)] 2) s₁ (mkF m 34 #[.val (.int p1), .val (.int ((p1 &&& (2147483647 : Int32)) % (65 : Int32)))] [(.int (((97 : Int32) + (((p1 &&& (2147483647 : Int32)) % (65 : Int32)) - (26 : Int32))).toUInt32.toUInt16.toUInt32.toInt32))]) := by
        intro t kk
        refine c120 t ?_
        show Steps p.tables e below (s₁.setTop (mkF m 23 #[.val (.int p1), .val (.int ((p1 &&& (2147483647 : Int32)) % (65 : Int32)))] [(.int (52 : Int32)), (.int ((p1 &&& (2147483647 : Int32)) % (65 : Int32)))])) t
        refine XS.icmpNo X0.here hx rfl (hb hby d1_23) rfl (tlt hc23_121).2.1 ?_
        show Steps p.tables e below (s₁.setTop (mkF m 26 #[.val (.int p1), .val (.int ((p1 &&& (2147483647 : Int32)) % (65 : Int32)))] [])) t
        refine XS.bipush X0.here hx rfl (hb hby d1_26) ?_
        show Steps p.tables e below (s₁.setTop (mkF m 28 #[.val (.int p1), .val (.int ((p1 &&& (2147483647 : Int32)) % (65 : Int32)))] [(.int (97 : Int32))])) t
        refine XS.iloadN X0.here hx rfl (hb hby d1_28) rfl ?_
        show Steps p.tables e below (s₁.setTop (mkF m 29 #[.val (.int p1), .val (.int ((p1 &&& (2147483647 : Int32)) % (65 : Int32)))] [(.int ((p1 &&& (2147483647 : Int32)) % (65 : Int32))), (.int (97 : Int32))])) t
        refine XS.bipush X0.here hx rfl (hb hby d1_29) ?_
        show Steps p.tables e below (s₁.setTop (mkF m 31 #[.val (.int p1), .val (.int ((p1 &&& (2147483647 : Int32)) % (65 : Int32)))] [(.int (26 : Int32)), (.int ((p1 &&& (2147483647 : Int32)) % (65 : Int32))), (.int (97 : Int32))])) t
        refine XS.isub X0.here hx rfl (hb hby d1_31) rfl ?_
        show Steps p.tables e below (s₁.setTop (mkF m 32 #[.val (.int p1), .val (.int ((p1 &&& (2147483647 : Int32)) % (65 : Int32)))] [(.int (((p1 &&& (2147483647 : Int32)) % (65 : Int32)) - (26 : Int32))), (.int (97 : Int32))])) t
        refine XS.iadd X0.here hx rfl (hb hby d1_32) rfl ?_
        show Steps p.tables e below (s₁.setTop (mkF m 33 #[.val (.int p1), .val (.int ((p1 &&& (2147483647 : Int32)) % (65 : Int32)))] [(.int ((97 : Int32) + (((p1 &&& (2147483647 : Int32)) % (65 : Int32)) - (26 : Int32))))])) t
        refine XS.i2c X0.here hx rfl (hb hby d1_33) rfl ?_
        exact kk
      obtain ⟨fs, hr, hrun, hended, hW, hsame⟩ := X0.leave (v := some (.int (nar .char (((97 : Int32) + (((p1 &&& (2147483647 : Int32)) % (65 : Int32)) - (26 : Int32))).toUInt32.toUInt16.toUInt32.toInt32)))) (fun h => by rw [Bd.returns] at h; cases h)
      refine ⟨_, _, c122 _ ?_, hrun, hended, _, _, rfl, ?_, ⟨_, rfl⟩, hW, hsame.mono (by decide) (by decide)⟩
      · exact retN X0 hx (t := .char) Bd.returns (by simp) (hb hby d1_34) hr
      · show Q_pick Z p1 h0 n0 _ s₁.heap _
        rw [e0]
        exact ⟨by first | (simp only [own_pick, own_pk, hc11_118, hc23_121, if_true, if_false]; done) | (simp only [own_pick, own_pk, hc11_118, hc23_121, if_true, if_false]; rfl), N0, rfl⟩
    · have c123 : Goes p e below s₁ (entryFrame m #[(.int p1)] 2) s₁ (mkF m 38 #[.val (.int p1), .val (.int ((p1 &&& (2147483647 : Int32)) % (65 : Int32)))] [(.int (62 : Int32)), (.int ((p1 &&& (2147483647 : Int32)) % (65 : Int32)))]) := by
        intro t kk
        refine c120 t ?_
        show Steps p.tables e below (s₁.setTop (mkF m 23 #[.val (.int p1), .val (.int ((p1 &&& (2147483647 : Int32)) % (65 : Int32)))] [(.int (52 : Int32)), (.int ((p1 &&& (2147483647 : Int32)) % (65 : Int32)))])) t
        refine XS.icmpYes X0.here hx rfl (pc0 := 23) (pc' := 35) rfl (hb hby d1_23) rfl (flt hc23_121).2.1 (by decide) (by decide) ?_
        show Steps p.tables e below (s₁.setTop (mkF m 35 #[.val (.int p1), .val (.int ((p1 &&& (2147483647 : Int32)) % (65 : Int32)))] [])) t
        refine XS.iloadN X0.here hx rfl (hb hby d1_35) rfl ?_
        show Steps p.tables e below (s₁.setTop (mkF m 36 #[.val (.int p1), .val (.int ((p1 &&& (2147483647 : Int32)) % (65 : Int32)))] [(.int ((p1 &&& (2147483647 : Int32)) % (65 : Int32)))])) t
        refine XS.bipush X0.here hx rfl (hb hby d1_36) ?_
        exact kk
      by_cases hc38_124 : ((p1 &&& (2147483647 : Int32)) % (65 : Int32)) < (62 : Int32)
      · have c125 : Goes p e below s₁ (entryFrame m #[(.int p1)] 2) s₁ (mkF m 49 #[.val (.int p1), .val (.int ((p1 &&& (2147483647 : Int32)) % (65 : Int32)))] [(.int (((48 : Int32) + (((p1 &&& (2147483647 : Int32)) % (65 : Int32)) - (52 : Int32))).toUInt32.toUInt16.toUInt32.toInt32))]) := by
          intro t kk
          refine c123 t ?_
          show Steps p.tables e below (s₁.setTop (mkF m 38 #[.val (.int p1), .val (.int ((p1 &&& (2147483647 : Int32)) % (65 : Int32)))] [(.int (62 : Int32)), (.int ((p1 &&& (2147483647 : Int32)) % (65 : Int32)))])) t
          refine XS.icmpNo X0.here hx rfl (hb hby d1_38) rfl (tlt hc38_124).2.1 ?_
          show Steps p.tables e below (s₁.setTop (mkF m 41 #[.val (.int p1), .val (.int ((p1 &&& (2147483647 : Int32)) % (65 : Int32)))] [])) t
          refine XS.bipush X0.here hx rfl (hb hby d1_41) ?_
          show Steps p.tables e below (s₁.setTop (mkF m 43 #[.val (.int p1), .val (.int ((p1 &&& (2147483647 : Int32)) % (65 : Int32)))] [(.int (48 : Int32))])) t
          refine XS.iloadN X0.here hx rfl (hb hby d1_43) rfl ?_
          show Steps p.tables e below (s₁.setTop (mkF m 44 #[.val (.int p1), .val (.int ((p1 &&& (2147483647 : Int32)) % (65 : Int32)))] [(.int ((p1 &&& (2147483647 : Int32)) % (65 : Int32))), (.int (48 : Int32))])) t
          refine XS.bipush X0.here hx rfl (hb hby d1_44) ?_
          show Steps p.tables e below (s₁.setTop (mkF m 46 #[.val (.int p1), .val (.int ((p1 &&& (2147483647 : Int32)) % (65 : Int32)))] [(.int (52 : Int32)), (.int ((p1 &&& (2147483647 : Int32)) % (65 : Int32))), (.int (48 : Int32))])) t
          refine XS.isub X0.here hx rfl (hb hby d1_46) rfl ?_
          show Steps p.tables e below (s₁.setTop (mkF m 47 #[.val (.int p1), .val (.int ((p1 &&& (2147483647 : Int32)) % (65 : Int32)))] [(.int (((p1 &&& (2147483647 : Int32)) % (65 : Int32)) - (52 : Int32))), (.int (48 : Int32))])) t
          refine XS.iadd X0.here hx rfl (hb hby d1_47) rfl ?_
          show Steps p.tables e below (s₁.setTop (mkF m 48 #[.val (.int p1), .val (.int ((p1 &&& (2147483647 : Int32)) % (65 : Int32)))] [(.int ((48 : Int32) + (((p1 &&& (2147483647 : Int32)) % (65 : Int32)) - (52 : Int32))))])) t
          refine XS.i2c X0.here hx rfl (hb hby d1_48) rfl ?_
          exact kk
        obtain ⟨fs, hr, hrun, hended, hW, hsame⟩ := X0.leave (v := some (.int (nar .char (((48 : Int32) + (((p1 &&& (2147483647 : Int32)) % (65 : Int32)) - (52 : Int32))).toUInt32.toUInt16.toUInt32.toInt32)))) (fun h => by rw [Bd.returns] at h; cases h)
        refine ⟨_, _, c125 _ ?_, hrun, hended, _, _, rfl, ?_, ⟨_, rfl⟩, hW, hsame.mono (by decide) (by decide)⟩
        · exact retN X0 hx (t := .char) Bd.returns (by simp) (hb hby d1_49) hr
        · show Q_pick Z p1 h0 n0 _ s₁.heap _
          rw [e0]
          exact ⟨by first | (simp only [own_pick, own_pk, hc11_118, hc23_121, hc38_124, if_true, if_false]; done) | (simp only [own_pick, own_pk, hc11_118, hc23_121, hc38_124, if_true, if_false]; rfl), N0, rfl⟩
      · have c126 : Goes p e below s₁ (entryFrame m #[(.int p1)] 2) s₁ (mkF m 53 #[.val (.int p1), .val (.int ((p1 &&& (2147483647 : Int32)) % (65 : Int32)))] [(.int (62 : Int32)), (.int ((p1 &&& (2147483647 : Int32)) % (65 : Int32)))]) := by
          intro t kk
          refine c123 t ?_
          show Steps p.tables e below (s₁.setTop (mkF m 38 #[.val (.int p1), .val (.int ((p1 &&& (2147483647 : Int32)) % (65 : Int32)))] [(.int (62 : Int32)), (.int ((p1 &&& (2147483647 : Int32)) % (65 : Int32)))])) t
          refine XS.icmpYes X0.here hx rfl (pc0 := 38) (pc' := 50) rfl (hb hby d1_38) rfl (flt hc38_124).2.1 (by decide) (by decide) ?_
          show Steps p.tables e below (s₁.setTop (mkF m 50 #[.val (.int p1), .val (.int ((p1 &&& (2147483647 : Int32)) % (65 : Int32)))] [])) t
          refine XS.iloadN X0.here hx rfl (hb hby d1_50) rfl ?_
          show Steps p.tables e below (s₁.setTop (mkF m 51 #[.val (.int p1), .val (.int ((p1 &&& (2147483647 : Int32)) % (65 : Int32)))] [(.int ((p1 &&& (2147483647 : Int32)) % (65 : Int32)))])) t
          refine XS.bipush X0.here hx rfl (hb hby d1_51) ?_
          exact kk
        by_cases hc53_127 : ((p1 &&& (2147483647 : Int32)) % (65 : Int32)) = (62 : Int32)
        · have c128 : Goes p e below s₁ (entryFrame m #[(.int p1)] 2) s₁ (mkF m 58 #[.val (.int p1), .val (.int ((p1 &&& (2147483647 : Int32)) % (65 : Int32)))] [(.int (95 : Int32))]) := by
            intro t kk
            refine c126 t ?_
            show Steps p.tables e below (s₁.setTop (mkF m 53 #[.val (.int p1), .val (.int ((p1 &&& (2147483647 : Int32)) % (65 : Int32)))] [(.int (62 : Int32)), (.int ((p1 &&& (2147483647 : Int32)) % (65 : Int32)))])) t
            refine XS.icmpNo X0.here hx rfl (hb hby d1_53) rfl (teq hc53_127).2 ?_
            show Steps p.tables e below (s₁.setTop (mkF m 56 #[.val (.int p1), .val (.int ((p1 &&& (2147483647 : Int32)) % (65 : Int32)))] [])) t
            refine XS.bipush X0.here hx rfl (hb hby d1_56) ?_
            exact kk
          obtain ⟨fs, hr, hrun, hended, hW, hsame⟩ := X0.leave (v := some (.int (nar .char (95 : Int32)))) (fun h => by rw [Bd.returns] at h; cases h)
          refine ⟨_, _, c128 _ ?_, hrun, hended, _, _, rfl, ?_, ⟨_, rfl⟩, hW, hsame.mono (by decide) (by decide)⟩
          · exact retN X0 hx (t := .char) Bd.returns (by simp) (hb hby d1_58) hr
          · show Q_pick Z p1 h0 n0 _ s₁.heap _
            rw [e0]
            exact ⟨by first | (simp only [own_pick, own_pk, hc11_118, hc23_121, hc38_124, hc53_127, if_true, if_false]; done) | (simp only [own_pick, own_pk, hc11_118, hc23_121, hc38_124, hc53_127, if_true, if_false]; rfl), N0, rfl⟩
        · have c129 : Goes p e below s₁ (entryFrame m #[(.int p1)] 2) s₁ (mkF m 62 #[.val (.int p1), .val (.int ((p1 &&& (2147483647 : Int32)) % (65 : Int32)))] [(.int (63 : Int32)), (.int ((p1 &&& (2147483647 : Int32)) % (65 : Int32)))]) := by
            intro t kk
            refine c126 t ?_
            show Steps p.tables e below (s₁.setTop (mkF m 53 #[.val (.int p1), .val (.int ((p1 &&& (2147483647 : Int32)) % (65 : Int32)))] [(.int (62 : Int32)), (.int ((p1 &&& (2147483647 : Int32)) % (65 : Int32)))])) t
            refine XS.icmpYes X0.here hx rfl (pc0 := 53) (pc' := 59) rfl (hb hby d1_53) rfl (feq hc53_127).2 (by decide) (by decide) ?_
            show Steps p.tables e below (s₁.setTop (mkF m 59 #[.val (.int p1), .val (.int ((p1 &&& (2147483647 : Int32)) % (65 : Int32)))] [])) t
            refine XS.iloadN X0.here hx rfl (hb hby d1_59) rfl ?_
            show Steps p.tables e below (s₁.setTop (mkF m 60 #[.val (.int p1), .val (.int ((p1 &&& (2147483647 : Int32)) % (65 : Int32)))] [(.int ((p1 &&& (2147483647 : Int32)) % (65 : Int32)))])) t
            refine XS.bipush X0.here hx rfl (hb hby d1_60) ?_
            exact kk
          by_cases hc62_130 : ((p1 &&& (2147483647 : Int32)) % (65 : Int32)) = (63 : Int32)
          · have c131 : Goes p e below s₁ (entryFrame m #[(.int p1)] 2) s₁ (mkF m 67 #[.val (.int p1), .val (.int ((p1 &&& (2147483647 : Int32)) % (65 : Int32)))] [(.int (46 : Int32))]) := by
              intro t kk
              refine c129 t ?_
              show Steps p.tables e below (s₁.setTop (mkF m 62 #[.val (.int p1), .val (.int ((p1 &&& (2147483647 : Int32)) % (65 : Int32)))] [(.int (63 : Int32)), (.int ((p1 &&& (2147483647 : Int32)) % (65 : Int32)))])) t
              refine XS.icmpNo X0.here hx rfl (hb hby d1_62) rfl (teq hc62_130).2 ?_
              show Steps p.tables e below (s₁.setTop (mkF m 65 #[.val (.int p1), .val (.int ((p1 &&& (2147483647 : Int32)) % (65 : Int32)))] [])) t
              refine XS.bipush X0.here hx rfl (hb hby d1_65) ?_
              exact kk
            obtain ⟨fs, hr, hrun, hended, hW, hsame⟩ := X0.leave (v := some (.int (nar .char (46 : Int32)))) (fun h => by rw [Bd.returns] at h; cases h)
            refine ⟨_, _, c131 _ ?_, hrun, hended, _, _, rfl, ?_, ⟨_, rfl⟩, hW, hsame.mono (by decide) (by decide)⟩
            · exact retN X0 hx (t := .char) Bd.returns (by simp) (hb hby d1_67) hr
            · show Q_pick Z p1 h0 n0 _ s₁.heap _
              rw [e0]
              exact ⟨by first | (simp only [own_pick, own_pk, hc11_118, hc23_121, hc38_124, hc53_127, hc62_130, if_true, if_false]; done) | (simp only [own_pick, own_pk, hc11_118, hc23_121, hc38_124, hc53_127, hc62_130, if_true, if_false]; rfl), N0, rfl⟩
          · have c132 : Goes p e below s₁ (entryFrame m #[(.int p1)] 2) s₁ (mkF m 70 #[.val (.int p1), .val (.int ((p1 &&& (2147483647 : Int32)) % (65 : Int32)))] [(.int (45 : Int32))]) := by
              intro t kk
              refine c129 t ?_
              show Steps p.tables e below (s₁.setTop (mkF m 62 #[.val (.int p1), .val (.int ((p1 &&& (2147483647 : Int32)) % (65 : Int32)))] [(.int (63 : Int32)), (.int ((p1 &&& (2147483647 : Int32)) % (65 : Int32)))])) t
              refine XS.icmpYes X0.here hx rfl (pc0 := 62) (pc' := 68) rfl (hb hby d1_62) rfl (feq hc62_130).2 (by decide) (by decide) ?_
              show Steps p.tables e below (s₁.setTop (mkF m 68 #[.val (.int p1), .val (.int ((p1 &&& (2147483647 : Int32)) % (65 : Int32)))] [])) t
              refine XS.bipush X0.here hx rfl (hb hby d1_68) ?_
              exact kk
            obtain ⟨fs, hr, hrun, hended, hW, hsame⟩ := X0.leave (v := some (.int (nar .char (45 : Int32)))) (fun h => by rw [Bd.returns] at h; cases h)
            refine ⟨_, _, c132 _ ?_, hrun, hended, _, _, rfl, ?_, ⟨_, rfl⟩, hW, hsame.mono (by decide) (by decide)⟩
            · exact retN X0 hx (t := .char) Bd.returns (by simp) (hb hby d1_70) hr
            · show Q_pick Z p1 h0 n0 _ s₁.heap _
              rw [e0]
              exact ⟨by first | (simp only [own_pick, own_pk, hc11_118, hc23_121, hc38_124, hc53_127, hc62_130, if_true, if_false]; done) | (simp only [own_pick, own_pk, hc11_118, hc23_121, hc38_124, hc53_127, hc62_130, if_true, if_false]; rfl), N0, rfl⟩
theorem d21_0 : decode jdk_42_method_66_code 0 = .ok (.aload_n 0, 1) := by decide +kernel
theorem d21_1 : decode jdk_42_method_66_code 1 = .ok (.aload_n 1, 1) := by decide +kernel
theorem d21_2 : decode jdk_42_method_66_code 2 = .ok (.if_acmp .ne 5, 3) := by decide +kernel
theorem d21_5 : decode jdk_42_method_66_code 5 = .ok (.iconst 1, 1) := by decide +kernel
theorem d21_6 : decode jdk_42_method_66_code 6 = .ok (.ireturn, 1) := by decide +kernel
theorem pn_21 : plainName "java/lang/String" = true := by first | (simp [plainName, overriddenIn]; done) | decide +kernel
theorem ef_eqs (m : MethodId) (x0 : Addr) (x1 : Addr) : entryFrame m #[(.ref x0), (.ref x1)] 3 = mkF m 0 #[.val (.ref x0), .val (.ref x1), .unset] [] := by (first | (simp [entryFrame, mkF, argsToLocals, Value.category]; done) | rfl)
def Q_eqs (Z : State) (a1 : Addr) (h0 : Heap) (n0 : Nat) (v : Option Value) (h : Heap) (L : List Loc) : Prop := v = some (.int 1) ∧ Fr n0 L ∧ h = h0
set_option maxRecDepth 65536 in
set_option maxHeartbeats 40000000 in
theorem rm_eqs (l : Launch) (Z : State) (a0 : Array Value) (hw : ∀ d ∈ tables_1, d.before a0 Z = true) (ws : List Jvm.Cond) (a1 : Addr) (h0 : Heap) (n0 : Nat) (Z0 : n0 ≤ h0.size)  :
    MetFree l (⟨"java/lang/String", "equals", "(Ljava/lang/Object;)Z"⟩ : MethodName) (head1 (Jvm.Cond.code (⟨"java/lang/String", "equals", "(Ljava/lang/Object;)Z"⟩ : MethodName) jdk_42_method_66_code 3 (some .boolean) :: ws) ({ frames := 0, cells := 0, slots := 0, locals := 0 } : Room)) (fun a U => a = #[(.ref a1), (.ref a1)] ∧ Z.Warmed39 U.vm ∧ U.heap = h0) (fun _ _ _ _ _ => True) (fun _ U o U' => ∃ v L, o = .returned v ∧ Q_eqs Z a1 h0 n0 v U'.heap L ∧ FrameEnd U o U' L ({ frames := 0, cells := 0, slots := 0, locals := 0 } : Room).cells ({ frames := 0, cells := 0, slots := 0, locals := 0 } : Room).slots) := by
  refine MetFree.of_bodySF (plainFor_of_name pn_21) hisR ?_
  intro p e s m args below meth c s₁ Bd hml0 hP hK
  obtain ⟨rfl, hZ, hh⟩ := hP
  have hx := Bd.exec
  have hby := Bd.bytes
  have hml : c.maxLocals = 3 := hml0
  have hown : s.vm.findClass "java/lang/String" = some m.cls := findClass_of_methodNamed Bd.named
  have hnm := (name_of_methodNamed Bd.named Bd.method).1
  have X0 : Stand p l e ({ frames := 0, cells := 0, slots := 0, locals := 0 } : Room) s m #[(.ref a1), (.ref a1)] below meth c s₁ [] 0 0 := Stand.of_body Bd
  have e0 : s₁.heap = h0 := by rw [← hh, Bd.state]; rfl
  have N0 := Fr.nil n0
  have c0 : Goes p e below s₁ (entryFrame m #[(.ref a1), (.ref a1)] 3) s₁ (mkF m 0 #[.val (.ref a1), .val (.ref a1), .unset] []) := fun t k => castTop (ef_eqs m a1 a1) k
  have c133 : Goes p e below s₁ (entryFrame m #[(.ref a1), (.ref a1)] 3) s₁ (mkF m 6 #[.val (.ref a1), .val (.ref a1), .unset] [(.int (1 : Int32))]) := by
    intro t kk
    refine c0 t ?_
    show Steps p.tables e below (s₁.setTop (mkF m 0 #[.val (.ref a1), .val (.ref a1), .unset] [])) t
    refine XS.aloadN X0.here hx rfl (hb hby d21_0) rfl rfl ?_
    show Steps p.tables e below (s₁.setTop (mkF m 1 #[.val (.ref a1), .val (.ref a1), .unset] [(.ref a1)])) t
    refine XS.aloadN X0.here hx rfl (hb hby d21_1) rfl rfl ?_
    show Steps p.tables e below (s₁.setTop (mkF m 2 #[.val (.ref a1), .val (.ref a1), .unset] [(.ref a1), (.ref a1)])) t
    refine Jvm.RoadKit.acmp (g := (mkF m 2 #[.val (.ref a1), .val (.ref a1), .unset] [(.ref a1), (.ref a1)])) X0 hx rfl rfl rfl (pc0 := 2) (pc' := 5) (same := true) rfl (hb hby d21_2) rfl (decide_eq_true rfl) (by decide) (by decide) ?_
    show Steps p.tables e below (s₁.setTop (mkF m 5 #[.val (.ref a1), .val (.ref a1), .unset] [])) t
    refine XS.iconst X0.here hx rfl (hb hby d21_5) ?_
    exact kk
  obtain ⟨fs, hr, hrun, hended, hW, hsame⟩ := X0.leave (v := some (.int (1 : Int32))) (fun h => by rw [Bd.returns] at h; cases h)
  refine ⟨_, _, c133 _ ?_, hrun, hended, _, _, rfl, ?_, ⟨_, rfl⟩, hW, hsame.mono (by decide) (by decide)⟩
  · exact retN X0 hx (t := .boolean) Bd.returns (by simp) (hb hby d21_6) hr
  · show Q_eqs Z a1 h0 n0 _ s₁.heap _
    rw [e0]
    exact ⟨rfl, N0, rfl⟩
theorem d20_0 : decode prog_14_method_4_code 0 = .ok (.aload_n 0, 1) := by decide +kernel
theorem d20_1 : decode prog_14_method_4_code 1 = .ok (.getfield 7, 3) := by decide +kernel
theorem d20_4 : decode prog_14_method_4_code 4 = .ok (.areturn, 1) := by decide +kernel
theorem ef_gt (m : MethodId) (x0 : Addr) : entryFrame m #[(.ref x0)] 1 = mkF m 0 #[.val (.ref x0)] [] := by (first | (simp [entryFrame, mkF, argsToLocals, Value.category]; done) | rfl)
def Q_gt (Z : State) (a1 : Addr) (a2 : Addr) (h0 : Heap) (n0 : Nat) (v : Option Value) (h : Heap) (L : List Loc) : Prop := v = some (.ref a2) ∧ Fr n0 L ∧ h = h0
set_option maxRecDepth 65536 in
set_option maxHeartbeats 40000000 in
theorem rm_gt (l : Launch) (Z : State) (a0 : Array Value) (hw : ∀ d ∈ tables_1, d.before a0 Z = true) (ws : List Jvm.Cond) (a1 : Addr) (a2 : Addr) (h0 : Heap) (n0 : Nat) (Z0 : n0 ≤ h0.size) (F1 : Fld Z h0 a1 "com/example/sequence_dispenser/sequencedispenser/core/SequenceName" "text" "Ljava/lang/String;" (.ref a2)) :
    MetFree l (⟨"com/example/sequence_dispenser/sequencedispenser/core/SequenceName", "getText", "()Ljava/lang/String;"⟩ : MethodName) (head1 (Jvm.Cond.code (⟨"com/example/sequence_dispenser/sequencedispenser/core/SequenceName", "getText", "()Ljava/lang/String;"⟩ : MethodName) prog_14_method_4_code 1 (some (.object "java/lang/String")) :: ws) ({ frames := 0, cells := 0, slots := 0, locals := 0 } : Room)) (fun a U => a = #[(.ref a1)] ∧ Z.Warmed39 U.vm ∧ U.heap = h0) (fun _ _ _ _ _ => True) (fun _ U o U' => ∃ v L, o = .returned v ∧ Q_gt Z a1 a2 h0 n0 v U'.heap L ∧ FrameEnd U o U' L ({ frames := 0, cells := 0, slots := 0, locals := 0 } : Room).cells ({ frames := 0, cells := 0, slots := 0, locals := 0 } : Room).slots) := by
  refine MetFree.of_bodySF (plainFor_of_name pn_17) hisR ?_
  intro p e s m args below meth c s₁ Bd hml0 hP hK
  obtain ⟨rfl, hZ, hh⟩ := hP
  have hx := Bd.exec
  have hby := Bd.bytes
  have hml : c.maxLocals = 1 := hml0
  have hown : s.vm.findClass "com/example/sequence_dispenser/sequencedispenser/core/SequenceName" = some m.cls := findClass_of_methodNamed Bd.named
  have hnm := (name_of_methodNamed Bd.named Bd.method).1
  have X0 : Stand p l e ({ frames := 0, cells := 0, slots := 0, locals := 0 } : Room) s m #[(.ref a1)] below meth c s₁ [] 0 0 := Stand.of_body Bd
  have e0 : s₁.heap = h0 := by rw [← hh, Bd.state]; rfl
  have N0 := Fr.nil n0
  have c0 : Goes p e below s₁ (entryFrame m #[(.ref a1)] 1) s₁ (mkF m 0 #[.val (.ref a1)] []) := fun t k => castTop (ef_gt m a1) k
  have c134 : Goes p e below s₁ (entryFrame m #[(.ref a1)] 1) s₁ (mkF m 1 #[.val (.ref a1)] [(.ref a1)]) := by
    intro t kk
    refine c0 t ?_
    show Steps p.tables e below (s₁.setTop (mkF m 0 #[.val (.ref a1)] [])) t
    refine XS.aloadN X0.here hx rfl (hb hby d20_0) rfl rfl ?_
    exact kk
  obtain ⟨T135, X135, e135, st135⟩ := getF X0 hx hZ hown (host := "") (Or.inl (hw _ (List.mem_of_getElem? (i := 92) rfl))) Via.refl e0 F1 (g := (mkF m 1 #[.val (.ref a1)] [(.ref a1)])) rfl rfl (hb hby d20_1)
  have c136 : Goes p e below s₁ (entryFrame m #[(.ref a1)] 1) T135 (mkF m 4 #[.val (.ref a1)] [(.ref a2)]) := fun t kk => c134 t (st135 t kk)
  obtain ⟨fs, hr, hrun, hended, hW, hsame⟩ := X135.leave (v := some (.ref a2)) (fun h => by rw [Bd.returns] at h; cases h)
  refine ⟨_, _, c136 _ ?_, hrun, hended, _, _, rfl, ?_, ⟨_, rfl⟩, hW, hsame.mono (by decide) (by decide)⟩
  · exact retOut X135 hx Bd.returns rfl (Or.inr (Or.inr (Or.inr (Or.inr ⟨rfl, rfl, rfl⟩)))) (hb hby d20_4) hr
  · show Q_gt Z a1 a2 h0 n0 _ T135.heap _
    rw [e135]
    exact ⟨rfl, N0, rfl⟩
theorem d19_0 : decode prog_14_method_1_code 0 = .ok (.aload_n 0, 1) := by decide +kernel
theorem d19_1 : decode prog_14_method_1_code 1 = .ok (.invokespecial 1, 3) := by decide +kernel
theorem d19_4 : decode prog_14_method_1_code 4 = .ok (.aload_n 0, 1) := by decide +kernel
theorem d19_5 : decode prog_14_method_1_code 5 = .ok (.aload_n 1, 1) := by decide +kernel
theorem d19_6 : decode prog_14_method_1_code 6 = .ok (.putfield 7, 3) := by decide +kernel
theorem d19_9 : decode prog_14_method_1_code 9 = .ok (.return_, 1) := by decide +kernel
theorem ef_ini (m : MethodId) (x0 : Addr) (x1 : Addr) : entryFrame m #[(.ref x0), (.ref x1)] 2 = mkF m 0 #[.val (.ref x0), .val (.ref x1)] [] := by (first | (simp [entryFrame, mkF, argsToLocals, Value.category]; done) | rfl)
def Q_ini (Z : State) (a1 : Addr) (a2 : Addr) (h0 : Heap) (n0 : Nat) (v : Option Value) (h : Heap) (L : List Loc) : Prop := v = none ∧ Fr n0 L ∧ Keep h0 h [a1] ∧ Exa Z h a1 "com/example/sequence_dispenser/sequencedispenser/core/SequenceName" ∧ Fld Z h a1 "com/example/sequence_dispenser/sequencedispenser/core/SequenceName" "text" "Ljava/lang/String;" (.ref a2)
set_option maxRecDepth 65536 in
set_option maxHeartbeats 40000000 in
theorem rm_ini (l : Launch) (Z : State) (a0 : Array Value) (hw : ∀ d ∈ tables_1, d.before a0 Z = true) (ws : List Jvm.Cond) (a1 : Addr) (a2 : Addr) (h0 : Heap) (n0 : Nat) (Z0 : n0 ≤ h0.size) (F1 : Fld Z h0 a1 "com/example/sequence_dispenser/sequencedispenser/core/SequenceName" "text" "Ljava/lang/String;" .null) (E1 : Exa Z h0 a1 "com/example/sequence_dispenser/sequencedispenser/core/SequenceName") (g1 : n0 ≤ a1) :
    MetFree l (⟨"com/example/sequence_dispenser/sequencedispenser/core/SequenceName", "<init>", "(Ljava/lang/String;)V"⟩ : MethodName) (head1 (Jvm.Cond.code (⟨"com/example/sequence_dispenser/sequencedispenser/core/SequenceName", "<init>", "(Ljava/lang/String;)V"⟩ : MethodName) prog_14_method_1_code 2 none :: ws) ({ frames := 1, cells := 0, slots := 0, locals := 12 } : Room)) (fun a U => a = #[(.ref a1), (.ref a2)] ∧ Z.Warmed39 U.vm ∧ U.heap = h0) (fun _ _ _ _ _ => True) (fun _ U o U' => ∃ v L, o = .returned v ∧ Q_ini Z a1 a2 h0 n0 v U'.heap L ∧ FrameEnd U o U' L ({ frames := 1, cells := 0, slots := 0, locals := 12 } : Room).cells ({ frames := 1, cells := 0, slots := 0, locals := 12 } : Room).slots) := by
  refine MetFree.of_bodySF (plainFor_of_name pn_17) hisR ?_
  intro p e s m args below meth c s₁ Bd hml0 hP hK
  obtain ⟨rfl, hZ, hh⟩ := hP
  have hx := Bd.exec
  have hby := Bd.bytes
  have hml : c.maxLocals = 2 := hml0
  have hown : s.vm.findClass "com/example/sequence_dispenser/sequencedispenser/core/SequenceName" = some m.cls := findClass_of_methodNamed Bd.named
  have hnm := (name_of_methodNamed Bd.named Bd.method).1
  have X0 : Stand p l e ({ frames := 1, cells := 0, slots := 0, locals := 12 } : Room) s m #[(.ref a1), (.ref a2)] below meth c s₁ [] 0 0 := Stand.of_body Bd
  have e0 : s₁.heap = h0 := by rw [← hh, Bd.state]; rfl
  have N0 := Fr.nil n0
  have c0 : Goes p e below s₁ (entryFrame m #[(.ref a1), (.ref a2)] 2) s₁ (mkF m 0 #[.val (.ref a1), .val (.ref a2)] []) := fun t k => castTop (ef_ini m a1 a2) k
  have c137 : Goes p e below s₁ (entryFrame m #[(.ref a1), (.ref a2)] 2) s₁ (mkF m 1 #[.val (.ref a1), .val (.ref a2)] [(.ref a1)]) := by
    intro t kk
    refine c0 t ?_
    show Steps p.tables e below (s₁.setTop (mkF m 0 #[.val (.ref a1), .val (.ref a2)] [])) t
    refine XS.aloadN X0.here hx rfl (hb hby d19_0) rfl rfl ?_
    exact kk
  obtain ⟨T138, X138, e138, st138⟩ := initO X0 hx hZ hown (hw _ (List.mem_of_getElem? (i := 91) rfl)) (hw _ (List.mem_of_getElem? (i := 17) rfl)) (hw _ (List.mem_of_getElem? (i := 18) rfl)) e0 (g := (mkF m 1 #[.val (.ref a1), .val (.ref a2)] [(.ref a1)])) rfl (by rw [hml]; rfl) rfl (hb hby d19_1) (by decide) (W := 0) (by show 2 * 0 + _ ≤ _; exact Nat.le_of_eq rfl) (by decide)
  have c139 : Goes p e below s₁ (entryFrame m #[(.ref a1), (.ref a2)] 2) T138 (mkF m 4 #[.val (.ref a1), .val (.ref a2)] []) := fun t kk => c137 t (st138 t kk)
  have c140 : Goes p e below s₁ (entryFrame m #[(.ref a1), (.ref a2)] 2) T138 (mkF m 6 #[.val (.ref a1), .val (.ref a2)] [(.ref a2), (.ref a1)]) := by
    intro t kk
    refine c139 t ?_
    show Steps p.tables e below (T138.setTop (mkF m 4 #[.val (.ref a1), .val (.ref a2)] [])) t
    refine XS.aloadN X138.here hx rfl (hb hby d19_4) rfl rfl ?_
    show Steps p.tables e below (T138.setTop (mkF m 5 #[.val (.ref a1), .val (.ref a2)] [(.ref a1)])) t
    refine XS.aloadN X138.here hx rfl (hb hby d19_5) rfl rfl ?_
    exact kk
  obtain ⟨T141, h141, X141, e141, W141, st141⟩ := putF X138 hx hZ hown (host := "") (Or.inl (hw _ (List.mem_of_getElem? (i := 92) rfl))) Via.refl e138 F1 E1 (Or.inr ⟨(hw _ (List.mem_of_getElem? (i := 93) rfl)), rfl, hnm⟩) (hw _ (List.mem_of_getElem? (i := 87) rfl)) (ty := (.object "java/lang/String")) (by decide) rfl rfl (g := (mkF m 6 #[.val (.ref a1), .val (.ref a2)] [(.ref a2), (.ref a1)])) rfl rfl (hb hby d19_6)
  have N141 := Fr.snoc X141 N0 g1
  have F141 := F1.same W141
  have c142 : Goes p e below s₁ (entryFrame m #[(.ref a1), (.ref a2)] 2) T141 (mkF m 9 #[.val (.ref a1), .val (.ref a2)] []) := fun t kk => c140 t (st141 t kk)
  have f143 := ((Keep.refl h0 [a1]).wr W141 (Or.inl (List.mem_of_getElem? (i := 0) rfl)))
  have f144 := (E1.wr W141)
  obtain ⟨fs, hr, hrun, hended, hW, hsame⟩ := X141.leave (v := none) (fun _ => rfl)
  refine ⟨_, _, c142 _ ?_, hrun, hended, _, _, rfl, ?_, ⟨_, rfl⟩, hW, hsame.mono (by decide) (by decide)⟩
  · exact X141.returnOut hx Bd.returns (hb hby d19_9) hr
  · show Q_ini Z a1 a2 h0 n0 _ T141.heap _
    rw [e141]
    exact ⟨rfl, N141, f143, f144, F141⟩
theorem d8_0 : decode prog_14_method_2_code 0 = .ok (.aload_n 0, 1) := by decide +kernel
theorem d8_1 : decode prog_14_method_2_code 1 = .ok (.ldc 13, 2) := by decide +kernel
theorem d8_3 : decode prog_14_method_2_code 3 = .ok (.invokestatic 14, 3) := by decide +kernel
theorem d8_6 : decode prog_14_method_2_code 6 = .ok (.pop, 1) := by decide +kernel
theorem d8_7 : decode prog_14_method_2_code 7 = .ok (.iconst 0, 1) := by decide +kernel
theorem d8_8 : decode prog_14_method_2_code 8 = .ok (.istore_n 1, 1) := by decide +kernel
theorem d8_9 : decode prog_14_method_2_code 9 = .ok (.iload_n 1, 1) := by decide +kernel
theorem d8_10 : decode prog_14_method_2_code 10 = .ok (.aload_n 0, 1) := by decide +kernel
theorem d8_11 : decode prog_14_method_2_code 11 = .ok (.invokevirtual 20, 3) := by decide +kernel
theorem d8_14 : decode prog_14_method_2_code 14 = .ok (.if_icmp .ge 59, 3) := by decide +kernel
theorem d8_17 : decode prog_14_method_2_code 17 = .ok (.aload_n 0, 1) := by decide +kernel
theorem d8_18 : decode prog_14_method_2_code 18 = .ok (.iload_n 1, 1) := by decide +kernel
theorem d8_19 : decode prog_14_method_2_code 19 = .ok (.invokevirtual 26, 3) := by decide +kernel
theorem d8_22 : decode prog_14_method_2_code 22 = .ok (.invokestatic 30, 3) := by decide +kernel
theorem d8_25 : decode prog_14_method_2_code 25 = .ok (.ifCond .ne 42, 3) := by decide +kernel
theorem d8_67 : decode prog_14_method_2_code 67 = .ok (.iinc 1 1, 3) := by decide +kernel
theorem d8_70 : decode prog_14_method_2_code 70 = .ok (.goto (-61), 3) := by decide +kernel
theorem d8_73 : decode prog_14_method_2_code 73 = .ok (.aload_n 0, 1) := by decide +kernel
theorem d8_74 : decode prog_14_method_2_code 74 = .ok (.invokevirtual 55, 3) := by decide +kernel
theorem d8_77 : decode prog_14_method_2_code 77 = .ok (.ifCond .ne 12, 3) := by decide +kernel
theorem d8_80 : decode prog_14_method_2_code 80 = .ok (.aload_n 0, 1) := by decide +kernel
theorem d8_81 : decode prog_14_method_2_code 81 = .ok (.invokevirtual 20, 3) := by decide +kernel
theorem d8_84 : decode prog_14_method_2_code 84 = .ok (.bipush 64, 2) := by decide +kernel
theorem d8_86 : decode prog_14_method_2_code 86 = .ok (.if_icmp .le 20, 3) := by decide +kernel
theorem d8_106 : decode prog_14_method_2_code 106 = .ok (.new 8, 3) := by decide +kernel
theorem d8_109 : decode prog_14_method_2_code 109 = .ok (.dup, 1) := by decide +kernel
theorem d8_110 : decode prog_14_method_2_code 110 = .ok (.aload_n 0, 1) := by decide +kernel
theorem d8_111 : decode prog_14_method_2_code 111 = .ok (.invokespecial 63, 3) := by decide +kernel
theorem d8_114 : decode prog_14_method_2_code 114 = .ok (.areturn, 1) := by decide +kernel
theorem pd__Ljava_lang_Object_Ljava_lang_String__Ljava_lang_Object_ : parseMethodDescriptor "(Ljava/lang/Object;Ljava/lang/String;)Ljava/lang/Object;" = some ⟨[(.object "java/lang/Object"), (.object "java/lang/String")], some (.object "java/lang/Object")⟩ := by decide +kernel
theorem pd___I : parseMethodDescriptor "()I" = some ⟨[], some .int⟩ := by decide +kernel
theorem pd___Z : parseMethodDescriptor "()Z" = some ⟨[], some .boolean⟩ := by decide +kernel
theorem pd__Ljava_lang_String__V : parseMethodDescriptor "(Ljava/lang/String;)V" = some ⟨[(.object "java/lang/String")], none⟩ := by decide +kernel
theorem pd__I_C : parseMethodDescriptor "(I)C" = some ⟨[.int], some .char⟩ := by decide +kernel
theorem pd__C_Z : parseMethodDescriptor "(C)Z" = some ⟨[.char], some .boolean⟩ := by decide +kernel
theorem ef_of (m : MethodId) (x0 : Addr) : entryFrame m #[(.ref x0)] 3 = mkF m 0 #[.val (.ref x0), .unset, .unset] [] := by (first | (simp [entryFrame, mkF, argsToLocals, Value.category]; done) | rfl)
def Q_of (Z : State) (a1 : Addr) (cs : List Int32) (z : Int32) (fm : Value) (h0 : Heap) (n0 : Nat) (v : Option Value) (h : Heap) (L : List Loc) : Prop := ∃ b : Addr, v = some (.ref b) ∧ Fr n0 L ∧ Keep h0 h [] ∧ Exa Z h b "com/example/sequence_dispenser/sequencedispenser/core/SequenceName" ∧ Fld Z h b "com/example/sequence_dispenser/sequencedispenser/core/SequenceName" "text" "Ljava/lang/String;" (.ref a1)
set_option maxRecDepth 65536 in
set_option maxHeartbeats 40000000 in
theorem rm_of (l : Launch) (Z : State) (a0 : Array Value) (hw : ∀ d ∈ tables_1, d.before a0 Z = true) (ws : List Jvm.Cond) (a1 : Addr) (cs : List Int32) (z : Int32) (fm : Value) (h0 : Heap) (n0 : Nat) (Z0 : n0 ≤ h0.size) (O0 : Old Z n0 h0) (S2 : Sta Z Z.heap "java/lang/String" "COMPACT_STRINGS" "Z" (.int z)) (hz : ¬ z = 0) (S4 : Sta Z Z.heap "jdk/internal/util/Preconditions" "SIOOBE_FORMATTER" "Ljava/util/function/BiFunction;" fm) (hfm : fm.isRef = true) (hs : own_str Z h0 a1 cs) (hal : ∀ c ∈ cs, ¬ own_al c = 0) (hl0 : 0 < cs.length) (hl4 : cs.length ≤ 4) :
    MetFree l (⟨"com/example/sequence_dispenser/sequencedispenser/core/SequenceName", "of", "(Ljava/lang/String;)Lcom/example/sequence_dispenser/sequencedispenser/core/SequenceName;"⟩ : MethodName) (head1 (Jvm.Cond.code (⟨"com/example/sequence_dispenser/sequencedispenser/core/SequenceName", "of", "(Ljava/lang/String;)Lcom/example/sequence_dispenser/sequencedispenser/core/SequenceName;"⟩ : MethodName) prog_14_method_2_code 3 (some (.object "com/example/sequence_dispenser/sequencedispenser/core/SequenceName")) :: ws) ({ frames := 4, cells := 3, slots := 21, locals := 53 } : Room)) (fun a U => a = #[(.ref a1)] ∧ Z.Warmed39 U.vm ∧ U.heap = h0) (fun _ _ _ _ _ => True) (fun _ U o U' => ∃ v L, o = .returned v ∧ Q_of Z a1 cs z fm h0 n0 v U'.heap L ∧ ReturnedEndW U o U' L ({ frames := 4, cells := 3, slots := 21, locals := 53 } : Room).cells ({ frames := 4, cells := 3, slots := 21, locals := 53 } : Room).slots) := by
  refine MetFree.of_bodySF (plainFor_of_name pn_17) hisR ?_
  intro p e s m args below meth c s₁ Bd hml0 hP hK
  obtain ⟨rfl, hZ, hh⟩ := hP
  have hx := Bd.exec
  have hby := Bd.bytes
  have hml : c.maxLocals = 3 := hml0
  have hown : s.vm.findClass "com/example/sequence_dispenser/sequencedispenser/core/SequenceName" = some m.cls := findClass_of_methodNamed Bd.named
  have hnm := (name_of_methodNamed Bd.named Bd.method).1
  have X0 : Stand p l e ({ frames := 4, cells := 3, slots := 21, locals := 53 } : Room) s m #[(.ref a1)] below meth c s₁ [] 0 0 := Stand.of_body Bd
  have e0 : s₁.heap = h0 := by rw [← hh, Bd.state]; rfl
  have N0 := Fr.nil n0
  have c0 : Goes p e below s₁ (entryFrame m #[(.ref a1)] 3) s₁ (mkF m 0 #[.val (.ref a1), .unset, .unset] []) := fun t k => castTop (ef_of m a1) k
  have XW0 : Stand p l e ({ frames := 4, cells := 3, slots := 21, locals := 53 } : Room) (s.setVm s.vm) m #[(.ref a1)] below meth c s₁ [] 0 0 := X0
  have SW0 : s.Since s.vm 0 := (State.WarmedH.refl s).since 0
  have hl2 : cs.length ≤ 4000 := by omega
  have c145 : Goes p e below s₁ (entryFrame m #[(.ref a1)] 3) s₁ (mkF m 1 #[.val (.ref a1), .unset, .unset] [(.ref a1)]) := by
    intro t kk
    refine c0 t ?_
    show Steps p.tables e below (s₁.setTop (mkF m 0 #[.val (.ref a1), .unset, .unset] [])) t
    refine XS.aloadN XW0.here hx rfl (hb hby d8_0) rfl rfl ?_
    exact kk
  obtain ⟨a146, T146, h146, kk146, X146, e146, E146, S146, hk146, hZ146, ho146, st146⟩ := ldcS XW0 hx hZ hown (hw _ (List.mem_of_getElem? (i := 39) rfl)) (own_wS hw) e0 SW0 (Nat.zero_le _) (g := (mkF m 1 #[.val (.ref a1), .unset, .unset] [(.ref a1)])) rfl (hb hby d8_1) (n := 16) (by decide) (by decide) (by decide) (by decide)
  have c147 : Goes p e below s₁ (entryFrame m #[(.ref a1)] 3) T146 (mkF m 3 #[.val (.ref a1), .unset, .unset] [(.ref a146), (.ref a1)]) := fun t kk => c145 t (st146 t kk)
  have hs1 := own_sext hs E146
  have f148 := (Nat.le_trans Z0 E146.1)
  obtain ⟨_, _, ⟨T149, L149, k149, n149⟩, -, X149, ⟨Lc149, hQ149, l149, y149, z149⟩, st149⟩ := Jvm.LawKit.callS X146 hx (y := (⟨"java/util/Objects", "requireNonNull", "(Ljava/lang/Object;Ljava/lang/String;)Ljava/lang/Object;"⟩ : MethodName)) ho146 (mvT hZ146 (hw _ (List.mem_of_getElem? (i := 42) rfl))) (mvT hZ146 (hw _ (List.mem_of_getElem? (i := 43) rfl))) (mvT hZ146 (hw _ (List.mem_of_getElem? (i := 44) rfl))) (mvT hZ146 (hw _ (List.mem_of_getElem? (i := 45) rfl))) (by decide) (backOf (W := 0) (rm_rnn l Z a0 hw [] a1 a146 h146 n0 f148) hZ146 (hw _ (List.mem_of_getElem? (i := 45) rfl)) (hw _ (List.mem_of_getElem? (i := 44) rfl)) (by decide) (by decide)) (g := (mkF m 3 #[.val (.ref a1), .unset, .unset] [(.ref a146), (.ref a1)])) rfl (by rw [hml]; rfl) (argsL := [(.ref a1), (.ref a146)]) (rest := []) (lenOf pd__Ljava_lang_Object_Ljava_lang_String__Ljava_lang_Object_ rfl) rfl (by show 2 * 0 + _ ≤ _; exact Nat.le_of_eq rfl) (hb hby d8_3) (fun _ _ => ⟨rfl, e146, (by decide : 2 + 0 ≤ _), (by decide : 20 + 0 ≤ _)⟩)
  dsimp only [Pt.U, Pt.locs, Pt.cells, Pt.slots] at X149 l149 y149 z149 st149 hQ149
  subst l149 y149 z149
  obtain ⟨rfl, Nq149, eq149⟩ := hQ149
  have N149 := Fr.app N0 Nq149
  have c150 : Goes p e below s₁ (entryFrame m #[(.ref a1)] 3) T149 (mkF m 6 #[.val (.ref a1), .unset, .unset] [(.ref a1)]) := fun t kk => c147 t (st149 t kk)
  have f151 := (O0.ext E146)
  have f152 := ((Keep.refl h0 []).ext E146)
  have c153 : Goes p e below s₁ (entryFrame m #[(.ref a1)] 3) T149 (mkF m 9 #[.val (.ref a1), .val (.int (0 : Int32)), .unset] []) := by
    intro t kk
    refine c150 t ?_
    show Steps p.tables e below (T149.setTop (mkF m 6 #[.val (.ref a1), .unset, .unset] [(.ref a1)])) t
    refine XS.pop X149.here hx rfl (hb hby d8_6) rfl rfl ?_
    show Steps p.tables e below (T149.setTop (mkF m 7 #[.val (.ref a1), .unset, .unset] [])) t
    refine XS.iconst X149.here hx rfl (hb hby d8_7) ?_
    show Steps p.tables e below (T149.setTop (mkF m 8 #[.val (.ref a1), .unset, .unset] [(.int (0 : Int32))])) t
    refine XS.istoreN X149.here hx rfl (hb hby d8_8) rfl (l' := #[.val (.ref a1), .val (.int (0 : Int32)), .unset]) rfl ?_
    exact kk
  refine own_down (α := State) (fun (k154 : Nat) (T154 : State) => ∃ (i154 : Nat) (Lx154 : List Loc), i154 + k154 = cs.length ∧ Fr n0 Lx154 ∧ Stand p l e ({ frames := 4, cells := 3, slots := 21, locals := 53 } : Room) (s.setVm T146.vm) m #[(.ref a1)] below meth c T154 Lx154 2 20 ∧ T154.heap = h146 ∧ Goes p e below s₁ (entryFrame m #[(.ref a1)] 3) T154 (mkF m 9 #[.val (.ref a1), .val (.int (Int32.ofNat i154)), .unset] [])) ?_ ?_ cs.length T149 ⟨0, _, Nat.zero_add _, N149, X149, eq149, c153⟩
  · intro T154 ⟨i154, Lx154, hi154, N154, X154, e154, c154⟩
    obtain ⟨sE155, sC155, sp155, st155_t, kb155, sV155, sK155⟩ := id hs1
    have c156 : Goes p e below s₁ (entryFrame m #[(.ref a1)] 3) T154 (mkF m 11 #[.val (.ref a1), .val (.int (Int32.ofNat i154)), .unset] [(.ref a1), (.int (Int32.ofNat i154))]) := by
      intro t kk
      refine c154 t ?_
      show Steps p.tables e below (T154.setTop (mkF m 9 #[.val (.ref a1), .val (.int (Int32.ofNat i154)), .unset] [])) t
      refine XS.iloadN X154.here hx rfl (hb hby d8_9) rfl ?_
      show Steps p.tables e below (T154.setTop (mkF m 10 #[.val (.ref a1), .val (.int (Int32.ofNat i154)), .unset] [(.int (Int32.ofNat i154))])) t
      refine XS.aloadN X154.here hx rfl (hb hby d8_10) rfl rfl ?_
      exact kk
    obtain ⟨cq157, kq157, q157a, q157b, q157c⟩ := isOf hZ146 e154 sE155
    obtain ⟨_, _, ⟨T157, L157, k157, n157⟩, -, X157, ⟨Lc157, hQ157, l157, y157, z157⟩, st157⟩ := X154.virtualBack hx (y := (⟨"java/lang/String", "length", "()I"⟩ : MethodName)) (z := (⟨"java/lang/String", "length", "()I"⟩ : MethodName)) ho146 (mvT hZ146 (hw _ (List.mem_of_getElem? (i := 46) rfl))) (mvT hZ146 (hw _ (List.mem_of_getElem? (i := 47) rfl))) (notFace_of_selects (args := #[]) (mvT hZ146 (hw _ (List.mem_of_getElem? (i := 49) rfl)))) (mvT hZ146 (hw _ (List.mem_of_getElem? (i := 49) rfl))) (mvT hZ146 (hw _ (List.mem_of_getElem? (i := 48) rfl))) (by decide) (StrChars.Road.lenW (W := 1) hZ146 (own_wlen hw) (kI := 4) (hw _ (List.mem_of_getElem? (i := 7) rfl)) sE155 sV155 sC155 sK155 (StrChars.Road.codOf rfl (fun c hc => (sp155 c hc).2)) (own_up sp155) (S2.ext f151.2) hz hl2 (by decide) (by decide)) q157a q157c (g := (mkF m 11 #[.val (.ref a1), .val (.int (Int32.ofNat i154)), .unset] [(.ref a1), (.int (Int32.ofNat i154))])) rfl (by rw [hml]; rfl) (Steps.refl _) (argsL := []) (rest := [(.int (Int32.ofNat i154))]) (lenOf pd___I rfl) rfl (by show 2 * 0 + _ ≤ _; exact Nat.le_of_eq rfl) (hb hby d8_11) (fun _ _ => ⟨rfl, e154, (by decide : 2 + 0 ≤ _), (by decide : 20 + 0 ≤ _)⟩)
    dsimp only [Pt.U, Pt.locs, Pt.cells, Pt.slots] at X157 l157 y157 z157 st157 hQ157
    subst l157 y157 z157
    obtain ⟨rfl, hL157, eq157⟩ := hQ157
    have Nq157 : Fr n0 Lc157 := hL157 ▸ Fr.nil n0
    have N157 := Fr.app N154 Nq157
    have c158 : Goes p e below s₁ (entryFrame m #[(.ref a1)] 3) T157 (mkF m 14 #[.val (.ref a1), .val (.int (Int32.ofNat i154)), .unset] [(.int (Int32.ofNat (cs).length)), (.int (Int32.ofNat i154))]) := fun t kk => c156 t (st157.trans kk)
    obtain ⟨sE159, sC159, sp159, st159_t, kb159, sV159, sK159⟩ := id hs1
    have c160 : Goes p e below s₁ (entryFrame m #[(.ref a1)] 3) T157 (mkF m 74 #[.val (.ref a1), .val (.int (Int32.ofNat i154)), .unset] [(.ref a1)]) := by
      intro t kk
      refine c158 t ?_
      show Steps p.tables e below (T157.setTop (mkF m 14 #[.val (.ref a1), .val (.int (Int32.ofNat i154)), .unset] [(.int (Int32.ofNat (cs).length)), (.int (Int32.ofNat i154))])) t
      refine XS.icmpYes X157.here hx rfl (pc0 := 14) (pc' := 73) rfl (hb hby d8_14) rfl (flt (own_ge hi154)).2.1 (by decide) (by decide) ?_
      show Steps p.tables e below (T157.setTop (mkF m 73 #[.val (.ref a1), .val (.int (Int32.ofNat i154)), .unset] [])) t
      refine XS.aloadN X157.here hx rfl (hb hby d8_73) rfl rfl ?_
      exact kk
    obtain ⟨cq161, kq161, q161a, q161b, q161c⟩ := isOf hZ146 eq157 sE159
    obtain ⟨_, _, ⟨T161, L161, k161, n161⟩, -, X161, ⟨Lc161, hQ161, l161, y161, z161⟩, st161⟩ := X157.virtualBack hx (y := (⟨"java/lang/String", "isEmpty", "()Z"⟩ : MethodName)) (z := (⟨"java/lang/String", "isEmpty", "()Z"⟩ : MethodName)) ho146 (mvT hZ146 (hw _ (List.mem_of_getElem? (i := 81) rfl))) (mvT hZ146 (hw _ (List.mem_of_getElem? (i := 82) rfl))) (notFace_of_selects (args := #[]) (mvT hZ146 (hw _ (List.mem_of_getElem? (i := 84) rfl)))) (mvT hZ146 (hw _ (List.mem_of_getElem? (i := 84) rfl))) (mvT hZ146 (hw _ (List.mem_of_getElem? (i := 83) rfl))) (by decide) (StrChars.Road.empW (W := 0) hZ146 (own_wemp hw) (kI := 4) (hw _ (List.mem_of_getElem? (i := 7) rfl)) sE159 sV159 sC159 sK159 (StrChars.Road.codOf rfl (fun c hc => (sp159 c hc).2)) (own_up sp159) hl2 (by decide) (by decide)) q161a q161c (g := (mkF m 74 #[.val (.ref a1), .val (.int (Int32.ofNat i154)), .unset] [(.ref a1)])) rfl (by rw [hml]; rfl) (Steps.refl _) (argsL := []) (rest := []) (lenOf pd___Z rfl) rfl (by show 2 * 0 + _ ≤ _; exact Nat.le_of_eq rfl) (hb hby d8_74) (fun _ _ => ⟨rfl, eq157, (by decide : 2 + 0 ≤ _), (by decide : 20 + 0 ≤ _)⟩)
    dsimp only [Pt.U, Pt.locs, Pt.cells, Pt.slots] at X161 l161 y161 z161 st161 hQ161
    subst l161 y161 z161
    obtain ⟨rfl, hL161, eq161⟩ := hQ161
    have Nq161 : Fr n0 Lc161 := hL161 ▸ Fr.nil n0
    have N161 := Fr.app N157 Nq161
    have c162 : Goes p e below s₁ (entryFrame m #[(.ref a1)] 3) T161 (mkF m 77 #[.val (.ref a1), .val (.int (Int32.ofNat i154)), .unset] [(.int (if (cs).length = 0 then 1 else 0))]) := fun t kk => c160 t (st161.trans kk)
    obtain ⟨sE163, sC163, sp163, st163_t, kb163, sV163, sK163⟩ := id hs1
    have c164 : Goes p e below s₁ (entryFrame m #[(.ref a1)] 3) T161 (mkF m 81 #[.val (.ref a1), .val (.int (Int32.ofNat i154)), .unset] [(.ref a1)]) := by
      intro t kk
      refine c162 t ?_
      show Steps p.tables e below (T161.setTop (mkF m 77 #[.val (.ref a1), .val (.int (Int32.ofNat i154)), .unset] [(.int (if (cs).length = 0 then 1 else 0))])) t
      refine XS.ifNo X161.here hx rfl (hb hby d8_77) rfl ((if0 _ _).trans (teq (if_neg (by omega))).2) ?_
      show Steps p.tables e below (T161.setTop (mkF m 80 #[.val (.ref a1), .val (.int (Int32.ofNat i154)), .unset] [])) t
      refine XS.aloadN X161.here hx rfl (hb hby d8_80) rfl rfl ?_
      exact kk
    obtain ⟨cq165, kq165, q165a, q165b, q165c⟩ := isOf hZ146 eq161 sE163
    obtain ⟨_, _, ⟨T165, L165, k165, n165⟩, -, X165, ⟨Lc165, hQ165, l165, y165, z165⟩, st165⟩ := X161.virtualBack hx (y := (⟨"java/lang/String", "length", "()I"⟩ : MethodName)) (z := (⟨"java/lang/String", "length", "()I"⟩ : MethodName)) ho146 (mvT hZ146 (hw _ (List.mem_of_getElem? (i := 46) rfl))) (mvT hZ146 (hw _ (List.mem_of_getElem? (i := 47) rfl))) (notFace_of_selects (args := #[]) (mvT hZ146 (hw _ (List.mem_of_getElem? (i := 49) rfl)))) (mvT hZ146 (hw _ (List.mem_of_getElem? (i := 49) rfl))) (mvT hZ146 (hw _ (List.mem_of_getElem? (i := 48) rfl))) (by decide) (StrChars.Road.lenW (W := 0) hZ146 (own_wlen hw) (kI := 4) (hw _ (List.mem_of_getElem? (i := 7) rfl)) sE163 sV163 sC163 sK163 (StrChars.Road.codOf rfl (fun c hc => (sp163 c hc).2)) (own_up sp163) (S2.ext f151.2) hz hl2 (by decide) (by decide)) q165a q165c (g := (mkF m 81 #[.val (.ref a1), .val (.int (Int32.ofNat i154)), .unset] [(.ref a1)])) rfl (by rw [hml]; rfl) (Steps.refl _) (argsL := []) (rest := []) (lenOf pd___I rfl) rfl (by show 2 * 0 + _ ≤ _; exact Nat.le_of_eq rfl) (hb hby d8_81) (fun _ _ => ⟨rfl, eq161, (by decide : 2 + 0 ≤ _), (by decide : 20 + 0 ≤ _)⟩)
    dsimp only [Pt.U, Pt.locs, Pt.cells, Pt.slots] at X165 l165 y165 z165 st165 hQ165
    subst l165 y165 z165
    obtain ⟨rfl, hL165, eq165⟩ := hQ165
    have Nq165 : Fr n0 Lc165 := hL165 ▸ Fr.nil n0
    have N165 := Fr.app N161 Nq165
    have c166 : Goes p e below s₁ (entryFrame m #[(.ref a1)] 3) T165 (mkF m 84 #[.val (.ref a1), .val (.int (Int32.ofNat i154)), .unset] [(.int (Int32.ofNat (cs).length))]) := fun t kk => c164 t (st165.trans kk)
    have c167 : Goes p e below s₁ (entryFrame m #[(.ref a1)] 3) T165 (mkF m 106 #[.val (.ref a1), .val (.int (Int32.ofNat i154)), .unset] []) := by
      intro t kk
      refine c166 t ?_
      show Steps p.tables e below (T165.setTop (mkF m 84 #[.val (.ref a1), .val (.int (Int32.ofNat i154)), .unset] [(.int (Int32.ofNat (cs).length))])) t
      refine XS.bipush X165.here hx rfl (hb hby d8_84) ?_
      show Steps p.tables e below (T165.setTop (mkF m 86 #[.val (.ref a1), .val (.int (Int32.ofNat i154)), .unset] [(.int (64 : Int32)), (.int (Int32.ofNat (cs).length))])) t
      refine XS.icmpYes X165.here hx rfl (pc0 := 86) (pc' := 106) rfl (hb hby d8_86) rfl (flt (own_64 hl4)).2.2.2 (by decide) (by decide) ?_
      exact kk
    obtain ⟨T168, h168, X168, e168, E168, A168, D168, -, st168⟩ := newO X165 hx hZ146 ho146 (hw _ (List.mem_of_getElem? (i := 86) rfl)) (hw _ (List.mem_of_getElem? (i := 87) rfl)) (hw _ (List.mem_of_getElem? (i := 37) rfl)) eq165 (g := (mkF m 106 #[.val (.ref a1), .val (.int (Int32.ofNat i154)), .unset] [])) rfl (hb hby d8_106) (by decide) (by decide)
    obtain ⟨b168, g168⟩ : ∃ z, z = h146.size := ⟨_, rfl⟩
    rw [← g168] at A168 D168 st168
    have gb168 : n0 ≤ b168 := Nat.le_trans f148 (Nat.le_of_eq g168.symm)
    have szb168_168 : h0.size ≤ b168 := Nat.le_trans f152.1 (Nat.le_of_eq g168.symm)
    have F_text_b168 : Fld Z h168 b168 "com/example/sequence_dispenser/sequencedispenser/core/SequenceName" "text" "Ljava/lang/String;" .null := D168 (Or.inr (hw _ (List.mem_of_getElem? (i := 93) rfl))) (ty := (.object "java/lang/String")) (by decide)
    have c169 : Goes p e below s₁ (entryFrame m #[(.ref a1)] 3) T168 (mkF m 109 #[.val (.ref a1), .val (.int (Int32.ofNat i154)), .unset] [(.ref b168)]) := fun t kk => c167 t (st168 t kk)
    have f170 := (Nat.le_trans f148 E168.1)
    have c171 : Goes p e below s₁ (entryFrame m #[(.ref a1)] 3) T168 (mkF m 111 #[.val (.ref a1), .val (.int (Int32.ofNat i154)), .unset] [(.ref a1), (.ref b168), (.ref b168)]) := by
      intro t kk
      refine c169 t ?_
      show Steps p.tables e below (T168.setTop (mkF m 109 #[.val (.ref a1), .val (.int (Int32.ofNat i154)), .unset] [(.ref b168)])) t
      refine XS.dup X168.here hx rfl (hb hby d8_109) rfl rfl ?_
      show Steps p.tables e below (T168.setTop (mkF m 110 #[.val (.ref a1), .val (.int (Int32.ofNat i154)), .unset] [(.ref b168), (.ref b168)])) t
      refine XS.aloadN X168.here hx rfl (hb hby d8_110) rfl rfl ?_
      exact kk
    obtain ⟨_, _, ⟨T172, L172, k172, n172⟩, -, X172, ⟨Lc172, hQ172, l172, y172, z172⟩, st172⟩ := X168.specialBack hx (y := (⟨"com/example/sequence_dispenser/sequencedispenser/core/SequenceName", "<init>", "(Ljava/lang/String;)V"⟩ : MethodName)) rfl ho146 (mvT hZ146 (hw _ (List.mem_of_getElem? (i := 88) rfl))) (mvT hZ146 (hw _ (List.mem_of_getElem? (i := 89) rfl))) (mvT hZ146 (hw _ (List.mem_of_getElem? (i := 90) rfl))) (by decide) (backOf (W := 1) (rm_ini l Z a0 hw [] b168 a1 h168 n0 f170 F_text_b168 A168 gb168) hZ146 (hw _ (List.mem_of_getElem? (i := 90) rfl)) (hw _ (List.mem_of_getElem? (i := 37) rfl)) (by decide) (by decide)) (g := (mkF m 111 #[.val (.ref a1), .val (.int (Int32.ofNat i154)), .unset] [(.ref a1), (.ref b168), (.ref b168)])) rfl (by rw [hml]; rfl) (Steps.refl _) (a := b168) (argsL := [(.ref a1)]) (rest := [(.ref b168)]) (lenOf pd__Ljava_lang_String__V rfl) rfl (by show 2 * 0 + _ ≤ _; exact Nat.le_of_eq rfl) (hb hby d8_111) (fun _ _ => ⟨rfl, e168, (by decide : 3 + 0 ≤ _), (by decide : 21 + 0 ≤ _)⟩)
    dsimp only [Pt.U, Pt.locs, Pt.cells, Pt.slots] at X172 l172 y172 z172 st172 hQ172
    subst l172 y172 z172
    obtain ⟨rfl, Nq172, Kq172, Eq172, Fq172⟩ := hQ172
    have N172 := Fr.app N165 Nq172
    have c173 : Goes p e below s₁ (entryFrame m #[(.ref a1)] 3) T172 (mkF m 114 #[.val (.ref a1), .val (.int (Int32.ofNat i154)), .unset] [(.ref b168)]) := fun t kk => c171 t (st172.trans kk)
    have f174 := ((f152.ext E168).trans Kq172 (allS (Or.inr szb168_168) all0))
    have f175 := (Nat.le_trans (Nat.le_trans hk146 E168.1) Kq172.1)
    obtain ⟨fs, hr, hrun, hended, hRW⟩ := X172.leaveW S146 f175 (v := some (.ref b168)) (fun h => by rw [Bd.returns] at h; cases h)
    refine ⟨_, _, c173 _ ?_, hrun, hended, _, _, rfl, ?_, hRW.1, hRW.2.1, hRW.2.2.1, hRW.2.2.2.mono (by decide) (by decide)⟩
    · exact retOut X172 hx Bd.returns rfl (Or.inr (Or.inr (Or.inr (Or.inr ⟨rfl, rfl, rfl⟩)))) (hb hby d8_114) hr
    · show Q_of Z a1 cs z fm h0 n0 _ T172.heap _
      exact ⟨b168, rfl, N172, f174, Eq172, Fq172⟩
  · intro k154 T154 ⟨i154, Lx154, hi154, N154, X154, e154, c154⟩ ih154
    obtain ⟨sE176, sC176, sp176, st176_t, kb176, sV176, sK176⟩ := id hs1
    have c177 : Goes p e below s₁ (entryFrame m #[(.ref a1)] 3) T154 (mkF m 11 #[.val (.ref a1), .val (.int (Int32.ofNat i154)), .unset] [(.ref a1), (.int (Int32.ofNat i154))]) := by
      intro t kk
      refine c154 t ?_
      show Steps p.tables e below (T154.setTop (mkF m 9 #[.val (.ref a1), .val (.int (Int32.ofNat i154)), .unset] [])) t
      refine XS.iloadN X154.here hx rfl (hb hby d8_9) rfl ?_
      show Steps p.tables e below (T154.setTop (mkF m 10 #[.val (.ref a1), .val (.int (Int32.ofNat i154)), .unset] [(.int (Int32.ofNat i154))])) t
      refine XS.aloadN X154.here hx rfl (hb hby d8_10) rfl rfl ?_
      exact kk
    obtain ⟨cq178, kq178, q178a, q178b, q178c⟩ := isOf hZ146 e154 sE176
    obtain ⟨_, _, ⟨T178, L178, k178, n178⟩, -, X178, ⟨Lc178, hQ178, l178, y178, z178⟩, st178⟩ := X154.virtualBack hx (y := (⟨"java/lang/String", "length", "()I"⟩ : MethodName)) (z := (⟨"java/lang/String", "length", "()I"⟩ : MethodName)) ho146 (mvT hZ146 (hw _ (List.mem_of_getElem? (i := 46) rfl))) (mvT hZ146 (hw _ (List.mem_of_getElem? (i := 47) rfl))) (notFace_of_selects (args := #[]) (mvT hZ146 (hw _ (List.mem_of_getElem? (i := 49) rfl)))) (mvT hZ146 (hw _ (List.mem_of_getElem? (i := 49) rfl))) (mvT hZ146 (hw _ (List.mem_of_getElem? (i := 48) rfl))) (by decide) (StrChars.Road.lenW (W := 1) hZ146 (own_wlen hw) (kI := 4) (hw _ (List.mem_of_getElem? (i := 7) rfl)) sE176 sV176 sC176 sK176 (StrChars.Road.codOf rfl (fun c hc => (sp176 c hc).2)) (own_up sp176) (S2.ext f151.2) hz hl2 (by decide) (by decide)) q178a q178c (g := (mkF m 11 #[.val (.ref a1), .val (.int (Int32.ofNat i154)), .unset] [(.ref a1), (.int (Int32.ofNat i154))])) rfl (by rw [hml]; rfl) (Steps.refl _) (argsL := []) (rest := [(.int (Int32.ofNat i154))]) (lenOf pd___I rfl) rfl (by show 2 * 0 + _ ≤ _; exact Nat.le_of_eq rfl) (hb hby d8_11) (fun _ _ => ⟨rfl, e154, (by decide : 2 + 0 ≤ _), (by decide : 20 + 0 ≤ _)⟩)
    dsimp only [Pt.U, Pt.locs, Pt.cells, Pt.slots] at X178 l178 y178 z178 st178 hQ178
    subst l178 y178 z178
    obtain ⟨rfl, hL178, eq178⟩ := hQ178
    have Nq178 : Fr n0 Lc178 := hL178 ▸ Fr.nil n0
    have N178 := Fr.app N154 Nq178
    have c179 : Goes p e below s₁ (entryFrame m #[(.ref a1)] 3) T178 (mkF m 14 #[.val (.ref a1), .val (.int (Int32.ofNat i154)), .unset] [(.int (Int32.ofNat (cs).length)), (.int (Int32.ofNat i154))]) := fun t kk => c177 t (st178.trans kk)
    have hi_ : i154 < cs.length := by omega
    obtain ⟨sE180, sC180, sp180, st180_t, kb180, sV180, sK180⟩ := id hs1
    have c181 : Goes p e below s₁ (entryFrame m #[(.ref a1)] 3) T178 (mkF m 19 #[.val (.ref a1), .val (.int (Int32.ofNat i154)), .unset] [(.int (Int32.ofNat i154)), (.ref a1)]) := by
      intro t kk
      refine c179 t ?_
      show Steps p.tables e below (T178.setTop (mkF m 14 #[.val (.ref a1), .val (.int (Int32.ofNat i154)), .unset] [(.int (Int32.ofNat (cs).length)), (.int (Int32.ofNat i154))])) t
      refine XS.icmpNo X178.here hx rfl (hb hby d8_14) rfl (tlt (own_lt hi154 hl2)).2.1 ?_
      show Steps p.tables e below (T178.setTop (mkF m 17 #[.val (.ref a1), .val (.int (Int32.ofNat i154)), .unset] [])) t
      refine XS.aloadN X178.here hx rfl (hb hby d8_17) rfl rfl ?_
      show Steps p.tables e below (T178.setTop (mkF m 18 #[.val (.ref a1), .val (.int (Int32.ofNat i154)), .unset] [(.ref a1)])) t
      refine XS.iloadN X178.here hx rfl (hb hby d8_18) rfl ?_
      exact kk
    obtain ⟨cq182, kq182, q182a, q182b, q182c⟩ := isOf hZ146 eq178 sE180
    obtain ⟨_, _, ⟨T182, L182, k182, n182⟩, -, X182, ⟨Lc182, hQ182, l182, y182, z182⟩, st182⟩ := X178.virtualBack hx (y := (⟨"java/lang/String", "charAt", "(I)C"⟩ : MethodName)) (z := (⟨"java/lang/String", "charAt", "(I)C"⟩ : MethodName)) ho146 (mvT hZ146 (hw _ (List.mem_of_getElem? (i := 56) rfl))) (mvT hZ146 (hw _ (List.mem_of_getElem? (i := 57) rfl))) (notFace_of_selects (args := #[]) (mvT hZ146 (hw _ (List.mem_of_getElem? (i := 59) rfl)))) (mvT hZ146 (hw _ (List.mem_of_getElem? (i := 59) rfl))) (mvT hZ146 (hw _ (List.mem_of_getElem? (i := 58) rfl))) (by decide) (StrChars.Road.chN (W := 0) hZ146 (own_wchn hw) (kI := 4) (hw _ (List.mem_of_getElem? (i := 7) rfl)) sE180 sV180 sC180 sK180 (StrChars.Road.codOf rfl (fun c hc => (sp180 c hc).2)) (own_up sp180) (S2.ext f151.2) hz (S4.ext f151.2) hfm hl2 hi_ rfl (by decide) (by decide)) q182a q182c (g := (mkF m 19 #[.val (.ref a1), .val (.int (Int32.ofNat i154)), .unset] [(.int (Int32.ofNat i154)), (.ref a1)])) rfl (by rw [hml]; rfl) (Steps.refl _) (argsL := [(.int (Int32.ofNat i154))]) (rest := []) (lenOf pd__I_C rfl) rfl (by show 2 * 0 + _ ≤ _; exact Nat.le_of_eq rfl) (hb hby d8_19) (fun _ _ => ⟨rfl, eq178, (by decide : 2 + 0 ≤ _), (by decide : 20 + 0 ≤ _)⟩)
    dsimp only [Pt.U, Pt.locs, Pt.cells, Pt.slots] at X182 l182 y182 z182 st182 hQ182
    subst l182 y182 z182
    obtain ⟨rfl, hL182, eq182⟩ := hQ182
    have Nq182 : Fr n0 Lc182 := hL182 ▸ Fr.nil n0
    have N182 := Fr.app N178 Nq182
    have c183 : Goes p e below s₁ (entryFrame m #[(.ref a1)] 3) T182 (mkF m 22 #[.val (.ref a1), .val (.int (Int32.ofNat i154)), .unset] [(.int ((cs).getD i154 0))]) := fun t kk => c181 t (st182.trans kk)
    obtain ⟨_, _, ⟨T184, L184, k184, n184⟩, -, X184, ⟨Lc184, hQ184, l184, y184, z184⟩, st184⟩ := Jvm.LawKit.callS X182 hx (y := (⟨"com/example/sequence_dispenser/sequencedispenser/core/SequenceName", "isAllowed", "(C)Z"⟩ : MethodName)) ho146 (mvT hZ146 (hw _ (List.mem_of_getElem? (i := 78) rfl))) (mvT hZ146 (hw _ (List.mem_of_getElem? (i := 79) rfl))) (mvT hZ146 (hw _ (List.mem_of_getElem? (i := 37) rfl))) (mvT hZ146 (hw _ (List.mem_of_getElem? (i := 80) rfl))) (by decide) (backOf (W := 0) (rm_al l Z a0 hw [] ((cs).getD i154 0) h146 n0 f148) hZ146 (hw _ (List.mem_of_getElem? (i := 80) rfl)) (hw _ (List.mem_of_getElem? (i := 37) rfl)) (by decide) (by decide)) (g := (mkF m 22 #[.val (.ref a1), .val (.int (Int32.ofNat i154)), .unset] [(.int ((cs).getD i154 0))])) rfl (by rw [hml]; rfl) (argsL := [(.int ((cs).getD i154 0))]) (rest := []) (lenOf pd__C_Z rfl) rfl (by show 2 * 0 + _ ≤ _; exact Nat.le_of_eq rfl) (hb hby d8_22) (fun _ _ => ⟨rfl, eq182, (by decide : 2 + 0 ≤ _), (by decide : 20 + 0 ≤ _)⟩)
    dsimp only [Pt.U, Pt.locs, Pt.cells, Pt.slots] at X184 l184 y184 z184 st184 hQ184
    subst l184 y184 z184
    obtain ⟨rfl, Nq184, eq184⟩ := hQ184
    have N184 := Fr.app N182 Nq184
    have c185 : Goes p e below s₁ (entryFrame m #[(.ref a1)] 3) T184 (mkF m 25 #[.val (.ref a1), .val (.int (Int32.ofNat i154)), .unset] [(.int (own_al ((cs).getD i154 0)))]) := fun t kk => c183 t (st184 t kk)
    have c186 : Goes p e below s₁ (entryFrame m #[(.ref a1)] 3) T184 (mkF m 9 #[.val (.ref a1), .val (.int ((Int32.ofNat i154) + (1 : Int32))), .unset] []) := by
      intro t kk
      refine c185 t ?_
      show Steps p.tables e below (T184.setTop (mkF m 25 #[.val (.ref a1), .val (.int (Int32.ofNat i154)), .unset] [(.int (own_al ((cs).getD i154 0)))])) t
      refine XS.ifYes X184.here hx rfl (pc0 := 25) (pc' := 67) rfl (hb hby d8_25) rfl ((if0 _ _).trans (feq (hal _ (own_mem hi_))).2) (by decide) (by decide) ?_
      show Steps p.tables e below (T184.setTop (mkF m 67 #[.val (.ref a1), .val (.int (Int32.ofNat i154)), .unset] [])) t
      refine XS.iinc X184.here hx rfl (hb hby d8_67) rfl (l' := #[.val (.ref a1), .val (.int ((Int32.ofNat i154) + (1 : Int32))), .unset]) rfl ?_
      show Steps p.tables e below (T184.setTop (mkF m 70 #[.val (.ref a1), .val (.int ((Int32.ofNat i154) + (1 : Int32))), .unset] [])) t
      refine XS.goto X184.here hx rfl (pc0 := 70) (pc' := 9) rfl (hb hby d8_70) (by decide) (by decide) ?_
      exact kk
    exact ih154 _ ⟨i154 + 1, _, by omega, N184, X184, eq184, (by rw [inc_ofNat]; exact c186)⟩
theorem pd___C_V : parseMethodDescriptor "([C)V" = some ⟨[(.array .char)], none⟩ := by decide +kernel
theorem pd__Ljava_lang_String__Lcom_example_sequence_dispenser_sequencedispenser_core_SequenceName_ : parseMethodDescriptor "(Ljava/lang/String;)Lcom/example/sequence_dispenser/sequencedispenser/core/SequenceName;" = some ⟨[(.object "java/lang/String")], some (.object "com/example/sequence_dispenser/sequencedispenser/core/SequenceName")⟩ := by decide +kernel
theorem pd___Ljava_lang_String_ : parseMethodDescriptor "()Ljava/lang/String;" = some ⟨[], some (.object "java/lang/String")⟩ := by decide +kernel
theorem pd__Ljava_lang_Object__Z : parseMethodDescriptor "(Ljava/lang/Object;)Z" = some ⟨[(.object "java/lang/Object")], some .boolean⟩ := by decide +kernel
theorem ef_law (m : MethodId) (x0 : Int32) (x1 : Int32) (x2 : Int32) (x3 : Int32) (x4 : Int32) : entryFrame m #[(.int x0), (.int x1), (.int x2), (.int x3), (.int x4)] maxLocals = mkF m 0 #[.val (.int x0), .val (.int x1), .val (.int x2), .val (.int x3), .val (.int x4), .unset, .unset, .unset, .unset, .unset, .unset, .unset, .unset, .unset] [] := by (first | (simp [entryFrame, mkF, argsToLocals, Value.category, maxLocals]; done) | rfl)
def Q_law (Z : State) (p0 : Int32) (p1 : Int32) (p2 : Int32) (p3 : Int32) (p4 : Int32) (z : Int32) (fm : Value) (h0 : Heap) (n0 : Nat) (v : Option Value) (h : Heap) (L : List Loc) : Prop := v = some (.int 1) ∧ Fr n0 L
set_option maxRecDepth 65536 in
set_option maxHeartbeats 40000000 in
theorem rm_law (l : Launch) (Z : State) (a0 : Array Value) (hw : ∀ d ∈ tables_1, d.before a0 Z = true) (ws : List Jvm.Cond) (p0 : Int32) (p1 : Int32) (p2 : Int32) (p3 : Int32) (p4 : Int32) (z : Int32) (fm : Value) (h0 : Heap) (n0 : Nat) (Z0 : n0 ≤ h0.size) (O0 : Old Z n0 h0) (S2 : Sta Z Z.heap "java/lang/String" "COMPACT_STRINGS" "Z" (.int z)) (hz : ¬ z = 0) (S4 : Sta Z Z.heap "jdk/internal/util/Preconditions" "SIOOBE_FORMATTER" "Ljava/util/function/BiFunction;" fm) (hfm : fm.isRef = true) :
    MetFree l x (head1 (Jvm.Cond.code x code maxLocals ret :: ws) room_1) (fun a U => a = #[(.int p0), (.int p1), (.int p2), (.int p3), (.int p4)] ∧ Z.Warmed39 U.vm ∧ U.heap = h0) (fun _ _ _ _ _ => True) (fun _ U o U' => ∃ v L, o = .returned v ∧ Q_law Z p0 p1 p2 p3 p4 z fm h0 n0 v U'.heap L ∧ ReturnedEndW U o U' L 6 33) := by
  refine MetFree.of_bodySF (plainFor_of_name pn_1) hisR ?_
  intro p e s m args below meth c s₁ Bd hml0 hP hK
  obtain ⟨rfl, hZ, hh⟩ := hP
  have hx := Bd.exec
  have hby := Bd.bytes
  have hml : c.maxLocals = 14 := hml0
  have hown : s.vm.findClass "com/example/sequence_dispenser/sequencedispenser/core/SequenceNameOfPinLaw" = some m.cls := findClass_of_methodNamed Bd.named
  have hnm := (name_of_methodNamed Bd.named Bd.method).1
  have X0 : Stand p l e room_1 s m #[(.int p0), (.int p1), (.int p2), (.int p3), (.int p4)] below meth c s₁ [] 0 0 := Stand.of_body Bd
  have e0 : s₁.heap = h0 := by rw [← hh, Bd.state]; rfl
  have N0 := Fr.nil n0
  have c0 : Goes p e below s₁ (entryFrame m #[(.int p0), (.int p1), (.int p2), (.int p3), (.int p4)] maxLocals) s₁ (mkF m 0 #[.val (.int p0), .val (.int p1), .val (.int p2), .val (.int p3), .val (.int p4), .unset, .unset, .unset, .unset, .unset, .unset, .unset, .unset, .unset] []) := fun t k => castTop (ef_law m p0 p1 p2 p3 p4) k
  have XW0 : Stand p l e room_1 (s.setVm s.vm) m #[(.int p0), (.int p1), (.int p2), (.int p3), (.int p4)] below meth c s₁ [] 0 0 := X0
  have SW0 : s.Since s.vm 0 := (State.WarmedH.refl s).since 0
  have c187 : Goes p e below s₁ (entryFrame m #[(.int p0), (.int p1), (.int p2), (.int p3), (.int p4)] maxLocals) s₁ (mkF m 1 #[.val (.int p0), .val (.int p1), .val (.int p2), .val (.int p3), .val (.int p4), .unset, .unset, .unset, .unset, .unset, .unset, .unset, .unset, .unset] [(.int p0)]) := by
    intro t kk
    refine c0 t ?_
    show Steps p.tables e below (s₁.setTop (mkF m 0 #[.val (.int p0), .val (.int p1), .val (.int p2), .val (.int p3), .val (.int p4), .unset, .unset, .unset, .unset, .unset, .unset, .unset, .unset, .unset] [])) t
    refine XS.iloadN XW0.here hx rfl (hb hby at_0) rfl ?_
    exact kk
  obtain ⟨_, _, ⟨T188, L188, k188, n188⟩, -, X188, ⟨Lc188, hQ188, l188, y188, z188⟩, st188⟩ := Jvm.LawKit.callS XW0 hx (y := (⟨"com/example/sequence_dispenser/sequencedispenser/core/SequenceNameOfPinLaw", "pick", "(I)C"⟩ : MethodName)) hown (mvT hZ (hw _ (List.mem_of_getElem? (i := 0) rfl))) (mvT hZ (hw _ (List.mem_of_getElem? (i := 1) rfl))) (mvT hZ (hw _ (List.mem_of_getElem? (i := 2) rfl))) (mvT hZ (hw _ (List.mem_of_getElem? (i := 3) rfl))) (by decide) (backOf (W := 0) (rm_pick l Z a0 hw [] p0 h0 n0 Z0) hZ (hw _ (List.mem_of_getElem? (i := 3) rfl)) (hw _ (List.mem_of_getElem? (i := 2) rfl)) (by decide) (by decide)) (g := (mkF m 1 #[.val (.int p0), .val (.int p1), .val (.int p2), .val (.int p3), .val (.int p4), .unset, .unset, .unset, .unset, .unset, .unset, .unset, .unset, .unset] [(.int p0)])) rfl (by rw [hml]; rfl) (argsL := [(.int p0)]) (rest := []) (lenOf pd__I_C rfl) rfl (by show 2 * 0 + _ ≤ _; exact Nat.le_of_eq rfl) (hb hby at_1) (fun _ _ => ⟨rfl, e0, (by decide : 0 + 0 ≤ _), (by decide : 0 + 0 ≤ _)⟩)
  dsimp only [Pt.U, Pt.locs, Pt.cells, Pt.slots] at X188 l188 y188 z188 st188 hQ188
  subst l188 y188 z188
  obtain ⟨rfl, Nq188, eq188⟩ := hQ188
  have N188 := Fr.app N0 Nq188
  have c189 : Goes p e below s₁ (entryFrame m #[(.int p0), (.int p1), (.int p2), (.int p3), (.int p4)] maxLocals) T188 (mkF m 4 #[.val (.int p0), .val (.int p1), .val (.int p2), .val (.int p3), .val (.int p4), .unset, .unset, .unset, .unset, .unset, .unset, .unset, .unset, .unset] [(.int (own_pick p0))]) := fun t kk => c187 t (st188 t kk)
  have c190 : Goes p e below s₁ (entryFrame m #[(.int p0), (.int p1), (.int p2), (.int p3), (.int p4)] maxLocals) T188 (mkF m 7 #[.val (.int p0), .val (.int p1), .val (.int p2), .val (.int p3), .val (.int p4), .val (.int (own_pick p0)), .unset, .unset, .unset, .unset, .unset, .unset, .unset, .unset] [(.int p1)]) := by
    intro t kk
    refine c189 t ?_
    show Steps p.tables e below (T188.setTop (mkF m 4 #[.val (.int p0), .val (.int p1), .val (.int p2), .val (.int p3), .val (.int p4), .unset, .unset, .unset, .unset, .unset, .unset, .unset, .unset, .unset] [(.int (own_pick p0))])) t
    refine XS.istore X188.here hx rfl (hb hby at_4) rfl (l' := #[.val (.int p0), .val (.int p1), .val (.int p2), .val (.int p3), .val (.int p4), .val (.int (own_pick p0)), .unset, .unset, .unset, .unset, .unset, .unset, .unset, .unset]) rfl ?_
    show Steps p.tables e below (T188.setTop (mkF m 6 #[.val (.int p0), .val (.int p1), .val (.int p2), .val (.int p3), .val (.int p4), .val (.int (own_pick p0)), .unset, .unset, .unset, .unset, .unset, .unset, .unset, .unset] [])) t
    refine XS.iloadN X188.here hx rfl (hb hby at_6) rfl ?_
    exact kk
  obtain ⟨_, _, ⟨T191, L191, k191, n191⟩, -, X191, ⟨Lc191, hQ191, l191, y191, z191⟩, st191⟩ := Jvm.LawKit.callS X188 hx (y := (⟨"com/example/sequence_dispenser/sequencedispenser/core/SequenceNameOfPinLaw", "pick", "(I)C"⟩ : MethodName)) hown (mvT hZ (hw _ (List.mem_of_getElem? (i := 0) rfl))) (mvT hZ (hw _ (List.mem_of_getElem? (i := 1) rfl))) (mvT hZ (hw _ (List.mem_of_getElem? (i := 2) rfl))) (mvT hZ (hw _ (List.mem_of_getElem? (i := 3) rfl))) (by decide) (backOf (W := 0) (rm_pick l Z a0 hw [] p1 h0 n0 Z0) hZ (hw _ (List.mem_of_getElem? (i := 3) rfl)) (hw _ (List.mem_of_getElem? (i := 2) rfl)) (by decide) (by decide)) (g := (mkF m 7 #[.val (.int p0), .val (.int p1), .val (.int p2), .val (.int p3), .val (.int p4), .val (.int (own_pick p0)), .unset, .unset, .unset, .unset, .unset, .unset, .unset, .unset] [(.int p1)])) rfl (by rw [hml]; rfl) (argsL := [(.int p1)]) (rest := []) (lenOf pd__I_C rfl) rfl (by show 2 * 0 + _ ≤ _; exact Nat.le_of_eq rfl) (hb hby at_7) (fun _ _ => ⟨rfl, eq188, (by decide : 0 + 0 ≤ _), (by decide : 0 + 0 ≤ _)⟩)
  dsimp only [Pt.U, Pt.locs, Pt.cells, Pt.slots] at X191 l191 y191 z191 st191 hQ191
  subst l191 y191 z191
  obtain ⟨rfl, Nq191, eq191⟩ := hQ191
  have N191 := Fr.app N188 Nq191
  have c192 : Goes p e below s₁ (entryFrame m #[(.int p0), (.int p1), (.int p2), (.int p3), (.int p4)] maxLocals) T191 (mkF m 10 #[.val (.int p0), .val (.int p1), .val (.int p2), .val (.int p3), .val (.int p4), .val (.int (own_pick p0)), .unset, .unset, .unset, .unset, .unset, .unset, .unset, .unset] [(.int (own_pick p1))]) := fun t kk => c190 t (st191 t kk)
  have c193 : Goes p e below s₁ (entryFrame m #[(.int p0), (.int p1), (.int p2), (.int p3), (.int p4)] maxLocals) T191 (mkF m 13 #[.val (.int p0), .val (.int p1), .val (.int p2), .val (.int p3), .val (.int p4), .val (.int (own_pick p0)), .val (.int (own_pick p1)), .unset, .unset, .unset, .unset, .unset, .unset, .unset] [(.int p2)]) := by
    intro t kk
    refine c192 t ?_
    show Steps p.tables e below (T191.setTop (mkF m 10 #[.val (.int p0), .val (.int p1), .val (.int p2), .val (.int p3), .val (.int p4), .val (.int (own_pick p0)), .unset, .unset, .unset, .unset, .unset, .unset, .unset, .unset] [(.int (own_pick p1))])) t
    refine XS.istore X191.here hx rfl (hb hby at_10) rfl (l' := #[.val (.int p0), .val (.int p1), .val (.int p2), .val (.int p3), .val (.int p4), .val (.int (own_pick p0)), .val (.int (own_pick p1)), .unset, .unset, .unset, .unset, .unset, .unset, .unset]) rfl ?_
    show Steps p.tables e below (T191.setTop (mkF m 12 #[.val (.int p0), .val (.int p1), .val (.int p2), .val (.int p3), .val (.int p4), .val (.int (own_pick p0)), .val (.int (own_pick p1)), .unset, .unset, .unset, .unset, .unset, .unset, .unset] [])) t
    refine XS.iloadN X191.here hx rfl (hb hby at_12) rfl ?_
    exact kk
  obtain ⟨_, _, ⟨T194, L194, k194, n194⟩, -, X194, ⟨Lc194, hQ194, l194, y194, z194⟩, st194⟩ := Jvm.LawKit.callS X191 hx (y := (⟨"com/example/sequence_dispenser/sequencedispenser/core/SequenceNameOfPinLaw", "pick", "(I)C"⟩ : MethodName)) hown (mvT hZ (hw _ (List.mem_of_getElem? (i := 0) rfl))) (mvT hZ (hw _ (List.mem_of_getElem? (i := 1) rfl))) (mvT hZ (hw _ (List.mem_of_getElem? (i := 2) rfl))) (mvT hZ (hw _ (List.mem_of_getElem? (i := 3) rfl))) (by decide) (backOf (W := 0) (rm_pick l Z a0 hw [] p2 h0 n0 Z0) hZ (hw _ (List.mem_of_getElem? (i := 3) rfl)) (hw _ (List.mem_of_getElem? (i := 2) rfl)) (by decide) (by decide)) (g := (mkF m 13 #[.val (.int p0), .val (.int p1), .val (.int p2), .val (.int p3), .val (.int p4), .val (.int (own_pick p0)), .val (.int (own_pick p1)), .unset, .unset, .unset, .unset, .unset, .unset, .unset] [(.int p2)])) rfl (by rw [hml]; rfl) (argsL := [(.int p2)]) (rest := []) (lenOf pd__I_C rfl) rfl (by show 2 * 0 + _ ≤ _; exact Nat.le_of_eq rfl) (hb hby at_13) (fun _ _ => ⟨rfl, eq191, (by decide : 0 + 0 ≤ _), (by decide : 0 + 0 ≤ _)⟩)
  dsimp only [Pt.U, Pt.locs, Pt.cells, Pt.slots] at X194 l194 y194 z194 st194 hQ194
  subst l194 y194 z194
  obtain ⟨rfl, Nq194, eq194⟩ := hQ194
  have N194 := Fr.app N191 Nq194
  have c195 : Goes p e below s₁ (entryFrame m #[(.int p0), (.int p1), (.int p2), (.int p3), (.int p4)] maxLocals) T194 (mkF m 16 #[.val (.int p0), .val (.int p1), .val (.int p2), .val (.int p3), .val (.int p4), .val (.int (own_pick p0)), .val (.int (own_pick p1)), .unset, .unset, .unset, .unset, .unset, .unset, .unset] [(.int (own_pick p2))]) := fun t kk => c193 t (st194 t kk)
  have c196 : Goes p e below s₁ (entryFrame m #[(.int p0), (.int p1), (.int p2), (.int p3), (.int p4)] maxLocals) T194 (mkF m 19 #[.val (.int p0), .val (.int p1), .val (.int p2), .val (.int p3), .val (.int p4), .val (.int (own_pick p0)), .val (.int (own_pick p1)), .val (.int (own_pick p2)), .unset, .unset, .unset, .unset, .unset, .unset] [(.int p3)]) := by
    intro t kk
    refine c195 t ?_
    show Steps p.tables e below (T194.setTop (mkF m 16 #[.val (.int p0), .val (.int p1), .val (.int p2), .val (.int p3), .val (.int p4), .val (.int (own_pick p0)), .val (.int (own_pick p1)), .unset, .unset, .unset, .unset, .unset, .unset, .unset] [(.int (own_pick p2))])) t
    refine XS.istore X194.here hx rfl (hb hby at_16) rfl (l' := #[.val (.int p0), .val (.int p1), .val (.int p2), .val (.int p3), .val (.int p4), .val (.int (own_pick p0)), .val (.int (own_pick p1)), .val (.int (own_pick p2)), .unset, .unset, .unset, .unset, .unset, .unset]) rfl ?_
    show Steps p.tables e below (T194.setTop (mkF m 18 #[.val (.int p0), .val (.int p1), .val (.int p2), .val (.int p3), .val (.int p4), .val (.int (own_pick p0)), .val (.int (own_pick p1)), .val (.int (own_pick p2)), .unset, .unset, .unset, .unset, .unset, .unset] [])) t
    refine XS.iloadN X194.here hx rfl (hb hby at_18) rfl ?_
    exact kk
  obtain ⟨_, _, ⟨T197, L197, k197, n197⟩, -, X197, ⟨Lc197, hQ197, l197, y197, z197⟩, st197⟩ := Jvm.LawKit.callS X194 hx (y := (⟨"com/example/sequence_dispenser/sequencedispenser/core/SequenceNameOfPinLaw", "pick", "(I)C"⟩ : MethodName)) hown (mvT hZ (hw _ (List.mem_of_getElem? (i := 0) rfl))) (mvT hZ (hw _ (List.mem_of_getElem? (i := 1) rfl))) (mvT hZ (hw _ (List.mem_of_getElem? (i := 2) rfl))) (mvT hZ (hw _ (List.mem_of_getElem? (i := 3) rfl))) (by decide) (backOf (W := 0) (rm_pick l Z a0 hw [] p3 h0 n0 Z0) hZ (hw _ (List.mem_of_getElem? (i := 3) rfl)) (hw _ (List.mem_of_getElem? (i := 2) rfl)) (by decide) (by decide)) (g := (mkF m 19 #[.val (.int p0), .val (.int p1), .val (.int p2), .val (.int p3), .val (.int p4), .val (.int (own_pick p0)), .val (.int (own_pick p1)), .val (.int (own_pick p2)), .unset, .unset, .unset, .unset, .unset, .unset] [(.int p3)])) rfl (by rw [hml]; rfl) (argsL := [(.int p3)]) (rest := []) (lenOf pd__I_C rfl) rfl (by show 2 * 0 + _ ≤ _; exact Nat.le_of_eq rfl) (hb hby at_19) (fun _ _ => ⟨rfl, eq194, (by decide : 0 + 0 ≤ _), (by decide : 0 + 0 ≤ _)⟩)
  dsimp only [Pt.U, Pt.locs, Pt.cells, Pt.slots] at X197 l197 y197 z197 st197 hQ197
  subst l197 y197 z197
  obtain ⟨rfl, Nq197, eq197⟩ := hQ197
  have N197 := Fr.app N194 Nq197
  have c198 : Goes p e below s₁ (entryFrame m #[(.int p0), (.int p1), (.int p2), (.int p3), (.int p4)] maxLocals) T197 (mkF m 22 #[.val (.int p0), .val (.int p1), .val (.int p2), .val (.int p3), .val (.int p4), .val (.int (own_pick p0)), .val (.int (own_pick p1)), .val (.int (own_pick p2)), .unset, .unset, .unset, .unset, .unset, .unset] [(.int (own_pick p3))]) := fun t kk => c196 t (st197 t kk)
  have c199 : Goes p e below s₁ (entryFrame m #[(.int p0), (.int p1), (.int p2), (.int p3), (.int p4)] maxLocals) T197 (mkF m 32 #[.val (.int p0), .val (.int p1), .val (.int p2), .val (.int p3), .val (.int p4), .val (.int (own_pick p0)), .val (.int (own_pick p1)), .val (.int (own_pick p2)), .val (.int (own_pick p3)), .val (.int ((p4 &&& (3 : Int32)) + (1 : Int32))), .unset, .unset, .unset, .unset] []) := by
    intro t kk
    refine c198 t ?_
    show Steps p.tables e below (T197.setTop (mkF m 22 #[.val (.int p0), .val (.int p1), .val (.int p2), .val (.int p3), .val (.int p4), .val (.int (own_pick p0)), .val (.int (own_pick p1)), .val (.int (own_pick p2)), .unset, .unset, .unset, .unset, .unset, .unset] [(.int (own_pick p3))])) t
    refine XS.istore X197.here hx rfl (hb hby at_22) rfl (l' := #[.val (.int p0), .val (.int p1), .val (.int p2), .val (.int p3), .val (.int p4), .val (.int (own_pick p0)), .val (.int (own_pick p1)), .val (.int (own_pick p2)), .val (.int (own_pick p3)), .unset, .unset, .unset, .unset, .unset]) rfl ?_
    show Steps p.tables e below (T197.setTop (mkF m 24 #[.val (.int p0), .val (.int p1), .val (.int p2), .val (.int p3), .val (.int p4), .val (.int (own_pick p0)), .val (.int (own_pick p1)), .val (.int (own_pick p2)), .val (.int (own_pick p3)), .unset, .unset, .unset, .unset, .unset] [])) t
    refine XS.iload X197.here hx rfl (hb hby at_24) rfl ?_
    show Steps p.tables e below (T197.setTop (mkF m 26 #[.val (.int p0), .val (.int p1), .val (.int p2), .val (.int p3), .val (.int p4), .val (.int (own_pick p0)), .val (.int (own_pick p1)), .val (.int (own_pick p2)), .val (.int (own_pick p3)), .unset, .unset, .unset, .unset, .unset] [(.int p4)])) t
    refine XS.iconst X197.here hx rfl (hb hby at_26) ?_
    show Steps p.tables e below (T197.setTop (mkF m 27 #[.val (.int p0), .val (.int p1), .val (.int p2), .val (.int p3), .val (.int p4), .val (.int (own_pick p0)), .val (.int (own_pick p1)), .val (.int (own_pick p2)), .val (.int (own_pick p3)), .unset, .unset, .unset, .unset, .unset] [(.int (3 : Int32)), (.int p4)])) t
    refine XS.iand X197.here hx rfl (hb hby at_27) rfl ?_
    show Steps p.tables e below (T197.setTop (mkF m 28 #[.val (.int p0), .val (.int p1), .val (.int p2), .val (.int p3), .val (.int p4), .val (.int (own_pick p0)), .val (.int (own_pick p1)), .val (.int (own_pick p2)), .val (.int (own_pick p3)), .unset, .unset, .unset, .unset, .unset] [(.int (p4 &&& (3 : Int32)))])) t
    refine XS.iconst X197.here hx rfl (hb hby at_28) ?_
    show Steps p.tables e below (T197.setTop (mkF m 29 #[.val (.int p0), .val (.int p1), .val (.int p2), .val (.int p3), .val (.int p4), .val (.int (own_pick p0)), .val (.int (own_pick p1)), .val (.int (own_pick p2)), .val (.int (own_pick p3)), .unset, .unset, .unset, .unset, .unset] [(.int (1 : Int32)), (.int (p4 &&& (3 : Int32)))])) t
    refine XS.iadd X197.here hx rfl (hb hby at_29) rfl ?_
    show Steps p.tables e below (T197.setTop (mkF m 30 #[.val (.int p0), .val (.int p1), .val (.int p2), .val (.int p3), .val (.int p4), .val (.int (own_pick p0)), .val (.int (own_pick p1)), .val (.int (own_pick p2)), .val (.int (own_pick p3)), .unset, .unset, .unset, .unset, .unset] [(.int ((p4 &&& (3 : Int32)) + (1 : Int32)))])) t
    refine XS.istore X197.here hx rfl (hb hby at_30) rfl (l' := #[.val (.int p0), .val (.int p1), .val (.int p2), .val (.int p3), .val (.int p4), .val (.int (own_pick p0)), .val (.int (own_pick p1)), .val (.int (own_pick p2)), .val (.int (own_pick p3)), .val (.int ((p4 &&& (3 : Int32)) + (1 : Int32))), .unset, .unset, .unset, .unset]) rfl ?_
    exact kk
  obtain ⟨nn, h_nn⟩ : ∃ z : Int32, z = ((p4 &&& (3 : Int32)) + (1 : Int32)) := ⟨_, rfl⟩
  have c200 : Goes p e below s₁ (entryFrame m #[(.int p0), (.int p1), (.int p2), (.int p3), (.int p4)] maxLocals) T197 (mkF m 32 #[.val (.int p0), .val (.int p1), .val (.int p2), .val (.int p3), .val (.int p4), .val (.int (own_pick p0)), .val (.int (own_pick p1)), .val (.int (own_pick p2)), .val (.int (own_pick p3)), .val (.int nn), .unset, .unset, .unset, .unset] []) := by rw [h_nn]; exact c199
  have c201 : Goes p e below s₁ (entryFrame m #[(.int p0), (.int p1), (.int p2), (.int p3), (.int p4)] maxLocals) T197 (mkF m 35 #[.val (.int p0), .val (.int p1), .val (.int p2), .val (.int p3), .val (.int p4), .val (.int (own_pick p0)), .val (.int (own_pick p1)), .val (.int (own_pick p2)), .val (.int (own_pick p3)), .val (.int nn), .unset, .unset, .unset, .unset] [(.int (1 : Int32)), (.int nn)]) := by
    intro t kk
    refine c200 t ?_
    show Steps p.tables e below (T197.setTop (mkF m 32 #[.val (.int p0), .val (.int p1), .val (.int p2), .val (.int p3), .val (.int p4), .val (.int (own_pick p0)), .val (.int (own_pick p1)), .val (.int (own_pick p2)), .val (.int (own_pick p3)), .val (.int nn), .unset, .unset, .unset, .unset] [])) t
    refine XS.iload X197.here hx rfl (hb hby at_32) rfl ?_
    show Steps p.tables e below (T197.setTop (mkF m 34 #[.val (.int p0), .val (.int p1), .val (.int p2), .val (.int p3), .val (.int p4), .val (.int (own_pick p0)), .val (.int (own_pick p1)), .val (.int (own_pick p2)), .val (.int (own_pick p3)), .val (.int nn), .unset, .unset, .unset, .unset] [(.int nn)])) t
    refine XS.iconst X197.here hx rfl (hb hby at_34) ?_
    exact kk
  by_cases h35 : nn = (1 : Int32)
  · have c202 : Goes p e below s₁ (entryFrame m #[(.int p0), (.int p1), (.int p2), (.int p3), (.int p4)] maxLocals) T197 (mkF m 39 #[.val (.int p0), .val (.int p1), .val (.int p2), .val (.int p3), .val (.int p4), .val (.int (own_pick p0)), .val (.int (own_pick p1)), .val (.int (own_pick p2)), .val (.int (own_pick p3)), .val (.int nn), .unset, .unset, .unset, .unset] [(.int (1 : Int32))]) := by
      intro t kk
      refine c201 t ?_
      show Steps p.tables e below (T197.setTop (mkF m 35 #[.val (.int p0), .val (.int p1), .val (.int p2), .val (.int p3), .val (.int p4), .val (.int (own_pick p0)), .val (.int (own_pick p1)), .val (.int (own_pick p2)), .val (.int (own_pick p3)), .val (.int nn), .unset, .unset, .unset, .unset] [(.int (1 : Int32)), (.int nn)])) t
      refine XS.icmpNo X197.here hx rfl (hb hby at_35) rfl (teq h35).2 ?_
      show Steps p.tables e below (T197.setTop (mkF m 38 #[.val (.int p0), .val (.int p1), .val (.int p2), .val (.int p3), .val (.int p4), .val (.int (own_pick p0)), .val (.int (own_pick p1)), .val (.int (own_pick p2)), .val (.int (own_pick p3)), .val (.int nn), .unset, .unset, .unset, .unset] [])) t
      refine XS.iconst X197.here hx rfl (hb hby at_38) ?_
      exact kk
    obtain ⟨T203, h203, k203, X203, e203, E203, A203, st203⟩ := newP X197 hx hZ (hw _ (List.mem_of_getElem? (i := 5) rfl)) eq197 (g := (mkF m 39 #[.val (.int p0), .val (.int p1), .val (.int p2), .val (.int p3), .val (.int p4), .val (.int (own_pick p0)), .val (.int (own_pick p1)), .val (.int (own_pick p2)), .val (.int (own_pick p3)), .val (.int nn), .unset, .unset, .unset, .unset] [(.int (1 : Int32))])) rfl (hb hby at_39) rfl (by decide) (cap := 1) (by decide) (by decide) (by decide) (by decide)
    obtain ⟨b203, g203⟩ : ∃ z, z = h0.size := ⟨_, rfl⟩
    rw [← g203] at A203 st203
    have gb203 : n0 ≤ b203 := Nat.le_trans Z0 (Nat.le_of_eq g203.symm)
    have V203 : Arv Z h203 b203 k203 .char (1 : Int32) [(.int (0 : Int32))] (.int (0 : Int32)) := (Arv.new A203 (by decide)).pad (pad_rep [] (.int (0 : Int32)) 1)
    have c204 : Goes p e below s₁ (entryFrame m #[(.int p0), (.int p1), (.int p2), (.int p3), (.int p4)] maxLocals) T203 (mkF m 41 #[.val (.int p0), .val (.int p1), .val (.int p2), .val (.int p3), .val (.int p4), .val (.int (own_pick p0)), .val (.int (own_pick p1)), .val (.int (own_pick p2)), .val (.int (own_pick p3)), .val (.int nn), .unset, .unset, .unset, .unset] [(.ref b203)]) := fun t kk => c202 t (st203 t kk)
    have c205 : Goes p e below s₁ (entryFrame m #[(.int p0), (.int p1), (.int p2), (.int p3), (.int p4)] maxLocals) T203 (mkF m 45 #[.val (.int p0), .val (.int p1), .val (.int p2), .val (.int p3), .val (.int p4), .val (.int (own_pick p0)), .val (.int (own_pick p1)), .val (.int (own_pick p2)), .val (.int (own_pick p3)), .val (.int nn), .unset, .unset, .unset, .unset] [(.int (own_pick p0)), (.int (0 : Int32)), (.ref b203), (.ref b203)]) := by
      intro t kk
      refine c204 t ?_
      show Steps p.tables e below (T203.setTop (mkF m 41 #[.val (.int p0), .val (.int p1), .val (.int p2), .val (.int p3), .val (.int p4), .val (.int (own_pick p0)), .val (.int (own_pick p1)), .val (.int (own_pick p2)), .val (.int (own_pick p3)), .val (.int nn), .unset, .unset, .unset, .unset] [(.ref b203)])) t
      refine XS.dup X203.here hx rfl (hb hby at_41) rfl rfl ?_
      show Steps p.tables e below (T203.setTop (mkF m 42 #[.val (.int p0), .val (.int p1), .val (.int p2), .val (.int p3), .val (.int p4), .val (.int (own_pick p0)), .val (.int (own_pick p1)), .val (.int (own_pick p2)), .val (.int (own_pick p3)), .val (.int nn), .unset, .unset, .unset, .unset] [(.ref b203), (.ref b203)])) t
      refine XS.iconst X203.here hx rfl (hb hby at_42) ?_
      show Steps p.tables e below (T203.setTop (mkF m 43 #[.val (.int p0), .val (.int p1), .val (.int p2), .val (.int p3), .val (.int p4), .val (.int (own_pick p0)), .val (.int (own_pick p1)), .val (.int (own_pick p2)), .val (.int (own_pick p3)), .val (.int nn), .unset, .unset, .unset, .unset] [(.int (0 : Int32)), (.ref b203), (.ref b203)])) t
      refine XS.iload X203.here hx rfl (hb hby at_43) rfl ?_
      exact kk
    obtain ⟨cl206, Ar206, q206, Sz206, Nn206, Hh206, Gg206⟩ := id V203
    have hin206 : ¬ ((0 : Int32) < 0 ∨ cl206.slots.size ≤ ((0 : Int32)).toNatClampNeg) := inb_of Sz206 ⟨by decide, by decide⟩
    obtain ⟨T206, h206, X206, e206, W206, st206⟩ := stC X203 hx hZ e203 Ar206 (j := (0 : Int32)) hin206 (g := (mkF m 45 #[.val (.int p0), .val (.int p1), .val (.int p2), .val (.int p3), .val (.int p4), .val (.int (own_pick p0)), .val (.int (own_pick p1)), .val (.int (own_pick p2)), .val (.int (own_pick p3)), .val (.int nn), .unset, .unset, .unset, .unset] [(.int (own_pick p0)), (.int (0 : Int32)), (.ref b203), (.ref b203)])) rfl rfl (hb hby at_45)
    have V206 := Arv.set Ar206 q206 Sz206 Nn206 Hh206 Gg206 (fits_nar_char _) W206 0 rfl (Nat.le_of_ble_eq_true rfl)
    have N206 := Fr.snoc X206 N197 gb203
    have c207 : Goes p e below s₁ (entryFrame m #[(.int p0), (.int p1), (.int p2), (.int p3), (.int p4)] maxLocals) T206 (mkF m 46 #[.val (.int p0), .val (.int p1), .val (.int p2), .val (.int p3), .val (.int p4), .val (.int (own_pick p0)), .val (.int (own_pick p1)), .val (.int (own_pick p2)), .val (.int (own_pick p3)), .val (.int nn), .unset, .unset, .unset, .unset] [(.ref b203)]) := fun t kk => c205 t (st206 t kk)
    have c208 : Goes p e below s₁ (entryFrame m #[(.int p0), (.int p1), (.int p2), (.int p3), (.int p4)] maxLocals) T206 (mkF m 129 #[.val (.int p0), .val (.int p1), .val (.int p2), .val (.int p3), .val (.int p4), .val (.int (own_pick p0)), .val (.int (own_pick p1)), .val (.int (own_pick p2)), .val (.int (own_pick p3)), .val (.int nn), .val (.ref b203), .unset, .unset, .unset] []) := by
      intro t kk
      refine c207 t ?_
      show Steps p.tables e below (T206.setTop (mkF m 46 #[.val (.int p0), .val (.int p1), .val (.int p2), .val (.int p3), .val (.int p4), .val (.int (own_pick p0)), .val (.int (own_pick p1)), .val (.int (own_pick p2)), .val (.int (own_pick p3)), .val (.int nn), .unset, .unset, .unset, .unset] [(.ref b203)])) t
      refine XS.astore X206.here hx rfl (hb hby at_46) rfl rfl (l' := #[.val (.int p0), .val (.int p1), .val (.int p2), .val (.int p3), .val (.int p4), .val (.int (own_pick p0)), .val (.int (own_pick p1)), .val (.int (own_pick p2)), .val (.int (own_pick p3)), .val (.int nn), .val (.ref b203), .unset, .unset, .unset]) rfl ?_
      show Steps p.tables e below (T206.setTop (mkF m 48 #[.val (.int p0), .val (.int p1), .val (.int p2), .val (.int p3), .val (.int p4), .val (.int (own_pick p0)), .val (.int (own_pick p1)), .val (.int (own_pick p2)), .val (.int (own_pick p3)), .val (.int nn), .val (.ref b203), .unset, .unset, .unset] [])) t
      refine XS.goto X206.here hx rfl (pc0 := 48) (pc' := 129) rfl (hb hby at_48) (by decide) (by decide) ?_
      exact kk
    obtain ⟨T209, h209, X209, e209, E209, A209, D209, -, st209⟩ := newO X206 hx hZ hown (hw _ (List.mem_of_getElem? (i := 6) rfl)) (hw _ (List.mem_of_getElem? (i := 7) rfl)) (hw _ (List.mem_of_getElem? (i := 8) rfl)) e206 (g := (mkF m 129 #[.val (.int p0), .val (.int p1), .val (.int p2), .val (.int p3), .val (.int p4), .val (.int (own_pick p0)), .val (.int (own_pick p1)), .val (.int (own_pick p2)), .val (.int (own_pick p3)), .val (.int nn), .val (.ref b203), .unset, .unset, .unset] [])) rfl (hb hby at_129) (by decide) (by decide)
    obtain ⟨b209, g209⟩ : ∃ z, z = h206.size := ⟨_, rfl⟩
    rw [← g209] at A209 D209 st209
    have f210 := (Nat.le_trans (Nat.le_trans Z0 E203.1) (Keep.of_wr W206).1)
    have gb209 : n0 ≤ b209 := Nat.le_trans f210 (Nat.le_of_eq g209.symm)
    have neb203_209 : b203 ≠ b209 := Nat.ne_of_lt (Nat.lt_of_lt_of_le V206.lt (Nat.le_of_eq g209.symm))
    have F_coder_b209 : Fld Z h209 b209 "java/lang/String" "coder" "B" (.int (0 : Int32)) := D209 (Or.inr (hw _ (List.mem_of_getElem? (i := 32) rfl))) (ty := .byte) (by decide)
    have F_value_b209 : Fld Z h209 b209 "java/lang/String" "value" "[B" .null := D209 (Or.inr (hw _ (List.mem_of_getElem? (i := 34) rfl))) (ty := (.array .byte)) (by decide)
    have c211 : Goes p e below s₁ (entryFrame m #[(.int p0), (.int p1), (.int p2), (.int p3), (.int p4)] maxLocals) T209 (mkF m 132 #[.val (.int p0), .val (.int p1), .val (.int p2), .val (.int p3), .val (.int p4), .val (.int (own_pick p0)), .val (.int (own_pick p1)), .val (.int (own_pick p2)), .val (.int (own_pick p3)), .val (.int nn), .val (.ref b203), .unset, .unset, .unset] [(.ref b209)]) := fun t kk => c208 t (st209 t kk)
    have f212 := (((O0.ext E203).wr W206 gb203).ext E209)
    have f213 := (Nat.le_trans f210 E209.1)
    have f214 := (V206.ext E209)
    have c215 : Goes p e below s₁ (entryFrame m #[(.int p0), (.int p1), (.int p2), (.int p3), (.int p4)] maxLocals) T209 (mkF m 135 #[.val (.int p0), .val (.int p1), .val (.int p2), .val (.int p3), .val (.int p4), .val (.int (own_pick p0)), .val (.int (own_pick p1)), .val (.int (own_pick p2)), .val (.int (own_pick p3)), .val (.int nn), .val (.ref b203), .unset, .unset, .unset] [(.ref b203), (.ref b209), (.ref b209)]) := by
      intro t kk
      refine c211 t ?_
      show Steps p.tables e below (T209.setTop (mkF m 132 #[.val (.int p0), .val (.int p1), .val (.int p2), .val (.int p3), .val (.int p4), .val (.int (own_pick p0)), .val (.int (own_pick p1)), .val (.int (own_pick p2)), .val (.int (own_pick p3)), .val (.int nn), .val (.ref b203), .unset, .unset, .unset] [(.ref b209)])) t
      refine XS.dup X209.here hx rfl (hb hby at_132) rfl rfl ?_
      show Steps p.tables e below (T209.setTop (mkF m 133 #[.val (.int p0), .val (.int p1), .val (.int p2), .val (.int p3), .val (.int p4), .val (.int (own_pick p0)), .val (.int (own_pick p1)), .val (.int (own_pick p2)), .val (.int (own_pick p3)), .val (.int nn), .val (.ref b203), .unset, .unset, .unset] [(.ref b209), (.ref b209)])) t
      refine XS.aload X209.here hx rfl (hb hby at_133) rfl rfl ?_
      exact kk
    obtain ⟨_, _, ⟨T216, L216, k216, n216⟩, -, X216, ⟨Lc216, hQ216, l216, y216, z216⟩, st216⟩ := X209.specialBack hx (y := (⟨"java/lang/String", "<init>", "([C)V"⟩ : MethodName)) rfl hown (mvT hZ (hw _ (List.mem_of_getElem? (i := 9) rfl))) (mvT hZ (hw _ (List.mem_of_getElem? (i := 10) rfl))) (mvT hZ (hw _ (List.mem_of_getElem? (i := 11) rfl))) (by decide) (StrChars.Road.backV (W := 1) hZ (own_wmk hw) (kI := 4) (hw _ (List.mem_of_getElem? (i := 7) rfl)) (cs := ([(nar .char (own_pick p0))] : List Int32)) (bs := (([(nar .char (own_pick p0))] : List Int32)).map StrChars.lo8) (n := 1) gb209 f213 A209 F_value_b209 F_coder_b209 f214 (S2.ext f212.2) hz rfl rfl (by decide) (by decide) (by intro c hc; simp only [List.mem_cons, List.not_mem_nil, or_false] at hc; rcases hc with rfl <;> exact (own_ok _).2) rfl (by decide) (by decide)) (g := (mkF m 135 #[.val (.int p0), .val (.int p1), .val (.int p2), .val (.int p3), .val (.int p4), .val (.int (own_pick p0)), .val (.int (own_pick p1)), .val (.int (own_pick p2)), .val (.int (own_pick p3)), .val (.int nn), .val (.ref b203), .unset, .unset, .unset] [(.ref b203), (.ref b209), (.ref b209)])) rfl (by rw [hml]; rfl) (Steps.refl _) (a := b209) (argsL := [(.ref b203)]) (rest := [(.ref b209)]) (lenOf pd___C_V rfl) rfl (by show 2 * 0 + _ ≤ _; exact Nat.le_of_eq rfl) (hb hby at_135) (fun _ _ => ⟨rfl, e209, (by decide : 2 + 1 ≤ _), (by decide : 5 + 1 ≤ _)⟩)
    dsimp only [Pt.U, Pt.locs, Pt.cells, Pt.slots] at X216 l216 y216 z216 st216 hQ216
    subst l216 y216 z216
    obtain ⟨rfl, Nq216, Kq216, Eq216, Cq216, t216, kb216, gt216, szt216, net216, Vq216, Aq216⟩ := hQ216
    have N216 := Fr.app N206 Nq216
    have c217 : Goes p e below s₁ (entryFrame m #[(.int p0), (.int p1), (.int p2), (.int p3), (.int p4)] maxLocals) T216 (mkF m 138 #[.val (.int p0), .val (.int p1), .val (.int p2), .val (.int p3), .val (.int p4), .val (.int (own_pick p0)), .val (.int (own_pick p1)), .val (.int (own_pick p2)), .val (.int (own_pick p3)), .val (.int nn), .val (.ref b203), .unset, .unset, .unset] [(.ref b209)]) := fun t kk => c215 t (st216.trans kk)
    have Str216 : own_str Z T216.heap b209 ([(nar .char (own_pick p0))] : List Int32) := ⟨Eq216, Cq216, (by intro c hc; simp only [List.mem_cons, List.not_mem_nil, or_false] at hc; rcases hc with rfl <;> exact (own_ok _).2), t216, kb216, Vq216, Aq216⟩
    have f218 := (Nat.le_trans f213 Kq216.1)
    have f219 := (f212.keep Kq216 (allS gb209 all0))
    have c220 : Goes p e below s₁ (entryFrame m #[(.int p0), (.int p1), (.int p2), (.int p3), (.int p4)] maxLocals) T216 (mkF m 142 #[.val (.int p0), .val (.int p1), .val (.int p2), .val (.int p3), .val (.int p4), .val (.int (own_pick p0)), .val (.int (own_pick p1)), .val (.int (own_pick p2)), .val (.int (own_pick p3)), .val (.int nn), .val (.ref b203), .val (.ref b209), .unset, .unset] [(.ref b209)]) := by
      intro t kk
      refine c217 t ?_
      show Steps p.tables e below (T216.setTop (mkF m 138 #[.val (.int p0), .val (.int p1), .val (.int p2), .val (.int p3), .val (.int p4), .val (.int (own_pick p0)), .val (.int (own_pick p1)), .val (.int (own_pick p2)), .val (.int (own_pick p3)), .val (.int nn), .val (.ref b203), .unset, .unset, .unset] [(.ref b209)])) t
      refine XS.astore X216.here hx rfl (hb hby at_138) rfl rfl (l' := #[.val (.int p0), .val (.int p1), .val (.int p2), .val (.int p3), .val (.int p4), .val (.int (own_pick p0)), .val (.int (own_pick p1)), .val (.int (own_pick p2)), .val (.int (own_pick p3)), .val (.int nn), .val (.ref b203), .val (.ref b209), .unset, .unset]) rfl ?_
      show Steps p.tables e below (T216.setTop (mkF m 140 #[.val (.int p0), .val (.int p1), .val (.int p2), .val (.int p3), .val (.int p4), .val (.int (own_pick p0)), .val (.int (own_pick p1)), .val (.int (own_pick p2)), .val (.int (own_pick p3)), .val (.int nn), .val (.ref b203), .val (.ref b209), .unset, .unset] [])) t
      refine XS.aload X216.here hx rfl (hb hby at_140) rfl rfl ?_
      exact kk
    obtain ⟨_, _, ⟨T221, L221, k221, n221⟩, -, XX221, SS221, gr221, ⟨Lc221, hQ221, l221, y221, z221⟩, st221⟩ := callSS X216 hx (y := (⟨"com/example/sequence_dispenser/sequencedispenser/core/SequenceName", "of", "(Ljava/lang/String;)Lcom/example/sequence_dispenser/sequencedispenser/core/SequenceName;"⟩ : MethodName)) hown (mvT hZ (hw _ (List.mem_of_getElem? (i := 35) rfl))) (mvT hZ (hw _ (List.mem_of_getElem? (i := 36) rfl))) (mvT hZ (hw _ (List.mem_of_getElem? (i := 37) rfl))) (mvT hZ (hw _ (List.mem_of_getElem? (i := 38) rfl))) (by decide) (backOfS (W := 0) (rm_of l Z a0 hw [] b209 ([(nar .char (own_pick p0))] : List Int32) z fm T216.heap n0 f218 f219 S2 hz S4 hfm Str216 (by intro c hc; simp only [List.mem_cons, List.not_mem_nil, or_false] at hc; rcases hc with rfl <;> exact (own_ok _).1) (Nat.le_of_ble_eq_true rfl) (Nat.le_of_ble_eq_true rfl)) hZ (hw _ (List.mem_of_getElem? (i := 38) rfl)) (hw _ (List.mem_of_getElem? (i := 37) rfl)) (by decide) (by decide)) (g := (mkF m 142 #[.val (.int p0), .val (.int p1), .val (.int p2), .val (.int p3), .val (.int p4), .val (.int (own_pick p0)), .val (.int (own_pick p1)), .val (.int (own_pick p2)), .val (.int (own_pick p3)), .val (.int nn), .val (.ref b203), .val (.ref b209), .unset, .unset] [(.ref b209)])) rfl (by rw [hml]; rfl) (argsL := [(.ref b209)]) (rest := []) (lenOf pd__Ljava_lang_String__Lcom_example_sequence_dispenser_sequencedispenser_core_SequenceName_ rfl) rfl (by show 2 * 0 + _ ≤ _; exact Nat.le_of_eq rfl) (hb hby at_142) (fun _ _ => ⟨rfl, rfl, (by decide : 3 + 3 ≤ _), (by decide : 6 + 21 ≤ _)⟩)
    have f222 := (Nat.le_trans (Nat.le_trans (Nat.le_trans (Nat.le_trans (Nat.zero_le _) E203.1) (Keep.of_wr W206).1) E209.1) Kq216.1)
    obtain ⟨X221, S221, hZ221, ho221⟩ := rebS SW0 f222 XX221 SS221 gr221 hZ hown
    dsimp only [Pt.U, Pt.locs, Pt.cells, Pt.slots] at S221 hZ221 ho221 X221 l221 y221 z221 st221 hQ221
    subst l221 y221 z221
    obtain ⟨b221, rfl, Nq221, Kq221, Eq221, Fq221⟩ := hQ221
    have N221 := Fr.app N216 Nq221
    have c223 : Goes p e below s₁ (entryFrame m #[(.int p0), (.int p1), (.int p2), (.int p3), (.int p4)] maxLocals) T221 (mkF m 145 #[.val (.int p0), .val (.int p1), .val (.int p2), .val (.int p3), .val (.int p4), .val (.int (own_pick p0)), .val (.int (own_pick p1)), .val (.int (own_pick p2)), .val (.int (own_pick p3)), .val (.int nn), .val (.ref b203), .val (.ref b209), .unset, .unset] [(.ref b221)]) := fun t kk => c220 t (st221.trans kk)
    have Sk221 := own_skeep Str216 Kq221
    have f224 := (Nat.le_trans f218 Kq221.1)
    have c225 : Goes p e below s₁ (entryFrame m #[(.int p0), (.int p1), (.int p2), (.int p3), (.int p4)] maxLocals) T221 (mkF m 149 #[.val (.int p0), .val (.int p1), .val (.int p2), .val (.int p3), .val (.int p4), .val (.int (own_pick p0)), .val (.int (own_pick p1)), .val (.int (own_pick p2)), .val (.int (own_pick p3)), .val (.int nn), .val (.ref b203), .val (.ref b209), .val (.ref b221), .unset] [(.ref b221)]) := by
      intro t kk
      refine c223 t ?_
      show Steps p.tables e below (T221.setTop (mkF m 145 #[.val (.int p0), .val (.int p1), .val (.int p2), .val (.int p3), .val (.int p4), .val (.int (own_pick p0)), .val (.int (own_pick p1)), .val (.int (own_pick p2)), .val (.int (own_pick p3)), .val (.int nn), .val (.ref b203), .val (.ref b209), .unset, .unset] [(.ref b221)])) t
      refine XS.astore X221.here hx rfl (hb hby at_145) rfl rfl (l' := #[.val (.int p0), .val (.int p1), .val (.int p2), .val (.int p3), .val (.int p4), .val (.int (own_pick p0)), .val (.int (own_pick p1)), .val (.int (own_pick p2)), .val (.int (own_pick p3)), .val (.int nn), .val (.ref b203), .val (.ref b209), .val (.ref b221), .unset]) rfl ?_
      show Steps p.tables e below (T221.setTop (mkF m 147 #[.val (.int p0), .val (.int p1), .val (.int p2), .val (.int p3), .val (.int p4), .val (.int (own_pick p0)), .val (.int (own_pick p1)), .val (.int (own_pick p2)), .val (.int (own_pick p3)), .val (.int nn), .val (.ref b203), .val (.ref b209), .val (.ref b221), .unset] [])) t
      refine XS.aload X221.here hx rfl (hb hby at_147) rfl rfl ?_
      exact kk
    obtain ⟨cq226, kq226, q226a, q226b, q226c⟩ := isOf hZ221 rfl Eq221
    obtain ⟨_, _, ⟨T226, L226, k226, n226⟩, -, X226, ⟨Lc226, hQ226, l226, y226, z226⟩, st226⟩ := X221.virtualBack hx (y := (⟨"com/example/sequence_dispenser/sequencedispenser/core/SequenceName", "getText", "()Ljava/lang/String;"⟩ : MethodName)) (z := (⟨"com/example/sequence_dispenser/sequencedispenser/core/SequenceName", "getText", "()Ljava/lang/String;"⟩ : MethodName)) ho221 (mvT hZ221 (hw _ (List.mem_of_getElem? (i := 94) rfl))) (mvT hZ221 (hw _ (List.mem_of_getElem? (i := 95) rfl))) (notFace_of_selects (args := #[]) (mvT hZ221 (hw _ (List.mem_of_getElem? (i := 97) rfl)))) (mvT hZ221 (hw _ (List.mem_of_getElem? (i := 97) rfl))) (mvT hZ221 (hw _ (List.mem_of_getElem? (i := 96) rfl))) (by decide) (backOf (W := 0) (rm_gt l Z a0 hw [] b221 b209 T221.heap n0 f224 Fq221) hZ221 (hw _ (List.mem_of_getElem? (i := 98) rfl)) (hw _ (List.mem_of_getElem? (i := 37) rfl)) (by decide) (by decide)) q226a q226c (g := (mkF m 149 #[.val (.int p0), .val (.int p1), .val (.int p2), .val (.int p3), .val (.int p4), .val (.int (own_pick p0)), .val (.int (own_pick p1)), .val (.int (own_pick p2)), .val (.int (own_pick p3)), .val (.int nn), .val (.ref b203), .val (.ref b209), .val (.ref b221), .unset] [(.ref b221)])) rfl (by rw [hml]; rfl) (Steps.refl _) (argsL := []) (rest := []) (lenOf pd___Ljava_lang_String_ rfl) rfl (by show 2 * 0 + _ ≤ _; exact Nat.le_of_eq rfl) (hb hby at_149) (fun _ _ => ⟨rfl, rfl, (by decide : 6 + 0 ≤ _), (by decide : 27 + 0 ≤ _)⟩)
    dsimp only [Pt.U, Pt.locs, Pt.cells, Pt.slots] at X226 l226 y226 z226 st226 hQ226
    subst l226 y226 z226
    obtain ⟨rfl, Nq226, eq226⟩ := hQ226
    have N226 := Fr.app N221 Nq226
    have c227 : Goes p e below s₁ (entryFrame m #[(.int p0), (.int p1), (.int p2), (.int p3), (.int p4)] maxLocals) T226 (mkF m 152 #[.val (.int p0), .val (.int p1), .val (.int p2), .val (.int p3), .val (.int p4), .val (.int (own_pick p0)), .val (.int (own_pick p1)), .val (.int (own_pick p2)), .val (.int (own_pick p3)), .val (.int nn), .val (.ref b203), .val (.ref b209), .val (.ref b221), .unset] [(.ref b209)]) := fun t kk => c225 t (st226.trans kk)
    have f228 := (f219.keep Kq221 all0)
    obtain ⟨sE229, sC229, sp229, st229_t, kb229, sV229, sK229⟩ := id Sk221
    have c230 : Goes p e below s₁ (entryFrame m #[(.int p0), (.int p1), (.int p2), (.int p3), (.int p4)] maxLocals) T226 (mkF m 156 #[.val (.int p0), .val (.int p1), .val (.int p2), .val (.int p3), .val (.int p4), .val (.int (own_pick p0)), .val (.int (own_pick p1)), .val (.int (own_pick p2)), .val (.int (own_pick p3)), .val (.int nn), .val (.ref b203), .val (.ref b209), .val (.ref b221), .val (.ref b209)] [(.ref b209)]) := by
      intro t kk
      refine c227 t ?_
      show Steps p.tables e below (T226.setTop (mkF m 152 #[.val (.int p0), .val (.int p1), .val (.int p2), .val (.int p3), .val (.int p4), .val (.int (own_pick p0)), .val (.int (own_pick p1)), .val (.int (own_pick p2)), .val (.int (own_pick p3)), .val (.int nn), .val (.ref b203), .val (.ref b209), .val (.ref b221), .unset] [(.ref b209)])) t
      refine XS.astore X226.here hx rfl (hb hby at_152) rfl rfl (l' := #[.val (.int p0), .val (.int p1), .val (.int p2), .val (.int p3), .val (.int p4), .val (.int (own_pick p0)), .val (.int (own_pick p1)), .val (.int (own_pick p2)), .val (.int (own_pick p3)), .val (.int nn), .val (.ref b203), .val (.ref b209), .val (.ref b221), .val (.ref b209)]) rfl ?_
      show Steps p.tables e below (T226.setTop (mkF m 154 #[.val (.int p0), .val (.int p1), .val (.int p2), .val (.int p3), .val (.int p4), .val (.int (own_pick p0)), .val (.int (own_pick p1)), .val (.int (own_pick p2)), .val (.int (own_pick p3)), .val (.int nn), .val (.ref b203), .val (.ref b209), .val (.ref b221), .val (.ref b209)] [])) t
      refine XS.aload X226.here hx rfl (hb hby at_154) rfl rfl ?_
      exact kk
    obtain ⟨cq231, kq231, q231a, q231b, q231c⟩ := isOf hZ221 eq226 sE229
    obtain ⟨_, _, ⟨T231, L231, k231, n231⟩, -, X231, ⟨Lc231, hQ231, l231, y231, z231⟩, st231⟩ := X226.virtualBack hx (y := (⟨"java/lang/String", "length", "()I"⟩ : MethodName)) (z := (⟨"java/lang/String", "length", "()I"⟩ : MethodName)) ho221 (mvT hZ221 (hw _ (List.mem_of_getElem? (i := 99) rfl))) (mvT hZ221 (hw _ (List.mem_of_getElem? (i := 47) rfl))) (notFace_of_selects (args := #[]) (mvT hZ221 (hw _ (List.mem_of_getElem? (i := 49) rfl)))) (mvT hZ221 (hw _ (List.mem_of_getElem? (i := 49) rfl))) (mvT hZ221 (hw _ (List.mem_of_getElem? (i := 48) rfl))) (by decide) (StrChars.Road.lenW (W := 0) hZ221 (own_wlen hw) (kI := 4) (hw _ (List.mem_of_getElem? (i := 7) rfl)) sE229 sV229 sC229 sK229 (StrChars.Road.codOf rfl (fun c hc => (sp229 c hc).2)) (own_up sp229) (S2.ext f228.2) hz (Nat.le_of_ble_eq_true rfl) (by decide) (by decide)) q231a q231c (g := (mkF m 156 #[.val (.int p0), .val (.int p1), .val (.int p2), .val (.int p3), .val (.int p4), .val (.int (own_pick p0)), .val (.int (own_pick p1)), .val (.int (own_pick p2)), .val (.int (own_pick p3)), .val (.int nn), .val (.ref b203), .val (.ref b209), .val (.ref b221), .val (.ref b209)] [(.ref b209)])) rfl (by rw [hml]; rfl) (Steps.refl _) (argsL := []) (rest := []) (lenOf pd___I rfl) rfl (by show 2 * 0 + _ ≤ _; exact Nat.le_of_eq rfl) (hb hby at_156) (fun _ _ => ⟨rfl, eq226, (by decide : 6 + 0 ≤ _), (by decide : 27 + 0 ≤ _)⟩)
    dsimp only [Pt.U, Pt.locs, Pt.cells, Pt.slots] at X231 l231 y231 z231 st231 hQ231
    subst l231 y231 z231
    obtain ⟨rfl, hL231, eq231⟩ := hQ231
    have Nq231 : Fr n0 Lc231 := hL231 ▸ Fr.nil n0
    have N231 := Fr.app N226 Nq231
    have c232 : Goes p e below s₁ (entryFrame m #[(.int p0), (.int p1), (.int p2), (.int p3), (.int p4)] maxLocals) T231 (mkF m 159 #[.val (.int p0), .val (.int p1), .val (.int p2), .val (.int p3), .val (.int p4), .val (.int (own_pick p0)), .val (.int (own_pick p1)), .val (.int (own_pick p2)), .val (.int (own_pick p3)), .val (.int nn), .val (.ref b203), .val (.ref b209), .val (.ref b221), .val (.ref b209)] [(.int (Int32.ofNat (([(nar .char (own_pick p0))] : List Int32)).length))]) := fun t kk => c230 t (st231.trans kk)
    have f233 := (Eq216.keep Kq221)
    have c234 : Goes p e below s₁ (entryFrame m #[(.int p0), (.int p1), (.int p2), (.int p3), (.int p4)] maxLocals) T231 (mkF m 168 #[.val (.int p0), .val (.int p1), .val (.int p2), .val (.int p3), .val (.int p4), .val (.int (own_pick p0)), .val (.int (own_pick p1)), .val (.int (own_pick p2)), .val (.int (own_pick p3)), .val (.int nn), .val (.ref b203), .val (.ref b209), .val (.ref b221), .val (.ref b209)] [(.ref b209), (.ref b209)]) := by
      intro t kk
      refine c232 t ?_
      show Steps p.tables e below (T231.setTop (mkF m 159 #[.val (.int p0), .val (.int p1), .val (.int p2), .val (.int p3), .val (.int p4), .val (.int (own_pick p0)), .val (.int (own_pick p1)), .val (.int (own_pick p2)), .val (.int (own_pick p3)), .val (.int nn), .val (.ref b203), .val (.ref b209), .val (.ref b221), .val (.ref b209)] [(.int (Int32.ofNat (([(nar .char (own_pick p0))] : List Int32)).length))])) t
      refine XS.iload X231.here hx rfl (hb hby at_159) rfl ?_
      show Steps p.tables e below (T231.setTop (mkF m 161 #[.val (.int p0), .val (.int p1), .val (.int p2), .val (.int p3), .val (.int p4), .val (.int (own_pick p0)), .val (.int (own_pick p1)), .val (.int (own_pick p2)), .val (.int (own_pick p3)), .val (.int nn), .val (.ref b203), .val (.ref b209), .val (.ref b221), .val (.ref b209)] [(.int nn), (.int (Int32.ofNat (([(nar .char (own_pick p0))] : List Int32)).length))])) t
      refine XS.icmpNo X231.here hx rfl (hb hby at_161) rfl (teq (show Int32.ofNat 1 = nn from h35.symm)).2 ?_
      show Steps p.tables e below (T231.setTop (mkF m 164 #[.val (.int p0), .val (.int p1), .val (.int p2), .val (.int p3), .val (.int p4), .val (.int (own_pick p0)), .val (.int (own_pick p1)), .val (.int (own_pick p2)), .val (.int (own_pick p3)), .val (.int nn), .val (.ref b203), .val (.ref b209), .val (.ref b221), .val (.ref b209)] [])) t
      refine XS.aload X231.here hx rfl (hb hby at_164) rfl rfl ?_
      show Steps p.tables e below (T231.setTop (mkF m 166 #[.val (.int p0), .val (.int p1), .val (.int p2), .val (.int p3), .val (.int p4), .val (.int (own_pick p0)), .val (.int (own_pick p1)), .val (.int (own_pick p2)), .val (.int (own_pick p3)), .val (.int nn), .val (.ref b203), .val (.ref b209), .val (.ref b221), .val (.ref b209)] [(.ref b209)])) t
      refine XS.aload X231.here hx rfl (hb hby at_166) rfl rfl ?_
      exact kk
    obtain ⟨cq235, kq235, q235a, q235b, q235c⟩ := isOf hZ221 eq231 f233
    obtain ⟨_, _, ⟨T235, L235, k235, n235⟩, -, X235, ⟨Lc235, hQ235, l235, y235, z235⟩, st235⟩ := X231.virtualBack hx (y := (⟨"java/lang/String", "equals", "(Ljava/lang/Object;)Z"⟩ : MethodName)) (z := (⟨"java/lang/String", "equals", "(Ljava/lang/Object;)Z"⟩ : MethodName)) ho221 (mvT hZ221 (hw _ (List.mem_of_getElem? (i := 100) rfl))) (mvT hZ221 (hw _ (List.mem_of_getElem? (i := 101) rfl))) (notFace_of_selects (args := #[]) (mvT hZ221 (hw _ (List.mem_of_getElem? (i := 103) rfl)))) (mvT hZ221 (hw _ (List.mem_of_getElem? (i := 103) rfl))) (mvT hZ221 (hw _ (List.mem_of_getElem? (i := 102) rfl))) (by decide) (backOf (W := 0) (rm_eqs l Z a0 hw [] b209 T221.heap n0 f224) hZ221 (hw _ (List.mem_of_getElem? (i := 104) rfl)) (hw _ (List.mem_of_getElem? (i := 8) rfl)) (by decide) (by decide)) q235a q235c (g := (mkF m 168 #[.val (.int p0), .val (.int p1), .val (.int p2), .val (.int p3), .val (.int p4), .val (.int (own_pick p0)), .val (.int (own_pick p1)), .val (.int (own_pick p2)), .val (.int (own_pick p3)), .val (.int nn), .val (.ref b203), .val (.ref b209), .val (.ref b221), .val (.ref b209)] [(.ref b209), (.ref b209)])) rfl (by rw [hml]; rfl) (Steps.refl _) (argsL := [(.ref b209)]) (rest := []) (lenOf pd__Ljava_lang_Object__Z rfl) rfl (by show 2 * 0 + _ ≤ _; exact Nat.le_of_eq rfl) (hb hby at_168) (fun _ _ => ⟨rfl, eq231, (by decide : 6 + 0 ≤ _), (by decide : 27 + 0 ≤ _)⟩)
    dsimp only [Pt.U, Pt.locs, Pt.cells, Pt.slots] at X235 l235 y235 z235 st235 hQ235
    subst l235 y235 z235
    obtain ⟨rfl, Nq235, eq235⟩ := hQ235
    have N235 := Fr.app N231 Nq235
    have c236 : Goes p e below s₁ (entryFrame m #[(.int p0), (.int p1), (.int p2), (.int p3), (.int p4)] maxLocals) T235 (mkF m 171 #[.val (.int p0), .val (.int p1), .val (.int p2), .val (.int p3), .val (.int p4), .val (.int (own_pick p0)), .val (.int (own_pick p1)), .val (.int (own_pick p2)), .val (.int (own_pick p3)), .val (.int nn), .val (.ref b203), .val (.ref b209), .val (.ref b221), .val (.ref b209)] [(.int (1 : Int32))]) := fun t kk => c234 t (st235.trans kk)
    have c237 : Goes p e below s₁ (entryFrame m #[(.int p0), (.int p1), (.int p2), (.int p3), (.int p4)] maxLocals) T235 (mkF m 179 #[.val (.int p0), .val (.int p1), .val (.int p2), .val (.int p3), .val (.int p4), .val (.int (own_pick p0)), .val (.int (own_pick p1)), .val (.int (own_pick p2)), .val (.int (own_pick p3)), .val (.int nn), .val (.ref b203), .val (.ref b209), .val (.ref b221), .val (.ref b209)] [(.int (1 : Int32))]) := by
      intro t kk
      refine c236 t ?_
      show Steps p.tables e below (T235.setTop (mkF m 171 #[.val (.int p0), .val (.int p1), .val (.int p2), .val (.int p3), .val (.int p4), .val (.int (own_pick p0)), .val (.int (own_pick p1)), .val (.int (own_pick p2)), .val (.int (own_pick p3)), .val (.int nn), .val (.ref b203), .val (.ref b209), .val (.ref b221), .val (.ref b209)] [(.int (1 : Int32))])) t
      refine XS.ifNo X235.here hx rfl (hb hby at_171) rfl ((if0 _ _).trans (feq (by decide : ¬ ((1 : Int32) = (0 : Int32)))).1) ?_
      show Steps p.tables e below (T235.setTop (mkF m 174 #[.val (.int p0), .val (.int p1), .val (.int p2), .val (.int p3), .val (.int p4), .val (.int (own_pick p0)), .val (.int (own_pick p1)), .val (.int (own_pick p2)), .val (.int (own_pick p3)), .val (.int nn), .val (.ref b203), .val (.ref b209), .val (.ref b221), .val (.ref b209)] [])) t
      refine XS.iconst X235.here hx rfl (hb hby at_174) ?_
      show Steps p.tables e below (T235.setTop (mkF m 175 #[.val (.int p0), .val (.int p1), .val (.int p2), .val (.int p3), .val (.int p4), .val (.int (own_pick p0)), .val (.int (own_pick p1)), .val (.int (own_pick p2)), .val (.int (own_pick p3)), .val (.int nn), .val (.ref b203), .val (.ref b209), .val (.ref b221), .val (.ref b209)] [(.int (1 : Int32))])) t
      refine XS.goto X235.here hx rfl (pc0 := 175) (pc' := 179) rfl (hb hby at_175) (by decide) (by decide) ?_
      exact kk
    obtain ⟨fs, hr, hrun, hended, hRW⟩ := X235.leaveW S221 (by rw [eq235]; exact (Nat.le_refl _)) (v := some (.int (1 : Int32))) (fun h => by rw [Bd.returns] at h; cases h)
    refine ⟨_, _, c237 _ ?_, hrun, hended, _, _, rfl, ?_, hRW.1, hRW.2.1, hRW.2.2.1, hRW.2.2.2.mono (by decide) (by decide)⟩
    · exact retN X235 hx (t := .boolean) Bd.returns (by simp) (hb hby at_179) hr
    · show Q_law Z p0 p1 p2 p3 p4 z fm h0 n0 _ T235.heap _
      rw [eq235]
      exact ⟨rfl, N235⟩
  · have c238 : Goes p e below s₁ (entryFrame m #[(.int p0), (.int p1), (.int p2), (.int p3), (.int p4)] maxLocals) T197 (mkF m 54 #[.val (.int p0), .val (.int p1), .val (.int p2), .val (.int p3), .val (.int p4), .val (.int (own_pick p0)), .val (.int (own_pick p1)), .val (.int (own_pick p2)), .val (.int (own_pick p3)), .val (.int nn), .unset, .unset, .unset, .unset] [(.int (2 : Int32)), (.int nn)]) := by
      intro t kk
      refine c201 t ?_
      show Steps p.tables e below (T197.setTop (mkF m 35 #[.val (.int p0), .val (.int p1), .val (.int p2), .val (.int p3), .val (.int p4), .val (.int (own_pick p0)), .val (.int (own_pick p1)), .val (.int (own_pick p2)), .val (.int (own_pick p3)), .val (.int nn), .unset, .unset, .unset, .unset] [(.int (1 : Int32)), (.int nn)])) t
      refine XS.icmpYes X197.here hx rfl (pc0 := 35) (pc' := 51) rfl (hb hby at_35) rfl (feq h35).2 (by decide) (by decide) ?_
      show Steps p.tables e below (T197.setTop (mkF m 51 #[.val (.int p0), .val (.int p1), .val (.int p2), .val (.int p3), .val (.int p4), .val (.int (own_pick p0)), .val (.int (own_pick p1)), .val (.int (own_pick p2)), .val (.int (own_pick p3)), .val (.int nn), .unset, .unset, .unset, .unset] [])) t
      refine XS.iload X197.here hx rfl (hb hby at_51) rfl ?_
      show Steps p.tables e below (T197.setTop (mkF m 53 #[.val (.int p0), .val (.int p1), .val (.int p2), .val (.int p3), .val (.int p4), .val (.int (own_pick p0)), .val (.int (own_pick p1)), .val (.int (own_pick p2)), .val (.int (own_pick p3)), .val (.int nn), .unset, .unset, .unset, .unset] [(.int nn)])) t
      refine XS.iconst X197.here hx rfl (hb hby at_53) ?_
      exact kk
    by_cases h54 : nn = (2 : Int32)
    · have c239 : Goes p e below s₁ (entryFrame m #[(.int p0), (.int p1), (.int p2), (.int p3), (.int p4)] maxLocals) T197 (mkF m 58 #[.val (.int p0), .val (.int p1), .val (.int p2), .val (.int p3), .val (.int p4), .val (.int (own_pick p0)), .val (.int (own_pick p1)), .val (.int (own_pick p2)), .val (.int (own_pick p3)), .val (.int nn), .unset, .unset, .unset, .unset] [(.int (2 : Int32))]) := by
        intro t kk
        refine c238 t ?_
        show Steps p.tables e below (T197.setTop (mkF m 54 #[.val (.int p0), .val (.int p1), .val (.int p2), .val (.int p3), .val (.int p4), .val (.int (own_pick p0)), .val (.int (own_pick p1)), .val (.int (own_pick p2)), .val (.int (own_pick p3)), .val (.int nn), .unset, .unset, .unset, .unset] [(.int (2 : Int32)), (.int nn)])) t
        refine XS.icmpNo X197.here hx rfl (hb hby at_54) rfl (teq h54).2 ?_
        show Steps p.tables e below (T197.setTop (mkF m 57 #[.val (.int p0), .val (.int p1), .val (.int p2), .val (.int p3), .val (.int p4), .val (.int (own_pick p0)), .val (.int (own_pick p1)), .val (.int (own_pick p2)), .val (.int (own_pick p3)), .val (.int nn), .unset, .unset, .unset, .unset] [])) t
        refine XS.iconst X197.here hx rfl (hb hby at_57) ?_
        exact kk
      obtain ⟨T240, h240, k240, X240, e240, E240, A240, st240⟩ := newP X197 hx hZ (hw _ (List.mem_of_getElem? (i := 5) rfl)) eq197 (g := (mkF m 58 #[.val (.int p0), .val (.int p1), .val (.int p2), .val (.int p3), .val (.int p4), .val (.int (own_pick p0)), .val (.int (own_pick p1)), .val (.int (own_pick p2)), .val (.int (own_pick p3)), .val (.int nn), .unset, .unset, .unset, .unset] [(.int (2 : Int32))])) rfl (hb hby at_58) rfl (by decide) (cap := 2) (by decide) (by decide) (by decide) (by decide)
      obtain ⟨b240, g240⟩ : ∃ z, z = h0.size := ⟨_, rfl⟩
      rw [← g240] at A240 st240
      have gb240 : n0 ≤ b240 := Nat.le_trans Z0 (Nat.le_of_eq g240.symm)
      have V240 : Arv Z h240 b240 k240 .char (2 : Int32) [(.int (0 : Int32)), (.int (0 : Int32))] (.int (0 : Int32)) := (Arv.new A240 (by decide)).pad (pad_rep [] (.int (0 : Int32)) 2)
      have c241 : Goes p e below s₁ (entryFrame m #[(.int p0), (.int p1), (.int p2), (.int p3), (.int p4)] maxLocals) T240 (mkF m 60 #[.val (.int p0), .val (.int p1), .val (.int p2), .val (.int p3), .val (.int p4), .val (.int (own_pick p0)), .val (.int (own_pick p1)), .val (.int (own_pick p2)), .val (.int (own_pick p3)), .val (.int nn), .unset, .unset, .unset, .unset] [(.ref b240)]) := fun t kk => c239 t (st240 t kk)
      have c242 : Goes p e below s₁ (entryFrame m #[(.int p0), (.int p1), (.int p2), (.int p3), (.int p4)] maxLocals) T240 (mkF m 64 #[.val (.int p0), .val (.int p1), .val (.int p2), .val (.int p3), .val (.int p4), .val (.int (own_pick p0)), .val (.int (own_pick p1)), .val (.int (own_pick p2)), .val (.int (own_pick p3)), .val (.int nn), .unset, .unset, .unset, .unset] [(.int (own_pick p0)), (.int (0 : Int32)), (.ref b240), (.ref b240)]) := by
        intro t kk
        refine c241 t ?_
        show Steps p.tables e below (T240.setTop (mkF m 60 #[.val (.int p0), .val (.int p1), .val (.int p2), .val (.int p3), .val (.int p4), .val (.int (own_pick p0)), .val (.int (own_pick p1)), .val (.int (own_pick p2)), .val (.int (own_pick p3)), .val (.int nn), .unset, .unset, .unset, .unset] [(.ref b240)])) t
        refine XS.dup X240.here hx rfl (hb hby at_60) rfl rfl ?_
        show Steps p.tables e below (T240.setTop (mkF m 61 #[.val (.int p0), .val (.int p1), .val (.int p2), .val (.int p3), .val (.int p4), .val (.int (own_pick p0)), .val (.int (own_pick p1)), .val (.int (own_pick p2)), .val (.int (own_pick p3)), .val (.int nn), .unset, .unset, .unset, .unset] [(.ref b240), (.ref b240)])) t
        refine XS.iconst X240.here hx rfl (hb hby at_61) ?_
        show Steps p.tables e below (T240.setTop (mkF m 62 #[.val (.int p0), .val (.int p1), .val (.int p2), .val (.int p3), .val (.int p4), .val (.int (own_pick p0)), .val (.int (own_pick p1)), .val (.int (own_pick p2)), .val (.int (own_pick p3)), .val (.int nn), .unset, .unset, .unset, .unset] [(.int (0 : Int32)), (.ref b240), (.ref b240)])) t
        refine XS.iload X240.here hx rfl (hb hby at_62) rfl ?_
        exact kk
      obtain ⟨cl243, Ar243, q243, Sz243, Nn243, Hh243, Gg243⟩ := id V240
      have hin243 : ¬ ((0 : Int32) < 0 ∨ cl243.slots.size ≤ ((0 : Int32)).toNatClampNeg) := inb_of Sz243 ⟨by decide, by decide⟩
      obtain ⟨T243, h243, X243, e243, W243, st243⟩ := stC X240 hx hZ e240 Ar243 (j := (0 : Int32)) hin243 (g := (mkF m 64 #[.val (.int p0), .val (.int p1), .val (.int p2), .val (.int p3), .val (.int p4), .val (.int (own_pick p0)), .val (.int (own_pick p1)), .val (.int (own_pick p2)), .val (.int (own_pick p3)), .val (.int nn), .unset, .unset, .unset, .unset] [(.int (own_pick p0)), (.int (0 : Int32)), (.ref b240), (.ref b240)])) rfl rfl (hb hby at_64)
      have V243 := Arv.set Ar243 q243 Sz243 Nn243 Hh243 Gg243 (fits_nar_char _) W243 0 rfl (Nat.le_of_ble_eq_true rfl)
      have N243 := Fr.snoc X243 N197 gb240
      have c244 : Goes p e below s₁ (entryFrame m #[(.int p0), (.int p1), (.int p2), (.int p3), (.int p4)] maxLocals) T243 (mkF m 65 #[.val (.int p0), .val (.int p1), .val (.int p2), .val (.int p3), .val (.int p4), .val (.int (own_pick p0)), .val (.int (own_pick p1)), .val (.int (own_pick p2)), .val (.int (own_pick p3)), .val (.int nn), .unset, .unset, .unset, .unset] [(.ref b240)]) := fun t kk => c242 t (st243 t kk)
      have c245 : Goes p e below s₁ (entryFrame m #[(.int p0), (.int p1), (.int p2), (.int p3), (.int p4)] maxLocals) T243 (mkF m 69 #[.val (.int p0), .val (.int p1), .val (.int p2), .val (.int p3), .val (.int p4), .val (.int (own_pick p0)), .val (.int (own_pick p1)), .val (.int (own_pick p2)), .val (.int (own_pick p3)), .val (.int nn), .unset, .unset, .unset, .unset] [(.int (own_pick p1)), (.int (1 : Int32)), (.ref b240), (.ref b240)]) := by
        intro t kk
        refine c244 t ?_
        show Steps p.tables e below (T243.setTop (mkF m 65 #[.val (.int p0), .val (.int p1), .val (.int p2), .val (.int p3), .val (.int p4), .val (.int (own_pick p0)), .val (.int (own_pick p1)), .val (.int (own_pick p2)), .val (.int (own_pick p3)), .val (.int nn), .unset, .unset, .unset, .unset] [(.ref b240)])) t
        refine XS.dup X243.here hx rfl (hb hby at_65) rfl rfl ?_
        show Steps p.tables e below (T243.setTop (mkF m 66 #[.val (.int p0), .val (.int p1), .val (.int p2), .val (.int p3), .val (.int p4), .val (.int (own_pick p0)), .val (.int (own_pick p1)), .val (.int (own_pick p2)), .val (.int (own_pick p3)), .val (.int nn), .unset, .unset, .unset, .unset] [(.ref b240), (.ref b240)])) t
        refine XS.iconst X243.here hx rfl (hb hby at_66) ?_
        show Steps p.tables e below (T243.setTop (mkF m 67 #[.val (.int p0), .val (.int p1), .val (.int p2), .val (.int p3), .val (.int p4), .val (.int (own_pick p0)), .val (.int (own_pick p1)), .val (.int (own_pick p2)), .val (.int (own_pick p3)), .val (.int nn), .unset, .unset, .unset, .unset] [(.int (1 : Int32)), (.ref b240), (.ref b240)])) t
        refine XS.iload X243.here hx rfl (hb hby at_67) rfl ?_
        exact kk
      obtain ⟨cl246, Ar246, q246, Sz246, Nn246, Hh246, Gg246⟩ := id V243
      have hin246 : ¬ ((1 : Int32) < 0 ∨ cl246.slots.size ≤ ((1 : Int32)).toNatClampNeg) := inb_of Sz246 ⟨by decide, by decide⟩
      obtain ⟨T246, h246, X246, e246, W246, st246⟩ := stC X243 hx hZ e243 Ar246 (j := (1 : Int32)) hin246 (g := (mkF m 69 #[.val (.int p0), .val (.int p1), .val (.int p2), .val (.int p3), .val (.int p4), .val (.int (own_pick p0)), .val (.int (own_pick p1)), .val (.int (own_pick p2)), .val (.int (own_pick p3)), .val (.int nn), .unset, .unset, .unset, .unset] [(.int (own_pick p1)), (.int (1 : Int32)), (.ref b240), (.ref b240)])) rfl rfl (hb hby at_69)
      have V246 := Arv.set Ar246 q246 Sz246 Nn246 Hh246 Gg246 (fits_nar_char _) W246 1 rfl (Nat.le_of_ble_eq_true rfl)
      have N246 := Fr.snoc X246 N243 gb240
      have c247 : Goes p e below s₁ (entryFrame m #[(.int p0), (.int p1), (.int p2), (.int p3), (.int p4)] maxLocals) T246 (mkF m 70 #[.val (.int p0), .val (.int p1), .val (.int p2), .val (.int p3), .val (.int p4), .val (.int (own_pick p0)), .val (.int (own_pick p1)), .val (.int (own_pick p2)), .val (.int (own_pick p3)), .val (.int nn), .unset, .unset, .unset, .unset] [(.ref b240)]) := fun t kk => c245 t (st246 t kk)
      have c248 : Goes p e below s₁ (entryFrame m #[(.int p0), (.int p1), (.int p2), (.int p3), (.int p4)] maxLocals) T246 (mkF m 129 #[.val (.int p0), .val (.int p1), .val (.int p2), .val (.int p3), .val (.int p4), .val (.int (own_pick p0)), .val (.int (own_pick p1)), .val (.int (own_pick p2)), .val (.int (own_pick p3)), .val (.int nn), .val (.ref b240), .unset, .unset, .unset] []) := by
        intro t kk
        refine c247 t ?_
        show Steps p.tables e below (T246.setTop (mkF m 70 #[.val (.int p0), .val (.int p1), .val (.int p2), .val (.int p3), .val (.int p4), .val (.int (own_pick p0)), .val (.int (own_pick p1)), .val (.int (own_pick p2)), .val (.int (own_pick p3)), .val (.int nn), .unset, .unset, .unset, .unset] [(.ref b240)])) t
        refine XS.astore X246.here hx rfl (hb hby at_70) rfl rfl (l' := #[.val (.int p0), .val (.int p1), .val (.int p2), .val (.int p3), .val (.int p4), .val (.int (own_pick p0)), .val (.int (own_pick p1)), .val (.int (own_pick p2)), .val (.int (own_pick p3)), .val (.int nn), .val (.ref b240), .unset, .unset, .unset]) rfl ?_
        show Steps p.tables e below (T246.setTop (mkF m 72 #[.val (.int p0), .val (.int p1), .val (.int p2), .val (.int p3), .val (.int p4), .val (.int (own_pick p0)), .val (.int (own_pick p1)), .val (.int (own_pick p2)), .val (.int (own_pick p3)), .val (.int nn), .val (.ref b240), .unset, .unset, .unset] [])) t
        refine XS.goto X246.here hx rfl (pc0 := 72) (pc' := 129) rfl (hb hby at_72) (by decide) (by decide) ?_
        exact kk
      obtain ⟨T249, h249, X249, e249, E249, A249, D249, -, st249⟩ := newO X246 hx hZ hown (hw _ (List.mem_of_getElem? (i := 6) rfl)) (hw _ (List.mem_of_getElem? (i := 7) rfl)) (hw _ (List.mem_of_getElem? (i := 8) rfl)) e246 (g := (mkF m 129 #[.val (.int p0), .val (.int p1), .val (.int p2), .val (.int p3), .val (.int p4), .val (.int (own_pick p0)), .val (.int (own_pick p1)), .val (.int (own_pick p2)), .val (.int (own_pick p3)), .val (.int nn), .val (.ref b240), .unset, .unset, .unset] [])) rfl (hb hby at_129) (by decide) (by decide)
      obtain ⟨b249, g249⟩ : ∃ z, z = h246.size := ⟨_, rfl⟩
      rw [← g249] at A249 D249 st249
      have f250 := (Nat.le_trans (Nat.le_trans (Nat.le_trans Z0 E240.1) (Keep.of_wr W243).1) (Keep.of_wr W246).1)
      have gb249 : n0 ≤ b249 := Nat.le_trans f250 (Nat.le_of_eq g249.symm)
      have neb240_249 : b240 ≠ b249 := Nat.ne_of_lt (Nat.lt_of_lt_of_le V246.lt (Nat.le_of_eq g249.symm))
      have F_coder_b249 : Fld Z h249 b249 "java/lang/String" "coder" "B" (.int (0 : Int32)) := D249 (Or.inr (hw _ (List.mem_of_getElem? (i := 32) rfl))) (ty := .byte) (by decide)
      have F_value_b249 : Fld Z h249 b249 "java/lang/String" "value" "[B" .null := D249 (Or.inr (hw _ (List.mem_of_getElem? (i := 34) rfl))) (ty := (.array .byte)) (by decide)
      have c251 : Goes p e below s₁ (entryFrame m #[(.int p0), (.int p1), (.int p2), (.int p3), (.int p4)] maxLocals) T249 (mkF m 132 #[.val (.int p0), .val (.int p1), .val (.int p2), .val (.int p3), .val (.int p4), .val (.int (own_pick p0)), .val (.int (own_pick p1)), .val (.int (own_pick p2)), .val (.int (own_pick p3)), .val (.int nn), .val (.ref b240), .unset, .unset, .unset] [(.ref b249)]) := fun t kk => c248 t (st249 t kk)
      have f252 := ((((O0.ext E240).wr W243 gb240).wr W246 gb240).ext E249)
      have f253 := (Nat.le_trans f250 E249.1)
      have f254 := (V246.ext E249)
      have c255 : Goes p e below s₁ (entryFrame m #[(.int p0), (.int p1), (.int p2), (.int p3), (.int p4)] maxLocals) T249 (mkF m 135 #[.val (.int p0), .val (.int p1), .val (.int p2), .val (.int p3), .val (.int p4), .val (.int (own_pick p0)), .val (.int (own_pick p1)), .val (.int (own_pick p2)), .val (.int (own_pick p3)), .val (.int nn), .val (.ref b240), .unset, .unset, .unset] [(.ref b240), (.ref b249), (.ref b249)]) := by
        intro t kk
        refine c251 t ?_
        show Steps p.tables e below (T249.setTop (mkF m 132 #[.val (.int p0), .val (.int p1), .val (.int p2), .val (.int p3), .val (.int p4), .val (.int (own_pick p0)), .val (.int (own_pick p1)), .val (.int (own_pick p2)), .val (.int (own_pick p3)), .val (.int nn), .val (.ref b240), .unset, .unset, .unset] [(.ref b249)])) t
        refine XS.dup X249.here hx rfl (hb hby at_132) rfl rfl ?_
        show Steps p.tables e below (T249.setTop (mkF m 133 #[.val (.int p0), .val (.int p1), .val (.int p2), .val (.int p3), .val (.int p4), .val (.int (own_pick p0)), .val (.int (own_pick p1)), .val (.int (own_pick p2)), .val (.int (own_pick p3)), .val (.int nn), .val (.ref b240), .unset, .unset, .unset] [(.ref b249), (.ref b249)])) t
        refine XS.aload X249.here hx rfl (hb hby at_133) rfl rfl ?_
        exact kk
      obtain ⟨_, _, ⟨T256, L256, k256, n256⟩, -, X256, ⟨Lc256, hQ256, l256, y256, z256⟩, st256⟩ := X249.specialBack hx (y := (⟨"java/lang/String", "<init>", "([C)V"⟩ : MethodName)) rfl hown (mvT hZ (hw _ (List.mem_of_getElem? (i := 9) rfl))) (mvT hZ (hw _ (List.mem_of_getElem? (i := 10) rfl))) (mvT hZ (hw _ (List.mem_of_getElem? (i := 11) rfl))) (by decide) (StrChars.Road.backV (W := 1) hZ (own_wmk hw) (kI := 4) (hw _ (List.mem_of_getElem? (i := 7) rfl)) (cs := ([(nar .char (own_pick p0)), (nar .char (own_pick p1))] : List Int32)) (bs := (([(nar .char (own_pick p0)), (nar .char (own_pick p1))] : List Int32)).map StrChars.lo8) (n := 2) gb249 f253 A249 F_value_b249 F_coder_b249 f254 (S2.ext f252.2) hz rfl rfl (by decide) (by decide) (by intro c hc; simp only [List.mem_cons, List.not_mem_nil, or_false] at hc; rcases hc with rfl | rfl <;> exact (own_ok _).2) rfl (by decide) (by decide)) (g := (mkF m 135 #[.val (.int p0), .val (.int p1), .val (.int p2), .val (.int p3), .val (.int p4), .val (.int (own_pick p0)), .val (.int (own_pick p1)), .val (.int (own_pick p2)), .val (.int (own_pick p3)), .val (.int nn), .val (.ref b240), .unset, .unset, .unset] [(.ref b240), (.ref b249), (.ref b249)])) rfl (by rw [hml]; rfl) (Steps.refl _) (a := b249) (argsL := [(.ref b240)]) (rest := [(.ref b249)]) (lenOf pd___C_V rfl) rfl (by show 2 * 0 + _ ≤ _; exact Nat.le_of_eq rfl) (hb hby at_135) (fun _ _ => ⟨rfl, e249, (by decide : 2 + 1 ≤ _), (by decide : 6 + 2 ≤ _)⟩)
      dsimp only [Pt.U, Pt.locs, Pt.cells, Pt.slots] at X256 l256 y256 z256 st256 hQ256
      subst l256 y256 z256
      obtain ⟨rfl, Nq256, Kq256, Eq256, Cq256, t256, kb256, gt256, szt256, net256, Vq256, Aq256⟩ := hQ256
      have N256 := Fr.app N246 Nq256
      have c257 : Goes p e below s₁ (entryFrame m #[(.int p0), (.int p1), (.int p2), (.int p3), (.int p4)] maxLocals) T256 (mkF m 138 #[.val (.int p0), .val (.int p1), .val (.int p2), .val (.int p3), .val (.int p4), .val (.int (own_pick p0)), .val (.int (own_pick p1)), .val (.int (own_pick p2)), .val (.int (own_pick p3)), .val (.int nn), .val (.ref b240), .unset, .unset, .unset] [(.ref b249)]) := fun t kk => c255 t (st256.trans kk)
      have Str256 : own_str Z T256.heap b249 ([(nar .char (own_pick p0)), (nar .char (own_pick p1))] : List Int32) := ⟨Eq256, Cq256, (by intro c hc; simp only [List.mem_cons, List.not_mem_nil, or_false] at hc; rcases hc with rfl | rfl <;> exact (own_ok _).2), t256, kb256, Vq256, Aq256⟩
      have f258 := (Nat.le_trans f253 Kq256.1)
      have f259 := (f252.keep Kq256 (allS gb249 all0))
      have c260 : Goes p e below s₁ (entryFrame m #[(.int p0), (.int p1), (.int p2), (.int p3), (.int p4)] maxLocals) T256 (mkF m 142 #[.val (.int p0), .val (.int p1), .val (.int p2), .val (.int p3), .val (.int p4), .val (.int (own_pick p0)), .val (.int (own_pick p1)), .val (.int (own_pick p2)), .val (.int (own_pick p3)), .val (.int nn), .val (.ref b240), .val (.ref b249), .unset, .unset] [(.ref b249)]) := by
        intro t kk
        refine c257 t ?_
        show Steps p.tables e below (T256.setTop (mkF m 138 #[.val (.int p0), .val (.int p1), .val (.int p2), .val (.int p3), .val (.int p4), .val (.int (own_pick p0)), .val (.int (own_pick p1)), .val (.int (own_pick p2)), .val (.int (own_pick p3)), .val (.int nn), .val (.ref b240), .unset, .unset, .unset] [(.ref b249)])) t
        refine XS.astore X256.here hx rfl (hb hby at_138) rfl rfl (l' := #[.val (.int p0), .val (.int p1), .val (.int p2), .val (.int p3), .val (.int p4), .val (.int (own_pick p0)), .val (.int (own_pick p1)), .val (.int (own_pick p2)), .val (.int (own_pick p3)), .val (.int nn), .val (.ref b240), .val (.ref b249), .unset, .unset]) rfl ?_
        show Steps p.tables e below (T256.setTop (mkF m 140 #[.val (.int p0), .val (.int p1), .val (.int p2), .val (.int p3), .val (.int p4), .val (.int (own_pick p0)), .val (.int (own_pick p1)), .val (.int (own_pick p2)), .val (.int (own_pick p3)), .val (.int nn), .val (.ref b240), .val (.ref b249), .unset, .unset] [])) t
        refine XS.aload X256.here hx rfl (hb hby at_140) rfl rfl ?_
        exact kk
      obtain ⟨_, _, ⟨T261, L261, k261, n261⟩, -, XX261, SS261, gr261, ⟨Lc261, hQ261, l261, y261, z261⟩, st261⟩ := callSS X256 hx (y := (⟨"com/example/sequence_dispenser/sequencedispenser/core/SequenceName", "of", "(Ljava/lang/String;)Lcom/example/sequence_dispenser/sequencedispenser/core/SequenceName;"⟩ : MethodName)) hown (mvT hZ (hw _ (List.mem_of_getElem? (i := 35) rfl))) (mvT hZ (hw _ (List.mem_of_getElem? (i := 36) rfl))) (mvT hZ (hw _ (List.mem_of_getElem? (i := 37) rfl))) (mvT hZ (hw _ (List.mem_of_getElem? (i := 38) rfl))) (by decide) (backOfS (W := 0) (rm_of l Z a0 hw [] b249 ([(nar .char (own_pick p0)), (nar .char (own_pick p1))] : List Int32) z fm T256.heap n0 f258 f259 S2 hz S4 hfm Str256 (by intro c hc; simp only [List.mem_cons, List.not_mem_nil, or_false] at hc; rcases hc with rfl | rfl <;> exact (own_ok _).1) (Nat.le_of_ble_eq_true rfl) (Nat.le_of_ble_eq_true rfl)) hZ (hw _ (List.mem_of_getElem? (i := 38) rfl)) (hw _ (List.mem_of_getElem? (i := 37) rfl)) (by decide) (by decide)) (g := (mkF m 142 #[.val (.int p0), .val (.int p1), .val (.int p2), .val (.int p3), .val (.int p4), .val (.int (own_pick p0)), .val (.int (own_pick p1)), .val (.int (own_pick p2)), .val (.int (own_pick p3)), .val (.int nn), .val (.ref b240), .val (.ref b249), .unset, .unset] [(.ref b249)])) rfl (by rw [hml]; rfl) (argsL := [(.ref b249)]) (rest := []) (lenOf pd__Ljava_lang_String__Lcom_example_sequence_dispenser_sequencedispenser_core_SequenceName_ rfl) rfl (by show 2 * 0 + _ ≤ _; exact Nat.le_of_eq rfl) (hb hby at_142) (fun _ _ => ⟨rfl, rfl, (by decide : 3 + 3 ≤ _), (by decide : 8 + 21 ≤ _)⟩)
      have f262 := (Nat.le_trans (Nat.le_trans (Nat.le_trans (Nat.le_trans (Nat.le_trans (Nat.zero_le _) E240.1) (Keep.of_wr W243).1) (Keep.of_wr W246).1) E249.1) Kq256.1)
      obtain ⟨X261, S261, hZ261, ho261⟩ := rebS SW0 f262 XX261 SS261 gr261 hZ hown
      dsimp only [Pt.U, Pt.locs, Pt.cells, Pt.slots] at S261 hZ261 ho261 X261 l261 y261 z261 st261 hQ261
      subst l261 y261 z261
      obtain ⟨b261, rfl, Nq261, Kq261, Eq261, Fq261⟩ := hQ261
      have N261 := Fr.app N256 Nq261
      have c263 : Goes p e below s₁ (entryFrame m #[(.int p0), (.int p1), (.int p2), (.int p3), (.int p4)] maxLocals) T261 (mkF m 145 #[.val (.int p0), .val (.int p1), .val (.int p2), .val (.int p3), .val (.int p4), .val (.int (own_pick p0)), .val (.int (own_pick p1)), .val (.int (own_pick p2)), .val (.int (own_pick p3)), .val (.int nn), .val (.ref b240), .val (.ref b249), .unset, .unset] [(.ref b261)]) := fun t kk => c260 t (st261.trans kk)
      have Sk261 := own_skeep Str256 Kq261
      have f264 := (Nat.le_trans f258 Kq261.1)
      have c265 : Goes p e below s₁ (entryFrame m #[(.int p0), (.int p1), (.int p2), (.int p3), (.int p4)] maxLocals) T261 (mkF m 149 #[.val (.int p0), .val (.int p1), .val (.int p2), .val (.int p3), .val (.int p4), .val (.int (own_pick p0)), .val (.int (own_pick p1)), .val (.int (own_pick p2)), .val (.int (own_pick p3)), .val (.int nn), .val (.ref b240), .val (.ref b249), .val (.ref b261), .unset] [(.ref b261)]) := by
        intro t kk
        refine c263 t ?_
        show Steps p.tables e below (T261.setTop (mkF m 145 #[.val (.int p0), .val (.int p1), .val (.int p2), .val (.int p3), .val (.int p4), .val (.int (own_pick p0)), .val (.int (own_pick p1)), .val (.int (own_pick p2)), .val (.int (own_pick p3)), .val (.int nn), .val (.ref b240), .val (.ref b249), .unset, .unset] [(.ref b261)])) t
        refine XS.astore X261.here hx rfl (hb hby at_145) rfl rfl (l' := #[.val (.int p0), .val (.int p1), .val (.int p2), .val (.int p3), .val (.int p4), .val (.int (own_pick p0)), .val (.int (own_pick p1)), .val (.int (own_pick p2)), .val (.int (own_pick p3)), .val (.int nn), .val (.ref b240), .val (.ref b249), .val (.ref b261), .unset]) rfl ?_
        show Steps p.tables e below (T261.setTop (mkF m 147 #[.val (.int p0), .val (.int p1), .val (.int p2), .val (.int p3), .val (.int p4), .val (.int (own_pick p0)), .val (.int (own_pick p1)), .val (.int (own_pick p2)), .val (.int (own_pick p3)), .val (.int nn), .val (.ref b240), .val (.ref b249), .val (.ref b261), .unset] [])) t
        refine XS.aload X261.here hx rfl (hb hby at_147) rfl rfl ?_
        exact kk
      obtain ⟨cq266, kq266, q266a, q266b, q266c⟩ := isOf hZ261 rfl Eq261
      obtain ⟨_, _, ⟨T266, L266, k266, n266⟩, -, X266, ⟨Lc266, hQ266, l266, y266, z266⟩, st266⟩ := X261.virtualBack hx (y := (⟨"com/example/sequence_dispenser/sequencedispenser/core/SequenceName", "getText", "()Ljava/lang/String;"⟩ : MethodName)) (z := (⟨"com/example/sequence_dispenser/sequencedispenser/core/SequenceName", "getText", "()Ljava/lang/String;"⟩ : MethodName)) ho261 (mvT hZ261 (hw _ (List.mem_of_getElem? (i := 94) rfl))) (mvT hZ261 (hw _ (List.mem_of_getElem? (i := 95) rfl))) (notFace_of_selects (args := #[]) (mvT hZ261 (hw _ (List.mem_of_getElem? (i := 97) rfl)))) (mvT hZ261 (hw _ (List.mem_of_getElem? (i := 97) rfl))) (mvT hZ261 (hw _ (List.mem_of_getElem? (i := 96) rfl))) (by decide) (backOf (W := 0) (rm_gt l Z a0 hw [] b261 b249 T261.heap n0 f264 Fq261) hZ261 (hw _ (List.mem_of_getElem? (i := 98) rfl)) (hw _ (List.mem_of_getElem? (i := 37) rfl)) (by decide) (by decide)) q266a q266c (g := (mkF m 149 #[.val (.int p0), .val (.int p1), .val (.int p2), .val (.int p3), .val (.int p4), .val (.int (own_pick p0)), .val (.int (own_pick p1)), .val (.int (own_pick p2)), .val (.int (own_pick p3)), .val (.int nn), .val (.ref b240), .val (.ref b249), .val (.ref b261), .unset] [(.ref b261)])) rfl (by rw [hml]; rfl) (Steps.refl _) (argsL := []) (rest := []) (lenOf pd___Ljava_lang_String_ rfl) rfl (by show 2 * 0 + _ ≤ _; exact Nat.le_of_eq rfl) (hb hby at_149) (fun _ _ => ⟨rfl, rfl, (by decide : 6 + 0 ≤ _), (by decide : 29 + 0 ≤ _)⟩)
      dsimp only [Pt.U, Pt.locs, Pt.cells, Pt.slots] at X266 l266 y266 z266 st266 hQ266
      subst l266 y266 z266
      obtain ⟨rfl, Nq266, eq266⟩ := hQ266
      have N266 := Fr.app N261 Nq266
      have c267 : Goes p e below s₁ (entryFrame m #[(.int p0), (.int p1), (.int p2), (.int p3), (.int p4)] maxLocals) T266 (mkF m 152 #[.val (.int p0), .val (.int p1), .val (.int p2), .val (.int p3), .val (.int p4), .val (.int (own_pick p0)), .val (.int (own_pick p1)), .val (.int (own_pick p2)), .val (.int (own_pick p3)), .val (.int nn), .val (.ref b240), .val (.ref b249), .val (.ref b261), .unset] [(.ref b249)]) := fun t kk => c265 t (st266.trans kk)
      have f268 := (f259.keep Kq261 all0)
      obtain ⟨sE269, sC269, sp269, st269_t, kb269, sV269, sK269⟩ := id Sk261
      have c270 : Goes p e below s₁ (entryFrame m #[(.int p0), (.int p1), (.int p2), (.int p3), (.int p4)] maxLocals) T266 (mkF m 156 #[.val (.int p0), .val (.int p1), .val (.int p2), .val (.int p3), .val (.int p4), .val (.int (own_pick p0)), .val (.int (own_pick p1)), .val (.int (own_pick p2)), .val (.int (own_pick p3)), .val (.int nn), .val (.ref b240), .val (.ref b249), .val (.ref b261), .val (.ref b249)] [(.ref b249)]) := by
        intro t kk
        refine c267 t ?_
        show Steps p.tables e below (T266.setTop (mkF m 152 #[.val (.int p0), .val (.int p1), .val (.int p2), .val (.int p3), .val (.int p4), .val (.int (own_pick p0)), .val (.int (own_pick p1)), .val (.int (own_pick p2)), .val (.int (own_pick p3)), .val (.int nn), .val (.ref b240), .val (.ref b249), .val (.ref b261), .unset] [(.ref b249)])) t
        refine XS.astore X266.here hx rfl (hb hby at_152) rfl rfl (l' := #[.val (.int p0), .val (.int p1), .val (.int p2), .val (.int p3), .val (.int p4), .val (.int (own_pick p0)), .val (.int (own_pick p1)), .val (.int (own_pick p2)), .val (.int (own_pick p3)), .val (.int nn), .val (.ref b240), .val (.ref b249), .val (.ref b261), .val (.ref b249)]) rfl ?_
        show Steps p.tables e below (T266.setTop (mkF m 154 #[.val (.int p0), .val (.int p1), .val (.int p2), .val (.int p3), .val (.int p4), .val (.int (own_pick p0)), .val (.int (own_pick p1)), .val (.int (own_pick p2)), .val (.int (own_pick p3)), .val (.int nn), .val (.ref b240), .val (.ref b249), .val (.ref b261), .val (.ref b249)] [])) t
        refine XS.aload X266.here hx rfl (hb hby at_154) rfl rfl ?_
        exact kk
      obtain ⟨cq271, kq271, q271a, q271b, q271c⟩ := isOf hZ261 eq266 sE269
      obtain ⟨_, _, ⟨T271, L271, k271, n271⟩, -, X271, ⟨Lc271, hQ271, l271, y271, z271⟩, st271⟩ := X266.virtualBack hx (y := (⟨"java/lang/String", "length", "()I"⟩ : MethodName)) (z := (⟨"java/lang/String", "length", "()I"⟩ : MethodName)) ho261 (mvT hZ261 (hw _ (List.mem_of_getElem? (i := 99) rfl))) (mvT hZ261 (hw _ (List.mem_of_getElem? (i := 47) rfl))) (notFace_of_selects (args := #[]) (mvT hZ261 (hw _ (List.mem_of_getElem? (i := 49) rfl)))) (mvT hZ261 (hw _ (List.mem_of_getElem? (i := 49) rfl))) (mvT hZ261 (hw _ (List.mem_of_getElem? (i := 48) rfl))) (by decide) (StrChars.Road.lenW (W := 0) hZ261 (own_wlen hw) (kI := 4) (hw _ (List.mem_of_getElem? (i := 7) rfl)) sE269 sV269 sC269 sK269 (StrChars.Road.codOf rfl (fun c hc => (sp269 c hc).2)) (own_up sp269) (S2.ext f268.2) hz (Nat.le_of_ble_eq_true rfl) (by decide) (by decide)) q271a q271c (g := (mkF m 156 #[.val (.int p0), .val (.int p1), .val (.int p2), .val (.int p3), .val (.int p4), .val (.int (own_pick p0)), .val (.int (own_pick p1)), .val (.int (own_pick p2)), .val (.int (own_pick p3)), .val (.int nn), .val (.ref b240), .val (.ref b249), .val (.ref b261), .val (.ref b249)] [(.ref b249)])) rfl (by rw [hml]; rfl) (Steps.refl _) (argsL := []) (rest := []) (lenOf pd___I rfl) rfl (by show 2 * 0 + _ ≤ _; exact Nat.le_of_eq rfl) (hb hby at_156) (fun _ _ => ⟨rfl, eq266, (by decide : 6 + 0 ≤ _), (by decide : 29 + 0 ≤ _)⟩)
      dsimp only [Pt.U, Pt.locs, Pt.cells, Pt.slots] at X271 l271 y271 z271 st271 hQ271
      subst l271 y271 z271
      obtain ⟨rfl, hL271, eq271⟩ := hQ271
      have Nq271 : Fr n0 Lc271 := hL271 ▸ Fr.nil n0
      have N271 := Fr.app N266 Nq271
      have c272 : Goes p e below s₁ (entryFrame m #[(.int p0), (.int p1), (.int p2), (.int p3), (.int p4)] maxLocals) T271 (mkF m 159 #[.val (.int p0), .val (.int p1), .val (.int p2), .val (.int p3), .val (.int p4), .val (.int (own_pick p0)), .val (.int (own_pick p1)), .val (.int (own_pick p2)), .val (.int (own_pick p3)), .val (.int nn), .val (.ref b240), .val (.ref b249), .val (.ref b261), .val (.ref b249)] [(.int (Int32.ofNat (([(nar .char (own_pick p0)), (nar .char (own_pick p1))] : List Int32)).length))]) := fun t kk => c270 t (st271.trans kk)
      have f273 := (Eq256.keep Kq261)
      have c274 : Goes p e below s₁ (entryFrame m #[(.int p0), (.int p1), (.int p2), (.int p3), (.int p4)] maxLocals) T271 (mkF m 168 #[.val (.int p0), .val (.int p1), .val (.int p2), .val (.int p3), .val (.int p4), .val (.int (own_pick p0)), .val (.int (own_pick p1)), .val (.int (own_pick p2)), .val (.int (own_pick p3)), .val (.int nn), .val (.ref b240), .val (.ref b249), .val (.ref b261), .val (.ref b249)] [(.ref b249), (.ref b249)]) := by
        intro t kk
        refine c272 t ?_
        show Steps p.tables e below (T271.setTop (mkF m 159 #[.val (.int p0), .val (.int p1), .val (.int p2), .val (.int p3), .val (.int p4), .val (.int (own_pick p0)), .val (.int (own_pick p1)), .val (.int (own_pick p2)), .val (.int (own_pick p3)), .val (.int nn), .val (.ref b240), .val (.ref b249), .val (.ref b261), .val (.ref b249)] [(.int (Int32.ofNat (([(nar .char (own_pick p0)), (nar .char (own_pick p1))] : List Int32)).length))])) t
        refine XS.iload X271.here hx rfl (hb hby at_159) rfl ?_
        show Steps p.tables e below (T271.setTop (mkF m 161 #[.val (.int p0), .val (.int p1), .val (.int p2), .val (.int p3), .val (.int p4), .val (.int (own_pick p0)), .val (.int (own_pick p1)), .val (.int (own_pick p2)), .val (.int (own_pick p3)), .val (.int nn), .val (.ref b240), .val (.ref b249), .val (.ref b261), .val (.ref b249)] [(.int nn), (.int (Int32.ofNat (([(nar .char (own_pick p0)), (nar .char (own_pick p1))] : List Int32)).length))])) t
        refine XS.icmpNo X271.here hx rfl (hb hby at_161) rfl (teq (show Int32.ofNat 2 = nn from h54.symm)).2 ?_
        show Steps p.tables e below (T271.setTop (mkF m 164 #[.val (.int p0), .val (.int p1), .val (.int p2), .val (.int p3), .val (.int p4), .val (.int (own_pick p0)), .val (.int (own_pick p1)), .val (.int (own_pick p2)), .val (.int (own_pick p3)), .val (.int nn), .val (.ref b240), .val (.ref b249), .val (.ref b261), .val (.ref b249)] [])) t
        refine XS.aload X271.here hx rfl (hb hby at_164) rfl rfl ?_
        show Steps p.tables e below (T271.setTop (mkF m 166 #[.val (.int p0), .val (.int p1), .val (.int p2), .val (.int p3), .val (.int p4), .val (.int (own_pick p0)), .val (.int (own_pick p1)), .val (.int (own_pick p2)), .val (.int (own_pick p3)), .val (.int nn), .val (.ref b240), .val (.ref b249), .val (.ref b261), .val (.ref b249)] [(.ref b249)])) t
        refine XS.aload X271.here hx rfl (hb hby at_166) rfl rfl ?_
        exact kk
      obtain ⟨cq275, kq275, q275a, q275b, q275c⟩ := isOf hZ261 eq271 f273
      obtain ⟨_, _, ⟨T275, L275, k275, n275⟩, -, X275, ⟨Lc275, hQ275, l275, y275, z275⟩, st275⟩ := X271.virtualBack hx (y := (⟨"java/lang/String", "equals", "(Ljava/lang/Object;)Z"⟩ : MethodName)) (z := (⟨"java/lang/String", "equals", "(Ljava/lang/Object;)Z"⟩ : MethodName)) ho261 (mvT hZ261 (hw _ (List.mem_of_getElem? (i := 100) rfl))) (mvT hZ261 (hw _ (List.mem_of_getElem? (i := 101) rfl))) (notFace_of_selects (args := #[]) (mvT hZ261 (hw _ (List.mem_of_getElem? (i := 103) rfl)))) (mvT hZ261 (hw _ (List.mem_of_getElem? (i := 103) rfl))) (mvT hZ261 (hw _ (List.mem_of_getElem? (i := 102) rfl))) (by decide) (backOf (W := 0) (rm_eqs l Z a0 hw [] b249 T261.heap n0 f264) hZ261 (hw _ (List.mem_of_getElem? (i := 104) rfl)) (hw _ (List.mem_of_getElem? (i := 8) rfl)) (by decide) (by decide)) q275a q275c (g := (mkF m 168 #[.val (.int p0), .val (.int p1), .val (.int p2), .val (.int p3), .val (.int p4), .val (.int (own_pick p0)), .val (.int (own_pick p1)), .val (.int (own_pick p2)), .val (.int (own_pick p3)), .val (.int nn), .val (.ref b240), .val (.ref b249), .val (.ref b261), .val (.ref b249)] [(.ref b249), (.ref b249)])) rfl (by rw [hml]; rfl) (Steps.refl _) (argsL := [(.ref b249)]) (rest := []) (lenOf pd__Ljava_lang_Object__Z rfl) rfl (by show 2 * 0 + _ ≤ _; exact Nat.le_of_eq rfl) (hb hby at_168) (fun _ _ => ⟨rfl, eq271, (by decide : 6 + 0 ≤ _), (by decide : 29 + 0 ≤ _)⟩)
      dsimp only [Pt.U, Pt.locs, Pt.cells, Pt.slots] at X275 l275 y275 z275 st275 hQ275
      subst l275 y275 z275
      obtain ⟨rfl, Nq275, eq275⟩ := hQ275
      have N275 := Fr.app N271 Nq275
      have c276 : Goes p e below s₁ (entryFrame m #[(.int p0), (.int p1), (.int p2), (.int p3), (.int p4)] maxLocals) T275 (mkF m 171 #[.val (.int p0), .val (.int p1), .val (.int p2), .val (.int p3), .val (.int p4), .val (.int (own_pick p0)), .val (.int (own_pick p1)), .val (.int (own_pick p2)), .val (.int (own_pick p3)), .val (.int nn), .val (.ref b240), .val (.ref b249), .val (.ref b261), .val (.ref b249)] [(.int (1 : Int32))]) := fun t kk => c274 t (st275.trans kk)
      have c277 : Goes p e below s₁ (entryFrame m #[(.int p0), (.int p1), (.int p2), (.int p3), (.int p4)] maxLocals) T275 (mkF m 179 #[.val (.int p0), .val (.int p1), .val (.int p2), .val (.int p3), .val (.int p4), .val (.int (own_pick p0)), .val (.int (own_pick p1)), .val (.int (own_pick p2)), .val (.int (own_pick p3)), .val (.int nn), .val (.ref b240), .val (.ref b249), .val (.ref b261), .val (.ref b249)] [(.int (1 : Int32))]) := by
        intro t kk
        refine c276 t ?_
        show Steps p.tables e below (T275.setTop (mkF m 171 #[.val (.int p0), .val (.int p1), .val (.int p2), .val (.int p3), .val (.int p4), .val (.int (own_pick p0)), .val (.int (own_pick p1)), .val (.int (own_pick p2)), .val (.int (own_pick p3)), .val (.int nn), .val (.ref b240), .val (.ref b249), .val (.ref b261), .val (.ref b249)] [(.int (1 : Int32))])) t
        refine XS.ifNo X275.here hx rfl (hb hby at_171) rfl ((if0 _ _).trans (feq (by decide : ¬ ((1 : Int32) = (0 : Int32)))).1) ?_
        show Steps p.tables e below (T275.setTop (mkF m 174 #[.val (.int p0), .val (.int p1), .val (.int p2), .val (.int p3), .val (.int p4), .val (.int (own_pick p0)), .val (.int (own_pick p1)), .val (.int (own_pick p2)), .val (.int (own_pick p3)), .val (.int nn), .val (.ref b240), .val (.ref b249), .val (.ref b261), .val (.ref b249)] [])) t
        refine XS.iconst X275.here hx rfl (hb hby at_174) ?_
        show Steps p.tables e below (T275.setTop (mkF m 175 #[.val (.int p0), .val (.int p1), .val (.int p2), .val (.int p3), .val (.int p4), .val (.int (own_pick p0)), .val (.int (own_pick p1)), .val (.int (own_pick p2)), .val (.int (own_pick p3)), .val (.int nn), .val (.ref b240), .val (.ref b249), .val (.ref b261), .val (.ref b249)] [(.int (1 : Int32))])) t
        refine XS.goto X275.here hx rfl (pc0 := 175) (pc' := 179) rfl (hb hby at_175) (by decide) (by decide) ?_
        exact kk
      obtain ⟨fs, hr, hrun, hended, hRW⟩ := X275.leaveW S261 (by rw [eq275]; exact (Nat.le_refl _)) (v := some (.int (1 : Int32))) (fun h => by rw [Bd.returns] at h; cases h)
      refine ⟨_, _, c277 _ ?_, hrun, hended, _, _, rfl, ?_, hRW.1, hRW.2.1, hRW.2.2.1, hRW.2.2.2.mono (by decide) (by decide)⟩
      · exact retN X275 hx (t := .boolean) Bd.returns (by simp) (hb hby at_179) hr
      · show Q_law Z p0 p1 p2 p3 p4 z fm h0 n0 _ T275.heap _
        rw [eq275]
        exact ⟨rfl, N275⟩
    · have c278 : Goes p e below s₁ (entryFrame m #[(.int p0), (.int p1), (.int p2), (.int p3), (.int p4)] maxLocals) T197 (mkF m 78 #[.val (.int p0), .val (.int p1), .val (.int p2), .val (.int p3), .val (.int p4), .val (.int (own_pick p0)), .val (.int (own_pick p1)), .val (.int (own_pick p2)), .val (.int (own_pick p3)), .val (.int nn), .unset, .unset, .unset, .unset] [(.int (3 : Int32)), (.int nn)]) := by
        intro t kk
        refine c238 t ?_
        show Steps p.tables e below (T197.setTop (mkF m 54 #[.val (.int p0), .val (.int p1), .val (.int p2), .val (.int p3), .val (.int p4), .val (.int (own_pick p0)), .val (.int (own_pick p1)), .val (.int (own_pick p2)), .val (.int (own_pick p3)), .val (.int nn), .unset, .unset, .unset, .unset] [(.int (2 : Int32)), (.int nn)])) t
        refine XS.icmpYes X197.here hx rfl (pc0 := 54) (pc' := 75) rfl (hb hby at_54) rfl (feq h54).2 (by decide) (by decide) ?_
        show Steps p.tables e below (T197.setTop (mkF m 75 #[.val (.int p0), .val (.int p1), .val (.int p2), .val (.int p3), .val (.int p4), .val (.int (own_pick p0)), .val (.int (own_pick p1)), .val (.int (own_pick p2)), .val (.int (own_pick p3)), .val (.int nn), .unset, .unset, .unset, .unset] [])) t
        refine XS.iload X197.here hx rfl (hb hby at_75) rfl ?_
        show Steps p.tables e below (T197.setTop (mkF m 77 #[.val (.int p0), .val (.int p1), .val (.int p2), .val (.int p3), .val (.int p4), .val (.int (own_pick p0)), .val (.int (own_pick p1)), .val (.int (own_pick p2)), .val (.int (own_pick p3)), .val (.int nn), .unset, .unset, .unset, .unset] [(.int nn)])) t
        refine XS.iconst X197.here hx rfl (hb hby at_77) ?_
        exact kk
      by_cases h78 : nn = (3 : Int32)
      · have c279 : Goes p e below s₁ (entryFrame m #[(.int p0), (.int p1), (.int p2), (.int p3), (.int p4)] maxLocals) T197 (mkF m 82 #[.val (.int p0), .val (.int p1), .val (.int p2), .val (.int p3), .val (.int p4), .val (.int (own_pick p0)), .val (.int (own_pick p1)), .val (.int (own_pick p2)), .val (.int (own_pick p3)), .val (.int nn), .unset, .unset, .unset, .unset] [(.int (3 : Int32))]) := by
          intro t kk
          refine c278 t ?_
          show Steps p.tables e below (T197.setTop (mkF m 78 #[.val (.int p0), .val (.int p1), .val (.int p2), .val (.int p3), .val (.int p4), .val (.int (own_pick p0)), .val (.int (own_pick p1)), .val (.int (own_pick p2)), .val (.int (own_pick p3)), .val (.int nn), .unset, .unset, .unset, .unset] [(.int (3 : Int32)), (.int nn)])) t
          refine XS.icmpNo X197.here hx rfl (hb hby at_78) rfl (teq h78).2 ?_
          show Steps p.tables e below (T197.setTop (mkF m 81 #[.val (.int p0), .val (.int p1), .val (.int p2), .val (.int p3), .val (.int p4), .val (.int (own_pick p0)), .val (.int (own_pick p1)), .val (.int (own_pick p2)), .val (.int (own_pick p3)), .val (.int nn), .unset, .unset, .unset, .unset] [])) t
          refine XS.iconst X197.here hx rfl (hb hby at_81) ?_
          exact kk
        obtain ⟨T280, h280, k280, X280, e280, E280, A280, st280⟩ := newP X197 hx hZ (hw _ (List.mem_of_getElem? (i := 5) rfl)) eq197 (g := (mkF m 82 #[.val (.int p0), .val (.int p1), .val (.int p2), .val (.int p3), .val (.int p4), .val (.int (own_pick p0)), .val (.int (own_pick p1)), .val (.int (own_pick p2)), .val (.int (own_pick p3)), .val (.int nn), .unset, .unset, .unset, .unset] [(.int (3 : Int32))])) rfl (hb hby at_82) rfl (by decide) (cap := 3) (by decide) (by decide) (by decide) (by decide)
        obtain ⟨b280, g280⟩ : ∃ z, z = h0.size := ⟨_, rfl⟩
        rw [← g280] at A280 st280
        have gb280 : n0 ≤ b280 := Nat.le_trans Z0 (Nat.le_of_eq g280.symm)
        have V280 : Arv Z h280 b280 k280 .char (3 : Int32) [(.int (0 : Int32)), (.int (0 : Int32)), (.int (0 : Int32))] (.int (0 : Int32)) := (Arv.new A280 (by decide)).pad (pad_rep [] (.int (0 : Int32)) 3)
        have c281 : Goes p e below s₁ (entryFrame m #[(.int p0), (.int p1), (.int p2), (.int p3), (.int p4)] maxLocals) T280 (mkF m 84 #[.val (.int p0), .val (.int p1), .val (.int p2), .val (.int p3), .val (.int p4), .val (.int (own_pick p0)), .val (.int (own_pick p1)), .val (.int (own_pick p2)), .val (.int (own_pick p3)), .val (.int nn), .unset, .unset, .unset, .unset] [(.ref b280)]) := fun t kk => c279 t (st280 t kk)
        have c282 : Goes p e below s₁ (entryFrame m #[(.int p0), (.int p1), (.int p2), (.int p3), (.int p4)] maxLocals) T280 (mkF m 88 #[.val (.int p0), .val (.int p1), .val (.int p2), .val (.int p3), .val (.int p4), .val (.int (own_pick p0)), .val (.int (own_pick p1)), .val (.int (own_pick p2)), .val (.int (own_pick p3)), .val (.int nn), .unset, .unset, .unset, .unset] [(.int (own_pick p0)), (.int (0 : Int32)), (.ref b280), (.ref b280)]) := by
          intro t kk
          refine c281 t ?_
          show Steps p.tables e below (T280.setTop (mkF m 84 #[.val (.int p0), .val (.int p1), .val (.int p2), .val (.int p3), .val (.int p4), .val (.int (own_pick p0)), .val (.int (own_pick p1)), .val (.int (own_pick p2)), .val (.int (own_pick p3)), .val (.int nn), .unset, .unset, .unset, .unset] [(.ref b280)])) t
          refine XS.dup X280.here hx rfl (hb hby at_84) rfl rfl ?_
          show Steps p.tables e below (T280.setTop (mkF m 85 #[.val (.int p0), .val (.int p1), .val (.int p2), .val (.int p3), .val (.int p4), .val (.int (own_pick p0)), .val (.int (own_pick p1)), .val (.int (own_pick p2)), .val (.int (own_pick p3)), .val (.int nn), .unset, .unset, .unset, .unset] [(.ref b280), (.ref b280)])) t
          refine XS.iconst X280.here hx rfl (hb hby at_85) ?_
          show Steps p.tables e below (T280.setTop (mkF m 86 #[.val (.int p0), .val (.int p1), .val (.int p2), .val (.int p3), .val (.int p4), .val (.int (own_pick p0)), .val (.int (own_pick p1)), .val (.int (own_pick p2)), .val (.int (own_pick p3)), .val (.int nn), .unset, .unset, .unset, .unset] [(.int (0 : Int32)), (.ref b280), (.ref b280)])) t
          refine XS.iload X280.here hx rfl (hb hby at_86) rfl ?_
          exact kk
        obtain ⟨cl283, Ar283, q283, Sz283, Nn283, Hh283, Gg283⟩ := id V280
        have hin283 : ¬ ((0 : Int32) < 0 ∨ cl283.slots.size ≤ ((0 : Int32)).toNatClampNeg) := inb_of Sz283 ⟨by decide, by decide⟩
        obtain ⟨T283, h283, X283, e283, W283, st283⟩ := stC X280 hx hZ e280 Ar283 (j := (0 : Int32)) hin283 (g := (mkF m 88 #[.val (.int p0), .val (.int p1), .val (.int p2), .val (.int p3), .val (.int p4), .val (.int (own_pick p0)), .val (.int (own_pick p1)), .val (.int (own_pick p2)), .val (.int (own_pick p3)), .val (.int nn), .unset, .unset, .unset, .unset] [(.int (own_pick p0)), (.int (0 : Int32)), (.ref b280), (.ref b280)])) rfl rfl (hb hby at_88)
        have V283 := Arv.set Ar283 q283 Sz283 Nn283 Hh283 Gg283 (fits_nar_char _) W283 0 rfl (Nat.le_of_ble_eq_true rfl)
        have N283 := Fr.snoc X283 N197 gb280
        have c284 : Goes p e below s₁ (entryFrame m #[(.int p0), (.int p1), (.int p2), (.int p3), (.int p4)] maxLocals) T283 (mkF m 89 #[.val (.int p0), .val (.int p1), .val (.int p2), .val (.int p3), .val (.int p4), .val (.int (own_pick p0)), .val (.int (own_pick p1)), .val (.int (own_pick p2)), .val (.int (own_pick p3)), .val (.int nn), .unset, .unset, .unset, .unset] [(.ref b280)]) := fun t kk => c282 t (st283 t kk)
        have c285 : Goes p e below s₁ (entryFrame m #[(.int p0), (.int p1), (.int p2), (.int p3), (.int p4)] maxLocals) T283 (mkF m 93 #[.val (.int p0), .val (.int p1), .val (.int p2), .val (.int p3), .val (.int p4), .val (.int (own_pick p0)), .val (.int (own_pick p1)), .val (.int (own_pick p2)), .val (.int (own_pick p3)), .val (.int nn), .unset, .unset, .unset, .unset] [(.int (own_pick p1)), (.int (1 : Int32)), (.ref b280), (.ref b280)]) := by
          intro t kk
          refine c284 t ?_
          show Steps p.tables e below (T283.setTop (mkF m 89 #[.val (.int p0), .val (.int p1), .val (.int p2), .val (.int p3), .val (.int p4), .val (.int (own_pick p0)), .val (.int (own_pick p1)), .val (.int (own_pick p2)), .val (.int (own_pick p3)), .val (.int nn), .unset, .unset, .unset, .unset] [(.ref b280)])) t
          refine XS.dup X283.here hx rfl (hb hby at_89) rfl rfl ?_
          show Steps p.tables e below (T283.setTop (mkF m 90 #[.val (.int p0), .val (.int p1), .val (.int p2), .val (.int p3), .val (.int p4), .val (.int (own_pick p0)), .val (.int (own_pick p1)), .val (.int (own_pick p2)), .val (.int (own_pick p3)), .val (.int nn), .unset, .unset, .unset, .unset] [(.ref b280), (.ref b280)])) t
          refine XS.iconst X283.here hx rfl (hb hby at_90) ?_
          show Steps p.tables e below (T283.setTop (mkF m 91 #[.val (.int p0), .val (.int p1), .val (.int p2), .val (.int p3), .val (.int p4), .val (.int (own_pick p0)), .val (.int (own_pick p1)), .val (.int (own_pick p2)), .val (.int (own_pick p3)), .val (.int nn), .unset, .unset, .unset, .unset] [(.int (1 : Int32)), (.ref b280), (.ref b280)])) t
          refine XS.iload X283.here hx rfl (hb hby at_91) rfl ?_
          exact kk
        obtain ⟨cl286, Ar286, q286, Sz286, Nn286, Hh286, Gg286⟩ := id V283
        have hin286 : ¬ ((1 : Int32) < 0 ∨ cl286.slots.size ≤ ((1 : Int32)).toNatClampNeg) := inb_of Sz286 ⟨by decide, by decide⟩
        obtain ⟨T286, h286, X286, e286, W286, st286⟩ := stC X283 hx hZ e283 Ar286 (j := (1 : Int32)) hin286 (g := (mkF m 93 #[.val (.int p0), .val (.int p1), .val (.int p2), .val (.int p3), .val (.int p4), .val (.int (own_pick p0)), .val (.int (own_pick p1)), .val (.int (own_pick p2)), .val (.int (own_pick p3)), .val (.int nn), .unset, .unset, .unset, .unset] [(.int (own_pick p1)), (.int (1 : Int32)), (.ref b280), (.ref b280)])) rfl rfl (hb hby at_93)
        have V286 := Arv.set Ar286 q286 Sz286 Nn286 Hh286 Gg286 (fits_nar_char _) W286 1 rfl (Nat.le_of_ble_eq_true rfl)
        have N286 := Fr.snoc X286 N283 gb280
        have c287 : Goes p e below s₁ (entryFrame m #[(.int p0), (.int p1), (.int p2), (.int p3), (.int p4)] maxLocals) T286 (mkF m 94 #[.val (.int p0), .val (.int p1), .val (.int p2), .val (.int p3), .val (.int p4), .val (.int (own_pick p0)), .val (.int (own_pick p1)), .val (.int (own_pick p2)), .val (.int (own_pick p3)), .val (.int nn), .unset, .unset, .unset, .unset] [(.ref b280)]) := fun t kk => c285 t (st286 t kk)
        have c288 : Goes p e below s₁ (entryFrame m #[(.int p0), (.int p1), (.int p2), (.int p3), (.int p4)] maxLocals) T286 (mkF m 98 #[.val (.int p0), .val (.int p1), .val (.int p2), .val (.int p3), .val (.int p4), .val (.int (own_pick p0)), .val (.int (own_pick p1)), .val (.int (own_pick p2)), .val (.int (own_pick p3)), .val (.int nn), .unset, .unset, .unset, .unset] [(.int (own_pick p2)), (.int (2 : Int32)), (.ref b280), (.ref b280)]) := by
          intro t kk
          refine c287 t ?_
          show Steps p.tables e below (T286.setTop (mkF m 94 #[.val (.int p0), .val (.int p1), .val (.int p2), .val (.int p3), .val (.int p4), .val (.int (own_pick p0)), .val (.int (own_pick p1)), .val (.int (own_pick p2)), .val (.int (own_pick p3)), .val (.int nn), .unset, .unset, .unset, .unset] [(.ref b280)])) t
          refine XS.dup X286.here hx rfl (hb hby at_94) rfl rfl ?_
          show Steps p.tables e below (T286.setTop (mkF m 95 #[.val (.int p0), .val (.int p1), .val (.int p2), .val (.int p3), .val (.int p4), .val (.int (own_pick p0)), .val (.int (own_pick p1)), .val (.int (own_pick p2)), .val (.int (own_pick p3)), .val (.int nn), .unset, .unset, .unset, .unset] [(.ref b280), (.ref b280)])) t
          refine XS.iconst X286.here hx rfl (hb hby at_95) ?_
          show Steps p.tables e below (T286.setTop (mkF m 96 #[.val (.int p0), .val (.int p1), .val (.int p2), .val (.int p3), .val (.int p4), .val (.int (own_pick p0)), .val (.int (own_pick p1)), .val (.int (own_pick p2)), .val (.int (own_pick p3)), .val (.int nn), .unset, .unset, .unset, .unset] [(.int (2 : Int32)), (.ref b280), (.ref b280)])) t
          refine XS.iload X286.here hx rfl (hb hby at_96) rfl ?_
          exact kk
        obtain ⟨cl289, Ar289, q289, Sz289, Nn289, Hh289, Gg289⟩ := id V286
        have hin289 : ¬ ((2 : Int32) < 0 ∨ cl289.slots.size ≤ ((2 : Int32)).toNatClampNeg) := inb_of Sz289 ⟨by decide, by decide⟩
        obtain ⟨T289, h289, X289, e289, W289, st289⟩ := stC X286 hx hZ e286 Ar289 (j := (2 : Int32)) hin289 (g := (mkF m 98 #[.val (.int p0), .val (.int p1), .val (.int p2), .val (.int p3), .val (.int p4), .val (.int (own_pick p0)), .val (.int (own_pick p1)), .val (.int (own_pick p2)), .val (.int (own_pick p3)), .val (.int nn), .unset, .unset, .unset, .unset] [(.int (own_pick p2)), (.int (2 : Int32)), (.ref b280), (.ref b280)])) rfl rfl (hb hby at_98)
        have V289 := Arv.set Ar289 q289 Sz289 Nn289 Hh289 Gg289 (fits_nar_char _) W289 2 rfl (Nat.le_of_ble_eq_true rfl)
        have N289 := Fr.snoc X289 N286 gb280
        have c290 : Goes p e below s₁ (entryFrame m #[(.int p0), (.int p1), (.int p2), (.int p3), (.int p4)] maxLocals) T289 (mkF m 99 #[.val (.int p0), .val (.int p1), .val (.int p2), .val (.int p3), .val (.int p4), .val (.int (own_pick p0)), .val (.int (own_pick p1)), .val (.int (own_pick p2)), .val (.int (own_pick p3)), .val (.int nn), .unset, .unset, .unset, .unset] [(.ref b280)]) := fun t kk => c288 t (st289 t kk)
        have c291 : Goes p e below s₁ (entryFrame m #[(.int p0), (.int p1), (.int p2), (.int p3), (.int p4)] maxLocals) T289 (mkF m 129 #[.val (.int p0), .val (.int p1), .val (.int p2), .val (.int p3), .val (.int p4), .val (.int (own_pick p0)), .val (.int (own_pick p1)), .val (.int (own_pick p2)), .val (.int (own_pick p3)), .val (.int nn), .val (.ref b280), .unset, .unset, .unset] []) := by
          intro t kk
          refine c290 t ?_
          show Steps p.tables e below (T289.setTop (mkF m 99 #[.val (.int p0), .val (.int p1), .val (.int p2), .val (.int p3), .val (.int p4), .val (.int (own_pick p0)), .val (.int (own_pick p1)), .val (.int (own_pick p2)), .val (.int (own_pick p3)), .val (.int nn), .unset, .unset, .unset, .unset] [(.ref b280)])) t
          refine XS.astore X289.here hx rfl (hb hby at_99) rfl rfl (l' := #[.val (.int p0), .val (.int p1), .val (.int p2), .val (.int p3), .val (.int p4), .val (.int (own_pick p0)), .val (.int (own_pick p1)), .val (.int (own_pick p2)), .val (.int (own_pick p3)), .val (.int nn), .val (.ref b280), .unset, .unset, .unset]) rfl ?_
          show Steps p.tables e below (T289.setTop (mkF m 101 #[.val (.int p0), .val (.int p1), .val (.int p2), .val (.int p3), .val (.int p4), .val (.int (own_pick p0)), .val (.int (own_pick p1)), .val (.int (own_pick p2)), .val (.int (own_pick p3)), .val (.int nn), .val (.ref b280), .unset, .unset, .unset] [])) t
          refine XS.goto X289.here hx rfl (pc0 := 101) (pc' := 129) rfl (hb hby at_101) (by decide) (by decide) ?_
          exact kk
        obtain ⟨T292, h292, X292, e292, E292, A292, D292, -, st292⟩ := newO X289 hx hZ hown (hw _ (List.mem_of_getElem? (i := 6) rfl)) (hw _ (List.mem_of_getElem? (i := 7) rfl)) (hw _ (List.mem_of_getElem? (i := 8) rfl)) e289 (g := (mkF m 129 #[.val (.int p0), .val (.int p1), .val (.int p2), .val (.int p3), .val (.int p4), .val (.int (own_pick p0)), .val (.int (own_pick p1)), .val (.int (own_pick p2)), .val (.int (own_pick p3)), .val (.int nn), .val (.ref b280), .unset, .unset, .unset] [])) rfl (hb hby at_129) (by decide) (by decide)
        obtain ⟨b292, g292⟩ : ∃ z, z = h289.size := ⟨_, rfl⟩
        rw [← g292] at A292 D292 st292
        have f293 := (Nat.le_trans (Nat.le_trans (Nat.le_trans (Nat.le_trans Z0 E280.1) (Keep.of_wr W283).1) (Keep.of_wr W286).1) (Keep.of_wr W289).1)
        have gb292 : n0 ≤ b292 := Nat.le_trans f293 (Nat.le_of_eq g292.symm)
        have neb280_292 : b280 ≠ b292 := Nat.ne_of_lt (Nat.lt_of_lt_of_le V289.lt (Nat.le_of_eq g292.symm))
        have F_coder_b292 : Fld Z h292 b292 "java/lang/String" "coder" "B" (.int (0 : Int32)) := D292 (Or.inr (hw _ (List.mem_of_getElem? (i := 32) rfl))) (ty := .byte) (by decide)
        have F_value_b292 : Fld Z h292 b292 "java/lang/String" "value" "[B" .null := D292 (Or.inr (hw _ (List.mem_of_getElem? (i := 34) rfl))) (ty := (.array .byte)) (by decide)
        have c294 : Goes p e below s₁ (entryFrame m #[(.int p0), (.int p1), (.int p2), (.int p3), (.int p4)] maxLocals) T292 (mkF m 132 #[.val (.int p0), .val (.int p1), .val (.int p2), .val (.int p3), .val (.int p4), .val (.int (own_pick p0)), .val (.int (own_pick p1)), .val (.int (own_pick p2)), .val (.int (own_pick p3)), .val (.int nn), .val (.ref b280), .unset, .unset, .unset] [(.ref b292)]) := fun t kk => c291 t (st292 t kk)
        have f295 := (((((O0.ext E280).wr W283 gb280).wr W286 gb280).wr W289 gb280).ext E292)
        have f296 := (Nat.le_trans f293 E292.1)
        have f297 := (V289.ext E292)
        have c298 : Goes p e below s₁ (entryFrame m #[(.int p0), (.int p1), (.int p2), (.int p3), (.int p4)] maxLocals) T292 (mkF m 135 #[.val (.int p0), .val (.int p1), .val (.int p2), .val (.int p3), .val (.int p4), .val (.int (own_pick p0)), .val (.int (own_pick p1)), .val (.int (own_pick p2)), .val (.int (own_pick p3)), .val (.int nn), .val (.ref b280), .unset, .unset, .unset] [(.ref b280), (.ref b292), (.ref b292)]) := by
          intro t kk
          refine c294 t ?_
          show Steps p.tables e below (T292.setTop (mkF m 132 #[.val (.int p0), .val (.int p1), .val (.int p2), .val (.int p3), .val (.int p4), .val (.int (own_pick p0)), .val (.int (own_pick p1)), .val (.int (own_pick p2)), .val (.int (own_pick p3)), .val (.int nn), .val (.ref b280), .unset, .unset, .unset] [(.ref b292)])) t
          refine XS.dup X292.here hx rfl (hb hby at_132) rfl rfl ?_
          show Steps p.tables e below (T292.setTop (mkF m 133 #[.val (.int p0), .val (.int p1), .val (.int p2), .val (.int p3), .val (.int p4), .val (.int (own_pick p0)), .val (.int (own_pick p1)), .val (.int (own_pick p2)), .val (.int (own_pick p3)), .val (.int nn), .val (.ref b280), .unset, .unset, .unset] [(.ref b292), (.ref b292)])) t
          refine XS.aload X292.here hx rfl (hb hby at_133) rfl rfl ?_
          exact kk
        obtain ⟨_, _, ⟨T299, L299, k299, n299⟩, -, X299, ⟨Lc299, hQ299, l299, y299, z299⟩, st299⟩ := X292.specialBack hx (y := (⟨"java/lang/String", "<init>", "([C)V"⟩ : MethodName)) rfl hown (mvT hZ (hw _ (List.mem_of_getElem? (i := 9) rfl))) (mvT hZ (hw _ (List.mem_of_getElem? (i := 10) rfl))) (mvT hZ (hw _ (List.mem_of_getElem? (i := 11) rfl))) (by decide) (StrChars.Road.backV (W := 1) hZ (own_wmk hw) (kI := 4) (hw _ (List.mem_of_getElem? (i := 7) rfl)) (cs := ([(nar .char (own_pick p0)), (nar .char (own_pick p1)), (nar .char (own_pick p2))] : List Int32)) (bs := (([(nar .char (own_pick p0)), (nar .char (own_pick p1)), (nar .char (own_pick p2))] : List Int32)).map StrChars.lo8) (n := 3) gb292 f296 A292 F_value_b292 F_coder_b292 f297 (S2.ext f295.2) hz rfl rfl (by decide) (by decide) (by intro c hc; simp only [List.mem_cons, List.not_mem_nil, or_false] at hc; rcases hc with rfl | rfl | rfl <;> exact (own_ok _).2) rfl (by decide) (by decide)) (g := (mkF m 135 #[.val (.int p0), .val (.int p1), .val (.int p2), .val (.int p3), .val (.int p4), .val (.int (own_pick p0)), .val (.int (own_pick p1)), .val (.int (own_pick p2)), .val (.int (own_pick p3)), .val (.int nn), .val (.ref b280), .unset, .unset, .unset] [(.ref b280), (.ref b292), (.ref b292)])) rfl (by rw [hml]; rfl) (Steps.refl _) (a := b292) (argsL := [(.ref b280)]) (rest := [(.ref b292)]) (lenOf pd___C_V rfl) rfl (by show 2 * 0 + _ ≤ _; exact Nat.le_of_eq rfl) (hb hby at_135) (fun _ _ => ⟨rfl, e292, (by decide : 2 + 1 ≤ _), (by decide : 7 + 3 ≤ _)⟩)
        dsimp only [Pt.U, Pt.locs, Pt.cells, Pt.slots] at X299 l299 y299 z299 st299 hQ299
        subst l299 y299 z299
        obtain ⟨rfl, Nq299, Kq299, Eq299, Cq299, t299, kb299, gt299, szt299, net299, Vq299, Aq299⟩ := hQ299
        have N299 := Fr.app N289 Nq299
        have c300 : Goes p e below s₁ (entryFrame m #[(.int p0), (.int p1), (.int p2), (.int p3), (.int p4)] maxLocals) T299 (mkF m 138 #[.val (.int p0), .val (.int p1), .val (.int p2), .val (.int p3), .val (.int p4), .val (.int (own_pick p0)), .val (.int (own_pick p1)), .val (.int (own_pick p2)), .val (.int (own_pick p3)), .val (.int nn), .val (.ref b280), .unset, .unset, .unset] [(.ref b292)]) := fun t kk => c298 t (st299.trans kk)
        have Str299 : own_str Z T299.heap b292 ([(nar .char (own_pick p0)), (nar .char (own_pick p1)), (nar .char (own_pick p2))] : List Int32) := ⟨Eq299, Cq299, (by intro c hc; simp only [List.mem_cons, List.not_mem_nil, or_false] at hc; rcases hc with rfl | rfl | rfl <;> exact (own_ok _).2), t299, kb299, Vq299, Aq299⟩
        have f301 := (Nat.le_trans f296 Kq299.1)
        have f302 := (f295.keep Kq299 (allS gb292 all0))
        have c303 : Goes p e below s₁ (entryFrame m #[(.int p0), (.int p1), (.int p2), (.int p3), (.int p4)] maxLocals) T299 (mkF m 142 #[.val (.int p0), .val (.int p1), .val (.int p2), .val (.int p3), .val (.int p4), .val (.int (own_pick p0)), .val (.int (own_pick p1)), .val (.int (own_pick p2)), .val (.int (own_pick p3)), .val (.int nn), .val (.ref b280), .val (.ref b292), .unset, .unset] [(.ref b292)]) := by
          intro t kk
          refine c300 t ?_
          show Steps p.tables e below (T299.setTop (mkF m 138 #[.val (.int p0), .val (.int p1), .val (.int p2), .val (.int p3), .val (.int p4), .val (.int (own_pick p0)), .val (.int (own_pick p1)), .val (.int (own_pick p2)), .val (.int (own_pick p3)), .val (.int nn), .val (.ref b280), .unset, .unset, .unset] [(.ref b292)])) t
          refine XS.astore X299.here hx rfl (hb hby at_138) rfl rfl (l' := #[.val (.int p0), .val (.int p1), .val (.int p2), .val (.int p3), .val (.int p4), .val (.int (own_pick p0)), .val (.int (own_pick p1)), .val (.int (own_pick p2)), .val (.int (own_pick p3)), .val (.int nn), .val (.ref b280), .val (.ref b292), .unset, .unset]) rfl ?_
          show Steps p.tables e below (T299.setTop (mkF m 140 #[.val (.int p0), .val (.int p1), .val (.int p2), .val (.int p3), .val (.int p4), .val (.int (own_pick p0)), .val (.int (own_pick p1)), .val (.int (own_pick p2)), .val (.int (own_pick p3)), .val (.int nn), .val (.ref b280), .val (.ref b292), .unset, .unset] [])) t
          refine XS.aload X299.here hx rfl (hb hby at_140) rfl rfl ?_
          exact kk
        obtain ⟨_, _, ⟨T304, L304, k304, n304⟩, -, XX304, SS304, gr304, ⟨Lc304, hQ304, l304, y304, z304⟩, st304⟩ := callSS X299 hx (y := (⟨"com/example/sequence_dispenser/sequencedispenser/core/SequenceName", "of", "(Ljava/lang/String;)Lcom/example/sequence_dispenser/sequencedispenser/core/SequenceName;"⟩ : MethodName)) hown (mvT hZ (hw _ (List.mem_of_getElem? (i := 35) rfl))) (mvT hZ (hw _ (List.mem_of_getElem? (i := 36) rfl))) (mvT hZ (hw _ (List.mem_of_getElem? (i := 37) rfl))) (mvT hZ (hw _ (List.mem_of_getElem? (i := 38) rfl))) (by decide) (backOfS (W := 0) (rm_of l Z a0 hw [] b292 ([(nar .char (own_pick p0)), (nar .char (own_pick p1)), (nar .char (own_pick p2))] : List Int32) z fm T299.heap n0 f301 f302 S2 hz S4 hfm Str299 (by intro c hc; simp only [List.mem_cons, List.not_mem_nil, or_false] at hc; rcases hc with rfl | rfl | rfl <;> exact (own_ok _).1) (Nat.le_of_ble_eq_true rfl) (Nat.le_of_ble_eq_true rfl)) hZ (hw _ (List.mem_of_getElem? (i := 38) rfl)) (hw _ (List.mem_of_getElem? (i := 37) rfl)) (by decide) (by decide)) (g := (mkF m 142 #[.val (.int p0), .val (.int p1), .val (.int p2), .val (.int p3), .val (.int p4), .val (.int (own_pick p0)), .val (.int (own_pick p1)), .val (.int (own_pick p2)), .val (.int (own_pick p3)), .val (.int nn), .val (.ref b280), .val (.ref b292), .unset, .unset] [(.ref b292)])) rfl (by rw [hml]; rfl) (argsL := [(.ref b292)]) (rest := []) (lenOf pd__Ljava_lang_String__Lcom_example_sequence_dispenser_sequencedispenser_core_SequenceName_ rfl) rfl (by show 2 * 0 + _ ≤ _; exact Nat.le_of_eq rfl) (hb hby at_142) (fun _ _ => ⟨rfl, rfl, (by decide : 3 + 3 ≤ _), (by decide : 10 + 21 ≤ _)⟩)
        have f305 := (Nat.le_trans (Nat.le_trans (Nat.le_trans (Nat.le_trans (Nat.le_trans (Nat.le_trans (Nat.zero_le _) E280.1) (Keep.of_wr W283).1) (Keep.of_wr W286).1) (Keep.of_wr W289).1) E292.1) Kq299.1)
        obtain ⟨X304, S304, hZ304, ho304⟩ := rebS SW0 f305 XX304 SS304 gr304 hZ hown
        dsimp only [Pt.U, Pt.locs, Pt.cells, Pt.slots] at S304 hZ304 ho304 X304 l304 y304 z304 st304 hQ304
        subst l304 y304 z304
        obtain ⟨b304, rfl, Nq304, Kq304, Eq304, Fq304⟩ := hQ304
        have N304 := Fr.app N299 Nq304
        have c306 : Goes p e below s₁ (entryFrame m #[(.int p0), (.int p1), (.int p2), (.int p3), (.int p4)] maxLocals) T304 (mkF m 145 #[.val (.int p0), .val (.int p1), .val (.int p2), .val (.int p3), .val (.int p4), .val (.int (own_pick p0)), .val (.int (own_pick p1)), .val (.int (own_pick p2)), .val (.int (own_pick p3)), .val (.int nn), .val (.ref b280), .val (.ref b292), .unset, .unset] [(.ref b304)]) := fun t kk => c303 t (st304.trans kk)
        have Sk304 := own_skeep Str299 Kq304
        have f307 := (Nat.le_trans f301 Kq304.1)
        have c308 : Goes p e below s₁ (entryFrame m #[(.int p0), (.int p1), (.int p2), (.int p3), (.int p4)] maxLocals) T304 (mkF m 149 #[.val (.int p0), .val (.int p1), .val (.int p2), .val (.int p3), .val (.int p4), .val (.int (own_pick p0)), .val (.int (own_pick p1)), .val (.int (own_pick p2)), .val (.int (own_pick p3)), .val (.int nn), .val (.ref b280), .val (.ref b292), .val (.ref b304), .unset] [(.ref b304)]) := by
          intro t kk
          refine c306 t ?_
          show Steps p.tables e below (T304.setTop (mkF m 145 #[.val (.int p0), .val (.int p1), .val (.int p2), .val (.int p3), .val (.int p4), .val (.int (own_pick p0)), .val (.int (own_pick p1)), .val (.int (own_pick p2)), .val (.int (own_pick p3)), .val (.int nn), .val (.ref b280), .val (.ref b292), .unset, .unset] [(.ref b304)])) t
          refine XS.astore X304.here hx rfl (hb hby at_145) rfl rfl (l' := #[.val (.int p0), .val (.int p1), .val (.int p2), .val (.int p3), .val (.int p4), .val (.int (own_pick p0)), .val (.int (own_pick p1)), .val (.int (own_pick p2)), .val (.int (own_pick p3)), .val (.int nn), .val (.ref b280), .val (.ref b292), .val (.ref b304), .unset]) rfl ?_
          show Steps p.tables e below (T304.setTop (mkF m 147 #[.val (.int p0), .val (.int p1), .val (.int p2), .val (.int p3), .val (.int p4), .val (.int (own_pick p0)), .val (.int (own_pick p1)), .val (.int (own_pick p2)), .val (.int (own_pick p3)), .val (.int nn), .val (.ref b280), .val (.ref b292), .val (.ref b304), .unset] [])) t
          refine XS.aload X304.here hx rfl (hb hby at_147) rfl rfl ?_
          exact kk
        obtain ⟨cq309, kq309, q309a, q309b, q309c⟩ := isOf hZ304 rfl Eq304
        obtain ⟨_, _, ⟨T309, L309, k309, n309⟩, -, X309, ⟨Lc309, hQ309, l309, y309, z309⟩, st309⟩ := X304.virtualBack hx (y := (⟨"com/example/sequence_dispenser/sequencedispenser/core/SequenceName", "getText", "()Ljava/lang/String;"⟩ : MethodName)) (z := (⟨"com/example/sequence_dispenser/sequencedispenser/core/SequenceName", "getText", "()Ljava/lang/String;"⟩ : MethodName)) ho304 (mvT hZ304 (hw _ (List.mem_of_getElem? (i := 94) rfl))) (mvT hZ304 (hw _ (List.mem_of_getElem? (i := 95) rfl))) (notFace_of_selects (args := #[]) (mvT hZ304 (hw _ (List.mem_of_getElem? (i := 97) rfl)))) (mvT hZ304 (hw _ (List.mem_of_getElem? (i := 97) rfl))) (mvT hZ304 (hw _ (List.mem_of_getElem? (i := 96) rfl))) (by decide) (backOf (W := 0) (rm_gt l Z a0 hw [] b304 b292 T304.heap n0 f307 Fq304) hZ304 (hw _ (List.mem_of_getElem? (i := 98) rfl)) (hw _ (List.mem_of_getElem? (i := 37) rfl)) (by decide) (by decide)) q309a q309c (g := (mkF m 149 #[.val (.int p0), .val (.int p1), .val (.int p2), .val (.int p3), .val (.int p4), .val (.int (own_pick p0)), .val (.int (own_pick p1)), .val (.int (own_pick p2)), .val (.int (own_pick p3)), .val (.int nn), .val (.ref b280), .val (.ref b292), .val (.ref b304), .unset] [(.ref b304)])) rfl (by rw [hml]; rfl) (Steps.refl _) (argsL := []) (rest := []) (lenOf pd___Ljava_lang_String_ rfl) rfl (by show 2 * 0 + _ ≤ _; exact Nat.le_of_eq rfl) (hb hby at_149) (fun _ _ => ⟨rfl, rfl, (by decide : 6 + 0 ≤ _), (by decide : 31 + 0 ≤ _)⟩)
        dsimp only [Pt.U, Pt.locs, Pt.cells, Pt.slots] at X309 l309 y309 z309 st309 hQ309
        subst l309 y309 z309
        obtain ⟨rfl, Nq309, eq309⟩ := hQ309
        have N309 := Fr.app N304 Nq309
        have c310 : Goes p e below s₁ (entryFrame m #[(.int p0), (.int p1), (.int p2), (.int p3), (.int p4)] maxLocals) T309 (mkF m 152 #[.val (.int p0), .val (.int p1), .val (.int p2), .val (.int p3), .val (.int p4), .val (.int (own_pick p0)), .val (.int (own_pick p1)), .val (.int (own_pick p2)), .val (.int (own_pick p3)), .val (.int nn), .val (.ref b280), .val (.ref b292), .val (.ref b304), .unset] [(.ref b292)]) := fun t kk => c308 t (st309.trans kk)
        have f311 := (f302.keep Kq304 all0)
        obtain ⟨sE312, sC312, sp312, st312_t, kb312, sV312, sK312⟩ := id Sk304
        have c313 : Goes p e below s₁ (entryFrame m #[(.int p0), (.int p1), (.int p2), (.int p3), (.int p4)] maxLocals) T309 (mkF m 156 #[.val (.int p0), .val (.int p1), .val (.int p2), .val (.int p3), .val (.int p4), .val (.int (own_pick p0)), .val (.int (own_pick p1)), .val (.int (own_pick p2)), .val (.int (own_pick p3)), .val (.int nn), .val (.ref b280), .val (.ref b292), .val (.ref b304), .val (.ref b292)] [(.ref b292)]) := by
          intro t kk
          refine c310 t ?_
          show Steps p.tables e below (T309.setTop (mkF m 152 #[.val (.int p0), .val (.int p1), .val (.int p2), .val (.int p3), .val (.int p4), .val (.int (own_pick p0)), .val (.int (own_pick p1)), .val (.int (own_pick p2)), .val (.int (own_pick p3)), .val (.int nn), .val (.ref b280), .val (.ref b292), .val (.ref b304), .unset] [(.ref b292)])) t
          refine XS.astore X309.here hx rfl (hb hby at_152) rfl rfl (l' := #[.val (.int p0), .val (.int p1), .val (.int p2), .val (.int p3), .val (.int p4), .val (.int (own_pick p0)), .val (.int (own_pick p1)), .val (.int (own_pick p2)), .val (.int (own_pick p3)), .val (.int nn), .val (.ref b280), .val (.ref b292), .val (.ref b304), .val (.ref b292)]) rfl ?_
          show Steps p.tables e below (T309.setTop (mkF m 154 #[.val (.int p0), .val (.int p1), .val (.int p2), .val (.int p3), .val (.int p4), .val (.int (own_pick p0)), .val (.int (own_pick p1)), .val (.int (own_pick p2)), .val (.int (own_pick p3)), .val (.int nn), .val (.ref b280), .val (.ref b292), .val (.ref b304), .val (.ref b292)] [])) t
          refine XS.aload X309.here hx rfl (hb hby at_154) rfl rfl ?_
          exact kk
        obtain ⟨cq314, kq314, q314a, q314b, q314c⟩ := isOf hZ304 eq309 sE312
        obtain ⟨_, _, ⟨T314, L314, k314, n314⟩, -, X314, ⟨Lc314, hQ314, l314, y314, z314⟩, st314⟩ := X309.virtualBack hx (y := (⟨"java/lang/String", "length", "()I"⟩ : MethodName)) (z := (⟨"java/lang/String", "length", "()I"⟩ : MethodName)) ho304 (mvT hZ304 (hw _ (List.mem_of_getElem? (i := 99) rfl))) (mvT hZ304 (hw _ (List.mem_of_getElem? (i := 47) rfl))) (notFace_of_selects (args := #[]) (mvT hZ304 (hw _ (List.mem_of_getElem? (i := 49) rfl)))) (mvT hZ304 (hw _ (List.mem_of_getElem? (i := 49) rfl))) (mvT hZ304 (hw _ (List.mem_of_getElem? (i := 48) rfl))) (by decide) (StrChars.Road.lenW (W := 0) hZ304 (own_wlen hw) (kI := 4) (hw _ (List.mem_of_getElem? (i := 7) rfl)) sE312 sV312 sC312 sK312 (StrChars.Road.codOf rfl (fun c hc => (sp312 c hc).2)) (own_up sp312) (S2.ext f311.2) hz (Nat.le_of_ble_eq_true rfl) (by decide) (by decide)) q314a q314c (g := (mkF m 156 #[.val (.int p0), .val (.int p1), .val (.int p2), .val (.int p3), .val (.int p4), .val (.int (own_pick p0)), .val (.int (own_pick p1)), .val (.int (own_pick p2)), .val (.int (own_pick p3)), .val (.int nn), .val (.ref b280), .val (.ref b292), .val (.ref b304), .val (.ref b292)] [(.ref b292)])) rfl (by rw [hml]; rfl) (Steps.refl _) (argsL := []) (rest := []) (lenOf pd___I rfl) rfl (by show 2 * 0 + _ ≤ _; exact Nat.le_of_eq rfl) (hb hby at_156) (fun _ _ => ⟨rfl, eq309, (by decide : 6 + 0 ≤ _), (by decide : 31 + 0 ≤ _)⟩)
        dsimp only [Pt.U, Pt.locs, Pt.cells, Pt.slots] at X314 l314 y314 z314 st314 hQ314
        subst l314 y314 z314
        obtain ⟨rfl, hL314, eq314⟩ := hQ314
        have Nq314 : Fr n0 Lc314 := hL314 ▸ Fr.nil n0
        have N314 := Fr.app N309 Nq314
        have c315 : Goes p e below s₁ (entryFrame m #[(.int p0), (.int p1), (.int p2), (.int p3), (.int p4)] maxLocals) T314 (mkF m 159 #[.val (.int p0), .val (.int p1), .val (.int p2), .val (.int p3), .val (.int p4), .val (.int (own_pick p0)), .val (.int (own_pick p1)), .val (.int (own_pick p2)), .val (.int (own_pick p3)), .val (.int nn), .val (.ref b280), .val (.ref b292), .val (.ref b304), .val (.ref b292)] [(.int (Int32.ofNat (([(nar .char (own_pick p0)), (nar .char (own_pick p1)), (nar .char (own_pick p2))] : List Int32)).length))]) := fun t kk => c313 t (st314.trans kk)
        have f316 := (Eq299.keep Kq304)
        have c317 : Goes p e below s₁ (entryFrame m #[(.int p0), (.int p1), (.int p2), (.int p3), (.int p4)] maxLocals) T314 (mkF m 168 #[.val (.int p0), .val (.int p1), .val (.int p2), .val (.int p3), .val (.int p4), .val (.int (own_pick p0)), .val (.int (own_pick p1)), .val (.int (own_pick p2)), .val (.int (own_pick p3)), .val (.int nn), .val (.ref b280), .val (.ref b292), .val (.ref b304), .val (.ref b292)] [(.ref b292), (.ref b292)]) := by
          intro t kk
          refine c315 t ?_
          show Steps p.tables e below (T314.setTop (mkF m 159 #[.val (.int p0), .val (.int p1), .val (.int p2), .val (.int p3), .val (.int p4), .val (.int (own_pick p0)), .val (.int (own_pick p1)), .val (.int (own_pick p2)), .val (.int (own_pick p3)), .val (.int nn), .val (.ref b280), .val (.ref b292), .val (.ref b304), .val (.ref b292)] [(.int (Int32.ofNat (([(nar .char (own_pick p0)), (nar .char (own_pick p1)), (nar .char (own_pick p2))] : List Int32)).length))])) t
          refine XS.iload X314.here hx rfl (hb hby at_159) rfl ?_
          show Steps p.tables e below (T314.setTop (mkF m 161 #[.val (.int p0), .val (.int p1), .val (.int p2), .val (.int p3), .val (.int p4), .val (.int (own_pick p0)), .val (.int (own_pick p1)), .val (.int (own_pick p2)), .val (.int (own_pick p3)), .val (.int nn), .val (.ref b280), .val (.ref b292), .val (.ref b304), .val (.ref b292)] [(.int nn), (.int (Int32.ofNat (([(nar .char (own_pick p0)), (nar .char (own_pick p1)), (nar .char (own_pick p2))] : List Int32)).length))])) t
          refine XS.icmpNo X314.here hx rfl (hb hby at_161) rfl (teq (show Int32.ofNat 3 = nn from h78.symm)).2 ?_
          show Steps p.tables e below (T314.setTop (mkF m 164 #[.val (.int p0), .val (.int p1), .val (.int p2), .val (.int p3), .val (.int p4), .val (.int (own_pick p0)), .val (.int (own_pick p1)), .val (.int (own_pick p2)), .val (.int (own_pick p3)), .val (.int nn), .val (.ref b280), .val (.ref b292), .val (.ref b304), .val (.ref b292)] [])) t
          refine XS.aload X314.here hx rfl (hb hby at_164) rfl rfl ?_
          show Steps p.tables e below (T314.setTop (mkF m 166 #[.val (.int p0), .val (.int p1), .val (.int p2), .val (.int p3), .val (.int p4), .val (.int (own_pick p0)), .val (.int (own_pick p1)), .val (.int (own_pick p2)), .val (.int (own_pick p3)), .val (.int nn), .val (.ref b280), .val (.ref b292), .val (.ref b304), .val (.ref b292)] [(.ref b292)])) t
          refine XS.aload X314.here hx rfl (hb hby at_166) rfl rfl ?_
          exact kk
        obtain ⟨cq318, kq318, q318a, q318b, q318c⟩ := isOf hZ304 eq314 f316
        obtain ⟨_, _, ⟨T318, L318, k318, n318⟩, -, X318, ⟨Lc318, hQ318, l318, y318, z318⟩, st318⟩ := X314.virtualBack hx (y := (⟨"java/lang/String", "equals", "(Ljava/lang/Object;)Z"⟩ : MethodName)) (z := (⟨"java/lang/String", "equals", "(Ljava/lang/Object;)Z"⟩ : MethodName)) ho304 (mvT hZ304 (hw _ (List.mem_of_getElem? (i := 100) rfl))) (mvT hZ304 (hw _ (List.mem_of_getElem? (i := 101) rfl))) (notFace_of_selects (args := #[]) (mvT hZ304 (hw _ (List.mem_of_getElem? (i := 103) rfl)))) (mvT hZ304 (hw _ (List.mem_of_getElem? (i := 103) rfl))) (mvT hZ304 (hw _ (List.mem_of_getElem? (i := 102) rfl))) (by decide) (backOf (W := 0) (rm_eqs l Z a0 hw [] b292 T304.heap n0 f307) hZ304 (hw _ (List.mem_of_getElem? (i := 104) rfl)) (hw _ (List.mem_of_getElem? (i := 8) rfl)) (by decide) (by decide)) q318a q318c (g := (mkF m 168 #[.val (.int p0), .val (.int p1), .val (.int p2), .val (.int p3), .val (.int p4), .val (.int (own_pick p0)), .val (.int (own_pick p1)), .val (.int (own_pick p2)), .val (.int (own_pick p3)), .val (.int nn), .val (.ref b280), .val (.ref b292), .val (.ref b304), .val (.ref b292)] [(.ref b292), (.ref b292)])) rfl (by rw [hml]; rfl) (Steps.refl _) (argsL := [(.ref b292)]) (rest := []) (lenOf pd__Ljava_lang_Object__Z rfl) rfl (by show 2 * 0 + _ ≤ _; exact Nat.le_of_eq rfl) (hb hby at_168) (fun _ _ => ⟨rfl, eq314, (by decide : 6 + 0 ≤ _), (by decide : 31 + 0 ≤ _)⟩)
        dsimp only [Pt.U, Pt.locs, Pt.cells, Pt.slots] at X318 l318 y318 z318 st318 hQ318
        subst l318 y318 z318
        obtain ⟨rfl, Nq318, eq318⟩ := hQ318
        have N318 := Fr.app N314 Nq318
        have c319 : Goes p e below s₁ (entryFrame m #[(.int p0), (.int p1), (.int p2), (.int p3), (.int p4)] maxLocals) T318 (mkF m 171 #[.val (.int p0), .val (.int p1), .val (.int p2), .val (.int p3), .val (.int p4), .val (.int (own_pick p0)), .val (.int (own_pick p1)), .val (.int (own_pick p2)), .val (.int (own_pick p3)), .val (.int nn), .val (.ref b280), .val (.ref b292), .val (.ref b304), .val (.ref b292)] [(.int (1 : Int32))]) := fun t kk => c317 t (st318.trans kk)
        have c320 : Goes p e below s₁ (entryFrame m #[(.int p0), (.int p1), (.int p2), (.int p3), (.int p4)] maxLocals) T318 (mkF m 179 #[.val (.int p0), .val (.int p1), .val (.int p2), .val (.int p3), .val (.int p4), .val (.int (own_pick p0)), .val (.int (own_pick p1)), .val (.int (own_pick p2)), .val (.int (own_pick p3)), .val (.int nn), .val (.ref b280), .val (.ref b292), .val (.ref b304), .val (.ref b292)] [(.int (1 : Int32))]) := by
          intro t kk
          refine c319 t ?_
          show Steps p.tables e below (T318.setTop (mkF m 171 #[.val (.int p0), .val (.int p1), .val (.int p2), .val (.int p3), .val (.int p4), .val (.int (own_pick p0)), .val (.int (own_pick p1)), .val (.int (own_pick p2)), .val (.int (own_pick p3)), .val (.int nn), .val (.ref b280), .val (.ref b292), .val (.ref b304), .val (.ref b292)] [(.int (1 : Int32))])) t
          refine XS.ifNo X318.here hx rfl (hb hby at_171) rfl ((if0 _ _).trans (feq (by decide : ¬ ((1 : Int32) = (0 : Int32)))).1) ?_
          show Steps p.tables e below (T318.setTop (mkF m 174 #[.val (.int p0), .val (.int p1), .val (.int p2), .val (.int p3), .val (.int p4), .val (.int (own_pick p0)), .val (.int (own_pick p1)), .val (.int (own_pick p2)), .val (.int (own_pick p3)), .val (.int nn), .val (.ref b280), .val (.ref b292), .val (.ref b304), .val (.ref b292)] [])) t
          refine XS.iconst X318.here hx rfl (hb hby at_174) ?_
          show Steps p.tables e below (T318.setTop (mkF m 175 #[.val (.int p0), .val (.int p1), .val (.int p2), .val (.int p3), .val (.int p4), .val (.int (own_pick p0)), .val (.int (own_pick p1)), .val (.int (own_pick p2)), .val (.int (own_pick p3)), .val (.int nn), .val (.ref b280), .val (.ref b292), .val (.ref b304), .val (.ref b292)] [(.int (1 : Int32))])) t
          refine XS.goto X318.here hx rfl (pc0 := 175) (pc' := 179) rfl (hb hby at_175) (by decide) (by decide) ?_
          exact kk
        obtain ⟨fs, hr, hrun, hended, hRW⟩ := X318.leaveW S304 (by rw [eq318]; exact (Nat.le_refl _)) (v := some (.int (1 : Int32))) (fun h => by rw [Bd.returns] at h; cases h)
        refine ⟨_, _, c320 _ ?_, hrun, hended, _, _, rfl, ?_, hRW.1, hRW.2.1, hRW.2.2.1, hRW.2.2.2.mono (by decide) (by decide)⟩
        · exact retN X318 hx (t := .boolean) Bd.returns (by simp) (hb hby at_179) hr
        · show Q_law Z p0 p1 p2 p3 p4 z fm h0 n0 _ T318.heap _
          rw [eq318]
          exact ⟨rfl, N318⟩
      · have c321 : Goes p e below s₁ (entryFrame m #[(.int p0), (.int p1), (.int p2), (.int p3), (.int p4)] maxLocals) T197 (mkF m 105 #[.val (.int p0), .val (.int p1), .val (.int p2), .val (.int p3), .val (.int p4), .val (.int (own_pick p0)), .val (.int (own_pick p1)), .val (.int (own_pick p2)), .val (.int (own_pick p3)), .val (.int nn), .unset, .unset, .unset, .unset] [(.int (4 : Int32))]) := by
          intro t kk
          refine c278 t ?_
          show Steps p.tables e below (T197.setTop (mkF m 78 #[.val (.int p0), .val (.int p1), .val (.int p2), .val (.int p3), .val (.int p4), .val (.int (own_pick p0)), .val (.int (own_pick p1)), .val (.int (own_pick p2)), .val (.int (own_pick p3)), .val (.int nn), .unset, .unset, .unset, .unset] [(.int (3 : Int32)), (.int nn)])) t
          refine XS.icmpYes X197.here hx rfl (pc0 := 78) (pc' := 104) rfl (hb hby at_78) rfl (feq h78).2 (by decide) (by decide) ?_
          show Steps p.tables e below (T197.setTop (mkF m 104 #[.val (.int p0), .val (.int p1), .val (.int p2), .val (.int p3), .val (.int p4), .val (.int (own_pick p0)), .val (.int (own_pick p1)), .val (.int (own_pick p2)), .val (.int (own_pick p3)), .val (.int nn), .unset, .unset, .unset, .unset] [])) t
          refine XS.iconst X197.here hx rfl (hb hby at_104) ?_
          exact kk
        obtain ⟨T322, h322, k322, X322, e322, E322, A322, st322⟩ := newP X197 hx hZ (hw _ (List.mem_of_getElem? (i := 5) rfl)) eq197 (g := (mkF m 105 #[.val (.int p0), .val (.int p1), .val (.int p2), .val (.int p3), .val (.int p4), .val (.int (own_pick p0)), .val (.int (own_pick p1)), .val (.int (own_pick p2)), .val (.int (own_pick p3)), .val (.int nn), .unset, .unset, .unset, .unset] [(.int (4 : Int32))])) rfl (hb hby at_105) rfl (by decide) (cap := 4) (by decide) (by decide) (by decide) (by decide)
        obtain ⟨b322, g322⟩ : ∃ z, z = h0.size := ⟨_, rfl⟩
        rw [← g322] at A322 st322
        have gb322 : n0 ≤ b322 := Nat.le_trans Z0 (Nat.le_of_eq g322.symm)
        have V322 : Arv Z h322 b322 k322 .char (4 : Int32) [(.int (0 : Int32)), (.int (0 : Int32)), (.int (0 : Int32)), (.int (0 : Int32))] (.int (0 : Int32)) := (Arv.new A322 (by decide)).pad (pad_rep [] (.int (0 : Int32)) 4)
        have c323 : Goes p e below s₁ (entryFrame m #[(.int p0), (.int p1), (.int p2), (.int p3), (.int p4)] maxLocals) T322 (mkF m 107 #[.val (.int p0), .val (.int p1), .val (.int p2), .val (.int p3), .val (.int p4), .val (.int (own_pick p0)), .val (.int (own_pick p1)), .val (.int (own_pick p2)), .val (.int (own_pick p3)), .val (.int nn), .unset, .unset, .unset, .unset] [(.ref b322)]) := fun t kk => c321 t (st322 t kk)
        have c324 : Goes p e below s₁ (entryFrame m #[(.int p0), (.int p1), (.int p2), (.int p3), (.int p4)] maxLocals) T322 (mkF m 111 #[.val (.int p0), .val (.int p1), .val (.int p2), .val (.int p3), .val (.int p4), .val (.int (own_pick p0)), .val (.int (own_pick p1)), .val (.int (own_pick p2)), .val (.int (own_pick p3)), .val (.int nn), .unset, .unset, .unset, .unset] [(.int (own_pick p0)), (.int (0 : Int32)), (.ref b322), (.ref b322)]) := by
          intro t kk
          refine c323 t ?_
          show Steps p.tables e below (T322.setTop (mkF m 107 #[.val (.int p0), .val (.int p1), .val (.int p2), .val (.int p3), .val (.int p4), .val (.int (own_pick p0)), .val (.int (own_pick p1)), .val (.int (own_pick p2)), .val (.int (own_pick p3)), .val (.int nn), .unset, .unset, .unset, .unset] [(.ref b322)])) t
          refine XS.dup X322.here hx rfl (hb hby at_107) rfl rfl ?_
          show Steps p.tables e below (T322.setTop (mkF m 108 #[.val (.int p0), .val (.int p1), .val (.int p2), .val (.int p3), .val (.int p4), .val (.int (own_pick p0)), .val (.int (own_pick p1)), .val (.int (own_pick p2)), .val (.int (own_pick p3)), .val (.int nn), .unset, .unset, .unset, .unset] [(.ref b322), (.ref b322)])) t
          refine XS.iconst X322.here hx rfl (hb hby at_108) ?_
          show Steps p.tables e below (T322.setTop (mkF m 109 #[.val (.int p0), .val (.int p1), .val (.int p2), .val (.int p3), .val (.int p4), .val (.int (own_pick p0)), .val (.int (own_pick p1)), .val (.int (own_pick p2)), .val (.int (own_pick p3)), .val (.int nn), .unset, .unset, .unset, .unset] [(.int (0 : Int32)), (.ref b322), (.ref b322)])) t
          refine XS.iload X322.here hx rfl (hb hby at_109) rfl ?_
          exact kk
        obtain ⟨cl325, Ar325, q325, Sz325, Nn325, Hh325, Gg325⟩ := id V322
        have hin325 : ¬ ((0 : Int32) < 0 ∨ cl325.slots.size ≤ ((0 : Int32)).toNatClampNeg) := inb_of Sz325 ⟨by decide, by decide⟩
        obtain ⟨T325, h325, X325, e325, W325, st325⟩ := stC X322 hx hZ e322 Ar325 (j := (0 : Int32)) hin325 (g := (mkF m 111 #[.val (.int p0), .val (.int p1), .val (.int p2), .val (.int p3), .val (.int p4), .val (.int (own_pick p0)), .val (.int (own_pick p1)), .val (.int (own_pick p2)), .val (.int (own_pick p3)), .val (.int nn), .unset, .unset, .unset, .unset] [(.int (own_pick p0)), (.int (0 : Int32)), (.ref b322), (.ref b322)])) rfl rfl (hb hby at_111)
        have V325 := Arv.set Ar325 q325 Sz325 Nn325 Hh325 Gg325 (fits_nar_char _) W325 0 rfl (Nat.le_of_ble_eq_true rfl)
        have N325 := Fr.snoc X325 N197 gb322
        have c326 : Goes p e below s₁ (entryFrame m #[(.int p0), (.int p1), (.int p2), (.int p3), (.int p4)] maxLocals) T325 (mkF m 112 #[.val (.int p0), .val (.int p1), .val (.int p2), .val (.int p3), .val (.int p4), .val (.int (own_pick p0)), .val (.int (own_pick p1)), .val (.int (own_pick p2)), .val (.int (own_pick p3)), .val (.int nn), .unset, .unset, .unset, .unset] [(.ref b322)]) := fun t kk => c324 t (st325 t kk)
        have c327 : Goes p e below s₁ (entryFrame m #[(.int p0), (.int p1), (.int p2), (.int p3), (.int p4)] maxLocals) T325 (mkF m 116 #[.val (.int p0), .val (.int p1), .val (.int p2), .val (.int p3), .val (.int p4), .val (.int (own_pick p0)), .val (.int (own_pick p1)), .val (.int (own_pick p2)), .val (.int (own_pick p3)), .val (.int nn), .unset, .unset, .unset, .unset] [(.int (own_pick p1)), (.int (1 : Int32)), (.ref b322), (.ref b322)]) := by
          intro t kk
          refine c326 t ?_
          show Steps p.tables e below (T325.setTop (mkF m 112 #[.val (.int p0), .val (.int p1), .val (.int p2), .val (.int p3), .val (.int p4), .val (.int (own_pick p0)), .val (.int (own_pick p1)), .val (.int (own_pick p2)), .val (.int (own_pick p3)), .val (.int nn), .unset, .unset, .unset, .unset] [(.ref b322)])) t
          refine XS.dup X325.here hx rfl (hb hby at_112) rfl rfl ?_
          show Steps p.tables e below (T325.setTop (mkF m 113 #[.val (.int p0), .val (.int p1), .val (.int p2), .val (.int p3), .val (.int p4), .val (.int (own_pick p0)), .val (.int (own_pick p1)), .val (.int (own_pick p2)), .val (.int (own_pick p3)), .val (.int nn), .unset, .unset, .unset, .unset] [(.ref b322), (.ref b322)])) t
          refine XS.iconst X325.here hx rfl (hb hby at_113) ?_
          show Steps p.tables e below (T325.setTop (mkF m 114 #[.val (.int p0), .val (.int p1), .val (.int p2), .val (.int p3), .val (.int p4), .val (.int (own_pick p0)), .val (.int (own_pick p1)), .val (.int (own_pick p2)), .val (.int (own_pick p3)), .val (.int nn), .unset, .unset, .unset, .unset] [(.int (1 : Int32)), (.ref b322), (.ref b322)])) t
          refine XS.iload X325.here hx rfl (hb hby at_114) rfl ?_
          exact kk
        obtain ⟨cl328, Ar328, q328, Sz328, Nn328, Hh328, Gg328⟩ := id V325
        have hin328 : ¬ ((1 : Int32) < 0 ∨ cl328.slots.size ≤ ((1 : Int32)).toNatClampNeg) := inb_of Sz328 ⟨by decide, by decide⟩
        obtain ⟨T328, h328, X328, e328, W328, st328⟩ := stC X325 hx hZ e325 Ar328 (j := (1 : Int32)) hin328 (g := (mkF m 116 #[.val (.int p0), .val (.int p1), .val (.int p2), .val (.int p3), .val (.int p4), .val (.int (own_pick p0)), .val (.int (own_pick p1)), .val (.int (own_pick p2)), .val (.int (own_pick p3)), .val (.int nn), .unset, .unset, .unset, .unset] [(.int (own_pick p1)), (.int (1 : Int32)), (.ref b322), (.ref b322)])) rfl rfl (hb hby at_116)
        have V328 := Arv.set Ar328 q328 Sz328 Nn328 Hh328 Gg328 (fits_nar_char _) W328 1 rfl (Nat.le_of_ble_eq_true rfl)
        have N328 := Fr.snoc X328 N325 gb322
        have c329 : Goes p e below s₁ (entryFrame m #[(.int p0), (.int p1), (.int p2), (.int p3), (.int p4)] maxLocals) T328 (mkF m 117 #[.val (.int p0), .val (.int p1), .val (.int p2), .val (.int p3), .val (.int p4), .val (.int (own_pick p0)), .val (.int (own_pick p1)), .val (.int (own_pick p2)), .val (.int (own_pick p3)), .val (.int nn), .unset, .unset, .unset, .unset] [(.ref b322)]) := fun t kk => c327 t (st328 t kk)
        have c330 : Goes p e below s₁ (entryFrame m #[(.int p0), (.int p1), (.int p2), (.int p3), (.int p4)] maxLocals) T328 (mkF m 121 #[.val (.int p0), .val (.int p1), .val (.int p2), .val (.int p3), .val (.int p4), .val (.int (own_pick p0)), .val (.int (own_pick p1)), .val (.int (own_pick p2)), .val (.int (own_pick p3)), .val (.int nn), .unset, .unset, .unset, .unset] [(.int (own_pick p2)), (.int (2 : Int32)), (.ref b322), (.ref b322)]) := by
          intro t kk
          refine c329 t ?_
          show Steps p.tables e below (T328.setTop (mkF m 117 #[.val (.int p0), .val (.int p1), .val (.int p2), .val (.int p3), .val (.int p4), .val (.int (own_pick p0)), .val (.int (own_pick p1)), .val (.int (own_pick p2)), .val (.int (own_pick p3)), .val (.int nn), .unset, .unset, .unset, .unset] [(.ref b322)])) t
          refine XS.dup X328.here hx rfl (hb hby at_117) rfl rfl ?_
          show Steps p.tables e below (T328.setTop (mkF m 118 #[.val (.int p0), .val (.int p1), .val (.int p2), .val (.int p3), .val (.int p4), .val (.int (own_pick p0)), .val (.int (own_pick p1)), .val (.int (own_pick p2)), .val (.int (own_pick p3)), .val (.int nn), .unset, .unset, .unset, .unset] [(.ref b322), (.ref b322)])) t
          refine XS.iconst X328.here hx rfl (hb hby at_118) ?_
          show Steps p.tables e below (T328.setTop (mkF m 119 #[.val (.int p0), .val (.int p1), .val (.int p2), .val (.int p3), .val (.int p4), .val (.int (own_pick p0)), .val (.int (own_pick p1)), .val (.int (own_pick p2)), .val (.int (own_pick p3)), .val (.int nn), .unset, .unset, .unset, .unset] [(.int (2 : Int32)), (.ref b322), (.ref b322)])) t
          refine XS.iload X328.here hx rfl (hb hby at_119) rfl ?_
          exact kk
        obtain ⟨cl331, Ar331, q331, Sz331, Nn331, Hh331, Gg331⟩ := id V328
        have hin331 : ¬ ((2 : Int32) < 0 ∨ cl331.slots.size ≤ ((2 : Int32)).toNatClampNeg) := inb_of Sz331 ⟨by decide, by decide⟩
        obtain ⟨T331, h331, X331, e331, W331, st331⟩ := stC X328 hx hZ e328 Ar331 (j := (2 : Int32)) hin331 (g := (mkF m 121 #[.val (.int p0), .val (.int p1), .val (.int p2), .val (.int p3), .val (.int p4), .val (.int (own_pick p0)), .val (.int (own_pick p1)), .val (.int (own_pick p2)), .val (.int (own_pick p3)), .val (.int nn), .unset, .unset, .unset, .unset] [(.int (own_pick p2)), (.int (2 : Int32)), (.ref b322), (.ref b322)])) rfl rfl (hb hby at_121)
        have V331 := Arv.set Ar331 q331 Sz331 Nn331 Hh331 Gg331 (fits_nar_char _) W331 2 rfl (Nat.le_of_ble_eq_true rfl)
        have N331 := Fr.snoc X331 N328 gb322
        have c332 : Goes p e below s₁ (entryFrame m #[(.int p0), (.int p1), (.int p2), (.int p3), (.int p4)] maxLocals) T331 (mkF m 122 #[.val (.int p0), .val (.int p1), .val (.int p2), .val (.int p3), .val (.int p4), .val (.int (own_pick p0)), .val (.int (own_pick p1)), .val (.int (own_pick p2)), .val (.int (own_pick p3)), .val (.int nn), .unset, .unset, .unset, .unset] [(.ref b322)]) := fun t kk => c330 t (st331 t kk)
        have c333 : Goes p e below s₁ (entryFrame m #[(.int p0), (.int p1), (.int p2), (.int p3), (.int p4)] maxLocals) T331 (mkF m 126 #[.val (.int p0), .val (.int p1), .val (.int p2), .val (.int p3), .val (.int p4), .val (.int (own_pick p0)), .val (.int (own_pick p1)), .val (.int (own_pick p2)), .val (.int (own_pick p3)), .val (.int nn), .unset, .unset, .unset, .unset] [(.int (own_pick p3)), (.int (3 : Int32)), (.ref b322), (.ref b322)]) := by
          intro t kk
          refine c332 t ?_
          show Steps p.tables e below (T331.setTop (mkF m 122 #[.val (.int p0), .val (.int p1), .val (.int p2), .val (.int p3), .val (.int p4), .val (.int (own_pick p0)), .val (.int (own_pick p1)), .val (.int (own_pick p2)), .val (.int (own_pick p3)), .val (.int nn), .unset, .unset, .unset, .unset] [(.ref b322)])) t
          refine XS.dup X331.here hx rfl (hb hby at_122) rfl rfl ?_
          show Steps p.tables e below (T331.setTop (mkF m 123 #[.val (.int p0), .val (.int p1), .val (.int p2), .val (.int p3), .val (.int p4), .val (.int (own_pick p0)), .val (.int (own_pick p1)), .val (.int (own_pick p2)), .val (.int (own_pick p3)), .val (.int nn), .unset, .unset, .unset, .unset] [(.ref b322), (.ref b322)])) t
          refine XS.iconst X331.here hx rfl (hb hby at_123) ?_
          show Steps p.tables e below (T331.setTop (mkF m 124 #[.val (.int p0), .val (.int p1), .val (.int p2), .val (.int p3), .val (.int p4), .val (.int (own_pick p0)), .val (.int (own_pick p1)), .val (.int (own_pick p2)), .val (.int (own_pick p3)), .val (.int nn), .unset, .unset, .unset, .unset] [(.int (3 : Int32)), (.ref b322), (.ref b322)])) t
          refine XS.iload X331.here hx rfl (hb hby at_124) rfl ?_
          exact kk
        obtain ⟨cl334, Ar334, q334, Sz334, Nn334, Hh334, Gg334⟩ := id V331
        have hin334 : ¬ ((3 : Int32) < 0 ∨ cl334.slots.size ≤ ((3 : Int32)).toNatClampNeg) := inb_of Sz334 ⟨by decide, by decide⟩
        obtain ⟨T334, h334, X334, e334, W334, st334⟩ := stC X331 hx hZ e331 Ar334 (j := (3 : Int32)) hin334 (g := (mkF m 126 #[.val (.int p0), .val (.int p1), .val (.int p2), .val (.int p3), .val (.int p4), .val (.int (own_pick p0)), .val (.int (own_pick p1)), .val (.int (own_pick p2)), .val (.int (own_pick p3)), .val (.int nn), .unset, .unset, .unset, .unset] [(.int (own_pick p3)), (.int (3 : Int32)), (.ref b322), (.ref b322)])) rfl rfl (hb hby at_126)
        have V334 := Arv.set Ar334 q334 Sz334 Nn334 Hh334 Gg334 (fits_nar_char _) W334 3 rfl (Nat.le_of_ble_eq_true rfl)
        have N334 := Fr.snoc X334 N331 gb322
        have c335 : Goes p e below s₁ (entryFrame m #[(.int p0), (.int p1), (.int p2), (.int p3), (.int p4)] maxLocals) T334 (mkF m 127 #[.val (.int p0), .val (.int p1), .val (.int p2), .val (.int p3), .val (.int p4), .val (.int (own_pick p0)), .val (.int (own_pick p1)), .val (.int (own_pick p2)), .val (.int (own_pick p3)), .val (.int nn), .unset, .unset, .unset, .unset] [(.ref b322)]) := fun t kk => c333 t (st334 t kk)
        have c336 : Goes p e below s₁ (entryFrame m #[(.int p0), (.int p1), (.int p2), (.int p3), (.int p4)] maxLocals) T334 (mkF m 129 #[.val (.int p0), .val (.int p1), .val (.int p2), .val (.int p3), .val (.int p4), .val (.int (own_pick p0)), .val (.int (own_pick p1)), .val (.int (own_pick p2)), .val (.int (own_pick p3)), .val (.int nn), .val (.ref b322), .unset, .unset, .unset] []) := by
          intro t kk
          refine c335 t ?_
          show Steps p.tables e below (T334.setTop (mkF m 127 #[.val (.int p0), .val (.int p1), .val (.int p2), .val (.int p3), .val (.int p4), .val (.int (own_pick p0)), .val (.int (own_pick p1)), .val (.int (own_pick p2)), .val (.int (own_pick p3)), .val (.int nn), .unset, .unset, .unset, .unset] [(.ref b322)])) t
          refine XS.astore X334.here hx rfl (hb hby at_127) rfl rfl (l' := #[.val (.int p0), .val (.int p1), .val (.int p2), .val (.int p3), .val (.int p4), .val (.int (own_pick p0)), .val (.int (own_pick p1)), .val (.int (own_pick p2)), .val (.int (own_pick p3)), .val (.int nn), .val (.ref b322), .unset, .unset, .unset]) rfl ?_
          exact kk
        obtain ⟨T337, h337, X337, e337, E337, A337, D337, -, st337⟩ := newO X334 hx hZ hown (hw _ (List.mem_of_getElem? (i := 6) rfl)) (hw _ (List.mem_of_getElem? (i := 7) rfl)) (hw _ (List.mem_of_getElem? (i := 8) rfl)) e334 (g := (mkF m 129 #[.val (.int p0), .val (.int p1), .val (.int p2), .val (.int p3), .val (.int p4), .val (.int (own_pick p0)), .val (.int (own_pick p1)), .val (.int (own_pick p2)), .val (.int (own_pick p3)), .val (.int nn), .val (.ref b322), .unset, .unset, .unset] [])) rfl (hb hby at_129) (by decide) (by decide)
        obtain ⟨b337, g337⟩ : ∃ z, z = h334.size := ⟨_, rfl⟩
        rw [← g337] at A337 D337 st337
        have f338 := (Nat.le_trans (Nat.le_trans (Nat.le_trans (Nat.le_trans (Nat.le_trans Z0 E322.1) (Keep.of_wr W325).1) (Keep.of_wr W328).1) (Keep.of_wr W331).1) (Keep.of_wr W334).1)
        have gb337 : n0 ≤ b337 := Nat.le_trans f338 (Nat.le_of_eq g337.symm)
        have neb322_337 : b322 ≠ b337 := Nat.ne_of_lt (Nat.lt_of_lt_of_le V334.lt (Nat.le_of_eq g337.symm))
        have F_coder_b337 : Fld Z h337 b337 "java/lang/String" "coder" "B" (.int (0 : Int32)) := D337 (Or.inr (hw _ (List.mem_of_getElem? (i := 32) rfl))) (ty := .byte) (by decide)
        have F_value_b337 : Fld Z h337 b337 "java/lang/String" "value" "[B" .null := D337 (Or.inr (hw _ (List.mem_of_getElem? (i := 34) rfl))) (ty := (.array .byte)) (by decide)
        have c339 : Goes p e below s₁ (entryFrame m #[(.int p0), (.int p1), (.int p2), (.int p3), (.int p4)] maxLocals) T337 (mkF m 132 #[.val (.int p0), .val (.int p1), .val (.int p2), .val (.int p3), .val (.int p4), .val (.int (own_pick p0)), .val (.int (own_pick p1)), .val (.int (own_pick p2)), .val (.int (own_pick p3)), .val (.int nn), .val (.ref b322), .unset, .unset, .unset] [(.ref b337)]) := fun t kk => c336 t (st337 t kk)
        have f340 := ((((((O0.ext E322).wr W325 gb322).wr W328 gb322).wr W331 gb322).wr W334 gb322).ext E337)
        have f341 := (Nat.le_trans f338 E337.1)
        have f342 := (V334.ext E337)
        have c343 : Goes p e below s₁ (entryFrame m #[(.int p0), (.int p1), (.int p2), (.int p3), (.int p4)] maxLocals) T337 (mkF m 135 #[.val (.int p0), .val (.int p1), .val (.int p2), .val (.int p3), .val (.int p4), .val (.int (own_pick p0)), .val (.int (own_pick p1)), .val (.int (own_pick p2)), .val (.int (own_pick p3)), .val (.int nn), .val (.ref b322), .unset, .unset, .unset] [(.ref b322), (.ref b337), (.ref b337)]) := by
          intro t kk
          refine c339 t ?_
          show Steps p.tables e below (T337.setTop (mkF m 132 #[.val (.int p0), .val (.int p1), .val (.int p2), .val (.int p3), .val (.int p4), .val (.int (own_pick p0)), .val (.int (own_pick p1)), .val (.int (own_pick p2)), .val (.int (own_pick p3)), .val (.int nn), .val (.ref b322), .unset, .unset, .unset] [(.ref b337)])) t
          refine XS.dup X337.here hx rfl (hb hby at_132) rfl rfl ?_
          show Steps p.tables e below (T337.setTop (mkF m 133 #[.val (.int p0), .val (.int p1), .val (.int p2), .val (.int p3), .val (.int p4), .val (.int (own_pick p0)), .val (.int (own_pick p1)), .val (.int (own_pick p2)), .val (.int (own_pick p3)), .val (.int nn), .val (.ref b322), .unset, .unset, .unset] [(.ref b337), (.ref b337)])) t
          refine XS.aload X337.here hx rfl (hb hby at_133) rfl rfl ?_
          exact kk
        obtain ⟨_, _, ⟨T344, L344, k344, n344⟩, -, X344, ⟨Lc344, hQ344, l344, y344, z344⟩, st344⟩ := X337.specialBack hx (y := (⟨"java/lang/String", "<init>", "([C)V"⟩ : MethodName)) rfl hown (mvT hZ (hw _ (List.mem_of_getElem? (i := 9) rfl))) (mvT hZ (hw _ (List.mem_of_getElem? (i := 10) rfl))) (mvT hZ (hw _ (List.mem_of_getElem? (i := 11) rfl))) (by decide) (StrChars.Road.backV (W := 1) hZ (own_wmk hw) (kI := 4) (hw _ (List.mem_of_getElem? (i := 7) rfl)) (cs := ([(nar .char (own_pick p0)), (nar .char (own_pick p1)), (nar .char (own_pick p2)), (nar .char (own_pick p3))] : List Int32)) (bs := (([(nar .char (own_pick p0)), (nar .char (own_pick p1)), (nar .char (own_pick p2)), (nar .char (own_pick p3))] : List Int32)).map StrChars.lo8) (n := 4) gb337 f341 A337 F_value_b337 F_coder_b337 f342 (S2.ext f340.2) hz rfl rfl (by decide) (by decide) (by intro c hc; simp only [List.mem_cons, List.not_mem_nil, or_false] at hc; rcases hc with rfl | rfl | rfl | rfl <;> exact (own_ok _).2) rfl (by decide) (by decide)) (g := (mkF m 135 #[.val (.int p0), .val (.int p1), .val (.int p2), .val (.int p3), .val (.int p4), .val (.int (own_pick p0)), .val (.int (own_pick p1)), .val (.int (own_pick p2)), .val (.int (own_pick p3)), .val (.int nn), .val (.ref b322), .unset, .unset, .unset] [(.ref b322), (.ref b337), (.ref b337)])) rfl (by rw [hml]; rfl) (Steps.refl _) (a := b337) (argsL := [(.ref b322)]) (rest := [(.ref b337)]) (lenOf pd___C_V rfl) rfl (by show 2 * 0 + _ ≤ _; exact Nat.le_of_eq rfl) (hb hby at_135) (fun _ _ => ⟨rfl, e337, (by decide : 2 + 1 ≤ _), (by decide : 8 + 4 ≤ _)⟩)
        dsimp only [Pt.U, Pt.locs, Pt.cells, Pt.slots] at X344 l344 y344 z344 st344 hQ344
        subst l344 y344 z344
        obtain ⟨rfl, Nq344, Kq344, Eq344, Cq344, t344, kb344, gt344, szt344, net344, Vq344, Aq344⟩ := hQ344
        have N344 := Fr.app N334 Nq344
        have c345 : Goes p e below s₁ (entryFrame m #[(.int p0), (.int p1), (.int p2), (.int p3), (.int p4)] maxLocals) T344 (mkF m 138 #[.val (.int p0), .val (.int p1), .val (.int p2), .val (.int p3), .val (.int p4), .val (.int (own_pick p0)), .val (.int (own_pick p1)), .val (.int (own_pick p2)), .val (.int (own_pick p3)), .val (.int nn), .val (.ref b322), .unset, .unset, .unset] [(.ref b337)]) := fun t kk => c343 t (st344.trans kk)
        have Str344 : own_str Z T344.heap b337 ([(nar .char (own_pick p0)), (nar .char (own_pick p1)), (nar .char (own_pick p2)), (nar .char (own_pick p3))] : List Int32) := ⟨Eq344, Cq344, (by intro c hc; simp only [List.mem_cons, List.not_mem_nil, or_false] at hc; rcases hc with rfl | rfl | rfl | rfl <;> exact (own_ok _).2), t344, kb344, Vq344, Aq344⟩
        have f346 := (Nat.le_trans f341 Kq344.1)
        have f347 := (f340.keep Kq344 (allS gb337 all0))
        have c348 : Goes p e below s₁ (entryFrame m #[(.int p0), (.int p1), (.int p2), (.int p3), (.int p4)] maxLocals) T344 (mkF m 142 #[.val (.int p0), .val (.int p1), .val (.int p2), .val (.int p3), .val (.int p4), .val (.int (own_pick p0)), .val (.int (own_pick p1)), .val (.int (own_pick p2)), .val (.int (own_pick p3)), .val (.int nn), .val (.ref b322), .val (.ref b337), .unset, .unset] [(.ref b337)]) := by
          intro t kk
          refine c345 t ?_
          show Steps p.tables e below (T344.setTop (mkF m 138 #[.val (.int p0), .val (.int p1), .val (.int p2), .val (.int p3), .val (.int p4), .val (.int (own_pick p0)), .val (.int (own_pick p1)), .val (.int (own_pick p2)), .val (.int (own_pick p3)), .val (.int nn), .val (.ref b322), .unset, .unset, .unset] [(.ref b337)])) t
          refine XS.astore X344.here hx rfl (hb hby at_138) rfl rfl (l' := #[.val (.int p0), .val (.int p1), .val (.int p2), .val (.int p3), .val (.int p4), .val (.int (own_pick p0)), .val (.int (own_pick p1)), .val (.int (own_pick p2)), .val (.int (own_pick p3)), .val (.int nn), .val (.ref b322), .val (.ref b337), .unset, .unset]) rfl ?_
          show Steps p.tables e below (T344.setTop (mkF m 140 #[.val (.int p0), .val (.int p1), .val (.int p2), .val (.int p3), .val (.int p4), .val (.int (own_pick p0)), .val (.int (own_pick p1)), .val (.int (own_pick p2)), .val (.int (own_pick p3)), .val (.int nn), .val (.ref b322), .val (.ref b337), .unset, .unset] [])) t
          refine XS.aload X344.here hx rfl (hb hby at_140) rfl rfl ?_
          exact kk
        obtain ⟨_, _, ⟨T349, L349, k349, n349⟩, -, XX349, SS349, gr349, ⟨Lc349, hQ349, l349, y349, z349⟩, st349⟩ := callSS X344 hx (y := (⟨"com/example/sequence_dispenser/sequencedispenser/core/SequenceName", "of", "(Ljava/lang/String;)Lcom/example/sequence_dispenser/sequencedispenser/core/SequenceName;"⟩ : MethodName)) hown (mvT hZ (hw _ (List.mem_of_getElem? (i := 35) rfl))) (mvT hZ (hw _ (List.mem_of_getElem? (i := 36) rfl))) (mvT hZ (hw _ (List.mem_of_getElem? (i := 37) rfl))) (mvT hZ (hw _ (List.mem_of_getElem? (i := 38) rfl))) (by decide) (backOfS (W := 0) (rm_of l Z a0 hw [] b337 ([(nar .char (own_pick p0)), (nar .char (own_pick p1)), (nar .char (own_pick p2)), (nar .char (own_pick p3))] : List Int32) z fm T344.heap n0 f346 f347 S2 hz S4 hfm Str344 (by intro c hc; simp only [List.mem_cons, List.not_mem_nil, or_false] at hc; rcases hc with rfl | rfl | rfl | rfl <;> exact (own_ok _).1) (Nat.le_of_ble_eq_true rfl) (Nat.le_of_ble_eq_true rfl)) hZ (hw _ (List.mem_of_getElem? (i := 38) rfl)) (hw _ (List.mem_of_getElem? (i := 37) rfl)) (by decide) (by decide)) (g := (mkF m 142 #[.val (.int p0), .val (.int p1), .val (.int p2), .val (.int p3), .val (.int p4), .val (.int (own_pick p0)), .val (.int (own_pick p1)), .val (.int (own_pick p2)), .val (.int (own_pick p3)), .val (.int nn), .val (.ref b322), .val (.ref b337), .unset, .unset] [(.ref b337)])) rfl (by rw [hml]; rfl) (argsL := [(.ref b337)]) (rest := []) (lenOf pd__Ljava_lang_String__Lcom_example_sequence_dispenser_sequencedispenser_core_SequenceName_ rfl) rfl (by show 2 * 0 + _ ≤ _; exact Nat.le_of_eq rfl) (hb hby at_142) (fun _ _ => ⟨rfl, rfl, (by decide : 3 + 3 ≤ _), (by decide : 12 + 21 ≤ _)⟩)
        have f350 := (Nat.le_trans (Nat.le_trans (Nat.le_trans (Nat.le_trans (Nat.le_trans (Nat.le_trans (Nat.le_trans (Nat.zero_le _) E322.1) (Keep.of_wr W325).1) (Keep.of_wr W328).1) (Keep.of_wr W331).1) (Keep.of_wr W334).1) E337.1) Kq344.1)
        obtain ⟨X349, S349, hZ349, ho349⟩ := rebS SW0 f350 XX349 SS349 gr349 hZ hown
        dsimp only [Pt.U, Pt.locs, Pt.cells, Pt.slots] at S349 hZ349 ho349 X349 l349 y349 z349 st349 hQ349
        subst l349 y349 z349
        obtain ⟨b349, rfl, Nq349, Kq349, Eq349, Fq349⟩ := hQ349
        have N349 := Fr.app N344 Nq349
        have c351 : Goes p e below s₁ (entryFrame m #[(.int p0), (.int p1), (.int p2), (.int p3), (.int p4)] maxLocals) T349 (mkF m 145 #[.val (.int p0), .val (.int p1), .val (.int p2), .val (.int p3), .val (.int p4), .val (.int (own_pick p0)), .val (.int (own_pick p1)), .val (.int (own_pick p2)), .val (.int (own_pick p3)), .val (.int nn), .val (.ref b322), .val (.ref b337), .unset, .unset] [(.ref b349)]) := fun t kk => c348 t (st349.trans kk)
        have Sk349 := own_skeep Str344 Kq349
        have f352 := (Nat.le_trans f346 Kq349.1)
        have c353 : Goes p e below s₁ (entryFrame m #[(.int p0), (.int p1), (.int p2), (.int p3), (.int p4)] maxLocals) T349 (mkF m 149 #[.val (.int p0), .val (.int p1), .val (.int p2), .val (.int p3), .val (.int p4), .val (.int (own_pick p0)), .val (.int (own_pick p1)), .val (.int (own_pick p2)), .val (.int (own_pick p3)), .val (.int nn), .val (.ref b322), .val (.ref b337), .val (.ref b349), .unset] [(.ref b349)]) := by
          intro t kk
          refine c351 t ?_
          show Steps p.tables e below (T349.setTop (mkF m 145 #[.val (.int p0), .val (.int p1), .val (.int p2), .val (.int p3), .val (.int p4), .val (.int (own_pick p0)), .val (.int (own_pick p1)), .val (.int (own_pick p2)), .val (.int (own_pick p3)), .val (.int nn), .val (.ref b322), .val (.ref b337), .unset, .unset] [(.ref b349)])) t
          refine XS.astore X349.here hx rfl (hb hby at_145) rfl rfl (l' := #[.val (.int p0), .val (.int p1), .val (.int p2), .val (.int p3), .val (.int p4), .val (.int (own_pick p0)), .val (.int (own_pick p1)), .val (.int (own_pick p2)), .val (.int (own_pick p3)), .val (.int nn), .val (.ref b322), .val (.ref b337), .val (.ref b349), .unset]) rfl ?_
          show Steps p.tables e below (T349.setTop (mkF m 147 #[.val (.int p0), .val (.int p1), .val (.int p2), .val (.int p3), .val (.int p4), .val (.int (own_pick p0)), .val (.int (own_pick p1)), .val (.int (own_pick p2)), .val (.int (own_pick p3)), .val (.int nn), .val (.ref b322), .val (.ref b337), .val (.ref b349), .unset] [])) t
          refine XS.aload X349.here hx rfl (hb hby at_147) rfl rfl ?_
          exact kk
        obtain ⟨cq354, kq354, q354a, q354b, q354c⟩ := isOf hZ349 rfl Eq349
        obtain ⟨_, _, ⟨T354, L354, k354, n354⟩, -, X354, ⟨Lc354, hQ354, l354, y354, z354⟩, st354⟩ := X349.virtualBack hx (y := (⟨"com/example/sequence_dispenser/sequencedispenser/core/SequenceName", "getText", "()Ljava/lang/String;"⟩ : MethodName)) (z := (⟨"com/example/sequence_dispenser/sequencedispenser/core/SequenceName", "getText", "()Ljava/lang/String;"⟩ : MethodName)) ho349 (mvT hZ349 (hw _ (List.mem_of_getElem? (i := 94) rfl))) (mvT hZ349 (hw _ (List.mem_of_getElem? (i := 95) rfl))) (notFace_of_selects (args := #[]) (mvT hZ349 (hw _ (List.mem_of_getElem? (i := 97) rfl)))) (mvT hZ349 (hw _ (List.mem_of_getElem? (i := 97) rfl))) (mvT hZ349 (hw _ (List.mem_of_getElem? (i := 96) rfl))) (by decide) (backOf (W := 0) (rm_gt l Z a0 hw [] b349 b337 T349.heap n0 f352 Fq349) hZ349 (hw _ (List.mem_of_getElem? (i := 98) rfl)) (hw _ (List.mem_of_getElem? (i := 37) rfl)) (by decide) (by decide)) q354a q354c (g := (mkF m 149 #[.val (.int p0), .val (.int p1), .val (.int p2), .val (.int p3), .val (.int p4), .val (.int (own_pick p0)), .val (.int (own_pick p1)), .val (.int (own_pick p2)), .val (.int (own_pick p3)), .val (.int nn), .val (.ref b322), .val (.ref b337), .val (.ref b349), .unset] [(.ref b349)])) rfl (by rw [hml]; rfl) (Steps.refl _) (argsL := []) (rest := []) (lenOf pd___Ljava_lang_String_ rfl) rfl (by show 2 * 0 + _ ≤ _; exact Nat.le_of_eq rfl) (hb hby at_149) (fun _ _ => ⟨rfl, rfl, (by decide : 6 + 0 ≤ _), (by decide : 33 + 0 ≤ _)⟩)
        dsimp only [Pt.U, Pt.locs, Pt.cells, Pt.slots] at X354 l354 y354 z354 st354 hQ354
        subst l354 y354 z354
        obtain ⟨rfl, Nq354, eq354⟩ := hQ354
        have N354 := Fr.app N349 Nq354
        have c355 : Goes p e below s₁ (entryFrame m #[(.int p0), (.int p1), (.int p2), (.int p3), (.int p4)] maxLocals) T354 (mkF m 152 #[.val (.int p0), .val (.int p1), .val (.int p2), .val (.int p3), .val (.int p4), .val (.int (own_pick p0)), .val (.int (own_pick p1)), .val (.int (own_pick p2)), .val (.int (own_pick p3)), .val (.int nn), .val (.ref b322), .val (.ref b337), .val (.ref b349), .unset] [(.ref b337)]) := fun t kk => c353 t (st354.trans kk)
        have f356 := (f347.keep Kq349 all0)
        obtain ⟨sE357, sC357, sp357, st357_t, kb357, sV357, sK357⟩ := id Sk349
        have c358 : Goes p e below s₁ (entryFrame m #[(.int p0), (.int p1), (.int p2), (.int p3), (.int p4)] maxLocals) T354 (mkF m 156 #[.val (.int p0), .val (.int p1), .val (.int p2), .val (.int p3), .val (.int p4), .val (.int (own_pick p0)), .val (.int (own_pick p1)), .val (.int (own_pick p2)), .val (.int (own_pick p3)), .val (.int nn), .val (.ref b322), .val (.ref b337), .val (.ref b349), .val (.ref b337)] [(.ref b337)]) := by
          intro t kk
          refine c355 t ?_
          show Steps p.tables e below (T354.setTop (mkF m 152 #[.val (.int p0), .val (.int p1), .val (.int p2), .val (.int p3), .val (.int p4), .val (.int (own_pick p0)), .val (.int (own_pick p1)), .val (.int (own_pick p2)), .val (.int (own_pick p3)), .val (.int nn), .val (.ref b322), .val (.ref b337), .val (.ref b349), .unset] [(.ref b337)])) t
          refine XS.astore X354.here hx rfl (hb hby at_152) rfl rfl (l' := #[.val (.int p0), .val (.int p1), .val (.int p2), .val (.int p3), .val (.int p4), .val (.int (own_pick p0)), .val (.int (own_pick p1)), .val (.int (own_pick p2)), .val (.int (own_pick p3)), .val (.int nn), .val (.ref b322), .val (.ref b337), .val (.ref b349), .val (.ref b337)]) rfl ?_
          show Steps p.tables e below (T354.setTop (mkF m 154 #[.val (.int p0), .val (.int p1), .val (.int p2), .val (.int p3), .val (.int p4), .val (.int (own_pick p0)), .val (.int (own_pick p1)), .val (.int (own_pick p2)), .val (.int (own_pick p3)), .val (.int nn), .val (.ref b322), .val (.ref b337), .val (.ref b349), .val (.ref b337)] [])) t
          refine XS.aload X354.here hx rfl (hb hby at_154) rfl rfl ?_
          exact kk
        obtain ⟨cq359, kq359, q359a, q359b, q359c⟩ := isOf hZ349 eq354 sE357
        obtain ⟨_, _, ⟨T359, L359, k359, n359⟩, -, X359, ⟨Lc359, hQ359, l359, y359, z359⟩, st359⟩ := X354.virtualBack hx (y := (⟨"java/lang/String", "length", "()I"⟩ : MethodName)) (z := (⟨"java/lang/String", "length", "()I"⟩ : MethodName)) ho349 (mvT hZ349 (hw _ (List.mem_of_getElem? (i := 99) rfl))) (mvT hZ349 (hw _ (List.mem_of_getElem? (i := 47) rfl))) (notFace_of_selects (args := #[]) (mvT hZ349 (hw _ (List.mem_of_getElem? (i := 49) rfl)))) (mvT hZ349 (hw _ (List.mem_of_getElem? (i := 49) rfl))) (mvT hZ349 (hw _ (List.mem_of_getElem? (i := 48) rfl))) (by decide) (StrChars.Road.lenW (W := 0) hZ349 (own_wlen hw) (kI := 4) (hw _ (List.mem_of_getElem? (i := 7) rfl)) sE357 sV357 sC357 sK357 (StrChars.Road.codOf rfl (fun c hc => (sp357 c hc).2)) (own_up sp357) (S2.ext f356.2) hz (Nat.le_of_ble_eq_true rfl) (by decide) (by decide)) q359a q359c (g := (mkF m 156 #[.val (.int p0), .val (.int p1), .val (.int p2), .val (.int p3), .val (.int p4), .val (.int (own_pick p0)), .val (.int (own_pick p1)), .val (.int (own_pick p2)), .val (.int (own_pick p3)), .val (.int nn), .val (.ref b322), .val (.ref b337), .val (.ref b349), .val (.ref b337)] [(.ref b337)])) rfl (by rw [hml]; rfl) (Steps.refl _) (argsL := []) (rest := []) (lenOf pd___I rfl) rfl (by show 2 * 0 + _ ≤ _; exact Nat.le_of_eq rfl) (hb hby at_156) (fun _ _ => ⟨rfl, eq354, (by decide : 6 + 0 ≤ _), (by decide : 33 + 0 ≤ _)⟩)
        dsimp only [Pt.U, Pt.locs, Pt.cells, Pt.slots] at X359 l359 y359 z359 st359 hQ359
        subst l359 y359 z359
        obtain ⟨rfl, hL359, eq359⟩ := hQ359
        have Nq359 : Fr n0 Lc359 := hL359 ▸ Fr.nil n0
        have N359 := Fr.app N354 Nq359
        have c360 : Goes p e below s₁ (entryFrame m #[(.int p0), (.int p1), (.int p2), (.int p3), (.int p4)] maxLocals) T359 (mkF m 159 #[.val (.int p0), .val (.int p1), .val (.int p2), .val (.int p3), .val (.int p4), .val (.int (own_pick p0)), .val (.int (own_pick p1)), .val (.int (own_pick p2)), .val (.int (own_pick p3)), .val (.int nn), .val (.ref b322), .val (.ref b337), .val (.ref b349), .val (.ref b337)] [(.int (Int32.ofNat (([(nar .char (own_pick p0)), (nar .char (own_pick p1)), (nar .char (own_pick p2)), (nar .char (own_pick p3))] : List Int32)).length))]) := fun t kk => c358 t (st359.trans kk)
        have f361 := (Eq344.keep Kq349)
        have c362 : Goes p e below s₁ (entryFrame m #[(.int p0), (.int p1), (.int p2), (.int p3), (.int p4)] maxLocals) T359 (mkF m 168 #[.val (.int p0), .val (.int p1), .val (.int p2), .val (.int p3), .val (.int p4), .val (.int (own_pick p0)), .val (.int (own_pick p1)), .val (.int (own_pick p2)), .val (.int (own_pick p3)), .val (.int nn), .val (.ref b322), .val (.ref b337), .val (.ref b349), .val (.ref b337)] [(.ref b337), (.ref b337)]) := by
          intro t kk
          refine c360 t ?_
          show Steps p.tables e below (T359.setTop (mkF m 159 #[.val (.int p0), .val (.int p1), .val (.int p2), .val (.int p3), .val (.int p4), .val (.int (own_pick p0)), .val (.int (own_pick p1)), .val (.int (own_pick p2)), .val (.int (own_pick p3)), .val (.int nn), .val (.ref b322), .val (.ref b337), .val (.ref b349), .val (.ref b337)] [(.int (Int32.ofNat (([(nar .char (own_pick p0)), (nar .char (own_pick p1)), (nar .char (own_pick p2)), (nar .char (own_pick p3))] : List Int32)).length))])) t
          refine XS.iload X359.here hx rfl (hb hby at_159) rfl ?_
          show Steps p.tables e below (T359.setTop (mkF m 161 #[.val (.int p0), .val (.int p1), .val (.int p2), .val (.int p3), .val (.int p4), .val (.int (own_pick p0)), .val (.int (own_pick p1)), .val (.int (own_pick p2)), .val (.int (own_pick p3)), .val (.int nn), .val (.ref b322), .val (.ref b337), .val (.ref b349), .val (.ref b337)] [(.int nn), (.int (Int32.ofNat (([(nar .char (own_pick p0)), (nar .char (own_pick p1)), (nar .char (own_pick p2)), (nar .char (own_pick p3))] : List Int32)).length))])) t
          refine XS.icmpNo X359.here hx rfl (hb hby at_161) rfl (teq (show Int32.ofNat 4 = nn from (own_n4 h_nn h35 h54 h78).symm)).2 ?_
          show Steps p.tables e below (T359.setTop (mkF m 164 #[.val (.int p0), .val (.int p1), .val (.int p2), .val (.int p3), .val (.int p4), .val (.int (own_pick p0)), .val (.int (own_pick p1)), .val (.int (own_pick p2)), .val (.int (own_pick p3)), .val (.int nn), .val (.ref b322), .val (.ref b337), .val (.ref b349), .val (.ref b337)] [])) t
          refine XS.aload X359.here hx rfl (hb hby at_164) rfl rfl ?_
          show Steps p.tables e below (T359.setTop (mkF m 166 #[.val (.int p0), .val (.int p1), .val (.int p2), .val (.int p3), .val (.int p4), .val (.int (own_pick p0)), .val (.int (own_pick p1)), .val (.int (own_pick p2)), .val (.int (own_pick p3)), .val (.int nn), .val (.ref b322), .val (.ref b337), .val (.ref b349), .val (.ref b337)] [(.ref b337)])) t
          refine XS.aload X359.here hx rfl (hb hby at_166) rfl rfl ?_
          exact kk
        obtain ⟨cq363, kq363, q363a, q363b, q363c⟩ := isOf hZ349 eq359 f361
        obtain ⟨_, _, ⟨T363, L363, k363, n363⟩, -, X363, ⟨Lc363, hQ363, l363, y363, z363⟩, st363⟩ := X359.virtualBack hx (y := (⟨"java/lang/String", "equals", "(Ljava/lang/Object;)Z"⟩ : MethodName)) (z := (⟨"java/lang/String", "equals", "(Ljava/lang/Object;)Z"⟩ : MethodName)) ho349 (mvT hZ349 (hw _ (List.mem_of_getElem? (i := 100) rfl))) (mvT hZ349 (hw _ (List.mem_of_getElem? (i := 101) rfl))) (notFace_of_selects (args := #[]) (mvT hZ349 (hw _ (List.mem_of_getElem? (i := 103) rfl)))) (mvT hZ349 (hw _ (List.mem_of_getElem? (i := 103) rfl))) (mvT hZ349 (hw _ (List.mem_of_getElem? (i := 102) rfl))) (by decide) (backOf (W := 0) (rm_eqs l Z a0 hw [] b337 T349.heap n0 f352) hZ349 (hw _ (List.mem_of_getElem? (i := 104) rfl)) (hw _ (List.mem_of_getElem? (i := 8) rfl)) (by decide) (by decide)) q363a q363c (g := (mkF m 168 #[.val (.int p0), .val (.int p1), .val (.int p2), .val (.int p3), .val (.int p4), .val (.int (own_pick p0)), .val (.int (own_pick p1)), .val (.int (own_pick p2)), .val (.int (own_pick p3)), .val (.int nn), .val (.ref b322), .val (.ref b337), .val (.ref b349), .val (.ref b337)] [(.ref b337), (.ref b337)])) rfl (by rw [hml]; rfl) (Steps.refl _) (argsL := [(.ref b337)]) (rest := []) (lenOf pd__Ljava_lang_Object__Z rfl) rfl (by show 2 * 0 + _ ≤ _; exact Nat.le_of_eq rfl) (hb hby at_168) (fun _ _ => ⟨rfl, eq359, (by decide : 6 + 0 ≤ _), (by decide : 33 + 0 ≤ _)⟩)
        dsimp only [Pt.U, Pt.locs, Pt.cells, Pt.slots] at X363 l363 y363 z363 st363 hQ363
        subst l363 y363 z363
        obtain ⟨rfl, Nq363, eq363⟩ := hQ363
        have N363 := Fr.app N359 Nq363
        have c364 : Goes p e below s₁ (entryFrame m #[(.int p0), (.int p1), (.int p2), (.int p3), (.int p4)] maxLocals) T363 (mkF m 171 #[.val (.int p0), .val (.int p1), .val (.int p2), .val (.int p3), .val (.int p4), .val (.int (own_pick p0)), .val (.int (own_pick p1)), .val (.int (own_pick p2)), .val (.int (own_pick p3)), .val (.int nn), .val (.ref b322), .val (.ref b337), .val (.ref b349), .val (.ref b337)] [(.int (1 : Int32))]) := fun t kk => c362 t (st363.trans kk)
        have c365 : Goes p e below s₁ (entryFrame m #[(.int p0), (.int p1), (.int p2), (.int p3), (.int p4)] maxLocals) T363 (mkF m 179 #[.val (.int p0), .val (.int p1), .val (.int p2), .val (.int p3), .val (.int p4), .val (.int (own_pick p0)), .val (.int (own_pick p1)), .val (.int (own_pick p2)), .val (.int (own_pick p3)), .val (.int nn), .val (.ref b322), .val (.ref b337), .val (.ref b349), .val (.ref b337)] [(.int (1 : Int32))]) := by
          intro t kk
          refine c364 t ?_
          show Steps p.tables e below (T363.setTop (mkF m 171 #[.val (.int p0), .val (.int p1), .val (.int p2), .val (.int p3), .val (.int p4), .val (.int (own_pick p0)), .val (.int (own_pick p1)), .val (.int (own_pick p2)), .val (.int (own_pick p3)), .val (.int nn), .val (.ref b322), .val (.ref b337), .val (.ref b349), .val (.ref b337)] [(.int (1 : Int32))])) t
          refine XS.ifNo X363.here hx rfl (hb hby at_171) rfl ((if0 _ _).trans (feq (by decide : ¬ ((1 : Int32) = (0 : Int32)))).1) ?_
          show Steps p.tables e below (T363.setTop (mkF m 174 #[.val (.int p0), .val (.int p1), .val (.int p2), .val (.int p3), .val (.int p4), .val (.int (own_pick p0)), .val (.int (own_pick p1)), .val (.int (own_pick p2)), .val (.int (own_pick p3)), .val (.int nn), .val (.ref b322), .val (.ref b337), .val (.ref b349), .val (.ref b337)] [])) t
          refine XS.iconst X363.here hx rfl (hb hby at_174) ?_
          show Steps p.tables e below (T363.setTop (mkF m 175 #[.val (.int p0), .val (.int p1), .val (.int p2), .val (.int p3), .val (.int p4), .val (.int (own_pick p0)), .val (.int (own_pick p1)), .val (.int (own_pick p2)), .val (.int (own_pick p3)), .val (.int nn), .val (.ref b322), .val (.ref b337), .val (.ref b349), .val (.ref b337)] [(.int (1 : Int32))])) t
          refine XS.goto X363.here hx rfl (pc0 := 175) (pc' := 179) rfl (hb hby at_175) (by decide) (by decide) ?_
          exact kk
        obtain ⟨fs, hr, hrun, hended, hRW⟩ := X363.leaveW S349 (by rw [eq363]; exact (Nat.le_refl _)) (v := some (.int (1 : Int32))) (fun h => by rw [Bd.returns] at h; cases h)
        refine ⟨_, _, c365 _ ?_, hrun, hended, _, _, rfl, ?_, hRW.1, hRW.2.1, hRW.2.2.1, hRW.2.2.2.mono (by decide) (by decide)⟩
        · exact retN X363 hx (t := .boolean) Bd.returns (by simp) (hb hby at_179) hr
        · show Q_law Z p0 p1 p2 p3 p4 z fm h0 n0 _ T363.heap _
          rw [eq363]
          exact ⟨rfl, N363⟩

theorem own_nz {s : State} {args : Array Value} {t : Term} {z : Int32} (ht : t.eval args s none [] s = some (.int z)) (h : (Cond.not (Cond.eq t (.int 0))).value args s none s [] = some true) : ¬ z = 0 := by
  have e2 : (Term.int 0).eval args s none [] s = some (.int 0) := Term.int_eval 0
  have hq : (Cond.eq t (.int 0)).value args s none s [] = some (decide (z = 0)) := by simp [Cond.value, ht, e2]
  exact gotF hq (not_v h)

set_option maxRecDepth 65536 in
set_option maxHeartbeats 40000000 in
theorem comes_1 {Post : Tables → Env → Array Value → State → Outcome → State → Prop} (hpost : ∀ tb e args s v u, (limb_1_1.after args s (.returned v) u = true ∧ limb_1_2.after args s (.returned v) u = true ∧ True) → ReturnedEndW s (.returned v) u (Jvm.fieldLocs frame_1_writes args s ++ Jvm.arrayLocs frame_1_arrays args s ++ Jvm.staticLocs frame_1_statics s) 24 1152 → Post tb e args s (.returned v) u) :
    ArmFor flags0 classFile x code maxLocals ret World_1 tables_1 room_1 Calls_1 rest_1 Pre_1 Post := by
  intro l hfl _ _ p e ha hc hk s m args below hf hA hF happ hP
  obtain ⟨hcalls, hrest, hpre⟩ := hP
  obtain ⟨-, -, -, hnamed, -, -, -, hat⟩ := (Spec.applies_iff hf).mp happ
  obtain ⟨hg, hn⟩ := and_e (Cond.before_iff.mp (show (Jvm.Cond.and given_1 narrow_1).before args s = true from hpre))
  obtain ⟨gg1, gg2⟩ := and_e hg
  obtain ⟨gg3, gg4⟩ := and_e gg2
  obtain ⟨gg5, gg6⟩ := and_e gg4
  obtain ⟨gg7, gg8⟩ := and_e gg6
  obtain ⟨gg9, gg10⟩ := and_e gg8
  obtain ⟨w0, w1, w2, w3, w4, rfl⟩ : ∃ w0 w1 w2 w3 w4 : Value, args = #[w0, w1, w2, w3, w4] := by
    have hs : args.size = 5 := by simpa [Cond.value, given_1] using gg1
    obtain ⟨L⟩ := args
    match L, hs with
    | [w0, w1, w2, w3, w4], _ => exact ⟨w0, w1, w2, w3, w4, rfl⟩
  have hw := fun d (hd : d ∈ tables_1) => atoms_spec (ws := Jvm.Cond.code x code maxLocals ret :: tables_1) hat d (List.mem_cons_of_mem _ hd)
  have hfit : Fit s := fun {y c} hc i hi => by
    obtain ⟨ha, rfl⟩ := Array.getElem?_eq_some_iff.mp hc
    have q := List.all_eq_true.mp ((Array.all_eq_true_iff_forall_mem.mp hF) _ (Array.getElem_mem ha)) i (List.mem_range.mpr hi)
    simpa [Array.getElem?_eq_getElem hi] using q
  obtain ⟨hsets, hown0⟩ := atoms_of _ (rest_1_c_eq ▸ (show rest_1_c.before _ s = true from hrest))
  have hr0 := Cond.before_iff.mp hown0
  obtain ⟨i0, ei0⟩ := is_v gg3
  obtain rfl : w0 = (.int i0) := Option.some.inj ei0
  obtain ⟨i1, ei1⟩ := is_v gg5
  obtain rfl : w1 = (.int i1) := Option.some.inj ei1
  obtain ⟨i2, ei2⟩ := is_v gg7
  obtain rfl : w2 = (.int i2) := Option.some.inj ei2
  obtain ⟨i3, ei3⟩ := is_v gg9
  obtain rfl : w3 = (.int i3) := Option.some.inj ei3
  obtain ⟨i4, ei4⟩ := is_v gg10
  obtain rfl : w4 = (.int i4) := Option.some.inj ei4
  obtain ⟨z, vz⟩ := is_v (Cond.before_iff.mp (hsets _ (List.mem_of_getElem? (i := 1) rfl)))
  have S2 := Sta.start vz (Or.inl (hsets _ (List.mem_of_getElem? (i := 0) rfl)))
  have hz : ¬ z = 0 := own_nz vz (Cond.before_iff.mp (hsets _ (List.mem_of_getElem? (i := 2) rfl)))
  obtain ⟨fm, vf, hfm⟩ := isR_v (Cond.before_iff.mp (hsets _ (List.mem_of_getElem? (i := 8) rfl)))
  have S4 := Sta.start vf (Or.inl (hsets _ (List.mem_of_getElem? (i := 7) rfl)))
  obtain ⟨n, o, h1, h2, h3, _, L, rfl, ⟨rfl, N⟩, hq⟩ := rm_law l s _ hw tables_1 i0 i1 i2 i3 i4 z fm s.heap s.heap.size (Nat.le_refl _) (Old.start s) S2 hz S4 hfm p e ha hc hk s m _ below hf ((Spec.applies_iff_loose hf).mp happ).1 ⟨rfl, State.Warmed39.refl s, rfl⟩ trivial
  refine ⟨n, _, h1, h2, h3, hpost _ _ _ _ _ _ ⟨Cond.after_iff.mpr rfl, Cond.after_iff.mpr (eq_i res_at (Term.int_eval (1)) rfl), trivial⟩ ⟨hq.1, hq.2.1, hq.2.2.1, (hq.2.2.2.sift fun y hy => Or.inr (N y hy)).mono (by decide) (by decide)⟩⟩
theorem main_1_1 : Claimed_1_1 := comes_1 fun _ _ _ _ _ _ h hF => ⟨h.1, hF⟩
theorem main_1_2 : Claimed_1_2 := comes_1 fun _ _ _ _ _ _ h hF => ⟨h.2.1, hF⟩
end Jvm.Pilot.@@N@@
namespace Jvm.Pilot.@@N@@
open Jvm Jvm.ClassFile Sem Op Lib Jvm.Free Jvm.Stand Jvm.Pilot.@@N@@.Jvm.D
/-! MADE BY PROGRAM (witnessworld.py) out of the Statement's table words and the real class files: 21 classes; the members and pool entries that the words name. The judged class is class 1, her method 2. -/
namespace start1
open Jvm.ClassFile
def u (s : String) : CpInfo := .utf8 (stringToUtf16 s)
/-- a pool by its gaps: so many unusable entries, then the entry; so many at the end -/
def gap : Nat → List CpInfo → List CpInfo
  | 0, r => r
  | n + 1, r => .unusable :: gap n r
def poolList (es : List (Nat × CpInfo)) (last : Nat) : List CpInfo := es.foldr (fun e r => gap e.1 (e.2 :: r)) (gap last [])
def pool (es : List (Nat × CpInfo)) (last : Nat) : Array CpInfo := ⟨poolList es last⟩
def fileOf (pool : Array CpInfo) (this : Nat) (attrs : Array Attribute := #[]) (ms : Array MethodInfo := #[]) (fl : Nat := 33) (sup : Nat := 0) (ifs : Array Nat := #[]) (fds : Array FieldInfo := #[]) : ClassFile where
  minorVersion := 0
  majorVersion := 65
  constantPool := pool
  accessFlags := fl
  thisClass := this
  superClass := sup
  interfaces := ifs
  fields := fds
  methods := ms
  attributes := attrs
def plain (name : String) (sup : Option ClassId) : Class where
  name := name
  kind := .ordinary
  loader := none
  accessFlags := 33
  super := sup
  interfaces := #[]
  cf := none
  fields := #[]
  methods := #[]
  instanceTypes := #[]
  staticTypes := #[]
  resolved := #[]
  callSites := []
  init := .initialized
  statics := none
  mirror := none

def pool0 : Array CpInfo := pool [(5, u "<init>"), (0, u "()V"), (1, .class_ 10), (1, u "java/lang/Object")] 113

def k0c0 : Code := { maxStack := 0, maxLocals := 1, code := object_method_1_code, exceptionTable := #[], attributes := #[] }
def k0m0 : Method := { name := "<init>", desc := "()V", sig := { parameters := [], returnType := none }, accessFlags := 1, code := some k0c0 }
/-- java/lang/Object -/
def k0 : Class := { plain "java/lang/Object" none with
  accessFlags := 33
  interfaces := #[]
  cf := some (fileOf pool0 8 #[] #[{ accessFlags := 1, nameIndex := 5, descriptorIndex := 6, attributes := #[] }] 33 0 #[] #[])
  fields := #[]
  methods := #[k0m0]
  instanceTypes := #[]
  staticTypes := #[]
  resolved := Array.replicate 124 none
  statics := none }

def pool1 : Array CpInfo := pool [(2, .class_ 4), (1, u "java/lang/Object"), (0, u "<init>"), (0, u "()V"), (0, .integer 2147483647), (0, .methodref 9 10), (0, .class_ 11), (0, .nameAndType 12 13), (0, u "com/example/sequence_dispenser/sequencedispenser/core/SequenceNameOfPinLaw"), (0, u "pick"), (0, u "(I)C"), (0, .class_ 15), (0, u "java/lang/String"), (0, .methodref 14 17), (0, .nameAndType 5 18), (0, u "([C)V"), (0, .methodref 20 21), (0, .class_ 22), (0, .nameAndType 23 24), (0, u "com/example/sequence_dispenser/sequencedispenser/core/SequenceName"), (0, u "of"), (0, u "(Ljava/lang/String;)Lcom/example/sequence_dispenser/sequencedispenser/core/SequenceName;"), (0, .methodref 20 26), (0, .nameAndType 27 28), (0, u "getText"), (0, u "()Ljava/lang/String;"), (0, .methodref 14 30), (0, .nameAndType 31 32), (0, u "length"), (0, u "()I"), (0, .methodref 14 34), (0, .nameAndType 35 36), (0, u "equals"), (0, u "(Ljava/lang/Object;)Z"), (3, u "law"), (0, u "(IIIII)Z")] 4

def k1m0 : Method := { name := "<init>", desc := "()V", sig := { parameters := [], returnType := none }, accessFlags := 1, code := none }
def k1c1 : Code := { maxStack := 3, maxLocals := 2, code := method_2_code, exceptionTable := #[], attributes := #[] }
def k1m1 : Method := { name := "pick", desc := "(I)C", sig := { parameters := [.int], returnType := some .char }, accessFlags := 10, code := some k1c1 }
def k1c2 : Code := { maxStack := 4, maxLocals := 14, code := code, exceptionTable := #[], attributes := #[] }
def k1m2 : Method := { name := "law", desc := "(IIIII)Z", sig := { parameters := [.int, .int, .int, .int, .int], returnType := some .boolean }, accessFlags := 9, code := some k1c2 }
/-- com/example/sequence_dispenser/sequencedispenser/core/SequenceNameOfPinLaw -/
def k1 : Class := { plain "com/example/sequence_dispenser/sequencedispenser/core/SequenceNameOfPinLaw" (some 0) with
  accessFlags := 49
  interfaces := #[]
  cf := some (fileOf pool1 9 #[] #[{ accessFlags := 1, nameIndex := 5, descriptorIndex := 6, attributes := #[] }, { accessFlags := 10, nameIndex := 12, descriptorIndex := 13, attributes := #[] }, { accessFlags := 9, nameIndex := 40, descriptorIndex := 41, attributes := #[] }] 49 2 #[] #[])
  fields := #[]
  methods := #[k1m0, k1m1, k1m2]
  instanceTypes := #[]
  staticTypes := #[]
  resolved := Array.replicate 46 none
  statics := none }

def pool2 : Array CpInfo := pool [(1, .class_ 2), (0, u "java/io/Serializable"), (0, .class_ 4), (0, u "java/lang/Object")] 2

/-- java/io/Serializable -/
def k2 : Class := { plain "java/io/Serializable" (some 0) with
  accessFlags := 1537
  interfaces := #[]
  cf := some (fileOf pool2 1 #[] #[] 1537 3 #[] #[])
  fields := #[]
  methods := #[]
  instanceTypes := #[]
  staticTypes := #[]
  resolved := Array.replicate 7 none
  statics := none }

def pool3 : Array CpInfo := pool [(1, .class_ 2), (0, u "java/lang/Comparable"), (0, .class_ 4), (0, u "java/lang/Object")] 7

/-- java/lang/Comparable -/
def k3 : Class := { plain "java/lang/Comparable" (some 0) with
  accessFlags := 1537
  interfaces := #[]
  cf := some (fileOf pool3 1 #[] #[] 1537 3 #[] #[])
  fields := #[]
  methods := #[]
  instanceTypes := #[]
  staticTypes := #[]
  resolved := Array.replicate 12 none
  statics := none }

def pool4 : Array CpInfo := pool [(2, .class_ 4), (1, u "java/lang/CharSequence"), (42, .class_ 48), (0, u "java/lang/CharSequence$1CodePointIterator"), (10, .class_ 60), (0, u "java/lang/CharSequence$1CharIterator"), (5, .class_ 67), (0, u "java/lang/Object")] 63

/-- java/lang/CharSequence -/
def k4 : Class := { plain "java/lang/CharSequence" (some 0) with
  accessFlags := 1537
  interfaces := #[]
  cf := some (fileOf pool4 2 #[.nestMembers #[47, 59]] #[] 1537 66 #[] #[])
  fields := #[]
  methods := #[]
  instanceTypes := #[]
  staticTypes := #[]
  resolved := Array.replicate 131 none
  statics := none }

def pool5 : Array CpInfo := pool [(1, .class_ 2), (0, u "java/lang/constant/Constable"), (0, .class_ 4), (0, u "java/lang/Object")] 6

/-- java/lang/constant/Constable -/
def k5 : Class := { plain "java/lang/constant/Constable" (some 0) with
  accessFlags := 1537
  interfaces := #[]
  cf := some (fileOf pool5 1 #[] #[] 1537 3 #[] #[])
  fields := #[]
  methods := #[]
  instanceTypes := #[]
  staticTypes := #[]
  resolved := Array.replicate 11 none
  statics := none }

def pool6 : Array CpInfo := pool [(1, .class_ 2), (0, u "java/lang/constant/ConstantDesc"), (0, .class_ 4), (0, u "java/lang/Object")] 32

/-- java/lang/constant/ConstantDesc -/
def k6 : Class := { plain "java/lang/constant/ConstantDesc" (some 0) with
  accessFlags := 1537
  interfaces := #[]
  cf := some (fileOf pool6 1 #[] #[] 1537 3 #[] #[])
  fields := #[]
  methods := #[]
  instanceTypes := #[]
  staticTypes := #[]
  resolved := Array.replicate 37 none
  statics := none }

def pool7 : Array CpInfo := pool [(1, .methodref 2 3), (0, .class_ 4), (0, .nameAndType 5 6), (0, u "java/lang/Object"), (0, u "<init>"), (0, u "()V"), (2, .fieldref 10 11), (0, .class_ 12), (0, .nameAndType 13 14), (0, u "java/lang/String"), (0, u "value"), (0, u "[B"), (0, .fieldref 10 16), (0, .nameAndType 17 18), (0, u "coder"), (0, u "B"), (2, u "hash"), (0, u "I"), (2, u "hashIsZero"), (0, u "Z"), (0, .methodref 10 28), (0, .nameAndType 5 29), (0, u "([CIILjava/lang/Void;)V"), (8, .fieldref 10 39), (0, .nameAndType 40 26), (0, u "COMPACT_STRINGS"), (1, .class_ 44), (1, u "java/lang/StringUTF16"), (0, u "compress"), (1, .methodref 42 48), (0, .nameAndType 49 50), (0, u "coderFromArrayLen"), (0, u "([BI)B"), (56, .class_ 109), (1, u "java/lang/StringLatin1"), (32, u "()Z"), (34, .methodref 42 178), (0, .nameAndType 45 179), (0, u "([CII)[B"), (154, u "()I"), (0, .methodref 10 336), (0, .nameAndType 17 337), (0, u "()B"), (25, u "([BI)C"), (27, u "(II)V"), (35, u "(I)C"), (64, .methodref 10 493), (0, .nameAndType 494 142), (0, u "isLatin1"), (0, .methodref 107 496), (0, .nameAndType 497 363), (0, u "charAt"), (3, u "checkIndex"), (5, u "length"), (35, u "equals"), (29, u "(Ljava/lang/Object;)Z"), (1, .class_ 576), (0, u "java/lang/CharSequence"), (22, u "CASE_INSENSITIVE_ORDER"), (0, u "Ljava/util/Comparator;"), (91, u "isEmpty"), (317, u "([C)V"), (42, .fieldref 1054 1055), (0, .class_ 1056), (0, .nameAndType 1057 1058), (0, u "jdk/internal/util/Preconditions"), (0, u "SIOOBE_FORMATTER"), (0, u "Ljava/util/function/BiFunction;"), (0, .methodref 1054 1060), (0, .nameAndType 501 1061), (0, u "(IILjava/util/function/BiFunction;)I"), (39, u "serialPersistentFields"), (0, u "[Ljava/io/ObjectStreamField;"), (0, .class_ 1104), (0, u "java/lang/String$CaseInsensitiveComparator"), (1, .class_ 1107), (0, u "java/io/Serializable"), (0, .class_ 1109), (0, u "java/lang/Comparable"), (0, .class_ 1111), (0, u "java/lang/constant/Constable"), (0, .class_ 1113), (0, u "java/lang/constant/ConstantDesc"), (2, u "serialVersionUID"), (0, u "J"), (3, u "REPL"), (0, u "C"), (2, u "LATIN1"), (1, u "UTF16")] 323

def k7m0 : Method := { name := "<init>", desc := "()V", sig := { parameters := [], returnType := none }, accessFlags := 1, code := none }
def k7c1 : Code := { maxStack := 5, maxLocals := 2, code := jdk_42_method_3_code, exceptionTable := #[], attributes := #[] }
def k7m1 : Method := { name := "<init>", desc := "([C)V", sig := { parameters := [(.array .char)], returnType := none }, accessFlags := 1, code := some k7c1 }
def k7c2 : Code := { maxStack := 2, maxLocals := 1, code := jdk_42_method_54_code, exceptionTable := #[], attributes := #[] }
def k7m2 : Method := { name := "length", desc := "()I", sig := { parameters := [], returnType := some .int }, accessFlags := 1, code := some k7c2 }
def k7c3 : Code := { maxStack := 1, maxLocals := 1, code := jdk_42_method_55_code, exceptionTable := #[], attributes := #[] }
def k7m3 : Method := { name := "isEmpty", desc := "()Z", sig := { parameters := [], returnType := some .boolean }, accessFlags := 1, code := some k7c3 }
def k7c4 : Code := { maxStack := 2, maxLocals := 2, code := jdk_42_method_56_code, exceptionTable := #[], attributes := #[] }
def k7m4 : Method := { name := "charAt", desc := "(I)C", sig := { parameters := [.int], returnType := some .char }, accessFlags := 1, code := some k7c4 }
def k7c5 : Code := { maxStack := 2, maxLocals := 3, code := jdk_42_method_66_code, exceptionTable := #[], attributes := #[] }
def k7m5 : Method := { name := "equals", desc := "(Ljava/lang/Object;)Z", sig := { parameters := [(.object "java/lang/Object")], returnType := some .boolean }, accessFlags := 1, code := some k7c5 }
def k7c6 : Code := { maxStack := 4, maxLocals := 6, code := jdk_42_method_149_code, exceptionTable := #[], attributes := #[] }
def k7m6 : Method := { name := "<init>", desc := "([CIILjava/lang/Void;)V", sig := { parameters := [(.array .char), .int, .int, (.object "java/lang/Void")], returnType := none }, accessFlags := 2, code := some k7c6 }
def k7c7 : Code := { maxStack := 1, maxLocals := 1, code := jdk_42_method_152_code, exceptionTable := #[], attributes := #[] }
def k7m7 : Method := { name := "coder", desc := "()B", sig := { parameters := [], returnType := some .byte }, accessFlags := 0, code := some k7c7 }
def k7c8 : Code := { maxStack := 1, maxLocals := 1, code := jdk_42_method_154_code, exceptionTable := #[], attributes := #[] }
def k7m8 : Method := { name := "isLatin1", desc := "()Z", sig := { parameters := [], returnType := some .boolean }, accessFlags := 0, code := some k7c8 }
def k7c9 : Code := { maxStack := 3, maxLocals := 2, code := jdk_42_method_155_code, exceptionTable := #[], attributes := #[] }
def k7m9 : Method := { name := "checkIndex", desc := "(II)V", sig := { parameters := [.int, .int], returnType := none }, accessFlags := 8, code := some k7c9 }
/-- java/lang/String -/
def k7 : Class := { plain "java/lang/String" (some 0) with
  accessFlags := 49
  interfaces := #[2, 3, 4, 5, 6]
  cf := some (fileOf pool7 10 #[.nestMembers #[1103]] #[{ accessFlags := 1, nameIndex := 5, descriptorIndex := 6, attributes := #[] }, { accessFlags := 1, nameIndex := 5, descriptorIndex := 1010, attributes := #[] }, { accessFlags := 1, nameIndex := 507, descriptorIndex := 334, attributes := #[] }, { accessFlags := 1, nameIndex := 692, descriptorIndex := 142, attributes := #[] }, { accessFlags := 1, nameIndex := 497, descriptorIndex := 427, attributes := #[] }, { accessFlags := 1, nameIndex := 543, descriptorIndex := 573, attributes := #[] }, { accessFlags := 2, nameIndex := 5, descriptorIndex := 29, attributes := #[] }, { accessFlags := 0, nameIndex := 17, descriptorIndex := 337, attributes := #[] }, { accessFlags := 0, nameIndex := 494, descriptorIndex := 142, attributes := #[] }, { accessFlags := 8, nameIndex := 501, descriptorIndex := 391, attributes := #[] }] 49 2 #[1106, 1108, 575, 1110, 1112] #[{ accessFlags := 18, nameIndex := 13, descriptorIndex := 14, attributes := #[] }, { accessFlags := 18, nameIndex := 17, descriptorIndex := 18, attributes := #[] }, { accessFlags := 2, nameIndex := 21, descriptorIndex := 22, attributes := #[] }, { accessFlags := 2, nameIndex := 25, descriptorIndex := 26, attributes := #[] }, { accessFlags := 26, nameIndex := 1116, descriptorIndex := 1117, attributes := #[] }, { accessFlags := 24, nameIndex := 40, descriptorIndex := 26, attributes := #[] }, { accessFlags := 26, nameIndex := 1101, descriptorIndex := 1102, attributes := #[] }, { accessFlags := 26, nameIndex := 1121, descriptorIndex := 1122, attributes := #[] }, { accessFlags := 25, nameIndex := 599, descriptorIndex := 600, attributes := #[] }, { accessFlags := 24, nameIndex := 1125, descriptorIndex := 18, attributes := #[] }, { accessFlags := 24, nameIndex := 1127, descriptorIndex := 18, attributes := #[] }])
  fields := #[{ name := "value", type := (.array .byte), accessFlags := 18, slot := 0, constantValue := 0 }, { name := "coder", type := .byte, accessFlags := 18, slot := 1, constantValue := 0 }, { name := "hash", type := .int, accessFlags := 2, slot := 2, constantValue := 0 }, { name := "hashIsZero", type := .boolean, accessFlags := 2, slot := 3, constantValue := 0 }, { name := "serialVersionUID", type := .long, accessFlags := 26, slot := 0, constantValue := 0 }, { name := "COMPACT_STRINGS", type := .boolean, accessFlags := 24, slot := 1, constantValue := 0 }, { name := "serialPersistentFields", type := (.array (.object "java/io/ObjectStreamField")), accessFlags := 26, slot := 2, constantValue := 0 }, { name := "REPL", type := .char, accessFlags := 26, slot := 3, constantValue := 0 }, { name := "CASE_INSENSITIVE_ORDER", type := (.object "java/util/Comparator"), accessFlags := 25, slot := 4, constantValue := 0 }, { name := "LATIN1", type := .byte, accessFlags := 24, slot := 5, constantValue := 0 }, { name := "UTF16", type := .byte, accessFlags := 24, slot := 6, constantValue := 0 }]
  methods := #[k7m0, k7m1, k7m2, k7m3, k7m4, k7m5, k7m6, k7m7, k7m8, k7m9]
  instanceTypes := #[(.array .byte), .byte, .int, .boolean]
  staticTypes := #[.long, .boolean, (.array (.object "java/io/ObjectStreamField")), .char, (.object "java/util/Comparator"), .byte, .byte]
  resolved := Array.replicate 1451 none
  statics := some 0 }

def pool8 : Array CpInfo := pool [(6, .class_ 8), (1, u "java/lang/Object"), (0, u "<init>"), (0, u "()V"), (1, .class_ 14), (1, u "java/lang/StringUTF16"), (31, u "$assertionsDisabled"), (0, u "Z"), (13, u "HI_BYTE_SHIFT"), (0, u "I"), (2, u "LO_BYTE_SHIFT"), (49, .methodref 12 116), (0, .nameAndType 117 118), (0, u "compress"), (0, u "([CI[BII)I"), (3, u "([CII)[B"), (138, u "coderFromArrayLen"), (0, u "([BI)B"), (106, .class_ 371), (1, u "java/lang/StringUTF16$LinesSpliterator"), (58, u "MAX_LENGTH"), (196, .class_ 628), (0, u "java/lang/StringUTF16$CodePointsSpliterator"), (0, .class_ 630), (0, u "java/lang/StringUTF16$CharsSpliterator")] 4

def k8m0 : Method := { name := "<init>", desc := "()V", sig := { parameters := [], returnType := none }, accessFlags := 0, code := none }
def k8c1 : Code := { maxStack := 2, maxLocals := 2, code := jdk_52_method_15_code, exceptionTable := #[], attributes := #[] }
def k8m1 : Method := { name := "coderFromArrayLen", desc := "([BI)B", sig := { parameters := [(.array .byte), .int], returnType := some .byte }, accessFlags := 8, code := some k8c1 }
def k8c2 : Code := { maxStack := 5, maxLocals := 6, code := jdk_52_method_16_code, exceptionTable := #[], attributes := #[] }
def k8m2 : Method := { name := "compress", desc := "([CII)[B", sig := { parameters := [(.array .char), .int, .int], returnType := some (.array .byte) }, accessFlags := 9, code := some k8c2 }
def k8c3 : Code := { maxStack := 3, maxLocals := 7, code := jdk_52_method_21_code, exceptionTable := #[], attributes := #[] }
def k8m3 : Method := { name := "compress", desc := "([CI[BII)I", sig := { parameters := [(.array .char), .int, (.array .byte), .int, .int], returnType := some .int }, accessFlags := 9, code := some k8c3 }
/-- java/lang/StringUTF16 -/
def k8 : Class := { plain "java/lang/StringUTF16" (some 0) with
  accessFlags := 48
  interfaces := #[]
  cf := some (fileOf pool8 12 #[.nestMembers #[627, 629, 369]] #[{ accessFlags := 0, nameIndex := 9, descriptorIndex := 10, attributes := #[] }, { accessFlags := 8, nameIndex := 261, descriptorIndex := 262, attributes := #[] }, { accessFlags := 9, nameIndex := 117, descriptorIndex := 122, attributes := #[] }, { accessFlags := 9, nameIndex := 117, descriptorIndex := 118, attributes := #[] }] 48 6 #[] #[{ accessFlags := 26, nameIndex := 61, descriptorIndex := 62, attributes := #[] }, { accessFlags := 26, nameIndex := 65, descriptorIndex := 62, attributes := #[] }, { accessFlags := 24, nameIndex := 430, descriptorIndex := 62, attributes := #[] }, { accessFlags := 4120, nameIndex := 46, descriptorIndex := 47, attributes := #[] }])
  fields := #[{ name := "HI_BYTE_SHIFT", type := .int, accessFlags := 26, slot := 0, constantValue := 0 }, { name := "LO_BYTE_SHIFT", type := .int, accessFlags := 26, slot := 1, constantValue := 0 }, { name := "MAX_LENGTH", type := .int, accessFlags := 24, slot := 2, constantValue := 0 }, { name := "$assertionsDisabled", type := .boolean, accessFlags := 4120, slot := 3, constantValue := 0 }]
  methods := #[k8m0, k8m1, k8m2, k8m3]
  instanceTypes := #[]
  staticTypes := #[.int, .int, .int, .boolean]
  resolved := Array.replicate 635 none
  statics := none }

def pool9 : Array CpInfo := pool [(1, .methodref 2 3), (0, .class_ 4), (0, .nameAndType 5 6), (0, u "java/lang/Object"), (0, u "<init>"), (0, u "()V"), (0, .fieldref 8 9), (0, .class_ 10), (0, .nameAndType 11 12), (0, u "com/example/sequence_dispenser/sequencedispenser/core/SequenceName"), (0, u "text"), (0, u "Ljava/lang/String;"), (0, .string 11), (0, .methodref 15 16), (0, .class_ 17), (0, .nameAndType 18 19), (0, u "java/util/Objects"), (0, u "requireNonNull"), (0, u "(Ljava/lang/Object;Ljava/lang/String;)Ljava/lang/Object;"), (0, .methodref 21 22), (0, .class_ 23), (0, .nameAndType 24 25), (0, u "java/lang/String"), (0, u "length"), (0, u "()I"), (0, .methodref 21 27), (0, .nameAndType 28 29), (0, u "charAt"), (0, u "(I)C"), (0, .methodref 8 31), (0, .nameAndType 32 33), (0, u "isAllowed"), (0, u "(C)Z"), (19, .nameAndType 5 54), (0, u "(Ljava/lang/String;)V"), (0, .methodref 21 56), (0, .nameAndType 57 58), (0, u "isEmpty"), (0, u "()Z"), (4, .methodref 8 53), (7, u "MAX_LENGTH"), (0, u "I"), (4, u "of"), (0, u "(Ljava/lang/String;)Lcom/example/sequence_dispenser/sequencedispenser/core/SequenceName;"), (1, u "getText"), (0, u "()Ljava/lang/String;")] 18

def k9c0 : Code := { maxStack := 2, maxLocals := 2, code := prog_14_method_1_code, exceptionTable := #[], attributes := #[] }
def k9m0 : Method := { name := "<init>", desc := "(Ljava/lang/String;)V", sig := { parameters := [(.object "java/lang/String")], returnType := none }, accessFlags := 2, code := some k9c0 }
def k9c1 : Code := { maxStack := 8, maxLocals := 3, code := prog_14_method_2_code, exceptionTable := #[], attributes := #[] }
def k9m1 : Method := { name := "of", desc := "(Ljava/lang/String;)Lcom/example/sequence_dispenser/sequencedispenser/core/SequenceName;", sig := { parameters := [(.object "java/lang/String")], returnType := some (.object "com/example/sequence_dispenser/sequencedispenser/core/SequenceName") }, accessFlags := 9, code := some k9c1 }
def k9c2 : Code := { maxStack := 2, maxLocals := 1, code := prog_14_method_3_code, exceptionTable := #[], attributes := #[] }
def k9m2 : Method := { name := "isAllowed", desc := "(C)Z", sig := { parameters := [.char], returnType := some .boolean }, accessFlags := 10, code := some k9c2 }
def k9c3 : Code := { maxStack := 1, maxLocals := 1, code := prog_14_method_4_code, exceptionTable := #[], attributes := #[] }
def k9m3 : Method := { name := "getText", desc := "()Ljava/lang/String;", sig := { parameters := [], returnType := some (.object "java/lang/String") }, accessFlags := 1, code := some k9c3 }
/-- com/example/sequence_dispenser/sequencedispenser/core/SequenceName -/
def k9 : Class := { plain "com/example/sequence_dispenser/sequencedispenser/core/SequenceName" (some 0) with
  accessFlags := 33
  interfaces := #[]
  cf := some (fileOf pool9 8 #[] #[{ accessFlags := 2, nameIndex := 5, descriptorIndex := 54, attributes := #[] }, { accessFlags := 9, nameIndex := 77, descriptorIndex := 78, attributes := #[] }, { accessFlags := 10, nameIndex := 32, descriptorIndex := 33, attributes := #[] }, { accessFlags := 1, nameIndex := 80, descriptorIndex := 81, attributes := #[] }] 33 2 #[] #[{ accessFlags := 25, nameIndex := 71, descriptorIndex := 72, attributes := #[] }, { accessFlags := 18, nameIndex := 11, descriptorIndex := 12, attributes := #[] }])
  fields := #[{ name := "MAX_LENGTH", type := .int, accessFlags := 25, slot := 0, constantValue := 0 }, { name := "text", type := (.object "java/lang/String"), accessFlags := 18, slot := 0, constantValue := 0 }]
  methods := #[k9m0, k9m1, k9m2, k9m3]
  instanceTypes := #[(.object "java/lang/String")]
  staticTypes := #[.int]
  resolved := Array.replicate 100 none
  statics := none }

def pool10 : Array CpInfo := pool [(2, .class_ 4), (1, u "java/lang/Object"), (0, u "<init>"), (0, u "()V"), (35, .class_ 44), (1, u "java/util/Objects"), (0, u "requireNonNull"), (48, u "(Ljava/lang/Object;Ljava/lang/String;)Ljava/lang/Object;")] 89

def k10m0 : Method := { name := "<init>", desc := "()V", sig := { parameters := [], returnType := none }, accessFlags := 2, code := none }
def k10c1 : Code := { maxStack := 3, maxLocals := 2, code := jdk_31_method_11_code, exceptionTable := #[], attributes := #[] }
def k10m1 : Method := { name := "requireNonNull", desc := "(Ljava/lang/Object;Ljava/lang/String;)Ljava/lang/Object;", sig := { parameters := [(.object "java/lang/Object"), (.object "java/lang/String")], returnType := some (.object "java/lang/Object") }, accessFlags := 9, code := some k10c1 }
/-- java/util/Objects -/
def k10 : Class := { plain "java/util/Objects" (some 0) with
  accessFlags := 49
  interfaces := #[]
  cf := some (fileOf pool10 42 #[] #[{ accessFlags := 2, nameIndex := 5, descriptorIndex := 6, attributes := #[] }, { accessFlags := 9, nameIndex := 45, descriptorIndex := 94, attributes := #[] }] 49 2 #[] #[])
  fields := #[]
  methods := #[k10m0, k10m1]
  instanceTypes := #[]
  staticTypes := #[]
  resolved := Array.replicate 184 none
  statics := none }

def pool11 : Array CpInfo := pool [(1, .class_ 2), (0, u "java/lang/String"), (1, .class_ 6), (1, u "java/lang/Object"), (0, u "<init>"), (0, u "()V"), (0, .methodref 1 10), (0, .nameAndType 11 12), (0, u "checkIndex"), (0, u "(II)V"), (1, .class_ 16), (1, u "java/lang/StringLatin1"), (36, u "([BI)C"), (67, u "$assertionsDisabled"), (0, u "Z"), (98, .class_ 223), (1, u "java/lang/StringLatin1$LinesSpliterator"), (28, u "charAt"), (137, .class_ 391), (0, u "java/lang/StringLatin1$CharsSpliterator")] 3

def k11m0 : Method := { name := "<init>", desc := "()V", sig := { parameters := [], returnType := none }, accessFlags := 0, code := none }
def k11c1 : Code := { maxStack := 2, maxLocals := 2, code := jdk_43_method_2_code, exceptionTable := #[], attributes := #[] }
def k11m1 : Method := { name := "charAt", desc := "([BI)C", sig := { parameters := [(.array .byte), .int], returnType := some .char }, accessFlags := 9, code := some k11c1 }
/-- java/lang/StringLatin1 -/
def k11 : Class := { plain "java/lang/StringLatin1" (some 0) with
  accessFlags := 48
  interfaces := #[]
  cf := some (fileOf pool11 14 #[.nestMembers #[390, 221]] #[{ accessFlags := 0, nameIndex := 7, descriptorIndex := 8, attributes := #[] }, { accessFlags := 9, nameIndex := 252, descriptorIndex := 53, attributes := #[] }] 48 4 #[] #[{ accessFlags := 4120, nameIndex := 121, descriptorIndex := 122, attributes := #[] }])
  fields := #[{ name := "$assertionsDisabled", type := .boolean, accessFlags := 4120, slot := 0, constantValue := 0 }]
  methods := #[k11m0, k11m1]
  instanceTypes := #[]
  staticTypes := #[.boolean]
  resolved := Array.replicate 395 none
  statics := none }

def pool12 : Array CpInfo := pool [(2, .class_ 4), (1, u "java/lang/Object"), (0, u "<init>"), (0, u "()V"), (17, .class_ 26), (1, u "jdk/internal/util/Preconditions"), (6, u "checkIndex"), (21, .class_ 56), (0, u "jdk/internal/util/Preconditions$4"), (57, .class_ 115), (0, u "jdk/internal/util/Preconditions$1"), (7, u "SIOOBE_FORMATTER"), (0, u "Ljava/util/function/BiFunction;"), (0, .class_ 126), (0, u "jdk/internal/util/Preconditions$2"), (3, u "AIOOBE_FORMATTER"), (0, .class_ 132), (0, u "jdk/internal/util/Preconditions$3"), (3, u "IOOBE_FORMATTER"), (41, u "(IILjava/util/function/BiFunction;)I")] 15

def k12m0 : Method := { name := "<init>", desc := "()V", sig := { parameters := [], returnType := none }, accessFlags := 1, code := none }
def k12c1 : Code := { maxStack := 3, maxLocals := 3, code := jdk_41_method_11_code, exceptionTable := #[], attributes := #[] }
def k12m1 : Method := { name := "checkIndex", desc := "(IILjava/util/function/BiFunction;)I", sig := { parameters := [.int, .int, (.object "java/util/function/BiFunction")], returnType := some .int }, accessFlags := 9, code := some k12c1 }
/-- jdk/internal/util/Preconditions -/
def k12 : Class := { plain "jdk/internal/util/Preconditions" (some 0) with
  accessFlags := 33
  interfaces := #[]
  cf := some (fileOf pool12 24 #[.nestMembers #[55, 131, 125, 114]] #[{ accessFlags := 1, nameIndex := 5, descriptorIndex := 6, attributes := #[] }, { accessFlags := 9, nameIndex := 33, descriptorIndex := 178, attributes := #[] }] 33 2 #[] #[{ accessFlags := 25, nameIndex := 123, descriptorIndex := 124, attributes := #[] }, { accessFlags := 25, nameIndex := 130, descriptorIndex := 124, attributes := #[] }, { accessFlags := 25, nameIndex := 136, descriptorIndex := 124, attributes := #[] }])
  fields := #[{ name := "SIOOBE_FORMATTER", type := (.object "java/util/function/BiFunction"), accessFlags := 25, slot := 0, constantValue := 0 }, { name := "AIOOBE_FORMATTER", type := (.object "java/util/function/BiFunction"), accessFlags := 25, slot := 1, constantValue := 0 }, { name := "IOOBE_FORMATTER", type := (.object "java/util/function/BiFunction"), accessFlags := 25, slot := 2, constantValue := 0 }]
  methods := #[k12m0, k12m1]
  instanceTypes := #[]
  staticTypes := #[(.object "java/util/function/BiFunction"), (.object "java/util/function/BiFunction"), (.object "java/util/function/BiFunction")]
  resolved := Array.replicate 194 none
  statics := some 1 }

def pool13 : Array CpInfo := pool [(9, u "<init>"), (6, .class_ 18), (1, u "java/lang/Object"), (0, u "()V"), (1, .class_ 23), (1, u "jdk/internal/util/ArraysSupport"), (0, u "LOG2_ARRAY_LONG_INDEX_SCALE"), (0, u "I"), (2, u "U"), (0, u "Ljdk/internal/misc/Unsafe;"), (8, u "BIG_ENDIAN"), (0, u "Z"), (8, u "LOG2_BYTE_BIT_SIZE"), (4, u "LOG2_ARRAY_INT_INDEX_SCALE"), (54, u "JLA"), (0, u "Ljdk/internal/access/JavaLangAccess;"), (11, u "LOG2_ARRAY_BOOLEAN_INDEX_SCALE"), (9, u "LOG2_ARRAY_BYTE_INDEX_SCALE"), (5, u "LOG2_ARRAY_CHAR_INDEX_SCALE"), (5, u "LOG2_ARRAY_SHORT_INDEX_SCALE"), (18, u "LOG2_ARRAY_FLOAT_INDEX_SCALE"), (24, u "LOG2_ARRAY_DOUBLE_INDEX_SCALE"), (89, u "T_BOOLEAN"), (2, u "T_CHAR"), (1, u "T_FLOAT"), (1, u "T_DOUBLE"), (1, u "T_BYTE"), (1, u "T_SHORT"), (1, u "T_INT"), (1, u "T_LONG"), (1, u "SOFT_MAX_ARRAY_LENGTH")] 83

def k13m0 : Method := { name := "<init>", desc := "()V", sig := { parameters := [], returnType := none }, accessFlags := 2, code := none }
/-- jdk/internal/util/ArraysSupport -/
def k13 : Class := { plain "jdk/internal/util/ArraysSupport" (some 0) with
  accessFlags := 33
  interfaces := #[]
  cf := some (fileOf pool13 21 #[] #[{ accessFlags := 2, nameIndex := 9, descriptorIndex := 19, attributes := #[] }] 33 16 #[] #[{ accessFlags := 24, nameIndex := 28, descriptorIndex := 29, attributes := #[] }, { accessFlags := 26, nameIndex := 38, descriptorIndex := 39, attributes := #[] }, { accessFlags := 25, nameIndex := 121, descriptorIndex := 25, attributes := #[] }, { accessFlags := 25, nameIndex := 131, descriptorIndex := 25, attributes := #[] }, { accessFlags := 25, nameIndex := 137, descriptorIndex := 25, attributes := #[] }, { accessFlags := 25, nameIndex := 143, descriptorIndex := 25, attributes := #[] }, { accessFlags := 25, nameIndex := 53, descriptorIndex := 25, attributes := #[] }, { accessFlags := 25, nameIndex := 24, descriptorIndex := 25, attributes := #[] }, { accessFlags := 25, nameIndex := 162, descriptorIndex := 25, attributes := #[] }, { accessFlags := 25, nameIndex := 187, descriptorIndex := 25, attributes := #[] }, { accessFlags := 26, nameIndex := 48, descriptorIndex := 25, attributes := #[] }, { accessFlags := 25, nameIndex := 277, descriptorIndex := 25, attributes := #[] }, { accessFlags := 25, nameIndex := 280, descriptorIndex := 25, attributes := #[] }, { accessFlags := 25, nameIndex := 282, descriptorIndex := 25, attributes := #[] }, { accessFlags := 25, nameIndex := 284, descriptorIndex := 25, attributes := #[] }, { accessFlags := 25, nameIndex := 286, descriptorIndex := 25, attributes := #[] }, { accessFlags := 25, nameIndex := 288, descriptorIndex := 25, attributes := #[] }, { accessFlags := 25, nameIndex := 290, descriptorIndex := 25, attributes := #[] }, { accessFlags := 25, nameIndex := 292, descriptorIndex := 25, attributes := #[] }, { accessFlags := 26, nameIndex := 108, descriptorIndex := 109, attributes := #[] }, { accessFlags := 25, nameIndex := 294, descriptorIndex := 25, attributes := #[] }])
  fields := #[{ name := "U", type := (.object "jdk/internal/misc/Unsafe"), accessFlags := 24, slot := 0, constantValue := 0 }, { name := "BIG_ENDIAN", type := .boolean, accessFlags := 26, slot := 1, constantValue := 0 }, { name := "LOG2_ARRAY_BOOLEAN_INDEX_SCALE", type := .int, accessFlags := 25, slot := 2, constantValue := 0 }, { name := "LOG2_ARRAY_BYTE_INDEX_SCALE", type := .int, accessFlags := 25, slot := 3, constantValue := 0 }, { name := "LOG2_ARRAY_CHAR_INDEX_SCALE", type := .int, accessFlags := 25, slot := 4, constantValue := 0 }, { name := "LOG2_ARRAY_SHORT_INDEX_SCALE", type := .int, accessFlags := 25, slot := 5, constantValue := 0 }, { name := "LOG2_ARRAY_INT_INDEX_SCALE", type := .int, accessFlags := 25, slot := 6, constantValue := 0 }, { name := "LOG2_ARRAY_LONG_INDEX_SCALE", type := .int, accessFlags := 25, slot := 7, constantValue := 0 }, { name := "LOG2_ARRAY_FLOAT_INDEX_SCALE", type := .int, accessFlags := 25, slot := 8, constantValue := 0 }, { name := "LOG2_ARRAY_DOUBLE_INDEX_SCALE", type := .int, accessFlags := 25, slot := 9, constantValue := 0 }, { name := "LOG2_BYTE_BIT_SIZE", type := .int, accessFlags := 26, slot := 10, constantValue := 0 }, { name := "T_BOOLEAN", type := .int, accessFlags := 25, slot := 11, constantValue := 0 }, { name := "T_CHAR", type := .int, accessFlags := 25, slot := 12, constantValue := 0 }, { name := "T_FLOAT", type := .int, accessFlags := 25, slot := 13, constantValue := 0 }, { name := "T_DOUBLE", type := .int, accessFlags := 25, slot := 14, constantValue := 0 }, { name := "T_BYTE", type := .int, accessFlags := 25, slot := 15, constantValue := 0 }, { name := "T_SHORT", type := .int, accessFlags := 25, slot := 16, constantValue := 0 }, { name := "T_INT", type := .int, accessFlags := 25, slot := 17, constantValue := 0 }, { name := "T_LONG", type := .int, accessFlags := 25, slot := 18, constantValue := 0 }, { name := "JLA", type := (.object "jdk/internal/access/JavaLangAccess"), accessFlags := 26, slot := 19, constantValue := 0 }, { name := "SOFT_MAX_ARRAY_LENGTH", type := .int, accessFlags := 25, slot := 20, constantValue := 0 }]
  methods := #[k13m0]
  instanceTypes := #[]
  staticTypes := #[(.object "jdk/internal/misc/Unsafe"), .boolean, .int, .int, .int, .int, .int, .int, .int, .int, .int, .int, .int, .int, .int, .int, .int, .int, .int, (.object "jdk/internal/access/JavaLangAccess"), .int]
  resolved := Array.replicate 378 none
  statics := none }

def pool14 : Array CpInfo := pool [(1, u "java/lang/Cloneable"), (0, .class_ 1), (0, u "java/lang/Object"), (0, .class_ 3)] 3

/-- java/lang/Cloneable -/
def k14 : Class := { plain "java/lang/Cloneable" (some 0) with
  accessFlags := 1537
  interfaces := #[]
  cf := some (fileOf pool14 2 #[] #[] 1537 4 #[] #[])
  fields := #[]
  methods := #[]
  instanceTypes := #[]
  staticTypes := #[]
  resolved := Array.replicate 8 none
  statics := none }

/-- the primitive byte -/
def k15 : Class := { plain "byte" none with kind := .primitive 'B', accessFlags := 0x411 }
/-- [B -/
def k16 : Class := { plain "[B" (some 0) with kind := .array 15 .byte, interfaces := #[14, 2], accessFlags := 1041 }

/-- the primitive char -/
def k17 : Class := { plain "char" none with kind := .primitive 'C', accessFlags := 0x411 }
/-- [C -/
def k18 : Class := { plain "[C" (some 0) with kind := .array 17 .char, interfaces := #[14, 2], accessFlags := 1041 }

/-- the primitive int -/
def k19 : Class := { plain "int" none with kind := .primitive 'I', accessFlags := 0x411 }
/-- [I -/
def k20 : Class := { plain "[I" (some 0) with kind := .array 19 .int, interfaces := #[14, 2], accessFlags := 1041 }

def heap : Heap := #[{ cls := 7, slots := #[.long 0, .int 1, .null, .int 0, .null, .int 0, .int 0], vm := .statics 7 },
  { cls := 12, slots := #[.null, .null, .null], vm := .statics 12 }]
def classes : Array Class := #[k0, k1, k2, k3, k4, k5, k6, k7, k8, k9, k10, k11, k12, k13, k14, k15, k16, k17, k18, k19, k20]
def interned : List (Array UInt16 × Addr) := []
def slotsUsed : Nat := 10
def theMethod : MethodId := ⟨1, 2⟩
def args0 : Array Value := #[.int 9, .int 4, .int 30, .int 62, .int 2]
def aboutOver (below : List Frame) : State where
  vm := { classes := classes, interned := interned.toArray }
  heap := heap
  slotsUsed := slotsUsed
  threads := #[{ frames := .invoking theMethod args0 :: below }]
def below0 : List Frame := [.native { method := ⟨0, 0⟩, args := #[] }]
def about1 : State := aboutOver below0
def p0 : Program := .bare "" "" ""
def e0 : Env := launch0.env 0 0 0
theorem w_frames : about1.frames = Frame.invoking theMethod args0 :: below0 := rfl
set_option maxRecDepth 65536 in
theorem w_args : argsFit about1.vm theMethod args0 = true := by decide +kernel
set_option maxRecDepth 65536 in
theorem w_heap : heapFits about1 = true := by decide +kernel
set_option maxRecDepth 65536 in
theorem w_runnable : about1.curStatus? = some .runnable := by decide +kernel
set_option maxRecDepth 65536 in
theorem w_alone : about1.alone = true := by decide +kernel
set_option maxRecDepth 65536 in
theorem w_named : about1.methodNamed? x = some theMethod := by decide +kernel
set_option maxRecDepth 65536 in
theorem w_hears : about1.hears theMethod below0 = true := by decide +kernel
set_option maxRecDepth 65536 in
theorem w_ripe : about1.ripe theMethod args0 below0 = true := by decide +kernel
theorem w_running : about1.status = .running := rfl
set_option maxRecDepth 65536 in
theorem w_room : about1.hasRoom e0.platform room_1 = true :=
  launch0.hasRoom_least _ room_1 (by decide +kernel) (by decide +kernel) (by decide +kernel) (by decide +kernel) (by decide +kernel) (by decide +kernel)
theorem allAtoms_all (ts : List Jvm.Cond) (a : Array Jvm.Value) (st : Jvm.State) : (allAtoms ts).before a st = ts.all (fun c => c.before a st) := by
  induction ts with
  | nil => rfl
  | cons c t ih =>
    show (Jvm.Cond.and c (allAtoms t)).before a st = _
    rw [Jvm.Cond.before_and, ih, List.all_cons]
def words1 : List Jvm.Cond := Jvm.Cond.code x code maxLocals ret :: tables_1
/-- a 'code' word, met by the world's own term for the bytes: nothing is compared byte by byte -/
theorem code_word {y : MethodName} {bytes : ByteArray} {mx : Nat} {rt : Option FieldType} {a : Array Value} {s : State} {m : MethodId} {meth : Method} {c : Code} (h1 : s.methodNamed? y = some m) (h2 : s.vm.method? m = some meth) (h3 : meth.code = some c) (h4 : c.code = bytes)
    (h5 : (c.maxLocals == mx && c.exceptionTable.isEmpty && decide (c.maxStack ≤ mostOperands) && decide (meth.sig.returnType = rt) && !meth.locks && decide (parseMethodDescriptor y.desc = some meth.sig)) = true) : (Jvm.Cond.code y bytes mx rt).before a s = true := by
  simp only [Bool.and_eq_true, beq_iff_eq, Bool.not_eq_true', decide_eq_true_eq] at h5
  obtain ⟨⟨⟨⟨⟨g1, g2⟩, g3⟩, g4⟩, g5⟩, g6⟩ := h5
  simp [Cond.before, Cond.holds, Cond.value, h1, h2, h3, h4, g1, g2, g3, g4, g5, g6]
def isCode : Jvm.Cond → Bool
  | .code _ _ _ _ => true
  | _ => false
theorem all_split {L : List Jvm.Cond} {P : Jvm.Cond → Bool} (h1 : L.all (fun c => isCode c || P c) = true) (h2 : ∀ c ∈ L.filter isCode, P c = true) : L.all P = true := by
  refine List.all_eq_true.mpr fun c hc => ?_
  have h := List.all_eq_true.mp h1 c hc
  rcases Bool.eq_false_or_eq_true (isCode c) with hi | hi
  · exact h2 c (List.mem_filter.mpr ⟨hc, hi⟩)
  · simpa [hi] using h
set_option maxRecDepth 65536 in
theorem w_c0 : (Jvm.Cond.code x code maxLocals ret).before args0 about1 = true := code_word (m := ⟨1, 2⟩) (meth := k1m2) (c := k1c2) (by decide +kernel) rfl rfl rfl (by decide +kernel)
set_option maxRecDepth 65536 in
theorem w_c1 : (Jvm.Cond.code ({ cls := "com/example/sequence_dispenser/sequencedispenser/core/SequenceNameOfPinLaw", name := "pick", desc := "(I)C" } : Jvm.MethodName) method_2_code (2 : Nat) (Option.some Jvm.ClassFile.FieldType.char)).before args0 about1 = true := code_word (m := ⟨1, 1⟩) (meth := k1m1) (c := k1c1) (by decide +kernel) rfl rfl rfl (by decide +kernel)
set_option maxRecDepth 65536 in
theorem w_c2 : (Jvm.Cond.code ({ cls := "java/lang/String", name := "<init>", desc := "([C)V" } : Jvm.MethodName) jdk_42_method_3_code (2 : Nat) (Option.none : Option Jvm.ClassFile.FieldType)).before args0 about1 = true := code_word (m := ⟨7, 1⟩) (meth := k7m1) (c := k7c1) (by decide +kernel) rfl rfl rfl (by decide +kernel)
set_option maxRecDepth 65536 in
theorem w_c3 : (Jvm.Cond.code ({ cls := "java/lang/String", name := "<init>", desc := "([CIILjava/lang/Void;)V" } : Jvm.MethodName) jdk_42_method_149_code (6 : Nat) (Option.none : Option Jvm.ClassFile.FieldType)).before args0 about1 = true := code_word (m := ⟨7, 6⟩) (meth := k7m6) (c := k7c6) (by decide +kernel) rfl rfl rfl (by decide +kernel)
set_option maxRecDepth 65536 in
theorem w_c4 : (Jvm.Cond.code ({ cls := "java/lang/Object", name := "<init>", desc := "()V" } : Jvm.MethodName) object_method_1_code (1 : Nat) (Option.none : Option Jvm.ClassFile.FieldType)).before args0 about1 = true := code_word (m := ⟨0, 0⟩) (meth := k0m0) (c := k0c0) (by decide +kernel) rfl rfl rfl (by decide +kernel)
set_option maxRecDepth 65536 in
theorem w_c5 : (Jvm.Cond.code ({ cls := "java/lang/StringUTF16", name := "compress", desc := "([CII)[B" } : Jvm.MethodName) jdk_52_method_16_code (6 : Nat) (Option.some (Jvm.ClassFile.FieldType.array Jvm.ClassFile.FieldType.byte))).before args0 about1 = true := code_word (m := ⟨8, 2⟩) (meth := k8m2) (c := k8c2) (by decide +kernel) rfl rfl rfl (by decide +kernel)
set_option maxRecDepth 65536 in
theorem w_c6 : (Jvm.Cond.code ({ cls := "java/lang/StringUTF16", name := "compress", desc := "([CI[BII)I" } : Jvm.MethodName) jdk_52_method_21_code (7 : Nat) (Option.some Jvm.ClassFile.FieldType.int)).before args0 about1 = true := code_word (m := ⟨8, 3⟩) (meth := k8m3) (c := k8c3) (by decide +kernel) rfl rfl rfl (by decide +kernel)
set_option maxRecDepth 65536 in
theorem w_c7 : (Jvm.Cond.code ({ cls := "java/lang/StringUTF16", name := "coderFromArrayLen", desc := "([BI)B" } : Jvm.MethodName) jdk_52_method_15_code (2 : Nat) (Option.some Jvm.ClassFile.FieldType.byte)).before args0 about1 = true := code_word (m := ⟨8, 1⟩) (meth := k8m1) (c := k8c1) (by decide +kernel) rfl rfl rfl (by decide +kernel)
set_option maxRecDepth 65536 in
theorem w_c8 : (Jvm.Cond.code ({ cls := "com/example/sequence_dispenser/sequencedispenser/core/SequenceName", name := "of", desc := "(Ljava/lang/String;)Lcom/example/sequence_dispenser/sequencedispenser/core/SequenceName;" } : Jvm.MethodName) prog_14_method_2_code (3 : Nat) (Option.some (Jvm.ClassFile.FieldType.object "com/example/sequence_dispenser/sequencedispenser/core/SequenceName"))).before args0 about1 = true := code_word (m := ⟨9, 1⟩) (meth := k9m1) (c := k9c1) (by decide +kernel) rfl rfl rfl (by decide +kernel)
set_option maxRecDepth 65536 in
theorem w_c9 : (Jvm.Cond.code ({ cls := "java/util/Objects", name := "requireNonNull", desc := "(Ljava/lang/Object;Ljava/lang/String;)Ljava/lang/Object;" } : Jvm.MethodName) jdk_31_method_11_code (2 : Nat) (Option.some (Jvm.ClassFile.FieldType.object "java/lang/Object"))).before args0 about1 = true := code_word (m := ⟨10, 1⟩) (meth := k10m1) (c := k10c1) (by decide +kernel) rfl rfl rfl (by decide +kernel)
set_option maxRecDepth 65536 in
theorem w_c10 : (Jvm.Cond.code ({ cls := "java/lang/String", name := "length", desc := "()I" } : Jvm.MethodName) jdk_42_method_54_code (1 : Nat) (Option.some Jvm.ClassFile.FieldType.int)).before args0 about1 = true := code_word (m := ⟨7, 2⟩) (meth := k7m2) (c := k7c2) (by decide +kernel) rfl rfl rfl (by decide +kernel)
set_option maxRecDepth 65536 in
theorem w_c11 : (Jvm.Cond.code ({ cls := "java/lang/String", name := "coder", desc := "()B" } : Jvm.MethodName) jdk_42_method_152_code (1 : Nat) (Option.some Jvm.ClassFile.FieldType.byte)).before args0 about1 = true := code_word (m := ⟨7, 7⟩) (meth := k7m7) (c := k7c7) (by decide +kernel) rfl rfl rfl (by decide +kernel)
set_option maxRecDepth 65536 in
theorem w_c12 : (Jvm.Cond.code ({ cls := "java/lang/String", name := "charAt", desc := "(I)C" } : Jvm.MethodName) jdk_42_method_56_code (2 : Nat) (Option.some Jvm.ClassFile.FieldType.char)).before args0 about1 = true := code_word (m := ⟨7, 4⟩) (meth := k7m4) (c := k7c4) (by decide +kernel) rfl rfl rfl (by decide +kernel)
set_option maxRecDepth 65536 in
theorem w_c13 : (Jvm.Cond.code ({ cls := "java/lang/String", name := "isLatin1", desc := "()Z" } : Jvm.MethodName) jdk_42_method_154_code (1 : Nat) (Option.some Jvm.ClassFile.FieldType.boolean)).before args0 about1 = true := code_word (m := ⟨7, 8⟩) (meth := k7m8) (c := k7c8) (by decide +kernel) rfl rfl rfl (by decide +kernel)
set_option maxRecDepth 65536 in
theorem w_c14 : (Jvm.Cond.code ({ cls := "java/lang/StringLatin1", name := "charAt", desc := "([BI)C" } : Jvm.MethodName) jdk_43_method_2_code (2 : Nat) (Option.some Jvm.ClassFile.FieldType.char)).before args0 about1 = true := code_word (m := ⟨11, 1⟩) (meth := k11m1) (c := k11c1) (by decide +kernel) rfl rfl rfl (by decide +kernel)
set_option maxRecDepth 65536 in
theorem w_c15 : (Jvm.Cond.code ({ cls := "java/lang/String", name := "checkIndex", desc := "(II)V" } : Jvm.MethodName) jdk_42_method_155_code (2 : Nat) (Option.none : Option Jvm.ClassFile.FieldType)).before args0 about1 = true := code_word (m := ⟨7, 9⟩) (meth := k7m9) (c := k7c9) (by decide +kernel) rfl rfl rfl (by decide +kernel)
set_option maxRecDepth 65536 in
theorem w_c16 : (Jvm.Cond.code ({ cls := "jdk/internal/util/Preconditions", name := "checkIndex", desc := "(IILjava/util/function/BiFunction;)I" } : Jvm.MethodName) jdk_41_method_11_code (3 : Nat) (Option.some Jvm.ClassFile.FieldType.int)).before args0 about1 = true := code_word (m := ⟨12, 1⟩) (meth := k12m1) (c := k12c1) (by decide +kernel) rfl rfl rfl (by decide +kernel)
set_option maxRecDepth 65536 in
theorem w_c17 : (Jvm.Cond.code ({ cls := "com/example/sequence_dispenser/sequencedispenser/core/SequenceName", name := "isAllowed", desc := "(C)Z" } : Jvm.MethodName) prog_14_method_3_code (1 : Nat) (Option.some Jvm.ClassFile.FieldType.boolean)).before args0 about1 = true := code_word (m := ⟨9, 2⟩) (meth := k9m2) (c := k9c2) (by decide +kernel) rfl rfl rfl (by decide +kernel)
set_option maxRecDepth 65536 in
theorem w_c18 : (Jvm.Cond.code ({ cls := "java/lang/String", name := "isEmpty", desc := "()Z" } : Jvm.MethodName) jdk_42_method_55_code (1 : Nat) (Option.some Jvm.ClassFile.FieldType.boolean)).before args0 about1 = true := code_word (m := ⟨7, 3⟩) (meth := k7m3) (c := k7c3) (by decide +kernel) rfl rfl rfl (by decide +kernel)
set_option maxRecDepth 65536 in
theorem w_c19 : (Jvm.Cond.code ({ cls := "com/example/sequence_dispenser/sequencedispenser/core/SequenceName", name := "<init>", desc := "(Ljava/lang/String;)V" } : Jvm.MethodName) prog_14_method_1_code (2 : Nat) (Option.none : Option Jvm.ClassFile.FieldType)).before args0 about1 = true := code_word (m := ⟨9, 0⟩) (meth := k9m0) (c := k9c0) (by decide +kernel) rfl rfl rfl (by decide +kernel)
set_option maxRecDepth 65536 in
theorem w_c20 : (Jvm.Cond.code ({ cls := "com/example/sequence_dispenser/sequencedispenser/core/SequenceName", name := "getText", desc := "()Ljava/lang/String;" } : Jvm.MethodName) prog_14_method_4_code (1 : Nat) (Option.some (Jvm.ClassFile.FieldType.object "java/lang/String"))).before args0 about1 = true := code_word (m := ⟨9, 3⟩) (meth := k9m3) (c := k9c3) (by decide +kernel) rfl rfl rfl (by decide +kernel)
set_option maxRecDepth 65536 in
theorem w_c21 : (Jvm.Cond.code ({ cls := "java/lang/String", name := "equals", desc := "(Ljava/lang/Object;)Z" } : Jvm.MethodName) jdk_42_method_66_code (3 : Nat) (Option.some Jvm.ClassFile.FieldType.boolean)).before args0 about1 = true := code_word (m := ⟨7, 5⟩) (meth := k7m5) (c := k7c5) (by decide +kernel) rfl rfl rfl (by decide +kernel)
def codes1 : List Jvm.Cond := [Jvm.Cond.code x code maxLocals ret, Jvm.Cond.code ({ cls := "com/example/sequence_dispenser/sequencedispenser/core/SequenceNameOfPinLaw", name := "pick", desc := "(I)C" } : Jvm.MethodName) method_2_code (2 : Nat) (Option.some Jvm.ClassFile.FieldType.char), Jvm.Cond.code ({ cls := "java/lang/String", name := "<init>", desc := "([C)V" } : Jvm.MethodName) jdk_42_method_3_code (2 : Nat) (Option.none : Option Jvm.ClassFile.FieldType), Jvm.Cond.code ({ cls := "java/lang/String", name := "<init>", desc := "([CIILjava/lang/Void;)V" } : Jvm.MethodName) jdk_42_method_149_code (6 : Nat) (Option.none : Option Jvm.ClassFile.FieldType), Jvm.Cond.code ({ cls := "java/lang/Object", name := "<init>", desc := "()V" } : Jvm.MethodName) object_method_1_code (1 : Nat) (Option.none : Option Jvm.ClassFile.FieldType), Jvm.Cond.code ({ cls := "java/lang/StringUTF16", name := "compress", desc := "([CII)[B" } : Jvm.MethodName) jdk_52_method_16_code (6 : Nat) (Option.some (Jvm.ClassFile.FieldType.array Jvm.ClassFile.FieldType.byte)), Jvm.Cond.code ({ cls := "java/lang/StringUTF16", name := "compress", desc := "([CI[BII)I" } : Jvm.MethodName) jdk_52_method_21_code (7 : Nat) (Option.some Jvm.ClassFile.FieldType.int), Jvm.Cond.code ({ cls := "java/lang/StringUTF16", name := "coderFromArrayLen", desc := "([BI)B" } : Jvm.MethodName) jdk_52_method_15_code (2 : Nat) (Option.some Jvm.ClassFile.FieldType.byte), Jvm.Cond.code ({ cls := "com/example/sequence_dispenser/sequencedispenser/core/SequenceName", name := "of", desc := "(Ljava/lang/String;)Lcom/example/sequence_dispenser/sequencedispenser/core/SequenceName;" } : Jvm.MethodName) prog_14_method_2_code (3 : Nat) (Option.some (Jvm.ClassFile.FieldType.object "com/example/sequence_dispenser/sequencedispenser/core/SequenceName")), Jvm.Cond.code ({ cls := "java/util/Objects", name := "requireNonNull", desc := "(Ljava/lang/Object;Ljava/lang/String;)Ljava/lang/Object;" } : Jvm.MethodName) jdk_31_method_11_code (2 : Nat) (Option.some (Jvm.ClassFile.FieldType.object "java/lang/Object")), Jvm.Cond.code ({ cls := "java/lang/String", name := "length", desc := "()I" } : Jvm.MethodName) jdk_42_method_54_code (1 : Nat) (Option.some Jvm.ClassFile.FieldType.int), Jvm.Cond.code ({ cls := "java/lang/String", name := "coder", desc := "()B" } : Jvm.MethodName) jdk_42_method_152_code (1 : Nat) (Option.some Jvm.ClassFile.FieldType.byte), Jvm.Cond.code ({ cls := "java/lang/String", name := "charAt", desc := "(I)C" } : Jvm.MethodName) jdk_42_method_56_code (2 : Nat) (Option.some Jvm.ClassFile.FieldType.char), Jvm.Cond.code ({ cls := "java/lang/String", name := "isLatin1", desc := "()Z" } : Jvm.MethodName) jdk_42_method_154_code (1 : Nat) (Option.some Jvm.ClassFile.FieldType.boolean), Jvm.Cond.code ({ cls := "java/lang/StringLatin1", name := "charAt", desc := "([BI)C" } : Jvm.MethodName) jdk_43_method_2_code (2 : Nat) (Option.some Jvm.ClassFile.FieldType.char), Jvm.Cond.code ({ cls := "java/lang/String", name := "checkIndex", desc := "(II)V" } : Jvm.MethodName) jdk_42_method_155_code (2 : Nat) (Option.none : Option Jvm.ClassFile.FieldType), Jvm.Cond.code ({ cls := "jdk/internal/util/Preconditions", name := "checkIndex", desc := "(IILjava/util/function/BiFunction;)I" } : Jvm.MethodName) jdk_41_method_11_code (3 : Nat) (Option.some Jvm.ClassFile.FieldType.int), Jvm.Cond.code ({ cls := "com/example/sequence_dispenser/sequencedispenser/core/SequenceName", name := "isAllowed", desc := "(C)Z" } : Jvm.MethodName) prog_14_method_3_code (1 : Nat) (Option.some Jvm.ClassFile.FieldType.boolean), Jvm.Cond.code ({ cls := "java/lang/String", name := "isEmpty", desc := "()Z" } : Jvm.MethodName) jdk_42_method_55_code (1 : Nat) (Option.some Jvm.ClassFile.FieldType.boolean), Jvm.Cond.code ({ cls := "com/example/sequence_dispenser/sequencedispenser/core/SequenceName", name := "<init>", desc := "(Ljava/lang/String;)V" } : Jvm.MethodName) prog_14_method_1_code (2 : Nat) (Option.none : Option Jvm.ClassFile.FieldType), Jvm.Cond.code ({ cls := "com/example/sequence_dispenser/sequencedispenser/core/SequenceName", name := "getText", desc := "()Ljava/lang/String;" } : Jvm.MethodName) prog_14_method_4_code (1 : Nat) (Option.some (Jvm.ClassFile.FieldType.object "java/lang/String")), Jvm.Cond.code ({ cls := "java/lang/String", name := "equals", desc := "(Ljava/lang/Object;)Z" } : Jvm.MethodName) jdk_42_method_66_code (3 : Nat) (Option.some Jvm.ClassFile.FieldType.boolean)]
set_option maxRecDepth 65536 in
theorem codes_eq : words1.filter isCode = codes1 := rfl
theorem w_codes : ∀ c ∈ words1.filter isCode, c.before args0 about1 = true := by
  rw [codes_eq]
  intro c hc
  simp only [codes1, List.mem_cons, List.not_mem_nil, or_false] at hc
  rcases hc with rfl | rfl | rfl | rfl | rfl | rfl | rfl | rfl | rfl | rfl | rfl | rfl | rfl | rfl | rfl | rfl | rfl | rfl | rfl | rfl | rfl | rfl
  · exact w_c0
  · exact w_c1
  · exact w_c2
  · exact w_c3
  · exact w_c4
  · exact w_c5
  · exact w_c6
  · exact w_c7
  · exact w_c8
  · exact w_c9
  · exact w_c10
  · exact w_c11
  · exact w_c12
  · exact w_c13
  · exact w_c14
  · exact w_c15
  · exact w_c16
  · exact w_c17
  · exact w_c18
  · exact w_c19
  · exact w_c20
  · exact w_c21
set_option maxRecDepth 65536 in
theorem w_t1 : (words1.take 24).all (fun c => isCode c || c.before args0 about1) = true := by decide +kernel
set_option maxRecDepth 65536 in
theorem w_t2 : ((words1.drop 24).take 24).all (fun c => isCode c || c.before args0 about1) = true := by decide +kernel
set_option maxRecDepth 65536 in
theorem w_t3 : (((words1.drop 24).drop 24).take 24).all (fun c => isCode c || c.before args0 about1) = true := by decide +kernel
set_option maxRecDepth 65536 in
theorem w_t4 : ((((words1.drop 24).drop 24).drop 24).take 24).all (fun c => isCode c || c.before args0 about1) = true := by decide +kernel
set_option maxRecDepth 65536 in
theorem w_t5 : ((((words1.drop 24).drop 24).drop 24).drop 24).all (fun c => isCode c || c.before args0 about1) = true := by decide +kernel
theorem w_tables : (allAtoms (Jvm.Cond.code x code maxLocals ret :: tables_1)).before args0 about1 = true := by
  rw [allAtoms_all]
  show words1.all (fun c => c.before args0 about1) = true
  refine all_split ?_ w_codes
  rw [← List.take_append_drop 24 words1, List.all_append, w_t1, ← List.take_append_drop 24 (words1.drop 24), List.all_append, w_t2, ← List.take_append_drop 24 ((words1.drop 24).drop 24), List.all_append, w_t3, ← List.take_append_drop 24 (((words1.drop 24).drop 24).drop 24), List.all_append, w_t4, w_t5]
  rfl
set_option maxRecDepth 65536 in
theorem w_rest : rest_1_c.before args0 about1 = true := by decide +kernel
set_option maxRecDepth 65536 in
theorem w_case : (Jvm.Cond.and given_1 narrow_1).before args0 about1 = true := by decide +kernel
theorem w_applies : (headSpec (Jvm.Cond.code x code maxLocals ret :: tables_1) room_1).applies x e0.platform about1 = true :=
  (Spec.applies_iff w_frames).mpr ⟨w_running, w_runnable, w_alone, w_named, w_hears, w_ripe, w_room, w_tables⟩
theorem atStart : AtStart classFile x code maxLocals ret World_1 tables_1 room_1 Calls_1 rest_1 Pre_1 launch0 p0 e0 about1 theMethod args0 below0 :=
  ⟨lists_1, trivial, launch0.admits_env _ _ _, launch0.least_env, fairChoices_fair.cas, fairChoices_fair.clock, w_frames, w_args, w_heap, w_applies, trivial, w_rest, w_case⟩
end start1
theorem witness_1 : WitnessClaimed_1 := ⟨start1.p0, start1.e0, start1.about1, start1.theMethod, start1.args0, start1.below0, start1.atStart⟩
end Jvm.Pilot.@@N@@
